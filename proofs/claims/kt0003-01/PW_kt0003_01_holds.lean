import PyProof.Rows.All
import Wide.All
import OpenK.AllK
import Wide.FinOn
import KE.KSortAsk
import Lean
import PySem.Challenge.RW_kt0003_01
set_option Elab.async false
set_option linter.unusedVariables false
set_option maxRecDepth 100000
set_option hygiene false
section
open PySem PySem.W PyProof.Rows
namespace Mine
set_option synthInstance.maxSize 1 in
set_option maxHeartbeats 8000000 in
open_top hk for PySem.Challenge.rw_kt0003_01
abbrev PR : Program := PySem.Challenge.rw_kt0003_01.row.prog
noncomputable abbrev KB (P : Params) : Frag := hk.heap_39 P
end Mine
end
section
open PySem PySem.W PyProof.Rows PySem.Calls
namespace Mine
local macro_rules | `(tactic| walk_at "pad") => `(tactic| skip)

theorem enter {w : World} {A : Around} {s : Shared} {base : Heap} {outer : List Env} {R : Result → Shared → Prop} {K : Frag} {p : Program} {loose : List Str} {mean : ExcName → Option Value} {mg mb : Str → Option Value}
    {name qual : Str} {params : Arguments} {body : List Stmt} {scope : Scope} {dV kV doc pm cdv ct oc : Value} {an od : Option Addr} {osl : Array (Option Value)} {f : Addr} {args : Args} {binds : List (Str × Value)}
    (X : K.In s.heap) (T : Top p loose mean mg mb s.heap) (B : Below A base outer s.heap)
    (ho : K.lookup f = some ⟨oc, od, .func (fnOf name qual params body scope dV kV doc pm an cdv ct), osl⟩) (hcd : codeIn K cdv qual = true) (hroom : A.depth < recursionLimit)
    (hbind : BindsTo s (fnOf name qual params body scope dV kV doc pm an cdv ct) args binds) (hloc : ∀ y ∈ binds, scope.names.lookup y.1 = some .local)
    (h : ∀ L' h₁, Fr s.heap L' h₁ (fun y => binds.reverse.lookup y) → News s.heap L' h₁ [] → 
      wpAny (model PR w) (A.deeper (envOf qual scope L' f cdv)) (execs body (envOf qual scope L' f cdv))
        (fun fl s' => R (.ok (.ret (match fl with | .ret v => v | _ => .none))) s')
        (fun e s' => wpAny (model PR w) (A.deeper (envOf qual scope L' f cdv)) (leaving (envOf qual scope L' f cdv) e) (fun _ s'' => R (.error e) s'') (fun e' s'' => R (.error e') s'') s')
        { s with heap := h₁, toks := s.toks + binds.length })
    (hco : scope.isCoroutine = false) (hgen : scope.isGenerator = false) (hk : scope.kind = .function) (hcell : ∀ x ∈ scope.names, x.2 ≠ .cell)
     : codeAny (model PR w) A (.call (.ref f) args) R s := by
  refine codeAny_call_def (fd := fnOf name qual params body scope dV kV doc pm an cdv ct) (body := body) (binds := binds) hroom (X _ _ ho) rfl T.nolimit (codeRec_of X hcd) rfl hbind hcell hloc (fun h₁ hns hk₁ => ?_) hco hgen hk
  exact h _ h₁ ⟨hns, hk₁, Nat.le_refl _⟩ News.nil
end Mine
end
section
open PySem PySem.W PyProof.Rows PySem.Calls
namespace Mine
theorem lookup_of_mem {K : Frag} : ∀ {a : Addr} {o : Obj}, K.lookup a = some o → (a, o) ∈ K := by
  induction K with
  | nil => intro a o h; cases h
  | cons p r ih =>
    intro a o h
    rw [List.lookup_cons] at h
    by_cases e : (a == p.1) = true
    · rw [e] at h
      have e' : a = p.1 := by simpa using e
      subst e'
      have e2 : p.2 = o := by simpa using h
      subst e2
      exact .head _
    · have e' : (a == p.1) = false := by simpa using e
      rw [e'] at h
      exact .tail _ (ih h)
structure Wld (w : World) (h : Heap) : Prop where
  xb : (KB w.params).In h
theorem Wld.kk {w : World} {h : Heap} (W : Wld w h) : (hk.heap_39 w.params).In h := W.xb
theorem Wld.keeps {w : World} {h h' : Heap} (W : Wld w h) (k : ∀ b o, h.get? b = some o → h'.get? b = some o) : Wld w h' := ⟨fun a o e => k _ _ (W.xb _ _ e)⟩
end Mine
end
section
open PySem PySem.W PyProof.Rows PySem.Calls
open Sem (wp)
namespace Mine
local macro_rules | `(tactic| walk_at "pad") => `(tactic| skip)
namespace F
theorem lk_list_contains : typeLookup (.type "list") "__contains__" = pure (some (.builtin "list.__contains__")) := by rw [typeLookup_type, builtinLookup_eq_fast]; kernel_rfl
theorem typeOf_lc : typeOf (.builtin "list.__contains__") = pure (.type "wrapper_descriptor") := by show builtinType _ = _; rw [builtinType_eq_fast]; kernel_rfl
theorem slot_wd_get : Slot "wrapper_descriptor" "__get__" "wrapper_descriptor.__get__" :=
  .of (owner := "wrapper_descriptor") (n := "__get__") (by rw [typeLookup_type, builtinLookup_eq_fast]; kernel_rfl) (by decide +kernel) (by decide +kernel) (by decide +kernel)
    (by first | exact .inl (by decide +kernel) | exact .inr (by decide +kernel)) (by rw [isSubtype_type]; kernel_rfl)
theorem wd_noset : typeLookup (.type "wrapper_descriptor") "__set__" = pure none := by rw [typeLookup_type, builtinLookup_eq_fast]; kernel_rfl
theorem wd_nodel : typeLookup (.type "wrapper_descriptor") "__delete__" = pure none := by rw [typeLookup_type, builtinLookup_eq_fast]; kernel_rfl
theorem list_nogetattr : typeLookup (.type "list") "__getattr__" = pure none := by rw [typeLookup_type, builtinLookup_eq_fast]; kernel_rfl
theorem entry_wd_get : entryFor table "wrapper_descriptor.__get__" = some Builtin.«wrapper_descriptor.__get__» := entryFor_of_tree (by kernel_rfl)
theorem args_wd_get (a b c : Value) : argsOk "wrapper_descriptor.__get__" ⟨[a, b, c], []⟩ := by unfold argsOk; kernel_rfl
theorem owner_lc : (".".intercalate ("list.__contains__".cutAt '.').dropLast) = "list" := by
  have e0 : "list.__contains__".cutAt '.' = ["list", "__contains__"] := by first | rfl | decide +kernel
  rw [e0]; decide +kernel
theorem sub_list_owner : isSubtype (.type "list") (.type (".".intercalate ("list.__contains__".cutAt '.').dropLast)) = pure true := by
  rw [owner_lc, isSubtype_type]; kernel_rfl
end F
section
variable {prog : Program} {w : World} {A : Around} {E : Value → Shared → Prop} {h : Heap} {g : Array GenState} {d : Drawn} {t : Nat} {os : OsState} {a : Addr} {o : Obj}
abbrev bmObj (l : Addr) : Obj := { cls := .type "method-wrapper", data := .fields #[.builtin "list.__contains__", .ref l] }
theorem lc_get {R : Result → Shared → Prop} (hx : h.get? a = some o) (hc : o.cls = .type "list") (hq : R (.ok (.ret (.ref h.objs.size))) ⟨h.push (bmObj a), g, d, t, os⟩) :
    codeAny (model prog w) A (.call (.builtin "wrapper_descriptor.__get__") ⟨[.builtin "list.__contains__", .ref a, .type "list"], []⟩) R ⟨h, g, d, t, os⟩ := by
  have hT : (⟨h, g, d, t, os⟩ : Shared).TypeIs (.ref a) "list" := ⟨_, hx, hc⟩
  have hT5 : (⟨h, g, d, t, os⟩ : Shared).TypeIs (.builtin "list.__contains__") "wrapper_descriptor" := F.typeOf_lc
  have f8 := F.sub_list_owner
  refine codeAny_call_builtin F.slot_wd_get.plain F.entry_wd_get (F.slot_wd_get.check _ _ _ _ _ _ _ _ hT5 (F.args_wd_get _ _ _) ?_)
  repeat (any_goals (first | assumption | wp_step))

theorem lc_entry {tk : Tok} {items : Array Value} {n : Nat} {Q : Fin → Shared → Prop} (hx : h.get? a = some { cls := .type "list", data := .seq items n }) (hq : Q (.done (.ret (.ref h.objs.size))) ⟨h.push (bmObj a), g, d, t, os⟩) :
    wpAny (model prog w) A (Builtin.«object.__getattribute__» ⟨[.ref a, .str "__contains__" tk], []⟩) Q E ⟨h, g, d, t, os⟩ := by
  have hT : (⟨h, g, d, t, os⟩ : Shared).TypeIs (.ref a) "list" := ⟨_, hx, rfl⟩
  have hT5 : (⟨h, g, d, t, os⟩ : Shared).TypeIs (.builtin "list.__contains__") "wrapper_descriptor" := F.typeOf_lc
  have f4 := F.lk_list_contains
  have f5 := F.typeOf_lc
  have f6 := F.slot_wd_get.lookup
  have f7 := F.wd_noset
  have f8 := F.wd_nodel
  repeat (any_goals (first | assumption | wp_step))
  refine lc_get hx rfl ?_
  repeat (any_goals (first | assumption | wp_step))
theorem lc_call {tk : Tok} {items : Array Value} {n : Nat} {R : Result → Shared → Prop} (hx : h.get? a = some { cls := .type "list", data := .seq items n }) (hq : R (.ok (.ret (.ref h.objs.size))) ⟨h.push (bmObj a), g, d, t, os⟩) :
    codeAny (model prog w) A (.call (.builtin "list.__getattribute__") ⟨[.ref a, .str "__contains__" tk], []⟩) R ⟨h, g, d, t, os⟩ :=
  codeAny_call_builtin F.slot_list_getattribute.plain F.entry_list_ga (F.slot_list_getattribute.check _ _ _ _ _ _ _ _ (show (⟨h, g, d, t, os⟩ : Shared).TypeIs (.ref a) "list" from ⟨_, hx, rfl⟩) (F.args_list_getattribute_2 _ _) (lc_entry hx hq))
theorem lc_attr' {items : Array Value} {n : Nat} {Q : Value → Shared → Prop} {ex : Bool} (hx : h.get? a = some { cls := .type "list", data := .seq items n }) (hq : Q (.ref h.objs.size) ⟨h.push (bmObj a), g, d, t + 1, os⟩) : wpAny (model prog w) A (getAttr (.ref a) "__contains__" ex) Q E ⟨h, g, d, t, os⟩ := by
  have hT : (⟨h, g, d, t, os⟩ : Shared).TypeIs (.ref a) "list" := ⟨_, hx, rfl⟩
  have f2 := F.slot_list_getattribute.lookup
  have f3 := F.slot_list_getattribute.bind (.ref a)
  have f4 : (ex && onTheHeap (.builtin "list.__getattribute__")) = false := by cases ex <;> rfl
  repeat (any_goals (first | assumption | wp_step))
  refine lc_call hx ?_
  repeat (any_goals (first | assumption | wp_step))
end
section
variable {prog : Program} {w : World} {A : Around} {E : Value → Shared → Prop} {s : Shared} {h₀ : Heap} {L : Addr} {m : Str → Option Value} {news : List (Addr × Obj)}
theorem lc_attr {a : Addr} {items : Array Value} {n : Nat} {Q : Value → Shared → Prop} {ex : Bool} (hx : s.heap.get? a = some { cls := .type "list", data := .seq items n })
   (hq : Q (.ref s.heap.objs.size) { s with heap := s.heap.push (bmObj a), toks := s.toks + 1 }) : wpAny (model prog w) A (getAttr (.ref a) "__contains__" ex) Q E s := by
  obtain ⟨h, g, d, t, os⟩ := s
  exact lc_attr' hx hq
end
end Mine
end
section
open PySem PySem.W PyProof.Rows PySem.Calls PySem.MeetsSeq PySem.W.X
open Sem (wp)
namespace Mine
abbrev AY (d u : Nat) (outer : List Env) (gd : Option (List Code)) : Around := { handled := none, depth := d, frames := some outer, guards := gd, units := u }
abbrev AX (outer : List Env) (gd : Option (List Code)) : Around := { handled := none, depth := 900, frames := some outer, guards := gd, units := 9000 }
theorem wp_lift {α : Type} {M : Model} {A : Around} {outer : List Env} {d u : Nat} {t : Sem α} {Q : α → Shared → Prop} {E : Value → Shared → Prop} {s : Shared} (hh : A.handled = none) (hf : A.frames = some outer) (hd : A.depth ≤ d) (hu : A.units ≤ u)
  (h : wpAny M (AY d u outer A.guards) t Q E s) : wpAny M A t Q E s := fun Γ p hΓ => h Γ p ⟨hΓ.1.trans hh, Nat.le_trans hΓ.2.1 hd, fun l hl => hΓ.2.2.1 l (hf.trans hl), hΓ.2.2.2.1, Nat.le_trans hΓ.2.2.2.2 hu⟩
theorem code_lift {M : Model} {A : Around} {outer : List Env} {d u : Nat} {c : Code} {R : Result → Shared → Prop} {s : Shared} (hh : A.handled = none) (hf : A.frames = some outer) (hd : A.depth ≤ d) (hu : A.units ≤ u)
  (h : codeAny M (AY d u outer A.guards) c R s) : codeAny M A c R s := fun Γ p hc hΓ => h Γ p hc ⟨hΓ.1.trans hh, Nat.le_trans hΓ.2.1 hd, fun l hl => hΓ.2.2.1 l (hf.trans hl), hΓ.2.2.2.1, Nat.le_trans hΓ.2.2.2.2 hu⟩
abbrev ffObj (li bm dx : Addr) : Obj := ⟨.ref 54, some dx, .plain, #[some (.ref bm), some (.ref li)]⟩
abbrev liObj (l : Addr) (k : Nat) : Obj := ⟨.type "list_iterator", none, .fields #[.ref l, .int k 0], #[]⟩
end Mine
end
section
set_option hygiene false in
local macro_rules | `(tactic| walk_at "yi") => `(tactic| first | exact ix0 | exact ix1 | exact ix2 | exact ix3 | exact ix4 | exact ix5 | exact ix6 | exact ix7 | exact ix8 | exact ix9 | exact ix10 | exact ix11 | exact ix12 | exact ix13 | exact ix14 | exact ix15 | exact ix16 | exact ix17 | exact ix18 | exact ix19 | exact ix20 | exact ix21 | exact ix22 | exact ix23)
set_option hygiene false in
local macro_rules | `(tactic| walk_at "vf") => `(tactic| first
  | exact Mem.atC (by assumption) 0 _ _ (by rfl)
  | exact Mem.old (by assumption) _ _ (by assumption) (by rfl)
  | (refine' Mem.at (by assumption) _ _ _ ?yi; case yi => walk_at "yi"))
set_option hygiene false in
local macro_rules | `(tactic| walk_at "vw") => `(tactic| (refine v_skim 400 ?_; with_unfolding_all conv => (arg 3; whnf)))
set_option hygiene false in
local macro_rules | `(tactic| walk_at "vu") => `(tactic| ((with_reducible refine' w_update ?yD _ ?yi ?yf ?_); (case yD => assumption); (case yi => walk_at "yi"); (case yf => rfl)))
set_option hygiene false in
local macro_rules | `(tactic| walk_at "vl") => `(tactic| first
  | ((with_reducible refine' w_load ?ho ?_); (case ho => walk_at "vf"))
  | with_reducible refine w_fresh ?_
  | (walk_at "vu"; intro h' D'))
set_option hygiene false in
local macro_rules | `(tactic| walk_at "vn") => `(tactic| (walk_at "vw"; walk_at "vl"))
set_option hygiene false in
local macro_rules | `(tactic| walk_at "va") => `(tactic| (walk_at "vw"; (with_reducible refine' w_alloc ?yD ?yf ?_); (case yD => assumption); (case yf => rfl)))
set_option hygiene false in
local macro_rules | `(tactic| walk_at "vk") => `(tactic| (walk_at "vw"; (with_reducible refine' v_call ?hn ?_); (case hn => (intro h; cases h)); refine y_tree ?_))
set_option hygiene false in
local macro_rules | `(tactic| walk_at "yf") => `(tactic| first
  | exact Mem.atC (by assumption) 0 _ _ (by rfl)
  | exact Mem.old (by assumption) _ _ (by assumption) (by rfl)
  | (refine' Mem.at (by assumption) _ _ _ ?yi; case yi => walk_at "yi"))
set_option hygiene false in
local macro_rules | `(tactic| walk_at "yw") => `(tactic| (refine y_skim _ _ _ _ _ _ _ _ _ 400 ?_; with_unfolding_all conv => (arg 4; whnf)))
set_option hygiene false in
local macro_rules | `(tactic| walk_at "yu") => `(tactic| ((with_reducible refine' z_update ?yD _ ?yi ?yf ?_); (case yD => assumption); (case yi => walk_at "yi"); (case yf => rfl)))
set_option hygiene false in
local macro_rules | `(tactic| walk_at "yl") => `(tactic| first
  | ((with_reducible refine' z_load ?ho ?_); (case ho => walk_at "yf"))
  | with_reducible refine z_fresh ?_
  | (walk_at "yu"; intro h' D')
  | ((with_reducible refine' y_pure _ _ _ _ _ _ _ _ _ ?_); (with_unfolding_all conv => (arg 5; whnf)); first | ((with_reducible refine' y_done _ _ _ _ _ _ ?_); try (with_reducible refine' y_ret _ _ _ _ _ _ _ _ _ _ ?_)) | ((with_reducible refine' y_again _ _ _ _ _ _ ?yq ?_); (case yq => with_unfolding_all rfl); refine y_tree ?_)))
set_option hygiene false in
local macro_rules | `(tactic| walk_at "yn") => `(tactic| (walk_at "yw"; walk_at "yl"))
set_option hygiene false in
local macro_rules | `(tactic| walk_at "yk") => `(tactic| ((with_reducible refine' y_call _ _ _ _ _ _ _ _ _ _ _ _ _ ?hn ?_); (case hn => (intro h; cases h)); refine y_tree ?_))
set_option hygiene false in
local macro_rules | `(tactic| walk_at "ya") => `(tactic| ((with_reducible refine' z_alloc ?yD ?yf ?_); (case yD => assumption); (case yf => rfl)))
set_option hygiene false in
local macro_rules | `(tactic| walk_at "yc") => `(tactic| (with_unfolding_all refine' y_call _ _ _ _ _ _ _ _ _ _ _ _ _ ?hn (code_collect (by assumption) ?ho ?hc ?hd ?hs ?_); (case hn => (intro h; cases h)); (case ho => walk_at "yf"); (case hc => rfl); (case hd => rfl); (case hs => exact Nat.le_of_ble_eq_true rfl)))
set_option hygiene false in
local macro_rules | `(tactic| walk_at "yb") => `(tactic| (walk_at "yw"; (with_reducible refine' z_allocB ?yD ?yf ?_); (case yD => assumption); (case yf => rfl)))
section
open PySem PySem.W PyProof.Rows PySem.Calls PySem.MeetsSeq PySem.W.X
open Sem (wp)
namespace Mine
theorem ix0 {α : Type} {x0 : α} {r : List α} : (x0 :: r)[0]? = some x0 := rfl
theorem ix1 {α : Type} {x0 x1 : α} {r : List α} : (x0 :: x1 :: r)[1]? = some x1 := rfl
theorem ix2 {α : Type} {x0 x1 x2 : α} {r : List α} : (x0 :: x1 :: x2 :: r)[2]? = some x2 := rfl
theorem ix3 {α : Type} {x0 x1 x2 x3 : α} {r : List α} : (x0 :: x1 :: x2 :: x3 :: r)[3]? = some x3 := rfl
theorem ix4 {α : Type} {x0 x1 x2 x3 x4 : α} {r : List α} : (x0 :: x1 :: x2 :: x3 :: x4 :: r)[4]? = some x4 := rfl
theorem ix5 {α : Type} {x0 x1 x2 x3 x4 x5 : α} {r : List α} : (x0 :: x1 :: x2 :: x3 :: x4 :: x5 :: r)[5]? = some x5 := rfl
theorem ix6 {α : Type} {x0 x1 x2 x3 x4 x5 x6 : α} {r : List α} : (x0 :: x1 :: x2 :: x3 :: x4 :: x5 :: x6 :: r)[6]? = some x6 := rfl
theorem ix7 {α : Type} {x0 x1 x2 x3 x4 x5 x6 x7 : α} {r : List α} : (x0 :: x1 :: x2 :: x3 :: x4 :: x5 :: x6 :: x7 :: r)[7]? = some x7 := rfl
theorem ix8 {α : Type} {x0 x1 x2 x3 x4 x5 x6 x7 x8 : α} {r : List α} : (x0 :: x1 :: x2 :: x3 :: x4 :: x5 :: x6 :: x7 :: x8 :: r)[8]? = some x8 := rfl
theorem ix9 {α : Type} {x0 x1 x2 x3 x4 x5 x6 x7 x8 x9 : α} {r : List α} : (x0 :: x1 :: x2 :: x3 :: x4 :: x5 :: x6 :: x7 :: x8 :: x9 :: r)[9]? = some x9 := rfl
theorem ix10 {α : Type} {x0 x1 x2 x3 x4 x5 x6 x7 x8 x9 x10 : α} {r : List α} : (x0 :: x1 :: x2 :: x3 :: x4 :: x5 :: x6 :: x7 :: x8 :: x9 :: x10 :: r)[10]? = some x10 := rfl
theorem ix11 {α : Type} {x0 x1 x2 x3 x4 x5 x6 x7 x8 x9 x10 x11 : α} {r : List α} : (x0 :: x1 :: x2 :: x3 :: x4 :: x5 :: x6 :: x7 :: x8 :: x9 :: x10 :: x11 :: r)[11]? = some x11 := rfl
theorem ix12 {α : Type} {x0 x1 x2 x3 x4 x5 x6 x7 x8 x9 x10 x11 x12 : α} {r : List α} : (x0 :: x1 :: x2 :: x3 :: x4 :: x5 :: x6 :: x7 :: x8 :: x9 :: x10 :: x11 :: x12 :: r)[12]? = some x12 := rfl
theorem ix13 {α : Type} {x0 x1 x2 x3 x4 x5 x6 x7 x8 x9 x10 x11 x12 x13 : α} {r : List α} : (x0 :: x1 :: x2 :: x3 :: x4 :: x5 :: x6 :: x7 :: x8 :: x9 :: x10 :: x11 :: x12 :: x13 :: r)[13]? = some x13 := rfl
theorem ix14 {α : Type} {x0 x1 x2 x3 x4 x5 x6 x7 x8 x9 x10 x11 x12 x13 x14 : α} {r : List α} : (x0 :: x1 :: x2 :: x3 :: x4 :: x5 :: x6 :: x7 :: x8 :: x9 :: x10 :: x11 :: x12 :: x13 :: x14 :: r)[14]? = some x14 := rfl
theorem ix15 {α : Type} {x0 x1 x2 x3 x4 x5 x6 x7 x8 x9 x10 x11 x12 x13 x14 x15 : α} {r : List α} : (x0 :: x1 :: x2 :: x3 :: x4 :: x5 :: x6 :: x7 :: x8 :: x9 :: x10 :: x11 :: x12 :: x13 :: x14 :: x15 :: r)[15]? = some x15 := rfl
theorem ix16 {α : Type} {x0 x1 x2 x3 x4 x5 x6 x7 x8 x9 x10 x11 x12 x13 x14 x15 x16 : α} {r : List α} : (x0 :: x1 :: x2 :: x3 :: x4 :: x5 :: x6 :: x7 :: x8 :: x9 :: x10 :: x11 :: x12 :: x13 :: x14 :: x15 :: x16 :: r)[16]? = some x16 := rfl
theorem ix17 {α : Type} {x0 x1 x2 x3 x4 x5 x6 x7 x8 x9 x10 x11 x12 x13 x14 x15 x16 x17 : α} {r : List α} : (x0 :: x1 :: x2 :: x3 :: x4 :: x5 :: x6 :: x7 :: x8 :: x9 :: x10 :: x11 :: x12 :: x13 :: x14 :: x15 :: x16 :: x17 :: r)[17]? = some x17 := rfl
theorem ix18 {α : Type} {x0 x1 x2 x3 x4 x5 x6 x7 x8 x9 x10 x11 x12 x13 x14 x15 x16 x17 x18 : α} {r : List α} : (x0 :: x1 :: x2 :: x3 :: x4 :: x5 :: x6 :: x7 :: x8 :: x9 :: x10 :: x11 :: x12 :: x13 :: x14 :: x15 :: x16 :: x17 :: x18 :: r)[18]? = some x18 := rfl
theorem ix19 {α : Type} {x0 x1 x2 x3 x4 x5 x6 x7 x8 x9 x10 x11 x12 x13 x14 x15 x16 x17 x18 x19 : α} {r : List α} : (x0 :: x1 :: x2 :: x3 :: x4 :: x5 :: x6 :: x7 :: x8 :: x9 :: x10 :: x11 :: x12 :: x13 :: x14 :: x15 :: x16 :: x17 :: x18 :: x19 :: r)[19]? = some x19 := rfl
theorem ix20 {α : Type} {x0 x1 x2 x3 x4 x5 x6 x7 x8 x9 x10 x11 x12 x13 x14 x15 x16 x17 x18 x19 x20 : α} {r : List α} : (x0 :: x1 :: x2 :: x3 :: x4 :: x5 :: x6 :: x7 :: x8 :: x9 :: x10 :: x11 :: x12 :: x13 :: x14 :: x15 :: x16 :: x17 :: x18 :: x19 :: x20 :: r)[20]? = some x20 := rfl
theorem ix21 {α : Type} {x0 x1 x2 x3 x4 x5 x6 x7 x8 x9 x10 x11 x12 x13 x14 x15 x16 x17 x18 x19 x20 x21 : α} {r : List α} : (x0 :: x1 :: x2 :: x3 :: x4 :: x5 :: x6 :: x7 :: x8 :: x9 :: x10 :: x11 :: x12 :: x13 :: x14 :: x15 :: x16 :: x17 :: x18 :: x19 :: x20 :: x21 :: r)[21]? = some x21 := rfl
theorem ix22 {α : Type} {x0 x1 x2 x3 x4 x5 x6 x7 x8 x9 x10 x11 x12 x13 x14 x15 x16 x17 x18 x19 x20 x21 x22 : α} {r : List α} : (x0 :: x1 :: x2 :: x3 :: x4 :: x5 :: x6 :: x7 :: x8 :: x9 :: x10 :: x11 :: x12 :: x13 :: x14 :: x15 :: x16 :: x17 :: x18 :: x19 :: x20 :: x21 :: x22 :: r)[22]? = some x22 := rfl
theorem ix23 {α : Type} {x0 x1 x2 x3 x4 x5 x6 x7 x8 x9 x10 x11 x12 x13 x14 x15 x16 x17 x18 x19 x20 x21 x22 x23 : α} {r : List α} : (x0 :: x1 :: x2 :: x3 :: x4 :: x5 :: x6 :: x7 :: x8 :: x9 :: x10 :: x11 :: x12 :: x13 :: x14 :: x15 :: x16 :: x17 :: x18 :: x19 :: x20 :: x21 :: x22 :: x23 :: r)[23]? = some x23 := rfl
/-- a tree's step, not yet taken: keeps the terms of a walk small -/
def ap {α : Sort u} {β : Sort v} (k : α → β) (a : α) : β := k a
section
variable {α : Type} {prog : Program} {w : World} {A : Around} {c : Code} {Q : α → Shared → Prop} {E : Value → Shared → Prop} {h₀ h : Heap} {chg news : List (Addr × Obj)} {g : Array GenState} {d : Drawn} {t : Nat} {os : OsState}
theorem z_load {a : Addr} {q : Option Value} {k : Obj → Sem α} {o : Obj} (ho : h.get? a = some o) (x : wpOwn (model prog w) A c (ap k o) Q E ⟨h, g, d, t, os⟩) : wpOwn (model prog w) A c (.load a q k) Q E ⟨h, g, d, t, os⟩ := y_load _ _ _ _ _ _ _ _ _ _ _ _ _ _ _ _ ho x
theorem z_fresh {k : Tok → Sem α} (x : wpOwn (model prog w) A c (ap k t) Q E ⟨h, g, d, t + 1, os⟩) : wpOwn (model prog w) A c (.fresh k) Q E ⟨h, g, d, t, os⟩ := y_fresh _ _ _ _ _ _ _ _ _ _ _ _ _ x
theorem z_update {a : Addr} {q : Option Value} {f : Obj → Obj} {k : Unit → Sem α} {o : Obj} (D : Mem h₀ h chg news) (i : Nat) (hi : news[i]? = some (a, o)) (hf : (f o).isFreed = false) (x : ∀ h', Mem h₀ h' chg (news.set i (a, f o)) → wpOwn (model prog w) A c (ap k ()) Q E ⟨h', g, d, t, os⟩) : wpOwn (model prog w) A c (.update a q f k) Q E ⟨h, g, d, t, os⟩ :=
  y_update _ _ _ _ _ _ _ _ _ _ _ _ _ _ _ _ _ _ _ _ D i hi hf x
theorem z_alloc {o : Obj} {k : Addr → Sem α} (D : Mem h₀ h chg news) (hf : o.isFreed = false) (x : ∀ a h', Mem h₀ h' chg ((a, o) :: news) → wpOwn (model prog w) A c (ap k a) Q E ⟨h', g, d, t, os⟩) : wpOwn (model prog w) A c (.alloc o k) Q E ⟨h, g, d, t, os⟩ :=
  y_alloc _ _ _ _ _ _ _ _ _ _ _ _ _ _ _ _ _ D hf x
end
theorem y_tree {prog : Program} {w : World} {A' : Around} {R : Result → Shared → Prop} {s : Shared} {c' : Code} (x : wpOwn (model prog w) A' c' (XFast.xw11892475500146522536 XFast.tableX c') (postC prog w A' R) (postE R) s) : codeAny (model prog w) A' c' R s := by
  refine y_code _ _ _ _ _ _ ?_
  rw [XFast.xe11892475500146522536, XFast.tableX_eq]
  exact x
theorem code_collect {prog : Program} {w : World} {A : Around} {R : Result → Shared → Prop} {h₀ h : Heap} {chg news : List (Addr × Obj)} {g : Array GenState} {d : Drawn} {tk : Nat} {os : OsState} {l : Addr} {o : Obj} {xs : Array Value} {n : Nat} (D : Mem h₀ h chg news)
    (ho' : h.get? l = some o) (hc : o.cls = .type "list") (hd : o.data = .seq xs n) (hs : xs.size ≤ 100) (hR : ∀ a h', Mem h₀ h' chg ((a, Obj.mapSeq (fun x => x ++ xs) (seqObj "list" #[] 0)) :: news) → R (.ok (.ret (.ref a))) ⟨h', g, d, tk, os⟩) :
    codeAny (model prog w) A (.builtin "proto.collect" ⟨[.ref l], []⟩) R ⟨h, g, d, tk, os⟩ := by
  refine codeAny_builtin entry_proto_collect' ?_
  show wpAny _ _ (do again (.builtin "list.__iadd__" ⟨[← newList [], .ref l], []⟩)) _ _ _
  refine wpAny_bind (wpAny_newList (wpAny_pure ⟨Code.quiet_builtin _ (by decide +kernel), codeAny_builtin entry_list_iadd' ?_⟩))
  show wpAny _ _ (Builtin.List.listExtendWith (.ref h.objs.size) (.ref l) (.ref h.objs.size)) _ _ ⟨h.push (seqObj "list" #[] 0), g, d, tk, os⟩
  unfold Builtin.List.listExtendWith
  have ho : (h.push (seqObj "list" #[] 0)).get? l = some o := Heap.get?_push_of_some _ ho'
  refine wpAny_bind (wpAny_typeOf (T := "list") ⟨o, ho, hc⟩ ?_)
  have ht : (Value.type "list" == Value.type "list") = true := by rfl
  rw [if_pos (by rw [ht]; simp)]
  refine wpAny_bind (listItems_at ho hd ?_)
  refine wpAny_bind (listItems_at (xs := #[]) (n := 0) (Heap.get?_push_size _ rfl) rfl ?_)
  rw [if_neg (by simp)]
  refine wpAny_bind (listUpdate_at (xs := #[]) (n := 0) (Heap.get?_push_size _ rfl) rfl ?_ (Nat.zero_le _) (by show (#[] ++ xs).size ≤ sizeLine + 1; rw [sizeLine_eq]; simp; lia))
  refine wpAny_pure ?_
  have D1 := D.alloc (o := seqObj "list" #[] 0) rfl
  have D2 := D1.update (i := 0) (f := Obj.mapSeq (· ++ xs)) rfl rfl
  exact hR _ _ D2
theorem bne_me (inst : DecidableEq Value) (a : Value) : (@bne Value (@instBEqOfDecidableEq Value inst) a a) = false := by simp
theorem fil_me (inst : DecidableEq Value) (a : Addr) : List.filter (fun x => @bne Value (@instBEqOfDecidableEq Value inst) x (Value.ref a)) [Value.ref a, Value.type "object"] = [Value.type "object"] := by
  rw [List.filter_cons_of_neg (by simp), List.filter_cons_of_pos (by simp), List.filter_nil]
theorem mem_cast {h₀ h : Heap} {chg news news' : List (Addr × Obj)} (D : Mem h₀ h chg news) (e : news = news') : Mem h₀ h chg news' := e ▸ D
noncomputable abbrev kHash (P : Params) (k : Str) : Int := X.condFn Int k.cps.isEmpty 0 (XFast.xw12210062019545310541 (P.strHash k.cps))
theorem con_me (inst : DecidableEq Value) (C : Addr) : @List.contains Value (@instBEqOfDecidableEq Value inst) [Value.ref C, Value.type "object"] (Value.ref C) = true := by simp
theorem drop_me (inst : DecidableEq Value) (C : Addr) : List.drop 1 (List.dropWhile (fun x => @bne Value (@instBEqOfDecidableEq Value inst) x (Value.ref C)) [Value.ref C, Value.type "object"]) = [Value.type "object"] := by
  rw [List.dropWhile_cons_of_neg (by simp), List.drop_one, List.tail_cons]
theorem beq_me (inst : DecidableEq Value) (C : Value) : (@BEq.beq Value (@instBEqOfDecidableEq Value inst) C C) = true := by simp
abbrev kE (h : Int) (k : Str) (t : Nat) (v : Value) : DictEntry := { hash := h, key := .str k t, val := v }
/-- the class body's names, as type.__new__ is given them -/
abbrev kNs0 (G : Nat → Int) (T : Nat → Nat) (aS aI aL aG aE aLE aGE aT : Addr) : Obj :=
  ⟨.type "dict", none, .dict #[kE (G 0) (Str.ofString "__module__") (T 0) (.str (Str.ofString "cpy313.functools") (T 1)), kE (G 13) (Str.ofString "__qualname__") (T 2) (.str (Str.ofString "cmp_to_key.<locals>.K") (T 3)), kE (G 1) (Str.ofString "__firstlineno__") (T 4) (.int 59 (T 5)), kE (G 2) (Str.ofString "__slots__") (T 6) (.ref aS),
    kE (G 3) (Str.ofString "__init__") (T 7) (.ref aI), kE (G 4) (Str.ofString "__lt__") (T 8) (.ref aL), kE (G 5) (Str.ofString "__gt__") (T 9) (.ref aG), kE (G 6) (Str.ofString "__eq__") (T 10) (.ref aE), kE (G 7) (Str.ofString "__le__") (T 11) (.ref aLE),
    kE (G 8) (Str.ofString "__ge__") (T 12) (.ref aGE), kE (G 9) (Str.ofString "__hash__") (T 13) .none, kE (G 10) (Str.ofString "__static_attributes__") (T 14) (.ref aT)] 12, #[]⟩
abbrev kNs0' (G : Nat → Int) (T : Nat → Nat) (aS aI aL aG aE aLE aGE aT : Addr) : Obj := { kNs0 G T aS aI aL aG aE aLE aGE aT with data := match (kNs0 G T aS aI aL aG aE aLE aGE aT).data with | .dict es _ => .dict es 0 | d => d }
/-- the class's names as type.__new__ copies them -/
abbrev kNs1 (G : Nat → Int) (T : Nat → Nat) (n : Nat) (aS aI aL aG aE aLE aGE aT : Addr) (more : List DictEntry) : Obj :=
  ⟨.type "dict", none, .dict ⟨kE (G 0) (Str.ofString "__module__") (T 0) (.str (Str.ofString "cpy313.functools") (T 1)) :: kE (G 1) (Str.ofString "__firstlineno__") (T 4) (.int 59 (T 5)) :: kE (G 2) (Str.ofString "__slots__") (T 6) (.ref aS) ::
    kE (G 3) (Str.ofString "__init__") (T 7) (.ref aI) :: kE (G 4) (Str.ofString "__lt__") (T 8) (.ref aL) :: kE (G 5) (Str.ofString "__gt__") (T 9) (.ref aG) :: kE (G 6) (Str.ofString "__eq__") (T 10) (.ref aE) :: kE (G 7) (Str.ofString "__le__") (T 11) (.ref aLE) ::
    kE (G 8) (Str.ofString "__ge__") (T 12) (.ref aGE) :: kE (G 9) (Str.ofString "__hash__") (T 13) .none :: kE (G 10) (Str.ofString "__static_attributes__") (T 14) (.ref aT) :: more⟩ n, #[]⟩
abbrev kC (N : Addr) (mro : List Value) (hasDict : Bool) (sl : List Str) (slots : Array (Option Value)) : Obj :=
  ⟨.type "type", none, .cls { name := Str.ofString "K", bases := [.type "object"], mro := mro, ns := N, qualname := Str.ofString "cmp_to_key.<locals>.K", hasDict := hasDict, slotNames := sl }, slots⟩
abbrev kLx (ts : Tok) : Obj := ⟨.type "list", none, .seq #[.str (Str.ofString "obj") ts] 1, #[]⟩
abbrev kM (C : Addr) (t : Tok) : Obj := ⟨.type "member_descriptor", none, .fields #[.str (Str.ofString "obj") t, .ref C, .builtin "proto.slot", .builtin "proto.slot#set", .int 0 0], #[]⟩
abbrev kCz (C N bs : Addr) (t1 t2 : Tok) : Obj := kC N [.ref C, .type "object"] false [Str.ofString "obj"] #[some (.ref bs), none, some (.str (Str.ofString "K") t1), some (.str (Str.ofString "cmp_to_key.<locals>.K") t2), some (.builtin "object.__new__"), some (.bool false)]
abbrev kSo (C : Addr) : Obj := ⟨.type "super", none, .fields #[.ref C, .ref C, .ref C], #[]⟩
abbrev kBo (C : Addr) : Obj := ⟨.type "builtin_function_or_method", none, .fields #[.builtin "object.__init_subclass__", .ref C], #[]⟩
local macro_rules | `(tactic| walk_at "yg") => `(tactic| (walk_at "yw"; first | ((with_reducible refine' z_load ?ho ?_); (case ho => first | assumption | exact Mem.at (by assumption) 0 _ _ (by rfl) | exact Mem.at (by assumption) 1 _ _ (by rfl))) | walk_at "yl"))
set_option maxHeartbeats 0 in
theorem sup_code {w : World} {A : Around} {R : Result → Shared → Prop} {h₀ h : Heap} {news : List (Addr × Obj)} {g : Array GenState} {d : Drawn} {tk : Nat} {os : OsState} {C N bs : Addr} {t1 t2 : Tok}
  (D : Mem h₀ h [] news) (hm : (C, kCz C N bs t1 t2) ∈ news) 
  (hR : ∀ so h', Mem h₀ h' [] ((so, ⟨.type "super", none, .fields #[.ref C, .ref C, .ref C], #[]⟩) :: news) → R (.ok (.ret (.ref so))) ⟨h', g, d, tk, os⟩) :
  codeAny (model PR w) A (.call (.type "super") ⟨[.ref C, .ref C], []⟩) R ⟨h, g, d, tk, os⟩ := by
  have hC := (D.nw _ hm).1
  refine y_tree ?_
  repeat walk_at "yg"
  walk_at "yw"
  walk_at "yk"
  repeat walk_at "yg"
  walk_at "yw"
  walk_at "ya"
  intro so h1 D1
  have hC1 := (D1.nw _ (List.mem_cons_of_mem _ hm)).1
  repeat walk_at "yg"
  walk_at "yw"
  walk_at "yk"
  repeat walk_at "yg"
  refine wpOwn_bind ?_
  refine wpOwn_bind ?_
  refine y_eq _ _ _ _ _ _ _ _ _ (Sem.pure true) (by with_unfolding_all exact congrArg Sem.pure (con_me XFast.xw7966671052430208091 C)) ?_
  refine y_pure _ _ _ _ _ _ _ _ _ ?_
  walk_at "yw"
  refine y_pure _ _ _ _ _ _ _ _ _ ?_
  repeat walk_at "yg"
  exact hR so h' (mem_cast D' (by kernel_rfl))
set_option maxHeartbeats 0 in
theorem sga_code {w : World} {A : Around} {R : Result → Shared → Prop} {h₀ h : Heap} {news : List (Addr × Obj)} {g : Array GenState} {d : Drawn} {tk : Nat} {os : OsState} {C N bs so : Addr} {t1 t2 tq : Tok}
  (D : Mem h₀ h [] ((so, ⟨.type "super", none, .fields #[.ref C, .ref C, .ref C], #[]⟩) :: news)) (hm : (C, kCz C N bs t1 t2) ∈ news) (hs : h₀.get? 2 = some ⟨.none, none, .dict #[] 0, #[]⟩)
  (hR : ∀ bo h', Mem h₀ h' [] ((bo, ⟨.type "builtin_function_or_method", none, .fields #[.builtin "object.__init_subclass__", .ref C], #[]⟩) :: (so, ⟨.type "super", none, .fields #[.ref C, .ref C, .ref C], #[]⟩) :: news) → R (.ok (.ret (.ref bo))) ⟨h', g, d, tk, os⟩) :
  codeAny (model PR w) A (.call (.builtin "super.__getattribute__") ⟨[.ref so, .str (Str.ofString "__init_subclass__") tq], []⟩) R ⟨h, g, d, tk, os⟩ := by
  have hC := (D.nw _ (List.mem_cons_of_mem _ hm)).1
  refine y_tree ?_
  repeat walk_at "yg"
  refine wpOwn_bind ?_
  with_unfolding_all refine y_pure _ _ _ _ _ _ _ _ [Value.ref C, Value.type "object"] ?_
  refine wpOwn_bind ?_
  conv in (List.drop 1 _) => (change List.drop 1 (List.dropWhile (fun x => @bne Value (@instBEqOfDecidableEq Value XFast.xw7966671052430208091) x (Value.ref C)) [Value.ref C, Value.type "object"]); rw [drop_me])
  conv in (_ == _) => (change @BEq.beq Value (@instBEqOfDecidableEq Value XFast.xw7966671052430208091) (Value.ref C) (Value.ref C); rw [beq_me])
  repeat walk_at "yg"
  walk_at "yw"
  walk_at "yk"
  repeat walk_at "yg"
  walk_at "yw"
  walk_at "ya"
  intro bo h1 D1
  repeat walk_at "yg"
  walk_at "yw"
  refine y_pure _ _ _ _ _ _ _ _ _ ?_
  repeat walk_at "yg"
  exact hR bo h1 (mem_cast D1 (by kernel_rfl))
end Mine
end
section
open PySem PySem.W PyProof.Rows PySem.Calls PySem.MeetsSeq PySem.W.X
open Sem (wp)
namespace Mine
local macro_rules | `(tactic| walk_at "pad") => `(tactic| skip)
local macro_rules | `(tactic| walk_at "pad") => `(tactic| skip)
section
variable {α : Type} {prog : Program} {w : World} {A : Around} {Q : α → Shared → Prop} {E : Value → Shared → Prop} {h₀ h : Heap} {chg news : List (Addr × Obj)} {g : Array GenState} {d : Drawn} {t : Nat} {os : OsState}
theorem v_pure {s : Shared} {a : α} (x : Q a s) : wpAny (model prog w) A (Sem.pure a) Q E s := wpAny_pure x
theorem v_load {a : Addr} {q : Option Value} {k : Obj → Sem α} {o : Obj} (ho : h.get? a = some o) (x : wpAny (model prog w) A (k o) Q E ⟨h, g, d, t, os⟩) : wpAny (model prog w) A (.load a q k) Q E ⟨h, g, d, t, os⟩ := x_load ho x
theorem v_fresh {k : Tok → Sem α} (x : wpAny (model prog w) A (k t) Q E ⟨h, g, d, t + 1, os⟩) : wpAny (model prog w) A (.fresh k) Q E ⟨h, g, d, t, os⟩ := x_fresh x
theorem v_alloc {o : Obj} {k : Addr → Sem α} (D : Mem h₀ h chg news) (hf : o.isFreed = false) (x : ∀ a h', Mem h₀ h' chg ((a, o) :: news) → (∀ b ob, h.get? b = some ob → b < a) → wpAny (model prog w) A (k a) Q E ⟨h', g, d, t, os⟩) :
    wpAny (model prog w) A (.alloc o k) Q E ⟨h, g, d, t, os⟩ := wpAny_bind (m := alloc o) (f := k) (wpAny_alloc (x _ _ (D.alloc hf) fun b ob e => Heap.lt_size e))
theorem y_allocB {c : Code} {o : Obj} {k : Addr → Sem α} (D : Mem h₀ h chg news) (hf : o.isFreed = false) (x : ∀ a h', Mem h₀ h' chg ((a, o) :: news) → (∀ b ob, h.get? b = some ob → b < a) → wpOwn (model prog w) A c (k a) Q E ⟨h', g, d, t, os⟩) :
    wpOwn (model prog w) A c (.alloc o k) Q E ⟨h, g, d, t, os⟩ := wpOwn_bind (m := alloc o) (f := k) (wpOwn_of_wpAny (wpAny_alloc (x _ _ (D.alloc hf) fun b ob e => Heap.lt_size e)))
theorem v_update {a : Addr} {q : Option Value} {f : Obj → Obj} {k : Unit → Sem α} {o : Obj} (D : Mem h₀ h chg news) (i : Nat) (hi : news[i]? = some (a, o)) (hf : (f o).isFreed = false)
    (x : ∀ h', Mem h₀ h' chg (news.set i (a, f o)) → wpAny (model prog w) A (k ()) Q E ⟨h', g, d, t, os⟩) : wpAny (model prog w) A (.update a q f k) Q E ⟨h, g, d, t, os⟩ :=
  wpAny_bind (m := updatePart a q f) (f := k) (wpAny_updatePart (D.at i a o hi) (x _ (D.update hi hf)))
theorem v_grow {a : Addr} {q : Option Value} {f : Obj → Obj} {k : Unit → Sem α} {c₀ : Addr} {ps more : Array Value} (D : Mem h₀ h chg news) (ht : h₀.TableAt c₀ a ps) (hw : away chg a = true) (hn : f (tableObj ps) = tableObj (ps ++ more))
    (x : ∀ h', Mem h₀ h' ((a, tableObj (ps ++ more)) :: chg) news → wpAny (model prog w) A (k ()) Q E ⟨h', g, d, t, os⟩) : wpAny (model prog w) A (.update a q f k) Q E ⟨h, g, d, t, os⟩ :=
  wpAny_bind (m := updatePart a q f) (f := k) (wpAny_updatePart (D.keep a _ ht.2 (by rw [hw, Bool.or_true])) (x _ (D.grow ht hw hn)))
theorem v_call {s : Shared} {c : Code} {hd : Option Value} {b : Bool} {l : List Value} {k : Result → Sem α} (hnb : hd ≠ some byPass) (hc : codeAny (model prog w) (A.mark hd) c (postA prog w A Q E k) s) : wpAny (model prog w) A (.call c hd b l k) Q E s := x_call hc hnb
theorem v_back {s : Shared} {k : Result → Sem α} {r : Result} (x : wpAny (model prog w) A (k r) Q E s) : postA prog w A Q E k r s := x
theorem v_keep {s : Shared} {l : List Value} {τ : Sem α} (x : wpAny (model prog w) A τ Q E s) : wpAny (model prog w) A (Sem.keep l τ) Q E s := fun Γ p hΓ => by rw [Sem.wp_keep]; exact x Γ p hΓ
theorem v_skim {s : Shared} {τ : Sem α} (n : Nat) (x : wpAny (model prog w) A (skim ⟨prog, w.params⟩ n τ) Q E s) : wpAny (model prog w) A τ Q E s := x_skim n x
theorem nolimit_of (hs : h.get? 2 = some ⟨.none, none, .dict #[] 0, #[]⟩) : h.NoLimit := ⟨fun name => nsFind #[] name, ⟨_, #[], 0, hs, rfl, by unfold StrKeys; simp, fun _ => rfl⟩, rfl⟩
end
section
variable {α : Type} {prog : Program} {w : World} {A : Around} {Q : α → Shared → Prop} {E : Value → Shared → Prop} {h₀ h : Heap} {chg news : List (Addr × Obj)} {g : Array GenState} {d : Drawn} {t : Nat} {os : OsState}
theorem w_load {a : Addr} {q : Option Value} {k : Obj → Sem α} {o : Obj} (ho : h.get? a = some o) (x : wpAny (model prog w) A (ap k o) Q E ⟨h, g, d, t, os⟩) : wpAny (model prog w) A (.load a q k) Q E ⟨h, g, d, t, os⟩ := v_load ho x
theorem w_fresh {k : Tok → Sem α} (x : wpAny (model prog w) A (ap k t) Q E ⟨h, g, d, t + 1, os⟩) : wpAny (model prog w) A (.fresh k) Q E ⟨h, g, d, t, os⟩ := v_fresh x
theorem w_alloc {o : Obj} {k : Addr → Sem α} (D : Mem h₀ h chg news) (hf : o.isFreed = false) (x : ∀ a h', Mem h₀ h' chg ((a, o) :: news) → (∀ b ob, h.get? b = some ob → b < a) → wpAny (model prog w) A (ap k a) Q E ⟨h', g, d, t, os⟩) : wpAny (model prog w) A (.alloc o k) Q E ⟨h, g, d, t, os⟩ := v_alloc D hf x
theorem z_allocB {c : Code} {o : Obj} {k : Addr → Sem α} (D : Mem h₀ h chg news) (hf : o.isFreed = false) (x : ∀ a h', Mem h₀ h' chg ((a, o) :: news) → (∀ b ob, h.get? b = some ob → b < a) → wpOwn (model prog w) A c (ap k a) Q E ⟨h', g, d, t, os⟩) : wpOwn (model prog w) A c (.alloc o k) Q E ⟨h, g, d, t, os⟩ := y_allocB D hf x
theorem w_update {a : Addr} {q : Option Value} {f : Obj → Obj} {k : Unit → Sem α} {o : Obj} (D : Mem h₀ h chg news) (i : Nat) (hi : news[i]? = some (a, o)) (hf : (f o).isFreed = false) (x : ∀ h', Mem h₀ h' chg (news.set i (a, f o)) → wpAny (model prog w) A (ap k ()) Q E ⟨h', g, d, t, os⟩) : wpAny (model prog w) A (.update a q f k) Q E ⟨h, g, d, t, os⟩ := v_update D i hi hf x
end
theorem mem_sub {h₀ h : Heap} {chg news news' : List (Addr × Obj)} (D : Mem h₀ h chg news) (s : news'.Sublist news) : Mem h₀ h chg news' :=
  ⟨D.keep, D.ch, D.cd, fun p hp => D.nw p (s.subset hp), D.ord.sublist (s.map _)⟩
theorem mem_up {h₀ h h' : Heap} {chg news : List (Addr × Obj)} (D : Mem h₀ h chg news) (up : ∀ b o, h.get? b = some o → h'.get? b = some o) : Mem h₀ h' chg news :=
  ⟨fun b o e q => up _ _ (D.keep b o e q), fun p hp => ⟨up _ _ (D.ch p hp).1, (D.ch p hp).2⟩, D.cd, fun p hp => ⟨up _ _ (D.nw p hp).1, (D.nw p hp).2⟩, D.ord⟩
theorem mem_all {h₀ h : Heap} {news : List (Addr × Obj)} (D : Mem h₀ h [] news) {a : Addr} {o : Obj} (e : h₀.get? a = some o) : h.get? a = some o := D.keep _ _ e (by rw [Bool.or_eq_true]; exact .inr rfl)
noncomputable def oAt (P : Params) (a : Addr) : Obj := ((hk.heap_39 P).lookup a).getD ⟨.none, none, .plain, #[]⟩
/-- a name of a name space, as a load gives it -/
theorem ns_look {h : Heap} {a : Addr} {m : Str → Option Value} {o : Obj} (hn : h.Ns a m) (ho : h.get? a = some o) (name : Str) : nsLook name o = pure (m name) := by
  obtain ⟨o', es, ep, e1, hd, hk, hm⟩ := hn
  rw [ho] at e1; cases e1
  rw [← hm name, nsLook_eq]
  unfold nsLookByArray nsFind findBy
  rw [hd]
  dsimp only
  cases hf : es.find? (·.key.isStr name) with
  | some e => rfl
  | none =>
    have : es.any (·.refKey) = false := by
      rw [Array.any_eq_false']; intro e he; obtain ⟨n, t, h⟩ := hk e he; simp [DictEntry.refKey, h]
    simp only [this]
    rfl
theorem pb1 {α β : Type} (a : α) (f : α → Sem β) : (Sem.pure a).bind f = f a := rfl
end Mine
end
section
open PySem PySem.W PyProof.Rows PySem.Calls PySem.MeetsSeq PySem.W.X
open Sem (wp)
namespace Mine
noncomputable def fInit (P : Params) : FuncData := match (oAt P 36).data with | .func fd => fd | _ => default
noncomputable def fBody (P : Params) : List Stmt := match (fInit P).body with | .stmts b => b | _ => []
theorem iter_code {w : World} {A : Around} {R : Result → Shared → Prop} {s : Shared} {l : Addr} {items : Array Value} (hl : s.heap.IsList l items)
    (hR : R (.ok (.ret (.ref s.heap.objs.size))) { s with heap := s.heap.push (liObj l 0) }) : codeAny (model PR w) A (.call (.builtin "iter") ⟨[.ref l], []⟩) R s := by
  refine codeAny_call_builtin (by decide +kernel) kdk_entry_iter ?_
  have hc : wpAny (model PR w) A.in1 (Builtin.«iter» ⟨[.ref l], []⟩) (fun fin s' => match fin with | .done f => R (.ok f) s' | .again c' => c'.quiet = true ∧ codeAny (model PR w) A c' R s') (fun e s' => R (.error e) s') s := by
    unfold Builtin.«iter»
    refine wpAny_bind (m := someArgs "iter" 1 2 _) (wpAny_of_eq (a := [Value.ref l]) (by first | rfl | kernel_rfl!) ?_)
    show wpAny _ _ (pyIter (.ref l) >>= _) _ _ _
    exact wpAny_bind (wpAny_pyIter_list hl (wpAny_pure hR))
  have hk : builtinKind "iter" = none := by decide +kernel
  simp only [checkBuiltinCall, hk]
  have ha := kdk_args_iter (.ref l)
  cases hsig : Manifest.signature? "iter" with
  | none => exact wpAny_pure hc
  | some sig =>
    have ha' : Bind.checkArgs "iter" sig ⟨[.ref l], []⟩ = pure () := by simpa only [argsOk, hsig] using ha
    simp only [ha']
    exact wpAny_pure hc
set_option maxHeartbeats 0 in
theorem ff_init {w : World} {A : Around} {R : Result → Shared → Prop} {h₀ h : Heap} {news : List (Addr × Obj)} {g : Array GenState} {d : Drawn} {tk : Nat} {os : OsState} {i dx aB aL : Addr} {items : Array Value} {n : Nat}
  (X : (hk.heap_39 w.params).In h₀) (hl : h₀.get? aL = some ⟨.type "list", none, .seq items n, #[]⟩) {o0 : Obj} (k0 : h₀.get? 0 = some o0) (n1 : nsLook (Str.ofString "iter") o0 = pure (some (.builtin "iter"))) (hd : A.depth < recursionLimit) (D : Mem h₀ h [] ((i, ⟨.ref 54, some dx, .plain, #[]⟩) :: news))
  (hR : ∀ li h' tk', Mem h₀ h' [] ((li, liObj aL 0) :: (i, ffObj li aB dx) :: news) → R (.ok (.ret .none)) ⟨h', g, d, tk', os⟩) :
  codeAny (model PR w) A (.call (.ref 36) ⟨[.ref i, .ref aB, .ref aL], []⟩) R ⟨h, g, d, tk, os⟩ := by
  have k2 : h₀.get? 2 = some (oAt w.params 2) := X _ _ (by kernel_rfl)
  have k54 : h₀.get? 54 = some (oAt w.params 54) := X _ _ (by kernel_rfl)
  have k53 : h₀.get? 53 = some (oAt w.params 53) := X _ _ (by kernel_rfl)
  have k55 : h₀.get? 55 = some (oAt w.params 55) := X _ _ (by kernel_rfl)
  have k56 : h₀.get? 56 = some (oAt w.params 56) := X _ _ (by kernel_rfl)
  have k36 : h₀.get? 36 = some (oAt w.params 36) := X _ _ (by kernel_rfl)
  have k35 : h₀.get? 35 = some (oAt w.params 35) := X _ _ (by kernel_rfl)
  have k3 : h₀.get? 3 = some (oAt w.params 3) := X _ _ (by kernel_rfl)
  have hcr : h₀.CodeRec (fInit w.params).code (fInit w.params).qualname := codeRec_of X (by kernel_rfl)
  refine codeAny_call_function (fd := fInit w.params) (body := fBody w.params) hd (mem_all D k36) ?c0 ?c1 ?c2 ?c3 (hcr.keeps fun b o e => mem_all D e) ?_
  case c0 => kernel_rfl
  case c1 => kernel_rfl
  case c2 => kernel_rfl
  case c3 => kernel_rfl
  refine wpAny_of_eq (a := [(Str.ofString "self", Value.ref i), (Str.ofString "function", Value.ref aB), (Str.ofString "iterable", Value.ref aL)]) ?c4 ?_
  case c4 => kernel_rfl
  walk_at "va"
  intro f h1 D1 l1
  repeat walk_at "vn"
  walk_at "vw"
  refine v_pure ?_
  refine ⟨nolimit_of (mem_all D' k2), ?_⟩
  refine x_code ?_
  refine wpAny_bind (wpAny_point ?_)
  refine wpAny_bind (wpAny_onRaise ?_)
  with_unfolding_all refine wpAny_execs_cons ?_
  repeat walk_at "vn"
  walk_at "vw"
  (with_reducible refine' v_load ?ho ?_); (case ho => exact mem_all (by assumption) k0)
  simp only [pb1, n1]
  repeat walk_at "vn"
  walk_at "vw"
  have hL : h'.get? aL = some ⟨.type "list", none, .seq items n, #[]⟩ := mem_all D' hl
  with_unfolding_all refine' v_call ?hn (iter_code ⟨_, hL, rfl, _, rfl⟩ ?_)
  case hn => (intro h; cases h)
  with_unfolding_all refine v_back ?_
  have D3 := D'.alloc (o := liObj aL 0) rfl
  generalize h'.push (liObj aL 0) = h3 at D3 ⊢
  generalize h'.objs.size = li at D3 ⊢
  clear hL
  repeat walk_at "vn"
  walk_at "vk"
  repeat (first | walk_at "yn" | (walk_at "yw"; walk_at "yk"))
  refine wpOwn_bind ?_
  refine wpOwn_bind ?_
  refine y_eq _ _ _ _ _ _ _ _ _ (Sem.pure true) (by with_unfolding_all exact congrArg Sem.pure (con_me XFast.xw7966671052430208091 54)) ?_
  refine y_pure _ _ _ _ _ _ _ _ _ ?_
  repeat walk_at "yn"
  walk_at "yw"
  refine y_pure _ _ _ _ _ _ _ _ _ ?_
  repeat (first | walk_at "yn" | (walk_at "yw"; walk_at "yk"))
  with_unfolding_all refine v_back ?_
  repeat walk_at "vn"
  walk_at "vw"
  refine v_pure ?_
  show wpAny _ _ _ _ _ _
  with_unfolding_all refine wpAny_execs_cons ?_
  repeat walk_at "vn"
  walk_at "vk"
  repeat (first | walk_at "yn" | (walk_at "yw"; walk_at "yk"))
  refine wpOwn_bind ?_
  refine wpOwn_bind ?_
  refine y_eq _ _ _ _ _ _ _ _ _ (Sem.pure true) (by with_unfolding_all exact congrArg Sem.pure (con_me XFast.xw7966671052430208091 54)) ?_
  refine y_pure _ _ _ _ _ _ _ _ _ ?_
  repeat walk_at "yn"
  walk_at "yw"
  refine y_pure _ _ _ _ _ _ _ _ _ ?_
  repeat (first | walk_at "yn" | (walk_at "yw"; walk_at "yk"))
  with_unfolding_all refine v_back ?_
  repeat walk_at "vn"
  walk_at "vw"
  refine v_pure ?_
  show wpAny _ _ _ _ _ _
  refine wpAny_execs_nil ?_
  walk_at "vw"
  refine v_pure ?_
  exact hR li h' _ (mem_cast (mem_sub D' (.cons_cons _ (.cons _ (List.Sublist.refl _)))) (by kernel_rfl))
set_option maxHeartbeats 0 in
theorem ff_make {w : World} {outer : List Env} {gd : Option (List Code)} {E : Value → Shared → Prop} {h : Heap} {g : Array GenState} {d : Drawn} {tk : Nat} {os : OsState} {aL aB : Addr} {items : Array Value} {n : Nat} {Q : Value → Shared → Prop}
  (X : (hk.heap_39 w.params).In h) {o0 : Obj} (k0 : h.get? 0 = some o0) (n1 : nsLook (Str.ofString "iter") o0 = pure (some (.builtin "iter"))) (hl : h.get? aL = some ⟨.type "list", none, .seq items n, #[]⟩) 
  (hQ : ∀ ff li dx h' tk', Heap.StaysIn h h' → h'.get? ff = some (ffObj li aB dx) → h'.get? li = some (liObj aL 0) → h'.get? dx = some (dictOf [] 0) → h.get? ff = none → h.get? li = none → h.get? dx = none → Q (.ref ff) ⟨h', g, d, tk', os⟩) : wpAny (model PR w) (AX outer gd) (call (.ref 54) [.ref aB, .ref aL]) Q E ⟨h, g, d, tk, os⟩ := by
  have k2 : h.get? 2 = some (oAt w.params 2) := X _ _ (by kernel_rfl)
  have k54 : h.get? 54 = some (oAt w.params 54) := X _ _ (by kernel_rfl)
  have k53 : h.get? 53 = some (oAt w.params 53) := X _ _ (by kernel_rfl)
  have k55 : h.get? 55 = some (oAt w.params 55) := X _ _ (by kernel_rfl)
  have k56 : h.get? 56 = some (oAt w.params 56) := X _ _ (by kernel_rfl)
  have k36 : h.get? 36 = some (oAt w.params 36) := X _ _ (by kernel_rfl)
  have k35 : h.get? 35 = some (oAt w.params 35) := X _ _ (by kernel_rfl)
  have k3 : h.get? 3 = some (oAt w.params 3) := X _ _ (by kernel_rfl)
  have D : Mem h h [] [] := Mem.start h
  refine y_start _ _ _ _ _ _ _ _ _ _ _ _ ?hn ?_
  case hn => (intro h; cases h)
  refine y_tree ?_
  repeat walk_at "yn"
  walk_at "yw"
  walk_at "yk"
  repeat walk_at "yn"
  walk_at "yw"
  walk_at "ya"
  intro dx h1 D1
  repeat walk_at "yn"
  walk_at "yw"
  walk_at "ya"
  intro i h2 D2
  repeat walk_at "yn"
  refine wpOwn_bind ?_
  refine y_eq _ _ _ _ _ _ _ _ _ (Sem.pure true) (by with_unfolding_all exact congrArg Sem.pure (con_me XFast.xw7966671052430208091 54)) ?_
  refine y_pure _ _ _ _ _ _ _ _ _ ?_
  repeat walk_at "yn"
  replace D2 : Mem h h2 [] ((i, ⟨.ref 54, some dx, .plain, #[]⟩) :: (dx, dictOf [] 0) :: []) := mem_cast D2 (by kernel_rfl)
  walk_at "yw"
  with_unfolding_all refine' y_call _ _ _ _ _ _ _ _ _ _ _ _ _ ?hn (ff_init X hl k0 n1 ?hd D2 ?_)
  case hn => (intro h; cases h)
  case hd => exact (show (901 : Nat) < 1000 by decide)
  intro li h3 tk3 D3
  with_unfolding_all refine' y_ret _ _ _ _ _ _ _ _ _ _ ?_
  repeat walk_at "yn"
  with_unfolding_all refine v_back ?_
  with_unfolding_all refine v_pure (a := Value.ref i) ?_
  exact hQ i li dx h3 _ (fun b o e => mem_all D3 e) (D3.at 1 _ _ rfl) (D3.at 0 _ _ rfl) (D3.at 2 _ _ rfl) (D3.nw _ (List.mem_of_getElem? (i := 1) rfl)).2 (D3.nw _ (List.mem_of_getElem? (i := 0) rfl)).2 (D3.nw _ (List.mem_of_getElem? (i := 2) rfl)).2
noncomputable def fIter (P : Params) : FuncData := match (oAt P 43).data with | .func fd => fd | _ => default
noncomputable def fIterB (P : Params) : List Stmt := match (fIter P).body with | .stmts b => b | _ => []
set_option maxHeartbeats 0 in
theorem ff_iterC {w : World} {A : Around} {R : Result → Shared → Prop} {h : Heap} {g : Array GenState} {d : Drawn} {tk : Nat} {os : OsState} {i : Addr}
  (X : (hk.heap_39 w.params).In h) (hd : A.depth < recursionLimit)
  (hR : ∀ h' tk', Heap.StaysIn h h' → R (.ok (.ret (.ref i))) ⟨h', g, d, tk', os⟩) :
  codeAny (model PR w) A (.call (.ref 43) ⟨[.ref i], []⟩) R ⟨h, g, d, tk, os⟩ := by
  have D : Mem h h [] [] := Mem.start h
  have k2 : h.get? 2 = some (oAt w.params 2) := X _ _ (by kernel_rfl)
  have k43 : h.get? 43 = some (oAt w.params 43) := X _ _ (by kernel_rfl)
  have hcr : h.CodeRec (fIter w.params).code (fIter w.params).qualname := codeRec_of X (by kernel_rfl)
  refine codeAny_call_function (fd := fIter w.params) (body := fIterB w.params) hd (mem_all D k43) ?c0 ?c1 ?c2 ?c3 (hcr.keeps fun b o e => mem_all D e) ?_
  case c0 => kernel_rfl
  case c1 => kernel_rfl
  case c2 => kernel_rfl
  case c3 => kernel_rfl
  refine wpAny_of_eq (a := [(Str.ofString "self", Value.ref i)]) ?c4 ?_
  case c4 => kernel_rfl
  walk_at "va"
  intro f h1 D1 l1
  repeat walk_at "vn"
  walk_at "vw"
  refine v_pure ?_
  refine ⟨nolimit_of (mem_all (by assumption) k2), ?_⟩
  refine x_code ?_
  refine wpAny_bind (wpAny_point ?_)
  refine wpAny_bind (wpAny_onRaise ?_)
  with_unfolding_all refine wpAny_execs_cons ?_
  repeat walk_at "vn"
  walk_at "vw"
  refine v_pure ?_
  show wpAny _ _ _ _ _ _
  walk_at "vw"
  refine v_pure ?_
  exact hR h' _ (fun b o e => mem_all D' e)
set_option maxHeartbeats 0 in
theorem ff_iterX {w : World} {outer : List Env} {gd : Option (List Code)} {E : Value → Shared → Prop} {s : Shared} {ffA : Addr} {Q : Value → Shared → Prop}
  (X : (KB w.params).In s.heap) (hQ : ∀ h' tk, Heap.StaysIn s.heap h' → Q (.ref ffA) { s with heap := h', toks := tk }) : wpAny (model PR w) (AY 900 9000 outer gd) (call (.ref 43) [.ref ffA]) Q E s := by
  obtain ⟨h, g, d, tk, os⟩ := s
  with_unfolding_all refine' v_call ?hn (ff_iterC X ?hd ?_)
  case hn => (intro h; cases h)
  case hd => exact (show (900 : Nat) < 1000 by decide)
  intro h3 tk3 D3
  with_unfolding_all refine v_back ?_
  with_unfolding_all refine v_pure (a := Value.ref ffA) ?_
  exact hQ h3 _ D3
end Mine
end
section
open PySem PySem.W PyProof.Rows PySem.Calls PySem.MeetsSeq PySem.SeqInW
open Sem (wp)
namespace Mine
local macro_rules | `(tactic| walk_at "pad") => `(tactic| skip)
section
variable {prog : Program} {w : World} {A : Around} {E : Value → Shared → Prop} {s : Shared}
theorem bound_args (l : Addr) (x : Value) : checkBoundCall "list.__contains__" ⟨[.ref l, x], []⟩ = pure () := by
  have ha := PySem.F.args_list_contains_2 (.ref l) x
  have hk : builtinKind "list.__contains__" = some .slot := by decide +kernel
  unfold checkBoundCall
  unfold argsOk at ha
  cases hsig : Manifest.signature? "list.__contains__" with
  | none => rfl
  | some sig =>
    rw [hsig] at ha
    simp only [hk]
    exact ha
def isK (k : Int) : Value → Bool
  | .int i _ => i == k
  | _ => false
theorem any_isK (k : Int) {vs : List Value} {xs : List Int} (h : IntsAre vs xs) : vs.any (isK k) = xs.contains k := by
  induction h with
  | nil => rfl
  | cons n t h ih => simp only [List.any_cons, List.contains_cons, ih, isK]; rw [Bool.beq_comm (a := k)]
theorem bm_call {l bm : Addr} {vs : List Value} {xs : List Int} {n : Nat} {k : Int} {t : Tok} {Q : Value → Shared → Prop}
   (hb : s.heap.get? bm = some (bmObj l)) (hl : s.heap.get? l = some { cls := .type "list", data := .seq vs.toArray n }) (hI : IntsAre vs xs)
   (h : Q (.bool (xs.contains k)) s) : wpAny (model prog w) A (call (.ref bm) [.int k t]) Q E s := by
  refine wpAny_call (codeAny_of_tree ?_)
  show wpAny _ _ (callAny (.ref bm) ⟨[.int k t], []⟩) _ _ s
  unfold callAny
  refine wpAny_bind (wpAny_load hb ?_)
  show wpAny _ _ (checkBoundCall "list.__contains__" ⟨[.ref l, .int k t], []⟩ >>= fun _ => again (.builtin "list.__contains__" ⟨[.ref l, .int k t], []⟩)) _ _ s
  rw [bound_args]
  refine wpAny_bind (wpAny_pure (wpAny_pure ⟨plainId_quiet (by decide +kernel) _, codeAny_builtin PySem.F.entry_list_contains ?_⟩))
  rw [Around.under_plainId (by decide +kernel) _]
  refine list_containsW l vs.toArray n none #[] (.int k t) (isK k) (fun y hy => ?_) _ _ _ _ _ ⟨hl, ?_⟩
  · have hy' : y ∈ vs := by simpa using hy
    obtain ⟨a, u, rfl⟩ := hI.all y hy'
    exact EqGives.int a k u t
  · rw [← Array.any_toList, any_isK k (by simpa using hI)]
    exact h
end
end Mine
end
section
open PySem PySem.W PyProof.Rows PySem.Calls PySem.MeetsSeq PySem.W.X
open Sem (wp)
namespace Mine
section
variable {prog : Program} {w : World} {A : Around} {E : Value → Shared → Prop} {s : Shared}
theorem li_upd {h : Heap} {l li : Addr} {k : Nat} (hi : h.get? li = some (liObj l k)) : (h.update li (Obj.mapFields (·.setIfInBounds 1 (rawInt ((k : Int) + 1))))).get? li = some (liObj l (k + 1)) := by
  rw [Heap.get?_update_self _ hi rfl]; rfl
theorem li_item {l li : Addr} {k : Nat} {items : Array Value} {x : Value} {Q : Value → Shared → Prop} (hi : s.heap.get? li = some (liObj l k)) (hl : s.heap.IsList l items) (hx : items[k]? = some x)
   (hQ : Q x { s with heap := s.heap.update li (Obj.mapFields (·.setIfInBounds 1 (rawInt ((k : Int) + 1)))) }) : wpAny (model prog w) A (call (.builtin "next") [.ref li]) Q E s := by
  have hit : s.TypeIs (.ref li) "list_iterator" := ⟨_, hi, rfl⟩
  obtain ⟨ol, hol, _, nl, hdl⟩ := hl
  refine call_function_entry (by decide +kernel) (by decide +kernel) kdk_entry_next (kdk_args_next _) ?_
  unfold Builtin.«next»
  refine wpAny_bind (m := someArgs "next" 1 2 _) (wpAny_of_eq (a := [Value.ref li]) (by first | rfl | kernel_rfl!) ?_)
  dsimp only
  refine wpAny_bind (wpAny_specialOf (name := Str.ofString "__next__") hit slot_listiter_next.lookup ?_)
  refine wpAny_ite_split (fun hab => absurd hab (by decide)) (fun _ => ?_)
  refine wpAny_bind (wpAny_callSpecial?_slot (name := Str.ofString "__next__") hit slot_listiter_next
    (wpAny_call_entry slot_listiter_next hit entry_listiter_next ?_ (args_listiter_next _)))
  show wpAny _ _ (field (.ref li) 0 >>= _) _ _ s
  refine wpAny_bind (wpAny_field hi rfl (x := .ref l) rfl ?_)
  show wpAny _ _ (if (Value.ref l == Value.none) = true then _ else _) _ _ s
  rw [if_neg (show ¬ ((Value.ref l == Value.none) = true) from Bool.false_ne_true)]
  show wpAny _ _ (field (.ref li) 1 >>= _) _ _ s
  refine wpAny_bind (wpAny_field hi rfl (x := .int k 0) rfl ?_)
  show wpAny _ _ (seqItems? (.ref l) >>= _) _ _ s
  refine wpAny_bind (wpAny_seqItems hol hdl ?_)
  simp only [Int.toNat_natCast, hx]
  exact wpAny_bind (wpAny_setField hi rfl (by simp) (wpAny_pure ⟨x, rfl, wpAny_pure ⟨_, rfl, hQ⟩⟩))

theorem li_end {l li : Addr} {k : Nat} {items : Array Value} {Q : Value → Shared → Prop} (hh : A.handled = none) (hi : s.heap.get? li = some (liObj l k)) (hl : s.heap.IsList l items) (hx : items[k]? = none)
   (hQ : ∀ h1 h' e, h1 = s.heap.update li (Obj.mapFields (·.setIfInBounds 0 Value.none)) → Heap.MadeExcOf h1 h' e (.type "StopIteration") [] → E (.ref e) { s with heap := h' }) : wpAny (model prog w) A (call (.builtin "next") [.ref li]) Q E s := by
  have hit : s.TypeIs (.ref li) "list_iterator" := ⟨_, hi, rfl⟩
  obtain ⟨ol, hol, _, nl, hdl⟩ := hl
  refine call_function_entry (by decide +kernel) (by decide +kernel) kdk_entry_next (kdk_args_next _) ?_
  unfold Builtin.«next»
  refine wpAny_bind (m := someArgs "next" 1 2 _) (wpAny_of_eq (a := [Value.ref li]) (by first | rfl | kernel_rfl!) ?_)
  dsimp only
  refine wpAny_bind (wpAny_specialOf (name := Str.ofString "__next__") hit slot_listiter_next.lookup ?_)
  refine wpAny_ite_split (fun hab => absurd hab (by decide)) (fun _ => ?_)
  refine wpAny_bind (wpAny_callSpecial?_slot (name := Str.ofString "__next__") hit slot_listiter_next
    (wpAny_call_entry slot_listiter_next hit entry_listiter_next ?_ (args_listiter_next _)))
  show wpAny _ _ (field (.ref li) 0 >>= _) _ _ s
  refine wpAny_bind (wpAny_field hi rfl (x := .ref l) rfl ?_)
  show wpAny _ _ (if (Value.ref l == Value.none) = true then _ else _) _ _ s
  rw [if_neg (show ¬ ((Value.ref l == Value.none) = true) from Bool.false_ne_true)]
  show wpAny _ _ (field (.ref li) 1 >>= _) _ _ s
  refine wpAny_bind (wpAny_field hi rfl (x := .int k 0) rfl ?_)
  show wpAny _ _ (seqItems? (.ref l) >>= _) _ _ s
  refine wpAny_bind (wpAny_seqItems hol hdl ?_)
  simp only [Int.toNat_natCast, hx]
  refine wpAny_bind (wpAny_rule (wpAny_bind (wpAny_setField hi rfl (by simp) ?_)))
  show wpAny _ _ (newExc (.type "StopIteration") [] >>= _) _ _ _
  refine wpAny_bind ?_
  simp only [newExc, newTuple]
  refine wpAny_bind (wpAny_newObj_type ?_ (by size_fits))
  refine wpAny_bind (m := firstArgMember _ _) (wpAny_of_eq (a := Value.none) (by first | rfl | (simp only [firstArgMember]; rfl)) ?_)
  refine wpAny_newObj_type ?_ (by size_fits)
  simp only [raiseNew]
  refine wpAny_bind (wpAny_handled ?_)
  rw [show A.in1.in1.handled = none from hh]
  refine wpAny_bind (wpAny_pure (wpAny_throw ?_))
  have e0 : ownMembersOf (Value.type "StopIteration") [] = #[] := by first | rfl | decide +kernel | kernel_rfl
  rw [e0]
  refine hQ _ _ _ rfl ⟨fun b o e => Heap.get?_push_of_some _ (Heap.get?_push_of_some _ e), ?_, _, Heap.get?_push_size _ rfl, ?_, Heap.get?_push_of_some _ (Heap.get?_push_size _ rfl)⟩
  · cases q : (s.heap.update li (Obj.mapFields fun x => x.setIfInBounds 0 Value.none)).get? _ with
    | none => rfl
    | some o => exact absurd (Heap.lt_size q) (by rw [Heap.size_push]; exact Nat.not_lt.mpr (Nat.le_succ _))
  · cases q : (s.heap.update li (Obj.mapFields fun x => x.setIfInBounds 0 Value.none)).get? _ with
    | none => rfl
    | some o => exact absurd (Heap.lt_size q) (Nat.lt_irrefl _)
end
end Mine
end
section
open PySem PySem.W PyProof.Rows PySem.Calls
namespace Mine
local macro_rules | `(tactic| walk_at "pad") => `(tactic| skip)
/-- the frames' addresses -/
abbrev fsOf (outer : List Env) : List Addr := outer.filterMap (·.frame)
/-- all that stood stands, frames of `fs` up to their slots -/
structure Kp (fs : List Addr) (h h' : Heap) : Prop where
  other : ∀ b o, h.get? b = some o → b ∉ fs → h'.get? b = some o
  slots : h.UpToSlots h'

theorem enterH {w : World} {A : Around} {s : Shared} {base : Heap} {outer : List Env} {R : Result → Shared → Prop} {p : Program} {loose : List Str} {mean : ExcName → Option Value} {mg mb : Str → Option Value}
    {name qual : Str} {params : Arguments} {body : List Stmt} {scope : Scope} {dV kV doc pm cdv ct oc : Value} {an od : Option Addr} {osl : Array (Option Value)} {f : Addr} {args : Args} {binds : List (Str × Value)}
    (X : Wld w base) (T : Top p loose mean mg mb base) (B : Below A base outer s.heap) (news : List (Addr × Obj)) (hN : ∀ p ∈ news, s.heap.get? p.1 = some p.2 ∧ base.get? p.1 = none ∧ p.1 ∉ fsOf outer)
    (ho : (hk.heap_39 w.params).lookup f = some ⟨oc, od, .func (fnOf name qual params body scope dV kV doc pm an cdv ct), osl⟩) (hcd : codeIn (hk.heap_39 w.params) cdv qual = true) (hroom : A.depth < recursionLimit)
    (hbind : BindsTo s (fnOf name qual params body scope dV kV doc pm an cdv ct) args binds) (hloc : ∀ y ∈ binds, scope.names.lookup y.1 = some .local)
    (h : ∀ g L' h₁, (∀ b o, g.get? b = some o → s.heap.get? b = some o) → (∀ b o, s.heap.get? b = some o → b ∉ news.map (·.1) → g.get? b = some o) → Fr g L' h₁ (fun y => binds.reverse.lookup y) → News g L' h₁ news → Below A base outer g → (hk.heap_39 w.params).In g → Top p loose mean mg mb g →
      wpAny (model PR w) (A.deeper (envOf qual scope L' f cdv)) (execs body (envOf qual scope L' f cdv))
        (fun fl s' => R (.ok (.ret (match fl with | .ret v => v | _ => .none))) s')
        (fun e s' => wpAny (model PR w) (A.deeper (envOf qual scope L' f cdv)) (leaving (envOf qual scope L' f cdv) e) (fun _ s'' => R (.error e) s'') (fun e' s'' => R (.error e') s'') s')
        { s with heap := h₁, toks := s.toks + binds.length })
    (hco : scope.isCoroutine = false) (hgen : scope.isGenerator = false) (hk : scope.kind = .function) (hcell : ∀ x ∈ scope.names, x.2 ≠ .cell)
     : codeAny (model PR w) A (.call (.ref f) args) R s := by
  have Xs : Wld w s.heap := X.keeps B.stays
  have Ts := T.keeps B.stays
  refine codeAny_call_def (fd := fnOf name qual params body scope dV kV doc pm an cdv ct) (body := body) (binds := binds) hroom (Xs.kk _ _ ho) rfl Ts.nolimit (codeRec_of Xs.kk hcd) rfl hbind hcell hloc (fun h₁ hns hk₁ => ?_) hco hgen hk
  have nb : ∀ b o, base.get? b = some o → b ∉ news.map (·.1) := fun b o e q => by
    obtain ⟨p, hp, rfl⟩ := List.mem_map.mp q
    rw [(hN p hp).2.1] at e; cases e
  have st : base.StaysIn (hideAll s.heap (news.map (·.1))) := fun b o e => hideAll_get _ (B.stays b o e) (nb b o e)
  refine h (hideAll s.heap (news.map (·.1))) s.heap.objs.size h₁ (fun b o e => of_hideAll _ e) (fun b o e n => hideAll_get _ e n) ⟨hns, fun b o e => hk₁ b o (of_hideAll _ e), Nat.le_of_eq (hideAll_size _ _)⟩
    (fun p hp => ⟨hk₁ _ _ (hN p hp).1, Nat.ne_of_lt (Heap.lt_size (hN p hp).1), hideAll_none _ (List.mem_map_of_mem hp)⟩)
    ⟨B.stack, st, funFrames_hideAll B.frames fun env he a ha hf => ?_⟩ (X.keeps st).kk (Top.keeps T (by exact st))
  obtain ⟨p, hp, rfl⟩ := List.mem_map.mp ha
  exact (hN p hp).2.2 (List.mem_filterMap.mpr ⟨env, he, hf⟩)
theorem whl_ind {w : World} {A : Around} {E : Value → Shared → Prop} {env : Env} {test : PySem.Expr} {body orelse : List Stmt} {Q : Flow → Shared → Prop} (hE : PassesOwn (model PR w) A env E) (I : Nat → Shared → Prop)
  (turn : ∀ n s, I n s → (∀ m s', m < n → I m s' → WhlRest PR w A E env test body orelse Q 0 s') →
     wpAny (model PR w) A (isTrue test env (eval test env)) (fun b s₂ => WhlIf b (wpAny (model PR w) A (execs body env) (WhlPost PR w A E env test body orelse Q 0) E s₂) (wpAny (model PR w) A (execs orelse env) Q E s₂)) E s) :
  ∀ n s, I n s → WhlRest PR w A E env test body orelse Q 0 s := by
  intro n
  induction n using Nat.strongRecOn with
  | ind n ih =>
    intro s hI
    have := whl_turn (k := 0) hE (turn n s hI fun m s' hm hI' => ih m hm s' hI')
    exact this
theorem keeps_bm {M : Model} {bm lsk : Addr} (h : Heap) (X : h.get? bm = some (bmObj lsk)) : ∃ k, (k = Keeper.frame ∨ k = Keeper.machine ∨ k = Keeper.boundFrame) ∧ Looks M h (keeperOf (.ref bm)) k :=
  ⟨.machine, .inr (.inl rfl), (Looks.ld (part := none) X).andThen .now⟩
theorem callWith_bm {M : Model} {A : Around} {E : Value → Shared → Prop} {s : Shared} {env : Env} {pos : Pos} {first : List Value} {Q : Value → Shared → Prop} {bm lsk : Addr} {e : PySem.Expr} {rest : List PySem.Expr}
    (h : wpAny M A (spliced (backTo pos (starEach (e :: rest) env))) (fun vs s₁ => s₁.heap.get? bm = some (bmObj lsk) ∧ wpAny M A (call (.ref bm) (first ++ vs)) Q E s₁) E s)
    (he : starEach (e :: rest) env = (false, eval e env) :: starEach rest env := by rfl) (hplain : (backTo pos (starEach rest env)).any (·.1) = false := by rfl) :
    wpAny M A (callWith pos (.ref bm) first (backTo pos (starEach (e :: rest) env)) []) Q E s := by
  rw [he] at h ⊢
  exact callWith_of (by show ((false || (backTo pos (starEach rest env)).any (·.1)) || false) = false; rw [hplain]; rfl) (fun h x => keeps_bm (lsk := lsk) h x) (evalArgs_plain h)
theorem stop_leaves {M : Model} {A : Around} {base g h₁ : Heap} {outer : List Env} {L a e : Addr} {m : Str → Option Value} {name : Str} {scope : Scope} {cd : Value} {cls : Value} {s' : Shared} {Q : Unit → Shared → Prop} {E : Value → Shared → Prop}
    (B : Below A base outer g) (F : Fr g L h₁ m) (hm : Heap.MadeExcOf h₁ s'.heap e cls []) (hk : scope.kind = .function)
    (hQ : ∀ h'', (∀ b o, h₁.get? b = some o → b ≠ L → b ∉ fsOf outer → h''.get? b = some o) → h₁.UpToSlots h'' → (∃ oe, h''.get? e = some oe ∧ oe.cls = cls) → Q () { s' with heap := h'' }) :
    wpAny M (A.deeper (envOf name scope L a cd)) (leaving (envOf name scope L a cd) (.ref e)) Q E s' := by
  have K' := B.push (name := name) (a := a) (cd := cd) F hk
  have hin : ∀ env ∈ (envOf name scope L a cd :: outer), ∀ b, env.frame = some b → b ∈ (envOf name scope L a cd :: outer).filterMap (·.frame) := fun env he b hb => List.mem_filterMap.mpr ⟨env, he, hb⟩
  refine wpAny_leaves_madeW K'.stack rfl (base := hideAll h₁ ((envOf name scope L a cd :: outer).filterMap (·.frame))) (h := h₁) (fun b o q => of_hideAll _ q) (funFrames_hide K'.frames hin) hm fun h' t x1 x2 x3 x4 => hQ h' (fun b o q n1 n2 => ?_) ((Heap.UpToSlots.of_keeps hm.keeps).trans x4) x1.there
  refine x1.1 b o (hideAll_get _ q fun hmem => ?_)
  rcases kts_mem hmem with z | z
  · exact n1 z
  · exact n2 z
theorem frames_at {h h' base : Heap} : ∀ {l : List Env}, (∀ b ∈ fsOf l, ∀ o, h.get? b = some o → ∃ o', h'.get? b = some o' ∧ o'.data = o.data) → h.FunFrames base l → h'.FunFrames base l
  | [], _, _ => trivial
  | env :: r, k, ⟨hk, ⟨L, o, hf, hn, ho, hd⟩, hr⟩ => by
    obtain ⟨o', h1, h2⟩ := k L (List.mem_filterMap.mpr ⟨env, .head _, hf⟩) o ho
    refine ⟨hk, ⟨L, o', hf, hn, h1, by rw [h2]; exact hd⟩, frames_at (fun b hb => k b ?_) hr⟩
    obtain ⟨e, he, hf'⟩ := List.mem_filterMap.mp hb
    exact List.mem_filterMap.mpr ⟨e, .tail _ he, hf'⟩
/-- a pause of the walk -/
def Halt (P : Prop) : Prop := P
theorem Halt.out {P : Prop} (h : Halt P) : P := h
theorem li_next {w : World} {A : Around} {E : Value → Shared → Prop} {s : Shared} {g : Heap} {L ff li dx l : Addr} {o1 o3 : Obj} {m : Str → Option Value} {vs : List Value} {xs : List Int} {nv k : Nat} {Q : Value → Shared → Prop}
  (F : Fr g L s.heap m) (N : News g L s.heap [(ff, o1), (li, liObj l k), (dx, o3)]) (n1 : ff ≠ li) (n2 : dx ≠ li) (hh : A.handled = none) (hl : g.get? l = some { cls := .type "list", data := .seq vs.toArray nv }) (hI : IntsAre vs xs)
  (h1 : ∀ n t h', xs[k]? = some n → Fr g L h' m → News g L h' [(ff, o1), (li, liObj l (k + 1)), (dx, o3)] → Q (.int n t) { s with heap := h' })
  (h2 : xs[k]? = none → ∀ h₁ h' e, Fr g L h₁ m → (∀ p ∈ [(ff, o1), (dx, o3)], h₁.get? p.1 = some p.2) → (∀ b o, b ≠ li → s.heap.get? b = some o → h₁.get? b = some o) → Heap.MadeExcOf h₁ h' e (.type "StopIteration") [] → E (.ref e) { s with heap := h' }) :
  wpAny (model PR w) A (call (.builtin "next") [.ref li]) Q E s := by
  have hli := (N (li, liObj l k) (by simp)).1
  have hff := (N (ff, o1) (by simp)).1
  have hdx := (N (dx, o3) (by simp)).1
  have hls : s.heap.IsList l vs.toArray := ⟨_, F.keep _ _ hl, rfl, _, rfl⟩
  have nL := (N (li, liObj l k) (by simp)).2.1
  have ng := (N (li, liObj l k) (by simp)).2.2
  have lenEq : vs.length = xs.length := hI.length
  have Fu : ∀ f, Fr g L (s.heap.update li f) m := fun f => F.change (Heap.SameBut.update ..) nL ng
  cases hx : vs[k]? with
  | some v =>
    obtain ⟨n, t, rfl, hn⟩ := hI.at k v hx
    refine li_item hli hls (x := .int n t) (by simpa using hx) (h1 n t _ hn (Fu _) fun p hp => ?_)
    simp only [List.mem_cons, List.not_mem_nil, or_false] at hp
    rcases hp with rfl | rfl | rfl
    · exact ⟨(Heap.get?_update_other _ _ (Ne.symm n1)).trans hff, (N (ff, o1) (by simp)).2⟩
    · exact ⟨li_upd hli, nL, ng⟩
    · exact ⟨(Heap.get?_update_other _ _ (Ne.symm n2)).trans hdx, (N (dx, o3) (by simp)).2⟩
  | none =>
    refine li_end hh hli hls (by simpa using hx) fun h₁ h' e e1 hm => ?_
    subst e1
    have hn : xs[k]? = none := by
      rw [List.getElem?_eq_none_iff] at hx ⊢
      lia
    refine h2 hn _ h' e (Fu _) (fun p hp => ?_) (fun b o hb q => (Heap.get?_update_other _ _ (Ne.symm hb)).trans q) hm
    simp only [List.mem_cons, List.not_mem_nil, or_false] at hp
    rcases hp with rfl | rfl
    · exact (Heap.get?_update_other _ _ (Ne.symm n1)).trans hff
    · exact (Heap.get?_update_other _ _ (Ne.symm n2)).trans hdx
end Mine
end
section
namespace Mine
/-- the figures of xs that are not in ys -/
def kept (ys xs : List Int) : List Int := xs.filter fun x => !ys.contains x
abbrev Told := List (List Int × Int)
/-- one turn of the hanging -/
def hangStep (s : List Int × List Int × Told) (f : Int) : List Int × List Int × Told :=
  (kept ((kept s.2.1 s.1).take 1) s.1, s.2.1.drop 1, s.2.2 ++ [(kept s.2.1 s.1, f)])
def forestOf (others row : List Int) : Told := (row.foldl hangStep (others, row, [])).2.2
theorem kept_le (ys xs : List Int) : (kept ys xs).length ≤ xs.length := List.length_filter_le _ _
theorem hang_len (row : List Int) : ∀ s : List Int × List Int × Told, (row.foldl hangStep s).1.length ≤ s.1.length ∧ (row.foldl hangStep s).2.1.length ≤ s.2.1.length ∧ (row.foldl hangStep s).2.2.length = s.2.2.length + row.length := by
  induction row with
  | nil => intro s; exact ⟨Nat.le_refl _, Nat.le_refl _, rfl⟩
  | cons f r ih =>
    intro s
    rw [List.foldl_cons]
    obtain ⟨h1, h2, h3⟩ := ih (hangStep s f)
    refine ⟨Nat.le_trans h1 (kept_le _ _), Nat.le_trans h2 ?_, ?_⟩
    · simp [hangStep]
    · rw [h3]; simp [hangStep]; lia
def upd (a : Int → Int) (k v : Int) : Int → Int := fun x => if x = k then v else a x
/-- how often each figure is hung on -/
def armsOf (fh : Int → Int) (l : List Int) : Int → Int := l.foldl (fun a one => upd a (fh one) (a (fh one) + 1)) (fun _ => 0)
def takeStep (others : List Int) (fh : Int → Int) (s : (Int → Int) × Told) : (Int → Int) × Told :=
  let ends := others.filter fun one => s.1 one == 0
  let e := ends.headD 0
  let a1 := upd s.1 e (-1)
  (upd a1 (fh e) (a1 (fh e) - 1), s.2 ++ [(ends, fh e)])
def takeN (others : List Int) (fh : Int → Int) : Nat → (Int → Int) × Told
  | 0 => (armsOf fh others, [])
  | j + 1 => takeStep others fh (takeN others fh j)
def takenOf (others : List Int) (fh : Int → Int) : Told := (takeN others fh others.length).2
end Mine
end
section
open PySem PySem.W PyProof.Rows PySem.Calls
namespace Mine
local macro_rules | `(tactic| walk_at "pad") => `(tactic| skip)
def kf (_ : OpenLaw) (_ : Params → Frag) : Prop := True
theorem kfill : kf PySem.Challenge.rw_kt0003_01 hk.heap_39 := by
  k_fill
  trivial
theorem kept_skip {ys xs : List Int} {k : Nat} {n : Int} (h : xs[k]? = some n) (c : ys.contains n = true) : kept ys (xs.drop k) = kept ys (xs.drop (k + 1)) := by
  obtain ⟨hk, e⟩ := List.getElem?_eq_some_iff.mp h
  rw [List.drop_eq_getElem_cons hk, kept, List.filter_cons, e, c]; rfl
theorem kept_take {ys xs : List Int} {k : Nat} {n : Int} (h : xs[k]? = some n) (c : ys.contains n = false) : kept ys (xs.drop k) = n :: kept ys (xs.drop (k + 1)) := by
  obtain ⟨hk, e⟩ := List.getElem?_eq_some_iff.mp h
  rw [List.drop_eq_getElem_cons hk, kept, List.filter_cons, e, c]; rfl
theorem kept_none {ys xs : List Int} {k : Nat} (h : xs[k]? = none) : kept ys (xs.drop k) = [] := by
  rw [List.drop_eq_nil_of_le (List.getElem?_eq_none_iff.mp h)]; rfl
theorem get_lt {xs : List Int} {k : Nat} {n : Int} (h : xs[k]? = some n) : k < xs.length := (List.getElem?_eq_some_iff.mp h).1
section
local macro_rules | `(tactic| walk_at "exec While Constant cons nil") => `(tactic| (k_here; refine whl_start 0 (Halt.out ?_)))
local macro_rules | `(tactic| walk_at "WhlRest") => `(tactic| (k_here; refine Halt.out ?_))
local macro_rules | `(tactic| walk_at "call builtin:next") => `(tactic| (k_here; refine' li_next (nv := nv) (vs := vs) (xs := xs) ?F ?N ?n1 ?n2 rfl hlg hI ?_ ?_; (case F => k_asm); (case N => k_asm); (case n1 => exact hn1); (case n2 => exact hn2); k_whole))
local macro_rules | `(tactic| walk_at "call ref") => `(tactic| (k_here; refine bm_call (by exact Fr.keep (by k_asm) _ _ hbg) (by exact Fr.keep (by k_asm) _ _ hlg') hJ ?_))
local macro_rules | `(tactic| walk_at "eval Name") => `(tactic| (k_here; name_kind "local"; refine' ld ?F ?hv ?_ ?c1 ?c2 ?c3; (case F => k_asm); (case hv => first | exact ms | exact mf | (dsimp only; rw [if_neg (by decide)]; exact mf)); (case c1 => rfl); (case c2 => rfl); (case c3 => decide)))
local macro_rules | `(tactic| walk_at "callWith ref") => `(tactic| (k_here; refine callWith_bm (lsk := lsk) ?_))
set_option maxHeartbeats 1000000 in
theorem ffnext {w : World} {outer : List Env} {gd : Option (List Code)} {s : Shared} {base : Heap} {p : Program} {loose : List Str} {mean : ExcName → Option Value} {mg mb : Str → Option Value}
  {ff li dx bm l lsk : Addr} {vs us : List Value} {xs ys : List Int} {nv nu k : Nat} {R : Result → Shared → Prop}
  (X : Wld w base) (T : Top p loose mean mg mb base) (B : Below (AY 800 8000 outer gd) base outer s.heap)
  (hN : ∀ p ∈ [(ff, ffObj li bm dx), (li, liObj l k), (dx, dictOf [] 0)], s.heap.get? p.1 = some p.2 ∧ base.get? p.1 = none ∧ p.1 ∉ fsOf outer) (hn1 : ff ≠ li) (hn2 : dx ≠ li)
  (hbm : s.heap.get? bm = some (bmObj lsk)) (b1 : bm ≠ ff) (b2 : bm ≠ li) (b3 : bm ≠ dx)
  (hl : s.heap.get? l = some { cls := .type "list", data := .seq vs.toArray nv }) (hI : IntsAre vs xs) (l1 : l ≠ ff) (l2 : l ≠ li) (l3 : l ≠ dx)
  (hl' : s.heap.get? lsk = some { cls := .type "list", data := .seq us.toArray nu }) (hJ : IntsAre us ys) (s1 : lsk ≠ ff) (s2 : lsk ≠ li) (s3 : lsk ≠ dx)
  (hItem : ∀ j n t h' tk, kept ys (xs.drop k) = n :: kept ys (xs.drop (j + 1)) → (∀ b o, b ≠ li → s.heap.get? b = some o → h'.get? b = some o) → h'.get? li = some (liObj l (j + 1)) → R (.ok (.ret (.int n t))) { s with heap := h', toks := tk })
  (hEnd : kept ys (xs.drop k) = [] → ∀ h' e tk oe, (∀ b o, s.heap.get? b = some o → b ∉ li :: fsOf outer → h'.get? b = some o) → (∀ b o, b ≠ li → s.heap.get? b = some o → (∀ vs, o.data ≠ .fields vs) → ∃ sl, h'.get? b = some { o with slots := sl }) →
    h'.get? e = some oe → oe.cls = .type "StopIteration" → R (.error (.ref e)) { s with heap := h', toks := tk }) : codeAny (model PR w) (AY 800 8000 outer gd) (.call (.ref 50) ⟨[.ref ff], []⟩) R s := by
  refine' enterH X T B [(ff, ffObj li bm dx), (li, liObj l k), (dx, dictOf [] 0)] hN ?k6 ?k7 ?k8 ?k9 ?kB ?_ ?c2 ?c3 ?c4 ?c5
  case k6 => k_is
  case k7 => k_is
  case k8 => exact (show (800 : Nat) < 1000 by decide)
  case k9 => exact BindsTo.of_eq rfl
  case kB => exact locs rfl
  case c5 => decide
  case c2 => exact rfl
  case c3 => exact rfl
  case c4 => exact rfl
  intro g L h₁ hg1 hg2 F N B' X' T'
  k_whole
  have hbg := hg2 bm _ hbm (by simp [b1, b2, b3])
  have hlg := hg2 l _ hl (by simp [l1, l2, l3])
  have hlg' := hg2 lsk _ hl' (by simp [s1, s2, s3])
  w_on
  k_steps
  rename Fr _ _ _ _ => F₁
  rename News _ _ _ _ => N₁
  show WhlRest _ _ _ _ _ _ _ _ _ _ _
  refine whl_ind (by passes_own) (fun n s' => ∃ k' m', kept ys (xs.drop k') = kept ys (xs.drop k) ∧ k ≤ k' ∧ xs.length - k' = n ∧ s'.gens = s.gens ∧ s'.drawn = s.drawn ∧ s'.os = s.os ∧ Fr g L s'.heap m' ∧ News g L s'.heap [(ff, ffObj li bm dx), (li, liObj l k'), (dx, dictOf [] 0)] ∧ m' "func" = some (.ref bm) ∧ m' "self" = some (.ref ff)) ?_ (xs.length - k) _ ⟨k, _, rfl, Nat.le_refl _, rfl, rfl, rfl, rfl, F₁, N₁, rfl, rfl⟩
  clear F₁ N₁
  intro n s₂ ⟨k', m', e1, e2, e3, e4, e5, e6, F, N, mf, ms⟩ ih
  k_steps
  · rename ys.contains _ = true => hc
    rename xs[k']? = some _ => hx
    have hlt := get_lt hx
    refine ih (xs.length - (k' + 1)) _ (by omega) ⟨k' + 1, _, (kept_skip hx hc).symm.trans e1, by omega, rfl, e4, e5, e6, by assumption, by assumption, ?_, ?_⟩
    · rw [if_neg (by decide)]; exact mf
    · rw [if_neg (by decide)]; exact ms
  · rename ys.contains _ = false => hc
    rename xs[k']? = some _ => hx
    rename Fr _ _ _ _ => F₁
    rename News _ _ _ _ => N₁
    rw [e4, e5, e6]
    refine hItem k' _ _ _ _ (e1.symm.trans (kept_take hx hc)) (fun b o hb e => ?_) (N₁ (li, liObj l (k' + 1)) (by simp)).1
    by_cases h1 : b = ff
    · subst h1
      have := (hN (b, ffObj li bm dx) (by simp)).1
      rw [e] at this; cases this
      exact (N₁ (b, ffObj li bm dx) (by simp)).1
    · by_cases h2 : b = dx
      · subst h2
        have := (hN (b, dictOf [] 0) (by simp)).1
        rw [e] at this; cases this
        exact (N₁ (b, dictOf [] 0) (by simp)).1
      · exact F₁.keep _ _ (hg2 b o e (by simp [h1, hb, h2]))
  · rename xs[k']? = none => hx
    rename Heap.MadeExcOf _ _ _ _ _ => hm
    rename Fr _ _ _ _ => F₁
    rename ∀ p ∈ [(ff, ffObj li bm dx), (dx, dictOf [] 0)], _ => hp
    rename ∀ b o, b ≠ li → _ => hk
    have sk : ∀ b o, b ≠ li → s.heap.get? b = some o → b ≠ L ∧ s₂.heap.get? b = some o := fun b o hb e => by
      by_cases h1 : b = ff
      · subst h1
        have := (hN (b, ffObj li bm dx) (by simp)).1
        rw [e] at this; cases this
        exact ⟨(N (b, ffObj li bm dx) (by simp)).2.1, (N (b, ffObj li bm dx) (by simp)).1⟩
      · by_cases h2 : b = dx
        · subst h2
          have := (hN (b, dictOf [] 0) (by simp)).1
          rw [e] at this; cases this
          exact ⟨(N (b, dictOf [] 0) (by simp)).2.1, (N (b, dictOf [] 0) (by simp)).1⟩
        · have hg := hg2 b o e (by simp [h1, hb, h2])
          refine ⟨fun z => ?_, F.keep _ _ hg⟩
          rw [z, kts_self F] at hg
          cases hg
    refine stop_leaves B' F₁ hm rfl fun h'' x1 x2 x3 => ?_
    obtain ⟨oe, y1, y2⟩ := x3
    dsimp only
    rw [e4, e5, e6]
    refine hEnd (e1.symm.trans (kept_none hx)) h'' _ _ oe (fun b o e hb => ?_) (fun b o hb e hn => ?_) y1 y2
    · have hb' : b ≠ li ∧ b ∉ fsOf outer := by
        constructor
        · exact fun z => hb (by rw [z]; exact List.mem_cons_self)
        · exact fun z => hb (List.mem_cons_of_mem _ z)
      obtain ⟨z1, z2⟩ := sk b o hb'.1 e
      exact x1 b o (hk b o hb'.1 z2) z1 hb'.2
    · exact x2 b o (hk b o hb (sk b o hb e).2) hn
end
end Mine
end
section
open PySem PySem.W PyProof.Rows PySem.Calls
namespace Mine
structure FFh (h : Heap) (ff li dx bm l lsk S : Addr) (vs us : List Value) (nv nu k : Nat) (acc : Array Value) (c : Nat) : Prop where
  ff : h.get? ff = some (ffObj li bm dx)
  li : h.get? li = some (liObj l k)
  dx : h.get? dx = some (dictOf [] 0)
  bm : h.get? bm = some (bmObj lsk)
  l : h.get? l = some { cls := .type "list", data := .seq vs.toArray nv }
  lsk : h.get? lsk = some { cls := .type "list", data := .seq us.toArray nu }
  S : h.get? S = some { cls := .type "list", data := .seq acc c }
structure FFd (base : Heap) (outer : List Env) (ff li dx bm l lsk S : Addr) : Prop where
  n1 : ff ≠ li
  n2 : dx ≠ li
  b1 : bm ≠ ff
  b2 : bm ≠ li
  b3 : bm ≠ dx
  l1 : l ≠ ff
  l2 : l ≠ li
  l3 : l ≠ dx
  s1 : lsk ≠ ff
  s2 : lsk ≠ li
  s3 : lsk ≠ dx
  S1 : S ≠ ff
  S2 : S ≠ li
  S3 : S ≠ dx
  S4 : S ≠ bm
  S5 : S ≠ l
  S6 : S ≠ lsk
  base_none : ∀ b ∈ [ff, li, dx, S], base.get? b = none
  frames : ∀ b ∈ [ff, li, dx, S], b ∉ fsOf outer
section
variable {w : World} {outer : List Env} {gd : Option (List Code)} {base : Heap} {p : Program} {loose : List Str} {mean : ExcName → Option Value} {mg mb : Str → Option Value}
  {ff li dx bm l lsk S : Addr} {vs us : List Value} {xs ys : List Int} {nv nu : Nat}

theorem ff_pyNext {s : Shared} {k c : Nat} {acc : Array Value} {Q : Option Value → Shared → Prop} {E : Value → Shared → Prop} {A : Around} (hA1 : A.handled = none) (hA2 : A.frames = some outer) (hA3 : A.depth ≤ 800) (hA4 : A.units ≤ 8000)
  (X : Wld w base) (T : Top p loose mean mg mb base) (B : Below A base outer s.heap) (D : FFd base outer ff li dx bm l lsk S) (H : FFh s.heap ff li dx bm l lsk S vs us nv nu k acc c) (hI : IntsAre vs xs) (hJ : IntsAre us ys)
  (hItem : ∀ j n t h' tk, kept ys (xs.drop k) = n :: kept ys (xs.drop (j + 1)) → (∀ b o, b ≠ li → s.heap.get? b = some o → h'.get? b = some o) → h'.get? li = some (liObj l (j + 1)) → Q (some (.int n t)) { s with heap := h', toks := tk })
  (hEnd : kept ys (xs.drop k) = [] → ∀ h' tk, (∀ b o, s.heap.get? b = some o → b ∉ li :: fsOf outer → h'.get? b = some o) → (∀ b o, b ≠ li → s.heap.get? b = some o → (∀ vs, o.data ≠ .fields vs) → ∃ sl, h'.get? b = some { o with slots := sl }) →
    Q none { s with heap := h', toks := tk }) : wpAny (model PR w) A (pyNext (.ref ff)) Q E s := by
  have Xs : Wld w s.heap := X.keeps B.stays
  have I : InstAt s.heap ff (ffObj li bm dx) 54 (some (dictOf [] 0)) := ⟨H.ff, rfl, rfl, H.dx⟩
  unfold pyNext
  refine wpAny_bind (wpAny_attempt (special_fn (name := "__next__") (args := []) Xs.kk I (f := 50) (by k_is) (by k_is) ?_))
  refine wpAny_call (code_lift hA1 hA2 hA3 hA4 ?_)
  refine ffnext (k := k) (xs := xs) (ys := ys) X T ⟨rfl, B.stays, B.frames⟩ ?_ D.n1 D.n2 H.bm D.b1 D.b2 D.b3 H.l hI D.l1 D.l2 D.l3 H.lsk hJ D.s1 D.s2 D.s3 (fun j n t h' tk e k1 k2 => ?_) (fun e h' ex tk oe k1 k2 k3 k4 => ?_)
  · intro q hq
    simp only [List.mem_cons, List.not_mem_nil, or_false] at hq
    rcases hq with rfl | rfl | rfl
    · exact ⟨H.ff, D.base_none _ (by simp), D.frames _ (by simp)⟩
    · exact ⟨H.li, D.base_none _ (by simp), D.frames _ (by simp)⟩
    · exact ⟨H.dx, D.base_none _ (by simp), D.frames _ (by simp)⟩
  · exact wpAny_pure (hItem j n t h' tk e k1 k2)
  · refine wpAny_bind (wpAny_isInstance (T := "StopIteration") (b := true) ⟨oe, k3, k4⟩ isSubtype_stop ?_)
    exact wpAny_pure (hEnd e h' tk k1 k2)

theorem ff_extend (X : Wld w base) (T : Top p loose mean mg mb base) (D : FFd base outer ff li dx bm l lsk S) (hI : IntsAre vs xs) (hJ : IntsAre us ys) {A : Around} (hA1 : A.handled = none) (hA2 : A.frames = some outer) (hA3 : A.depth ≤ 800) (hA4 : A.units ≤ 7900) {R : Result → Shared → Prop} (hlen : xs.length ≤ 1000) :
  ∀ (n k : Nat) (s : Shared) (acc : Array Value) (c : Nat), (kept ys (xs.drop k)).length = n → acc.size + n ≤ 1000 → base.StaysIn s.heap → s.heap.FunFrames base outer → FFh s.heap ff li dx bm l lsk S vs us nv nu k acc c →
  (∀ h' tk (ws : List Value) c', IntsAre ws (kept ys (xs.drop k)) → h'.get? S = some { cls := .type "list", data := .seq (acc.toList ++ ws).toArray c' } → (∀ b o, s.heap.get? b = some o → b ∉ S :: li :: fsOf outer → h'.get? b = some o) →
     (∀ b o, b ≠ li → b ≠ S → s.heap.get? b = some o → (∀ vs, o.data ≠ .fields vs) → ∃ sl, h'.get? b = some { o with slots := sl }) → R (.ok (.ret .none)) { s with heap := h', toks := tk }) →
  codeAny (model PR w) A (.builtin "list.extend.loop" ⟨[.ref S, .ref ff, .none], []⟩) R s := by
  intro n
  induction n with
  | zero =>
    intro k s acc c hn hacc st fr H hR
    refine codeAny_builtin PySem.F.entry_extend_loop ?_
    rw [Around.under_plainId PySem.F.plain_extend_loop _]
    show wpAny _ A.in1 (pyNext (.ref ff) >>= _) _ _ s
    have hnil : kept ys (xs.drop k) = [] := List.length_eq_zero_iff.mp hn
    refine wpAny_bind (ff_pyNext (A := A.in1) (xs := xs) (ys := ys) hA1 hA2 hA3 (Nat.le_trans (Nat.add_le_add_right hA4 1) (by decide)) X T ⟨hA2, st, fr⟩ D H hI hJ (fun j n t h' tk e => ?_) (fun e h' tk k1 k2 => ?_))
    · rw [hnil] at e; cases e
    · refine wpAny_pure (hR h' tk [] c (by rw [hnil]; exact .nil) ?_ (fun b o e hb => ?_) (fun b o h1 h2 e hn => k2 b o h1 e hn))
      · rw [List.append_nil]
        refine k1 S _ H.S fun hm => ?_
        rcases List.mem_cons.mp hm with z | z
        · exact D.S2 z
        · exact D.frames S (by simp) z
      · exact k1 b o e fun hm => hb (List.mem_cons_of_mem _ hm)
  | succ n ih =>
    intro k s acc c hn hacc st fr H hR
    refine codeAny_builtin PySem.F.entry_extend_loop ?_
    rw [Around.under_plainId PySem.F.plain_extend_loop _]
    show wpAny _ A.in1 (pyNext (.ref ff) >>= _) _ _ s
    refine wpAny_bind (ff_pyNext (A := A.in1) (xs := xs) (ys := ys) hA1 hA2 hA3 (Nat.le_trans (Nat.add_le_add_right hA4 1) (by decide)) X T ⟨hA2, st, fr⟩ D H hI hJ (fun j n' t h' tk e k1 k2 => ?_) (fun e h' tk k1 k2 => ?_))
    · have hS := k1 S _ D.S2 H.S
      show wpAny _ A.in1 (updateSeq S (·.push (.int n' t)) >>= _) _ _ _
      refine wpAny_bind ?_
      have up : ∀ b o, b ≠ S → h'.get? b = some o → (h'.update S (Obj.mapSeq (·.push (.int n' t)))).get? b = some o := fun b o hb q => (Heap.get?_update_other _ _ (Ne.symm hb)).trans q
      have upS : (h'.update S (Obj.mapSeq (·.push (.int n' t)))).get? S = some { cls := .type "list", data := .seq (acc.push (.int n' t)) (c + 1) } := by
        rw [Heap.get?_update_self _ hS rfl]
        simp [Obj.mapSeq]
      have hlen2 : (kept ys (xs.drop (j + 1))).length = n := by rw [e] at hn; simpa using hn
      have keepA : ∀ b o, s.heap.get? b = some o → b ≠ li → b ≠ S → (h'.update S (Obj.mapSeq (·.push (.int n' t)))).get? b = some o := fun b o q h1 h2 => up b o h2 (k1 b o h1 q)
      refine wpAny_updateSeq hS rfl (wpAny_pure ⟨plainId_quiet PySem.F.plain_extend_loop _, ih (j + 1) _ (acc.push (.int n' t)) _ hlen2 (by rw [Array.size_push]; lia) (fun b o q => ?_) (frames_at (fun b q o hd => ?_) fr) ⟨keepA _ _ H.ff D.n1 (Ne.symm D.S1), up _ _ (Ne.symm D.S2) k2, keepA _ _ H.dx D.n2 (Ne.symm D.S3), keepA _ _ H.bm D.b2 (Ne.symm D.S4), keepA _ _ H.l D.l2 (Ne.symm D.S5), keepA _ _ H.lsk D.s2 (Ne.symm D.S6), upS⟩ (fun h'' tk' ws c' i1 i2 i3 i4 => ?_)⟩) ?_ ?_
      · refine keepA b o (st b o q) (fun z => ?_) (fun z => ?_)
        · have := D.base_none li (by simp); rw [z, this] at q; cases q
        · have := D.base_none S (by simp); rw [z, this] at q; cases q
      · exact ⟨o, keepA b o hd (fun z => D.frames li (by simp) (z ▸ q)) (fun z => D.frames S (by simp) (z ▸ q)), rfl⟩
      · refine hR h'' tk' (.int n' t :: ws) c' (by rw [e]; exact .cons _ _ i1) ?_ (fun b o q hb => ?_) (fun b o h1 h2 q hd => ?_)
        · rw [i2]; simp
        · have hb' : b ≠ S ∧ b ≠ li := ⟨fun z => hb (by rw [z]; simp), fun z => hb (by rw [z]; simp)⟩
          exact i3 b o (keepA b o q hb'.2 hb'.1) hb
        · exact i4 b o h1 h2 (keepA b o q h1 h2) hd
      · rw [sizeLine_eq]; lia
      · show (acc.push (.int n' t)).size ≤ sizeLine + 1
        rw [Array.size_push, sizeLine_eq]; lia
    · rw [e] at hn; cases hn
end
end Mine
end
section
open PySem PySem.W PyProof.Rows PySem.Calls PySem.W.X
namespace Mine
local macro_rules | `(tactic| walk_at "pad") => `(tactic| skip)
section
variable {w : World} {A : Around} {outer : List Env} {g : Heap} {L : Addr} {m : Str → Option Value} {s : Shared}
theorem ff_pyIter {ff li bm dx : Addr} {Q : Value → Shared → Prop} {E : Value → Shared → Prop} (hA1 : A.handled = none) (hA2 : A.frames = some outer) (hA3 : A.depth ≤ 900) (hA4 : A.units ≤ 9000)
  (Xs : Wld w s.heap) (F : Fr g L s.heap m) (X' : (hk.heap_39 w.params).In g) (hff : s.heap.get? ff = some (ffObj li bm dx)) (hdx : s.heap.get? dx = some (dictOf [] 0))
  (hQ : ∀ h' tk, Heap.StaysIn s.heap h' → Fr g L h' m → Q (.ref ff) { s with heap := h', toks := tk }) : wpAny (model PR w) A (pyIter (.ref ff)) Q E s := by
  have I : InstAt s.heap ff (ffObj li bm dx) 54 (some (dictOf [] 0)) := ⟨hff, rfl, rfl, hdx⟩
  refine owit_iter F X' I (f := 43) (by k_is) (by k_is) (wp_lift hA1 hA2 hA3 hA4 (ff_iterX Xs.xb fun h' tk k => ?_))
  have F' : Fr g L h' m := F.keeps k
  have I' : InstAt h' ff (ffObj li bm dx) 54 (some (dictOf [] 0)) := ⟨k _ _ hff, rfl, rfl, k _ _ hdx⟩
  exact owit_it (g := .ref 50) (s := { s with heap := h', toks := tk }) F' X' I' (by k_is) (hQ h' tk k F')
theorem ff_hint {ff li bm dx : Addr} {Q : Bool → Shared → Prop} {E : Value → Shared → Prop} (Xs : (hk.heap_39 w.params).In s.heap) (hff : s.heap.get? ff = some (ffObj li bm dx)) (hdx : s.heap.get? dx = some (dictOf [] 0))
  (hQ : Q true s) : wpAny (model PR w) A (Builtin.List.listLengthHint (.ref ff)) Q E s := by
  have I : InstAt s.heap ff (ffObj li bm dx) 54 (some (dictOf [] 0)) := ⟨hff, rfl, rfl, hdx⟩
  unfold Builtin.List.listLengthHint
  refine wpAny_bind (wpAny_bind (I.type.here ((looks_findIn Xs (r := none) (by k_is)).here ?_)))
  show wpAny _ _ (specialOf (.ref ff) "__length_hint__" >>= _) Q E s
  refine wpAny_bind (wpAny_bind (I.type.here ((looks_findIn Xs (r := none) (by k_is)).here ?_)))
  exact wpAny_pure hQ
variable {base : Heap} {p : Program} {loose : List Str} {mean : ExcName → Option Value} {mg mb : Str → Option Value}
  {ff li dx bm l lsk : Addr} {vs us : List Value} {xs ys : List Int} {nv nu : Nat}
theorem call_list_ff {Q : Value → Shared → Prop} {E : Value → Shared → Prop} (hA1 : A.handled = none) (hA2 : A.frames = some outer) (hA3 : A.depth ≤ 800) (hA4 : A.units ≤ 7800)
  (X : Wld w base) (T : Top p loose mean mg mb base) (B : Below A base outer s.heap) (F : Fr g L s.heap m) (X' : (hk.heap_39 w.params).In g)
  (D : FFd base outer ff li dx bm l lsk s.heap.objs.size) (hI : IntsAre vs xs) (hJ : IntsAre us ys) (hlen : xs.length ≤ 1000)
  (hff : s.heap.get? ff = some (ffObj li bm dx)) (hli : s.heap.get? li = some (liObj l 0)) (hdx : s.heap.get? dx = some (dictOf [] 0)) (hbm : s.heap.get? bm = some (bmObj lsk))
  (hl : s.heap.get? l = some { cls := .type "list", data := .seq vs.toArray nv }) (hlk : s.heap.get? lsk = some { cls := .type "list", data := .seq us.toArray nu })
  (hQ : ∀ h' tk (ws : List Value) c', IntsAre ws (kept ys xs) → h'.get? s.heap.objs.size = some { cls := .type "list", data := .seq ws.toArray c' } → (∀ b o, s.heap.get? b = some o → b ∉ li :: fsOf outer → h'.get? b = some o) →
     (∀ b o, b ≠ li → s.heap.get? b = some o → (∀ vs, o.data ≠ .fields vs) → ∃ sl, h'.get? b = some { o with slots := sl }) → Q (.ref s.heap.objs.size) { s with heap := h', toks := tk }) :
  wpAny (model PR w) A (call (.type "list") [.ref ff]) Q E s := by
  refine callType_codes (Q₁ := fun obj s₁ => obj = .ref s.heap.objs.size ∧ s₁ = { s with heap := s.heap.push { cls := .type "list", data := .seq #[] } }) PySem.F.called_list (PySem.F.typeCall_list_1 _) PySem.F.entry_list_init
    (code_list_new _ ⟨rfl, rfl⟩) fun obj s₁ h₁ => ?_
  obtain ⟨rfl, rfl⟩ := h₁
  have hS : (s.heap.push { cls := .type "list", data := .seq #[] }).get? s.heap.objs.size = some { cls := .type "list", data := .seq #[] } := Heap.get?_push_size _ rfl
  refine ⟨⟨_, hS, rfl⟩, PySem.F.args_list_init_2 _ _, ?_⟩
  generalize hSd : s.heap.objs.size = S at *
  have old : ∀ b o, s.heap.get? b = some o → b ≠ S := fun b o e z => by
    have := Heap.lt_size e
    rw [z, hSd] at this
    exact absurd this (Nat.lt_irrefl _)
  show wpAny _ _ (do let old ← Builtin.List.listItems (.ref S); Builtin.List.listUpdate (.ref S) (fun _ => #[]); letGo old.toList.reverse; Builtin.List.listExtendWith (.ref S) (.ref ff) .none) _ _ _
  refine wpAny_bind ?_
  unfold Builtin.List.listItems
  refine wpAny_bind (wpAny_seqItems hS rfl (wpAny_pure ?_))
  show wpAny _ _ (updateSeq S (fun _ => #[]) >>= fun _ => letGo (#[] : Array Value).toList.reverse >>= fun _ => Builtin.List.listExtendWith (.ref S) (.ref ff) .none) _ _ _
  refine wpAny_bind (wpAny_updateSeq hS rfl ?_)
  have hS₂ := Heap.get?_update_self (Obj.mapSeq (fun _ => (#[] : Array Value))) hS rfl
  generalize hh1 : (s.heap.push { cls := .type "list", data := .seq #[] }).update S (Obj.mapSeq (fun _ => (#[] : Array Value))) = h₁ at *
  have k1 : ∀ b o, s.heap.get? b = some o → h₁.get? b = some o := fun b o e => by
    rw [← hh1]
    exact (Heap.get?_update_other _ _ (Ne.symm (old b o e))).trans (Heap.get?_push_of_some _ e)
  have F₁ : Fr g L h₁ m := F.keeps k1
  refine wpAny_bind (wpAny_letGo ?_)
  unfold Builtin.List.listExtendWith
  have I : InstAt h₁ ff (ffObj li bm dx) 54 (some (dictOf [] 0)) := ⟨k1 _ _ hff, rfl, rfl, k1 _ _ hdx⟩
  refine wpAny_bind (I.type.here ?_)
  have e1 : Builtin.List.listSameRef (.ref S) (.ref ff) = false := by simp [Builtin.List.listSameRef, D.S1]
  have e2 : (Value.ref 54 == Value.type "list") = false := by decide
  have e3 : (Value.ref 54 == Value.type "tuple") = false := by decide
  simp only [e1, e2, e3, Bool.or_false, Bool.false_eq_true, if_false]
  refine wpAny_bind (ff_pyIter (s := { s with heap := h₁ }) (A := A.in1.in1) (outer := outer) hA1 hA2 (Nat.le_trans hA3 (by decide)) (Nat.le_trans (Nat.add_le_add_right hA4 2) (by decide)) ((X.keeps B.stays).keeps k1) F₁ X' (k1 _ _ hff) (k1 _ _ hdx) fun h₂ tk k2 F₂ => ?_)
  refine wpAny_bind (wpAny_holding (ff_hint (s := { s with heap := h₂, toks := tk }) (X'.keeps F₂.keep) (k2 _ _ (k1 _ _ hff)) (k2 _ _ (k1 _ _ hdx)) ?_))
  refine wpAny_ite_split (fun _ => ?_) (fun hab => absurd rfl hab)
  refine wpAny_bind (wpAny_rule ?_)
  refine wpAny_bind ?_
  show wpAny _ _ (updateSeq S (·.push .none) >>= fun _ => updateSeq S (·.pop)) _ _ _
  refine wpAny_bind (wpAny_updateSeq (k2 _ _ hS₂) rfl ?_)
  have hS₃ := Heap.get?_update_self (Obj.mapSeq (·.push Value.none)) (k2 _ _ hS₂) rfl
  refine wpAny_updateSeq (hz := by seq_fits) hS₃ rfl ?_
  have hS₄ := Heap.get?_update_self (Obj.mapSeq (·.pop)) hS₃ rfl
  have k3 : ∀ b o, s.heap.get? b = some o → ((h₂.update S (Obj.mapSeq (·.push Value.none))).update S (Obj.mapSeq (·.pop))).get? b = some o := fun b o e =>
    (Heap.get?_update_other _ _ (Ne.symm (old b o e))).trans ((Heap.get?_update_other _ _ (Ne.symm (old b o e))).trans (k2 _ _ (k1 _ _ e)))
  refine wpAny_pure ⟨plainId_quiet PySem.F.plain_extend_loop _, ff_extend (A := A.in1) X T D hI hJ hA1 hA2 hA3 (Nat.le_trans (Nat.add_le_add_right hA4 1) (by decide)) hlen (kept ys xs).length 0 _ #[] _ rfl ?_ (fun b o e => k3 b o (B.stays b o e)) (frames_at (fun b _ o e => ⟨o, k3 b o e, rfl⟩) B.frames) ⟨k3 _ _ hff, k3 _ _ hli, k3 _ _ hdx, k3 _ _ hbm, k3 _ _ hl, k3 _ _ hlk, hS₄⟩ fun h' tk' ws c' i1 i2 i3 i4 => ⟨rfl, ?_⟩⟩
  · have : (kept ys xs).length ≤ xs.length := List.length_filter_le _ _
    simp only [Array.size_empty]; lia
  · refine hQ h' tk' ws c' i1 (by simpa using i2) (fun b o e hb => i3 b o (k3 b o e) fun hm => ?_) (fun b o hb e hd => i4 b o hb (old b o e) (k3 b o e) hd)
    rcases List.mem_cons.mp hm with z | z
    · exact old b o e z
    · exact hb z
end
end Mine
end
section
open PySem PySem.W PyProof.Rows PySem.Calls PySem.W.X
namespace Mine
local macro_rules | `(tactic| walk_at "pad") => `(tactic| skip)
local macro_rules | `(tactic| walk_at "pad") => `(tactic| skip)
theorem news_add {g h h' : Heap} {L r : Addr} {m : Str → Option Value} {o : Obj} {news : List (Addr × Obj)} (F : Fr g L h m) (N : News g L h news) (k : h.StaysIn h') (hr : h'.get? r = some o) (hn : h.get? r = none) : News g L h' ((r, o) :: news) := by
  intro q hq
  rcases List.mem_cons.mp hq with rfl | hq
  · refine ⟨hr, fun z => ?_, ?_⟩
    · obtain ⟨oL, _, _, hL, _⟩ := F.ns
      rw [← z] at hL
      have hL' : h.get? r = some oL := hL
      rw [hn] at hL'
      cases hL'
    · cases e : g.get? r with
      | none => rfl
      | some o' => have := F.keep _ _ e; rw [hn] at this; cases this
  · exact ⟨k _ _ (N q hq).1, (N q hq).2⟩
section
variable {w : World} {A : Around} {outer : List Env} {g : Heap} {L : Addr} {m : Str → Option Value} {s : Shared} {news : List (Addr × Obj)} {E : Value → Shared → Prop}
theorem lc_attrN {a : Addr} {items : Array Value} {n : Nat} {Q : Value → Shared → Prop} {ex : Bool} (F : Fr g L s.heap m) (N : News g L s.heap news) (hx : s.heap.get? a = some { cls := .type "list", data := .seq items n })
   (hq : ∀ bm h' tk, Fr g L h' m → News g L h' ((bm, bmObj a) :: news) → s.heap.StaysIn h' → s.heap.get? bm = none → Q (.ref bm) { s with heap := h', toks := tk }) : wpAny (model PR w) A (getAttr (.ref a) "__contains__" ex) Q E s := by
  refine lc_attr hx (hq _ _ _ (F.push _) (News.push F N _) (fun b o e => Heap.get?_push_of_some _ e) ?_)
  cases e : s.heap.get? s.heap.objs.size with
  | none => rfl
  | some o => exact absurd (Heap.lt_size e) (Nat.lt_irrefl _)
theorem ff_makeN {a bm : Addr} {items : Array Value} {n : Nat} {Q : Value → Shared → Prop} (hA1 : A.handled = none) (hA2 : A.frames = some outer) (hA3 : A.depth ≤ 900) (hA4 : A.units ≤ 9000) (X : Wld w s.heap) {p : Program} {loose : List Str} {mean : ExcName → Option Value} {mg mb : Str → Option Value} (T : Top p loose mean mg mb s.heap) (F : Fr g L s.heap m) (N : News g L s.heap news)
   (hx : s.heap.get? a = some { cls := .type "list", data := .seq items n })
   (hq : ∀ ff li dx h' tk, Fr g L h' m → News g L h' ((ff, ffObj li bm dx) :: (li, liObj a 0) :: (dx, dictOf [] 0) :: news) → s.heap.StaysIn h' → s.heap.get? ff = none → s.heap.get? li = none → s.heap.get? dx = none → Q (.ref ff) { s with heap := h', toks := tk }) : wpAny (model PR w) A (call (.ref 54) [.ref bm, .ref a]) Q E s := by
  obtain ⟨h0, gg, dd, t0, os⟩ := s
  obtain ⟨o0, es0, ep0, e0, z0⟩ := T.b
  have n1 : nsLook (Str.ofString "iter") o0 = pure (some (.builtin "iter")) := (ns_look T.b e0 _).trans (by rw [T.builtins _ (by decide), boot_iter])
  refine wp_lift hA1 hA2 hA3 hA4 (ff_make X.xb e0 n1 hx fun ff li dx h' tk k1 k2 k3 k4 k5 k6 k7 => hq ff li dx h' tk (F.keeps k1) ?_ k1 k5 k6 k7)
  have n1 := news_add F N k1 k4 k7
  have add : ∀ r o ns, News g L h' ns → h'.get? r = some o → h0.get? r = none → News g L h' ((r, o) :: ns) := fun r o ns N' hr hn q hq => by
    rcases List.mem_cons.mp hq with rfl | hq
    · exact news_add F N k1 hr hn (_, _) (by simp)
    · exact N' q hq
  exact add _ _ _ (add _ _ _ n1 k3 k6) k2 k5
end
theorem ne_of_objs {h : Heap} {a b : Addr} {oa ob : Obj} (ha : h.get? a = some oa) (hb : h.get? b = some ob) (hne : oa.cls ≠ ob.cls) : a ≠ b := fun z => by
  subst z; rw [ha] at hb; cases hb; exact hne rfl
theorem none_of_stays {h h' : Heap} (k : h.StaysIn h') {a : Addr} (e : h'.get? a = none) : h.get? a = none := by
  cases q : h.get? a with
  | none => rfl
  | some o => rw [k _ _ q] at e; cases e
theorem size_none (h : Heap) : h.get? h.objs.size = none := by
  cases q : h.get? h.objs.size with
  | none => rfl
  | some o => exact absurd (Heap.lt_size q) (Nat.lt_irrefl _)
theorem not_frame {A : Around} {base g : Heap} {outer : List Env} {b : Addr} (B : Below A base outer g) (e : g.get? b = none) : b ∉ fsOf outer := fun hm => by
  obtain ⟨_, o, ho, _⟩ := B.frames.mem hm
  rw [e] at ho; cases ho
theorem not_frame2 {b : Addr} {env : Env} {outer : List Env} {L : Addr} (hf : env.frame = some L) (n1 : b ≠ L) (n2 : b ∉ fsOf outer) : b ∉ fsOf (env :: outer) := fun hm => by
  obtain ⟨e, he, hf'⟩ := List.mem_filterMap.mp hm
  rcases List.mem_cons.mp he with rfl | he
  · rw [hf] at hf'; exact n1 (Option.some.inj hf').symm
  · exact n2 (List.mem_filterMap.mpr ⟨e, he, hf'⟩)
section
local macro_rules | `(tactic| walk_at "getAttr ref") => `(tactic| (k_here; (with_reducible show wpAny _ _ (getAttr (Value.ref _) ("__contains__" : Str) _) _ _ _); refine' lc_attrN ?F ?N ?hx ?_; (case F => k_asm); (case N => k_asm); (case hx => exact Fr.keep (by k_asm) _ _ hlg'); intro bm hb tkb Fb Nb kb nb; (try k_fold)))
local macro_rules | `(tactic| walk_at "call ref") => `(tactic| (k_here; refine Halt.out ?_))
local macro_rules | `(tactic| walk_at "call type:list") => `(tactic| (k_here; refine Halt.out ?_))
set_option maxHeartbeats 1000000 in
theorem filter_c {w : World} {outer : List Env} {gd : Option (List Code)} {s : Shared} {base : Heap} {p : Program} {loose : List Str} {mean : ExcName → Option Value} {mg mb : Str → Option Value}
  {l lsk : Addr} {vs us : List Value} {xs ys : List Int} {nv nu : Nat} {R : Result → Shared → Prop}
  (X : Wld w base) (T : Top p loose mean mg mb base) (B : Below (AY 750 7500 outer gd) base outer s.heap)
  (hl : s.heap.get? l = some { cls := .type "list", data := .seq vs.toArray nv }) (hI : IntsAre vs xs)
  (hl' : s.heap.get? lsk = some { cls := .type "list", data := .seq us.toArray nu }) (hJ : IntsAre us ys) (hlen : xs.length ≤ 1000)
  (hR : ∀ r h' tk ws c, IntsAre ws (kept ys xs) → h'.get? r = some { cls := .type "list", data := .seq ws.toArray c } → s.heap.get? r = none → Kp (fsOf outer) s.heap h' → R (.ok (.ret (.ref r))) { s with heap := h', toks := tk }) :
  codeAny (model PR w) (AY 750 7500 outer gd) (.call (.ref 65) ⟨[.ref l, .ref lsk], []⟩) R s := by
  refine' enterH X T B [] (fun _ h => nomatch h) ?k6 ?k7 ?k8 ?k9 ?kB ?_ ?c2 ?c3 ?c4 ?c5
  case k6 => k_is
  case k7 => k_is
  case k8 => exact (show (750 : Nat) < 1000 by decide)
  case k9 => exact BindsTo.of_eq rfl
  case kB => exact locs rfl
  case c5 => decide
  case c2 => exact rfl
  case c3 => exact rfl
  case c4 => exact rfl
  intro g L h₁ hg1 hg2 F N B' X' T'
  k_whole
  have hlg := hg2 l _ hl (by simp)
  have hlg' := hg2 lsk _ hl' (by simp)
  have kb' := B'.stays
  w_on
  k_steps
  show wpAny _ _ _ _ _ _
  refine' ff_makeN (outer := _ :: outer) rfl rfl ?a3 ?a4 ?X (T'.keeps (Fr.keep (by k_asm))) ?F ?N ?hx ?_
  case a3 => exact Nat.le_of_ble_eq_true rfl
  case a4 => exact Nat.le_of_ble_eq_true rfl
  case X => exact X.keeps (fun b o e => Fr.keep (by k_asm) b o (kb' b o e))
  case F => k_asm
  case N => k_asm
  case hx => exact Fr.keep (by k_asm) _ _ hlg
  intro ff li dx hf tkf Ff Nf kf nf1 nf2 nf3
  (try k_fold)
  k_steps
  show wpAny _ _ _ _ _ _
  have gff := (Nf _ (List.mem_cons_self)).2
  have gli := (Nf (li, liObj l 0) (by simp)).2
  have gdx := (Nf (dx, dictOf [] 0) (by simp)).2
  have xff := (Nf _ (List.mem_cons_self)).1
  have xli := (Nf (li, liObj l 0) (by simp)).1
  have xdx := (Nf (dx, dictOf [] 0) (by simp)).1
  have xbm := (Nf (bm, bmObj lsk) (by simp)).1
  have xl := Ff.keep _ _ hlg
  have xlk := Ff.keep _ _ hlg'
  have sn := size_none hf
  have gS : g.get? hf.objs.size = none := none_of_stays Ff.keep sn
  have lS : hf.objs.size ≠ L := fun z => by
    obtain ⟨oL, _, _, hL, _⟩ := Ff.ns
    rw [← z] at hL
    exact absurd (Heap.lt_size hL) (Nat.lt_irrefl _)
  have hS : ∀ b o, hf.get? b = some o → hf.objs.size ≠ b := fun b o e z => by rw [← z, sn] at e; cases e
  have D : ∀ env : Env, env.frame = some L → FFd base (env :: outer) ff li dx bm l lsk hf.objs.size := fun env hfr => {
    n1 := ne_of_objs xff xli (by simp), n2 := ne_of_objs xdx xli (by simp), b1 := ne_of_objs xbm xff (by simp), b2 := ne_of_objs xbm xli (by simp), b3 := ne_of_objs xbm xdx (by simp),
    l1 := ne_of_objs xl xff (by simp), l2 := ne_of_objs xl xli (by simp), l3 := ne_of_objs xl xdx (by simp), s1 := ne_of_objs xlk xff (by simp), s2 := ne_of_objs xlk xli (by simp), s3 := ne_of_objs xlk xdx (by simp),
    S1 := hS _ _ xff, S2 := hS _ _ xli, S3 := hS _ _ xdx, S4 := hS _ _ xbm, S5 := hS _ _ xl, S6 := hS _ _ xlk,
    base_none := fun b hb => none_of_stays kb' (by
      simp only [List.mem_cons, List.not_mem_nil, or_false] at hb
      rcases hb with rfl | rfl | rfl | rfl
      · exact gff.2
      · exact gli.2
      · exact gdx.2
      · exact gS),
    frames := fun b hb => by
      simp only [List.mem_cons, List.not_mem_nil, or_false] at hb
      rcases hb with rfl | rfl | rfl | rfl
      · exact not_frame2 hfr gff.1 (not_frame B' gff.2)
      · exact not_frame2 hfr gli.1 (not_frame B' gli.2)
      · exact not_frame2 hfr gdx.1 (not_frame B' gdx.2)
      · exact not_frame2 hfr lS (not_frame B' gS) }
  refine call_list_ff (outer := _ :: outer) (xs := xs) (ys := ys) rfl rfl (Nat.le_of_ble_eq_true rfl) (Nat.le_of_ble_eq_true rfl) X T (by exact B'.push Ff) Ff X' (D _ rfl) hI hJ hlen xff xli xdx xbm xl xlk fun h' tk ws c' i1 i2 i3 i4 => ?_
  have kf' : ∀ b o, s.heap.get? b = some o → g.get? b = some o := fun b o e => hg2 b o e (by simp)
  refine hR _ h' tk ws c' i1 i2 ?_ ⟨fun b o e hb => i3 b o (Ff.keep _ _ (kf' b o e)) fun hm => ?_, fun b o e hd => i4 b o ?_ (Ff.keep _ _ (kf' b o e)) hd⟩
  · exact none_of_stays kf' gS
  · rcases List.mem_cons.mp hm with rfl | hm
    · have := kf' _ _ e; rw [gli.2] at this; cases this
    · refine not_frame2 rfl (fun z => ?_) hb hm
      have := kf' _ _ e
      rw [z, kts_self Ff] at this; cases this
  · rintro rfl
    have := kf' _ _ e; rw [gli.2] at this; cases this
end
end Mine
end
section
open PySem PySem.W PyProof.Rows PySem.Calls
namespace Mine
theorem Kp.refl (fs : List Addr) (h : Heap) : Kp fs h h := ⟨fun _ _ e _ => e, Heap.UpToSlots.refl h⟩
theorem Kp.of_stays {fs : List Addr} {h h' : Heap} (k : h.StaysIn h') : Kp fs h h' := ⟨fun b o e _ => k b o e, Heap.UpToSlots.of_keeps k⟩
theorem Kp.trans {fs : List Addr} {h h₁ h₂ : Heap} (x : Kp fs h h₁) (y : Kp fs h₁ h₂) : Kp fs h h₂ := ⟨fun b o e n => y.other b o (x.other b o e n) n, x.slots.trans y.slots⟩
theorem Kp.mono {fs fs' : List Addr} {h h' : Heap} (x : Kp fs h h') (s : ∀ b ∈ fs, b ∈ fs') : Kp fs' h h' := ⟨fun b o e n => x.other b o e fun m => n (s b m), x.slots⟩
theorem Kp.seq {fs : List Addr} {h h' : Heap} (x : Kp fs h h') {a : Addr} {o : Obj} (e : h.get? a = some o) (hd : ∀ vs, o.data ≠ .fields vs) : ∃ o', h'.get? a = some o' ∧ o'.cls = o.cls ∧ o'.data = o.data := by
  obtain ⟨sl, q⟩ := x.slots a o e hd
  exact ⟨_, q, rfl, rfl⟩
open PySem.Spec in
theorem reads_kp {fs : List Addr} {h h' : Heap} (k : Kp fs h h') {d : PyData} {v : Value} {as : List Addr} (r : Reads h v d as) : Reads h' v d as :=
  Reads.rec (motive_1 := fun v d as _ => Reads h' v d as) (motive_2 := fun vs ds as _ => ReadsAll h' vs ds as) .none (fun b => .bool b) (fun i t => .int i t) (fun x t => .str x t)
    (fun ho hc hd _ ih => let ⟨_, e1, e2, e3⟩ := k.seq ho (by rw [hd]; intro vs z; cases z); .list e1 (e2.trans hc) (e3.trans hd) ih)
    (fun ho hc hd _ ih => let ⟨_, e1, e2, e3⟩ := k.seq ho (by rw [hd]; intro vs z; cases z); .tuple e1 (e2.trans hc) (e3.trans hd) ih)
    (fun ho hc hd _ _ i1 i2 => let ⟨_, e1, e2, e3⟩ := k.seq ho (by rw [hd]; intro vs z; cases z); .dict e1 (e2.trans hc) (e3.trans hd) i1 i2) .nil (fun _ _ i1 i2 => .cons i1 i2) r
theorem after_kp {w : World} {A : Around} {base g h h' : Heap} {outer : List Env} {L : Addr} {m : Str → Option Value} {news : List (Addr × Obj)} {p : Program} {loose : List Str} {mean : ExcName → Option Value} {mg mb : Str → Option Value}
    (X : Wld w base) (T : Top p loose mean mg mb base) (B : Below A base outer g) (F : Fr g L h m) (N : News g L h news) (k : Kp (L :: fsOf outer) h h') :
    ∃ g', KtsTurn (fsOf outer) g g' ∧ Fr g' L h' m ∧ News g' L h' news ∧ Below A base outer g' ∧ (hk.heap_39 w.params).In g' ∧ Top p loose mean mg mb g' := by
  have hfs : ∀ b ∈ fsOf outer, ∃ o, g.get? b = some o := fun b hb => let ⟨_, o, ho, _⟩ := B.frames.mem hb; ⟨o, ho⟩
  have nLb : ∀ b o, g.get? b = some o → b ≠ L := fun b o e z => by rw [z, kts_self F] at e; cases e
  have hT := kts_turn_at (fs := fsOf outer) (g := g) (h := h') hfs (fun b o e n => k.other b o (F.keep b o e) fun hm => by
      rcases List.mem_cons.mp hm with z | z
      · exact nLb b o e z
      · exact n z) (fun b o e hb => by
    obtain ⟨_, o', ho', hd⟩ := B.frames.mem hb
    rw [e] at ho'; cases ho'
    exact k.slots b o (F.keep b o e) hd)
  have K := hT.1
  have st : base.StaysIn (ktsHeap h' (fsOf outer) g) := fun b o e => K.other b o (B.stays b o e) fun hm => by
    have := (B.frames.mem hm).1
    rw [e] at this; cases this
  refine ⟨ktsHeap h' (fsOf outer) g, K, ⟨k.slots.ns F.ns, hT.2, by rw [K.size]; exact F.above⟩, fun p hp => ?_, ⟨B.stack, st, frames_at (fun b hb o e => ?_) B.frames⟩, (X.keeps st).kk, Top.keeps T (by exact st)⟩
  · obtain ⟨n1, n2, n3⟩ := N p hp
    refine ⟨k.other _ _ n1 fun hm => ?_, n2, K.none_ _ n3⟩
    rcases List.mem_cons.mp hm with z | z
    · exact n2 z
    · exact not_frame B n3 z
  · obtain ⟨sl, e'⟩ := K.up e
    exact ⟨_, e', rfl⟩
theorem pick_upto (vs : List Value) (k : Nat) : slicePick vs.toArray none (some (k : Int)) none = (vs.take k).toArray := by
  have e : sliceBounds none (some (k : Int)) none vs.toArray.size = (((0 : Nat) : Int), ((min k vs.toArray.size : Nat) : Int), 1) := by
    simp only [sliceBounds, Option.getD_none, show (1 : Int) > 0 by decide, if_true, if_neg (show ¬ ((k : Int) < 0) by omega)]
    congr 1
    congr 1
    omega
  rw [kmk_pick_nat _ e]
  simp [kmk_take_min]
theorem pick_from (vs : List Value) (k : Nat) : slicePick vs.toArray (some (k : Int)) none none = (vs.drop k).toArray := by
  have e : sliceBounds (some (k : Int)) none none vs.toArray.size = (((min k vs.toArray.size : Nat) : Int), ((vs.toArray.size : Nat) : Int), 1) := by
    simp only [sliceBounds, Option.getD_none, show (1 : Int) > 0 by decide, if_true, if_neg (show ¬ ((k : Int) < 0) by omega)]
    congr 1
    omega
  rw [kmk_pick_nat _ e]
  simp only [List.size_toArray, kmk_drop_min]
  rw [List.take_of_length_le (by rw [List.length_drop]; omega)]
section
variable {prog : Program} {w : World} {A : Around} {E : Value → Shared → Prop} {s : Shared} {h₀ : Heap} {L l : Addr} {m : Str → Option Value} {news : List (Addr × Obj)} {value slice : PySem.Expr} {vs : List Value} {n : Nat} {Q : Value → Shared → Prop}
abbrev lobj (vs : List Value) (n : Nat) : Obj := { cls := .type "list", data := .seq vs.toArray n }
abbrev tobj (vs : List Value) (n : Nat) : Obj := { cls := .type "tuple", data := .seq vs.toArray n }
theorem sl_upto {k : Nat} {t : Tok} (F : Fr h₀ L s.heap m) (N : News h₀ L s.heap news) (hm : (l, lobj vs n) ∈ news) (hz : vs.length ≤ 1000)
    (h : ∀ D h', Fr h₀ L h' m → News h₀ L h' ((D, lobj (vs.take k) 0) :: news) → (∀ p ∈ news, p.1 < D) → Q (.ref D) { s with heap := h' })
    (hs : subscripted slice false (.ref l) (.ref s.heap.objs.size) = operate [.ref s.heap.objs.size, .ref l] (getItem (.ref l) (.ref s.heap.objs.size))) (ht : ∀ r, letTemporaryGo value (.ref l) r = pure ()) :
    wpAny (model prog w) A (subscriptTail value slice (.ref l) (.ref s.heap.objs.size)) Q E { s with heap := s.heap.push { cls := .type "slice", data := .fields #[.none, .int k t, .none] } } :=
  kmk_slice (lo := none) (hi := some (k : Int)) F N ⟨_, (N _ hm).1, rfl, _, rfl⟩ .none (.int _ _) (fun D h' F' N' lt => h D h' F' (by rw [pick_upto] at N'; exact N') lt) hs ht (by rw [List.size_toArray, sizeLine_eq]; omega)
theorem sl_from {k : Nat} {t : Tok} (F : Fr h₀ L s.heap m) (N : News h₀ L s.heap news) (hm : (l, lobj vs n) ∈ news) (hz : vs.length ≤ 1000)
    (h : ∀ D h', Fr h₀ L h' m → News h₀ L h' ((D, lobj (vs.drop k) 0) :: news) → (∀ p ∈ news, p.1 < D) → Q (.ref D) { s with heap := h' })
    (hs : subscripted slice false (.ref l) (.ref s.heap.objs.size) = operate [.ref s.heap.objs.size, .ref l] (getItem (.ref l) (.ref s.heap.objs.size))) (ht : ∀ r, letTemporaryGo value (.ref l) r = pure ()) :
    wpAny (model prog w) A (subscriptTail value slice (.ref l) (.ref s.heap.objs.size)) Q E { s with heap := s.heap.push { cls := .type "slice", data := .fields #[.int k t, .none, .none] } } :=
  kmk_slice (lo := some (k : Int)) (hi := none) F N ⟨_, (N _ hm).1, rfl, _, rfl⟩ (.int _ _) .none (fun D h' F' N' lt => h D h' F' (by rw [pick_from] at N'; exact N') lt) hs ht (by rw [List.size_toArray, sizeLine_eq]; omega)
end
end Mine
end
section
open PySem PySem.W PyProof.Rows PySem.Calls
namespace Mine
local macro_rules | `(tactic| walk_at "pad") => `(tactic| skip)
section
variable {w : World} {base g : Heap} {outer : List Env} {gd : Option (List Code)} {L : Addr} {m : Str → Option Value} {news : List (Addr × Obj)} {p : Program} {loose : List Str} {mean : ExcName → Option Value} {mg mb : Str → Option Value} {s : Shared} {E : Value → Shared → Prop}
theorem filter_N {d u : Nat} {name : Str} {scope : Scope} {fa : Addr} {cd : Value} {a b : Addr} {vs us : List Value} {xs ys : List Int} {nv nu : Nat} {Q : Value → Shared → Prop}
    (hk : scope.kind = .function) (hd : d + 1 ≤ 750) (hu : u + 3 ≤ 7500) (X : Wld w base) (T : Top p loose mean mg mb base) (B : Below (AY d u outer gd) base outer g) (F : Fr g L s.heap m) (N : News g L s.heap news)
    (ha : (a, lobj vs nv) ∈ news) (hb : (b, lobj us nu) ∈ news) (hI : IntsAre vs xs) (hJ : IntsAre us ys) (hlen : xs.length ≤ 1000)
    (hQ : ∀ g' r h' tk ws c, Fr g' L h' m → News g' L h' ((r, lobj ws c) :: news) → Below (AY d u outer gd) base outer g' → (Mine.hk.heap_39 w.params).In g' → Top p loose mean mg mb g' → KtsTurn (fsOf outer) g g' → Kp (L :: fsOf outer) s.heap h' → IntsAre ws (kept ys xs) → (∀ q ∈ news, q.1 ≠ r) → Q (.ref r) { s with heap := h', toks := tk }) :
    wpAny (model PR w) ((AY d u outer gd).deeper (envOf name scope L fa cd)) (call (.ref 65) [.ref a, .ref b]) Q E s := by
  have BF := B.push (name := name) (a := fa) (cd := cd) F hk
  refine wpAny_call (code_lift (outer := envOf name scope L fa cd :: outer) rfl rfl hd hu ?_)
  refine filter_c (xs := xs) (ys := ys) X T ⟨rfl, BF.stays, BF.frames⟩ (N _ ha).1 hI (N _ hb).1 hJ hlen fun r h' tk ws c i1 i2 i3 i4 => ?_
  have i4' : Kp (L :: fsOf outer) s.heap h' := by
    refine i4.mono fun b hb => ?_
    rcases kts_mem hb with z | z
    · rw [z]; exact List.mem_cons_self
    · exact List.mem_cons_of_mem _ z
  obtain ⟨g', K, F', N', B', X', T'⟩ := after_kp X T B F N i4'
  have nr : g.get? r = none := none_of_stays F.keep i3
  refine hQ g' r h' tk ws c F' (fun q hq => ?_) B' X' T' K i4' i1 (fun q hq z => ?_)
  · rcases List.mem_cons.mp hq with rfl | hq
    · refine ⟨i2, fun z => ?_, K.none_ _ nr⟩
      obtain ⟨oL, _, _, hL, _⟩ := F.ns
      dsimp only at z
      rw [← z, i3] at hL
      cases hL
    · exact N' q hq
  · have := (N q hq).1
    rw [z, i3] at this; cases this
end
theorem own_of {A : Around} {base g h : Heap} {outer : List Env} {L a : Addr} {o : Obj} {news : List (Addr × Obj)} (N : News g L h news) (B : Below A base outer g) (hm : (a, o) ∈ news) : h.get? a = some o ∧ base.get? a = none ∧ a ∉ fsOf outer :=
  ⟨(N _ hm).1, none_of_stays B.stays (N _ hm).2.2, not_frame B (N _ hm).2.2⟩
theorem kp_end {fs : List Addr} {s g g' h' : Heap} {L : Addr} {m : Str → Option Value} {news₀ news' : List (Addr × Obj)} (hN : ∀ p ∈ news₀, s.get? p.1 = some p.2) (hg2 : ∀ b o, s.get? b = some o → b ∉ news₀.map (·.1) → g.get? b = some o)
    (K : KtsTurn fs g g') (F : Fr g' L h' m) (N : News g' L h' news') (sub : ∀ p ∈ news₀, p ∈ news') : Kp fs s h' := by
  have key : ∀ b o, s.get? b = some o → b ∈ news₀.map (·.1) → h'.get? b = some o := fun b o e hm => by
    obtain ⟨p, hp, rfl⟩ := List.mem_map.mp hm
    have h1 := hN p hp
    rw [e] at h1; cases h1
    exact (N p (sub p hp)).1
  refine ⟨fun b o e n => ?_, fun b o e hd => ?_⟩
  · by_cases hm : b ∈ news₀.map (·.1)
    · exact key b o e hm
    · exact F.keep _ _ (K.other b o (hg2 b o e hm) n)
  · by_cases hm : b ∈ news₀.map (·.1)
    · exact ⟨o.slots, key b o e hm⟩
    · obtain ⟨sl, q⟩ := K.up (hg2 b o e hm)
      exact ⟨sl, F.keep _ _ q⟩
theorem hang_new {fs : List Addr} {s0 g g4 h7 : Heap} {L r tdn l' tup D6 left' D3 ends st left rest told : Addr} {ol o3 : Obj} {lv rv tv ws4 ws : List Value} {lx rx : List Int} {n1 n2 n3 n4 c4 c : Nat} {f : Int} {ft : Tok}
    (hg2 : ∀ b o, s0.get? b = some o → b ∉ [(st, tobj [.ref left, .ref rest, .ref told] n4), (left, lobj lv n1), (rest, lobj rv n2), (told, lobj tv n3)].map (·.1) → g.get? b = some o) (K : KtsTurn fs g g4)
    (N7 : News g4 L h7 [(r, tobj [.ref left', .ref D6, .ref tdn] 0), (tdn, lobj (tv ++ [.ref tup]) 0), (l', ol), (tup, tobj [.ref ends, .int f ft] 0), (D6, lobj (rv.drop 1) 0), (left', lobj ws4 c4), (D3, o3), (ends, lobj ws c), (st, tobj [.ref left, .ref rest, .ref told] n4), (left, lobj lv n1), (rest, lobj rv n2), (told, lobj tv n3)])
    (hI : IntsAre lv lx) (hJ : IntsAre rv rx)
    (d2 : ∀ q ∈ [(st, tobj [.ref left, .ref rest, .ref told] n4), (left, lobj lv n1), (rest, lobj rv n2), (told, lobj tv n3)], q.1 ≠ ends)
    (d4 : ∀ q ∈ [(D3, o3), (ends, lobj ws c), (st, tobj [.ref left, .ref rest, .ref told] n4), (left, lobj lv n1), (rest, lobj rv n2), (told, lobj tv n3)], q.1 ≠ left')
    (lt6 : ∀ p ∈ [(left', lobj ws4 c4), (D3, o3), (ends, lobj ws c), (st, tobj [.ref left, .ref rest, .ref told] n4), (left, lobj lv n1), (rest, lobj rv n2), (told, lobj tv n3)], p.1 < D6) : ∀ a ∈ [r, left', D6, tdn, tup, ends], s0.get? a = none := by
  have xst := (N7 (st, tobj [Value.ref left, Value.ref rest, Value.ref told] n4) (by k_mem)).1
  have xl := (N7 (left, lobj lv n1) (by k_mem)).1
  have xr := (N7 (rest, lobj rv n2) (by k_mem)).1
  have xt := (N7 (told, lobj tv n3) (by k_mem)).1
  have hnew : ∀ a o, h7.get? a = some o → g4.get? a = none → a ≠ st → a ≠ left → a ≠ rest → a ≠ told → s0.get? a = none := fun a o _ e1 e2 e3 e4 e5 => by
    cases q : s0.get? a with
    | none => rfl
    | some o' =>
      obtain ⟨sl, q'⟩ := K.up (hg2 a o' q (by simp [e2, e3, e4, e5]))
      rw [e1] at q'; cases q'
  have yr := N7 _ (List.Mem.head _)
  have yl := N7 (left', lobj ws4 c4) (by k_mem)
  have ye := N7 (D6, lobj (List.drop 1 rv) 0) (by k_mem)
  have yt := N7 (tdn, _) (List.Mem.tail _ (List.Mem.head _))
  have l6 : ∀ p ∈ [(st, tobj [Value.ref left, Value.ref rest, Value.ref told] n4), (left, lobj lv n1), (rest, lobj rv n2), (told, lobj tv n3)], D6 ≠ p.1 := fun p hp => Ne.symm (Nat.ne_of_lt (lt6 p (by
    simp only [List.mem_cons, List.not_mem_nil, or_false] at hp
    rcases hp with rfl | rfl | rfl | rfl <;> k_mem)))
  have l4 : ∀ p ∈ [(st, tobj [Value.ref left, Value.ref rest, Value.ref told] n4), (left, lobj lv n1), (rest, lobj rv n2), (told, lobj tv n3)], left' ≠ p.1 := fun p hp => Ne.symm (d4 p (by
    simp only [List.mem_cons, List.not_mem_nil, or_false] at hp
    rcases hp with rfl | rfl | rfl | rfl <;> k_mem))
  have noInt : ∀ (a : Addr) (us : List Value) (us' : List Int) (k : Nat), h7.get? a = some (lobj us k) → IntsAre us us' → tdn ≠ a := fun a us us' k e1 hi z => by
    subst z
    rw [yt.1] at e1
    have e2 : (tv ++ [Value.ref tup]).toArray = us.toArray := by injection e1 with e1; injection e1 with _ _ e1 _; injection e1
    have e3 : tv ++ [Value.ref tup] = us := by simpa using e2
    obtain ⟨n, t, e4⟩ := hi.all (Value.ref tup) (by rw [← e3]; simp)
    cases e4
  intro a ha
  simp only [List.mem_cons, List.not_mem_nil, or_false] at ha
  rcases ha with ha | ha | ha | ha | ha | ha
  · subst ha
    refine hnew _ _ yr.1 yr.2.2 (fun z => ?_) (ne_of_objs yr.1 xl (by simp)) (ne_of_objs yr.1 xr (by simp)) (ne_of_objs yr.1 xt (by simp))
    have e1 := yr.1
    dsimp only at e1
    rw [z, xst] at e1
    have e2 : [Value.ref left, Value.ref rest, Value.ref told].toArray = #[Value.ref left', Value.ref D6, Value.ref tdn] := by injection e1 with e1; injection e1 with _ _ e1 _; injection e1
    have e3 : left = left' := by simp at e2; exact e2.1
    exact l4 (left, lobj lv n1) (by simp) e3.symm
  · subst ha
    exact hnew _ _ yl.1 yl.2.2 (l4 (st, _) (by k_mem)) (l4 (left, _) (by k_mem)) (l4 (rest, _) (by k_mem)) (l4 (told, _) (by k_mem))
  · subst ha
    exact hnew _ _ ye.1 ye.2.2 (l6 (st, _) (by k_mem)) (l6 (left, _) (by k_mem)) (l6 (rest, _) (by k_mem)) (l6 (told, _) (by k_mem))
  · subst ha
    refine hnew _ _ yt.1 yt.2.2 (ne_of_objs yt.1 xst (by simp)) (noInt _ _ _ _ xl hI) (noInt _ _ _ _ xr hJ) (fun z => ?_)
    have e1 := yt.1
    dsimp only at e1
    rw [z, xt] at e1
    have e2 : tv.toArray = (tv ++ [Value.ref tup]).toArray := by injection e1 with e1; injection e1 with _ _ e1 _; injection e1
    have e3 : tv = tv ++ [Value.ref tup] := by simp at e2
    have e4 := congrArg List.length e3
    simp at e4
  · subst ha
    have yu := N7 (a, tobj [.ref ends, .int f ft] 0) (by k_mem)
    refine hnew _ _ yu.1 yu.2.2 (fun z => ?_) (ne_of_objs yu.1 xl (by simp)) (ne_of_objs yu.1 xr (by simp)) (ne_of_objs yu.1 xt (by simp))
    have e1 := yu.1
    dsimp only at e1
    rw [z, xst] at e1
    have e2 : [Value.ref left, Value.ref rest, Value.ref told].toArray = [Value.ref ends, Value.int f ft].toArray := by injection e1 with e1; injection e1 with _ _ e1 _; injection e1
    simp at e2
  · subst ha
    have yn := N7 (a, lobj ws c) (by k_mem)
    exact hnew _ _ yn.1 yn.2.2 (Ne.symm (d2 (st, _) (by k_mem))) (Ne.symm (d2 (left, _) (by k_mem))) (Ne.symm (d2 (rest, _) (by k_mem))) (Ne.symm (d2 (told, _) (by k_mem)))
section
local macro_rules | `(tactic| walk_at "subscriptTail Name Slice ref ref") => `(tactic| (k_here; refine Halt.out ?_))
local macro_rules | `(tactic| walk_at "call ref") => `(tactic| (k_here; refine Halt.out ?_))
set_option maxHeartbeats 1000000 in
theorem hang_c {w : World} {outer : List Env} {gd : Option (List Code)} {s : Shared} {base : Heap} {p : Program} {loose : List Str} {mean : ExcName → Option Value} {mg mb : Str → Option Value}
  {st left rest told : Addr} {lv rv tv : List Value} {lx rx : List Int} {n1 n2 n3 n4 : Nat} {f : Int} {ft : Tok} {R : Result → Shared → Prop}
  (X : Wld w base) (T : Top p loose mean mg mb base) (B : Below (AY 740 7400 outer gd) base outer s.heap)
  (hN : ∀ p ∈ [(st, tobj [.ref left, .ref rest, .ref told] n4), (left, lobj lv n1), (rest, lobj rv n2), (told, lobj tv n3)], s.heap.get? p.1 = some p.2 ∧ base.get? p.1 = none ∧ p.1 ∉ fsOf outer)
  (hI : IntsAre lv lx) (hJ : IntsAre rv rx) (hl1 : lx.length ≤ 1000) (hl2 : rx.length ≤ 1000) (hl3 : tv.length ≤ 1000)
  (hR : ∀ r left' rest' told' tup ends h' tk (lv' ev : List Value) c0 c1 c2 c3 c4 c5, (∀ p ∈ [(r, tobj [.ref left', .ref rest', .ref told'] c0), (left', lobj lv' c1), (rest', lobj (rv.drop 1) c2), (told', lobj (tv ++ [.ref tup]) c3)], h'.get? p.1 = some p.2 ∧ base.get? p.1 = none ∧ p.1 ∉ fsOf outer) →
    IntsAre lv' (kept ((kept rx lx).take 1) lx) → h'.get? tup = some (tobj [.ref ends, .int f ft] c4) → h'.get? ends = some (lobj ev c5) → IntsAre ev (kept rx lx) → (∀ a ∈ [r, left', rest', told', tup, ends], s.heap.get? a = none) → Kp (fsOf outer) s.heap h' → R (.ok (.ret (.ref r))) { s with heap := h', toks := tk }) :
  codeAny (model PR w) (AY 740 7400 outer gd) (.call (.ref 116) ⟨[.ref st, .int f ft], []⟩) R s := by
  refine' enterH X T B [(st, tobj [.ref left, .ref rest, .ref told] n4), (left, lobj lv n1), (rest, lobj rv n2), (told, lobj tv n3)] hN ?k6 ?k7 ?k8 ?k9 ?kB ?_ ?c2 ?c3 ?c4 ?c5
  case k6 => k_is
  case k7 => k_is
  case k8 => exact (show (740 : Nat) < 1000 by decide)
  case k9 => exact BindsTo.of_eq rfl
  case kB => exact locs rfl
  case c5 => decide
  case c2 => exact rfl
  case c3 => exact rfl
  case c4 => exact rfl
  intro g L h₁ hg1 hg2 F N B' X' T'
  k_whole
  w_on
  k_steps
  show wpAny _ _ _ _ _ _
  rename Fr _ _ _ _ => F₁
  rename News _ _ _ _ => N₁
  refine filter_N (xs := lx) (ys := rx) rfl (Nat.le_of_ble_eq_true rfl) (Nat.le_of_ble_eq_true rfl) X T B' F₁ N₁ (by k_mem) (by k_mem) hI hJ hl1 fun g₂ ends h₂ tk₂ ws c F₂ N₂ B₂ X₂ T₂ K₂ P₂ I₂ D₂ => ?_
  dsimp only
  clear B' X' T' F₁ N₁
  try k_fold
  k_steps
  show wpAny _ _ _ _ _ _
  refine sl_upto (k := 1) (by assumption) (by assumption) (by k_mem) (by rw [I₂.length]; exact Nat.le_trans (List.length_filter_le _ _) hl1) (fun D₃ h₃ F₃ N₃ lt₃ => ?_) (by with_unfolding_all rfl) (by intro r; with_unfolding_all rfl)
  try k_fold
  k_steps
  show wpAny _ _ _ _ _ _
  refine filter_N (xs := lx) (ys := (kept rx lx).take 1) rfl (Nat.le_of_ble_eq_true rfl) (Nat.le_of_ble_eq_true rfl) X T B₂ F₃ N₃ (by k_mem) (by k_mem) hI (I₂.take 1) hl1 fun g₄ left' h₄ tk₄ ws₄ c₄ F₄ N₄ B₄ X₄ T₄ K₄ P₄ I₄ D₄ => ?_
  dsimp only
  clear B₂ X₂ T₂ F₃ N₃
  try k_fold
  k_steps
  show wpAny _ _ _ _ _ _
  rename Fr _ _ _ _ => F₅
  rename News _ _ _ _ => N₅
  refine sl_from (k := 1) (by assumption) (by assumption) (by k_mem) (by rw [hJ.length]; exact hl2) (fun D₆ h₆ F₆ N₆ lt₆ => ?_) (by with_unfolding_all rfl) (by intro r; with_unfolding_all rfl)
  try k_fold
  k_steps
  rename Fr _ _ _ _ => F₇
  rename News _ _ _ _ => N₇
  dsimp only at F₇ N₇
  dsimp only
  generalize Array.size _ = tdn at N₇
  refine' hR _ left' D₆ tdn _ ends _ _ ws₄ ws 0 c₄ 0 0 0 c ?k1 I₄ (N₇ _ (List.Mem.tail _ (List.Mem.tail _ (List.Mem.tail _ (List.Mem.head _))))).1 (N₇ (ends, lobj ws c) (by k_mem)).1 I₂ ?k3 (kp_end (fun p hp => (hN p hp).1) hg2 (K₂.trans K₄) F₇ N₇ ?k2)
  case k1 =>
    intro q hq
    simp only [List.mem_cons, List.not_mem_nil, or_false] at hq
    rcases hq with hq | hq | hq | hq
    · subst hq; exact own_of N₇ B₄ (List.Mem.head _)
    · subst hq; exact own_of N₇ B₄ (by k_mem)
    · subst hq; exact own_of N₇ B₄ (by k_mem)
    · subst hq; exact own_of N₇ B₄ (List.Mem.tail _ (List.Mem.head _))
  case k3 => exact hang_new hg2 (K₂.trans K₄) N₇ hI hJ D₂ D₄ lt₆
  case k2 =>
    intro q hq
    simp only [List.mem_cons, List.not_mem_nil, or_false] at hq
    rcases hq with rfl | rfl | rfl | rfl <;> k_mem
end
end Mine
end
section
open PySem PySem.W PyProof.Rows PySem.Calls
namespace Mine
local macro_rules | `(tactic| walk_at "pad") => `(tactic| skip)
local macro_rules | `(tactic| walk_at "pad") => `(tactic| skip)
local macro_rules | `(tactic| walk_at "pad") => `(tactic| skip)
local macro_rules | `(tactic| walk_at "pad") => `(tactic| skip)
theorem all_nil {α : Type} {P : α → Prop} : ∀ q ∈ ([] : List α), P q := fun _ h => nomatch h
theorem all_cons {α : Type} {P : α → Prop} {a : α} {r : List α} (h : P a) (t : ∀ q ∈ r, P q) : ∀ q ∈ a :: r, P q := List.forall_mem_cons.mpr ⟨h, t⟩
theorem in_cons {α : Type} {a : α} {r l : List α} (h : a ∈ l) (t : ∀ q ∈ r, q ∈ l) : ∀ q ∈ a :: r, q ∈ l := all_cons h t
theorem for_ind {w : World} {A : Around} {E : Value → Shared → Prop} {s : Shared} {env : Env} {v : Str} {px pos : Pos} {iter : PySem.Expr} {body : List Stmt} {Q : Flow → Shared → Prop} (hE : PassesOwn (model PR w) A env E) (I : Addr → Nat → Shared → Prop)
    (h : wpAny (model PR w) A (eval iter env) (fun xv s₁ => wpAny (model PR w) A (pyIter xv) (fun it s₂ => ∃ a n, it = .ref a ∧ I a n s₂) E s₁) E s)
    (turn : ∀ a n s, I a n s → wpAny (model PR w) A (pyNext (.ref a)) (OwitTurn PR w A E env v body Q (fun s' => Halt (∃ m, m < n ∧ I a m s'))) E s)
    (hs : ∀ x, foldedSetIterable iter env x = pure x := by intro _; rfl) :
    wpAny (model PR w) A (exec (.For (.Name v px) iter body [] pos) env) Q E s := by
  refine wpAny_For (wpAny_mono h (fun xv s₁ h₁ => wpAny_mono h₁ (fun it s₂ h₂ => ?_) fun _ _ z => z) fun _ _ z => z) hs
  obtain ⟨a, n, rfl, h₂⟩ := h₂
  refine codeAny_forLoop (R := fun r s' => match r with | .ok f => Q f s' | .error e => cameBackBy (model PR w) A env E e s') (fun k s' => I a k s') ?_ n h₂
  intro k s' hk
  refine wpAny_passesOwn hE (wpAny_mono (turn a k s' hk) (fun r s₁ hr => ?_) fun _ _ z => z)
  cases r with
  | none => exact wpAny_execs_nil hr
  | some y =>
    refine wpAny_passesOwn hE (wpAny_assign_Name (wpAny_mono hr (fun _ s₂ h₂ => ?_) fun _ _ z => z))
    refine wpAny_passesOwn hE (wpAny_mono h₂ (fun f s₃ h₃ => ?_) fun _ _ z => z)
    cases f with
    | next => exact h₃
    | cont => exact h₃
    | brk => exact h₃
    | ret _ => exact h₃
theorem iter_N {prog : Program} {w : World} {A : Around} {E : Value → Shared → Prop} {s : Shared} {h₀ : Heap} {L l : Addr} {m : Str → Option Value} {news : List (Addr × Obj)} {vs : List Value} {n : Nat} {Q : Value → Shared → Prop} (F : Fr h₀ L s.heap m) (N : News h₀ L s.heap news) (hm : (l, lobj vs n) ∈ news)
    (h : ∀ I h', Fr h₀ L h' m → News h₀ L h' ((I, liObj l 0) :: news) → (∀ p ∈ news, p.1 < I) → Q (.ref I) { s with heap := h' }) : wpAny (model prog w) A (call (.builtin "iter") [.ref l]) Q E s := by
  refine call_function_entry (by decide +kernel) (by decide +kernel) kdk_entry_iter (kdk_args_iter _) ?_
  unfold Builtin.«iter»
  refine wpAny_bind (m := someArgs "iter" 1 2 _) (wpAny_of_eq (a := [Value.ref l]) (by first | rfl | kernel_rfl!) ?_)
  show wpAny _ _ (pyIter (.ref l) >>= _) _ _ _
  refine wpAny_bind (wpAny_pyIter_list ⟨_, (N _ hm).1, rfl, _, rfl⟩ ?_)
  exact wpAny_pure ⟨_, rfl, h _ _ (F.push _) (News.push F N _ rfl) (fun q hq => Heap.lt_size (N q hq).1)⟩
theorem is_no {M : Model} {A : Around} {E : Value → Shared → Prop} {s : Shared} {a b : Addr} {oa ob : Obj} {Q : Value → Shared → Prop} (ha : s.heap.get? a = some oa) (hb : s.heap.get? b = some ob) (hne : a ≠ b) (hc : ob.cls = .type "object") (h : Q (.bool false) s) :
    wpAny M A (compareOp .Is (.ref a) (.ref b)) Q E s := by
  obtain ⟨cb, db, dtb, sb⟩ := ob
  dsimp only at hc
  subst hc
  show wpAny M A (isSame (.ref a) (.ref b) >>= fun r => pure (.bool r)) Q E s
  unfold isSame
  have e : (a == b) = false := by simpa using hne
  refine wpAny_bind ?_
  simp only [e, Bool.false_eq_true, if_false]
  refine wpAny_bind (wpAny_load ha (wpAny_bind (wpAny_load hb ?_)))
  split
  · exfalso; simp_all
  · exact wpAny_pure (wpAny_pure h)
theorem li_pyNext {w : World} {A : Around} {E : Value → Shared → Prop} {s : Shared} {l li : Addr} {k : Nat} {items : Array Value} {x : Value} {Q : Option Value → Shared → Prop} (hi : s.heap.get? li = some (liObj l k)) (hl : s.heap.IsList l items) (hx : items[k]? = some x)
   (hQ : Q (some x) { s with heap := s.heap.update li (Obj.mapFields (·.setIfInBounds 1 (rawInt ((k : Int) + 1)))) }) : wpAny (model PR w) A (pyNext (.ref li)) Q E s := by
  have hit : s.TypeIs (.ref li) "list_iterator" := ⟨_, hi, rfl⟩
  obtain ⟨ol, hol, _, nl, hdl⟩ := hl
  unfold pyNext
  refine wpAny_bind (wpAny_attempt (wpAny_callSpecial?_slot (name := Str.ofString "__next__") hit slot_listiter_next
    (wpAny_call_entry slot_listiter_next hit entry_listiter_next ?_ (args_listiter_next _))))
  show wpAny _ _ (field (.ref li) 0 >>= _) _ _ s
  refine wpAny_bind (wpAny_field hi rfl (x := .ref l) rfl ?_)
  show wpAny _ _ (if (Value.ref l == Value.none) = true then _ else _) _ _ s
  rw [if_neg (show ¬ ((Value.ref l == Value.none) = true) from Bool.false_ne_true)]
  show wpAny _ _ (field (.ref li) 1 >>= _) _ _ s
  refine wpAny_bind (wpAny_field hi rfl (x := .int k 0) rfl ?_)
  show wpAny _ _ (seqItems? (.ref l) >>= _) _ _ s
  refine wpAny_bind (wpAny_seqItems hol hdl ?_)
  simp only [Int.toNat_natCast, hx]
  exact wpAny_bind (wpAny_setField hi rfl (by simp) (wpAny_pure ⟨x, rfl, wpAny_pure hQ⟩))
theorem next_N {w : World} {A : Around} {E : Value → Shared → Prop} {s : Shared} {g : Heap} {L it l : Addr} {m : Str → Option Value} {news : List (Addr × Obj)} {vs : List Value} {xs : List Int} {n k : Nat} {Q : Option Value → Shared → Prop}
    (hh : A.handled = none) (F : Fr g L s.heap m) (N : News g L s.heap ((it, liObj l k) :: news)) (hd : ∀ p ∈ news, p.1 ≠ it) (hl : (l, lobj vs n) ∈ news) (hI : IntsAre vs xs)
    (h1 : ∀ n t h', xs[k]? = some n → Fr g L h' m → News g L h' ((it, liObj l (k + 1)) :: news) → (∀ b o, b ≠ it → s.heap.get? b = some o → h'.get? b = some o) → Q (some (.int n t)) { s with heap := h' })
    (h2 : xs[k]? = none → ∀ h', Fr g L h' m → News g L h' news → (∀ b o, b ≠ it → s.heap.get? b = some o → h'.get? b = some o) → Q none { s with heap := h' }) :
    wpAny (model PR w) A (pyNext (.ref it)) Q E s := by
  have hit := N _ (List.mem_cons_self)
  have hll := N (l, lobj vs n) (List.mem_cons_of_mem _ hl)
  have isl : s.heap.IsList l vs.toArray := ⟨_, hll.1, rfl, _, rfl⟩
  have isi : s.heap.IsListIter it l k := ⟨_, hit.1, rfl, rfl⟩
  cases hx : vs[k]? with
  | some v =>
    obtain ⟨n', t, rfl, hn⟩ := hI.at k v hx
    refine li_pyNext hit.1 isl (x := .int n' t) (by simpa using hx) (h1 n' t _ hn (F.change (Heap.SameBut.update ..) hit.2.1 hit.2.2) (fun p hp => ?_) (fun b o hb e => (Heap.get?_update_other _ _ (Ne.symm hb)).trans e))
    rcases List.mem_cons.mp hp with rfl | hp
    · exact ⟨li_upd hit.1, hit.2⟩
    · have q := N p (List.mem_cons_of_mem _ hp)
      exact ⟨(Heap.get?_update_other _ _ (Ne.symm (hd p hp))).trans q.1, q.2⟩
  | none =>
    have hn : xs[k]? = none := by
      rw [List.getElem?_eq_none_iff] at hx ⊢
      have := hI.length
      lia
    refine wpAny_pyNext_list_end hh isi isl (by simpa using hx) fun h' i1 => ?_
    have st : ∀ b o, b ≠ it → s.heap.get? b = some o → h'.get? b = some o := fun b o hb e => i1 b o hb e
    have F' : Fr g L h' m := by
      obtain ⟨oL, e1, e2, hL, r⟩ := F.ns
      exact ⟨⟨oL, e1, e2, st _ _ (Ne.symm hit.2.1) hL, r⟩, fun b o e => st _ _ (fun z => by rw [z, hit.2.2] at e; cases e) (F.keep _ _ e), F.above⟩
    exact h2 hn h' F' (fun p hp => ⟨st _ _ (hd p hp) (N p (List.mem_cons_of_mem _ hp)).1, (N p (List.mem_cons_of_mem _ hp)).2⟩) st
theorem hang_N {w : World} {base g : Heap} {outer : List Env} {gd : Option (List Code)} {L : Addr} {m : Str → Option Value} {news : List (Addr × Obj)} {p : Program} {loose : List Str} {mean : ExcName → Option Value} {mg mb : Str → Option Value} {s : Shared} {E : Value → Shared → Prop}
    {d u : Nat} {name : Str} {scope : Scope} {fa : Addr} {cd : Value} {st left rest told : Addr} {lv rv tv : List Value} {lx rx : List Int} {n1 n2 n3 n4 : Nat} {f : Int} {ft : Tok} {Q : Value → Shared → Prop}
    (hk : scope.kind = .function) (hd : d + 1 ≤ 740) (hu : u + 3 ≤ 7400) (X : Wld w base) (T : Top p loose mean mg mb base) (B : Below (AY d u outer gd) base outer g) (F : Fr g L s.heap m) (N : News g L s.heap news)
    (m1 : (st, tobj [.ref left, .ref rest, .ref told] n4) ∈ news) (m2 : (left, lobj lv n1) ∈ news) (m3 : (rest, lobj rv n2) ∈ news) (m4 : (told, lobj tv n3) ∈ news) (hI : IntsAre lv lx) (hJ : IntsAre rv rx) (hl1 : lx.length ≤ 1000) (hl2 : rx.length ≤ 1000) (hl3 : tv.length ≤ 1000)
    (hQ : ∀ g' r left' rest' told' tup ends h' tk lv' ev c0 c1 c2 c3 c4 c5, Fr g' L h' m → News g' L h' ((r, tobj [.ref left', .ref rest', .ref told'] c0) :: (left', lobj lv' c1) :: (rest', lobj (rv.drop 1) c2) :: (told', lobj (tv ++ [.ref tup]) c3) :: (tup, tobj [.ref ends, .int f ft] c4) :: (ends, lobj ev c5) :: news) → Below (AY d u outer gd) base outer g' →
      (Mine.hk.heap_39 w.params).In g' → Top p loose mean mg mb g' → KtsTurn (fsOf outer) g g' → Kp (L :: fsOf outer) s.heap h' → IntsAre lv' (kept ((kept rx lx).take 1) lx) → IntsAre ev (kept rx lx) →
      (∀ q ∈ news, ∀ a ∈ [r, left', rest', told', tup, ends], q.1 ≠ a) → Q (.ref r) { s with heap := h', toks := tk }) :
    wpAny (model PR w) ((AY d u outer gd).deeper (envOf name scope L fa cd)) (call (.ref 116) [.ref st, .int f ft]) Q E s := by
  have BF := B.push (name := name) (a := fa) (cd := cd) F hk
  refine wpAny_call (code_lift (outer := envOf name scope L fa cd :: outer) rfl rfl hd hu ?_)
  have own : ∀ a o, (a, o) ∈ news → s.heap.get? a = some o ∧ base.get? a = none ∧ a ∉ fsOf (envOf name scope L fa cd :: outer) := fun a o hm =>
    ⟨(N _ hm).1, none_of_stays B.stays (N _ hm).2.2, not_frame2 rfl (N _ hm).2.1 (not_frame B (N _ hm).2.2)⟩
  refine hang_c (lx := lx) (rx := rx) (left := left) (rest := rest) (told := told) (n1 := n1) (n2 := n2) (n3 := n3) (n4 := n4) X T ⟨rfl, BF.stays, BF.frames⟩ ?_ hI hJ hl1 hl2 hl3 fun r left' rest' told' tup ends h' tk lv' ev c0 c1 c2 c3 c4 c5 i1 i2 i3 i4 i5 i6 i7 => ?_
  · exact all_cons (own _ _ m1) (all_cons (own _ _ m2) (all_cons (own _ _ m3) (all_cons (own _ _ m4) all_nil)))
  have i7' : Kp (L :: fsOf outer) s.heap h' := by
    refine i7.mono fun b hb => ?_
    rcases kts_mem hb with z | z
    · rw [z]; exact List.mem_cons_self
    · exact List.mem_cons_of_mem _ z
  obtain ⟨g', K, F', N', B', X', T'⟩ := after_kp X T B F N i7'
  refine hQ g' r left' rest' told' tup ends h' tk lv' ev c0 c1 c2 c3 c4 c5 F' ?_ B' X' T' K i7' i2 i5 (fun q hq a ha z => ?_)
  · have add : ∀ a o, h'.get? a = some o → a ∈ [r, left', rest', told', tup, ends] → h'.get? a = some o ∧ a ≠ L ∧ g'.get? a = none := fun a o hm ha => by
      have nn := i6 a ha
      refine ⟨hm, fun z => ?_, K.none_ _ (none_of_stays F.keep nn)⟩
      obtain ⟨oL, _, _, hL, _⟩ := F.ns
      rw [← z, nn] at hL
      cases hL
    exact all_cons (add _ _ (i1 (_, _) (by k_mem)).1 (by k_mem)) (all_cons (add _ _ (i1 (left', lobj lv' c1) (by k_mem)).1 (by k_mem)) (all_cons (add _ _ (i1 (rest', lobj (rv.drop 1) c2) (by k_mem)).1 (by k_mem))
      (all_cons (add _ _ (i1 (told', lobj (tv ++ [.ref tup]) c3) (by k_mem)).1 (by k_mem)) (all_cons (add _ _ i3 (by k_mem)) (all_cons (add _ _ i4 (by k_mem)) N')))))
  · have := (N q hq).1
    rw [z, i6 a ha] at this; cases this
open PySem.Spec in
def toldD (l : Told) : List PyData := l.map fun p => .tuple [.list (p.1.map .int), .int p.2]
open PySem.Spec in
theorem readsAll_ints {h : Heap} : ∀ {vs : List Value} {ns : List Int}, IntsAre vs ns → ReadsAll h vs (ns.map .int) []
  | _, _, .nil => .nil
  | _, _, .cons n t r => .cons (.int n t) (readsAll_ints r)
open PySem.Spec in
theorem readsAll_append {h : Heap} : ∀ {vs ws : List Value} {ds es : List PyData} {as bs : List Addr}, ReadsAll h vs ds as → ReadsAll h ws es bs → ReadsAll h (vs ++ ws) (ds ++ es) (as ++ bs)
  | _, _, _, _, _, _, .nil, r => r
  | _, _, _, _, _, _, .cons h1 h2, r => by
    have := ReadsAll.cons h1 (readsAll_append h2 r)
    simpa [List.append_assoc] using this
open PySem.Spec in
def Deep (dl : List (Addr × Obj)) (tv : List Value) (ds : List PyData) : Prop := ∀ h : Heap, (∀ p ∈ dl, h.get? p.1 = some p.2) → ∃ as, ReadsAll h tv ds as
theorem deep_nil : Deep [] [] [] := fun _ _ => ⟨[], .nil⟩
open PySem.Spec in
theorem deep_snoc {dl : List (Addr × Obj)} {tv ev : List Value} {ds : List PyData} {tup ends : Addr} {f : Int} {ft : Tok} {c4 c5 : Nat} {xs : List Int} (D : Deep dl tv ds) (hI : IntsAre ev xs) :
    Deep ((tup, tobj [.ref ends, .int f ft] c4) :: (ends, lobj ev c5) :: dl) (tv ++ [.ref tup]) (ds ++ [.tuple [.list (xs.map .int), .int f]]) := fun h hp => by
  obtain ⟨as, r⟩ := D h fun p hp' => hp p (by simp [hp'])
  have r1 : Reads h (.ref ends) (.list (xs.map .int)) (ends :: []) := .list (hp (ends, lobj ev c5) (by simp)) rfl rfl (by simpa using readsAll_ints hI)
  have r2 : Reads h (.ref tup) (.tuple [.list (xs.map .int), .int f]) _ := .tuple (hp (tup, tobj [.ref ends, .int f ft] c4) (by simp)) rfl rfl (.cons r1 (.cons (.int f ft) .nil))
  exact ⟨_, readsAll_append r (.cons r2 .nil)⟩
inductive RedInv (w : World) (outer : List Env) (gd : Option (List Code)) (p : Program) (loose : List Str) (mean : ExcName → Option Value) (mg mb : Str → Option Value) (base h₀ g : Heap) (L it row : Addr) (wv : List Value) (n5 : Nat) (wx : List Int) (s₀ : List Int × List Int × Told) (orig : List (Addr × Obj)) (j : Nat) (a : Addr) (n : Nat) (s s₀' : Shared) : Prop
  | mk (ha : a = it) (e4 : s₀'.gens = s.gens) (e5 : s₀'.drawn = s.drawn) (e6 : s₀'.os = s.os) (hn : n = wx.length - j) (hj : j ≤ wx.length)
    (st left rest told : Addr) (lv rv tv : List Value) (n1 n2 n3 n4 : Nat) (g' : Heap) (m' : Str → Option Value) (dl tl : List (Addr × Obj))
    (I : IntsAre lv ((wx.take j).foldl hangStep s₀).1) (J : IntsAre rv ((wx.take j).foldl hangStep s₀).2.1) (l : tv.length = j) (D : Deep dl tv (toldD ((wx.take j).foldl hangStep s₀).2.2)) (hd : ∀ q ∈ dl, q ∈ tl ∧ h₀.get? q.1 = none) (ho : ∀ q ∈ orig, q ∈ tl)
    (nw : j = 0 ∨ (h₀.get? st = none ∧ h₀.get? told = none))
    (F : Fr g' L s₀'.heap m') (N : News g' L s₀'.heap ((it, liObj row j) :: (row, lobj wv n5) :: (st, tobj [.ref left, .ref rest, .ref told] n4) :: (left, lobj lv n1) :: (rest, lobj rv n2) :: (told, lobj tv n3) :: tl))
    (ne : ∀ q ∈ (row, lobj wv n5) :: (st, tobj [.ref left, .ref rest, .ref told] n4) :: (left, lobj lv n1) :: (rest, lobj rv n2) :: (told, lobj tv n3) :: tl, q.1 ≠ it)
    (B : Below (AY 730 7300 outer gd) base outer g') (X : (Mine.hk.heap_39 w.params).In g') (T : Top p loose mean mg mb g') (K : KtsTurn (fsOf outer) g g') (mf : m' "function" = some (.ref 116)) (mv : m' "value" = some (.ref st)) :
    RedInv w outer gd p loose mean mg mb base h₀ g L it row wv n5 wx s₀ orig j a n s s₀'
section
local macro_rules | `(tactic| walk_at "compareOp Is ref ref") => `(tactic| (k_here; refine Halt.out ?_))
local macro_rules | `(tactic| walk_at "call builtin:iter") => `(tactic| (k_here; refine Halt.out ?_))
local macro_rules | `(tactic| walk_at "exec For Name Name cons nil") => `(tactic| (k_here; refine Halt.out ?_))
local macro_rules | `(tactic| walk_at "call ref") => `(tactic| (k_here; refine Halt.out ?_))
local macro_rules | `(tactic| walk_at "eval Name") => `(tactic| (k_here; name_kind "local"; refine' ld ?F ?hv ?_ ?c1 ?c2 ?c3; (case F => k_asm); (case hv => first | exact mf | exact mv | (dsimp only; rw [if_neg (by decide)]; exact mf) | (dsimp only; rw [if_neg (by decide)]; exact mv)); (case c1 => rfl); (case c2 => rfl); (case c3 => decide)))
set_option maxHeartbeats 1000000 in
theorem reduce_c {w : World} {outer : List Env} {gd : Option (List Code)} {s : Shared} {base : Heap} {p : Program} {loose : List Str} {mean : ExcName → Option Value} {mg mb : Str → Option Value}
  {st left rest told row : Addr} {lv rv wv : List Value} {lx rx wx : List Int} {n1 n2 n3 n4 n5 : Nat} {R : Result → Shared → Prop}
  (X : Wld w base) (T : Top p loose mean mg mb base) (B : Below (AY 730 7300 outer gd) base outer s.heap)
  (hN : ∀ p ∈ [(st, tobj [.ref left, .ref rest, .ref told] n4), (left, lobj lv n1), (rest, lobj rv n2), (told, lobj [] n3), (row, lobj wv n5)], s.heap.get? p.1 = some p.2 ∧ base.get? p.1 = none ∧ p.1 ∉ fsOf outer)
  (hI : IntsAre lv lx) (hJ : IntsAre rv rx) (hW : IntsAre wv wx) (hl1 : lx.length ≤ 500) (hl2 : rx.length ≤ 500) (hl4 : wx.length ≤ 500)
  (hR : ∀ r left' rest' told' tv' dl h' tk c0 c3, h'.get? r = some (tobj [.ref left', .ref rest', .ref told'] c0) → h'.get? told' = some (lobj tv' c3) → tv'.length = wx.length → Deep dl tv' (toldD (wx.foldl hangStep (lx, rx, [])).2.2) → (∀ q ∈ dl, h'.get? q.1 = some q.2 ∧ s.heap.get? q.1 = none) →
    (wx = [] ∨ (s.heap.get? r = none ∧ s.heap.get? told' = none)) → Kp (fsOf outer) s.heap h' → R (.ok (.ret (.ref r))) { s with heap := h', toks := tk }) :
  codeAny (model PR w) (AY 730 7300 outer gd) (.call (.ref 104) ⟨[.ref 116, .ref row, .ref st], []⟩) R s := by
  refine' enterH X T B [(st, tobj [.ref left, .ref rest, .ref told] n4), (left, lobj lv n1), (rest, lobj rv n2), (told, lobj [] n3), (row, lobj wv n5)] hN ?k6 ?k7 ?k8 ?k9 ?kB ?_ ?c2 ?c3 ?c4 ?c5
  case k6 => k_is
  case k7 => k_is
  case k8 => exact (show (730 : Nat) < 1000 by decide)
  case k9 => exact BindsTo.of_defaults rfl ((X.keeps B.stays).kk 97 _ (by k_is)) rfl rfl rfl
  case kB => exact locs rfl
  case c5 => decide
  case c2 => exact rfl
  case c3 => exact rfl
  case c4 => exact rfl
  intro g L h₁ hg1 hg2 F N B' X' T'
  k_whole
  w_on
  k_steps
  show wpAny _ _ _ _ _ _
  refine iter_N F N (by k_mem) fun it h₂ F₂ N₂ lt₂ => ?_
  clear F N
  try k_fold
  have hst : st ≠ 96 := fun z => by
    have h1 := (hN (st, tobj [.ref left, .ref rest, .ref told] n4) (by k_mem)).2.1
    have h2 : (hk.heap_39 w.params).In base := X.kk
    have h3 := h2 96 _ (by k_is)
    dsimp only at h1
    rw [z, h3] at h1; cases h1
  k_steps
  show wpAny _ _ _ _ _ _
  rename Fr _ _ _ _ => F₃
  rename News _ _ _ _ => N₃
  refine is_no (N₃ (st, _) (by k_mem)).1 (F₃.keep _ _ (X' 96 _ (by k_is))) hst rfl ?_
  try k_fold
  k_steps
  show wpAny _ _ _ _ _ _
  rename Fr _ _ _ _ => F₄
  rename News _ _ _ _ => N₄
  refine for_ind (by passes_own) (fun a n s' => ∃ j, RedInv w outer gd p loose mean mg mb base s.heap g L it row wv n5 wx (lx, rx, []) [(st, tobj [.ref left, .ref rest, .ref told] n4), (left, lobj lv n1), (rest, lobj rv n2), (told, lobj [] n3), (row, lobj wv n5)] j a n s s') ?_ ?_
  · refine ld F₄ rfl ?_
    refine wpAny_pyIter_listiter (l := row) (i := 0) ⟨_, (N₄ (it, liObj row 0) (by k_mem)).1, rfl, rfl⟩ ⟨it, wx.length, rfl, 0, .mk rfl rfl rfl rfl rfl (Nat.zero_le _) st left rest told lv rv [] n1 n2 n3 n4 g _ [] _ hI hJ rfl deep_nil (fun _ h => (nomatch h)) (fun _ h => h) (.inl rfl) F₄ (fun q hq => N₄ q ?_) (fun q hq => ?_) B' X' T' .refl rfl rfl⟩
    · revert q
      repeat (first | exact all_nil | refine in_cons (by k_mem) ?_)
    · refine Nat.ne_of_lt (lt₂ q ?_)
      revert q
      repeat (first | exact all_nil | refine in_cons (by k_mem) ?_)
  · clear F₄ N₄
    intro a n s₅ hz
    obtain ⟨j, hz⟩ := hz
    obtain ⟨ha, e4, e5, e6, hn, hj, st₅, left₅, rest₅, told₅, lv₅, rv₅, tv₅, k1, k2, k3, k4, g₅, m₅, dl, tl, I₅, J₅, l₅, D₅, dl₅, or₅, nw₅, F₅, N₅, ne₅, B₅, X₅, T₅, K₅, mf, mv⟩ := hz
    subst ha
    refine next_N (xs := wx) rfl F₅ N₅ ne₅ (List.Mem.head _) hW (fun n' t h₆ hx F₆ N₆ st₆ => ?_) (fun hx h₆ F₆ N₆ st₆ => ?_)
    · show wpAny _ _ _ _ _ _
      clear F₅ N₅
      k_steps
      show wpAny _ _ _ _ _ _
      rename Fr _ _ _ _ => F₇
      rename News _ _ _ _ => N₇
      have hlen := hang_len (wx.take j) (lx, rx, [])
      refine hang_N (lx := ((wx.take j).foldl hangStep (lx, rx, [])).1) (rx := ((wx.take j).foldl hangStep (lx, rx, [])).2.1) rfl (Nat.le_of_ble_eq_true rfl) (Nat.le_of_ble_eq_true rfl) X T B₅ F₇ N₇ (by k_mem) (by k_mem) (by k_mem) (by k_mem) I₅ J₅ (Nat.le_trans hlen.1 (by dsimp only; lia)) (Nat.le_trans hlen.2.1 (by dsimp only; lia)) (by rw [l₅]; lia) fun g₈ r left' rest' told' tup ends h₈ tk₈ lv' ev c0 c1 c2 c3 c4 c5 F₈ N₈ B₈ X₈ T₈ K₈ P₈ I₈ E₈ n₈ => ?_
      clear B₅ X₅ T₅
      try k_fold
      k_steps
      rename Fr _ _ _ _ => F₉
      rename News _ _ _ _ => N₉
      have hlt := get_lt hx
      have hfold : (wx.take (j + 1)).foldl hangStep (lx, rx, []) = hangStep ((wx.take j).foldl hangStep (lx, rx, [])) n' := by
        rw [List.take_succ, hx, List.foldl_append]; rfl
      have mr : ∀ {q : Addr × Obj}, q ∈ tl → q ∈ (a, liObj row (j + 1)) :: (row, lobj wv n5) :: (st₅, tobj [.ref left₅, .ref rest₅, .ref told₅] k4) :: (left₅, lobj lv₅ k1) :: (rest₅, lobj rv₅ k2) :: (told₅, lobj tv₅ k3) :: tl := fun h => .tail _ (.tail _ (.tail _ (.tail _ (.tail _ (.tail _ h)))))
      have newS : ∀ x, x ∈ [r, left', rest', told', tup, ends] → g₈.get? x = none → s.heap.get? x = none := fun x hx e => by
        cases q : s.heap.get? x with
        | none => rfl
        | some o =>
          have nm : x ∉ [(st, tobj [.ref left, .ref rest, .ref told] n4), (left, lobj lv n1), (rest, lobj rv n2), (told, lobj [] n3), (row, lobj wv n5)].map (·.1) := fun hm => by
            obtain ⟨qq, hq, rfl⟩ := List.mem_map.mp hm
            exact n₈ qq (mr (or₅ qq hq)) _ hx rfl
          obtain ⟨sl, q'⟩ := (K₅.trans K₈).up (hg2 x o q nm)
          rw [e] at q'; cases q'
      have m6 : ∀ {q : Addr × Obj}, q ∈ tl → q ∈ (tup, tobj [.ref ends, .int n' t] c4) :: (ends, lobj ev c5) :: (st₅, tobj [.ref left₅, .ref rest₅, .ref told₅] k4) :: (left₅, lobj lv₅ k1) :: (rest₅, lobj rv₅ k2) :: (told₅, lobj tv₅ k3) :: tl := fun h => .tail _ (.tail _ (.tail _ (.tail _ (.tail _ (.tail _ h)))))
      show ∃ m, _
      refine ⟨wx.length - (j + 1), by lia, j + 1, .mk rfl e4 e5 e6 rfl hlt r left' rest' told' lv' (rv₅.drop 1) (tv₅ ++ [.ref tup]) c1 c2 c3 c0 g₈ _ ((tup, tobj [.ref ends, .int n' t] c4) :: (ends, lobj ev c5) :: dl)
        ((tup, tobj [.ref ends, .int n' t] c4) :: (ends, lobj ev c5) :: (st₅, tobj [.ref left₅, .ref rest₅, .ref told₅] k4) :: (left₅, lobj lv₅ k1) :: (rest₅, lobj rv₅ k2) :: (told₅, lobj tv₅ k3) :: tl) ?_ ?_ (by rw [List.length_append, l₅]; rfl) ?_ (fun q hq => ?_) (fun q hq => m6 (or₅ q hq)) (.inr ⟨newS _ (by k_mem) (N₉ (r, tobj [.ref left', .ref rest', .ref told'] c0) (by k_mem)).2.2, newS _ (by k_mem) (N₉ (told', lobj (tv₅ ++ [.ref tup]) c3) (by k_mem)).2.2⟩) F₉ (fun q hq => N₉ q ?_) (fun q hq => ?_) B₈ X₈ T₈ (K₅.trans K₈) ?_ ?_⟩
      · rw [hfold]; exact I₈
      · rw [hfold]; exact J₅.drop 1
      · rw [hfold]
        have := deep_snoc (tup := tup) (ends := ends) (f := n') (ft := t) (c4 := c4) (c5 := c5) D₅ E₈
        simpa [hangStep, toldD] using this
      · exact all_cons (P := fun q => q ∈ _ ∧ s.heap.get? q.1 = none) ⟨by k_mem, newS _ (by k_mem) (N₉ (tup, tobj [.ref ends, .int n' t] c4) (by k_mem)).2.2⟩ (all_cons ⟨by k_mem, newS _ (by k_mem) (N₉ (ends, lobj ev c5) (by k_mem)).2.2⟩ fun q hq => ⟨m6 (dl₅ q hq).1, (dl₅ q hq).2⟩) q hq
      · revert q
        repeat (first | (refine in_cons (by k_mem) ?_) | (intro q hq; repeat (first | exact hq | apply List.Mem.tail)))
      · have nit := n₈ (a, liObj row (j + 1)) (by k_mem)
        exact all_cons (P := fun q => q.1 ≠ a) (ne₅ _ (by k_mem)) (all_cons (Ne.symm (nit _ (by k_mem))) (all_cons (Ne.symm (nit _ (by k_mem))) (all_cons (Ne.symm (nit _ (by k_mem))) (all_cons (Ne.symm (nit _ (by k_mem))) (all_cons (Ne.symm (nit _ (by k_mem))) (all_cons (Ne.symm (nit _ (by k_mem))) fun q hq => ne₅ q (.tail _ hq))))))) q hq
      · rw [if_neg (by decide), if_neg (by decide)]; exact mf
      · rw [if_pos rfl]
    · show wpAny _ _ _ _ _ _
      clear F₅ N₅
      k_steps
      have hj2 : j = wx.length := by
        have := List.getElem?_eq_none_iff.mp hx
        lia
      have htk : wx.take j = wx := by rw [hj2, List.take_length]
      show R _ _
      dsimp only
      rw [e4, e5, e6]
      rw [htk] at D₅
      refine hR st₅ left₅ rest₅ told₅ tv₅ dl h₆ _ k4 k3 (N₆ (st₅, tobj [.ref left₅, .ref rest₅, .ref told₅] k4) (by k_mem)).1 (N₆ (told₅, lobj tv₅ k3) (by k_mem)).1 (by rw [l₅, hj2]) D₅ (fun q hq => ⟨(N₆ q (.tail _ (.tail _ (.tail _ (.tail _ (.tail _ (dl₅ q hq).1)))))).1, (dl₅ q hq).2⟩) ?_ (kp_end (fun p hp => (hN p hp).1) hg2 K₅ F₆ N₆ fun q hq => .tail _ (.tail _ (.tail _ (.tail _ (.tail _ (or₅ q hq))))))
      rcases nw₅ with z | z
      · left
        rw [z] at hj2
        exact List.length_eq_zero_iff.mp hj2.symm
      · exact .inr z
end
end Mine
end
section
open PySem PySem.W PyProof.Rows PySem.Calls
namespace Mine
theorem reduce_N {w : World} {base g : Heap} {outer : List Env} {gd : Option (List Code)} {L : Addr} {m : Str → Option Value} {news : List (Addr × Obj)} {p : Program} {loose : List Str} {mean : ExcName → Option Value} {mg mb : Str → Option Value} {s : Shared} {E : Value → Shared → Prop}
    {d u : Nat} {name : Str} {scope : Scope} {fa : Addr} {cd : Value} {st left rest told row : Addr} {lv rv wv : List Value} {lx rx wx : List Int} {n1 n2 n3 n4 n5 : Nat} {Q : Value → Shared → Prop}
    (hk : scope.kind = .function) (hd : d + 1 ≤ 730) (hu : u + 3 ≤ 7300) (X : Wld w base) (T : Top p loose mean mg mb base) (B : Below (AY d u outer gd) base outer g) (F : Fr g L s.heap m) (N : News g L s.heap news)
    (m1 : (st, tobj [.ref left, .ref rest, .ref told] n4) ∈ news) (m2 : (left, lobj lv n1) ∈ news) (m3 : (rest, lobj rv n2) ∈ news) (m4 : (told, lobj [] n3) ∈ news) (m5 : (row, lobj wv n5) ∈ news) (hI : IntsAre lv lx) (hJ : IntsAre rv rx) (hW : IntsAre wv wx) (hl1 : lx.length ≤ 500) (hl2 : rx.length ≤ 500) (hl4 : wx.length ≤ 500) (hne : wx ≠ [])
    (hQ : ∀ g' r left' rest' told' tv' dl h' tk c0 c3, Fr g' L h' m → News g' L h' ((r, tobj [.ref left', .ref rest', .ref told'] c0) :: (told', lobj tv' c3) :: news) → Below (AY d u outer gd) base outer g' → (Mine.hk.heap_39 w.params).In g' → Top p loose mean mg mb g' → KtsTurn (fsOf outer) g g' → Kp (L :: fsOf outer) s.heap h' →
      tv'.length = wx.length → Deep dl tv' (toldD (wx.foldl hangStep (lx, rx, [])).2.2) → (∀ q ∈ dl, h'.get? q.1 = some q.2 ∧ s.heap.get? q.1 = none) → s.heap.get? told' = none → (∀ q ∈ news, q.1 ≠ told') → Q (.ref r) { s with heap := h', toks := tk }) :
    wpAny (model PR w) ((AY d u outer gd).deeper (envOf name scope L fa cd)) (call (.ref 104) [.ref 116, .ref row, .ref st]) Q E s := by
  have BF := B.push (name := name) (a := fa) (cd := cd) F hk
  refine wpAny_call (code_lift (outer := envOf name scope L fa cd :: outer) rfl rfl hd hu ?_)
  have own : ∀ a o, (a, o) ∈ news → s.heap.get? a = some o ∧ base.get? a = none ∧ a ∉ fsOf (envOf name scope L fa cd :: outer) := fun a o hm =>
    ⟨(N _ hm).1, none_of_stays B.stays (N _ hm).2.2, not_frame2 rfl (N _ hm).2.1 (not_frame B (N _ hm).2.2)⟩
  refine reduce_c (lx := lx) (rx := rx) (wx := wx) (wv := wv) (lv := lv) (rv := rv) (left := left) (rest := rest) (told := told) (n1 := n1) (n2 := n2) (n3 := n3) (n4 := n4) (n5 := n5) X T ⟨rfl, BF.stays, BF.frames⟩ ?_ hI hJ hW hl1 hl2 hl4 fun r left' rest' told' tv' dl h' tk c0 c3 i1 i2 i3 i4 i5 i6 i7 => ?_
  · intro q hq
    simp only [List.mem_cons, List.not_mem_nil, or_false] at hq
    rcases hq with rfl | rfl | rfl | rfl | rfl
    · exact own _ _ m1
    · exact own _ _ m2
    · exact own _ _ m3
    · exact own _ _ m4
    · exact own _ _ m5
  have i7' : Kp (L :: fsOf outer) s.heap h' := by
    refine i7.mono fun b hb => ?_
    rcases kts_mem hb with z | z
    · rw [z]; exact List.mem_cons_self
    · exact List.mem_cons_of_mem _ z
  obtain ⟨g', K, F', N', B', X', T'⟩ := after_kp X T B F N i7'
  have i6' := i6.resolve_left hne
  refine hQ g' r left' rest' told' tv' dl h' tk c0 c3 F' ?_ B' X' T' K i7' i3 i4 i5 i6'.2 (fun q hq z => ?_)
  · have add : ∀ a o, h'.get? a = some o → s.heap.get? a = none → h'.get? a = some o ∧ a ≠ L ∧ g'.get? a = none := fun a o hm nn => by
      refine ⟨hm, fun z => ?_, K.none_ _ (none_of_stays F.keep nn)⟩
      obtain ⟨oL, _, _, hL, _⟩ := F.ns
      rw [← z, nn] at hL
      cases hL
    intro q hq
    simp only [List.mem_cons] at hq
    rcases hq with rfl | rfl | hq
    · exact add _ _ i1 i6'.1
    · exact add _ _ i2 i6'.2
    · exact N' q hq
  · have := (N q hq).1
    rw [z, i6'.2] at this; cases this
theorem new_back {s g h : Heap} {L x : Addr} {m : Str → Option Value} {news₀ news' : List (Addr × Obj)} (hN : ∀ p ∈ news₀, s.get? p.1 = some p.2) (hg2 : ∀ b o, s.get? b = some o → b ∉ news₀.map (·.1) → g.get? b = some o)
    (F : Fr g L h m) (N : News g L h news') (sub : ∀ p ∈ news₀, p ∈ news') (e : h.get? x = none) : s.get? x = none := by
  cases q : s.get? x with
  | none => rfl
  | some o =>
    have k := kp_end hN hg2 (KtsTurn.refl (fs := [])) F N sub
    rw [k.other x o q (by simp)] at e; cases e
section
local macro_rules | `(tactic| walk_at "call ref") => `(tactic| (k_here; refine Halt.out ?_))
set_option maxHeartbeats 1000000 in
theorem forest_c {w : World} {outer : List Env} {gd : Option (List Code)} {s : Shared} {base : Heap} {p : Program} {loose : List Str} {mean : ExcName → Option Value} {mg mb : Str → Option Value}
  {others row : Addr} {ov wv : List Value} {ox wx : List Int} {n1 n5 : Nat} {R : Result → Shared → Prop}
  (X : Wld w base) (T : Top p loose mean mg mb base) (B : Below (AY 720 7200 outer gd) base outer s.heap)
  (hN : ∀ p ∈ [(others, lobj ov n1), (row, lobj wv n5)], s.heap.get? p.1 = some p.2 ∧ base.get? p.1 = none ∧ p.1 ∉ fsOf outer)
  (hI : IntsAre ov ox) (hW : IntsAre wv wx) (hl1 : ox.length ≤ 500) (hl4 : wx.length ≤ 500) (hne : wx ≠ [])
  (hR : ∀ r tv dl h' tk c, h'.get? r = some (lobj tv c) → tv.length = wx.length → Deep dl tv (toldD (forestOf ox wx)) → (∀ q ∈ dl, h'.get? q.1 = some q.2 ∧ s.heap.get? q.1 = none) →
    s.heap.get? r = none → Kp (fsOf outer) s.heap h' → R (.ok (.ret (.ref r))) { s with heap := h', toks := tk }) :
  codeAny (model PR w) (AY 720 7200 outer gd) (.call (.ref 123) ⟨[.ref others, .ref row], []⟩) R s := by
  refine' enterH X T B [(others, lobj ov n1), (row, lobj wv n5)] hN ?k6 ?k7 ?k8 ?k9 ?kB ?_ ?c2 ?c3 ?c4 ?c5
  case k6 => k_is
  case k7 => k_is
  case k8 => exact (show (720 : Nat) < 1000 by decide)
  case k9 => exact BindsTo.of_eq rfl
  case kB => exact locs rfl
  case c5 => decide
  case c2 => exact rfl
  case c3 => exact rfl
  case c4 => exact rfl
  intro g L h₁ hg1 hg2 F N B' X' T'
  k_whole
  w_on
  k_steps
  show wpAny _ _ _ _ _ _
  rename Fr _ _ _ _ => F₁
  rename News _ _ _ _ => N₁
  refine reduce_N (lx := ox) (rx := wx) (wx := wx) rfl (Nat.le_of_ble_eq_true rfl) (Nat.le_of_ble_eq_true rfl) X T B' F₁ N₁ (List.Mem.head _) (by k_mem) (by k_mem) (List.Mem.tail _ (List.Mem.head _)) (by k_mem) hI hW hW hl1 hl4 hl4 hne
    fun g₂ r left' rest' told' tv dl h₂ tk₂ c0 c3 F₂ N₂ B₂ X₂ T₂ K₂ P₂ l₂ D₂ dl₂ nt₂ ne₂ => ?_
  have nb : ∀ x, _ → s.heap.get? x = none := fun x e => new_back (fun p hp => (hN p hp).1) hg2 F₁ N₁ (fun q hq => by
    simp only [List.mem_cons, List.not_mem_nil, or_false] at hq
    rcases hq with rfl | rfl <;> k_mem) e
  clear B' X' T'
  try k_fold
  k_steps
  dsimp only
  have xt := (N₂ (told', lobj tv c3) (by k_mem)).1
  refine hR told' tv dl h₂ _ c3 xt l₂ D₂ (fun q hq => ⟨(dl₂ q hq).1, nb _ (dl₂ q hq).2⟩) (nb _ nt₂) (kp_end (fun p hp => (hN p hp).1) hg2 K₂ F₂ N₂ fun q hq => ?_)
  simp only [List.mem_cons, List.not_mem_nil, or_false] at hq
  rcases hq with rfl | rfl <;> k_mem
end
end Mine
end
section
open PySem PySem.W PyProof.Rows PySem.Calls
namespace Mine
local macro_rules | `(tactic| walk_at "pad") => `(tactic| skip)
local macro_rules | `(tactic| walk_at "pad") => `(tactic| skip)
/-! quiet expressions: what they give where the heap is as `H` says -/
def Ev (w : World) (A : Around) (env : Env) (H : Heap → Prop) (e : PySem.Expr) (P : Value → Prop) : Prop :=
  ∀ (s : Shared) (Q : Value → Shared → Prop) (E : Value → Shared → Prop), H s.heap → (∀ v tk, P v → Q v { s with toks := tk }) → wpAny (model PR w) A (eval e env) Q E s
def isI (n : Int) (v : Value) : Prop := ∃ t, v = .int n t
section
variable {w : World} {A : Around} {env : Env} {H : Heap → Prop}
theorem ev_const {n : Int} {k} {pos : Pos} : Ev w A env H (.Constant (.int n) k pos) (isI n) := fun s Q E _ hQ => wpAny_Constant_int (hQ _ _ ⟨_, rfl⟩)
theorem ev_neg {n : Int} {k} {p1 pos : Pos} : Ev w A env H (.UnaryOp .USub (.Constant (.int n) k p1) pos) (isI (-n)) := fun s Q E _ hQ => by
  refine PySem.wpAny_UnaryOp (wpAny_Constant_int ?_)
  exact PyProof.Rows.neg_int (hQ _ _ ⟨_, rfl⟩)
theorem ev_own {x : Str} {pos : Pos} {v : Value} (hH : ∀ h, H h → ∃ m, h.Ns env.locals m ∧ m x = some v) (hk : env.scope.kind = .function := by rfl) (hl : env.kindOf x = some .local := by rfl) (hd : (x == ("__debug__" : Str)) = false := by decide) :
    Ev w A env H (.Name x pos) (· = v) := fun s Q E hs hQ => by
  obtain ⟨m, h1, h2⟩ := hH _ hs
  exact wpAny_Name (wpAny_loadName_local hk hl h1 h2 (hQ v s.toks rfl)) hd
theorem ev_cell {x : Str} {pos : Pos} {v : Value} {c : Addr} (hc : env.cells.lookup x = some c) (hH : ∀ h, H h → h.IsCell c (some v)) (hk : env.scope.kind = .function := by rfl) (hl : env.kindOf x = some .cell := by rfl) (hd : (x == ("__debug__" : Str)) = false := by decide) :
    Ev w A env H (.Name x pos) (· = v) := fun s Q E hs hQ => wpAny_Name (wpAny_loadName_cell hk hl hc (hH _ hs) (hQ v s.toks rfl)) hd
theorem ev_free {x : Str} {pos : Pos} {v : Value} {c : Addr} (hc : env.cells.lookup x = some c) (hH : ∀ h, H h → h.IsCell c (some v)) (hk : env.scope.kind = .function := by rfl) (hl : env.kindOf x = some .free := by rfl) (hd : (x == ("__debug__" : Str)) = false := by decide) (hn : (x == ("__classdict__" : Str)) = false := by decide) :
    Ev w A env H (.Name x pos) (· = v) := fun s Q E hs hQ => wpAny_Name (wpAny_loadName_free hk hl hc (hH _ hs) (hQ v s.toks rfl) hn) hd
theorem Ev.mono {e : PySem.Expr} {P P' : Value → Prop} (h : Ev w A env H e P) (hp : ∀ v, P v → P' v) : Ev w A env H e P' := fun s Q E hs hQ => h s Q E hs fun v tk q => hQ v tk (hp v q)
/-- what `H` says of a heap does not look at tokens -/
theorem ev_bin {l r : PySem.Expr} {op : Operator} {pos : Pos} {a b c : Int} (hl : Ev w A env H l (isI a)) (hr : Ev w A env H r (isI b))
    (ho : ∀ (s : Shared) (Q : Value → Shared → Prop) (E : Value → Shared → Prop) t u, (∀ v tk, isI c v → Q v { s with toks := tk }) → wpAny (model PR w) A (binaryOp op (.int a t) (.int b u)) Q E s) :
    Ev w A env H (.BinOp l op r pos) (isI c) := fun s Q E hs hQ => by
  refine wpAny_BinOp (hl s _ _ hs fun v tk hv => ?_)
  obtain ⟨t, rfl⟩ := hv
  refine hr { s with toks := tk } _ _ hs fun v tk' hv => ?_
  obtain ⟨u, rfl⟩ := hv
  exact ho { s with toks := tk' } _ _ t u fun v tk'' q => hQ v tk'' q
theorem ev_mod {l r : PySem.Expr} {pos : Pos} {a b : Int} (hl : Ev w A env H l (isI a)) (hr : Ev w A env H r (isI b)) (hb : b ≠ 0) : Ev w A env H (.BinOp l .Mod r pos) (isI (a.fmod b)) :=
  ev_bin hl hr fun s Q E t u hQ => PyProof.Rows.mod_int hb (hQ _ _ ⟨_, rfl⟩)
theorem ev_floor {l r : PySem.Expr} {pos : Pos} {a b : Int} (hl : Ev w A env H l (isI a)) (hr : Ev w A env H r (isI b)) (hb : b ≠ 0) (hp : Builtin.divisionGoesByPylong a b = false) : Ev w A env H (.BinOp l .FloorDiv r pos) (isI (a.fdiv b)) :=
  ev_bin hl hr fun s Q E t u hQ => PyProof.Rows.floordiv_int hb (hQ _ _ ⟨_, rfl⟩) (.inl hp)
theorem ev_add {l r : PySem.Expr} {pos : Pos} {a b : Int} (hl : Ev w A env H l (isI a)) (hr : Ev w A env H r (isI b)) : Ev w A env H (.BinOp l .Add r pos) (isI (a + b)) :=
  ev_bin hl hr fun s Q E t u hQ => PyProof.Rows.add_int (hQ _ _ ⟨_, rfl⟩)
theorem ev_sub {l r : PySem.Expr} {pos : Pos} {a b : Int} (hl : Ev w A env H l (isI a)) (hr : Ev w A env H r (isI b)) : Ev w A env H (.BinOp l .Sub r pos) (isI (a - b)) :=
  ev_bin hl hr fun s Q E t u hQ => PyProof.Rows.sub_int (hQ _ _ ⟨_, rfl⟩)
theorem ev_mul {l r : PySem.Expr} {pos : Pos} {a b : Int} (hl : Ev w A env H l (isI a)) (hr : Ev w A env H r (isI b)) (hm : IntMulOk a b) : Ev w A env H (.BinOp l .Mult r pos) (isI (a * b)) :=
  ev_bin hl hr fun s Q E t u hQ => PyProof.Rows.mul_int (hQ _ _ ⟨_, rfl⟩) hm
theorem ev_item {o i : PySem.Expr} {pos : Pos} {l : Addr} {k : Int} {vs : List Value} {x : Value} (ho : Ev w A env H o (· = .ref l)) (hi : Ev w A env H i (isI k)) (hl : ∀ h, H h → h.IsList l vs.toArray) (h0 : 0 ≤ k) (hf : k < 2 ^ 63) (hx : vs[k.toNat]? = some x)
    (hs : ∀ t, subscripted i false (.ref l) (.int k t) = operate [.ref l, .int k t] (getItem (.ref l) (.int k t)) := by intro _; with_unfolding_all rfl) :
    Ev w A env H (.Subscript o i pos) (· = x) := fun s Q E h hQ => by
  refine Subscript_ (ho s _ _ h fun v tk hv => ?_)
  subst hv
  refine hi { s with toks := tk } _ _ h fun v tk' hv => ?_
  obtain ⟨t, rfl⟩ := hv
  have isl : ({ s with toks := tk' } : Shared).heap.IsList l vs.toArray := hl _ h
  exact tail_any isl.typeIs slot_list_getitem.lookup (wpAny_getItem_list (x := x) isl h0 hf (by simpa using hx) (hQ x tk' rfl)) (hs t)
theorem ev_key {o i : PySem.Expr} {pos : Pos} {d : Addr} {k : Int} {kvs : List (Int × Value)} {x : Value} (ho : Ev w A env H o (· = .ref d)) (hi : Ev w A env H i (isI k)) (hl : ∀ h, H h → h.DictOf (intKind PR w) d kvs) (hx : valueAt kvs k = some x)
    (hs : ∀ t, subscripted i false (.ref d) (.int k t) = operate [.ref d, .int k t] (getItem (.ref d) (.int k t)) := by intro _; with_unfolding_all rfl) :
    Ev w A env H (.Subscript o i pos) (· = x) := fun s Q E h hQ => by
  refine Subscript_ (ho s _ _ h fun v tk hv => ?_)
  subst hv
  refine hi { s with toks := tk } _ _ h fun v tk' hv => ?_
  obtain ⟨t, rfl⟩ := hv
  have isd : ({ s with toks := tk' } : Shared).heap.DictOf (intKind PR w) d kvs := hl _ h
  refine tail_any isd.typeIs slot_dict_getitem.lookup (wpAny_getItem_of (knd := intKind PR w) (k := k) ?_ isd.mapOf hx (hQ x _ rfl)) (hs t)
  show Value.isInt k (.int k t) = true
  simp [Value.isInt]
/-- a test -/
def EvT (w : World) (A : Around) (env : Env) (H : Heap → Prop) (ifs : List PySem.Expr) (b : Bool) : Prop :=
  ∀ (s : Shared) (Q : Bool → Shared → Prop) (E : Value → Shared → Prop), H s.heap → (∀ tk, Q b { s with toks := tk }) →
    wpAny (model PR w) A (forIn ifs true fun c r => if r = true then do let ok ← isTrue c env (eval c env); pure (ForInStep.yield ok) else pure (ForInStep.yield r)) Q E s
theorem evt_nil : EvT w A env H [] true := fun s Q E _ hQ => wpAny_tests_nil (hQ s.toks)
theorem evt_cmp {l r : PySem.Expr} {op : CmpOp} {pos : Pos} {a b : Int} {c : Bool} (hl : Ev w A env H l (isI a)) (hr : Ev w A env H r (isI b))
    (ho : ∀ (s : Shared) (Q : Value → Shared → Prop) (E : Value → Shared → Prop) t u, Q (.bool c) s → wpAny (model PR w) A (compareOp op (.int a t) (.int b u)) Q E s) (hm : behindInMarks op r = false := by with_unfolding_all rfl) :
    EvT w A env H [.Compare l [op] [r] pos] c := fun s Q E hs hQ => by
  refine wpAny_tests_one (wpAny_isTrue_Compare1 (hl s _ _ hs fun v tk hv => ?_) hm)
  obtain ⟨t, rfl⟩ := hv
  refine hr { s with toks := tk } _ _ hs fun v tk' hv => ?_
  obtain ⟨u, rfl⟩ := hv
  exact ho { s with toks := tk' } _ _ t u (wpAny_truthy_bool (hQ tk'))
theorem evt_eq {l r : PySem.Expr} {pos : Pos} {a b : Int} (hl : Ev w A env H l (isI a)) (hr : Ev w A env H r (isI b)) (hm : behindInMarks .Eq r = false := by with_unfolding_all rfl) : EvT w A env H [.Compare l [.Eq] [r] pos] (a == b) :=
  evt_cmp hl hr (fun s Q E t u h => PyProof.Rows.eq_int h) hm
theorem evt_gt {l r : PySem.Expr} {pos : Pos} {a b : Int} (hl : Ev w A env H l (isI a)) (hr : Ev w A env H r (isI b)) (hm : behindInMarks .Gt r = false := by with_unfolding_all rfl) : EvT w A env H [.Compare l [.Gt] [r] pos] (decide (b < a)) :=
  evt_cmp hl hr (fun s Q E t u h => PyProof.Rows.gt_int h) hm
theorem ev_last {o i : PySem.Expr} {pos : Pos} {l : Addr} {k : Int} {vs : List Value} {x : Value} (ho : Ev w A env H o (· = .ref l)) (hi : Ev w A env H i (isI k)) (hl : ∀ h, H h → h.IsList l vs.toArray) (h0 : k < 0) (h1 : -(vs.length : Int) ≤ k) (hf : -(2 ^ 63) ≤ k) (hx : vs[(k + vs.length).toNat]? = some x)
    (hs : ∀ t, subscripted i false (.ref l) (.int k t) = operate [.ref l, .int k t] (getItem (.ref l) (.int k t)) := by intro _; with_unfolding_all rfl) :
    Ev w A env H (.Subscript o i pos) (· = x) := fun s Q E h hQ => by
  refine Subscript_ (ho s _ _ h fun v tk hv => ?_)
  subst hv
  refine hi { s with toks := tk } _ _ h fun v tk' hv => ?_
  obtain ⟨t, rfl⟩ := hv
  have isl : ({ s with toks := tk' } : Shared).heap.IsList l vs.toArray := hl _ h
  refine tail_any isl.typeIs slot_list_getitem.lookup (wpAny_getItem_list_neg (x := x) isl ?_ ?_ ?_ ?_ ?_) (hs t)
  all_goals first | exact h0 | exact hf | exact hQ x tk' rfl | simpa using hx | simpa using h1
end
/-! comprehensions -/
/-- iterating `v` gives the ints `xs` -/
def IterInts (w : World) (A : Around) (g : Heap) (L : Addr) (m : Str → Option Value) (news : List (Addr × Obj)) (v : Value) (xs : List Int) (s₁ : Shared) : Prop :=
  ∀ (Q : Value → Shared → Prop) (E : Value → Shared → Prop), (∀ I fp P St h₂, Walks PR w A I fp [I] xs.length P St → St 0 h₂ → (∀ b ∈ fp, b < h₂.objs.size) → (∀ i v, P i v → ∃ x, xs[i]? = some x ∧ isI x v) → Fr g L h₂ m → News g L h₂ news → (∀ q ∈ news, q.1 ≠ I) → I ≠ L → g.get? I = none → Q (.ref I) { s₁ with heap := h₂ }) →
    wpAny (model PR w) A (pyIter v) Q E s₁
theorem iterInts_list {w : World} {A : Around} {g : Heap} {L : Addr} {m : Str → Option Value} {news : List (Addr × Obj)} {l : Addr} {vs : List Value} {n : Nat} {xs : List Int} {s₁ : Shared} (hh : A.handled = none) (F : Fr g L s₁.heap m) (N : News g L s₁.heap news) (hm : (l, lobj vs n) ∈ news) (hI : IntsAre vs xs) :
    IterInts w A g L m news (.ref l) xs s₁ := fun Q E hQ => by
  have hl : s₁.heap.IsList l vs.toArray := ⟨_, (N _ hm).1, rfl, _, rfl⟩
  have hlt : l < s₁.heap.objs.size := Heap.lt_size (N _ hm).1
  refine wpAny_pyIter_list hl ?_
  have W := Walks.list (prog := PR) (w := w) (A := A) hh s₁.heap.objs.size l (Nat.ne_of_lt hlt) vs.toArray
  have e : vs.toArray.size = xs.length := by simp [hI.length]
  rw [e] at W
  refine hQ s₁.heap.objs.size [s₁.heap.objs.size, l] _ _ _ W ⟨⟨_, Heap.get?_push_size _ rfl, rfl, rfl⟩, hl.push _⟩ (fun b hb => ?_) (fun i v hv => ?_) (F.push _) (fun q hq => ⟨Heap.get?_push_of_some _ (N q hq).1, (N q hq).2⟩) (fun q hq => Nat.ne_of_lt (Heap.lt_size (N q hq).1)) (Nat.ne_of_gt F.ns.lt) (next_is_new F)
  · rw [Heap.size_push]
    rcases List.mem_cons.mp hb with rfl | hb
    · exact Nat.lt_succ_self _
    · rw [List.mem_singleton.mp hb]; exact Nat.lt_succ_of_lt hlt
  · obtain ⟨n, t, rfl, hn⟩ := hI.at i v (by simpa using hv)
    exact ⟨n, hn, t, rfl⟩
theorem iterInts_range {w : World} {A : Around} {g : Heap} {L : Addr} {m : Str → Option Value} {news : List (Addr × Obj)} {r : Addr} {a b c : Int} {t u v : Tok} {n : Nat} {s₁ : Shared} (hh : A.handled = none) (F : Fr g L s₁.heap m) (N : News g L s₁.heap news) (hr : IsRange s₁.heap r a b c t u v) (hs : Builtin.Range.small a b c = true) (hn : Builtin.Range.rangeSize a b c = ((n : Nat) : Int)) :
    IterInts w A g L m news (.ref r) ((List.range n).map fun i : Nat => a + (i : Int) * c) s₁ := fun Q E hQ => by
  refine wpAny_pyIter_range hr hs ?_
  rw [hn]
  have W := Walks.range (prog := PR) (w := w) (A := A) hh s₁.heap.objs.size a c n
  have W := W.bound
  have e : ((List.range n).map fun i : Nat => a + (i : Int) * c).length = n := by simp
  rw [← e] at W
  refine hQ s₁.heap.objs.size [s₁.heap.objs.size] _ _ _ W ?_ (fun b hb => ?_) (fun i v hv => ?_) (F.push _) (fun q hq => ⟨Heap.get?_push_of_some _ (N q hq).1, (N q hq).2⟩) (fun q hq => Nat.ne_of_lt (Heap.lt_size (N q hq).1)) (Nat.ne_of_gt F.ns.lt) (next_is_new F)
  · show IsRangeIter _ _ _ _ _
    simpa using Heap.get?_push_size _ rfl
  · rw [List.mem_singleton.mp hb, Heap.size_push]; exact Nat.lt_succ_self _
  · obtain ⟨hi, t, rfl⟩ := hv
    rw [e] at hi
    exact ⟨a + i * c, by simp [hi], t, rfl⟩

def HC (g : Heap) (news : List (Addr × Obj)) (C : Addr) (nm : Str) (v : Value) (h : Heap) : Prop :=
  (∀ b o, g.get? b = some o → h.get? b = some o) ∧ (∀ q ∈ news, h.get? q.1 = some q.2) ∧ ∃ mC, h.Ns C mC ∧ mC nm = some v
def pOf (p : Int → Bool) (v : Value) : Bool := match v with | .int x _ => p x | _ => false
theorem pOf_is {p : Int → Bool} {x : Int} {v : Value} (h : isI x v) : pOf p v = p x := by obtain ⟨t, rfl⟩ := h; rfl
def fOf (f : Int → Int) (v y : Value) : Prop := ∃ x, isI x v ∧ isI (f x) y
theorem ints_of {P : Nat → Value → Prop} : ∀ {vs : List Value} {xs : List Int}, vs.length = xs.length → (∀ j v, vs[j]? = some v → P j v) → (∀ i v, P i v → ∃ x, xs[i]? = some x ∧ isI x v) → IntsAre vs xs := by
  intro vs xs h1 h2 h3
  have h4 : ∀ j v, vs[j]? = some v → ∃ x, xs[j]? = some x ∧ isI x v := fun j v e => h3 j v (h2 j v e)
  clear h2 h3
  induction vs generalizing xs with
  | nil => cases xs with
    | nil => exact .nil
    | cons => simp at h1
  | cons v vs ih => cases xs with
    | nil => simp at h1
    | cons x xs =>
      obtain ⟨x', e, t, rfl⟩ := h4 0 v rfl
      simp at e; subst e
      exact .cons _ _ (ih (by simpa using h1) fun j v e => by simpa using h4 (j + 1) v (by simpa using e))
theorem ints_filter {p : Int → Bool} {f : Int → Int} : ∀ {vs ys : List Value} {xs : List Int}, IntsAre vs xs → Paired (fOf f) (vs.filter (pOf p)) ys → IntsAre ys ((xs.filter p).map f)
  | [], ys, _, .nil, h => by cases h; exact .nil
  | _ :: vs, ys, _, .cons n t r, h => by
    have e : pOf p (.int n t) = p n := rfl
    rw [List.filter_cons, e] at h
    rw [List.filter_cons]
    cases hp : p n with
    | false =>
      rw [hp, if_neg (by decide)] at h
      rw [if_neg (by decide)]
      exact ints_filter r h
    | true =>
      rw [hp, if_pos rfl] at h
      rw [if_pos rfl, List.map_cons]
      cases h with
      | cons a b =>
        obtain ⟨x, ⟨t1, e1⟩, t2, rfl⟩ := a
        cases e1
        exact .cons _ _ (ints_filter r b)
theorem off1 {D : Addr} : ∀ {l : List (Addr × Obj)}, (∀ q ∈ l, q.1 ≠ D) → LCg.Off1 D l
  | [], _ => trivial
  | _ :: _, h => ⟨h _ List.mem_cons_self, off1 fun q hq => h q (List.mem_cons_of_mem _ hq)⟩
section
variable {w : World} {A : Around} {E : Value → Shared → Prop} {s : Shared} {env : Env}
/-- what a list comprehension over ints asks -/
inductive LcAsk (w : World) (A : Around) (env : Env) (scope : Scope) (cl : List (Str × Addr)) (nm : Str) (ifs : List PySem.Expr) (elt : PySem.Expr) (R : Heap → Addr → (Str → Option Value) → List (Addr × Obj) → Addr → Heap → Nat → Shared → Prop) (xv : Value) (s₁ : Shared) : Prop
  | mk (g : Heap) (L : Addr) (m : Str → Option Value) (news : List (Addr × Obj)) (xs : List Int) (p : Int → Bool) (f : Int → Int) (F : Fr g L s₁.heap m) (N : News g L s₁.heap news) (IT : IterInts w A g L m news xv xs s₁) (hl : xs.length ≤ 1000)
    (ht : ∀ C x v, x ∈ xs → isI x v → EvT w A (compEnvC scope cl C env) (HC g news C nm v) ifs (p x))
    (he : ∀ C x v, x ∈ xs → isI x v → p x = true → Ev w A (compEnvC scope cl C env) (HC g news C nm v) elt (isI (f x)))
    (hR : ∀ D ys h' tk c, News g L h' ((D, lobj ys c) :: news) → LCg.Off1 D news → IntsAre ys ((xs.filter p).map f) → R g L m news D h' tk s₁) : LcAsk w A env scope cl nm ifs elt R xv s₁
theorem lc_quiet {g : Heap} {L I : Addr} {m : Str → Option Value} {news : List (Addr × Obj)} {scope : Scope} {cl : List (Str × Addr)} {nm : Str} {ifs : List PySem.Expr} {elt : PySem.Expr} {P : Nat → Value → Prop} {xs : List Int} {p : Int → Bool} {f : Int → Int} {s₂ : Shared}
    (F : Fr g L s₂.heap m) (N : News g L s₂.heap news) (off : ∀ q ∈ news, q.1 ≠ I) (hI : g.get? I = none) (hP : ∀ i v, P i v → ∃ x, xs[i]? = some x ∧ isI x v)
    (ht : ∀ C x v, x ∈ xs → isI x v → EvT w A (compEnvC scope cl C env) (HC g news C nm v) ifs (p x))
    (he : ∀ C x v, x ∈ xs → isI x v → p x = true → Ev w A (compEnvC scope cl C env) (HC g news C nm v) elt (isI (f x))) :
    QuietOnC PR w A env scope cl nm ifs elt [I] P (pOf p) (fOf f) s₂ := by
  have hc : ∀ {C : Addr} {v : Value} {s₃ : Shared} {m₃ : Str → Option Value}, s₃.heap.Ns C m₃ → m₃ nm = some v → (∀ b o, b ∉ [I] → s₂.heap.get? b = some o → s₃.heap.get? b = some o) → HC g news C nm v s₃.heap := fun hn hv hk =>
    ⟨fun b o e => hk b o (fun hm => by rw [List.mem_singleton.mp hm, hI] at e; cases e) (F.keep b o e), fun q hq => hk _ _ (by simpa using off q hq) (N q hq).1, _, hn, hv⟩
  refine ⟨fun C i v s₃ m₃ E' _ hv hn hm hk _ => ?_, fun C i v s₃ m₃ E' _ hv hp hn hm hk _ => ?_⟩
  · obtain ⟨x, hx, ix⟩ := hP i v hv
    rw [pOf_is ix]
    exact ht C x v (List.mem_of_getElem? hx) ix s₃ _ _ (hc hn hm hk) fun tk => ⟨rfl, _, _, rfl, fun _ _ e => e⟩
  · obtain ⟨x, hx, ix⟩ := hP i v hv
    rw [pOf_is ix] at hp
    exact he C x v (List.mem_of_getElem? hx) ix hp s₃ _ _ (hc hn hm hk) fun y tk hy => ⟨⟨x, ix, hy⟩, _, _, rfl, fun _ _ e => e⟩
theorem new_of {g h₂ : Heap} {L D : Addr} {m : Str → Option Value} {news : List (Addr × Obj)} (F : Fr g L h₂ m) (N : News g L h₂ news) (e : h₂.get? D = none) : D ≠ L ∧ g.get? D = none ∧ ∀ q ∈ news, q.1 ≠ D := by
  refine ⟨?_, none_of_stays F.keep e, fun q hq z => ?_⟩
  · rintro rfl
    obtain ⟨o, _, _, ho, _⟩ := F.ns
    rw [e] at ho; cases ho
  · have := (N q hq).1
    rw [z, e] at this; cases this
theorem lc_eval {elt iter : PySem.Expr} {nm : Str} {px : Pos} {ifs : List PySem.Expr} {scope : Scope} {cl : List (Str × Addr)} {pos : Pos} {Q : Value → Shared → Prop}
    (hclos : closureFor scope env = pure cl) (hcell : ∀ y ∈ scope.names, y.2 ≠ .cell) (hkind : scope.kind = .function)
    (hnames : ∀ y ∈ scope.names, y.2 = .local → scope.names.lookup y.1 = some .local) (hx : scope.names.lookup nm = some .local)
    (h : wpAny (model PR w) A (eval iter env) (LcAsk w A env scope cl nm ifs elt (fun g L m news D h' tk s₁ => Fr g L h' m → Q (.ref D) { s₁ with heap := h', toks := tk })) E s)
    (hs : ∀ x, foldedSetIterable iter env x = pure x := by intro _; rfl) :
    wpAny (model PR w) A (eval (.ListComp elt [⟨.Name nm px, iter, ifs, 0⟩] scope pos) env) Q E s := by
  rw [eval_ListComp]
  refine wpAny_comprehension_free (use := none) rfl hs hclos hkind hnames (wpAny_mono h (fun xv s₁ h₁ => ?_) fun _ _ e => e)
  obtain ⟨g, L, m, news, xs, p, f, F, N, IT, hlen, ht, he, hR⟩ := h₁
  refine IT _ _ fun I fp P St h₂ W hst hfp hP F₂ N₂ off hIL hI => ?_
  refine comp_block_walkC (s₂ := { s₁ with heap := h₂ }) (RR := fun acc C => compPost (model PR w) A E none Q acc C) W (Nat.le_trans hlen (by decide)) (pOf p) (fOf f) hcell hkind hx hst hfp (lc_quiet (s₂ := { s₁ with heap := h₂ }) F₂ N₂ off hI hP ht he) ?_
  intro D C h' tk m' ys vs hD hC hDC hn hl hpl hlv hPv hF hk
  refine ⟨m', hn, fun h'' hs'' => ?_⟩
  obtain ⟨d1, d2, d3⟩ := new_of (D := D) F₂ N₂ hD
  obtain ⟨c1, c2, c3⟩ := new_of (D := C) F₂ N₂ hC
  obtain ⟨c, hc⟩ := hpl
  have F' : Fr g L h' m := LCg.fr_but F₂ hk (Ne.symm hIL) hI
  have N' := LCg.news_but N₂ hk off
  refine hR D ys.toList h'' tk c (fun q hq => ?_) (off1 d3) (ints_filter (ints_of hlv hPv hP) hF) (F'.change hs'' c1 c2)
  rcases List.mem_cons.mp hq with rfl | hq
  · exact ⟨hs''.extBut _ _ hDC hc, d1, d2⟩
  · exact ⟨hs''.extBut _ _ (c3 q hq) (N' q hq).1, (N' q hq).2⟩
theorem lc_assign {elt iter : PySem.Expr} {nm y : Str} {px py : Pos} {ifs : List PySem.Expr} {scope : Scope} {cl : List (Str × Addr)} {pos spos : Pos} {Q : Flow → Shared → Prop}
    (hsw : swapsWith (.ListComp elt [⟨.Name nm px, iter, ifs, 0⟩] scope pos) (some (.Name y py)) spos.line env = pure true)
    (hclos : closureFor scope env = pure cl) (hcell : ∀ y ∈ scope.names, y.2 ≠ .cell) (hkind : scope.kind = .function)
    (hnames : ∀ y ∈ scope.names, y.2 = .local → scope.names.lookup y.1 = some .local) (hx : scope.names.lookup nm = some .local)
    (hy : env.kindOf y = some .local) (hp : (env.scope.kind == .class || (env.scope.kind == .module && env.locals != env.globals)) = false)
    (h : wpAny (model PR w) A (eval iter env) (LcAsk w A env scope cl nm ifs elt (fun g L m news D h' tk s₁ => L = env.locals ∧ (Fr g L h' (fun z => if z = y then some (.ref D) else m z) → Q .next { s₁ with heap := h', toks := tk }))) E s)
    (hs : ∀ x, foldedSetIterable iter env x = pure x := by intro _; rfl) :
    wpAny (model PR w) A (exec (.Assign [.Name y py] (.ListComp elt [⟨.Name nm px, iter, ifs, 0⟩] scope pos) spos) env) Q E s := by
  rw [exec_Assign_Name_used _ _ _ _ hsw]
  refine wpAny_bind (wpAny_standAt (wpAny_bind ?_))
  show wpAny _ A (do let _ ← comprehension (.ListComp elt [⟨.Name nm px, iter, ifs, 0⟩] scope pos) scope env _ (newList []) false (eval iter env) (some (assign (.Name y py) env))) _ _ s
  refine wpAny_bind (wpAny_mono (wpAny_comprehension_free (use := some (assign (.Name y py) env)) (Q := fun _ s' => Q .next s') rfl hs hclos hkind hnames
    (wpAny_mono h (fun xv s₁ h₁ => ?_) fun _ _ e => e)) (fun _ s' hq => wpAny_pure (wpAny_pure hq)) fun _ _ e => e)
  obtain ⟨g, L, m, news, xs, p, f, F, N, IT, hlen, ht, he, hR⟩ := h₁
  refine IT _ _ fun I fp P St h₂ W hst hfp hP F₂ N₂ off hIL hI => ?_
  refine comp_block_walkC (s₂ := { s₁ with heap := h₂ }) (RR := fun acc C => compPost (model PR w) A E (some (assign (.Name y py) env)) (fun _ s' => Q .next s') acc C) W (Nat.le_trans hlen (by decide)) (pOf p) (fOf f) hcell hkind hx hst hfp (lc_quiet (s₂ := { s₁ with heap := h₂ }) F₂ N₂ off hI hP ht he) ?_
  intro D C h' tk m' ys vs hD hC hDC hn hl hpl hlv hPv hF hk
  obtain ⟨d1, d2, d3⟩ := new_of (D := D) F₂ N₂ hD
  obtain ⟨c1, c2, c3⟩ := new_of (D := C) F₂ N₂ hC
  obtain ⟨c, hc⟩ := hpl
  have F' : Fr g L h' m := LCg.fr_but F₂ hk (Ne.symm hIL) hI
  have N' := LCg.news_but N₂ hk off
  have hL : L = env.locals := (hR D ys.toList h' tk c (fun q hq => by
    rcases List.mem_cons.mp hq with rfl | hq
    · exact ⟨hc, d1, d2⟩
    · exact N' q hq) (off1 d3) (ints_filter (ints_of hlv hPv hP) hF)).1
  subst hL
  show wpAny _ A (assign (.Name y py) env (.ref D)) _ _ _
  refine wpAny_assign_Name (wpAny_storeName_local hy F'.ns (fun h₃ hn₃ hs₃ => ?_) hp)
  refine ⟨m', hn.sameBut hs₃ c1, fun h'' hs'' => ?_⟩
  have hL₀ : g.get? env.locals = none := Heap.get?_none_of_le F'.above
  have F₃ : Fr g env.locals h₃ (fun z => if z = y then some (.ref D) else m z) := ⟨hn₃, fun b o e => hs₃.extBut b o (fun q => by rw [q, hL₀] at e; cases e) (F'.keep b o e), F'.above⟩
  refine (hR D ys.toList h'' _ c (fun q hq => ?_) (off1 d3) (ints_filter (ints_of hlv hPv hP) hF)).2 (F₃.change hs'' c1 c2)
  rcases List.mem_cons.mp hq with rfl | hq
  · exact ⟨hs''.extBut _ _ hDC (hs₃.extBut _ _ d1 hc), d1, d2⟩
  · exact ⟨hs''.extBut _ _ (c3 q hq) (hs₃.extBut _ _ (N' q hq).2.1 (N' q hq).1), (N' q hq).2⟩
end
theorem valueAt_stored (kvs : List (Int × Value)) (k k' : Int) (v : Value) : valueAt (stored kvs k v) k' = if k' = k then some v else valueAt kvs k' := by
  unfold stored valueAt
  by_cases hany : kvs.any (fun kv => kv.1 = k)
  · rw [if_pos hany]
    induction kvs with
    | nil => simp at hany
    | cons a r ih =>
      obtain ⟨a1, a2⟩ := a
      by_cases ha : a1 = k
      · subst ha
        by_cases hk : k' = a1
        · subst hk; simp [List.find?_cons]
        · rw [if_neg hk]
          have ne : ¬ a1 = k' := fun e => hk e.symm
          simp only [List.map_cons, List.find?_cons, if_true, decide_eq_false ne]
          clear ih hany
          induction r with
          | nil => rfl
          | cons b r ihr =>
            obtain ⟨b1, b2⟩ := b
            by_cases hb : b1 = a1
            · subst hb
              simp only [List.map_cons, List.find?_cons, if_true, decide_eq_false ne]
              exact ihr
            · by_cases hb2 : b1 = k'
              · subst hb2; simp [List.find?_cons, hb]
              · simp only [List.map_cons, if_neg hb, List.find?_cons, decide_eq_false hb2]
                exact ihr
      · have hr : r.any (fun kv => kv.1 = k) = true := by simpa [ha] using hany
        have := ih hr
        by_cases hb2 : a1 = k'
        · subst hb2
          rw [if_neg ha]
          simp [List.find?_cons, ha]
        · simp only [List.map_cons, if_neg ha, List.find?_cons, decide_eq_false hb2]
          exact this
  · rw [if_neg hany]
    by_cases hk : k' = k
    · subst hk
      rw [if_pos rfl, List.find?_append]
      have : kvs.find? (fun kv => decide (kv.1 = k')) = none := by
        rw [List.find?_eq_none]
        intro x hx
        simp only [List.any_eq_true, decide_eq_true_eq, not_exists, not_and] at hany
        simpa using hany x hx
      rw [this]; simp
    · rw [if_neg hk, List.find?_append]
      have ne : ¬ k = k' := fun e => hk e.symm
      simp [List.find?_cons, ne]
/-- the ledger's dict `o` holds `f k` at each `k` of `dom` -/
def DIs (w : World) (o : Obj) (dom : List Int) (f : Int → Int) (n : Nat) : Prop :=
  ∃ kvs : List (Int × Value), o.IsDictOf (intKind PR w) kvs ∧ kvs.length ≤ n ∧ ∀ k ∈ dom, ∃ t, valueAt kvs k = some (.int (f k) t)
theorem isInt_is (k : Int) (t : Tok) {w : World} : (intKind PR w).is k (.int k t) = true := by
  show Value.isInt k (.int k t) = true
  simp [Value.isInt]
theorem stored_all {kf vf : Int → Int} {vs : List Value} {xs : List Int} {kvs : List (Int × Value)} (hI : IntsAre vs xs) (hc : ∀ x ∈ xs, ∀ y ∈ xs, kf x = kf y → vf x = vf y)
    (h : StoredAll (fun v k => ∃ x, isI x v ∧ k = kf x) (fOf vf) vs kvs) : ∀ x ∈ xs, ∃ t, valueAt kvs (kf x) = some (.int (vf x) t) := by
  induction h generalizing xs with
  | nil => cases hI; intro x hx; cases hx
  | @snoc l kvs v k y h1 h2 h3 ih =>
    obtain ⟨x0, ⟨t0, rfl⟩, rfl⟩ := h2
    obtain ⟨x1, ⟨t1, e1⟩, t2, rfl⟩ := h3
    cases e1
    have hl := hI.length
    have hxs : xs = xs.take l.length ++ [x0] := by
      have h5 := (hI.drop l.length)
      rw [List.drop_left] at h5
      have : xs.drop l.length = [x0] := by
        revert h5
        generalize xs.drop l.length = q
        intro h5
        cases h5 with
        | cons n t r => cases r; rfl
      have h8 := (List.take_append_drop l.length xs).symm
      rw [this] at h8; exact h8
    have h6 : IntsAre l (xs.take l.length) := by
      have := hI.take l.length
      rwa [List.take_left] at this
    have sub : ∀ x ∈ xs.take l.length, x ∈ xs := fun x hx => List.mem_of_mem_take hx
    have h7 := ih h6 fun x hx y hy => hc x (sub x hx) y (sub y hy)
    have hx0 : x0 ∈ xs := by rw [hxs]; simp
    intro x hx
    rw [valueAt_stored]
    by_cases e : kf x = kf x0
    · rw [if_pos e]
      exact ⟨t2, by rw [hc x hx x0 hx0 e]⟩
    · rw [if_neg e]
      refine h7 x ?_
      rw [hxs] at hx
      rcases List.mem_append.mp hx with hx | hx
      · exact hx
      · rw [List.mem_singleton.mp hx] at e; exact absurd rfl e
section
variable {w : World} {A : Around} {E : Value → Shared → Prop} {s : Shared} {env : Env}
/-- what a dict comprehension from ints to ints asks -/
inductive DcAsk (w : World) (A : Around) (env : Env) (scope : Scope) (cl : List (Str × Addr)) (nm : Str) (kx vx : PySem.Expr) (R : Value → Shared → Prop) (xv : Value) (s₁ : Shared) : Prop
  | mk (g : Heap) (L : Addr) (m : Str → Option Value) (news : List (Addr × Obj)) (xs : List Int) (kf vf F' : Int → Int) (F : Fr g L s₁.heap m) (N : News g L s₁.heap news) (IT : IterInts w A g L m news xv xs s₁) (hl : xs.length ≤ 1000) (hf : ∀ x ∈ xs, F' (kf x) = vf x)
    (hk : ∀ C x v, x ∈ xs → isI x v → Ev w A (compEnvC scope cl C env) (HC g news C nm v) kx (isI (kf x)))
    (hv : ∀ C x v, x ∈ xs → isI x v → Ev w A (compEnvC scope cl C env) (HC g news C nm v) vx (isI (vf x)))
    (hR : ∀ D o h' tk, Fr g L h' m → News g L h' ((D, o) :: news) → LCg.Off1 D news → DIs w o (xs.map kf) F' xs.length → R (.ref D) { s₁ with heap := h', toks := tk }) : DcAsk w A env scope cl nm kx vx R xv s₁
theorem dc_eval {kx vx iter : PySem.Expr} {nm : Str} {px : Pos} {scope : Scope} {cl : List (Str × Addr)} {pos : Pos} {Q : Value → Shared → Prop}
    (hclos : closureFor scope env = pure cl) (hcell : ∀ y ∈ scope.names, y.2 ≠ .cell) (hkind : scope.kind = .function)
    (hnames : ∀ y ∈ scope.names, y.2 = .local → scope.names.lookup y.1 = some .local) (hx : scope.names.lookup nm = some .local)
    (h : wpAny (model PR w) A (eval iter env) (DcAsk w A env scope cl nm kx vx Q) E s)
    (hs : ∀ x, foldedSetIterable iter env x = pure x := by intro _; rfl) :
    wpAny (model PR w) A (eval (.DictComp kx vx [⟨.Name nm px, iter, [], 0⟩] scope pos) env) Q E s := by
  rw [arm_eval_DictComp]
  refine wpAny_comprehension_free (use := none) rfl hs hclos hkind hnames (wpAny_mono h (fun xv s₁ h₁ => ?_) fun _ _ e => e)
  obtain ⟨g, L, m, news, xs, kf, vf, f', F, N, IT, hlen, hf, hk, hv, hR⟩ := h₁
  refine IT _ _ fun I fp P St h₂ W hst hfp hP F₂ N₂ off hIL hI => ?_
  have hc : ∀ {C : Addr} {v : Value} {s₃ : Shared} {m₃ : Str → Option Value}, s₃.heap.Ns C m₃ → m₃ nm = some v → (∀ b o, b ∉ [I] → h₂.get? b = some o → s₃.heap.get? b = some o) → HC g news C nm v s₃.heap := fun hn hv hk =>
    ⟨fun b o e => hk b o (fun hm => by rw [List.mem_singleton.mp hm, hI] at e; cases e) (F₂.keep b o e), fun q hq => hk _ _ (by simpa using off q hq) (N₂ q hq).1, _, hn, hv⟩
  refine comp_block_walkCD (s₂ := { s₁ with heap := h₂ }) (knd := intKind PR w) (RR := fun acc C => compPost (model PR w) A E none Q acc C) W (Nat.le_trans hlen (by decide)) (fun _ => true) (fun v k => ∃ x, isI x v ∧ k = kf x) (fOf vf) hcell hkind hx hst hfp ⟨?_, ?_, ?_⟩ ?_
  · intro C i v s₃ m₃ E' _ _ _ _
    exact wpAny_tests_nil ⟨rfl, _, _, rfl, fun _ _ e => e⟩
  · intro C i v s₃ m₃ E' hPv _ hn hm hkp
    obtain ⟨x, hx', ix⟩ := hP i v hPv
    exact hk C x v (List.mem_of_getElem? hx') ix s₃ _ _ (hc hn hm hkp) fun y tk ⟨t, e⟩ => ⟨⟨kf x, by rw [e]; exact isInt_is _ _, x, ix, rfl⟩, _, _, rfl, fun _ _ e => e⟩
  · intro C i v s₃ m₃ E' hPv _ hn hm hkp
    obtain ⟨x, hx', ix⟩ := hP i v hPv
    exact hv C x v (List.mem_of_getElem? hx') ix s₃ _ _ (hc hn hm hkp) fun y tk hy => ⟨⟨x, ix, hy⟩, _, _, rfl, fun _ _ e => e⟩
  intro D C h' tk m' kvs vs hD hC hDC hn hl hlv hPv hF hkp
  refine ⟨m', hn, fun h'' hs'' => ?_⟩
  obtain ⟨d1, d2, d3⟩ := new_of (D := D) F₂ N₂ hD
  obtain ⟨c1, c2, c3⟩ := new_of (D := C) F₂ N₂ hC
  obtain ⟨o, ho, hdo⟩ := Heap.dictOf_iff.mp hl
  have F' : Fr g L h' m := LCg.fr_but F₂ hkp (Ne.symm hIL) hI
  have N' := LCg.news_but N₂ hkp off
  have e : vs.filter (fun _ => true) = vs := List.filter_eq_self.mpr fun _ _ => rfl
  rw [e] at hF
  have hI' := ints_of hlv hPv hP
  refine hR D o h'' tk (F'.change hs'' c1 c2) (fun q hq => ?_) (off1 d3) ⟨kvs, hdo, ?_, ?_⟩
  · rcases List.mem_cons.mp hq with rfl | hq
    · exact ⟨hs''.extBut _ _ hDC ho, d1, d2⟩
    · exact ⟨hs''.extBut _ _ (c3 q hq) (N' q hq).1, (N' q hq).2⟩
  · have := hF.length_le
    rwa [hlv] at this
  · intro k hk'
    obtain ⟨x, hx', rfl⟩ := List.mem_map.mp hk'
    rw [hf x hx']
    exact stored_all hI' (fun x hx y hy e => by rw [← hf x hx, ← hf y hy, e]) hF x hx'
end
end Mine
end
section
open PySem PySem.W PyProof.Rows PySem.Calls
namespace Mine
local macro_rules | `(tactic| walk_at "pad") => `(tactic| skip)
local macro_rules | `(tactic| walk_at "pad") => `(tactic| skip)
local macro_rules | `(tactic| walk_at "pad") => `(tactic| skip)
theorem enterHC {w : World} {A : Around} {s : Shared} {base : Heap} {outer : List Env} {R : Result → Shared → Prop} {p : Program} {loose : List Str} {mean : ExcName → Option Value} {mg mb : Str → Option Value}
    {name qual : Str} {params : Arguments} {body : List Stmt} {scope : Scope} {dV kV doc pm cdv ct oc : Value} {an od : Option Addr} {osl : Array (Option Value)} {f : Addr} {args : Args} {binds : List (Str × Value)}
    (X : Wld w base) (T : Top p loose mean mg mb base) (B : Below A base outer s.heap) (news : List (Addr × Obj)) (hN : ∀ p ∈ news, s.heap.get? p.1 = some p.2 ∧ base.get? p.1 = none ∧ p.1 ∉ fsOf outer)
    (ho : (hk.heap_39 w.params).lookup f = some ⟨oc, od, .func (fnOf name qual params body scope dV kV doc pm an cdv ct), osl⟩) (hcd : codeIn (hk.heap_39 w.params) cdv qual = true) (hroom : A.depth < recursionLimit)
    (hbind : BindsTo s (fnOf name qual params body scope dV kV doc pm an cdv ct) args binds) (hkind : (binds.all fun y => scope.names.lookup y.1 == some .local || scope.names.lookup y.1 == some .cell) = true)
    (hnd : ((cellsFrom 0 scope.names []).map (·.1)).Nodup)
    (h : ∀ g L' h₁ tk cells, (∀ b o, g.get? b = some o → s.heap.get? b = some o) → (∀ b o, s.heap.get? b = some o → b ∉ news.map (·.1) → g.get? b = some o) → Fr g L' h₁ (bindL (envOfC qual scope L' f cdv).kindOf binds fun _ => none) → News g L' h₁ (cells ++ news) →
      CellsAre (bindC (envOfC qual scope L' f cdv).kindOf binds fun _ => none) (cellsFrom (L' + 1) scope.names []) cells → Below A base outer g → (hk.heap_39 w.params).In g → Top p loose mean mg mb g → (∀ p ∈ news, p.1 < L') →
      wpAny (model PR w) (A.deeper (envOfC qual scope L' f cdv)) (execs body (envOfC qual scope L' f cdv))
        (fun fl s' => R (.ok (.ret (match fl with | .ret v => v | _ => .none))) s')
        (fun e s' => wpAny (model PR w) (A.deeper (envOfC qual scope L' f cdv)) (leaving (envOfC qual scope L' f cdv) e) (fun _ s'' => R (.error e) s'') (fun e' s'' => R (.error e') s'') s')
        { s with heap := h₁, toks := tk })
    (hco : scope.isCoroutine = false) (hgen : scope.isGenerator = false) (hk : scope.kind = .function)
     : codeAny (model PR w) A (.call (.ref f) args) R s := by
  have Xs : Wld w s.heap := X.keeps B.stays
  have Ts := T.keeps B.stays
  refine codeAny_call_function hroom (Xs.kk _ _ ho) rfl hco hgen rfl (codeRec_of Xs.kk hcd) (hbind _ _ _ _ ?_)
  refine wpAny_newFunctionEnv_cells hk (kindsX hkind _) fun env' he s' x => ?_
  subst he
  refine ⟨Ts.nolimit.keeps x.toInCall.keep, codeAny_func ?_⟩
  obtain ⟨h₁, tk, rfl, _⟩ := x.done
  have hk₁ := x.toInCall.keep
  obtain ⟨cells, NC, Y⟩ := Cl.news (h₀ := s.heap) (Nat.le_refl _) fun n c hm => ⟨x.cell n c (lookup_of_mem_nodup (cellsFrom_names scope.names 0 (s.heap.objs.size + 1) [] [] rfl ▸ hnd) hm), x.above n c hm⟩
  have nb : ∀ b o, base.get? b = some o → b ∉ news.map (·.1) := fun b o e q => by
    obtain ⟨p, hp, rfl⟩ := List.mem_map.mp q
    rw [(hN p hp).2.1] at e; cases e
  have st : base.StaysIn (hideAll s.heap (news.map (·.1))) := fun b o e => hideAll_get _ (B.stays b o e) (nb b o e)
  refine h (hideAll s.heap (news.map (·.1))) s.heap.objs.size h₁ tk cells (fun b o e => of_hideAll _ e) (fun b o e n => hideAll_get _ e n) ⟨x.toInCall.ns, fun b o e => hk₁ b o (of_hideAll _ e), Nat.le_of_eq (hideAll_size _ _)⟩ (fun p hp => ?_) Y
    ⟨B.stack, st, funFrames_hideAll B.frames fun env he a ha hf => ?_⟩ (X.keeps st).kk (Top.keeps T (by exact st)) (fun p hp => Heap.lt_size (hN p hp).1)
  · rcases List.mem_append.mp hp with hp | hp
    · refine ⟨(NC p hp).1, (NC p hp).2.1, ?_⟩
      cases q : (hideAll s.heap (news.map (·.1))).get? p.1 with
      | none => rfl
      | some o => have := of_hideAll _ q; rw [(NC p hp).2.2] at this; cases this
    · exact ⟨hk₁ _ _ (hN p hp).1, Nat.ne_of_lt (Heap.lt_size (hN p hp).1), hideAll_none _ (List.mem_map_of_mem hp)⟩
  · obtain ⟨p, hp, rfl⟩ := List.mem_map.mp ha
    exact (hN p hp).2.2 (List.mem_filterMap.mpr ⟨env, he, hf⟩)
theorem ldE {M : Model} {A : Around} {E : Value → Shared → Prop} {s : Shared} {env : Env} {g : Heap} {L : Addr} {m : Str → Option Value} {x : Str} {pos : Pos} {v : Value} {Q : Value → Shared → Prop} (F : Fr g L s.heap m) (hL : env.locals = L) (hv : m x = some v) (h : Q v s)
    (hk : env.scope.kind = .function := by rfl) (hl : env.kindOf x = some .local := by rfl) (hd : (x == ("__debug__" : Str)) = false := by decide) : wpAny M A (eval (.Name x pos) env) Q E s :=
  wpAny_Name (wpAny_loadName_local hk hl (hL ▸ F.ns) hv h) hd
section
variable {w : World} {A : Around} {E : Value → Shared → Prop} {s : Shared} {env : Env} {g : Heap} {L d : Addr} {m : Str → Option Value} {news : List (Addr × Obj)} {gg : Obj → List (Addr × Obj)} {o : Obj} {kvs : List (Int × Value)} {k a b c : Int} {Q : Flow → Shared → Prop}
theorem ev_run {e : PySem.Expr} {P : Value → Prop} {Q : Value → Shared → Prop} (h : Ev w A env (· = s.heap) e P) (hQ : ∀ v tk, P v → Q v { s with toks := tk }) : wpAny (model PR w) A (eval e env) Q E s := h s Q E rfl hQ
theorem now_own {h : Heap} {x : Str} {pos : Pos} {v : Value} (F : Fr g L h m) (hL : env.locals = L) (hv : m x = some v) (hk : env.scope.kind = .function := by rfl) (hl : env.kindOf x = some .local := by rfl) (hd : (x == ("__debug__" : Str)) = false := by decide) :
    Ev w A env (· = h) (.Name x pos) (· = v) := ev_own (fun h e => ⟨m, by rw [e, hL]; exact F.ns, hv⟩) hk hl hd
theorem now_cell {h : Heap} {x : Str} {pos : Pos} {v : Value} {c : Addr} {o : Obj} (N : News g L h news) (hm : (c, o) ∈ news) (hd : o.data = .cell (some v)) (hc : env.cells.lookup x = some c) (hk : env.scope.kind = .function := by rfl) (hl : env.kindOf x = some .cell := by rfl) (hdb : (x == ("__debug__" : Str)) = false := by decide) :
    Ev w A env (· = h) (.Name x pos) (· = v) := ev_cell hc (fun h e => ⟨o, by rw [e]; exact (N _ hm).1, hd⟩) hk hl hdb
theorem now_key {h : Heap} {oe ie : PySem.Expr} {pos : Pos} {x : Value} (N : News g L h news) (hm : (d, o) ∈ news) (hd : o.IsDictOf (intKind PR w) kvs) (ho : Ev w A env (· = h) oe (· = .ref d)) (hi : Ev w A env (· = h) ie (isI k)) (hx : valueAt kvs k = some x)
    (hs : ∀ t, subscripted ie false (.ref d) (.int k t) = operate [.ref d, .int k t] (getItem (.ref d) (.int k t)) := by intro _; with_unfolding_all rfl) :
    Ev w A env (· = h) (.Subscript oe ie pos) (· = x) := ev_key ho hi (fun h e => Heap.dictOf_iff.mpr ⟨o, by rw [e]; exact (N _ hm).1, hd⟩) hx hs
theorem now_item {h : Heap} {oe ie : PySem.Expr} {pos : Pos} {l : Addr} {x : Value} {vs : List Value} {n : Nat} (N : News g L h news) (hm : (l, lobj vs n) ∈ news) (ho : Ev w A env (· = h) oe (· = .ref l)) (hi : Ev w A env (· = h) ie (isI k)) (h0 : 0 ≤ k) (hf : k < 2 ^ 63) (hx : vs[k.toNat]? = some x)
    (hs : ∀ t, subscripted ie false (.ref l) (.int k t) = operate [.ref l, .int k t] (getItem (.ref l) (.int k t)) := by intro _; with_unfolding_all rfl) :
    Ev w A env (· = h) (.Subscript oe ie pos) (· = x) := ev_item ho hi (fun h e => ⟨lobj vs n, by rw [e]; exact (N _ hm).1, rfl, n, rfl⟩) h0 hf hx hs
theorem aug_dict {oe ie ve : PySem.Expr} {op : Operator} {p1 p2 : Pos} {t : Tok} (F : Fr g L s.heap m) (N : News g L s.heap news) (U : UpdF d o news gg) (hd : o.IsDictOf (intKind PR w) kvs) (hsz : kvs.length ≤ sizeLine)
    (ho : Ev w A env (· = s.heap) oe (· = .ref d)) (hi : Ev w A env (· = s.heap) ie (isI k)) (hx : valueAt kvs k = some (.int a t)) (hv : Ev w A env (· = s.heap) ve (isI b))
    (hop : ∀ (s : Shared) (Q : Value → Shared → Prop) (E : Value → Shared → Prop) t u, (∀ v tk, isI c v → Q v { s with toks := tk }) → wpAny (model PR w) A (inplaceOp op (.int a t) (.int b u)) Q E s)
    (h : ∀ h' o' tk t', Fr g L h' m → News g L h' (gg o') → o'.IsDictOf (intKind PR w) (stored kvs k (.int c t')) → Q .next { s with heap := h', toks := tk })
    (ha : ∀ ov iv new, augStore ie ov iv new = (do holding [new, ov, iv] (setItem ov iv new); release [new, ov, iv] []; pure .next) := by intro _ _ _; rfl) :
    wpAny (model PR w) A (exec (.AugAssign (.Subscript oe ie p1) op ve p2) env) Q E s := by
  have hm : (d, o) ∈ news := by
    obtain ⟨own, rest, e, _⟩ := U.split
    rw [e]; exact List.mem_append_right _ (.head _)
  have hD := kda_dict N hm hd
  refine wpAny_AugAssign_Subscript_any (ho s _ _ rfl fun v tk hv' => ?_) ha
  subst hv'
  refine hi { s with toks := tk } _ _ rfl fun v tk1 hv' => ?_
  obtain ⟨t1, rfl⟩ := hv'
  refine wpAny_getItem_of (knd := intKind PR w) (isInt_is k t1) hD.mapOf hx ?_
  refine hv { s with toks := tk1 + 1 } _ _ rfl fun v tk2 hv' => ?_
  obtain ⟨t2, rfl⟩ := hv'
  refine hop { s with toks := tk2 } _ _ _ _ fun v tk3 hv' => ?_
  obtain ⟨t3, rfl⟩ := hv'
  exact kda_set (s := { s with toks := tk3 }) F N U hd (isInt_is k t1) hsz fun h' o' F' N' hd' => h h' o' _ t3 F' N' hd'
theorem set_dict {oe ie ve : PySem.Expr} {p1 p2 : Pos} (F : Fr g L s.heap m) (N : News g L s.heap news) (U : UpdF d o news gg) (hd : o.IsDictOf (intKind PR w) kvs) (hsz : kvs.length ≤ sizeLine)
    (hv : Ev w A env (· = s.heap) ve (isI c)) (ho : Ev w A env (· = s.heap) oe (· = .ref d)) (hi : Ev w A env (· = s.heap) ie (isI k))
    (h : ∀ h' o' tk t', Fr g L h' m → News g L h' (gg o') → o'.IsDictOf (intKind PR w) (stored kvs k (.int c t')) → Q .next { s with heap := h', toks := tk })
    (hs : swapsWith ve (some (.Subscript oe ie p1)) p2.line env = pure false := by rfl) :
    wpAny (model PR w) A (exec (.Assign [.Subscript oe ie p1] ve p2) env) Q E s := by
  refine wpAny_Assign_Subscript (hv s _ _ rfl fun v tk hv' => ?_) hs
  obtain ⟨t3, rfl⟩ := hv'
  refine ho { s with toks := tk } _ _ rfl fun v tk1 hv' => ?_
  subst hv'
  refine hi { s with toks := tk1 } _ _ rfl fun v tk2 hv' => ?_
  obtain ⟨t1, rfl⟩ := hv'
  exact kda_set (s := { s with toks := tk2 }) F N U hd (isInt_is k t1) hsz fun h' o' F' N' hd' => h h' o' _ t3 F' N' hd'
theorem off1_mem {D : Addr} : ∀ {l : List (Addr × Obj)}, LCg.Off1 D l → ∀ q ∈ l, q.1 ≠ D
  | [], _, _, h => nomatch h
  | _ :: _, x, q, h => by
    rcases List.mem_cons.mp h with rfl | h
    · exact x.1
    · exact off1_mem x.2 q h
theorem DIs.store {dom : List Int} {f : Int → Int} {n : Nat} {o' : Obj} {t : Tok} (h1 : kvs.length ≤ n) (h2 : ∀ k ∈ dom, ∃ t, valueAt kvs k = some (.int (f k) t)) (hd : o'.IsDictOf (intKind PR w) (stored kvs k (.int c t))) : DIs w o' dom (upd f k c) (n + 1) := by
  refine ⟨_, hd, Nat.le_trans (stored_length_le _ _ _) (by lia), fun x hx => ?_⟩
  rw [valueAt_stored]
  unfold upd
  by_cases e : x = k
  · rw [if_pos e, if_pos e]; exact ⟨_, rfl⟩
  · rw [if_neg e, if_neg e]; exact h2 x hx
end
theorem no_two {x a b : Addr} {oa ob : Obj} (h1 : x ≠ a) (h2 : x ≠ b) : x ∉ [(a, oa), (b, ob)].map (·.1) := fun h => by
  rcases List.mem_cons.mp h with z | z
  · exact h1 z
  · exact h2 (List.mem_singleton.mp z)
inductive TkA (w : World) (g : Heap) (L others D₄ : Addr) (rest : List (Addr × Obj)) (ox : List Int) (fh : Int → Int) (s : Shared) (a : Addr) (n : Nat) (s' : Shared) : Prop
  | mk (e4 : s'.gens = s.gens) (e5 : s'.drawn = s.drawn) (e6 : s'.os = s.os) (j : Nat) (m' : Str → Option Value) (oD' : Obj) (hn : n = ox.length - j) (hj : j ≤ ox.length) (F : Fr g L s'.heap m') (mo : m' "others" = some (.ref others))
    (N : News g L s'.heap ((a, liObj others j) :: (D₄, oD') :: rest)) (ne : ∀ q ∈ (D₄, oD') :: rest, q.1 ≠ a) (D : DIs w oD' (ox ++ ox.map fh) (armsOf fh (ox.take j)) (2 * ox.length + j)) : TkA w g L others D₄ rest ox fh s a n s'
inductive TkB (w : World) (g : Heap) (L others hung D₄ TO : Addr) (oA oH oh : Obj) (ov : List Value) (n1 : Nat) (ox : List Int) (fh : Int → Int) (s : Shared) (a : Addr) (n : Nat) (s' : Shared) : Prop
  | mk (e4 : s'.gens = s.gens) (e5 : s'.drawn = s.drawn) (e6 : s'.os = s.os) (j : Nat) (m' : Str → Option Value) (oD' : Obj) (tv : List Value) (nt : Nat) (dl : List (Addr × Obj)) (hn : n = ox.length - j) (hj : j ≤ ox.length) (F : Fr g L s'.heap m') (mo : m' "others" = some (.ref others)) (mt : m' "told" = some (.ref TO))
    (N : News g L s'.heap ((a, liObj others j) :: (D₄, oD') :: (TO, lobj tv nt) :: (L + 1 + 1, oA) :: (L + 1, oH) :: (others, lobj ov n1) :: (hung, oh) :: dl))
    (ne : ∀ q ∈ (D₄, oD') :: (TO, lobj tv nt) :: (L + 1 + 1, oA) :: (L + 1, oH) :: (others, lobj ov n1) :: (hung, oh) :: dl, q.1 ≠ a) (dn : ∀ q ∈ dl, q.1 ≠ D₄ ∧ q.1 ≠ TO ∧ s.heap.get? q.1 = none) (lt : tv.length = j) (De : Deep dl tv (toldD (takeN ox fh j).2))
    (D : DIs w oD' (ox ++ ox.map fh) (takeN ox fh j).1 (3 * ox.length + 2 * j)) : TkB w g L others hung D₄ TO oA oH oh ov n1 ox fh s a n s'
local macro_rules | `(tactic| walk_at "lkp") => `(tactic| first | assumption | rfl | (rw [if_pos rfl]; done) | (rw [if_neg (by decide)]; walk_at "lkp") | (dsimp only; rw [if_neg (by decide)]; walk_at "lkp"))
section
local macro_rules | `(tactic| walk_at "eval ListComp") => `(tactic| (k_here; refine Halt.out ?_))
local macro_rules | `(tactic| walk_at "exec Assign cons ListComp") => `(tactic| (k_here; refine Halt.out ?_))
local macro_rules | `(tactic| walk_at "eval DictComp") => `(tactic| (k_here; refine Halt.out ?_))
local macro_rules | `(tactic| walk_at "exec Assign cons DictComp") => `(tactic| (k_here; refine Halt.out ?_))
local macro_rules | `(tactic| walk_at "exec AugAssign Subscript") => `(tactic| (k_here; refine Halt.out ?_))
local macro_rules | `(tactic| walk_at "exec Assign") => `(tactic| (k_here; (with_reducible show wpAny _ _ (exec (Stmt.Assign [Expr.Subscript _ _ _] _ _) _) _ _ _); refine Halt.out ?_))
local macro_rules | `(tactic| walk_at "eval Subscript") => `(tactic| (k_here; refine Halt.out ?_))
local macro_rules | `(tactic| walk_at "eval Name") => `(tactic| (k_here; name_kind "local"; refine' ldE ?F ?hL ?hv ?_ ?c1 ?c2 ?c3; (case F => k_asm); (case hL => rfl); (case hv => walk_at "lkp"); (case c1 => rfl); (case c2 => rfl); (case c3 => decide)))
local macro_rules | `(tactic| walk_at "call builtin:list.append") => `(tactic| (k_here; refine Halt.out ?_))
local macro_rules | `(tactic| walk_at "exec For Name Name cons nil") => `(tactic| (k_here; refine Halt.out ?_))
set_option maxHeartbeats 1000000 in
theorem taken_c {w : World} {outer : List Env} {gd : Option (List Code)} {s : Shared} {base : Heap} {p : Program} {loose : List Str} {mean : ExcName → Option Value} {mg mb : Str → Option Value}
  {others hung : Addr} {ov : List Value} {ox : List Int} {n1 : Nat} {oh : Obj} {R : Result → Shared → Prop}
  (X : Wld w base) (T : Top p loose mean mg mb base) (B : Below (AY 720 7200 outer gd) base outer s.heap)
  (hN : ∀ p ∈ [(others, lobj ov n1), (hung, oh)], s.heap.get? p.1 = some p.2 ∧ base.get? p.1 = none ∧ p.1 ∉ fsOf outer)
  {fh : Int → Int} {hkvs : List (Int × Value)} (hI : IntsAre ov ox) (hl1 : ox.length ≤ 500) (hdo : oh.IsDictOf (intKind PR w) hkvs) (hdom : ∀ k ∈ ox, ∃ t, valueAt hkvs k = some (.int (fh k) t)) (hne : ∀ j, j < ox.length → (ox.filter fun x => (takeN ox fh j).1 x == 0) ≠ [])
  (hR : ∀ r tv dl h' tk c, h'.get? r = some (lobj tv c) → tv.length = ox.length → Deep dl tv (toldD (takenOf ox fh)) → (∀ q ∈ dl, h'.get? q.1 = some q.2 ∧ s.heap.get? q.1 = none) →
    s.heap.get? r = none → Kp (fsOf outer) s.heap h' → R (.ok (.ret (.ref r))) { s with heap := h', toks := tk }) :
  codeAny (model PR w) (AY 720 7200 outer gd) (.call (.ref 128) ⟨[.ref others, .ref hung], []⟩) R s := by
  refine' enterHC X T B [(others, lobj ov n1), (hung, oh)] hN ?k6 ?k7 ?k8 ?k9 ?kB ?kD ?_ ?c2 ?c3 ?c4
  case k6 => k_is
  case k7 => k_is
  case k8 => exact (show (720 : Nat) < 1000 by decide)
  case k9 => exact BindsTo.of_eq rfl
  case kB => exact rfl
  case kD => decide +kernel
  case c2 => exact rfl
  case c3 => exact rfl
  case c4 => exact rfl
  intro g L h₁ tk cells hg1 hg2 F N Y B' X' T' l1
  k_whole
  (try k_lt l1)
  have hY := CellsAre.two Y
  obtain ⟨oA, oH, hE', dA, dH⟩ := hY
  subst hE'
  clear Y
  replace dA : oA.data = .cell none := dA
  replace dH : oH.data = .cell (some (.ref hung)) := dH
  (try simp only [List.cons_append, List.nil_append] at N)
  (try dsimp only)
  w_on
  k_steps
  show wpAny _ _ _ _ _ _
  refine PySem.wpAny_Assign_Name ?_ (by with_unfolding_all rfl)
  refine dc_eval (by with_unfolding_all rfl) (by decide) (by rfl) (by decide) (by rfl) ?_
  try k_fold
  k_steps
  show wpAny _ _ _ _ _ _
  refine lc_eval (by with_unfolding_all rfl) (by decide) (by rfl) (by decide) (by rfl) ?_
  refine ldE F rfl rfl ?_
  refine ⟨g, L, _, _, ox, fun _ => true, fh, F, N, iterInts_list rfl F N (by k_mem) hI, by lia, fun C x v hx ix => evt_nil, fun C x v hx ix _ => ?_, fun D ys h₂ tk₂ c N₂ off₂ ii₂ F₂ => ?_⟩
  · obtain ⟨t, ht⟩ := hdom x hx
    refine (ev_key (d := hung) (kvs := hkvs) (k := x) (ev_cell (c := L + 1) rfl (fun h H => ⟨oH, H.2.1 (L + 1, oH) (by k_mem), dH⟩)) ((ev_own fun h H => H.2.2).mono fun v' e => e ▸ ix) (fun h H => Heap.dictOf_iff.mpr ⟨oh, H.2.1 (hung, oh) (by k_mem), hdo⟩) ht).mono fun v e => ⟨t, e⟩
  have off₂' := off1_mem off₂
  simp only [LCg.Off1, and_true] at off₂
  dsimp only
  clear F N
  rw [List.filter_eq_self.mpr fun _ _ => rfl] at ii₂
  k_steps
  show DcAsk _ _ _ _ _ _ _ _ _ _ _
  dsimp only
  (try clear F₂ N₂)
  rename Fr _ _ _ _ => F₃
  rename News _ _ _ _ => N₃
  rename IntsAre _ (ox ++ ox.map fh) => ii₃
  rename List Value => ws'
  rename Addr => D'
  refine ⟨g, L, _, _, ox ++ ox.map fh, id, fun _ => 0, fun _ => 0, F₃, N₃, iterInts_list rfl F₃ N₃ (by k_mem) ii₃, by simp; lia, fun _ _ => rfl, fun C x v hx ix => (ev_own fun h H => H.2.2).mono fun v' e => e ▸ ix, fun C x v hx ix => ev_const, fun D₄ oD h₄ tk₄ F₄ N₄ off₄ dd₄ => ?_⟩
  (try clear F₃ N₃)
  have off₄' := off1_mem off₄
  simp only [LCg.Off1, and_true] at off₄
  show wpAny _ _ _ _ _ _
  dsimp only
  try k_fold
  k_steps
  show wpAny _ _ _ _ _ _
  rename Fr _ _ _ _ => F₅
  rename News _ _ _ _ => N₅
  rename Obj.data _ = _ => d₅
  rename Obj => oA'
  clear off₂ off₄
  generalize hm₅ : bindL _ _ _ = m₅ at F₅
  have mo₅ : m₅ "others" = some (.ref others) := by rw [← hm₅]; rfl
  clear hm₅
  refine for_ind (by passes_own) (fun a n s' => TkA w g L others D₄ [(D', W.listOf ws'.toArray 0), (D, lobj ys c), (L + 1 + 1, oA'), (L + 1, oH), (others, lobj ov n1), (hung, oh)] ox fh s a n s') ?_ ?_
  · refine ldE F₅ rfl mo₅ ?_
    have isl := (N₅ (others, lobj ov n1) (by k_mem)).1
    refine wpAny_pyIter_list (items := ov.toArray) ⟨_, isl, rfl, _, rfl⟩ ⟨_, ox.length, rfl, .mk rfl rfl rfl 0 m₅ oD rfl (Nat.zero_le _) (F₅.push _) mo₅ (News.push F₅ N₅ _ rfl) (fun q hq => Nat.ne_of_lt (Heap.lt_size (N₅ q hq).1)) ?_⟩
    simpa [armsOf, Nat.two_mul] using dd₄
  · (try clear F₅ N₅)
    intro it n s₅ hz
    obtain ⟨e4, e5, e6, j, m₆, oD₆, hn, hj, F₆, mo₆, N₆, ne₆, kvs₆, dk₆, dl₆, dd₆⟩ := hz
    refine next_N (xs := ox) rfl F₆ N₆ ne₆ (by k_mem) hI (fun n' t h₇ hx F₇ N₇ st₇ => ?_) (fun hx h₇ F₇ N₇ st₇ => ?_)
    · show wpAny _ _ _ _ _ _
      clear F₆ N₆
      k_steps
      show wpAny _ _ _ _ _ _
      rename Fr _ _ _ _ => F₈
      rename News _ _ _ _ => N₈
      have hx' : n' ∈ ox := List.mem_of_getElem? hx
      obtain ⟨t1, ht1⟩ := hdom n' hx'
      obtain ⟨t2, ht2⟩ := dd₆ (fh n') (List.mem_append_right _ (List.mem_map_of_mem hx'))
      refine aug_dict (d := D₄) (k := fh n') (b := 1) (c := armsOf fh (ox.take j) (fh n') + 1) F₈ N₈ (.tail ?_ (.head ?_)) dk₆ (Nat.le_trans dl₆ (Nat.le_trans (show 2 * ox.length + j ≤ 1500 by lia) (by decide))) ?_ ?_ ht2 ev_const ?_ ?_
      · exact Ne.symm (ne₆ (D₄, oD₆) (by k_mem))
      · exact all_cons (off₄' _ (by k_mem)) (all_cons (off₄' _ (by k_mem)) (all_cons (off₄' (L + 1 + 1, oA) (by k_mem)) (all_cons (off₄' _ (by k_mem)) (all_cons (off₄' _ (by k_mem)) (all_cons (off₄' _ (by k_mem)) all_nil)))))
      · exact now_cell (c := L + 1 + 1) N₈ (by k_mem) d₅ rfl
      · exact (now_key (k := n') N₈ (by k_mem) hdo (now_cell (c := L + 1) N₈ (by k_mem) dH rfl) ((now_own (v := .int n' t) F₈ rfl rfl).mono fun v e => ⟨t, e⟩) ht1).mono fun v e => ⟨t1, e⟩
      · intro s Q E t u hQ
        exact PyProof.Rows.iadd_int (hQ _ _ ⟨_, rfl⟩)
      · intro h₉ oD₉ tk₉ t₉ F₉ N₉ dk₉
        have hlt := get_lt hx
        show wpAny _ _ _ _ _ _
        dsimp only
        k_steps
        show ∃ m, _
        refine ⟨ox.length - (j + 1), by lia, .mk e4 e5 e6 (j + 1) _ oD₉ rfl hlt F₉ ?_ N₉ (all_cons (ne₆ (D₄, oD₆) (by k_mem)) fun q hq => ne₆ q (.tail _ hq)) ?_⟩
        · rw [if_neg (by decide)]; exact mo₆
        · have := DIs.store (w := w) dl₆ dd₆ dk₉
          rw [List.take_succ, hx]
          show DIs w oD₉ _ (armsOf fh (ox.take j ++ [n'])) _
          unfold armsOf
          rw [List.foldl_append]
          exact this
    · show wpAny _ _ _ _ _ _
      clear F₆ N₆
      k_steps
      show wpAny _ _ _ _ _ _
      rename Fr _ _ _ _ => F₈
      rename News _ _ _ _ => N₈
      rename Addr => TO
      have hj2 : j = ox.length := by
        have := List.getElem?_eq_none_iff.mp hx
        lia
      have dd₈ : DIs w oD₆ (ox ++ ox.map fh) (takeN ox fh 0).1 (3 * ox.length) := ⟨kvs₆, dk₆, by lia, by rw [hj2, List.take_length] at dd₆; exact dd₆⟩
      refine for_ind (by passes_own) (fun a n s' => TkB w g L others hung D₄ TO oA' oH oh ov n1 ox fh s a n s') ?_ ?_
      · refine ldE (v := .ref others) F₈ rfl (by walk_at "lkp") ?_
        have isl := (N₈ (others, lobj ov n1) (by k_mem)).1
        refine wpAny_pyIter_list (items := ov.toArray) ⟨_, isl, rfl, _, rfl⟩ ⟨_, ox.length, rfl, .mk e4 e5 e6 0 _ oD₆ [] 0 [] rfl (Nat.zero_le _) (F₈.push _) ?_ ?_ (fun q hq => News.push F₈ N₈ _ rfl q ?_) (fun q hq => Nat.ne_of_lt (Heap.lt_size (N₈ q ?_).1)) (fun _ h => (nomatch h)) rfl deep_nil dd₈⟩
        · rw [if_neg (by decide)]; exact mo₆
        · rw [if_pos rfl]
        · revert q
          repeat (first | exact all_nil | refine in_cons (by k_mem) ?_)
        · revert q
          repeat (first | exact all_nil | refine in_cons (by k_mem) ?_)
      · (try clear F₈ N₈ F₇ N₇)
        intro it2 n2 s₉ hz
        obtain ⟨e4, e5, e6, j, m₉, oD₉, tv, nt, dl, hn, hj, F₉, mo₉, mt₉, N₉, ne₉, dn₉, lt₉, De₉, kvs₉, dk₉, dl₉, dd₉⟩ := hz
        refine next_N (xs := ox) rfl F₉ N₉ ne₉ (by k_mem) hI (fun n' t hA hx FA NA stA => ?_) (fun hx hA FA NA stA => ?_)
        · show wpAny _ _ _ _ _ _
          clear F₉ N₉
          k_steps
          show wpAny _ _ _ _ _ _
          rename Fr _ _ _ _ => FB
          rename News _ _ _ _ => NB
          refine lc_assign (by with_unfolding_all rfl) (by with_unfolding_all rfl) (by decide) (by rfl) (by decide) (by rfl) (by rfl) (by rfl) ?_
          refine ldE (v := .ref others) FB rfl (by walk_at "lkp") ?_
          refine ⟨g, L, _, _, ox, fun x => (takeN ox fh j).1 x == 0, id, FB, NB, iterInts_list rfl FB NB (by k_mem) hI, by lia, fun C x v hx ix => ?_, fun C x v hx ix _ => (ev_own fun h H => H.2.2).mono fun v' e => e ▸ ix, fun D₁ ev hC tkC c1 NC offC iiC => ⟨rfl, fun FC => ?_⟩⟩
          · obtain ⟨t1, ht1⟩ := dd₉ x (List.mem_append_left _ hx)
            refine evt_eq ((ev_key (d := D₄) (kvs := kvs₉) (k := x) (ev_cell (c := L + 1 + 1) rfl (fun h H => ⟨oA', H.2.1 (L + 1 + 1, oA') (by k_mem), d₅⟩)) ((ev_own fun h H => H.2.2).mono fun v' e => e ▸ ix) (fun h H => Heap.dictOf_iff.mpr ⟨oD₉, H.2.1 (D₄, oD₉) (by k_mem), dk₉⟩) ht1).mono fun v e => ⟨t1, e⟩) ev_const
          rw [List.map_id] at iiC
          have offC' := off1_mem offC
          clear offC
          have hlt := get_lt hx
          obtain ⟨e, he⟩ : ∃ e, (ox.filter fun x => (takeN ox fh j).1 x == 0)[0]? = some e := by
            have := hne j hlt
            revert this
            cases (ox.filter fun x => (takeN ox fh j).1 x == 0) with
            | nil => intro h; exact absurd rfl h
            | cons a r => intro _; exact ⟨a, rfl⟩
          have rest₉ : ∀ q ∈ (TO, lobj tv nt) :: (L + 1 + 1, oA') :: (L + 1, oH) :: (others, lobj ov n1) :: (hung, oh) :: dl, q.1 ≠ D₄ :=
            all_cons (by k_ne) (all_cons (off₄' (L + 1 + 1, oA) (by k_mem)) (all_cons (off₄' (L + 1, oH) (by k_mem)) (all_cons (off₄' (others, lobj ov n1) (by k_mem)) (all_cons (off₄' (hung, oh) (by k_mem)) fun q hq => (dn₉ q hq).1))))
          obtain ⟨te, hte⟩ := iiC.get 0 e he
          have heo : e ∈ ox := (List.mem_filter.mp (List.mem_of_getElem? he)).1
          obtain ⟨tf, htf⟩ := hdom e heo
          clear FB NB
          show wpAny _ _ _ _ _ _
          dsimp only
          k_steps
          show wpAny _ _ _ _ _ _
          refine set_dict (d := D₄) (k := e) (c := -1) FC NC (.tail ?_ (.tail ?_ (.head ?_))) dk₉ (Nat.le_trans dl₉ (Nat.le_trans (show 3 * ox.length + 2 * j ≤ 2500 by lia) (by decide))) ev_neg ?_ ?_ ?_
          · exact Ne.symm (offC' (D₄, oD₉) (by k_mem))
          · exact Ne.symm (ne₉ (D₄, oD₉) (by k_mem))
          · exact rest₉
          · exact now_cell (c := L + 1 + 1) NC (by k_mem) d₅ rfl
          · exact (now_item (l := D₁) (k := 0) (vs := ev) NC (by k_mem) (now_own (v := .ref D₁) FC rfl (by walk_at "lkp")) ev_const (Int.le_refl 0) (by lia) hte).mono fun v e => ⟨te, e⟩
          intro hE oE tkE tE FE NE dkE
          clear FC NC
          show wpAny _ _ _ _ _ _
          dsimp only
          k_steps
          show wpAny _ _ _ _ _ _
          obtain ⟨kvsE, dkE, dlE, ddE⟩ := DIs.store (w := w) dl₉ dd₉ dkE
          obtain ⟨ta, hta⟩ := ddE (fh e) (List.mem_append_right _ (List.mem_map_of_mem heo))
          refine aug_dict (d := D₄) (k := fh e) (b := 1) (c := upd (takeN ox fh j).1 e (-1) (fh e) - 1) FE NE (.tail ?_ (.tail ?_ (.head ?_))) dkE (Nat.le_trans dlE (Nat.le_trans (show 3 * ox.length + 2 * j + 1 ≤ 2600 by lia) (by decide))) ?_ ?_ hta ev_const ?_ ?_
          · exact Ne.symm (offC' (D₄, oD₉) (by k_mem))
          · exact Ne.symm (ne₉ (D₄, oD₉) (by k_mem))
          · exact rest₉
          · exact now_cell (c := L + 1 + 1) NE (by k_mem) d₅ rfl
          · exact (now_key (k := e) NE (by k_mem) hdo (now_cell (c := L + 1) NE (by k_mem) dH rfl) ((now_item (l := D₁) (k := 0) (vs := ev) NE (by k_mem) (now_own (v := .ref D₁) FE rfl (by walk_at "lkp")) ev_const (Int.le_refl 0) (by lia) hte).mono fun v e => ⟨te, e⟩) htf).mono fun v e => ⟨tf, e⟩
          · intro s Q E t u hQ
            exact PyProof.Rows.isub_int (hQ _ _ ⟨_, rfl⟩)
          intro hG oG tkG tG FG NG dkG
          obtain ⟨kvsG, dkG, dlG, ddG⟩ := DIs.store (w := w) dlE ddE dkG
          clear FE NE
          show wpAny _ _ _ _ _ _
          dsimp only
          k_steps
          show wpAny _ _ _ _ _ _
          refine ev_run (now_key (k := e) NG (by k_mem) hdo (now_cell (c := L + 1) NG (by k_mem) dH rfl) ((now_item (l := D₁) (k := 0) (vs := ev) NG (by k_mem) (now_own (v := .ref D₁) FG rfl (by walk_at "lkp")) ev_const (Int.le_refl 0) (by lia) hte).mono fun v e => ⟨te, e⟩) htf) fun v tkH hv => ?_
          subst hv
          show wpAny _ _ _ _ _ _
          try k_fold
          k_steps
          rename Fr _ _ _ _ => FI
          rename News _ _ _ _ => NI
          rename Addr => TP
          show wpAny _ _ _ _ _ _
          refine append_K (D := TO) FI NI (.tail ?_ (.tail ?_ (.tail ?_ (.tail ?_ (.head ?_))))) ?_ (by rw [List.size_toArray, lt₉]; exact Nat.le_trans (show j ≤ 500 by lia) (by decide))
          · k_ne
          · exact Ne.symm (offC' (TO, lobj tv nt) (by k_mem))
          · exact Ne.symm (ne₉ (TO, lobj tv nt) (by k_mem))
          · k_ne
          · exact all_cons (by k_ne) (all_cons (by k_ne) (all_cons (by k_ne) (all_cons (by k_ne) fun q hq => (dn₉ q hq).2.1)))
          intro hJ FJ NJ
          clear FI NI
          show wpAny _ _ _ _ _ _
          dsimp only
          k_steps
          have hhd : (ox.filter fun x => (takeN ox fh j).1 x == 0).headD 0 = e := by
            revert he
            cases (ox.filter fun x => (takeN ox fh j).1 x == 0) with
            | nil => intro h; cases h
            | cons a r => intro h; injection h
          have hstep : takeN ox fh (j + 1) = (upd (upd (takeN ox fh j).1 e (-1)) (fh e) (upd (takeN ox fh j).1 e (-1) (fh e) - 1), (takeN ox fh j).2 ++ [(ox.filter fun x => (takeN ox fh j).1 x == 0, fh e)]) := by
            show takeStep ox fh (takeN ox fh j) = _
            unfold takeStep
            dsimp only
            rw [hhd]
          have newS : ∀ x, g.get? x = none → x ≠ others → x ≠ hung → s.heap.get? x = none := fun x e1 e2 e3 => by
            cases q : s.heap.get? x with
            | none => rfl
            | some o =>
              rw [hg2 x o q (no_two e2 e3)] at e1; cases e1
          show ∃ m, _
          refine ⟨ox.length - (j + 1), by lia, .mk e4 e5 e6 (j + 1) _ oG (tv ++ [.ref TP]) (nt + 1) ((TP, tobj [.ref D₁, .int (fh e) tf] 0) :: (D₁, lobj ev c1) :: dl) rfl hlt FJ (by walk_at "lkp") (by walk_at "lkp") (fun q hq => NJ q ?_) ?_ ?_ (by rw [List.length_append, lt₉]; rfl) ?_ ⟨kvsG, dkG, by lia, ?_⟩⟩
          · revert q
            refine in_cons (by k_mem) (in_cons (by k_mem) (in_cons (by simp) ?_))
            repeat (first | (refine in_cons (by k_mem) ?_) | (intro q hq; repeat (first | exact hq | apply List.Mem.tail)))
          · exact all_cons (ne₉ (D₄, oD₉) (by k_mem)) (all_cons (ne₉ (TO, lobj tv nt) (by k_mem)) (all_cons (ne₉ (L + 1 + 1, oA') (by k_mem)) (all_cons (ne₉ (L + 1, oH) (by k_mem)) (all_cons (ne₉ (others, lobj ov n1) (by k_mem)) (all_cons (ne₉ (hung, oh) (by k_mem))
              (all_cons (by k_ne) (all_cons (Ne.symm (offC' (it2, liObj others (j + 1)) (by k_mem))) fun q hq => ne₉ q (.tail _ (.tail _ (.tail _ (.tail _ (.tail _ (.tail _ hq)))))))))))))
          · exact all_cons ⟨by k_ne, by k_ne, newS _ (NJ (TP, tobj [.ref D₁, .int (fh e) tf] 0) (by k_mem)).2.2 (by k_ne) (by k_ne)⟩
              (all_cons ⟨Ne.symm (offC' (D₄, oD₉) (by k_mem)), Ne.symm (offC' (TO, lobj tv nt) (by k_mem)), newS _ (NJ (D₁, lobj ev c1) (by k_mem)).2.2 (Ne.symm (offC' (others, lobj ov n1) (by k_mem))) (Ne.symm (offC' (hung, oh) (by k_mem)))⟩ dn₉)
          · rw [hstep]
            have := deep_snoc (tup := TP) (ends := D₁) (f := fh e) (ft := tf) (c4 := 0) (c5 := c1) De₉ iiC
            simpa [toldD] using this
          · rw [hstep]; exact ddG
        · show wpAny _ _ _ _ _ _
          clear F₉ N₉
          k_steps
          have hj3 : j = ox.length := by
            have := List.getElem?_eq_none_iff.mp hx
            lia
          show R _ _
          dsimp only
          rw [e4, e5, e6]
          refine hR TO tv dl hA _ nt (NA (TO, lobj tv nt) (by k_mem)).1 (by rw [lt₉, hj3]) (by unfold takenOf; rw [← hj3]; exact De₉) (fun q hq => ⟨(NA q (.tail _ (.tail _ (.tail _ (.tail _ (.tail _ (.tail _ hq))))))).1, (dn₉ q hq).2.2⟩) ?_ ?_
          · cases q : s.heap.get? TO with
            | none => rfl
            | some o =>
              have e1 := (NA (TO, lobj tv nt) (by k_mem)).2.2
              dsimp only at e1
              rw [hg2 TO o q (no_two (by k_ne) (by k_ne))] at e1
              cases e1
          · exact kp_end (fun p hp => (hN p hp).1) hg2 (KtsTurn.refl (fs := fsOf outer)) FA NA (in_cons (by k_mem) (in_cons (by k_mem) all_nil))
end
end Mine
end
section
open PySem PySem.W PyProof.Rows PySem.Calls
namespace Mine
/-! list comprehensions with two for's -/
abbrev lc2 (elt t1 i1 t2 i2 : PySem.Expr) (ifs : List PySem.Expr) (scope : Scope) (pos : Pos) : PySem.Expr := .ListComp elt [⟨t1, i1, [], 0⟩, ⟨t2, i2, ifs, 0⟩] scope pos
theorem turn_in (elt t1 i1 t2 i2 : PySem.Expr) (ifs : List PySem.Expr) (scope : Scope) (pos : Pos) (it acc : Value) (env : Env) :
    compTurn (lc2 elt t1 i1 t2 i2 ifs scope pos) 1 it acc env = (do
      standAt i2.pos
      match ← pyNext it with
      | none => pure (.done .next)
      | some v =>
        letOwnedTupleGo t2 it v
        assign t2 env v
        let mut ok := true
        for c in ifs do
          if ok then ok ← isTrue c env (eval c env)
        if ok then
          (do let _ ← call (.builtin "list.append") [acc, ← eval elt env])
        again (.compLoop (lc2 elt t1 i1 t2 i2 ifs scope pos) 1 it acc env)) := by rfl
theorem turn_out (elt t1 i1 t2 i2 : PySem.Expr) (ifs : List PySem.Expr) (scope : Scope) (pos : Pos) (it acc : Value) (env : Env) :
    compTurn (lc2 elt t1 i1 t2 i2 ifs scope pos) 0 it acc env = (do
      standAt i1.pos
      match ← pyNext it with
      | none => pure (.done .next)
      | some v =>
        letOwnedTupleGo t1 it v
        assign t1 env v
        let x ← eval i2 env
        standAt i2.pos
        let x ← foldedSetIterable i2 env x
        let _ ← runOwn (.compStart (lc2 elt t1 i1 t2 i2 ifs scope pos) 1 (← holding [x] (pyIter x)) acc env) env
        again (.compLoop (lc2 elt t1 i1 t2 i2 ifs scope pos) 0 it acc env)) := by rfl
section
variable {w : World} {A : Around} {s : Shared} {R : Result → Shared → Prop}
abbrev noE : Value → Shared → Prop := fun _ _ => False
theorem loop_in {elt t1 i1 t2 i2 : PySem.Expr} {ifs : List PySem.Expr} {scope : Scope} {pos : Pos} {it acc : Value} {env : Env} (I : Nat → Shared → Prop)
    (turn : ∀ n s, I n s → wpAny (model PR w) A (pyNext it) (fun r s₁ => match r with
      | none => R (.ok .next) s₁
      | some v => wpAny (model PR w) A (assign t2 env v) (fun _ s₂ =>
          wpAny (model PR w) A (forIn ifs true fun c r => if r = true then do let ok ← isTrue c env (eval c env); pure (ForInStep.yield ok) else pure (ForInStep.yield r)) (fun ok s₃ =>
            if ok = true then wpAny (model PR w) A (eval elt env) (fun x s₄ =>
              wpAny (model PR w) A (call (.builtin "list.append") [acc, x]) (fun _ s₅ => ∃ m, m < n ∧ I m s₅) noE s₄) noE s₃
            else ∃ m, m < n ∧ I m s₃) noE s₂) noE s₁) noE s)
    (n : Nat) (h : I n s) (ht : ∀ v, letOwnedTupleGo t2 it v = pure () := by intro _; rfl) :
    codeAny (model PR w) A (.compLoop (lc2 elt t1 i1 t2 i2 ifs scope pos) 1 it acc env) R s := by
  refine codeAny_loop rfl I (fun n s hI => ?_) n h
  show wpAny _ A ((compTurn (lc2 elt t1 i1 t2 i2 ifs scope pos) 1 it acc env).onRaise (fun x => do noteFrame x env; theTreesLotGoes x)) _ _ s
  refine wpAny_noted ?_
  rw [turn_in]
  refine wpAny_bind (wpAny_standAt (wpAny_bind (wpAny_mono (turn n s hI) (fun r s₁ h₁ => ?_) fun _ _ h' => h'.elim)))
  cases r with
  | none => exact wpAny_pure h₁
  | some v =>
    refine wpAny_bind (wpAny_of_eq (ht v) ?_)
    refine wpAny_bind (wpAny_mono h₁ (fun _ s₂ h₂ => wpAny_bind (wpAny_mono h₂ (fun ok s₃ h₃ => ?_) fun _ _ h' => h'.elim)) fun _ _ h' => h'.elim)
    cases ok with
    | false => exact wpAny_pure ⟨rfl, h₃⟩
    | true =>
      exact wpAny_bind (wpAny_bind (wpAny_mono h₃ (fun x s₄ h₄ => wpAny_bind (wpAny_mono h₄ (fun _ s₅ h₅ => wpAny_pure (wpAny_pure ⟨rfl, h₅⟩)) fun _ _ h' => h'.elim)) fun _ _ h' => h'.elim))
theorem start_in {elt t1 i1 t2 i2 : PySem.Expr} {ifs : List PySem.Expr} {scope : Scope} {pos : Pos} {it acc : Value} {env : Env}
    (h0 : codeAny (model PR w) A (.compLoop (lc2 elt t1 i1 t2 i2 ifs scope pos) 1 it acc env) R s)
    (h : wpAny (model PR w) A (pyIter it) (fun it' s' => codeAny (model PR w) A (.compLoop (lc2 elt t1 i1 t2 i2 ifs scope pos) 1 it' acc env) R s') noE s) :
    codeAny (model PR w) A (.compStart (lc2 elt t1 i1 t2 i2 ifs scope pos) 1 it acc env) R s := by
  refine codeAny_of_tree ?_
  show wpAny _ _ ((compStart (lc2 elt t1 i1 t2 i2 ifs scope pos) 1 it acc env).onRaise (fun x => do noteFrame x env; standAt theWindowsPlace)) _ _ s
  refine wpAny_notedAt ?_
  unfold compStart
  show wpAny _ _ (ask >>= _) _ _ s
  refine wpAny_bind (wpAny_askSetting (wpAny_ite ?_))
  split
  · first
      | exact wpAny_bind (wpAny_pure (wpAny_pure (And.intro rfl h0)))
      | exact wpAny_pure (And.intro rfl h0)
  · first
      | exact wpAny_bind (wpAny_rule (wpAny_bind (wpAny_standAt (wpAny_bind (wpAny_mono h (fun it' s' h' => wpAny_pure (And.intro rfl h')) fun _ _ x => x.elim)))))
      | (refine wpAny_bind (wpAny_rule ?_); show wpAny _ _ (standAt i2.pos >>= _) _ _ s; exact wpAny_bind (wpAny_standAt (wpAny_bind (wpAny_mono h (fun it' s' h' => wpAny_pure (And.intro rfl h')) fun _ _ x => x.elim))))
theorem loop_out {elt t1 i1 t2 i2 : PySem.Expr} {ifs : List PySem.Expr} {scope : Scope} {pos : Pos} {it acc : Value} {env : Env} (I : Nat → Shared → Prop)
    (turn : ∀ n s, I n s → wpAny (model PR w) A (pyNext it) (fun r s₁ => match r with
      | none => R (.ok .next) s₁
      | some v => wpAny (model PR w) A (assign t1 env v) (fun _ s₂ => wpAny (model PR w) A (eval i2 env) (fun x s₃ => wpAny (model PR w) A (pyIter x) (fun it2 s₄ =>
          codeAny (model PR w) A (.compStart (lc2 elt t1 i1 t2 i2 ifs scope pos) 1 it2 acc env) (fun r s₅ => match r with | .ok _ => ∃ m, m < n ∧ I m s₅ | .error _ => False) s₄) noE s₃) noE s₂) noE s₁) noE s)
    (n : Nat) (h : I n s) (ht : ∀ v, letOwnedTupleGo t1 it v = pure () := by intro _; rfl) (hs : ∀ x, foldedSetIterable i2 env x = pure x := by intro _; rfl) :
    codeAny (model PR w) A (.compLoop (lc2 elt t1 i1 t2 i2 ifs scope pos) 0 it acc env) R s := by
  refine codeAny_loop rfl I (fun n s hI => ?_) n h
  show wpAny _ A ((compTurn (lc2 elt t1 i1 t2 i2 ifs scope pos) 0 it acc env).onRaise (fun x => do noteFrame x env; theTreesLotGoes x)) _ _ s
  refine wpAny_noted ?_
  rw [turn_out]
  refine wpAny_bind (wpAny_standAt (wpAny_bind (wpAny_mono (turn n s hI) (fun r s₁ h₁ => ?_) fun _ _ h' => h'.elim)))
  cases r with
  | none => exact wpAny_pure h₁
  | some v =>
    refine wpAny_bind (wpAny_of_eq (ht v) ?_)
    refine wpAny_bind (wpAny_mono h₁ (fun _ s₂ h₂ => wpAny_bind (wpAny_mono h₂ (fun x s₃ h₃ => wpAny_bind (wpAny_standAt (wpAny_bind (wpAny_of_eq (hs x) ?_)))) fun _ _ h' => h'.elim)) fun _ _ h' => h'.elim)
    refine wpAny_bind (wpAny_holding (wpAny_mono h₃ (fun it2 s₄ h₄ => wpAny_bind (wpAny_runOwn ?_)) fun _ _ h' => h'.elim))
    refine codeAny_mono h₄ fun r s₅ h₅ => ?_
    cases r with
    | ok f => exact wpAny_pure ⟨rfl, h₅⟩
    | error e => exact h₅.elim

/-- the heap in the inner turn -/
def HIn (s : Heap) (C I J D : Addr) (y : Str) (m : Str → Option Value) (v : Value) (h : Heap) : Prop :=
  (∃ m₂, h.Ns C m₂ ∧ m₂ y = some v ∧ ∀ k, k ≠ y → m₂ k = m k) ∧ ∀ b o, b ≠ C → b ≠ I → b ≠ J → b ≠ D → s.get? b = some o → h.get? b = some o
inductive InI (s : Shared) (C J D : Addr) (y : Str) (m : Str → Option Value) (St : Nat → Heap → Prop) (acc : List Value) (ys : List Int) (p : Int → Bool) (f : Int → Int) (k : Nat) (s' : Shared) : Prop
  | mk (h' : Heap) (tk i : Nat) (m' : Str → Option Value) (acc' : List Value) (c' : Nat) (e1 : s' = { s with heap := h', toks := tk }) (hi : i ≤ ys.length) (e2 : k = ys.length + 1 - i) (hst : St i h') (hn : h'.Ns C m') (hm : ∀ k, k ≠ y → m' k = m k)
    (hD : h'.get? D = some (lobj (acc ++ acc') c')) (hI : IntsAre acc' (((ys.take i).filter p).map f)) (hk : ∀ b o, b ≠ C → b ≠ J → b ≠ D → s.heap.get? b = some o → h'.get? b = some o) : InI s C J D y m St acc ys p f k s'
theorem in_walk {elt t1 i1 i2 : PySem.Expr} {y : Str} {py : Pos} {ifs : List PySem.Expr} {scope : Scope} {pos : Pos} {J D : Addr} {fp : List Addr} {P : Nat → Value → Prop} {St : Nat → Heap → Prop} {cenv : Env} {m : Str → Option Value}
    {acc : List Value} {c : Nat} {ys : List Int} {p : Int → Bool} {f : Int → Int} (W : Walks PR w A J fp [J] ys.length P St) (hP : ∀ i v, P i v → ∃ x, ys[i]? = some x ∧ isI x v)
    (hx : cenv.kindOf y = some .local) (hp : (cenv.scope.kind == .class || (cenv.scope.kind == .module && cenv.locals != cenv.globals)) = false) (hDC : D ≠ cenv.locals) (hDf : D ∉ fp) (hCf : cenv.locals ∉ fp)
    (hst : St 0 s.heap) (hacc : s.heap.get? D = some (lobj acc c)) (hn : s.heap.Ns cenv.locals m) (hsz : acc.length + ys.length ≤ 1000)
    (ht : ∀ z v, z ∈ ys → isI z v → EvT w A cenv (HIn s.heap cenv.locals J J D y m v) ifs (p z))
    (he : ∀ z v, z ∈ ys → isI z v → p z = true → Ev w A cenv (HIn s.heap cenv.locals J J D y m v) elt (isI (f z)))
    (hR : ∀ h' tk acc' c' m', h'.Ns cenv.locals m' → h'.get? D = some (lobj (acc ++ acc') c') → IntsAre acc' ((ys.filter p).map f) → (∀ b o, b ≠ cenv.locals → b ≠ J → b ≠ D → s.heap.get? b = some o → h'.get? b = some o) → R (.ok .next) { s with heap := h', toks := tk }) :
    codeAny (model PR w) A (.compLoop (lc2 elt t1 i1 (.Name y py) i2 ifs scope pos) 1 (.ref J) (.ref D) cenv) R s := by
  have hJf : J ∈ fp := W.sub J (List.mem_singleton.mpr rfl)
  have hCJ : cenv.locals ≠ J := fun e => hCf (e ▸ hJf)
  have hDJ : D ≠ J := fun e => hDf (e ▸ hJf)
  refine loop_in (InI s cenv.locals J D y m St acc ys p f) ?_ (ys.length + 1)
    ⟨s.heap, s.toks, 0, m, [], c, rfl, Nat.zero_le _, rfl, hst, hn, fun _ _ => rfl, by rw [List.append_nil]; exact hacc, by simpa using IntsAre.nil, fun _ _ _ _ _ e => e⟩
  rintro k s' ⟨H, tk, i, m', acc', c', rfl, hi, rfl, hst', hn', hm', hacc', hI', hk⟩
  by_cases hlt : i < ys.length
  · refine W.item i _ _ _ hlt hst' fun v h₁ tk₁ hPv hst₁ hk₁ => ?_
    obtain ⟨z, hz, iz⟩ := hP i v hPv
    have hzm : z ∈ ys := List.mem_of_getElem? hz
    refine wpAny_assign_Name (wpAny_storeName_local hx (hn'.at' fun o e => hk₁ _ o (by simpa using hCJ) e) (fun h₂ hn₂ hs₂ => ?_) hp)
    have up₂ : ∀ b o, b ≠ cenv.locals → b ≠ J → H.get? b = some o → h₂.get? b = some o := fun b o hbC hbJ e => hs₂.extBut b o hbC (hk₁ b o (by simpa using hbJ) e)
    have hst₂ : St (i + 1) h₂ := W.frame _ _ _ hst₁ fun b hb o e => hs₂.extBut b o (fun h => hCf (h ▸ hb)) e
    have hD₂ : h₂.get? D = some (lobj (acc ++ acc') c') := up₂ D _ hDC hDJ hacc'
    have hin : HIn s.heap cenv.locals J J D y m v h₂ := ⟨⟨_, hn₂, by simp, fun k hk => by rw [if_neg hk]; exact hm' k hk⟩, fun b o h1 h2 _ h3 e => up₂ b o h1 h2 (hk b o h1 h2 h3 e)⟩
    have etk : (ys.take (i + 1)).filter p = (ys.take i).filter p ++ (if p z then [z] else []) := take_succ_filter p ys i z hz
    refine ht z v hzm iz _ _ _ hin fun tk₃ => ?_
    cases hpz : p z with
    | false =>
      rw [if_neg (by decide)]
      refine ⟨ys.length + 1 - (i + 1), by lia, h₂, tk₃, i + 1, _, acc', c', rfl, hlt, rfl, hst₂, hn₂, fun k hk => by rw [if_neg hk]; exact hm' k hk, hD₂, ?_, fun b o h1 h2 h3 e => up₂ b o h1 h2 (hk b o h1 h2 h3 e)⟩
      rw [etk, hpz, if_neg (by decide), List.append_nil]; exact hI'
    | true =>
      rw [if_pos rfl]
      refine he z v hzm iz hpz _ _ _ hin fun u tk₄ hu => ?_
      obtain ⟨t, rfl⟩ := hu
      have hle : (acc ++ acc').length ≤ 1000 := by
        have e1 := hI'.length
        have e2 : ((ys.take i).filter p).length ≤ (ys.take i).length := List.length_filter_le _ _
        rw [List.length_map] at e1
        rw [List.length_take] at e2
        rw [List.length_append]
        lia
      refine PyProof.Rows.append_at (hsz := by rw [List.size_toArray, sizeLine_eq]; lia) hD₂ fun h₅ hs₅ hD₅ => ?_
      refine ⟨ys.length + 1 - (i + 1), by lia, h₅, tk₄, i + 1, _, acc' ++ [.int (f z) t], c' + 1, rfl, hlt, rfl, W.frame _ _ _ hst₂ fun b hb o e => hs₅.extBut b o (fun q => hDf (q ▸ hb)) e, hn₂.sameBut hs₅ (Ne.symm hDC), fun k hk => by rw [if_neg hk]; exact hm' k hk, ?_, ?_, fun b o h1 h2 h3 e => hs₅.extBut b o h3 (up₂ b o h1 h2 (hk b o h1 h2 h3 e))⟩
      · rw [hD₅]; simp [lobj]
      · rw [etk, hpz, if_pos rfl, List.map_append]
        exact hI'.append (.cons _ t .nil)
  · have hin : i = ys.length := by lia
    subst hin
    refine W.done _ _ _ hst' fun h₁ tk₁ hk₁ => ?_
    refine hR h₁ tk₁ acc' c' m' (hn'.at' fun o e => hk₁ _ o (by simpa using hCJ) e) (hk₁ _ _ (by simpa using hDJ) hacc') ?_ fun b o h1 h2 h3 e => hk₁ b o (by simpa using h2) (hk b o h1 h2 h3 e)
    rw [List.take_length] at hI'
    exact hI'

/-- the heap at an inner turn -/
def HC2 (g : Heap) (news : List (Addr × Obj)) (C : Addr) (n1 : Str) (v1 : Value) (n2 : Str) (v2 : Value) (h : Heap) : Prop :=
  (∀ b o, g.get? b = some o → h.get? b = some o) ∧ (∀ q ∈ news, h.get? q.1 = some q.2) ∧ ∃ mC, h.Ns C mC ∧ mC n1 = some v1 ∧ mC n2 = some v2
theorem EvT.weaken {env : Env} {H H' : Heap → Prop} {ifs : List PySem.Expr} {b : Bool} (h : EvT w A env H ifs b) (k : ∀ x, H' x → H x) : EvT w A env H' ifs b := fun s Q E hs hQ => h s Q E (k _ hs) hQ
theorem Ev.weaken {env : Env} {H H' : Heap → Prop} {e : PySem.Expr} {P : Value → Prop} (h : Ev w A env H e P) (k : ∀ x, H' x → H x) : Ev w A env H' e P := fun s Q E hs hQ => h s Q E (k _ hs) hQ
/-- the inner source gives the ints zs -/
def Src (w : World) (A : Around) (env : Env) (H : Heap → Prop) (news : List (Addr × Obj)) (e : PySem.Expr) (zs : List Int) : Prop :=
  ∀ (s : Shared) (Q : Value → Shared → Prop) (E : Value → Shared → Prop), H s.heap → (∀ J fp P St h₂ tk, Walks PR w A J fp [J] zs.length P St → St 0 h₂ → (∀ i v, P i v → ∃ x, zs[i]? = some x ∧ isI x v) → s.heap.get? J = none → (∀ b ∈ fp, s.heap.get? b = none ∨ b ∈ news.map Prod.fst) →
    (∀ b o, s.heap.get? b = some o → h₂.get? b = some o) → Q (.ref J) { s with heap := h₂, toks := tk }) → wpAny (model PR w) A (eval e env) (fun xv s₃ => wpAny (model PR w) A (pyIter xv) Q E s₃) E s
theorem src_list {env : Env} {H : Heap → Prop} {news : List (Addr × Obj)} {e : PySem.Expr} {l : Addr} {vs : List Value} {n : Nat} {zs : List Int} (hh : A.handled = none) (he : Ev w A env H e (· = .ref l)) (hl : ∀ h, H h → h.get? l = some (lobj vs n)) (hm : l ∈ news.map Prod.fst) (hI : IntsAre vs zs) : Src w A env H news e zs := fun s Q E hs hQ => by
  refine he s _ _ hs fun v tk hv => ?_
  subst hv
  have e1 : s.heap.get? l = some (lobj vs n) := hl _ hs
  have hl' : ({ s with toks := tk } : Shared).heap.IsList l vs.toArray := ⟨_, e1, rfl, _, rfl⟩
  have hlt : l < s.heap.objs.size := Heap.lt_size e1
  refine wpAny_pyIter_list hl' ?_
  have W := Walks.list (prog := PR) (w := w) (A := A) hh s.heap.objs.size l (Nat.ne_of_lt hlt) vs.toArray
  have e2 : vs.toArray.size = zs.length := by simp [hI.length]
  rw [e2] at W
  have hnone : s.heap.get? s.heap.objs.size = none := by
    cases q : s.heap.get? s.heap.objs.size with
    | none => rfl
    | some o => exact absurd (Heap.lt_size q) (Nat.lt_irrefl _)
  refine hQ s.heap.objs.size [s.heap.objs.size, l] _ _ _ tk W ⟨⟨_, Heap.get?_push_size _ rfl, rfl, rfl⟩, hl'.push _⟩ (fun i v hv => ?_) hnone (fun b hb => ?_) (fun b o e => Heap.get?_push_of_some _ e)
  · obtain ⟨n, t, rfl, hn⟩ := hI.at i v (by simpa using hv)
    exact ⟨n, hn, t, rfl⟩
  · rcases List.mem_cons.mp hb with rfl | hb
    · exact .inl hnone
    · rw [List.mem_singleton.mp hb]; exact .inr hm
inductive Ask2 (w : World) (A : Around) (env : Env) (scope : Scope) (cl : List (Str × Addr)) (n1 n2 : Str) (i2 : PySem.Expr) (ifs : List PySem.Expr) (elt : PySem.Expr) (R : Value → Shared → Prop) (xv : Value) (s₁ : Shared) : Prop
  | mk (g : Heap) (L : Addr) (m : Str → Option Value) (news : List (Addr × Obj)) (xs : List Int) (ys : Int → List Int) (p : Int → Int → Bool) (f : Int → Int → Int) (F : Fr g L s₁.heap m) (N : News g L s₁.heap news) (IT : IterInts w A g L m news xv xs s₁) (hx : xs.length ≤ 16) (hy : ∀ z ∈ xs, (ys z).length ≤ 16)
    (hsrc : ∀ C z v, z ∈ xs → isI z v → Src w A (compEnvC scope cl C env) (HC g news C n1 v) news i2 (ys z))
    (ht : ∀ C z v y u, z ∈ xs → isI z v → y ∈ ys z → isI y u → EvT w A (compEnvC scope cl C env) (HC2 g news C n1 v n2 u) ifs (p z y))
    (he : ∀ C z v y u, z ∈ xs → isI z v → y ∈ ys z → isI y u → p z y = true → Ev w A (compEnvC scope cl C env) (HC2 g news C n1 v n2 u) elt (isI (f z y)))
    (hR : ∀ D vs h' tk c, Fr g L h' m → News g L h' ((D, lobj vs c) :: news) → LCg.Off1 D news → IntsAre vs (xs.flatMap fun z => ((ys z).filter (p z)).map (f z)) → R (.ref D) { s₁ with heap := h', toks := tk }) : Ask2 w A env scope cl n1 n2 i2 ifs elt R xv s₁
inductive OutI (s₁ : Shared) (C I D : Addr) (St : Nat → Heap → Prop) (h₂ : Heap) (xs : List Int) (ys : Int → List Int) (p : Int → Int → Bool) (f : Int → Int → Int) (k : Nat) (s' : Shared) : Prop
  | mk (h' : Heap) (tk i : Nat) (m' : Str → Option Value) (acc : List Value) (c' : Nat) (e1 : s' = { s₁ with heap := h', toks := tk }) (hi : i ≤ xs.length) (e2 : k = xs.length + 1 - i) (hst : St i h') (hn : h'.Ns C m') (hD : h'.get? D = some (lobj acc c')) (ha : acc.length ≤ i * 16)
    (hI : IntsAre acc ((xs.take i).flatMap fun z => ((ys z).filter (p z)).map (f z))) (hk : ∀ b o, b ≠ C → b ≠ I → b ≠ D → h₂.get? b = some o → h'.get? b = some o) : OutI s₁ C I D St h₂ xs ys p f k s'
theorem lc2_eval {E : Value → Shared → Prop} {env : Env} {elt i1 i2 : PySem.Expr} {n1 n2 : Str} {p1 p2 : Pos} {ifs : List PySem.Expr} {scope : Scope} {cl : List (Str × Addr)} {pos : Pos} {Q : Value → Shared → Prop}
    (hclos : closureFor scope env = pure cl) (hcell : ∀ y ∈ scope.names, y.2 ≠ .cell) (hkind : scope.kind = .function)
    (hnames : ∀ y ∈ scope.names, y.2 = .local → scope.names.lookup y.1 = some .local) (hx1 : scope.names.lookup n1 = some .local) (hx2 : scope.names.lookup n2 = some .local) (hne : n1 ≠ n2)
    (h : wpAny (model PR w) A (eval i1 env) (Ask2 w A env scope cl n1 n2 i2 ifs elt Q) E s)
    (hs : ∀ x, foldedSetIterable i1 env x = pure x := by intro _; rfl) (hs2 : ∀ (env : Env) x, foldedSetIterable i2 env x = pure x := by intro _ _; rfl) :
    wpAny (model PR w) A (eval (lc2 elt (.Name n1 p1) i1 (.Name n2 p2) i2 ifs scope pos) env) Q E s := by
  rw [eval_ListComp]
  refine wpAny_comprehension_free (use := none) rfl hs hclos hkind hnames (wpAny_mono h (fun xv s₁ h₁ => ?_) fun _ _ e => e)
  obtain ⟨g, L, m, news, xs, ys, p, f, F, N, IT, hx16, hy16, hsrc, ht, he, hR⟩ := h₁
  refine IT _ _ fun I fp P St h₂ W hst hfp hP F₂ N₂ off hIL hI => ?_
  refine wpAny_newObj_type (wpAny_newFunctionEnv hcell (by intro y hy; simp at hy) (fun h₁ hns₁ hsb₁ => ?_) hkind)
  dsimp only at hns₁ hsb₁ ⊢
  generalize hH2 : h₂.push { cls := .type "list", dict := none, data := .seq ([] : List Value).toArray } = H2 at hns₁ hsb₁ ⊢
  have hC : H2.objs.size = h₂.objs.size + 1 := by rw [← hH2, Heap.size_push]
  have hDC : h₂.objs.size ≠ H2.objs.size := by rw [hC]; exact Nat.ne_of_lt (Nat.lt_succ_self _)
  have below : ∀ b, b < h₂.objs.size → b ≠ H2.objs.size ∧ b ≠ h₂.objs.size := fun b hb => ⟨by rw [hC]; exact Nat.ne_of_lt (Nat.lt_succ_of_lt hb), Nat.ne_of_lt hb⟩
  have hDf : h₂.objs.size ∉ fp := fun hm => Nat.lt_irrefl _ (hfp _ hm)
  have hCf : H2.objs.size ∉ fp := fun hm => by have := hfp _ hm; rw [hC] at this; exact Nat.lt_irrefl _ (Nat.lt_of_succ_lt this)
  have hIf : I ∈ fp := W.sub I (List.mem_singleton.mpr rfl)
  have hIlt : I < h₂.objs.size := hfp I hIf
  have old : ∀ b o, h₂.get? b = some o → h₁.get? b = some o := fun b o e => hsb₁.extBut b o (below b (Heap.lt_size e)).1 (Heap.get?_push_of_some _ (hH2 ▸ Heap.get?_push_of_some _ e))
  have hacc : h₁.get? h₂.objs.size = some (lobj [] 0) := hsb₁.extBut _ _ hDC (Heap.get?_push_of_some _ (hH2 ▸ Heap.get?_push_size _ rfl))
  have hst₁ : St 0 h₁ := W.frame _ _ _ hst fun b _ o e => old b o e
  have fresh : ∀ a, h₂.objs.size ≤ a → h₂.get? a = none := fun a ha => by
    cases e : h₂.get? a with
    | none => rfl
    | some o' => exact absurd (Heap.lt_size e) (Nat.not_lt.mpr ha)
  have nD : h₂.get? h₂.objs.size = none := fresh _ (Nat.le_refl _)
  have nC : h₂.get? H2.objs.size = none := fresh _ (by rw [hC]; exact Nat.le_succ _)
  obtain ⟨d1, d2, d3⟩ := new_of (D := h₂.objs.size) F₂ N₂ nD
  obtain ⟨c1, c2, c3⟩ := new_of (D := H2.objs.size) F₂ N₂ nC
  have hCI : H2.objs.size ≠ I := Ne.symm (below I hIlt).1
  have hDI : h₂.objs.size ≠ I := Ne.symm (below I hIlt).2
  generalize hDd : h₂.objs.size = D at *
  generalize hCc : H2.objs.size = C at *
  have loop : ∀ tk, codeAny (model PR w) A (.compLoop (lc2 elt (.Name n1 p1) i1 (.Name n2 p2) i2 ifs scope pos) 0 (.ref I) (.ref D) (compEnvC scope cl C env)) (compPost (model PR w) A E none Q (.ref D) C) { s₁ with heap := h₁, toks := tk } := by
    intro tk₀
    refine loop_out (OutI s₁ C I D St h₂ xs ys p f) ?_ (xs.length + 1)
      ⟨h₁, tk₀, 0, _, [], 0, rfl, Nat.zero_le _, rfl, hst₁, hns₁, hacc, Nat.zero_le _, .nil, fun b o _ _ _ e => old b o e⟩ (by intro _; rfl) (hs2 _)
    rintro k s' ⟨H, tk, i, m', acc, c', rfl, hi, rfl, hst', hn', hacc', hal, hI', hk⟩
    by_cases hlt : i < xs.length
    · refine W.item i _ _ _ hlt hst' fun v h₃ tk₃ hPv hst₃ hk₃ => ?_
      obtain ⟨z, hz, iz⟩ := hP i v hPv
      have hzm : z ∈ xs := List.mem_of_getElem? hz
      refine wpAny_assign_Name (wpAny_storeName_local (lookup_relabel_local hx1) (hn'.at' fun o e => hk₃ _ o (by simpa [compEnvC] using hCI) e) (fun h₄ hn₄ hs₄ => ?_) (by simp [compEnvC, relabel, hkind]))
      have up₄ : ∀ b o, b ≠ C → b ≠ I → H.get? b = some o → h₄.get? b = some o := fun b o hbC hbI e => hs₄.extBut b o hbC (hk₃ b o (by simpa using hbI) e)
      have all₄ : ∀ b o, b ≠ C → b ≠ I → b ≠ D → h₂.get? b = some o → h₄.get? b = some o := fun b o h1 h2 h3 e => up₄ b o h1 h2 (hk b o h1 h2 h3 e)
      have hst₄ : St (i + 1) h₄ := W.frame _ _ _ hst₃ fun b hb o e => hs₄.extBut b o (fun h => hCf ((show b = C from h) ▸ hb)) e
      have hD₄ : h₄.get? D = some (lobj acc c') := up₄ D _ hDC hDI hacc'
      have g₂ : ∀ b o, g.get? b = some o → b ≠ C ∧ b ≠ I ∧ b ≠ D := fun b o e => ⟨fun q => (by rw [q, c2] at e; cases e), fun q => (by rw [q, hI] at e; cases e), fun q => (by rw [q, d2] at e; cases e)⟩
      have hH : HC g news C n1 v h₄ := ⟨fun b o e => all₄ b o (g₂ b o e).1 (g₂ b o e).2.1 (g₂ b o e).2.2 (F₂.keep b o e), fun q hq => all₄ _ _ (c3 q hq) (off q hq) (d3 q hq) (N₂ q hq).1, _, hn₄, by simp⟩
      refine hsrc C z v hzm iz _ _ _ hH fun J fp₂ P₂ St₂ h₅ tk₅ W₂ hst₅ hP₂ nJ hfp₂ hk₅ => ?_
      dsimp only at nJ hfp₂ hk₅
      obtain ⟨oC, hoC⟩ : ∃ o, h₄.get? C = some o := by obtain ⟨o, es, ep, e, _⟩ := hn₄; exact ⟨o, e⟩
      have hCf₂ : C ∉ fp₂ := fun hm => by
        rcases hfp₂ C hm with e | e
        · rw [hoC] at e; cases e
        · obtain ⟨q, hq, e⟩ := List.mem_map.mp e; exact c3 q hq e
      have hDf₂ : D ∉ fp₂ := fun hm => by
        rcases hfp₂ D hm with e | e
        · rw [hD₄] at e; cases e
        · obtain ⟨q, hq, e⟩ := List.mem_map.mp e; exact d3 q hq e
      have hn₅ := hn₄.keeps hk₅
      have inner : ∀ tk, codeAny (model PR w) A (.compLoop (lc2 elt (.Name n1 p1) i1 (.Name n2 p2) i2 ifs scope pos) 1 (.ref J) (.ref D) (compEnvC scope cl C env))
          (fun r s₅ => match r with | .ok _ => (∃ m, m < xs.length + 1 - i ∧ OutI s₁ C I D St h₂ xs ys p f m s₅) | .error _ => False) { s₁ with heap := h₅, toks := tk } := by
        intro tk₆
        have low : ∀ u h, HIn h₅ C J J D n2 (fun x => if x = n1 then some v else m' x) u h → HC2 g news C n1 v n2 u h := fun u h ⟨⟨m₂, a1, a2, a3⟩, a4⟩ => by
          have nn : ∀ b o, h₄.get? b = some o → b ≠ J := fun b o e q => by rw [q, nJ] at e; cases e
          refine ⟨fun b o e => ?_, fun q hq => ?_, m₂, a1, by rw [a3 _ hne]; simp, a2⟩
          · have e4 := hH.1 b o e
            exact a4 b o (g₂ b o e).1 (nn b o e4) (nn b o e4) (g₂ b o e).2.2 (hk₅ _ _ e4)
          · have e4 := hH.2.1 q hq
            exact a4 _ _ (c3 q hq) (nn _ _ e4) (nn _ _ e4) (d3 q hq) (hk₅ _ _ e4)
        refine in_walk (ys := ys z) (p := p z) (f := f z) (m := fun x => if x = n1 then some v else m' x) (acc := acc) (c := c') W₂ hP₂ (lookup_relabel_local hx2) (by simp [compEnvC, relabel, hkind]) hDC hDf₂ hCf₂ hst₅ (hk₅ _ _ hD₄) hn₅ ?_ (fun y u hy iu => (ht C z v y u hzm iz hy iu).weaken (low u)) (fun y u hy iu hp => (he C z v y u hzm iz hy iu hp).weaken (low u)) fun h₇ tk₇ acc' c'' m'' e1 e2 e3 e4 => ?_
        · have := hy16 z hzm
          have : i * 16 ≤ 16 * 16 := Nat.mul_le_mul_right _ (by lia)
          lia
        · have hstays : ∀ b o, b ≠ C → b ≠ D → h₄.get? b = some o → h₇.get? b = some o := fun b o h1 h2 e => e4 b o h1 (fun q => by rw [q, nJ] at e; cases e) h2 (hk₅ _ _ e)
          refine ⟨xs.length + 1 - (i + 1), by lia, h₇, tk₇, i + 1, m'', acc ++ acc', c'', rfl, hlt, rfl, W.frame _ _ _ hst₄ fun b hb o e => hstays b o (fun q => hCf (q ▸ hb)) (fun q => hDf (q ▸ hb)) e, e1, e2, ?_, ?_, fun b o h1 h2 h3 e => hstays b o h1 h3 (all₄ b o h1 h2 h3 e)⟩
          · have e5 := e3.length
            rw [List.length_map] at e5
            have e6 : ((ys z).filter (p z)).length ≤ (ys z).length := List.length_filter_le _ _
            have e7 := hy16 z hzm
            rw [List.length_append, Nat.succ_mul]
            lia
          · rw [List.take_add_one, hz, List.flatMap_append]
            simpa using hI'.append e3
      exact start_in (inner _) (W₂.self 0 _ _ _ hst₅ (inner _))
    · have hin : i = xs.length := by lia
      subst hin
      refine W.done _ _ _ hst' fun h₃ tk₃ hk₃ => ?_
      refine ⟨m', hn'.at' fun o e => hk₃ _ o (by simpa using hCI) e, fun h'' hs'' => ?_⟩
      rw [List.take_length] at hI'
      have up : ∀ b o, b ≠ C → b ≠ I → b ≠ D → h₂.get? b = some o → h''.get? b = some o := fun b o h1 h2 h3 e => hs''.extBut b o h1 (hk₃ b o (by simpa using h2) (hk b o h1 h2 h3 e))
      refine hR D acc h'' tk₃ c' ⟨F₂.ns.at' fun o e => up _ o (Ne.symm c1) (Ne.symm hIL) (Ne.symm d1) e, fun b o e => up b o (fun q => by rw [q, c2] at e; cases e) (fun q => by rw [q, hI] at e; cases e) (fun q => by rw [q, d2] at e; cases e) (F₂.keep b o e), F₂.above⟩ (fun q hq => ?_) (off1 d3) hI'
      rcases List.mem_cons.mp hq with rfl | hq
      · exact ⟨hs''.extBut _ _ hDC (hk₃ _ _ (by simpa using hDI) hacc'), d1, d2⟩
      · exact ⟨up _ _ (c3 q hq) (off q hq) (d3 q hq) (N₂ q hq).1, (N₂ q hq).2⟩
  exact codeAny_compStart_list (loop _) (W.self 0 _ _ _ hst₁ (loop _))
end
end Mine
end
section
open PySem PySem.W PyProof.Rows PySem.Calls
namespace Mine
local macro_rules | `(tactic| walk_at "pad") => `(tactic| skip)
/-! comprehensions whose target is a pair, over a list of (list of ints, int) -/
def PairsAt (news : List (Addr × Obj)) (tv : List Value) (told : Told) : Prop :=
  tv.length = told.length ∧ ∀ h : Heap, (∀ q ∈ news, h.get? q.1 = some q.2) → ∀ (i : Nat) (v : Value), tv[i]? = some v → ∃ p T a ev t, told[i]? = some p ∧ v = .ref T ∧ h.IsTuple T #[.ref a, .int p.2 t] ∧ h.IsList a ev.toArray ∧ IntsAre ev p.1
open PySem.Spec in
theorem ints_of_reads {h : Heap} : ∀ {vs : List Value} {ns : List Int} {as : List Addr}, ReadsAll h vs (ns.map .int) as → IntsAre vs ns
  | [], [], _, _ => .nil
  | _ :: _, n :: ns, _, r => by
    cases r with
    | cons h1 h2 =>
      cases h1
      exact .cons _ _ (ints_of_reads h2)
  | _ :: _, [], _, r => by cases r
  | [], _ :: _, _, r => by cases r
open PySem.Spec in
theorem pair_read {h : Heap} : ∀ {tv : List Value} {told : Told} {as : List Addr}, ReadsAll h tv (toldD told) as → tv.length = told.length ∧ ∀ (i : Nat) (v : Value), tv[i]? = some v → ∃ p T a ev t, told[i]? = some p ∧ v = .ref T ∧ h.IsTuple T #[.ref a, .int p.2 t] ∧ h.IsList a ev.toArray ∧ IntsAre ev p.1
  | [], [], _, _ => ⟨rfl, fun i v e => by simp at e⟩
  | v :: tv, p :: told, _, r => by
    cases r with
    | cons h1 h2 =>
      obtain ⟨e1, e2⟩ := pair_read h2
      refine ⟨by simp [e1], fun i v' e => ?_⟩
      cases i with
      | succ i => simpa using e2 i v' (by simpa using e)
      | zero =>
        have e3 : v = v' := by simpa using e
        subst e3
        cases h1 with
        | @tuple a o vs n xs as ho hc hd hr =>
          generalize hvs : vs.toList = l at hr
          cases hr with
          | cons r1 r2 =>
            cases r2 with
            | cons r3 r4 =>
              cases r4
              cases r3
              cases r1 with
              | list ho' hc' hd' hr' =>
                have e4 := Array.toArray_toList (xs := vs)
                rw [hvs] at e4
                rw [← e4] at hd
                exact ⟨p, _, _, _, _, rfl, rfl, ⟨_, ho, hc, _, hd⟩, ⟨_, ho', hc', _, by rw [hd', Array.toArray_toList]⟩, ints_of_reads hr'⟩
  | _ :: _, [], _, r => by cases r
  | [], _ :: _, _, r => by cases r
theorem pairs_of_deep {dl news : List (Addr × Obj)} {tv : List Value} {told : Told} (D : Deep dl tv (toldD told)) (hl : tv.length = told.length) (hs : ∀ q ∈ dl, q ∈ news) : PairsAt news tv told :=
  ⟨hl, fun h hn i v e => by
    obtain ⟨as, r⟩ := D h fun q hq => hn q (hs q hq)
    exact (pair_read r).2 i v e⟩
/-- the heap at a turn over a pair -/
def HCp (g : Heap) (news : List (Addr × Obj)) (C : Addr) (n1 n2 : Str) (p : List Int × Int) (h : Heap) : Prop :=
  (∀ b o, g.get? b = some o → h.get? b = some o) ∧ (∀ q ∈ news, h.get? q.1 = some q.2) ∧ ∃ mC a ev t, h.Ns C mC ∧ mC n1 = some (.ref a) ∧ mC n2 = some (.int p.2 t) ∧ h.IsList a ev.toArray ∧ IntsAre ev p.1
section
variable {w : World} {A : Around} {s : Shared} {R : Result → Shared → Prop} {E : Value → Shared → Prop} {env : Env}
theorem ev_ownP {H : Heap → Prop} {x : Str} {pos : Pos} {P : Value → Prop} (hH : ∀ h, H h → ∃ m v, h.Ns env.locals m ∧ m x = some v ∧ P v) (hk : env.scope.kind = .function := by rfl) (hl : env.kindOf x = some .local := by rfl) (hd : (x == ("__debug__" : Str)) = false := by decide) :
    Ev w A env H (.Name x pos) P := fun s Q E hs hQ => by
  obtain ⟨m, v, h1, h2, h3⟩ := hH _ hs
  exact wpAny_Name (wpAny_loadName_local hk hl h1 h2 (hQ v s.toks h3)) hd
theorem ev_head {H : Heap → Prop} {x : Str} {p1 p2 pos : Pos} {k} {z : Int} (hH : ∀ h, H h → ∃ m a ev zs, h.Ns env.locals m ∧ m x = some (.ref a) ∧ h.IsList a ev.toArray ∧ IntsAre ev zs ∧ zs[0]? = some z) (hk : env.scope.kind = .function := by rfl) (hl : env.kindOf x = some .local := by rfl) (hd : (x == ("__debug__" : Str)) = false := by decide)
    (hsub : ∀ l t, subscripted (.Constant (.int 0) k p2) false (.ref l) (.int 0 t) = operate [.ref l, .int 0 t] (getItem (.ref l) (.int 0 t)) := by intro _ _; with_unfolding_all rfl) :
    Ev w A env H (.Subscript (.Name x p1) (.Constant (.int 0) k p2) pos) (isI z) := fun s Q E hs hQ => by
  obtain ⟨m, a, ev, zs, h1, h2, h3, h4, h5⟩ := hH _ hs
  obtain ⟨t, ht⟩ := h4.get 0 z h5
  refine ev_item (H := (· = s.heap)) (l := a) (k := 0) (vs := ev) (x := .int z t) (ev_own (fun h e => ⟨m, by rw [e]; exact h1, h2⟩) hk hl hd) ev_const (fun h e => by rw [e]; exact h3) (by decide) (by decide) ht (hsub a) s Q E rfl fun v tk hv => hQ v tk ⟨t, hv⟩
/-- one turn's assignment -/
theorem pair_assign {g : Heap} {mC : Str → Option Value} {news : List (Addr × Obj)} {a b : Str} {pa pb tp : Pos} {kk : Nat} {tv : List Value} {told : Told} {i : Nat} {v : Value} {Q : Unit → Shared → Prop} (hh : A.handled = none)
    (PT : PairsAt news tv told) (hn : ∀ q ∈ news, s.heap.get? q.1 = some q.2) (hv : tv[i]? = some v) (hab : ¬ a = b) (hN : ∀ q ∈ news, q.1 ≠ env.locals)
    (ha : env.kindOf a = some .local) (hb : env.kindOf b = some .local) (hp : (env.scope.kind == .class || (env.scope.kind == .module && env.locals != env.globals)) = false) (hns : s.heap.Ns env.locals mC) (hg : ∀ b o, g.get? b = some o → s.heap.get? b = some o) (hgL : g.get? env.locals = none)
    (h : ∀ p h' tk, told[i]? = some p → HCp g news env.locals a b p h' → (∃ m', h'.Ns env.locals m') → (∀ c o, c ≠ env.locals → s.heap.get? c = some o → h'.get? c = some o) → Q () { s with heap := h', toks := tk }) :
    wpAny (model PR w) A (assign (.Tuple [.Name a pa, .Name b pb] kk tp) env v) Q E s := by
  obtain ⟨p, T, ea, ev, t, h1, rfl, h3, h4, h5⟩ := PT.2 s.heap hn i v hv
  refine kcp_assign hh h3 ha hb hp hns fun h' tk e1 e2 => ?_
  have hn' : ∀ q ∈ news, h'.get? q.1 = some q.2 := fun q hq => e2 _ _ (hN q hq) (hn q hq)
  obtain ⟨p', T', ea', ev', t', k1, k2, k3, k4, k5⟩ := PT.2 h' hn' i _ hv
  cases k2
  rw [h1] at k1; cases k1
  have e3 : ea' = ea ∧ t' = t := by
    obtain ⟨o, x1, _, n, x2⟩ := h3
    obtain ⟨o', y1, _, n', y2⟩ := k3
    have hTL : T ≠ env.locals := fun e => by
      obtain ⟨oo, es, ep, z1, z2, _⟩ := hns
      rw [e, z1] at x1; cases x1
      rw [z2] at x2; cases x2
    have := e2 T o hTL x1
    rw [y1] at this; cases this
    rw [x2] at y2
    simp at y2
    exact ⟨y2.1.1.symm, y2.1.2.symm⟩
  obtain ⟨rfl, rfl⟩ := e3
  exact h p h' tk h1 ⟨fun b o e => e2 b o (fun q => by rw [q, hgL] at e; cases e) (hg b o e), hn', _, ea', ev', t', e1, by simp [hab], by simp, k4, k5⟩ ⟨_, e1⟩ e2

theorem fresh_none {h : Heap} {a : Addr} (ha : h.objs.size ≤ a) : h.get? a = none := by
  cases e : h.get? a with
  | none => rfl
  | some o' => exact absurd (Heap.lt_size e) (Nat.not_lt.mpr ha)
inductive LpAsk (w : World) (A : Around) (env : Env) (scope : Scope) (cl : List (Str × Addr)) (n1 n2 : Str) (elt : PySem.Expr) (R : Value → Shared → Prop) (xv : Value) (s₁ : Shared) : Prop
  | mk (g : Heap) (L : Addr) (m : Str → Option Value) (news : List (Addr × Obj)) (l : Addr) (tv : List Value) (c : Nat) (told : Told) (f : List Int × Int → Int) (F : Fr g L s₁.heap m) (N : News g L s₁.heap news) (hx : xv = .ref l) (hm : (l, lobj tv c) ∈ news) (PT : PairsAt news tv told) (hl : tv.length ≤ 1000)
    (he : ∀ C p, p ∈ told → Ev w A (compEnvC scope cl C env) (HCp g news C n1 n2 p) elt (isI (f p)))
    (hR : ∀ D ys h' tk c, Fr g L h' m → News g L h' ((D, lobj ys c) :: news) → LCg.Off1 D news → IntsAre ys (told.map f) → R (.ref D) { s₁ with heap := h', toks := tk }) : LpAsk w A env scope cl n1 n2 elt R xv s₁
inductive LpI (s₁ : Shared) (I D C l : Addr) (tv : List Value) (told : Told) (f : List Int × Int → Int) (k : Nat) (s' : Shared) : Prop
  | mk (h' : Heap) (tk i : Nat) (m' : Str → Option Value) (acc : List Value) (c' : Nat) (e1 : s' = { s₁ with heap := h', toks := tk }) (hi : i ≤ tv.length) (e2 : k = tv.length + 1 - i) (hst : h'.IsListIter I l i ∧ h'.IsList l tv.toArray) (hn : h'.Ns C m') (hD : h'.get? D = some (lobj acc c'))
    (hI : IntsAre acc ((told.take i).map f)) (hk : ∀ b o, b ≠ C → b ≠ I → b ≠ D → s₁.heap.get? b = some o → h'.get? b = some o) : LpI s₁ I D C l tv told f k s'
inductive DpI (w : World) (s₁ : Shared) (I D C l : Addr) (tv : List Value) (told : Told) (kf : List Int × Int → Int) (F' : Int → Int) (k : Nat) (s' : Shared) : Prop
  | mk (h' : Heap) (tk i : Nat) (m' : Str → Option Value) (kvs : List (Int × Value)) (e1 : s' = { s₁ with heap := h', toks := tk }) (hi : i ≤ tv.length) (e2 : k = tv.length + 1 - i) (hst : h'.IsListIter I l i ∧ h'.IsList l tv.toArray) (hn : h'.Ns C m') (hD : h'.DictOf (intKind PR w) D kvs) (hl : kvs.length ≤ i)
    (hv : ∀ k ∈ (told.take i).map kf, ∃ t, valueAt kvs k = some (.int (F' k) t)) (hk : ∀ b o, b ≠ C → b ≠ I → b ≠ D → s₁.heap.get? b = some o → h'.get? b = some o) : DpI w s₁ I D C l tv told kf F' k s'
theorem lp_eval {elt iter : PySem.Expr} {n1 n2 : Str} {p1 p2 tp : Pos} {kt : Nat} {scope : Scope} {cl : List (Str × Addr)} {pos : Pos} {Q : Value → Shared → Prop} (hh : A.handled = none)
    (hclos : closureFor scope env = pure cl) (hcell : ∀ y ∈ scope.names, y.2 ≠ .cell) (hkind : scope.kind = .function)
    (hnames : ∀ y ∈ scope.names, y.2 = .local → scope.names.lookup y.1 = some .local) (hx1 : scope.names.lookup n1 = some .local) (hx2 : scope.names.lookup n2 = some .local) (hab : ¬ n1 = n2)
    (h : wpAny (model PR w) A (eval iter env) (LpAsk w A env scope cl n1 n2 elt Q) E s)
    (hs : ∀ x, foldedSetIterable iter env x = pure x := by intro _; rfl) :
    wpAny (model PR w) A (eval (.ListComp elt [⟨.Tuple [.Name n1 p1, .Name n2 p2] kt tp, iter, [], 0⟩] scope pos) env) Q E s := by
  rw [eval_ListComp]
  refine wpAny_comprehension_free (use := none) rfl hs hclos hkind hnames (wpAny_mono h (fun xv s₁ h₁ => ?_) fun _ _ e => e)
  obtain ⟨g, L, m, news, l, tv, c, told, f, F, N, rfl, hm, PT, hlen, he, hR⟩ := h₁
  have hl : s₁.heap.IsList l tv.toArray := ⟨_, (N _ hm).1, rfl, _, rfl⟩
  have hlt : l < s₁.heap.objs.size := Heap.lt_size (N _ hm).1
  refine wpAny_pyIter_list hl ?_
  refine wpAny_newObj_type (wpAny_newFunctionEnv hcell (by intro y hy; simp at hy) (fun h₁ hns₁ hsb₁ => ?_) hkind)
  dsimp only at hns₁ hsb₁ ⊢
  generalize hH1 : s₁.heap.push _ = H1 at hns₁ hsb₁ ⊢
  generalize hH2 : H1.push _ = H2 at hns₁ hsb₁ ⊢
  have z1 : H1.objs.size = s₁.heap.objs.size + 1 := by rw [← hH1, Heap.size_push]
  have z2 : H2.objs.size = s₁.heap.objs.size + 2 := by rw [← hH2, Heap.size_push, z1]
  generalize hIi : s₁.heap.objs.size = I at hlt z1 z2 ⊢
  generalize hDd : H1.objs.size = D at z1 ⊢
  generalize hCc : H2.objs.size = C at z2 hns₁ hsb₁ ⊢
  have W := Walks.list (prog := PR) (w := w) (A := A) hh I l (Nat.ne_of_lt hlt) tv.toArray
  have nI := fresh_none (h := s₁.heap) (a := I) (by lia)
  have nD := fresh_none (h := s₁.heap) (a := D) (by lia)
  have nC := fresh_none (h := s₁.heap) (a := C) (by lia)
  obtain ⟨i1, i2, i3⟩ := new_of F N nI
  obtain ⟨d1, d2, d3⟩ := new_of F N nD
  obtain ⟨c1, c2, c3⟩ := new_of F N nC
  have up1 : ∀ b o, s₁.heap.get? b = some o → H2.get? b = some o := fun b o e => by rw [← hH2, ← hH1]; exact Heap.get?_push_of_some _ (Heap.get?_push_of_some _ e)
  have old : ∀ b o, s₁.heap.get? b = some o → h₁.get? b = some o := fun b o e => hsb₁.extBut b o (fun q => by rw [q, nC] at e; cases e) (Heap.get?_push_of_some _ (up1 b o e))
  have hI₀ : H2.get? I = some { cls := .type "list_iterator", data := .fields #[.ref l, .int 0 0] } := by rw [← hH2, ← hH1, ← hIi]; exact Heap.get?_push_of_some _ (Heap.get?_push_size _ rfl)
  have hI₁ : h₁.IsListIter I l 0 := ⟨_, hsb₁.extBut _ _ (show I ≠ C by lia) (Heap.get?_push_of_some _ hI₀), rfl, rfl⟩
  have hD₀ : H2.get? D = some (lobj [] 0) := by rw [← hH2, ← hDd]; exact Heap.get?_push_size _ rfl
  have hacc : h₁.get? D = some (lobj [] 0) := hsb₁.extBut _ _ (show D ≠ C by lia) (Heap.get?_push_of_some _ hD₀)
  have hID : I ≠ D := by lia
  have hIC : I ≠ C := by lia
  have hDC : D ≠ C := by lia
  have hlI : l ≠ I := Nat.ne_of_lt hlt
  have hlD : l ≠ D := Nat.ne_of_lt (Nat.lt_trans hlt (show I < D by lia))
  have hlC : l ≠ C := Nat.ne_of_lt (Nat.lt_trans hlt (show I < C by lia))
  have loop : ∀ tk, codeAny (model PR w) A (.compLoop (.ListComp elt [⟨.Tuple [.Name n1 p1, .Name n2 p2] kt tp, iter, [], 0⟩] scope pos) 0 (.ref I) (.ref D) (compEnvC scope cl C env)) (compPost (model PR w) A E none Q (.ref D) C) { s₁ with heap := h₁, toks := tk } := by
    intro tk₀
    refine kcp_loop (LpI s₁ I D C l tv told f) ?_ (tv.length + 1)
      ⟨h₁, tk₀, 0, _, [], 0, rfl, Nat.zero_le _, rfl, ⟨hI₁, (by obtain ⟨o, x, y⟩ := hl; exact ⟨o, old _ _ x, y⟩)⟩, hns₁, hacc, .nil, fun b o _ _ _ e => old b o e⟩
    rintro k s' ⟨H, tk, i, m', acc, c', rfl, hi, rfl, hst', hn', hacc', hI', hk⟩
    by_cases hlt : i < tv.length
    · refine W.item i _ _ _ (by simpa using hlt) hst' fun v h₃ tk₃ hPv hst₃ hk₃ => ?_
      have hPv' : tv[i]? = some v := by simpa using hPv
      obtain ⟨p₀, T₀, _, _, _, _, hT₀, _⟩ := PT.2 s₁.heap (fun q hq => (N q hq).1) i v hPv'
      subst hT₀
      refine wpAny_letOwnedTupleGo_listiter hst₃.1 ?_
      have up₃ : ∀ b o, b ≠ C → b ≠ I → b ≠ D → s₁.heap.get? b = some o → h₃.get? b = some o := fun b o q1 q2 q3 e => hk₃ b o (by simpa using q2) (hk b o q1 q2 q3 e)
      refine pair_assign (g := g) (mC := m') hh PT (fun q hq => up₃ _ _ (c3 q hq) (i3 q hq) (d3 q hq) (N q hq).1) hPv' hab c3 (lookup_relabel_local hx1) (lookup_relabel_local hx2) (by simp [compEnvC, relabel, hkind]) (hn'.at' fun o e => hk₃ _ o (by simpa [compEnvC] using Ne.symm hIC) e)
        (fun b o e => up₃ b o (fun q => by rw [q, c2] at e; cases e) (fun q => by rw [q, i2] at e; cases e) (fun q => by rw [q, d2] at e; cases e) (F.keep b o e)) c2 fun p h₄ tk₄ hp hH ⟨m₄, hn₄⟩ hk₄ => ?_
      refine he C p (List.mem_of_getElem? hp) _ _ _ hH fun y tk₅ hy => ?_
      obtain ⟨t, rfl⟩ := hy
      have hD₄ : h₄.get? D = some (lobj acc c') := hk₄ D _ hDC (hk₃ _ _ (by simpa using Ne.symm hID) hacc')
      have hle : acc.length ≤ 1000 := by
        have e1 := hI'.length
        rw [List.length_map, List.length_take] at e1
        have := PT.1
        lia
      refine PyProof.Rows.append_at (hsz := by rw [List.size_toArray, sizeLine_eq]; lia) hD₄ fun h₅ hs₅ hD₅ => ?_
      refine ⟨tv.length + 1 - (i + 1), by lia, h₅, tk₅, i + 1, m₄, acc ++ [.int (f p) t], c' + 1, rfl, hlt, rfl, W.frame _ _ _ hst₃ (fun b hb o e => ?_), hn₄.sameBut hs₅ (Ne.symm hDC), ?_, ?_, fun b o q1 q2 q3 e => hs₅.extBut b o q3 (hk₄ b o q1 (up₃ b o q1 q2 q3 e))⟩
      · have hb' : b = I ∨ b = l := by simpa using hb
        rcases hb' with rfl | rfl
        · exact hs₅.extBut _ o hID (hk₄ _ o hIC e)
        · exact hs₅.extBut _ o hlD (hk₄ _ o hlC e)
      · rw [hD₅]; simp [lobj]
      · rw [List.take_add_one, hp, List.map_append]
        exact hI'.append (.cons _ t .nil)
    · have hin : i = tv.length := by lia
      subst hin
      refine W.done _ _ _ (by simpa using hst') fun h₃ tk₃ hk₃ => ?_
      refine ⟨m', hn'.at' fun o e => hk₃ _ o (by simpa using Ne.symm hIC) e, fun h'' hs'' => ?_⟩
      rw [PT.1, List.take_length] at hI'
      have up : ∀ b o, b ≠ C → b ≠ I → b ≠ D → s₁.heap.get? b = some o → h''.get? b = some o := fun b o q1 q2 q3 e => hs''.extBut b o q1 (hk₃ b o (by simpa using q2) (hk b o q1 q2 q3 e))
      refine hR D acc h'' tk₃ c' ⟨F.ns.at' fun o e => up _ o (Ne.symm c1) (Ne.symm i1) (Ne.symm d1) e, fun b o e => up b o (fun q => by rw [q, c2] at e; cases e) (fun q => by rw [q, i2] at e; cases e) (fun q => by rw [q, d2] at e; cases e) (F.keep b o e), F.above⟩ (fun q hq => ?_) (off1 d3) hI'
      rcases List.mem_cons.mp hq with rfl | hq
      · exact ⟨hs''.extBut _ _ hDC (hk₃ _ _ (by simpa using Ne.symm hID) hacc'), d1, d2⟩
      · exact ⟨up _ _ (c3 q hq) (i3 q hq) (d3 q hq) (N q hq).1, (N q hq).2⟩
  exact codeAny_compStart_list (loop _) (W.self 0 _ _ _ ⟨hI₁, (by obtain ⟨o, x, y⟩ := hl; exact ⟨o, old _ _ x, y⟩)⟩ (loop _))
theorem dp_loop {kx vx target iter : PySem.Expr} {scope : Scope} {pos : Pos} {it : Value} {D : Addr} {env : Env} (I : Nat → Shared → Prop)
    (turn : ∀ n s, I n s → wpAny (model PR w) A (pyNext it) (fun r s₁ => match r with
      | none => R (.ok .next) s₁
      | some v => wpAny (model PR w) A (letOwnedTupleGo target it v) (fun _ s₀ => wpAny (model PR w) A (assign target env v) (fun _ s₂ =>
          wpAny (model PR w) A (eval kx env) (fun kv s₄ => wpAny (model PR w) A (eval vx env) (fun vv s₅ =>
              wpAny (model PR w) A (dictSet D kv vv) (fun _ s₆ => ∃ m, m < n ∧ I m s₆) noE s₅) noE s₄) noE s₂) noE s₀) noE s₁) noE s)
    (n : Nat) (h : I n s) :
    codeAny (model PR w) A (.compLoop (.DictComp kx vx [⟨target, iter, [], 0⟩] scope pos) 0 it (.ref D) env) R s := by
  refine codeAny_loop rfl I (fun n s hI => ?_) n h
  show wpAny _ A ((compTurn (.DictComp kx vx [⟨target, iter, [], 0⟩] scope pos) 0 it (.ref D) env).onRaise (fun x => do noteFrame x env; theTreesLotGoes x)) _ _ s
  refine wpAny_noted ?_
  rw [compTurn_dict]
  refine wpAny_bind (wpAny_standAt (wpAny_bind (wpAny_mono (turn n s hI) (fun r s₁ h₁ => ?_) fun _ _ h' => h'.elim)))
  cases r with
  | none => exact wpAny_pure h₁
  | some v =>
    refine wpAny_bind (wpAny_mono h₁ (fun _ s₀ h₀' => ?_) fun _ _ h' => h'.elim)
    refine wpAny_bind (wpAny_mono h₀' (fun _ s₂ h₂ => ?_) fun _ _ h' => h'.elim)
    refine wpAny_bind (wpAny_tests_nil ?_)
    exact wpAny_bind (wpAny_bind (wpAny_mono h₂ (fun kv s₄ h₄ => wpAny_bind (wpAny_holding (wpAny_mono h₄ (fun vv s₅ h₅ => wpAny_bind (wpAny_standAt (wpAny_holding (wpAny_mono h₅ (fun _ s₆ h₆ => wpAny_pure ⟨rfl, h₆⟩) fun _ _ h' => h'.elim)))) fun _ _ h' => h'.elim))) fun _ _ h' => h'.elim))
inductive DpAsk (w : World) (A : Around) (env : Env) (scope : Scope) (cl : List (Str × Addr)) (n1 n2 : Str) (kx vx : PySem.Expr) (R : Heap → Addr → (Str → Option Value) → List (Addr × Obj) → Addr → Obj → Heap → Nat → Shared → Prop) (xv : Value) (s₁ : Shared) : Prop
  | mk (g : Heap) (L : Addr) (m : Str → Option Value) (news : List (Addr × Obj)) (l : Addr) (tv : List Value) (c : Nat) (told : Told) (kf vf : List Int × Int → Int) (F' : Int → Int) (F : Fr g L s₁.heap m) (N : News g L s₁.heap news) (hx : xv = .ref l) (hm : (l, lobj tv c) ∈ news) (PT : PairsAt news tv told) (hl : tv.length ≤ 1000) (hf : ∀ p ∈ told, F' (kf p) = vf p)
    (hk : ∀ C p, p ∈ told → Ev w A (compEnvC scope cl C env) (HCp g news C n1 n2 p) kx (isI (kf p)))
    (hv : ∀ C p, p ∈ told → Ev w A (compEnvC scope cl C env) (HCp g news C n1 n2 p) vx (isI (vf p)))
    (hR : ∀ D o h' tk, News g L h' ((D, o) :: news) → LCg.Off1 D news → DIs w o (told.map kf) F' told.length → R g L m news D o h' tk s₁) : DpAsk w A env scope cl n1 n2 kx vx R xv s₁
theorem dp_block {kx vx iter : PySem.Expr} {n1 n2 : Str} {p1 p2 tp : Pos} {kt : Nat} {scope : Scope} {cl : List (Str × Addr)} {pos : Pos} {s₁ : Shared} {RR : Value → Addr → Result → Shared → Prop} {g : Heap} {L : Addr} {m : Str → Option Value} {news : List (Addr × Obj)} {l : Addr} {tv : List Value} {c : Nat} {told : Told} {kf vf : List Int × Int → Int} {F' : Int → Int} (hh : A.handled = none)
    (hcell : ∀ y ∈ scope.names, y.2 ≠ .cell) (hkind : scope.kind = .function) (hx1 : scope.names.lookup n1 = some .local) (hx2 : scope.names.lookup n2 = some .local) (hab : ¬ n1 = n2)
    (F : Fr g L s₁.heap m) (N : News g L s₁.heap news) (hm : (l, lobj tv c) ∈ news) (PT : PairsAt news tv told) (hlen : tv.length ≤ 1000) (hfk : ∀ p ∈ told, F' (kf p) = vf p)
    (hek : ∀ C p, p ∈ told → Ev w A (compEnvC scope cl C env) (HCp g news C n1 n2 p) kx (isI (kf p))) (hev : ∀ C p, p ∈ told → Ev w A (compEnvC scope cl C env) (HCp g news C n1 n2 p) vx (isI (vf p)))
    (hRR : ∀ D C o h' tk m', Fr g L h' m → News g L h' ((D, o) :: news) → LCg.Off1 D news → DIs w o (told.map kf) F' told.length → h'.Ns C m' → C ≠ L → g.get? C = none → D ≠ C → (∀ q ∈ news, q.1 ≠ C) → RR (.ref D) C (.ok .next) { s₁ with heap := h', toks := tk }) :
    wpAny (model PR w) A (pyIter (.ref l)) (fun it s₂ => wpAny (model PR w) A newDict (fun acc s₃ => wpAny (model PR w) A (newFunctionEnv scope env.globals cl [] env.qual none .none (some env)) (fun cenv s₄ =>
      codeAny (model PR w) A (.compStart (.DictComp kx vx [⟨.Tuple [.Name n1 p1, .Name n2 p2] kt tp, iter, [], 0⟩] scope pos) 0 it acc { cenv with scope := relabel scope env }) (RR acc cenv.locals) s₄) E s₃) E s₂) E s₁ := by
  have hl : s₁.heap.IsList l tv.toArray := ⟨_, (N _ hm).1, rfl, _, rfl⟩
  have hlt : l < s₁.heap.objs.size := Heap.lt_size (N _ hm).1
  refine wpAny_pyIter_list hl ?_
  refine wpAny_newObj_type (wpAny_newFunctionEnv hcell (by intro y hy; simp at hy) (fun h₁ hns₁ hsb₁ => ?_) hkind)
  dsimp only at hns₁ hsb₁ ⊢
  generalize hH1 : s₁.heap.push _ = H1 at hns₁ hsb₁ ⊢
  generalize hH2 : H1.push _ = H2 at hns₁ hsb₁ ⊢
  have z1 : H1.objs.size = s₁.heap.objs.size + 1 := by rw [← hH1, Heap.size_push]
  have z2 : H2.objs.size = s₁.heap.objs.size + 2 := by rw [← hH2, Heap.size_push, z1]
  generalize hIi : s₁.heap.objs.size = I at hlt z1 z2 ⊢
  generalize hDd : H1.objs.size = D at z1 ⊢
  generalize hCc : H2.objs.size = C at z2 hns₁ hsb₁ ⊢
  have W := Walks.list (prog := PR) (w := w) (A := A) hh I l (Nat.ne_of_lt hlt) tv.toArray
  have nI := fresh_none (h := s₁.heap) (a := I) (by lia)
  have nD := fresh_none (h := s₁.heap) (a := D) (by lia)
  have nC := fresh_none (h := s₁.heap) (a := C) (by lia)
  obtain ⟨i1, i2, i3⟩ := new_of F N nI
  obtain ⟨d1, d2, d3⟩ := new_of F N nD
  obtain ⟨c1, c2, c3⟩ := new_of F N nC
  have up1 : ∀ b o, s₁.heap.get? b = some o → H2.get? b = some o := fun b o e => by rw [← hH2, ← hH1]; exact Heap.get?_push_of_some _ (Heap.get?_push_of_some _ e)
  have old : ∀ b o, s₁.heap.get? b = some o → h₁.get? b = some o := fun b o e => hsb₁.extBut b o (fun q => by rw [q, nC] at e; cases e) (Heap.get?_push_of_some _ (up1 b o e))
  have hI₀ : H2.get? I = some { cls := .type "list_iterator", data := .fields #[.ref l, .int 0 0] } := by rw [← hH2, ← hH1, ← hIi]; exact Heap.get?_push_of_some _ (Heap.get?_push_size _ rfl)
  have hI₁ : h₁.IsListIter I l 0 := ⟨_, hsb₁.extBut _ _ (show I ≠ C by lia) (Heap.get?_push_of_some _ hI₀), rfl, rfl⟩
  have hD₀ : H2.DictOf (intKind PR w) D [] := by rw [← hH2, ← hDd]; exact Heap.DictOf.new H1
  have hacc : h₁.DictOf (intKind PR w) D [] := hD₀.at fun o e => hsb₁.extBut _ _ (show D ≠ C by lia) (Heap.get?_push_of_some _ e)
  have hID : I ≠ D := by lia
  have hIC : I ≠ C := by lia
  have hDC : D ≠ C := by lia
  have hlI : l ≠ I := Nat.ne_of_lt hlt
  have hlD : l ≠ D := Nat.ne_of_lt (Nat.lt_trans hlt (show I < D by lia))
  have hlC : l ≠ C := Nat.ne_of_lt (Nat.lt_trans hlt (show I < C by lia))
  have loop : ∀ tk, codeAny (model PR w) A (.compLoop (.DictComp kx vx [⟨.Tuple [.Name n1 p1, .Name n2 p2] kt tp, iter, [], 0⟩] scope pos) 0 (.ref I) (.ref D) (compEnvC scope cl C env)) (RR (.ref D) C) { s₁ with heap := h₁, toks := tk } := by
    intro tk₀
    refine dp_loop (DpI w s₁ I D C l tv told kf F') ?_ (tv.length + 1)
      ⟨h₁, tk₀, 0, _, [], rfl, Nat.zero_le _, rfl, ⟨hI₁, (by obtain ⟨o, x, y⟩ := hl; exact ⟨o, old _ _ x, y⟩)⟩, hns₁, hacc, Nat.le_refl _, fun k hk => (by simp at hk), fun b o _ _ _ e => old b o e⟩
    rintro k s' ⟨H, tk, i, m', kvs, rfl, hi, rfl, hst', hn', hacc', hkl, hI', hk⟩
    by_cases hlt : i < tv.length
    · refine W.item i _ _ _ (by simpa using hlt) hst' fun v h₃ tk₃ hPv hst₃ hk₃ => ?_
      have hPv' : tv[i]? = some v := by simpa using hPv
      obtain ⟨p₀, T₀, _, _, _, _, hT₀, _⟩ := PT.2 s₁.heap (fun q hq => (N q hq).1) i v hPv'
      subst hT₀
      refine wpAny_letOwnedTupleGo_listiter hst₃.1 ?_
      have up₃ : ∀ b o, b ≠ C → b ≠ I → b ≠ D → s₁.heap.get? b = some o → h₃.get? b = some o := fun b o q1 q2 q3 e => hk₃ b o (by simpa using q2) (hk b o q1 q2 q3 e)
      refine pair_assign (g := g) (mC := m') hh PT (fun q hq => up₃ _ _ (c3 q hq) (i3 q hq) (d3 q hq) (N q hq).1) hPv' hab c3 (lookup_relabel_local hx1) (lookup_relabel_local hx2) (by simp [compEnvC, relabel, hkind]) (hn'.at' fun o e => hk₃ _ o (by simpa [compEnvC] using Ne.symm hIC) e)
        (fun b o e => up₃ b o (fun q => by rw [q, c2] at e; cases e) (fun q => by rw [q, i2] at e; cases e) (fun q => by rw [q, d2] at e; cases e) (F.keep b o e)) c2 fun p h₄ tk₄ hp hH ⟨m₄, hn₄⟩ hk₄ => ?_
      have hpm := List.mem_of_getElem? hp
      refine hek C p hpm _ _ _ hH fun ky tk₅ hy => ?_
      obtain ⟨t, rfl⟩ := hy
      refine hev C p hpm _ _ _ hH fun vy tk₆ hy => ?_
      obtain ⟨u, rfl⟩ := hy
      have hD₄ : h₄.DictOf (intKind PR w) D kvs := hacc'.at fun o e => hk₄ D _ hDC (hk₃ _ _ (by simpa using Ne.symm hID) e)
      refine wpAny_dictSet_pairs (hsz := by rw [sizeLine_eq]; lia) (k := kf p) (isInt_is (kf p) t) hD₄ fun h₅ hD₅ hs₅ => ?_
      refine ⟨tv.length + 1 - (i + 1), by lia, h₅, _, i + 1, m₄, _, rfl, hlt, rfl, W.frame _ _ _ hst₃ (fun b hb o e => ?_), hn₄.sameBut hs₅ (Ne.symm hDC), hD₅, ?_, ?_, fun b o q1 q2 q3 e => hs₅.extBut b o q3 (hk₄ b o q1 (up₃ b o q1 q2 q3 e))⟩
      · have hb' : b = I ∨ b = l := by simpa using hb
        rcases hb' with rfl | rfl
        · exact hs₅.extBut _ o hID (hk₄ _ o hIC e)
        · exact hs₅.extBut _ o hlD (hk₄ _ o hlC e)
      · exact Nat.le_trans (stored_length_le _ _ _) (by lia)
      · intro k hkm
        rw [List.take_add_one, hp, List.map_append] at hkm
        rw [valueAt_stored]
        by_cases ek : k = kf p
        · rw [if_pos ek, ek, hfk p hpm]; exact ⟨u, rfl⟩
        · rw [if_neg ek]
          rcases List.mem_append.mp hkm with hkm | hkm
          · exact hI' k hkm
          · exact absurd (by simpa using hkm) ek
    · have hin : i = tv.length := by lia
      subst hin
      refine W.done _ _ _ (by simpa using hst') fun h₃ tk₃ hk₃ => ?_
      rw [PT.1, List.take_length] at hI'
      have up : ∀ b o, b ≠ C → b ≠ I → b ≠ D → s₁.heap.get? b = some o → h₃.get? b = some o := fun b o q1 q2 q3 e => hk₃ b o (by simpa using q2) (hk b o q1 q2 q3 e)
      obtain ⟨oD, hoD, hdD⟩ := Heap.dictOf_iff.mp hacc'
      refine hRR D C oD h₃ tk₃ m' ⟨F.ns.at' fun o e => up _ o (Ne.symm c1) (Ne.symm i1) (Ne.symm d1) e, fun b o e => up b o (fun q => by rw [q, c2] at e; cases e) (fun q => by rw [q, i2] at e; cases e) (fun q => by rw [q, d2] at e; cases e) (F.keep b o e), F.above⟩ (fun q hq => ?_) (off1 d3) ⟨kvs, hdD, by rw [← PT.1]; exact hkl, hI'⟩ (hn'.at' fun o e => hk₃ _ o (by simpa using Ne.symm hIC) e) c1 c2 hDC c3
      rcases List.mem_cons.mp hq with rfl | hq
      · exact ⟨hk₃ _ _ (by simpa using Ne.symm hID) hoD, d1, d2⟩
      · exact ⟨up _ _ (c3 q hq) (i3 q hq) (d3 q hq) (N q hq).1, (N q hq).2⟩
  exact codeAny_compStart_dict (loop _) (W.self 0 _ _ _ ⟨hI₁, (by obtain ⟨o, x, y⟩ := hl; exact ⟨o, old _ _ x, y⟩)⟩ (loop _))
theorem dp_assign {kx vx iter : PySem.Expr} {n1 n2 y : Str} {p1 p2 tp py : Pos} {kt : Nat} {scope : Scope} {cl : List (Str × Addr)} {pos spos : Pos} {Q : Flow → Shared → Prop} (hh : A.handled = none)
    (hsw : swapsWith (.DictComp kx vx [⟨.Tuple [.Name n1 p1, .Name n2 p2] kt tp, iter, [], 0⟩] scope pos) (some (.Name y py)) spos.line env = pure true)
    (hclos : closureFor scope env = pure cl) (hcell : ∀ y ∈ scope.names, y.2 ≠ .cell) (hkind : scope.kind = .function)
    (hnames : ∀ y ∈ scope.names, y.2 = .local → scope.names.lookup y.1 = some .local) (hx1 : scope.names.lookup n1 = some .local) (hx2 : scope.names.lookup n2 = some .local) (hab : ¬ n1 = n2)
    (hy : env.kindOf y = some .local) (hp : (env.scope.kind == .class || (env.scope.kind == .module && env.locals != env.globals)) = false)
    (h : wpAny (model PR w) A (eval iter env) (DpAsk w A env scope cl n1 n2 kx vx (fun g L m news D o h' tk s₁ => L = env.locals ∧ (Fr g L h' (fun z => if z = y then some (.ref D) else m z) → Q .next { s₁ with heap := h', toks := tk }))) E s)
    (hs : ∀ x, foldedSetIterable iter env x = pure x := by intro _; rfl) :
    wpAny (model PR w) A (exec (.Assign [.Name y py] (.DictComp kx vx [⟨.Tuple [.Name n1 p1, .Name n2 p2] kt tp, iter, [], 0⟩] scope pos) spos) env) Q E s := by
  rw [exec_Assign_Name_used _ _ _ _ hsw]
  refine wpAny_bind (wpAny_standAt (wpAny_bind ?_))
  show wpAny _ A (do let _ ← comprehension (.DictComp kx vx [⟨.Tuple [.Name n1 p1, .Name n2 p2] kt tp, iter, [], 0⟩] scope pos) scope env _ newDict false (eval iter env) (some (assign (.Name y py) env))) _ _ s
  refine wpAny_bind (wpAny_mono (wpAny_comprehension_free (use := some (assign (.Name y py) env)) (Q := fun _ s' => Q .next s') rfl hs hclos hkind hnames
    (wpAny_mono h (fun xv s₁ h₁ => ?_) fun _ _ e => e)) (fun _ s' hq => wpAny_pure (wpAny_pure hq)) fun _ _ e => e)
  obtain ⟨g, L, m, news, l, tv, c, told, kf, vf, F', F, N, rfl, hm, PT, hlen, hfk, hek, hev, hR⟩ := h₁
  refine dp_block (RR := fun acc C => compPost (model PR w) A E (some (assign (.Name y py) env)) (fun _ s' => Q .next s') acc C) hh hcell hkind hx1 hx2 hab F N hm PT hlen hfk hek hev fun D C o h' tk m' F₂ N₂ off hd hn c1 c2 hDC c3 => ?_
  obtain ⟨hL, _⟩ := hR D o h' tk N₂ off hd
  subst hL
  show wpAny _ A (assign (.Name y py) env (.ref D)) _ _ _
  refine wpAny_assign_Name (wpAny_storeName_local hy F₂.ns (fun h₃ hn₃ hs₃ => ?_) hp)
  refine ⟨m', hn.sameBut hs₃ c1, fun h'' hs'' => ?_⟩
  have hL₀ : g.get? env.locals = none := Heap.get?_none_of_le F₂.above
  have F₃ : Fr g env.locals h₃ (fun z => if z = y then some (.ref D) else m z) := ⟨hn₃, fun b o e => hs₃.extBut b o (fun q => by rw [q, hL₀] at e; cases e) (F₂.keep b o e), F₂.above⟩
  have d1 := (N₂ _ List.mem_cons_self).2.1
  refine (hR D o h'' _ (fun q hq => ?_) off hd).2 (F₃.change hs'' c1 c2)
  have hqC : q.1 ≠ C := by
    rcases List.mem_cons.mp hq with rfl | hq
    · exact hDC
    · exact c3 q hq
  exact ⟨hs''.extBut _ _ hqC (hs₃.extBut _ _ (N₂ q hq).2.1 (N₂ q hq).1), (N₂ q hq).2⟩
end
end Mine
end
section
open PySem PySem.W PyProof.Rows PySem.Calls PySem.Spec
namespace Mine
theorem told_shape : ∀ l : Told, PyData.canLayAll0 (toldD l) = true ∧ PyData.depthAll (toldD l) ≤ 10
  | [] => ⟨rfl, by show (0 : Nat) ≤ 10; decide⟩
  | p :: r => by
    obtain ⟨h1, h2⟩ := told_shape r
    have e : toldD (p :: r) = .tuple [.list (p.1.map .int), .int p.2] :: toldD r := rfl
    rw [e]
    simp only [PyData.canLayAll0, PyData.canLay0, PyData.depthAll, PyData.depth, ke_canLayAll0, ke_depthAll, h1]
    refine ⟨by simp, ?_⟩
    lia
theorem told_shaped (l : Told) : SeqAt.shaped (.list (toldD l)) = true := by
  obtain ⟨h1, h2⟩ := told_shape l
  simp only [SeqAt.shaped, PyData.canLay0, PyData.depth, h1, Bool.true_and]
  exact decide_eq_true (by lia)
theorem told_refl (l : Told) : PyData.eqv (.list (toldD l)) (.list (toldD l)) = true := SeqAt.eqv_refl _ (by
  simp only [PyData.canLay0]; exact (told_shape l).1)
section
variable {w : World} {A : Around} {E : Value → Shared → Prop} {s : Shared} {g : Heap} {L : Addr} {news dl dl' : List (Addr × Obj)} {a b : Addr} {tv tv' : List Value} {c c' : Nat} {told : Told} {Q : Value → Shared → Prop}
theorem deep_reads (N : News g L s.heap news) (hm : (a, lobj tv c) ∈ news) (D : Deep dl tv (toldD told)) (hs : ∀ q ∈ dl, q ∈ news) : ∃ as, Reads s.heap (.ref a) (.list (toldD told)) as := by
  obtain ⟨as, r⟩ := D s.heap fun q hq => (N q (hs q hq)).1
  exact ⟨_, .list (N _ hm).1 rfl rfl (by simpa using r)⟩
theorem deep_ne (N : News g L s.heap news) (ha : (a, lobj tv c) ∈ news) (hb : (b, lobj tv' c') ∈ news) (D : Deep dl tv (toldD told)) (D' : Deep dl' tv' (toldD told)) (hs : ∀ q ∈ dl, q ∈ news) (hs' : ∀ q ∈ dl', q ∈ news) (hu : A.units + 64 < cLine) (h : Q (.bool false) s) :
    wpAny (model PR w) A (compareOp .NotEq (.ref a) (.ref b)) Q E s := by
  obtain ⟨as, ra⟩ := deep_reads N ha D hs
  obtain ⟨bs, rb⟩ := deep_reads N hb D' hs'
  refine ne_dataH ra rb (told_shaped _) (told_shaped _) hu ?_
  rw [told_refl]
  exact h
theorem deep_eq (N : News g L s.heap news) (ha : (a, lobj tv c) ∈ news) (hb : (b, lobj tv' c') ∈ news) (D : Deep dl tv (toldD told)) (D' : Deep dl' tv' (toldD told)) (hs : ∀ q ∈ dl, q ∈ news) (hs' : ∀ q ∈ dl', q ∈ news) (hu : A.units + 64 < cLine) (h : Q (.bool true) s) :
    wpAny (model PR w) A (compareOp .Eq (.ref a) (.ref b)) Q E s := by
  obtain ⟨as, ra⟩ := deep_reads N ha D hs
  obtain ⟨bs, rb⟩ := deep_reads N hb D' hs'
  refine eq_dataH ra rb (told_shaped _) (told_shaped _) hu ?_
  rw [told_refl]
  exact h
end
end Mine
end
section
open PySem PySem.W PyProof.Rows PySem.Calls
namespace Mine
local macro_rules | `(tactic| walk_at "pad") => `(tactic| skip)
def own16 : List Int := [2362, 1187, 3123, 8575, 5130, 8131, 18782, 12800, 32000, 21760, 28672, 38656, 37376, 46848, 42240, 48896]
theorem now_mine {w : World} {A : Around} {g h : Heap} {L C : Addr} {news : List (Addr × Obj)} {m₂ : Str → Option Value} {oC : Obj} {scope : Scope} {cl : List (Str × Addr)} {env : Env} {x : Str} {pos : Pos} {v : Value} (N : News g L h news) (hm : (C, oC) ∈ news) (hC : LCg.NsObj oC m₂) (hx : m₂ x = some v)
    (hk : (compEnvC scope cl C env).scope.kind = .function := by rfl) (hl : (compEnvC scope cl C env).kindOf x = some .local := by rfl) (hd : (x == ("__debug__" : Str)) = false := by decide) :
    Ev w A (compEnvC scope cl C env) (· = h) (.Name x pos) (· = v) := ev_own (fun h' e => ⟨m₂, by rw [e]; exact hC.ns (N _ hm).1, hx⟩) hk hl hd
theorem compRest_ind {prog : Program} {w : World} {A : Around} {h₀ : Heap} {L : Addr} {m : Str → Option Value} {env : Env} {elt : PySem.Expr} {x : Str} {scope : Scope} {cl : List (Str × Addr)} {s : Shared} {S : List (Addr × Obj) → Prop} {P : Nat → Value → Prop} {Fin : List Value → List (Addr × Obj) → Prop}
    (n : Nat) (J : Nat → List Value → List (Addr × Obj) → Prop) (h0 : ∀ ys news, J n ys news → Fin ys news)
    (hs : ∀ i ys news, i < n → J i ys news → ∀ v I oI C oC D m₂ h tk (E' : Value → Shared → Prop), P i v → LCg.NsObj oC m₂ → m₂ x = some v → Fr h₀ L h m → News h₀ L h ((I, oI) :: (C, oC) :: (D, LCg.lst ys) :: news) → LCg.Off3 I C D news → ((@Ne Nat I C) ∧ (@Ne Nat I D) ∧ (@Ne Nat C D)) →
      wpAny (model prog w) A (eval elt (compEnvC scope cl C env)) (LCg.CompEnd h₀ L m { s with heap := h, toks := tk } I oI C oC D (LCg.lst ys) S (fun y news' => J (i + 1) (ys ++ [y]) news')) E' { s with heap := h, toks := tk }) :
    ∀ k i ys news, i + k = n → J i ys news → LCg.CompRest prog w A h₀ L m env elt x scope cl s S P Fin k i ys news := by
  intro k
  induction k with
  | zero => intro i ys news e hJ; exact LCg.CompRest.zero (h0 ys news (by rw [Nat.add_zero] at e; exact e ▸ hJ))
  | succ k ih =>
    intro i ys news e hJ
    refine LCg.CompRest.succ fun v I oI C oC D m₂ h tk E' hP hC hx F N off ne => ?_
    refine wpAny_mono (hs i ys news (by lia) hJ v I oI C oC D m₂ h tk E' hP hC hx F N off ne) (fun y s' hy => ?_) fun _ _ z => z
    obtain ⟨h', tk', news', e1, e2, e3, e4, e5, e6⟩ := hy
    exact ⟨h', tk', news', e1, e2, e3, e4, e5, ih (i + 1) (ys ++ [y]) news' (by lia) e6⟩
section
local macro_rules | `(tactic| walk_at "eval ListComp") => `(tactic| (k_here; refine Halt.out ?_))
local macro_rules | `(tactic| walk_at "eval Subscript") => `(tactic| (k_here; (with_reducible show wpAny _ _ (eval (Expr.Subscript (Expr.Name _ _) (Expr.Name _ _) _) _) _ _ _); refine Halt.out ?_))
local macro_rules | `(tactic| walk_at "CompEnd") => `(tactic| (refine Halt.out ?_))
local macro_rules | `(tactic| walk_at "CompSrc") => `(tactic| (k_here; refine Halt.out ?_))
local macro_rules | `(tactic| walk_at "subscriptTail Name Slice ref ref") => `(tactic| (k_here; refine Halt.out ?_))
set_option maxHeartbeats 1000000 in
theorem numbers_c {w : World} {outer : List Env} {gd : Option (List Code)} {s : Shared} {base : Heap} {p : Program} {loose : List Str} {mean : ExcName → Option Value} {mg mb : Str → Option Value}
  {script : Addr} {sv : List Value} {sx : List Int} {R : Result → Shared → Prop}
  (X : Wld w base) (T : Top p loose mean mg mb base) (B : Below (AY 720 7200 outer gd) base outer s.heap)
  (hS : base.IsList script sv.toArray) (hI : IntsAre sv sx) (hl : sx.length ≤ 100)
  (hR : ∀ r nv nx h' tk c, h'.get? r = some (lobj nv c) → IntsAre nv nx → nx.length = 16 → s.heap.get? r = none → Kp (fsOf outer) s.heap h' → R (.ok (.ret (.ref r))) { s with heap := h', toks := tk }) :
  codeAny (model PR w) (AY 720 7200 outer gd) (.call (.ref 109) ⟨[.ref script], []⟩) R s := by
  refine' enterHC X T B [] (fun _ h => nomatch h) ?k6 ?k7 ?k8 ?k9 ?kB ?kD ?_ ?c2 ?c3 ?c4
  case k6 => k_is
  case k7 => k_is
  case k8 => exact (show (720 : Nat) < 1000 by decide)
  case k9 => exact BindsTo.of_eq rfl
  case kB => exact rfl
  case kD => decide +kernel
  case c2 => exact rfl
  case c3 => exact rfl
  case c4 => exact rfl
  intro g L h₁ tk cells hg1 hg2 F N Y B' X' T' l1
  k_whole
  (try k_lt l1)
  have hY := CellsAre.two Y
  obtain ⟨oA, oH, hE', dA, dH⟩ := hY
  subst hE'
  clear Y
  replace dA : oA.data = .cell none := dA
  replace dH : oH.data = .cell none := dH
  have hSg : g.IsList script sv.toArray := by
    obtain ⟨o, e, r⟩ := hS
    exact ⟨o, B'.stays _ _ e, r⟩
  (try simp only [List.cons_append, List.nil_append] at N)
  (try dsimp only)
  w_on
  k_steps
  show wpAny _ _ _ _ _ _
  rename PySem.Obj.data _ = _ => dH'
  rename PySem.Obj => oH'
  rename Addr => OL
  rename Fr _ _ _ _ => F₀
  rename News _ _ _ _ => N₀
  obtain ⟨ownv, hown, N₀'⟩ : ∃ ownv, IntsAre ownv own16 ∧ News g L _ [(OL, lobj ownv 0), (L + 1 + 1, oA), (L + 1, oH')] := by
    refine ⟨_, ?_, N₀⟩
    repeat' constructor
  clear N₀
  refine lc_eval (by with_unfolding_all rfl) (by decide) (by rfl) (by decide) (by rfl) ?_
  try k_fold
  k_steps
  show wpAny _ _ _ _ _ _
  rename Fr _ _ _ _ => F₁
  rename News _ _ _ _ => N₁
  have hSl : ∀ {h : Heap}, (∀ b o, g.get? b = some o → h.get? b = some o) → h.IsList script sv.toArray := fun k => by
    obtain ⟨o, e, r⟩ := hSg
    exact ⟨o, k _ _ e, r⟩
  refine kmk_slice (lo := none) (hi := some (60 : Int)) F₁ N₁ (hSl F₁.keep) .none (.int _ _) (fun D h₂ F₂ N₂ lt₂ => ?_) (by with_unfolding_all rfl) (by intro _; with_unfolding_all rfl) (by rw [List.size_toArray, hI.length]; exact Nat.le_trans hl (by decide))
  clear F₁ N₁
  rw [show (60 : Int) = ((60 : Nat) : Int) from rfl, pick_upto] at N₂
  show LcAsk _ _ _ _ _ _ _ _ _ _ _
  dsimp only
  refine ⟨g, L, _, _, sx.take 60, fun _ => true, fun x => x.fmod 1073741824, F₂, N₂, iterInts_list rfl F₂ N₂ (List.Mem.head _) (hI.take 60), by simp; lia, fun C x v hx ix => evt_nil, fun C x v hx ix _ => ev_mod ((ev_own fun h H => H.2.2).mono fun v' e => e ▸ ix) ev_const (by decide), fun D₃ ys h₃ tk₃ c₃ N₃ off₃ ii₃ F₃ => ?_⟩
  have off₃' := off1_mem off₃
  simp only [LCg.Off1, and_true] at off₃
  clear F₂ N₂
  show wpAny _ _ _ _ _ _
  dsimp only
  try k_fold
  k_steps
  show wpAny _ _ _ _ _ _
  rename Fr _ _ _ _ => F₄
  rename News _ _ _ _ => N₄
  refine LCg.ListComp_U F₄ (by with_unfolding_all rfl) (by decide) (by rfl) (by decide) (by rfl) ?_
  try k_fold
  k_steps
  show LCg.CompSrc _ _ _ _ _ _ _ _ _ _ _ _ _ _
  rename Fr _ _ _ _ => F₅
  rename News _ _ _ _ => N₅
  rename IntsAre ys _ => ii₃
  rename IsRange _ _ _ _ _ _ _ _ => hr₅
  rename PySem.Obj.data _ = _ => dA'
  rename PySem.Obj => oA'
  have mown : News g L _ [(D₃, lobj ys c₃), (OL, lobj ownv 0), (L + 1 + 1, oA'), (L + 1, oH')] := fun q hq => N₅ q (by
    simp only [List.mem_cons, List.not_mem_nil, or_false] at hq
    rcases hq with rfl | rfl | rfl | rfl <;> k_mem)
  clear N₅
  refine LCg.CompSrc.range rfl F₅ mown hr₅ (by decide) (n := 16) (by decide) (by decide) fun g' => ?_
  refine compRest_ind 16 (fun i ys' news' => news' = [(D₃, lobj ys c₃), (OL, lobj ownv 0), (L + 1 + 1, oA'), (L + 1, oH')] ∧ ∃ zs, IntsAre ys' zs ∧ zs.length = i) (fun ys' news' hJ => ?fin) (fun i ys' news' hi hJ v I oI C oC D' m₂ h tk' E' hP hC hx F N off ne => ?turn) 16 0 [] _ rfl ⟨rfl, [], .nil, rfl⟩
  case fin =>
    obtain ⟨e1, zs, hz, hl⟩ := hJ
    unfold LCg.FinE
    intro r h₇ tk₇ F₇ N₇ o₇
    subst e1
    dsimp only
    refine hR r ys' zs h₇ tk₇ _ (N₇ _ (List.Mem.head _)).1 hz hl ?_ ?_
    · cases q : s.heap.get? r with
      | none => rfl
      | some o =>
        have e1 := (N₇ _ (List.Mem.head _)).2.2
        dsimp only at e1
        rw [hg2 r o q (by simp)] at e1
        cases e1
    · exact kp_end (news₀ := []) (fun p hp => nomatch hp) hg2 (KtsTurn.refl (fs := fsOf outer)) F₇ N₇ fun q hq => nomatch hq
  case turn =>
    obtain ⟨e1, zs, hz, hl⟩ := hJ
    subst e1
    obtain ⟨t, rfl⟩ := hP
    k_steps
    show wpAny _ _ _ _ _ _
    obtain ⟨no, hno⟩ : ∃ n, own16[i]? = some n := by
      have h16 : i < own16.length := hi
      exact ⟨_, List.getElem?_eq_getElem h16⟩
    obtain ⟨to, hto⟩ := hown.get i no hno
    refine ev_run (now_item (l := OL) (k := 0 + (i : Int)) (vs := ownv) N (by k_mem) (now_cell (c := L + 1) N (by k_mem) dH' rfl) ((now_mine N (by k_mem) hC hx).mono fun v e => ⟨t, e⟩) (by lia) (by lia) (by simpa using hto)) fun v tk8 hv => ?_
    subst hv
    show wpAny _ _ _ _ _ _
    dsimp only
    try k_fold
    k_steps
    show wpAny _ _ _ _ _ _
    have iD : h.IsList D₃ ys.toArray := ⟨lobj ys c₃, (N (D₃, lobj ys c₃) (by k_mem)).1, rfl, c₃, rfl⟩
    refine kmk_slice3_lit (its := ys.toArray) (lo := some (0 + (i : Int))) (hi := none) (st := some 16) (zs := (slicePick ys.toArray (some (0 + (i : Int))) none (some 16)).toList) F N iD (.int _ _) .none (.int _ _) (by decide) rfl (fun DS hS' FS NS ltS => ?_) (by with_unfolding_all rfl) (by intro _; with_unfolding_all rfl) ?hz
    case hz =>
      rw [List.size_toArray, ii₃.length, List.length_map]
      exact Nat.le_trans (List.length_filter_le _ _) (Nat.le_trans (List.length_take_le _ _) (by decide))
    have iS : IntsAre _ _ := ii₃.pick (some (0 + (i : Int))) none (some 16)
    generalize (slicePick ys.toArray (some (0 + (i : Int))) none (some 16)).toList = zS at NS iS
    show wpAny _ _ _ _ _ _
    dsimp only
    try k_fold
    k_steps
    rename Fr _ _ _ _ => FE
    rename News _ _ _ _ => NE
    show LCg.CompEnd _ _ _ _ _ _ _ _ _ _ _ _ _ _
    refine LCg.CompEnd.intro FE NE [(D₃, lobj ys c₃), (OL, lobj ownv 0), (L + 1 + 1, oA'), (L + 1, oH')] (fun q hq => List.mem_cons_of_mem _ hq) off True.intro ⟨rfl, zs ++ [_], hz.append (.cons _ _ .nil), by simp [hl]⟩
end
end Mine
end
section
open PySem PySem.W PyProof.Rows PySem.Calls
namespace Mine
/-! list(bytes), bytes.hex, str.encode('ascii'), bytes.upper -/
abbrev bAt (b : Array UInt8) (i : Nat) (v : Value) : Prop := ∃ c u, b[i]? = some c ∧ v = .int (c.toNat : Int) u
theorem F.bytes_len : typeLookup (.type "bytes") "__len__" = pure (some (.builtin "bytes.__len__")) := by rw [typeLookup_type, builtinLookup_eq_fast]; kernel_rfl
section
variable {w : World} {A : Around} {E : Value → Shared → Prop} {s : Shared}
theorem extend_bytes {R : Result → Shared → Prop} (hh : A.handled = none) (b : Array UInt8) (t : Tok) (S : Addr) (res : Value) (c₀ : Nat) (hS : s.heap.get? S = some { cls := .type "list", data := .seq #[] c₀ })
    (hR : ∀ h' tk acc' c', (∀ b o, b ≠ S → s.heap.get? b = some o → h'.get? b = some o) → h'.get? S = some { cls := .type "list", dict := none, data := .seq acc' c', slots := #[] } →
      ItemsOf (bAt b) acc' b.size → R (.ok (.ret res)) { s with heap := h', toks := tk }) (hn : b.size ≤ sizeLine) :
    wpAny (model PR w) A.in1 (Builtin.List.listExtendWith (.ref S) (.bytes b t) res)
      (fun fin s' => match fin with | .done f => R (.ok f) s' | .again c' => c'.quiet = true ∧ codeAny (model PR w) A c' R s') (fun e s' => R (.error e) s') s := by
  have hSI : S ≠ s.heap.objs.size := Nat.ne_of_lt (Heap.lt_size hS)
  have hSf : S ∉ [s.heap.objs.size] := fun hm => hSI (List.mem_singleton.mp hm)
  unfold Builtin.List.listExtendWith
  refine wpAny_bind (wpAny_typeOf (T := "bytes") (v := .bytes b t) rfl ?_)
  have h1 : Builtin.List.listSameRef (.ref S) (.bytes b t) = false := rfl
  have h2 : (Value.type "bytes" == Value.type "list") = false := by decide
  have h3 : (Value.type "bytes" == Value.type "tuple") = false := by decide
  simp only [h1, h2, h3, Bool.or_false, Bool.false_eq_true, if_false]
  refine wpAny_bind (KBw.pyIter_bytes ?_)
  refine wpAny_bind (wpAny_holding ?_)
  unfold Builtin.List.listLengthHint
  refine wpAny_bind (wpAny_specialOf (T := "bytes") (v := .bytes b t) rfl F.bytes_len ?_)
  wp_delta
  refine wpAny_bind (wpAny_isInstance (T := "bytes") (v := .bytes b t) (b := true) rfl (by rw [isSubtype_type]; kernel_rfl) ?_)
  show wpAny _ _ (typeOf (Value.bytes b t) >>= _) _ _ _
  refine wpAny_bind (wpAny_typeOf (T := "bytes") (v := .bytes b t) rfl ?_)
  refine wpAny_pure ?_
  rw [if_neg (by decide)]
  refine wpAny_pure ⟨plainId_quiet F.plain_extend_loop _, codeAny_extend_loopS (KBw.walks (prog := PR) (w := w) (A := A.in1) hh s.heap.objs.size b t).toS hn _ hSf _ b.size 0 _ _ _ rfl (Nat.zero_le _) ⟨_, Heap.get?_push_size _ rfl, rfl, rfl⟩ (Heap.get?_push_of_some _ hS) (ItemsOf.nil _) fun s' acc' c' hm hS' hacc => ?_⟩
  rw [Moved.eq_with hm]
  refine hR s'.heap s'.toks acc' c' (fun b ob hb e => hm.heap b ob (fun hmem => ?_) (Heap.get?_push_of_some _ e)) hS' hacc
  rcases List.mem_cons.mp hmem with e' | hmem
  · exact hb e'
  · exact absurd (Heap.lt_size e) (by rw [List.mem_singleton.mp hmem]; exact Nat.lt_irrefl _)
theorem init_bytes {R : Result → Shared → Prop} (hh : A.handled = none) (x : Array UInt8) (t : Tok) (S : Addr) (hS : s.heap.get? S = some { cls := .type "list", data := .seq #[] })
    (hR : ∀ h' tk acc' c', (∀ b o, b ≠ S → s.heap.get? b = some o → h'.get? b = some o) → h'.get? S = some { cls := .type "list", dict := none, data := .seq acc' c', slots := #[] } →
      ItemsOf (bAt x) acc' x.size → R (.ok (.ret .none)) { s with heap := h', toks := tk }) (hn : x.size ≤ sizeLine) :
    wpAny (model PR w) A.in1 (Builtin.«list.__init__» ⟨[.ref S, .bytes x t], []⟩)
      (fun fin s' => match fin with | .done f => R (.ok f) s' | .again c' => c'.quiet = true ∧ codeAny (model PR w) A c' R s') (fun e s' => R (.error e) s') s := by
  show wpAny _ _ (do let old ← Builtin.List.listItems (.ref S); Builtin.List.listUpdate (.ref S) (fun _ => #[]); letGo old.toList.reverse; Builtin.List.listExtendWith (.ref S) (.bytes x t) .none) _ _ s
  refine wpAny_bind ?_
  unfold Builtin.List.listItems
  refine wpAny_bind (wpAny_seqItems hS rfl (wpAny_pure ?_))
  show wpAny _ _ (updateSeq S (fun _ => #[]) >>= fun _ => letGo (#[] : Array Value).toList.reverse >>= fun _ => Builtin.List.listExtendWith (.ref S) (.bytes x t) .none) _ _ s
  refine wpAny_bind (wpAny_updateSeq hS rfl ?_)
  have hS₂ := Heap.get?_update_self (Obj.mapSeq (fun _ => (#[] : Array Value))) hS rfl
  have oth : ∀ b o, b ≠ S → s.heap.get? b = some o → (s.heap.update S (Obj.mapSeq (fun _ => (#[] : Array Value)))).get? b = some o :=
    fun b o hb e => (Heap.get?_update_other _ _ (Ne.symm hb)).trans e
  refine wpAny_bind (wpAny_letGo ?_)
  refine extend_bytes (hn := hn) hh x t S .none _ hS₂ fun h' tk acc' c' hk hS' hacc => ?_
  exact hR h' tk acc' c' (fun b o hb e => hk b o hb (oth b o hb e)) hS' hacc
theorem call_list_bytes {Q : Value → Shared → Prop} (hh : A.handled = none) (x : Array UInt8) (t : Tok)
    (hQ : ∀ h' tk acc' c', (∀ b o, s.heap.get? b = some o → h'.get? b = some o) →
      h'.get? s.heap.objs.size = some { cls := .type "list", dict := none, data := .seq acc' c', slots := #[] } → ItemsOf (bAt x) acc' x.size → Q (.ref s.heap.objs.size) { s with heap := h', toks := tk }) (hn : x.size ≤ sizeLine) :
    wpAny (model PR w) A (call (.type "list") [.bytes x t]) Q E s := by
  refine callType_codes (Q₁ := fun obj s₁ => obj = .ref s.heap.objs.size ∧ s₁ = { s with heap := s.heap.push { cls := .type "list", data := .seq #[] } }) F.called_list (F.typeCall_list_1 _) F.entry_list_init
    (code_list_new _ ⟨rfl, rfl⟩) fun obj s₁ h₁ => ?_
  obtain ⟨rfl, rfl⟩ := h₁
  have hS : (s.heap.push { cls := .type "list", data := .seq #[] }).get? s.heap.objs.size = some { cls := .type "list", data := .seq #[] } := Heap.get?_push_size _ rfl
  refine ⟨⟨_, hS, rfl⟩, F.args_list_init_2 _ _, init_bytes (A := A.in1) (hn := hn) hh x t _ hS fun h' tk acc' c' hk hS' hacc => ?_⟩
  exact ⟨rfl, hQ h' tk acc' c' (fun b o e => hk b o (Nat.ne_of_lt (Heap.lt_size e)) (Heap.get?_push_of_some _ e)) hS' hacc⟩
theorem ints_bytes {b : Array UInt8} {acc : Array Value} (h : ItemsOf (bAt b) acc b.size) : IntsAre acc.toList (KBw.bInts b) := by
  refine ints_of (P := bAt b) ?_ (fun j v e => h.2 j v (by simpa using e)) fun i v hv => ?_
  · rw [Array.length_toList, h.1, KBw.ints_length]
  · obtain ⟨c, u, e, rfl⟩ := hv
    refine ⟨c.toNat, ?_, u, rfl⟩
    show (b.toList.map fun c => ((c.toNat : Nat) : Int))[i]? = _
    rw [List.getElem?_map, Array.getElem?_toList, e]; rfl
theorem list_bytes_N {Q : Value → Shared → Prop} {g : Heap} {L : Addr} {m : Str → Option Value} {news : List (Addr × Obj)} (F : Fr g L s.heap m) (N : News g L s.heap news) (hh : A.handled = none) (x : Array UInt8) (t : Tok)
    (hQ : ∀ D vs c h' tk, Fr g L h' m → News g L h' ((D, lobj vs c) :: news) → (∀ p ∈ news, p.1 < D) → IntsAre vs (KBw.bInts x) → Q (.ref D) { s with heap := h', toks := tk }) (hn : x.size ≤ 16777216) :
    wpAny (model PR w) A (call (.type "list") [.bytes x t]) Q E s := by
  refine call_list_bytes hh x t (fun h' tk acc' c' hk hS' hacc => ?_) (by rw [sizeLine_eq]; exact hn)
  refine hQ s.heap.objs.size acc'.toList c' h' tk (F.keeps hk) (fun q hq => ?_) (fun q hq => Heap.lt_size (N q hq).1) (ints_bytes hacc)
  rcases List.mem_cons.mp hq with rfl | hq
  · refine ⟨by simpa using hS', Nat.ne_of_gt F.ns.lt, next_is_new F⟩
  · exact ⟨hk _ _ (N q hq).1, (N q hq).2⟩
end
/-! bytes.hex -/
def hexCodes (b : Array UInt8) : Array Nat := b.toList.zipIdx.foldl (fun (out : Array Nat) (x : UInt8 × Nat) => (out.push (Builtin.Bytes.hexDigit (x.1.toNat / 16))).push (Builtin.Bytes.hexDigit (x.1.toNat % 16))) #[]
theorem hex_eq (b : Array UInt8) (t : Tok) : Builtin.«bytes.hex» ⟨[.bytes b t], []⟩ = retStr ⟨hexCodes b⟩ := by
  kernel_rfl
def upB (b : Array UInt8) : Array UInt8 := (b.toList.map Builtin.Bytes.toUpper).toArray
theorem upper_eq (b : Array UInt8) (t : Tok) : Builtin.«bytes.upper» ⟨[.bytes b t], []⟩ = (mkBytes (upB b) >>= fun v => ret v) := by
  kernel_rfl
theorem encode_eq (x : PySem.Str) (t u : Tok) : Builtin.«str.encode» ⟨[.str x t, .str (PySem.Str.ofString "ascii") u], []⟩ = ((Builtin._codecs.encodeNarrow "str.encode" Builtin._codecs.asciiCodec none (.str x t) x >>= fun b => mkBytes b) >>= fun v => ret v) := by
  kernel_rfl
theorem fold_map (f : Nat → UInt8) : ∀ (l : List Nat) (acc : Array UInt8), l.foldl (fun acc y => acc ++ [f y].toArray) acc = acc ++ (l.map f).toArray
  | [], acc => by simp
  | a :: r, acc => by
    rw [List.foldl_cons, fold_map f r]
    simp [← Array.append_assoc]
theorem fold_mapA (f : Nat → UInt8) (a : Array Nat) : a.foldl (fun acc y => acc ++ [f y].toArray) #[] = a.map f := by
  rw [← Array.foldl_toList, fold_map]
  apply Array.ext'
  simp
open Builtin._codecs in
theorem narrow {M : Model} {A : Around} {E : Value → Shared → Prop} {s : Shared} {x : PySem.Str} {v : Value} {Q : Array UInt8 → Shared → Prop} (hx : ∀ c ∈ x.cps, c < 128) (hn : x.cps.size ≤ sizeLine) (h : Q (x.cps.map Nat.toUInt8) s) :
    wpAny M A (encodeNarrow "str.encode" asciiCodec none v x) Q E s := by
  have hclean : ((x.cps.extract 0 x.cps.size).findIdx? asciiCodec.bad).getD (x.cps.extract 0 x.cps.size).size = x.cps.size := by
    rw [Array.extract_size]
    have : x.cps.findIdx? asciiCodec.bad = none := by
      rw [Array.findIdx?_eq_none_iff]
      intro c hc
      have := hx c hc
      show decide (c ≥ 128) = false
      simp; omega
    rw [this]; rfl
  unfold encodeNarrow
  dsimp only
  rw [KPc.range_list]
  refine wpAny_bind ?_
  cases hsz : x.length with
  | zero =>
    have : x.cps = #[] := Array.eq_empty_of_size_eq_zero hsz
    rw [List.range'_zero, List.forIn_nil]
    refine wpAny_pure (wpAny_pure ?_)
    rw [this] at h
    simpa using h
  | succ n =>
    have hsz' : x.cps.size = n + 1 := hsz
    rw [List.range'_succ]
    refine KPc.turn ?_
    dsimp only
    rw [if_neg (show ¬ ((#[] : Array UInt8).size > sizeLine) from Nat.not_lt_zero _)]
    have hc : x.cps[0]? = some (x.cps[0]'(by omega)) := by simp [hsz']
    simp only [hc]
    rw [if_pos (by
      show (!decide (x.cps[0] ≥ 128)) = true
      have := hx x.cps[0] (Array.getElem_mem _)
      simp; omega)]
    refine wpAny_pure ?_
    dsimp only
    rw [hclean, Nat.zero_add, Array.extract_size, Array.extract_size]
    have hf : Array.foldl (fun acc y => acc ++ (asciiCodec.bytesOf y).toArray) #[] x.cps = x.cps.map Nat.toUInt8 := fold_mapA Nat.toUInt8 x.cps
    rw [hf]
    cases n with
    | zero =>
      rw [List.range'_zero, List.forIn_nil]
      exact wpAny_pure (wpAny_pure h)
    | succ k =>
      rw [List.range'_succ]
      refine KPc.turn ?_
      dsimp only
      rw [if_neg (by rw [Array.size_map]; omega)]
      have hc2 : x.cps[0 + x.cps.size]? = none := by simp
      rw [hc2]
      exact wpAny_pure (wpAny_pure h)
end Mine
end
section
open PySem PySem.W PyProof.Rows PySem.Calls
namespace Mine
local macro_rules | `(tactic| walk_at "pad") => `(tactic| skip)
def fig (n : Int) : Int := if n < 10 then 48 + n else 55 + n
theorem hex_fold (l : List UInt8) : ∀ (k : Nat) (acc : Array Nat), (l.zipIdx k).foldl (fun (out : Array Nat) (x : UInt8 × Nat) => (out.push (Builtin.Bytes.hexDigit (x.1.toNat / 16))).push (Builtin.Bytes.hexDigit (x.1.toNat % 16))) acc
    = acc ++ (l.flatMap fun c => [Builtin.Bytes.hexDigit (c.toNat / 16), Builtin.Bytes.hexDigit (c.toNat % 16)]).toArray := by
  induction l with
  | nil => intro k acc; simp
  | cons a r ih =>
    intro k acc
    rw [List.zipIdx_cons, List.foldl_cons, ih]
    apply Array.ext'
    simp
theorem digit_lt (n : Nat) (h : n < 16) : Builtin.Bytes.hexDigit n < 128 := by
  unfold Builtin.Bytes.hexDigit
  split <;> lia
theorem digit_up : ∀ n < 16, ((Builtin.Bytes.toUpper (Nat.toUInt8 (Builtin.Bytes.hexDigit n))).toNat : Int) = fig n := by decide
theorem hex_codes_lt (b : Array UInt8) : ∀ c ∈ hexCodes b, c < 128 := by
  intro c hc
  unfold hexCodes at hc
  rw [hex_fold] at hc
  simp only [Array.mem_append, Array.mem_toArray, List.mem_flatMap] at hc
  rcases hc with h | ⟨a, _, h⟩
  · simp at h
  · have := a.toNat_lt
    simp only [List.mem_cons, List.not_mem_nil, or_false] at h
    rcases h with rfl | rfl <;> exact digit_lt _ (by lia)
theorem hex_codes_list (b : Array UInt8) : (hexCodes b).toList = b.toList.flatMap fun c => [Builtin.Bytes.hexDigit (c.toNat / 16), Builtin.Bytes.hexDigit (c.toNat % 16)] := by
  unfold hexCodes
  rw [hex_fold]
  simp
theorem hex_codes_size (b : Array UInt8) : (hexCodes b).size = 2 * b.size := by
  rw [← Array.length_toList, hex_codes_list, ← Array.length_toList]
  generalize b.toList = l
  induction l with
  | nil => rfl
  | cons a r ih => rw [List.flatMap_cons, List.length_append, ih]; simp; lia
theorem hex_row {ns : List Int} (h : KBa.In ns) : KBw.bInts (upB ((hexCodes (byteArr ns)).map Nat.toUInt8)) = ns.flatMap fun o => [fig (o.fdiv 16), fig (o.fmod 16)] := by
  have e : KBw.bInts (upB ((hexCodes (byteArr ns)).map Nat.toUInt8)) = (hexCodes (byteArr ns)).toList.map fun c => ((Builtin.Bytes.toUpper (Nat.toUInt8 c)).toNat : Int) := by
    show ((((hexCodes (byteArr ns)).map Nat.toUInt8).toList.map Builtin.Bytes.toUpper).map fun c => ((c.toNat : Nat) : Int)) = _
    rw [Array.toList_map, List.map_map, List.map_map]
    rfl
  rw [e, hex_codes_list]
  have e2 : (byteArr ns).toList = ns.map fun n => n.toNat.toUInt8 := rfl
  rw [e2]
  clear e e2
  induction ns with
  | nil => rfl
  | cons n r ih =>
    have hb := h n (List.mem_cons_self ..)
    have h1 : (n.toNat.toUInt8).toNat = n.toNat := by
      show (UInt8.ofNat n.toNat).toNat = n.toNat
      rw [UInt8.toNat_ofNat']; lia
    rw [List.map_cons, List.flatMap_cons, List.map_append, ih fun k hk => h k (List.mem_cons_of_mem _ hk), List.flatMap_cons]
    congr 1
    rw [h1]
    simp only [List.map_cons, List.map_nil]
    rw [digit_up _ (show n.toNat / 16 < 16 by lia), digit_up _ (show n.toNat % 16 < 16 by lia)]
    have e3 : ((n.toNat / 16 : Nat) : Int) = n.fdiv 16 := by
      rw [Int.fdiv_eq_ediv_of_nonneg _ (by decide)]; lia
    have e4 : ((n.toNat % 16 : Nat) : Int) = n.fmod 16 := by
      rw [Int.fmod_eq_emod_of_nonneg _ (by decide)]; lia
    rw [e3, e4]

theorem slot_bytes_upper : Slot "bytes" "upper" "bytes.upper" :=
  .of (owner := "bytes") (n := "upper") (by rw [typeLookup_type, builtinLookup_eq_fast]; kernel_rfl) (by decide +kernel) (by decide +kernel) (by decide +kernel)
    (by first | exact .inl (by decide +kernel) | exact .inr (by decide +kernel)) (by rw [isSubtype_type]; kernel_rfl)
theorem type_bytes_upper : typeOf (.builtin "bytes.upper") = pure (.type "method_descriptor") := by show builtinType _ = _; rw [builtinType_eq_fast]; kernel_rfl
theorem entry_bytes_upper : entryFor table "bytes.upper" = some Builtin.«bytes.upper» := entryFor_of_tree (by kernel_rfl)
theorem args_bytes_upper (a : Value) : argsOk "bytes.upper" ⟨[a], []⟩ := by
  unfold argsOk; rw [signature?_of (id := "bytes.upper") (n := ['r', 'e', 'p', 'p', 'u']) (o := ['s', 'e', 't', 'y', 'b']) (by kernel_rfl) FB.owner_bytes]; kernel_rfl
section
variable {w : World} {A : Around} {E : Value → Shared → Prop} {s : Shared} {b : Array UInt8} {t : Tok}
theorem hex_call {Q : Value → Shared → Prop} (hn : b.size ≤ 1000) (h : Q (.str ⟨hexCodes b⟩ s.toks) { s with toks := s.toks + 1 }) : wpAny (model PR w) A (call (.builtin "bytes.hex") [.bytes b t]) Q E s := by
  refine wpAny_call_entry FB.slot_bytes_hex (typeIs_bytes _ _ _) FB.entry_bytes_hex ?_ (FB.args_bytes_hex_1 _)
  rw [hex_eq]
  exact wpAny_bind (wpAny_mkStr (wpAny_pure ⟨_, rfl, h⟩) (by rw [show PySem.Str.length ⟨hexCodes b⟩ = (hexCodes b).size from rfl, hex_codes_size, sizeLine_eq]; lia))
theorem upper_call {Q : Value → Shared → Prop} (hn : b.size ≤ 10000) (h : Q (.bytes (upB b) s.toks) { s with toks := s.toks + 1 }) : wpAny (model PR w) A (call (.builtin "bytes.upper") [.bytes b t]) Q E s := by
  refine wpAny_call_entry slot_bytes_upper (typeIs_bytes _ _ _) entry_bytes_upper ?_ (args_bytes_upper _)
  rw [upper_eq]
  exact wpAny_bind (wpAny_mkBytes (wpAny_pure ⟨_, rfl, h⟩) (by show (upB b).size ≤ sizeLine; unfold upB; rw [sizeLine_eq]; simp; lia))
theorem encode_call {x : PySem.Str} {u : Tok} {Q : Value → Shared → Prop} (hx : ∀ c ∈ x.cps, c < 128) (hn : x.cps.size ≤ 10000) (h : Q (.bytes (x.cps.map Nat.toUInt8) s.toks) { s with toks := s.toks + 1 }) : wpAny (model PR w) A (call (.builtin "str.encode") [.str x t, .str (PySem.Str.ofString "ascii") u]) Q E s := by
  refine wpAny_call_entry F.slot_str_encode (typeIs_str _ _ _) F.entry_str_encode ?_ (F.args_str_encode_2 _ _)
  rw [encode_eq]
  refine wpAny_bind (wpAny_bind (narrow hx (by rw [sizeLine_eq]; lia) ?_))
  exact wpAny_mkBytes (wpAny_pure ⟨_, rfl, h⟩) (by show (x.cps.map Nat.toUInt8).size ≤ sizeLine; rw [sizeLine_eq]; simp; lia)
end
theorem news_nil (g : Heap) (L : Addr) (h : Heap) : News g L h [] := fun q hq => nomatch hq
section
local macro_rules | `(tactic| walk_at "call type:type") => `(tactic| ((with_reducible show wpAny _ _ (call _ [Value.bytes _ _]) _ _ _); refine call_type_of (Tx := "bytes") rfl (by decide +kernel) ?_))
local macro_rules | `(tactic| walk_at "call builtin:bytes.hex") => `(tactic| (k_here; refine hex_call hsz ?_))
local macro_rules | `(tactic| walk_at "call builtin:str.encode") => `(tactic| (k_here; refine encode_call (hex_codes_lt b) (by rw [hex_codes_size]; lia) ?_))
local macro_rules | `(tactic| walk_at "call builtin:bytes.upper") => `(tactic| (k_here; refine upper_call (by rw [Array.size_map, hex_codes_size]; lia) ?_))
local macro_rules | `(tactic| walk_at "getMethod str") => `(tactic| (k_here; refine getMethod_builtin (typeIs_str _ _ _) PySem.F.plainAttrs_str PySem.F.slot_str_encode PySem.F.type_str_encode (fun _ e => nomatch e) ?_))
local macro_rules | `(tactic| walk_at "getMethod bytes") => `(tactic| (k_here; first | refine KBd.method_of (.bytes _ _) (typeIs_bytes _ _ _) FB.slot_bytes_hex FB.type_bytes_hex KBd.noRef ?_ | refine KBd.method_of (.bytes _ _) (typeIs_bytes _ _ _) slot_bytes_upper type_bytes_upper KBd.noRef ?_))
set_option maxHeartbeats 1000000 in
theorem b16_c {w : World} {outer : List Env} {gd : Option (List Code)} {s : Shared} {base : Heap} {p : Program} {loose : List Str} {mean : ExcName → Option Value} {mg mb : Str → Option Value}
  {b : Array UInt8} {t : Tok} {R : Result → Shared → Prop}
  (X : Wld w base) (T : Top p loose mean mg mb base) (B : Below (AY 720 7200 outer gd) base outer s.heap) (hsz : b.size ≤ 1000)
  (hR : ∀ h' tk t', Kp (fsOf outer) s.heap h' → R (.ok (.ret (.bytes (upB ((hexCodes b).map Nat.toUInt8)) t'))) { s with heap := h', toks := tk }) :
  codeAny (model PR w) (AY 720 7200 outer gd) (.call (.ref 88) ⟨[.bytes b t], []⟩) R s := by
  refine' enterH X T B [] (fun _ h => nomatch h) ?k6 ?k7 ?k8 ?k9 ?kB ?_ ?c2 ?c3 ?c4 ?c5
  case k6 => k_is
  case k7 => k_is
  case k8 => exact (show (720 : Nat) < 1000 by decide)
  case k9 => exact BindsTo.of_eq rfl
  case kB => exact locs rfl
  case c5 => decide
  case c2 => exact rfl
  case c3 => exact rfl
  case c4 => exact rfl
  intro g L h₁ hg1 hg2 F N B' X' T'
  k_whole
  w_on
  k_steps
  dsimp only
  rename Fr _ _ _ _ => FE
  refine hR _ _ _ (kp_end (news₀ := []) (fun p hp => nomatch hp) hg2 (KtsTurn.refl (fs := fsOf outer)) FE (news_nil _ _ _) fun q hq => nomatch hq)
end
end Mine
end
section
open PySem PySem.W PyProof.Rows PySem.Calls PySem.MeetsSeq PySem.W.X
open Sem (wp)
namespace Mine
set_option maxHeartbeats 0 in
theorem tn {w : World} {A : Around} {R : Result → Shared → Prop} {h : Heap} {g : Array GenState} {d : Drawn} {tk : Nat} {os : OsState} {bs n0 aS aI aL aG aE aLE aGE aT : Addr} {nt ts tq : Tok} {G : Nat → Int} {T : Nat → Nat} {fI fL fG fE fLE fGE : FuncData} 
  (hb : h.get? bs = some ⟨.type "tuple", none, .seq #[.type "object"] 0, #[]⟩) (hn : h.get? (n0 + 100) = some (kNs0 G T aS aI aL aG aE aLE aGE aT))
  (hS : h.get? aS = some ⟨.type "list", none, .seq #[.str (Str.ofString "obj") ts] 0, #[]⟩) (hI : h.get? aI = some ⟨.type "function", none, .func fI, #[]⟩)
  (hL : h.get? aL = some ⟨.type "function", none, .func fL, #[]⟩) (hG : h.get? aG = some ⟨.type "function", none, .func fG, #[]⟩) (hE : h.get? aE = some ⟨.type "function", none, .func fE, #[]⟩)
  (hLE : h.get? aLE = some ⟨.type "function", none, .func fLE, #[]⟩) (hGE : h.get? aGE = some ⟨.type "function", none, .func fGE, #[]⟩) (hT : h.get? aT = some ⟨.type "tuple", none, .seq #[.str (Str.ofString "obj") tq] 0, #[]⟩) (hs : h.get? 2 = some ⟨.none, none, .dict #[] 0, #[]⟩)
  (hR : ∀ bo so aM C N lx h', Mem h h' [] [(bo, kBo C), (so, kSo C), (aM, kM C tk), (C, kCz C N bs nt (T 3)), (N, kNs1 G T 3 aS aI aL aG aE aLE aGE aT [kE (kHash w.params (Str.ofString "obj")) (Str.ofString "obj") (tk + 1) (.ref aM), kE (kHash w.params (Str.ofString "__doc__")) (Str.ofString "__doc__") (tk + 2) .none]), (lx, kLx ts)] → R (.ok (.ret (.ref C))) ⟨h', g, d, tk + 4, os⟩) :
  codeAny (model PR w) A (.builtin "type.__new__" ⟨[.type "type", .str (Str.ofString "K") nt, .ref bs, .ref (n0 + 100)], []⟩) R ⟨h, g, d, tk, os⟩ := by
  refine y_tree ?_
  have D : Mem h h [] [] := Mem.start h
  iterate 6 walk_at "yn"
  walk_at "yw"
  walk_at "yc"
  intro lx h1 D1
  replace D1 : Mem h h1 [] [(lx, kLx ts)] := mem_cast D1 (by kernel_rfl)
  with_unfolding_all refine' y_ret _ _ _ _ _ _ _ _ _ _ ?_
  repeat walk_at "yn"
  walk_at "yw"
  walk_at "ya"
  intro N h2 D2
  replace D2 : Mem h h2 [] [(N, kNs0' G T aS aI aL aG aE aLE aGE aT), (lx, kLx ts)] := mem_cast D2 (by kernel_rfl)
  repeat walk_at "yn"
  walk_at "yw"
  walk_at "ya"
  intro C h3 D3
  repeat walk_at "yn"
  replace D' : Mem h h' [] [(C, kC N [] true [] #[some (.ref bs), none, some (.str (Str.ofString "K") nt), some (.str (Str.ofString "cmp_to_key.<locals>.K") (T 3))]), (N, kNs1 G T 1 aS aI aL aG aE aLE aGE aT []), (lx, kLx ts)] := mem_cast D' (by kernel_rfl)
  refine wpOwn_bind ?_
  with_unfolding_all refine y_pure _ _ _ _ _ _ _ _ none ?_
  refine wpOwn_bind ?_
  with_unfolding_all refine y_pure _ _ _ _ _ _ _ _ none ?_
  refine wpOwn_bind ?_
  with_unfolding_all refine y_pure _ _ _ _ _ _ _ _ [Value.type "object"] ?_
  refine wpOwn_bind ?_
  with_unfolding_all refine y_pure _ _ _ _ _ _ _ _ [Value.ref C, Value.type "object"] ?_
  refine wpOwn_bind ?_
  rw [fil_me]
  with_unfolding_all refine y_pure _ _ _ _ _ _ _ _ false ?_
  iterate 2 walk_at "yn"
  iterate 2 walk_at "yn"
  replace D' : Mem h h' [] [(C, kC N [.ref C, .type "object"] true [] #[some (.ref bs), none, some (.str (Str.ofString "K") nt), some (.str (Str.ofString "cmp_to_key.<locals>.K") (T 3)), some (.builtin "object.__new__")]), (N, kNs1 G T 1 aS aI aL aG aE aLE aGE aT []), (lx, kLx ts)] := mem_cast D' (by kernel_rfl)
  iterate 5 walk_at "yn"
  repeat walk_at "yn"
  walk_at "yw"
  walk_at "ya"
  intro aM h4 D4
  iterate 6 walk_at "yn"
  replace D' : Mem h h' [] [(aM, kM C tk), (C, kC N [.ref C, .type "object"] false [Str.ofString "obj"] #[some (.ref bs), none, some (.str (Str.ofString "K") nt), some (.str (Str.ofString "cmp_to_key.<locals>.K") (T 3)), some (.builtin "object.__new__")]), (N, kNs1 G T 2 aS aI aL aG aE aLE aGE aT [kE (kHash w.params (Str.ofString "obj")) (Str.ofString "obj") (tk + 1) (.ref aM)]), (lx, kLx ts)] := mem_cast D' (by kernel_rfl)
  iterate 6 walk_at "yn"
  replace D' : Mem h h' [] [(aM, kM C tk), (C, kCz C N bs nt (T 3)), (N, kNs1 G T 3 aS aI aL aG aE aLE aGE aT [kE (kHash w.params (Str.ofString "obj")) (Str.ofString "obj") (tk + 1) (.ref aM), kE (kHash w.params (Str.ofString "__doc__")) (Str.ofString "__doc__") (tk + 2) .none]), (lx, kLx ts)] := mem_cast D' (by kernel_rfl)
  repeat walk_at "yn"
  walk_at "yw"
  with_unfolding_all refine' y_call _ _ _ _ _ _ _ _ _ _ _ _ _ ?hn (sup_code D' (.tail _ (.head _)) ?_)
  case hn => (intro h; cases h)
  intro so h5 D5
  with_unfolding_all refine' y_ret _ _ _ _ _ _ _ _ _ _ ?_
  repeat walk_at "yn"
  walk_at "yw"
  with_unfolding_all refine' y_call _ _ _ _ _ _ _ _ _ _ _ _ _ ?hn (sga_code D5 (.tail _ (.head _)) hs ?_)
  case hn => (intro h; cases h)
  intro bo h6 D6
  with_unfolding_all refine' y_ret _ _ _ _ _ _ _ _ _ _ ?_
  repeat walk_at "yn"
  walk_at "yw"
  walk_at "yk"
  repeat walk_at "yn"
  exact hR bo so aM C N lx h6 D6

end Mine
end
section
open PySem PySem.W PyProof.Rows PySem.Calls PySem.MeetsSeq PySem.W.X
open Sem (wp)
namespace Mine
local macro_rules | `(tactic| walk_at "pad") => `(tactic| skip)
set_option maxHeartbeats 0 in
theorem tcall {w : World} {A : Around} {R : Result → Shared → Prop} {h : Heap} {g : Array GenState} {d : Drawn} {tk : Nat} {os : OsState} {bs n0 aS aI aL aG aE aLE aGE aT : Addr} {nt ts tq : Tok} {G : Nat → Int} {T : Nat → Nat} {fI fL fG fE fLE fGE : FuncData} 
  (hb : h.get? bs = some ⟨.type "tuple", none, .seq #[.type "object"] 0, #[]⟩) (hn : h.get? (n0 + 100) = some (kNs0 G T aS aI aL aG aE aLE aGE aT))
  (hS : h.get? aS = some ⟨.type "list", none, .seq #[.str (Str.ofString "obj") ts] 0, #[]⟩) (hI : h.get? aI = some ⟨.type "function", none, .func fI, #[]⟩)
  (hL : h.get? aL = some ⟨.type "function", none, .func fL, #[]⟩) (hG : h.get? aG = some ⟨.type "function", none, .func fG, #[]⟩) (hE : h.get? aE = some ⟨.type "function", none, .func fE, #[]⟩)
  (hLE : h.get? aLE = some ⟨.type "function", none, .func fLE, #[]⟩) (hGE : h.get? aGE = some ⟨.type "function", none, .func fGE, #[]⟩) (hT : h.get? aT = some ⟨.type "tuple", none, .seq #[.str (Str.ofString "obj") tq] 0, #[]⟩) (hs : h.get? 2 = some ⟨.none, none, .dict #[] 0, #[]⟩)
  (hR : ∀ bo so aM C N lx h', Mem h h' [] [(bo, kBo C), (so, kSo C), (aM, kM C tk), (C, kCz C N bs nt (T 3)), (N, kNs1 G T 3 aS aI aL aG aE aLE aGE aT [kE (kHash w.params (Str.ofString "obj")) (Str.ofString "obj") (tk + 1) (.ref aM), kE (kHash w.params (Str.ofString "__doc__")) (Str.ofString "__doc__") (tk + 2) .none]), (lx, kLx ts)] → R (.ok (.ret (.ref C))) ⟨h', g, d, tk + 4, os⟩) :
  codeAny (model PR w) A (.call (.type "type") ⟨[.str (Str.ofString "K") nt, .ref bs, .ref (n0 + 100)], []⟩) R ⟨h, g, d, tk, os⟩ := by
  refine y_tree ?_
  have D : Mem h h [] [] := Mem.start h
  repeat walk_at "yn"
  walk_at "yw"
  with_reducible refine' y_call _ _ _ _ _ _ _ _ _ _ _ _ _ ?hn ?_
  case hn => (intro h; cases h)
  refine y_tree ?_
  walk_at "yw"
  with_reducible refine' y_pure _ _ _ _ _ _ _ _ _ ?_
  with_unfolding_all conv => (arg 5; whnf)
  with_reducible refine' y_again _ _ _ _ _ _ ?yq ?_
  case yq => with_unfolding_all rfl
  with_unfolding_all refine' tn hb hn hS hI hL hG hE hLE hGE hT hs ?_
  intro bo so aM C N lx h' D'
  with_unfolding_all refine' y_ret _ _ _ _ _ _ _ _ _ _ ?_
  repeat walk_at "yn"
  walk_at "yw"
  walk_at "yk"
  repeat walk_at "yn"
  exact hR bo so aM C N lx h' D'
end Mine
end
section
open PySem PySem.W PyProof.Rows PySem.Calls PySem.MeetsSeq PySem.W.X
open Sem (wp)
namespace Mine
theorem mkfn {prog : Program} {w : World} {A : Around} {E : Value → Shared → Prop} {h₀ h : Heap} {chg news : List (Addr × Obj)} {g : Array GenState} {d : Drawn} {t : Nat} {os : OsState} {P c : Addr} {ps : Array Value} {i : Nat} {env : Env} {name qual : Str} {params : Arguments} {body : List Stmt} {scope : Scope} {clos : List (Str × Addr)} {pos : Pos} {line : Nat} {mg : Str → Option Value} {Q : Value → Shared → Prop}
    (D : Mem h₀ h chg news) (hi : news[i]? = some (P, tabObj ps)) (C : CodeHd h c P) (hcl : closureFor scope env = pure clos) (hge0 : env.globals = mainGlobals) (hcode : env.code = .ref c) (ht : TriplesOk ps.toList) (hnf : codeAmong pos ps.toList = none)
    (hg : h₀.Ns mainGlobals mg) (hgo : ∃ o, h₀.get? mainGlobals = some o ∧ hasCls o = true) (hb : h₀.BuiltinsAt mg P)
    (x : ∀ f fd c' oc vs tq h' tk', (∃ ctv doc, fd = fnX name qual params body scope clos .none .none doc ((mg "__name__").getD .none) none (.ref c') ctv) → Mem h₀ h' chg ((f, ⟨.type "function", none, .func fd, #[]⟩) :: (c', oc) :: news.set i (P, tabObj (ps ++ #[rawInt pos.line, rawInt pos.col, .ref c']))) →
      oc.data = .fields vs → vs[1]? = some (.str qual tq) → Q (.ref f) ⟨h', g, d, tk', os⟩) :
    wpAny (model prog w) A (makeFunction name qual params (.stmts body) scope env [] [] [] pos line) Q E ⟨h, g, d, t, os⟩ := by
  have hP := D.nw _ (List.mem_of_getElem? hi)
  have nP : ∀ b o, h₀.get? b = some o → b ≠ P := fun b o e q => by subst q; rw [hP.2] at e; cases e
  obtain ⟨og, hog, hcg⟩ := hgo
  have hgs : h.Ns mainGlobals mg := by
    obtain ⟨o, es, ep, e, r⟩ := hg
    rw [hog] at e; cases e
    exact ⟨_, es, ep, D.keep _ _ hog (by rw [hcg]; rfl), r⟩
  obtain ⟨bm, ob, b1, b2, b3, b4, b5, b6, b7, b8⟩ := hb
  have hbs : h.BuiltinsAt mg P := ⟨bm, ob, b1, b2, b3, b4, D.keep _ _ b5 (by unfold hasCls; rw [b6]; rfl), b6, b7, b8⟩
  refine makeFunction_K (mg := mg) hcl hge0 hgs hcode C hP.1 ht hnf (nP _ _ hog) hbs fun c' ctv doc h' tk hx hge hlt hrec htb => ?_
  obtain ⟨c₂, oc, vs, tq, e2, hoc, hd, hv⟩ := hrec
  cases e2
  have U := D.update (f := fun _ => tabObj (ps ++ #[rawInt pos.line, rawInt pos.col, .ref c'])) hi rfl
  have old : ∀ b o, h.get? b = some o → b ≠ P → h'.get? b = some o := fun b o e n => hx b o n e
  have none_of : ∀ b, h.objs.size ≤ b → h₀.get? b = none := fun b hbs => by
    cases q : h₀.get? b with
    | none => rfl
    | some o =>
      obtain ⟨o', e'⟩ := D.there q
      exact absurd (Heap.lt_size e') (Nat.not_lt.mpr hbs)
  have sz : h.objs.size ≤ h'.objs.size := Nat.le_trans hge (Nat.le_of_lt hlt)
  refine x h'.objs.size _ c' oc vs tq _ tk ⟨ctv, doc, rfl⟩ ⟨fun b o e q => Heap.get?_push_of_some _ (old b o (D.keep b o e q) (nP b o e)), fun p hp => ?_, D.cd, fun p hp => ?_, ?_⟩ hd hv
  · obtain ⟨ps', e'⟩ := D.oldTable hp
    exact ⟨Heap.get?_push_of_some _ (old _ _ (D.ch p hp).1 (nP _ _ e')), (D.ch p hp).2⟩
  · rcases List.mem_cons.mp hp with rfl | hp
    · exact ⟨Heap.get?_push_size _ rfl, none_of _ sz⟩
    · rcases List.mem_cons.mp hp with rfl | hp
      · exact ⟨Heap.get?_push_of_some _ hoc, none_of _ hge⟩
      · have y := U.nw p hp
        refine ⟨Heap.get?_push_of_some _ ?_, y.2⟩
        by_cases q : p.1 = P
        · have y1 := y.1
          rw [q] at y1 ⊢
          have e : (h.update P (fun _ => tabObj (ps ++ #[rawInt pos.line, rawInt pos.col, .ref c']))).get? P = some (tabObj (ps ++ #[rawInt pos.line, rawInt pos.col, .ref c'])) := by
            first | exact Heap.get?_update_self _ hP.1 rfl | exact Heap.get?_update_self (fun _ => tabObj (ps ++ #[rawInt pos.line, rawInt pos.col, .ref c'])) hP.1 rfl
          rw [e] at y1
          rw [← Option.some.inj y1]
          exact htb
        · exact old _ _ ((Heap.SameBut.update h P _).2 p.1 q ▸ y.1) q
  · have lt : ∀ b ∈ (news.set i (P, tabObj (ps ++ #[rawInt pos.line, rawInt pos.col, .ref c']))).map (·.1), b < h.objs.size := fun b hb => by
      obtain ⟨p, hp, rfl⟩ := List.mem_map.mp hb
      have := Heap.lt_size (U.nw p hp).1
      rwa [Heap.size_update] at this
    refine List.Pairwise.cons (fun b hb => ?_) (List.Pairwise.cons (fun b hb => ?_) U.ord)
    · rcases List.mem_cons.mp hb with rfl | hb
      · exact hlt
      · exact Nat.lt_of_lt_of_le (lt b hb) sz
    · exact Nat.lt_of_lt_of_le (lt b hb) hge
noncomputable def kFd (P : Params) : FuncData := match (oAt P 95).data with | .func fd => fd | _ => default
noncomputable def kSt (P : Params) : Stmt := match (kFd P).body with | .stmts (st :: _) => st | _ => .Pass ⟨0, 0, 0, 0⟩
noncomputable def kBody (P : Params) : List Stmt := match kSt P with | .ClassDef _ _ _ b _ _ _ _ _ _ _ => b | _ => []
noncomputable def kScope (P : Params) : Scope := match kSt P with | .ClassDef _ _ _ _ _ _ sc _ _ _ _ => sc | _ => default
noncomputable abbrev kBEnv (P : Params) (L n0 cc fr : Addr) : Env := { scope := kScope P, locals := n0 + 100, globals := 3, cells := [(Str.ofString "mycmp", L + 1)], qual := Str.ofString "cmp_to_key.<locals>.K.", code := .ref cc, frame := some fr }
abbrev kCc (x1 x2 : Addr) (tk : Nat) : Obj := ⟨.type "code", none, .fields #[.str (Str.ofString "K") (tk + 2), .str (Str.ofString "cmp_to_key.<locals>.K") (tk + 3), .str (Str.ofString "/claim/cut.py") (tk + 4), .int 59 0, .int 0 0, .int 0 0, .int 0 0, .int 0 0, .ref x1, .bool true, .int 181 0, .ref x2, .none, .none, .none, .none, .int (tk + 6 : Nat) 0, .int 59 0, .str (Str.ofString "/claim/cut.py") (tk + 7)], #[]⟩
abbrev kNsB (G : Nat → Int) (T : Nat → Nat) : Obj := ⟨.type "dict", none, .dict #[kE (G 0) (Str.ofString "__module__") (T 0) (.str (Str.ofString "law_kt0003_01") 312), kE (G 1) (Str.ofString "__qualname__") (T 2) (.str (Str.ofString "cmp_to_key.<locals>.K") (T 3)), kE (G 2) (Str.ofString "__firstlineno__") (T 4) (.int 59 (T 5))] 3, #[]⟩
noncomputable def kMeth (P : Params) (i : Nat) : FuncData := match (kBody P)[i]? with
  | some (.FunctionDef n ps b _ _ _ sc _ _ _) => { (default : FuncData) with params := ps, body := .stmts b, scope := sc }
  | _ => default
/-- K.__init__ and K.__lt__ -/
noncomputable abbrev kFn (P : Params) (i : Nat) (name : Str) (qual : Str) (clo : List (Str × Addr)) (cd : Addr) (ct : Value) : Obj :=
  ⟨.type "function", none, .func ⟨name, qual, (kMeth P i).params, (kMeth P i).body, (kMeth P i).scope, 3, clo, .none, .none, .none, .str (Str.ofString "law_kt0003_01") 312, none, .ref cd, ct, 0⟩, #[]⟩
abbrev kCode (name qual : Str) (line : Int) (t tl : Nat) (id : Int) (a1 a2 a3 a4 a5 : Addr) : Obj :=
  ⟨.type "code", none, .fields #[.str name t, .str qual (t + 1), .str (Str.ofString "/claim/cut.py") (t + 2), .int line 0, .int 2 0, .int 0 0, .int 0 0, .int 19 0, .ref a1, .bool true, .int 181 0, .ref a2, .none, .ref a3, .ref a4, .ref a5, .int id 0, .int line 0, .str (Str.ofString "/claim/cut.py") tl], #[]⟩
noncomputable def kMeBody (P : Params) (i : Nat) : List Stmt := match (kMeth P i).body with | .stmts b => b | _ => []
theorem kcc_hd {h : Heap} {cc x1 x2 : Addr} {tk : Nat} (e : h.get? cc = some (kCc x1 x2 tk)) (n : cc ≠ x2) : CodeHd h cc x2 := ⟨_, _, _, _, _, _, _, _, _, e, rfl, rfl, rfl, rfl, rfl, rfl, rfl, rfl, n⟩
abbrev kNsK (es : List DictEntry) (n : Nat) : Obj := ⟨.type "dict", none, .dict ⟨es⟩ n, #[]⟩
abbrev kFnO (fd : FuncData) : Obj := ⟨.type "function", none, .func fd, #[]⟩
abbrev kLs (t : Tok) : Obj := ⟨.type "list", none, .seq #[.str (Str.ofString "obj") t] 0, #[]⟩
abbrev kH (P : Params) (k : Str) : Int := PyData.keyHash P k
set_option maxHeartbeats 0 in
theorem kbody {w : World} {A : Around} {R : Result → Shared → Prop} {h₀ h : Heap} {chg news : List (Addr × Obj)} {g : Array GenState} {d : Drawn} {tk tk0 : Nat} {os : OsState} {L n0 fr cc x1 x2 : Addr} {oF : Obj} {G : Nat → Int} {T : Nat → Nat} {mg : Str → Option Value}
  (D : Mem h₀ h chg ((fr, oF) :: (cc, kCc x1 x2 tk0) :: (x2, tabObj #[]) :: (n0 + 100, kNsB G T) :: news))
  (k3 : h₀.get? 3 = some (oAt w.params 3)) 
  (hg : h₀.Ns mainGlobals mg) (hgo : ∃ o, h₀.get? mainGlobals = some o ∧ hasCls o = true) (hb : ∀ P, h₀.get? P = none → h₀.BuiltinsAt mg P) (hnm : (mg "__name__").getD .none = .str (Str.ofString "law_kt0003_01") 312)
  (hR : ∀ aS aI fI cI oI vI qI aL fL cL oL vL qL aG fG aE fE aX fX aY fY tI tL tG tE tX tY h', Mem h₀ h' chg ((aY, kFnO fY) :: (aX, kFnO fX) :: (aE, kFnO fE) :: (aG, kFnO fG) :: (aL, kFnO fL) :: (cL, oL) :: (aI, kFnO fI) :: (cI, oI) :: (aS, kLs (tk + 2)) :: (fr, oF) :: (n0 + 100, kNsK [kE (G 0) (Str.ofString "__module__") (T 0) (.str (Str.ofString "cpy313.functools") tk), kE (G 1) (Str.ofString "__qualname__") (T 2) (.str (Str.ofString "cmp_to_key.<locals>.K") (T 3)), kE (G 2) (Str.ofString "__firstlineno__") (T 4) (.int 59 (T 5)), kE (kH w.params (Str.ofString "__slots__")) (Str.ofString "__slots__") (tk + 3) (.ref aS), kE (kH w.params (Str.ofString "__init__")) (Str.ofString "__init__") tI (.ref aI), kE (kH w.params (Str.ofString "__lt__")) (Str.ofString "__lt__") tL (.ref aL), kE (kH w.params (Str.ofString "__gt__")) (Str.ofString "__gt__") tG (.ref aG), kE (kH w.params (Str.ofString "__eq__")) (Str.ofString "__eq__") tE (.ref aE), kE (kH w.params (Str.ofString "__le__")) (Str.ofString "__le__") tX (.ref aX), kE (kH w.params (Str.ofString "__ge__")) (Str.ofString "__ge__") tY (.ref aY), kE (kH w.params (Str.ofString "__hash__")) (Str.ofString "__hash__") (tY + 1) .none] 11) :: news) → (∃ ctv doc, fI = fnX (Str.ofString "__init__") (qualnameIn (kBEnv w.params L n0 cc fr) (Str.ofString "__init__") (Str.ofString "__init__")) (kMeth w.params 2).params (kMeBody w.params 2) (kMeth w.params 2).scope [] .none .none doc (.str (Str.ofString "law_kt0003_01") 312) none (.ref cI) ctv) → (∃ ctv doc, fL = fnX (Str.ofString "__lt__") (qualnameIn (kBEnv w.params L n0 cc fr) (Str.ofString "__lt__") (Str.ofString "__lt__")) (kMeth w.params 3).params (kMeBody w.params 3) (kMeth w.params 3).scope [((Str.ofString "mycmp"), L + 1)] .none .none doc (.str (Str.ofString "law_kt0003_01") 312) none (.ref cL) ctv) → oI.data = .fields vI → vI[1]? = some (.str (Str.ofString "cmp_to_key.<locals>.K.__init__") qI) → oL.data = .fields vL → vL[1]? = some (.str (Str.ofString "cmp_to_key.<locals>.K.__lt__") qL) →
    R (.ok .next) ⟨h', g, d, tY + 2, os⟩) :
  codeAny (model PR w) A (.body (kBody w.params) (kBEnv w.params L n0 cc fr)) R ⟨h, g, d, tk, os⟩ := by
  have C := kcc_hd (D.at 1 _ _ rfl) (D.ne 1 2 _ _ _ _ rfl rfl rfl)
  have hB := hb _ (D.nw _ (List.mem_of_getElem? (i := 2) rfl)).2
  refine x_code ?_
  refine wpAny_bind (m := blockStart (kBody w.params) (kBEnv w.params L n0 cc fr)) ?_
  with_unfolding_all refine v_pure (a := ()) ?_
  refine wpAny_bind (wpAny_onRaise ?_)
  with_unfolding_all refine wpAny_execs_cons ?_
  repeat walk_at "vn"
  walk_at "vw"
  refine v_pure ?_
  show wpAny _ _ _ _ _ _
  with_unfolding_all refine wpAny_execs_cons ?_
  repeat walk_at "vn"
  walk_at "va"
  intro aS h1 D1 l1
  repeat walk_at "vn"
  walk_at "vw"
  refine v_pure ?_
  show wpAny _ _ _ _ _ _
  with_unfolding_all refine wpAny_execs_cons ?_
  replace D' : Mem h₀ h' chg ((aS, kLs (tk + 2)) :: (fr, oF) :: (cc, kCc x1 x2 tk0) :: (x2, tabObj #[]) :: (n0 + 100, kNsK [kE (G 0) (Str.ofString "__module__") (T 0) (.str (Str.ofString "cpy313.functools") tk), kE (G 1) (Str.ofString "__qualname__") (T 2) (.str (Str.ofString "cmp_to_key.<locals>.K") (T 3)), kE (G 2) (Str.ofString "__firstlineno__") (T 4) (.int 59 (T 5)), kE (kH w.params (Str.ofString "__slots__")) (Str.ofString "__slots__") (tk + 3) (.ref aS)] 4) :: news) := mem_cast D' (by kernel_rfl)
  with_unfolding_all refine nestDef_K rfl rfl rfl ?_
  refine mkfn (i := 3) (mg := mg) (clos := []) D' rfl (kcc_hd (D'.at 2 _ _ rfl) (D'.ne 2 3 _ _ _ _ rfl rfl rfl)) ?hcl rfl rfl ?ht ?hnf hg hgo hB ?_
  case hcl => with_unfolding_all rfl
  case ht => with_unfolding_all exact trivial
  case hnf => with_unfolding_all rfl
  intro aI fI cI oI vI qI hI tI eI D' dI wI
  replace D' : Mem h₀ hI chg ((aI, kFnO fI) :: (cI, oI) :: (aS, kLs (tk + 2)) :: (fr, oF) :: (cc, kCc x1 x2 tk0) :: (x2, tabObj #[rawInt 63, rawInt 8, .ref cI]) :: (n0 + 100, kNsK [kE (G 0) (Str.ofString "__module__") (T 0) (.str (Str.ofString "cpy313.functools") tk), kE (G 1) (Str.ofString "__qualname__") (T 2) (.str (Str.ofString "cmp_to_key.<locals>.K") (T 3)), kE (G 2) (Str.ofString "__firstlineno__") (T 4) (.int 59 (T 5)), kE (kH w.params (Str.ofString "__slots__")) (Str.ofString "__slots__") (tk + 3) (.ref aS)] 4) :: news) := mem_cast D' (by kernel_rfl)
  repeat walk_at "vn"
  walk_at "vw"
  refine v_pure ?_
  show wpAny _ _ _ _ _ _
  with_unfolding_all refine wpAny_execs_cons ?_
  replace D' : Mem h₀ h' chg ((aI, kFnO fI) :: (cI, oI) :: (aS, kLs (tk + 2)) :: (fr, oF) :: (cc, kCc x1 x2 tk0) :: (x2, tabObj #[rawInt 63, rawInt 8, .ref cI]) :: (n0 + 100, kNsK [kE (G 0) (Str.ofString "__module__") (T 0) (.str (Str.ofString "cpy313.functools") tk), kE (G 1) (Str.ofString "__qualname__") (T 2) (.str (Str.ofString "cmp_to_key.<locals>.K") (T 3)), kE (G 2) (Str.ofString "__firstlineno__") (T 4) (.int 59 (T 5)), kE (kH w.params (Str.ofString "__slots__")) (Str.ofString "__slots__") (tk + 3) (.ref aS), kE (kH w.params (Str.ofString "__init__")) (Str.ofString "__init__") tI (.ref aI)] 5) :: news) := mem_cast D' (by kernel_rfl)
  with_unfolding_all refine nestDef_K rfl rfl rfl ?_
  refine mkfn (i := 5) (mg := mg) (clos := [((Str.ofString "mycmp"), L + 1)]) D' rfl (kcc_hd (D'.at 4 _ _ rfl) (D'.ne 4 5 _ _ _ _ rfl rfl rfl)) ?hcl rfl rfl ?ht ?hnf hg hgo hB ?_
  case hcl => with_unfolding_all rfl
  case ht => with_unfolding_all exact trivial
  case hnf => with_unfolding_all rfl
  intro aL fL cL oL vL qL hL tL eL D' dL wL
  replace D' : Mem h₀ hL chg ((aL, kFnO fL) :: (cL, oL) :: (aI, kFnO fI) :: (cI, oI) :: (aS, kLs (tk + 2)) :: (fr, oF) :: (cc, kCc x1 x2 tk0) :: (x2, tabObj #[rawInt 63, rawInt 8, .ref cI, rawInt 66, rawInt 8, .ref cL]) :: (n0 + 100, kNsK [kE (G 0) (Str.ofString "__module__") (T 0) (.str (Str.ofString "cpy313.functools") tk), kE (G 1) (Str.ofString "__qualname__") (T 2) (.str (Str.ofString "cmp_to_key.<locals>.K") (T 3)), kE (G 2) (Str.ofString "__firstlineno__") (T 4) (.int 59 (T 5)), kE (kH w.params (Str.ofString "__slots__")) (Str.ofString "__slots__") (tk + 3) (.ref aS), kE (kH w.params (Str.ofString "__init__")) (Str.ofString "__init__") tI (.ref aI)] 5) :: news) := mem_cast D' (by kernel_rfl)
  repeat walk_at "vn"
  walk_at "vw"
  refine v_pure ?_
  show wpAny _ _ _ _ _ _
  with_unfolding_all refine wpAny_execs_cons ?_
  replace D' : Mem h₀ h' chg ((aL, kFnO fL) :: (cL, oL) :: (aI, kFnO fI) :: (cI, oI) :: (aS, kLs (tk + 2)) :: (fr, oF) :: (cc, kCc x1 x2 tk0) :: (x2, tabObj #[rawInt 63, rawInt 8, .ref cI, rawInt 66, rawInt 8, .ref cL]) :: (n0 + 100, kNsK [kE (G 0) (Str.ofString "__module__") (T 0) (.str (Str.ofString "cpy313.functools") tk), kE (G 1) (Str.ofString "__qualname__") (T 2) (.str (Str.ofString "cmp_to_key.<locals>.K") (T 3)), kE (G 2) (Str.ofString "__firstlineno__") (T 4) (.int 59 (T 5)), kE (kH w.params (Str.ofString "__slots__")) (Str.ofString "__slots__") (tk + 3) (.ref aS), kE (kH w.params (Str.ofString "__init__")) (Str.ofString "__init__") tI (.ref aI), kE (kH w.params (Str.ofString "__lt__")) (Str.ofString "__lt__") tL (.ref aL)] 6) :: news) := mem_cast D' (by kernel_rfl)
  with_unfolding_all refine nestDef_K rfl rfl rfl ?_
  refine mkfn (i := 7) (mg := mg) (clos := [((Str.ofString "mycmp"), L + 1)]) D' rfl (kcc_hd (D'.at 6 _ _ rfl) (D'.ne 6 7 _ _ _ _ rfl rfl rfl)) ?hcl rfl rfl ?ht ?hnf hg hgo hB ?_
  case hcl => with_unfolding_all rfl
  case ht => with_unfolding_all exact trivial
  case hnf => with_unfolding_all rfl
  intro aG fG cG oG vG qG hG tG eG D' dG wG
  replace D' : Mem h₀ hG chg ((aG, kFnO fG) :: (cG, oG) :: (aL, kFnO fL) :: (cL, oL) :: (aI, kFnO fI) :: (cI, oI) :: (aS, kLs (tk + 2)) :: (fr, oF) :: (cc, kCc x1 x2 tk0) :: (x2, tabObj #[rawInt 63, rawInt 8, .ref cI, rawInt 66, rawInt 8, .ref cL, rawInt 69, rawInt 8, .ref cG]) :: (n0 + 100, kNsK [kE (G 0) (Str.ofString "__module__") (T 0) (.str (Str.ofString "cpy313.functools") tk), kE (G 1) (Str.ofString "__qualname__") (T 2) (.str (Str.ofString "cmp_to_key.<locals>.K") (T 3)), kE (G 2) (Str.ofString "__firstlineno__") (T 4) (.int 59 (T 5)), kE (kH w.params (Str.ofString "__slots__")) (Str.ofString "__slots__") (tk + 3) (.ref aS), kE (kH w.params (Str.ofString "__init__")) (Str.ofString "__init__") tI (.ref aI), kE (kH w.params (Str.ofString "__lt__")) (Str.ofString "__lt__") tL (.ref aL)] 6) :: news) := mem_cast D' (by kernel_rfl)
  repeat walk_at "vn"
  walk_at "vw"
  refine v_pure ?_
  show wpAny _ _ _ _ _ _
  with_unfolding_all refine wpAny_execs_cons ?_
  replace D' : Mem h₀ h' chg ((aG, kFnO fG) :: (cG, oG) :: (aL, kFnO fL) :: (cL, oL) :: (aI, kFnO fI) :: (cI, oI) :: (aS, kLs (tk + 2)) :: (fr, oF) :: (cc, kCc x1 x2 tk0) :: (x2, tabObj #[rawInt 63, rawInt 8, .ref cI, rawInt 66, rawInt 8, .ref cL, rawInt 69, rawInt 8, .ref cG]) :: (n0 + 100, kNsK [kE (G 0) (Str.ofString "__module__") (T 0) (.str (Str.ofString "cpy313.functools") tk), kE (G 1) (Str.ofString "__qualname__") (T 2) (.str (Str.ofString "cmp_to_key.<locals>.K") (T 3)), kE (G 2) (Str.ofString "__firstlineno__") (T 4) (.int 59 (T 5)), kE (kH w.params (Str.ofString "__slots__")) (Str.ofString "__slots__") (tk + 3) (.ref aS), kE (kH w.params (Str.ofString "__init__")) (Str.ofString "__init__") tI (.ref aI), kE (kH w.params (Str.ofString "__lt__")) (Str.ofString "__lt__") tL (.ref aL), kE (kH w.params (Str.ofString "__gt__")) (Str.ofString "__gt__") tG (.ref aG)] 7) :: news) := mem_cast D' (by kernel_rfl)
  with_unfolding_all refine nestDef_K rfl rfl rfl ?_
  refine mkfn (i := 9) (mg := mg) (clos := [((Str.ofString "mycmp"), L + 1)]) D' rfl (kcc_hd (D'.at 8 _ _ rfl) (D'.ne 8 9 _ _ _ _ rfl rfl rfl)) ?hcl rfl rfl ?ht ?hnf hg hgo hB ?_
  case hcl => with_unfolding_all rfl
  case ht => with_unfolding_all exact trivial
  case hnf => with_unfolding_all rfl
  intro aE fE cE oE vE qE hE tE eE D' dE wE
  replace D' : Mem h₀ hE chg ((aE, kFnO fE) :: (cE, oE) :: (aG, kFnO fG) :: (cG, oG) :: (aL, kFnO fL) :: (cL, oL) :: (aI, kFnO fI) :: (cI, oI) :: (aS, kLs (tk + 2)) :: (fr, oF) :: (cc, kCc x1 x2 tk0) :: (x2, tabObj #[rawInt 63, rawInt 8, .ref cI, rawInt 66, rawInt 8, .ref cL, rawInt 69, rawInt 8, .ref cG, rawInt 72, rawInt 8, .ref cE]) :: (n0 + 100, kNsK [kE (G 0) (Str.ofString "__module__") (T 0) (.str (Str.ofString "cpy313.functools") tk), kE (G 1) (Str.ofString "__qualname__") (T 2) (.str (Str.ofString "cmp_to_key.<locals>.K") (T 3)), kE (G 2) (Str.ofString "__firstlineno__") (T 4) (.int 59 (T 5)), kE (kH w.params (Str.ofString "__slots__")) (Str.ofString "__slots__") (tk + 3) (.ref aS), kE (kH w.params (Str.ofString "__init__")) (Str.ofString "__init__") tI (.ref aI), kE (kH w.params (Str.ofString "__lt__")) (Str.ofString "__lt__") tL (.ref aL), kE (kH w.params (Str.ofString "__gt__")) (Str.ofString "__gt__") tG (.ref aG)] 7) :: news) := mem_cast D' (by kernel_rfl)
  repeat walk_at "vn"
  walk_at "vw"
  refine v_pure ?_
  show wpAny _ _ _ _ _ _
  with_unfolding_all refine wpAny_execs_cons ?_
  replace D' : Mem h₀ h' chg ((aE, kFnO fE) :: (cE, oE) :: (aG, kFnO fG) :: (cG, oG) :: (aL, kFnO fL) :: (cL, oL) :: (aI, kFnO fI) :: (cI, oI) :: (aS, kLs (tk + 2)) :: (fr, oF) :: (cc, kCc x1 x2 tk0) :: (x2, tabObj #[rawInt 63, rawInt 8, .ref cI, rawInt 66, rawInt 8, .ref cL, rawInt 69, rawInt 8, .ref cG, rawInt 72, rawInt 8, .ref cE]) :: (n0 + 100, kNsK [kE (G 0) (Str.ofString "__module__") (T 0) (.str (Str.ofString "cpy313.functools") tk), kE (G 1) (Str.ofString "__qualname__") (T 2) (.str (Str.ofString "cmp_to_key.<locals>.K") (T 3)), kE (G 2) (Str.ofString "__firstlineno__") (T 4) (.int 59 (T 5)), kE (kH w.params (Str.ofString "__slots__")) (Str.ofString "__slots__") (tk + 3) (.ref aS), kE (kH w.params (Str.ofString "__init__")) (Str.ofString "__init__") tI (.ref aI), kE (kH w.params (Str.ofString "__lt__")) (Str.ofString "__lt__") tL (.ref aL), kE (kH w.params (Str.ofString "__gt__")) (Str.ofString "__gt__") tG (.ref aG), kE (kH w.params (Str.ofString "__eq__")) (Str.ofString "__eq__") tE (.ref aE)] 8) :: news) := mem_cast D' (by kernel_rfl)
  with_unfolding_all refine nestDef_K rfl rfl rfl ?_
  refine mkfn (i := 11) (mg := mg) (clos := [((Str.ofString "mycmp"), L + 1)]) D' rfl (kcc_hd (D'.at 10 _ _ rfl) (D'.ne 10 11 _ _ _ _ rfl rfl rfl)) ?hcl rfl rfl ?ht ?hnf hg hgo hB ?_
  case hcl => with_unfolding_all rfl
  case ht => with_unfolding_all exact trivial
  case hnf => with_unfolding_all rfl
  intro aX fX cX oX vX qX hX tX eX D' dX wX
  replace D' : Mem h₀ hX chg ((aX, kFnO fX) :: (cX, oX) :: (aE, kFnO fE) :: (cE, oE) :: (aG, kFnO fG) :: (cG, oG) :: (aL, kFnO fL) :: (cL, oL) :: (aI, kFnO fI) :: (cI, oI) :: (aS, kLs (tk + 2)) :: (fr, oF) :: (cc, kCc x1 x2 tk0) :: (x2, tabObj #[rawInt 63, rawInt 8, .ref cI, rawInt 66, rawInt 8, .ref cL, rawInt 69, rawInt 8, .ref cG, rawInt 72, rawInt 8, .ref cE, rawInt 75, rawInt 8, .ref cX]) :: (n0 + 100, kNsK [kE (G 0) (Str.ofString "__module__") (T 0) (.str (Str.ofString "cpy313.functools") tk), kE (G 1) (Str.ofString "__qualname__") (T 2) (.str (Str.ofString "cmp_to_key.<locals>.K") (T 3)), kE (G 2) (Str.ofString "__firstlineno__") (T 4) (.int 59 (T 5)), kE (kH w.params (Str.ofString "__slots__")) (Str.ofString "__slots__") (tk + 3) (.ref aS), kE (kH w.params (Str.ofString "__init__")) (Str.ofString "__init__") tI (.ref aI), kE (kH w.params (Str.ofString "__lt__")) (Str.ofString "__lt__") tL (.ref aL), kE (kH w.params (Str.ofString "__gt__")) (Str.ofString "__gt__") tG (.ref aG), kE (kH w.params (Str.ofString "__eq__")) (Str.ofString "__eq__") tE (.ref aE)] 8) :: news) := mem_cast D' (by kernel_rfl)
  repeat walk_at "vn"
  walk_at "vw"
  refine v_pure ?_
  show wpAny _ _ _ _ _ _
  with_unfolding_all refine wpAny_execs_cons ?_
  replace D' : Mem h₀ h' chg ((aX, kFnO fX) :: (cX, oX) :: (aE, kFnO fE) :: (cE, oE) :: (aG, kFnO fG) :: (cG, oG) :: (aL, kFnO fL) :: (cL, oL) :: (aI, kFnO fI) :: (cI, oI) :: (aS, kLs (tk + 2)) :: (fr, oF) :: (cc, kCc x1 x2 tk0) :: (x2, tabObj #[rawInt 63, rawInt 8, .ref cI, rawInt 66, rawInt 8, .ref cL, rawInt 69, rawInt 8, .ref cG, rawInt 72, rawInt 8, .ref cE, rawInt 75, rawInt 8, .ref cX]) :: (n0 + 100, kNsK [kE (G 0) (Str.ofString "__module__") (T 0) (.str (Str.ofString "cpy313.functools") tk), kE (G 1) (Str.ofString "__qualname__") (T 2) (.str (Str.ofString "cmp_to_key.<locals>.K") (T 3)), kE (G 2) (Str.ofString "__firstlineno__") (T 4) (.int 59 (T 5)), kE (kH w.params (Str.ofString "__slots__")) (Str.ofString "__slots__") (tk + 3) (.ref aS), kE (kH w.params (Str.ofString "__init__")) (Str.ofString "__init__") tI (.ref aI), kE (kH w.params (Str.ofString "__lt__")) (Str.ofString "__lt__") tL (.ref aL), kE (kH w.params (Str.ofString "__gt__")) (Str.ofString "__gt__") tG (.ref aG), kE (kH w.params (Str.ofString "__eq__")) (Str.ofString "__eq__") tE (.ref aE), kE (kH w.params (Str.ofString "__le__")) (Str.ofString "__le__") tX (.ref aX)] 9) :: news) := mem_cast D' (by kernel_rfl)
  with_unfolding_all refine nestDef_K rfl rfl rfl ?_
  refine mkfn (i := 13) (mg := mg) (clos := [((Str.ofString "mycmp"), L + 1)]) D' rfl (kcc_hd (D'.at 12 _ _ rfl) (D'.ne 12 13 _ _ _ _ rfl rfl rfl)) ?hcl rfl rfl ?ht ?hnf hg hgo hB ?_
  case hcl => with_unfolding_all rfl
  case ht => with_unfolding_all exact trivial
  case hnf => with_unfolding_all rfl
  intro aY fY cY oY vY qY hY tY eY D' dY wY
  replace D' : Mem h₀ hY chg ((aY, kFnO fY) :: (cY, oY) :: (aX, kFnO fX) :: (cX, oX) :: (aE, kFnO fE) :: (cE, oE) :: (aG, kFnO fG) :: (cG, oG) :: (aL, kFnO fL) :: (cL, oL) :: (aI, kFnO fI) :: (cI, oI) :: (aS, kLs (tk + 2)) :: (fr, oF) :: (cc, kCc x1 x2 tk0) :: (x2, tabObj #[rawInt 63, rawInt 8, .ref cI, rawInt 66, rawInt 8, .ref cL, rawInt 69, rawInt 8, .ref cG, rawInt 72, rawInt 8, .ref cE, rawInt 75, rawInt 8, .ref cX, rawInt 78, rawInt 8, .ref cY]) :: (n0 + 100, kNsK [kE (G 0) (Str.ofString "__module__") (T 0) (.str (Str.ofString "cpy313.functools") tk), kE (G 1) (Str.ofString "__qualname__") (T 2) (.str (Str.ofString "cmp_to_key.<locals>.K") (T 3)), kE (G 2) (Str.ofString "__firstlineno__") (T 4) (.int 59 (T 5)), kE (kH w.params (Str.ofString "__slots__")) (Str.ofString "__slots__") (tk + 3) (.ref aS), kE (kH w.params (Str.ofString "__init__")) (Str.ofString "__init__") tI (.ref aI), kE (kH w.params (Str.ofString "__lt__")) (Str.ofString "__lt__") tL (.ref aL), kE (kH w.params (Str.ofString "__gt__")) (Str.ofString "__gt__") tG (.ref aG), kE (kH w.params (Str.ofString "__eq__")) (Str.ofString "__eq__") tE (.ref aE), kE (kH w.params (Str.ofString "__le__")) (Str.ofString "__le__") tX (.ref aX)] 9) :: news) := mem_cast D' (by kernel_rfl)
  repeat walk_at "vn"
  walk_at "vw"
  refine v_pure ?_
  show wpAny _ _ _ _ _ _
  with_unfolding_all refine wpAny_execs_cons ?_
  replace D' : Mem h₀ h' chg ((aY, kFnO fY) :: (cY, oY) :: (aX, kFnO fX) :: (cX, oX) :: (aE, kFnO fE) :: (cE, oE) :: (aG, kFnO fG) :: (cG, oG) :: (aL, kFnO fL) :: (cL, oL) :: (aI, kFnO fI) :: (cI, oI) :: (aS, kLs (tk + 2)) :: (fr, oF) :: (cc, kCc x1 x2 tk0) :: (x2, tabObj #[rawInt 63, rawInt 8, .ref cI, rawInt 66, rawInt 8, .ref cL, rawInt 69, rawInt 8, .ref cG, rawInt 72, rawInt 8, .ref cE, rawInt 75, rawInt 8, .ref cX, rawInt 78, rawInt 8, .ref cY]) :: (n0 + 100, kNsK [kE (G 0) (Str.ofString "__module__") (T 0) (.str (Str.ofString "cpy313.functools") tk), kE (G 1) (Str.ofString "__qualname__") (T 2) (.str (Str.ofString "cmp_to_key.<locals>.K") (T 3)), kE (G 2) (Str.ofString "__firstlineno__") (T 4) (.int 59 (T 5)), kE (kH w.params (Str.ofString "__slots__")) (Str.ofString "__slots__") (tk + 3) (.ref aS), kE (kH w.params (Str.ofString "__init__")) (Str.ofString "__init__") tI (.ref aI), kE (kH w.params (Str.ofString "__lt__")) (Str.ofString "__lt__") tL (.ref aL), kE (kH w.params (Str.ofString "__gt__")) (Str.ofString "__gt__") tG (.ref aG), kE (kH w.params (Str.ofString "__eq__")) (Str.ofString "__eq__") tE (.ref aE), kE (kH w.params (Str.ofString "__le__")) (Str.ofString "__le__") tX (.ref aX), kE (kH w.params (Str.ofString "__ge__")) (Str.ofString "__ge__") tY (.ref aY)] 10) :: news) := mem_cast D' (by kernel_rfl)
  repeat walk_at "vn"
  walk_at "vw"
  refine v_pure ?_
  show wpAny _ _ _ _ _ _
  replace D' : Mem h₀ h' chg ((aY, kFnO fY) :: (cY, oY) :: (aX, kFnO fX) :: (cX, oX) :: (aE, kFnO fE) :: (cE, oE) :: (aG, kFnO fG) :: (cG, oG) :: (aL, kFnO fL) :: (cL, oL) :: (aI, kFnO fI) :: (cI, oI) :: (aS, kLs (tk + 2)) :: (fr, oF) :: (cc, kCc x1 x2 tk0) :: (x2, tabObj #[rawInt 63, rawInt 8, .ref cI, rawInt 66, rawInt 8, .ref cL, rawInt 69, rawInt 8, .ref cG, rawInt 72, rawInt 8, .ref cE, rawInt 75, rawInt 8, .ref cX, rawInt 78, rawInt 8, .ref cY]) :: (n0 + 100, kNsK [kE (G 0) (Str.ofString "__module__") (T 0) (.str (Str.ofString "cpy313.functools") tk), kE (G 1) (Str.ofString "__qualname__") (T 2) (.str (Str.ofString "cmp_to_key.<locals>.K") (T 3)), kE (G 2) (Str.ofString "__firstlineno__") (T 4) (.int 59 (T 5)), kE (kH w.params (Str.ofString "__slots__")) (Str.ofString "__slots__") (tk + 3) (.ref aS), kE (kH w.params (Str.ofString "__init__")) (Str.ofString "__init__") tI (.ref aI), kE (kH w.params (Str.ofString "__lt__")) (Str.ofString "__lt__") tL (.ref aL), kE (kH w.params (Str.ofString "__gt__")) (Str.ofString "__gt__") tG (.ref aG), kE (kH w.params (Str.ofString "__eq__")) (Str.ofString "__eq__") tE (.ref aE), kE (kH w.params (Str.ofString "__le__")) (Str.ofString "__le__") tX (.ref aX), kE (kH w.params (Str.ofString "__ge__")) (Str.ofString "__ge__") tY (.ref aY), kE (kH w.params (Str.ofString "__hash__")) (Str.ofString "__hash__") (tY + 1) .none] 11) :: news) := mem_cast D' (by kernel_rfl)
  refine wpAny_execs_nil ?_
  with_unfolding_all refine v_pure ?_
  obtain ⟨cvI, dcI, eI⟩ := eI
  obtain ⟨cvL, dcL, eL⟩ := eL
  rw [hnm] at eI eL
  exact hR aS aI fI cI oI vI qI aL fL cL oL vL qL aG fG aE fE aX fX aY fY tI tL tG tE tX tY h' (mem_sub D' (by repeat (first | exact List.Sublist.refl _ | with_reducible apply List.Sublist.cons_cons | apply List.Sublist.cons))) ⟨cvI, dcI, eI.trans (by kernel_rfl)⟩ ⟨cvL, dcL, eL.trans (by kernel_rfl)⟩ dI (wI.trans (by kernel_rfl)) dL (wL.trans (by kernel_rfl))
end Mine
end
section
open PySem PySem.W PyProof.Rows PySem.Calls PySem.MeetsSeq PySem.W.X
open Sem (wp)
namespace Mine
local macro_rules | `(tactic| walk_at "pad") => `(tactic| skip)
noncomputable abbrev kEnv (P : Params) (L : Addr) : Env := envOfC (Str.ofString "cmp_to_key") (kFd P).scope L 95 (.ref 94)
abbrev kFr (cc n0 : Addr) : Obj := ⟨.type "frame", none, .plain, #[some (.ref cc), some (.ref 3), some (.ref (n0 + 100)), none, some (.str (Str.ofString "law_kt0003_01") 312), none, some (.ref 0)]⟩
abbrev kX1 (tk : Nat) : Obj := ⟨.type "tuple", none, .seq #[.str (Str.ofString "mycmp") (tk + 5)] 0, #[]⟩
abbrev kPb : Obj := ⟨.type "builtin_function_or_method", none, .fields #[.builtin "type.__prepare__", .type "type"], #[]⟩
abbrev kBs : Obj := ⟨.type "tuple", none, .seq #[.type "object"] 0, #[]⟩
def kG (P : Params) (i : Nat) : Int := [kH P (Str.ofString "__module__"), kH P (Str.ofString "__qualname__"), kH P (Str.ofString "__firstlineno__")].getD i 0
def kT (tk : Nat) (i : Nat) : Nat := [tk + 8, 0, tk + 10, tk + 9, tk + 12, tk + 11].getD i 0
def kGz (P : Params) (i : Nat) : Int := [kH P (Str.ofString "__module__"), kH P (Str.ofString "__firstlineno__"), kH P (Str.ofString "__slots__"), kH P (Str.ofString "__init__"), kH P (Str.ofString "__lt__"), kH P (Str.ofString "__gt__"), kH P (Str.ofString "__eq__"), kH P (Str.ofString "__le__"), kH P (Str.ofString "__ge__"), kH P (Str.ofString "__hash__"), kH P (Str.ofString "__static_attributes__"), 0, 0, kH P (Str.ofString "__qualname__")].getD i 0
def kTz (tk tI tL tG tE tX tY : Nat) (i : Nat) : Nat := [tk + 8, tk + 13, tk + 10, tk + 9, tk + 12, tk + 11, tk + 16, tI, tL, tG, tE, tX, tY, tY + 1, tY + 3].getD i 0
abbrev kTt (t : Tok) : Obj := ⟨.type "tuple", none, .seq #[.str (Str.ofString "obj") t] 0, #[]⟩
theorem mem_cast2 {h₀ h : Heap} {chg chg' news news' : List (Addr × Obj)} (D : Mem h₀ h chg news) (e' : chg = chg') (e : news = news') : Mem h₀ h chg' news' := e ▸ e' ▸ D
/-- the addresses and the like of the class that cmp_to_key makes -/
structure KA where
  C : Addr
  N : Addr
  bs : Addr
  aM : Addr
  aI : Addr
  aL : Addr
  cI : Addr
  cL : Addr
  aS : Addr
  aG : Addr
  aE : Addr
  aX : Addr
  aY : Addr
  aT : Addr
  fI : FuncData
  fL : FuncData
  oI : Obj
  oL : Obj
  vI : Array Value
  vL : Array Value
  qI : Tok
  qL : Tok
  nt : Tok
  t3 : Tok
  tm : Nat
  G : Nat → Int
  T : Nat → Nat
  ga : Int
  gb : Int
abbrev qnI : Str := Str.ofString "cmp_to_key.<locals>.K.__init__"
abbrev qnL : Str := Str.ofString "cmp_to_key.<locals>.K.__lt__"
/-- what stands of that class -/
structure KRm (P : Params) (L : Addr) (k : KA) (h : Heap) : Prop where
  hC : h.get? k.C = some (kCz k.C k.N k.bs k.nt k.t3)
  hN : h.get? k.N = some (kNs1 k.G k.T 3 k.aS k.aI k.aL k.aG k.aE k.aX k.aY k.aT [kE k.ga (Str.ofString "obj") (k.tm + 1) (.ref k.aM), kE k.gb (Str.ofString "__doc__") (k.tm + 2) .none])
  hM : h.get? k.aM = some (kM k.C k.tm)
  hI : h.get? k.aI = some (kFnO k.fI)
  eI : ∃ ctv doc, k.fI = fnX (Str.ofString "__init__") qnI (kMeth P 2).params (kMeBody P 2) (kMeth P 2).scope [] .none .none doc (.str (Str.ofString "law_kt0003_01") 312) none (.ref k.cI) ctv
  hcI : h.get? k.cI = some k.oI
  dI : k.oI.data = .fields k.vI
  wI : k.vI[1]? = some (.str qnI k.qI)
  hL : h.get? k.aL = some (kFnO k.fL)
  eL : ∃ ctv doc, k.fL = fnX (Str.ofString "__lt__") qnL (kMeth P 3).params (kMeBody P 3) (kMeth P 3).scope [(Str.ofString "mycmp", L + 1)] .none .none doc (.str (Str.ofString "law_kt0003_01") 312) none (.ref k.cL) ctv
  hcL : h.get? k.cL = some k.oL
  dL : k.oL.data = .fields k.vL
  wL : k.vL[1]? = some (.str qnL k.qL)
abbrev KA.all (k : KA) : List Addr := [k.C, k.N, k.aM, k.aI, k.aL, k.cI, k.cL]
set_option maxHeartbeats 0 in
theorem kst {w : World} {A : Around} {Q : Flow → Shared → Prop} {E : Value → Shared → Prop} {h : Heap} {g : Array GenState} {d : Drawn} {tk : Nat} {os : OsState} {L : Addr}
  {o0 : Obj} (k0 : h.get? 0 = some o0) (n1 : nsLook (Str.ofString "__build_class__") o0 = pure (some (.builtin "__build_class__"))) (n2 : nsLook (Str.ofString "object") o0 = pure (some (.type "object"))) (k2 : h.get? 2 = some ⟨.none, none, .dict #[] 0, #[]⟩) (k3 : h.get? 3 = some (oAt w.params 3)) {sl4 : Array (Option Value)} (k4 : h.get? 4 = some ⟨.type "module", some 0, .plain, sl4⟩) (k104 : h.get? 104 = some (oAt w.params 104)) (k94 : h.get? 94 = some (oAt w.params 94)) (k90 : h.get? 90 = some (tableObj #[])) (kt : h.TableAt 94 90 #[])
  (hd : A.depth < recursionLimit) {mg : Str → Option Value} (hg : h.Ns mainGlobals mg) (hb : ∀ P, h.get? P = none → h.BuiltinsAt mg P) (hnm : (mg "__name__").getD .none = .str (Str.ofString "law_kt0003_01") 312)
  (hQ : ∀ (k : KA) cc hz tk', KRm w.params L k hz → (∀ b o, h.get? b = some o → b ≠ 90 → hz.get? b = some o) → hz.get? 90 = some (tabObj #[rawInt 59, rawInt 4, .ref cc]) → (∀ a ∈ k.all, h.get? a = none) →
    wpAny (model PR w) A (storeName (kEnv w.params L) (Str.ofString "K") (.ref k.C)) (fun _ s' => Q .next s') E ⟨hz, g, d, tk', os⟩) : wpAny (model PR w) A (exec (kSt w.params) (kEnv w.params L)) Q E ⟨h, g, d, tk, os⟩ := by
  have D : Mem h h [] [] := Mem.start h
  repeat walk_at "vn"
  walk_at "vw"
  (with_reducible refine' v_load ?ho ?_); (case ho => exact k0)
  simp only [pb1, n1]
  repeat walk_at "vn"
  walk_at "vw"
  (with_reducible refine' v_load ?ho ?_); (case ho => exact k0)
  simp only [pb1, n2]
  repeat walk_at "vn"
  walk_at "va"
  intro bs h1 D1 l1
  rw [XFast.xe10380811246957099773, XFast.xe14684505520029207082, XFast.xe16098473122060591676, XFast.xe18250491105767826471, XFast.xe4214721358667687652]
  repeat walk_at "vn"
  walk_at "vk"
  repeat walk_at "yn"
  walk_at "yw"
  walk_at "yk"
  repeat walk_at "yn"
  walk_at "yw"
  walk_at "ya"
  intro pb h2 D2
  repeat walk_at "yn"
  refine v_back ?_
  repeat walk_at "vn"
  walk_at "vk"
  repeat walk_at "yn"
  walk_at "yb"
  intro a0 h3 D3 l3
  obtain ⟨n0, rfl⟩ : ∃ n0, a0 = n0 + 100 := ⟨a0 - 100, (Nat.sub_add_cancel (Nat.le_of_lt (Nat.lt_of_le_of_lt (by decide) (show (104 : Nat) < a0 from l3 104 _ (D2.old _ _ k104 rfl))))).symm⟩
  clear l3
  repeat walk_at "yn"
  refine v_back ?_
  repeat walk_at "vn"
  walk_at "va"
  intro x1 h4 D4 l4
  walk_at "va"
  intro x2 h5 D5 l5
  repeat walk_at "vn"
  walk_at "va"
  intro cc h6 D6 l6
  repeat walk_at "vn"
  walk_at "vw"
  refine v_grow (more := #[rawInt 59, rawInt 4, .ref cc]) D6 kt rfl (by kernel_rfl) ?_
  intro h7 D7
  repeat walk_at "vn"
  walk_at "va"
  intro fr h8 D8 l8
  refine wpAny_bind ?_
  refine v_keep ?_
  refine v_keep ?_
  refine wpAny_bind (wpAny_pure ?_)
  refine wpAny_bind ?_
  with_unfolding_all refine v_pure (a := [(Str.ofString "mycmp", L + 1)]) ?_
  refine v_keep ?_
  refine wpAny_bind (wpAny_enterFrame (nolimit_of (D8.old _ _ k2 rfl)) hd ?_)
  repeat walk_at "vn"
  replace D' : Mem h h' [(90, tabObj #[rawInt 59, rawInt 4, .ref cc])] ((fr, kFr cc n0) :: (cc, kCc x1 x2 tk) :: (x2, tabObj #[]) :: (x1, kX1 tk) :: (n0 + 100, kNsB (kG w.params) (kT tk)) :: (pb, kPb) :: (bs, kBs) :: []) := mem_cast2 D' rfl (by kernel_rfl)
  replace D' : Mem h h' [(90, tabObj #[rawInt 59, rawInt 4, .ref cc])] ((fr, kFr cc n0) :: (cc, kCc x1 x2 tk) :: (x2, tabObj #[]) :: (n0 + 100, kNsB (kG w.params) (kT tk)) :: (bs, kBs) :: []) := mem_sub D' (by repeat (first | exact List.Sublist.refl _ | with_reducible apply List.Sublist.cons_cons | apply List.Sublist.cons))
  walk_at "vw"
  with_unfolding_all refine' v_call ?hn (kbody D' k3 hg ⟨_, k3, ?hc⟩ hb hnm ?_)
  case hn => (intro h; cases h)
  case hc => kernel_rfl
  intro aS aI fI cI oI vI qI aL fL cL oL vL qL aG fG aE fE aX fX aY fY tI tL tG tE tX tY hK DK eI eL dI wI dL wL
  with_unfolding_all refine v_back ?_
  repeat walk_at "vn"
  walk_at "va"
  intro aT h9 D9 l9
  repeat walk_at "vn"
  replace D' : Mem h h' [(90, tabObj #[rawInt 59, rawInt 4, .ref cc])] ((aT, kTt (tY + 2)) :: (aY, kFnO fY) :: (aX, kFnO fX) :: (aE, kFnO fE) :: (aG, kFnO fG) :: (aL, kFnO fL) :: (cL, oL) :: (aI, kFnO fI) :: (cI, oI) :: (aS, kLs (tk + 15)) :: (fr, kFr cc n0) :: (n0 + 100, kNs0 (kGz w.params) (kTz tk tI tL tG tE tX tY) aS aI aL aG aE aX aY aT) :: (bs, kBs) :: []) := mem_cast D' (by kernel_rfl)
  walk_at "vw"
  with_unfolding_all refine' v_call ?hn (tcall (D'.at 12 _ _ rfl) (D'.at 11 _ _ rfl) (D'.at 9 _ _ rfl) (D'.at 7 _ _ rfl) (D'.at 5 _ _ rfl) (D'.at 4 _ _ rfl) (D'.at 3 _ _ rfl) (D'.at 2 _ _ rfl) (D'.at 1 _ _ rfl) (D'.at 0 _ _ rfl) (D'.old _ _ k2 rfl) ?_)
  case hn => (intro h; cases h)
  intro bo so aM C N lx hz Dz
  with_unfolding_all refine v_back ?_
  repeat walk_at "vn"
  with_unfolding_all refine v_pure (a := Value.ref C) ?_
  show wpAny _ _ _ _ _ _
  refine wpAny_bind ?_
  with_unfolding_all refine v_pure (a := Value.ref C) ?_
  refine wpAny_bind (wpAny_standAt ?_)
  refine wpAny_bind (wpAny_bindName ?_)
  have up : ∀ b o, h'.get? b = some o → hz.get? b = some o := fun b o e => Dz.keep b o e (by rw [Bool.or_eq_true]; exact .inr rfl)
  have no : ∀ (i : Nat) (p : Addr × Obj), [(bo, kBo C), (so, kSo C), (aM, kM C (tY + 2 + 1 + 1)), (C, kCz C N bs tk (kTz tk tI tL tG tE tX tY 3)), (N, kNs1 (kGz w.params) (kTz tk tI tL tG tE tX tY) 3 aS aI aL aG aE aX aY aT [kE (kHash w.params (Str.ofString "obj")) (Str.ofString "obj") (tY + 2 + 1 + 1 + 1) (.ref aM), kE (kHash w.params (Str.ofString "__doc__")) (Str.ofString "__doc__") (tY + 2 + 1 + 1 + 2) .none]), (lx, kLx (tk + 15))][i]? = some p → h.get? p.1 = none := fun i p e => by
    have z := (Dz.nw p (List.mem_of_getElem? e)).2
    cases q : h.get? p.1 with
    | none => rfl
    | some o =>
      obtain ⟨o', e'⟩ := D'.there q
      rw [e'] at z; cases z
  refine wpAny_mono (hQ ⟨C, N, bs, aM, aI, aL, cI, cL, aS, aG, aE, aX, aY, aT, fI, fL, oI, oL, vI, vL, qI, qL, _, _, _, kGz w.params, kTz tk tI tL tG tE tX tY, _, _⟩ cc hz _
    ⟨Dz.at 3 _ _ rfl, Dz.at 4 _ _ rfl, Dz.at 2 _ _ rfl, up _ _ (D'.at 7 _ _ rfl), ?eI, up _ _ (D'.at 8 _ _ rfl), dI, wI, up _ _ (D'.at 5 _ _ rfl), ?eL, up _ _ (D'.at 6 _ _ rfl), dL, wL⟩
    (fun b o e n => up _ _ (D'.keep b o e ?kp)) (up _ _ (D'.atC 0 _ _ rfl)) (fun a ha => ?fr)) (fun _ s' h' => wpAny_pure h') fun _ _ x => x
  case eI =>
    obtain ⟨ctv, doc, e⟩ := eI
    exact ⟨ctv, doc, e.trans (by kernel_rfl)⟩
  case eL =>
    obtain ⟨ctv, doc, e⟩ := eL
    exact ⟨ctv, doc, e.trans (by kernel_rfl)⟩
  case kp =>
    rw [Bool.or_eq_true]; right
    simp only [away, List.all_cons, List.all_nil, Bool.and_true]
    cases hb : Nat.beq 90 b with
    | false => rfl
    | true => exact absurd (Nat.eq_of_beq_eq_true hb).symm n
  case fr =>
    simp only [KA.all, List.mem_cons, List.not_mem_nil, or_false] at ha
    rcases ha with rfl | rfl | rfl | rfl | rfl | rfl | rfl
    · exact no 3 _ rfl
    · exact no 4 _ rfl
    · exact no 2 _ rfl
    · exact (D'.nw _ (List.mem_of_getElem? (i := 7) rfl)).2
    · exact (D'.nw _ (List.mem_of_getElem? (i := 5) rfl)).2
    · exact (D'.nw _ (List.mem_of_getElem? (i := 8) rfl)).2
    · exact (D'.nw _ (List.mem_of_getElem? (i := 6) rfl)).2
end Mine
end
section
open PySem PySem.W PyProof.Rows PySem.Calls PySem.MeetsSeq PySem.W.X
open Sem (wp)
namespace Mine
theorem ns_name {P : Params} {h : Heap} {mg : Str → Option Value} (k3 : h.get? 3 = some (oAt P 3)) (hg : h.Ns mainGlobals mg) : (mg "__name__").getD .none = .str (Str.ofString "law_kt0003_01") 312 := by
  obtain ⟨o, es, ep, e, hd, _, hm⟩ := hg
  have e' : h.get? 3 = some o := e
  rw [k3] at e'
  have e2 : o = oAt P 3 := (Option.some.inj e').symm
  have e3 : es = (match (oAt P 3).data with | .dict es _ => es | _ => #[]) := by rw [← e2, hd]
  rw [← hm, e3]
  kernel_rfl
set_option maxHeartbeats 0 in
theorem cmp_c {w : World} {outer : List Env} {gd : Option (List Code)} {s : Shared} {base : Heap} {p : Program} {loose : List Str} {mean : ExcName → Option Value} {mg mb : Str → Option Value}
  {aF : Addr} {oF : Obj} {R : Result → Shared → Prop}
  (X : Wld w base) (T : Top p loose mean mg mb base) (B : Below (AY 720 7200 outer gd) base outer s.heap)
  (hN : ∀ p ∈ [((90 : Addr), tabObj #[]), (aF, oF)], s.heap.get? p.1 = some p.2 ∧ base.get? p.1 = none ∧ p.1 ∉ fsOf outer)
  (hR : ∀ (k : KA) L cc oc h' tk, KRm w.params L k h' → h'.get? (L + 1) = some oc → oc.data = .cell (some (.ref aF)) → (∀ b o, s.heap.get? b = some o → b ≠ 90 → h'.get? b = some o) → h'.get? 90 = some (tabObj #[rawInt 59, rawInt 4, .ref cc]) →
    (∀ a ∈ (L + 1) :: k.all, s.heap.get? a = none) → R (.ok (.ret (.ref k.C))) { s with heap := h', toks := tk }) :
  codeAny (model PR w) (AY 720 7200 outer gd) (.call (.ref 95) ⟨[.ref aF], []⟩) R s := by
  refine' enterHC X T B [(90, tabObj #[]), (aF, oF)] hN ?k6 ?k7 ?k8 ?k9 ?kB ?kD ?_ ?c2 ?c3 ?c4
  case k6 => k_is
  case k7 => k_is
  case k8 => exact (show (720 : Nat) < 1000 by decide)
  case k9 => exact BindsTo.of_eq rfl
  case kB => exact rfl
  case kD => decide +kernel
  case c2 => exact rfl
  case c3 => exact rfl
  case c4 => exact rfl
  intro g L h₁ tk cells hg1 hg2 F N Y B' X' T' l1
  obtain ⟨oA, hE', dA⟩ := CellsAre.one Y
  subst hE'
  clear Y
  replace dA : oA.data = .cell (some (.ref aF)) := dA
  have Xg : (KB w.params).In g := (X.keeps B'.stays).xb
  have at_ : ∀ a o, (KB w.params).lookup a = some o → h₁.get? a = some o := fun a o e => F.keep _ _ (Xg _ _ e)
  have hg : h₁.Ns mainGlobals mg := T'.g.keeps F.keep
  have k3 : h₁.get? 3 = some (oAt w.params 3) := at_ 3 _ (by kernel_rfl)
  have k90 : h₁.get? 90 = some (tabObj #[]) := (N (90, tabObj #[]) (by simp)).1
  have k94 : h₁.get? 94 = some (oAt w.params 94) := at_ 94 _ (by kernel_rfl)
  have k104 : h₁.get? 104 = some (oAt w.params 104) := at_ 104 _ (by kernel_rfl)
  have k4 : ∃ sl4, h₁.get? 4 = some ⟨.type "module", some 0, .plain, sl4⟩ := by
    obtain ⟨bm, ob, b1, _, b3, b4, b5, b6⟩ := T'.bmain
    have q : mg "__builtins__" = some (.ref 4) := mg_of Xg T'.g (by kernel_rfl)
    rw [b1] at q
    cases q
    obtain ⟨c, d, e, f⟩ := ob
    cases b4; cases b5; cases b6
    exact ⟨f, F.keep _ _ b3⟩
  obtain ⟨sl4, k4⟩ := k4
  obtain ⟨o0, es0, ep0, e0, z0⟩ := T'.b
  have k0 : h₁.get? 0 = some o0 := F.keep _ _ e0
  have n1 : nsLook (Str.ofString "__build_class__") o0 = pure (some (.builtin "__build_class__")) := (ns_look T'.b e0 _).trans (by rw [T'.builtins _ (by decide)]; exact congrArg _ (by decide +kernel))
  have n2 : nsLook (Str.ofString "object") o0 = pure (some (.type "object")) := (ns_look T'.b e0 _).trans (by rw [T'.builtins _ (by decide)]; exact congrArg _ (by decide +kernel))
  refine wpAny_execs_cons ?_
  obtain ⟨h0, gg, dd, t0, os⟩ := s
  with_unfolding_all refine kst (L := L) (mg := mg) k0 n1 n2 (at_ 2 _ (by kernel_rfl)) k3 k4 k104 k94 k90 ?kt ?hd hg ?hb (ns_name k3 hg) ?_
  case kt => exact table_at (vs := match (oAt w.params 94).data with | .fields vs => vs | _ => #[]) k94 (by kernel_rfl) (by kernel_rfl) k90 rfl
  case hd => exact (show (721 : Nat) < 1000 by decide)
  case hb =>
    intro P hP
    obtain ⟨bm, ob, b1, b2, b3, b4, b5, b6⟩ := T'.bmain
    refine ⟨bm, ob, b1, b2, fun q => ?_, fun q => ?_, F.keep _ _ b3, b4, b5, b6⟩
    · obtain ⟨o, es, ep, e, hd, _⟩ := T'.g
      rw [q, e] at b3; cases b3; rw [hd] at b6; cases b6
    · have e := F.keep _ _ b3
      rw [q, hP] at e; cases e
  intro k cc hz tk' Kr keep k90z fresh
  have nL : ∀ a ∈ k.all, a ≠ L := fun a ha q => by
    obtain ⟨o, es, ep, e, _⟩ := F.ns
    have z := fresh a ha
    rw [q] at z
    have e' : h₁.get? L = some o := e
    rw [e'] at z; cases z
  have L90 : L ≠ 90 := fun q => by
    have z := l1 (90, tabObj #[]) (by simp)
    rw [q] at z
    exact Nat.lt_irrefl _ z
  have Fz : hz.Ns L _ := F.ns.extBut (b := 90) (fun b o n e => keep b o e n) L90
  refine wpAny_storeName_local rfl Fz (fun h2 ns2 sb2 => ?_)
  show wpAny _ _ _ _ _ _
  refine wpAny_execs_cons ?_
  refine wpAny_Return_some ?_
  refine wpAny_Name (wpAny_loadName_local rfl rfl ns2 (if_pos rfl) ?_) (by decide)
  have up : ∀ b o, hz.get? b = some o → b ≠ L → h2.get? b = some o := fun b o e n => (sb2.2 b n).trans e
  have Kr2 : KRm w.params L k h2 := by
    have m : ∀ a, a ∈ k.all → ∀ o, hz.get? a = some o → h2.get? a = some o := fun a ha o e => up a o e (nL a ha)
    exact ⟨m _ (by simp) _ Kr.hC, m _ (by simp) _ Kr.hN, m _ (by simp) _ Kr.hM, m _ (by simp) _ Kr.hI, Kr.eI, m _ (by simp) _ Kr.hcI, Kr.dI, Kr.wI, m _ (by simp) _ Kr.hL, Kr.eL, m _ (by simp) _ Kr.hcL, Kr.dL, Kr.wL⟩
  have hi : ∀ b o, h0.get? b = some o → b < L := fun b o e => by
    by_cases hm : b ∈ [((90 : Addr), tabObj #[]), (aF, oF)].map (·.1)
    · obtain ⟨p', hp', rfl⟩ := List.mem_map.mp hm
      exact l1 p' hp'
    · exact Nat.lt_of_lt_of_le (Heap.lt_size (hg2 b o e hm)) F.above
  have s0L : ∀ b o, h0.get? b = some o → b ≠ L := fun b o e => Nat.ne_of_lt (hi b o e)
  have s01 : ∀ b o, h0.get? b = some o → h₁.get? b = some o := fun b o e => by
    by_cases hm : b ∈ [((90 : Addr), tabObj #[]), (aF, oF)].map (·.1)
    · obtain ⟨p', hp', rfl⟩ := List.mem_map.mp hm
      have z := (hN p' hp').1
      have z' : h0.get? p'.1 = some p'.2 := z
      rw [z'] at e; cases e
      exact (N p' (List.mem_append_right _ hp')).1
    · exact F.keep _ _ (hg2 b o e hm)
  refine hR k L cc oA h2 _ Kr2 (up _ _ (keep _ _ ((N (L + 1, oA) (List.mem_append_left _ (by simp))).1) ?n1) ?n2) dA (fun b o e n => up _ _ (keep b o (s01 b o e) n) (s0L b o e)) (up _ _ k90z (Ne.symm L90)) ?fr
  case n1 =>
    intro q
    have z : (90 : Nat) < L := l1 (90, tabObj #[]) (by simp)
    exact (Nat.ne_of_gt (Nat.lt_succ_of_lt z)) q
  case n2 => exact Nat.succ_ne_self L
  case fr =>
    intro a ha
    cases q : h0.get? a with
    | none => rfl
    | some o =>
      rcases List.mem_cons.mp ha with rfl | ha
      · exact absurd (hi _ o q) (Nat.not_lt.mpr (Nat.le_succ L))
      · have z := fresh a ha
        rw [s01 a o q] at z; cases z
end Mine
end
section
open PySem PySem.W PyProof.Rows PySem.Calls PySem.MeetsSeq PySem.W.X
open Sem (wp)
namespace Mine
local macro_rules | `(tactic| walk_at "pad") => `(tactic| skip)
set_option maxHeartbeats 0 in
theorem init_c {w : World} {A : Around} {R : Result → Shared → Prop} {h₀ h : Heap} {news : List (Addr × Obj)} {g : Array GenState} {d : Drawn} {tk : Nat} {os : OsState} {L : Addr} {k : KA} {n : Int} {t : Tok} {i dx : Addr}
  (Kr : KRm w.params L k h₀) (k2 : h₀.get? 2 = some ⟨.none, none, .dict #[] 0, #[]⟩) (hd : A.depth < recursionLimit) (D : Mem h₀ h [] ((i, ⟨.ref k.C, some dx, .plain, #[]⟩) :: news))
  (hR : ∀ h' tk', Mem h₀ h' [] ((i, ⟨.ref k.C, some dx, .plain, #[some (.int n t)]⟩) :: news) → R (.ok (.ret .none)) ⟨h', g, d, tk', os⟩) :
  codeAny (model PR w) A (.call (.ref k.aI) ⟨[.ref i, .int n t], []⟩) R ⟨h, g, d, tk, os⟩ := by
  have hC := Kr.hC
  have hN := Kr.hN
  have hM := Kr.hM
  have hI := Kr.hI
  obtain ⟨ctv, doc, eI⟩ := Kr.eI
  rw [eI] at hI
  refine codeAny_call_function (body := kMeBody w.params 2) hd (mem_all D hI) rfl ?c1 ?c2 ?c3 ⟨_, _, _, _, rfl, mem_all D Kr.hcI, Kr.dI, Kr.wI⟩ ?_
  case c1 => kernel_rfl
  case c2 => kernel_rfl
  case c3 => kernel_rfl
  refine wpAny_of_eq (a := [(Str.ofString "self", Value.ref i), (Str.ofString "obj", Value.int n t)]) ?c4 ?_
  case c4 => kernel_rfl
  walk_at "va"
  intro f h1 D1 l1
  repeat walk_at "vn"
  walk_at "vw"
  refine v_pure ?_
  refine ⟨nolimit_of (mem_all D' k2), ?_⟩
  refine x_code ?_
  refine wpAny_bind (wpAny_point ?_)
  refine wpAny_bind (wpAny_onRaise ?_)
  with_unfolding_all refine wpAny_execs_cons ?_
  iterate 2 walk_at "vn"
  rw [XFast.xe4178937747021576048]
  repeat walk_at "vn"
  walk_at "vk"
  repeat (first | walk_at "yn" | (walk_at "yw"; walk_at "yk"))
  refine wpOwn_bind ?_
  refine wpOwn_bind ?_
  refine y_eq _ _ _ _ _ _ _ _ _ (Sem.pure true) (by with_unfolding_all exact congrArg Sem.pure (con_me XFast.xw7966671052430208091 k.C)) ?_
  refine y_pure _ _ _ _ _ _ _ _ _ ?_
  repeat walk_at "yn"
  walk_at "yw"
  refine y_pure _ _ _ _ _ _ _ _ _ ?_
  repeat (first | walk_at "yn" | (walk_at "yw"; walk_at "yk"))
  with_unfolding_all refine v_back ?_
  repeat walk_at "vn"
  walk_at "vw"
  refine v_pure ?_
  show wpAny _ _ _ _ _ _
  refine wpAny_execs_nil ?_
  walk_at "vw"
  refine v_pure ?_
  exact hR h' _ (mem_cast (mem_sub D' (List.tail_sublist _)) (by kernel_rfl))
theorem two_of {vs : Array Value} {v : Value} (h : vs[1]? = some v) : ∃ x r, vs = ⟨x :: v :: r⟩ := by
  obtain ⟨l⟩ := vs
  match l, h with
  | [], h => simp at h
  | [_], h => simp at h
  | x :: y :: r, h => exact ⟨x, r, by simp at h; rw [h]⟩
set_option maxHeartbeats 0 in
theorem k_new {w : World} {A : Around} {E : Value → Shared → Prop} {Q : Value → Shared → Prop} {h : Heap} {g : Array GenState} {d : Drawn} {tk : Nat} {os : OsState} {L : Addr} {k : KA} {n : Int} {t : Tok}
  (Kr : KRm w.params L k h) (k2 : h.get? 2 = some ⟨.none, none, .dict #[] 0, #[]⟩) (hd : A.depth + 10 < recursionLimit)
  (hQ : ∀ i dx h' tk', (∀ b o, h.get? b = some o → h'.get? b = some o) → h'.get? i = some ⟨.ref k.C, some dx, .plain, #[some (.int n t)]⟩ → h'.get? dx = some ⟨.type "dict", none, .dict #[] 0, #[]⟩ → h.get? i = none → Q (.ref i) ⟨h', g, d, tk', os⟩) :
  wpAny (model PR w) A (call (.ref k.C) [.int n t]) Q E ⟨h, g, d, tk, os⟩ := by
  have hC := Kr.hC
  have hN := Kr.hN
  have hM := Kr.hM
  have hI := Kr.hI
  have D : Mem h h [] [] := Mem.start h
  refine y_start _ _ _ _ _ _ _ _ _ _ _ _ ?hn ?_
  case hn => (intro h; cases h)
  refine y_tree ?_
  repeat walk_at "yn"
  walk_at "yw"
  walk_at "yk"
  repeat walk_at "yn"
  walk_at "yw"
  walk_at "ya"
  intro dx h1 D1
  repeat walk_at "yn"
  walk_at "yw"
  walk_at "ya"
  intro i h2 D2
  repeat walk_at "yn"
  refine wpOwn_bind ?_
  refine y_eq _ _ _ _ _ _ _ _ _ (Sem.pure true) (by with_unfolding_all exact congrArg Sem.pure (con_me XFast.xw7966671052430208091 k.C)) ?_
  refine y_pure _ _ _ _ _ _ _ _ _ ?_
  repeat walk_at "yn"
  replace D2 : Mem h h2 [] ((i, ⟨.ref k.C, some dx, .plain, #[]⟩) :: (dx, ⟨.type "dict", none, .dict #[] 0, #[]⟩) :: []) := mem_cast D2 (by kernel_rfl)
  walk_at "yw"
  with_unfolding_all refine' y_call _ _ _ _ _ _ _ _ _ _ _ _ _ ?hn (init_c Kr k2 ?hd D2 ?_)
  case hn => (intro h; cases h)
  case hd =>
    refine Nat.lt_of_le_of_lt (Nat.le_of_eq (?e : _ = A.depth + 1)) (Nat.lt_of_le_of_lt (Nat.add_le_add_left (by decide) _) hd)
    kernel_rfl
  intro h3 tk3 D3
  with_unfolding_all refine' y_ret _ _ _ _ _ _ _ _ _ _ ?_
  repeat walk_at "yn"
  with_unfolding_all refine v_back ?_
  with_unfolding_all refine v_pure (a := Value.ref i) ?_
  exact hQ i dx h3 _ (fun b o e => mem_all D3 e) (D3.at 0 _ _ rfl) (D3.at 1 _ _ rfl) (D3.nw _ (List.mem_of_getElem? (i := 0) rfl)).2
end Mine
end
section
open PySem PySem.W PyProof.Rows PySem.Calls PySem.MeetsSeq PySem.W.X
open Sem (wp)
namespace Mine
abbrev nOne : Str := Str.ofString "one"
abbrev nOther : Str := Str.ofString "other"
abbrev nRanks : Str := Str.ofString "ranks"
abbrev lamP (p1 p2 : Pos) : Arguments := { posonlyargs := [], args := [{ arg := nOne, annotation := none, pos := p1 }, { arg := nOther, annotation := none, pos := p2 }], vararg := none, kwonlyargs := [], kw_defaults := [], kwarg := none, defaults := [] }
abbrev lamB (q1 q2 q3 q4 q5 q6 q7 : Pos) : PySem.Expr := .BinOp (.Subscript (.Name nRanks q1) (.Name nOne q2) q3) .Sub (.Subscript (.Name nRanks q4) (.Name nOther q5) q6) q7
abbrev lamS : Scope := { kind := .function, names := [(nOne, .local), (nOther, .local), (nRanks, .free)], isGenerator := false, isCoroutine := false }
theorem lam_c {w : World} {A : Around} {R : Result → Shared → Prop} {s : Shared} {aF cR rk : Addr} {oF oR ord : Obj} {name qual : Str} {p1 p2 q1 q2 q3 q4 q5 q6 q7 : Pos} {pm cdv ctv : Value} {dom : List Int} {r : Int → Int} {m : Nat} {a b : Int} {ta tb : Tok}
  (hd : A.depth < recursionLimit) (hl : s.heap.NoLimit) (ho : s.heap.get? aF = some oF) (hf : oF.data = .func (kla_fn name qual (lamP p1 p2) (lamB q1 q2 q3 q4 q5 q6 q7) lamS [(nRanks, cR)] pm cdv ctv)) (hcd : s.heap.CodeRec cdv qual)
  (hc : s.heap.get? cR = some oR) (hcR : oR.data = .cell (some (.ref rk))) (hr : s.heap.get? rk = some ord) (hD : DIs w ord dom r m) (ha : a ∈ dom) (hb : b ∈ dom)
  (hR : ∀ h' tk' t', (∀ b o, s.heap.get? b = some o → h'.get? b = some o) → R (.ok (.ret (.int (r a - r b) t'))) { s with heap := h', toks := tk' }) :
  codeAny (model PR w) A (.call (.ref aF) ⟨[.int a ta, .int b tb], []⟩) R s := by
  refine kla_callFunE hd ho hf rfl rfl rfl hcd ?_
  refine wpAny_of_eq (a := [(nOne, Value.int a ta), (nOther, Value.int b tb)]) ?c4 ?_
  case c4 => kernel_rfl
  refine wpAny_newFunctionEnv ?d1 ?d2 (fun h' ns sb => ⟨hl.fresh _ sb, kla_codeExpr ?_⟩)
  case d1 =>
    intro x hx
    have hx' : x ∈ [(nOne, NameKind.local), (nOther, NameKind.local), (nRanks, NameKind.free)] := hx
    simp only [List.mem_cons, List.not_mem_nil, or_false] at hx'
    rcases hx' with rfl | rfl | rfl <;> decide
  case d2 =>
    intro x hx
    simp only [List.mem_cons, List.not_mem_nil, or_false] at hx
    rcases hx with rfl | rfl <;> kernel_rfl
  have up : ∀ b o, s.heap.get? b = some o → h'.get? b = some o := fun b o e => sb.extBut b o (Nat.ne_of_lt (Heap.lt_size e)) (Heap.get?_push_of_some _ e)
  obtain ⟨kvs, hk, _, hv⟩ := hD
  obtain ⟨va, ea⟩ := hv a ha
  obtain ⟨vb, eb⟩ := hv b hb
  have rkE : ∀ q : Pos, Ev w (A.deeper (newEnv lamS s.heap.objs.size mainGlobals [(nRanks, cR)] (qual ++ ".<locals>.") (some aF) cdv none builtinsNs)) (newEnv lamS s.heap.objs.size mainGlobals [(nRanks, cR)] (qual ++ ".<locals>.") (some aF) cdv none builtinsNs) (· = h') (.Name nRanks q) (· = .ref rk) := fun q =>
    ev_free (c := cR) (by kernel_rfl) (fun h e => by subst e; exact ⟨_, up _ _ hc, hcR⟩) (by kernel_rfl) (by kernel_rfl)
  have ownE : ∀ (x : Str) (v : Int × Tok) (q : Pos), (fun y => [(nOne, Value.int a ta), (nOther, Value.int b tb)].reverse.lookup y) x = some (.int v.1 v.2) → (newEnv lamS s.heap.objs.size mainGlobals [(nRanks, cR)] (qual ++ ".<locals>.") (some aF) cdv none builtinsNs).kindOf x = some .local → (x == ("__debug__" : Str)) = false →
      Ev w (A.deeper (newEnv lamS s.heap.objs.size mainGlobals [(nRanks, cR)] (qual ++ ".<locals>.") (some aF) cdv none builtinsNs)) (newEnv lamS s.heap.objs.size mainGlobals [(nRanks, cR)] (qual ++ ".<locals>.") (some aF) cdv none builtinsNs) (· = h') (.Name x q) (isI v.1) := fun x v q e e2 e3 =>
    (ev_own (v := .int v.1 v.2) (fun h eh => by subst eh; exact ⟨_, ns, e⟩) (by kernel_rfl) e2 e3).mono fun u hu => ⟨v.2, hu⟩
  have key : ∀ (x : Str) (v : Int × Tok) (c : Int) (t : Tok) (q1 q2 q3 : Pos), (fun y => [(nOne, Value.int a ta), (nOther, Value.int b tb)].reverse.lookup y) x = some (.int v.1 v.2) → (newEnv lamS s.heap.objs.size mainGlobals [(nRanks, cR)] (qual ++ ".<locals>.") (some aF) cdv none builtinsNs).kindOf x = some .local → (x == ("__debug__" : Str)) = false → valueAt kvs v.1 = some (.int c t) → 
      (∀ t, subscripted (.Name x q2) false (.ref rk) (.int v.1 t) = operate [.ref rk, .int v.1 t] (getItem (.ref rk) (.int v.1 t))) →
      Ev w (A.deeper (newEnv lamS s.heap.objs.size mainGlobals [(nRanks, cR)] (qual ++ ".<locals>.") (some aF) cdv none builtinsNs)) (newEnv lamS s.heap.objs.size mainGlobals [(nRanks, cR)] (qual ++ ".<locals>.") (some aF) cdv none builtinsNs) (· = h') (.Subscript (.Name nRanks q1) (.Name x q2) q3) (isI c) := fun x v c t q1 q2 q3 e e2 e3 e4 e5 =>
    (ev_key (rkE q1) (ownE x v q2 e e2 e3) (fun h eh => Heap.dictOf_iff.mpr ⟨ord, by rw [eh]; exact up _ _ hr, hk⟩) e4 e5).mono fun u hu => ⟨t, hu⟩
  have whole := ev_sub (pos := q7) (key nOne (a, ta) (r a) va q1 q2 q3 (by kernel_rfl) (by kernel_rfl) (by decide) ea (by intro _; with_unfolding_all rfl)) (key nOther (b, tb) (r b) vb q4 q5 q6 (by kernel_rfl) (by kernel_rfl) (by decide) eb (by intro _; with_unfolding_all rfl))
  refine whole _ _ _ rfl fun v tk hv => ?_
  obtain ⟨t', rfl⟩ := hv
  exact hR h' _ t' up
end Mine
end
section
open PySem PySem.W PyProof.Rows PySem.Calls PySem.MeetsSeq PySem.W.X
open Sem (wp)
namespace Mine
local macro_rules | `(tactic| walk_at "pad") => `(tactic| skip)
set_option maxHeartbeats 0 in
theorem ga_c {w : World} {A : Around} {Q : Value → Shared → Prop} {E : Value → Shared → Prop} {h : Heap} {g : Array GenState} {d : Drawn} {tk : Nat} {os : OsState} {L : Addr} {k : KA} {x dx : Addr} {vx : Int} {tx : Tok}
  (Kr : KRm w.params L k h) (k2 : h.get? 2 = some ⟨.none, none, .dict #[] 0, #[]⟩)
  (hx : h.get? x = some ⟨.ref k.C, some dx, .plain, #[some (.int vx tx)]⟩)
  (hQ : ∀ tk', Q (.int vx tx) ⟨h, g, d, tk', os⟩) :
  wpAny (model PR w) A (getAttr (.ref x) (Str.ofString "obj") true) Q E ⟨h, g, d, tk, os⟩ := by
  have hC := Kr.hC
  have hN := Kr.hN
  have hM := Kr.hM
  have D : Mem h h [] [] := Mem.start h
  rw [XFast.xe4926136581373384958]
  repeat walk_at "vn"
  walk_at "vk"
  repeat (first | walk_at "yn" | (walk_at "yw"; walk_at "yk"))
  refine wpOwn_bind ?_
  refine wpOwn_bind ?_
  refine y_eq _ _ _ _ _ _ _ _ _ (Sem.pure true) (by with_unfolding_all exact congrArg Sem.pure (con_me XFast.xw7966671052430208091 k.C)) ?_
  refine y_pure _ _ _ _ _ _ _ _ _ ?_
  repeat walk_at "yn"
  walk_at "yw"
  refine y_pure _ _ _ _ _ _ _ _ _ ?_
  repeat (first | walk_at "yn" | (walk_at "yw"; walk_at "yk"))
  with_unfolding_all refine v_back ?_
  with_unfolding_all refine v_pure (a := Value.int vx tx) ?_
  exact hQ _
theorem attr_c {w : World} {A : Around} {Q : Value → Shared → Prop} {E : Value → Shared → Prop} {s : Shared} {L : Addr} {k : KA} {x dx : Addr} {vx : Int} {tx : Tok} {env : Env} {nm : Str} {p p2 : Pos}
  (Kr : KRm w.params L k s.heap) (k2 : s.heap.get? 2 = some ⟨.none, none, .dict #[] 0, #[]⟩) (hx : s.heap.get? x = some ⟨.ref k.C, some dx, .plain, #[some (.int vx tx)]⟩)
  (hv : ∀ Q' : Value → Shared → Prop, Q' (.ref x) s → wpAny (model PR w) A (eval (.Name nm p) env) Q' E s) (hQ : ∀ tk', Q (.int vx tx) { s with toks := tk' }) :
  wpAny (model PR w) A (eval (.Attribute (.Name nm p) (Str.ofString "obj") p2) env) Q E s := by
  rw [arm_eval_Attribute]
  refine wpAny_bind ?_
  show wpAny _ _ (eval (.Name nm p) env) _ _ _
  refine hv _ ?_
  refine wpAny_bind (wpAny_standAt ?_)
  refine wpAny_bind (wpAny_holding ?_)
  obtain ⟨h, g, d, tk, os⟩ := s
  refine ga_c Kr k2 hx fun tk' => ?_
  refine wpAny_bind ?_
  with_unfolding_all refine v_pure (a := ()) ?_
  exact wpAny_pure (hQ tk')
end Mine
end
section
open PySem PySem.W PyProof.Rows PySem.Calls PySem.MeetsSeq PySem.W.X
open Sem (wp)
namespace Mine
noncomputable abbrev ltEnv (P : Params) (L f aL cL : Addr) : Env := { scope := (kMeth P 3).scope, locals := f, globals := 3, cells := [(Str.ofString "mycmp", L + 1)], qual := Str.ofString "cmp_to_key.<locals>.K.__lt__.<locals>.", func := some aL, code := .ref cL, frame := some f }
set_option maxHeartbeats 0 in
theorem lt_c {w : World} {A : Around} {R : Result → Shared → Prop} {h : Heap} {g : Array GenState} {d : Drawn} {tk : Nat} {os : OsState} {L : Addr} {k : KA} {aF x y dx dy : Addr} {vx vy z : Int} {tx ty : Tok} {xc : Value} {xd : Option Addr} {xs : Array (Option Value)}
  (Kr : KRm w.params L k h) (k2 : h.get? 2 = some ⟨.none, none, .dict #[] 0, #[]⟩) (hd : A.depth + 10 < recursionLimit) (hcell : h.get? (L + 1) = some ⟨xc, xd, .cell (some (.ref aF)), xs⟩)
  (hx : h.get? x = some ⟨.ref k.C, some dx, .plain, #[some (.int vx tx)]⟩) (hy : h.get? y = some ⟨.ref k.C, some dy, .plain, #[some (.int vy ty)]⟩)
  (hfn : ∃ oc od fd sl, h.get? aF = some ⟨oc, od, .func fd, sl⟩)
  (lam : ∀ (A' : Around) (R' : Result → Shared → Prop) (s' : Shared), A'.depth < recursionLimit → (∀ b o, h.get? b = some o → s'.heap.get? b = some o) → (∀ h'' tk'' t', (∀ b o, s'.heap.get? b = some o → h''.get? b = some o) → R' (.ok (.ret (.int z t'))) { s' with heap := h'', toks := tk'' }) → codeAny (model PR w) A' (.call (.ref aF) ⟨[.int vx tx, .int vy ty], []⟩) R' s')
  (hR : ∀ h' tk', (∀ b o, h.get? b = some o → h'.get? b = some o) → R (.ok (.ret (.bool (decide (z < 0))))) ⟨h', g, d, tk', os⟩) :
  codeAny (model PR w) A (.call (.ref k.aL) ⟨[.ref x, .ref y], []⟩) R ⟨h, g, d, tk, os⟩ := by
  have hC := Kr.hC
  have hN := Kr.hN
  have hM := Kr.hM
  have hL := Kr.hL
  obtain ⟨ctv, doc, eL⟩ := Kr.eL
  rw [eL] at hL
  refine codeAny_call_function (body := kMeBody w.params 3) (Nat.lt_of_le_of_lt (Nat.le_add_right _ 10) hd) hL rfl ?c1 ?c2 ?c3 ⟨_, _, _, _, rfl, Kr.hcL, Kr.dL, Kr.wL⟩ ?_
  case c1 => kernel_rfl
  case c2 => kernel_rfl
  case c3 => kernel_rfl
  refine wpAny_of_eq (a := [(Str.ofString "self", Value.ref x), (Str.ofString "other", Value.ref y)]) ?c4 ?_
  case c4 => kernel_rfl
  refine wpAny_newFunctionEnv ?d1 ?d2 (fun h' ns sb => ?_) (by kernel_rfl)
  case d1 =>
    intro x hx
    have hx' : x ∈ [(Str.ofString "self", NameKind.local), (Str.ofString "other", NameKind.local), (Str.ofString "mycmp", NameKind.free)] := cast (congrArg (fun l => x ∈ l) (by kernel_rfl)) hx
    simp only [List.mem_cons, List.not_mem_nil, or_false] at hx'
    rcases hx' with rfl | rfl | rfl <;> decide
  case d2 =>
    intro x hx
    simp only [List.mem_cons, List.not_mem_nil, or_false] at hx
    rcases hx with rfl | rfl <;> kernel_rfl
  have up : ∀ b o, h.get? b = some o → h'.get? b = some o := fun b o e => sb.extBut b o (Nat.ne_of_lt (Heap.lt_size e)) (Heap.get?_push_of_some _ e)
  refine ⟨nolimit_of (up _ _ k2), ?_⟩
  refine (?_ : codeAny (model PR w) A (.func (kMeBody w.params 3) (ltEnv w.params L h.objs.size k.aL k.cL)) R _)
  have Kr' : KRm w.params L k h' := ⟨up _ _ Kr.hC, up _ _ Kr.hN, up _ _ Kr.hM, up _ _ Kr.hI, Kr.eI, up _ _ Kr.hcI, Kr.dI, Kr.wI, up _ _ Kr.hL, Kr.eL, up _ _ Kr.hcL, Kr.dL, Kr.wL⟩
  refine x_code ?_
  refine wpAny_bind (wpAny_point ?_)
  refine wpAny_bind (wpAny_onRaise ?_)
  with_unfolding_all refine wpAny_execs_cons ?_
  with_unfolding_all refine wpAny_Return_some ?_
  refine wpAny_Compare1 ?_
  refine Call_Name rfl ?_
  refine (ev_free (c := L + 1) (v := Value.ref aF) (H := (· = h')) (by kernel_rfl) (fun hh e => by subst e; exact ⟨_, up _ _ hcell, rfl⟩) (by kernel_rfl) (by kernel_rfl)) _ _ _ rfl fun v tk1 hv => ?_
  subst hv
  obtain ⟨oc, od, fd, sl, ef⟩ := hfn
  refine callWith_F ⟨oc, od, fd, sl, up _ _ ef⟩ ?_
  refine spliced_more (attr_c (x := x) (dx := dx) Kr' (up _ _ k2) (up _ _ hx) ?n1 fun tk2 => ?_)
  case n1 =>
    intro Q' hq
    exact wpAny_Name (wpAny_loadName_local (by kernel_rfl) (by kernel_rfl) ns (by kernel_rfl) hq) (by decide)
  refine spliced_more (attr_c (x := y) (dx := dy) Kr' (up _ _ k2) (up _ _ hy) ?n2 fun tk3 => ?_)
  case n2 =>
    intro Q' hq
    exact wpAny_Name (wpAny_loadName_local (by kernel_rfl) (by kernel_rfl) ns (by kernel_rfl) hq) (by decide)
  refine spliced_none ?_
  refine ⟨⟨oc, od, fd, sl, up _ _ ef⟩, ?_⟩
  refine wpAny_call ?_
  refine lam _ _ _ ?hdd (fun b o e => up b o e) fun h2 tk4 t' up2 => ?_
  case hdd =>
    refine Nat.lt_of_le_of_lt (Nat.le_of_eq (?e : _ = A.depth + 1)) (Nat.lt_of_le_of_lt (Nat.add_le_add_left (by decide) _) hd)
    kernel_rfl
  show wpAny _ _ _ _ _ _
  refine wpAny_Constant_int (PyProof.Rows.lt_int ?_)
  show wpAny _ _ _ _ _ _
  refine wpAny_pure ?_
  exact hR h2 _ fun b o e => up2 b o (up b o e)
end Mine
end
section
open PySem PySem.W PyProof.Rows
namespace Mine
local macro_rules | `(tactic| walk_at "pad") => `(tactic| skip)
/-! the sort's tree, answered by ranks: stable -/
def runT {α : Type} (o : Nat → Nat → Bool) : KasT α → α
  | .ret a => a
  | .ask i j k => runT o (k (o i j))
theorem runT_bind {α β : Type} (o : Nat → Nat → Bool) (f : α → KasT β) : ∀ t : KasT α, runT o (t.bind f) = runT o (f (runT o t))
  | .ret _ => rfl
  | .ask i j k => runT_bind o f (k (o i j))
section
variable (r : Nat → Int) (n : Nat)
def ora (i j : Nat) : Bool := decide (r i < r j)
def lx (a b : Nat) : Prop := r a < r b ∨ (r a = r b ∧ a < b)
abbrev gd (p : Array Nat) (k : Nat) : Nat := p.getD k 0
structure Pre (p : Array Nat) (m : Nat) : Prop where
  size : p.size = n
  le : m ≤ n
  idty : ∀ k, m ≤ k → k < n → gd p k = k
  below : ∀ k, k < m → gd p k < m
def Asc (p : Array Nat) (m : Nat) : Prop := ∀ i j, i < j → j < m → lx r (gd p i) (gd p j)
def Desc (p : Array Nat) (m : Nat) : Prop := ∀ i j, i < j → j < m → lx r (gd p j) (gd p i)
variable {r n}
theorem lx_trans {a b c : Nat} (h1 : lx r a b) (h2 : lx r b c) : lx r a c := by unfold lx at *; lia
theorem gd_rev {p : Array Nat} {i j : Nat} (hj : j ≤ p.size) (k : Nat) : gd (kas_rev p i j) k = if i ≤ k ∧ k < j then gd p (i + j - 1 - k) else gd p k := by
  have e := getElem?_mirror_all (xs := p) (i := i) (j := j) hj k
  unfold gd kas_rev
  rw [Array.getD_eq_getD_getElem?, e]
  split
  · rw [Array.getD_eq_getD_getElem?]
  · rw [Array.getD_eq_getD_getElem?]
theorem gd_bub {p : Array Nat} {s d : Nat} (hs : s < p.size) (hd : d ≤ s) (k : Nat) : gd (bubble p s d) k = if k = s - d then gd p s else if s - d < k ∧ k ≤ s then gd p (k - 1) else gd p k := by
  have e := getElem?_bubble hs d hd k
  unfold gd
  simp only [Array.getD_eq_getD_getElem?, e]
  split
  · rfl
  · split <;> rfl
theorem Pre.up {p : Array Nat} {m m' : Nat} (h : Pre n p m) (h1 : m ≤ m') (h2 : m' ≤ n) : Pre n p m' :=
  ⟨h.size, h2, fun k a b => h.idty k (by lia) b, fun k a => by
    by_cases c : k < m
    · have := h.below k c; lia
    · rw [h.idty k (by lia) (by lia)]; exact a⟩
theorem Pre.rev {p : Array Nat} {m i j : Nat} (h : Pre n p m) (hj : j ≤ m) : Pre n (kas_rev p i j) m := by
  have hs : j ≤ p.size := by rw [h.size]; exact Nat.le_trans hj h.le
  refine ⟨(mirror_size _ _ _ _).trans h.size, h.le, fun k a b => ?_, fun k a => ?_⟩
  · rw [gd_rev hs, if_neg (by lia)]; exact h.idty k a b
  · rw [gd_rev hs]
    split
    · exact h.below _ (by lia)
    · exact h.below k a
theorem asc_succ {p : Array Nat} {m : Nat} (h : Asc r p m) (hm : 1 ≤ m) (hl : lx r (gd p (m - 1)) (gd p m)) : Asc r p (m + 1) := fun i j a b => by
  by_cases c : j < m
  · exact h i j a c
  · have e : j = m := by lia
    subst e
    by_cases d : i = j - 1
    · rw [d]; exact hl
    · exact lx_trans (h i (j - 1) (by lia) (by lia)) hl
theorem asc_run {p : Array Nat} : ∀ (f m : Nat), 1 ≤ m → m + f ≤ n → Pre n p m → Asc r p m →
    ∃ m', runT (ora r) (kas_asc p f m) = m' ∧ m ≤ m' ∧ m' ≤ m + f ∧ Asc r p m' ∧ (m' < m + f → r (gd p m') < r (gd p (m' - 1)))
  | 0, m, h1, h2, hp, ha => ⟨m, rfl, Nat.le_refl _, Nat.le_refl _, ha, fun h => absurd h (by lia)⟩
  | f + 1, m, h1, h2, hp, ha => by
    show ∃ m', runT (ora r) (if ora r (gd p m) (gd p (m - 1)) = true then KasT.ret m else kas_asc p f (m + 1)) = m' ∧ _
    by_cases c : r (gd p m) < r (gd p (m - 1))
    · rw [if_pos (by unfold ora; simpa using c)]
      exact ⟨m, rfl, Nat.le_refl _, by lia, ha, fun _ => c⟩
    · rw [if_neg (by unfold ora; simpa using c)]
      have hm : lx r (gd p (m - 1)) (gd p m) := by
        have e := hp.idty m (Nat.le_refl _) (by lia)
        have b := hp.below (m - 1) (by lia)
        unfold lx
        rw [e] at c ⊢
        lia
      obtain ⟨m', e, a1, a2, a3, a4⟩ := asc_run f (m + 1) (by lia) (by lia) (hp.up (by lia) (by lia)) (asc_succ ha h1 hm)
      exact ⟨m', e, by lia, by lia, a3, fun h => a4 (by lia)⟩
/-- the descending run: all but its last `q + 1` turned already, those equal and in order -/
structure Dn (r : Nat → Int) (n : Nat) (p : Array Nat) (m q : Nat) : Prop where
  pre : Pre n p m
  hq : q + 1 ≤ m
  desc : ∀ i j, i < j → j < m - (q + 1) → lx r (gd p j) (gd p i)
  less : ∀ i j, i < m - (q + 1) → m - (q + 1) ≤ j → j < m → r (gd p j) < r (gd p i)
  eqv : ∀ i j, m - (q + 1) ≤ i → i < j → j < m → r (gd p i) = r (gd p j) ∧ gd p i < gd p j
theorem Dn.turned {p : Array Nat} {m q : Nat} (h : Dn r n p m q) : Desc r (kas_rev p (m - (q + 1)) m) m ∧ Pre n (kas_rev p (m - (q + 1)) m) m := by
  have hs : m ≤ p.size := by rw [h.pre.size]; exact h.pre.le
  refine ⟨fun i j a b => ?_, h.pre.rev (Nat.le_refl _)⟩
  rw [gd_rev hs, gd_rev hs]
  have := h.hq
  by_cases c : m - (q + 1) ≤ i
  · rw [if_pos (by lia), if_pos (by lia)]
    have e := h.eqv (m - (q + 1) + m - 1 - j) (m - (q + 1) + m - 1 - i) (by lia) (by lia) (by lia)
    exact .inr e
  · rw [if_neg (show ¬ (m - (q + 1) ≤ i ∧ i < m) by lia)]
    by_cases d : m - (q + 1) ≤ j
    · rw [if_pos (by lia)]
      exact .inl (h.less i _ (by lia) (by lia) (by lia))
    · rw [if_neg (by lia)]
      exact h.desc i j a (by lia)
theorem Dn.flat {p : Array Nat} {m : Nat} (h : Dn r n p m 0) : Desc r p m := fun i j a b => by
  have := h.hq
  by_cases d : m - (0 + 1) ≤ j
  · exact .inl (h.less i j (by lia) d b)
  · exact h.desc i j a (by lia)
theorem Desc.next {p : Array Nat} {m : Nat} (hd : Desc r p m) (hp : Pre n p m) (hm : m < n) (h1 : 1 ≤ m) (hl : r (gd p m) < r (gd p (m - 1))) : Dn r n p (m + 1) 0 := by
  refine ⟨hp.up (by lia) (by lia), by lia, fun i j a b => hd i j a (by lia), fun i j a b c => ?_, fun i j a b c => absurd b (by lia)⟩
  have e : j = m := by lia
  subst e
  by_cases d : i = j - 1
  · rw [d]; exact hl
  · have := hd i (j - 1) (by lia) (by lia)
    unfold lx at this
    omega
theorem desc_run : ∀ (f : Nat) (p : Array Nat) (m q : Nat), m + f ≤ n → Dn r n p m q → ∃ p' m' q', runT (ora r) (kas_desc f p m q) = (p', m', q') ∧ m ≤ m' ∧ m' ≤ m + f ∧ Dn r n p' m' q'
  | 0, p, m, q, _, h => ⟨p, m, q, rfl, Nat.le_refl _, Nat.le_refl _, h⟩
  | f + 1, p, m, q, hf, h => by
    show ∃ p' m' q', runT (ora r) (if ora r (gd p m) (gd p (m - 1)) = true then (if q > 0 then kas_desc f (kas_rev p (m - (q + 1)) m) (m + 1) 0 else kas_desc f p (m + 1) 0)
      else .ask (gd p (m - 1)) (gd p m) fun d => if d = true then .ret (p, m, q) else kas_desc f p (m + 1) (q + 1)) = _ ∧ _
    have hq := h.hq
    have hs : m ≤ p.size := by rw [h.pre.size]; exact h.pre.le
    have e0 := h.pre.idty m (Nat.le_refl _) (by lia)
    by_cases c : r (gd p m) < r (gd p (m - 1))
    · rw [if_pos (by unfold ora; simpa using c)]
      by_cases hq0 : q > 0
      · rw [if_pos hq0]
        obtain ⟨d1, d2⟩ := h.turned
        have hl : r (gd (kas_rev p (m - (q + 1)) m) m) < r (gd (kas_rev p (m - (q + 1)) m) (m - 1)) := by
          rw [gd_rev hs, gd_rev hs, if_neg (by lia), if_pos (by lia)]
          have e1 := (h.eqv (m - (q + 1) + m - 1 - (m - 1)) (m - 1) (by lia) (by lia) (by lia)).1
          rw [e1]; exact c
        obtain ⟨p', m', q', a1, a2, a3, a4⟩ := desc_run f _ (m + 1) 0 (by lia) (Desc.next d1 d2 (by lia) (by lia) hl)
        exact ⟨p', m', q', a1, by lia, by lia, a4⟩
      · rw [if_neg hq0]
        have e1 : q = 0 := by lia
        subst e1
        obtain ⟨p', m', q', a1, a2, a3, a4⟩ := desc_run f p (m + 1) 0 (by lia) (Desc.next h.flat h.pre (by lia) (by omega) c)
        exact ⟨p', m', q', a1, by lia, by lia, a4⟩
    · rw [if_neg (by unfold ora; simpa using c)]
      show ∃ p' m' q', runT (ora r) (if ora r (gd p (m - 1)) (gd p m) = true then .ret (p, m, q) else kas_desc f p (m + 1) (q + 1)) = _ ∧ _
      by_cases d : r (gd p (m - 1)) < r (gd p m)
      · rw [if_pos (by unfold ora; simpa using d)]
        exact ⟨p, m, q, rfl, Nat.le_refl _, by lia, h⟩
      · rw [if_neg (by unfold ora; simpa using d)]
        have e1 : r (gd p m) = r (gd p (m - 1)) := by omega
        have tl : ∀ i, m - (q + 1) ≤ i → i < m → r (gd p i) = r (gd p m) := fun i a b => by
          by_cases x : i = m - 1
          · rw [x, e1]
          · rw [e1]; exact (h.eqv i (m - 1) a (by lia) (by lia)).1
        have hn : Dn r n p (m + 1) (q + 1) := by
          refine ⟨h.pre.up (by lia) (by lia), by lia, fun i j a b => h.desc i j a (by lia), fun i j a b c => ?_, fun i j a b c => ?_⟩
          · by_cases x : j = m
            · rw [x, ← tl (m - 1) (by lia) (by lia)]
              exact h.less i (m - 1) (by lia) (by lia) (by lia)
            · exact h.less i j (by lia) (by lia) (by lia)
          · by_cases x : j = m
            · rw [x]
              refine ⟨tl i (by lia) (by lia), ?_⟩
              rw [e0]; exact h.pre.below i (by lia)
            · exact h.eqv i j (by lia) b (by lia)
        obtain ⟨p', m', q', a1, a2, a3, a4⟩ := desc_run f p (m + 1) (q + 1) (by lia) hn
        exact ⟨p', m', q', a1, by lia, by lia, a4⟩
theorem tail_run {p : Array Nat} {m : Nat} (hd : Desc r p m) (hp : Pre n p m) (h1 : 1 ≤ m) : ∃ m' p', runT (ora r) (kas_tail3 m n p) = (m', p') ∧ Asc r p' m' ∧ Pre n p' m' ∧ m ≤ m' := by
  unfold kas_tail3
  rw [runT_bind]
  have hs : m ≤ p.size := by rw [hp.size]; exact hp.le
  have hp' : Pre n (kas_rev p 0 m) m := hp.rev (Nat.le_refl _)
  have ha : Asc r (kas_rev p 0 m) m := fun i j a b => by
    rw [gd_rev hs, gd_rev hs, if_pos (by lia), if_pos (by lia)]
    exact hd _ _ (by lia) (by lia)
  have hle := hp.le
  obtain ⟨m', e, a1, a2, a3, _⟩ := asc_run (n - m) m h1 (by lia) hp' ha
  refine ⟨m', kas_rev p 0 m, by rw [e]; rfl, a3, hp'.up a1 (by lia), a1⟩
theorem descPart_run {p : Array Nat} {m : Nat} (hd : Desc r p m) (hp : Pre n p m) (hm : m < n) (h1 : 1 ≤ m) (hl : r (gd p m) < r (gd p (m - 1))) : ∃ m' p', runT (ora r) (kas_descPart m n p) = (m', p') ∧ Asc r p' m' ∧ Pre n p' m' ∧ 1 ≤ m' := by
  unfold kas_descPart
  rw [runT_bind]
  obtain ⟨p', m', q', e, a1, a2, a3⟩ := desc_run (n - (m + 1)) p (m + 1) 0 (by lia) (Desc.next hd hp hm h1 hl)
  rw [e]
  dsimp only
  by_cases hq : q' > 0
  · rw [if_pos hq]
    obtain ⟨d1, d2⟩ := a3.turned
    obtain ⟨m'', p'', e2, b1, b2, b3⟩ := tail_run d1 d2 (by lia)
    exact ⟨m'', p'', e2, b1, b2, by lia⟩
  · rw [if_neg hq]
    have : q' = 0 := by lia
    subst this
    obtain ⟨m'', p'', e2, b1, b2, b3⟩ := tail_run a3.flat a3.pre (by lia)
    exact ⟨m'', p'', e2, b1, b2, by lia⟩
theorem count_run {p : Array Nat} (hn : 1 ≤ n) (hp : Pre n p 0) : ∃ m' p', runT (ora r) (kas_count n p) = (m', p') ∧ Asc r p' m' ∧ Pre n p' m' ∧ 1 ≤ m' := by
  unfold kas_count
  rw [runT_bind]
  have hp1 : Pre n p 1 := hp.up (by lia) hn
  obtain ⟨m, e, a1, a2, a3, a4⟩ := asc_run (r := r) (n - 1) 1 (Nat.le_refl _) (by lia) hp1 (fun i j a b => by lia)
  rw [e]
  have hpm : Pre n p m := hp1.up a1 (by lia)
  by_cases h1 : m = n
  · rw [if_pos (by simpa using h1)]
    exact ⟨m, p, rfl, a3, hpm, a1⟩
  · rw [if_neg (by simpa using h1)]
    have hl := a4 (by lia)
    by_cases h2 : m > 1
    · rw [if_pos h2]
      show ∃ m' p', runT (ora r) (if ora r (gd p 0) (gd p (m - 1)) = true then .ret (m, p) else kas_descPart m n (kas_rev p 0 m)) = _ ∧ _
      by_cases c : r (gd p 0) < r (gd p (m - 1))
      · rw [if_pos (by unfold ora; simpa using c)]
        exact ⟨m, p, rfl, a3, hpm, a1⟩
      · rw [if_neg (by unfold ora; simpa using c)]
        have hs : m ≤ p.size := by rw [hpm.size]; exact hpm.le
        have eq0 : ∀ i, i < m → r (gd p i) = r (gd p 0) := fun i hi => by
          have x1 : r (gd p 0) ≤ r (gd p i) := by
            by_cases z : i = 0
            · rw [z]; exact Int.le_refl _
            · have := a3 0 i (by lia) hi
              unfold lx at this; omega
          have x2 : r (gd p i) ≤ r (gd p (m - 1)) := by
            by_cases z : i = m - 1
            · rw [z]; exact Int.le_refl _
            · have := a3 i (m - 1) (by lia) (by lia)
              unfold lx at this; omega
          omega
        have hd : Desc r (kas_rev p 0 m) m := fun i j a b => by
          rw [gd_rev hs, gd_rev hs, if_pos (by lia), if_pos (by lia)]
          exact a3 _ _ (by lia) (by lia)
        refine descPart_run hd (hpm.rev (Nat.le_refl _)) (by lia) (by omega) ?_
        rw [gd_rev hs, gd_rev hs, if_neg (by lia), if_pos (by lia), eq0 (0 + m - 1 - (m - 1)) (by lia), ← eq0 (m - 1) (by lia)]
        exact hl
    · rw [if_neg h2]
      have : m = 1 := by lia
      subst this
      exact descPart_run (fun i j a b => by lia) hpm (by lia) (Nat.le_refl _) hl
theorem place_run {p : Array Nat} {k : Nat} (ha : Asc r p k) : ∀ (f l q : Nat), l ≤ q → q ≤ k → q - l ≤ f → (∀ i, i < l → r (gd p i) ≤ r (gd p k)) → (∀ i, q ≤ i → i < k → r (gd p k) < r (gd p i)) →
    ∃ l', runT (ora r) (kas_place p k f l q) = l' ∧ l' ≤ k ∧ (∀ i, i < l' → r (gd p i) ≤ r (gd p k)) ∧ (∀ i, l' ≤ i → i < k → r (gd p k) < r (gd p i))
  | 0, l, q, h1, h2, h3, hlo, hhi => ⟨l, rfl, by lia, hlo, fun i a b => hhi i (by lia) b⟩
  | f + 1, l, q, h1, h2, h3, hlo, hhi => by
    show ∃ l', runT (ora r) (if l ≥ q then .ret l else .ask (gd p k) (gd p ((l + q) / 2)) fun c => if c = true then kas_place p k f l ((l + q) / 2) else kas_place p k f ((l + q) / 2 + 1) q) = l' ∧ _
    by_cases c : l ≥ q
    · rw [if_pos c]
      exact ⟨l, rfl, by lia, hlo, fun i a b => hhi i (by lia) b⟩
    · rw [if_neg c]
      show ∃ l', runT (ora r) (if ora r (gd p k) (gd p ((l + q) / 2)) = true then kas_place p k f l ((l + q) / 2) else kas_place p k f ((l + q) / 2 + 1) q) = l' ∧ _
      have mono : ∀ i j, i ≤ j → j < k → r (gd p i) ≤ r (gd p j) := fun i j a b => by
        by_cases z : i = j
        · rw [z]; exact Int.le_refl _
        · have := ha i j (by lia) b
          unfold lx at this; omega
      by_cases d : r (gd p k) < r (gd p ((l + q) / 2))
      · rw [if_pos (by unfold ora; simpa using d)]
        exact place_run ha f l ((l + q) / 2) (by lia) (by lia) (by lia) hlo fun i a b => by
          have := mono _ i a b
          lia
      · rw [if_neg (by unfold ora; simpa using d)]
        exact place_run ha f ((l + q) / 2 + 1) q (by lia) h2 (by omega) (fun i a => by
          have := mono i ((l + q) / 2) (by lia) (by lia)
          lia) hhi
theorem bin_run : ∀ (f : Nat) (p : Array Nat) (k : Nat), k + f = n → Pre n p k → Asc r p k → ∃ p', runT (ora r) (kas_bin f p k) = p' ∧ Asc r p' n ∧ Pre n p' n
  | 0, p, k, h, hp, ha => by
    have : k = n := by omega
    subst this
    exact ⟨p, rfl, ha, hp⟩
  | f + 1, p, k, h, hp, ha => by
    show ∃ p', runT (ora r) ((kas_place p k k 0 k).bind fun l => kas_bin f (bubble p k (k - l)) (k + 1)) = p' ∧ _
    rw [runT_bind]
    obtain ⟨l, e, h1, hlo, hhi⟩ := place_run ha k 0 k (by lia) (Nat.le_refl _) (by lia) (fun i a => by lia) (fun i a b => by lia)
    rw [e]
    have hs : k < p.size := by rw [hp.size]; lia
    have ek := hp.idty k (Nat.le_refl _) (by lia)
    have g : ∀ i, gd (bubble p k (k - l)) i = if i = l then gd p k else if l < i ∧ i ≤ k then gd p (i - 1) else gd p i := fun i => by
      rw [gd_bub hs (by lia)]
      have : k - (k - l) = l := by lia
      rw [this]
    have hlx : ∀ i, i < l → lx r (gd p i) (gd p k) := fun i a => by
      have x := hlo i a
      have y := hp.below i (by lia)
      unfold lx
      rw [ek] at x ⊢
      lia
    refine bin_run f _ (k + 1) (by lia) ⟨(bubble_size _ _ _).trans hp.size, by lia, fun i a b => ?_, fun i a => ?_⟩ fun i j a b => ?_
    · rw [g, if_neg (by lia), if_neg (by lia)]
      exact hp.idty i (by lia) b
    · rw [g]
      by_cases x : i = l
      · rw [if_pos x, ek]; exact Nat.lt_succ_self k
      · rw [if_neg x]
        by_cases y : l < i ∧ i ≤ k
        · rw [if_pos y]
          exact Nat.lt_succ_of_lt (hp.below (i - 1) (by lia))
        · rw [if_neg y]
          exact Nat.lt_succ_of_lt (hp.below i (by lia))
    · rw [g, g]
      by_cases x : i = l
      · rw [if_pos x, if_neg (by lia), if_pos (by lia)]
        exact .inl (hhi (j - 1) (by lia) (by lia))
      · rw [if_neg x]
        by_cases y : l < i ∧ i ≤ k
        · rw [if_pos y, if_neg (by lia), if_pos (by lia)]
          exact ha _ _ (by lia) (by lia)
        · rw [if_neg y]
          by_cases z : j = l
          · rw [if_pos z]; exact hlx i (by lia)
          · rw [if_neg z]
            by_cases u : l < j ∧ j ≤ k
            · rw [if_pos u]
              by_cases v : i = j - 1
              · lia
              · exact ha i (j - 1) (by lia) (by lia)
            · rw [if_neg u]
              exact ha i j a (by lia)
theorem sort_run (hn : 1 ≤ n) : Asc r (runT (ora r) (kas_sort n)) n ∧ Pre n (runT (ora r) (kas_sort n)) n := by
  unfold kas_sort
  rw [runT_bind]
  have h0 : Pre n (List.toArray (List.range n)) 0 := ⟨by simp, Nat.zero_le _, fun k _ a => by unfold gd; simp [Array.getD_eq_getD_getElem?, a], fun k a => by lia⟩
  obtain ⟨m, p, e, a1, a2, a3⟩ := count_run (r := r) hn h0
  rw [e]
  dsimp only
  have hm : max m 1 = m := by lia
  rw [hm]
  by_cases c : m < n
  · rw [if_pos c]
    obtain ⟨p', e2, b1, b2⟩ := bin_run (n - m) p m (by lia) a2 a1
    rw [e2]; exact ⟨b1, b2⟩
  · rw [if_neg c]
    have : m = n := by have := a2.le; lia
    subst this
    exact ⟨a1, a2⟩
end
/-- every question is about places below `n`, every result is as `P` says -/
def okR {α : Type} (n : Nat) (P : α → Prop) : KasT α → Prop
  | .ret a => P a
  | .ask i j k => i < n ∧ j < n ∧ ∀ b, okR n P (k b)
theorem okR_bind {α β : Type} {n : Nat} {P : α → Prop} {Q : β → Prop} {f : α → KasT β} : ∀ {t : KasT α}, okR n P t → (∀ a, P a → okR n Q (f a)) → okR n Q (t.bind f)
  | .ret a, h, hf => hf a h
  | .ask i j k, h, hf => ⟨h.1, h.2.1, fun b => okR_bind (h.2.2 b) hf⟩
theorem okR_ite {α : Type} {n : Nat} {P : α → Prop} {c : Prop} [Decidable c] {t u : KasT α} (h1 : c → okR n P t) (h2 : ¬ c → okR n P u) : okR n P (if c then t else u) := by
  by_cases h : c
  · rw [if_pos h]; exact h1 h
  · rw [if_neg h]; exact h2 h
def InA (n : Nat) (p : Array Nat) : Prop := ∀ x ∈ p, x < n
theorem InA.gd {n : Nat} {p : Array Nat} (h : InA n p) (hn : 0 < n) (k : Nat) : p.getD k 0 < n := by
  rw [Array.getD_eq_getD_getElem?]
  cases e : p[k]? with
  | none => exact hn
  | some x => exact h x (Array.mem_of_getElem? e)
theorem InA.perm {n : Nat} {p q : Array Nat} (h : InA n p) (e : q.Perm p) : InA n q := fun x hx => h x (e.mem_iff.mp hx)
theorem InA.rev {n : Nat} {p : Array Nat} (h : InA n p) (i j : Nat) : InA n (kas_rev p i j) := h.perm (mirror_perm _ _ _ _)
theorem InA.bub {n : Nat} {p : Array Nat} (h : InA n p) (i j : Nat) : InA n (bubble p i j) := h.perm (bubble_perm _ _ _)
section
variable {n : Nat} (hn : 0 < n)
include hn
theorem ok_asc {p : Array Nat} (h : InA n p) : ∀ (f m : Nat), okR n (fun _ => True) (kas_asc p f m)
  | 0, m => trivial
  | f + 1, m => ⟨h.gd hn _, h.gd hn _, fun c => okR_ite (fun _ => trivial) fun _ => ok_asc h f (m + 1)⟩
theorem ok_desc : ∀ (f : Nat) {p : Array Nat} (m q : Nat), InA n p → okR n (fun x => InA n x.1) (kas_desc f p m q)
  | 0, p, m, q, h => h
  | f + 1, p, m, q, h => ⟨h.gd hn _, h.gd hn _, fun c => okR_ite (fun _ => okR_ite (fun _ => ok_desc f _ _ (h.rev _ _)) fun _ => ok_desc f _ _ h) fun _ => ⟨h.gd hn _, h.gd hn _, fun d => okR_ite (fun _ => h) fun _ => ok_desc f _ _ h⟩⟩
theorem ok_tail {p : Array Nat} (h : InA n p) (m k : Nat) : okR n (fun x => InA n x.2) (kas_tail3 m k p) := okR_bind (ok_asc hn (h.rev _ _) _ _) fun _ _ => h.rev _ _
theorem ok_descPart {p : Array Nat} (h : InA n p) (m k : Nat) : okR n (fun x => InA n x.2) (kas_descPart m k p) :=
  okR_bind (ok_desc hn _ _ _ h) fun r hr => okR_ite (fun _ => ok_tail hn (hr.rev _ _) _ _) fun _ => ok_tail hn hr _ _
theorem ok_count {p : Array Nat} (h : InA n p) (k : Nat) : okR n (fun x => InA n x.2) (kas_count k p) :=
  okR_bind (ok_asc hn h _ _) fun m _ => okR_ite (fun _ => h) fun _ => okR_ite (fun _ => ⟨h.gd hn _, h.gd hn _, fun c => okR_ite (fun _ => h) fun _ => ok_descPart hn (h.rev _ _) _ _⟩) fun _ => ok_descPart hn h _ _
theorem ok_place {p : Array Nat} (h : InA n p) (k : Nat) : ∀ (f l r : Nat), okR n (fun _ => True) (kas_place p k f l r)
  | 0, l, r => trivial
  | f + 1, l, r => okR_ite (fun _ => trivial) fun _ => ⟨h.gd hn _, h.gd hn _, fun c => okR_ite (fun _ => ok_place h k f _ _) fun _ => ok_place h k f _ _⟩
theorem ok_bin : ∀ (f : Nat) {p : Array Nat} (k : Nat), InA n p → okR n (InA n) (kas_bin f p k)
  | 0, p, k, h => h
  | f + 1, p, k, h => okR_bind (ok_place hn h _ _ _ _) fun _ _ => ok_bin f _ (h.bub _ _)
theorem ok_sort : okR n (InA n) (kas_sort n) := by
  have h : InA n (List.toArray (List.range n)) := fun x hx => by simpa using hx
  exact okR_bind (ok_count hn h _) fun r hr => okR_ite (fun _ => ok_bin hn _ _ hr) fun _ => hr
end
/-- a run in which every question is answered by ranks -/
theorem kas_answer {α : Type} {n : Nat} {P : α → Prop} {o : Nat → Nat → Bool} {cmp : Nat → Nat → (Bool → Shared → Prop) → Shared → Prop} (I : Shared → Prop)
    (ask : ∀ i j C s, i < n → j < n → I s → (∀ s', I s' → C (o i j) s') → cmp i j C s) : ∀ (t : KasT α) (Q : α → Shared → Prop) (s : Shared), okR n P t → I s → (∀ s', I s' → Q (runT o t) s') → t.kasWp cmp Q s
  | .ret a, Q, s, _, hI, hQ => hQ s hI
  | .ask i j k, Q, s, h, hI, hQ => ask i j _ s h.1 h.2.1 hI fun s' hI' => kas_answer I ask (k (o i j)) Q s' (h.2.2 _) hI' hQ
theorem lx_asymm {r : Nat → Int} {a b : Nat} (h1 : lx r a b) (h2 : lx r b a) : False := by unfold lx at *; lia
theorem lx_unique {r : Nat → Int} : ∀ {l1 l2 : List Nat}, l1.Pairwise (lx r) → l2.Pairwise (lx r) → (∀ x, x ∈ l1 ↔ x ∈ l2) → l1 = l2
  | [], [], _, _, _ => rfl
  | [], b :: l2, _, _, h => absurd ((h b).mpr (List.mem_cons_self ..)) (by simp)
  | a :: l1, [], _, _, h => absurd ((h a).mp (List.mem_cons_self ..)) (by simp)
  | a :: l1, b :: l2, h1, h2, h => by
    rw [List.pairwise_cons] at h1 h2
    have e : a = b := by
      rcases List.mem_cons.mp ((h a).mp (List.mem_cons_self ..)) with e | ha
      · exact e
      · rcases List.mem_cons.mp ((h b).mpr (List.mem_cons_self ..)) with e | hb
        · exact e.symm
        · exact (lx_asymm (h1.1 b hb) (h2.1 a ha)).elim
    subst e
    have n1 : a ∉ l1 := fun x => lx_asymm (h1.1 a x) (h1.1 a x)
    have n2 : a ∉ l2 := fun x => lx_asymm (h2.1 a x) (h2.1 a x)
    congr 1
    refine lx_unique h1.2 h2.2 fun x => ⟨fun hx => ?_, fun hx => ?_⟩
    · rcases List.mem_cons.mp ((h x).mp (List.mem_cons_of_mem _ hx)) with e | hx'
      · rw [e] at hx; exact absurd hx n1
      · exact hx'
    · rcases List.mem_cons.mp ((h x).mpr (List.mem_cons_of_mem _ hx)) with e | hx'
      · rw [e] at hx; exact absurd hx n2
      · exact hx'
/-- rank by rank -/
def byRank (r : Nat → Int) (n k : Nat) : List Nat := (List.range k).flatMap fun (q : Nat) => (List.range n).filter fun i => r i == (q : Int)
theorem byRank_pair (r : Nat → Int) (n : Nat) : ∀ k, (byRank r n k).Pairwise (lx r) ∧ ∀ x ∈ byRank r n k, r x < k
  | 0 => ⟨.nil, fun x h => nomatch h⟩
  | k + 1 => by
    obtain ⟨h1, h2⟩ := byRank_pair r n k
    have e : byRank r n (k + 1) = byRank r n k ++ (List.range n).filter fun i => r i == (k : Int) := by
      unfold byRank
      rw [List.range_succ, List.flatMap_append]
      simp
    have hm : ∀ x ∈ (List.range n).filter fun i => r i == (k : Int), r x = k := fun x hx => by simpa using (List.mem_filter.mp hx).2
    rw [e]
    refine ⟨List.pairwise_append.mpr ⟨h1, ?_, fun a ha b hb => .inl (by rw [hm b hb]; exact h2 a ha)⟩, fun x hx => ?_⟩
    · have hp : (List.range n).Pairwise (· < ·) := List.pairwise_lt_range
      refine List.Pairwise.imp_of_mem (fun {a b} ha hb hab => ?_) (hp.filter _)
      exact .inr ⟨by rw [hm a ha, hm b hb], hab⟩
    · rcases List.mem_append.mp hx with h | h
      · have := h2 x h
        lia
      · rw [hm x h]; lia
theorem byRank_mem {r : Nat → Int} {n k : Nat} (hr : ∀ i, i < n → 0 ≤ r i ∧ r i < k) (x : Nat) : x ∈ byRank r n k ↔ x < n := by
  unfold byRank
  rw [List.mem_flatMap]
  constructor
  · rintro ⟨q, _, h⟩
    simpa using (List.mem_filter.mp h).1
  · intro h
    have := hr x h
    exact ⟨(r x).toNat, by simp; lia, List.mem_filter.mpr ⟨by simpa using h, by simp; lia⟩⟩
theorem nodup_len : ∀ {l1 l2 : List Nat}, l1.Nodup → (∀ x ∈ l1, x ∈ l2) → l1.length ≤ l2.length
  | [], l2, _, _ => Nat.zero_le _
  | a :: l1, l2, hd, hs => by
    rw [List.nodup_cons] at hd
    have ha : a ∈ l2 := hs a (List.mem_cons_self ..)
    have := nodup_len (l1 := l1) (l2 := l2.erase a) hd.2 fun x hx => (List.mem_erase_of_ne (fun e => hd.1 (by rw [← e]; exact hx))).mpr (hs x (List.mem_cons_of_mem _ hx))
    rw [List.length_erase_of_mem ha] at this
    have : 0 < l2.length := List.length_pos_of_mem ha
    rw [List.length_cons]; lia
theorem asc_list {r : Nat → Int} {n : Nat} {p : Array Nat} (ha : Asc r p n) (hp : Pre n p n) : p.toList.Pairwise (lx r) ∧ ∀ x, x ∈ p.toList ↔ x < n := by
  have hl : p.toList.length = n := by rw [Array.length_toList]; exact hp.size
  have hg : ∀ i (h : i < p.toList.length), p.toList[i] = gd p i := fun i h => by
    unfold gd
    have h' : i < p.size := by simpa using h
    simp [Array.getD_eq_getD_getElem?, h']
  have hpw : p.toList.Pairwise (lx r) := by
    rw [List.pairwise_iff_getElem]
    intro i j hi hj hij
    rw [hg, hg]
    exact ha i j hij (by lia)
  refine ⟨hpw, fun x => ⟨fun hx => ?_, fun hx => ?_⟩⟩
  · obtain ⟨i, hi, e⟩ := List.mem_iff_getElem.mp hx
    rw [hg] at e
    rw [← e]; exact hp.below i (by lia)
  · have nd : p.toList.Nodup := hpw.imp fun {a b} h e => by subst e; exact lx_asymm h h
    exact Classical.byContradiction fun hn => by
      have hs : ∀ y ∈ p.toList, y ∈ (List.range n).erase x := fun y hy => by
        have hy' : y < n := by
          obtain ⟨i, hi, e⟩ := List.mem_iff_getElem.mp hy
          rw [hg] at e
          rw [← e]; exact hp.below i (by lia)
        have ne : y ≠ x := fun e => hn (by rw [← e]; exact hy)
        exact (List.mem_erase_of_ne ne).mpr (by simpa using hy')
      have := nodup_len nd hs
      rw [hl, List.length_erase_of_mem (by simpa using hx), List.length_range] at this
      lia
theorem sorted_is {r : Nat → Int} {n k : Nat} (hn : 1 ≤ n) (hr : ∀ i, i < n → 0 ≤ r i ∧ r i < k) : (runT (ora r) (kas_sort n)).toList = byRank r n k := by
  obtain ⟨h1, h2⟩ := sort_run (r := r) hn
  obtain ⟨a, b⟩ := asc_list h1 h2
  exact lx_unique a (byRank_pair r n k).1 fun x => (b x).trans (byRank_mem hr x).symm
end Mine
end
section
open PySem PySem.W PyProof.Rows PySem.Calls PySem.MeetsSeq PySem.W.X
open Sem (wp)
namespace Mine
theorem KRm.keeps {P : Params} {L : Addr} {k : KA} {h h' : Heap} (Kr : KRm P L k h) (up : ∀ b o, h.get? b = some o → h'.get? b = some o) : KRm P L k h' :=
  ⟨up _ _ Kr.hC, up _ _ Kr.hN, up _ _ Kr.hM, up _ _ Kr.hI, Kr.eI, up _ _ Kr.hcI, Kr.dI, Kr.wI, up _ _ Kr.hL, Kr.eL, up _ _ Kr.hcL, Kr.dL, Kr.wL⟩
/-- v is an object of the class and bears n -/
def KInst (k : KA) (h : Heap) (v : Value) (n : Int) : Prop := ∃ x dx t, v = .ref x ∧ h.get? x = some ⟨.ref k.C, some dx, .plain, #[some (.int n t)]⟩ ∧ h.get? dx = some ⟨.type "dict", none, .dict #[] 0, #[]⟩
theorem KInst.keeps {k : KA} {h h' : Heap} {v : Value} {n : Int} (x : KInst k h v n) (up : ∀ b o, h.get? b = some o → h'.get? b = some o) : KInst k h' v n := by
  obtain ⟨a, dx, t, e, e1, e2⟩ := x
  exact ⟨a, dx, t, e, up _ _ e1, up _ _ e2⟩
theorem ne_cls {h : Heap} {a b : Addr} {oa ob : Obj} (ea : h.get? a = some oa) (eb : h.get? b = some ob) (n : (oa.cls != ob.cls) = true) : (a == b) = false := by
  simpa using ne_objs a b oa ob ea eb n
noncomputable def K3 (k : KA) : Frag := [(k.C, kCz k.C k.N k.bs k.nt k.t3), (k.N, kNs1 k.G k.T 3 k.aS k.aI k.aL k.aG k.aE k.aX k.aY k.aT [kE k.ga (Str.ofString "obj") (k.tm + 1) (.ref k.aM), kE k.gb (Str.ofString "__doc__") (k.tm + 2) .none]), (k.aL, kFnO k.fL)]
theorem k3_in {P : Params} {L : Addr} {k : KA} {h : Heap} (Kr : KRm P L k h) : (K3 k).In h := by
  intro a o e
  unfold K3 at e
  rw [List.lookup_cons] at e
  by_cases h1 : a = k.C
  · subst h1
    rw [beq_self_eq_true] at e
    cases e; exact Kr.hC
  · rw [beq_eq_false_iff_ne.mpr h1, List.lookup_cons] at e
    by_cases h2 : a = k.N
    · subst h2
      simp only [beq_self_eq_true] at e
      cases e; exact Kr.hN
    · rw [beq_eq_false_iff_ne.mpr h2, List.lookup_cons] at e
      by_cases h3 : a = k.aL
      · subst h3
        simp only [beq_self_eq_true] at e
        cases e; exact Kr.hL
      · rw [beq_eq_false_iff_ne.mpr h3] at e
        cases e
theorem k3_C (k : KA) : (K3 k).lookup k.C = some (kCz k.C k.N k.bs k.nt k.t3) := by
  unfold K3; rw [List.lookup_cons, beq_self_eq_true]
theorem k3_N {P : Params} {L : Addr} {k : KA} {h : Heap} (Kr : KRm P L k h) : (K3 k).lookup k.N = some (kNs1 k.G k.T 3 k.aS k.aI k.aL k.aG k.aE k.aX k.aY k.aT [kE k.ga (Str.ofString "obj") (k.tm + 1) (.ref k.aM), kE k.gb (Str.ofString "__doc__") (k.tm + 2) .none]) := by
  unfold K3; rw [List.lookup_cons, ne_cls Kr.hN Kr.hC (by kernel_rfl)]; simp only [List.lookup_cons, beq_self_eq_true]
theorem k3_L {P : Params} {L : Addr} {k : KA} {h : Heap} (Kr : KRm P L k h) : (K3 k).lookup k.aL = some (kFnO k.fL) := by
  unfold K3; rw [List.lookup_cons, ne_cls Kr.hL Kr.hC (by kernel_rfl)]; simp only [List.lookup_cons, ne_cls Kr.hL Kr.hN (by kernel_rfl), beq_self_eq_true]
theorem k3_find {P : Params} {L : Addr} {k : KA} {h : Heap} (Kr : KRm P L k h) : findIn (K3 k) (.ref k.C) "__lt__" = some (some (.ref k.aL)) := by
  have e : ownIn (K3 k) (Str.ofString "__lt__") (.ref k.C) = some (some (.ref k.aL)) := by
    unfold ownIn
    simp only [k3_C]
    show nsIn (K3 k) k.N _ = _
    unfold nsIn
    simp only [k3_N Kr]
    kernel_rfl
  unfold findIn
  simp only [k3_C]
  show alongIn (K3 k) (Str.ofString "__lt__") (.ref k.C :: [.type "object"]) = _
  unfold alongIn
  rw [e]
theorem k3_fn {P : Params} {L : Addr} {k : KA} {h : Heap} (Kr : KRm P L k h) : isFn (K3 k) (.ref k.aL) = true := by
  obtain ⟨ct, doc, e⟩ := Kr.eL
  have e1 := k3_L Kr
  rw [e] at e1
  unfold isFn typeIn
  simp only [e1]
  kernel_rfl
set_option maxHeartbeats 0 in
/-- the sort's question, asked of two keys -/
theorem key_lt {w : World} {A : Around} {Q : Bool → Shared → Prop} {h : Heap} {g : Array GenState} {d : Drawn} {tk : Nat} {os : OsState} {L : Addr} {k : KA} {aF : Addr} {v1 v2 : Value} {n1 n2 z : Int} {xc : Value} {xd : Option Addr} {xs : Array (Option Value)}
  (Kr : KRm w.params L k h) (k2 : h.get? 2 = some ⟨.none, none, .dict #[] 0, #[]⟩) (hu : A.units < cLine) (hd : A.depth + 10 < recursionLimit) (hcell : h.get? (L + 1) = some ⟨xc, xd, .cell (some (.ref aF)), xs⟩)
  (i1 : KInst k h v1 n1) (i2 : KInst k h v2 n2) (hfn : ∃ oc od fd sl, h.get? aF = some ⟨oc, od, .func fd, sl⟩)
  (lam : ∀ (A' : Around) (R' : Result → Shared → Prop) (s' : Shared) (t1 t2 : Tok), A'.depth < recursionLimit → (∀ b o, h.get? b = some o → s'.heap.get? b = some o) → (∀ h'' tk'' t', (∀ b o, s'.heap.get? b = some o → h''.get? b = some o) → R' (.ok (.ret (.int z t'))) { s' with heap := h'', toks := tk'' }) → codeAny (model PR w) A' (.call (.ref aF) ⟨[.int n1 t1, .int n2 t2], []⟩) R' s')
  (hQ : ∀ h' tk', (∀ b o, h.get? b = some o → h'.get? b = some o) → Q (decide (z < 0)) ⟨h', g, d, tk', os⟩) :
  wpAny (model PR w) A (keyLt' oneType' v1 v2) Q (fun _ _ => False) ⟨h, g, d, tk, os⟩ := by
  obtain ⟨x1, d1, t1, rfl, e1, f1⟩ := i1
  obtain ⟨x2, d2, t2, rfl, e2, f2⟩ := i2
  rw [keyLt'_oneType, oneLt'_eq]
  simp only [if_true]
  refine wpAny_bind (wpAny_cRoomFor hu ?_)
  refine wpAny_bind (ifBound_K (K := K3 k) (C := k.C) (f := k.aL) (od := some ⟨.type "dict", none, .dict #[] 0, #[]⟩) (k3_in Kr) ⟨e1, rfl, rfl, f1⟩ (k3_find Kr) (k3_fn Kr) ?_)
  refine wpAny_call ?_
  refine lt_c (k := k) Kr k2 hd hcell e1 e2 hfn (fun A' R' s' a b c => lam A' R' s' t1 t2 a b c) fun h' tk' up => ?_
  exact wpAny_truthy_bool (hQ h' tk' up)
end Mine
end
section
open PySem PySem.W PyProof.Rows PySem.Calls PySem.MeetsSeq PySem.W.X
open Sem (wp)
namespace Mine
local macro_rules | `(tactic| walk_at "pad") => `(tactic| skip)
theorem ints_map {f : Nat → Value} {g : Nat → Int} : ∀ (l : List Nat), (∀ i ∈ l, ∃ t, f i = .int (g i) t) → IntsAre (l.map f) (l.map g)
  | [], _ => .nil
  | i :: l, h => by
    obtain ⟨t, e⟩ := h i (List.mem_cons_self ..)
    show IntsAre (f i :: l.map f) (g i :: l.map g)
    rw [e]
    exact .cons _ t (ints_map l fun j q => h j (List.mem_cons_of_mem _ q))
theorem up_same {h₀ h h' : Heap} {a : Addr} (up : ∀ b o, h₀.get? b = some o → h.get? b = some o) (hs : Heap.SameBut a h h') (h0 : h₀.get? a = none) : ∀ b o, h₀.get? b = some o → h'.get? b = some o :=
  fun b o e => (hs.2 b (fun q => by rw [q, h0] at e; cases e)).trans (up b o e)
def rankOrd (r : Int → Int) (ns : List Int) (kk : Nat) : List Int := (byRank (fun i => r (ns.getD i 0)) ns.length kk).map fun i => ns.getD i 0
structure SrtAt (h₀ : Heap) (kS a : Addr) (keys : Array Value) (e e1 : Nat) (h : Heap) : Prop where
  up : ∀ b o, h₀.get? b = some o → h.get? b = some o
  ks : h.get? kS = some (seqObj "list" keys e)
  la : h.get? a = some (seqObj "list" #[] e1)
theorem SrtAt.grow {h₀ h h' : Heap} {kS a : Addr} {keys : Array Value} {e e1 : Nat} (S : SrtAt h₀ kS a keys e e1 h) (up : ∀ b o, h.get? b = some o → h'.get? b = some o) : SrtAt h₀ kS a keys e e1 h' :=
  ⟨fun b o q => up b o (S.up b o q), up _ _ S.ks, up _ _ S.la⟩
section
variable {w : World} {A : Around} {E : Value → Shared → Prop} {h₀ h : Heap} {g : Array GenState} {d : Drawn} {tk : Nat} {os : OsState} {L : Addr} {k : KA} {aF a kS : Addr} {vs : List Value} {ns : List Int} {r : Int → Int} {kk : Nat} {keys : Array Value} {e e1 : Nat} {P : PySem.Fin → Shared → Prop} {xc : Value} {xd : Option Addr} {xs : Array (Option Value)}
def LamOk (w : World) (h : Heap) (aF : Addr) (ns : List Int) (r : Int → Int) : Prop :=
  ∀ (x y : Int), x ∈ ns → y ∈ ns → ∀ (A' : Around) (R' : Result → Shared → Prop) (s' : Shared) (t1 t2 : Tok), A'.depth < recursionLimit → (∀ b o, h.get? b = some o → s'.heap.get? b = some o) →
    (∀ h'' tk'' t', (∀ b o, s'.heap.get? b = some o → h''.get? b = some o) → R' (.ok (.ret (.int (r x - r y) t'))) { s' with heap := h'', toks := tk'' }) → codeAny (model PR w) A' (.call (.ref aF) ⟨[.int x t1, .int y t2], []⟩) R' s'
theorem srt_tail {st : SortSt} (S : SrtAt h₀ kS a keys e e1 h) (hka : kS ≠ a) (h0k : h₀.get? kS = none) (h0a : h₀.get? a = none) (hks : keys.size < 64) {out : List Value} (hlen : out.length < 64) (har : (arrOf st).map (·.2) = out.toArray) (hfl : failedOf st = none)
    (hP : ∀ h' tk c, (∀ b o, h₀.get? b = some o → h'.get? b = some o) → h'.get? a = some (seqObj "list" out.toArray c) → P (.done (.ret .none)) ⟨h', g, d, tk, os⟩) :
    wpAny (model PR w) A (ksk_tail a false e1 (.ref kS) st) P E ⟨h, g, d, tk, os⟩ := by
  have s1 := Heap.SameBut.update h kS (Obj.mapSeq fun _ => (#[] : Array Value))
  have na1 : (h.update kS (Obj.mapSeq fun _ => (#[] : Array Value))).get? a = some (seqObj "list" #[] e1) := (s1.2 a hka.symm).trans S.la
  have s2 := Heap.SameBut.update (h.update kS (Obj.mapSeq fun _ => (#[] : Array Value))) a (Obj.mapSeq fun _ => out.toArray)
  obtain ⟨c2, hc2⟩ : ∃ c2, ((h.update kS (Obj.mapSeq fun _ => (#[] : Array Value))).update a (Obj.mapSeq fun _ => out.toArray)).get? a = some (seqObj "list" out.toArray c2) :=
    ⟨_, get?_update_seq na1 fun _ => out.toArray⟩
  unfold ksk_tail
  rw [har]
  try dsimp only
  refine wpAny_bind (listUpdate_at S.ks rfl ?_ (by rw [sizeLine_eq]; lia) (Nat.zero_le _))
  refine wpAny_bind (wpAny_letGo ?_)
  refine wpAny_bind (seqEpoch_at na1 rfl ?_)
  refine wpAny_bind (listUpdate_at na1 rfl ?_ (Nat.zero_le _) (by rw [sizeLine_eq]; show out.toArray.size ≤ _; rw [List.size_toArray]; lia))
  rw [hfl]
  simp only [bne_self_eq_false, Bool.false_eq_true, if_false]
  exact wpAny_pure (hP _ _ c2 (up_same (up_same S.up s1 h0k) s2 h0a) hc2)
theorem srt_end (S : SrtAt h₀ kS a keys e e1 h) (hka : kS ≠ a) (h0k : h₀.get? kS = none) (h0a : h₀.get? a = none)
    (Kr : KRm w.params L k h₀) (k2 : h₀.get? 2 = some ⟨.none, none, .dict #[] 0, #[]⟩) (hu : A.units < cLine) (hd : A.depth + 10 < recursionLimit) (hcell : h₀.get? (L + 1) = some ⟨xc, xd, .cell (some (.ref aF)), xs⟩) (hfn : ∃ oc od fd sl, h₀.get? aF = some ⟨oc, od, .func fd, sl⟩)
    (lam : LamOk w h₀ aF ns r) (hi : IntsAre vs ns) (h2 : 2 ≤ vs.length) (h64 : vs.length < 64) (hks : keys.size = vs.length) (hK : ∀ i, i < vs.length → KInst k h (keys.getD i Value.none) (ns.getD i 0)) (hr : ∀ x ∈ ns, 0 ≤ r x ∧ r x < kk)
    (hP : ∀ h' tk c vs', (∀ b o, h₀.get? b = some o → h'.get? b = some o) → h'.get? a = some (seqObj "list" (List.toArray vs') c) → IntsAre vs' (rankOrd r ns kk) → P (.done (.ret .none)) ⟨h', g, d, tk, os⟩) :
    wpAny (model PR w) A (ksk_end a false vs.toArray e1 (.ref kS) keys) P E ⟨h, g, d, tk, os⟩ := by
  have hnl := hi.length
  have hzs : (keys.zip vs.toArray).size = vs.length := by rw [Array.size_zip, hks, List.size_toArray, Nat.min_self]
  unfold ksk_end
  dsimp only
  rw [if_neg (by simp), if_neg (by rw [List.size_toArray]; lia), if_neg (by rw [List.size_toArray]; lia)]
  have ek : keys = keys.toList.toArray := (Array.toArray_toList).symm
  refine wpAny_bind (?_ : wpAny _ _ (keyKind' keys) _ _ _)
  rw [ek]
  refine kas_kind (T := .ref k.C) (by rw [Array.length_toList, hks]; exact h2) (fun v hv => ?_) (by simp) (by simp) ?_
  · obtain ⟨i, hi', rfl⟩ := List.getElem_of_mem hv
    rw [Array.length_toList, hks] at hi'
    obtain ⟨x, dx, t, ev, e2, e3⟩ := hK i hi'
    have e4 : keys.toList[i] = .ref x := by
      rw [← ev]
      simp [Array.getD, hks, hi']
    rw [e4]
    exact InstAt.type (od := some ⟨.type "dict", none, .dict #[] 0, #[]⟩) ⟨e2, rfl, rfl, e3⟩
  rw [← ek]
  rw [if_neg (by simp)]
  have est : SortSt.mk' oneType' (keys.zip vs.toArray) #[] 7 none = kas_st oneType' (keys.zip vs.toArray) (List.toArray (List.range vs.length)) := by
    have e := kas_range (keys.zip vs.toArray)
    rw [hzs] at e
    show SortSt.mk' oneType' (keys.zip vs.toArray) #[] 7 none = SortSt.mk' oneType' ((List.toArray (List.range vs.length)).map (kas_item (keys.zip vs.toArray))) #[] 7 none
    rw [e]
  rw [est]
  have item : ∀ i, i < vs.length → kas_item (keys.zip vs.toArray) i = (keys.getD i .none, vs.getD i .none) := by
    intro i hi'
    unfold kas_item
    have h1 : i < (keys.zip vs.toArray).size := by lia
    have h3 : i < keys.size := by lia
    simp [Array.getD, h3, hi']
    rw [dif_pos (by lia)]
  have asked := kas_answer (n := vs.length) (P := InA vs.length) (o := ora fun i => r (ns.getD i 0)) (cmp := kas_cmp PR w A oneType' (keys.zip vs.toArray)) (fun s' => ∃ h' tk, s' = ⟨h', g, d, tk, os⟩ ∧ ∀ b o, h.get? b = some o → h'.get? b = some o)
    (fun i j C s hi' hj ⟨h', tk, es, up⟩ hC => by
      subst es
      unfold kas_cmp
      rw [item i hi', item j hj]
      have K2 : KRm w.params L k h' := Kr.keeps fun b o q => up b o (S.up b o q)
      have m : ∀ i, i < vs.length → ns.getD i 0 ∈ ns := fun i q => by
        have q' : i < ns.length := by lia
        simp [q']
      refine key_lt (aF := aF) (n1 := ns.getD i 0) (n2 := ns.getD j 0) (z := r (ns.getD i 0) - r (ns.getD j 0)) K2 (up _ _ (S.up _ _ k2)) hu hd (up _ _ (S.up _ _ hcell)) ((hK i hi').keeps up) ((hK j hj).keeps up) ?_ ?_ ?_
      · obtain ⟨oc, od, fd, sl, q⟩ := hfn
        exact ⟨oc, od, fd, sl, up _ _ (S.up _ _ q)⟩
      · intro A' R' s' t1 t2 hd' up' hR'
        exact lam _ _ (m i hi') (m j hj) A' R' s' t1 t2 hd' (fun b o q => up' _ _ (up _ _ (S.up _ _ q))) hR'
      · intro h'' tk' up'
        have e : decide (r (ns.getD i 0) - r (ns.getD j 0) < 0) = ora (fun i => r (ns.getD i 0)) i j := by
          unfold ora
          by_cases c : r (ns.getD i 0) < r (ns.getD j 0)
          · rw [decide_eq_true c, decide_eq_true (by lia)]
          · rw [decide_eq_false c, decide_eq_false (by lia)]
        rw [e]
        exact hC _ ⟨h'', tk', rfl, fun b o q => up' b o (up b o q)⟩)
    (kas_sort vs.length) (fun p s' => p = runT (ora fun i => r (ns.getD i 0)) (kas_sort vs.length) ∧ ∃ h' tk, s' = ⟨h', g, d, tk, os⟩ ∧ ∀ b o, h.get? b = some o → h'.get? b = some o) ⟨h, g, d, tk, os⟩ (ok_sort (by lia)) ⟨h, tk, rfl, fun _ _ q => q⟩ fun s' hs => ⟨rfl, hs⟩
  have run := kas_runs (E := E) (Q := fun _ st' s' => ∃ p : Array Nat, p.size = vs.length ∧ arrOf st' = p.map (kas_item (keys.zip vs.toArray)) ∧ failedOf st' = none ∧ p = runT (ora fun i => r (ns.getD i 0)) (kas_sort vs.length) ∧ ∃ h' tk, s' = ⟨h', g, d, tk, os⟩ ∧ ∀ b o, h.get? b = some o → h'.get? b = some o)
    h2 h64 (fun p' st' s' a1 a2 a3 a4 => ⟨p', a1, a2, a3, a4.1, a4.2⟩) asked
  refine wpAny_bind (wpAny_mono run ?_ fun _ _ e => e)
  rintro ⟨⟨⟩, st'⟩ s' ⟨p, hpz, har, hf, hp, h', tk', rfl, up⟩
  dsimp only
  have hp2 : p.toList = byRank (fun i => r (ns.getD i 0)) vs.length kk := by
    rw [hp]
    refine sorted_is (by lia) fun i hi' => ?_
    have q' : i < ns.length := by lia
    refine hr _ ?_
    simp [q']
  have hmem : ∀ i ∈ p.toList, i < vs.length := by
    intro i q
    rw [hp2] at q
    unfold byRank at q
    simp only [List.mem_flatMap, List.mem_filter, List.mem_range] at q
    obtain ⟨_, _, q, _⟩ := q
    exact q
  have hout : (arrOf st').map (·.2) = List.toArray (p.toList.map fun i => vs.getD i Value.none) := by
    apply Array.toList_inj.mp
    rw [har, Array.map_map, Array.toList_map]
    exact List.map_congr_left fun i hi' => by show (kas_item (keys.zip vs.toArray) i).2 = _; rw [item i (hmem i hi')]
  refine srt_tail (S.grow up) hka h0k h0a (by lia) (out := p.toList.map fun i => vs.getD i Value.none) ?_ hout hf fun h'' tk'' c up' ha => hP _ _ c _ up' ha ?_
  · rw [List.length_map, Array.length_toList, hpz]; exact h64
  · unfold rankOrd
    rw [← hnl, ← hp2]
    refine ints_map _ fun i hi' => ?_
    have q' : i < ns.length := by have := hmem i hi'; lia
    have e1 : ns.getD i 0 = ns[i] := by simp [q']
    have e2 : ns[i]? = some ns[i] := List.getElem?_eq_getElem q'
    obtain ⟨t, ht⟩ := hi.get i _ e2
    exact ⟨t, by rw [e1, List.getD_eq_getElem?_getD, ht]; rfl⟩
theorem wpAny_ofNew {α β : Type} {M : Model} {A : Around} {E : Value → Shared → Prop} {m : Sem α} {f : α → Sem β} {Q : β → Shared → Prop} {s : Shared} (h : wpAny M A m (fun a s' => wpAny M A (f a) Q E s') E s) : wpAny M A (m >>= f) Q E s := wpAny_bind h
theorem srt_rest (S : SrtAt h₀ kS a #[] 0 e1 h) (hka : kS ≠ a) (h0k : h₀.get? kS = none) (h0a : h₀.get? a = none)
    (Kr : KRm w.params L k h₀) (k2 : h₀.get? 2 = some ⟨.none, none, .dict #[] 0, #[]⟩) (hu : A.units < cLine) (hd : A.depth + 10 < recursionLimit) (hcell : h₀.get? (L + 1) = some ⟨xc, xd, .cell (some (.ref aF)), xs⟩) (hfn : ∃ oc od fd sl, h₀.get? aF = some ⟨oc, od, .func fd, sl⟩)
    (lam : LamOk w h₀ aF ns r) (hi : IntsAre vs ns) (h2 : 2 ≤ vs.length) (h64 : vs.length < 64) (hr : ∀ x ∈ ns, 0 ≤ r x ∧ r x < kk)
    (hP : ∀ h' tk c vs', (∀ b o, h₀.get? b = some o → h'.get? b = some o) → h'.get? a = some (seqObj "list" (List.toArray vs') c) → IntsAre vs' (rankOrd r ns kk) → P (.done (.ret .none)) ⟨h', g, d, tk, os⟩) :
    wpAny (model PR w) A (ksk_rest a (.ref k.C) false vs.toArray e1 (.ref kS)) P E ⟨h, g, d, tk, os⟩ := by
  have hnl := hi.length
  unfold ksk_rest
  refine wpAny_bind (wpAny_rule ?_)
  rw [List.forIn_toArray]
  refine wpAny_bind (ksk_fold (fun i s' => ∃ h' tk kA e, s' = ⟨h', g, d, tk, os⟩ ∧ SrtAt h₀ kS a kA e e1 h' ∧ kA.size = i ∧ ∀ j, j < i → KInst k h' (kA.getD j Value.none) (ns.getD j 0)) vs 0 _
    ⟨h, tk, #[], 0, rfl, S, rfl, fun j q => absurd q (Nat.not_lt_zero _)⟩ ?step ?done)
  case step =>
    rintro j x s' hx ⟨h', tk, kA, e, rfl, S', hz, hK⟩
    simp only [Nat.zero_add] at hz hK ⊢
    have hj : j < vs.length := (List.getElem?_eq_some_iff.mp hx).1
    have hj' : j < ns.length := by lia
    have e2 : ns[j]? = some ns[j] := List.getElem?_eq_getElem hj'
    have e1 : ns.getD j 0 = ns[j] := by simp [hj']
    obtain ⟨t, ht⟩ := hi.get j _ e2
    rw [hx] at ht
    cases ht
    refine wpAny_bind (wpAny_attempt ?_)
    refine k_new (k := k) (L := L) (Kr.keeps S'.up) (S'.up _ _ k2) hd fun i dx h2 tk2 up hi2 hdx hni => ?_
    dsimp only
    have S2 := S'.grow up
    have s1 := Heap.SameBut.update h2 kS (Obj.mapSeq (·.push (.ref i)))
    obtain ⟨c2, hc2⟩ : ∃ c2, (h2.update kS (Obj.mapSeq (·.push (.ref i)))).get? kS = some (seqObj "list" (kA.push (.ref i)) c2) := ⟨_, get?_update_seq S2.ks (·.push (.ref i))⟩
    have nk : ∀ b o, h2.get? b = some o → b ≠ kS → (h2.update kS (Obj.mapSeq (·.push (.ref i)))).get? b = some o := fun b o q c => (s1.2 b c).trans q
    have kn : ∀ {v : Value} {n : Int}, KInst k h2 v n → KInst k (h2.update kS (Obj.mapSeq (·.push (.ref i)))) v n := by
      rintro v n ⟨x, dx, t, ev, f1, f2⟩
      refine ⟨x, dx, t, ev, nk _ _ f1 ?_, nk _ _ f2 ?_⟩
      · rintro rfl; rw [S2.ks] at f1; cases f1
      · rintro rfl
        rw [S2.ks] at f2
        have q : Value.type "list" = Value.type "dict" := congrArg Obj.cls (Option.some.inj f2)
        injection q with q
        exact absurd q (by decide)
    refine wpAny_bind (listUpdate_at S2.ks rfl ?_ (by rw [sizeLine_eq]; lia) (Nat.le_trans (Nat.le_of_eq (Array.size_push ..)) (by rw [sizeLine_eq]; lia)))
    refine wpAny_pure ⟨rfl, _, _, kA.push (.ref i), c2, rfl, ⟨up_same S2.up s1 h0k, hc2, nk _ _ S2.la hka.symm⟩, by rw [Array.size_push, hz], fun j' hj2 => ?_⟩
    by_cases c : j' < j
    · have e3 : (kA.push (Value.ref i)).getD j' Value.none = kA.getD j' Value.none := by
        have q1 : j' < kA.size := by lia
        have q2 : j' < kA.size + 1 := by lia
        simp [Array.getD, q1, q2, Array.getElem_push]
      rw [e3]
      exact kn ((hK j' c).keeps up)
    · have e4 : j' = j := by lia
      subst e4
      have e3 : (kA.push (Value.ref i)).getD j' Value.none = .ref i := by
        simp [Array.getD, hz, Array.getElem_push]
      rw [e3, e1]
      exact kn ⟨i, dx, t, rfl, hi2, hdx⟩
  case done =>
    rintro s' ⟨h', tk, kA, e, rfl, S', hz, hK⟩
    try dsimp only
    refine wpAny_bind (listItems_at S'.ks rfl ?_)
    exact srt_end S' hka h0k h0a Kr k2 hu hd hcell hfn lam hi h2 h64 (by lia) (fun i q => hK i (by lia)) hr hP
set_option maxHeartbeats 0 in
theorem sorted_c {l : Addr} {Q : Value → Shared → Prop}
    (Kr : KRm w.params L k h) (k2 : h.get? 2 = some ⟨.none, none, .dict #[] 0, #[]⟩) (hu : A.in1.in1.units < cLine) (hd : A.in1.in1.depth + 10 < recursionLimit) (hcell : h.get? (L + 1) = some ⟨xc, xd, .cell (some (.ref aF)), xs⟩) (hfn : ∃ oc od fd sl, h.get? aF = some ⟨oc, od, .func fd, sl⟩)
    (lam : LamOk w h aF ns r) (hl : h.IsList l vs.toArray) (hi : IntsAre vs ns) (h2 : 2 ≤ vs.length) (h64 : vs.length < 64) (hr : ∀ x ∈ ns, 0 ≤ r x ∧ r x < kk)
    (hQ : ∀ D h' tk c vs', (∀ b o, h.get? b = some o → h'.get? b = some o) → h'.get? D = some (seqObj "list" (List.toArray vs') c) → h.get? D = none → IntsAre vs' (rankOrd r ns kk) → Q (.ref D) ⟨h', g, d, tk, os⟩) :
    wpAny (model PR w) A (call (.builtin "sorted") [.ref l] [(Str.ofString "key", .ref k.C)]) Q E ⟨h, g, d, tk, os⟩ := by
  refine call_function_entry_kw kind_sorted plain_sorted entry_sorted (ksk_s1 _ _) ?_
  unfold Builtin.«sorted»
  refine wpAny_bind (m := checkCount "sorted" 1 1 _) (wpAny_pure ?_)
  refine wpAny_bind (collect_list hl ?_ (by rw [sizeLine_eq]; lia))
  refine wpAny_bind (wpAny_newList ?_ (by rw [sizeLine_eq]; lia))
  have hsz : ((h.push (seqObj "list" #[] 0)).update h.objs.size (Obj.mapSeq (· ++ vs.toArray))).objs.size = h.objs.size + 1 := by
    rw [Heap.size_update, size_push']
  have hoL : (((h.push (seqObj "list" #[] 0)).update h.objs.size (Obj.mapSeq (· ++ vs.toArray))).push (seqObj "list" vs.toArray 0)).get? (h.objs.size + 1) = some (seqObj "list" vs.toArray 0) := by
    rw [← hsz]; exact Heap.get?_push_size _ rfl
  have keep : ∀ b o, h.get? b = some o → (((h.push (seqObj "list" #[] 0)).update h.objs.size (Obj.mapSeq (· ++ vs.toArray))).push (seqObj "list" vs.toArray 0)).get? b = some o := fun b o q => by
    have hlt : b < h.objs.size := Heap.lt_size q
    rw [Heap.get?_push_ne _ _ _ (by rw [hsz]; exact Nat.ne_of_lt (Nat.lt_succ_of_lt hlt)), Heap.get?_update_ne _ _ _ _ (Nat.ne_of_lt hlt), Heap.get?_push_ne _ _ _ (Nat.ne_of_lt hlt)]
    exact q
  show wpAny _ _ _ _ _ ({ heap := ((h.push (seqObj "list" #[] 0)).update h.objs.size (Obj.mapSeq (· ++ vs.toArray))).push (seqObj "list" vs.toArray 0), gens := g, drawn := d, toks := tk, os := os } : Shared)
  rw [hsz]
  refine wpAny_bind (wpAny_holding (wpAny_call_entry_kw slot_list_sort ⟨_, hoL, rfl⟩ entry_list_sort ?body (ksk_l1 _ _)))
  case body =>
    have ht' := ksk_t1 k.C (h.objs.size + 1)
    show wpAny (model PR w) A.in1.in1 (Builtin.«list.sort» ⟨[.ref (h.objs.size + 1)], _⟩) _ _ _
    rw [ht']
    generalize eH : ((h.push (seqObj "list" #[] 0)).update h.objs.size (Obj.mapSeq (· ++ vs.toArray))).push (seqObj "list" vs.toArray 0) = h1 at hoL keep ⊢
    generalize ea : h.objs.size + 1 = a at hoL ⊢
    have na : h.get? a = none := by rw [← ea]; exact Heap.get?_none_of_le (Nat.le_succ _)
    have hla : a < h1.objs.size := Heap.lt_size hoL
    have s1 := Heap.SameBut.update h1 a (Obj.mapSeq fun _ => (#[] : Array Value))
    obtain ⟨e1, ho1⟩ : ∃ e1, (h1.update a (Obj.mapSeq fun _ => (#[] : Array Value))).get? a = some (seqObj "list" #[] e1) := ⟨_, get?_update_seq hoL fun _ => #[]⟩
    unfold ksk_tree
    refine wpAny_bind (listItems_at hoL rfl ?_)
    refine wpAny_bind (listUpdate_at hoL rfl ?_ (by rw [List.size_toArray, sizeLine_eq]; lia) (Nat.zero_le _))
    refine wpAny_bind (seqEpoch_at ho1 rfl ?_)
    refine wpAny_bind (wpAny_newTuple ?_ (by show vs.length ≤ _; rw [sizeLine_eq]; lia))
    refine wpAny_bind (wpAny_newList ?_ (Nat.zero_le _))
    refine wpAny_holding ?_
    have hsz1 : (h1.update a (Obj.mapSeq fun _ => (#[] : Array Value))).objs.size = h1.objs.size := Heap.size_update ..
    have up1 : ∀ b o, h.get? b = some o → (((h1.update a (Obj.mapSeq fun _ => (#[] : Array Value))).push (seqObj "tuple" vs.toArray 0)).push (seqObj "list" #[] 0)).get? b = some o := fun b o q =>
      Heap.get?_push_of_some _ (Heap.get?_push_of_some _ (up_same keep s1 na b o q))
    have hkz : ((h1.update a (Obj.mapSeq fun _ => (#[] : Array Value))).push (seqObj "tuple" vs.toArray 0)).objs.size = h1.objs.size + 1 := by rw [size_push', hsz1]
    refine srt_rest (a := a) (kS := ((h1.update a (Obj.mapSeq fun _ => (#[] : Array Value))).push (seqObj "tuple" vs.toArray 0)).objs.size) (h₀ := h) ⟨up1, Heap.get?_push_size _ rfl, Heap.get?_push_of_some _ (Heap.get?_push_of_some _ ho1)⟩
      (fun q => Nat.lt_irrefl _ (Nat.lt_of_le_of_lt (Nat.le_of_eq (hkz.symm.trans q)) (Nat.lt_succ_of_lt hla))) ?_ na Kr k2 hu hd hcell hfn lam hi h2 h64 hr fun h' tk c vs' up' ha' hi' => ⟨_, rfl, wpAny_pure ⟨_, rfl, hQ a h' tk c vs' up' ha' na hi'⟩⟩
    rw [hkz]
    refine Heap.get?_none_of_le ?_
    exact Nat.le_trans (Nat.le_succ _) (Nat.le_trans (Nat.le_of_eq ea) (Nat.le_of_lt (Nat.lt_succ_of_lt hla)))
end
end Mine
end
section
open PySem PySem.W PyProof.Rows PySem.Calls
namespace Mine
/-- the ledger's addresses differ: one of its objects changes -/
theorem updF_nd {c : Addr} {o : Obj} {post : List (Addr × Obj)} : ∀ (pre : List (Addr × Obj)), ((pre ++ (c, o) :: post).map Prod.fst).Nodup → UpdF c o (pre ++ (c, o) :: post) (fun o' => pre ++ (c, o') :: post)
  | [], nd => .head fun q hq e => (List.nodup_cons.mp nd).1 (List.mem_map.mpr ⟨q, hq, e⟩)
  | a :: pre, nd => .tail (fun e => (List.nodup_cons.mp nd).1 (List.mem_map.mpr ⟨(c, o), List.mem_append_right _ (List.mem_cons_self ..), e.symm⟩)) (updF_nd pre (List.nodup_cons.mp nd).2)
/-- a list, cut at one of its places -/
inductive Cut {α : Type} : List α → List α → α → List α → Prop where
  | z {cutP : α} {cutR : List α} : Cut (cutP :: cutR) [] cutP cutR
  | s {cutA cutQ : α} {cutL cutB cutE : List α} : Cut cutL cutB cutQ cutE → Cut (cutA :: cutL) (cutA :: cutB) cutQ cutE
theorem Cut.eq {α : Type} {l cutB cutE : List α} {q : α} (C : Cut l cutB q cutE) : l = cutB ++ q :: cutE := by
  induction C with
  | z => rfl
  | s _ ih => rw [ih]; rfl
theorem updF_cut {c : Addr} {o : Obj} {news cutB cutE : List (Addr × Obj)} (C : Cut news cutB (c, o) cutE) (nd : (news.map Prod.fst).Nodup) : UpdF c o news (fun o' => cutB ++ (c, o') :: cutE) := by
  have e := C.eq
  subst e
  exact updF_nd cutB nd
theorem nd_new {r : Addr} {news : List (Addr × Obj)} (off : ∀ q ∈ news, q.1 ≠ r) (nd : (news.map Prod.fst).Nodup) : (r :: news.map Prod.fst).Nodup :=
  List.nodup_cons.mpr ⟨fun h => by
    obtain ⟨q, hq, e⟩ := List.mem_map.mp h
    exact off q hq e, nd⟩
theorem nd_lt {r : Addr} {news : List (Addr × Obj)} (off : ∀ q ∈ news, q.1 < r) (nd : (news.map Prod.fst).Nodup) : (r :: news.map Prod.fst).Nodup :=
  nd_new (fun q hq => Nat.ne_of_lt (off q hq)) nd
theorem nd_off {r : Addr} {big : List (Addr × Obj)} (small : List (Addr × Obj)) (off : ∀ q ∈ big, q.1 ≠ r) (S : small.Sublist big) (nd : (small.map Prod.fst).Nodup) : (r :: small.map Prod.fst).Nodup := nd_new (fun q hq => off q (S.subset hq)) nd
theorem np_small (a : Int) : Builtin.divisionGoesByPylong a 65536 = false ∧ Builtin.divisionGoesByPylong a 256 = false ∧ Builtin.divisionGoesByPylong a 4096 = false ∧ Builtin.divisionGoesByPylong a 8 = false ∧ Builtin.divisionGoesByPylong a 16 = false ∧ Builtin.divisionGoesByPylong a 1 = false := by
  refine ⟨?_, ?_, ?_, ?_, ?_, ?_⟩ <;> kernel_rfl
/-! law's own frame -/
noncomputable def wFd (P : Params) : FuncData := match (hk.heap_39 P).lookup 133 with | some ⟨_, _, .func fd, _⟩ => fd | _ => default
noncomputable def wSt (P : Params) : List Stmt := match (wFd P).body with | .stmts b => b | _ => []
noncomputable abbrev wEnv (P : Params) (L : Addr) : Env := envOfC (Str.ofString "law") (wFd P).scope L 133 (.ref 132)
theorem wkind (P : Params) : (wFd P).scope.kind = .function := by kernel_rfl
noncomputable abbrev AL (P : Params) (L : Addr) (gd : Option (List Code)) : Around := (AY 700 7000 [] gd).deeper (wEnv P L)
section
variable {name : Str} {scope : Scope} {fa : Addr} {cd : Value} {w : World} {base : Heap} {gd : Option (List Code)} {L : Addr} {m : Str → Option Value} {news : List (Addr × Obj)} {p : Program} {loose : List Str} {mean : ExcName → Option Value} {mg mb : Str → Option Value} {s : Shared} {E : Value → Shared → Prop} {Q : Value → Shared → Prop}
theorem low (hk : scope.kind = .function) (F : Fr base L s.heap m) : Below (AY 720 7200 [envOfC name scope L fa cd] gd) base [envOfC name scope L fa cd] s.heap := by
  have hnew : base.get? L = none := Heap.get?_none_of_le F.above
  refine ⟨rfl, F.keep, ?_⟩
  exact .cons (by show scope.kind ≠ .module; rw [hk]; decide) rfl F.ns hnew trivial
theorem own_at (N : News base L s.heap news) {a : Addr} {o : Obj} (hm : (a, o) ∈ news) : s.heap.get? a = some o ∧ base.get? a = none ∧ a ∉ fsOf [envOfC name scope L fa cd] :=
  ⟨(N _ hm).1, (N _ hm).2.2, fun q => by
    have q' : a ∈ [L] := q
    exact (N _ hm).2.1 (List.mem_singleton.mp q')⟩
theorem kp_led {h' : Heap} (F : Fr base L s.heap m) (N : News base L s.heap news) (k : Kp (fsOf [envOfC name scope L fa cd]) s.heap h') : Fr base L h' m ∧ News base L h' news := by
  have k' : Kp [L] s.heap h' := k
  refine ⟨⟨k'.slots.ns F.ns, fun b o e => k'.other b o (F.keep b o e) fun q => ?_, F.above⟩, fun q hq => ⟨k'.other _ _ (N q hq).1 fun z => (N q hq).2.1 (List.mem_singleton.mp z), (N q hq).2⟩⟩
  rw [List.mem_singleton.mp q, Heap.get?_none_of_le F.above] at e
  cases e
theorem new_led {h' : Heap} {a : Addr} {o : Obj} (F : Fr base L s.heap m) (N : News base L h' news) (e : h'.get? a = some o) (n : s.heap.get? a = none) : News base L h' ((a, o) :: news) := fun q hq => by
  rcases List.mem_cons.mp hq with rfl | hq
  · refine ⟨e, fun z => ?_, ?_⟩
    · obtain ⟨oL, _, _, hL, _⟩ := F.ns
      dsimp only at z
      rw [← z, n] at hL
      cases hL
    · exact none_of_stays F.keep n
  · exact N q hq
theorem off_new {a : Addr} (N : News base L s.heap news) (n : s.heap.get? a = none) : ∀ q ∈ news, q.1 ≠ a := fun q hq z => by
  have := (N q hq).1
  rw [z, n] at this; cases this
theorem call_L {f : Addr} {vs : List Value} (h : codeAny (model PR w) (AY 720 7200 [envOfC name scope L fa cd] gd) (.call (.ref f) ⟨vs, []⟩) (fun r s' => match r with | .ok (.ret v) => Q v s' | .ok _ => False | .error e => E e s') s) :
    wpAny (model PR w) ((AY 700 7000 [] gd).deeper (envOfC name scope L fa cd)) (call (.ref f) vs) Q E s := by
  refine wpAny_call (code_lift (outer := [envOfC name scope L fa cd]) rfl rfl (show (701 : Nat) ≤ 720 by decide) (show (7003 : Nat) ≤ 7200 by decide) ?_)
  exact codeAny_mono h fun r s' hr => by
    cases r with
    | ok f => cases f <;> first | exact hr | exact hr.elim
    | error e => exact hr
theorem filter_L {a b : Addr} {vs us : List Value} {xs ys : List Int} {nv nu : Nat} (hk : scope.kind = .function) (X : Wld w base) (T : Top p loose mean mg mb base) (F : Fr base L s.heap m) (N : News base L s.heap news)
    (ha : (a, lobj vs nv) ∈ news) (hb : (b, lobj us nu) ∈ news) (hI : IntsAre vs xs) (hJ : IntsAre us ys) (hlen : xs.length ≤ 1000)
    (hQ : ∀ r h' tk ws c, Fr base L h' m → News base L h' ((r, lobj ws c) :: news) → IntsAre ws (kept ys xs) → (∀ q ∈ news, q.1 ≠ r) → Q (.ref r) { s with heap := h', toks := tk }) :
    wpAny (model PR w) ((AY 700 7000 [] gd).deeper (envOfC name scope L fa cd)) (call (.ref 65) [.ref a, .ref b]) Q E s := by
  have BF : Below (AY 750 7500 [envOfC name scope L fa cd] gd) base [envOfC name scope L fa cd] s.heap := ⟨rfl, F.keep, (low (gd := gd) hk F).frames⟩
  refine wpAny_call (code_lift (outer := [envOfC name scope L fa cd]) rfl rfl (show (701 : Nat) ≤ 750 by decide) (show (7003 : Nat) ≤ 7500 by decide) ?_)
  refine filter_c (xs := xs) (ys := ys) X T BF (N _ ha).1 hI (N _ hb).1 hJ hlen fun r h' tk ws c i1 i2 i3 i4 => ?_
  obtain ⟨F', N'⟩ := kp_led F N i4
  exact hQ r h' tk ws c F' (new_led F N' i2 i3) i1 (off_new N i3)
theorem numbers_L {script : Addr} {sv : List Value} {sx : List Int} (hk : scope.kind = .function) (X : Wld w base) (T : Top p loose mean mg mb base) (F : Fr base L s.heap m) (N : News base L s.heap news) (hS : base.IsList script sv.toArray) (hI : IntsAre sv sx) (hl : sx.length ≤ 100)
    (hQ : ∀ r h' tk nv nx c, Fr base L h' m → News base L h' ((r, lobj nv c) :: news) → IntsAre nv nx → nx.length = 16 → (∀ q ∈ news, q.1 ≠ r) → Q (.ref r) { s with heap := h', toks := tk }) :
    wpAny (model PR w) ((AY 700 7000 [] gd).deeper (envOfC name scope L fa cd)) (call (.ref 109) [.ref script]) Q E s :=
  call_L (numbers_c X T (low hk F) hS hI hl fun r nv nx h' tk c i1 i2 i3 i4 i5 => by
    obtain ⟨F', N'⟩ := kp_led F N i5
    exact hQ r h' tk nv nx c F' (new_led F N' i1 i4) i2 i3 (off_new N i4))
theorem forest_L {others row : Addr} {ov wv : List Value} {ox wx : List Int} {n1 n5 : Nat} (hk : scope.kind = .function) (X : Wld w base) (T : Top p loose mean mg mb base) (F : Fr base L s.heap m) (N : News base L s.heap news)
    (m1 : (others, lobj ov n1) ∈ news) (m2 : (row, lobj wv n5) ∈ news) (hI : IntsAre ov ox) (hW : IntsAre wv wx) (hl1 : ox.length ≤ 500) (hl4 : wx.length ≤ 500) (hne : wx ≠ [])
    (hQ : ∀ r h' tk tv dl c, Fr base L h' m → News base L h' ((r, lobj tv c) :: (news ++ dl)) → tv.length = wx.length → Deep dl tv (toldD (forestOf ox wx)) → (∀ q ∈ news, q.1 ≠ r) → (∀ q ∈ dl, ∀ p ∈ news, p.1 ≠ q.1) → Q (.ref r) { s with heap := h', toks := tk }) :
    wpAny (model PR w) ((AY 700 7000 [] gd).deeper (envOfC name scope L fa cd)) (call (.ref 123) [.ref others, .ref row]) Q E s :=
  call_L (forest_c X T (low hk F) (fun q hq => by
      simp only [List.mem_cons, List.not_mem_nil, or_false] at hq
      rcases hq with rfl | rfl
      · exact own_at N m1
      · exact own_at N m2) hI hW hl1 hl4 hne fun r tv dl h' tk c i1 i2 i3 i4 i5 i6 => by
    obtain ⟨F', N'⟩ := kp_led F N i6
    refine hQ r h' tk tv dl c F' (new_led F (fun q hq => ?_) i1 i5) i2 i3 (off_new N i5) fun q hq => off_new N (i4 q hq).2
    rcases List.mem_append.mp hq with hq | hq
    · exact N' q hq
    · exact new_led F N' (i4 q hq).1 (i4 q hq).2 q (List.mem_cons_self ..))
theorem taken_L {others hung : Addr} {ov : List Value} {ox : List Int} {n1 : Nat} {oh : Obj} (hk : scope.kind = .function) (X : Wld w base) (T : Top p loose mean mg mb base) (F : Fr base L s.heap m) (N : News base L s.heap news)
    (m1 : (others, lobj ov n1) ∈ news) (m2 : (hung, oh) ∈ news) {fh : Int → Int} {dom : List Int} {n : Nat} (hI : IntsAre ov ox) (hl1 : ox.length ≤ 500) (hD : DIs w oh dom fh n) (hdom : ∀ k ∈ ox, k ∈ dom) (hne : ∀ j, j < ox.length → (ox.filter fun x => (takeN ox fh j).1 x == 0) ≠ [])
    (hQ : ∀ r h' tk tv dl c, Fr base L h' m → News base L h' ((r, lobj tv c) :: (news ++ dl)) → tv.length = ox.length → Deep dl tv (toldD (takenOf ox fh)) → (∀ q ∈ news, q.1 ≠ r) → (∀ q ∈ dl, ∀ p ∈ news, p.1 ≠ q.1) → Q (.ref r) { s with heap := h', toks := tk }) :
    wpAny (model PR w) ((AY 700 7000 [] gd).deeper (envOfC name scope L fa cd)) (call (.ref 128) [.ref others, .ref hung]) Q E s := by
  obtain ⟨kvs, hd1, _, hd2⟩ := hD
  exact call_L (taken_c X T (low hk F) (fun q hq => by
      simp only [List.mem_cons, List.not_mem_nil, or_false] at hq
      rcases hq with rfl | rfl
      · exact own_at N m1
      · exact own_at N m2) hI hl1 hd1 (fun k hk => hd2 k (hdom k hk)) hne fun r tv dl h' tk c i1 i2 i3 i4 i5 i6 => by
    obtain ⟨F', N'⟩ := kp_led F N i6
    refine hQ r h' tk tv dl c F' (new_led F (fun q hq => ?_) i1 i5) i2 i3 (off_new N i5) fun q hq => off_new N (i4 q hq).2
    rcases List.mem_append.mp hq with hq | hq
    · exact N' q hq
    · exact new_led F N' (i4 q hq).1 (i4 q hq).2 q (List.mem_cons_self ..))
theorem b16_L {b : Array UInt8} {t : Tok} (hk : scope.kind = .function) (X : Wld w base) (T : Top p loose mean mg mb base) (F : Fr base L s.heap m) (N : News base L s.heap news) (hsz : b.size ≤ 1000)
    (hQ : ∀ h' tk t', Fr base L h' m → News base L h' news → Q (.bytes (upB ((hexCodes b).map Nat.toUInt8)) t') { s with heap := h', toks := tk }) :
    wpAny (model PR w) ((AY 700 7000 [] gd).deeper (envOfC name scope L fa cd)) (call (.ref 88) [.bytes b t]) Q E s :=
  call_L (b16_c X T (low hk F) hsz fun h' tk t' k => by
    obtain ⟨F', N'⟩ := kp_led F N k
    exact hQ h' tk t' F' N')
end
end Mine
end
section
local macro_rules | `(tactic| walk_at "lkp") => `(tactic| first | assumption | rfl | (rw [if_pos rfl]; done) | (rw [if_neg (by decide)]; walk_at "lkp") | (dsimp only; rw [if_neg (by decide)]; walk_at "lkp"))
local macro_rules | `(tactic| walk_at "eval ListComp") => `(tactic| (k_here; refine Halt.out ?_))
local macro_rules | `(tactic| walk_at "exec Assign cons ListComp") => `(tactic| (k_here; refine Halt.out ?_))
local macro_rules | `(tactic| walk_at "eval DictComp") => `(tactic| (k_here; refine Halt.out ?_))
local macro_rules | `(tactic| walk_at "call type:list") => `(tactic| (k_here; refine Halt.out ?_))
local macro_rules | `(tactic| walk_at "call ref") => `(tactic| (k_here; refine Halt.out ?_))
local macro_rules | `(tactic| walk_at "subscriptTail") => `(tactic| (k_here; refine Halt.out ?_))
local macro_rules | `(tactic| walk_at "subscriptTail Name Slice ref ref") => `(tactic| (k_here; refine Halt.out ?_))
local macro_rules | `(tactic| walk_at "call builtin:len") => `(tactic| (k_here; refine Halt.out ?_))
local macro_rules | `(tactic| walk_at "GO") => `(tactic| ((show wpAny _ _ _ _ _ _); (try dsimp only); (try k_fold); k_steps))
local macro_rules | `(tactic| walk_at "eval Name") => `(tactic| (k_here; name_kind "local"; refine' ldE ?F ?hL ?hv ?_ ?c1 ?c2 ?c3; (case F => k_asm); (case hL => rfl); (case hv => walk_at "lkp"); (case c1 => rfl); (case c2 => rfl); (case c3 => decide)))
local macro_rules | `(tactic| walk_at "SUBL") => `(tactic| repeat (first | exact List.Sublist.refl _ | exact List.nil_sublist _ | refine List.Sublist.cons_cons _ ?_ | refine List.Sublist.cons _ ?_))
local macro_rules | `(tactic| walk_at "UPD") => `(tactic| (refine' updF_cut ?cutC nd; (case cutC => repeat (first | exact Cut.z | apply Cut.s))))
local macro_rules | `(tactic| walk_at "storeName") => `(tactic| (k_here; refine' storeX_C ?F ?N ?c ?U ?d ?_ ?a ?b; (case a => rfl); (case b => rfl); (case F => k_asm); (case N => k_asm); (case c => rfl); (case U => walk_at "UPD"); (case d => k_asm); intro h' o' F' N' d'; (try dsimp only [List.cons_append, List.nil_append] at N'); (try k_sweep)))
local macro_rules | `(tactic| walk_at "storeName") => `(tactic| (k_here; refine' storeX_L ?F ?N ?_ ?a ?b; (case F => k_asm); (case N => k_asm); (case a => rfl); (case b => rfl); intro h' F' N'; (try k_sweep)))
section
open PySem PySem.W PyProof.Rows PySem.Calls
namespace Mine
theorem ph_open {w : World} {gd : Option (List Code)} {L : Addr} {name qual : Str} {params : Arguments} {body : List Stmt} {scope : Scope} {dV kV doc pm cdv ct oc : Value} {an od : Option Addr} {osl : Array (Option Value)} {k : Nat} {Q : Flow → Shared → Prop} {E : Value → Shared → Prop} {s : Shared}
    (ho : (hk.heap_39 w.params).lookup 133 = some ⟨oc, od, .func (fnOf name qual params body scope dV kV doc pm an cdv ct), osl⟩) (hq : qual = Str.ofString "law") (hc : cdv = .ref 132)
    (h : wpAny (model PR w) ((AY 700 7000 [] gd).deeper (envOfC qual scope L 133 cdv)) (execs (body.drop k) (envOfC qual scope L 133 cdv)) Q E s) :
    wpAny (model PR w) (AL w.params L gd) (execs ((wSt w.params).drop k) (wEnv w.params L)) Q E s := by
  have e : wFd w.params = fnOf name qual params body scope dV kV doc pm an cdv ct := by unfold wFd; rw [ho]
  subst hq hc
  show wpAny _ ((AY 700 7000 [] gd).deeper (envOfC (Str.ofString "law") (wFd w.params).scope L 133 (.ref 132))) (execs ((match (wFd w.params).body with | .stmts b => b | _ => []).drop k) (envOfC (Str.ofString "law") (wFd w.params).scope L 133 (.ref 132))) Q E s
  rw [e]
  exact h
theorem ph_close {w : World} {gd : Option (List Code)} {L : Addr} {name qual : Str} {params : Arguments} {body : List Stmt} {scope : Scope} {dV kV doc pm cdv ct oc : Value} {an od : Option Addr} {osl : Array (Option Value)} {k : Nat} {Q : Flow → Shared → Prop} {E : Value → Shared → Prop} {s : Shared}
    (ho : (hk.heap_39 w.params).lookup 133 = some ⟨oc, od, .func (fnOf name qual params body scope dV kV doc pm an cdv ct), osl⟩) {rest : List Stmt} (hr : body.drop k = rest) (hq : qual = Str.ofString "law") (hc : cdv = .ref 132)
    (h : wpAny (model PR w) (AL w.params L gd) (execs ((wSt w.params).drop k) (wEnv w.params L)) Q E s) :
    wpAny (model PR w) ((AY 700 7000 [] gd).deeper (envOfC qual scope L 133 cdv)) (execs rest (envOfC qual scope L 133 cdv)) Q E s := by
  have e : wFd w.params = fnOf name qual params body scope dV kV doc pm an cdv ct := by unfold wFd; rw [ho]
  subst hq hc hr
  replace h : wpAny _ ((AY 700 7000 [] gd).deeper (envOfC (Str.ofString "law") (wFd w.params).scope L 133 (.ref 132))) (execs ((match (wFd w.params).body with | .stmts b => b | _ => []).drop k) (envOfC (Str.ofString "law") (wFd w.params).scope L 133 (.ref 132))) Q E s := h
  rw [e] at h
  exact h
def figsL : List Int := [48, 49, 50, 51, 52, 53, 54, 55, 56, 57, 65, 66, 67, 68, 69, 70]
abbrev cAt (L : Addr) (o1 o2 o3 o4 o5 o6 : Obj) : List (Addr × Obj) := [(L + 1, o1), (L + 1 + 1, o2), (L + 1 + 1 + 1, o3), (L + 1 + 1 + 1 + 1, o4), (L + 1 + 1 + 1 + 1 + 1, o5), (L + 1 + 1 + 1 + 1 + 1 + 1, o6)]
/-- before ranks -/
inductive LA (base : Heap) (L : Addr) (h : Heap) (m : Str → Option Value) (FG NM OC RT : Addr) (fv nv ov rv : List Value) (nx : List Int) (tot : Int) (kk c1 c2 : Nat) (o1 o2 o3 o4 o5 o6 : Obj) : Prop
  | mk (F_ : Fr base L h m) (m1_ : m "octets" = some (.ref OC)) (m2_ : ∃ t, m "total" = some (.int tot t)) (N_ : News base L h [(RT, lobj rv 0), (OC, lobj ov 0), (NM, lobj nv c2), (FG, lobj fv c1), (L + 1, o1), (L + 1 + 1, o2), (L + 1 + 1 + 1, o3), (L + 1 + 1 + 1 + 1, o4), (L + 1 + 1 + 1 + 1 + 1, o5), (L + 1 + 1 + 1 + 1 + 1 + 1, o6), (90, tabObj #[]), (130, tabObj #[])]) (nd_ : List.Nodup [RT, OC, NM, FG, L + 1, L + 1 + 1, L + 1 + 1 + 1, L + 1 + 1 + 1 + 1, L + 1 + 1 + 1 + 1 + 1, L + 1 + 1 + 1 + 1 + 1 + 1, 90, 130]) (d1_ : o1.data = .cell (some (.ref FG))) (d2_ : o2.data = .cell (some (.ref NM))) (d3_ : o3.data = .cell (some (.ref RT))) (d4_ : o4.data = .cell none) (d5_ : o5.data = .cell none) (d6_ : o6.data = .cell none) (iF_ : IntsAre fv figsL) (iN_ : IntsAre nv nx) (lN_ : nx.length = 16) (hk_ : kk < 8) (iO_ : IntsAre ov ((nx.map fun x => x.fmod 256).take kk)) (iR_ : IntsAre rv (figsL.take (15 - 2 * kk))) : LA base L h m FG NM OC RT fv nv ov rv nx tot kk c1 c2 o1 o2 o3 o4 o5 o6
theorem nd_sub {l l' : List Addr} (nd : l.Nodup) (s : l'.Sublist l) : l'.Nodup := nd.sublist s
section
local macro_rules | `(tactic| walk_at "execs cons") => `(tactic| (k_here; (with_reducible show wpAny _ _ (execs (Stmt.Assign [Expr.Name _ _] (Expr.DictComp _ _ _ _ _) _ :: _) _) _ _ _); refine Halt.out ?_))
set_option maxHeartbeats 1000000 in
theorem phA {w : World} {base : Heap} {gd : Option (List Code)} {L : Addr} {m : Str → Option Value} {p : Program} {loose : List Str} {mean : ExcName → Option Value} {mg mb : Str → Option Value} {h : Heap} {gs : Array GenState} {dr : Drawn} {tk : Nat} {os : OsState} {E : Value → Shared → Prop} {Q : Flow → Shared → Prop}
  {o1 o2 o3 o4 o5 o6 : Obj} {script : Addr} {sv : List Value} {sx : List Int}
  (X : Wld w base) (T : Top p loose mean mg mb base) (F : Fr base L h m) (hms : m "script" = some (.ref script))
  (N : News base L h [(L + 1, o1), (L + 1 + 1, o2), (L + 1 + 1 + 1, o3), (L + 1 + 1 + 1 + 1, o4), (L + 1 + 1 + 1 + 1 + 1, o5), (L + 1 + 1 + 1 + 1 + 1 + 1, o6), (90, tabObj #[]), (130, tabObj #[])]) 
  (d1 : o1.data = .cell none) (d2 : o2.data = .cell none) (d3 : o3.data = .cell none) (d4 : o4.data = .cell none) (d5 : o5.data = .cell none) (d6 : o6.data = .cell none)
  (nd : List.Nodup [L + 1, L + 1 + 1, L + 1 + 1 + 1, L + 1 + 1 + 1 + 1, L + 1 + 1 + 1 + 1 + 1, L + 1 + 1 + 1 + 1 + 1 + 1, 90, 130]) (hS : base.IsList script sv.toArray) (hI : IntsAre sv sx) (hl : sx.length ≤ 100)
  (hB : ∀ h' m' tk' FG NM OC RT fv nv ov rv nx tot kk c1 c2 o1 o2 o3, LA base L h' m' FG NM OC RT fv nv ov rv nx tot kk c1 c2 o1 o2 o3 o4 o5 o6 → wpAny (model PR w) (AL w.params L gd) (execs ((wSt w.params).drop 5) (wEnv w.params L)) Q E ⟨h', gs, dr, tk', os⟩) :
  wpAny (model PR w) (AL w.params L gd) (execs ((wSt w.params).drop 0) (wEnv w.params L)) Q E ⟨h, gs, dr, tk, os⟩ := by
  have X' := X.kk
  refine' ph_open ?ho ?h1 ?h2 ?_
  case ho => k_is
  case h1 => rfl
  case h2 => rfl
  dsimp only [List.drop]
  w_on
  try k_fold
  k_steps
  show wpAny _ _ _ _ _ _
  refine' list_bytes_N F N ?hh _ _ (fun FG fv c₁ h₁ tk₁ F₁ N₁ lt₁ if₁ => ?_) ?hz
  case hh => rfl
  case hz => decide
  replace nd := nd_lt lt₁ nd
  clear lt₁
  replace if₁ : IntsAre fv figsL := if₁
  clear F N
  show wpAny _ _ _ _ _ _
  dsimp only
  try k_fold
  k_steps
  show wpAny _ _ _ _ _ _
  rename Fr _ _ _ _ => F₂
  rename News _ _ _ _ => N₂
  refine numbers_L rfl X T F₂ N₂ hS hI hl fun NM h₃ tk₃ nv nx c₂ F₃ N₃ iN lN off => ?_
  replace nd := nd_new off nd
  clear off F₂ N₂
  walk_at "GO"
  show wpAny _ _ _ _ _ _
  rename Fr _ _ _ _ => F₄
  rename News _ _ _ _ => N₄
  refine lc_eval (by with_unfolding_all rfl) (by decide) (by rfl) (by decide) (by rfl) ?_
  refine ev_run (now_cell (c := L + 1 + 1) N₄ (by k_mem) (by assumption) rfl) fun v tk hv => ?_
  subst hv
  refine ⟨base, L, _, _, nx, fun _ => true, fun x => x.fdiv 65536, F₄, N₄, iterInts_list rfl F₄ N₄ (by k_mem) iN, by lia, fun C x v hx ix => evt_nil, fun C x v hx ix _ => ev_floor ((ev_own fun h H => H.2.2).mono fun v' e => e ▸ ix) ev_const (by decide) (np_small _).1, fun D₅ ys₅ h₅ tk₅ c₅ N₅ off₅ ii₅ F₅ => ?_⟩
  replace nd := nd_new (off1_mem off₅) nd
  clear off₅ F₄ N₄
  walk_at "GO"
  show wpAny _ _ _ _ _ _
  rename Fr _ _ _ _ => F₆
  rename News _ _ _ _ => N₆
  generalize (List.map (fun x => x.fdiv 65536) (List.filter (fun x => true) nx)).sum = tot at F₆
  refine lc_eval (by with_unfolding_all rfl) (by decide) (by rfl) (by decide) (by rfl) ?_
  refine ev_run (now_cell (c := L + 1 + 1) N₆ (by k_mem) (by assumption) rfl) fun v tk hv => ?_
  subst hv
  refine ⟨base, L, _, _, nx, fun _ => true, fun x => x.fmod 256, F₆, N₆, iterInts_list rfl F₆ N₆ (by k_mem) iN, by lia, fun C x v hx ix => evt_nil, fun C x v hx ix _ => ev_mod ((ev_own fun h H => H.2.2).mono fun v' e => e ▸ ix) ev_const (by decide), fun D₇ ys₇ h₇ tk₇ c₇ N₇ off₇ ii₇ F₇ => ?_⟩
  replace nd := nd_new (off1_mem off₇) nd
  clear off₇ F₆ N₆
  walk_at "GO"
  show wpAny _ _ _ _ _ _
  rw [List.filter_eq_self.mpr fun _ _ => rfl] at ii₇
  obtain ⟨kk, hkk, hk8⟩ : ∃ k : Nat, (4 + tot).fmod 8 = (k : Int) ∧ k < 8 := ⟨((4 + tot).fmod 8).toNat, by
    rw [Int.fmod_eq_emod_of_nonneg _ (by decide)]; lia, by rw [Int.fmod_eq_emod_of_nonneg _ (by decide)]; lia⟩
  rw [hkk]
  have hz₇ : ys₇.length ≤ 1000 := by rw [ii₇.length, List.length_map, lN]; decide
  refine kba_turn (value' := PySem.Expr.Name (PySem.Str.ofString "_") ⟨0, 0, 0, 0⟩) (fun _ => rfl) ?_
  refine sl_upto (s := ⟨h₇, gs, dr, _, os⟩) F₇ N₇ (List.Mem.head _) hz₇ (fun OC h₈ F₈ N₈ lt₈ => ?_) (by with_unfolding_all rfl) (by intro _; with_unfolding_all rfl)
  replace nd := nd_lt lt₈ nd
  have iO := ii₇.take kk
  clear F₇ N₇ lt₈
  walk_at "GO"
  show wpAny _ _ _ _ _ _
  rename Fr _ _ _ _ => F₈
  rename News _ _ _ _ => N₈
  have lO : (List.take kk ys₇).length = kk := by rw [List.length_take, ii₇.length, List.length_map, lN]; lia
  refine KM.len_K (n := kk) N₈ (List.Mem.head _) (by rw [List.size_toArray, lO]) (by lia) ?_
  walk_at "GO"
  show wpAny _ _ _ _ _ _
  rw [show (15 - 2 * (kk : Int)) = ((15 - 2 * kk : Nat) : Int) by lia]
  refine sl_upto (s := ⟨_, gs, dr, _, os⟩) (l := FG) (vs := fv) (n := c₁) F₈ N₈ (by k_mem) (by rw [if₁.length]; decide) (fun RT h₉ F₉ N₉ lt₉ => ?_) (by with_unfolding_all rfl) (by intro _; with_unfolding_all rfl)
  replace nd := nd_lt lt₉ nd
  have iR := if₁.take (15 - 2 * kk)
  clear F₈ N₈ lt₉
  walk_at "GO"
  show wpAny _ _ _ _ _ _
  rename Fr _ _ _ _ => F₉
  rename News _ _ _ _ => N₉
  refine' ph_close (k := 5) ?ho' ?hr' ?h1' ?h2' ?_
  case ho' => k_is
  case hr' => rfl
  case h1' => rfl
  case h2' => rfl
  refine hB _ _ _ FG NM OC RT _ _ _ _ nx tot kk c₁ c₂ _ _ _ ⟨F₉, by walk_at "lkp", ⟨_, by walk_at "lkp"⟩, fun q hq => N₉ q ?_, nd_sub nd ?_, by assumption, by assumption, by assumption, d4, d5, d6, if₁, iN, lN, hk8, iO, iR⟩
  · refine List.Sublist.subset ?_ hq
    walk_at "SUBL"
  · refine .cons_cons _ (.cons_cons _ (.cons _ (.cons _ ?_)))
    exact List.Sublist.refl _
end
end Mine
end
section
local macro_rules | `(tactic| walk_at "call builtin:sorted") => `(tactic| (k_here; refine Halt.out ?_))
local macro_rules | `(tactic| walk_at "eval Lambda") => `(tactic| (k_here; refine Halt.out ?_))
section
open PySem PySem.W PyProof.Rows PySem.Calls
namespace Mine
theorem cmp_L {name : Str} {scope : Scope} {fa : Addr} {cd : Value} {w : World} {base : Heap} {gd : Option (List Code)} {L : Addr} {m : Str → Option Value} {news : List (Addr × Obj)} {gg : Obj → List (Addr × Obj)} {p : Program} {loose : List Str} {mean : ExcName → Option Value} {mg mb : Str → Option Value} {s : Shared} {E : Value → Shared → Prop} {Q : Value → Shared → Prop} {f : Addr} {oF : Obj}
    (hk : scope.kind = .function) (X : Wld w base) (T : Top p loose mean mg mb base) (F : Fr base L s.heap m) (N : News base L s.heap news) (m1 : (f, oF) ∈ news) (U : UpdF 90 (tabObj #[]) news gg)
    (hQ : ∀ (k : KA) L' xc xd xs ps h' tk, KRm w.params L' k h' → h'.get? (L' + 1) = some ⟨xc, xd, .cell (some (.ref f)), xs⟩ → Fr base L h' m → News base L h' (gg (tabObj ps)) → Q (.ref k.C) { s with heap := h', toks := tk }) :
    wpAny (model PR w) ((AY 700 7000 [] gd).deeper (envOfC name scope L fa cd)) (call (.ref 95) [.ref f]) Q E s := by
  obtain ⟨pre, post, rfl, hg, x1, x2⟩ := U.split
  have hm := N (90, tabObj #[]) (List.mem_append_right _ (.head _))
  refine call_L (cmp_c (aF := f) (oF := oF) X T (low hk F) (fun q hq => ?_) fun k L' cc oc h' tk Kr e1 e2 up e3 fresh => ?_)
  · simp only [List.mem_cons, List.not_mem_nil, or_false] at hq
    rcases hq with rfl | rfl
    · exact own_at N (List.mem_append_right _ (.head _))
    · exact own_at N m1
  · obtain ⟨xc, xd, dt, xs⟩ := oc
    have e2' : dt = .cell (some (.ref f)) := e2
    subst e2'
    refine hQ k L' xc xd xs #[rawInt 59, rawInt 4, .ref cc] h' tk Kr e1 ⟨?_, fun b o e => up b o (F.keep b o e) fun z => ?_, F.above⟩ ?_
    · obtain ⟨o, es, ep, e, hd, r⟩ := F.ns
      exact ⟨o, es, ep, up _ _ e hm.2.1.symm, hd, r⟩
    · rw [z, hm.2.2] at e; cases e
    · rw [hg]
      intro q hq
      rcases List.mem_append.mp hq with hq | hq
      · have n := N q (List.mem_append_left _ hq)
        exact ⟨up _ _ n.1 (x1 q hq), n.2⟩
      · rcases List.mem_cons.mp hq with rfl | hq
        · exact ⟨e3, hm.2⟩
        · have n := N q (List.mem_append_right _ (.tail _ hq))
          exact ⟨up _ _ n.1 (x2 q hq), n.2⟩
theorem nd_two {a b : Addr} {news : List (Addr × Obj)} (l1 : ∀ q ∈ news, q.1 < a) (l2 : a < b) (nd : (news.map Prod.fst).Nodup) : (b :: a :: news.map Prod.fst).Nodup :=
  List.nodup_cons.mpr ⟨fun h => by
    rcases List.mem_cons.mp h with e | h
    · exact Nat.ne_of_lt l2 e.symm
    · obtain ⟨q, hq, e⟩ := List.mem_map.mp h
      exact Nat.ne_of_lt (Nat.lt_trans (l1 q hq) l2) e, nd_lt l1 nd⟩
theorem sorted_L {w : World} {A : Around} {base : Heap} {L : Addr} {m : Str → Option Value} {news : List (Addr × Obj)} {s : Shared} {E : Value → Shared → Prop} {Q : Value → Shared → Prop} {k : KA} {L' f l : Addr} {xc : Value} {xd : Option Addr} {xs : Array (Option Value)} {vs : List Value} {ns : List Int} {c kk : Nat} {r : Int → Int} {oF : FuncData}
    (X : Wld w base) (F : Fr base L s.heap m) (N : News base L s.heap news) (hu : A.in1.in1.units < cLine) (hd : A.in1.in1.depth + 10 < recursionLimit) (Kr : KRm w.params L' k s.heap) (hcell : s.heap.get? (L' + 1) = some ⟨xc, xd, .cell (some (.ref f)), xs⟩)
    (hf : (f, { cls := .type "function", data := .func oF }) ∈ news) (lam : LamOk w s.heap f ns r) (hm : (l, lobj vs c) ∈ news) (hi : IntsAre vs ns) (h2 : 2 ≤ vs.length) (h64 : vs.length < 64) (hr : ∀ x ∈ ns, 0 ≤ r x ∧ r x < kk)
    (hQ : ∀ D h' tk c vs', Fr base L h' m → News base L h' ((D, lobj vs' c) :: news) → (∀ q ∈ news, q.1 ≠ D) → IntsAre vs' (rankOrd r ns kk) → Q (.ref D) { s with heap := h', toks := tk }) :
    wpAny (model PR w) A (call (.builtin "sorted") [.ref l] [(Str.ofString "key", .ref k.C)]) Q E s := by
  refine sorted_c Kr (F.keep _ _ (X.xb 2 _ (by kernel_rfl))) hu hd hcell ⟨_, _, _, _, (N _ hf).1⟩ lam ⟨_, (N _ hm).1, rfl, _, rfl⟩ hi h2 h64 hr fun D h' tk c vs' up e n i => ?_
  have N' : News base L h' news := fun q hq => ⟨up _ _ (N q hq).1, (N q hq).2⟩
  exact hQ D h' tk c vs' (F.keeps up) (new_led F N' e n) (off_new N n) i
/-- the rank of a figure -/
def rkOf (nx : List Int) (f : Int) : Int := ((nx.getD (figsL.idxOf f) 0).fdiv 256).fmod 16
def figAt (x : Int) : Int := figsL.getD x.toNat 0
def r16 : List Int := (List.range 16).map fun i : Nat => 0 + (i : Int) * 1
theorem r16_is {x : Int} (h : x ∈ r16) : ∃ i : Nat, x = i ∧ i < 16 := by
  unfold r16 at h
  obtain ⟨i, hi, rfl⟩ := List.mem_map.mp h
  exact ⟨i, by lia, List.mem_range.mp hi⟩
theorem fig_idx : ∀ i : Nat, i < 16 → figsL.idxOf (figAt (i : Int)) = i := by decide
theorem fig_get {i : Nat} (h : i < 16) : figsL[i]? = some (figAt (i : Int)) := by
  unfold figAt
  rw [Int.toNat_natCast, List.getD_eq_getElem?_getD, List.getElem?_eq_getElem (show i < figsL.length from h)]
  rfl
theorem fig_map : r16.map figAt = figsL := by decide
theorem rk_bound (nx : List Int) (f : Int) : 0 ≤ rkOf nx f ∧ rkOf nx f < 16 := by
  unfold rkOf
  rw [Int.fmod_eq_emod_of_nonneg _ (by decide)]
  lia
/-- after order -/
inductive LB (w : World) (base : Heap) (L : Addr) (h : Heap) (m : Str → Option Value) (FG NM OC RT RK OD : Addr) (fv nv ov rv odv : List Value) (nx : List Int) (tot : Int) (kk c1 c2 c3 : Nat) (oR o1 o2 o3 o4 o5 o6 : Obj) (p9 p13 : Array Value) : Prop
  | mk (F_ : Fr base L h m) (m1_ : m "octets" = some (.ref OC)) (m2_ : ∃ t, m "total" = some (.int tot t)) (m3_ : m "order" = some (.ref OD)) (N_ : News base L h [(OD, lobj odv c3), (RK, oR), (RT, lobj rv 0), (OC, lobj ov 0), (NM, lobj nv c2), (FG, lobj fv c1), (L + 1, o1), (L + 1 + 1, o2), (L + 1 + 1 + 1, o3), (L + 1 + 1 + 1 + 1, o4), (L + 1 + 1 + 1 + 1 + 1, o5), (L + 1 + 1 + 1 + 1 + 1 + 1, o6), (90, tabObj p9), (130, tabObj p13)]) (nd_ : List.Nodup [OD, RK, RT, OC, NM, FG, L + 1, L + 1 + 1, L + 1 + 1 + 1, L + 1 + 1 + 1 + 1, L + 1 + 1 + 1 + 1 + 1, L + 1 + 1 + 1 + 1 + 1 + 1, 90, 130]) (d1_ : o1.data = .cell (some (.ref FG))) (d2_ : o2.data = .cell (some (.ref NM))) (d3_ : o3.data = .cell (some (.ref RT))) (d4_ : o4.data = .cell none) (d5_ : o5.data = .cell none) (d6_ : o6.data = .cell (some (.ref RK))) (iF_ : IntsAre fv figsL) (iN_ : IntsAre nv nx) (lN_ : nx.length = 16) (hk_ : kk < 8) (iO_ : IntsAre ov ((nx.map fun x => x.fmod 256).take kk)) (iR_ : IntsAre rv (figsL.take (15 - 2 * kk))) (dR_ : DIs w oR figsL (rkOf nx) 16) (iD_ : IntsAre odv (rankOrd (rkOf nx) figsL 16)) : LB w base L h m FG NM OC RT RK OD fv nv ov rv odv nx tot kk c1 c2 c3 oR o1 o2 o3 o4 o5 o6 p9 p13
section
local macro_rules | `(tactic| walk_at "execs cons") => `(tactic| (k_here; (with_reducible show wpAny _ _ (execs (Stmt.Assign _ _ { line := 125, .. } :: _) _) _ _ _); refine Halt.out ?_))
set_option maxHeartbeats 1000000 in
theorem phB {w : World} {base : Heap} {gd : Option (List Code)} {L : Addr} {m : Str → Option Value} {p : Program} {loose : List Str} {mean : ExcName → Option Value} {mg mb : Str → Option Value} {h : Heap} {gs : Array GenState} {dr : Drawn} {tk : Nat} {os : OsState} {E : Value → Shared → Prop} {Q : Flow → Shared → Prop}
  {FG NM OC RT : Addr} {fv nv ov rv : List Value} {nx : List Int} {tot : Int} {kk c1 c2 : Nat} {o1 o2 o3 o4 o5 o6 : Obj}
  (X : Wld w base) (T : Top p loose mean mg mb base) (S : LA base L h m FG NM OC RT fv nv ov rv nx tot kk c1 c2 o1 o2 o3 o4 o5 o6)
  (hC : ∀ h' m' tk' RK OD odv c3 oR o6 p9 p13, LB w base L h' m' FG NM OC RT RK OD fv nv ov rv odv nx tot kk c1 c2 c3 oR o1 o2 o3 o4 o5 o6 p9 p13 → wpAny (model PR w) (AL w.params L gd) (execs ((wSt w.params).drop 7) (wEnv w.params L)) Q E ⟨h', gs, dr, tk', os⟩) :
  wpAny (model PR w) (AL w.params L gd) (execs ((wSt w.params).drop 5) (wEnv w.params L)) Q E ⟨h, gs, dr, tk, os⟩ := by
  have X' := X.kk
  obtain ⟨F, m1, m2, N, nd, d1, d2, d3, d4, d5, d6, iF, iN, lN, hk8, iO, iR⟩ := S
  refine' ph_open ?ho ?h1 ?h2 ?_
  case ho => k_is
  case h1 => rfl
  case h2 => rfl
  dsimp only [List.drop]
  w_on
  try k_fold
  refine wpAny_execs_cons ?_
  refine PySem.wpAny_Assign_Name ?_ (by with_unfolding_all rfl)
  refine dc_eval (by with_unfolding_all rfl) (by decide) (by rfl) (by decide) (by rfl) ?_
  walk_at "GO"
  show DcAsk _ _ _ _ _ _ _ _ _ _ _
  rename Fr _ _ _ _ => F₁
  rename News _ _ _ _ => N₁
  rename IsRange _ _ _ _ _ _ _ _ => hr₁
  refine ⟨base, L, _, _, r16, figAt, fun x => rkOf nx (figAt x), rkOf nx, F₁, N₁, iterInts_range (n := 16) rfl F₁ N₁ hr₁ (by decide) (by decide), by decide, fun _ _ => rfl, fun C x v hx ix => ?_, fun C x v hx ix => ?_, fun RK oR h₂ tk₂ F₂ N₂ off₂ dd₂ => ?_⟩
  · obtain ⟨i, rfl, hi⟩ := r16_is hx
    obtain ⟨t, ht⟩ := iF.get i _ (fig_get hi)
    exact (ev_item (l := FG) (k := (i : Int)) (vs := fv) (ev_cell (c := L + 1) rfl (fun h H => ⟨o1, H.2.1 (L + 1, o1) (by k_mem), d1⟩)) ((ev_own fun h H => H.2.2).mono fun v' e => e ▸ ix) (fun h H => ⟨_, H.2.1 (FG, lobj fv c1) (by k_mem), rfl, _, rfl⟩) (by lia) (by lia) (by rw [Int.toNat_natCast]; exact ht)).mono fun v e => ⟨t, e⟩
  · obtain ⟨i, rfl, hi⟩ := r16_is hx
    have e1 : nx[i]? = some (nx.getD i 0) := by
      rw [List.getD_eq_getElem?_getD, List.getElem?_eq_getElem (by lia)]
      rfl
    obtain ⟨t, ht⟩ := iN.get i _ e1
    have e2 : rkOf nx (figAt (i : Int)) = ((nx.getD i 0).fdiv 256).fmod 16 := by unfold rkOf; rw [fig_idx i hi]
    show Ev _ _ _ _ _ (isI (rkOf nx (figAt (i : Int))))
    rw [e2]
    exact ev_mod (ev_floor ((ev_item (l := NM) (k := (i : Int)) (vs := nv) (ev_cell (c := L + 1 + 1) rfl (fun h H => ⟨o2, H.2.1 (L + 1 + 1, o2) (by k_mem), d2⟩)) ((ev_own fun h H => H.2.2).mono fun v' e => e ▸ ix) (fun h H => ⟨_, H.2.1 (NM, lobj nv c2) (by k_mem), rfl, _, rfl⟩) (by lia) (by lia) (by rw [Int.toNat_natCast]; exact ht)).mono fun v e => ⟨t, e⟩) ev_const (by decide) (np_small _).2.1) ev_const (by decide)
  rw [fig_map] at dd₂
  replace nd := nd_new (off1_mem off₂) nd
  clear off₂ F₁ N₁ hr₁
  walk_at "GO"
  show wpAny _ _ _ _ _ _
  rename Fr _ _ _ _ => F₃
  rename News _ _ _ _ => N₃
  rename Obj.data _ = .cell (some (.ref RK)) => d6'
  rename Obj => o6'
  have C132 : CodeHd base 132 130 := codeHd_of_K (c := 132) (P := 130) X' (by kernel_rfl)
  refine kla_eval (by rfl) ?_
  with_unfolding_all refine' kla_nest (P := 130) (ps := #[]) F₃ N₃ T C132 ?hcd ?U ?ht ?hnf ?hcl ?_
  case hcd => rfl
  case U => walk_at "UPD"
  case ht => exact True.intro
  case hnf => rfl
  case hcl => rfl
  intro f c' oc vs t ctv h₄ tk₄ F₄ N₄ e₄ v₄ l₄ l₅
  dsimp only [List.cons_append, List.nil_append] at N₄
  replace nd := nd_two l₄ l₅ nd
  walk_at "GO"
  show wpAny _ _ _ _ _ _
  refine' cmp_L (f := f) rfl X T F₄ N₄ (List.Mem.head _) ?U2 ?_
  case U2 => walk_at "UPD"
  intro k L' xc xd xs ps5 h₅ tk₅ Kr hcell F₅ N₅
  dsimp only [List.cons_append, List.nil_append] at N₅
  clear F₃ N₃
  walk_at "GO"
  show wpAny _ _ _ _ _ _
  have hcd5 : h₅.CodeRec (.ref c') (Str.ofString "law" ++ ".<locals>." ++ "<lambda>") := ⟨c', oc, vs, t, rfl, (N₅ (c', oc) (by k_mem)).1, e₄, v₄⟩
  have lam : LamOk w h₅ f figsL (rkOf nx) := by
    intro x y hx hy A' R' s' t1 t2 hd' up' hR'
    refine lam_c (w := w) (aF := f) (rk := RK) (r := rkOf nx) (dom := figsL) (m := 16) (cR := L + 1 + 1 + 1 + 1 + 1 + 1) hd' (T.nolimit.keeps fun b o e => up' b o (F₅.keep b o e)) (up' _ _ (N₅ _ (List.Mem.head _)).1) rfl ?hcd (up' _ _ (N₅ (_, o6') (by k_mem)).1) d6' (up' _ _ (N₅ (RK, oR) (by k_mem)).1) dd₂ hx hy hR'
    case hcd =>
      obtain ⟨a1, a2, a3, a4, a5, a6, a7, a8⟩ := hcd5
      exact ⟨a1, a2, a3, a4, a5, up' _ _ a6, a7, a8⟩
  refine sorted_L (kk := 16) (ns := figsL) X F₅ N₅ (Nat.le_of_ble_eq_true rfl) (Nat.le_of_ble_eq_true rfl) Kr hcell (List.Mem.head _) lam (l := FG) (vs := fv) (c := c1) (by k_mem) iF (by rw [iF.length]; decide) (by rw [iF.length]; decide) (fun x _ => rk_bound nx x) fun OD h₆ tk₆ c₆ odv F₆ N₆ off₆ i₆ => ?_
  clear lam hcd5 Kr hcell
  replace nd := nd_new off₆ nd
  clear off₆
  walk_at "GO"
  show wpAny _ _ _ _ _ _
  rename Fr _ _ _ _ => F₇
  rename News _ _ _ _ => N₇
  refine' ph_close (k := 7) ?ho' ?hr' ?h1' ?h2' ?_
  case ho' => k_is
  case hr' => rfl
  case h1' => rfl
  case h2' => rfl
  refine hC _ _ _ RK OD odv c₆ oR o6' ps5 (#[] ++ #[rawInt ((124 : Nat) : Int), rawInt ((43 : Nat) : Int), .ref c']) ⟨F₇, by walk_at "lkp", (let ⟨t, e⟩ := m2; ⟨t, by walk_at "lkp"⟩), by walk_at "lkp", fun q hq => N₇ q ?_, nd_sub nd ?_, d1, d2, d3, d4, d5, d6', iF, iN, lN, hk8, iO, by assumption, dd₂, i₆⟩
  · refine List.Sublist.subset ?_ hq
    walk_at "SUBL"
  · refine .cons_cons _ (.cons _ (.cons _ (.cons_cons _ ?_)))
    exact List.Sublist.refl _
end
end Mine
end
section
open PySem PySem.W PyProof.Rows PySem.Calls
namespace Mine
local macro_rules | `(tactic| walk_at "pad") => `(tactic| skip)
local macro_rules | `(tactic| walk_at "pad") => `(tactic| skip)
theorem oct_in (nx : List Int) (kk : Nat) : KBa.In ((nx.map fun x => x.fmod 256).take kk) := fun n hn => by
  obtain ⟨x, _, rfl⟩ := List.mem_map.mp (List.mem_of_mem_take hn)
  rw [Int.fmod_eq_emod_of_nonneg _ (by decide)]
  lia
theorem figs_range : (List.range 16).map (fun i => figsL.getD i 0) = figsL := by decide
theorem filter_getD (p : Int → Bool) : ((List.range 16).filter fun i => p (figsL.getD i 0)).map (fun i => figsL.getD i 0) = figsL.filter p := by
  conv => rhs; rw [← figs_range, List.filter_map]
  rfl
theorem order_is (nx : List Int) : rankOrd (rkOf nx) figsL 16 = r16.flatMap fun z => (figsL.filter fun y => rkOf nx y == z).map fun y => y := by
  unfold rankOrd byRank r16
  rw [List.map_flatMap, List.flatMap_map]
  congr 1
  funext q
  rw [List.map_id', show ((0 : Int) + (q : Int) * 1) = (q : Int) by lia]
  exact filter_getD fun y => rkOf nx y == (q : Int)
theorem fig_at : ∀ n : Nat, n < 16 → fig (n : Int) = figAt (n : Int) := by decide
theorem fig_at' {x : Int} (h0 : 0 ≤ x) (h1 : x < 16) : fig x = figAt x := by
  have := fig_at x.toNat (by lia)
  rwa [Int.toNat_of_nonneg h0] at this
/-- what b16encode writes of the octets -/
def writ (os : List Int) : List Int := os.flatMap fun o => [fig (o.fdiv 16), fig (o.fmod 16)]
theorem written_is {os : List Int} (h : KBa.In os) : writ os = os.flatMap fun z => ([16, 1].filter fun _ => true).map fun y => figAt ((z.fdiv y).fmod 16) := by
  unfold writ
  induction os with
  | nil => rfl
  | cons o r ih =>
    rw [List.flatMap_cons, List.flatMap_cons, ih fun n hn => h n (List.mem_cons_of_mem _ hn)]
    congr 1
    have hb := h o (List.mem_cons_self ..)
    have e1 : (o.fdiv 16).fmod 16 = o.fdiv 16 := by
      rw [Int.fdiv_eq_ediv_of_nonneg _ (by decide), Int.fmod_eq_emod_of_nonneg _ (by decide)]; lia
    have e2 : (o.fdiv 1).fmod 16 = o.fmod 16 := by
      rw [Int.fdiv_eq_ediv_of_nonneg _ (by decide), Int.ediv_one]
    show [fig (o.fdiv 16), fig (o.fmod 16)] = [figAt ((o.fdiv 16).fmod 16), figAt ((o.fdiv 1).fmod 16)]
    rw [e1, e2, fig_at', fig_at']
    · rw [Int.fmod_eq_emod_of_nonneg _ (by decide)]; lia
    · rw [Int.fmod_eq_emod_of_nonneg _ (by decide)]; lia
    · rw [Int.fdiv_eq_ediv_of_nonneg _ (by decide)]; lia
    · rw [Int.fdiv_eq_ediv_of_nonneg _ (by decide)]; lia
theorem writ_len (os : List Int) : (writ os).length = 2 * os.length := by
  unfold writ
  induction os with
  | nil => rfl
  | cons o r ih => rw [List.flatMap_cons, List.length_append, ih]; simp; lia
section
variable {w : World} {A : Around}
theorem src_tup {env : Env} {H : Heap → Prop} {news : List (Addr × Obj)} {a b : Int} {k1 k2} {p1 p2 tp : Pos} {kt} (hh : A.handled = none) : Src w A env H news (.Tuple [.Constant (.int a) k1 p1, .Constant (.int b) k2 p2] kt tp) [a, b] := fun s Q E hs hQ => by
  refine Tuple_lits (ds := [.int a, .int b]) rfl (by show (2 : Nat) ≤ sizeLine; rw [sizeLine_eq]; decide) _ fun T o h₁ tk hT ho htup hk => ?_
  obtain ⟨hc, vs, n, hd, da⟩ := htup
  have ht : ({ s with heap := h₁, toks := tk } : Shared).heap.IsTuple T vs.toArray := ⟨o, ho, hc, n, hd⟩
  have hlt : T < h₁.objs.size := Heap.lt_size ho
  have hI : IntsAre vs [a, b] := by
    cases da with
    | cons e1 r =>
      cases r with
      | cons e2 r =>
        cases r
        cases e1 s.heap
        cases e2 s.heap
        exact .cons _ _ (.cons _ _ .nil)
  refine wpAny_pyIter_tuple ht ?_
  have W := Walks.tuple (prog := PR) (w := w) (A := A) hh h₁.objs.size T (Nat.ne_of_lt hlt) vs.toArray
  have e2 : vs.toArray.size = [a, b].length := by rw [List.size_toArray, hI.length]
  rw [e2] at W
  have hnone : ∀ b, s.heap.objs.size ≤ b → s.heap.get? b = none := fun b hb => by
    cases q : s.heap.get? b with
    | none => rfl
    | some o => exact absurd (Heap.lt_size q) (Nat.not_lt.mpr hb)
  have hle : s.heap.objs.size ≤ h₁.objs.size := Nat.le_trans hT (Nat.le_of_lt hlt)
  refine hQ h₁.objs.size [h₁.objs.size, T] _ _ _ tk W ⟨⟨_, Heap.get?_push_size _ rfl, rfl, rfl⟩, ht.push _⟩ (fun i v hv => ?_) (hnone _ hle) (fun b hb => ?_) (fun b o e => Heap.get?_push_of_some _ (hk b o e))
  · obtain ⟨n, t, rfl, hn⟩ := hI.at i v (by simpa using hv)
    exact ⟨n, hn, t, rfl⟩
  · rcases List.mem_cons.mp hb with rfl | hb
    · exact .inl (hnone _ hle)
    · rw [List.mem_singleton.mp hb]; exact .inl (hnone _ hT)
end
end Mine
end
section
local macro_rules | `(tactic| walk_at "call type:bytes") => `(tactic| (k_here; refine Halt.out ?_))
local macro_rules | `(tactic| walk_at "compareOp NotEq ref ref") => `(tactic| (k_here; refine Halt.out ?_))
local macro_rules | `(tactic| walk_at "compareOp Eq ref ref") => `(tactic| (k_here; refine Halt.out ?_))
local macro_rules | `(tactic| walk_at "exec Assign cons DictComp") => `(tactic| (k_here; refine Halt.out ?_))
section
open PySem PySem.W PyProof.Rows PySem.Calls
namespace Mine
theorem upB_size (b : Array UInt8) : (upB b).size = b.size := by unfold upB; simp
abbrev octL (nx : List Int) (kk : Nat) : List Int := (nx.map fun x => x.fmod 256).take kk
/-- after the two tests -/
inductive LC (base : Heap) (L : Addr) (h : Heap) (m : Str → Option Value) (FG NM RT OD WR : Addr) (fv nv rv odv wv : List Value) (nx : List Int) (tot : Int) (kk c1 c2 c3 c4 : Nat) (o1 o2 o3 o4 o5 : Obj) (p9 p13 : Array Value) : Prop
  | mk (F_ : Fr base L h m) (m2_ : ∃ t, m "total" = some (.int tot t)) (m3_ : m "order" = some (.ref OD)) (m4_ : m "written" = some (.ref WR)) (N_ : News base L h [(WR, lobj wv c4), (OD, lobj odv c3), (RT, lobj rv 0), (NM, lobj nv c2), (FG, lobj fv c1), (L + 1, o1), (L + 1 + 1, o2), (L + 1 + 1 + 1, o3), (L + 1 + 1 + 1 + 1, o4), (L + 1 + 1 + 1 + 1 + 1, o5), (90, tabObj p9), (130, tabObj p13)]) (nd_ : List.Nodup [WR, OD, RT, NM, FG, L + 1, L + 1 + 1, L + 1 + 1 + 1, L + 1 + 1 + 1 + 1, L + 1 + 1 + 1 + 1 + 1, 90, 130]) (d1_ : o1.data = .cell (some (.ref FG))) (d2_ : o2.data = .cell (some (.ref NM))) (d3_ : o3.data = .cell (some (.ref RT))) (d4_ : o4.data = .cell none) (d5_ : o5.data = .cell none) (iF_ : IntsAre fv figsL) (iN_ : IntsAre nv nx) (lN_ : nx.length = 16) (hk_ : kk < 8) (iR_ : IntsAre rv (figsL.take (15 - 2 * kk))) (iD_ : IntsAre odv (rankOrd (rkOf nx) figsL 16)) (iW_ : IntsAre wv (writ (octL nx kk))) : LC base L h m FG NM RT OD WR fv nv rv odv wv nx tot kk c1 c2 c3 c4 o1 o2 o3 o4 o5 p9 p13
section
local macro_rules | `(tactic| walk_at "execs cons") => `(tactic| (k_here; (with_reducible show wpAny _ _ (execs (Stmt.Assign _ _ { line := 130, .. } :: _) _) _ _ _); refine Halt.out ?_))
set_option maxHeartbeats 1000000 in
theorem phC {w : World} {base : Heap} {gd : Option (List Code)} {L : Addr} {m : Str → Option Value} {p : Program} {loose : List Str} {mean : ExcName → Option Value} {mg mb : Str → Option Value} {h : Heap} {gs : Array GenState} {dr : Drawn} {tk : Nat} {os : OsState} {E : Value → Shared → Prop} {Q : Flow → Shared → Prop}
  {FG NM OC RT RK OD : Addr} {fv nv ov rv odv : List Value} {nx : List Int} {tot : Int} {kk c1 c2 c3 : Nat} {oR o1 o2 o3 o4 o5 o6 : Obj} {p9 p13 : Array Value}
  (X : Wld w base) (T : Top p loose mean mg mb base) (S : LB w base L h m FG NM OC RT RK OD fv nv ov rv odv nx tot kk c1 c2 c3 oR o1 o2 o3 o4 o5 o6 p9 p13)
  (hC : ∀ h' m' tk' WR wv c4, LC base L h' m' FG NM RT OD WR fv nv rv odv wv nx tot kk c1 c2 c3 c4 o1 o2 o3 o4 o5 p9 p13 → wpAny (model PR w) (AL w.params L gd) (execs ((wSt w.params).drop 10) (wEnv w.params L)) Q E ⟨h', gs, dr, tk', os⟩) :
  wpAny (model PR w) (AL w.params L gd) (execs ((wSt w.params).drop 7) (wEnv w.params L)) Q E ⟨h, gs, dr, tk, os⟩ := by
  have X' := X.kk
  obtain ⟨F, m1, m2, m3, N, nd, d1, d2, d3, d4, d5, d6, iF, iN, lN, hk8, iO, iR, dR, iD⟩ := S
  refine' ph_open ?ho ?h1 ?h2 ?_
  case ho => k_is
  case h1 => rfl
  case h2 => rfl
  dsimp only [List.drop]
  w_on
  try k_fold
  k_steps
  show wpAny _ _ _ _ _ _
  have inO : KBa.In ((nx.map fun x => x.fmod 256).take kk) := oct_in nx kk
  have lO : ((nx.map fun x => x.fmod 256).take kk).length = kk := by rw [List.length_take, List.length_map, lN]; omega
  refine' KBa.make_K F N rfl ⟨_, (N (OC, lobj ov 0) (by k_mem)).1, rfl, _, rfl⟩ iO inO ?hn fun h₁ t₁ tk₁ F₁ N₁ in₁ => ?_
  case hn => rw [lO]; omega
  clear F N in₁
  walk_at "GO"
  show wpAny _ _ _ _ _ _
  rename Fr _ _ _ _ => F₁
  rename News _ _ _ _ => N₁
  refine b16_L rfl X T F₁ N₁ (by rw [byteArr_size, lO]; omega) fun h₂ tk₂ t₂ F₂ N₂ => ?_
  clear F₁ N₁
  walk_at "GO"
  show wpAny _ _ _ _ _ _
  rename Fr _ _ _ _ => F₂
  rename News _ _ _ _ => N₂
  refine' list_bytes_N F₂ N₂ ?hh _ _ (fun WR wv c₄ h₃ tk₃ F₃ N₃ lt₃ iW => ?_) ?hz
  case hh => rfl
  case hz => rw [upB_size, Array.size_map, hex_codes_size, byteArr_size, lO]; omega
  rw [hex_row inO] at iW
  replace nd := nd_lt lt₃ nd
  clear lt₃ F₂ N₂
  walk_at "GO"
  show wpAny _ _ _ _ _ _
  refine lc2_eval (by with_unfolding_all rfl) (by decide) (by rfl) (by decide) (by rfl) (by rfl) (by decide) ?_
  walk_at "GO"
  show Ask2 _ _ _ _ _ _ _ _ _ _ _ _ _
  rename Fr _ _ _ _ => F₄
  rename News _ _ _ _ => N₄
  rename IsRange _ _ _ _ _ _ _ _ => hr₄
  have dR' := dR
  obtain ⟨rkv, rk1, _, rk3⟩ := dR'
  refine ⟨base, L, _, _, r16, fun _ => figsL, fun z y => rkOf nx y == z, fun _ y => y, F₄, N₄, iterInts_range (n := 16) rfl F₄ N₄ hr₄ (by decide) (by decide), by decide, fun _ _ => by show figsL.length ≤ 16; decide, fun C z v hz iz => ?_, fun C z v y u hz iz hy iu => ?_, fun C z v y u hz iz hy iu _ => ?_, fun D₅ vs₅ h₅ tk₅ c₅ F₅ N₅ off₅ i₅ => ?_⟩
  · exact src_list (l := FG) rfl (ev_cell (c := L + 1) rfl (fun h H => ⟨o1, H.2.1 (L + 1, o1) (by k_mem), d1⟩)) (fun h H => H.2.1 (FG, lobj fv c1) (by k_mem)) (by simp) iF
  · obtain ⟨t, ht⟩ := rk3 y hy
    exact evt_eq ((ev_key (d := RK) (k := y) (kvs := rkv) (ev_cell (c := L + 1 + 1 + 1 + 1 + 1 + 1) rfl (fun h H => ⟨o6, H.2.1 (L + 1 + 1 + 1 + 1 + 1 + 1, o6) (by k_mem), d6⟩)) ((ev_own fun h H => let ⟨mC, a, b, c⟩ := H.2.2; ⟨mC, a, c⟩).mono fun v' e => e ▸ iu) (fun h H => Heap.dictOf_iff.mpr ⟨oR, H.2.1 (RK, oR) (by k_mem), rk1⟩) ht).mono fun v e => ⟨t, e⟩) ((ev_own fun h H => let ⟨mC, a, b, c⟩ := H.2.2; ⟨mC, a, b⟩).mono fun v' e => e ▸ iz)
  · exact (ev_own fun h H => let ⟨mC, a, b, c⟩ := H.2.2; ⟨mC, a, c⟩).mono fun v' e => e ▸ iu
  replace nd := nd_new (off1_mem off₅) nd
  clear off₅ F₄ N₄ hr₄
  replace i₅ : IntsAre vs₅ (rankOrd (rkOf nx) figsL 16) := by rw [order_is]; exact i₅
  walk_at "GO"
  show wpAny _ _ _ _ _ _
  refine ke_ne_ints (xs := odv) (ys := vs₅) ⟨_, (N₅ (OD, lobj odv c3) (by k_mem)).1, rfl, _, rfl⟩ ⟨_, (N₅ (D₅, lobj vs₅ c₅) (by k_mem)).1, rfl, _, rfl⟩ iD i₅ (Nat.le_of_ble_eq_true rfl) ?_
  rw [decide_eq_true rfl]
  walk_at "GO"
  show wpAny _ _ _ _ _ _
  refine lc2_eval (by with_unfolding_all rfl) (by decide) (by rfl) (by decide) (by rfl) (by rfl) (by decide) ?_
  walk_at "GO"
  show Ask2 _ _ _ _ _ _ _ _ _ _ _ _ _
  refine ⟨base, L, _, _, octL nx kk, fun _ => [16, 1], fun z y => true, fun z y => figAt ((z.fdiv y).fmod 16), F₅, N₅, iterInts_list rfl F₅ N₅ (by k_mem) iO, by rw [lO]; omega, fun _ _ => by show (2 : Nat) ≤ 16; decide, fun C z v hz iz => src_tup rfl, fun C z v y u hz iz hy iu => evt_nil, fun C z v y u hz iz hy iu _ => ?_, fun D₆ vs₆ h₆ tk₆ c₆ F₆ N₆ off₆ i₆ => ?_⟩
  · have hy' : y = 16 ∨ y = 1 := by simpa using hy
    have hb : y ≠ 0 ∧ Builtin.divisionGoesByPylong z y = false := by
      rcases hy' with rfl | rfl
      · exact ⟨by decide, (np_small z).2.2.2.2.1⟩
      · exact ⟨by decide, (np_small z).2.2.2.2.2⟩
    have h16 : 0 ≤ (z.fdiv y).fmod 16 ∧ (z.fdiv y).fmod 16 < 16 := by rw [Int.fmod_eq_emod_of_nonneg _ (by decide)]; omega
    obtain ⟨t, ht⟩ := iF.get ((z.fdiv y).fmod 16).toNat _ (fig_get (by omega))
    rw [Int.toNat_of_nonneg h16.1] at ht
    exact (ev_item (l := FG) (k := (z.fdiv y).fmod 16) (vs := fv) (ev_cell (c := L + 1) rfl (fun h H => ⟨o1, H.2.1 (L + 1, o1) (by k_mem), d1⟩)) (ev_mod (ev_floor ((ev_own fun h H => let ⟨mC, a, b, c⟩ := H.2.2; ⟨mC, a, b⟩).mono fun v' e => e ▸ iz) ((ev_own fun h H => let ⟨mC, a, b, c⟩ := H.2.2; ⟨mC, a, c⟩).mono fun v' e => e ▸ iu) hb.1 hb.2) ev_const (by decide)) (fun h H => ⟨_, H.2.1 (FG, lobj fv c1) (by k_mem), rfl, _, rfl⟩) h16.1 (by omega) ht).mono fun v e => ⟨t, e⟩
  replace nd := nd_new (off1_mem off₆) nd
  clear off₆ F₅ N₅
  replace i₆ : IntsAre vs₆ (writ (octL nx kk)) := by rw [written_is inO]; exact i₆
  walk_at "GO"
  show wpAny _ _ _ _ _ _
  have iW' : IntsAre wv (writ (octL nx kk)) := by assumption
  refine ke_ne_ints (xs := wv) (ys := vs₆) ⟨_, (N₆ (WR, lobj wv c₄) (by k_mem)).1, rfl, _, rfl⟩ ⟨_, (N₆ (D₆, lobj vs₆ c₆) (by k_mem)).1, rfl, _, rfl⟩ iW' i₆ (Nat.le_of_ble_eq_true rfl) ?_
  rw [decide_eq_true rfl]
  walk_at "GO"
  show wpAny _ _ _ _ _ _
  rename Fr _ _ _ _ => F₇
  rename News _ _ _ _ => N₇
  refine' ph_close (k := 10) ?ho' ?hr' ?h1' ?h2' ?_
  case ho' => k_is
  case hr' => rfl
  case h1' => rfl
  case h2' => rfl
  refine hC _ _ _ WR wv c₄ ⟨F₇, (let ⟨t, e⟩ := m2; ⟨t, by walk_at "lkp"⟩), by walk_at "lkp", by walk_at "lkp", fun q hq => N₇ q ?_, nd_sub nd ?_, d1, d2, d3, d4, d5, iF, iN, lN, hk8, iR, iD, iW'⟩
  · refine List.Sublist.subset ?_ hq
    walk_at "SUBL"
  · refine .cons _ (.cons _ (.cons_cons _ (.cons_cons _ (.cons _ (.cons_cons _ (.cons _ (.cons_cons _ ?_)))))))
    simp
end
end Mine
end
section
open PySem PySem.W PyProof.Rows PySem.Calls
namespace Mine
local macro_rules | `(tactic| walk_at "pad") => `(tactic| skip)
local macro_rules | `(tactic| walk_at "pad") => `(tactic| skip)
abbrev ordL (nx : List Int) : List Int := rankOrd (rkOf nx) figsL 16
abbrev rootsL (kk : Nat) : List Int := figsL.take (15 - 2 * kk)
def rootMax (kk : Nat) : Int := figAt ((14 - 2 * kk : Nat) : Int)
theorem root_test : ∀ kk : Nat, kk < 8 → ∀ x ∈ figsL, (!(rootsL kk).contains x) = decide (rootMax kk < x) := by decide
theorem root_last : ∀ kk : Nat, kk < 8 → (rootsL kk)[14 - 2 * kk]? = some (rootMax kk) := by decide
theorem lx_nodup {r : Nat → Int} {l : List Nat} (h : l.Pairwise (lx r)) : l.Nodup := List.Pairwise.imp (fun {a b} q e => by subst e; unfold lx at q; lia) h
theorem ord_perm (nx : List Int) : (ordL nx).Perm figsL := by
  have h1 : (byRank (fun i => rkOf nx (figsL.getD i 0)) 16 16).Perm (List.range 16) := by
    rw [List.perm_ext_iff_of_nodup (lx_nodup (byRank_pair _ 16 16).1) List.nodup_range]
    intro a
    rw [byRank_mem fun i _ => rk_bound nx _, List.mem_range]
  have h2 := h1.map fun i => figsL.getD i 0
  rw [figs_range] at h2
  exact h2
theorem ord_mem {nx : List Int} {x : Int} (h : x ∈ ordL nx) : x ∈ figsL := (ord_perm nx).subset h
theorem ord_len (nx : List Int) : (ordL nx).length = 16 := (ord_perm nx).length_eq
theorem fig_mem : ∀ n : Nat, n < 16 → fig (n : Int) ∈ figsL := by decide
theorem fig_mem' {x : Int} (h0 : 0 ≤ x) (h1 : x < 16) : fig x ∈ figsL := by
  have := fig_mem x.toNat (by lia)
  rwa [Int.toNat_of_nonneg h0] at this
theorem writ_mem {os : List Int} (h : KBa.In os) {x : Int} (hx : x ∈ writ os) : x ∈ figsL := by
  obtain ⟨o, ho, hx⟩ := List.mem_flatMap.mp hx
  have hb := h o ho
  simp only [List.mem_cons, List.not_mem_nil, or_false] at hx
  rcases hx with rfl | rfl
  · refine fig_mem' ?_ ?_ <;> rw [Int.fdiv_eq_ediv_of_nonneg _ (by decide)] <;> lia
  · refine fig_mem' ?_ ?_ <;> rw [Int.fmod_eq_emod_of_nonneg _ (by decide)] <;> lia
theorem kept_is {kk : Nat} (hk : kk < 8) {xs : List Int} (h : ∀ x ∈ xs, x ∈ figsL) : kept (rootsL kk) xs = xs.filter fun x => decide (rootMax kk < x) := by
  unfold kept
  exact List.filter_congr fun x hx => root_test kk hk x (h x hx)
abbrev othL (nx : List Int) (kk : Nat) : List Int := kept (rootsL kk) (ordL nx)
theorem item_S {w : World} {A : Around} {E : Value → Shared → Prop} {s : Shared} {g : Heap} {L : Addr} {news : List (Addr × Obj)} {value slice : PySem.Expr} {l : Addr} {vs : List Value} {n : Nat} {k : Int} {u : Tok} {v : Value} {Q : Value → Shared → Prop}
    (N : News g L s.heap news) (hm : (l, lobj vs n) ∈ news) (h0 : 0 ≤ k) (hhi : k < 2 ^ 63) (hx : vs[k.toNat]? = some v) (h : Q v s)
    (hs : subscripted slice false (.ref l) (.int k u) = operate [.ref l, .int k u] (getItem (.ref l) (.int k u)) := by with_unfolding_all rfl) :
    wpAny (model PR w) A (subscriptTail value slice (.ref l) (.int k u)) Q E s := by
  have hl : s.heap.IsList l vs.toArray := ⟨_, (N _ hm).1, rfl, _, rfl⟩
  exact tail_any hl.typeIs slot_list_getitem.lookup (wpAny_getItem_list hl h0 hhi (by simpa using hx) h) hs
/-- the root behind the writing -/
def rootAt (tot : Int) (kk : Nat) : Int := (rootsL kk).getD ((tot.fdiv 8).fmod ((15 - 2 * kk : Nat) : Int)).toNat 0
theorem roots_len {kk : Nat} (h : kk < 8) : (rootsL kk).length = 15 - 2 * kk := by rw [List.length_take]; show min (15 - 2 * kk) 16 = _; lia
theorem root_ix (tot : Int) {kk : Nat} (h : kk < 8) : 0 ≤ (tot.fdiv 8).fmod ((15 - 2 * kk : Nat) : Int) ∧ (tot.fdiv 8).fmod ((15 - 2 * kk : Nat) : Int) < ((15 - 2 * kk : Nat) : Int) := by
  rw [Int.fmod_eq_emod_of_nonneg _ (by lia)]
  exact ⟨Int.emod_nonneg _ (by lia), Int.emod_lt_of_pos _ (by lia)⟩
theorem root_get (tot : Int) {kk : Nat} (h : kk < 8) : (rootsL kk)[((tot.fdiv 8).fmod ((15 - 2 * kk : Nat) : Int)).toNat]? = some (rootAt tot kk) := by
  have h1 := root_ix tot h
  unfold rootAt
  rw [List.getD_eq_getElem?_getD, List.getElem?_eq_getElem (by rw [roots_len h]; lia)]
  rfl
abbrev rowL (nx : List Int) (tot : Int) (kk : Nat) : List Int := writ (octL nx kk) ++ [rootAt tot kk]
theorem oth_len (nx : List Int) (kk : Nat) (h : kk < 8) : (othL nx kk).length = 2 * kk + 1 := by
  have h1 := ((ord_perm nx).filter fun x => !(rootsL kk).contains x).length_eq
  have h2 : ∀ k : Nat, k < 8 → (figsL.filter fun x => !(rootsL k).contains x).length = 2 * k + 1 := by decide
  exact h1.trans (h2 kk h)
theorem row_len {nx : List Int} {tot : Int} {kk : Nat} (lN : nx.length = 16) (h : kk < 8) : (rowL nx tot kk).length = 2 * kk + 1 := by
  rw [List.length_append, writ_len, List.length_take, List.length_map, lN, List.length_singleton]; lia
open PySem.Spec in
/-- after forest -/
inductive LD (base : Heap) (L : Addr) (h : Heap) (m : Str → Option Value) (FG NM RT OT RW FO : Addr) (fv nv rv otv rwv tv : List Value) (nx : List Int) (tot : Int) (kk c1 c2 c5 c6 c7 : Nat) (o1 o2 o3 o4 o5 : Obj) (p9 p13 : Array Value) (dl : List (Addr × Obj)) : Prop
  | mk (F_ : Fr base L h m) (m1_ : m "others" = some (.ref OT)) (m2_ : m "row" = some (.ref RW)) (m3_ : m "forest" = some (.ref FO)) (N_ : News base L h ((FO, lobj tv c7) :: (RW, lobj rwv c6) :: (OT, lobj otv c5) :: (RT, lobj rv 0) :: (NM, lobj nv c2) :: (FG, lobj fv c1) :: (L + 1, o1) :: (L + 1 + 1, o2) :: (L + 1 + 1 + 1, o3) :: (L + 1 + 1 + 1 + 1, o4) :: (L + 1 + 1 + 1 + 1 + 1, o5) :: (90, tabObj p9) :: (130, tabObj p13) :: dl)) (nd_ : List.Nodup [OT, RT, NM, FG, L + 1, L + 1 + 1, L + 1 + 1 + 1, L + 1 + 1 + 1 + 1, L + 1 + 1 + 1 + 1 + 1, 90, 130]) (d1_ : o1.data = .cell (some (.ref FG))) (d2_ : o2.data = .cell (some (.ref NM))) (d3_ : o3.data = .cell (some (.ref RT))) (d4_ : o4.data = .cell none) (d5_ : o5.data = .cell none) (iF_ : IntsAre fv figsL) (iN_ : IntsAre nv nx) (lN_ : nx.length = 16) (hk_ : kk < 8) (iR_ : IntsAre rv (figsL.take (15 - 2 * kk))) (iT_ : IntsAre otv (othL nx kk)) (iW_ : IntsAre rwv (rowL nx tot kk)) (dp_ : Deep dl tv (toldD (forestOf (othL nx kk) (rowL nx tot kk)))) (lT_ : tv.length = (rowL nx tot kk).length) : LD base L h m FG NM RT OT RW FO fv nv rv otv rwv tv nx tot kk c1 c2 c5 c6 c7 o1 o2 o3 o4 o5 p9 p13 dl
section
local macro_rules | `(tactic| walk_at "execs cons") => `(tactic| (k_here; (with_reducible show wpAny _ _ (execs (Stmt.Assign _ _ { line := 135, .. } :: _) _) _ _ _); refine Halt.out ?_))
set_option maxHeartbeats 1000000 in
theorem phD {w : World} {base : Heap} {gd : Option (List Code)} {L : Addr} {m : Str → Option Value} {p : Program} {loose : List Str} {mean : ExcName → Option Value} {mg mb : Str → Option Value} {h : Heap} {gs : Array GenState} {dr : Drawn} {tk : Nat} {os : OsState} {E : Value → Shared → Prop} {Q : Flow → Shared → Prop}
  {FG NM RT OD WR : Addr} {fv nv rv odv wv : List Value} {nx : List Int} {tot : Int} {kk c1 c2 c3 c4 : Nat} {o1 o2 o3 o4 o5 : Obj} {p9 p13 : Array Value}
  (X : Wld w base) (T : Top p loose mean mg mb base) (S : LC base L h m FG NM RT OD WR fv nv rv odv wv nx tot kk c1 c2 c3 c4 o1 o2 o3 o4 o5 p9 p13)
  (hC : ∀ h' m' tk' OT RW FO otv rwv tv c5 c6 c7 dl, LD base L h' m' FG NM RT OT RW FO fv nv rv otv rwv tv nx tot kk c1 c2 c5 c6 c7 o1 o2 o3 o4 o5 p9 p13 dl → wpAny (model PR w) (AL w.params L gd) (execs ((wSt w.params).drop 14) (wEnv w.params L)) Q E ⟨h', gs, dr, tk', os⟩) :
  wpAny (model PR w) (AL w.params L gd) (execs ((wSt w.params).drop 10) (wEnv w.params L)) Q E ⟨h, gs, dr, tk, os⟩ := by
  have X' := X.kk
  obtain ⟨F, ⟨tt, m2⟩, m3, m4, N, nd, d1, d2, d3, d4, d5, iF, iN, lN, hk8, iR, iD, iW⟩ := S
  refine' ph_open ?ho ?h1 ?h2 ?_
  case ho => k_is
  case h1 => rfl
  case h2 => rfl
  dsimp only [List.drop]
  w_on
  try k_fold
  k_steps
  show wpAny _ _ _ _ _ _
  have lOD : (ordL nx).length ≤ 1000 := by rw [ord_len]; decide
  refine filter_L rfl X T F N (a := OD) (b := RT) (by k_mem) (by k_mem) iD iR lOD fun OT h₁ tk₁ otv c5 F₁ N₁ iT off₁ => ?_
  replace nd := nd_new off₁ nd
  clear off₁ F N
  walk_at "GO"
  show wpAny _ _ _ _ _ _
  refine lc_eval (by with_unfolding_all rfl) (by decide) (by rfl) (by decide) (by rfl) ?_
  walk_at "GO"
  show LcAsk _ _ _ _ _ _ _ _ _ _ _
  rename Fr _ _ _ _ => F₂
  rename News _ _ _ _ => N₂
  have lRv : rv.length = 15 - 2 * kk := by rw [iR.length, List.length_take]; show min (15 - 2 * kk) 16 = _; lia
  obtain ⟨rt, hrt⟩ := iR.get (14 - 2 * kk) _ (root_last kk hk8)
  refine ⟨base, L, _, _, ordL nx, fun x => decide (rootMax kk < x), fun x => x, F₂, N₂, iterInts_list rfl F₂ N₂ (by k_mem) iD, lOD, fun C x v hx ix => ?_, fun C x v hx ix _ => (ev_own fun h H => H.2.2).mono fun v' e => e ▸ ix, fun D₃ ys₃ h₃ tk₃ c₃ N₃ off₃ i₃ F₃ => ?_⟩
  · exact evt_gt ((ev_own fun h H => H.2.2).mono fun v' e => e ▸ ix) ((ev_last (k := -1) (l := RT) (vs := rv) (ev_cell (c := L + 1 + 1 + 1) rfl (fun h H => ⟨o3, H.2.1 (L + 1 + 1 + 1, o3) (by k_mem), d3⟩)) ev_neg (fun h H => ⟨_, H.2.1 (RT, lobj rv 0) (by k_mem), rfl, _, rfl⟩) (by decide) (by rw [lRv]; lia) (by decide) (by rw [show (-1 + (rv.length : Int)).toNat = 14 - 2 * kk by lia]; exact hrt)).mono fun v e => ⟨rt, e⟩)
  replace nd := nd_new (off1_mem off₃) nd
  clear off₃ F₂ N₂
  replace i₃ : IntsAre ys₃ (othL nx kk) := by rw [othL, kept_is hk8 fun x hx => ord_mem hx]; rw [List.map_id'] at i₃; exact i₃
  walk_at "GO"
  show wpAny _ _ _ _ _ _
  refine ke_ne_ints (xs := otv) (ys := ys₃) ⟨_, (N₃ (OT, lobj otv c5) (by k_mem)).1, rfl, _, rfl⟩ ⟨_, (N₃ (D₃, lobj ys₃ c₃) (by k_mem)).1, rfl, _, rfl⟩ iT i₃ (Nat.le_of_ble_eq_true rfl) ?_
  rw [decide_eq_true rfl]
  walk_at "GO"
  show wpAny _ _ _ _ _ _
  have inO : KBa.In (octL nx kk) := oct_in nx kk
  have lO : (octL nx kk).length = kk := by rw [List.length_take, List.length_map, lN]; lia
  have lWR : (writ (octL nx kk)).length ≤ 1000 := by rw [writ_len, lO]; lia
  refine filter_L rfl X T F₃ N₃ (a := WR) (b := RT) (by k_mem) (by k_mem) iW iR lWR fun D₄ h₄ tk₄ ys₄ c₄ F₄ N₄ i₄ off₄ => ?_
  replace nd := nd_new off₄ nd
  clear off₄ F₃ N₃
  walk_at "GO"
  show wpAny _ _ _ _ _ _
  refine lc_eval (by with_unfolding_all rfl) (by decide) (by rfl) (by decide) (by rfl) ?_
  walk_at "GO"
  show LcAsk _ _ _ _ _ _ _ _ _ _ _
  refine ⟨base, L, _, _, writ (octL nx kk), fun x => decide (rootMax kk < x), fun x => x, F₄, N₄, iterInts_list rfl F₄ N₄ (by k_mem) iW, lWR, fun C x v hx ix => ?_, fun C x v hx ix _ => (ev_own fun h H => H.2.2).mono fun v' e => e ▸ ix, fun D₅ ys₅ h₅ tk₅ c₅ N₅ off₅ i₅ F₅ => ?_⟩
  · exact evt_gt ((ev_own fun h H => H.2.2).mono fun v' e => e ▸ ix) ((ev_last (k := -1) (l := RT) (vs := rv) (ev_cell (c := L + 1 + 1 + 1) rfl (fun h H => ⟨o3, H.2.1 (L + 1 + 1 + 1, o3) (by k_mem), d3⟩)) ev_neg (fun h H => ⟨_, H.2.1 (RT, lobj rv 0) (by k_mem), rfl, _, rfl⟩) (by decide) (by rw [lRv]; lia) (by decide) (by rw [show (-1 + (rv.length : Int)).toNat = 14 - 2 * kk by lia]; exact hrt)).mono fun v e => ⟨rt, e⟩)
  replace nd := nd_new (off1_mem off₅) nd
  clear off₅ F₄ N₄
  replace i₅ : IntsAre ys₅ (kept (rootsL kk) (writ (octL nx kk))) := by rw [kept_is hk8 fun x hx => writ_mem inO hx]; rw [List.map_id'] at i₅; exact i₅
  walk_at "GO"
  show wpAny _ _ _ _ _ _
  refine ke_ne_ints (xs := ys₄) (ys := ys₅) ⟨_, (N₅ (D₄, lobj ys₄ c₄) (by k_mem)).1, rfl, _, rfl⟩ ⟨_, (N₅ (D₅, lobj ys₅ c₅) (by k_mem)).1, rfl, _, rfl⟩ i₄ i₅ (Nat.le_of_ble_eq_true rfl) ?_
  rw [decide_eq_true rfl]
  walk_at "GO"
  show wpAny _ _ _ _ _ _
  refine KM.len_K (n := 15 - 2 * kk) (D := RT) (its := rv.toArray) (c := 0) N₅ (by k_mem) (by rw [List.size_toArray, lRv]) (by lia) ?_
  walk_at "GO"
  show wpAny _ _ _ _ _ _
  obtain ⟨ra, hra⟩ := iR.get _ _ (root_get tot hk8)
  have hri := root_ix tot hk8
  refine item_S N₅ (l := RT) (vs := rv) (n := 0) (by k_mem) hri.1 (by lia) hra ?_
  walk_at "GO"
  show wpAny _ _ _ _ _ _
  rename Fr _ _ _ _ => F₆
  rename News _ _ _ _ => N₆
  rename IntsAre _ (writ (octL nx kk) ++ [rootAt tot kk]) => i₆
  refine forest_L (ox := othL nx kk) (wx := rowL nx tot kk) rfl X T F₆ N₆ (n1 := c5) (ov := otv) (by k_mem) (List.Mem.head _) iT i₆ (by rw [oth_len nx kk hk8]; lia) (by rw [row_len lN hk8]; lia) (by intro e; have := row_len (tot := tot) lN hk8; rw [e] at this; cases this) fun FO h₇ tk₇ tv dl c₇ F₇ N₇ l₇ dp₇ off₇ offd => ?_
  clear off₇ offd F₆ N₆
  dsimp only [List.cons_append, List.nil_append] at N₇
  walk_at "GO"
  show wpAny _ _ _ _ _ _
  rename Fr _ _ _ _ => F₈
  rename News _ _ _ _ => N₈
  refine' ph_close (k := 14) ?ho' ?hr' ?h1' ?h2' ?_
  case ho' => k_is
  case hr' => rfl
  case h1' => rfl
  case h2' => rfl
  refine hC _ _ _ OT _ FO otv _ tv c5 0 c₇ dl ⟨F₈, by walk_at "lkp", by walk_at "lkp", by walk_at "lkp", fun q hq => N₈ q ?_, nd_sub nd ?_, d1, d2, d3, d4, d5, iF, iN, lN, hk8, iR, iT, i₆, dp₇, l₇⟩
  · refine List.Sublist.subset ?_ hq
    walk_at "SUBL"
  · refine .cons _ (.cons _ (.cons _ (.cons_cons _ (.cons _ (.cons _ ?_)))))
    simp
end
end Mine
end
section
namespace Mine
/-! the plain law: rows and forests -/
def goF : List Int → List Int → Told
  | _, [] => []
  | left, f :: r => (kept (f :: r) left, f) :: goF (kept ((kept (f :: r) left).take 1) left) r
theorem goF_fold : ∀ (row left : List Int) (told : Told), (row.foldl hangStep (left, row, told)).2.2 = told ++ goF left row
  | [], left, told => by simp [goF]
  | f :: r, left, told => by
    rw [List.foldl_cons]
    show (r.foldl hangStep (kept ((kept (f :: r) left).take 1) left, r, told ++ [(kept (f :: r) left, f)])).2.2 = _
    rw [goF_fold r]
    simp [goF]
theorem forest_go (others row : List Int) : forestOf others row = goF others row := by
  unfold forestOf
  rw [goF_fold, List.nil_append]
theorem kept_one {left : List Int} (nd : left.Nodup) (e : Int) : kept [e] left = left.erase e := by
  rw [nd.erase_eq_filter]
  unfold kept
  refine List.filter_congr fun x _ => ?_
  by_cases h : x = e <;> simp [h]
theorem kept_mem {ys xs : List Int} {x : Int} : x ∈ kept ys xs ↔ x ∈ xs ∧ x ∉ ys := by
  unfold kept; simp
theorem kept_perm {ys zs : List Int} (h : ys.Perm zs) (xs : List Int) : kept ys xs = kept zs xs := by
  unfold kept
  refine List.filter_congr fun x _ => ?_
  have e : ys.contains x = zs.contains x := by
    rw [Bool.eq_iff_iff]
    simp only [List.contains_iff_mem]
    exact h.mem_iff
  rw [e]
theorem length_le_of_sub : ∀ {l l' : List Int}, l.Nodup → (∀ x ∈ l, x ∈ l') → l.length ≤ l'.length
  | [], _, _, _ => Nat.zero_le _
  | a :: r, l', nd, h => by
    have ha := h a (List.mem_cons_self ..)
    obtain ⟨n1, n2⟩ := List.nodup_cons.mp nd
    have := length_le_of_sub (l' := l'.erase a) n2 fun x hx => (List.mem_erase_of_ne (show x ≠ a from fun e => n1 (e ▸ hx))).mpr (h x (List.mem_cons_of_mem _ hx))
    rw [List.length_erase_of_mem ha] at this
    have hp : 0 < l'.length := List.length_pos_of_mem ha
    rw [List.length_cons]
    lia
theorem head_mem {l : List Int} (h : l ≠ []) : l.headD 0 ∈ l := by
  cases l with
  | nil => exact absurd rfl h
  | cons a r => simp
theorem take_one {l : List Int} (h : l ≠ []) : l.take 1 = [l.headD 0] := by
  cases l with
  | nil => exact absurd rfl h
  | cons a r => simp
/-- some of the left is not told any more -/
theorem kept_some {left row : List Int} (nd : left.Nodup) (hl : left.length = row.length) (hr : row ≠ []) (hlast : ∀ x, row.getLast? = some x → x ∉ left) : kept row left ≠ [] := by
  intro he
  have hall : ∀ x ∈ left, x ∈ row := fun x hx => by
    refine Classical.byContradiction fun hn => ?_
    have : x ∈ kept row left := kept_mem.mpr ⟨hx, hn⟩
    rw [he] at this; cases this
  have hl' := hlast _ (List.getLast?_eq_some_getLast hr)
  have hsub : ∀ x ∈ left, x ∈ row.dropLast := fun x hx => by
    have h1 := hall x hx
    rw [← List.dropLast_concat_getLast hr] at h1
    rcases List.mem_append.mp h1 with h1 | h1
    · exact h1
    · rw [List.mem_singleton.mp h1] at hx; exact absurd hx hl'
  have := length_le_of_sub nd hsub
  rw [List.length_dropLast] at this
  have : 0 < row.length := List.length_pos_iff.mpr hr
  lia
abbrev hd1 (p : List Int × Int) : Int := p.1.headD 0
theorem goF_row : ∀ (row left : List Int), (goF left row).map (·.2) = row
  | [], _ => rfl
  | f :: r, left => by simp [goF, goF_row r]
theorem last_tail {f : Int} {r left : List Int} (e : Int) (h : ∀ x, (f :: r).getLast? = some x → x ∉ left) : ∀ x, r.getLast? = some x → x ∉ left.erase e := fun x hx hm => by
  cases r with
  | nil => cases hx
  | cons a r => exact h x (by rw [List.getLast?_cons_cons]; exact hx) (List.mem_of_mem_erase hm)
theorem goF_heads : ∀ (row left : List Int), left.Nodup → left.length = row.length → (∀ x, row.getLast? = some x → x ∉ left) → (∀ p ∈ goF left row, p.1 ≠ []) ∧ ((goF left row).map hd1).Perm left
  | [], left, nd, hl, _ => by
    have : left = [] := List.length_eq_zero_iff.mp hl
    subst this
    exact ⟨fun p h => by simp [goF] at h, .nil⟩
  | f :: r, left, nd, hl, hlast => by
    have hE := kept_some nd hl (by simp) hlast
    have hm := (kept_mem.mp (head_mem hE)).1
    have IH := goF_heads r (left.erase ((kept (f :: r) left).headD 0)) (nd.erase _) (by rw [List.length_erase_of_mem hm, hl]; simp) (last_tail _ hlast)
    unfold goF
    rw [take_one hE, kept_one nd]
    refine ⟨fun p hp => ?_, ?_⟩
    · rcases List.mem_cons.mp hp with rfl | hp
      · exact hE
      · exact IH.1 p hp
    · rw [List.map_cons]
      exact (List.Perm.cons _ IH.2).trans (List.perm_cons_erase hm).symm
/-- taking off, n turns -/
def peel (fh : Int → Int) : Nat → List Int → Told
  | 0, _ => []
  | n + 1, left => (kept (left.map fh) left, fh ((kept (left.map fh) left).headD 0)) :: peel fh n (left.erase ((kept (left.map fh) left).headD 0))
def Live (fh : Int → Int) : Nat → List Int → Prop
  | 0, _ => True
  | n + 1, left => kept (left.map fh) left ≠ [] ∧ Live fh n (left.erase ((kept (left.map fh) left).headD 0))
theorem goF_peel (fh : Int → Int) : ∀ (row left : List Int), left.Nodup → left.length = row.length → (∀ x, row.getLast? = some x → x ∉ left) → (∀ p ∈ goF left row, fh (hd1 p) = p.2) → goF left row = peel fh row.length left ∧ Live fh row.length left
  | [], _, _, _, _, _ => ⟨rfl, trivial⟩
  | f :: r, left, nd, hl, hlast, hf => by
    have hE := kept_some nd hl (by simp) hlast
    have hm := (kept_mem.mp (head_mem hE)).1
    have hp := (goF_heads (f :: r) left nd hl hlast).2
    have e1 : (left.map fh).Perm (f :: r) := by
      refine (hp.map fh).symm.trans ?_
      have : ((goF left (f :: r)).map hd1).map fh = f :: r := by
        rw [List.map_map, ← goF_row (f :: r) left]
        rw [goF_row]
        conv => rhs; rw [← goF_row (f :: r) left]
        exact List.map_congr_left fun p hp => hf p hp
      rw [this]
    have e2 := kept_perm e1 left
    have e3 : goF left (f :: r) = (kept (f :: r) left, f) :: goF (left.erase ((kept (f :: r) left).headD 0)) r := by
      conv => lhs; unfold goF
      rw [take_one hE, kept_one nd]
    rw [e3] at hf ⊢
    have h0 := hf _ (List.mem_cons_self ..)
    have IH := goF_peel fh r (left.erase ((kept (f :: r) left).headD 0)) (nd.erase _) (by rw [List.length_erase_of_mem hm, hl]; simp) (last_tail _ hlast) fun p hp => hf p (List.mem_cons_of_mem _ hp)
    refine ⟨?_, ?_⟩
    · rw [IH.1]
      show _ = (kept (left.map fh) left, fh ((kept (left.map fh) left).headD 0)) :: peel fh r.length (left.erase ((kept (left.map fh) left).headD 0))
      rw [e2]
      exact congrArg (· :: _) (congrArg (Prod.mk _) h0.symm)
    · show kept (left.map fh) left ≠ [] ∧ Live fh r.length (left.erase ((kept (left.map fh) left).headD 0))
      rw [e2]
      exact ⟨hE, IH.2⟩
theorem exists_max : ∀ {l : List Int}, l ≠ [] → ∃ m ∈ l, ∀ y ∈ l, y ≤ m
  | [a], _ => ⟨a, by simp, by simp⟩
  | a :: b :: r, _ => by
    obtain ⟨m, h1, h2⟩ := exists_max (l := b :: r) (by simp)
    by_cases h : m ≤ a
    · refine ⟨a, by simp, fun y hy => ?_⟩
      rcases List.mem_cons.mp hy with rfl | hy
      · exact Int.le_refl _
      · exact Int.le_trans (h2 y hy) h
    · refine ⟨m, List.mem_cons_of_mem _ h1, fun y hy => ?_⟩
      rcases List.mem_cons.mp hy with rfl | hy
      · lia
      · exact h2 y hy
theorem peel_goF (fh : Int → Int) : ∀ (n : Nat) (left : List Int), left.Nodup → left.length = n → (∀ x ∈ left, fh x < x) → Live fh n left ∧ goF left ((peel fh n left).map (·.2)) = peel fh n left ∧ ((peel fh n left).map (·.2)).Perm (left.map fh) ∧ (∀ p ∈ peel fh n left, ∃ x ∈ left, p.2 = fh x)
  | 0, left, nd, hl, _ => by
    have : left = [] := List.length_eq_zero_iff.mp hl
    subst this
    exact ⟨trivial, rfl, .nil, fun p h => by cases h⟩
  | n + 1, left, nd, hl, hlt => by
    have hE : kept (left.map fh) left ≠ [] := by
      obtain ⟨m, hm, hmax⟩ := exists_max (l := left) (by intro e; rw [e] at hl; cases hl)
      intro he
      have : m ∈ kept (left.map fh) left := kept_mem.mpr ⟨hm, fun hx => by
        obtain ⟨y, hy, e⟩ := List.mem_map.mp hx
        have h1 := hlt y hy
        have h2 := hmax y hy
        lia⟩
      rw [he] at this; cases this
    have hm := (kept_mem.mp (head_mem hE)).1
    obtain ⟨i1, i2, i3, i4⟩ := peel_goF fh n (left.erase ((kept (left.map fh) left).headD 0)) (nd.erase _) (by rw [List.length_erase_of_mem hm, hl]; rfl) fun x hx => hlt x (List.mem_of_mem_erase hx)
    have hperm : ((peel fh (n + 1) left).map (·.2)).Perm (left.map fh) := by
      refine (List.Perm.cons _ i3).trans ?_
      exact ((List.perm_cons_erase hm).map fh).symm
    refine ⟨⟨hE, i1⟩, ?_, hperm, fun p hp => ?_⟩
    · have e2 := kept_perm hperm left
      show (kept ((peel fh (n + 1) left).map (·.2)) left, _) :: goF (kept ((kept ((peel fh (n + 1) left).map (·.2)) left).take 1) left) ((peel fh n _).map (·.2)) = _
      rw [e2, take_one hE, kept_one nd, i2]
      rfl
    · rcases List.mem_cons.mp hp with rfl | hp
      · exact ⟨_, hm, rfl⟩
      · obtain ⟨x, hx, e⟩ := i4 p hp
        exact ⟨x, List.mem_of_mem_erase hx, e⟩
theorem arms_count (fh : Int → Int) : ∀ (l : List Int) (a : Int → Int) (x : Int), l.foldl (fun a one => upd a (fh one) (a (fh one) + 1)) a x = a x + ((l.map fh).count x : Nat)
  | [], a, x => by simp
  | b :: r, a, x => by
    rw [List.foldl_cons, arms_count fh r]
    rw [List.map_cons, List.count_cons]
    unfold upd
    by_cases h : x = fh b
    · subst h; simp; lia
    · rw [if_neg h]
      have : (fh b == x) = false := by simpa using fun e => h e.symm
      rw [this]; simp
structure TInv (others : List Int) (fh : Int → Int) (j : Nat) (left : List Int) : Prop where
  sub : left = others.filter fun x => left.contains x
  nd : left.Nodup
  arms : ∀ x ∈ others, (takeN others fh j).1 x = if left.contains x = true then (((left.map fh).count x : Nat) : Int) else -1
  out : ∀ x ∈ others, left.contains x = false → x ∉ left.map fh
  told : (takeN others fh j).2 ++ peel fh (others.length - j) left = peel fh others.length others
  len : left.length = others.length - j
  live : Live fh (others.length - j) left
theorem tinv_ends {others : List Int} {fh : Int → Int} {j : Nat} {left : List Int} (I : TInv others fh j left) : (others.filter fun x => (takeN others fh j).1 x == 0) = kept (left.map fh) left := by
  have h1 : (others.filter fun x => (takeN others fh j).1 x == 0) = others.filter fun x => left.contains x && !(left.map fh).contains x := by
    refine List.filter_congr fun x hx => ?_
    rw [I.arms x hx]
    cases hc : left.contains x with
    | false => simp
    | true =>
      simp only [if_true, Bool.true_and]
      rw [Bool.eq_iff_iff]
      simp only [beq_iff_eq, Bool.not_eq_true', ← Bool.not_eq_true, List.contains_iff_mem]
      rw [← List.count_pos_iff (l := left.map fh)]
      lia
  rw [h1]
  conv => rhs; rw [I.sub]
  unfold kept
  rw [List.filter_filter]
  refine List.filter_congr fun x hx => ?_
  rw [← I.sub, Bool.and_comm]
theorem tinv_step {others : List Int} {fh : Int → Int} {j : Nat} {left : List Int} (I : TInv others fh j left) (hj : j < others.length) : TInv others fh (j + 1) (left.erase ((kept (left.map fh) left).headD 0)) := by
  obtain ⟨k, hk⟩ : ∃ k, others.length - j = k + 1 := ⟨others.length - j - 1, by lia⟩
  have hk' : others.length - (j + 1) = k := by lia
  have hL := I.live
  rw [hk] at hL
  obtain ⟨hE, hL'⟩ := hL
  have hT := I.told
  rw [hk] at hT
  have ends := tinv_ends I
  have hme := kept_mem.mp (head_mem hE)
  generalize he : (kept (left.map fh) left).headD 0 = e at *
  have hfe : fh e ∈ left.map fh := List.mem_map_of_mem hme.1
  have hne : fh e ≠ e := fun q => hme.2 (q ▸ hfe)
  have hsubo : ∀ x ∈ left, x ∈ others := fun x hx => by rw [I.sub] at hx; exact (List.mem_filter.mp hx).1
  have step : takeN others fh (j + 1) = (upd (upd (takeN others fh j).1 e (-1)) (fh e) (upd (takeN others fh j).1 e (-1) (fh e) - 1), (takeN others fh j).2 ++ [(kept (left.map fh) left, fh e)]) := by
    show takeStep others fh (takeN others fh j) = _
    unfold takeStep
    rw [ends]
    dsimp only
    rw [he]
  have cont : ∀ x, (left.erase e).contains x = (left.contains x && (x != e)) := fun x => by
    rw [Bool.eq_iff_iff]
    simp only [List.contains_iff_mem, Bool.and_eq_true, bne_iff_ne]
    rw [I.nd.mem_erase_iff, and_comm]
  have cnt : ∀ x, (left.map fh).count x = ((left.erase e).map fh).count x + if fh e == x then 1 else 0 := fun x => by
    have := ((List.perm_cons_erase hme.1).map fh).count_eq x
    rw [this, List.map_cons, List.count_cons]
  refine ⟨?_, I.nd.erase _, fun x hx => ?_, fun x hx hc hm => ?_, ?_, by rw [List.length_erase_of_mem hme.1, I.len]; lia, by rw [hk']; exact hL'⟩
  · rw [I.nd.erase_eq_filter]
    conv => lhs; rw [I.sub]
    rw [List.filter_filter]
    refine List.filter_congr fun x hx => ?_
    rw [← I.nd.erase_eq_filter, cont, Bool.and_comm]
  · rw [step, cont]
    dsimp only
    unfold upd
    by_cases hxe : x = e
    · subst hxe
      rw [if_neg (Ne.symm hne), if_pos rfl]
      simp
    · have hxe' : (x != e) = true := by simpa using hxe
      rw [hxe', Bool.and_true, if_neg hne, if_neg hxe]
      cases hc : left.contains x with
      | true =>
        have a1 := I.arms x hx
        rw [hc, if_pos rfl, cnt] at a1
        simp only [if_true]
        by_cases hxf : x = fh e
        · subst hxf
          rw [if_pos rfl]
          simp at a1
          lia
        · rw [if_neg hxf]
          have : (fh e == x) = false := by simpa using fun q => hxf q.symm
          rw [this] at a1
          simpa using a1
      | false =>
        have a1 := I.arms x hx
        rw [hc] at a1
        have : x ≠ fh e := fun q => I.out x hx hc (q ▸ hfe)
        rw [if_neg this]
        simpa using a1
  · rw [cont] at hc
    have hm' : x ∈ left.map fh := by
      obtain ⟨y, hy, e⟩ := List.mem_map.mp hm
      exact List.mem_map.mpr ⟨y, List.mem_of_mem_erase hy, e⟩
    cases hc' : left.contains x with
    | false => exact I.out x hx hc' hm'
    | true =>
      rw [hc', Bool.true_and] at hc
      have : x = e := by simpa using hc
      subst this
      exact hme.2 hm'
  · rw [step, hk', ← hT, List.append_assoc]
    show _ = _ ++ ((kept (left.map fh) left, fh ((kept (left.map fh) left).headD 0)) :: peel fh k (left.erase ((kept (left.map fh) left).headD 0)))
    rw [he]
    rfl
theorem tinv_zero {others : List Int} {fh : Int → Int} (nd : others.Nodup) (hL : Live fh others.length others) : TInv others fh 0 others := by
  refine ⟨?_, nd, fun x hx => ?_, fun x hx hc => ?_, by simp [takeN], by simp, by simpa using hL⟩
  · symm
    refine List.filter_eq_self.mpr fun x hx => ?_
    simpa using hx
  · show armsOf fh others x = _
    unfold armsOf
    rw [arms_count, if_pos (by simpa using hx)]
    simp
  · have : others.contains x = true := by simpa using hx
    rw [this] at hc; cases hc
theorem tinv_all {others : List Int} {fh : Int → Int} (nd : others.Nodup) (hL : Live fh others.length others) : ∀ j, j ≤ others.length → ∃ left, TInv others fh j left
  | 0, _ => ⟨others, tinv_zero nd hL⟩
  | j + 1, h => by
    obtain ⟨left, I⟩ := tinv_all nd hL j (by lia)
    exact ⟨_, tinv_step I (by lia)⟩
theorem taken_peel {others : List Int} {fh : Int → Int} (nd : others.Nodup) (hL : Live fh others.length others) : takenOf others fh = peel fh others.length others ∧ ∀ j, j < others.length → (others.filter fun x => (takeN others fh j).1 x == 0) ≠ [] := by
  refine ⟨?_, fun j hj => ?_⟩
  · obtain ⟨left, I⟩ := tinv_all nd hL others.length (Nat.le_refl _)
    have := I.told
    rw [Nat.sub_self] at this
    show (takeN others fh others.length).2 = _
    rw [← this]
    simp [peel]
  · obtain ⟨left, I⟩ := tinv_all nd hL j (by lia)
    rw [tinv_ends I]
    have := I.live
    obtain ⟨k, hk⟩ : ∃ k, others.length - j = k + 1 := ⟨others.length - j - 1, by lia⟩
    rw [hk] at this
    exact this.1
/-- on whom a figure hangs, as the forest tells -/
def fhOf (l : Told) (k : Int) : Int := match l.find? fun p => hd1 p == k with | some p => p.2 | none => 0
theorem fhOf_mem : ∀ {l : Told}, (l.map hd1).Nodup → ∀ p ∈ l, fhOf l (hd1 p) = p.2
  | [], _, p, h => by cases h
  | q :: r, nd, p, h => by
    unfold fhOf
    rw [List.find?_cons]
    obtain ⟨n1, n2⟩ := List.nodup_cons.mp nd
    rcases List.mem_cons.mp h with rfl | h
    · simp
    · have : (hd1 q == hd1 p) = false := beq_eq_false_iff_ne.mpr fun e => n1 (List.mem_map.mpr ⟨p, h, e.symm⟩)
      rw [this]
      exact fhOf_mem n2 p h
/-- from the row to the forest, and back -/
theorem law_A {others row : List Int} (nd : others.Nodup) (hl : others.length = row.length) (hlast : ∀ x, row.getLast? = some x → x ∉ others) :
    (forestOf others row).length = row.length ∧ (forestOf others row).map (·.2) = row ∧ (∀ p ∈ forestOf others row, p.1 ≠ []) ∧ (∀ p ∈ forestOf others row, fhOf (forestOf others row) (hd1 p) = p.2) ∧ (∀ k ∈ others, k ∈ (forestOf others row).map hd1) ∧
    takenOf others (fhOf (forestOf others row)) = forestOf others row ∧ ∀ j, j < others.length → (others.filter fun x => (takeN others (fhOf (forestOf others row)) j).1 x == 0) ≠ [] := by
  rw [forest_go]
  obtain ⟨h1, h2⟩ := goF_heads row others nd hl hlast
  have h3 := goF_row row others
  have h4 : ∀ p ∈ goF others row, fhOf (goF others row) (hd1 p) = p.2 := fhOf_mem (h2.symm.nodup nd)
  obtain ⟨h5, h6⟩ := goF_peel (fhOf (goF others row)) row others nd hl hlast h4
  rw [← hl] at h5 h6
  obtain ⟨h7, h8⟩ := taken_peel nd h6
  refine ⟨?_, h3, h1, h4, fun k hk => h2.mem_iff.mpr hk, h7.trans h5.symm, h8⟩
  have := congrArg List.length h3
  rwa [List.length_map] at this
/-- from the forest to the row, and back -/
theorem law_B {others : List Int} {fh : Int → Int} (nd : others.Nodup) (hlt : ∀ x ∈ others, fh x < x) :
    (∀ j, j < others.length → (others.filter fun x => (takeN others fh j).1 x == 0) ≠ []) ∧ forestOf others ((takenOf others fh).map (·.2)) = takenOf others fh ∧ (takenOf others fh).length = others.length ∧ ∀ p ∈ takenOf others fh, ∃ x ∈ others, p.2 = fh x := by
  obtain ⟨h1, h2, h3, h4⟩ := peel_goF fh others.length others nd rfl hlt
  obtain ⟨h5, h6⟩ := taken_peel nd h1
  rw [h5, forest_go]
  refine ⟨h6, h2, ?_, h4⟩
  have := h3.length_eq
  simpa using this
end Mine
end
section
open PySem PySem.W PyProof.Rows PySem.Calls
namespace Mine
local macro_rules | `(tactic| walk_at "pad") => `(tactic| skip)
theorem fig_nodup : figsL.Nodup := by decide
theorem oth_nodup (nx : List Int) (kk : Nat) : (othL nx kk).Nodup := List.Pairwise.filter _ ((ord_perm nx).symm.nodup fig_nodup)
theorem root_mem (tot : Int) {kk : Nat} (h : kk < 8) : rootAt tot kk ∈ rootsL kk := List.mem_of_getElem? (root_get tot h)
theorem row_last (nx : List Int) (tot : Int) {kk : Nat} (h : kk < 8) : ∀ x, (rowL nx tot kk).getLast? = some x → x ∉ othL nx kk := fun x hx hm => by
  rw [List.getLast?_concat] at hx
  cases hx
  exact (kept_mem.mp hm).2 (root_mem tot h)
abbrev forL (nx : List Int) (tot : Int) (kk : Nat) : Told := forestOf (othL nx kk) (rowL nx tot kk)
theorem head_get {l : List Int} (h : l ≠ []) : l[0]? = some (l.headD 0) := by
  cases l with
  | nil => exact absurd rfl h
  | cons a r => rfl
/-- after the first way round -/
inductive LE (base : Heap) (L : Addr) (h : Heap) (m : Str → Option Value) (FG NM RT OT : Addr) (fv nv rv otv : List Value) (nx : List Int) (kk c1 c2 c5 : Nat) (o1 o2 o3 o4 o5 : Obj) (p9 p13 : Array Value) : Prop
  | mk (F_ : Fr base L h m) (m1_ : m "others" = some (.ref OT)) (N_ : News base L h [(OT, lobj otv c5), (RT, lobj rv 0), (NM, lobj nv c2), (FG, lobj fv c1), (L + 1, o1), (L + 1 + 1, o2), (L + 1 + 1 + 1, o3), (L + 1 + 1 + 1 + 1, o4), (L + 1 + 1 + 1 + 1 + 1, o5), (90, tabObj p9), (130, tabObj p13)]) (nd_ : List.Nodup [OT, RT, NM, FG, L + 1, L + 1 + 1, L + 1 + 1 + 1, L + 1 + 1 + 1 + 1, L + 1 + 1 + 1 + 1 + 1, 90, 130]) (d1_ : o1.data = .cell (some (.ref FG))) (d2_ : o2.data = .cell (some (.ref NM))) (d3_ : o3.data = .cell (some (.ref RT))) (d4_ : o4.data = .cell none) (d5_ : o5.data = .cell none) (iF_ : IntsAre fv figsL) (iN_ : IntsAre nv nx) (lN_ : nx.length = 16) (hk_ : kk < 8) (iR_ : IntsAre rv (figsL.take (15 - 2 * kk))) (iT_ : IntsAre otv (othL nx kk)) : LE base L h m FG NM RT OT fv nv rv otv nx kk c1 c2 c5 o1 o2 o3 o4 o5 p9 p13
section
local macro_rules | `(tactic| walk_at "execs cons") => `(tactic| (k_here; (with_reducible show wpAny _ _ (execs (Stmt.Assign _ _ { line := 138, .. } :: _) _) _ _ _); refine Halt.out ?_))
set_option maxHeartbeats 1000000 in
theorem phE {w : World} {base : Heap} {gd : Option (List Code)} {L : Addr} {m : Str → Option Value} {p : Program} {loose : List Str} {mean : ExcName → Option Value} {mg mb : Str → Option Value} {h : Heap} {gs : Array GenState} {dr : Drawn} {tk : Nat} {os : OsState} {E : Value → Shared → Prop} {Q : Flow → Shared → Prop}
  {FG NM RT OT RW FO : Addr} {fv nv rv otv rwv tv : List Value} {nx : List Int} {tot : Int} {kk c1 c2 c5 c6 c7 : Nat} {o1 o2 o3 o4 o5 : Obj} {p9 p13 : Array Value} {dl : List (Addr × Obj)}
  (X : Wld w base) (T : Top p loose mean mg mb base) (S : LD base L h m FG NM RT OT RW FO fv nv rv otv rwv tv nx tot kk c1 c2 c5 c6 c7 o1 o2 o3 o4 o5 p9 p13 dl)
  (hC : ∀ h' m' tk', LE base L h' m' FG NM RT OT fv nv rv otv nx kk c1 c2 c5 o1 o2 o3 o4 o5 p9 p13 → wpAny (model PR w) (AL w.params L gd) (execs ((wSt w.params).drop 16) (wEnv w.params L)) Q E ⟨h', gs, dr, tk', os⟩) :
  wpAny (model PR w) (AL w.params L gd) (execs ((wSt w.params).drop 14) (wEnv w.params L)) Q E ⟨h, gs, dr, tk, os⟩ := by
  have X' := X.kk
  obtain ⟨F, m1, m2, m3, N, nd, d1, d2, d3, d4, d5, iF, iN, lN, hk8, iR, iT, iW, dp, lT⟩ := S
  refine' ph_open ?ho ?h1 ?h2 ?_
  case ho => k_is
  case h1 => rfl
  case h2 => rfl
  dsimp only [List.drop]
  w_on
  try k_fold
  refine wpAny_execs_cons ?_
  refine dp_assign rfl (by with_unfolding_all rfl) (by with_unfolding_all rfl) (by decide) (by rfl) (by decide) (by rfl) (by rfl) (by decide) (by rfl) (by rfl) ?_
  walk_at "GO"
  show DpAsk _ _ _ _ _ _ _ _ _ _ _ _
  obtain ⟨a1, a2, a3, a4, a5, a6, a7⟩ := law_A (oth_nodup nx kk) ((oth_len nx kk hk8).trans (row_len (tot := tot) lN hk8).symm) (row_last nx tot hk8)
  have lR := row_len (tot := tot) lN hk8
  have lF : tv.length = (forL nx tot kk).length := lT.trans a1.symm
  refine ⟨base, L, _, _, FO, tv, c7, forL nx tot kk, hd1, fun p => p.2, fhOf (forL nx tot kk), F, N, rfl, List.Mem.head _, pairs_of_deep dp lF (fun q hq => by repeat (first | exact hq | exact List.mem_append_left _ hq | exact List.mem_append_right _ hq | refine List.Mem.tail _ ?_)), by rw [lT, lR]; lia, a4, fun C p hp => ?_, fun C p hp => ?_, fun HU oh h₁ tk₁ N₁ off₁ dh => ⟨rfl, fun F₁ => ?_⟩⟩
  · exact ev_head fun h H => let ⟨_, _, mC, a, ev, t, e1, e2, e3, e4, e5⟩ := H; ⟨mC, a, ev, p.1, e1, e2, e4, e5, head_get (a3 p hp)⟩
  · exact ev_ownP fun h H => let ⟨_, _, mC, a, ev, t, e1, e2, e3, e4, e5⟩ := H; ⟨mC, _, e1, e3, t, rfl⟩
  clear off₁ F N
  walk_at "GO"
  show wpAny _ _ _ _ _ _
  refine lp_eval rfl (by with_unfolding_all rfl) (by decide) (by rfl) (by decide) (by rfl) (by rfl) (by decide) ?_
  walk_at "GO"
  show LpAsk _ _ _ _ _ _ _ _ _ _ _
  refine ⟨base, L, _, _, FO, tv, c7, forL nx tot kk, fun p => p.2, F₁, N₁, rfl, by k_mem, pairs_of_deep dp lF (fun q hq => by repeat (first | exact hq | exact List.mem_append_left _ hq | exact List.mem_append_right _ hq | refine List.Mem.tail _ ?_)), by rw [lT, lR]; lia, fun C p hp => ?_, fun D₂ ys₂ h₂ tk₂ c₂ F₂ N₂ off₂ i₂ => ?_⟩
  · exact ev_ownP fun h H => let ⟨_, _, mC, a, ev, t, e1, e2, e3, e4, e5⟩ := H; ⟨mC, _, e1, e3, t, rfl⟩
  clear off₂ F₁ N₁
  rw [a2] at i₂
  walk_at "GO"
  show wpAny _ _ _ _ _ _
  refine ke_ne_ints (xs := ys₂) (ys := rwv) ⟨_, (N₂ (D₂, lobj ys₂ c₂) (by k_mem)).1, rfl, _, rfl⟩ ⟨_, (N₂ (RW, lobj rwv c6) (by k_mem)).1, rfl, _, rfl⟩ i₂ iW (Nat.le_of_ble_eq_true rfl) ?_
  rw [decide_eq_true rfl]
  walk_at "GO"
  show wpAny _ _ _ _ _ _
  refine taken_L (ox := othL nx kk) (fh := fhOf (forL nx tot kk)) (dom := (forL nx tot kk).map hd1) rfl X T F₂ N₂ (n1 := c5) (ov := otv) (oh := oh) (by k_mem) (by k_mem) iT (by rw [oth_len nx kk hk8]; lia) dh a5 a7 fun TK h₃ tk₃ tv₃ dl₃ c₃ F₃ N₃ l₃ dp₃ off₃ offd => ?_
  rw [a6] at dp₃
  clear off₃ offd F₂ N₂
  dsimp only [List.cons_append, List.nil_append] at N₃
  walk_at "GO"
  show wpAny _ _ _ _ _ _
  refine deep_ne (a := TK) (b := FO) (tv := tv₃) (tv' := tv) (c := c₃) (c' := c7) N₃ (by k_mem) (by k_mem) dp₃ dp (fun q hq => by repeat (first | exact hq | exact List.mem_append_left _ hq | exact List.mem_append_right _ hq | refine List.Mem.tail _ ?_)) (fun q hq => by repeat (first | exact hq | exact List.mem_append_left _ hq | exact List.mem_append_right _ hq | refine List.Mem.tail _ ?_)) (Nat.le_of_ble_eq_true rfl) ?_
  walk_at "GO"
  show wpAny _ _ _ _ _ _
  refine' ph_close (k := 16) ?ho' ?hr' ?h1' ?h2' ?_
  case ho' => k_is
  case hr' => rfl
  case h1' => rfl
  case h2' => rfl
  refine hC _ _ _ ⟨F₃, by walk_at "lkp", fun q hq => N₃ q ?_, nd, d1, d2, d3, d4, d5, iF, iN, lN, hk8, iR, iT⟩
  refine List.Sublist.subset ?_ hq
  walk_at "SUBL"
end
end Mine
end
section
open PySem PySem.W PyProof.Rows PySem.Calls
namespace Mine
local macro_rules | `(tactic| walk_at "pad") => `(tactic| skip)
local macro_rules | `(tactic| walk_at "pad") => `(tactic| skip)
local macro_rules | `(tactic| walk_at "pad") => `(tactic| skip)
def rng (kk : Nat) : List Int := (List.range (1 + 2 * kk)).map fun i : Nat => ((15 - 2 * kk : Nat) : Int) + (i : Int) * 1
theorem rng_is {kk : Nat} (hk : kk < 8) {x : Int} (h : x ∈ rng kk) : ∃ i : Nat, x = i ∧ 1 ≤ i ∧ i < 16 := by
  unfold rng at h
  obtain ⟨i, hi, rfl⟩ := List.mem_map.mp h
  have := List.mem_range.mp hi
  exact ⟨15 - 2 * kk + i, by lia, by lia, by lia⟩
theorem rng_len (kk : Nat) : (rng kk).length = 1 + 2 * kk := by unfold rng; simp
theorem rng_dom : ∀ kk : Nat, kk < 8 → ∀ f ∈ figsL, (rootsL kk).contains f = false → f ∈ (rng kk).map figAt := by decide
theorem rng_size : ∀ kk : Nat, kk < 8 → Builtin.Range.rangeSize ((15 - 2 * kk : Nat) : Int) 16 1 = ((1 + 2 * kk : Nat) : Int) ∧ Builtin.Range.small ((15 - 2 * kk : Nat) : Int) 16 1 = true := by decide
/-- whom the i-th figure hangs on -/
def par (nx : List Int) (i : Int) : Int := (((nx.getD i.toNat 0).fdiv 4096).fmod 16).fmod i
theorem par_lt (nx : List Int) {i : Int} (h : 1 ≤ i) : 0 ≤ par nx i ∧ par nx i < i := by
  unfold par
  rw [Int.fmod_eq_emod_of_nonneg _ (by lia)]
  exact ⟨Int.emod_nonneg _ (by lia), Int.emod_lt_of_pos _ (by lia)⟩
def fhB (nx : List Int) (f : Int) : Int := figAt (par nx (figsL.idxOf f))
theorem fig_mono : ∀ i : Nat, i < 16 → ∀ j : Nat, j < i → figAt (j : Int) < figAt (i : Int) := by decide
theorem fhB_at (nx : List Int) {i : Nat} (h : i < 16) : fhB nx (figAt (i : Int)) = figAt (par nx i) := by unfold fhB; rw [fig_idx i h]
theorem fhB_lt (nx : List Int) {kk : Nat} (hk : kk < 8) : ∀ x ∈ othL nx kk, fhB nx x < x := fun x hx => by
  obtain ⟨h1, h2⟩ := kept_mem.mp hx
  have h3 := rng_dom kk hk x (ord_mem h1) (by simpa using h2)
  obtain ⟨z, hz, rfl⟩ := List.mem_map.mp h3
  obtain ⟨i, rfl, h4, h5⟩ := rng_is hk hz
  rw [fhB_at nx h5]
  have h6 := par_lt nx (i := (i : Int)) (by lia)
  have h7 := fig_mono i h5 (par nx i).toNat (by lia)
  rwa [Int.toNat_of_nonneg h6.1] at h7
theorem oth_dom (nx : List Int) {kk : Nat} (hk : kk < 8) : ∀ k ∈ othL nx kk, k ∈ (rng kk).map figAt := fun k hk' => by
  obtain ⟨h1, h2⟩ := kept_mem.mp hk'
  exact rng_dom kk hk k (ord_mem h1) (by simpa using h2)
abbrev drwL (nx : List Int) (kk : Nat) : Told := takenOf (othL nx kk) (fhB nx)
/-- after drawn -/
inductive LF (base : Heap) (L : Addr) (h : Heap) (m : Str → Option Value) (FG OT DR : Addr) (fv otv tv : List Value) (nx : List Int) (kk c1 c5 c6 : Nat) (o1 o4 o5 : Obj) (p9 p13 : Array Value) (dl : List (Addr × Obj)) : Prop
  | mk (F_ : Fr base L h m) (m1_ : m "others" = some (.ref OT)) (m2_ : m "drawn" = some (.ref DR)) (N_ : News base L h ((DR, lobj tv c6) :: (OT, lobj otv c5) :: (FG, lobj fv c1) :: (L + 1, o1) :: (L + 1 + 1 + 1 + 1, o4) :: (L + 1 + 1 + 1 + 1 + 1, o5) :: (90, tabObj p9) :: (130, tabObj p13) :: dl)) (nd_ : List.Nodup [DR, OT, FG, L + 1, L + 1 + 1 + 1 + 1, L + 1 + 1 + 1 + 1 + 1, 90, 130]) (off_ : ∀ q ∈ dl, q.1 ≠ L + 1 + 1 + 1 + 1 ∧ q.1 ≠ L + 1 + 1 + 1 + 1 + 1) (d1_ : o1.data = .cell (some (.ref FG))) (d4_ : o4.data = .cell none) (d5_ : o5.data = .cell none) (iF_ : IntsAre fv figsL) (lN_ : nx.length = 16) (hk_ : kk < 8) (iT_ : IntsAre otv (othL nx kk)) (dp_ : Deep dl tv (toldD (drwL nx kk))) (lT_ : tv.length = (othL nx kk).length) : LF base L h m FG OT DR fv otv tv nx kk c1 c5 c6 o1 o4 o5 p9 p13 dl
section
local macro_rules | `(tactic| walk_at "execs cons") => `(tactic| (k_here; (with_reducible show wpAny _ _ (execs (Stmt.Assign _ _ { line := 139, .. } :: _) _) _ _ _); refine Halt.out ?_))
set_option maxHeartbeats 1000000 in
theorem phF {w : World} {base : Heap} {gd : Option (List Code)} {L : Addr} {m : Str → Option Value} {p : Program} {loose : List Str} {mean : ExcName → Option Value} {mg mb : Str → Option Value} {h : Heap} {gs : Array GenState} {dr : Drawn} {tk : Nat} {os : OsState} {E : Value → Shared → Prop} {Q : Flow → Shared → Prop}
  {FG NM RT OT : Addr} {fv nv rv otv : List Value} {nx : List Int} {kk c1 c2 c5 : Nat} {o1 o2 o3 o4 o5 : Obj} {p9 p13 : Array Value}
  (X : Wld w base) (T : Top p loose mean mg mb base) (S : LE base L h m FG NM RT OT fv nv rv otv nx kk c1 c2 c5 o1 o2 o3 o4 o5 p9 p13)
  (hC : ∀ h' m' tk' DR tv c6 dl, LF base L h' m' FG OT DR fv otv tv nx kk c1 c5 c6 o1 o4 o5 p9 p13 dl → wpAny (model PR w) (AL w.params L gd) (execs ((wSt w.params).drop 17) (wEnv w.params L)) Q E ⟨h', gs, dr, tk', os⟩) :
  wpAny (model PR w) (AL w.params L gd) (execs ((wSt w.params).drop 16) (wEnv w.params L)) Q E ⟨h, gs, dr, tk, os⟩ := by
  have X' := X.kk
  obtain ⟨F, m1, N, nd, d1, d2, d3, d4, d5, iF, iN, lN, hk8, iR, iT⟩ := S
  refine' ph_open ?ho ?h1 ?h2 ?_
  case ho => k_is
  case h1 => rfl
  case h2 => rfl
  dsimp only [List.drop]
  w_on
  try k_fold
  k_steps
  show wpAny _ _ _ _ _ _
  refine dc_eval (by with_unfolding_all rfl) (by decide) (by rfl) (by decide) (by rfl) ?_
  walk_at "GO"
  show wpAny _ _ _ _ _ _
  have lRv : rv.length = 15 - 2 * kk := by rw [iR.length, List.length_take]; show min (15 - 2 * kk) 16 = _; lia
  refine KM.len_K (n := 15 - 2 * kk) (D := RT) (its := rv.toArray) (c := 0) N (by k_mem) (by rw [List.size_toArray, lRv]) (by lia) ?_
  walk_at "GO"
  show DcAsk _ _ _ _ _ _ _ _ _ _ _
  rename Fr _ _ _ _ => F₁
  rename News _ _ _ _ => N₁
  rename IsRange _ _ _ _ _ _ _ _ => hr₁
  refine ⟨base, L, _, _, rng kk, figAt, fun x => figAt (par nx x), fhB nx, F₁, N₁, iterInts_range (n := 1 + 2 * kk) rfl F₁ N₁ hr₁ (rng_size kk hk8).2 (rng_size kk hk8).1, by rw [rng_len]; lia, fun x hx => ?_, fun C x v hx ix => ?_, fun C x v hx ix => ?_, fun DD oD h₂ tk₂ F₂ N₂ off₂ dd₂ => ?_⟩
  · obtain ⟨i, rfl, h1, h2⟩ := rng_is hk8 hx
    exact fhB_at nx h2
  · obtain ⟨i, rfl, h1, h2⟩ := rng_is hk8 hx
    obtain ⟨t, ht⟩ := iF.get i _ (fig_get h2)
    exact (ev_item (l := FG) (k := (i : Int)) (vs := fv) (ev_cell (c := L + 1) rfl (fun h H => ⟨o1, H.2.1 (L + 1, o1) (by k_mem), d1⟩)) ((ev_own fun h H => H.2.2).mono fun v' e => e ▸ ix) (fun h H => ⟨_, H.2.1 (FG, lobj fv c1) (by k_mem), rfl, _, rfl⟩) (by lia) (by lia) (by rw [Int.toNat_natCast]; exact ht)).mono fun v e => ⟨t, e⟩
  · obtain ⟨i, rfl, h1, h2⟩ := rng_is hk8 hx
    have hp := par_lt nx (i := (i : Int)) (by lia)
    have e1 : nx[i]? = some (nx.getD i 0) := by
      rw [List.getD_eq_getElem?_getD, List.getElem?_eq_getElem (by lia)]
      rfl
    obtain ⟨u, hu⟩ := iN.get i _ e1
    obtain ⟨t, ht⟩ := iF.get (par nx (i : Int)).toNat _ (fig_get (by lia))
    rw [Int.toNat_of_nonneg hp.1] at ht
    exact (ev_item (l := FG) (k := par nx (i : Int)) (vs := fv) (ev_cell (c := L + 1) rfl (fun h H => ⟨o1, H.2.1 (L + 1, o1) (by k_mem), d1⟩)) (ev_mod (ev_mod (ev_floor ((ev_item (l := NM) (k := (i : Int)) (vs := nv) (ev_cell (c := L + 1 + 1) rfl (fun h H => ⟨o2, H.2.1 (L + 1 + 1, o2) (by k_mem), d2⟩)) ((ev_own fun h H => H.2.2).mono fun v' e => e ▸ ix) (fun h H => ⟨_, H.2.1 (NM, lobj nv c2) (by k_mem), rfl, _, rfl⟩) (by lia) (by lia) (by rw [Int.toNat_natCast]; exact hu)).mono fun v e => ⟨u, e⟩) ev_const (by decide) (np_small _).2.2.1) ev_const (by decide)) ((ev_own fun h H => H.2.2).mono fun v' e => e ▸ ix) (by lia)) (fun h H => ⟨_, H.2.1 (FG, lobj fv c1) (by k_mem), rfl, _, rfl⟩) hp.1 (by lia) ht).mono fun v e => ⟨t, e⟩
  clear off₂ F₁ N₁ hr₁
  walk_at "GO"
  show wpAny _ _ _ _ _ _
  refine taken_L (ox := othL nx kk) (fh := fhB nx) (dom := (rng kk).map figAt) rfl X T F₂ N₂ (n1 := c5) (ov := otv) (oh := oD) (by k_mem) (List.Mem.head _) iT (by rw [oth_len nx kk hk8]; lia) dd₂ (oth_dom nx hk8) (law_B (oth_nodup nx kk) (fhB_lt nx hk8)).1 fun DR h₃ tk₃ tv₃ dl₃ c₃ F₃ N₃ l₃ dp₃ off₃ offd => ?_
  clear F₂ N₂
  dsimp only [List.cons_append, List.nil_append] at N₃
  walk_at "GO"
  show wpAny _ _ _ _ _ _
  rename Fr _ _ _ _ => F₄
  rename News _ _ _ _ => N₄
  refine' ph_close (k := 17) ?ho' ?hr' ?h1' ?h2' ?_
  case ho' => k_is
  case hr' => rfl
  case h1' => rfl
  case h2' => rfl
  refine hC _ _ _ DR tv₃ c₃ dl₃ ⟨F₄, by walk_at "lkp", by walk_at "lkp", fun q hq => N₄ q ?_, ?_, fun q hq => ⟨fun e => offd q hq (L + 1 + 1 + 1 + 1, o4) (by k_mem) e.symm, fun e => offd q hq (L + 1 + 1 + 1 + 1 + 1, o5) (by k_mem) e.symm⟩, d1, d4, d5, iF, lN, hk8, iT, dp₃, l₃⟩
  · refine List.Sublist.subset ?_ hq
    walk_at "SUBL"
  · exact nd_off [(OT, lobj otv c5), (FG, lobj fv c1), (L + 1, o1), (L + 1 + 1 + 1 + 1, o4), (L + 1 + 1 + 1 + 1 + 1, o5), (90, tabObj p9), (130, tabObj p13)] off₃ (by walk_at "SUBL") (nd_sub nd (.cons_cons _ (.cons _ (.cons _ (.cons_cons _ (.cons_cons _ (.cons _ (.cons _ (List.Sublist.refl _)))))))))
end
end Mine
end
section
open PySem PySem.W PyProof.Rows PySem.Calls
namespace Mine
theorem updF_dl {c : Addr} {o : Obj} {post dl : List (Addr × Obj)} (pre : List (Addr × Obj)) (nd : ((pre ++ (c, o) :: post).map Prod.fst).Nodup) (off : ∀ q ∈ dl, q.1 ≠ c) : UpdF c o (pre ++ (c, o) :: (post ++ dl)) (fun o' => pre ++ (c, o') :: (post ++ dl)) := by
  induction pre with
  | nil =>
    refine .head fun q hq e => ?_
    rcases List.mem_append.mp hq with hq | hq
    · exact (List.nodup_cons.mp nd).1 (List.mem_map.mpr ⟨q, hq, e⟩)
    · exact off q hq e
  | cons a pre ih => exact .tail (fun e => (List.nodup_cons.mp nd).1 (List.mem_map.mpr ⟨(c, o), List.mem_append_right _ (List.mem_cons_self ..), e.symm⟩)) (ih (List.nodup_cons.mp nd).2)
abbrev tolL (nx : List Int) (kk : Nat) : List Int := (drwL nx kk).map fun p => p.2
def ixOf (f : Int) : Int := (figsL.idxOf f : Nat)
/-- after value -/
inductive LG (w : World) (base : Heap) (L : Addr) (h : Heap) (m : Str → Option Value) (OT DR TL VD : Addr) (otv tv tlv : List Value) (nx : List Int) (kk c5 c6 c7 : Nat) (oV o4 o5 : Obj) (p9 p13 : Array Value) (dl : List (Addr × Obj)) : Prop
  | mk (F_ : Fr base L h m) (m1_ : m "others" = some (.ref OT)) (m2_ : m "drawn" = some (.ref DR)) (N_ : News base L h ((VD, oV) :: (TL, lobj tlv c7) :: (DR, lobj tv c6) :: (OT, lobj otv c5) :: (L + 1 + 1 + 1 + 1, o4) :: (L + 1 + 1 + 1 + 1 + 1, o5) :: (90, tabObj p9) :: (130, tabObj p13) :: dl)) (d4_ : o4.data = .cell (some (.ref TL))) (d5_ : o5.data = .cell (some (.ref VD))) (lN_ : nx.length = 16) (hk_ : kk < 8) (iT_ : IntsAre otv (othL nx kk)) (iL_ : IntsAre tlv (tolL nx kk)) (dV_ : DIs w oV figsL ixOf 16) (dp_ : Deep dl tv (toldD (drwL nx kk))) (lT_ : tv.length = (othL nx kk).length) : LG w base L h m OT DR TL VD otv tv tlv nx kk c5 c6 c7 oV o4 o5 p9 p13 dl
section
local macro_rules | `(tactic| walk_at "execs cons") => `(tactic| (k_here; (with_reducible show wpAny _ _ (execs (Stmt.Assign _ _ { line := 141, .. } :: _) _) _ _ _); refine Halt.out ?_))
set_option maxHeartbeats 1000000 in
theorem phG {w : World} {base : Heap} {gd : Option (List Code)} {L : Addr} {m : Str → Option Value} {p : Program} {loose : List Str} {mean : ExcName → Option Value} {mg mb : Str → Option Value} {h : Heap} {gs : Array GenState} {dr : Drawn} {tk : Nat} {os : OsState} {E : Value → Shared → Prop} {Q : Flow → Shared → Prop}
  {FG OT DR : Addr} {fv otv tv : List Value} {nx : List Int} {kk c1 c5 c6 : Nat} {o1 o4 o5 : Obj} {p9 p13 : Array Value} {dl : List (Addr × Obj)}
  (X : Wld w base) (T : Top p loose mean mg mb base) (S : LF base L h m FG OT DR fv otv tv nx kk c1 c5 c6 o1 o4 o5 p9 p13 dl)
  (hC : ∀ h' m' tk' TL VD tlv c7 oV o4 o5, LG w base L h' m' OT DR TL VD otv tv tlv nx kk c5 c6 c7 oV o4 o5 p9 p13 dl → wpAny (model PR w) (AL w.params L gd) (execs ((wSt w.params).drop 19) (wEnv w.params L)) Q E ⟨h', gs, dr, tk', os⟩) :
  wpAny (model PR w) (AL w.params L gd) (execs ((wSt w.params).drop 17) (wEnv w.params L)) Q E ⟨h, gs, dr, tk, os⟩ := by
  have X' := X.kk
  obtain ⟨F, m1, m2, N, nd, off, d1, d4, d5, iF, lN, hk8, iT, dp, lT⟩ := S
  refine' ph_open ?ho ?h1 ?h2 ?_
  case ho => k_is
  case h1 => rfl
  case h2 => rfl
  dsimp only [List.drop]
  w_on
  try k_fold
  refine wpAny_execs_cons ?_
  refine PySem.wpAny_Assign_Name ?_ (by with_unfolding_all rfl)
  refine lp_eval rfl (by with_unfolding_all rfl) (by decide) (by rfl) (by decide) (by rfl) (by rfl) (by decide) ?_
  walk_at "GO"
  show LpAsk _ _ _ _ _ _ _ _ _ _ _
  obtain ⟨b1, b2, b3, b4⟩ := law_B (oth_nodup nx kk) (fhB_lt nx hk8)
  have lF : tv.length = (drwL nx kk).length := lT.trans b3.symm
  have lO := oth_len nx kk hk8
  refine ⟨base, L, _, _, DR, tv, c6, drwL nx kk, fun p => p.2, F, N, rfl, List.Mem.head _, pairs_of_deep dp lF (fun q hq => by repeat (first | exact hq | exact List.mem_append_left _ hq | exact List.mem_append_right _ hq | refine List.Mem.tail _ ?_)), by rw [lT, lO]; lia, fun C p hp => ?_, fun TL ys₂ h₂ tk₂ c₂ F₂ N₂ off₂ i₂ => ?_⟩
  · exact ev_ownP fun h H => let ⟨_, _, mC, a, ev, t, e1, e2, e3, e4, e5⟩ := H; ⟨mC, _, e1, e3, t, rfl⟩
  clear F N
  have nd₂ : List.Nodup [TL, DR, OT, FG, L + 1, L + 1 + 1 + 1 + 1, L + 1 + 1 + 1 + 1 + 1, 90, 130] := nd_off [(DR, lobj tv c6), (OT, lobj otv c5), (FG, lobj fv c1), (L + 1, o1), (L + 1 + 1 + 1 + 1, o4), (L + 1 + 1 + 1 + 1 + 1, o5), (90, tabObj p9), (130, tabObj p13)] (off1_mem off₂) (by walk_at "SUBL") nd
  clear off₂
  show wpAny _ _ (storeName _ _ _) _ _ _
  refine' storeX_C F₂ N₂ ?c (updF_dl (dl := dl) [(TL, lobj ys₂ c₂), (DR, lobj tv c6), (OT, lobj otv c5), (FG, lobj fv c1), (L + 1, o1)] (post := [(L + 1 + 1 + 1 + 1 + 1, o5), (90, tabObj p9), (130, tabObj p13)]) nd₂ (fun q hq => (off q hq).1)) d4 (fun h₃ o4' F₃ N₃ d4' => ?_) ?a ?b
  case c => rfl
  case a => rfl
  case b => rfl
  clear F₂ N₂
  dsimp only [List.cons_append, List.nil_append] at N₃
  refine wpAny_execs_cons ?_
  refine PySem.wpAny_Assign_Name ?_ (by with_unfolding_all rfl)
  refine dc_eval (by with_unfolding_all rfl) (by decide) (by rfl) (by decide) (by rfl) ?_
  walk_at "GO"
  show DcAsk _ _ _ _ _ _ _ _ _ _ _
  rename Fr _ _ _ _ => F₄
  rename News _ _ _ _ => N₄
  rename IsRange _ _ _ _ _ _ _ _ => hr₄
  refine ⟨base, L, _, _, r16, figAt, fun x => x, ixOf, F₄, N₄, iterInts_range (n := 16) rfl F₄ N₄ hr₄ (by decide) (by decide), by decide, fun x hx => ?_, fun C x v hx ix => ?_, fun C x v hx ix => ?_, fun VD oV h₅ tk₅ F₅ N₅ off₅ dd₅ => ?_⟩
  · obtain ⟨i, rfl, hi⟩ := r16_is hx
    show ((figsL.idxOf (figAt (i : Int)) : Nat) : Int) = (i : Int)
    rw [fig_idx i hi]
  · obtain ⟨i, rfl, hi⟩ := r16_is hx
    obtain ⟨t, ht⟩ := iF.get i _ (fig_get hi)
    exact (ev_item (l := FG) (k := (i : Int)) (vs := fv) (ev_cell (c := L + 1) rfl (fun h H => ⟨o1, H.2.1 (L + 1, o1) (by k_mem), d1⟩)) ((ev_own fun h H => H.2.2).mono fun v' e => e ▸ ix) (fun h H => ⟨_, H.2.1 (FG, lobj fv c1) (by k_mem), rfl, _, rfl⟩) (by lia) (by lia) (by rw [Int.toNat_natCast]; exact ht)).mono fun v e => ⟨t, e⟩
  · exact (ev_own fun h H => H.2.2).mono fun v' e => e ▸ ix
  rw [fig_map] at dd₅
  have nd₅ : List.Nodup [VD, TL, DR, OT, FG, L + 1, L + 1 + 1 + 1 + 1, L + 1 + 1 + 1 + 1 + 1, 90, 130] := nd_off [(TL, lobj ys₂ c₂), (DR, lobj tv c6), (OT, lobj otv c5), (FG, lobj fv c1), (L + 1, o1), (L + 1 + 1 + 1 + 1, o4'), (L + 1 + 1 + 1 + 1 + 1, o5), (90, tabObj p9), (130, tabObj p13)] (off1_mem off₅) (by walk_at "SUBL") nd₂
  clear off₅ F₄ N₄ hr₄
  show wpAny _ _ (storeName _ _ _) _ _ _
  refine' storeX_C F₅ N₅ ?c (updF_dl (dl := dl) [(VD, oV), (TL, lobj ys₂ c₂), (DR, lobj tv c6), (OT, lobj otv c5), (FG, lobj fv c1), (L + 1, o1), (L + 1 + 1 + 1 + 1, o4')] (post := [(90, tabObj p9), (130, tabObj p13)]) nd₅ (fun q hq => (off q hq).2)) d5 (fun h₆ o5' F₆ N₆ d5' => ?_) ?a ?b
  case c => rfl
  case a => rfl
  case b => rfl
  clear F₅ N₅
  dsimp only [List.cons_append, List.nil_append] at N₆
  dsimp only
  walk_at "GO"
  show wpAny _ _ _ _ _ _
  refine' ph_close (k := 19) ?ho' ?hr' ?h1' ?h2' ?_
  case ho' => k_is
  case hr' => rfl
  case h1' => rfl
  case h2' => rfl
  refine hC _ _ _ TL VD ys₂ c₂ oV o4' o5' ⟨F₆, by walk_at "lkp", by walk_at "lkp", fun q hq => N₆ q ?_, d4', d5', lN, hk8, iT, by assumption, dd₅, dp, lT⟩
  refine List.Sublist.subset ?_ hq
  walk_at "SUBL"
end
end Mine
end
section
open PySem PySem.W PyProof.Rows PySem.Calls
namespace Mine
local macro_rules | `(tactic| walk_at "pad") => `(tactic| skip)
local macro_rules | `(tactic| walk_at "pad") => `(tactic| skip)
theorem pick_init (vs : List Value) (h : 0 < vs.length) : slicePick vs.toArray none (some (-1)) none = (vs.take (vs.length - 1)).toArray := by
  have e : sliceBounds none (some (-1)) none vs.toArray.size = (((0 : Nat) : Int), ((vs.length - 1 : Nat) : Int), 1) := by
    simp only [sliceBounds, Option.getD_none, show (1 : Int) > 0 by decide, if_true, if_pos (show ((-1 : Int) < 0) by decide), List.size_toArray]
    congr 1
    congr 1
    lia
  rw [kmk_pick_nat _ e]
  simp
theorem pick_last (vs : List Value) (h : 0 < vs.length) : slicePick vs.toArray (some (-1)) none none = (vs.drop (vs.length - 1)).toArray := by
  have e : sliceBounds (some (-1)) none none vs.toArray.size = (((vs.length - 1 : Nat) : Int), ((vs.length : Nat) : Int), 1) := by
    simp only [sliceBounds, Option.getD_none, show (1 : Int) > 0 by decide, if_true, if_pos (show ((-1 : Int) < 0) by decide), List.size_toArray]
    congr 1
    lia
  rw [kmk_pick_nat _ e]
  simp only
  rw [List.take_of_length_le (by rw [List.length_drop]; exact Nat.le_refl _)]
section
variable {prog : Program} {w : World} {A : Around} {E : Value → Shared → Prop} {s : Shared} {h₀ : Heap} {L l : Addr} {m : Str → Option Value} {news : List (Addr × Obj)} {value slice : PySem.Expr} {vs : List Value} {n : Nat} {Q : Value → Shared → Prop}
theorem sl_init {t : Tok} (F : Fr h₀ L s.heap m) (N : News h₀ L s.heap news) (hm : (l, lobj vs n) ∈ news) (hz : vs.length ≤ 1000) (h0 : 0 < vs.length)
    (h : ∀ D h', Fr h₀ L h' m → News h₀ L h' ((D, lobj (vs.take (vs.length - 1)) 0) :: news) → (∀ p ∈ news, p.1 < D) → Q (.ref D) { s with heap := h' })
    (hs : subscripted slice false (.ref l) (.ref s.heap.objs.size) = operate [.ref s.heap.objs.size, .ref l] (getItem (.ref l) (.ref s.heap.objs.size))) (ht : ∀ r, letTemporaryGo value (.ref l) r = pure ()) :
    wpAny (model prog w) A (subscriptTail value slice (.ref l) (.ref s.heap.objs.size)) Q E { s with heap := s.heap.push { cls := .type "slice", data := .fields #[.none, .int (-1) t, .none] } } :=
  kmk_slice (lo := none) (hi := some (-1)) F N ⟨_, (N _ hm).1, rfl, _, rfl⟩ .none (.int _ _) (fun D h' F' N' lt => h D h' F' (by rw [pick_init _ h0] at N'; exact N') lt) hs ht (by rw [List.size_toArray, sizeLine_eq]; lia)
theorem sl_last {t : Tok} (F : Fr h₀ L s.heap m) (N : News h₀ L s.heap news) (hm : (l, lobj vs n) ∈ news) (hz : vs.length ≤ 1000) (h0 : 0 < vs.length)
    (h : ∀ D h', Fr h₀ L h' m → News h₀ L h' ((D, lobj (vs.drop (vs.length - 1)) 0) :: news) → (∀ p ∈ news, p.1 < D) → Q (.ref D) { s with heap := h' })
    (hs : subscripted slice false (.ref l) (.ref s.heap.objs.size) = operate [.ref s.heap.objs.size, .ref l] (getItem (.ref l) (.ref s.heap.objs.size))) (ht : ∀ r, letTemporaryGo value (.ref l) r = pure ()) :
    wpAny (model prog w) A (subscriptTail value slice (.ref l) (.ref s.heap.objs.size)) Q E { s with heap := s.heap.push { cls := .type "slice", data := .fields #[.int (-1) t, .none, .none] } } :=
  kmk_slice (lo := some (-1)) (hi := none) F N ⟨_, (N _ hm).1, rfl, _, rfl⟩ (.int _ _) .none (fun D h' F' N' lt => h D h' F' (by rw [pick_last _ h0] at N'; exact N') lt) hs ht (by rw [List.size_toArray, sizeLine_eq]; lia)
end
/-- where the pairs of what is told begin -/
def stp (kk : Nat) : List Int := (List.range kk).map fun i : Nat => 0 + (i : Int) * 2
theorem stp_is {kk : Nat} {x : Int} (h : x ∈ stp kk) : ∃ i : Nat, x = ((2 * i : Nat) : Int) ∧ i < kk := by
  unfold stp at h
  obtain ⟨i, hi, rfl⟩ := List.mem_map.mp h
  exact ⟨i, by lia, List.mem_range.mp hi⟩
theorem stp_len (kk : Nat) : (stp kk).length = kk := by unfold stp; simp
theorem stp_size : ∀ kk : Nat, kk < 8 → Builtin.Range.rangeSize 0 (((2 * kk + 1 : Nat) : Int) - 1) 2 = ((kk : Nat) : Int) ∧ Builtin.Range.small 0 (((2 * kk + 1 : Nat) : Int) - 1) 2 = true := by decide
def byt (tl : List Int) (x : Int) : Int := 16 * ixOf (tl.getD x.toNat 0) + ixOf (tl.getD (x + 1).toNat 0)
theorem ix_bound : ∀ f ∈ figsL, 0 ≤ ixOf f ∧ ixOf f < 16 ∧ fig (ixOf f) = f := by decide
theorem tol_len {nx : List Int} {kk : Nat} (hk : kk < 8) : (tolL nx kk).length = 2 * kk + 1 := by
  rw [List.length_map, (law_B (oth_nodup nx kk) (fhB_lt nx hk)).2.2.1, oth_len nx kk hk]
theorem figAt_mem : ∀ n : Nat, n < 16 → figAt (n : Int) ∈ figsL := by decide
theorem fhB_mem (nx : List Int) {kk : Nat} (hk : kk < 8) {x : Int} (hx : x ∈ othL nx kk) : fhB nx x ∈ figsL := by
  obtain ⟨z, hz, rfl⟩ := List.mem_map.mp (oth_dom nx hk x hx)
  obtain ⟨i, rfl, h4, h5⟩ := rng_is hk hz
  rw [fhB_at nx h5]
  have h6 := par_lt nx (i := (i : Int)) (by lia)
  have h7 := figAt_mem (par nx i).toNat (by lia)
  rwa [Int.toNat_of_nonneg h6.1] at h7
theorem tol_mem {nx : List Int} {kk : Nat} (hk : kk < 8) : ∀ f ∈ tolL nx kk, f ∈ figsL := fun f hf => by
  obtain ⟨p, hp, rfl⟩ := List.mem_map.mp hf
  obtain ⟨x, hx, e⟩ := (law_B (oth_nodup nx kk) (fhB_lt nx hk)).2.2.2 p hp
  rw [e]
  exact fhB_mem nx hk hx
theorem byt_in {tl : List Int} (hm : ∀ f ∈ tl, f ∈ figsL) {kk : Nat} (hl : tl.length = 2 * kk + 1) : KBa.In ((stp kk).map (byt tl)) := fun n hn => by
  obtain ⟨x, hx, rfl⟩ := List.mem_map.mp hn
  obtain ⟨i, rfl, hi⟩ := stp_is hx
  have g : ∀ j, j < tl.length → tl.getD j 0 ∈ figsL := fun j hj => hm _ (by rw [List.getD_eq_getElem?_getD, List.getElem?_eq_getElem hj]; exact List.getElem_mem _)
  have h1 := ix_bound _ (g (((2 * i : Nat) : Int)).toNat (by lia))
  have h2 := ix_bound _ (g (((2 * i : Nat) : Int) + 1).toNat (by lia))
  unfold byt
  lia
theorem byt_writ : ∀ (n : Nat) (tl : List Int), tl.length = 2 * n + 1 → (∀ f ∈ tl, f ∈ figsL) → writ ((List.range n).map fun i => 16 * ixOf (tl.getD (2 * i) 0) + ixOf (tl.getD (2 * i + 1) 0)) = tl.take (2 * n)
  | 0, tl, _, _ => by simp [writ]
  | n + 1, a :: b :: r, hl, hm => by
    have h1 := ix_bound a (hm a (by simp))
    have h2 := ix_bound b (hm b (by simp))
    have IH := byt_writ n r (by simp at hl; lia) fun f hf => hm f (by simp [hf])
    rw [List.range_succ_eq_map, List.map_cons, List.map_map]
    unfold writ at IH ⊢
    rw [List.flatMap_cons]
    have e1 : (16 * ixOf a + ixOf b).fdiv 16 = ixOf a := by rw [Int.fdiv_eq_ediv_of_nonneg _ (by decide)]; lia
    have e2 : (16 * ixOf a + ixOf b).fmod 16 = ixOf b := by rw [Int.fmod_eq_emod_of_nonneg _ (by decide)]; lia
    have e3 : (a :: b :: r).getD (2 * 0) 0 = a := rfl
    have e4 : (a :: b :: r).getD (2 * 0 + 1) 0 = b := rfl
    rw [e3, e4, e1, e2, h1.2.2, h2.2.2]
    show [a, b] ++ _ = _
    rw [show 2 * (n + 1) = 2 * n + 2 by lia, List.take_succ_cons, List.take_succ_cons, ← IH]
    rfl
  | n + 1, [a], hl, _ => by simp at hl
  | n + 1, [], hl, _ => by simp at hl
theorem again_is {tl : List Int} (hm : ∀ f ∈ tl, f ∈ figsL) {kk : Nat} (hl : tl.length = 2 * kk + 1) : writ ((stp kk).map (byt tl)) = tl.take (2 * kk) := by
  rw [← byt_writ kk tl hl hm]
  unfold stp
  rw [List.map_map]
  congr 1
  refine List.map_congr_left fun i _ => ?_
  show byt tl (0 + (i : Int) * 2) = _
  unfold byt
  rw [show (0 + (i : Int) * 2).toNat = 2 * i by lia, show (0 + (i : Int) * 2 + 1).toNat = 2 * i + 1 by lia]
section
set_option maxHeartbeats 1000000 in
theorem phH {w : World} {base : Heap} {gd : Option (List Code)} {L : Addr} {m : Str → Option Value} {p : Program} {loose : List Str} {mean : ExcName → Option Value} {mg mb : Str → Option Value} {h : Heap} {gs : Array GenState} {dr : Drawn} {tk : Nat} {os : OsState} {E : Value → Shared → Prop} {Q : Flow → Shared → Prop}
  {OT DR TL VD : Addr} {otv tv tlv : List Value} {nx : List Int} {kk c5 c6 c7 : Nat} {oV o4 o5 : Obj} {p9 p13 : Array Value} {dl : List (Addr × Obj)}
  (X : Wld w base) (T : Top p loose mean mg mb base) (S : LG w base L h m OT DR TL VD otv tv tlv nx kk c5 c6 c7 oV o4 o5 p9 p13 dl)
  (hC : ∀ h' m' tk', Fr base L h' m' → GrownAt 90 h' → GrownAt 130 h' → Q (.ret (.bool true)) ⟨h', gs, dr, tk', os⟩) :
  wpAny (model PR w) (AL w.params L gd) (execs ((wSt w.params).drop 19) (wEnv w.params L)) Q E ⟨h, gs, dr, tk, os⟩ := by
  have X' := X.kk
  obtain ⟨F, m1, m2, N, d4, d5, lN, hk8, iT, iL, dV, dp, lT⟩ := S
  refine' ph_open ?ho ?h1 ?h2 ?_
  case ho => k_is
  case h1 => rfl
  case h2 => rfl
  dsimp only [List.drop]
  w_on
  try k_fold
  k_steps
  show wpAny _ _ _ _ _ _
  refine lc_eval (by with_unfolding_all rfl) (by decide) (by rfl) (by decide) (by rfl) ?_
  walk_at "GO"
  show wpAny _ _ _ _ _ _
  have lTL : tlv.length = 2 * kk + 1 := by rw [iL.length, tol_len hk8]
  refine KM.len_K (n := 2 * kk + 1) (D := TL) (its := tlv.toArray) (c := c7) N (by k_mem) (by rw [List.size_toArray, lTL]) (by lia) ?_
  walk_at "GO"
  show LcAsk _ _ _ _ _ _ _ _ _ _ _
  rename Fr _ _ _ _ => F₁
  rename News _ _ _ _ => N₁
  rename IsRange _ _ _ _ _ _ _ _ => hr₁
  have dV' := dV
  obtain ⟨vkv, vk1, _, vk3⟩ := dV'
  have lT' := tol_len (nx := nx) hk8
  have tm := tol_mem (nx := nx) hk8
  have tget : ∀ j, j < 2 * kk + 1 → ∃ t u, tlv[j]? = some (.int ((tolL nx kk).getD j 0) t) ∧ valueAt vkv ((tolL nx kk).getD j 0) = some (.int (ixOf ((tolL nx kk).getD j 0)) u) := fun j hj => by
    have e1 : (tolL nx kk)[j]? = some ((tolL nx kk).getD j 0) := by
      rw [List.getD_eq_getElem?_getD, List.getElem?_eq_getElem (by lia)]
      rfl
    obtain ⟨t, ht⟩ := iL.get j _ e1
    obtain ⟨u, hu⟩ := vk3 _ (tm _ (List.mem_of_getElem? e1))
    exact ⟨t, u, ht, hu⟩
  refine ⟨base, L, _, _, stp kk, fun _ => true, byt (tolL nx kk), F₁, N₁, iterInts_range (n := kk) rfl F₁ N₁ hr₁ (stp_size kk hk8).2 (stp_size kk hk8).1, by rw [stp_len]; lia, fun C x v hx ix => evt_nil, fun C x v hx ix _ => ?_, fun BL blv h₂ tk₂ c₂ N₂ off₂ i₂ F₂ => ?_⟩
  · obtain ⟨i, rfl, hi⟩ := stp_is hx
    obtain ⟨t1, u1, a1, b1⟩ := tget (((2 * i : Nat) : Int)).toNat (by lia)
    obtain ⟨t2, u2, a2, b2⟩ := tget (((2 * i : Nat) : Int) + 1).toNat (by lia)
    exact ev_add (ev_mul ev_const ((ev_key (d := VD) (kvs := vkv) (ev_cell (c := L + 1 + 1 + 1 + 1 + 1) rfl (fun h H => ⟨o5, H.2.1 (L + 1 + 1 + 1 + 1 + 1, o5) (by k_mem), d5⟩)) ((ev_item (l := TL) (k := ((2 * i : Nat) : Int)) (vs := tlv) (ev_cell (c := L + 1 + 1 + 1 + 1) rfl (fun h H => ⟨o4, H.2.1 (L + 1 + 1 + 1 + 1, o4) (by k_mem), d4⟩)) ((ev_own fun h H => H.2.2).mono fun v' e => e ▸ ix) (fun h H => ⟨_, H.2.1 (TL, lobj tlv c7) (by k_mem), rfl, _, rfl⟩) (by lia) (by lia) a1).mono fun v e => ⟨t1, e⟩) (fun h H => Heap.dictOf_iff.mpr ⟨oV, H.2.1 (VD, oV) (by k_mem), vk1⟩) b1).mono fun v e => ⟨u1, e⟩) (.of_left (by decide)))
      ((ev_key (d := VD) (kvs := vkv) (ev_cell (c := L + 1 + 1 + 1 + 1 + 1) rfl (fun h H => ⟨o5, H.2.1 (L + 1 + 1 + 1 + 1 + 1, o5) (by k_mem), d5⟩)) ((ev_item (l := TL) (k := ((2 * i : Nat) : Int) + 1) (vs := tlv) (ev_cell (c := L + 1 + 1 + 1 + 1) rfl (fun h H => ⟨o4, H.2.1 (L + 1 + 1 + 1 + 1, o4) (by k_mem), d4⟩)) (ev_add ((ev_own fun h H => H.2.2).mono fun v' e => e ▸ ix) ev_const) (fun h H => ⟨_, H.2.1 (TL, lobj tlv c7) (by k_mem), rfl, _, rfl⟩) (by lia) (by lia) a2).mono fun v e => ⟨t2, e⟩) (fun h H => Heap.dictOf_iff.mpr ⟨oV, H.2.1 (VD, oV) (by k_mem), vk1⟩) b2).mono fun v e => ⟨u2, e⟩)
  clear off₂ F₁ N₁ hr₁
  rw [List.filter_eq_self.mpr fun _ _ => rfl] at i₂
  walk_at "GO"
  show wpAny _ _ _ _ _ _
  have inB := byt_in tm lT'
  have lB : ((stp kk).map (byt (tolL nx kk))).length = kk := by rw [List.length_map, stp_len]
  refine' KBa.make_K F₂ N₂ rfl ⟨_, (N₂ (BL, lobj blv c₂) (List.Mem.head _)).1, rfl, _, rfl⟩ i₂ inB ?hn fun h₃ t₃ tk₃ F₃ N₃ in₃ => ?_
  case hn => rw [lB]; lia
  clear F₂ N₂ in₃
  walk_at "GO"
  show wpAny _ _ _ _ _ _
  rename Fr _ _ _ _ => F₃
  rename News _ _ _ _ => N₃
  refine b16_L rfl X T F₃ N₃ (by rw [byteArr_size, lB]; lia) fun h₄ tk₄ t₄ F₄ N₄ => ?_
  clear F₃ N₃
  walk_at "GO"
  show wpAny _ _ _ _ _ _
  rename Fr _ _ _ _ => F₄
  rename News _ _ _ _ => N₄
  refine' list_bytes_N F₄ N₄ ?hh _ _ (fun AG agv c₅ h₅ tk₅ F₅ N₅ lt₅ iA => ?_) ?hz
  case hh => rfl
  case hz => rw [upB_size, Array.size_map, hex_codes_size, byteArr_size, lB]; lia
  rw [hex_row inB] at iA
  have iA' : IntsAre agv ((tolL nx kk).take (2 * kk)) := by rw [← again_is tm lT']; exact iA
  clear lt₅ F₄ N₄ iA
  walk_at "GO"
  show wpAny _ _ _ _ _ _
  rename Fr _ _ _ _ => F₆
  rename News _ _ _ _ => N₆
  refine sl_init (s := ⟨_, gs, dr, _, os⟩) (l := TL) (vs := tlv) (n := c7) F₆ N₆ (by k_mem) (by lia) (by lia) (fun D₇ h₇ F₇ N₇ lt₇ => ?_) (by with_unfolding_all rfl) (by intro _; with_unfolding_all rfl)
  have i₇ : IntsAre (tlv.take (tlv.length - 1)) ((tolL nx kk).take (2 * kk)) := by
    have := iL.take (tlv.length - 1)
    rwa [show tlv.length - 1 = 2 * kk by lia] at this ⊢
  clear lt₇ F₆ N₆
  walk_at "GO"
  show wpAny _ _ _ _ _ _
  refine ke_eq_ints (xs := agv) (ys := tlv.take (tlv.length - 1)) ⟨_, (N₇ (AG, lobj agv c₅) (by k_mem)).1, rfl, _, rfl⟩ ⟨_, (N₇ (D₇, _) (List.Mem.head _)).1, rfl, _, rfl⟩ iA' i₇ (Nat.le_of_ble_eq_true rfl) ?_
  rw [decide_eq_true rfl]
  walk_at "GO"
  show wpAny _ _ _ _ _ _
  refine sl_last (s := ⟨_, gs, dr, _, os⟩) (l := TL) (vs := tlv) (n := c7) F₇ N₇ (by k_mem) (by lia) (by lia) (fun D₈ h₈ F₈ N₈ lt₈ => ?_) (by with_unfolding_all rfl) (by intro _; with_unfolding_all rfl)
  have i₈ : IntsAre (tlv.drop (tlv.length - 1)) ((tolL nx kk).drop (2 * kk)) := by
    have := iL.drop (tlv.length - 1)
    rwa [show tlv.length - 1 = 2 * kk by lia] at this ⊢
  clear lt₈ F₇ N₇
  walk_at "GO"
  show wpAny _ _ _ _ _ _
  rename Fr _ _ _ _ => F₉
  rename News _ _ _ _ => N₉
  rename IntsAre _ (List.take (2 * kk) (tolL nx kk) ++ List.drop (2 * kk) (tolL nx kk)) => i₉
  rw [List.take_append_drop] at i₉
  have eB : forestOf (othL nx kk) (tolL nx kk) = drwL nx kk := (law_B (oth_nodup nx kk) (fhB_lt nx hk8)).2.1
  refine forest_L (ox := othL nx kk) (wx := tolL nx kk) rfl X T F₉ N₉ (n1 := c5) (ov := otv) (by k_mem) (List.Mem.head _) iT i₉ (by rw [oth_len nx kk hk8]; lia) (by rw [lT']; lia) (by intro e; rw [e] at lT'; cases lT') fun FR h₁₀ tk₁₀ frv dl₁₀ c₁₀ F₁₀ N₁₀ l₁₀ dp₁₀ off₁₀ offd => ?_
  rw [eB] at dp₁₀
  clear off₁₀ offd F₉ N₉
  dsimp only [List.cons_append, List.nil_append] at N₁₀
  walk_at "GO"
  show wpAny _ _ _ _ _ _
  refine deep_eq (a := FR) (b := DR) (tv := frv) (tv' := tv) (c := c₁₀) (c' := c6) N₁₀ (by k_mem) (by k_mem) dp₁₀ dp (fun q hq => by repeat (first | exact hq | exact List.mem_append_left _ hq | exact List.mem_append_right _ hq | refine List.Mem.tail _ ?_)) (fun q hq => by repeat (first | exact hq | exact List.mem_append_left _ hq | exact List.mem_append_right _ hq | refine List.Mem.tail _ ?_)) (Nat.le_of_ble_eq_true rfl) ?_
  exact hC _ _ _ F₁₀ ⟨p9, (N₁₀ (90, tabObj p9) (by k_mem)).1⟩ ⟨p13, (N₁₀ (130, tabObj p13) (by k_mem)).1⟩
end
end Mine
end
section
open PySem PySem.W PyProof.Rows PySem.Calls
namespace Mine
theorem law_walk {w : World} {base : Heap} {gd : Option (List Code)} {L : Addr} {m : Str → Option Value} {p : Program} {loose : List Str} {mean : ExcName → Option Value} {mg mb : Str → Option Value} {h : Heap} {gs : Array GenState} {dr : Drawn} {tk : Nat} {os : OsState} {E : Value → Shared → Prop} {Q : Flow → Shared → Prop}
  {o1 o2 o3 o4 o5 o6 : Obj} {script : Addr} {sv : List Value} {sx : List Int}
  (X : Wld w base) (T : Top p loose mean mg mb base) (F : Fr base L h m) (hms : m "script" = some (.ref script))
  (N : News base L h [(L + 1 + 1 + 1 + 1 + 1 + 1, o6), (L + 1 + 1 + 1 + 1 + 1, o5), (L + 1 + 1 + 1 + 1, o4), (L + 1 + 1 + 1, o3), (L + 1 + 1, o2), (L + 1, o1), (90, tabObj #[]), (130, tabObj #[])])
  (d1 : o1.data = .cell none) (d2 : o2.data = .cell none) (d3 : o3.data = .cell none) (d4 : o4.data = .cell none) (d5 : o5.data = .cell none) (d6 : o6.data = .cell none)
  (lt : 90 < L ∧ 130 < L) (hS : base.IsList script sv.toArray) (hI : IntsAre sv sx) (hl : sx.length ≤ 100)
  (hQ : ∀ h' m' tk', Fr base L h' m' → GrownAt 90 h' → GrownAt 130 h' → Q (.ret (.bool true)) ⟨h', gs, dr, tk', os⟩) :
  wpAny (model PR w) (AL w.params L gd) (execs ((wSt w.params).drop 0) (wEnv w.params L)) Q E ⟨h, gs, dr, tk, os⟩ := by
  refine phA X T F hms (o1 := o1) (o2 := o2) (o3 := o3) (o4 := o4) (o5 := o5) (o6 := o6) (fun q hq => N q ?_) d1 d2 d3 d4 d5 d6 ?_ hS hI hl ?_
  · simp only [List.mem_cons, List.not_mem_nil, or_false] at hq ⊢
    rcases hq with h | h | h | h | h | h | h | h <;> simp [h]
  · have l1 : (90 : Nat) < L := lt.1
    have l2 : (130 : Nat) < L := lt.2
    have key : ∀ l : Nat, 90 < l → 130 < l → List.Nodup [l + 1, l + 1 + 1, l + 1 + 1 + 1, l + 1 + 1 + 1 + 1, l + 1 + 1 + 1 + 1 + 1, l + 1 + 1 + 1 + 1 + 1 + 1, 90, 130] := fun l a b => by
      simp only [List.nodup_cons, List.mem_cons, List.not_mem_nil, or_false, not_or, List.nodup_nil, and_true, not_false_eq_true]
      omega
    exact key L l1 l2
  intro h' m' tk' FG NM OC RT fv nv ov rv nx tot kk c1 c2 o1 o2 o3 SA
  refine phB X T SA fun h' m' tk' RK OD odv c3 oR o6 p9 p13 SB => ?_
  refine phC X T SB fun h' m' tk' WR wv c4 SC => ?_
  refine phD X T SC fun h' m' tk' OT RW FO otv rwv tv c5 c6 c7 dl SD => ?_
  refine phE X T SD fun h' m' tk' SE => ?_
  refine phF X T SE fun h' m' tk' DR tv c6 dl SF => ?_
  refine phG X T SF fun h' m' tk' TL VD tlv c7 oV o4 o5 SG => ?_
  exact phH X T SG fun h' m' tk' FE g9 g13 => hQ h' m' tk' FE g9 g13
end Mine
end
section
open PySem PySem.W PyProof.Rows PySem.Calls
namespace Mine
local macro_rules | `(tactic| walk_at "pad") => `(tactic| skip)
set_option maxHeartbeats 8000000 in
theorem law_holds : PySem.Challenge.rw_kt0003_01.Holds := by
  refine hk ?_
  intro w s₀ s₁ mg mb G Y fa o pm cd doc dV kV ho hd hcd hD hmg hg args vals as hpre hlay hrd hwl hlo
  have KX := km_in_of Y
  km_tabs Y
  clear Y
  have W0 : Wld w s₁.heap := ⟨KX⟩
  have X := (Ground.X G).1
  have V := (Ground.X G).2
  refine Ground.open G ?_
  intro T B D TE TW
  try (refine guard_noD D (by decide +kernel) ?_; clear D)
  km_lay T hmg ho hd cd
  x_fa T KX hmg
  wrow_args hpre hlay hrd hwl hlo
  all_goals (
    first | refine callC_kw (enter_call ?_) | refine enter_call ?_
    w_top on
    kn_posts
    w_call any ho hd hcd hD T F
    clear hd
    kn_ghosts F T
    k_drop)
  rename Below _ _ _ _ => BB
  rename News _ _ _ _ => N0
  rename Top _ _ _ _ _ (ghostOf _ _) => T0
  rename Fr _ _ _ _ => F0
  rename Heap.IsList (ghostOf _ _) _ _ => S0
  rename IntsAre _ _ => I0
  rename ¬ (_ : Int) < _ => C0
  rename (90 < _ ∧ 130 < _) => LT0
  rename Frag.In _ (ghostOf _ _) => XG
  have WG : Wld w (ghostOf s₁.heap [(94, 90), (132, 130)]) := ⟨XG⟩
  refine wp_lift (outer := [_]) (d := 701) (u := 7003) rfl rfl (Nat.le_of_ble_eq_true rfl) (Nat.le_of_ble_eq_true rfl) ?_
  refine' ph_close (k := 0) (L := s₁.heap.objs.size) (gd := some []) ?ho' ?hr' ?h1' ?h2' ?_
  case ho' => k_is
  case hr' => rfl
  case h1' => rfl
  case h2' => rfl
  refine' law_walk WG T0 F0 ?hms N0 ?d1 ?d2 ?d3 ?d4 ?d5 ?d6 LT0 S0 I0 ?hl (fun h' m' tk' FE g9 g13 => ?hB)
  case hms => rfl
  case hl => omega
  case d1 => assumption
  case d2 => assumption
  case d3 => assumption
  case d4 => assumption
  case d5 => assumption
  case d6 => assumption
  case hB => exact ⟨goodW_bool FE hg (fun cls => rfl) (by kernel_rfl) rfl, g9, g13, trivial⟩
end Mine
end
end
end
end
end
theorem PySem.Challenge.cw_kt0003_01_holds : PySem.Challenge.rw_kt0003_01.Holds := by
  exact Mine.law_holds
