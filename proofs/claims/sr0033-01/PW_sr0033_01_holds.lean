import PyProof.Rows.All
import Wide.All
import OpenK.AllK
import Wide.FinOn
import KE.KLcPair
import KE.KTurns
import PyProof.StrWalks
import PyProof.FactsAll.list_4
import PyProof.ListOps
import Lean
import PySem.Challenge.RW_sr0033_01
set_option Elab.async false
set_option linter.all false

section
open PySem PySem.W PyProof.Rows
set_option maxRecDepth 100000
set_option maxHeartbeats 8000000
set_option linter.all false
namespace Mine
theorem apart {T U G : Prop} (hl : T) (hc : U) (k : G) : G := k
/-- the head: the goals hl and hc of the kit's refine are taken by ours of the same name, so that hl is one look of the kernel -/
noncomputable def lawTop := fun h => (by
  w_on
  o_law
  apply apart
  case k =>
    k_head
    (case hw => w_witness2)
  case hc => exact h
  case hl =>
    intro w
    kernel_rfl
  : PySem.Challenge.rw_sr0033_01.Holds)
end Mine
end

example (P : PySem.Params) (h : PySem.Challenge.rw_sr0033_01.name = PySem.Str.ofString "x" → Mine.lawTop.heap_39 P = []) : PySem.Challenge.rw_sr0033_01.name = PySem.Str.ofString "x" → Mine.lawTop.heap_39 P = [] := by open PySem.W in k_fill; exact h

section
open PySem PySem.W PyProof.Rows PySem.Calls
local macro_rules | `(tactic| walk_at $s:str) => `(tactic| k_extra $s)
local macro_rules | `(tactic| k_mem) => `(tactic| k_extra "m_mem")
local macro_rules | `(tactic| k_ne) => `(tactic| k_extra "m_ne")
local macro_rules | `(tactic| k_updF) => `(tactic| k_extra "m_updF")
local macro_rules | `(tactic| k_upd) => `(tactic| k_extra "m_upd")
local macro_rules | `(tactic| k_lt $h:ident) => `(tactic| (revert $h:ident; k_extra "m_lt"))
local macro_rules | `(tactic| ktr_rel) => `(tactic| k_extra "m_rel")
local macro_rules | `(tactic| k_in) => `(tactic| k_extra "m_in")

section
open PySem PySem.W PyProof.Rows PySem.Calls
set_option maxRecDepth 100000
namespace Mine
example : True := by
  w_top off
  k_with_none
  trivial
example : True := by first | walk1 | trivial
/-- the surroundings of a call that raises nothing: how deep, how many C units -/
abbrev AC (d u : Nat) : Around := { handled := none, depth := d, frames := none, guards := none, units := u }

theorem in_ac {Γ : Ctx} {A : Around} {d u : Nat} (hh : A.handled = none) (hd : A.depth ≤ d) (hu : A.units ≤ u) (h : Γ.In A) : Γ.In (AC d u) :=
  ⟨h.1.trans hh, Nat.le_trans h.2.1 hd, fun _ e => (nomatch (e : (none : Option (List Env)) = some _)), fun _ e => (nomatch (e : (none : Option (List Code)) = some _)), Nat.le_trans h.2.2.2.2 hu⟩
theorem weaken {α : Type} {M : Model} {A : Around} {d u : Nat} {t : Sem α} {Q : α → Shared → Prop} {E : Value → Shared → Prop} {s : Shared}
    (h : wpAny M (AC d u) t Q E s) (hh : A.handled = none) (hd : A.depth ≤ d) (hu : A.units ≤ u) : wpAny M A t Q E s :=
  fun Γ p hΓ => h Γ p (in_ac hh hd hu hΓ)

theorem weakenC {M : Model} {A : Around} {d u : Nat} {c : Code} {R : Result → Shared → Prop} {s : Shared}
    (h : codeAny M (AC d u) c R s) (hh : A.handled = none) (hd : A.depth ≤ d) (hu : A.units ≤ u) : codeAny M A c R s :=
  fun Γ p hc hΓ => h Γ p hc ⟨hΓ.1.trans hh, Nat.le_trans hΓ.2.1 hd, fun _ e => (nomatch (e : (none : Option (List Env)) = some _)), fun _ e => (nomatch (e : (none : Option (List Code)) = some _)), Nat.le_trans hΓ.2.2.2.2 hu⟩

/-- all of h but what stands at the places in ms stands in h' -/
def Keeps (h h' : Heap) (ms : List Addr) : Prop := ∀ b o, h.get? b = some o → b ∉ ms → h'.get? b = some o
theorem Keeps.refl (h : Heap) (ms : List Addr) : Keeps h h ms := fun _ _ e _ => e
theorem Keeps.trans {h h' h'' : Heap} {ms : List Addr} (a : Keeps h h' ms) (b : Keeps h' h'' ms) : Keeps h h'' ms := fun x o e n => b x o (a x o e n) n
theorem Keeps.more {h h' : Heap} {ms ms' : List Addr} (a : Keeps h h' ms) (i : ∀ x ∈ ms, x ∈ ms') : Keeps h h' ms' := fun x o e n => a x o e fun m => n (i x m)

structure Wd (w : World) (h₀ : Heap) : Prop where
  K : (lawTop.heap_39 w.params).In h₀
  T : ∃ p loose mean mg mb, Top p loose mean mg mb h₀

def ExitP (Q : Value → Shared → Prop) (v : Value) (s' : Shared) : Prop := Q v s'

section
variable {prog : Program} {w : World} {A : Around} {E : Value → Shared → Prop} {s : Shared} {h₀ : Heap} {news : List (Addr × Obj)}
  {Q : Value → Shared → Prop} {name qual : Str} {params : Arguments} {body : List Stmt} {scope : Scope} {dV kV doc pm cdv ct oc : Value} {an od : Option Addr} {osl : Array (Option Value)} {f : Addr} {args : Args} {binds : List (Str × Value)}

theorem enterP_C {R : Result → Shared → Prop} (W : Wd w h₀) (st : h₀.StaysIn s.heap) (hn : ∀ p ∈ news, s.heap.get? p.1 = some p.2 ∧ h₀.get? p.1 = none)
    (ho : (lawTop.heap_39 w.params).lookup f = some ⟨oc, od, .func (fnOf name qual params body scope dV kV doc pm an cdv ct), osl⟩) (hcd : codeIn (lawTop.heap_39 w.params) cdv qual = true) (hroom : A.depth < recursionLimit)
    (hbind : BindsTo s (fnOf name qual params body scope dV kV doc pm an cdv ct) args binds) (hloc : ∀ y ∈ binds, scope.names.lookup y.1 = some .local)
    (h : ∀ g h₁ tk p loose mean mg mb, Fr g s.heap.objs.size h₁ (fun y => binds.reverse.lookup y) → News g s.heap.objs.size h₁ news → (lawTop.heap_39 w.params).In g → Top p loose mean mg mb g →
      (∀ b o, s.heap.get? b = some o → b ∉ news.map (·.1) → g.get? b = some o) → (∀ p ∈ news, p.1 < s.heap.objs.size) → (∀ b o, h₀.get? b = some o → g.get? b = some o) →
      wpAny (model prog w) (A.deeper (envOf qual scope s.heap.objs.size f cdv)) (execs body (envOf qual scope s.heap.objs.size f cdv))
        (fun fl s' => ExitP (fun v s' => R (.ok (.ret v)) s') (match fl with | .ret v => v | _ => .none) s') (fun _ _ => False)
        { s with heap := h₁, toks := tk })
    (hco : scope.isCoroutine = false) (hgen : scope.isGenerator = false) (hk : scope.kind = .function)
    (hcell : ∀ x ∈ scope.names, x.2 ≠ .cell) : codeAny (model prog w) A (.call (.ref f) args) R s := by
  obtain ⟨p, loose, mean, mg, mb, T⟩ := W.T
  have X := W.K.keeps st
  refine codeAny_call_def (fd := fnOf name qual params body scope dV kV doc pm an cdv ct) (body := body) (binds := binds) hroom (X _ _ ho) rfl (T.nolimit.keeps st) (codeRec_of X hcd) rfl hbind hcell hloc (fun h₁ hns hk₁ => ?_) hco hgen hk
  have nm : ∀ b o, h₀.get? b = some o → b ∉ news.map (·.1) := fun b o e q => by
    obtain ⟨p, hp, rfl⟩ := List.mem_map.mp q
    rw [(hn p hp).2] at e; cases e
  have stg : ∀ b o, h₀.get? b = some o → (hideAll s.heap (news.map (·.1))).get? b = some o := fun b o e => hideAll_get _ (st b o e) (nm b o e)
  refine wpAny_mono (h (hideAll s.heap (news.map (·.1))) h₁ (s.toks + binds.length) p loose mean mg mb ⟨hns, fun b o e => hk₁ b o (of_hideAll _ e), Nat.le_of_eq (hideAll_size _ _)⟩
    (fun p hp => ⟨hk₁ _ _ (hn p hp).1, Nat.ne_of_lt (Heap.lt_size (hn p hp).1), hideAll_none _ (List.mem_map_of_mem hp)⟩) (W.K.keeps stg) (T.keeps stg) (fun b o e n => hideAll_get _ e n)
    (fun p hp => Heap.lt_size (hn p hp).1) stg) (fun fl s' hl => hl) (fun _ _ y => y.elim)
theorem enterP (W : Wd w h₀) (st : h₀.StaysIn s.heap) (hn : ∀ p ∈ news, s.heap.get? p.1 = some p.2 ∧ h₀.get? p.1 = none)
    (ho : (lawTop.heap_39 w.params).lookup f = some ⟨oc, od, .func (fnOf name qual params body scope dV kV doc pm an cdv ct), osl⟩) (hcd : codeIn (lawTop.heap_39 w.params) cdv qual = true) (hroom : A.depth < recursionLimit)
    (hbind : BindsTo s (fnOf name qual params body scope dV kV doc pm an cdv ct) args binds) (hloc : ∀ y ∈ binds, scope.names.lookup y.1 = some .local)
    (h : ∀ g h₁ tk p loose mean mg mb, Fr g s.heap.objs.size h₁ (fun y => binds.reverse.lookup y) → News g s.heap.objs.size h₁ news → (lawTop.heap_39 w.params).In g → Top p loose mean mg mb g →
      (∀ b o, s.heap.get? b = some o → b ∉ news.map (·.1) → g.get? b = some o) → (∀ p ∈ news, p.1 < s.heap.objs.size) → (∀ b o, h₀.get? b = some o → g.get? b = some o) →
      wpAny (model prog w) (A.deeper (envOf qual scope s.heap.objs.size f cdv)) (execs body (envOf qual scope s.heap.objs.size f cdv))
        (fun fl s' => ExitP Q (match fl with | .ret v => v | _ => .none) s') (fun _ _ => False)
        { s with heap := h₁, toks := tk })
    (hco : scope.isCoroutine = false) (hgen : scope.isGenerator = false) (hk : scope.kind = .function)
    (hcell : ∀ x ∈ scope.names, x.2 ≠ .cell) : wpAny (model prog w) A (call (.ref f) args.pos args.kw) Q E s := by
  obtain ⟨p, loose, mean, mg, mb, T⟩ := W.T
  have X := W.K.keeps st
  refine wpAny_call ?_
  refine codeAny_call_def (fd := fnOf name qual params body scope dV kV doc pm an cdv ct) (body := body) (binds := binds) hroom (X _ _ ho) rfl (T.nolimit.keeps st) (codeRec_of X hcd) rfl hbind hcell hloc (fun h₁ hns hk₁ => ?_) hco hgen hk
  have nm : ∀ b o, h₀.get? b = some o → b ∉ news.map (·.1) := fun b o e q => by
    obtain ⟨p, hp, rfl⟩ := List.mem_map.mp q
    rw [(hn p hp).2] at e; cases e
  have stg : ∀ b o, h₀.get? b = some o → (hideAll s.heap (news.map (·.1))).get? b = some o := fun b o e => hideAll_get _ (st b o e) (nm b o e)
  refine wpAny_mono (h (hideAll s.heap (news.map (·.1))) h₁ (s.toks + binds.length) p loose mean mg mb ⟨hns, fun b o e => hk₁ b o (of_hideAll _ e), Nat.le_of_eq (hideAll_size _ _)⟩
    (fun p hp => ⟨hk₁ _ _ (hn p hp).1, Nat.ne_of_lt (Heap.lt_size (hn p hp).1), hideAll_none _ (List.mem_map_of_mem hp)⟩) (W.K.keeps stg) (T.keeps stg) (fun b o e n => hideAll_get _ e n)
    (fun p hp => Heap.lt_size (hn p hp).1) stg) (fun fl s' hl => hl) (fun _ _ y => y.elim)
theorem enterF {cl : List (Str × Addr)} {fo : Obj} (W : Wd w h₀) (st : h₀.StaysIn s.heap) (hn : ∀ p ∈ news, s.heap.get? p.1 = some p.2 ∧ h₀.get? p.1 = none)
    (ho : s.heap.get? f = some fo) (hdat : fo.data = .func (fnX name qual params body scope cl dV kV doc pm an cdv ct)) (hcd : s.heap.CodeRec cdv qual) (hroom : A.depth < recursionLimit)
    (hbind : BindsTo s (fnX name qual params body scope cl dV kV doc pm an cdv ct) args binds) (hloc : ∀ y ∈ binds, scope.names.lookup y.1 = some .local)
    (h : ∀ g h₁ tk p loose mean mg mb, Fr g s.heap.objs.size h₁ (fun y => binds.reverse.lookup y) → News g s.heap.objs.size h₁ news → (lawTop.heap_39 w.params).In g → Top p loose mean mg mb g →
      (∀ b o, s.heap.get? b = some o → b ∉ news.map (·.1) → g.get? b = some o) → (∀ p ∈ news, p.1 < s.heap.objs.size) → (∀ b o, h₀.get? b = some o → g.get? b = some o) →
      wpAny (model prog w) (A.deeper (envX qual scope s.heap.objs.size f cdv cl)) (execs body (envX qual scope s.heap.objs.size f cdv cl))
        (fun fl s' => ExitP Q (match fl with | .ret v => v | _ => .none) s') (fun _ _ => False)
        { s with heap := h₁, toks := tk })
    (hco : scope.isCoroutine = false) (hgen : scope.isGenerator = false) (hk : scope.kind = .function)
    (hcell : ∀ x ∈ scope.names, x.2 ≠ .cell) : wpAny (model prog w) A (call (.ref f) args.pos args.kw) Q E s := by
  obtain ⟨p, loose, mean, mg, mb, T⟩ := W.T
  refine wpAny_call ?_
  refine codeAny_call_def (fd := fnX name qual params body scope cl dV kV doc pm an cdv ct) (body := body) (binds := binds) hroom ho hdat (T.nolimit.keeps st) hcd rfl hbind hcell hloc (fun h₁ hns hk₁ => ?_) hco hgen hk
  have nm : ∀ b o, h₀.get? b = some o → b ∉ news.map (·.1) := fun b o e q => by
    obtain ⟨p, hp, rfl⟩ := List.mem_map.mp q
    rw [(hn p hp).2] at e; cases e
  have stg : ∀ b o, h₀.get? b = some o → (hideAll s.heap (news.map (·.1))).get? b = some o := fun b o e => hideAll_get _ (st b o e) (nm b o e)
  refine wpAny_mono (h (hideAll s.heap (news.map (·.1))) h₁ (s.toks + binds.length) p loose mean mg mb ⟨hns, fun b o e => hk₁ b o (of_hideAll _ e), Nat.le_of_eq (hideAll_size _ _)⟩
    (fun p hp => ⟨hk₁ _ _ (hn p hp).1, Nat.ne_of_lt (Heap.lt_size (hn p hp).1), hideAll_none _ (List.mem_map_of_mem hp)⟩) (W.K.keeps stg) (T.keeps stg) (fun b o e n => hideAll_get _ e n)
    (fun p hp => Heap.lt_size (hn p hp).1) stg) (fun fl s' hl => hl) (fun _ _ y => y.elim)

theorem enterPC (W : Wd w h₀) (st : h₀.StaysIn s.heap) (hn : ∀ p ∈ news, s.heap.get? p.1 = some p.2 ∧ h₀.get? p.1 = none)
    (ho : (lawTop.heap_39 w.params).lookup f = some ⟨oc, od, .func (fnOf name qual params body scope dV kV doc pm an cdv ct), osl⟩) (hcd : codeIn (lawTop.heap_39 w.params) cdv qual = true) (hroom : A.depth < recursionLimit)
    (hbind : BindsTo s (fnOf name qual params body scope dV kV doc pm an cdv ct) args binds) (hkind : (binds.all fun y => scope.names.lookup y.1 == some .local || scope.names.lookup y.1 == some .cell) = true)
    (hnd : ((cellsFrom 0 scope.names []).map (·.1)).Nodup)
    (h : ∀ g h₁ tk cells p loose mean mg mb, Fr g s.heap.objs.size h₁ (bindL (envOfC qual scope s.heap.objs.size f cdv).kindOf binds fun _ => none) → News g s.heap.objs.size h₁ (cells ++ news) →
      CellsAre (bindC (envOfC qual scope s.heap.objs.size f cdv).kindOf binds fun _ => none) (cellsFrom (s.heap.objs.size + 1) scope.names []) cells → (lawTop.heap_39 w.params).In g → Top p loose mean mg mb g →
      (∀ b o, s.heap.get? b = some o → b ∉ news.map (·.1) → g.get? b = some o) → (∀ p ∈ news, p.1 < s.heap.objs.size) → (∀ b o, h₀.get? b = some o → g.get? b = some o) →
      wpAny (model prog w) (A.deeper (envOfC qual scope s.heap.objs.size f cdv)) (execs body (envOfC qual scope s.heap.objs.size f cdv))
        (fun fl s' => ExitP Q (match fl with | .ret v => v | _ => .none) s') (fun _ _ => False)
        { s with heap := h₁, toks := tk })
    (hco : scope.isCoroutine = false) (hgen : scope.isGenerator = false) (hk : scope.kind = .function) : wpAny (model prog w) A (call (.ref f) args.pos args.kw) Q E s := by
  obtain ⟨p, loose, mean, mg, mb, T⟩ := W.T
  have X := W.K.keeps st
  refine wpAny_call ?_
  have nm : ∀ b o, h₀.get? b = some o → b ∉ news.map (·.1) := fun b o e q => by
    obtain ⟨p, hp, rfl⟩ := List.mem_map.mp q
    rw [(hn p hp).2] at e; cases e
  have stg : ∀ b o, h₀.get? b = some o → (hideAll s.heap (news.map (·.1))).get? b = some o := fun b o e => hideAll_get _ (st b o e) (nm b o e)
  refine codeAny_call_function hroom (X _ _ ho) rfl hco hgen rfl (codeRec_of X hcd) (hbind _ _ _ _ ?_)
  refine wpAny_newFunctionEnv_cells hk (kindsX hkind _) fun env' he s' x => ?_
  subst he
  refine ⟨(T.nolimit.keeps st).keeps x.toInCall.keep, codeAny_func ?_⟩
  obtain ⟨h₁, tk, rfl, _⟩ := x.done
  have hk₁ := x.toInCall.keep
  obtain ⟨cells, NC, Y⟩ := Cl.news (h₀ := s.heap) (Nat.le_refl _) fun n c hm => ⟨x.cell n c (lookup_of_mem_nodup (cellsFrom_names scope.names 0 (s.heap.objs.size + 1) [] [] rfl ▸ hnd) hm), x.above n c hm⟩
  refine wpAny_mono (h (hideAll s.heap (news.map (·.1))) h₁ tk cells p loose mean mg mb ⟨x.toInCall.ns, fun b o e => hk₁ b o (of_hideAll _ e), Nat.le_of_eq (hideAll_size _ _)⟩ (fun p hp => ?_) Y (W.K.keeps stg) (T.keeps stg) (fun b o e n => hideAll_get _ e n)
    (fun p hp => Heap.lt_size (hn p hp).1) stg) (fun fl s' hl => hl) (fun _ _ y => y.elim)
  rcases List.mem_append.mp hp with hp | hp
  · refine ⟨(NC p hp).1, (NC p hp).2.1, ?_⟩
    cases q : (hideAll s.heap (news.map (·.1))).get? p.1 with
    | none => rfl
    | some o => have := of_hideAll _ q; rw [(NC p hp).2.2] at this; cases this
  · exact ⟨hk₁ _ _ (hn p hp).1, Nat.ne_of_lt (Heap.lt_size (hn p hp).1), hideAll_none _ (List.mem_map_of_mem hp)⟩
end

section
variable {g h h' : Heap} {L : Addr} {m : Str → Option Value} {news : List (Addr × Obj)} {ms : List Addr}
theorem keeps_of (F : Fr g L h' m) (hg : ∀ b o, h.get? b = some o → b ∉ ms → g.get? b = some o) : Keeps h h' ms := fun b o e n => F.keep b o (hg b o e n)
end
end Mine
end

section
open PySem PySem.W PyProof.Rows PySem.Calls Builtin Builtin.ObjectAttr
set_option maxRecDepth 100000
set_option maxHeartbeats 4000000
namespace Mine
example : True := by
  w_top off
  k_with_none
  trivial
example : True := by first | walk1 | trivial
theorem store_function : StoreFacts "function" [.type "function", .type "object"] "object.__setattr__" "object" where
  mro := by rw [mroOf_type]; kernel_rfl
  slot := .of (owner := "object") (n := "__setattr__") (by rw [typeLookup_type, builtinLookup_eq_fast]; kernel_rfl) (by decide +kernel) (by decide +kernel) (by decide +kernel)
    (by first | exact .inl (by decide +kernel) | exact .inr (by decide +kernel)) (by rw [isSubtype_type]; kernel_rfl)
  entry := PySem.F.entry_object_sa
  kind := by decide +kernel
  split := by decide +kernel
  hasOwner := by decide +kernel
  args := fun a b c => by unfold argsOk; kernel_rfl
  passes := fun self => by kernel_rfl
theorem fn_sub : isSubtype (.type "function") (.type "object") = pure true := by rw [isSubtype_type]; kernel_rfl
theorem fn_read : typeLookup (.type "function") (PySem.Str.ofString "read") = pure none := by rw [typeLookup_type, builtinLookup_eq_fast]; kernel_rfl
theorem fn_hasDict : typeHasDict (.type "function") = true := by decide +kernel
theorem fn_fin : finalisedInACycleAlone "function" = false := by decide +kernel

section
variable {prog : Program} {w : World} {A : Around} {E : Value → Shared → Prop} {s : Shared} {fs : Addr} {fd : FuncData} {sl : Array (Option Value)} {v : Value}
theorem fn_type {M : Model} {h : Heap} {o : Obj} (ho : h.get? fs = some o) (hc : o.cls = .type "function") : Looks M h (typeOf (.ref fs)) (.type "function") := by
  rw [← hc]
  exact (Looks.ld (part := some headPart) ho).andThen .now

theorem set_fn {Q : Unit → Shared → Prop} (ho : s.heap.get? fs = some ⟨.type "function", none, .func fd, sl⟩)
    (h : ∀ h' tk' t, h'.get? fs = some ⟨.type "function", some s.heap.objs.size, .func fd, sl⟩ → h'.get? s.heap.objs.size = some (dictOf [⟨PyData.keyHash w.params (PySem.Str.ofString "read"), .str (PySem.Str.ofString "read") t, v⟩] 1) →
      (∀ b o, b ≠ fs → s.heap.get? b = some o → h'.get? b = some o) → Q () { s with heap := h', toks := tk' }) :
    wpAny (model prog w) A (setAttr (.ref fs) (PySem.Str.ofString "read") v) Q E s := by
  have SF := store_function
  obtain ⟨hh, gn, dr, tk, os⟩ := s
  dsimp only at ho h
  have L0 := fn_type (M := model prog w) ho rfl
  refine wpAny_bind (wpAny_mkText (wpAny_bind (wpAny_bind (wpAny_bind (L0.at ((Looks.of_pure (M := model prog w) (h := hh) SF.slot.lookup).at (wpAny_holding ?_)))))))
  rw [SF.slot.bind]
  refine wpAny_bind (wpAny_pure (wpAny_bind (wpAny_call ?_)))
  have sub : Looks (model prog w) hh (isInstance (.ref fs) (.type "object")) true := L0.andThen (Looks.of_pure fn_sub)
  refine codeAny_call_builtin SF.slot.plain SF.entry (@check_slot (model prog w) _ _ ⟨hh, gn, dr, tk + 1, os⟩ "object.__setattr__" "object" "__setattr__" (.ref fs) [.str (PySem.Str.ofString "read") tk, v] [] _ SF.kind SF.split sub (SF.args _ _ _) ?_)
  show wpAny _ _ (Builtin.«object.__setattr__» ⟨[.ref fs, .str (PySem.Str.ofString "read") tk, v], []⟩) _ _ _
  rw [osa_eq, refuse_eq]
  refine wpAny_bind (wpAny_bind (L0.at (wpAny_bind ((Looks.of_pure (M := model prog w) (h := hh) SF.mro).at ?_))))
  rw [SF.passes]
  refine wpAny_pure (wpAny_bind (L0.at (wpAny_bind ((Looks.of_pure (M := model prog w) (h := hh) fn_read).at (wpAny_bind (wpAny_pure ?_))))))
  dsimp only
  unfold storeInOwnDict
  refine wpAny_bind (wpAny_pure ?_)
  dsimp only
  rw [if_neg (by decide)]
  refine wpAny_bind ?_
  unfold ownDictForStores instanceDict
  dsimp only
  refine wpAny_bind (wpAny_loadPart ho ?_)
  dsimp only
  simp only [fn_hasDict, Bool.not_true, Bool.or_self, Bool.false_eq_true, if_false]
  refine wpAny_bind (wpAny_alloc ?_)
  have hx : (hh.push { cls := .type "dict", data := .dict #[] }).get? fs = some ⟨.type "function", none, .func fd, sl⟩ := Heap.get?_push_of_some _ ho
  have hxs : fs ≠ hh.objs.size := Nat.ne_of_lt (Heap.lt_size ho)
  refine wpAny_bind (wpAny_update hx ?_)
  unfold dictMade
  dsimp only
  simp only [fn_fin, Bool.false_eq_true, if_false]
  refine wpAny_pure ?_
  dsimp only
  unfold storeInDict newKeyGuard
  refine wpAny_bind (wpAny_pure (wpAny_bind ?_))
  have D : ((hh.push { cls := .type "dict", data := .dict #[] }).update fs fun o => { cls := o.cls, dict := some hh.objs.size, data := o.data, slots := o.slots }).get? hh.objs.size = some { cls := .type "dict", data := .dict #[] } :=
    (Heap.get?_update_ne _ _ _ _ hxs.symm).trans (Heap.get?_push_at rfl rfl)
  unfold nsSet
  refine wpAny_bind (wpAny_bind (wpAny_askSetting (wpAny_pure (wpAny_bind (wpAny_mkText (wpAny_bind (wpAny_loadPart D ?_)))))))
  dsimp only
  rw [aRefKeyMayBeTheName_at]
  rw [if_neg (by simp)]
  refine wpAny_updatePart D ?_
  have e : Obj.putName (PySem.Str.ofString "read") (PyData.keyHash w.params (PySem.Str.ofString "read")) (.str (PySem.Str.ofString "read") (tk + 1)) v { cls := .type "dict", data := .dict #[] } = dictOf [⟨PyData.keyHash w.params (PySem.Str.ofString "read"), .str (PySem.Str.ofString "read") (tk + 1), v⟩] 1 := by
    have := putName_dict (PySem.Str.ofString "read") (PyData.keyHash w.params (PySem.Str.ofString "read")) (.str (PySem.Str.ofString "read") (tk + 1)) v [] 0
    simpa [putL, putN] using this
  have D1 := Heap.get?_update_self (Obj.putName (PySem.Str.ofString "read") (PyData.keyHash w.params (PySem.Str.ofString "read")) (.str (PySem.Str.ofString "read") (tk + 1)) v) D (by rw [e]; rfl)
  rw [e] at D1
  refine wpAny_bind (wpAny_lookBehind D1 (by exact pastItsLine_dict (by simp [sizeLine])) ?_)
  refine wpAny_pure (wpAny_pure (wpAny_pure ?_))
  have x1 := Heap.get?_update_self (fun o : Obj => ({ cls := o.cls, dict := some hh.objs.size, data := o.data, slots := o.slots } : Obj)) hx rfl
  exact h _ _ (tk + 1) ((Heap.get?_update_ne _ _ _ _ hxs).trans x1) D1 (fun b o hb e0 => (Heap.get?_update_ne _ _ _ _ (Nat.ne_of_lt (Heap.lt_size e0))).trans ((Heap.get?_update_ne _ _ _ _ hb).trans (Heap.get?_push_of_some _ e0)))

theorem fn_ga : typeLookup (.type "function") (PySem.Str.ofString "__getattribute__") = pure (some (.builtin "object.__getattribute__")) := by rw [typeLookup_type, builtinLookup_eq_fast]; kernel_rfl
theorem fn_gt : typeLookup (.type "function") (PySem.Str.ofString "__getattr__") = pure none := by rw [typeLookup_type, builtinLookup_eq_fast]; kernel_rfl
theorem canon_ga : Manifest.canonical "object.__getattribute__" = "object.__getattribute__" := by decide +kernel

theorem slot_fga : Slot "function" "__getattribute__" "object.__getattribute__" :=
  .of (owner := "object") (n := "__getattribute__") (by rw [typeLookup_type, builtinLookup_eq_fast]; kernel_rfl) (by decide +kernel) (by decide +kernel) (by decide +kernel)
    (by first | exact .inl (by decide +kernel) | exact .inr (by decide +kernel)) (by rw [isSubtype_type]; kernel_rfl)
theorem entry_fga : entryFor table "object.__getattribute__" = some Builtin.«object.__getattribute__» := entryFor_of_tree (by kernel_rfl)
theorem args_fga (a b : Value) : argsOk "object.__getattribute__" ⟨[a, b], []⟩ := by unfold argsOk; kernel_rfl
/-- the method of a function object that its own dict holds -/
theorem method_fnattr {pl : Sem Bool} {f d : Addr} {t0 : Tok} {n : Nat} {Q : Value × List Value → Shared → Prop} (ho : s.heap.get? fs = some ⟨.type "function", some d, .func fd, sl⟩)
    (hd : s.heap.get? d = some (dictOf [⟨PyData.keyHash w.params (PySem.Str.ofString "read"), .str (PySem.Str.ofString "read") t0, .ref f⟩] n))
    (h : ∀ tk', Q (.ref f, []) { s with toks := tk' }) :
    wpAny (model prog w) A (getMethod (.ref fs) (PySem.Str.ofString "read") pl) Q E s := by
  obtain ⟨hh, gn, dr, tk, os⟩ := s
  dsimp only at ho hd h
  have L0 := fn_type (M := model prog w) ho rfl
  have L1 : Looks (model prog w) hh (specialOf (.ref fs) (PySem.Str.ofString "__getattribute__")) (some (.builtin "object.__getattribute__")) := L0.andThen (Looks.of_pure fn_ga)
  have L2 : Looks (model prog w) hh (specialOf (.ref fs) (PySem.Str.ofString "__getattr__")) none := L0.andThen (Looks.of_pure fn_gt)
  have L3 : Looks (model prog w) hh (specialOf (.ref fs) (PySem.Str.ofString "read")) none := L0.andThen (Looks.of_pure fn_read)
  unfold getMethod
  refine wpAny_bind (L1.at ?_)
  dsimp only
  rw [canon_ga]
  rw [if_neg (by decide)]
  refine wpAny_bind (L2.at ?_)
  rw [if_neg (by decide)]
  refine wpAny_bind (L3.at ?_)
  dsimp only
  refine wpAny_bind ?_
  have f2 := slot_fga.lookup
  have f3 := slot_fga.bind (.ref fs)
  have L4 : Looks (model prog w) hh (nsGet d (PySem.Str.ofString "read")) (some (.ref f)) := by
    refine (Looks.ld hd).andThen ?_
    exact Looks.of_pure (nsLook_of (by simp [lookIn, Value.isStr]))
  unfold getAttr getAttrBy
  refine wpAny_bind (wpAny_mkText (wpAny_holding (wpAny_bind (L0.at (wpAny_bind ((Looks.of_pure (M := model prog w) (h := hh) f2).at ?_))))))
  dsimp only
  rw [if_neg (by decide)]
  unfold getAttrByItsOwn hookBefore callGetattribute boundAndCalled
  dsimp only [onTheHeap]
  rw [if_neg (by decide)]
  refine wpAny_bind (wpAny_pure ?_)
  refine wpAny_bind (wpAny_attempt (wpAny_holding ?_))
  rw [f3]
  refine wpAny_bind (wpAny_pure (wpAny_call ?_))
  refine codeAny_call_builtin slot_fga.plain entry_fga (slot_fga.check _ _ _ ⟨hh, gn, dr, tk + 1, os⟩ _ _ _ _ ⟨_, ho, rfl⟩ (args_fga _ _) ?_)
  show wpAny _ _ (Builtin.«object.__getattribute__» ⟨[.ref fs, .str (PySem.Str.ofString "read") tk], []⟩) _ _ _
  unfold Builtin.«object.__getattribute__» ObjectAttr.find ObjectAttr.ownThenClass ObjectAttr.inOwnDict ObjectAttr.ownDict instanceDict
  have L5 := Looks.of_pure (M := model prog w) (h := hh) fn_read
  repeat lk
  exact h _
end
end Mine
end

section
open PySem PySem.W PyProof.Rows PySem.Calls
set_option maxRecDepth 100000
set_option maxHeartbeats 4000000
namespace Mine
example : True := by
  w_top off
  k_with_none
  trivial
example : True := by first | walk1 | trivial
abbrev sT (x : String) : PySem.Str := PySem.Str.ofString x
abbrev readDict (w : World) (t : Tok) (v : Value) (n : Nat) : Obj := dictOf [⟨PyData.keyHash w.params (PySem.Str.ofString "read"), .str (PySem.Str.ofString "read") t, v⟩] n
section
variable {prog : Program} {w : World} {A : Around} {E : Value → Shared → Prop} {s : Shared} {h₀ : Heap} {L fs d : Addr} {m : PySem.Str → Option Value} {news : List (Addr × Obj)} {g : Obj → List (Addr × Obj)} {fd : FuncData} {sl : Array (Option Value)} {v : Value}
theorem setfn_K {Q : Unit → Shared → Prop} (F : Fr h₀ L s.heap m) (N : News h₀ L s.heap news) (U : UpdF fs ⟨.type "function", none, .func fd, sl⟩ news g)
    (h : ∀ d h' tk' t, Fr h₀ L h' m → News h₀ L h' ((d, readDict w t v 1) :: g ⟨.type "function", some d, .func fd, sl⟩) → (∀ p ∈ news, p.1 < d) → Q () { s with heap := h', toks := tk' }) :
    wpAny (model prog w) A (setAttr (.ref fs) (PySem.Str.ofString "read") v) Q E s := by
  obtain ⟨pre, post, rfl, hg, a, b⟩ := U.split
  have hm := N (fs, ⟨.type "function", none, .func fd, sl⟩) (by simp)
  refine set_fn hm.1 fun h' tk' t e1 e2 k => h s.heap.objs.size h' tk' t ?_ ?_ (fun p hp => Heap.lt_size (N p hp).1)
  · have hL : L ≠ fs := fun q => hm.2.1 q.symm
    exact ⟨F.ns.at' fun o e => k _ _ hL e, fun x o e => k _ _ (fun q => by rw [q, hm.2.2] at e; cases e) (F.keep _ _ e), F.above⟩
  · intro p hp
    rcases List.mem_cons.mp hp with rfl | hp
    · refine ⟨e2, Nat.ne_of_gt F.ns.lt, ?_⟩
      exact Heap.get?_none_of_le (Nat.le_trans F.above (Nat.le_of_lt F.ns.lt))
    · rw [hg] at hp
      rcases List.mem_append.mp hp with hp | hp
      · have n := N p (List.mem_append_left _ hp)
        exact ⟨k _ _ (a p hp) n.1, n.2⟩
      · rcases List.mem_cons.mp hp with rfl | hp
        · exact ⟨e1, hm.2⟩
        · have n := N p (List.mem_append_right _ (.tail _ hp))
          exact ⟨k _ _ (b p hp) n.1, n.2⟩
theorem methodfn_B {pl : Sem Bool} {f : Addr} {t0 : Tok} {n : Nat} {Q : Value × List Value → Shared → Prop} (F : Fr h₀ L s.heap m) (ho : h₀.get? fs = some ⟨.type "function", some d, .func fd, sl⟩)
    (hd : h₀.get? d = some (readDict w t0 (.ref f) n)) (h : ∀ tk', Q (.ref f, []) { s with toks := tk' }) : wpAny (model prog w) A (getMethod (.ref fs) (PySem.Str.ofString "read") pl) Q E s :=
  method_fnattr (F.keep _ _ ho) (F.keep _ _ hd) h
theorem nameX_FB {M : Model} {cn : PySem.Str} {cs : Scope} {a c : Addr} {ccd : Value} {cl : List (PySem.Str × Addr)} {x : PySem.Str} {pos : Pos} {o : Obj} {Q : Value → Shared → Prop} (F : Fr h₀ L s.heap m) (hc : cl.lookup x = some c) (hm : h₀.get? c = some o) (hd : o.data = .cell (some v)) (h : Q v s)
    (hk : cs.kind = .function := by rfl) (hx : (envX cn cs L a ccd cl).kindOf x = some .free := by rfl) (hb : (x == ("__debug__" : PySem.Str)) = false := by decide) (hn : (x == ("__classdict__" : PySem.Str)) = false := by decide) :
    wpAny M A (eval (.Name x pos) (envX cn cs L a ccd cl)) Q E s := wpAny_Name (wpAny_loadName_free hk hx hc ⟨o, F.keep _ _ hm, hd⟩ h hn) hb
theorem lookup_elim {K : Frag} {a : Addr} {o o' : Obj} {P : Prop} (h1 : K.lookup a = some o) (h2 : K.lookup a = some o') (k : o = o' → P) : P := k (Option.some.inj (h1.symm.trans h2))
end
section
variable {prog : Program} {w : World} {A : Around} {s : Shared} {h₀ : Heap} {L : Addr} {m : PySem.Str → Option Value} {news : List (Addr × Obj)} {K : Frag} {p : Program} {loose : List PySem.Str} {mean : ExcName → Option Value} {mg mb : PySem.Str → Option Value}
  {R : Result → Shared → Prop} {name qual : PySem.Str} {params : Arguments} {body : List Stmt} {scope : Scope} {dV kV doc pm cdv ct oc : Value} {an od : Option Addr} {osl : Array (Option Value)} {f : Addr} {args : Args} {binds : List (PySem.Str × Value)}
/-- entering a def inline where nothing is raised: the caller's frame and ledger come back by LeaveK -/
theorem code_defN (F : Fr h₀ L s.heap m) (X₀ : K.In h₀) (N : News h₀ L s.heap news) (T : Top p loose mean mg mb h₀)
    (ho : K.lookup f = some ⟨oc, od, .func (fnOf name qual params body scope dV kV doc pm an cdv ct), osl⟩) (hcd : codeIn K cdv qual = true) (hroom : A.depth < recursionLimit)
    (hbind : BindsTo s (fnOf name qual params body scope dV kV doc pm an cdv ct) args binds) (hloc : ∀ y ∈ binds, scope.names.lookup y.1 = some .local)
    (h : ∀ g L' h₁ tk, Fr h₀ L g m → Fr g L' h₁ (fun y => binds.reverse.lookup y) → News g L' h₁ news → K.In g → Top p loose mean mg mb g → (∀ p ∈ news, p.1 < L') → (∀ b o, h₀.get? b = some o → g.get? b = some o) →
      wpAny (model prog w) (A.deeper (envOf qual scope L' f cdv)) (execs body (envOf qual scope L' f cdv))
        (fun fl s' => LeaveK h₀ L m g R (match fl with | .ret v => v | _ => .none) s') (fun _ _ => False) { s with heap := h₁, toks := tk })
    (hco : scope.isCoroutine = false) (hgen : scope.isGenerator = false) (hk : scope.kind = .function)
    (hcell : ∀ x ∈ scope.names, x.2 ≠ .cell) : codeAny (model prog w) A (.call (.ref f) args) R s := by
  have hnot : ∀ b o, h₀.get? b = some o → b ∉ news.map (·.1) := fun b o e q => by
    obtain ⟨p, hp, rfl⟩ := List.mem_map.mp q
    rw [(N p hp).2.2] at e; cases e
  have st : ∀ b o, h₀.get? b = some o → (hideAll s.heap (news.map (·.1))).get? b = some o := fun b o e => hideAll_get _ (F.keep b o e) (hnot b o e)
  obtain ⟨oL, es, ep, hL, hLd, hLk, hLf⟩ := F.ns
  have nL : L ∉ news.map (·.1) := fun q => by
    obtain ⟨p, hp, e⟩ := List.mem_map.mp q
    exact (N p hp).2.1 e
  have hLg := hideAll_get (news.map (·.1)) hL nL
  refine codeAny_call_def (fd := fnOf name qual params body scope dV kV doc pm an cdv ct) (body := body) (binds := binds) hroom ((X₀.keeps F.keep) _ _ ho) rfl (T.nolimit.keeps F.keep) (codeRec_of (X₀.keeps F.keep) hcd) rfl hbind hcell hloc (fun h₁ hns hk₁ => ?_) hco hgen hk
  refine wpAny_mono (h (hideAll s.heap (news.map (·.1))) s.heap.objs.size h₁ (s.toks + binds.length) ⟨⟨oL, es, ep, hLg, hLd, hLk, hLf⟩, st, F.above⟩ ⟨hns, fun b o e => hk₁ b o (of_hideAll _ e), Nat.le_of_eq (hideAll_size _ _)⟩
    (fun p hp => ⟨hk₁ _ _ (N p hp).1, Nat.ne_of_lt (Heap.lt_size (N p hp).1), hideAll_none _ (List.mem_map_of_mem hp)⟩) (X₀.keeps st) (T.keeps st) (fun p hp => Heap.lt_size (N p hp).1) st) (fun fl s' hl => ?_) (fun _ _ y => y.elim)
  obtain ⟨L', m', news', F', N', k⟩ := hl
  refine k ⟨⟨oL, es, ep, F'.keep L oL hLg, hLd, hLk, hLf⟩, fun b o e => F'.keep b o (st b o e), F.above⟩ fun p hp => ⟨(N' p hp).1, fun q => ?_, ?_⟩
  · have := (N' p hp).2.2; rw [q, hLg] at this; cases this
  · cases q : h₀.get? p.1 with
    | none => rfl
    | some o => have := (N' p hp).2.2; rw [st _ _ q] at this; cases this
end
section
variable {h₀ h h' : Heap} {L : Addr} {m : PySem.Str → Option Value} {news : List (Addr × Obj)}
theorem updF_mem {a : Addr} {o o' : Obj} {l : List (Addr × Obj)} {G : Obj → List (Addr × Obj)} (U : UpdF a o l G) {p : Addr × Obj} (hp : p ∈ G o') : p = (a, o') ∨ (p ∈ l ∧ p.1 ≠ a) := by
  obtain ⟨pre, post, rfl, hg, h1, h2⟩ := U.split
  rw [hg] at hp
  rcases List.mem_append.mp hp with hp | hp
  · exact .inr ⟨List.mem_append_left _ hp, h1 p hp⟩
  · rcases List.mem_cons.mp hp with rfl | hp
    · exact .inl rfl
    · exact .inr ⟨List.mem_append_right _ (.tail _ hp), h2 p hp⟩
theorem updF_in {a : Addr} {o : Obj} {l : List (Addr × Obj)} {G : Obj → List (Addr × Obj)} (U : UpdF a o l G) : (a, o) ∈ l := by
  obtain ⟨pre, post, rfl, hg, h1, h2⟩ := U.split
  simp
theorem ledger_fr {ms : List Addr} (F : Fr h₀ L h m) (k : Keeps h h' ms) (hm : ∀ a ∈ ms, a ≠ L ∧ h₀.get? a = none) : Fr h₀ L h' m :=
  ⟨F.ns.at' fun o e => k _ _ e fun q => (hm _ q).1 rfl, fun b o e => k _ _ (F.keep _ _ e) (fun q => by rw [(hm _ q).2] at e; cases e), F.above⟩
theorem ledger0 (F : Fr h₀ L h m) (N : News h₀ L h news) (k : Keeps h h' []) : Fr h₀ L h' m ∧ News h₀ L h' news :=
  ⟨ledger_fr F k (fun _ h => nomatch h), fun p hp => ⟨k _ _ (N p hp).1 (fun h => nomatch h), (N p hp).2⟩⟩
theorem ledger1 {a : Addr} {o o' : Obj} {G : Obj → List (Addr × Obj)} (F : Fr h₀ L h m) (N : News h₀ L h news) (U : UpdF a o news G) (k : Keeps h h' [a]) (e : h'.get? a = some o') :
    Fr h₀ L h' m ∧ News h₀ L h' (G o') := by
  have ha := N _ (updF_in U)
  refine ⟨ledger_fr F k (fun b hb => by rw [List.mem_singleton.mp hb]; exact ha.2), fun p hp => ?_⟩
  rcases updF_mem U hp with rfl | ⟨hp, hn⟩
  · exact ⟨e, ha.2⟩
  · exact ⟨k _ _ (N p hp).1 (fun q => hn (List.mem_singleton.mp q)), (N p hp).2⟩
theorem ledger2 {a b : Addr} {o o' ob ob' : Obj} {G H : Obj → List (Addr × Obj)} (F : Fr h₀ L h m) (N : News h₀ L h news) (U : UpdF a o news G) (V : UpdF b ob (G o') H) (hab : b ≠ a) (k : Keeps h h' [a, b]) (e : h'.get? a = some o') (eb : h'.get? b = some ob') :
    Fr h₀ L h' m ∧ News h₀ L h' (H ob') := by
  have ha := N _ (updF_in U)
  have hb := N _ ((updF_mem U (updF_in V)).resolve_left fun q => hab (congrArg Prod.fst q)).1
  refine ⟨ledger_fr F k (fun c hc => by rcases List.mem_cons.mp hc with rfl | hc; exact ha.2; rw [List.mem_singleton.mp hc]; exact hb.2), fun p hp => ?_⟩
  rcases updF_mem V hp with rfl | ⟨hp, hn⟩
  · exact ⟨eb, hb.2⟩
  · rcases updF_mem U hp with rfl | ⟨hp, hn2⟩
    · exact ⟨e, ha.2⟩
    · exact ⟨k _ _ (N p hp).1 (fun q => by rcases List.mem_cons.mp q with q | q; exact hn2 q; exact hn (List.mem_singleton.mp q)), (N p hp).2⟩
end
end Mine
end

section
open PySem PySem.W PyProof.Rows PySem.Calls
set_option maxRecDepth 100000
set_option maxHeartbeats 4000000
namespace Mine
example : True := by
  w_top off
  k_with_none
  trivial
example : True := by first | walk1 | trivial
abbrev wsT : PySem.Str := PySem.Str.ofString "\n\t\r "
abbrev lexDict (w : World) (k1 k2 k3 k4 t1 t3 : Tok) (ln : Int) (fs pb : Addr) : Obj :=
  dictOf [⟨PyData.keyHash w.params (sT "lineno"), .str (sT "lineno") k1, .int ln t1⟩, ⟨PyData.keyHash w.params (sT "instream"), .str (sT "instream") k2, .ref fs⟩,
    ⟨PyData.keyHash w.params (sT "whitespace"), .str (sT "whitespace") k3, .str wsT t3⟩, ⟨PyData.keyHash w.params (sT "pushback"), .str (sT "pushback") k4, .ref pb⟩] 4

/-- these are the parts of the def within _law_lexer's body -/
def IsReadOn (w : World) (name : PySem.Str) (params : Arguments) (body : List Stmt) (scope : Scope) : Prop :=
  ∃ (oc : Value) (od : Option Addr) (n q : PySem.Str) (pr : Arguments) (st1 : Stmt) (nm : PySem.Str) (pos : Pos) (rest : List Stmt) (sc2 : Scope) (dV kV doc pm : Value) (an : Option Addr) (cdv ct : Value) (osl : Array (Option Value)),
    (lawTop.heap_39 w.params).lookup 164 = some ⟨oc, od, .func (fnOf n q pr (st1 :: .FunctionDef name params body [] none [] scope none nm pos :: rest) sc2 dV kV doc pm an cdv ct), osl⟩

/-- the stream: a function object that bears «read», which reads on in text from the place that the list at al holds -/
def StreamAt (w : World) (h : Heap) (fs : Addr) (text : PySem.Str) (al : Addr) : Prop :=
  ∃ (d fr c' tc ac : Addr) (fd : FuncData) (sl : Array (Option Value)) (t0 tt : Tok) (n : Nat) (fo ot oa : Obj) (name qual : PySem.Str) (params : Arguments) (body : List Stmt) (scope : Scope) (cl : List (PySem.Str × Addr)) (doc pm ct : Value),
    h.get? fs = some ⟨.type "function", some d, .func fd, sl⟩ ∧ h.get? d = some (readDict w t0 (.ref fr) n) ∧ h.get? fr = some fo ∧ fo.data = .func (fnX name qual params body scope cl .none .none doc pm none (.ref c') ct) ∧
    IsReadOn w name params body scope ∧ cl.lookup (sT "text") = some tc ∧ cl.lookup (sT "at") = some ac ∧ h.CodeRec (.ref c') qual ∧ h.get? tc = some ot ∧ ot.data = .cell (some (.str text tt)) ∧ h.get? ac = some oa ∧ oa.data = .cell (some (.ref al))
theorem StreamAt.keeps {w : World} {h h' : Heap} {fs al : Addr} {text : PySem.Str} (S : StreamAt w h fs text al) (k : ∀ b o, h.get? b = some o → h'.get? b = some o) : StreamAt w h' fs text al := by
  obtain ⟨d, fr, c', tc, ac, fd, sl, t0, tt, n, fo, ot, oa, name, qual, params, body, scope, cl, doc, pm, ct, a1, a2, a3, a4, a5, a6, a7, a8, a9, a10, a11, a12⟩ := S
  exact ⟨d, fr, c', tc, ac, fd, sl, t0, tt, n, fo, ot, oa, name, qual, params, body, scope, cl, doc, pm, ct, k _ _ a1, k _ _ a2, k _ _ a3, a4, a5, a6, a7, a8.keeps k, k _ _ a9, a10, k _ _ a11, a12⟩
end Mine
end

section
open PySem PySem.W PyProof.Rows PySem.Calls
set_option maxRecDepth 100000
namespace Mine
example : True := by
  w_top off
  k_with_none
  trivial
example : True := by first | walk1 | trivial
theorem slice_mid {x : PySem.Str} {i j : Nat} (h : i ≤ j) (h2 : j ≤ x.length) : Txt.slice x (some (i : Int)) (some (j : Int)) = ⟨((x.cps.toList.drop i).take (j - i)).toArray⟩ := by
  have e := eq_of_beq (slice_closesL (x := x) (i := i) (j := j) (by omega) (by omega) (by omega))
  rw [e]
  have h3 : ((j : Int) - (i : Int)).toNat = j - i := by omega
  rw [h3]; rfl
theorem len_toList (x : PySem.Str) : x.cps.toList.length = x.length := by simp [PySem.Str.length]
theorem slice_one {x : PySem.Str} {n c : Nat} {r : List Nat} (h : x.cps.toList.drop n = c :: r) : Txt.slice x (some (n : Int)) (some ((n : Int) + 1)) = ⟨#[c]⟩ := by
  have hl : n + 1 ≤ x.length := by
    have := congrArg List.length h
    rw [List.length_drop, len_toList, List.length_cons] at this
    omega
  have e := slice_mid (x := x) (i := n) (j := n + 1) (by omega) hl
  rw [show ((n + 1 : Nat) : Int) = (n : Int) + 1 from by omega] at e
  rw [e, h]
  simp
theorem slice_end {x : PySem.Str} {n : Nat} (h : x.cps.toList.drop n = []) (hn : n ≤ x.length) : Txt.slice x (some (n : Int)) (some ((n : Int) + 1)) = ⟨#[]⟩ := by
  have hl : x.length ≤ n := by
    have := congrArg List.length h
    rw [List.length_drop, len_toList, List.length_nil] at this
    omega
  have he : n = x.length := by omega
  subst he
  have q : Builtin.Str.strSliceIndices (some (x.length : Int)) (some ((x.length : Int) + 1)) 1 x.length = [] := by
    unfold Builtin.Str.strSliceIndices sliceRange
    simp
    omega
  unfold Txt.slice
  rw [q]
  split
  · rename_i hz
    simp at hz
    obtain ⟨a⟩ := x
    simp [PySem.Str.length] at hz
    rw [Array.eq_empty_of_size_eq_zero hz.symm]
  · rfl
end Mine
end

section
open PySem PySem.W PyProof.Rows PySem.Calls
set_option maxRecDepth 100000
namespace Mine
example : True := by
  w_top off
  k_with_none
  trivial
example : True := by first | walk1 | trivial
def numL : Int → List Nat
  | .ofNat m => (Nat.toDigits 10 m).map Char.toNat
  | .negSucc m => 45 :: (Nat.toDigits 10 (m + 1)).map Char.toNat
theorem numL_eq (n : Int) : PySem.Str.ofString (toString n) = ⟨(numL n).toArray⟩ := by
  have h : (PySem.Str.ofString (toString n)).cps.toList = numL n := by
    cases n with
    | ofNat m => exact KIN.signs_num m
    | negSucc m =>
      rw [signs_ofString]
      show ((("-" : String) ++ Nat.repr (m + 1)).toList).map Char.toNat = _
      rw [String.toList_append, List.map_append, Nat.toList_repr]
      rfl
  rw [← h]
def pL (n : Int) : PySem.Str := ⟨([50, 50, 57, 40, 124, 124, 124] ++ numL n ++ [124, 41]).toArray⟩
def yL (n : Int) : PySem.Str := ⟨([124, 124, 124] ++ numL n ++ [124]).toArray⟩
def portK (n : Int) : Bool :=
  decide ((pL n).length < 100) && decide (9 ≤ ((pL n).length : Int) - 1) && (Txt.slice (pL n) none (some 3) == ⟨#[50, 50, 57]⟩) && (Txt.find (pL n) ⟨#[40]⟩ == 3) && (Txt.find3 (pL n) ⟨#[41]⟩ (3 + 1) == ((pL n).length : Int) - 1) && (Txt.item (pL n) (3 + 1) == ⟨#[124]⟩) && (Txt.item (pL n) (((pL n).length : Int) - 1 - 1) == ⟨#[124]⟩)
  && (Txt.slice (pL n) (some (3 + 1)) (some (((pL n).length : Int) - 1)) == yL n)
  && (Txt.split (yL n) ⟨#[124]⟩ == [⟨#[]⟩, ⟨#[]⟩, ⟨#[]⟩, ⟨(numL n).toArray⟩, ⟨#[]⟩]) && (PySem.intText? ⟨(numL n).toArray⟩ == some n) && decide ((⟨(numL n).toArray⟩ : PySem.Str).length ≤ 640) && decide ((yL n).length ≤ 1000)
/-- the numbers whose port replies are read back -/
def goodN (n : Int) : Bool := decide (n.natAbs < 10 ^ 9)
theorem digs (m : Nat) : NumText.AllDigits ((Nat.toDigits 10 m).map Char.toNat) := by
  intro c hc
  obtain ⟨ch, hch, e⟩ := List.mem_map.mp hc
  have r := digit_range (Nat.isDigit_of_mem_toDigits (by decide) (by decide) hch)
  rw [← e]; exact r
theorem digs_ne (m : Nat) : (Nat.toDigits 10 m).map Char.toNat ≠ [] := by
  intro e
  have h := toDigits_len_ge 10 m
  rw [List.map_eq_nil_iff.mp e] at h
  exact absurd h (by decide)
theorem digs_len {m : Nat} (h : m < 10 ^ 10) : ((Nat.toDigits 10 m).map Char.toNat).length ≤ 10 := by
  have := KT.len_num (n := (m : Int)) (by omega) (by omega)
  rw [← KIN.signs_num m]
  simpa [PySem.Str.length] using this
theorem num_digs {n : Int} : ∀ c ∈ numL n, c = 45 ∨ (48 ≤ c ∧ c ≤ 57) := by
  intro c hc
  cases n with
  | ofNat m => exact .inr (digs m c hc)
  | negSucc m =>
    rcases List.mem_cons.mp hc with h | h
    · exact .inl h
    · exact .inr (digs _ c h)
theorem num_len {n : Int} (h : n.natAbs < 10 ^ 9) : 1 ≤ (numL n).length ∧ (numL n).length ≤ 11 := by
  cases n with
  | ofNat m =>
    have h1 := digs_len (m := m) (by have : (Int.ofNat m).natAbs = m := rfl; omega)
    have h2 := List.length_pos_iff.mpr (digs_ne m)
    exact ⟨h2, by show ((Nat.toDigits 10 m).map Char.toNat).length ≤ 11; omega⟩
  | negSucc m =>
    have h1 := digs_len (m := m + 1) (by have : (Int.negSucc m).natAbs = m + 1 := rfl; omega)
    exact ⟨by show 1 ≤ (_ :: _ : List Nat).length; simp, by show (_ :: _ : List Nat).length ≤ 11; rw [List.length_cons]; omega⟩
theorem num_back {n : Int} (h : n.natAbs < 10 ^ 9) : PySem.intText? ⟨(numL n).toArray⟩ = some n := by
  have hl := num_len h
  cases n with
  | ofNat m =>
    have e := PySem.intText_digits (x := ⟨(numL (.ofNat m)).toArray⟩) (digs m) (digs_ne m) (by show (numL (.ofNat m)).length ≤ 4300; omega)
    rw [e]
    show some ((NumText.digitsVal ((Nat.toDigits 10 m).map Char.toNat) : Nat) : Int) = _
    rw [KIN.val_back]; rfl
  | negSucc m =>
    have e := PySem.intText_neg (x := ⟨(numL (.negSucc m)).toArray⟩) (cs := (Nat.toDigits 10 (m + 1)).map Char.toNat) rfl (digs _) (digs_ne _) (by show (numL (.negSucc m)).length ≤ 4300; omega)
    rw [e, KIN.val_back]; rfl
theorem at_one {x : PySem.Str} {c i : Nat} : StrLaws.At x ⟨#[c]⟩ x.length i ↔ x.cps.toList[i]? = some c := StrLaws.subAt_one x c i
theorem find_one {x : PySem.Str} {c i : Nat} (h : x.cps.toList[i]? = some c) (hn : ∀ k, k < i → x.cps.toList[k]? ≠ some c) : Txt.find x ⟨#[c]⟩ = (i : Int) := by
  unfold Txt.find
  rcases StrLaws.occ_head x ⟨#[c]⟩ 1 (Nat.le_refl 1) with ⟨_, h0⟩ | ⟨j, r, e, hj, hm⟩
  · exact absurd (at_one.mpr h) (h0 i)
  · rw [e]
    have h1 : ¬ i < j := fun q => hm i q (at_one.mpr h)
    have h2 : ¬ j < i := fun q => hn j q (at_one.mp hj)
    show (j : Int) = i
    omega
theorem find_from {x : PySem.Str} {c i lo : Nat} (hlo : lo ≤ i) (h : x.cps.toList[i]? = some c) (hn : ∀ k, lo ≤ k → k < i → x.cps.toList[k]? ≠ some c) : Txt.find3 x ⟨#[c]⟩ (lo : Int) = (i : Int) := by
  unfold Txt.find3
  have hf : PySem.fromIndex x.length (lo : Int) = lo := by unfold PySem.fromIndex; rw [if_neg (by omega)]; omega
  rw [hf]
  rcases StrLaws.occ_head_from x ⟨#[c]⟩ lo 1 (Nat.le_refl 1) with ⟨_, h0⟩ | ⟨j, r, e, hl, hj, hm⟩
  · exact absurd (at_one.mpr h) (h0 i hlo)
  · rw [e]
    have h1 : ¬ i < j := fun q => hm i hlo q (at_one.mpr h)
    have h2 : ¬ j < i := fun q => hn j hl q (at_one.mp hj)
    show (j : Int) = i
    omega
theorem item_one {x : PySem.Str} {i c : Nat} (h : x.cps.toList[i]? = some c) : Txt.item x (i : Int) = ⟨#[c]⟩ := by
  have hl : i < x.length := by
    obtain ⟨a⟩ := x
    have := (List.getElem?_eq_some_iff.mp h).1
    simpa [PySem.Str.length] using this
  unfold Txt.item Txt.charAt seqIndex?
  have h1 : ¬ (i : Int) < 0 := by omega
  simp only [if_neg h1]
  rw [if_pos (by simp; omega)]
  show (⟨#[((x.cps[((i : Int)).toNat]?).getD 0)]⟩ : PySem.Str) = _
  rw [Int.toNat_natCast, ← Array.getElem?_toList, h]
  rfl
theorem slice_none {x : PySem.Str} {u : Option Int} : Txt.slice x none u = Txt.slice x (some ((0 : Nat) : Int)) u := by
  unfold Txt.slice Builtin.Str.strSliceIndices
  have e : max (0 : Int) (min (0 : Int) (x.length : Int)) = 0 := by omega
  simp [e]
theorem cut_one {c : Nat} : ∀ {p p' X Y : List Nat}, c ∉ p → c ∉ p' → p ++ c :: X = p' ++ c :: Y → p = p' ∧ X = Y
  | [], [], _, _, _, _, e => ⟨rfl, (List.cons.inj e).2⟩
  | [], a :: p', _, _, _, h', e => absurd ((List.cons.inj e).1 ▸ .head _ : c ∈ a :: p') h'
  | a :: p, [], _, _, h, _, e => absurd ((List.cons.inj e).1 ▸ .head _ : c ∈ a :: p) h
  | a :: p, b :: p', X, Y, h, h', e => by
    have e1 := (List.cons.inj e).1
    have r := cut_one (fun m => h (.tail _ m)) (fun m => h' (.tail _ m)) (List.cons.inj e).2
    exact ⟨by rw [e1, r.1], r.2⟩
def catL (c : Nat) (r : List (List Nat)) : List Nat := r.flatMap fun q => c :: q
theorem cut_all {c : Nat} : ∀ {r r' : List (List Nat)} {p p' : List Nat}, (∀ q ∈ p :: r, c ∉ q) → (∀ q ∈ p' :: r', c ∉ q) → p ++ catL c r = p' ++ catL c r' → p = p' ∧ r = r'
  | [], [], p, p', _, _, e => ⟨by simpa [catL] using e, rfl⟩
  | [], q :: r', p, p', h, _, e => absurd (show c ∈ p by have : p = p' ++ (c :: q ++ catL c r') := by simpa [catL] using e
                                                         rw [this]; simp) (h p (.head _))
  | q :: r, [], p, p', _, h', e => absurd (show c ∈ p' by have : p' = p ++ (c :: q ++ catL c r) := by simpa [catL] using e.symm
                                                          rw [this]; simp) (h' p' (.head _))
  | q :: r, q' :: r', p, p', h, h', e => by
    have e' : p ++ c :: (q ++ catL c r) = p' ++ c :: (q' ++ catL c r') := by simpa [catL] using e
    have k := cut_one (h p (.head _)) (h' p' (.head _)) e'
    have k2 := cut_all (r := r) (r' := r') (p := q) (p' := q') (fun z hz => h z (.tail _ hz)) (fun z hz => h' z (.tail _ hz)) k.2
    exact ⟨k.1, by rw [k2.1, k2.2]⟩
theorem glue_list {c : Nat} : ∀ (b : List PySem.Str) (a : PySem.Str), (PySem.Str.join ⟨#[c]⟩ (a :: b)).cps.toList = a.cps.toList ++ catL c (b.map fun p => p.cps.toList)
  | [], a => by simp [catL, PySem.Str.join]
  | p :: r, a => by
    show (a ++ ⟨#[c]⟩ ++ PySem.Str.join ⟨#[c]⟩ (p :: r)).cps.toList = _
    rw [PySem.Str.cps_append, PySem.Str.cps_append, Array.toList_append, Array.toList_append, glue_list r p]
    simp [catL]
theorem str_of {x : PySem.Str} : x = ⟨x.cps.toList.toArray⟩ := by obtain ⟨a⟩ := x; simp
theorem split_is {x : PySem.Str} {c : Nat} {p : List Nat} {r : List (List Nat)} (e : x.cps.toList = p ++ catL c r) (h : ∀ q ∈ p :: r, c ∉ q) : Txt.split x ⟨#[c]⟩ = (p :: r).map fun q => ⟨q.toArray⟩ := by
  have h1 := StrLaws.split_free x c
  have h2 := StrLaws.join_split x ⟨#[c]⟩
  have h3 := split_pos x ⟨#[c]⟩
  revert h1 h2 h3
  generalize Txt.split x ⟨#[c]⟩ = ps
  intro h1 h2 h3
  cases ps with
  | nil => exact absurd h3 (by decide)
  | cons a b =>
    have e2 : a.cps.toList ++ catL c (b.map fun p => p.cps.toList) = p ++ catL c r := by
      rw [← glue_list b a, h2, e]
    have k := cut_all (fun q hq => by
      rcases List.mem_cons.mp hq with rfl | hq
      · exact h1 a (.head _)
      · obtain ⟨z, hz, rfl⟩ := List.mem_map.mp hq
        exact h1 z (.tail _ hz)) h e2
    rw [List.map_cons, ← k.1, ← k.2, List.map_map, ← str_of]
    congr 1
    have : (b.map fun z => (⟨z.cps.toList.toArray⟩ : PySem.Str)) = b.map id := List.map_congr_left fun z _ => str_of.symm
    rw [List.map_id] at this
    exact this.symm
theorem no_sign {n : Int} {c : Nat} (hc : c ≠ 45) (h : ¬ (48 ≤ c ∧ c ≤ 57)) : c ∉ numL n := fun m => (num_digs c m).elim hc h
theorem pL_list (n : Int) : (pL n).cps.toList = [50, 50, 57, 40, 124, 124, 124] ++ numL n ++ [124, 41] := by simp [pL]
theorem pL_len (n : Int) : (pL n).length = (numL n).length + 9 := by simp [pL, PySem.Str.length]
theorem pL_at {n : Int} {i : Nat} (h1 : 7 ≤ i) (h2 : i < 7 + (numL n).length) : (pL n).cps.toList[i]? = (numL n)[i - 7]? := by
  rw [pL_list, List.append_assoc, List.getElem?_append_right (by simpa using h1), List.getElem?_append_left (by simp; omega)]
  simp
theorem pL_at2 {n : Int} {j : Nat} : (pL n).cps.toList[7 + (numL n).length + j]? = [124, 41][j]? := by
  rw [pL_list, List.getElem?_append_right (by simp; omega)]
  congr 1
  simp; omega
theorem pL_low {n : Int} {k : Nat} (hk : k < 7) : (pL n).cps.toList[k]? = [50, 50, 57, 40, 124, 124, 124][k]? := by
  rw [pL_list, List.append_assoc, List.getElem?_append_left hk]
theorem pL_3 (n : Int) : Txt.slice (pL n) none (some 3) = ⟨#[50, 50, 57]⟩ := by
  have h : 3 ≤ (pL n).length := by rw [pL_len]; exact Nat.le_trans (by decide) (Nat.le_add_left 9 _)
  rw [slice_none, show (3 : Int) = ((3 : Nat) : Int) from rfl, slice_mid (by decide) h, pL_list]; rfl
theorem pL_4 (n : Int) : Txt.find (pL n) ⟨#[40]⟩ = 3 := by
  refine find_one (i := 3) (pL_low (by decide)) fun k hk => ?_
  rw [pL_low (Nat.lt_trans hk (by decide))]
  match k, hk with
  | 0, _ => decide
  | 1, _ => decide
  | 2, _ => decide
theorem pL_5 (n : Int) {k : Nat} (h1 : 4 ≤ k) (h2 : k < 7 + (numL n).length + 1) : (pL n).cps.toList[k]? ≠ some 41 := by
  rcases Nat.lt_or_ge k 7 with q1 | q1
  · rw [pL_low q1]
    match k, h1, q1 with
    | 4, _, _ => decide
    | 5, _, _ => decide
    | 6, _, _ => decide
  · rcases Nat.lt_or_ge k (7 + (numL n).length) with q2 | q2
    · rw [pL_at q1 q2]
      exact fun e => no_sign (n := n) (by decide) (by decide) (List.mem_of_getElem? e)
    · have : k = 7 + (numL n).length + 0 := Nat.le_antisymm (Nat.le_of_lt_succ h2) q2
      rw [this, pL_at2]; decide
theorem pL_8 (n : Int) : Txt.slice (pL n) (some ((4 : Nat) : Int)) (some ((7 + (numL n).length + 1 : Nat) : Int)) = yL n := by
  have e : (pL n).length = 7 + (numL n).length + 1 + 1 := by rw [pL_len]; omega
  rw [slice_mid (by omega) (by rw [e]; exact Nat.le_succ _), pL_list]
  clear e
  unfold yL
  congr 1
  rw [List.append_assoc, List.drop_append_of_le_length (by decide)]
  show (List.take (7 + (numL n).length + 1 - 4) ([124, 124, 124] ++ (numL n ++ [124, 41]))).toArray = _
  congr 1
  have e : 7 + (numL n).length + 1 - 4 = ([124, 124, 124] ++ numL n ++ [124]).length := by simp; omega
  rw [show ([124, 124, 124] ++ (numL n ++ [124, 41]) : List Nat) = ([124, 124, 124] ++ numL n ++ [124]) ++ [41] from by simp, e, List.take_left]
theorem pL_9 (n : Int) : Txt.split (yL n) ⟨#[124]⟩ = [⟨#[]⟩, ⟨#[]⟩, ⟨#[]⟩, ⟨(numL n).toArray⟩, ⟨#[]⟩] := by
  refine split_is (p := []) (r := [[], [], numL n, []]) (by simp [yL, catL]) ?_
  exact List.forall_mem_cons.mpr ⟨List.not_mem_nil, List.forall_mem_cons.mpr ⟨List.not_mem_nil, List.forall_mem_cons.mpr ⟨List.not_mem_nil, List.forall_mem_cons.mpr ⟨no_sign (by decide) (by decide), List.forall_mem_cons.mpr ⟨List.not_mem_nil, List.forall_mem_nil _⟩⟩⟩⟩⟩
theorem portK_of {n : Int} (h : goodN n = true) : portK n = true := by
  have hn : n.natAbs < 10 ^ 9 := of_decide_eq_true h
  have hl := num_len hn
  have a10 := num_back hn
  clear hn h
  have pl : (pL n).length = 7 + (numL n).length + 1 + 1 := by rw [pL_len]; omega
  have e8 : (((pL n).length : Int) - 1) = ((7 + (numL n).length + 1 : Nat) : Int) := by rw [pl]; omega
  have e7 : (((7 + (numL n).length + 1 : Nat) : Int) - 1) = ((7 + (numL n).length + 0 : Nat) : Int) := by omega
  have a5 : Txt.find3 (pL n) ⟨#[41]⟩ (3 + 1) = ((7 + (numL n).length + 1 : Nat) : Int) := find_from (lo := 4) (by omega) pL_at2 fun k h1 h2 => pL_5 n h1 h2
  have a6 : Txt.item (pL n) (3 + 1) = ⟨#[124]⟩ := item_one (i := 4) (pL_low (by decide))
  have a7 : Txt.item (pL n) ((7 + (numL n).length + 0 : Nat) : Int) = ⟨#[124]⟩ := item_one (pL_at2 (j := 0))
  have a8 : Txt.slice (pL n) (some (3 + 1)) (some ((7 + (numL n).length + 1 : Nat) : Int)) = yL n := pL_8 n
  have l1 : decide ((⟨(numL n).toArray⟩ : PySem.Str).length ≤ 640) = true := decide_eq_true (show (numL n).length ≤ 640 from Nat.le_trans hl.2 (by decide))
  have l2 : decide ((yL n).length ≤ 1000) = true := decide_eq_true (by have : (yL n).length = (numL n).length + 4 := by simp [yL, PySem.Str.length]
                                                                       rw [this]; exact Nat.le_trans (Nat.add_le_add_right hl.2 4) (by decide))
  have l3 : decide ((pL n).length < 100) = true := decide_eq_true (by rw [pl]; omega)
  have l4 : decide ((9 : Int) ≤ ((7 + (numL n).length + 1 : Nat) : Int)) = true := decide_eq_true (by omega)
  unfold portK
  rw [e8, e7, pL_3, pL_4, a5, a6, a7, a8, pL_9, a10, l1, l2, l3, l4]
  simp only [beq_self_eq_true, Bool.and_self]
theorem pL_eq (n : Int) : PySem.Str.ofString "229(|||" ++ PySem.Str.ofString (toString n) ++ PySem.Str.ofString "|)" = pL n := by
  have e1 : PySem.Str.ofString "229(|||" = ⟨#[50, 50, 57, 40, 124, 124, 124]⟩ := by decide +kernel
  have e2 : PySem.Str.ofString "|)" = ⟨#[124, 41]⟩ := by decide +kernel
  rw [e1, e2, numL_eq]
  show (⟨#[50, 50, 57, 40, 124, 124, 124] ++ (numL n).toArray ++ #[124, 41]⟩ : PySem.Str) = ⟨_⟩
  congr 1
  simp
end Mine
end

section
open PySem PySem.W PyProof.Rows PySem.Calls
set_option maxRecDepth 100000
namespace Mine
example : True := by
  w_top off
  k_with_none
  trivial
example : True := by first | walk1 | trivial

end Mine
end

section
open PySem PySem.W PyProof.Rows PySem.Calls Builtin
set_option maxRecDepth 100000
set_option maxHeartbeats 4000000
namespace Mine
example : True := by
  w_top off
  k_with_none
  trivial
example : True := by first | walk1 | trivial
theorem slot_ci_next : Slot "callable_iterator" "__next__" "callable_iterator.__next__" :=
  .of (owner := "callable_iterator") (n := "__next__") (by rw [typeLookup_type, builtinLookup_eq_fast]; kernel_rfl) (by decide +kernel) (by decide +kernel) (by decide +kernel)
    (by first | exact .inl (by decide +kernel) | exact .inr (by decide +kernel)) (by rw [isSubtype_type]; kernel_rfl)
theorem slot_ci_iter : Slot "callable_iterator" "__iter__" "callable_iterator.__iter__" :=
  .of (owner := "callable_iterator") (n := "__iter__") (by rw [typeLookup_type, builtinLookup_eq_fast]; kernel_rfl) (by decide +kernel) (by decide +kernel) (by decide +kernel)
    (by first | exact .inl (by decide +kernel) | exact .inr (by decide +kernel)) (by rw [isSubtype_type]; kernel_rfl)
theorem entry_ci_next : entryFor table "callable_iterator.__next__" = some Builtin.«callable_iterator.__next__» := entryFor_of_tree (by kernel_rfl)
theorem entry_ci_iter : entryFor table "callable_iterator.__iter__" = some Builtin.«dict_keyiterator.__iter__» :=
  entryFor_alias (id' := "dict_keyiterator.__iter__") (by kernel_rfl) (by first | rfl | decide +kernel | (unfold String.splitOn; simp +decide [String.splitOnAux])) (by decide +kernel) (by kernel_rfl)
theorem args_ci_next (a : Value) : argsOk "callable_iterator.__next__" ⟨[a], []⟩ := by unfold argsOk; kernel_rfl
theorem args_ci_iter (a : Value) : argsOk "callable_iterator.__iter__" ⟨[a], []⟩ := by unfold argsOk; kernel_rfl
theorem kind_iter : builtinKind "iter" = none := by decide +kernel
theorem plain_iter : plainId "iter" = true := by decide +kernel
theorem entry_iter : entryFor table "iter" = some Builtin.«iter» := entryFor_of_tree (by kernel_rfl)
theorem args_iter2 (a b : Value) : argsOk "iter" ⟨[a, b], []⟩ := by unfold argsOk; kernel_rfl
theorem method_has_call : typeLookup (.type "method") (PySem.Str.ofString "__call__") = pure (some (.builtin "method.__call__")) := by rw [typeLookup_type, builtinLookup_eq_fast]; kernel_rfl

abbrev ciObj (mo : Addr) (t : Tok) : Obj := { cls := .type "callable_iterator", dict := none, data := .fields #[.ref mo, .str ⟨#[]⟩ t, .bool false], slots := #[] }

section
variable {prog : Program} {w : World} {A : Around} {E : Value → Shared → Prop} {s : Shared}
theorem iter_ci {mo : Addr} {f self : Value} {t : Tok} {Q : Value → Shared → Prop} (hm : s.heap.get? mo = some (methodObj f self))
    (h : Q (.ref s.heap.objs.size) { s with heap := s.heap.push (ciObj mo t) }) : wpAny (model prog w) A (call (.builtin "iter") [.ref mo, .str ⟨#[]⟩ t]) Q E s := by
  refine call_function_tree kind_iter plain_iter entry_iter (args_iter2 _ _) ?_
  obtain ⟨hh, gn, dr, tk, os⟩ := s
  dsimp only at hm h
  have L0 : Looks (model prog w) hh (typeOf (.ref mo)) (.type "method") := (Looks.ld (part := some headPart) hm).andThen .now
  have L1 : Looks (model prog w) hh (specialOf (.ref mo) (PySem.Str.ofString "__call__")) (some (.builtin "method.__call__")) := L0.andThen (Looks.of_pure method_has_call)
  unfold Builtin.«iter»
  repeat lk
  exact h
theorem pyIter_ci {it mo : Addr} {t : Tok} {Q : Value → Shared → Prop} (hit : s.heap.get? it = some (ciObj mo t)) (h : Q (.ref it) s) : wpAny (model prog w) A (pyIter (.ref it)) Q E s := by
  have hT : s.TypeIs (.ref it) "callable_iterator" := ⟨_, hit, rfl⟩
  refine wpAny_pyIter_slot hT slot_ci_iter (wpAny_call_entry slot_ci_iter hT entry_ci_iter ?_ (args_ci_iter _))
  show wpAny _ _ (ret (.ref it)) _ _ s
  exact wpAny_pure ⟨_, rfl, "callable_iterator", _, hT, slot_ci_next.lookup, h⟩
theorem next_ci {it mo f x : Addr} {t : Tok} {fo : Obj} {fd : FuncData} {Q : Option Value → Shared → Prop} (hh : A.handled = none) (hit : s.heap.get? it = some (ciObj mo t)) (hm : s.heap.get? mo = some (methodObj (.ref f) (.ref x)))
    (hf : s.heap.get? f = some fo) (hfd : fo.data = .func fd)
    (hc : codeAny (model prog w) A.in1 (.call (.ref f) ⟨[.ref x], []⟩) (fun r s' => ∃ y t', r = .ok (.ret (.str y t')) ∧ s'.heap.get? it = some (ciObj mo t) ∧ s'.heap.get? mo = some (methodObj (.ref f) (.ref x)) ∧ s'.heap.get? f = some fo ∧
       (((⟨#[]⟩ : PySem.Str) == y) = false → Q (some (.str y t')) s') ∧ (((⟨#[]⟩ : PySem.Str) == y) = true → ∀ h', Heap.ExtBut it s'.heap h' → Q none { s' with heap := h' })) s) :
    wpAny (model prog w) A (pyNext (.ref it)) Q E s := by
  have hT : s.TypeIs (.ref it) "callable_iterator" := ⟨_, hit, rfl⟩
  unfold pyNext
  refine wpAny_bind (wpAny_attempt (wpAny_callSpecial?_slot (name := Str.ofString "__next__") hT slot_ci_next
    (wpAny_call_entry slot_ci_next hT entry_ci_next ?_ (args_ci_next _))))
  obtain ⟨hp, gn, dr, tk, os⟩ := s
  obtain ⟨fc, fdd, fdat, fsl⟩ := fo
  dsimp only at hit hm hf hfd
  subst hfd
  unfold Builtin.«callable_iterator.__next__»
  repeat lk
  refine X.x_call ?_ (by intro x; cases x)
  rw [Around.mark_none]
  refine method_call hm ?_
  refine codeAny_mono hc (fun r s' h => ?_)
  obtain ⟨y, t', rfl, e1, e2, e3, h1, h2⟩ := h
  obtain ⟨hp', gn', dr', tk', os'⟩ := s'
  dsimp only at e1 e2 e3
  refine wpAny_pure ?_
  dsimp only
  repeat lk
  (show wpAny _ _ (eqBool (.str ⟨#[]⟩ t) (.str y t')) _ _ _)
  refine eqBool_str ?_
  cases hb : ((⟨#[]⟩ : PySem.Str) == y) with
  | false => exact wpAny_pure ⟨_, rfl, wpAny_pure (h1 hb)⟩
  | true =>
    rw [if_neg (by decide)]
    repeat lk
    refine wpAny_update e1 ?_
    have i1 := Heap.get?_update_self (Obj.mapFields fun x => x.setIfInBounds 0 Value.none) e1 rfl
    refine wpAny_bind (wpAny_setField_rec (vs := #[.none, .str ⟨#[]⟩ t, .bool false]) i1 (by simp) fun g2 i2 b2 => ?_)
    refine wpAny_setField_rec i2 (by simp) fun g3 i3 b3 => ?_
    have b1 : Heap.SameBut it hp' (hp'.update it (Obj.mapFields fun x => x.setIfInBounds 0 Value.none)) := Heap.SameBut.update ..
    (show wpAny _ _ (newExc (.type "StopIteration") [] >>= _) _ _ _)
    refine wpAny_bind ?_
    simp only [newExc, newTuple]
    refine wpAny_bind (wpAny_newObj_type ?_ (by size_fits))
    refine wpAny_bind (m := firstArgMember _ _) (wpAny_of_eq (a := Value.none) (by first | rfl | (simp only [firstArgMember]; rfl)) ?_)
    refine wpAny_newObj_type ?_ (by size_fits)
    simp only [raiseNew]
    refine wpAny_bind (wpAny_handled ?_)
    first | rw [show A.in1.handled = none from hh] | rw [hh]
    refine wpAny_bind (wpAny_pure (wpAny_throw ?_))
    refine wpAny_bind (wpAny_isInstance (T := "StopIteration") (b := true) ⟨_, Heap.get?_push_size _ rfl, rfl⟩ isSubtype_stop ?_)
    exact wpAny_pure (h2 hb _ ((((b1.trans b2).trans b3).extBut.push _).push _))
end
end Mine
end

section
open PySem PySem.W PyProof.Rows PySem.Calls
namespace Mine
example : True := by
  w_top off
  k_with_none
  trivial
example : True := by first | walk1 | trivial
/-- a counterexample, if there is one -/
noncomputable def eps {α : Type} (i : Nonempty α) (P : α → Prop) : α := @Classical.epsilon α i fun x => ¬ P x
theorem all_eps {α : Type} (i : Nonempty α) {P : α → Prop} (h : P (eps i P)) : ∀ x, P x := fun x => Classical.byContradiction fun hx => Classical.epsilon_spec (p := fun x => ¬ P x) ⟨x, hx⟩ h
theorem neP {α β : Type} (a : Nonempty α) (b : Nonempty β) : Nonempty (α × β) := a.elim fun x => b.elim fun y => ⟨(x, y)⟩
theorem neS : Nonempty Shared := ⟨{}⟩
theorem neW : Nonempty World := ⟨⟨fun _ _ => 0, { strHash := fun _ => 0, shareClass := fun _ => 0, mergeTok := id, idOf := fun _ => 0, idOfShared := fun _ _ => 0, followText := fun _ => false, idOfImm := fun _ => 0 }⟩⟩
theorem neI {α : Type} [i : Inhabited α] : Nonempty α := ⟨default⟩
theorem pad {α : Prop} (h : Nat → α) : α := h 0
theorem pad0 {α : Prop} (h : ∀ _z : Nat, α) : α := h 0
noncomputable def eps6 {α1 α2 α3 α4 α5 α6 : Type} (i : Nonempty (α1 × α2 × α3 × α4 × α5 × α6)) (P : α1 → α2 → α3 → α4 → α5 → α6 → Prop) : α1 × α2 × α3 × α4 × α5 × α6 := eps i fun t => P t.1 t.2.1 t.2.2.1 t.2.2.2.1 t.2.2.2.2.1 t.2.2.2.2.2
theorem all_eps6 {α1 α2 α3 α4 α5 α6 : Type} (i : Nonempty (α1 × α2 × α3 × α4 × α5 × α6)) {P : α1 → α2 → α3 → α4 → α5 → α6 → Prop} (h : P ((eps6 i P).1) ((eps6 i P).2.1) ((eps6 i P).2.2.1) ((eps6 i P).2.2.2.1) ((eps6 i P).2.2.2.2.1) ((eps6 i P).2.2.2.2.2)) : ∀ x1 x2 x3 x4 x5 x6, P x1 x2 x3 x4 x5 x6 :=
  fun x1 x2 x3 x4 x5 x6 => all_eps i (P := fun t => P t.1 t.2.1 t.2.2.1 t.2.2.2.1 t.2.2.2.2.1 t.2.2.2.2.2) h (x1, x2, x3, x4, x5, x6)
noncomputable def eps9 {α1 α2 α3 α4 α5 α6 α7 α8 α9 : Type} (i : Nonempty (α1 × α2 × α3 × α4 × α5 × α6 × α7 × α8 × α9)) (P : α1 → α2 → α3 → α4 → α5 → α6 → α7 → α8 → α9 → Prop) : α1 × α2 × α3 × α4 × α5 × α6 × α7 × α8 × α9 := eps i fun t => P t.1 t.2.1 t.2.2.1 t.2.2.2.1 t.2.2.2.2.1 t.2.2.2.2.2.1 t.2.2.2.2.2.2.1 t.2.2.2.2.2.2.2.1 t.2.2.2.2.2.2.2.2
theorem all_eps9 {α1 α2 α3 α4 α5 α6 α7 α8 α9 : Type} (i : Nonempty (α1 × α2 × α3 × α4 × α5 × α6 × α7 × α8 × α9)) {P : α1 → α2 → α3 → α4 → α5 → α6 → α7 → α8 → α9 → Prop} (h : P ((eps9 i P).1) ((eps9 i P).2.1) ((eps9 i P).2.2.1) ((eps9 i P).2.2.2.1) ((eps9 i P).2.2.2.2.1) ((eps9 i P).2.2.2.2.2.1) ((eps9 i P).2.2.2.2.2.2.1) ((eps9 i P).2.2.2.2.2.2.2.1) ((eps9 i P).2.2.2.2.2.2.2.2)) : ∀ x1 x2 x3 x4 x5 x6 x7 x8 x9, P x1 x2 x3 x4 x5 x6 x7 x8 x9 :=
  fun x1 x2 x3 x4 x5 x6 x7 x8 x9 => all_eps i (P := fun t => P t.1 t.2.1 t.2.2.1 t.2.2.2.1 t.2.2.2.2.1 t.2.2.2.2.2.1 t.2.2.2.2.2.2.1 t.2.2.2.2.2.2.2.1 t.2.2.2.2.2.2.2.2) h (x1, x2, x3, x4, x5, x6, x7, x8, x9)
noncomputable def eps14 {α1 α2 α3 α4 α5 α6 α7 α8 α9 α10 α11 α12 α13 α14 : Type} (i : Nonempty (α1 × α2 × α3 × α4 × α5 × α6 × α7 × α8 × α9 × α10 × α11 × α12 × α13 × α14)) (P : α1 → α2 → α3 → α4 → α5 → α6 → α7 → α8 → α9 → α10 → α11 → α12 → α13 → α14 → Prop) : α1 × α2 × α3 × α4 × α5 × α6 × α7 × α8 × α9 × α10 × α11 × α12 × α13 × α14 := eps i fun t => P t.1 t.2.1 t.2.2.1 t.2.2.2.1 t.2.2.2.2.1 t.2.2.2.2.2.1 t.2.2.2.2.2.2.1 t.2.2.2.2.2.2.2.1 t.2.2.2.2.2.2.2.2.1 t.2.2.2.2.2.2.2.2.2.1 t.2.2.2.2.2.2.2.2.2.2.1 t.2.2.2.2.2.2.2.2.2.2.2.1 t.2.2.2.2.2.2.2.2.2.2.2.2.1 t.2.2.2.2.2.2.2.2.2.2.2.2.2
theorem all_eps14 {α1 α2 α3 α4 α5 α6 α7 α8 α9 α10 α11 α12 α13 α14 : Type} (i : Nonempty (α1 × α2 × α3 × α4 × α5 × α6 × α7 × α8 × α9 × α10 × α11 × α12 × α13 × α14)) {P : α1 → α2 → α3 → α4 → α5 → α6 → α7 → α8 → α9 → α10 → α11 → α12 → α13 → α14 → Prop} (h : P ((eps14 i P).1) ((eps14 i P).2.1) ((eps14 i P).2.2.1) ((eps14 i P).2.2.2.1) ((eps14 i P).2.2.2.2.1) ((eps14 i P).2.2.2.2.2.1) ((eps14 i P).2.2.2.2.2.2.1) ((eps14 i P).2.2.2.2.2.2.2.1) ((eps14 i P).2.2.2.2.2.2.2.2.1) ((eps14 i P).2.2.2.2.2.2.2.2.2.1) ((eps14 i P).2.2.2.2.2.2.2.2.2.2.1) ((eps14 i P).2.2.2.2.2.2.2.2.2.2.2.1) ((eps14 i P).2.2.2.2.2.2.2.2.2.2.2.2.1) ((eps14 i P).2.2.2.2.2.2.2.2.2.2.2.2.2)) : ∀ x1 x2 x3 x4 x5 x6 x7 x8 x9 x10 x11 x12 x13 x14, P x1 x2 x3 x4 x5 x6 x7 x8 x9 x10 x11 x12 x13 x14 :=
  fun x1 x2 x3 x4 x5 x6 x7 x8 x9 x10 x11 x12 x13 x14 => all_eps i (P := fun t => P t.1 t.2.1 t.2.2.1 t.2.2.2.1 t.2.2.2.2.1 t.2.2.2.2.2.1 t.2.2.2.2.2.2.1 t.2.2.2.2.2.2.2.1 t.2.2.2.2.2.2.2.2.1 t.2.2.2.2.2.2.2.2.2.1 t.2.2.2.2.2.2.2.2.2.2.1 t.2.2.2.2.2.2.2.2.2.2.2.1 t.2.2.2.2.2.2.2.2.2.2.2.2.1 t.2.2.2.2.2.2.2.2.2.2.2.2.2) h (x1, x2, x3, x4, x5, x6, x7, x8, x9, x10, x11, x12, x13, x14)
noncomputable def eps18 {α1 α2 α3 α4 α5 α6 α7 α8 α9 α10 α11 α12 α13 α14 α15 α16 α17 α18 : Type} (i : Nonempty (α1 × α2 × α3 × α4 × α5 × α6 × α7 × α8 × α9 × α10 × α11 × α12 × α13 × α14 × α15 × α16 × α17 × α18)) (P : α1 → α2 → α3 → α4 → α5 → α6 → α7 → α8 → α9 → α10 → α11 → α12 → α13 → α14 → α15 → α16 → α17 → α18 → Prop) : α1 × α2 × α3 × α4 × α5 × α6 × α7 × α8 × α9 × α10 × α11 × α12 × α13 × α14 × α15 × α16 × α17 × α18 := eps i fun t => P t.1 t.2.1 t.2.2.1 t.2.2.2.1 t.2.2.2.2.1 t.2.2.2.2.2.1 t.2.2.2.2.2.2.1 t.2.2.2.2.2.2.2.1 t.2.2.2.2.2.2.2.2.1 t.2.2.2.2.2.2.2.2.2.1 t.2.2.2.2.2.2.2.2.2.2.1 t.2.2.2.2.2.2.2.2.2.2.2.1 t.2.2.2.2.2.2.2.2.2.2.2.2.1 t.2.2.2.2.2.2.2.2.2.2.2.2.2.1 t.2.2.2.2.2.2.2.2.2.2.2.2.2.2.1 t.2.2.2.2.2.2.2.2.2.2.2.2.2.2.2.1 t.2.2.2.2.2.2.2.2.2.2.2.2.2.2.2.2.1 t.2.2.2.2.2.2.2.2.2.2.2.2.2.2.2.2.2
theorem all_eps18 {α1 α2 α3 α4 α5 α6 α7 α8 α9 α10 α11 α12 α13 α14 α15 α16 α17 α18 : Type} (i : Nonempty (α1 × α2 × α3 × α4 × α5 × α6 × α7 × α8 × α9 × α10 × α11 × α12 × α13 × α14 × α15 × α16 × α17 × α18)) {P : α1 → α2 → α3 → α4 → α5 → α6 → α7 → α8 → α9 → α10 → α11 → α12 → α13 → α14 → α15 → α16 → α17 → α18 → Prop} (h : P ((eps18 i P).1) ((eps18 i P).2.1) ((eps18 i P).2.2.1) ((eps18 i P).2.2.2.1) ((eps18 i P).2.2.2.2.1) ((eps18 i P).2.2.2.2.2.1) ((eps18 i P).2.2.2.2.2.2.1) ((eps18 i P).2.2.2.2.2.2.2.1) ((eps18 i P).2.2.2.2.2.2.2.2.1) ((eps18 i P).2.2.2.2.2.2.2.2.2.1) ((eps18 i P).2.2.2.2.2.2.2.2.2.2.1) ((eps18 i P).2.2.2.2.2.2.2.2.2.2.2.1) ((eps18 i P).2.2.2.2.2.2.2.2.2.2.2.2.1) ((eps18 i P).2.2.2.2.2.2.2.2.2.2.2.2.2.1) ((eps18 i P).2.2.2.2.2.2.2.2.2.2.2.2.2.2.1) ((eps18 i P).2.2.2.2.2.2.2.2.2.2.2.2.2.2.2.1) ((eps18 i P).2.2.2.2.2.2.2.2.2.2.2.2.2.2.2.2.1) ((eps18 i P).2.2.2.2.2.2.2.2.2.2.2.2.2.2.2.2.2)) : ∀ x1 x2 x3 x4 x5 x6 x7 x8 x9 x10 x11 x12 x13 x14 x15 x16 x17 x18, P x1 x2 x3 x4 x5 x6 x7 x8 x9 x10 x11 x12 x13 x14 x15 x16 x17 x18 :=
  fun x1 x2 x3 x4 x5 x6 x7 x8 x9 x10 x11 x12 x13 x14 x15 x16 x17 x18 => all_eps i (P := fun t => P t.1 t.2.1 t.2.2.1 t.2.2.2.1 t.2.2.2.2.1 t.2.2.2.2.2.1 t.2.2.2.2.2.2.1 t.2.2.2.2.2.2.2.1 t.2.2.2.2.2.2.2.2.1 t.2.2.2.2.2.2.2.2.2.1 t.2.2.2.2.2.2.2.2.2.2.1 t.2.2.2.2.2.2.2.2.2.2.2.1 t.2.2.2.2.2.2.2.2.2.2.2.2.1 t.2.2.2.2.2.2.2.2.2.2.2.2.2.1 t.2.2.2.2.2.2.2.2.2.2.2.2.2.2.1 t.2.2.2.2.2.2.2.2.2.2.2.2.2.2.2.1 t.2.2.2.2.2.2.2.2.2.2.2.2.2.2.2.2.1 t.2.2.2.2.2.2.2.2.2.2.2.2.2.2.2.2.2) h (x1, x2, x3, x4, x5, x6, x7, x8, x9, x10, x11, x12, x13, x14, x15, x16, x17, x18)
noncomputable def eps22 {α1 α2 α3 α4 α5 α6 α7 α8 α9 α10 α11 α12 α13 α14 α15 α16 α17 α18 α19 α20 α21 α22 : Type} (i : Nonempty (α1 × α2 × α3 × α4 × α5 × α6 × α7 × α8 × α9 × α10 × α11 × α12 × α13 × α14 × α15 × α16 × α17 × α18 × α19 × α20 × α21 × α22)) (P : α1 → α2 → α3 → α4 → α5 → α6 → α7 → α8 → α9 → α10 → α11 → α12 → α13 → α14 → α15 → α16 → α17 → α18 → α19 → α20 → α21 → α22 → Prop) : α1 × α2 × α3 × α4 × α5 × α6 × α7 × α8 × α9 × α10 × α11 × α12 × α13 × α14 × α15 × α16 × α17 × α18 × α19 × α20 × α21 × α22 := eps i fun t => P t.1 t.2.1 t.2.2.1 t.2.2.2.1 t.2.2.2.2.1 t.2.2.2.2.2.1 t.2.2.2.2.2.2.1 t.2.2.2.2.2.2.2.1 t.2.2.2.2.2.2.2.2.1 t.2.2.2.2.2.2.2.2.2.1 t.2.2.2.2.2.2.2.2.2.2.1 t.2.2.2.2.2.2.2.2.2.2.2.1 t.2.2.2.2.2.2.2.2.2.2.2.2.1 t.2.2.2.2.2.2.2.2.2.2.2.2.2.1 t.2.2.2.2.2.2.2.2.2.2.2.2.2.2.1 t.2.2.2.2.2.2.2.2.2.2.2.2.2.2.2.1 t.2.2.2.2.2.2.2.2.2.2.2.2.2.2.2.2.1 t.2.2.2.2.2.2.2.2.2.2.2.2.2.2.2.2.2.1 t.2.2.2.2.2.2.2.2.2.2.2.2.2.2.2.2.2.2.1 t.2.2.2.2.2.2.2.2.2.2.2.2.2.2.2.2.2.2.2.1 t.2.2.2.2.2.2.2.2.2.2.2.2.2.2.2.2.2.2.2.2.1 t.2.2.2.2.2.2.2.2.2.2.2.2.2.2.2.2.2.2.2.2.2
theorem all_eps22 {α1 α2 α3 α4 α5 α6 α7 α8 α9 α10 α11 α12 α13 α14 α15 α16 α17 α18 α19 α20 α21 α22 : Type} (i : Nonempty (α1 × α2 × α3 × α4 × α5 × α6 × α7 × α8 × α9 × α10 × α11 × α12 × α13 × α14 × α15 × α16 × α17 × α18 × α19 × α20 × α21 × α22)) {P : α1 → α2 → α3 → α4 → α5 → α6 → α7 → α8 → α9 → α10 → α11 → α12 → α13 → α14 → α15 → α16 → α17 → α18 → α19 → α20 → α21 → α22 → Prop} (h : P ((eps22 i P).1) ((eps22 i P).2.1) ((eps22 i P).2.2.1) ((eps22 i P).2.2.2.1) ((eps22 i P).2.2.2.2.1) ((eps22 i P).2.2.2.2.2.1) ((eps22 i P).2.2.2.2.2.2.1) ((eps22 i P).2.2.2.2.2.2.2.1) ((eps22 i P).2.2.2.2.2.2.2.2.1) ((eps22 i P).2.2.2.2.2.2.2.2.2.1) ((eps22 i P).2.2.2.2.2.2.2.2.2.2.1) ((eps22 i P).2.2.2.2.2.2.2.2.2.2.2.1) ((eps22 i P).2.2.2.2.2.2.2.2.2.2.2.2.1) ((eps22 i P).2.2.2.2.2.2.2.2.2.2.2.2.2.1) ((eps22 i P).2.2.2.2.2.2.2.2.2.2.2.2.2.2.1) ((eps22 i P).2.2.2.2.2.2.2.2.2.2.2.2.2.2.2.1) ((eps22 i P).2.2.2.2.2.2.2.2.2.2.2.2.2.2.2.2.1) ((eps22 i P).2.2.2.2.2.2.2.2.2.2.2.2.2.2.2.2.2.1) ((eps22 i P).2.2.2.2.2.2.2.2.2.2.2.2.2.2.2.2.2.2.1) ((eps22 i P).2.2.2.2.2.2.2.2.2.2.2.2.2.2.2.2.2.2.2.1) ((eps22 i P).2.2.2.2.2.2.2.2.2.2.2.2.2.2.2.2.2.2.2.2.1) ((eps22 i P).2.2.2.2.2.2.2.2.2.2.2.2.2.2.2.2.2.2.2.2.2)) : ∀ x1 x2 x3 x4 x5 x6 x7 x8 x9 x10 x11 x12 x13 x14 x15 x16 x17 x18 x19 x20 x21 x22, P x1 x2 x3 x4 x5 x6 x7 x8 x9 x10 x11 x12 x13 x14 x15 x16 x17 x18 x19 x20 x21 x22 :=
  fun x1 x2 x3 x4 x5 x6 x7 x8 x9 x10 x11 x12 x13 x14 x15 x16 x17 x18 x19 x20 x21 x22 => all_eps i (P := fun t => P t.1 t.2.1 t.2.2.1 t.2.2.2.1 t.2.2.2.2.1 t.2.2.2.2.2.1 t.2.2.2.2.2.2.1 t.2.2.2.2.2.2.2.1 t.2.2.2.2.2.2.2.2.1 t.2.2.2.2.2.2.2.2.2.1 t.2.2.2.2.2.2.2.2.2.2.1 t.2.2.2.2.2.2.2.2.2.2.2.1 t.2.2.2.2.2.2.2.2.2.2.2.2.1 t.2.2.2.2.2.2.2.2.2.2.2.2.2.1 t.2.2.2.2.2.2.2.2.2.2.2.2.2.2.1 t.2.2.2.2.2.2.2.2.2.2.2.2.2.2.2.1 t.2.2.2.2.2.2.2.2.2.2.2.2.2.2.2.2.1 t.2.2.2.2.2.2.2.2.2.2.2.2.2.2.2.2.2.1 t.2.2.2.2.2.2.2.2.2.2.2.2.2.2.2.2.2.2.1 t.2.2.2.2.2.2.2.2.2.2.2.2.2.2.2.2.2.2.2.1 t.2.2.2.2.2.2.2.2.2.2.2.2.2.2.2.2.2.2.2.2.1 t.2.2.2.2.2.2.2.2.2.2.2.2.2.2.2.2.2.2.2.2.2) h (x1, x2, x3, x4, x5, x6, x7, x8, x9, x10, x11, x12, x13, x14, x15, x16, x17, x18, x19, x20, x21, x22)
noncomputable def eps28 {α1 α2 α3 α4 α5 α6 α7 α8 α9 α10 α11 α12 α13 α14 α15 α16 α17 α18 α19 α20 α21 α22 α23 α24 α25 α26 α27 α28 : Type} (i : Nonempty (α1 × α2 × α3 × α4 × α5 × α6 × α7 × α8 × α9 × α10 × α11 × α12 × α13 × α14 × α15 × α16 × α17 × α18 × α19 × α20 × α21 × α22 × α23 × α24 × α25 × α26 × α27 × α28)) (P : α1 → α2 → α3 → α4 → α5 → α6 → α7 → α8 → α9 → α10 → α11 → α12 → α13 → α14 → α15 → α16 → α17 → α18 → α19 → α20 → α21 → α22 → α23 → α24 → α25 → α26 → α27 → α28 → Prop) : α1 × α2 × α3 × α4 × α5 × α6 × α7 × α8 × α9 × α10 × α11 × α12 × α13 × α14 × α15 × α16 × α17 × α18 × α19 × α20 × α21 × α22 × α23 × α24 × α25 × α26 × α27 × α28 := eps i fun t => P t.1 t.2.1 t.2.2.1 t.2.2.2.1 t.2.2.2.2.1 t.2.2.2.2.2.1 t.2.2.2.2.2.2.1 t.2.2.2.2.2.2.2.1 t.2.2.2.2.2.2.2.2.1 t.2.2.2.2.2.2.2.2.2.1 t.2.2.2.2.2.2.2.2.2.2.1 t.2.2.2.2.2.2.2.2.2.2.2.1 t.2.2.2.2.2.2.2.2.2.2.2.2.1 t.2.2.2.2.2.2.2.2.2.2.2.2.2.1 t.2.2.2.2.2.2.2.2.2.2.2.2.2.2.1 t.2.2.2.2.2.2.2.2.2.2.2.2.2.2.2.1 t.2.2.2.2.2.2.2.2.2.2.2.2.2.2.2.2.1 t.2.2.2.2.2.2.2.2.2.2.2.2.2.2.2.2.2.1 t.2.2.2.2.2.2.2.2.2.2.2.2.2.2.2.2.2.2.1 t.2.2.2.2.2.2.2.2.2.2.2.2.2.2.2.2.2.2.2.1 t.2.2.2.2.2.2.2.2.2.2.2.2.2.2.2.2.2.2.2.2.1 t.2.2.2.2.2.2.2.2.2.2.2.2.2.2.2.2.2.2.2.2.2.1 t.2.2.2.2.2.2.2.2.2.2.2.2.2.2.2.2.2.2.2.2.2.2.1 t.2.2.2.2.2.2.2.2.2.2.2.2.2.2.2.2.2.2.2.2.2.2.2.1 t.2.2.2.2.2.2.2.2.2.2.2.2.2.2.2.2.2.2.2.2.2.2.2.2.1 t.2.2.2.2.2.2.2.2.2.2.2.2.2.2.2.2.2.2.2.2.2.2.2.2.2.1 t.2.2.2.2.2.2.2.2.2.2.2.2.2.2.2.2.2.2.2.2.2.2.2.2.2.2.1 t.2.2.2.2.2.2.2.2.2.2.2.2.2.2.2.2.2.2.2.2.2.2.2.2.2.2.2
theorem all_eps28 {α1 α2 α3 α4 α5 α6 α7 α8 α9 α10 α11 α12 α13 α14 α15 α16 α17 α18 α19 α20 α21 α22 α23 α24 α25 α26 α27 α28 : Type} (i : Nonempty (α1 × α2 × α3 × α4 × α5 × α6 × α7 × α8 × α9 × α10 × α11 × α12 × α13 × α14 × α15 × α16 × α17 × α18 × α19 × α20 × α21 × α22 × α23 × α24 × α25 × α26 × α27 × α28)) {P : α1 → α2 → α3 → α4 → α5 → α6 → α7 → α8 → α9 → α10 → α11 → α12 → α13 → α14 → α15 → α16 → α17 → α18 → α19 → α20 → α21 → α22 → α23 → α24 → α25 → α26 → α27 → α28 → Prop} (h : P ((eps28 i P).1) ((eps28 i P).2.1) ((eps28 i P).2.2.1) ((eps28 i P).2.2.2.1) ((eps28 i P).2.2.2.2.1) ((eps28 i P).2.2.2.2.2.1) ((eps28 i P).2.2.2.2.2.2.1) ((eps28 i P).2.2.2.2.2.2.2.1) ((eps28 i P).2.2.2.2.2.2.2.2.1) ((eps28 i P).2.2.2.2.2.2.2.2.2.1) ((eps28 i P).2.2.2.2.2.2.2.2.2.2.1) ((eps28 i P).2.2.2.2.2.2.2.2.2.2.2.1) ((eps28 i P).2.2.2.2.2.2.2.2.2.2.2.2.1) ((eps28 i P).2.2.2.2.2.2.2.2.2.2.2.2.2.1) ((eps28 i P).2.2.2.2.2.2.2.2.2.2.2.2.2.2.1) ((eps28 i P).2.2.2.2.2.2.2.2.2.2.2.2.2.2.2.1) ((eps28 i P).2.2.2.2.2.2.2.2.2.2.2.2.2.2.2.2.1) ((eps28 i P).2.2.2.2.2.2.2.2.2.2.2.2.2.2.2.2.2.1) ((eps28 i P).2.2.2.2.2.2.2.2.2.2.2.2.2.2.2.2.2.2.1) ((eps28 i P).2.2.2.2.2.2.2.2.2.2.2.2.2.2.2.2.2.2.2.1) ((eps28 i P).2.2.2.2.2.2.2.2.2.2.2.2.2.2.2.2.2.2.2.2.1) ((eps28 i P).2.2.2.2.2.2.2.2.2.2.2.2.2.2.2.2.2.2.2.2.2.1) ((eps28 i P).2.2.2.2.2.2.2.2.2.2.2.2.2.2.2.2.2.2.2.2.2.2.1) ((eps28 i P).2.2.2.2.2.2.2.2.2.2.2.2.2.2.2.2.2.2.2.2.2.2.2.1) ((eps28 i P).2.2.2.2.2.2.2.2.2.2.2.2.2.2.2.2.2.2.2.2.2.2.2.2.1) ((eps28 i P).2.2.2.2.2.2.2.2.2.2.2.2.2.2.2.2.2.2.2.2.2.2.2.2.2.1) ((eps28 i P).2.2.2.2.2.2.2.2.2.2.2.2.2.2.2.2.2.2.2.2.2.2.2.2.2.2.1) ((eps28 i P).2.2.2.2.2.2.2.2.2.2.2.2.2.2.2.2.2.2.2.2.2.2.2.2.2.2.2)) : ∀ x1 x2 x3 x4 x5 x6 x7 x8 x9 x10 x11 x12 x13 x14 x15 x16 x17 x18 x19 x20 x21 x22 x23 x24 x25 x26 x27 x28, P x1 x2 x3 x4 x5 x6 x7 x8 x9 x10 x11 x12 x13 x14 x15 x16 x17 x18 x19 x20 x21 x22 x23 x24 x25 x26 x27 x28 :=
  fun x1 x2 x3 x4 x5 x6 x7 x8 x9 x10 x11 x12 x13 x14 x15 x16 x17 x18 x19 x20 x21 x22 x23 x24 x25 x26 x27 x28 => all_eps i (P := fun t => P t.1 t.2.1 t.2.2.1 t.2.2.2.1 t.2.2.2.2.1 t.2.2.2.2.2.1 t.2.2.2.2.2.2.1 t.2.2.2.2.2.2.2.1 t.2.2.2.2.2.2.2.2.1 t.2.2.2.2.2.2.2.2.2.1 t.2.2.2.2.2.2.2.2.2.2.1 t.2.2.2.2.2.2.2.2.2.2.2.1 t.2.2.2.2.2.2.2.2.2.2.2.2.1 t.2.2.2.2.2.2.2.2.2.2.2.2.2.1 t.2.2.2.2.2.2.2.2.2.2.2.2.2.2.1 t.2.2.2.2.2.2.2.2.2.2.2.2.2.2.2.1 t.2.2.2.2.2.2.2.2.2.2.2.2.2.2.2.2.1 t.2.2.2.2.2.2.2.2.2.2.2.2.2.2.2.2.2.1 t.2.2.2.2.2.2.2.2.2.2.2.2.2.2.2.2.2.2.1 t.2.2.2.2.2.2.2.2.2.2.2.2.2.2.2.2.2.2.2.1 t.2.2.2.2.2.2.2.2.2.2.2.2.2.2.2.2.2.2.2.2.1 t.2.2.2.2.2.2.2.2.2.2.2.2.2.2.2.2.2.2.2.2.2.1 t.2.2.2.2.2.2.2.2.2.2.2.2.2.2.2.2.2.2.2.2.2.2.1 t.2.2.2.2.2.2.2.2.2.2.2.2.2.2.2.2.2.2.2.2.2.2.2.1 t.2.2.2.2.2.2.2.2.2.2.2.2.2.2.2.2.2.2.2.2.2.2.2.2.1 t.2.2.2.2.2.2.2.2.2.2.2.2.2.2.2.2.2.2.2.2.2.2.2.2.2.1 t.2.2.2.2.2.2.2.2.2.2.2.2.2.2.2.2.2.2.2.2.2.2.2.2.2.2.1 t.2.2.2.2.2.2.2.2.2.2.2.2.2.2.2.2.2.2.2.2.2.2.2.2.2.2.2) h (x1, x2, x3, x4, x5, x6, x7, x8, x9, x10, x11, x12, x13, x14, x15, x16, x17, x18, x19, x20, x21, x22, x23, x24, x25, x26, x27, x28)
end Mine
end

section
open PySem PySem.W PyProof.Rows PySem.Calls
set_option maxRecDepth 100000
set_option maxHeartbeats 8000000
namespace Mine
example : True := by
  w_top off
  k_with_none
  trivial
example : True := by first | walk1 | trivial
example : True := by
  k_with_none
  trivial
example : True := by
  k_with "setAttr" => ((k_here; k_dflt (refine' setfn_K (by k_asm) (by k_asm) (by k_updF) ?_); intro d' h' tk' t' F' N' l1; (try dsimp only at N'); (try k_lt l1); (try k_sweep)))
  k_with "m_rel" => ((refine' code_defN (by k_asm) (by k_asm) (by k_asm) (by k_asm) (by k_is) (by k_is) (by k_room) (by first | exact BindsTo.of_eq rfl | exact binds_K (by k_in) rfl (by k_is) rfl rfl rfl) (by exact locs rfl) ?_ (by exact rfl) (by exact rfl) (by exact rfl) (by decide); k_whole; intro g' L' h' tk' FG' F' N' X' T' l1' st'; (try dsimp only); (try k_lt l1'); (try k_fold)))
  k_with "call ref" => ((k_here; k_dflt (first
  | (refine' call_cls (by k_asm) (by k_asm) (by k_asm) (by k_is) (by k_is) (by k_is) ?_; k_whole; intro x' d' h' F' N' l1 l2; (try k_lt l1); (try k_lt2 l2); (try k_sweep); ktr_rel)
  | (refine wpAny_call ?_; ktr_rel))))
  trivial
/-- the order of the lexer's objects -/
abbrev Chain (x dx pb al fs d fr c' tc ac : Nat) : Prop := tc < ac ∧ ac < al ∧ al < c' ∧ c' < fr ∧ fr < fs ∧ fs < d ∧ d < dx ∧ dx < x ∧ x < pb
/-- the six objects that make up the stream -/
def StreamO (w : World) (text : PySem.Str) (al d fr c' tc ac : Addr) (o1 o2 o3 o4 o5 o6 : Obj) : Prop :=
  ∃ (fd : FuncData) (sl : Array (Option Value)) (t0 tt : Tok) (n : Nat) (name qual : PySem.Str) (params : Arguments) (body : List Stmt) (scope : Scope) (cl : List (PySem.Str × Addr)) (doc pm ct : Value) (vs : Array Value) (tq : Tok),
    o1 = ⟨.type "function", some d, .func fd, sl⟩ ∧ o2 = readDict w t0 (.ref fr) n ∧ o3.data = .func (fnX name qual params body scope cl .none .none doc pm none (.ref c') ct) ∧ IsReadOn w name params body scope ∧ cl.lookup (sT "text") = some tc ∧ cl.lookup (sT "at") = some ac ∧
    o4.data = .fields vs ∧ vs[1]? = some (.str qual tq) ∧ o5.data = .cell (some (.str text tt)) ∧ o6.data = .cell (some (.ref al))
theorem StreamO.at {w : World} {text : PySem.Str} {al fs d fr c' tc ac : Addr} {o1 o2 o3 o4 o5 o6 : Obj} (S : StreamO w text al d fr c' tc ac o1 o2 o3 o4 o5 o6) {h : Heap} (h1 : h.get? fs = some o1) (h2 : h.get? d = some o2) (h3 : h.get? fr = some o3) (h4 : h.get? c' = some o4) (h5 : h.get? tc = some o5) (h6 : h.get? ac = some o6) : StreamAt w h fs text al := by
  obtain ⟨fd, sl, t0, tt, n, name, qual, params, body, scope, cl, doc, pm, ct, vs, tq, rfl, rfl, e3, ir, e5, e6, e7, e8, e9, e10⟩ := S
  exact ⟨d, fr, c', tc, ac, fd, sl, t0, tt, n, o3, o5, o6, name, qual, params, body, scope, cl, doc, pm, ct, h1, h2, h3, e3, ir, e5, e6, ⟨c', o4, vs, tq, rfl, h4, e7, e8⟩, h5, e9, h6, e10⟩
theorem c_lexer {prog : Program} {w : World} {s : Shared} {h₀ : Heap} {E : Value → Shared → Prop} {Q : Value → Shared → Prop} (W : Wd w h₀) (st : h₀.StaysIn s.heap) {text : PySem.Str} {t : Tok}
   (h159 : s.heap.get? 159 = some (tabObj #[])) (h159' : h₀.get? 159 = none) (C : CodeHd h₀ 163 159)
   (post : ∀ x dx pb al fs d fr c' tc ac o1 o2 o3 o4 o5 o6 k1 k2 k3 k4 t1 t3 ta na np ps h' tk', Keeps s.heap h' [159] → h'.get? 159 = some (tabObj ps) → @LT.lt Nat _ s.heap.objs.size tc ∧ Chain x dx pb al fs d fr c' tc ac →
      h'.get? x = some (instObj 121 dx) → h'.get? dx = some (lexDict w k1 k2 k3 k4 t1 t3 1 fs pb) → h'.get? pb = some (listOf ([] : List Value).toArray np) → h'.get? al = some (listOf #[Value.int ((0 : Nat) : Int) ta] na) →
      h'.get? fs = some o1 → h'.get? d = some o2 → h'.get? fr = some o3 → h'.get? c' = some o4 → h'.get? tc = some o5 → h'.get? ac = some o6 → StreamO w text al d fr c' tc ac o1 o2 o3 o4 o5 o6 → Q (.ref x) { s with heap := h', toks := tk' }) :
   wpAny (model prog w) (AC 330 400) (call (.ref 164) [.str text t]) Q E s := by
  revert W st h159 h159' C post
  refine pad fun (zp0 : Nat) => ?_
  revert prog w s h₀ E Q text t zp0
  refine @(all_eps9 (neP neI (neP neW (neP neS (neP neI (neP neI (neP neI (neP neI (neP neI neI)))))))) ?_)
  generalize @eps9 _ _ _ _ _ _ _ _ _ _ _ = zt
  generalize zt.1 = prog, zt.2.1 = w, zt.2.2.1 = s, zt.2.2.2.1 = h₀, zt.2.2.2.2.1 = E, zt.2.2.2.2.2.1 = Q, zt.2.2.2.2.2.2.1 = text, zt.2.2.2.2.2.2.2.1 = t, zt.2.2.2.2.2.2.2.2 = zp0
  clear zt
  clear zp0
  intro W st h159 h159' C post
  refine enterPC (args := ⟨[.str text t], []⟩) W st (news := [(159, tabObj #[])]) (binds := [(PySem.Str.ofString "text", .str text t)]) (fun p hp => by cases hp with | head => exact ⟨h159, h159'⟩ | tail _ h => exact nomatch h) (by k_is) (by k_is) (by decide) (BindsTo.of_eq rfl) rfl (by decide +kernel) ?_ rfl rfl rfl 
  refine @(all_eps9 (neP neI (neP neI (neP neI (neP neI (neP neI (neP neI (neP neI (neP neI neI)))))))) ?_)
  generalize @eps9 _ _ _ _ _ _ _ _ _ _ _ = zt
  generalize zt.1 = g, zt.2.1 = h₁, zt.2.2.1 = tk, zt.2.2.2.1 = cells, zt.2.2.2.2.1 = p, zt.2.2.2.2.2.1 = loose, zt.2.2.2.2.2.2.1 = mean, zt.2.2.2.2.2.2.2.1 = mg, zt.2.2.2.2.2.2.2.2 = mb
  clear zt
  intro F N Y X T hg hl stg
  have C' := C.keeps stg
  k_lt hl
  k_cells Y
  (try simp only [List.cons_append, List.nil_append] at N)
  (with_reducible show wpAny _ _ _ _ _ _)
  k_fold
  repeat' (first | (k_unfold; (try dsimp only)) | (k_end; wrow_close) | walk1 | (dsimp only; walk1) | (leave1; walk_say "STEP leave1"; try dsimp only) | fail "no step")
  (with_reducible rename News _ _ _ _ => NN)
  (with_reducible rename Fr _ _ _ _ => FF)
  refine post _ _ _ _ _ ?vd ?vf ?vc ?vt ?va _ ?v2 ?v3 ?v4 ?v5 ?v6 _ _ _ _ _ _ _ _ _ _ _ _ (keeps_of FF hg) (NN.get (by k_mem)) ?dis (NN.get (by k_mem)) (NN.get (by k_mem)) (NN.get (by k_mem)) (NN.get (by k_mem)) (NN.get (by k_mem)) ?h2 ?h3 ?h4 ?h5 ?h6 ?S
  case' S => refine' ⟨_, _, _, _, _, _, _, _, _, _, _, _, _, _, ?vvs, ?vtq, ?e1, ?e2, ?e3, ?ir, ?e5, ?e6, ?e7, ?e8, ?e9, ?e10⟩
  case e1 => rfl
  case h2 => exact NN.get (by k_mem)
  case e2 => rfl
  case h3 => exact NN.get (by k_mem)
  case e3 => rfl
  case ir => exact ⟨_, _, _, _, _, _, _, _, _, _, _, _, _, _, _, _, _, _, by k_is⟩
  case e5 => rfl
  case e6 => rfl
  case h4 => exact NN.get (by k_mem)
  case h5 => exact NN.get (by k_mem)
  case h6 => exact NN.get (by k_mem)
  case e7 => assumption
  case e8 => assumption
  case e9 => k_asm
  case e10 => k_asm
  case dis =>
    refine ⟨?_, ?_, ?_, ?_, ?_, ?_, ?_, ?_, ?_, ?_⟩
    all_goals omega
end Mine
end

section
open PySem PySem.W PyProof.Rows PySem.Calls Builtin
set_option maxRecDepth 100000
set_option maxHeartbeats 4000000
namespace Mine
example : True := by
  w_top off
  k_with_none
  trivial
example : True := by first | walk1 | trivial
section
variable {prog : Program} {w : World} {A : Around} {E : Value → Shared → Prop} {s : Shared} {g : Heap} {L : Addr} {m : PySem.Str → Option Value} {news : List (Addr × Obj)} {G : Obj → List (Addr × Obj)}
theorem news_updF {D : Addr} {o o' : Obj} {h h' : Heap} (F : Fr g L h m) (N : News g L h news) (U : UpdF D o news G) (hs : Heap.SameBut D h h') (e : h'.get? D = some o') : Fr g L h' m ∧ News g L h' (G o') :=
  ledger1 F N U (fun b ob eb n => (hs.2 b fun q => n (List.mem_singleton.mpr q)).trans eb) e
theorem pop0_K {D : Addr} {v : Value} {its : List Value} {n : Nat} {t : Tok} {Q : Value → Shared → Prop} (F : Fr g L s.heap m) (N : News g L s.heap news) (U : UpdF D (listOf (v :: its).toArray n) news G)
   (hsz : its.length ≤ 1000) (h : ∀ h', Fr g L h' m → News g L h' (G (listOf its.toArray (n + 1))) → Q v { s with heap := h' }) : wpAny (model prog w) A (call (.builtin "list.pop") [.ref D, .int 0 t]) Q E s := by
  have hD := N _ (updF_in U)
  refine call_meets PySem.F.slot_list_pop ⟨_, hD.1, rfl⟩ PySem.F.entry_list_pop (PySem.F.args_list_pop_2 _ _) (MeetsSeq.list_pop_at D (v :: its).toArray n 0 t 0 v (by decide) (by simp [seqIndex?]) (by simp) (by simp [sizeLine_eq]; omega)) ⟨hD.1, ?_⟩
  have e : Obj.mapSeq (fun xs => xs.eraseIdxIfInBounds 0) (listOf (v :: its).toArray n) = listOf its.toArray (n + 1) := by simp [Obj.mapSeq, Array.eraseIdxIfInBounds]
  have e2 := Heap.get?_update_self (Obj.mapSeq fun xs => xs.eraseIdxIfInBounds 0) hD.1 (by rw [show (D, listOf (v :: its).toArray n).2 = listOf (v :: its).toArray n from rfl, e]; rfl)
  rw [show (D, listOf (v :: its).toArray n).2 = listOf (v :: its).toArray n from rfl, e] at e2
  obtain ⟨F', N'⟩ := news_updF F N U (Heap.SameBut.update ..) e2
  exact h _ F' N'
theorem app_K {D : Addr} {v : Value} {its : List Value} {n : Nat} {Q : Value → Shared → Prop} (F : Fr g L s.heap m) (N : News g L s.heap news) (U : UpdF D (listOf its.toArray n) news G)
   (hsz : its.length ≤ 1000) (h : ∀ h', Fr g L h' m → News g L h' (G (listOf (its ++ [v]).toArray (n + 1))) → Q .none { s with heap := h' }) : wpAny (model prog w) A (call (.builtin "list.append") [.ref D, v]) Q E s := by
  have hD := N _ (updF_in U)
  refine append_at hD.1 (fun h' hs e => ?_) (by simp [sizeLine_eq]; omega)
  have e3 : its.toArray.push v = (its ++ [v]).toArray := by simp
  rw [e3] at e
  obtain ⟨F', N'⟩ := news_updF F N U hs e
  exact h _ F' N'
theorem truthy_cons {D : Addr} {v : Value} {its : List Value} {n : Nat} {Q : Bool → Shared → Prop} (N : News g L s.heap news) (hm : (D, listOf (v :: its).toArray n) ∈ news) (hsz : its.length ≤ 1000) (h : Q true { s with toks := s.toks + 1 + 1 }) : wpAny (model prog w) A (truthy (.ref D)) Q E s :=
  wpAny_truthy_list (items := (v :: its).toArray) ⟨_, (N _ hm).1, rfl, _, rfl⟩ (by simp; omega) (by simpa using h)
theorem truthy_nil {D : Addr} {n : Nat} {Q : Bool → Shared → Prop} (N : News g L s.heap news) (hm : (D, listOf ([] : List Value).toArray n) ∈ news) (h : Q false { s with toks := s.toks + 1 + 1 }) : wpAny (model prog w) A (truthy (.ref D)) Q E s :=
  wpAny_truthy_list (items := #[]) ⟨_, (N _ hm).1, rfl, _, rfl⟩ (by simp) (by simpa using h)
end
end Mine
end

section
open PySem PySem.W PyProof.Rows PySem.Calls
set_option maxRecDepth 100000
set_option maxHeartbeats 8000000
namespace Mine
example : True := by
  w_top off
  k_with_none
  trivial
example : True := by first | walk1 | trivial
example : True := by
  k_with_none
  trivial
example : True := by
  k_with "eval Name" => ((k_here; k_dflt (refine' nameX_FB (by k_asm) (by assumption) (by k_asm) (by k_asm) ?_ (by rfl) (by rfl))))
  k_with "getMethod ref" => ((k_here; k_dflt (refine methodfn_B (by k_asm) (by assumption) (by assumption) ?_); intro tk'))
  trivial
theorem c_readon {prog : Program} {w : World} {s : Shared} {h₀ : Heap} {E : Value → Shared → Prop} {Q : Value → Shared → Prop} (W : Wd w h₀) (st : h₀.StaysIn s.heap) {name qual : PySem.Str} {params : Arguments} {body : List Stmt} {scope : Scope}
   {cl : List (PySem.Str × Addr)} {doc pm ct : Value} {fr c' tc ac al : Addr} {fo ot oa : Obj} {text : PySem.Str} {tt tp t1 : Tok} {n : Nat} {pos : Int}
   (hfr : h₀.get? fr = some fo) (hfo : fo.data = .func (fnX name qual params body scope cl .none .none doc pm none (.ref c') ct)) (hI : IsReadOn w name params body scope) (htc : cl.lookup (sT "text") = some tc) (hac : cl.lookup (sT "at") = some ac)
   (hcode : h₀.CodeRec (.ref c') qual) (ht : h₀.get? tc = some ot) (hot : ot.data = .cell (some (.str text tt))) (ha : h₀.get? ac = some oa) (hoa : oa.data = .cell (some (.ref al)))
   (hal : s.heap.get? al = some (listOf #[Value.int pos tp] n)) (nal : h₀.get? al = none) (hp : 0 ≤ pos) (hlen : text.length ≤ 10000) (hpl : pos ≤ text.length)
   (post : ∀ t' t'' h' tk', Keeps s.heap h' [al] → h'.get? al = some (listOf #[Value.int (pos + ((Txt.slice text (some pos) (some (pos + 1))).length : Int)) t''] n) → Q (.str (Txt.slice text (some pos) (some (pos + 1))) t') { s with heap := h', toks := tk' }) :
   wpAny (model prog w) (AC 350 500) (call (.ref fr) [.int 1 t1]) Q E s := by
  obtain ⟨oc, od, n1, q1, pr, st1, nm, pos', rest, sc2, dV, kV, doc', pm', an, cdv, ct', osl, hK⟩ := hI
  refine lookup_elim hK (by k_is) ?_
  intro e
  cases e
  refine enterF (args := ⟨[.int 1 t1], []⟩) W st (news := [(al, listOf #[Value.int pos tp] n)]) (binds := [(PySem.Str.ofString "size", .int 1 t1)]) (fun p hp => by cases hp with | head => exact ⟨hal, nal⟩ | tail _ h => exact nomatch h) (st _ _ hfr) hfo (hcode.keeps st) (by decide) (BindsTo.of_eq rfl) (locs rfl) ?_ rfl rfl rfl (by decide)
  intro g h₁ tk p loose mean mg mb F N X T hg hl stg
  k_lt hl
  have ht' := stg _ _ ht
  have ha' := stg _ _ ha
  (with_reducible show wpAny _ _ _ _ _ _)
  k_fold
  repeat' (first | (k_unfold; (try dsimp only)) | (k_end; wrow_close) | walk1 | (dsimp only; walk1) | (leave1; walk_say "STEP leave1"; try dsimp only) | fail "no step")
  (with_reducible rename News _ _ _ _ => NN)
  (with_reducible rename Fr _ _ _ _ => FF)
  exact post _ _ _ _ (keeps_of FF hg) (NN.get (.head _))

theorem r_readon {prog : Program} {w : World} {A : Around} {s : Shared} {g : Heap} {E : Value → Shared → Prop} {Q : Value → Shared → Prop} {p : Program} {loose : List PySem.Str} {mean : ExcName → Option Value} {mg mb : PySem.Str → Option Value} {L : Addr} {m : PySem.Str → Option Value} {news : List (Addr × Obj)} {G : Obj → List (Addr × Obj)}
   {name qual : PySem.Str} {params : Arguments} {body : List Stmt} {scope : Scope}
   {cl : List (PySem.Str × Addr)} {doc pm ct : Value} {fr c' tc ac al : Addr} {fo ot oa : Obj} {text : PySem.Str} {tt tp t1 : Tok} {n : Nat} {pos : Int}
   (F : Fr g L s.heap m) (N : News g L s.heap news) (X : (lawTop.heap_39 w.params).In g) (T : Top p loose mean mg mb g)
   (hfr : g.get? fr = some fo) (hfo : fo.data = .func (fnX name qual params body scope cl .none .none doc pm none (.ref c') ct)) (hI : IsReadOn w name params body scope) (htc : cl.lookup (sT "text") = some tc) (hac : cl.lookup (sT "at") = some ac)
   (hcode : g.CodeRec (.ref c') qual) (ht : g.get? tc = some ot) (hot : ot.data = .cell (some (.str text tt))) (ha : g.get? ac = some oa) (hoa : oa.data = .cell (some (.ref al)))
   (U : UpdF al (listOf #[Value.int pos tp] n) news G) (hp : 0 ≤ pos) (hlen : text.length ≤ 10000) (hpl : pos ≤ text.length) (hA1 : A.handled = none) (hA2 : A.depth ≤ 350) (hA3 : A.units ≤ 500)
   (post : ∀ t' t'' h' tk', Fr g L h' m → News g L h' (G (listOf #[Value.int (pos + ((Txt.slice text (some pos) (some (pos + 1))).length : Int)) t''] n)) → Q (.str (Txt.slice text (some pos) (some (pos + 1))) t') { s with heap := h', toks := tk' }) :
   wpAny (model prog w) A (call (.ref fr) [.int 1 t1]) Q E s := by
  have hN := N _ (updF_in U)
  refine weaken (c_readon ⟨X, _, _, _, _, _, T⟩ F.keep hfr hfo hI htc hac hcode ht hot ha hoa hN.1 hN.2.2 hp hlen hpl fun t' t'' h' tk' k e => ?_) hA1 hA2 hA3
  obtain ⟨F', N'⟩ := ledger1 F N U k e
  exact post _ _ _ _ F' N'
example : True := by
  k_with "call ref" => ((k_here; k_dflt (refine r_readon (by k_asm) (by k_asm) (by k_asm) (by k_asm) (by assumption) (by assumption) (by assumption) (by assumption) (by assumption) (by assumption) (by assumption) (by assumption) (by assumption) (by assumption) (by k_updF) (by assumption) (by assumption) (by assumption) rfl (Nat.le_of_ble_eq_true rfl) (Nat.le_of_ble_eq_true rfl) ?_); intro t1' t2' h' tk' F' N'; (try dsimp only at N'); (try k_sweep)))
  trivial
theorem keeps_drop {h h' : Heap} {a : Addr} {ms : List Addr} {o : Obj} (k : Keeps h h' (a :: ms)) (e : h.get? a = some o) (e' : h'.get? a = some o) : Keeps h h' ms := fun b ob hb n => by
  by_cases q : b = a
  · subst q; rw [e] at hb; cases hb; exact e'
  · exact k b ob hb (fun m => by rcases List.mem_cons.mp m with m | m; exact q m; exact n m)
theorem rc_no {prog : Program} {w : World} {s : Shared} {h₀ : Heap} {R : Result → Shared → Prop} (W : Wd w h₀) (st : h₀.StaysIn s.heap) {x dx pb al fs : Addr} {k1 k2 k3 k4 t1 t3 ta : Tok} {ln : Int} {n na : Nat} {text y : PySem.Str}
   (ex : s.heap.get? x = some (instObj 121 dx)) (ed : s.heap.get? dx = some (lexDict w k1 k2 k3 k4 t1 t3 ln fs pb)) (SA : StreamAt w h₀ fs text al) (ea : s.heap.get? al = some (listOf #[Value.int (n : Int) ta] na))
   (nx : h₀.get? x = none) (nd : h₀.get? dx = none) (nal : h₀.get? al = none) (ne2 : x ≠ dx) (ne4 : x ≠ al) (ne5 : dx ≠ al)
   (hlen : text.length ≤ 10000) (hpl : n ≤ text.length)
   (hsl : Txt.slice text (some (n : Int)) (some ((n : Int) + 1)) = y) (hb : (y == sT "\n") = false)
   (post : ∀ t' t1' ta' h' tk', Keeps s.heap h' [dx, al] → h'.get? dx = some (lexDict w k1 k2 k3 k4 t1' t3 ln fs pb) → h'.get? al = some (listOf #[Value.int ((n : Int) + (y.length : Int)) ta'] na) → R (.ok (.ret (.str y t'))) { s with heap := h', toks := tk' }) :
   codeAny (model prog w) (AC 345 480) (.call (.ref 104) ⟨[.ref x], []⟩) R s := by
  obtain ⟨d, fr, c', tc, ac, fd, sl, t0, tt, n', fo, ot, oa, name, qual, params, body, scope, cl, doc, pm, ct, a1, a2, a3, a4, a5, a6, a7, a8, a9, a10, a11, a12⟩ := SA
  refine enterP_C (args := ⟨[.ref x], []⟩) W st (news := [(x, instObj 121 dx), (dx, lexDict w k1 k2 k3 k4 t1 t3 ln fs pb), (al, listOf #[Value.int (n : Int) ta] na)]) (binds := [(PySem.Str.ofString "self", .ref x)])
    (fun p hp => by rcases List.mem_cons.mp hp with rfl | hp; exact ⟨ex, nx⟩; rcases List.mem_cons.mp hp with rfl | hp; exact ⟨ed, nd⟩; rcases List.mem_cons.mp hp with rfl | hp; exact ⟨ea, nal⟩; exact nomatch hp) (by k_is) (by k_is) (by decide) (BindsTo.of_eq rfl) (locs rfl) ?_ rfl rfl rfl (by decide)
  intro g h₁ tk p loose mean mg mb F N X T hg hl stg
  k_lt hl
  replace ne2 := neN ne2
  replace ne4 := neN ne4
  replace ne5 := neN ne5
  have b1 := stg _ _ a1
  have b2 := stg _ _ a2
  have b3 := stg _ _ a3
  have b8 := a8.keeps stg
  have b9 := stg _ _ a9
  have b11 := stg _ _ a11
  have hp0 : (0 : Int) ≤ (n : Int) := by omega
  have hpl' : (n : Int) ≤ (text.length : Int) := by omega
  (with_reducible show wpAny _ _ _ _ _ _)
  k_fold
  repeat' (first | (k_unfold; (try dsimp only)) | (simp only [hsl, hb]) | (k_end; wrow_close) | walk1 | (dsimp only; walk1) | (leave1; walk_say "STEP leave1"; try dsimp only) | fail "no step")
  (with_reducible rename News _ _ _ _ => NN)
  (with_reducible rename Fr _ _ _ _ => FF)
  rw [hsl] at NN
  exact post _ _ _ _ _ (keeps_drop (keeps_of FF hg) ex (NN.get (by k_mem))) (NN.get (by k_mem)) (NN.get (by k_mem))
theorem rc_nl {prog : Program} {w : World} {s : Shared} {h₀ : Heap} {R : Result → Shared → Prop} (W : Wd w h₀) (st : h₀.StaysIn s.heap) {x dx pb al fs : Addr} {k1 k2 k3 k4 t1 t3 ta : Tok} {ln : Int} {n na : Nat} {text : PySem.Str}
   (ex : s.heap.get? x = some (instObj 121 dx)) (ed : s.heap.get? dx = some (lexDict w k1 k2 k3 k4 t1 t3 ln fs pb)) (SA : StreamAt w h₀ fs text al) (ea : s.heap.get? al = some (listOf #[Value.int (n : Int) ta] na))
   (nx : h₀.get? x = none) (nd : h₀.get? dx = none) (nal : h₀.get? al = none) (ne2 : x ≠ dx) (ne4 : x ≠ al) (ne5 : dx ≠ al)
   (hlen : text.length ≤ 10000) (hpl : n ≤ text.length)
   (hsl : Txt.slice text (some (n : Int)) (some ((n : Int) + 1)) = (⟨#[10]⟩ : PySem.Str)) (hb : ((⟨#[10]⟩ : PySem.Str) == sT "\n") = true)
   (post : ∀ t' t1' ta' h' tk', Keeps s.heap h' [dx, al] → h'.get? dx = some (lexDict w k1 k2 k3 k4 t1' t3 (ln + 1) fs pb) → h'.get? al = some (listOf #[Value.int ((n : Int) + ((⟨#[10]⟩ : PySem.Str).length : Int)) ta'] na) → R (.ok (.ret (.str (⟨#[10]⟩ : PySem.Str) t'))) { s with heap := h', toks := tk' }) :
   codeAny (model prog w) (AC 345 480) (.call (.ref 104) ⟨[.ref x], []⟩) R s := by
  obtain ⟨d, fr, c', tc, ac, fd, sl, t0, tt, n', fo, ot, oa, name, qual, params, body, scope, cl, doc, pm, ct, a1, a2, a3, a4, a5, a6, a7, a8, a9, a10, a11, a12⟩ := SA
  refine enterP_C (args := ⟨[.ref x], []⟩) W st (news := [(x, instObj 121 dx), (dx, lexDict w k1 k2 k3 k4 t1 t3 ln fs pb), (al, listOf #[Value.int (n : Int) ta] na)]) (binds := [(PySem.Str.ofString "self", .ref x)])
    (fun p hp => by rcases List.mem_cons.mp hp with rfl | hp; exact ⟨ex, nx⟩; rcases List.mem_cons.mp hp with rfl | hp; exact ⟨ed, nd⟩; rcases List.mem_cons.mp hp with rfl | hp; exact ⟨ea, nal⟩; exact nomatch hp) (by k_is) (by k_is) (by decide) (BindsTo.of_eq rfl) (locs rfl) ?_ rfl rfl rfl (by decide)
  intro g h₁ tk p loose mean mg mb F N X T hg hl stg
  k_lt hl
  replace ne2 := neN ne2
  replace ne4 := neN ne4
  replace ne5 := neN ne5
  have b1 := stg _ _ a1
  have b2 := stg _ _ a2
  have b3 := stg _ _ a3
  have b8 := a8.keeps stg
  have b9 := stg _ _ a9
  have b11 := stg _ _ a11
  have hp0 : (0 : Int) ≤ (n : Int) := by omega
  have hpl' : (n : Int) ≤ (text.length : Int) := by omega
  (with_reducible show wpAny _ _ _ _ _ _)
  k_fold
  repeat' (first | (k_unfold; (try dsimp only)) | (simp only [hsl, hb]) | (k_end; wrow_close) | walk1 | (dsimp only; walk1) | (leave1; walk_say "STEP leave1"; try dsimp only) | fail "no step")
  (with_reducible rename News _ _ _ _ => NN)
  (with_reducible rename Fr _ _ _ _ => FF)
  rw [hsl] at NN
  exact post _ _ _ _ _ (keeps_drop (keeps_of FF hg) ex (NN.get (by k_mem))) (NN.get (by k_mem)) (NN.get (by k_mem))
end Mine
end

section
open PySem PySem.W PyProof.Rows PySem.Calls
set_option maxRecDepth 100000
set_option maxHeartbeats 8000000
namespace Mine
example : True := by
  w_top off
  k_with_none
  trivial
example : True := by first | walk1 | trivial
theorem single_ne_nl {c : Nat} (h : c ≠ 10) : ((⟨#[c]⟩ : PySem.Str) == sT "\n") = false := by
  have e : sT "\n" = ⟨#[10]⟩ := by decide +kernel
  rw [e]
  refine beq_eq_false_iff_ne.mpr fun q => h ?_
  cases q; rfl
theorem single_len (c : Nat) : ((⟨#[c]⟩ : PySem.Str).length : Int) = 1 := rfl
section
variable {prog : Program} {w : World} {A : Around} {E : Value → Shared → Prop} {R : Result → Shared → Prop} {s : Shared} {g : Heap} {p : Program} {loose : List PySem.Str} {mean : ExcName → Option Value} {mg mb : PySem.Str → Option Value} {L : Addr} {m : PySem.Str → Option Value} {news : List (Addr × Obj)} {G : Obj → List (Addr × Obj)} {H : Obj → Obj → List (Addr × Obj)}
  {x dx pb al fs it mo : Addr} {k1 k2 k3 k4 t1 t3 ta t : Tok} {ln : Int} {n na : Nat} {text : PySem.Str} {c : Nat} {r : List Nat}
theorem r_char (F : Fr g L s.heap m) (N : News g L s.heap news) (X : (lawTop.heap_39 w.params).In g) (T : Top p loose mean mg mb g) (SA : StreamAt w g fs text al) (hx : (x, instObj 121 dx) ∈ news)
   (U : UpdF dx (lexDict w k1 k2 k3 k4 t1 t3 ln fs pb) news G) (V : ∀ o, UpdF al (listOf #[Value.int (n : Int) ta] na) (G o) (H o)) (ne2 : x ≠ dx) (ne4 : x ≠ al) (ne5 : dx ≠ al) (hlen : text.length ≤ 10000)
   (hd : text.cps.toList.drop n = c :: r) (hA1 : A.handled = none) (hA2 : A.depth ≤ 345) (hA3 : A.units ≤ 480)
   (post : ∀ t' t1' ta' h' tk', Fr g L h' m → News g L h' (H (lexDict w k1 k2 k3 k4 t1' t3 (if c = 10 then ln + 1 else ln) fs pb) (listOf #[Value.int ((n + 1 : Nat) : Int) ta'] na)) → Keeps s.heap h' [dx, al] → R (.ok (.ret (.str ⟨#[c]⟩ t'))) { s with heap := h', toks := tk' }) :
   codeAny (model prog w) A (.call (.ref 104) ⟨[.ref x], []⟩) R s := by
  have hdx := N _ (updF_in U)
  have hal := N _ ((updF_mem U (updF_in (V (lexDict w k1 k2 k3 k4 t1 t3 ln fs pb)))).resolve_left fun q => ne5 (congrArg Prod.fst q).symm).1
  have hxx := N _ hx
  have hl := congrArg List.length hd
  rw [List.length_drop, len_toList, List.length_cons] at hl
  have e1 : (n : Int) + ((⟨#[c]⟩ : PySem.Str).length : Int) = ((n + 1 : Nat) : Int) := by rw [single_len]; omega
  by_cases hc : c = 10
  · subst hc
    refine weakenC (rc_nl ⟨X, _, _, _, _, _, T⟩ F.keep hxx.1 hdx.1 SA hal.1 hxx.2.2 hdx.2.2 hal.2.2 ne2 ne4 ne5 hlen (by omega) (slice_one hd) (by decide +kernel) fun t' t1' ta' h' tk' k e eb => ?_) hA1 hA2 hA3
    rw [e1] at eb
    obtain ⟨F', N'⟩ := ledger2 F N U (V _) (Ne.symm ne5) k e eb
    exact post _ _ _ _ _ F' (by simpa using N') k
  · refine weakenC (rc_no ⟨X, _, _, _, _, _, T⟩ F.keep hxx.1 hdx.1 SA hal.1 hxx.2.2 hdx.2.2 hal.2.2 ne2 ne4 ne5 hlen (by omega) (slice_one hd) (single_ne_nl hc) fun t' t1' ta' h' tk' k e eb => ?_) hA1 hA2 hA3
    rw [e1] at eb
    obtain ⟨F', N'⟩ := ledger2 F N U (V _) (Ne.symm ne5) k e eb
    exact post _ _ _ _ _ F' (by simpa [hc] using N') k
theorem r_eof (F : Fr g L s.heap m) (N : News g L s.heap news) (X : (lawTop.heap_39 w.params).In g) (T : Top p loose mean mg mb g) (SA : StreamAt w g fs text al) (hx : (x, instObj 121 dx) ∈ news)
   (U : UpdF dx (lexDict w k1 k2 k3 k4 t1 t3 ln fs pb) news G) (V : ∀ o, UpdF al (listOf #[Value.int (n : Int) ta] na) (G o) (H o)) (ne2 : x ≠ dx) (ne4 : x ≠ al) (ne5 : dx ≠ al) (hlen : text.length ≤ 10000)
   (hd : text.cps.toList.drop n = []) (hn : n ≤ text.length) (hA1 : A.handled = none) (hA2 : A.depth ≤ 345) (hA3 : A.units ≤ 480)
   (post : ∀ t' t1' ta' h' tk', Fr g L h' m → News g L h' (H (lexDict w k1 k2 k3 k4 t1' t3 ln fs pb) (listOf #[Value.int (n : Int) ta'] na)) → Keeps s.heap h' [dx, al] → R (.ok (.ret (.str ⟨#[]⟩ t'))) { s with heap := h', toks := tk' }) :
   codeAny (model prog w) A (.call (.ref 104) ⟨[.ref x], []⟩) R s := by
  have hdx := N _ (updF_in U)
  have hal := N _ ((updF_mem U (updF_in (V (lexDict w k1 k2 k3 k4 t1 t3 ln fs pb)))).resolve_left fun q => ne5 (congrArg Prod.fst q).symm).1
  have hxx := N _ hx
  refine weakenC (rc_no ⟨X, _, _, _, _, _, T⟩ F.keep hxx.1 hdx.1 SA hal.1 hxx.2.2 hdx.2.2 hal.2.2 ne2 ne4 ne5 hlen hn (slice_end hd hn) (by decide +kernel) fun t' t1' ta' h' tk' k e eb => ?_) hA1 hA2 hA3
  have e1 : (n : Int) + ((⟨#[]⟩ : PySem.Str).length : Int) = (n : Int) := by rw [show ((⟨#[]⟩ : PySem.Str).length : Int) = 0 from rfl]; omega
  rw [e1] at eb
  obtain ⟨F', N'⟩ := ledger2 F N U (V _) (Ne.symm ne5) k e eb
  exact post _ _ _ _ _ F' N' k
theorem n_char {Q : Option Value → Shared → Prop} (F : Fr g L s.heap m) (N : News g L s.heap news) (X : (lawTop.heap_39 w.params).In g) (T : Top p loose mean mg mb g) (SA : StreamAt w g fs text al) (hx : (x, instObj 121 dx) ∈ news)
   (hit : (it, ciObj mo t) ∈ news) (hmo : (mo, methodObj (.ref 104) (.ref x)) ∈ news)
   (U : UpdF dx (lexDict w k1 k2 k3 k4 t1 t3 ln fs pb) news G) (V : ∀ o, UpdF al (listOf #[Value.int (n : Int) ta] na) (G o) (H o)) (ne2 : x ≠ dx) (ne4 : x ≠ al) (ne5 : dx ≠ al) (hlen : text.length ≤ 10000)
   (hd : text.cps.toList.drop n = c :: r) (hA1 : A.handled = none) (hA2 : A.depth ≤ 345) (hA3 : A.units ≤ 460)
   (post : ∀ t' t1' ta' h' tk', Fr g L h' m → News g L h' (H (lexDict w k1 k2 k3 k4 t1' t3 (if c = 10 then ln + 1 else ln) fs pb) (listOf #[Value.int ((n + 1 : Nat) : Int) ta'] na)) → Q (some (.str ⟨#[c]⟩ t')) { s with heap := h', toks := tk' }) :
   wpAny (model prog w) A (pyNext (.ref it)) Q E s := by
  have hal := (updF_mem U (updF_in (V (lexDict w k1 k2 k3 k4 t1 t3 ln fs pb)))).resolve_left fun q => ne5 (congrArg Prod.fst q).symm
  have hofn : ∃ fo fd, g.get? 104 = some fo ∧ fo.data = .func fd := ⟨_, _, X _ _ (by k_is), rfl⟩
  obtain ⟨fo, fd, hf, hfd⟩ := hofn
  have dx_it : it ∉ [dx, al] := fun q => by
    rcases List.mem_cons.mp q with q | q
    · have e := (N _ hit).1.symm.trans (q ▸ (N _ (updF_in U)).1); exact absurd (Value.type.inj (congrArg Obj.cls (Option.some.inj e))) (by decide)
    · have e := (N _ hit).1.symm.trans ((List.mem_singleton.mp q) ▸ (N _ hal.1).1); exact absurd (Value.type.inj (congrArg Obj.cls (Option.some.inj e))) (by decide)
  have dx_mo : mo ∉ [dx, al] := fun q => by
    rcases List.mem_cons.mp q with q | q
    · have e := (N _ hmo).1.symm.trans (q ▸ (N _ (updF_in U)).1); exact absurd (Value.type.inj (congrArg Obj.cls (Option.some.inj e))) (by decide)
    · have e := (N _ hmo).1.symm.trans ((List.mem_singleton.mp q) ▸ (N _ hal.1).1); exact absurd (Value.type.inj (congrArg Obj.cls (Option.some.inj e))) (by decide)
  refine next_ci hA1 (N _ hit).1 (N _ hmo).1 (F.keep _ _ hf) hfd ?_
  refine r_char F N X T SA hx U V ne2 ne4 ne5 hlen hd hA1 hA2 (by show A.units + _ ≤ _; omega) fun t' t1' ta' h' tk' F' N' k => ?_
  exact ⟨_, _, rfl, k _ _ (N _ hit).1 dx_it, k _ _ (N _ hmo).1 dx_mo, F'.keep _ _ hf, fun _ => post _ _ _ _ _ F' N', fun h => absurd h (by simp)⟩
theorem n_eof {Q : Option Value → Shared → Prop} (F : Fr g L s.heap m) (N : News g L s.heap news) (X : (lawTop.heap_39 w.params).In g) (T : Top p loose mean mg mb g) (SA : StreamAt w g fs text al) (hx : (x, instObj 121 dx) ∈ news)
   (hit : (it, ciObj mo t) ∈ news) (hmo : (mo, methodObj (.ref 104) (.ref x)) ∈ news)
   (U : UpdF dx (lexDict w k1 k2 k3 k4 t1 t3 ln fs pb) news G) (V : ∀ o, UpdF al (listOf #[Value.int (n : Int) ta] na) (G o) (H o)) (ne2 : x ≠ dx) (ne4 : x ≠ al) (ne5 : dx ≠ al) (hlen : text.length ≤ 10000)
   (hd : text.cps.toList.drop n = []) (hn : n ≤ text.length) (hA1 : A.handled = none) (hA2 : A.depth ≤ 345) (hA3 : A.units ≤ 460)
   (post : ∀ t1' ta' h' tk', Fr g L h' m → (∀ q ∈ H (lexDict w k1 k2 k3 k4 t1' t3 ln fs pb) (listOf #[Value.int (n : Int) ta'] na), q.1 ≠ it → h'.get? q.1 = some q.2 ∧ q.1 ≠ L ∧ g.get? q.1 = none) → Q none { s with heap := h', toks := tk' }) :
   wpAny (model prog w) A (pyNext (.ref it)) Q E s := by
  have hal := (updF_mem U (updF_in (V (lexDict w k1 k2 k3 k4 t1 t3 ln fs pb)))).resolve_left fun q => ne5 (congrArg Prod.fst q).symm
  have hofn : ∃ fo fd, g.get? 104 = some fo ∧ fo.data = .func fd := ⟨_, _, X _ _ (by k_is), rfl⟩
  obtain ⟨fo, fd, hf, hfd⟩ := hofn
  have dx_it : it ∉ [dx, al] := fun q => by
    rcases List.mem_cons.mp q with q | q
    · have e := (N _ hit).1.symm.trans (q ▸ (N _ (updF_in U)).1); exact absurd (Value.type.inj (congrArg Obj.cls (Option.some.inj e))) (by decide)
    · have e := (N _ hit).1.symm.trans ((List.mem_singleton.mp q) ▸ (N _ hal.1).1); exact absurd (Value.type.inj (congrArg Obj.cls (Option.some.inj e))) (by decide)
  have dx_mo : mo ∉ [dx, al] := fun q => by
    rcases List.mem_cons.mp q with q | q
    · have e := (N _ hmo).1.symm.trans (q ▸ (N _ (updF_in U)).1); exact absurd (Value.type.inj (congrArg Obj.cls (Option.some.inj e))) (by decide)
    · have e := (N _ hmo).1.symm.trans ((List.mem_singleton.mp q) ▸ (N _ hal.1).1); exact absurd (Value.type.inj (congrArg Obj.cls (Option.some.inj e))) (by decide)
  have hi := N _ hit
  refine next_ci hA1 (N _ hit).1 (N _ hmo).1 (F.keep _ _ hf) hfd ?_
  refine r_eof F N X T SA hx U V ne2 ne4 ne5 hlen hd hn hA1 hA2 (by show A.units + _ ≤ _; omega) fun t' t1' ta' h' tk' F' N' k => ?_
  refine ⟨_, _, rfl, k _ _ (N _ hit).1 dx_it, k _ _ (N _ hmo).1 dx_mo, F'.keep _ _ hf, fun h => absurd h (by simp), fun _ h'' hb => post t1' ta' h'' _ ?_ ?_⟩
  · exact ⟨F'.ns.at' fun o e => hb _ _ (Ne.symm hi.2.1) e, fun b o e => hb _ _ (fun q => by rw [q, hi.2.2] at e; cases e) (F'.keep _ _ e), F'.above⟩
  · exact fun q hq hne => ⟨hb _ _ hne (N' q hq).1, (N' q hq).2⟩
end
def LoopNext (h₀ : Heap) (L : Addr) (s₂ : Shared) (J : Nat → (PySem.Str → Option Value) → List (Addr × Obj) → Prop) (k : Nat) (s₃ : Shared) : Prop :=
  ∃ k' h m news tk, k' < k ∧ s₃ = { s₂ with heap := h, toks := tk } ∧ Fr h₀ L h m ∧ News h₀ L h news ∧ J k' m news
theorem LoopNext.intro {h₀ : Heap} {L : Addr} {s₂ : Shared} {J : Nat → (PySem.Str → Option Value) → List (Addr × Obj) → Prop} {k k' : Nat} {h : Heap} {m : PySem.Str → Option Value} {news : List (Addr × Obj)} {tk : Nat} (F : Fr h₀ L h m) (N : News h₀ L h news) (hk : k' < k) (hJ : J k' m news) :
   LoopNext h₀ L s₂ J k { s₂ with heap := h, toks := tk } := ⟨k', h, m, news, tk, hk, rfl, F, N, hJ⟩
/-- a for loop over a callable iterator (or anything else that pyNext walks): the turn is given at the ledger's footing -/
def LoopC (prog : Program) (w : World) (A : Around) (h₀ : Heap) (env : Env) (x : PySem.Str) (body : List Stmt) (Q : Flow → Shared → Prop) (v : Value) (s₂ : Shared) : Prop :=
  ∃ (it : Addr) (mo : Addr) (t : Tok) (J : Nat → (PySem.Str → Option Value) → List (Addr × Obj) → Prop) (k : Nat) (m : PySem.Str → Option Value) (news : List (Addr × Obj)),
    v = .ref it ∧ s₂.heap.get? it = some (ciObj mo t) ∧ Fr h₀ env.locals s₂.heap m ∧ News h₀ env.locals s₂.heap news ∧ J k m news ∧
    ∀ k m news h tk, J k m news → Fr h₀ env.locals h m → News h₀ env.locals h news → wpAny (model prog w) A (pyNext (.ref it)) (fun r s' => match r with
      | none => Q .next s'
      | some v => ∃ h' tk' m' news', s' = { s₂ with heap := h', toks := tk' } ∧ Fr h₀ env.locals h' m' ∧ News h₀ env.locals h' news' ∧
        ∀ h'' tk'', Fr h₀ env.locals h'' (fun y => if y = x then some v else m' y) → News h₀ env.locals h'' news' → wpAny (model prog w) A (execs body env) (fun f s₃ => match f with
          | .next | .cont => LoopNext h₀ env.locals s₂ J k s₃
          | .brk => Q .next s₃
          | .ret v => Q (.ret v) s₃) (fun _ _ => False) { s₂ with heap := h'', toks := tk'' }) (fun _ _ => False) { s₂ with heap := h, toks := tk }
theorem For_ci {prog : Program} {w : World} {A : Around} {s : Shared} {env : Env} {h₀ : Heap} {x : PySem.Str} {body : List Stmt} {Q : Flow → Shared → Prop} {px pos : Pos} {iter : Expr} (hx : env.kindOf x = some .local)
    (hp : (env.scope.kind == .class || (env.scope.kind == .module && env.locals != env.globals)) = false)
    (h : wpAny (model prog w) A (eval iter env) (fun v s₁ => LoopC prog w A h₀ env x body Q v s₁) (fun _ _ => False) s)
    (hs : ∀ x, foldedSetIterable iter env x = pure x := by intro _; rfl) :
    wpAny (model prog w) A (exec (.For (.Name x px) iter body [] pos) env) Q (fun _ _ => False) s := by
  refine wpAny_For (wpAny_mono h (fun xv s₁ h₁ => ?_) fun _ _ e => e) hs
  obtain ⟨it, mo, t, J, k, m, news, rfl, hit, F, N, hJ, turn⟩ := h₁
  refine pyIter_ci hit ?_
  have never : ∀ {α : Type} {t : Sem α} {Q : α → Shared → Prop} {E : Value → Shared → Prop} {s : Shared}, wpAny (model prog w) A t Q (fun _ _ => False) s → wpAny (model prog w) A t Q E s := fun h => wpAny_mono h (fun _ _ x => x) fun _ _ x => x.elim
  refine codeAny_forLoop_any (fun k s' => ∃ h m news tk, s' = { s₁ with heap := h, toks := tk } ∧ Fr h₀ env.locals h m ∧ News h₀ env.locals h news ∧ J k m news) (fun k s' hI => ?_) k ⟨_, m, news, _, rfl, F, N, hJ⟩
  obtain ⟨h, m, news, tk, rfl, F, N, hJ⟩ := hI
  refine never (wpAny_mono (turn k m news h tk hJ F N) (fun r s' hr => ?_) fun _ _ x => x)
  cases r with
  | none => exact wpAny_execs_nil hr
  | some v =>
    obtain ⟨h', tk', m', news', rfl, F', N', body'⟩ := hr
    refine wpAny_of_eq (a := ()) rfl ?_
    refine wpAny_assign_Name (wpAny_storeName_local hx F'.ns (fun h'' hn hs => ?_) hp)
    refine never (wpAny_mono (body' h'' _ (F'.set hn hs) (N'.set hs)) (fun f s₃ hf => ?_) fun _ _ x => x)
    cases f with
    | next => obtain ⟨k', h, m, news, tk, a, b, c, d, e⟩ := hf; exact ⟨k', a, h, m, news, tk, b, c, d, e⟩
    | cont => obtain ⟨k', h, m, news, tk, a, b, c, d, e⟩ := hf; exact ⟨k', a, h, m, news, tk, b, c, d, e⟩
    | brk => exact hf
    | ret v => exact hf
end Mine
end

section
open PySem PySem.W PyProof.Rows PySem.Calls
set_option maxRecDepth 100000
set_option maxHeartbeats 8000000
namespace Mine
example : True := by
  w_top off
  k_with_none
  trivial
example : True := by first | walk1 | trivial
example : True := by
  k_with_none
  trivial
example : True := by
  k_with "getMethod ref" => ((k_here; (with_reducible show wpAny _ _ (getMethod (Value.ref _) (PySem.Str.ofString "pop") _) _ _ _); k_dflt (refine' listMethod_K (by k_asm) (by k_mem) PySem.F.slot_list_pop PySem.F.type_list_pop ?_)))
  k_with "call builtin:list.pop" => ((k_here; k_dflt (refine pop0_K (by k_asm) (by k_asm) (by k_updF) (by assumption) ?_); intro h' F' N'; (try dsimp only at N'); (try k_sweep)))
  k_with "call builtin:list.append" => ((k_here; k_dflt (refine app_K (by k_asm) (by k_asm) (by k_updF) (by assumption) ?_); intro h' F' N'; (try dsimp only at N'); (try k_sweep)))
  k_with "truthy ref" => ((k_here; k_dflt (first | refine truthy_nil (by k_asm) (by k_mem) ?_ | refine truthy_cons (by k_asm) (by k_mem) (by assumption) ?_)))
  trivial
theorem gt_pop {prog : Program} {w : World} {s : Shared} {h₀ : Heap} {E : Value → Shared → Prop} {Q : Value → Shared → Prop} (W : Wd w h₀) (st : h₀.StaysIn s.heap) {x dx pb al fs : Addr} {k1 k2 k3 k4 t1 t3 : Tok} {ln : Int} {v : Value} {its : List Value} {np : Nat}
   (ex : s.heap.get? x = some (instObj 121 dx)) (ed : s.heap.get? dx = some (lexDict w k1 k2 k3 k4 t1 t3 ln fs pb)) (ep : s.heap.get? pb = some (listOf (v :: its).toArray np))
   (nx : h₀.get? x = none) (nd : h₀.get? dx = none) (npb : h₀.get? pb = none) (ne1 : x ≠ dx) (ne2 : x ≠ pb) (ne3 : dx ≠ pb) (hsz : its.length ≤ 1000)
   (post : ∀ h' tk', Keeps s.heap h' [pb] → h'.get? pb = some (listOf its.toArray (np + 1)) → Q v { s with heap := h', toks := tk' }) :
   wpAny (model prog w) (AC 345 450) (call (.ref 111) [.ref x]) Q E s := by
  refine enterP (args := ⟨[.ref x], []⟩) W st (news := [(x, instObj 121 dx), (dx, lexDict w k1 k2 k3 k4 t1 t3 ln fs pb), (pb, listOf (v :: its).toArray np)]) (binds := [(PySem.Str.ofString "self", .ref x)])
    (fun p hp => by rcases List.mem_cons.mp hp with rfl | hp; exact ⟨ex, nx⟩; rcases List.mem_cons.mp hp with rfl | hp; exact ⟨ed, nd⟩; rcases List.mem_cons.mp hp with rfl | hp; exact ⟨ep, npb⟩; exact nomatch hp) (by k_is) (by k_is) (by decide) (BindsTo.of_eq rfl) (locs rfl) ?_ rfl rfl rfl (by decide)
  intro g h₁ tk p loose mean mg mb F N X T hg hl stg
  k_lt hl
  replace ne1 := neN ne1
  replace ne2 := neN ne2
  replace ne3 := neN ne3
  (with_reducible show wpAny _ _ _ _ _ _)
  k_fold
  repeat' (first | (k_unfold; (try dsimp only)) | (k_end; wrow_close) | walk1 | (dsimp only; walk1) | (leave1; walk_say "STEP leave1"; try dsimp only) | fail "no step")
  (with_reducible rename News _ _ _ _ => NN)
  (with_reducible rename Fr _ _ _ _ => FF)
  exact post _ _ (keeps_drop (keeps_drop (keeps_of FF hg) ex (NN.get (by k_mem))) ed (NN.get (by k_mem))) (NN.get (by k_mem))
theorem c_push {prog : Program} {w : World} {s : Shared} {h₀ : Heap} {E : Value → Shared → Prop} {Q : Value → Shared → Prop} (W : Wd w h₀) (st : h₀.StaysIn s.heap) {x dx pb al fs : Addr} {k1 k2 k3 k4 t1 t3 : Tok} {ln : Int} {v : Value} {its : List Value} {np : Nat}
   (ex : s.heap.get? x = some (instObj 121 dx)) (ed : s.heap.get? dx = some (lexDict w k1 k2 k3 k4 t1 t3 ln fs pb)) (ep : s.heap.get? pb = some (listOf its.toArray np))
   (nx : h₀.get? x = none) (nd : h₀.get? dx = none) (npb : h₀.get? pb = none) (ne1 : x ≠ dx) (ne2 : x ≠ pb) (ne3 : dx ≠ pb) (hsz : its.length ≤ 1000)
   (post : ∀ h' tk', Keeps s.heap h' [pb] → h'.get? pb = some (listOf (its ++ [v]).toArray (np + 1)) → Q .none { s with heap := h', toks := tk' }) :
   wpAny (model prog w) (AC 345 450) (call (.ref 118) [.ref x, v]) Q E s := by
  refine enterP (args := ⟨[.ref x, v], []⟩) W st (news := [(x, instObj 121 dx), (dx, lexDict w k1 k2 k3 k4 t1 t3 ln fs pb), (pb, listOf its.toArray np)]) (binds := [(PySem.Str.ofString "self", .ref x), (PySem.Str.ofString "token", v)])
    (fun p hp => by rcases List.mem_cons.mp hp with rfl | hp; exact ⟨ex, nx⟩; rcases List.mem_cons.mp hp with rfl | hp; exact ⟨ed, nd⟩; rcases List.mem_cons.mp hp with rfl | hp; exact ⟨ep, npb⟩; exact nomatch hp) (by k_is) (by k_is) (by decide) (BindsTo.of_eq rfl) (locs rfl) ?_ rfl rfl rfl (by decide)
  intro g h₁ tk p loose mean mg mb F N X T hg hl stg
  k_lt hl
  replace ne1 := neN ne1
  replace ne2 := neN ne2
  replace ne3 := neN ne3
  (with_reducible show wpAny _ _ _ _ _ _)
  k_fold
  repeat' (first | (k_unfold; (try dsimp only)) | (k_end; wrow_close) | walk1 | (dsimp only; walk1) | (leave1; walk_say "STEP leave1"; try dsimp only) | fail "no step")
  (with_reducible rename News _ _ _ _ => NN)
  (with_reducible rename Fr _ _ _ _ => FF)
  exact post _ _ (keeps_drop (keeps_drop (keeps_of FF hg) ex (NN.get (by k_mem))) ed (NN.get (by k_mem))) (NN.get (by k_mem))
end Mine
end

section
open PySem PySem.W PyProof.Rows PySem.Calls
set_option maxRecDepth 100000
set_option maxHeartbeats 4000000
namespace Mine
example : True := by
  w_top off
  k_with_none
  trivial
example : True := by first | walk1 | trivial
example : True := by
  k_with_none
  k_with "m_set" => (refine MSt.intro ?_ (fun y hy => ?_); (focus k_extra "m_are"); first | rfl | ((simp only [List.map_cons, List.map_nil, MOff] at hy); (simp only [mSet, hy, if_false, ne_eq, not_false_eq_true]); done) | fail "m_set")
  k_with "m_are" => (first | exact trivial | (refine ⟨?_, ?_⟩; (focus first | exact trivial | exact ⟨_, rfl⟩ | exact rfl); k_extra "m_are"))
  trivial
/-- m0, but the names in l mean what l says -/
def mSet : List (PySem.Str × Option Value) → (PySem.Str → Option Value) → PySem.Str → Option Value
  | [], m0, y => m0 y
  | p :: r, m0, y => if y = p.1 then p.2 else mSet r m0 y
def MOff (y : PySem.Str) : List PySem.Str → Prop
  | [] => True
  | a :: r => y ≠ a ∧ MOff y r
def MAre (m : PySem.Str → Option Value) : List (PySem.Str × Option Value) → Prop
  | [] => True
  | p :: r => m p.1 = p.2 ∧ MAre m r
theorem mSet_off {y : PySem.Str} {m0 : PySem.Str → Option Value} : ∀ {l : List (PySem.Str × Option Value)} {names : List PySem.Str}, l.map (·.1) = names → MOff y names → mSet l m0 y = m0 y
  | [], _, _, _ => rfl
  | p :: r, names, e, h => by
    subst e
    unfold mSet
    rw [if_neg h.1]
    exact mSet_off rfl h.2
theorem mSet_or {m m0 : PySem.Str → Option Value} {y : PySem.Str} : ∀ {l : List (PySem.Str × Option Value)}, MAre m l → mSet l m0 y = m y ∨ MOff y (l.map (·.1))
  | [], _ => .inr trivial
  | p :: r, h => by
    by_cases q : y = p.1
    · subst q; unfold mSet; rw [if_pos rfl]; exact .inl h.1.symm
    · unfold mSet
      rw [if_neg q]
      rcases mSet_or (m0 := m0) (y := y) h.2 with e | e
      · exact .inl e
      · exact .inr ⟨q, e⟩
theorem mSet_eq {m m0 : PySem.Str → Option Value} {l : List (PySem.Str × Option Value)} (ha : MAre m l) (h : ∀ y, MOff y (l.map (·.1)) → m y = m0 y) : m = mSet l m0 := funext fun y => by
  rcases mSet_or (m0 := m0) (y := y) ha with e | e
  · exact e.symm
  · rw [mSet_off rfl e]; exact h y e
inductive MVal
  | int (n : Int) | str (x : PySem.Str) | val (v : Value) | any
def VIs : MVal → Option Value → Prop
  | .int n, v => ∃ t, v = some (.int n t)
  | .str x, v => ∃ t, v = some (.str x t)
  | .val w, v => v = some w
  | .any, _ => True
def MMatch : List (PySem.Str × MVal) → List (PySem.Str × Option Value) → Prop
  | [], vs => vs = []
  | p :: r, vs => ∃ v r', vs = (p.1, v) :: r' ∧ VIs p.2 v ∧ MMatch r r'
/-- m is m0 but for the names in l, which mean what l says -/
def MSt (m m0 : PySem.Str → Option Value) (l : List (PySem.Str × MVal)) : Prop := ∃ vs, MMatch l vs ∧ m = mSet vs m0
def MAll (m : PySem.Str → Option Value) : List (PySem.Str × MVal) → Prop
  | [] => True
  | p :: r => VIs p.2 (m p.1) ∧ MAll m r
theorem MAll.match {m : PySem.Str → Option Value} : ∀ {l : List (PySem.Str × MVal)}, MAll m l → ∃ vs, MMatch l vs ∧ MAre m vs ∧ vs.map (·.1) = l.map (·.1)
  | [], _ => ⟨[], rfl, trivial, rfl⟩
  | p :: r, h => by
    obtain ⟨vs, a, b, c⟩ := MAll.match h.2
    exact ⟨(p.1, m p.1) :: vs, ⟨_, _, rfl, h.1, a⟩, ⟨rfl, b⟩, by rw [List.map_cons, List.map_cons, c]⟩
theorem MSt.intro {m m0 : PySem.Str → Option Value} {l : List (PySem.Str × MVal)} (ha : MAll m l) (h : ∀ y, MOff y (l.map (·.1)) → m y = m0 y) : MSt m m0 l := by
  obtain ⟨vs, a, b, c⟩ := ha.match
  exact ⟨vs, a, mSet_eq b fun y hy => h y (c ▸ hy)⟩
/-- closes MSt m m0 l for a written m -/
example (m0 : PySem.Str → Option Value) (v1 v2 v3 : Value) : MSt (fun y => if y = PySem.Str.ofString "a" then some v1 else if y = PySem.Str.ofString "b" then some v2 else mSet [(PySem.Str.ofString "a", some v3), (PySem.Str.ofString "b", none)] m0 y) m0 [(PySem.Str.ofString "a", .val v1), (PySem.Str.ofString "b", .any)] := by
  k_extra "m_set"
example (m0 : PySem.Str → Option Value) (v1 v2 : Value) (t : Tok) : MSt (fun y => if y = PySem.Str.ofString "a" then some (.int 3 t) else if y = PySem.Str.ofString "c" then some v2 else m0 y) (fun y => if y = PySem.Str.ofString "a" then some (.int 3 t) else if y = PySem.Str.ofString "c" then some v2 else m0 y) [(PySem.Str.ofString "a", .int 3), (PySem.Str.ofString "b", .any)] := by
  k_extra "m_set"

def Held (P : Prop) : Prop := P
theorem of_held {P : Prop} (h : Held P) : P := h
theorem While_my {prog : Program} {w : World} {A : Around} {E : Value → Shared → Prop} {Q : Flow → Shared → Prop} {s : Shared} {env : Env} {h₀ : Heap} {L : Addr} {test : Expr} {body : List Stmt} {pos : Pos} {m : PySem.Str → Option Value} {news : List (Addr × Obj)} (F : Fr h₀ L s.heap m) (N : News h₀ L s.heap news) (J : (PySem.Str → Option Value) → Nat → (PySem.Str → Option Value) → List (Addr × Obj) → Prop) (n₀ : Nat)
    (hJ : J m n₀ m news)
    (turn : ∀ n m₁ news₁ h₁ tk₁, Fr h₀ L h₁ m₁ → News h₀ L h₁ news₁ → J m n m₁ news₁ →
      wpAny (model prog w) A (isTrue test env (eval test env)) (fun b s₂ =>
        if b = true then wpAny (model prog w) A (execs body env) (fun f s₃ => match f with
          | .next | .cont => LoopNext h₀ L s (J m) n s₃
          | .brk => Q .next s₃
          | .ret v => Q (.ret v) s₃) E s₂ else Q .next s₂) E { s with heap := h₁, toks := tk₁ })
    (hE : PassesOwn (model prog w) A env E) : Held (wpAny (model prog w) A (exec (.While test body [] pos) env) Q E s) := by
  refine While_inv2 (J m) F N hJ (fun n m₁ news₁ h₁ tk₁ F₁ N₁ J₁ => wpAny_mono (turn n m₁ news₁ h₁ tk₁ F₁ N₁ J₁) (fun b s₂ h₂ => ?_) fun _ _ x => x) hE
  cases b with
  | false => exact h₂
  | true =>
    simp only [if_true] at h₂ ⊢
    refine wpAny_mono h₂ (fun f s₃ h₃ => ?_) fun _ _ x => x
    cases f with
    | next => obtain ⟨k', h, m, news, tk, a, b, c, d, e⟩ := h₃; exact ⟨h, tk, m, news, k', b, c, d, a, e⟩
    | cont => obtain ⟨k', h, m, news, tk, a, b, c, d, e⟩ := h₃; exact ⟨h, tk, m, news, k', b, c, d, a, e⟩
    | brk => exact h₃
    | ret v => exact h₃
/-- the end of a turn of a for loop over a range -/
def RNext (h₀ : Heap) (L : Addr) (s : Shared) (I : Addr) (it : Obj) (J : (PySem.Str → Option Value) → List (Addr × Obj) → Prop) (s₃ : Shared) : Prop := UnrEnd h₀ L s I it J s₃
theorem RNext.intro {h₀ : Heap} {L I : Addr} {it : Obj} {J : (PySem.Str → Option Value) → List (Addr × Obj) → Prop} {s₁ : Shared} {h' : Heap} {tk : Nat} {m' : PySem.Str → Option Value} {all : List (Addr × Obj)} (F : Fr h₀ L h' m') (N : News h₀ L h' all) (news' : List (Addr × Obj))
    (hI : (I, it) ∈ all) (sub : SubL news' all) (off : OffI I it news') (r : J m' news') : RNext h₀ L s₁ I it J { s₁ with heap := h', toks := tk } := UnrEnd.intro3 F N news' hI sub off r
def LoopR (prog : Program) (w : World) (A : Around) (h₀ : Heap) (env : Env) (x : PySem.Str) (body : List Stmt) (Q : Flow → Shared → Prop) (E : Value → Shared → Prop) (v : Value) (s : Shared) : Prop :=
  wpAny (model prog w) A (pyIter v) (fun it s₂ => LoopAtV prog w A h₀ env x body Q E it s₂) E s
theorem For_R {prog : Program} {w : World} {A : Around} {E : Value → Shared → Prop} {s : Shared} {env : Env} {h₀ : Heap} {x : PySem.Str} {body : List Stmt} {Q : Flow → Shared → Prop} {m : PySem.Str → Option Value} {px pos : Pos} {iter : Expr} (_F : Fr h₀ env.locals s.heap m) (hx : env.kindOf x = some .local)
    (hp : (env.scope.kind == .class || (env.scope.kind == .module && env.locals != env.globals)) = false)
    (h : wpAny (model prog w) A (eval iter env) (fun xv s₁ => LoopR prog w A h₀ env x body Q E xv s₁) E s)
    (hE : PassesOwn (model prog w) A env E)
    (hs : ∀ x, foldedSetIterable iter env x = pure x := by intro _; rfl) : wpAny (model prog w) A (exec (.For (.Name x px) iter body [] pos) env) Q E s := For_invV h₀ hx hp h hs hE
theorem LoopR.range {prog : Program} {w : World} {A : Around} {E : Value → Shared → Prop} {s : Shared} {env : Env} {h₀ : Heap} {x : PySem.Str} {body : List Stmt} {Q : Flow → Shared → Prop} {r : Addr} {a₀ b₀ : Int} {t₀ u₀ v₀ : Tok} {n : Nat} {m₀ : PySem.Str → Option Value} {news : List (Addr × Obj)}
    (F : Fr h₀ env.locals s.heap m₀) (N : News h₀ env.locals s.heap news) (hr : IsRange s.heap r a₀ b₀ 1 t₀ u₀ v₀) (hh : A.handled = none) (hsmall : Builtin.Range.small a₀ b₀ 1 = true) (hn : Builtin.Range.rangeSize a₀ b₀ 1 = (n : Int))
    (J : (PySem.Str → Option Value) → Nat → (PySem.Str → Option Value) → List (Addr × Obj) → Prop) (news₀ : List (Addr × Obj)) (sub : SubL news₀ news) (hJ : J m₀ 0 m₀ news₀)
    (turn : ∀ I, (∀ p ∈ news₀, p.1 < I) → ∀ i m₁ news₁ t h tk, i < n → J m₀ i m₁ news₁ → Fr h₀ env.locals h (fun y => if y = x then some (.int (a₀ + (i : Int)) t) else m₁ y) → News h₀ env.locals h ((I, itR (a₀ + ((i + 1 : Nat) : Int)) ((n : Int) - ((i + 1 : Nat) : Int))) :: news₁) →
      wpAny (model prog w) A (execs body env) (fun f s₃ => match f with
        | .next | .cont => RNext h₀ env.locals { s with heap := h, toks := tk } I (itR (a₀ + ((i + 1 : Nat) : Int)) ((n : Int) - ((i + 1 : Nat) : Int))) (J m₀ (i + 1)) s₃
        | .brk => Q .next s₃
        | .ret v => Q (.ret v) s₃) E { s with heap := h, toks := tk })
    (done : ∀ m₁ news₁ h tk, J m₀ n m₁ news₁ → Fr h₀ env.locals h m₁ → News h₀ env.locals h news₁ → Q .next { s with heap := h, toks := tk }) :
    LoopR prog w A h₀ env x body Q E (.ref r) s := by
  have N0 : News h₀ env.locals s.heap news₀ := fun p hp => N p (sub.mem p hp)
  refine iter_rangeUnr hh hr hsmall hn F N0 fun I hI => ?_
  have key : ∀ k i m₁ news₁, i + k = n → J m₀ i m₁ news₁ → RangeRest prog w A E h₀ env x body Q s I a₀ n k i m₁ news₁ := by
    intro k
    induction k with
    | zero =>
      intro i m₁ news₁ e hJ
      refine RangeRest.zero fun h tk F N => ?_
      obtain rfl : i = n := by omega
      exact done m₁ news₁ h tk hJ F N
    | succ k ih =>
      intro i m₁ news₁ e hJ
      refine RangeRest.succ fun t h tk F N => ?_
      refine wpAny_mono (turn I hI i m₁ news₁ t h tk (by omega) hJ F N) (fun f s₃ hf => ?_) fun _ _ x => x
      have fin : RNext h₀ env.locals { s with heap := h, toks := tk } I (itR (a₀ + ((i + 1 : Nat) : Int)) ((n : Int) - ((i + 1 : Nat) : Int))) (J m₀ (i + 1)) s₃ →
          UnrEnd h₀ env.locals { s with heap := h, toks := tk } I (itR (a₀ + ((i + 1 : Nat) : Int)) ((n : Int) - ((i + 1 : Nat) : Int))) (RangeRest prog w A E h₀ env x body Q s I a₀ n k (i + 1)) s₃ := by
        rintro ⟨h', tk', m', news', e', F', N', o, j⟩
        exact ⟨h', tk', m', news', e', F', N', o, ih (i + 1) m' news' (by omega) j⟩
      cases f with
      | next => exact fin hf
      | cont => exact fin hf
      | brk => exact hf
      | ret v => exact hf
  exact key n 0 m₀ news₀ (by omega) hJ
end Mine
end

section
open PySem PySem.W PyProof.Rows PySem.Calls
set_option maxRecDepth 100000
set_option maxHeartbeats 8000000
namespace Mine
example : True := by
  w_top off
  k_with_none
  trivial
example : True := by first | walk1 | trivial
theorem mem_h {α : Type} {a : α} {l : List α} : a ∈ a :: l := .head _
theorem mem_t {α : Type} {a b : α} {l : List α} (h : a ∈ l) : a ∈ b :: l := .tail _ h
/-- no address comes twice -/
def Dist (as : List Addr) : Prop := as.Nodup
theorem dist_tl {a : Addr} {as : List Addr} (d : Dist (a :: as)) : Dist as := (List.nodup_cons.mp d).2
theorem dist_drop {as bs : List Addr} (n : Nat) (d : Dist as) (e : as.drop n = bs) : Dist bs := e ▸ d.sublist (List.drop_sublist n as)
theorem dist_new {q : Addr} {news : List (Addr × Obj)} {as : List Addr} (h : ∀ p ∈ news, q ≠ p.1) (d : Dist as) (e : news.map Prod.fst = as) : Dist (q :: as) := by
  subst e
  refine List.nodup_cons.mpr ⟨fun hm => ?_, d⟩
  obtain ⟨p, hp, r⟩ := List.mem_map.mp hm
  exact h p hp r.symm
theorem dist_new' {q : Addr} {news : List (Addr × Obj)} {as : List Addr} (h : ∀ p ∈ news, p.1 ≠ q) (d : Dist as) (e : news.map Prod.fst = as) : Dist (q :: as) := dist_new (fun p hp => (h p hp).symm) d e
theorem dist_lt {D : Addr} {news : List (Addr × Obj)} {as : List Addr} (h : ∀ p ∈ news, p.1 < D) (d : Dist as) (e : news.map Prod.fst = as) : Dist (D :: as) := dist_new (fun p hp q => Nat.lt_irrefl _ (q ▸ h p hp : @LT.lt Nat _ D D)) d e
theorem dist_cell {n : Addr} {news : List (Addr × Obj)} {as : List Addr} (h : ∀ p ∈ news, p.1 < n) (d : Dist as) (e : news.map Prod.fst = as) : Dist ((n + 1 : Nat) :: as) := dist_lt (fun p hp => Nat.lt_succ_of_lt (h p hp)) d e
theorem dist_cell2 {n : Addr} {news : List (Addr × Obj)} {as : List Addr} (h : ∀ p ∈ news, p.1 < n) (d : Dist as) (e : news.map Prod.fst = as) : Dist ((n + 1 + 1 : Nat) :: (n + 1 : Nat) :: as) := by
  have d1 := dist_cell h d e
  refine List.nodup_cons.mpr ⟨fun hm => ?_, d1⟩
  rcases List.mem_cons.mp hm with hm | hm
  · exact absurd hm (Nat.succ_ne_self _)
  · subst e
    obtain ⟨p, hp, r⟩ := List.mem_map.mp hm
    exact absurd (Nat.lt_trans (h p hp) (Nat.lt_succ_of_lt (Nat.lt_succ_self n))) (by rw [r]; exact Nat.lt_irrefl _)
theorem dist_one (a : Addr) : Dist [a] := List.nodup_cons.mpr ⟨List.not_mem_nil, List.nodup_nil⟩
theorem dist_swap {a b : Addr} {as : List Addr} (d : Dist (a :: b :: as)) : Dist (b :: a :: as) := (List.Perm.swap b a as).nodup d
inductive NeD : List Addr → Addr → Addr → Prop
  | l {a b as} (h : b ∈ as) : NeD (a :: as) a b
  | r {a b as} (h : a ∈ as) : NeD (b :: as) a b
  | t {a b c as} (h : NeD as a b) : NeD (c :: as) a b
theorem ne_of {as : List Addr} {a b : Addr} (d : Dist as) (h : NeD as a b) : a ≠ b := by
  induction h with
  | l h => exact fun q => (List.nodup_cons.mp d).1 (q ▸ h)
  | r h => exact fun q => (List.nodup_cons.mp d).1 (q ▸ h)
  | t _ ih => exact ih (dist_tl d)
theorem mem_fst {news : List (Addr × Obj)} {as : List Addr} {p : Addr × Obj} (e : news.map Prod.fst = as) (h : p ∈ news) : p.1 ∈ as := e ▸ List.mem_map_of_mem h
inductive UpdS (d : Addr) (o : Obj) : List (Addr × Obj) → (Obj → List (Addr × Obj)) → Prop
  | head {r} : UpdS d o ((d, o) :: r) (fun o' => (d, o') :: r)
  | tail {p r g} : UpdS d o r g → UpdS d o (p :: r) (fun o' => p :: g o')
theorem UpdS.mem {d : Addr} {o : Obj} {l : List (Addr × Obj)} {g : Obj → List (Addr × Obj)} (h : UpdS d o l g) : (d, o) ∈ l := by
  induction h with
  | head => exact .head _
  | tail _ ih => exact .tail _ ih
theorem updF_dist {d : Addr} {o : Obj} {l : List (Addr × Obj)} {g : Obj → List (Addr × Obj)} {as : List Addr} (h : UpdS d o l g) (n : Dist as) (e : l.map Prod.fst = as) : UpdF d o l g := by
  subst e
  induction h with
  | @head r =>
    refine .head fun p hp q => ?_
    have hm := List.mem_map_of_mem (f := Prod.fst) hp
    rw [q] at hm
    exact (List.nodup_cons.mp n).1 hm
  | @tail p r g h ih =>
    refine .tail (fun q => ?_) (ih (List.nodup_cons.mp n).2)
    exact (List.nodup_cons.mp n).1 (by rw [q]; exact List.mem_map_of_mem (f := Prod.fst) h.mem)
theorem upd_ofF {d : Addr} {o o' : Obj} {l : List (Addr × Obj)} {g : Obj → List (Addr × Obj)} (h : UpdF d o l g) : Upd d o o' l (g o') := by
  induction h with
  | head h => exact .head h
  | tail h _ ih => exact .tail h ih
theorem upd_dist {d : Addr} {o o' : Obj} {l : List (Addr × Obj)} {g : Obj → List (Addr × Obj)} {as : List Addr} (h : UpdS d o l g) (n : Dist as) (e : l.map Prod.fst = as) : Upd d o o' l (g o') := upd_ofF (updF_dist h n e)
/-- a store writes one more layer on the frame -/
theorem storeL {M : Model} {A : Around} {E : Value → Shared → Prop} {s : Shared} {Q : Unit → Shared → Prop} {cn : PySem.Str} {cs : Scope} {L a : Addr} {ccd : Value} {cl : List (PySem.Str × Addr)} {x : PySem.Str} {v : Value} {h₀ : Heap} {m : PySem.Str → Option Value} {news : List (Addr × Obj)} (F : Fr h₀ L s.heap m) (N : News h₀ L s.heap news)
    (h : ∀ h', Fr h₀ L h' (mSet [(x, some v)] m) → News h₀ L h' news → Q () { s with heap := h', toks := s.toks + 1 })
    (hk : cs.kind = .function := by rfl) (hx : (envX cn cs L a ccd cl).kindOf x = some .local := by rfl) : wpAny M A (storeName (envX cn cs L a ccd cl) x v) Q E s := storeX_L F N h hk hx
theorem frIte {h₀ : Heap} {L : Addr} {h : Heap} {a : PySem.Str} {v : Option Value} {m : PySem.Str → Option Value} (F : Fr h₀ L h fun z => if z = a then v else m z) : Fr h₀ L h (mSet [(a, v)] m) := F
/-- m' is m0 but for the names -/
inductive MBase (names : List PySem.Str) (m0 : PySem.Str → Option Value) : (PySem.Str → Option Value) → Prop
  | base : MBase names m0 m0
  | set {l m} (h : (l.all fun p => names.contains p.1) = true) (b : MBase names m0 m) : MBase names m0 (mSet l m)
theorem mSet_out {l : List (PySem.Str × Option Value)} {m : PySem.Str → Option Value} {y : PySem.Str} (h : ∀ p ∈ l, y ≠ p.1) : mSet l m y = m y := by
  induction l with
  | nil => rfl
  | cons p r ih =>
    unfold mSet
    rw [if_neg (h p (.head _))]
    exact ih fun q hq => h q (.tail _ hq)
theorem MBase.off {names : List PySem.Str} {m0 m : PySem.Str → Option Value} (b : MBase names m0 m) {y : PySem.Str} (hy : y ∉ names) : m y = m0 y := by
  induction b with
  | base => rfl
  | @set l m h b ih =>
    rw [mSet_out fun p hp q => hy ?_]
    · exact ih
    · have := List.all_eq_true.mp h p hp
      rw [q]; exact List.contains_iff_mem.mp this
theorem mSet_map {names : List PySem.Str} {m' m0 : PySem.Str → Option Value} {y : PySem.Str} : mSet (names.map fun a => (a, m' a)) m0 y = if y ∈ names then m' y else m0 y := by
  induction names with
  | nil => rfl
  | cons a r ih =>
    rw [List.map_cons]
    unfold mSet
    by_cases q : y = a
    · subst q; rw [if_pos rfl, if_pos (.head _)]
    · rw [if_neg q, ih]
      by_cases h : y ∈ r
      · rw [if_pos h, if_pos (.tail _ h)]
      · rw [if_neg h, if_neg fun h' => (List.mem_cons.mp h').elim q h]
theorem mNorm {m' m0 : PySem.Str → Option Value} {l : List (PySem.Str × Option Value)} (b : MBase (l.map Prod.fst) m0 m') (e : (l.map fun p => (p.1, m' p.1)) = l) : mSet l m0 = m' := by
  have e' : ((l.map Prod.fst).map fun a => (a, m' a)) = l := by rw [List.map_map]; exact e
  generalize l.map Prod.fst = names at b e'
  subst e'
  funext y
  rw [mSet_map]
  by_cases h : y ∈ names
  · rw [if_pos h]
  · rw [if_neg h, b.off h]
/-- what a turn of a loop over a range begins with -/
inductive Turn (h₀ : Heap) (L : Addr) (h : Heap) (x : PySem.Str) (v : Option Value) (I : Addr) (it : Obj) (m : PySem.Str → Option Value) (news : List (Addr × Obj)) : Prop
  | mk (F : Fr h₀ L h (mSet [(x, v)] m)) (N : News h₀ L h ((I, it) :: news)) (o : ∀ p ∈ news, p.1 ≠ I) : Turn h₀ L h x v I it m news
inductive Done (h₀ : Heap) (L : Addr) (h : Heap) (m : PySem.Str → Option Value) (news : List (Addr × Obj)) : Prop
  | mk (F : Fr h₀ L h m) (N : News h₀ L h news) : Done h₀ L h m news
/-- the end of a turn -/
def RNx (h₀ : Heap) (L : Addr) (s : Shared) (I : Addr) (it : Obj) (J : ((PySem.Str → Option Value) → List (Addr × Obj) → Prop) → Prop) (s₃ : Shared) : Prop :=
  UnrEnd h₀ L s I it (fun m news => J fun m' news' => m' = m ∧ news' = news) s₃
theorem RNx.intro {h₀ : Heap} {L I : Addr} {it : Obj} {J : ((PySem.Str → Option Value) → List (Addr × Obj) → Prop) → Prop} {s₁ : Shared} {h' : Heap} {tk : Nat} {m' : PySem.Str → Option Value} {all news' : List (Addr × Obj)} {as : List Addr} (n : Nat) (F : Fr h₀ L h' m') (N : News h₀ L h' all) (d : Dist as) (ea : all.map Prod.fst = as) (ed : all.drop n = (I, it) :: news')
    (r : J fun m n => m = m' ∧ n = news') : RNx h₀ L s₁ I it J { s₁ with heap := h', toks := tk } := by
  subst ea
  have d' : Dist (((I, it) :: news').map Prod.fst) := dist_drop n d (by rw [← List.map_drop, ed])
  exact ⟨h', tk, m', news', rfl, F, fun p hp => N p (List.mem_of_mem_drop (ed ▸ hp)), fun p hp q => by
    have hm := List.mem_map_of_mem (f := Prod.fst) hp
    rw [q] at hm
    exact (List.nodup_cons.mp d').1 hm, r⟩
theorem LoopR.rangeK {prog : Program} {w : World} {A : Around} {E : Value → Shared → Prop} {s : Shared} {env : Env} {h₀ : Heap} {x : PySem.Str} {body : List Stmt} {Q : Flow → Shared → Prop} {r : Addr} {b₀ : Int} {t₀ u₀ v₀ : Tok} {m₀ : PySem.Str → Option Value} {news news₀ : List (Addr × Obj)} {L : Addr} (n : Nat)
    (F : Fr h₀ L s.heap m₀) (N : News h₀ L s.heap news) (hL : env.locals = L) (hr : IsRange s.heap r 0 b₀ 1 t₀ u₀ v₀) (hh : A.handled = none) (hsmall : Builtin.Range.small 0 b₀ 1 = true) (hn : Builtin.Range.rangeSize 0 b₀ 1 = (n : Int))
    (J : Nat → ((PySem.Str → Option Value) → List (Addr × Obj) → Prop) → Prop) (mono : ∀ i K K', (∀ m n, K m n → K' m n) → J i K → J i K') (hJ : J 0 fun m n => m = m₀ ∧ n = news₀) (sub : SubL news₀ news)
    (turn : ∀ I i t h tk, i < n → J i (Turn h₀ L h x (some (.int (i : Int) t)) I (itR ((i + 1 : Nat) : Int) ((n : Int) - ((i + 1 : Nat) : Int)))) →
      wpAny (model prog w) A (execs body env) (fun f s₃ => match f with
        | .next | .cont => RNx h₀ L { s with heap := h, toks := tk } I (itR ((i + 1 : Nat) : Int) ((n : Int) - ((i + 1 : Nat) : Int))) (J (i + 1)) s₃
        | .brk => Q .next s₃
        | .ret v => Q (.ret v) s₃) E { s with heap := h, toks := tk })
    (done : ∀ h tk, J n (Done h₀ L h) → Q .next { s with heap := h, toks := tk }) :
    LoopR prog w A h₀ env x body Q E (.ref r) s := by
  subst hL
  have N0 : News h₀ env.locals s.heap news₀ := fun p hp => N p (sub.mem p hp)
  refine iter_rangeUnr hh hr hsmall hn F N0 fun I hI => ?_
  have z : ∀ i : Nat, (0 : Int) + (i : Int) = (i : Int) := fun i => Int.zero_add _
  have key : ∀ k i m₁ news₁, i + k = n → (∀ p ∈ news₁, p.1 ≠ I) → (J i fun m n => m = m₁ ∧ n = news₁) → RangeRest prog w A E h₀ env x body Q s I 0 n k i m₁ news₁ := by
    intro k
    induction k with
    | zero =>
      intro i m₁ news₁ e o hJ
      refine RangeRest.zero fun h tk F N => ?_
      obtain rfl : i = n := by omega
      exact done h tk (mono _ _ _ (fun m n q => by obtain ⟨rfl, rfl⟩ := q; exact .mk F N) hJ)
    | succ k ih =>
      intro i m₁ news₁ e o hJ
      refine RangeRest.succ fun t h tk F N => ?_
      rw [z] at F N ⊢
      refine wpAny_mono (turn I i t h tk (by omega) (mono _ _ _ (fun m n q => by obtain ⟨rfl, rfl⟩ := q; exact .mk F N o) hJ)) (fun f s₃ hf => ?_) fun _ _ x => x
      have fin : RNx h₀ env.locals { s with heap := h, toks := tk } I (itR ((i + 1 : Nat) : Int) ((n : Int) - ((i + 1 : Nat) : Int))) (J (i + 1)) s₃ →
          UnrEnd h₀ env.locals { s with heap := h, toks := tk } I (itR ((i + 1 : Nat) : Int) ((n : Int) - ((i + 1 : Nat) : Int))) (RangeRest prog w A E h₀ env x body Q s I 0 n k (i + 1)) s₃ := by
        rintro ⟨h', tk', m', news', e', F', N', o', j⟩
        exact ⟨h', tk', m', news', e', F', N', o', ih (i + 1) m' news' (by omega) o' j⟩
      cases f with
      | next => exact fin hf
      | cont => exact fin hf
      | brk => exact hf
      | ret v => exact hf
  exact key n 0 m₀ news₀ (by omega) (fun p hp => Nat.ne_of_lt (hI p hp)) hJ
/-- a new list of ints in the ledger, its ints written -/
inductive Four (a b c d : Int) : List Value → Prop
  | mk (t u v x : Tok) : Four a b c d [.int a t, .int b u, .int c v, .int d x]
theorem four_of {vs : List Value} {a b c d : Int} (h : IntsAre vs [a, b, c, d]) : Four a b c d vs := by
  obtain ⟨ta, w1, rfl, h1⟩ := h.cons_inv
  obtain ⟨tb, w2, rfl, h2⟩ := h1.cons_inv
  obtain ⟨tc, w3, rfl, h3⟩ := h2.cons_inv
  obtain ⟨td, w4, rfl, h4⟩ := h3.cons_inv
  obtain rfl := h4.nil_inv
  exact .mk ..
theorem Four.ints {a b c d : Int} {t u v x : Tok} : IntsAre [.int a t, .int b u, .int c v, .int d x] [a, b, c, d] := .cons _ _ (.cons _ _ (.cons _ _ (.cons _ _ .nil)))
theorem RNx.introS {h₀ : Heap} {L I : Addr} {it : Obj} {J : ((PySem.Str → Option Value) → List (Addr × Obj) → Prop) → Prop} {s₁ : Shared} {h' : Heap} {tk : Nat} {m' : PySem.Str → Option Value} {all news' : List (Addr × Obj)} (F : Fr h₀ L h' m') (N : News h₀ L h' all) (r : J fun m n => m = m' ∧ n = news') (hI : (I, it) ∈ all) (sub : SubL news' all) (off : ∀ p ∈ news', p.1 ≠ I) : RNx h₀ L s₁ I it J { s₁ with heap := h', toks := tk } :=
  ⟨h', tk, m', news', rfl, F, fun p hp => by
    rcases List.mem_cons.mp hp with rfl | hp
    · exact N _ hI
    · exact N p (sub.mem p hp), off, r⟩
theorem dist_front {q : Addr} {pre post : List Addr} (d : Dist (pre ++ q :: post)) : Dist (q :: (pre ++ post)) := List.perm_middle.nodup d
theorem dist_sub {as bs : List Addr} (d : Dist as) (h : bs.Sublist as) : Dist bs := d.sublist h
theorem dist_newO {D : Addr} {news : List (Addr × Obj)} {as : List Addr} (h : LCg.Off1 D news) (d : Dist as) (e : news.map Prod.fst = as := by rfl) : Dist (D :: as) := by
  refine dist_new' ?_ d e
  clear d e
  induction news with
  | nil => exact fun p hp => nomatch hp
  | cons p r ih =>
    intro q hq
    rcases List.mem_cons.mp hq with rfl | hq
    · exact h.1
    · exact ih h.2 q hq
/-- objects that stand in the heap and are new to the ground -/
def NewAt (h h₀ : Heap) (news : List (Addr × Obj)) : Prop := ∀ p ∈ news, h.get? p.1 = some p.2 ∧ h₀.get? p.1 = none
theorem NewAt.nil {h h₀ : Heap} : NewAt h h₀ [] := fun _ hp => nomatch hp
theorem NewAt.cons {h h₀ : Heap} {a : Addr} {o : Obj} {r : List (Addr × Obj)} (e : h.get? a = some o) (n : h₀.get? a = none) (t : NewAt h h₀ r) : NewAt h h₀ ((a, o) :: r) := fun p hp => by
  rcases List.mem_cons.mp hp with rfl | hp
  · exact ⟨e, n⟩
  · exact t p hp
theorem keeps_mid {h h' : Heap} {a b : Addr} {ms : List Addr} {o : Obj} (k : Keeps h h' (a :: b :: ms)) (e : h.get? b = some o) (e' : h'.get? b = some o) : Keeps h h' (a :: ms) := fun y oy hy n => by
  by_cases q : y = b
  · subst q; rw [e] at hy; cases hy; exact e'
  · refine k y oy hy fun hm => ?_
    rcases List.mem_cons.mp hm with hm | hm
    · exact n (hm ▸ .head _)
    · rcases List.mem_cons.mp hm with hm | hm
      · exact q hm
      · exact n (.tail _ hm)
theorem fresh_list {g h h' : Heap} {L : Addr} {ms ys rest : List Addr} {all : List (Addr × Obj)} (hg : ∀ b o, h.get? b = some o → b ∉ ms → g.get? b = some o) (N : News g L h' all) (e : all.map Prod.fst = ys ++ rest) (d : Dist (ys ++ ms)) : ∀ y ∈ ys, h.get? y = none := fun y hy => by
  have hm : y ∈ all.map Prod.fst := e ▸ List.mem_append_left _ hy
  obtain ⟨p, hp, rfl⟩ := List.mem_map.mp hm
  cases q : h.get? p.1 with
  | none => rfl
  | some o =>
    have := hg _ _ q fun hz => (List.nodup_append.mp d).2.2 _ hy _ hz rfl
    rw [(N p hp).2.2] at this
    cases this
end Mine
end

section
open PySem PySem.W PyProof.Rows PySem.Calls
set_option maxRecDepth 100000
set_option maxHeartbeats 8000000
namespace Mine
example : True := by
  w_top off
  k_with_none
  trivial
example : True := by first | walk1 | trivial
example : True := by
  k_with_none
  k_with "m_memR" => (first | (with_reducible apply mem_h) | (with_reducible apply mem_t; k_extra "m_memR"))
  k_with "m_memD" => (first | apply mem_h | (with_reducible apply mem_t; k_extra "m_memD"))
  k_with "m_mem" => (first | k_extra "m_memR" | k_extra "m_memD")
  k_with "m_neD" => (first | (with_reducible apply NeD.l; k_extra "m_memR") | (with_reducible apply NeD.r; k_extra "m_memR") | (with_reducible apply NeD.t; k_extra "m_neD"))
  k_with "m_ne" => ((try dsimp only); refine ne_of (by with_reducible assumption) (by k_extra "m_neD"))
  k_with "m_updS" => (first | (with_reducible apply UpdS.head) | (apply UpdS.tail; k_extra "m_updS"))
  k_with "m_updF" => k_dflt (refine updF_dist (by k_extra "m_updS") (by with_reducible assumption) (by rfl))
  k_with "m_upd" => k_dflt (refine upd_dist (by k_extra "m_updS") (by with_reducible assumption) (by rfl))
  k_with "m_lt" => k_dflt (intro zl; (with_reducible rename Dist _ => zdo); (have zd' := dist_lt zl zdo (by rfl)); clear zl zdo)
  k_with "m_nw" => k_dflt (intro zl; (with_reducible rename Dist _ => zdo); (have zd' := dist_new zl zdo (by rfl)); clear zl zdo)
  k_with "storeName" => (k_here; k_dflt (refine storeL (by k_asm) (by k_asm) ?_ (by rfl) (by rfl)); intro _ _ _; (try k_sweep))
  trivial
theorem in_strV {prog : Program} {w : World} {A : Around} {E : Value → Shared → Prop} {s : Shared} {x y : PySem.Str} {t u : Tok} {Q : Value → Shared → Prop} {b : Bool} (e : Txt.contains x y = b) (h : Q (.bool b) s) : wpAny (model prog w) A (compareOp .In (.str y u) (.str x t)) Q E s := SB.contains (by rw [e]; exact h)
theorem eq_strV {prog : Program} {w : World} {A : Around} {E : Value → Shared → Prop} {s : Shared} {x y : PySem.Str} {t u : Tok} {Q : Value → Shared → Prop} {b : Bool} (e : (x == y) = b) (h : Q (.bool b) s) : wpAny (model prog w) A (compareOp .Eq (.str x t) (.str y u)) Q E s := eq_str (by rw [e]; exact h)
theorem ws10 : Txt.contains (PySem.Str.ofString "\n\t\r ") ⟨#[10]⟩ = true := by decide +kernel
theorem ws34 : Txt.contains (PySem.Str.ofString "\n\t\r ") ⟨#[34]⟩ = false := by decide +kernel
theorem ws92 : Txt.contains (PySem.Str.ofString "\n\t\r ") ⟨#[92]⟩ = false := by decide +kernel
theorem ws9 : Txt.contains (PySem.Str.ofString "\n\t\r ") ⟨#[9]⟩ = true := by decide +kernel
theorem q34 : ((⟨#[34]⟩ : PySem.Str) == PySem.Str.ofString "\"") = true := by decide +kernel
theorem q92 : ((⟨#[92]⟩ : PySem.Str) == PySem.Str.ofString "\"") = false := by decide +kernel
theorem b92 : ((⟨#[92]⟩ : PySem.Str) == PySem.Str.ofString "\\") = true := by decide +kernel
theorem qNo {c : Nat} (h : c ≠ 34) : ((⟨#[c]⟩ : PySem.Str) == PySem.Str.ofString "\"") = false := by
  have e : PySem.Str.ofString "\"" = ⟨#[34]⟩ := by decide +kernel
  rw [e]; exact beq_eq_false_iff_ne.mpr fun q => h (by cases q; rfl)
theorem bNo {c : Nat} (h : c ≠ 92) : ((⟨#[c]⟩ : PySem.Str) == PySem.Str.ofString "\\") = false := by
  have e : PySem.Str.ofString "\\" = ⟨#[92]⟩ := by decide +kernel
  rw [e]; exact beq_eq_false_iff_ne.mpr fun q => h (by cases q; rfl)
theorem drop_next {l : List Nat} {n c : Nat} {r : List Nat} (h : l.drop n = c :: r) : l.drop (n + 1) = r := by
  have := congrArg (List.drop 1) h
  rw [List.drop_drop] at this
  simpa using this
theorem drop_len {x : PySem.Str} {n c : Nat} {r : List Nat} (h : x.cps.toList.drop n = c :: r) : n + 1 ≤ x.length := by
  have := congrArg List.length h
  rw [List.length_drop, len_toList, List.length_cons] at this
  omega
theorem iter_K {prog : Program} {w : World} {A : Around} {E : Value → Shared → Prop} {s : Shared} {g : Heap} {L : Addr} {m : PySem.Str → Option Value} {news : List (Addr × Obj)} {mo : Addr} {f self : Value} {t : Tok} {Q : Value → Shared → Prop} (F : Fr g L s.heap m) (N : News g L s.heap news) (hm : (mo, methodObj f self) ∈ news)
    (h : ∀ it h', Fr g L h' m → News g L h' ((it, ciObj mo t) :: news) → (∀ p ∈ news, p.1 < it) → Q (.ref it) { s with heap := h' }) : wpAny (model prog w) A (call (.builtin "iter") [.ref mo, .str ⟨#[]⟩ t]) Q E s :=
  iter_ci (N _ hm).1 (h _ _ (F.push _) (N.push F _ rfl) fun p hp => Heap.lt_size (N p hp).1)
theorem For_ciF {prog : Program} {w : World} {A : Around} {s : Shared} {env : Env} {h₀ : Heap} {x : PySem.Str} {body : List Stmt} {Q : Flow → Shared → Prop} {px pos : Pos} {iter : Expr} {m : PySem.Str → Option Value} (_F : Fr h₀ env.locals s.heap m) (hx : env.kindOf x = some .local)
    (hp : (env.scope.kind == .class || (env.scope.kind == .module && env.locals != env.globals)) = false)
    (h : wpAny (model prog w) A (eval iter env) (fun v s₁ => LoopC prog w A h₀ env x body Q v s₁) (fun _ _ => False) s)
    (hs : ∀ x, foldedSetIterable iter env x = pure x := by intro _; rfl) :
    wpAny (model prog w) A (exec (.For (.Name x px) iter body [] pos) env) Q (fun _ _ => False) s := For_ci hx hp h hs
abbrev TK := (PySem.Str → Option Value) → List (Addr × Obj) → Prop
def LoopNx (h₀ : Heap) (L : Addr) (s₂ : Shared) (J : Nat → TK → Prop) (k : Nat) (s₃ : Shared) : Prop := LoopNext h₀ L s₂ (fun k m news => J k fun m' n' => m' = m ∧ n' = news) k s₃
theorem LoopNx.intro {h₀ : Heap} {L : Addr} {s₂ : Shared} {J : Nat → TK → Prop} {k k' : Nat} {h : Heap} {m : PySem.Str → Option Value} {news : List (Addr × Obj)} {tk : Nat} (F : Fr h₀ L h m) (N : News h₀ L h news) (hk : k' < k) (hJ : J k' fun m' n' => m' = m ∧ n' = news) :
   LoopNx h₀ L s₂ J k { s₂ with heap := h, toks := tk } := ⟨k', h, m, news, tk, hk, rfl, F, N, hJ⟩
def CiPost (prog : Program) (w : World) (A : Around) (h₀ : Heap) (L : Addr) (env : Env) (x : PySem.Str) (body : List Stmt) (Q : Flow → Shared → Prop) (s₂ : Shared) (J : Nat → TK → Prop) (k : Nat) (r : Option Value) (s' : Shared) : Prop :=
  match r with
  | none => Q .next s'
  | some v => ∃ h' tk' m' news', s' = { s₂ with heap := h', toks := tk' } ∧ Fr h₀ L h' m' ∧ News h₀ L h' news' ∧
    ∀ h'' tk'', Fr h₀ L h'' (mSet [(x, some v)] m') → News h₀ L h'' news' → wpAny (model prog w) A (execs body env) (fun f s₃ => match f with
      | .next | .cont => LoopNx h₀ L s₂ J k s₃
      | .brk => Q .next s₃
      | .ret v => Q (.ret v) s₃) (fun _ _ => False) { s₂ with heap := h'', toks := tk'' }
theorem LoopC.introK {prog : Program} {w : World} {A : Around} {h₀ : Heap} {env : Env} {x : PySem.Str} {body : List Stmt} {Q : Flow → Shared → Prop} {s₂ : Shared} {it mo L : Addr} {t : Tok} {m : PySem.Str → Option Value} {news : List (Addr × Obj)} (F : Fr h₀ L s₂.heap m) (N : News h₀ L s₂.heap news) (hL : env.locals = L) (hit : (it, ciObj mo t) ∈ news)
    (J : Nat → TK → Prop) (mono : ∀ k K K', (∀ m n, K m n → K' m n) → J k K → J k K') (k : Nat) (hJ : J k fun m' n' => m' = m ∧ n' = news)
    (h : ∀ k h tk, J k (Done h₀ L h) → wpAny (model prog w) A (pyNext (.ref it)) (CiPost prog w A h₀ L env x body Q s₂ J k) (fun _ _ => False) { s₂ with heap := h, toks := tk }) : LoopC prog w A h₀ env x body Q (.ref it) s₂ := by
  subst hL
  exact ⟨it, mo, t, _, k, m, news, rfl, (N _ hit).1, F, N, hJ, fun k m news h' tk hj F N => h k h' tk (mono _ _ _ (fun m n q => by obtain ⟨rfl, rfl⟩ := q; exact .mk F N) hj)⟩
/-- what stands while get_token reads -/
abbrev LedT (w : World) (it mo : Addr) (ti : Tok) (x dx pb al fs : Addr) (k1 k2 k3 k4 t3 : Tok) (np na : Nat) (t1 : Tok) (ln : Int) (n : Nat) (ta : Tok) : List (Addr × Obj) :=
  [(it, ciObj mo ti), (mo, methodObj (Value.ref 104) (Value.ref x)), (x, instObj 121 dx), (dx, lexDict w k1 k2 k3 k4 t1 t3 ln fs pb), (pb, listOf ([] : List Value).toArray np), (al, listOf #[Value.int (n : Int) ta] na)]
section
variable {prog : Program} {w : World} {A : Around} {E : Value → Shared → Prop} {s : Shared} {g h : Heap} {p : Program} {loose : List PySem.Str} {mean : ExcName → Option Value} {mg mb : PySem.Str → Option Value} {L : Addr} {m : PySem.Str → Option Value} {tk : Nat}
  {it mo x dx pb al fs : Addr} {ti k1 k2 k3 k4 t1 t3 ta : Tok} {ln ln' : Int} {n np na : Nat} {text : PySem.Str} {c : Nat} {r : List Nat} {env : Env} {y : PySem.Str} {body : List Stmt} {Q : Flow → Shared → Prop} {J : Nat → TK → Prop} {k : Nat}
theorem updT1 (d : Dist [it, mo, x, dx, pb, al]) : UpdF dx (lexDict w k1 k2 k3 k4 t1 t3 ln fs pb) (LedT w it mo ti x dx pb al fs k1 k2 k3 k4 t3 np na t1 ln n ta) (fun o => [(it, ciObj mo ti), (mo, methodObj (Value.ref 104) (Value.ref x)), (x, instObj 121 dx), (dx, o), (pb, listOf ([] : List Value).toArray np), (al, listOf #[Value.int (n : Int) ta] na)]) := updF_dist (.tail (.tail (.tail .head))) d rfl
theorem updT2 (d : Dist [it, mo, x, dx, pb, al]) (o : Obj) : UpdF al (listOf #[Value.int (n : Int) ta] na) [(it, ciObj mo ti), (mo, methodObj (Value.ref 104) (Value.ref x)), (x, instObj 121 dx), (dx, o), (pb, listOf ([] : List Value).toArray np), (al, listOf #[Value.int (n : Int) ta] na)] (fun o' => [(it, ciObj mo ti), (mo, methodObj (Value.ref 104) (Value.ref x)), (x, instObj 121 dx), (dx, o), (pb, listOf ([] : List Value).toArray np), (al, o')]) := updF_dist (.tail (.tail (.tail (.tail (.tail .head))))) d rfl
theorem ciChar (d : Dist [it, mo, x, dx, pb, al]) (N : News g L h (LedT w it mo ti x dx pb al fs k1 k2 k3 k4 t3 np na t1 ln n ta)) (F : Fr g L h m) (X : (lawTop.heap_39 w.params).In g) (T : Top p loose mean mg mb g) (SA : StreamAt w g fs text al) (hlen : text.length ≤ 10000)
   (hd : text.cps.toList.drop n = c :: r) (hl : (if c = 10 then ln + 1 else ln) = ln') (hA1 : A.handled = none) (hA2 : A.depth ≤ 345) (hA3 : A.units ≤ 460)
   (post : ∀ t' t1' ta' h tk, Fr g L h (mSet [(y, some (.str ⟨#[c]⟩ t'))] m) → News g L h (LedT w it mo ti x dx pb al fs k1 k2 k3 k4 t3 np na t1' ln' (n + 1) ta') → wpAny (model prog w) A (execs body env) (fun f s₃ => match f with
      | .next | .cont => LoopNx g L s J k s₃
      | .brk => Q .next s₃
      | .ret v => Q (.ret v) s₃) (fun _ _ => False) { s with heap := h, toks := tk }) :
   wpAny (model prog w) A (pyNext (.ref it)) (CiPost prog w A g L env y body Q s J k) (fun _ _ => False) { s with heap := h, toks := tk } :=
  n_char F N X T SA (.tail _ (.tail _ (.head _))) (.head _) (.tail _ (.head _)) (updT1 d) (updT2 d) (ne_of d (.t (.t (.l (.head _))))) (ne_of d (.t (.t (.l (.tail _ (.tail _ (.head _))))))) (ne_of d (.t (.t (.t (.l (.tail _ (.head _))))))) hlen hd hA1 hA2 hA3
    fun t' t1' ta' _ _ F' N' => ⟨_, _, _, _, rfl, F', hl ▸ N', fun h'' tk'' F'' N'' => post t' t1' ta' h'' tk'' F'' N''⟩
theorem ciEof (d : Dist [it, mo, x, dx, pb, al]) (N : News g L h (LedT w it mo ti x dx pb al fs k1 k2 k3 k4 t3 np na t1 ln n ta)) (F : Fr g L h m) (X : (lawTop.heap_39 w.params).In g) (T : Top p loose mean mg mb g) (SA : StreamAt w g fs text al) (hlen : text.length ≤ 10000)
   (hd : text.cps.toList.drop n = []) (hn : n ≤ text.length) (hA1 : A.handled = none) (hA2 : A.depth ≤ 345) (hA3 : A.units ≤ 460)
   (post : ∀ t1' ta' h tk, Fr g L h m → News g L h (LedT w it mo ti x dx pb al fs k1 k2 k3 k4 t3 np na t1' ln n ta').tail.tail → Q .next { s with heap := h, toks := tk }) :
   wpAny (model prog w) A (pyNext (.ref it)) (CiPost prog w A g L env y body Q s J k) (fun _ _ => False) { s with heap := h, toks := tk } :=
  n_eof F N X T SA (.tail _ (.tail _ (.head _))) (.head _) (.tail _ (.head _)) (updT1 d) (updT2 d) (ne_of d (.t (.t (.l (.head _))))) (ne_of d (.t (.t (.l (.tail _ (.tail _ (.head _))))))) (ne_of d (.t (.t (.t (.l (.tail _ (.head _))))))) hlen hd hn hA1 hA2 hA3
    fun t1' ta' _ _ F' N' => post t1' ta' _ _ F' fun q hq => N' q (.tail _ (.tail _ hq)) fun e => (List.nodup_cons.mp d).1 (e ▸ .tail _ (List.mem_map_of_mem (f := Prod.fst) hq))
theorem readT {Q : Value → Shared → Prop} (d : Dist [it, mo, x, dx, pb, al]) (N : News g L s.heap (LedT w it mo ti x dx pb al fs k1 k2 k3 k4 t3 np na t1 ln n ta)) (F : Fr g L s.heap m) (X : (lawTop.heap_39 w.params).In g) (T : Top p loose mean mg mb g) (SA : StreamAt w g fs text al) (hlen : text.length ≤ 10000)
   (hd : text.cps.toList.drop n = c :: r) (hl : (if c = 10 then ln + 1 else ln) = ln') (hA1 : A.handled = none) (hA2 : A.depth ≤ 345) (hA3 : A.units ≤ 480)
   (post : ∀ t' t1' ta' h' tk', Fr g L h' m → News g L h' (LedT w it mo ti x dx pb al fs k1 k2 k3 k4 t3 np na t1' ln' (n + 1) ta') → Q (.str ⟨#[c]⟩ t') { s with heap := h', toks := tk' }) :
   wpAny (model prog w) A (call (.ref 104) [.ref x]) Q E s :=
  wpAny_call (r_char F N X T SA (.tail _ (.tail _ (.head _))) (updT1 d) (updT2 d) (ne_of d (.t (.t (.l (.head _))))) (ne_of d (.t (.t (.l (.tail _ (.tail _ (.head _))))))) (ne_of d (.t (.t (.t (.l (.tail _ (.head _))))))) hlen hd hA1 hA2 hA3
    fun t' t1' ta' h' tk' F' N' _ => post t' t1' ta' h' tk' F' (hl ▸ N'))
end
/-- the line ends ahead of a token -/
inductive TokO (text : PySem.Str) (tl : List Nat) (tot : Int) (k : Nat) (P : Nat → Int → Tok → Tok → Tok → Option Value → Prop) : Prop
  | mk (n : Nat) (ln : Int) (t1 ta tt : Tok) (uch : Option Value) : text.cps.toList.drop n = List.replicate k 10 ++ tl → n ≤ text.length → ln + k = tot → P n ln t1 ta tt uch → TokO text tl tot k P
theorem TokO.mono {text : PySem.Str} {tl : List Nat} {tot : Int} {k : Nat} {P P' : Nat → Int → Tok → Tok → Tok → Option Value → Prop} (h : TokO text tl tot k P) (q : ∀ a b c d e f, P a b c d e f → P' a b c d e f) : TokO text tl tot k P' := by
  obtain ⟨n, ln, t1, ta, tt, uch, h1, h2, h3, h4⟩ := h
  exact ⟨n, ln, t1, ta, tt, uch, h1, h2, h3, q _ _ _ _ _ _ h4⟩
/-- a turn's start: a line end, or the token's first sign -/
inductive TokU (text : PySem.Str) (tl : List Nat) (tot : Int) (k : Nat) (P : Nat → Int → Tok → Tok → Tok → Option Value → Prop) : Prop
  | nl (k' n : Nat) (ln : Int) (t1 ta tt : Tok) (uch : Option Value) (r : List Nat) : text.cps.toList.drop n = 10 :: r → k' < k → (∀ P' : Nat → Int → Tok → Tok → Tok → Option Value → Prop, ∀ t1 ta tt uch, P' (n + 1) (ln + 1) t1 ta tt uch → TokO text tl tot k' P') → P n ln t1 ta tt uch → TokU text tl tot k P
  | go (n : Nat) (t1 ta tt : Tok) (uch : Option Value) : text.cps.toList.drop n = tl → n ≤ text.length → P n tot t1 ta tt uch → TokU text tl tot k P
theorem TokO.open {text : PySem.Str} {tl : List Nat} {tot : Int} {k : Nat} {P : Nat → Int → Tok → Tok → Tok → Option Value → Prop} (h : TokO text tl tot k P) : TokU text tl tot k P := by
  obtain ⟨n, ln, t1, ta, tt, uch, h1, h2, h3, h4⟩ := h
  cases k with
  | zero =>
    obtain rfl : ln = tot := by simpa using h3
    exact .go n t1 ta tt uch h1 h2 h4
  | succ k =>
    refine .nl k n ln t1 ta tt uch _ h1 (Nat.lt_succ_self k) (fun P' t1 ta tt uch h => ⟨n + 1, ln + 1, t1, ta, tt, uch, drop_next h1, drop_len h1, by omega, h⟩) h4
abbrev PT := PySem.Str → Nat → Tok → Tok → Tok → Option Value → Prop
/-- the signs of a token -/
inductive TokI (text : PySem.Str) (f : Nat → List Nat) (tl wd : List Nat) (k : Nat) (P : PT) : Prop
  | mk (n : Nat) (t1 ta tt : Tok) (uch : Option Value) (done todo : List Nat) : text.cps.toList.drop n = todo.flatMap f ++ tl → k = todo.length → done ++ todo = wd → P ⟨done.toArray⟩ n t1 ta tt uch → TokI text f tl wd k P
theorem TokI.at {text : PySem.Str} {f : Nat → List Nat} {tl wd : List Nat} {P : PT} (n : Nat) (t1 ta tt : Tok) (uch : Option Value) (done todo : List Nat) (d : PySem.Str) (e : d = ⟨done.toArray⟩) (h1 : text.cps.toList.drop n = todo.flatMap f ++ tl) (h3 : done ++ todo = wd) (h : P d n t1 ta tt uch) : TokI text f tl wd todo.length P := by
  subst e
  exact ⟨n, t1, ta, tt, uch, done, todo, h1, rfl, h3, h⟩
theorem single_app (c : Nat) : (⟨#[]⟩ : PySem.Str) ++ (⟨#[c]⟩ : PySem.Str) = ⟨[c].toArray⟩ := by
  show (⟨#[] ++ #[c]⟩ : PySem.Str) = _
  congr 1
theorem TokI.mono {text : PySem.Str} {f : Nat → List Nat} {tl wd : List Nat} {k : Nat} {P P' : PT} (h : TokI text f tl wd k P) (q : ∀ a b c d e f, P a b c d e f → P' a b c d e f) : TokI text f tl wd k P' := by
  obtain ⟨n, t1, ta, tt, uch, done, todo, h1, h2, h3, h4⟩ := h
  exact ⟨n, t1, ta, tt, uch, done, todo, h1, h2, h3, q _ _ _ _ _ _ h4⟩
inductive TokV (text : PySem.Str) (f : Nat → List Nat) (tl wd : List Nat) (k : Nat) (P : PT) : Prop
  | nil (n : Nat) (t1 ta tt : Tok) (uch : Option Value) : text.cps.toList.drop n = tl → P ⟨wd.toArray⟩ n t1 ta tt uch → TokV text f tl wd k P
  | cons (k' n : Nat) (t1 ta tt : Tok) (uch : Option Value) (d : PySem.Str) (c : Nat) (r : List Nat) : text.cps.toList.drop n = f c ++ r → c ∈ wd → k' < k → d.length ≤ 1000 → (∀ (P' : PT) n t1 ta tt uch, text.cps.toList.drop n = r → P' (d ++ ⟨#[c]⟩) n t1 ta tt uch → TokI text f tl wd k' P') → P d n t1 ta tt uch → TokV text f tl wd k P
theorem TokI.open {text : PySem.Str} {f : Nat → List Nat} {tl wd : List Nat} {k : Nat} {P : PT} (h : TokI text f tl wd k P) (hw : wd.length ≤ 1000) : TokV text f tl wd k P := by
  obtain ⟨n, t1, ta, tt, uch, done, todo, h1, rfl, h3, h4⟩ := h
  cases todo with
  | nil =>
    rw [List.append_nil] at h3
    subst h3
    exact .nil n t1 ta tt uch h1 h4
  | cons c todo =>
    refine .cons todo.length n t1 ta tt uch ⟨done.toArray⟩ c (todo.flatMap f ++ tl) (by rw [h1, List.flatMap_cons, List.append_assoc]) (by rw [← h3]; simp) (Nat.lt_succ_self _) ?_ (fun P' n t1 ta tt uch e h => ⟨n, t1, ta, tt, uch, done ++ [c], todo, e, rfl, by rw [← h3]; simp, ?_⟩) h4
    · show done.toArray.size ≤ 1000
      have := congrArg List.length h3
      simp at this ⊢
      omega
    · have hap : (⟨done.toArray⟩ : PySem.Str) ++ (⟨#[c]⟩ : PySem.Str) = ⟨(done ++ [c]).toArray⟩ := by
        show (⟨done.toArray ++ #[c]⟩ : PySem.Str) = _
        congr 1
        simp
      rw [← hap]; exact h
def fq (c : Nat) : List Nat := if c = 34 ∨ c = 92 then [92, c] else [c]
/-- what stands behind the line ends: a word in quotation marks, a bare one, nothing -/
inductive Tail (tl word rest : List Nat) : Prop
  | q : tl = 34 :: (word.flatMap fq ++ 34 :: rest) → (∀ c ∈ word, c ≠ 10) → word.length ≤ 1000 → Tail tl word rest
  | b (c0 : Nat) (w' : List Nat) : word = c0 :: w' → tl = 92 :: c0 :: (w'.flatMap (fun c => [92, c]) ++ 9 :: rest) → (∀ c ∈ word, c ≠ 10) → word.length ≤ 1000 → Tail tl word rest
  | e : tl = [] → word = [] → rest = [] → Tail tl word rest
example : True := by
  k_with "truthy ref" => (k_here; k_dflt (first | refine truthy_nil (by k_asm) (by k_mem) ?_ | refine truthy_cons (by k_asm) (by k_mem) (by assumption) ?_))
  k_with "exec For Name Name cons nil" => (k_here; (rename Fr _ _ _ _ => lF'); (with_unfolding_all refine For_ciF lF' (by rfl) (by rfl) ?_))
  k_with "call builtin:iter" => (k_here; k_dflt (refine iter_K (by k_asm) (by k_asm) (by k_mem) ?_); intro _ _ _ _ zl; (try k_lt zl); (try k_sweep))
  k_with "compareOp In str str" => (first | with_reducible refine in_strV ws10 ?_ | with_reducible refine in_strV ws34 ?_ | with_reducible refine in_strV ws92 ?_ | with_reducible refine in_strV ws9 ?_)
  k_with "compareOp Eq str str" => (first | with_reducible refine eq_strV q34 ?_ | with_reducible refine eq_strV q92 ?_ | with_reducible refine eq_strV b92 ?_ | with_reducible refine eq_strV (by assumption) ?_)
  k_with "call ref" => (k_here; k_dflt (refine readT (by with_reducible assumption) (by with_reducible assumption) (by with_reducible assumption) (by with_reducible assumption) (by with_reducible assumption) (by with_reducible assumption) (by with_reducible assumption) (by with_reducible assumption) (if_neg (by with_reducible assumption)) rfl (Nat.le_of_ble_eq_true rfl) (Nat.le_of_ble_eq_true rfl) ?_; intro _ _ _ _ _ _ _; (try k_sweep)))
  k_with "m_steps" => (repeat' (first | (k_unfold; (try dsimp only)) | (k_end; wrow_close) | (walk1; (try dsimp only)) | (dsimp only; walk1) | (leave1; try dsimp only) | fail "no step"))
  k_with "m_mb" => (first | exact MBase.base | (apply MBase.set (by kernel_rfl); k_extra "m_mb"))
  k_with "m_norm" => (exact ⟨mNorm (by k_extra "m_mb") rfl, rfl⟩)
  trivial
theorem frOf {g : Heap} {L : Addr} {h : Heap} {l : List (PySem.Str × Value)} (F : Fr g L h fun y => l.lookup y) : Fr g L h (mSet (l.map fun p => (p.1, some p.2)) fun _ => none) := by
  have e : (fun y => l.lookup y) = mSet (l.map fun p => (p.1, some p.2)) fun _ => none := by
    funext y
    clear F
    induction l with
    | nil => rfl
    | cons p r ih =>
      rw [List.map_cons, List.lookup_cons]
      unfold mSet
      by_cases q : y = p.1
      · subst q; rw [if_pos rfl, beq_self_eq_true]
      · rw [if_neg q, beq_eq_false_iff_ne.mpr q]; exact ih
  rw [← e]; exact F
theorem gt_tok {prog : Program} {w : World} {s : Shared} {h₀ : Heap} {E : Value → Shared → Prop} {Q : Value → Shared → Prop} (W : Wd w h₀) (st : h₀.StaysIn s.heap) {x dx pb al fs : Addr} {k1 k2 k3 k4 t1 t3 ta : Tok} {ln : Int} {np n na : Nat} {text : PySem.Str} {nl : Nat} {tl word rest : List Nat}
   (ex : s.heap.get? x = some (instObj 121 dx)) (ed : s.heap.get? dx = some (lexDict w k1 k2 k3 k4 t1 t3 ln fs pb)) (ep : s.heap.get? pb = some (listOf ([] : List Value).toArray np)) (ea : s.heap.get? al = some (listOf #[Value.int (n : Int) ta] na)) (SA : StreamAt w h₀ fs text al)
   (nx : h₀.get? x = none) (nd : h₀.get? dx = none) (npb : h₀.get? pb = none) (nal : h₀.get? al = none) (hdd : Dist [x, dx, pb, al]) (hlen : text.length ≤ 10000)
   (hd : text.cps.toList.drop n = List.replicate nl 10 ++ tl) (hn : n ≤ text.length) (ht : Tail tl word rest)
   (post : ∀ n' t' t1' ta' h' tk', text.cps.toList.drop n' = rest → n' ≤ text.length → Keeps s.heap h' [dx, al] → h'.get? dx = some (lexDict w k1 k2 k3 k4 t1' t3 (ln + nl) fs pb) → h'.get? al = some (listOf #[Value.int ((n' : Nat) : Int) ta'] na) → Q (.str ⟨word.toArray⟩ t') { s with heap := h', toks := tk' }) :
   wpAny (model prog w) (AC 340 430) (call (.ref 111) [.ref x]) Q E s := by
  revert W st ex ed ep ea SA nx nd npb nal hdd hlen hd hn ht post
  refine pad fun (zp0 : Nat) => ?_
  revert prog w s h₀ E Q x dx pb al fs k1 k2 k3 k4 t1 t3 ta ln np n na text nl tl word rest zp0
  refine @(all_eps28 (neP neI (neP neW (neP neS (neP neI (neP neI (neP neI (neP neI (neP neI (neP neI (neP neI (neP neI (neP neI (neP neI (neP neI (neP neI (neP neI (neP neI (neP neI (neP neI (neP neI (neP neI (neP neI (neP neI (neP neI (neP neI (neP neI (neP neI neI))))))))))))))))))))))))))) ?_)
  generalize @eps28 _ _ _ _ _ _ _ _ _ _ _ _ _ _ _ _ _ _ _ _ _ _ _ _ _ _ _ _ _ _ = zt
  generalize zt.1 = prog, zt.2.1 = w, zt.2.2.1 = s, zt.2.2.2.1 = h₀, zt.2.2.2.2.1 = E, zt.2.2.2.2.2.1 = Q, zt.2.2.2.2.2.2.1 = x, zt.2.2.2.2.2.2.2.1 = dx, zt.2.2.2.2.2.2.2.2.1 = pb, zt.2.2.2.2.2.2.2.2.2.1 = al, zt.2.2.2.2.2.2.2.2.2.2.1 = fs, zt.2.2.2.2.2.2.2.2.2.2.2.1 = k1, zt.2.2.2.2.2.2.2.2.2.2.2.2.1 = k2, zt.2.2.2.2.2.2.2.2.2.2.2.2.2.1 = k3, zt.2.2.2.2.2.2.2.2.2.2.2.2.2.2.1 = k4, zt.2.2.2.2.2.2.2.2.2.2.2.2.2.2.2.1 = t1, zt.2.2.2.2.2.2.2.2.2.2.2.2.2.2.2.2.1 = t3, zt.2.2.2.2.2.2.2.2.2.2.2.2.2.2.2.2.2.1 = ta, zt.2.2.2.2.2.2.2.2.2.2.2.2.2.2.2.2.2.2.1 = ln, zt.2.2.2.2.2.2.2.2.2.2.2.2.2.2.2.2.2.2.2.1 = np, zt.2.2.2.2.2.2.2.2.2.2.2.2.2.2.2.2.2.2.2.2.1 = n, zt.2.2.2.2.2.2.2.2.2.2.2.2.2.2.2.2.2.2.2.2.2.1 = na, zt.2.2.2.2.2.2.2.2.2.2.2.2.2.2.2.2.2.2.2.2.2.2.1 = text, zt.2.2.2.2.2.2.2.2.2.2.2.2.2.2.2.2.2.2.2.2.2.2.2.1 = nl, zt.2.2.2.2.2.2.2.2.2.2.2.2.2.2.2.2.2.2.2.2.2.2.2.2.1 = tl, zt.2.2.2.2.2.2.2.2.2.2.2.2.2.2.2.2.2.2.2.2.2.2.2.2.2.1 = word, zt.2.2.2.2.2.2.2.2.2.2.2.2.2.2.2.2.2.2.2.2.2.2.2.2.2.2.1 = rest, zt.2.2.2.2.2.2.2.2.2.2.2.2.2.2.2.2.2.2.2.2.2.2.2.2.2.2.2 = zp0
  clear zt
  clear zp0
  intro W st ex ed ep ea SA nx nd npb nal hdd hlen hd hn ht post
  refine enterP (args := ⟨[.ref x], []⟩) W st (news := [(x, instObj 121 dx), (dx, lexDict w k1 k2 k3 k4 t1 t3 ln fs pb), (pb, listOf ([] : List Value).toArray np), (al, listOf #[Value.int (n : Int) ta] na)]) (binds := [(PySem.Str.ofString "self", .ref x)])
    (NewAt.cons ex nx (.cons ed nd (.cons ep npb (.cons ea nal .nil)))) (by k_is) (by k_is) (by decide) (BindsTo.of_eq rfl) (locs rfl) ?_ rfl rfl rfl (by decide)
  refine pad0 ?_
  refine @(all_eps9 (neP neI (neP neI (neP neI (neP neI (neP neI (neP neI (neP neI (neP neI neI)))))))) ?_)
  generalize @eps9 _ _ _ _ _ _ _ _ _ _ _ = zt
  generalize zt.1 = zp0, zt.2.1 = g, zt.2.2.1 = h₁, zt.2.2.2.1 = tk, zt.2.2.2.2.1 = p, zt.2.2.2.2.2.1 = loose, zt.2.2.2.2.2.2.1 = mean, zt.2.2.2.2.2.2.2.1 = mg, zt.2.2.2.2.2.2.2.2 = mb
  clear zt
  clear zp0
  intro F N X T hg hl stg
  have SA' := SA.keeps stg
  clear hl
  have F : Fr g _ h₁ (mSet [(PySem.Str.ofString "self", some (.ref x))] fun _ => none) := frOf F
  (with_reducible show wpAny _ _ _ _ _ _)
  k_fold
  k_extra "m_steps"
  (with_reducible rename_i _ _ ti mo _ it _ _ _)
  (with_reducible rename News _ _ _ _ => NN)
  (with_reducible rename Fr _ _ _ _ => FF)
  (with_reducible rename Dist _ => zd)
  refine LoopC.introK FF NN rfl (.head _) (fun k K => TokO text tl (ln + nl) k fun n' ln' t1' ta' tt uch => K (mSet [(PySem.Str.ofString "token", some (.str ⟨#[]⟩ tt)), (PySem.Str.ofString "ch", uch), (PySem.Str.ofString "fiter", some (.ref it)), (PySem.Str.ofString "self", some (.ref x))] fun _ => none) (LedT w it mo (ti + 1) x dx pb al fs k1 k2 k3 k4 t3 np na t1' ln' n' ta'))
    (fun k K K' hk h => h.mono fun _ _ _ _ _ _ q => hk _ _ q) nl ⟨n, ln, t1, ta, _, _, hd, hn, rfl, by k_extra "m_norm"⟩ ?_
  clear FF NN
  intro k h tk hJ
  cases hJ.open with
  | nl k' n' ln' t1' ta' tt uch r hd' hk hnx p =>
    refine ciChar (ln' := ln' + 1) zd p.2 p.1 X T SA' hlen hd' rfl rfl (Nat.le_of_ble_eq_true rfl) (Nat.le_of_ble_eq_true rfl) fun t' t1'' ta'' h tk F N => ?_
    clear hJ p
    k_fold
    k_extra "m_steps"
    exact LoopNx.intro (by with_reducible assumption) (by with_reducible assumption) hk (hnx _ _ _ _ _ (by k_extra "m_norm"))
  | go n' t1' ta' tt uch hd' hn' p =>
    cases ht with
    | q htl hw hwl =>
      rw [htl] at hd'
      refine ciChar (ln' := ln + nl) zd p.2 p.1 X T SA' hlen hd' rfl rfl (Nat.le_of_ble_eq_true rfl) (Nat.le_of_ble_eq_true rfl) fun t' t1'' ta'' h tk F N => ?_
      clear hJ p
      k_fold
      k_extra "m_steps"
      (with_reducible rename News _ _ _ _ => NN)
      (with_reducible rename Fr _ _ _ _ => FF)
      refine LoopC.introK FF NN rfl (.head _) (fun k K => TokI text fq (34 :: rest) word k fun d n' t1' ta' tt uch => K (mSet [(PySem.Str.ofString "token", some (.str d tt)), (PySem.Str.ofString "ch", uch), (PySem.Str.ofString "fiter", some (.ref it)), (PySem.Str.ofString "self", some (.ref x))] fun _ => none) (LedT w it mo (ti + 1) x dx pb al fs k1 k2 k3 k4 t3 np na t1' (ln + nl) n' ta'))
        (fun k K K' hk h => h.mono fun _ _ _ _ _ _ q => hk _ _ q) word.length ⟨n' + 1, _, _, _, _, [], word, drop_next hd', rfl, rfl, by k_extra "m_norm"⟩ ?_
      clear FF NN
      intro k h tk hJ
      cases hJ.open hwl with
      | nil n₂ t1₂ ta₂ tt₂ uch₂ hd₂ p =>
        refine ciChar (ln' := ln + nl) zd p.2 p.1 X T SA' hlen hd₂ rfl rfl (Nat.le_of_ble_eq_true rfl) (Nat.le_of_ble_eq_true rfl) fun t' t1'' ta'' h tk F N => ?_
        clear hJ p
        k_fold
        k_extra "m_steps"
        (with_reducible rename News _ _ _ _ => NN)
        (with_reducible rename Fr _ _ _ _ => FF)
        exact post _ _ _ _ _ _ (drop_next hd₂) (drop_len hd₂) (keeps_mid (keeps_drop (keeps_of FF hg) ex (NN.get (by k_mem))) ep (NN.get (by k_mem))) (NN.get (by k_mem)) (NN.get (by k_mem))
      | cons k' n₂ t1₂ ta₂ tt₂ uch₂ d c r hd₂ hcw hk hsz hnx p =>
        have hc10 := hw c hcw
        by_cases hce : c = 34 ∨ c = 92
        · have hd₂ : text.cps.toList.drop n₂ = 92 :: c :: r := by rw [hd₂, fq, if_pos hce]; rfl
          have hd₃ := drop_next hd₂
          refine ciChar (ln' := ln + nl) zd p.2 p.1 X T SA' hlen hd₂ rfl rfl (Nat.le_of_ble_eq_true rfl) (Nat.le_of_ble_eq_true rfl) fun t' t1'' ta'' h tk F N => ?_
          clear hJ p
          k_fold
          k_extra "m_steps"
          exact LoopNx.intro (by with_reducible assumption) (by with_reducible assumption) hk (hnx _ _ _ _ _ _ (drop_next hd₃) (by k_extra "m_norm"))
        · have hd₂ : text.cps.toList.drop n₂ = c :: r := by rw [hd₂, fq, if_neg hce]; rfl
          have hq := qNo fun e => hce (.inl e)
          have hb := bNo fun e => hce (.inr e)
          refine ciChar (ln' := ln + nl) zd p.2 p.1 X T SA' hlen hd₂ (if_neg hc10) rfl (Nat.le_of_ble_eq_true rfl) (Nat.le_of_ble_eq_true rfl) fun t' t1'' ta'' h tk F N => ?_
          clear hJ p
          k_fold
          k_extra "m_steps"
          exact LoopNx.intro (by with_reducible assumption) (by with_reducible assumption) hk (hnx _ _ _ _ _ _ (drop_next hd₂) (by k_extra "m_norm"))
    | b c0 w' hwd htl hw hwl =>
      subst hwd
      rw [htl] at hd'
      have hd₀ := drop_next hd'
      have hc0 := hw c0 (.head _)
      refine ciChar (ln' := ln + nl) zd p.2 p.1 X T SA' hlen hd' rfl rfl (Nat.le_of_ble_eq_true rfl) (Nat.le_of_ble_eq_true rfl) fun t' t1'' ta'' h tk F N => ?_
      clear hJ p
      k_fold
      k_extra "m_steps"
      (with_reducible rename News _ _ _ _ => NN)
      (with_reducible rename Fr _ _ _ _ => FF)
      refine LoopC.introK FF NN rfl (.head _) (fun k K => TokI text (fun c => [92, c]) (9 :: rest) (c0 :: w') k fun d n' t1' ta' tt uch => K (mSet [(PySem.Str.ofString "token", some (.str d tt)), (PySem.Str.ofString "ch", uch), (PySem.Str.ofString "fiter", some (.ref it)), (PySem.Str.ofString "self", some (.ref x))] fun _ => none) (LedT w it mo (ti + 1) x dx pb al fs k1 k2 k3 k4 t3 np na t1' (ln + nl) n' ta'))
        (fun k K K' hk h => h.mono fun _ _ _ _ _ _ q => hk _ _ q) w'.length (TokI.at (n' + 2) _ _ _ _ [c0] w' _ (single_app c0) (drop_next hd₀) rfl (by k_extra "m_norm")) ?_
      clear FF NN
      intro k h tk hJ
      cases hJ.open hwl with
      | nil n₂ t1₂ ta₂ tt₂ uch₂ hd₂ p =>
        refine ciChar (ln' := ln + nl) zd p.2 p.1 X T SA' hlen hd₂ rfl rfl (Nat.le_of_ble_eq_true rfl) (Nat.le_of_ble_eq_true rfl) fun t' t1'' ta'' h tk F N => ?_
        clear hJ p
        k_fold
        k_extra "m_steps"
        (with_reducible rename News _ _ _ _ => NN)
        (with_reducible rename Fr _ _ _ _ => FF)
        exact post _ _ _ _ _ _ (drop_next hd₂) (drop_len hd₂) (keeps_mid (keeps_drop (keeps_of FF hg) ex (NN.get (by k_mem))) ep (NN.get (by k_mem))) (NN.get (by k_mem)) (NN.get (by k_mem))
      | cons k' n₂ t1₂ ta₂ tt₂ uch₂ d c r hd₂ hcw hk hsz hnx p =>
        have hc10 := hw c hcw
        have hd₂ : text.cps.toList.drop n₂ = 92 :: c :: r := hd₂
        have hd₃ := drop_next hd₂
        refine ciChar (ln' := ln + nl) zd p.2 p.1 X T SA' hlen hd₂ rfl rfl (Nat.le_of_ble_eq_true rfl) (Nat.le_of_ble_eq_true rfl) fun t' t1'' ta'' h tk F N => ?_
        clear hJ p
        k_fold
        k_extra "m_steps"
        exact LoopNx.intro (by with_reducible assumption) (by with_reducible assumption) hk (hnx _ _ _ _ _ _ (drop_next hd₃) (by k_extra "m_norm"))
    | e htl hwd hre =>
      subst htl hwd hre
      refine ciEof zd p.2 p.1 X T SA' hlen hd' hn' rfl (Nat.le_of_ble_eq_true rfl) (Nat.le_of_ble_eq_true rfl) fun t1'' ta'' h tk F N => ?_
      clear hJ p
      try dsimp only
      k_extra "m_steps"
      (with_reducible rename News _ _ _ _ => NN)
      (with_reducible rename Fr _ _ _ _ => FF)
      exact post _ _ _ _ _ _ hd' hn' (keeps_mid (keeps_drop (keeps_of FF hg) ex (NN.get (by k_mem))) ep (NN.get (by k_mem))) (NN.get (by k_mem)) (NN.get (by k_mem))
end Mine
end

section
open PySem PySem.W PyProof.Rows PySem.Calls
set_option maxRecDepth 100000
set_option maxHeartbeats 8000000
namespace Mine
example : True := by
  w_top off
  k_with_none
  trivial
example : True := by first | walk1 | trivial
theorem neOf {q c : Addr} {o : Obj} {news : List (Addr × Obj)} (h : ∀ p ∈ news, q ≠ p.1) (hm : (c, o) ∈ news) : q ≠ c := h _ hm
theorem neOf' {q c : Addr} {o : Obj} {news : List (Addr × Obj)} (h : ∀ p ∈ news, q ≠ p.1) (hm : (c, o) ∈ news) : c ≠ q := (h _ hm).symm
def Offs (as : List Addr) (I C D : Addr) : Prop := ∀ a ∈ as, a ≠ I ∧ a ≠ C ∧ a ≠ D
def Offo (as : List Addr) (D : Addr) : Prop := ∀ a ∈ as, a ≠ D
def Ne3 (I C D : Addr) : Prop := I ≠ C ∧ I ≠ D ∧ C ≠ D
theorem offs_of {I C D : Addr} {news : List (Addr × Obj)} (h : LCg.Off3 I C D news) : Offs (news.map Prod.fst) I C D := fun a ha => by
  obtain ⟨p, hp, rfl⟩ := List.mem_map.mp ha
  exact h.mem p hp
theorem off3_of {I C D : Addr} {as : List Addr} {news : List (Addr × Obj)} (h : Offs as I C D) (e : news.map Prod.fst = as) : LCg.Off3 I C D news := LCg.Off3.of fun p hp => h _ (e ▸ List.mem_map_of_mem hp)
theorem offo_of {D : Addr} {news : List (Addr × Obj)} (h : LCg.Off1 D news) : Offo (news.map Prod.fst) D := by
  induction news with
  | nil => exact fun a ha => nomatch ha
  | cons p r ih =>
      intro a ha
      rcases List.mem_cons.mp ha with rfl | ha
      · exact h.1
      · exact ih h.2 a ha
theorem ne3_of {I C D : Nat} (h : (@Ne Nat I C) ∧ (@Ne Nat I D) ∧ (@Ne Nat C D)) : Ne3 I C D := h
theorem offI {as : List Addr} {I C D a : Addr} (h : Offs as I C D) (hm : a ∈ as) : a ≠ I := (h a hm).1
theorem offC {as : List Addr} {I C D a : Addr} (h : Offs as I C D) (hm : a ∈ as) : a ≠ C := (h a hm).2.1
theorem offD {as : List Addr} {I C D a : Addr} (h : Offs as I C D) (hm : a ∈ as) : a ≠ D := (h a hm).2.2
theorem offI' {as : List Addr} {I C D a : Addr} (h : Offs as I C D) (hm : a ∈ as) : I ≠ a := (h a hm).1.symm
theorem offC' {as : List Addr} {I C D a : Addr} (h : Offs as I C D) (hm : a ∈ as) : C ≠ a := (h a hm).2.1.symm
theorem offD' {as : List Addr} {I C D a : Addr} (h : Offs as I C D) (hm : a ∈ as) : D ≠ a := (h a hm).2.2.symm
theorem offO {as : List Addr} {D a : Addr} (h : Offo as D) (hm : a ∈ as) : a ≠ D := h a hm
theorem offO' {as : List Addr} {D a : Addr} (h : Offo as D) (hm : a ∈ as) : D ≠ a := (h a hm).symm
theorem ne3_1 {I C D : Addr} (h : Ne3 I C D) : I ≠ C := h.1
theorem ne3_2 {I C D : Addr} (h : Ne3 I C D) : I ≠ D := h.2.1
theorem ne3_3 {I C D : Addr} (h : Ne3 I C D) : C ≠ D := h.2.2
theorem ne3_4 {I C D : Addr} (h : Ne3 I C D) : C ≠ I := h.1.symm
theorem ne3_5 {I C D : Addr} (h : Ne3 I C D) : D ≠ I := h.2.1.symm
theorem ne3_6 {I C D : Addr} (h : Ne3 I C D) : D ≠ C := h.2.2.symm
theorem compEnd0 {h₀ : Heap} {L I C D : Addr} {m : PySem.Str → Option Value} {s₁ : Shared} {oI oC oD : Obj} {S : List (Addr × Obj) → Prop} {rest : Value → List (Addr × Obj) → Prop} {y : Value} {h' : Heap} {tk : Nat} {news' : List (Addr × Obj)} {as : List Addr}
    (F : Fr h₀ L h' m) (N : News h₀ L h' ((I, oI) :: (C, oC) :: (D, oD) :: news')) (off : Offs as I C D) (e : news'.map Prod.fst = as) (hS : S news') (r : rest y news') :
    LCg.CompEnd h₀ L m s₁ I oI C oC D oD S rest y { s₁ with heap := h', toks := tk } := LCg.CompEnd.intro F N news' (fun _ h => h) (off3_of off e) hS r
theorem compEnd1 {h₀ : Heap} {L I C D : Addr} {m : PySem.Str → Option Value} {s₁ : Shared} {oI oC oD : Obj} {S : List (Addr × Obj) → Prop} {rest : Value → List (Addr × Obj) → Prop} {y : Value} {h' : Heap} {tk : Nat} {news' : List (Addr × Obj)} {as : List Addr} {q : Addr × Obj}
    (F : Fr h₀ L h' m) (N : News h₀ L h' (q :: (I, oI) :: (C, oC) :: (D, oD) :: news')) (off : Offs as I C D) (e : news'.map Prod.fst = as) (hS : S news') (r : rest y news') :
    LCg.CompEnd h₀ L m s₁ I oI C oC D oD S rest y { s₁ with heap := h', toks := tk } := LCg.CompEnd.intro F (fun p hp => N p (.tail _ hp)) news' (fun _ h => h) (off3_of off e) hS r
theorem compEnd2 {h₀ : Heap} {L I C D : Addr} {m : PySem.Str → Option Value} {s₁ : Shared} {oI oC oD : Obj} {S : List (Addr × Obj) → Prop} {rest : Value → List (Addr × Obj) → Prop} {y : Value} {h' : Heap} {tk : Nat} {news' : List (Addr × Obj)} {as : List Addr} {q q' : Addr × Obj}
    (F : Fr h₀ L h' m) (N : News h₀ L h' (q :: q' :: (I, oI) :: (C, oC) :: (D, oD) :: news')) (off : Offs as I C D) (e : news'.map Prod.fst = as) (hS : S news') (r : rest y news') :
    LCg.CompEnd h₀ L m s₁ I oI C oC D oD S rest y { s₁ with heap := h', toks := tk } := LCg.CompEnd.intro F (fun p hp => N p (.tail _ (.tail _ hp))) news' (fun _ h => h) (off3_of off e) hS r
theorem srcAt {h₀ : Heap} {ax : Addr} {its : List Value} {n : Nat} {news : List (Addr × Obj)} (h : (ax, listOf its.toArray n) ∈ news) : LCg.SrcAt h₀ ax its.toArray news := Or.inr ⟨_, h, rfl, _, rfl⟩
end Mine
end

section
open PySem PySem.W PyProof.Rows PySem.Calls
set_option maxRecDepth 100000
set_option maxHeartbeats 8000000
namespace Mine
example : True := by
  w_top off
  k_with_none
  trivial
example : True := by first | walk1 | trivial
example : True := by
  k_with_none
  trivial
abbrev tupOf (xs : Array Value) : Obj := { cls := .type "tuple", data := .seq xs }
theorem fresh_of {g h : Heap} {ms : List Addr} {q : Addr} (hg : ∀ b o, h.get? b = some o → b ∉ ms → g.get? b = some o) (n : g.get? q = none) (hq : q ∉ ms) : h.get? q = none := by
  cases e : h.get? q with
  | none => rfl
  | some o => rw [hg _ _ e hq] at n; cases n

theorem c_port {prog : Program} {w : World} {s : Shared} {h₀ : Heap} {E : Value → Shared → Prop} {Q : Value → Shared → Prop} (W : Wd w h₀) (st : h₀.StaysIn s.heap) {n : Int} {t : Tok} (hn : n.natAbs < 10 ^ 9)
   (post : ∀ t' h' tk', Keeps s.heap h' [] → Q (.str (pL n) t') { s with heap := h', toks := tk' }) :
   wpAny (model prog w) (AC 330 400) (call (.ref 137) [.int n t]) Q E s := by
  refine enterP (args := ⟨[.int n t], []⟩) W st (news := []) (binds := [(PySem.Str.ofString "number", .int n t)]) (fun _ h => nomatch h) (by k_is) (by k_is) (by decide) (BindsTo.of_eq rfl) (locs rfl) ?_ rfl rfl rfl (by decide)
  intro g h₁ tk p loose mean mg mb F N X T hg hl stg
  (with_reducible show wpAny _ _ _ _ _ _)
  k_fold
  repeat' (first | (k_unfold; (try dsimp only)) | (k_end; wrow_close) | walk1 | (dsimp only; walk1) | (leave1; walk_say "STEP leave1"; try dsimp only) | fail "no step")
  (with_reducible rename Fr _ _ _ _ => FF)
  rw [← pL_eq] at post
  exact post _ _ _ (keeps_of FF hg)

section
variable {prog : Program} {w : World} {A : Around} {E : Value → Shared → Prop} {s : Shared} {h₀ : Heap} {L : Addr} {m : PySem.Str → Option Value} {news : List (Addr × Obj)} {x y a b c d e : PySem.Str} {t u : Tok} {Q : Value → Shared → Prop}
theorem split5 (hF : Fr h₀ L s.heap m) (hN : News h₀ L s.heap news) (hy : (y.length == 0) = false) (he : Txt.split x y = [a, b, c, d, e]) (hx : x.length ≤ 1000)
    (h : ∀ D t1 t2 t3 t4 t5 h' k, Fr h₀ L h' m → News h₀ L h' ((D, listOf [Value.str a t1, .str b t2, .str c t3, .str d t4, .str e t5].toArray 0) :: news) → (∀ p ∈ news, p.1 < D) → Q (.ref D) { s with heap := h', toks := k }) :
    wpAny (model prog w) A (call (.builtin "str.split") [.str x t, .str y u]) Q E s := by
  refine KSpl.split1 hF hN hy (fun D l h' k e1 _ F N l1 => ?_) (by rw [sizeLine_eq]; omega)
  rw [he] at e1
  obtain ⟨t1, r1, rfl, f1⟩ := KSpl.cons_of e1
  obtain ⟨t2, r2, rfl, f2⟩ := KSpl.cons_of f1
  obtain ⟨t3, r3, rfl, f3⟩ := KSpl.cons_of f2
  obtain ⟨t4, r4, rfl, f4⟩ := KSpl.cons_of f3
  obtain ⟨t5, r5, rfl, f5⟩ := KSpl.cons_of f4
  have e2 := KSpl.nil_of f5
  subst e2
  exact h D t1 t2 t3 t4 t5 h' k F N l1
end
example : True := by
  k_with "call builtin:str.split" => ((k_here; (with_reducible show wpAny _ _ (call (Value.builtin "str.split") _) _ _ _); (refine split5 (by k_asm) (by k_asm) (by decide +kernel) (by assumption) (by assumption) ?_); intro D' t1' t2' t3' t4' t5' h' k' F' N' l1; (try k_lt l1); (try k_sweep)))
  trivial
theorem c_parse229 {prog : Program} {w : World} {s : Shared} {h₀ : Heap} {E : Value → Shared → Prop} {Q : Value → Shared → Prop} (W : Wd w h₀) (st : h₀.StaysIn s.heap) {x : PySem.Str} {t t1 : Tok} {tp : Addr} {r n : Int} {d : PySem.Str} {y : PySem.Str}
   (hx : x.length < 100) (hr : 9 ≤ r) (hr2 : r < x.length)
   (h0 : Txt.slice x none (some 3) = sT "229") (h1 : Txt.find x (sT "(") = 3) (h2 : Txt.find3 x (sT ")") (3 + 1) = r)
   (h3 : Txt.item x (3 + 1) = sT "|") (h4 : Txt.item x (r - 1) = sT "|") (h5 : Txt.slice x (some (3 + 1)) (some r) = y)
   (h6 : Txt.split y (sT "|") = [sT "", sT "", sT "", d, sT ""]) (h7 : PySem.intText? d = some n) (h8 : d.length ≤ 640) (h9 : y.length ≤ 1000)
   (htp : IsTup s.heap tp #[.str (sT "") t1])
   (post : ∀ q t1 t2 h' tk', Keeps s.heap h' [] → s.heap.get? q = none → h'.get? q = some (tupOf #[.str (sT "") t1, .int n t2]) → Q (.ref q) { s with heap := h', toks := tk' }) :
   wpAny (model prog w) (AC 330 400) (call (.ref 76) [.str x t, .ref tp]) Q E s := by
  revert W st hx hr hr2 h0 h1 h2 h3 h4 h5 h6 h7 h8 h9 htp post
  revert prog w s h₀ E Q x t t1 tp r n d y
  refine @(all_eps14 (neP neI (neP neW (neP neS (neP neI (neP neI (neP neI (neP neI (neP neI (neP neI (neP neI (neP neI (neP neI (neP neI neI))))))))))))) ?_)
  generalize @eps14 _ _ _ _ _ _ _ _ _ _ _ _ _ _ _ _ = zt
  generalize zt.1 = prog, zt.2.1 = w, zt.2.2.1 = s, zt.2.2.2.1 = h₀, zt.2.2.2.2.1 = E, zt.2.2.2.2.2.1 = Q, zt.2.2.2.2.2.2.1 = x, zt.2.2.2.2.2.2.2.1 = t, zt.2.2.2.2.2.2.2.2.1 = t1, zt.2.2.2.2.2.2.2.2.2.1 = tp, zt.2.2.2.2.2.2.2.2.2.2.1 = r, zt.2.2.2.2.2.2.2.2.2.2.2.1 = n, zt.2.2.2.2.2.2.2.2.2.2.2.2.1 = d, zt.2.2.2.2.2.2.2.2.2.2.2.2.2 = y
  clear zt
  intro W st hx hr hr2 h0 h1 h2 h3 h4 h5 h6 h7 h8 h9 htp post
  refine enterP (args := ⟨[.str x t, .ref tp], []⟩) W st (news := []) (binds := [(PySem.Str.ofString "resp", .str x t), (PySem.Str.ofString "peer", .ref tp)]) (fun _ h => nomatch h) (by k_is) (by k_is) (by decide) (BindsTo.of_eq rfl) (locs rfl) ?_ rfl rfl rfl (by decide)
  refine pad0 ?_
  refine @(all_eps9 (neP neI (neP neI (neP neI (neP neI (neP neI (neP neI (neP neI (neP neI neI)))))))) ?_)
  generalize @eps9 _ _ _ _ _ _ _ _ _ _ _ = zt
  generalize zt.1 = zp0, zt.2.1 = g, zt.2.2.1 = h₁, zt.2.2.2.1 = tk, zt.2.2.2.2.1 = p, zt.2.2.2.2.2.1 = loose, zt.2.2.2.2.2.2.1 = mean, zt.2.2.2.2.2.2.2.1 = mg, zt.2.2.2.2.2.2.2.2 = mb
  clear zt
  clear zp0
  intro F N X T hg hl stg
  have htp' : IsTup g tp #[.str (sT "") t1] := let ⟨o, ho, r⟩ := htp; ⟨o, hg _ _ ho (fun h => nomatch h), r⟩
  (with_reducible show wpAny _ _ _ _ _ _)
  k_fold
  repeat' (first | (k_unfold; (try dsimp only)) | (simp only [h0, h1, h2, h3, h4, h5]) | (k_end; wrow_close) | walk1 | (dsimp only; walk1) | (leave1; walk_say "STEP leave1"; try dsimp only) | fail "no step")
  (with_reducible rename News _ _ _ _ => NN)
  (with_reducible rename Fr _ _ _ _ => FF)
  exact post _ _ _ _ _ (keeps_of FF hg) (fresh_of hg (NN _ (.head _)).2.2 (fun h => nomatch h)) (NN.get (by k_mem))

theorem c_parse {prog : Program} {w : World} {s : Shared} {h₀ : Heap} {E : Value → Shared → Prop} {Q : Value → Shared → Prop} (W : Wd w h₀) (st : h₀.StaysIn s.heap) {t t1 : Tok} {tp : Addr} {n : Int} (hn : goodN n = true)
   (htp : IsTup s.heap tp #[.str (sT "") t1])
   (post : ∀ q t1 t2 h' tk', Keeps s.heap h' [] → s.heap.get? q = none → h'.get? q = some (tupOf #[.str (sT "") t1, .int n t2]) → Q (.ref q) { s with heap := h', toks := tk' }) :
   wpAny (model prog w) (AC 330 400) (call (.ref 76) [.str (pL n) t, .ref tp]) Q E s := by
  have h := portK_of hn
  simp only [portK, Bool.and_eq_true, decide_eq_true_eq, beq_iff_eq] at h
  obtain ⟨⟨⟨⟨⟨⟨⟨⟨⟨⟨⟨a1, a2⟩, a3⟩, a4⟩, a5⟩, a6⟩, a7⟩, a8⟩, a9⟩, a10⟩, a11⟩, a12⟩ := h
  have e1 : sT "229" = ⟨#[50, 50, 57]⟩ := by decide +kernel
  have e2 : sT "(" = ⟨#[40]⟩ := by decide +kernel
  have e3 : sT ")" = ⟨#[41]⟩ := by decide +kernel
  have e4 : sT "|" = ⟨#[124]⟩ := by decide +kernel
  have e5 : sT "" = ⟨#[]⟩ := by decide +kernel
  exact c_parse229 W st a1 a2 (by omega) (e1 ▸ a3) (e2 ▸ a4) (e3 ▸ a5) (e4 ▸ a6) (e4 ▸ a7) a8 (by rw [e4, e5]; exact a9) a10 a11 a12 htp post
end Mine
end

section
open PySem PySem.W PyProof.Rows PySem.Calls
set_option maxRecDepth 100000
set_option maxHeartbeats 8000000
namespace Mine
example : True := by
  w_top off
  k_with_none
  trivial
example : True := by first | walk1 | trivial
example : True := by
  k_with_none
  k_with "m_bis" => ((refine ⟨⟨_, rfl⟩, ⟨_, rfl⟩, fun y h1 h2 h3 => ?_⟩); simp only [mBis, if_neg h1, if_neg h2, if_neg h3])
  k_with "kp_peekB" => (first | rfl | kernel_rfl | decide +kernel | (simp [peek]; done))
  trivial
example : True := by
  k_with "exec While Compare" => (refine of_held ?_)
  k_with "exec While" => (refine of_held ?_)
  k_with "exec" => (((with_reducible show wpAny _ _ (exec (Stmt.While _ _ _ _) _) _ _ _); refine of_held ?_))
  trivial
def bisR (ns : List Int) (x : Int) : Nat → Int → Int → Option Int
  | 0, _, _ => none
  | f + 1, lo, hi => if lo < hi then (if x < ns.getD ((lo + hi).fdiv 2).toNat 0 then bisR ns x f lo ((lo + hi).fdiv 2) else bisR ns x f ((lo + hi).fdiv 2 + 1) hi) else some lo
def bisL (ns : List Int) (x : Int) : Nat → Int → Int → Option Int
  | 0, _, _ => none
  | f + 1, lo, hi => if lo < hi then (if ns.getD ((lo + hi).fdiv 2).toNat 0 < x then bisL ns x f ((lo + hi).fdiv 2 + 1) hi else bisL ns x f lo ((lo + hi).fdiv 2)) else some lo
def mBis (m0 : PySem.Str → Option Value) (lo : Int) (tl : Tok) (hi : Int) (th : Tok) (um : Option Value) : PySem.Str → Option Value := fun y => if y = PySem.Str.ofString "lo" then some (.int lo tl) else if y = PySem.Str.ofString "hi" then some (.int hi th) else if y = PySem.Str.ofString "mid" then um else m0 y
def MBis (m m0 : PySem.Str → Option Value) (lo hi : Int) : Prop := (∃ t, m (PySem.Str.ofString "lo") = some (.int lo t)) ∧ (∃ t, m (PySem.Str.ofString "hi") = some (.int hi t)) ∧ ∀ y, y ≠ PySem.Str.ofString "lo" → y ≠ PySem.Str.ofString "hi" → y ≠ PySem.Str.ofString "mid" → m y = m0 y
theorem MBis.eq {m m0 : PySem.Str → Option Value} {lo hi : Int} (h : MBis m m0 lo hi) : ∃ tl th um, m = mBis m0 lo tl hi th um := by
  obtain ⟨⟨t1, h1⟩, ⟨t2, h2⟩, h3⟩ := h
  refine ⟨t1, t2, m (PySem.Str.ofString "mid"), funext fun y => ?_⟩
  unfold mBis
  by_cases q1 : y = PySem.Str.ofString "lo"
  · subst q1; rw [if_pos rfl]; exact h1
  · by_cases q2 : y = PySem.Str.ofString "hi"
    · subst q2; rw [if_neg q1, if_pos rfl]; exact h2
    · by_cases q3 : y = PySem.Str.ofString "mid"
      · subst q3; rw [if_neg q1, if_neg q2, if_pos rfl]
      · rw [if_neg q1, if_neg q2, if_neg q3]; exact h3 y q1 q2 q3
theorem c_bisR {prog : Program} {w : World} {s : Shared} {h₀ : Heap} {E : Value → Shared → Prop} {Q : Value → Shared → Prop} (W : Wd w h₀) (st : h₀.StaysIn s.heap) {a : Addr} {vals : List Value} {ns : List Int} {na f : Nat} {x lo r : Int} {t u : Tok}
   (ha : s.heap.get? a = some (listOf vals.toArray na)) (hi : IntsAre vals ns) (hlen : ns.length ≤ 20) (hlo : 0 ≤ lo) (hlo2 : lo ≤ ns.length) (hx : x.natAbs < 1000) (hr : bisR ns x f lo ns.length = some r)
   (post : ∀ t' h' tk', Keeps s.heap h' [] → Q (.int r t') { s with heap := h', toks := tk' }) :
   wpAny (model prog w) (AC 340 450) (call (.ref 23) [.ref a, .int x t, .int lo u]) Q E s := by
  revert W st ha hi hlen hlo hlo2 hx hr post
  refine pad fun (zp0 : Nat) => pad fun (zp1 : Nat) => ?_
  revert prog w s h₀ E Q a vals ns na f x lo r t u zp0 zp1
  refine @(all_eps18 (neP neI (neP neW (neP neS (neP neI (neP neI (neP neI (neP neI (neP neI (neP neI (neP neI (neP neI (neP neI (neP neI (neP neI (neP neI (neP neI (neP neI neI))))))))))))))))) ?_)
  generalize @eps18 _ _ _ _ _ _ _ _ _ _ _ _ _ _ _ _ _ _ _ _ = zt
  generalize zt.1 = prog, zt.2.1 = w, zt.2.2.1 = s, zt.2.2.2.1 = h₀, zt.2.2.2.2.1 = E, zt.2.2.2.2.2.1 = Q, zt.2.2.2.2.2.2.1 = a, zt.2.2.2.2.2.2.2.1 = vals, zt.2.2.2.2.2.2.2.2.1 = ns, zt.2.2.2.2.2.2.2.2.2.1 = na, zt.2.2.2.2.2.2.2.2.2.2.1 = f, zt.2.2.2.2.2.2.2.2.2.2.2.1 = x, zt.2.2.2.2.2.2.2.2.2.2.2.2.1 = lo, zt.2.2.2.2.2.2.2.2.2.2.2.2.2.1 = r, zt.2.2.2.2.2.2.2.2.2.2.2.2.2.2.1 = t, zt.2.2.2.2.2.2.2.2.2.2.2.2.2.2.2.1 = u, zt.2.2.2.2.2.2.2.2.2.2.2.2.2.2.2.2.1 = zp0, zt.2.2.2.2.2.2.2.2.2.2.2.2.2.2.2.2.2 = zp1
  clear zt
  clear zp0 zp1
  intro W st ha hi hlen hlo hlo2 hx hr post
  refine enterP (args := ⟨[.ref a, .int x t, .int lo u], []⟩) W st (news := []) (binds := [(PySem.Str.ofString "a", .ref a), (PySem.Str.ofString "x", .int x t), (PySem.Str.ofString "lo", .int lo u), (PySem.Str.ofString "hi", .none), (PySem.Str.ofString "key", .none)]) (fun _ h => nomatch h) (by k_is) (by k_is) (by decide) (kp_binds (W.K.keeps st) (fun S => by k_extra "kp_peekB")) (locs rfl) ?_ rfl rfl rfl (by decide)
  refine pad0 ?_
  refine @(all_eps9 (neP neI (neP neI (neP neI (neP neI (neP neI (neP neI (neP neI (neP neI neI)))))))) ?_)
  generalize @eps9 _ _ _ _ _ _ _ _ _ _ _ = zt
  generalize zt.1 = zp0, zt.2.1 = g, zt.2.2.1 = h₁, zt.2.2.2.1 = tk, zt.2.2.2.2.1 = p, zt.2.2.2.2.2.1 = loose, zt.2.2.2.2.2.2.1 = mean, zt.2.2.2.2.2.2.2.1 = mg, zt.2.2.2.2.2.2.2.2 = mb
  clear zt
  clear zp0
  intro F N X T hg hl stg
  have hla : g.IsList a vals.toArray := ⟨_, hg _ _ ha (fun h => nomatch h), rfl, _, rfl⟩
  have hsz := hi.length
  (with_reducible show wpAny _ _ _ _ _ _)
  k_fold
  repeat' (first | (k_unfold; (try dsimp only)) | (k_end; wrow_close) | walk1 | (dsimp only; walk1) | (leave1; walk_say "STEP leave1"; try dsimp only) | fail "no step")
  (with_reducible rename News _ _ _ _ => NN)
  (with_reducible rename Fr _ _ _ _ => FF)
  refine While_my FF NN (fun _ n m news => news = [] ∧ ∃ lo' hi' : Int, MBis m (fun y => List.lookup y [(PySem.Str.ofString "a", Value.ref a), (PySem.Str.ofString "x", .int x t), (PySem.Str.ofString "lo", .int lo u), (PySem.Str.ofString "hi", .none), (PySem.Str.ofString "key", .none)].reverse) lo' hi' ∧ 0 ≤ lo' ∧ lo' ≤ ns.length ∧ hi' ≤ ns.length ∧ bisR ns x n lo' hi' = some r) f ⟨rfl, lo, ns.length, ?_, hlo, hlo2, Int.le_refl _, hr⟩ ?_ PassesOwn.never
  · k_extra "m_bis"
  clear FF NN
  rintro n m₁ news₁ h₁ tk₁ F N ⟨rfl, lo', hi', hm, hl0, hl1, hh, hr'⟩
  obtain ⟨tl, th, um, rfl⟩ := hm.eq
  cases n with
  | zero => cases hr'
  | succ n =>
    unfold bisR at hr'
    have ef : (lo' + hi').fdiv 2 = (lo' + hi') / 2 := Int.fdiv_eq_ediv_of_nonneg _ (by decide)
    have hmid0 : lo' < hi' → 0 ≤ (lo' + hi').fdiv 2 := fun h => by omega
    have hmid1 : lo' < hi' → (lo' + hi').fdiv 2 < ns.length := fun h => by omega
    repeat' (first | (k_unfold; (try dsimp only)) | (k_end; wrow_close) | walk1 | (dsimp only; walk1) | (leave1; walk_say "STEP leave1"; try dsimp only) | fail "no step")
    all_goals (with_reducible rename News _ _ _ _ => NN)
    all_goals (with_reducible rename Fr _ _ _ _ => FF)
    · rw [if_pos (by assumption), if_pos (by assumption)] at hr'
      refine LoopNext.intro FF NN (Nat.lt_succ_self n) ⟨rfl, lo', (lo' + hi').fdiv 2, ?_, hl0, hl1, by omega, hr'⟩
      k_extra "m_bis"
    · rw [if_pos (by assumption), if_neg (by assumption)] at hr'
      refine LoopNext.intro FF NN (Nat.lt_succ_self n) ⟨rfl, (lo' + hi').fdiv 2 + 1, hi', ?_, by omega, by omega, hh, hr'⟩
      k_extra "m_bis"
    · rw [if_neg (by assumption)] at hr'
      cases hr'
      exact post _ _ _ (keeps_of FF hg)
theorem c_bisL {prog : Program} {w : World} {s : Shared} {h₀ : Heap} {E : Value → Shared → Prop} {Q : Value → Shared → Prop} (W : Wd w h₀) (st : h₀.StaysIn s.heap) {a : Addr} {vals : List Value} {ns : List Int} {na f : Nat} {x r : Int} {t : Tok}
   (ha : s.heap.get? a = some (listOf vals.toArray na)) (hi : IntsAre vals ns) (hlen : ns.length ≤ 20) (hx : x.natAbs < 1000) (hr : bisL ns x f 0 ns.length = some r)
   (post : ∀ t' h' tk', Keeps s.heap h' [] → Q (.int r t') { s with heap := h', toks := tk' }) :
   wpAny (model prog w) (AC 340 450) (call (.ref 32) [.ref a, .int x t]) Q E s := by
  revert W st ha hi hlen hx hr post
  revert prog w s h₀ E Q a vals ns na f x r t
  refine @(all_eps14 (neP neI (neP neW (neP neS (neP neI (neP neI (neP neI (neP neI (neP neI (neP neI (neP neI (neP neI (neP neI (neP neI neI))))))))))))) ?_)
  generalize @eps14 _ _ _ _ _ _ _ _ _ _ _ _ _ _ _ _ = zt
  generalize zt.1 = prog, zt.2.1 = w, zt.2.2.1 = s, zt.2.2.2.1 = h₀, zt.2.2.2.2.1 = E, zt.2.2.2.2.2.1 = Q, zt.2.2.2.2.2.2.1 = a, zt.2.2.2.2.2.2.2.1 = vals, zt.2.2.2.2.2.2.2.2.1 = ns, zt.2.2.2.2.2.2.2.2.2.1 = na, zt.2.2.2.2.2.2.2.2.2.2.1 = f, zt.2.2.2.2.2.2.2.2.2.2.2.1 = x, zt.2.2.2.2.2.2.2.2.2.2.2.2.1 = r, zt.2.2.2.2.2.2.2.2.2.2.2.2.2 = t
  clear zt
  intro W st ha hi hlen hx hr post
  refine enterP (args := ⟨[.ref a, .int x t], []⟩) W st (news := []) (binds := [(PySem.Str.ofString "a", .ref a), (PySem.Str.ofString "x", .int x t), (PySem.Str.ofString "lo", .int 0 (203)), (PySem.Str.ofString "hi", .none), (PySem.Str.ofString "key", .none)]) (fun _ h => nomatch h) (by k_is) (by k_is) (by decide) (kp_binds (W.K.keeps st) (fun S => by k_extra "kp_peekB")) (locs rfl) ?_ rfl rfl rfl (by decide)
  refine pad0 ?_
  refine @(all_eps9 (neP neI (neP neI (neP neI (neP neI (neP neI (neP neI (neP neI (neP neI neI)))))))) ?_)
  generalize @eps9 _ _ _ _ _ _ _ _ _ _ _ = zt
  generalize zt.1 = zp0, zt.2.1 = g, zt.2.2.1 = h₁, zt.2.2.2.1 = tk, zt.2.2.2.2.1 = p, zt.2.2.2.2.2.1 = loose, zt.2.2.2.2.2.2.1 = mean, zt.2.2.2.2.2.2.2.1 = mg, zt.2.2.2.2.2.2.2.2 = mb
  clear zt
  clear zp0
  intro F N X T hg hl stg
  have hla : g.IsList a vals.toArray := ⟨_, hg _ _ ha (fun h => nomatch h), rfl, _, rfl⟩
  have hsz := hi.length
  (with_reducible show wpAny _ _ _ _ _ _)
  k_fold
  repeat' (first | (k_unfold; (try dsimp only)) | (k_end; wrow_close) | walk1 | (dsimp only; walk1) | (leave1; walk_say "STEP leave1"; try dsimp only) | fail "no step")
  (with_reducible rename News _ _ _ _ => NN)
  (with_reducible rename Fr _ _ _ _ => FF)
  refine While_my FF NN (fun _ n m news => news = [] ∧ ∃ lo' hi' : Int, MBis m (fun y => List.lookup y [(PySem.Str.ofString "a", Value.ref a), (PySem.Str.ofString "x", .int x t), (PySem.Str.ofString "lo", .int 0 (203)), (PySem.Str.ofString "hi", .none), (PySem.Str.ofString "key", .none)].reverse) lo' hi' ∧ 0 ≤ lo' ∧ lo' ≤ ns.length ∧ hi' ≤ ns.length ∧ bisL ns x n lo' hi' = some r) f ⟨rfl, 0, ns.length, ?_, by omega, by omega, Int.le_refl _, hr⟩ ?_ PassesOwn.never
  · k_extra "m_bis"
  clear FF NN
  rintro n m₁ news₁ h₁ tk₁ F N ⟨rfl, lo', hi', hm, hl0, hl1, hh, hr'⟩
  obtain ⟨tl, th, um, rfl⟩ := hm.eq
  cases n with
  | zero => cases hr'
  | succ n =>
    unfold bisL at hr'
    have ef : (lo' + hi').fdiv 2 = (lo' + hi') / 2 := Int.fdiv_eq_ediv_of_nonneg _ (by decide)
    have hmid0 : lo' < hi' → 0 ≤ (lo' + hi').fdiv 2 := fun h => by omega
    have hmid1 : lo' < hi' → (lo' + hi').fdiv 2 < ns.length := fun h => by omega
    repeat' (first | (k_unfold; (try dsimp only)) | (k_end; wrow_close) | walk1 | (dsimp only; walk1) | (leave1; walk_say "STEP leave1"; try dsimp only) | fail "no step")
    all_goals (with_reducible rename News _ _ _ _ => NN)
    all_goals (with_reducible rename Fr _ _ _ _ => FF)
    · rw [if_pos (by assumption), if_pos (by assumption)] at hr'
      refine LoopNext.intro FF NN (Nat.lt_succ_self n) ⟨rfl, (lo' + hi').fdiv 2 + 1, hi', ?_, by omega, by omega, hh, hr'⟩
      k_extra "m_bis"
    · rw [if_pos (by assumption), if_neg (by assumption)] at hr'
      refine LoopNext.intro FF NN (Nat.lt_succ_self n) ⟨rfl, lo', (lo' + hi').fdiv 2, ?_, hl0, hl1, by omega, hr'⟩
      k_extra "m_bis"
    · rw [if_neg (by assumption)] at hr'
      cases hr'
      exact post _ _ _ (keeps_of FF hg)
end Mine
end

section
open PySem PySem.W PyProof.Rows PySem.Calls
set_option maxRecDepth 100000
set_option maxHeartbeats 8000000
namespace Mine
example : True := by
  w_top off
  k_with_none
  trivial
example : True := by first | walk1 | trivial
example : True := by
  k_with_none
  k_with "m_set" => (refine MSt.intro ?_ (fun y hy => ?_); (focus k_extra "m_are"); first | rfl | ((simp only [List.map_cons, List.map_nil, MOff] at hy); (simp only [mSet, hy, if_false, ne_eq, not_false_eq_true]); done) | fail "m_set")
  k_with "m_are" => (first | exact trivial | (refine ⟨?_, ?_⟩; (focus first | exact trivial | exact ⟨_, rfl⟩ | exact rfl); k_extra "m_are"))
  trivial
example : True := by
  k_with "exec While Compare" => (refine of_held ?_)
  trivial
theorem item_at {x : PySem.Str} {n c : Nat} {r : List Nat} (h : x.cps.toList.drop n = c :: r) : Txt.item x (n : Int) = ⟨#[c]⟩ := by
  have hl := drop_len h
  have h1 : x.cps.toList[n]? = some c := by
    have := congrArg List.head? h
    rw [List.head?_drop] at this
    exact this
  have hlt : (n : Int) < (x.length : Int) := by omega
  have h2 : x.cps[n]? = some c := by rw [← Array.getElem?_toList]; exact h1
  have e : seqIndex? (n : Int) x.length = some n := by
    unfold seqIndex?
    simp only [if_neg (show ¬ ((n : Int) < 0) by omega)]
    simp
    omega
  unfold Txt.item Txt.charAt
  rw [e]
  simp [h2]
def dbl (name : List Nat) : List Nat := name.flatMap fun c => if c = 34 then [34, 34] else [c]
theorem c_p257 {prog : Program} {w : World} {s : Shared} {h₀ : Heap} {E : Value → Shared → Prop} {Q : Value → Shared → Prop} (W : Wd w h₀) (st : h₀.StaysIn s.heap) {x : PySem.Str} {t : Tok} {name : List Nat} (hx : x = ⟨([50, 53, 55, 32, 34] ++ dbl name ++ [34]).toArray⟩) (hlen : x.length ≤ 100) (hnl : name.length ≤ 50)
   (h0 : Txt.slice x none (some 3) = sT "257") (h1 : Txt.slice x (some 3) (some 5) = sT " \"")
   (post : ∀ t' h' tk', Keeps s.heap h' [] → Q (.str ⟨name.toArray⟩ t') { s with heap := h', toks := tk' }) :
   wpAny (model prog w) (AC 330 400) (call (.ref 83) [.str x t]) Q E s := by
  revert W st hx hlen hnl h0 h1 post
  revert prog w s h₀ E Q x t name
  refine @(all_eps9 (neP neI (neP neW (neP neS (neP neI (neP neI (neP neI (neP neI (neP neI neI)))))))) ?_)
  generalize @eps9 _ _ _ _ _ _ _ _ _ _ _ = zt
  generalize zt.1 = prog, zt.2.1 = w, zt.2.2.1 = s, zt.2.2.2.1 = h₀, zt.2.2.2.2.1 = E, zt.2.2.2.2.2.1 = Q, zt.2.2.2.2.2.2.1 = x, zt.2.2.2.2.2.2.2.1 = t, zt.2.2.2.2.2.2.2.2 = name
  clear zt
  intro W st hx hlen hnl h0 h1 post
  refine enterP (args := ⟨[.str x t], []⟩) W st (news := []) (binds := [(PySem.Str.ofString "resp", .str x t)]) (fun _ h => nomatch h) (by k_is) (by k_is) (by decide) (BindsTo.of_eq rfl) (locs rfl) ?_ rfl rfl rfl (by decide)
  refine pad0 ?_
  refine @(all_eps9 (neP neI (neP neI (neP neI (neP neI (neP neI (neP neI (neP neI (neP neI neI)))))))) ?_)
  generalize @eps9 _ _ _ _ _ _ _ _ _ _ _ = zt
  generalize zt.1 = zp0, zt.2.1 = g, zt.2.2.1 = h₁, zt.2.2.2.1 = tk, zt.2.2.2.2.1 = p, zt.2.2.2.2.2.1 = loose, zt.2.2.2.2.2.2.1 = mean, zt.2.2.2.2.2.2.2.1 = mg, zt.2.2.2.2.2.2.2.2 = mb
  clear zt
  clear zp0
  intro F N X T hg hl stg
  (with_reducible show wpAny _ _ _ _ _ _)
  k_fold
  repeat' (first | (k_unfold; (try dsimp only)) | (simp only [h0, h1]) | (k_end; wrow_close) | walk1 | (dsimp only; walk1) | (leave1; walk_say "STEP leave1"; try dsimp only) | fail "no step")
  (with_reducible rename News _ _ _ _ => NN)
  (with_reducible rename Fr _ _ _ _ => FF)
  have hd5 : x.cps.toList.drop 5 = dbl name ++ [34] := by rw [hx]; rfl
  refine While_my FF NN (fun m0 k m news => news = [] ∧ ∃ (i : Nat) (done todo : List Nat), MSt m m0 [(PySem.Str.ofString "dirname", .str ⟨done.toArray⟩), (PySem.Str.ofString "i", .int (i : Int)), (PySem.Str.ofString "c", .any)] ∧ x.cps.toList.drop i = dbl todo ++ [34] ∧ k = todo.length + 1 ∧ done ++ todo = name) (name.length + 1)
    ⟨rfl, 5, [], name, ?_, hd5, rfl, rfl⟩ ?_ PassesOwn.never
  · k_extra "m_set"
  rintro k m₁ news₁ h₁ tk₁ F N ⟨rfl, i, done, todo, ⟨vs, hvs, rfl⟩, hd, rfl, hdt⟩
  clear FF NN
  obtain ⟨_, _, rfl, ⟨td, rfl⟩, _, _, rfl, ⟨ti, rfl⟩, uc, _, rfl, _, rfl⟩ := hvs
  have q34 : ((⟨#[34]⟩ : PySem.Str) == PySem.Str.ofString "\"") = true := by decide +kernel
  cases todo with
  | nil =>
    have hd' : x.cps.toList.drop i = [34] := hd
    have hi := item_at hd'
    have hl1 := drop_len hd'
    have hl2 : x.length = i + 1 := by
      have := congrArg List.length hd'
      rw [List.length_drop, len_toList] at this
      simp at this; omega
    repeat' (first | (k_unfold; (try dsimp only)) | (simp only [hi, q34]) | (k_end; wrow_close) | walk1 | (dsimp only; walk1) | (leave1; walk_say "STEP leave1"; try dsimp only) | fail "no step")
    (with_reducible rename News _ _ _ _ => NN)
    (with_reducible rename Fr _ _ _ _ => FF)
    rw [List.append_nil] at hdt
    subst hdt
    exact post _ _ _ (keeps_of FF hg)
  | cons c todo =>
    have hap : (⟨done.toArray⟩ : PySem.Str) ++ (⟨#[c]⟩ : PySem.Str) = ⟨(done ++ [c]).toArray⟩ := by
      show (⟨done.toArray ++ #[c]⟩ : PySem.Str) = _
      congr 1
      simp
    have hsz : done.length ≤ 100 := by
      have := congrArg List.length hdt
      simp at this
      omega
    by_cases hc : c = 34
    · subst hc
      have hd' : x.cps.toList.drop i = 34 :: 34 :: (dbl todo ++ [34]) := hd
      have hd2 := drop_next hd'
      have hi := item_at hd'
      have hi2 := item_at hd2
      have hl1 := drop_len hd'
      have hl2 := drop_len hd2
      have ei : ((i + 1 : Nat) : Int) = (i : Int) + 1 := by omega
      rw [ei] at hi2
      have hge : ¬ ((x.length : Int) ≤ (i : Int) + 1) := by omega
      repeat' (first | (k_unfold; (try dsimp only)) | (simp only [hi, hi2, q34]) | (k_end; wrow_close) | walk1 | (dsimp only; walk1) | (leave1; walk_say "STEP leave1"; try dsimp only) | fail "no step")
      (with_reducible rename News _ _ _ _ => NN)
      (with_reducible rename Fr _ _ _ _ => FF)
      refine LoopNext.intro FF NN (Nat.lt_succ_self _) ⟨rfl, i + 2, done ++ [34], todo, ?_, drop_next hd2, rfl, by rw [← hdt]; simp⟩
      rw [← hap]
      have ei2 : ((i + 2 : Nat) : Int) = (i : Int) + 1 + 1 := by omega
      rw [ei2]
      k_extra "m_set"
    · have hd' : x.cps.toList.drop i = c :: (dbl todo ++ [34]) := by rw [hd]; unfold dbl; rw [List.flatMap_cons, if_neg hc]; rfl
      have hi := item_at hd'
      have hl1 := drop_len hd'
      have hq : ((⟨#[c]⟩ : PySem.Str) == PySem.Str.ofString "\"") = false := by
        have e : PySem.Str.ofString "\"" = ⟨#[34]⟩ := by decide +kernel
        rw [e]; exact beq_eq_false_iff_ne.mpr fun q => hc (by cases q; rfl)
      repeat' (first | (k_unfold; (try dsimp only)) | (simp only [hi, hq]) | (k_end; wrow_close) | walk1 | (dsimp only; walk1) | (leave1; walk_say "STEP leave1"; try dsimp only) | fail "no step")
      (with_reducible rename News _ _ _ _ => NN)
      (with_reducible rename Fr _ _ _ _ => FF)
      refine LoopNext.intro FF NN (Nat.lt_succ_self _) ⟨rfl, i + 1, done ++ [c], todo, ?_, drop_next hd', rfl, by rw [← hdt]; simp⟩
      rw [← hap]
      have ei2 : ((i + 1 : Nat) : Int) = (i : Int) + 1 := by omega
      rw [ei2]
      k_extra "m_set"
end Mine
end

section
open PySem PySem.W PyProof.Rows PySem.Calls
set_option maxRecDepth 100000
set_option maxHeartbeats 4000000
namespace Mine
example : True := by
  w_top off
  k_with_none
  trivial
example : True := by first | walk1 | trivial
inductive NumsAre : List Value → List Int → Prop
  | nil : NumsAre [] []
  | cons (n : Int) (t : Tok) {vs ns} : NumsAre vs ns → NumsAre (.str (pL n) t :: vs) (n :: ns)
theorem NumsAre.snoc {n : Int} {t : Tok} : ∀ {vs : List Value} {ns : List Int}, NumsAre vs ns → NumsAre (vs ++ [.str (pL n) t]) (ns ++ [n])
  | _, _, .nil => .cons n t .nil
  | _, _, .cons k u h => .cons k u h.snoc
theorem NumsAre.length {vs : List Value} {ns : List Int} (h : NumsAre vs ns) : vs.length = ns.length := by
  induction h with
  | nil => rfl
  | cons _ _ _ ih => simp [ih]
def AllNe (q : Nat) : List (Addr × Obj) → Prop
  | [] => True
  | p :: r => q ≠ (p.1 : Nat) ∧ AllNe q r
theorem allNe_of {q : Addr} : ∀ {l : List (Addr × Obj)}, (∀ p ∈ l, q ≠ p.1) → AllNe q l
  | [], _ => trivial
  | p :: r, h => ⟨h p (.head _), allNe_of fun p hp => h p (.tail _ hp)⟩
section
variable {prog : Program} {w : World} {A : Around} {E : Value → Shared → Prop} {Q : Value → Shared → Prop} {s : Shared} {g : Heap} {p : Program} {loose : List PySem.Str} {mean : ExcName → Option Value} {mg mb : PySem.Str → Option Value} {L : Addr} {m : PySem.Str → Option Value} {news : List (Addr × Obj)} {G : Obj → List (Addr × Obj)}
theorem r_port {n : Int} {t : Tok} (F : Fr g L s.heap m) (N : News g L s.heap news) (X : (lawTop.heap_39 w.params).In g) (T : Top p loose mean mg mb g) (hn : n.natAbs < 10 ^ 9) (hA1 : A.handled = none) (hA2 : A.depth ≤ 330) (hA3 : A.units ≤ 400)
   (post : ∀ t' h' tk', Fr g L h' m → News g L h' news → Q (.str (pL n) t') { s with heap := h', toks := tk' }) : wpAny (model prog w) A (call (.ref 137) [.int n t]) Q E s :=
  weaken (c_port ⟨X, _, _, _, _, _, T⟩ F.keep hn fun t' h' tk' k => let ⟨F', N'⟩ := ledger0 F N k; post t' h' tk' F' N') hA1 hA2 hA3
theorem r_push {x dx pb fs : Addr} {k1 k2 k3 k4 t1 t3 : Tok} {ln : Int} {v : Value} {its : List Value} {np : Nat} (F : Fr g L s.heap m) (N : News g L s.heap news) (X : (lawTop.heap_39 w.params).In g) (T : Top p loose mean mg mb g)
   (hx : (x, instObj 121 dx) ∈ news) (hdx : (dx, lexDict w k1 k2 k3 k4 t1 t3 ln fs pb) ∈ news) (U : UpdF pb (listOf its.toArray np) news G) (ne1 : x ≠ dx) (ne2 : x ≠ pb) (ne3 : dx ≠ pb) (hsz : its.length ≤ 1000) (hA1 : A.handled = none) (hA2 : A.depth ≤ 345) (hA3 : A.units ≤ 450)
   (post : ∀ h' tk', Fr g L h' m → News g L h' (G (listOf (its ++ [v]).toArray (np + 1))) → Q .none { s with heap := h', toks := tk' }) : wpAny (model prog w) A (call (.ref 118) [.ref x, v]) Q E s :=
  have hp := N _ (updF_in U)
  weaken (c_push (al := 0) ⟨X, _, _, _, _, _, T⟩ F.keep (N _ hx).1 (N _ hdx).1 hp.1 (N _ hx).2.2 (N _ hdx).2.2 hp.2.2 ne1 ne2 ne3 hsz fun h' tk' k e => let ⟨F', N'⟩ := ledger1 F N U k e; post h' tk' F' N') hA1 hA2 hA3
theorem r_pop {x dx pb fs : Addr} {k1 k2 k3 k4 t1 t3 : Tok} {ln : Int} {v : Value} {its : List Value} {np : Nat} (F : Fr g L s.heap m) (N : News g L s.heap news) (X : (lawTop.heap_39 w.params).In g) (T : Top p loose mean mg mb g)
   (hx : (x, instObj 121 dx) ∈ news) (hdx : (dx, lexDict w k1 k2 k3 k4 t1 t3 ln fs pb) ∈ news) (U : UpdF pb (listOf (v :: its).toArray np) news G) (ne1 : x ≠ dx) (ne2 : x ≠ pb) (ne3 : dx ≠ pb) (hsz : its.length ≤ 1000) (hA1 : A.handled = none) (hA2 : A.depth ≤ 345) (hA3 : A.units ≤ 450)
   (post : ∀ h' tk', Fr g L h' m → News g L h' (G (listOf its.toArray (np + 1))) → Q v { s with heap := h', toks := tk' }) : wpAny (model prog w) A (call (.ref 111) [.ref x]) Q E s :=
  have hp := N _ (updF_in U)
  weaken (gt_pop (al := 0) ⟨X, _, _, _, _, _, T⟩ F.keep (N _ hx).1 (N _ hdx).1 hp.1 (N _ hx).2.2 (N _ hdx).2.2 hp.2.2 ne1 ne2 ne3 hsz fun h' tk' k e => let ⟨F', N'⟩ := ledger1 F N U k e; post h' tk' F' N') hA1 hA2 hA3
theorem r_parse {n : Int} {t t1 : Tok} {tp : Addr} (F : Fr g L s.heap m) (N : News g L s.heap news) (X : (lawTop.heap_39 w.params).In g) (T : Top p loose mean mg mb g) (hn : goodN n = true) (htp : (tp, tupOf #[.str (sT "") t1]) ∈ news) (hA1 : A.handled = none) (hA2 : A.depth ≤ 330) (hA3 : A.units ≤ 400)
   (post : ∀ q t1 t2 h' tk', Fr g L h' m → News g L h' ((q, tupOf #[.str (sT "") t1, .int n t2]) :: news) → (∀ p ∈ news, q ≠ p.1) → Q (.ref q) { s with heap := h', toks := tk' }) : wpAny (model prog w) A (call (.ref 76) [.str (pL n) t, .ref tp]) Q E s := by
  refine weaken (c_parse ⟨X, _, _, _, _, _, T⟩ F.keep hn ⟨_, (N _ htp).1, rfl, _, rfl⟩ fun q t1 t2 h' tk' k hq e => ?_) hA1 hA2 hA3
  obtain ⟨F', N'⟩ := ledger0 F N k
  obtain ⟨oL, es, ep, hL, hLd, hLk, hLf⟩ := F.ns
  refine post q t1 t2 h' tk' F' (fun p hp => ?_) fun p hp e' => ?_
  · rcases List.mem_cons.mp hp with rfl | hp
    · refine ⟨e, fun q' => ?_, ?_⟩
      · subst q'; rw [hL] at hq; cases hq
      · cases z : g.get? q with
        | none => rfl
        | some o => have := F.keep _ _ z; rw [hq] at this; cases this
    · exact N' p hp
  · subst e'; rw [(N _ hp).1] at hq; cases hq
theorem r_bisR {a : Addr} {vals : List Value} {ns : List Int} {na f : Nat} {x lo r : Int} {t u : Tok} (F : Fr g L s.heap m) (N : News g L s.heap news) (X : (lawTop.heap_39 w.params).In g) (T : Top p loose mean mg mb g) (ha : (a, listOf vals.toArray na) ∈ news) (hi : IntsAre vals ns) (hr : bisR ns x f lo ns.length = some r)
   (hlen : ns.length ≤ 20) (hlo : 0 ≤ lo) (hlo2 : lo ≤ ns.length) (hx : x.natAbs < 1000) (hA1 : A.handled = none) (hA2 : A.depth ≤ 340) (hA3 : A.units ≤ 450)
   (post : ∀ t' h' tk', Fr g L h' m → News g L h' news → Q (.int r t') { s with heap := h', toks := tk' }) : wpAny (model prog w) A (call (.ref 23) [.ref a, .int x t, .int lo u]) Q E s :=
  weaken (c_bisR ⟨X, _, _, _, _, _, T⟩ F.keep (N _ ha).1 hi hlen hlo hlo2 hx hr fun t' h' tk' k => let ⟨F', N'⟩ := ledger0 F N k; post t' h' tk' F' N') hA1 hA2 hA3
theorem r_bisL {a : Addr} {vals : List Value} {ns : List Int} {na f : Nat} {x r : Int} {t : Tok} (F : Fr g L s.heap m) (N : News g L s.heap news) (X : (lawTop.heap_39 w.params).In g) (T : Top p loose mean mg mb g) (ha : (a, listOf vals.toArray na) ∈ news) (hi : IntsAre vals ns) (hr : bisL ns x f 0 ns.length = some r)
   (hlen : ns.length ≤ 20) (hx : x.natAbs < 1000) (hA1 : A.handled = none) (hA2 : A.depth ≤ 340) (hA3 : A.units ≤ 450)
   (post : ∀ t' h' tk', Fr g L h' m → News g L h' news → Q (.int r t') { s with heap := h', toks := tk' }) : wpAny (model prog w) A (call (.ref 32) [.ref a, .int x t]) Q E s :=
  weaken (c_bisL ⟨X, _, _, _, _, _, T⟩ F.keep (N _ ha).1 hi hlen hx hr fun t' h' tk' k => let ⟨F', N'⟩ := ledger0 F N k; post t' h' tk' F' N') hA1 hA2 hA3
end
end Mine
end

section
open PySem PySem.W PyProof.Rows PySem.Calls
set_option maxRecDepth 100000
set_option maxHeartbeats 8000000
namespace Mine
example : True := by
  w_top off
  k_with_none
  trivial
example : True := by first | walk1 | trivial
example : True := by
  k_with_none
  k_with "m_set" => (refine MSt.intro ?_ (fun y hy => ?_); (focus k_extra "m_are"); first | rfl | ((simp only [List.map_cons, List.map_nil, MOff] at hy); (simp only [mSet, hy, if_false, ne_eq, not_false_eq_true]); done) | fail "m_set")
  k_with "m_are" => (first | exact trivial | (refine ⟨?_, ?_⟩; (focus first | exact trivial | exact ⟨_, rfl⟩ | exact rfl); k_extra "m_are"))
  trivial
example : True := by
  k_with "exec For Name Call cons nil" => ((k_here; (rename Fr _ _ _ _ => lF'); (with_unfolding_all refine For_R lF' (by rfl) (by rfl) ?_ PassesOwn.never)))
  k_with "call ref" => ((k_here; k_dflt (refine r_push (by k_asm) (by k_asm) (by k_asm) (by k_asm) (by k_mem) (by k_mem) (by k_updF) (by assumption) (by assumption) (by assumption) (by assumption) rfl (Nat.le_of_ble_eq_true rfl) (Nat.le_of_ble_eq_true rfl) ?_); intro h' tk' F' N'; (try dsimp only at N'); (try k_sweep)))
  k_with "call ref" => ((k_here; k_dflt (refine r_port (by k_asm) (by k_asm) (by k_asm) (by k_asm) (by assumption) rfl (Nat.le_of_ble_eq_true rfl) (Nat.le_of_ble_eq_true rfl) ?_); intro t' h' tk' F' N'; (try k_sweep)))
  trivial
theorem c_lined {prog : Program} {w : World} {s : Shared} {h₀ : Heap} {E : Value → Shared → Prop} {Q : Value → Shared → Prop} (W : Wd w h₀) (st : h₀.StaysIn s.heap) {x dx pb fs : Addr} {k1 k2 k3 k4 t1 t3 : Tok} {ln start step : Int} {np size : Nat} {u1 u2 u3 : Tok}
   (ex : s.heap.get? x = some (instObj 121 dx)) (ed : s.heap.get? dx = some (lexDict w k1 k2 k3 k4 t1 t3 ln fs pb)) (ep : s.heap.get? pb = some (listOf ([] : List Value).toArray np))
   (nx : h₀.get? x = none) (nd : h₀.get? dx = none) (npb : h₀.get? pb = none) (ne1 : x ≠ dx) (ne2 : x ≠ pb) (ne3 : dx ≠ pb) (hsz : size ≤ 20) (hst1 : -10 ≤ start) (hst2 : start ≤ 10) (hsp1 : -10 ≤ step) (hsp2 : step ≤ 10)
   (post : ∀ its np' h' tk', NumsAre its ((List.range size).map fun (k : Nat) => start + step * (k : Int)) → Keeps s.heap h' [pb] → h'.get? pb = some (listOf its.toArray np') → Q .none { s with heap := h', toks := tk' }) :
   wpAny (model prog w) (AC 325 390) (call (.ref 178) [.ref x, .int start u1, .int step u2, .int size u3]) Q E s := by
  revert W st ex ed ep nx nd npb ne1 ne2 ne3 hsz hst1 hst2 hsp1 hsp2 post
  refine pad fun (zp0 : Nat) => pad fun (zp1 : Nat) => pad fun (zp2 : Nat) => pad fun (zp3 : Nat) => ?_
  revert prog w s h₀ E Q x dx pb fs k1 k2 k3 k4 t1 t3 ln start step np size u1 u2 u3 zp0 zp1 zp2 zp3
  refine @(all_eps28 (neP neI (neP neW (neP neS (neP neI (neP neI (neP neI (neP neI (neP neI (neP neI (neP neI (neP neI (neP neI (neP neI (neP neI (neP neI (neP neI (neP neI (neP neI (neP neI (neP neI (neP neI (neP neI (neP neI (neP neI (neP neI (neP neI (neP neI neI))))))))))))))))))))))))))) ?_)
  generalize @eps28 _ _ _ _ _ _ _ _ _ _ _ _ _ _ _ _ _ _ _ _ _ _ _ _ _ _ _ _ _ _ = zt
  generalize zt.1 = prog, zt.2.1 = w, zt.2.2.1 = s, zt.2.2.2.1 = h₀, zt.2.2.2.2.1 = E, zt.2.2.2.2.2.1 = Q, zt.2.2.2.2.2.2.1 = x, zt.2.2.2.2.2.2.2.1 = dx, zt.2.2.2.2.2.2.2.2.1 = pb, zt.2.2.2.2.2.2.2.2.2.1 = fs, zt.2.2.2.2.2.2.2.2.2.2.1 = k1, zt.2.2.2.2.2.2.2.2.2.2.2.1 = k2, zt.2.2.2.2.2.2.2.2.2.2.2.2.1 = k3, zt.2.2.2.2.2.2.2.2.2.2.2.2.2.1 = k4, zt.2.2.2.2.2.2.2.2.2.2.2.2.2.2.1 = t1, zt.2.2.2.2.2.2.2.2.2.2.2.2.2.2.2.1 = t3, zt.2.2.2.2.2.2.2.2.2.2.2.2.2.2.2.2.1 = ln, zt.2.2.2.2.2.2.2.2.2.2.2.2.2.2.2.2.2.1 = start, zt.2.2.2.2.2.2.2.2.2.2.2.2.2.2.2.2.2.2.1 = step, zt.2.2.2.2.2.2.2.2.2.2.2.2.2.2.2.2.2.2.2.1 = np, zt.2.2.2.2.2.2.2.2.2.2.2.2.2.2.2.2.2.2.2.2.1 = size, zt.2.2.2.2.2.2.2.2.2.2.2.2.2.2.2.2.2.2.2.2.2.1 = u1, zt.2.2.2.2.2.2.2.2.2.2.2.2.2.2.2.2.2.2.2.2.2.2.1 = u2, zt.2.2.2.2.2.2.2.2.2.2.2.2.2.2.2.2.2.2.2.2.2.2.2.1 = u3, zt.2.2.2.2.2.2.2.2.2.2.2.2.2.2.2.2.2.2.2.2.2.2.2.2.1 = zp0, zt.2.2.2.2.2.2.2.2.2.2.2.2.2.2.2.2.2.2.2.2.2.2.2.2.2.1 = zp1, zt.2.2.2.2.2.2.2.2.2.2.2.2.2.2.2.2.2.2.2.2.2.2.2.2.2.2.1 = zp2, zt.2.2.2.2.2.2.2.2.2.2.2.2.2.2.2.2.2.2.2.2.2.2.2.2.2.2.2 = zp3
  clear zt
  clear zp0 zp1 zp2 zp3
  intro W st ex ed ep nx nd npb ne1 ne2 ne3 hsz hst1 hst2 hsp1 hsp2 post
  refine enterP (args := ⟨[.ref x, .int start u1, .int step u2, .int size u3], []⟩) W st (news := [(x, instObj 121 dx), (dx, lexDict w k1 k2 k3 k4 t1 t3 ln fs pb), (pb, listOf ([] : List Value).toArray np)]) (binds := [(PySem.Str.ofString "lexer", .ref x), (PySem.Str.ofString "start", .int start u1), (PySem.Str.ofString "step", .int step u2), (PySem.Str.ofString "size", .int size u3)])
    (fun p hp => by rcases List.mem_cons.mp hp with rfl | hp; exact ⟨ex, nx⟩; rcases List.mem_cons.mp hp with rfl | hp; exact ⟨ed, nd⟩; rcases List.mem_cons.mp hp with rfl | hp; exact ⟨ep, npb⟩; exact nomatch hp) (by k_is) (by k_is) (by decide) (BindsTo.of_eq rfl) (locs rfl) ?_ rfl rfl rfl (by decide)
  refine pad0 ?_
  refine @(all_eps9 (neP neI (neP neI (neP neI (neP neI (neP neI (neP neI (neP neI (neP neI neI)))))))) ?_)
  generalize @eps9 _ _ _ _ _ _ _ _ _ _ _ = zt
  generalize zt.1 = zp0, zt.2.1 = g, zt.2.2.1 = h₁, zt.2.2.2.1 = tk, zt.2.2.2.2.1 = p, zt.2.2.2.2.2.1 = loose, zt.2.2.2.2.2.2.1 = mean, zt.2.2.2.2.2.2.2.1 = mg, zt.2.2.2.2.2.2.2.2 = mb
  clear zt
  clear zp0
  intro F N X T hg hl stg
  k_lt hl
  replace ne1 := neN ne1
  replace ne2 := neN ne2
  replace ne3 := neN ne3
  (with_reducible show wpAny _ _ _ _ _ _)
  k_fold
  repeat' (first | (k_unfold; (try dsimp only)) | (k_end; wrow_close) | walk1 | (dsimp only; walk1) | (leave1; walk_say "STEP leave1"; try dsimp only) | fail "no step")
  (with_reducible rename News _ _ _ _ => NN)
  (with_reducible rename Fr _ _ _ _ => FF)
  (rename IsRange _ _ _ _ _ _ _ _ => RR)
  refine LoopR.range (n := size) FF NN RR rfl (small_one (by decide) (by decide) (by omega) (by omega)) (by rw [rangeSize_nat]; omega) (fun m0 i m news => ∃ its np', MSt m m0 [(PySem.Str.ofString "k", .any)] ∧ news = [(x, instObj 121 dx), (dx, lexDict w k1 k2 k3 k4 t1 t3 ln fs pb), (pb, listOf its.toArray np')] ∧ NumsAre its ((List.range i).map fun (k : Nat) => start + step * (k : Int)))
    [(x, instObj 121 dx), (dx, lexDict w k1 k2 k3 k4 t1 t3 ln fs pb), (pb, listOf ([] : List Value).toArray np)] (by k_subL) ⟨[], np, ?_, rfl, .nil⟩ ?_ ?_
  · k_extra "m_set"
  · clear NN FF RR
    rintro I hI i m₁ news₁ t h tk hi ⟨its, np', ⟨vs, hvs, rfl⟩, rfl, hits⟩ F N
    obtain ⟨uk, _, rfl, _, rfl⟩ := hvs
    k_lt hI
    have e0 : (0 : Int) + (i : Int) = (i : Int) := by omega
    rw [e0] at F
    have hls : its.length ≤ 1000 := by rw [hits.length]; simp; omega
    have hb : (step * (i : Int)).natAbs ≤ 200 := by
      rw [Int.natAbs_mul]
      have h1 : step.natAbs ≤ 10 := by omega
      have h2 : (i : Int).natAbs ≤ 20 := by omega
      calc _ ≤ 10 * 20 := Nat.mul_le_mul h1 h2
        _ = 200 := rfl
    have hn : (start + step * (i : Int)).natAbs < 10 ^ 9 := by omega
    (with_reducible show wpAny _ _ _ _ _ _)
    k_fold
    repeat' (first | (k_unfold; (try dsimp only)) | (k_end; wrow_close) | walk1 | (dsimp only; walk1) | (leave1; walk_say "STEP leave1"; try dsimp only) | fail "no step")
    (with_reducible rename News _ _ _ _ => NN)
    (with_reducible rename Fr _ _ _ _ => FF)
    refine RNext.intro FF NN [(x, instObj 121 dx), (dx, lexDict w k1 k2 k3 k4 t1 t3 ln fs pb), (pb, listOf (its ++ [_]).toArray (np' + 1))] (by k_mem) (by k_subL) (by k_offL) ⟨_, _, ?_, rfl, ?_⟩
    · k_extra "m_set"
    · rw [List.range_succ, List.map_append]
      exact hits.snoc
  · clear NN FF RR
    rintro m₁ news₁ h tk ⟨its, np', ⟨vs, hvs, rfl⟩, rfl, hits⟩ F N
    obtain ⟨uk, _, rfl, _, rfl⟩ := hvs
    dsimp only
    repeat' (first | (k_unfold; (try dsimp only)) | (k_end; wrow_close) | walk1 | (dsimp only; walk1) | (leave1; walk_say "STEP leave1"; try dsimp only) | fail "no step")
    (with_reducible rename News _ _ _ _ => NN)
    (with_reducible rename Fr _ _ _ _ => FF)
    exact post _ _ _ _ hits (keeps_drop (keeps_drop (keeps_of FF hg) ex (NN.get (by k_mem))) ed (NN.get (by k_mem))) (NN.get (by k_mem))
end Mine
end

section
open PySem PySem.W PyProof.Rows PySem.Calls
set_option maxRecDepth 100000
set_option maxHeartbeats 8000000
namespace Mine
example : True := by
  w_top off
  k_with_none
  trivial
example : True := by first | walk1 | trivial
example : True := by
  k_with_none
  trivial
example : True := by
  k_with "exec For Name Name cons nil" => ((k_here; (rename Fr _ _ _ _ => lF'); (with_unfolding_all refine For_R lF' (by rfl) (by rfl) ?_ PassesOwn.never)))
  trivial
theorem c_running {prog : Program} {w : World} {s : Shared} {h₀ : Heap} {E : Value → Shared → Prop} {Q : Value → Shared → Prop} (W : Wd w h₀) (st : h₀.StaysIn s.heap) {r : Addr} {vals : List Value} {nr : Nat} {a b c d : Int}
   (er : s.heap.get? r = some (listOf vals.toArray nr)) (hi : IntsAre vals [a, b, c, d]) (nr0 : h₀.get? r = none) (ha : a.natAbs ≤ 1000) (hb : b.natAbs ≤ 1000) (hc : c.natAbs ≤ 1000) (hd : d.natAbs ≤ 1000)
   (post : ∀ q vals' nq h' tk', IntsAre vals' [a, a + b, a + b + c, a + b + c + d] → Keeps s.heap h' [] → h'.get? q = some (listOf vals'.toArray nq) → s.heap.get? q = none → Q (.ref q) { s with heap := h', toks := tk' }) :
   wpAny (model prog w) (AC 330 400) (call (.ref 171) [.ref r]) Q E s := by
  obtain ⟨ta, v1, rfl, hi1⟩ := hi.cons_inv
  obtain ⟨tb, v2, rfl, hi2⟩ := hi1.cons_inv
  obtain ⟨tc, v3, rfl, hi3⟩ := hi2.cons_inv
  obtain ⟨td, v4, rfl, hi4⟩ := hi3.cons_inv
  obtain rfl := hi4.nil_inv
  clear hi hi1 hi2 hi3 hi4
  refine enterP (args := ⟨[.ref r], []⟩) W st (news := [(r, listOf [.int a ta, .int b tb, .int c tc, .int d td].toArray nr)]) (binds := [(PySem.Str.ofString "row", .ref r)])
    (fun p hp => by rcases List.mem_cons.mp hp with rfl | hp; exact ⟨er, nr0⟩; exact nomatch hp) (by k_is) (by k_is) (by decide) (BindsTo.of_eq rfl) (locs rfl) ?_ rfl rfl rfl (by decide)
  intro g h₁ tk p loose mean mg mb F N X T hg hl stg
  k_lt hl
  (with_reducible show wpAny _ _ _ _ _ _)
  k_fold
  repeat' (first | (k_unfold; (try dsimp only)) | (k_end; wrow_close) | walk1 | (dsimp only; walk1) | (leave1; walk_say "STEP leave1"; try dsimp only) | fail "no step")
  (with_reducible rename News _ _ _ _ => NN)
  (with_reducible rename Fr _ _ _ _ => FF)
  refine iter_listUnr (lo := listOf [.int a ta, .int b tb, .int c tc, .int d td].toArray nr) (vs := [.int a ta, .int b tb, .int c tc, .int d td]) rfl FF NN (by k_mem) rfl rfl ?_
  intro i' l1
  k_lt l1
  repeat' (first | (k_unfold; (try dsimp only)) | (k_end; wrow_close) | walk1 | (dsimp only; walk1) | (leave1; walk_say "STEP leave1"; try dsimp only) | fail "no step")
  (with_reducible rename News _ _ _ _ => NN2)
  (with_reducible rename Fr _ _ _ _ => FF2)
  (try simp only [Int.zero_add] at NN2)
  have e := NN2.get (.head _)
  (try simp only [List.push_toArray, List.nil_append, List.cons_append] at e)
  have hq := fresh_of hg (NN2 _ (.head _)).2.2 (fun h => by have := List.mem_singleton.mp h; exact absurd this.symm (by k_ne))
  exact post _ _ _ _ _ (.cons _ _ (.cons _ _ (.cons _ _ (.cons _ _ .nil)))) (keeps_drop (keeps_of FF2 hg) er (NN2.get (by k_mem))) e hq
end Mine
end

section
open PySem PySem.W PyProof.Rows PySem.Calls
set_option maxRecDepth 100000
set_option maxHeartbeats 8000000
namespace Mine
example : True := by
  w_top off
  k_with_none
  trivial
example : True := by first | walk1 | trivial
example : True := by
  k_with_none
  k_with "m_memR" => (first | (with_reducible apply mem_h) | (with_reducible apply mem_t; k_extra "m_memR"))
  k_with "m_memD" => (first | apply mem_h | (with_reducible apply mem_t; k_extra "m_memD"))
  k_with "m_mem" => (first | k_extra "m_memR" | k_extra "m_memD")
  k_with "m_neD" => (first | (with_reducible apply NeD.l; k_extra "m_memR") | (with_reducible apply NeD.r; k_extra "m_memR") | (with_reducible apply NeD.t; k_extra "m_neD"))
  k_with "m_ne" => ((try dsimp only); refine ne_of (by with_reducible assumption) (by k_extra "m_neD"))
  k_with "m_updS" => (first | (with_reducible apply UpdS.head) | (apply UpdS.tail; k_extra "m_updS"))
  k_with "m_updF" => k_dflt (refine updF_dist (by k_extra "m_updS") (by with_reducible assumption) (by rfl))
  k_with "m_upd" => k_dflt (refine upd_dist (by k_extra "m_updS") (by with_reducible assumption) (by rfl))
  k_with "m_lt" => k_dflt (intro zl; (with_reducible rename Dist _ => zdo); (have zd' := dist_lt zl zdo (by rfl)); clear zl zdo)
  k_with "m_nw" => k_dflt (intro zl; (with_reducible rename Dist _ => zdo); (have zd' := dist_new zl zdo (by rfl)); clear zl zdo)
  k_with "storeName" => (k_here; k_dflt (refine storeL (by k_asm) (by k_asm) ?_ (by rfl) (by rfl)); intro _ _ _; (try k_sweep))
  trivial
structure S where
  q : List Int
  o0 : List Int
  o1 : List Int
  o2 : List Int
  o3 : List Int
  st : List Int
  tot : Int
  grp : Int
def S.hit (s : S) (g n : Int) (i : Nat) (q : List Int) : S :=
  { q := q, o0 := if g = 0 then s.o0 ++ [n] else s.o0, o1 := if g = 1 then s.o1 ++ [n] else s.o1, o2 := if g = 2 then s.o2 ++ [n] else s.o2, o3 := if g = 3 then s.o3 ++ [n] else s.o3, st := s.st ++ [(i : Int)], tot := s.tot, grp := g }
def inn (e : List Int) : Nat → Nat → S → Option S
  | 0, _, s => some s
  | k + 1, i, s => match s.q with
    | [] => none
    | n :: q => match bisR e i 8 s.grp e.length with
      | none => none
      | some g => if (goodN n = true ∧ s.o0.length ≤ 100 ∧ s.o1.length ≤ 100 ∧ s.o2.length ≤ 100 ∧ s.o3.length ≤ 100 ∧ s.st.length ≤ 100 ∧ (s.tot + n).natAbs < 10 ^ 9) ∧ (g = 0 ∨ g = 1 ∨ g = 2 ∨ g = 3) then
          (if (i : Int) + 1 = e.getD g.toNat 0 then inn e k (i + 1) (s.hit g n i q)
           else if goodN (s.tot + n) = true then inn e k (i + 1) { s with q := q ++ [s.tot + n], tot := s.tot + n, grp := g } else none)
        else none
structure O where
  q : List Int
  o0 : List Int
  o1 : List Int
  o2 : List Int
  o3 : List Int
  a : Int
  b : Int
  c : Int
  d : Int
theorem neO : Nonempty O := ⟨⟨[], [], [], [], [], 0, 0, 0, 0⟩⟩
def O.start (s : O) : S := { q := s.q, o0 := s.o0, o1 := s.o1, o2 := s.o2, o3 := s.o3, st := [], tot := 0, grp := 0 }
def outr : Nat → O → Option O
  | 0, s => some s
  | k + 1, s =>
    if (0 ≤ s.a ∧ s.a ≤ 20) ∧ (0 ≤ s.b ∧ s.b ≤ 20) ∧ (0 ≤ s.c ∧ s.c ≤ 20) ∧ (0 ≤ s.d ∧ s.d ≤ 20) then
      match inn [s.a, s.b, s.c, s.d] s.d.toNat 0 s.start with
      | none => none
      | some r => if r.st.length ≤ 20 then
          match bisL r.st s.a 8 0 r.st.length, bisL r.st s.b 8 0 r.st.length, bisL r.st s.c 8 0 r.st.length, bisL r.st s.d 8 0 r.st.length with
          | some ba, some bb, some bc, some bd => outr k { q := r.q, o0 := r.o0, o1 := r.o1, o2 := r.o2, o3 := r.o3, a := s.a - ba, b := s.b - bb, c := s.c - bc, d := s.d - bd }
          | _, _, _, _ => none
        else none
    else none
theorem ints_snoc {n : Int} {t : Tok} : ∀ {vs : List Value} {ns : List Int}, IntsAre vs ns → IntsAre (vs ++ [.int n t]) (ns ++ [n])
  | _, _, .nil => .cons n t .nil
  | _, _, .cons k u h => .cons k u (ints_snoc h)
def bT (ns : List Int) (x : Int) : Int := (bisL ns x 8 0 ns.length).getD 0
/-- one turn of the inner loop, by the plain law -/
inductive InnS (e : List Int) (k i : Nat) (s R : S) : Prop
  | mk (n : Int) (q : List Int) (g : Int) : s.q = n :: q → bisR e i 8 s.grp e.length = some g → goodN n = true → s.o0.length ≤ 100 → s.o1.length ≤ 100 → s.o2.length ≤ 100 → s.o3.length ≤ 100 → s.st.length ≤ 100 → (s.tot + n).natAbs < 10 ^ 9 → (g = 0 ∨ g = 1 ∨ g = 2 ∨ g = 3) →
    (((i : Int) + 1 = e.getD g.toNat 0 ∧ inn e k (i + 1) (s.hit g n i q) = some R) ∨ (¬ (i : Int) + 1 = e.getD g.toNat 0 ∧ goodN (s.tot + n) = true ∧ inn e k (i + 1) { s with q := q ++ [s.tot + n], tot := s.tot + n, grp := g } = some R)) → InnS e k i s R
theorem inn_succ {e : List Int} {k i : Nat} {s R : S} (h : inn e (k + 1) i s = some R) : InnS e k i s R := by
  unfold inn at h
  split at h
  · cases h
  · rename_i n q hq
    split at h
    · cases h
    · rename_i g hg
      split at h
      · rename_i hc
        refine .mk n q g hq hg hc.1.1 hc.1.2.1 hc.1.2.2.1 hc.1.2.2.2.1 hc.1.2.2.2.2.1 hc.1.2.2.2.2.2.1 hc.1.2.2.2.2.2.2 hc.2 ?_
        split at h
        · rename_i hh; exact .inl ⟨hh, h⟩
        · rename_i hh
          split at h
          · rename_i hgd; exact .inr ⟨hh, hgd, h⟩
          · cases h
      · cases h
theorem outr_succ {k : Nat} {s R : O} (h : outr (k + 1) s = some R) : ∃ r, ((0 ≤ s.a ∧ s.a ≤ 20) ∧ (0 ≤ s.b ∧ s.b ≤ 20) ∧ (0 ≤ s.c ∧ s.c ≤ 20) ∧ (0 ≤ s.d ∧ s.d ≤ 20)) ∧ inn [s.a, s.b, s.c, s.d] s.d.toNat 0 s.start = some r ∧ r.st.length ≤ 20 ∧
    (∀ k, k ∈ [s.a, s.b, s.c, s.d] → bisL r.st k 8 0 r.st.length = some (bT r.st k)) ∧
    outr k { q := r.q, o0 := r.o0, o1 := r.o1, o2 := r.o2, o3 := r.o3, a := s.a - bT r.st s.a, b := s.b - bT r.st s.b, c := s.c - bT r.st s.c, d := s.d - bT r.st s.d } = some R := by
  unfold outr at h
  split at h
  · rename_i hb
    split at h
    · cases h
    · rename_i r hr
      split at h
      · rename_i hl
        split at h
        · rename_i ba bb bc bd h1 h2 h3 h4
          have e1 : bT r.st s.a = ba := by unfold bT; rw [h1]; rfl
          have e2 : bT r.st s.b = bb := by unfold bT; rw [h2]; rfl
          have e3 : bT r.st s.c = bc := by unfold bT; rw [h3]; rfl
          have e4 : bT r.st s.d = bd := by unfold bT; rw [h4]; rfl
          refine ⟨r, hb, hr, hl, fun k hk => ?_, by rw [e1, e2, e3, e4]; exact h⟩
          simp only [List.mem_cons, List.not_mem_nil, or_false] at hk
          rcases hk with rfl | rfl | rfl | rfl
          · rw [e1]; exact h1
          · rw [e2]; exact h2
          · rw [e3]; exact h3
          · rw [e4]; exact h4
        · cases h
      · cases h
  · cases h
abbrev PI := Tok → Tok → Option Value → Option Value → Int → Int → List Value → List Value → List Value → List Value → List Value → List Value → Nat → Nat → Nat → Nat → Nat → Nat → Prop
/-- the inner loop, between two turns -/
inductive InvI (e : List Int) (nd : Nat) (r1 : S) (j : Nat) (P : PI) : Prop
  | mk (tt tg : Tok) (vp vn : Option Value) (stv its v0 v1 v2 v3 : List Value) (np ns n0 n1 n2 n3 : Nat) (σ : S) : IntsAre v0 σ.o0 → IntsAre v1 σ.o1 → IntsAre v2 σ.o2 → IntsAre v3 σ.o3 → IntsAre stv σ.st → NumsAre its σ.q → σ.q.length ≤ 100 → 0 ≤ σ.grp → σ.grp ≤ 3 → inn e (nd - j) j σ = some r1 →
      P tt tg vp vn σ.tot σ.grp stv its v0 v1 v2 v3 np ns n0 n1 n2 n3 → InvI e nd r1 j P
theorem InvI.mono {e : List Int} {nd : Nat} {r1 : S} {j : Nat} {P P' : PI} (h : InvI e nd r1 j P) (k : ∀ tt tg vp vn a b l1 l2 l3 l4 l5 l6 m1 m2 m3 m4 m5 m6, P tt tg vp vn a b l1 l2 l3 l4 l5 l6 m1 m2 m3 m4 m5 m6 → P' tt tg vp vn a b l1 l2 l3 l4 l5 l6 m1 m2 m3 m4 m5 m6) : InvI e nd r1 j P' := by
  obtain ⟨tt, tg, vp, vn, stv, its, v0, v1, v2, v3, np, ns, n0, n1, n2, n3, σ, i0, i1, i2, i3, i4, i5, i6, i7, i8, i9, p⟩ := h
  exact ⟨tt, tg, vp, vn, stv, its, v0, v1, v2, v3, np, ns, n0, n1, n2, n3, σ, i0, i1, i2, i3, i4, i5, i6, i7, i8, i9, k _ _ _ _ _ _ _ _ _ _ _ _ _ _ _ _ _ _ p⟩
/-- .. at the start of a turn -/
inductive InvT (e : List Int) (nd : Nat) (r1 : S) (j : Nat) (P : PI) : Prop
  | mk (tt tg : Tok) (vp vn : Option Value) (stv its v0 v1 v2 v3 : List Value) (np ns n0 n1 n2 n3 : Nat) (n tot grp g : Int) (tn : Tok) : goodN n = true → bisR e j 8 grp e.length = some g → its.length ≤ 1000 → v0.length ≤ 1000 → v1.length ≤ 1000 → v2.length ≤ 1000 → v3.length ≤ 1000 → stv.length ≤ 1000 → (tot + n).natAbs < 10 ^ 9 → 0 ≤ grp → grp ≤ 3 → 0 ≤ g → g < 4 → (j : Int).natAbs < 1000 →
      ((j : Int) + 1 = e.getD g.toNat 0 → g = 0 → ∀ (P' : PI) tt tg vp vn ts t np ns n0, P' tt tg vp vn tot g (stv ++ [.int j ts]) its (v0 ++ [.int n t]) v1 v2 v3 np ns n0 n1 n2 n3 → InvI e nd r1 (j + 1) P') →
      ((j : Int) + 1 = e.getD g.toNat 0 → g = 1 → ∀ (P' : PI) tt tg vp vn ts t np ns n1, P' tt tg vp vn tot g (stv ++ [.int j ts]) its v0 (v1 ++ [.int n t]) v2 v3 np ns n0 n1 n2 n3 → InvI e nd r1 (j + 1) P') →
      ((j : Int) + 1 = e.getD g.toNat 0 → g = 2 → ∀ (P' : PI) tt tg vp vn ts t np ns n2, P' tt tg vp vn tot g (stv ++ [.int j ts]) its v0 v1 (v2 ++ [.int n t]) v3 np ns n0 n1 n2 n3 → InvI e nd r1 (j + 1) P') →
      ((j : Int) + 1 = e.getD g.toNat 0 → g = 3 → ∀ (P' : PI) tt tg vp vn ts t np ns n3, P' tt tg vp vn tot g (stv ++ [.int j ts]) its v0 v1 v2 (v3 ++ [.int n t]) np ns n0 n1 n2 n3 → InvI e nd r1 (j + 1) P') →
      ((j : Int) + 1 ≠ e.getD g.toNat 0 → ∀ (P' : PI) tt tg vp vn t np, P' tt tg vp vn (tot + n) g stv (its ++ [.str (pL (tot + n)) t]) v0 v1 v2 v3 np ns n0 n1 n2 n3 → InvI e nd r1 (j + 1) P') →
      P tt tg vp vn tot grp stv (.str (pL n) tn :: its) v0 v1 v2 v3 np ns n0 n1 n2 n3 → InvT e nd r1 j P
theorem InvI.open {e : List Int} {nd : Nat} {r1 : S} {j : Nat} {P : PI} (h : InvI e nd r1 j P) (hj : j < nd) (hnd : nd ≤ 20) : InvT e nd r1 j P := by
  obtain ⟨tt, tg, vp, vn, stv, its, v0, v1, v2, v3, np, ns, n0, n1, n2, n3, σ, i0, i1, i2, i3, i4, i5, i6, i7, i8, i9, p⟩ := h
  rw [show nd - j = (nd - (j + 1)) + 1 from by omega] at i9
  obtain ⟨n, q, g, hq, hb, hgn, l0, l1, l2, l3, l4, ht, hg, hc⟩ := inn_succ i9
  rw [hq] at i5 i6
  have i5' : ∃ tn its', its = .str (pL n) tn :: its' ∧ NumsAre its' q := by cases i5; exact ⟨_, _, rfl, by assumption⟩
  obtain ⟨tn, its', rfl, i5'⟩ := i5'
  have hql : q.length ≤ 99 := by simp at i6; omega
  refine ⟨tt, tg, vp, vn, stv, its', v0, v1, v2, v3, np, ns, n0, n1, n2, n3, n, σ.tot, σ.grp, g, tn, hgn, hb, ?_, ?_, ?_, ?_, ?_, ?_, ht, i7, i8, by omega, by omega, by omega, ?_, ?_, ?_, ?_, ?_, p⟩
  · rw [i5'.length]; omega
  · rw [i0.length]; omega
  · rw [i1.length]; omega
  · rw [i2.length]; omega
  · rw [i3.length]; omega
  · rw [i4.length]; omega
  · rintro hh rfl P' tt tg vp vn ts t np ns n0 h
    exact ⟨tt, tg, vp, vn, _, _, _, _, _, _, np, ns, n0, _, _, _, σ.hit 0 n j q, by simpa [S.hit] using ints_snoc i0, by simpa [S.hit] using i1, by simpa [S.hit] using i2, by simpa [S.hit] using i3, ints_snoc i4, i5', (show q.length ≤ 100 by omega), (show (0 : Int) ≤ 0 by decide), (show (0 : Int) ≤ 3 by decide), hc.elim (·.2) fun h => absurd hh h.1, h⟩
  · rintro hh rfl P' tt tg vp vn ts t np ns n0 h
    exact ⟨tt, tg, vp, vn, _, _, _, _, _, _, np, ns, _, n0, _, _, σ.hit 1 n j q, by simpa [S.hit] using i0, by simpa [S.hit] using ints_snoc i1, by simpa [S.hit] using i2, by simpa [S.hit] using i3, ints_snoc i4, i5', (show q.length ≤ 100 by omega), (show (0 : Int) ≤ 1 by decide), (show (1 : Int) ≤ 3 by decide), hc.elim (·.2) fun h => absurd hh h.1, h⟩
  · rintro hh rfl P' tt tg vp vn ts t np ns n0 h
    exact ⟨tt, tg, vp, vn, _, _, _, _, _, _, np, ns, _, _, n0, _, σ.hit 2 n j q, by simpa [S.hit] using i0, by simpa [S.hit] using i1, by simpa [S.hit] using ints_snoc i2, by simpa [S.hit] using i3, ints_snoc i4, i5', (show q.length ≤ 100 by omega), (show (0 : Int) ≤ 2 by decide), (show (2 : Int) ≤ 3 by decide), hc.elim (·.2) fun h => absurd hh h.1, h⟩
  · rintro hh rfl P' tt tg vp vn ts t np ns n0 h
    exact ⟨tt, tg, vp, vn, _, _, _, _, _, _, np, ns, _, _, _, n0, σ.hit 3 n j q, by simpa [S.hit] using i0, by simpa [S.hit] using i1, by simpa [S.hit] using i2, by simpa [S.hit] using ints_snoc i3, ints_snoc i4, i5', (show q.length ≤ 100 by omega), (show (0 : Int) ≤ 3 by decide), (show (3 : Int) ≤ 3 by decide), hc.elim (·.2) fun h => absurd hh h.1, h⟩
  · rintro hh P' tt tg vp vn t np h
    obtain ⟨_, hgt, hn⟩ := hc.resolve_left fun h => hh h.1
    exact ⟨tt, tg, vp, vn, _, _, _, _, _, _, np, _, _, _, _, _, { σ with q := q ++ [σ.tot + n], tot := σ.tot + n, grp := g }, i0, i1, i2, i3, i4, i5'.snoc, (by simp; omega), (show 0 ≤ g by omega), (show g ≤ 3 by omega), hn, h⟩
/-- .. at its end -/
inductive InvE (r1 : S) (P : PI) : Prop
  | mk (tt tg : Tok) (vp vn : Option Value) (stv its v0 v1 v2 v3 : List Value) (np ns n0 n1 n2 n3 : Nat) (tot grp : Int) : IntsAre v0 r1.o0 → IntsAre v1 r1.o1 → IntsAre v2 r1.o2 → IntsAre v3 r1.o3 → IntsAre stv r1.st → NumsAre its r1.q → r1.q.length ≤ 100 → P tt tg vp vn tot grp stv its v0 v1 v2 v3 np ns n0 n1 n2 n3 → InvE r1 P
theorem InvI.done {e : List Int} {nd : Nat} {r1 : S} {P : PI} (h : InvI e nd r1 nd P) : InvE r1 P := by
  obtain ⟨tt, tg, vp, vn, stv, its, v0, v1, v2, v3, np, ns, n0, n1, n2, n3, σ, i0, i1, i2, i3, i4, i5, i6, i7, i8, i9, p⟩ := h
  rw [Nat.sub_self] at i9
  cases i9
  exact ⟨tt, tg, vp, vn, stv, its, v0, v1, v2, v3, np, ns, n0, n1, n2, n3, _, _, i0, i1, i2, i3, i4, i5, i6, p⟩
abbrev PO := Obj → Addr → List Value → List Value → List Value → List Value → List Value → List Value → Nat → Nat → Nat → Nat → Nat → Nat → Option Value → Option Value → Option Value → Option Value → Option Value → Prop
/-- the outer loop, between two turns -/
inductive InvO (r : O) (i : Nat) (P : PO) : Prop
  | mk (oc : Obj) (vc : Option Value) (el : Addr) (ev its v0 v1 v2 v3 : List Value) (np ne n0 n1 n2 n3 : Nat) (mk mt mg mp mn : Option Value) (σ : O) : oc.data = .cell vc → IntsAre v0 σ.o0 → IntsAre v1 σ.o1 → IntsAre v2 σ.o2 → IntsAre v3 σ.o3 → IntsAre ev [σ.a, σ.b, σ.c, σ.d] → NumsAre its σ.q → σ.q.length ≤ 100 → outr (6 - i) σ = some r →
      P oc el ev its v0 v1 v2 v3 np ne n0 n1 n2 n3 mk mt mg mp mn → InvO r i P
theorem InvO.mono {r : O} {i : Nat} {P P' : PO} (h : InvO r i P) (k : ∀ a b l1 l2 l3 l4 l5 l6 m1 m2 m3 m4 m5 m6 x1 x2 x3 x4 x5, P a b l1 l2 l3 l4 l5 l6 m1 m2 m3 m4 m5 m6 x1 x2 x3 x4 x5 → P' a b l1 l2 l3 l4 l5 l6 m1 m2 m3 m4 m5 m6 x1 x2 x3 x4 x5) : InvO r i P' := by
  obtain ⟨oc, vc, el, ev, its, v0, v1, v2, v3, np, ne, n0, n1, n2, n3, mk, mt, mg, mp, mn, σ, i0, i1, i2, i3, i4, i5, i6, i7, i8, p⟩ := h
  exact ⟨oc, vc, el, ev, its, v0, v1, v2, v3, np, ne, n0, n1, n2, n3, mk, mt, mg, mp, mn, σ, i0, i1, i2, i3, i4, i5, i6, i7, i8, k _ _ _ _ _ _ _ _ _ _ _ _ _ _ _ _ _ _ _ p⟩
/-- .. at the start of a turn -/
inductive InvU (r : O) (i : Nat) (P : PO) : Prop
  | mk (oc : Obj) (vc : Option Value) (el : Addr) (its v0 v1 v2 v3 : List Value) (np ne n0 n1 n2 n3 : Nat) (mk mt mg mp mn : Option Value) (a b c d : Int) (ta tb tc td : Tok) (r1 : S) : oc.data = .cell vc → 0 ≤ d → d ≤ 20 →
      (∀ (P' : PI) tt tg vp vn ns, P' tt tg vp vn 0 0 [] its v0 v1 v2 v3 np ns n0 n1 n2 n3 → InvI [a, b, c, d] d.toNat r1 0 P') → r1.st.length ≤ 20 → (∀ k, k ∈ [a, b, c, d] → bisL r1.st k 8 0 r1.st.length = some (bT r1.st k) ∧ k.natAbs < 1000) →
      (∀ (P' : PO) (ev its v0 v1 v2 v3 : List Value), IntsAre v0 r1.o0 → IntsAre v1 r1.o1 → IntsAre v2 r1.o2 → IntsAre v3 r1.o3 → NumsAre its r1.q → r1.q.length ≤ 100 → IntsAre ev (List.map (fun k' => k' - bT r1.st k') [a, b, c, d]) →
        ∀ oc vc el np ne n0 n1 n2 n3 mk mt mg mp mn, oc.data = .cell vc → P' oc el ev its v0 v1 v2 v3 np ne n0 n1 n2 n3 mk mt mg mp mn → InvO r (i + 1) P') →
      P oc el [.int a ta, .int b tb, .int c tc, .int d td] its v0 v1 v2 v3 np ne n0 n1 n2 n3 mk mt mg mp mn → InvU r i P
theorem InvO.open {r : O} {i : Nat} {P : PO} (h : InvO r i P) (hi : i < 6) : InvU r i P := by
  obtain ⟨oc, vc, el, ev, its, v0, v1, v2, v3, np, ne, n0, n1, n2, n3, mk, mt, mg, mp, mn, σ, i0, i1, i2, i3, i4, i5, i6, i7, i8, p⟩ := h
  rw [show 6 - i = (5 - i) + 1 from by omega] at i8
  obtain ⟨r1, hb, hin, hst, hall, hn⟩ := outr_succ i8
  cases four_of i5 with
  | mk ta tb tc td =>
    refine ⟨oc, vc, el, its, v0, v1, v2, v3, np, ne, n0, n1, n2, n3, mk, mt, mg, mp, mn, σ.a, σ.b, σ.c, σ.d, ta, tb, tc, td, r1, i0, hb.2.2.2.1, hb.2.2.2.2, ?_, hst, fun k hk => ⟨hall k hk, ?_⟩, ?_, p⟩
    · rintro P' tt tg vp vn ns h
      exact ⟨tt, tg, vp, vn, [], its, v0, v1, v2, v3, np, ns, n0, n1, n2, n3, σ.start, i1, i2, i3, i4, .nil, i6, i7, Int.le_refl _, (show (0 : Int) ≤ 3 by decide), hin, h⟩
    · simp only [List.mem_cons, List.not_mem_nil, or_false] at hk
      omega
    · rintro P' ev its v0 v1 v2 v3 j0 j1 j2 j3 j4 j5 j6 oc vc el np ne n0 n1 n2 n3 mk mt mg mp mn hoc h
      exact ⟨oc, vc, el, ev, its, v0, v1, v2, v3, np, ne, n0, n1, n2, n3, mk, mt, mg, mp, mn, { q := r1.q, o0 := r1.o0, o1 := r1.o1, o2 := r1.o2, o3 := r1.o3, a := σ.a - bT r1.st σ.a, b := σ.b - bT r1.st σ.b, c := σ.c - bT r1.st σ.c, d := σ.d - bT r1.st σ.d }, hoc, j0, j1, j2, j3, j6, j4, j5, by rw [show 6 - (i + 1) = 5 - i from by omega]; exact hn, h⟩
/-- .. at its end -/
inductive InvF (r : O) (P : PO) : Prop
  | mk (oc : Obj) (el : Addr) (ev its v0 v1 v2 v3 : List Value) (np ne n0 n1 n2 n3 : Nat) (mk mt mg mp mn : Option Value) : IntsAre v0 r.o0 → IntsAre v1 r.o1 → IntsAre v2 r.o2 → IntsAre v3 r.o3 → NumsAre its r.q → P oc el ev its v0 v1 v2 v3 np ne n0 n1 n2 n3 mk mt mg mp mn → InvF r P
theorem InvO.done {r : O} {P : PO} (h : InvO r 6 P) : InvF r P := by
  obtain ⟨oc, vc, el, ev, its, v0, v1, v2, v3, np, ne, n0, n1, n2, n3, mk, mt, mg, mp, mn, σ, i0, i1, i2, i3, i4, i5, i6, i7, i8, p⟩ := h
  cases i8
  exact ⟨oc, el, ev, its, v0, v1, v2, v3, np, ne, n0, n1, n2, n3, mk, mt, mg, mp, mn, i1, i2, i3, i4, i6, p⟩
theorem r_bisLT {prog : Program} {w : World} {A : Around} {E : Value → Shared → Prop} {Q : Value → Shared → Prop} {s : Shared} {g : Heap} {p : Program} {loose : List PySem.Str} {mean : ExcName → Option Value} {mg mb : PySem.Str → Option Value} {L : Addr} {m : PySem.Str → Option Value} {news : List (Addr × Obj)}
   {a : Addr} {vals : List Value} {ns ks : List Int} {na : Nat} {x : Int} {t : Tok} (F : Fr g L s.heap m) (N : News g L s.heap news) (X : (lawTop.heap_39 w.params).In g) (T : Top p loose mean mg mb g) (ha : (a, listOf vals.toArray na) ∈ news) (hi : IntsAre vals ns) (hall : ∀ k, k ∈ ks → bisL ns k 8 0 ns.length = some (bT ns k) ∧ k.natAbs < 1000) (hx : x ∈ ks)
   (hlen : ns.length ≤ 20) (hA1 : A.handled = none) (hA2 : A.depth ≤ 340) (hA3 : A.units ≤ 450)
   (post : ∀ t' h' tk', Fr g L h' m → News g L h' news → Q (.int (bT ns x) t') { s with heap := h', toks := tk' }) : wpAny (model prog w) A (call (.ref 32) [.ref a, .int x t]) Q E s :=
  r_bisL F N X T ha hi (hall x hx).1 hlen (hall x hx).2 hA1 hA2 hA3 post

example : True := by
  k_with "exec For Name Call cons nil" => (k_here; (rename Fr _ _ _ _ => lF'); (with_unfolding_all refine For_R lF' (by rfl) (by rfl) ?_ PassesOwn.never))
  k_with "call builtin:list.append" => (k_here; k_dflt (refine app_K (by k_asm) (by k_asm) (by k_updF) (by assumption) ?_); intro _ _ _; (try k_sweep))
  k_with "call ref" => (k_here; k_dflt (first
    | (refine r_push (by k_asm) (by k_asm) (by k_asm) (by k_asm) (by k_mem) (by k_mem) (by k_updF) (by k_ne) (by k_ne) (by k_ne) (by assumption) rfl (Nat.le_of_ble_eq_true rfl) (Nat.le_of_ble_eq_true rfl) ?_; intro _ _ _ _; (try k_sweep))
    | (refine r_port (by k_asm) (by k_asm) (by k_asm) (by k_asm) (by assumption) rfl (Nat.le_of_ble_eq_true rfl) (Nat.le_of_ble_eq_true rfl) ?_; intro _ _ _ _ _; (try k_sweep))
    | (refine r_pop (by k_asm) (by k_asm) (by k_asm) (by k_asm) (by k_mem) (by k_mem) (by k_updF) (by k_ne) (by k_ne) (by k_ne) (by assumption) rfl (Nat.le_of_ble_eq_true rfl) (Nat.le_of_ble_eq_true rfl) ?_; intro _ _ _ _; (try k_sweep))
    | (refine r_parse (by k_asm) (by k_asm) (by k_asm) (by k_asm) (by assumption) (by k_mem) rfl (Nat.le_of_ble_eq_true rfl) (Nat.le_of_ble_eq_true rfl) ?_; intro _ _ _ _ _ _ _; k_extra "m_nw"; (try k_sweep))
    | (refine r_bisR (by k_asm) (by k_asm) (by k_asm) (by k_asm) (by k_mem) (.cons _ _ (.cons _ _ (.cons _ _ (.cons _ _ .nil)))) (by assumption) (Nat.le_of_ble_eq_true rfl) (by assumption) (Int.le_trans (by assumption) (show (3 : Int) ≤ ((4 : Nat) : Int) by decide)) (by assumption) rfl (Nat.le_of_ble_eq_true rfl) (Nat.le_of_ble_eq_true rfl) ?_; intro _ _ _ _ _; (try k_sweep))
    | (refine r_bisLT (by k_asm) (by k_asm) (by k_asm) (by k_asm) (by k_mem) (by assumption) (by assumption) (by assumption) (by assumption) rfl (Nat.le_of_ble_eq_true rfl) (Nat.le_of_ble_eq_true rfl) ?_; intro _ _ _ _ _; (try k_sweep))))
  k_with "FinA" => k_dflt (unfold LCg.FinA; intro _ _ _ _ _ zo; (with_reducible rename Dist _ => zdo); (have zd' := dist_newO zo zdo (by rfl)); clear zo zdo; (try dsimp only))
  k_with "m_all" => (first | exact List.forall_mem_nil _ | (refine List.forall_mem_cons.mpr (And.intro (by k_ne) ?_); k_extra "m_all"))
  k_with "m_steps" => (repeat' (first | (k_unfold; (try dsimp only)) | (k_end; wrow_close) | (walk1; (try dsimp only)) | (dsimp only; walk1) | (leave1; try dsimp only) | fail "no step"))
  k_with "m_mb" => (first | exact MBase.base | (apply MBase.set (by kernel_rfl); k_extra "m_mb"))
  k_with "m_norm" => (exact ⟨mNorm (by k_extra "m_mb") rfl, rfl⟩)
  trivial
abbrev OK := (PySem.Str → Option Value) → List (Addr × Obj) → Prop
def LedO (w : World) (ol a0 a1 a2 a3 c1 x dx pb fs : Addr) (k1 k2 k3 k4 t1 t3 : Tok) (ln : Int) (K : OK) : PO := fun oc el ev its v0 v1 v2 v3 np ne n0 n1 n2 n3 mk mt mg mp mn => Dist [el, ol, a3, a2, a1, a0, c1, x, dx, pb] ∧
  K (mSet [(PySem.Str.ofString "ends", some (.ref el)), (PySem.Str.ofString "k", mk), (PySem.Str.ofString "total", mt), (PySem.Str.ofString "group", mg), (PySem.Str.ofString "place", mp), (PySem.Str.ofString "number", mn), (PySem.Str.ofString "out", some (.ref ol)), (PySem.Str.ofString "lexer", some (.ref x))] fun _ => none)
    [(el, listOf ev.toArray ne), (ol, listOf #[.ref a0, .ref a1, .ref a2, .ref a3] 0), (a3, listOf v3.toArray n3), (a2, listOf v2.toArray n2), (a1, listOf v1.toArray n1), (a0, listOf v0.toArray n0), (c1, oc), (x, instObj 121 dx), (dx, lexDict w k1 k2 k3 k4 t1 t3 ln fs pb), (pb, listOf its.toArray np)]
def LedI (w : World) (ol a0 a1 a2 a3 c1 x dx pb fs el sl I0 : Addr) (k1 k2 k3 k4 t1 t3 : Tok) (ln : Int) (ev : List Value) (ne : Nat) (oc it : Obj) (mk : Option Value) (K : OK) : PI := fun tt tg mp mn tot grp stv its v0 v1 v2 v3 np ns n0 n1 n2 n3 =>
  K (mSet [(PySem.Str.ofString "total", some (.int tot tt)), (PySem.Str.ofString "group", some (.int grp tg)), (PySem.Str.ofString "place", mp), (PySem.Str.ofString "number", mn), (PySem.Str.ofString "ends", some (.ref el)), (PySem.Str.ofString "k", mk), (PySem.Str.ofString "out", some (.ref ol)), (PySem.Str.ofString "lexer", some (.ref x))] fun _ => none)
    [(sl, listOf stv.toArray ns), (I0, it), (el, listOf ev.toArray ne), (ol, listOf #[.ref a0, .ref a1, .ref a2, .ref a3] 0), (a3, listOf v3.toArray n3), (a2, listOf v2.toArray n2), (a1, listOf v1.toArray n1), (a0, listOf v0.toArray n0), (c1, oc), (x, instObj 121 dx), (dx, lexDict w k1 k2 k3 k4 t1 t3 ln fs pb), (pb, listOf its.toArray np)]
theorem c_struck {prog : Program} {w : World} {s : Shared} {h₀ : Heap} {E : Value → Shared → Prop} {Q : Value → Shared → Prop} (W : Wd w h₀) (st : h₀.StaysIn s.heap) {x dx pb fs el : Addr} {k1 k2 k3 k4 t1 t3 : Tok} {ln : Int} {np ne : Nat} {ev its : List Value} {a b c d : Int} {q : List Int} {r : O}
   (ex : s.heap.get? x = some (instObj 121 dx)) (ed : s.heap.get? dx = some (lexDict w k1 k2 k3 k4 t1 t3 ln fs pb)) (ep : s.heap.get? pb = some (listOf its.toArray np)) (hq : NumsAre its q) (ee : s.heap.get? el = some (listOf ev.toArray ne)) (he : IntsAre ev [a, b, c, d])
   (nx : h₀.get? x = none) (nd : h₀.get? dx = none) (npb : h₀.get? pb = none) (nel : h₀.get? el = none) (hdd : Dist [el, x, dx, pb]) (hql : q.length ≤ 100) (hr : outr 6 ⟨q, [], [], [], [], a, b, c, d⟩ = some r)
   (post : ∀ ol a0 a1 a2 a3 v0 v1 v2 v3 n0 n1 n2 n3 its' np' h' tk', IntsAre v0 r.o0 → IntsAre v1 r.o1 → IntsAre v2 r.o2 → IntsAre v3 r.o3 → Keeps s.heap h' [el, pb] → h'.get? ol = some (listOf #[.ref a0, .ref a1, .ref a2, .ref a3] 0) →
      h'.get? a0 = some (listOf v0.toArray n0) → h'.get? a1 = some (listOf v1.toArray n1) → h'.get? a2 = some (listOf v2.toArray n2) → h'.get? a3 = some (listOf v3.toArray n3) → (∀ y, y ∈ [ol, a3, a2, a1, a0] → s.heap.get? y = none) → NumsAre its' r.q → h'.get? pb = some (listOf its'.toArray np') → Q (.ref ol) { s with heap := h', toks := tk' }) :
   wpAny (model prog w) (AC 325 380) (call (.ref 183) [.ref x, .ref el]) Q E s := by
  revert W st ex ed ep hq ee he nx nd npb nel hdd hql hr post
  revert prog w s h₀ E Q x dx pb fs el k1 k2 k3 k4 t1 t3 ln np ne ev its a b c d q r
  refine @(all_eps28 (neP neI (neP neW (neP neS (neP neI (neP neI (neP neI (neP neI (neP neI (neP neI (neP neI (neP neI (neP neI (neP neI (neP neI (neP neI (neP neI (neP neI (neP neI (neP neI (neP neI (neP neI (neP neI (neP neI (neP neI (neP neI (neP neI (neP neI neO))))))))))))))))))))))))))) ?_)
  generalize @eps28 _ _ _ _ _ _ _ _ _ _ _ _ _ _ _ _ _ _ _ _ _ _ _ _ _ _ _ _ _ _ = zt
  generalize zt.1 = prog, zt.2.1 = w, zt.2.2.1 = s, zt.2.2.2.1 = h₀, zt.2.2.2.2.1 = E, zt.2.2.2.2.2.1 = Q, zt.2.2.2.2.2.2.1 = x, zt.2.2.2.2.2.2.2.1 = dx, zt.2.2.2.2.2.2.2.2.1 = pb, zt.2.2.2.2.2.2.2.2.2.1 = fs, zt.2.2.2.2.2.2.2.2.2.2.1 = el, zt.2.2.2.2.2.2.2.2.2.2.2.1 = k1, zt.2.2.2.2.2.2.2.2.2.2.2.2.1 = k2, zt.2.2.2.2.2.2.2.2.2.2.2.2.2.1 = k3, zt.2.2.2.2.2.2.2.2.2.2.2.2.2.2.1 = k4, zt.2.2.2.2.2.2.2.2.2.2.2.2.2.2.2.1 = t1, zt.2.2.2.2.2.2.2.2.2.2.2.2.2.2.2.2.1 = t3, zt.2.2.2.2.2.2.2.2.2.2.2.2.2.2.2.2.2.1 = ln, zt.2.2.2.2.2.2.2.2.2.2.2.2.2.2.2.2.2.2.1 = np, zt.2.2.2.2.2.2.2.2.2.2.2.2.2.2.2.2.2.2.2.1 = ne, zt.2.2.2.2.2.2.2.2.2.2.2.2.2.2.2.2.2.2.2.2.1 = ev, zt.2.2.2.2.2.2.2.2.2.2.2.2.2.2.2.2.2.2.2.2.2.1 = its, zt.2.2.2.2.2.2.2.2.2.2.2.2.2.2.2.2.2.2.2.2.2.2.1 = a, zt.2.2.2.2.2.2.2.2.2.2.2.2.2.2.2.2.2.2.2.2.2.2.2.1 = b, zt.2.2.2.2.2.2.2.2.2.2.2.2.2.2.2.2.2.2.2.2.2.2.2.2.1 = c, zt.2.2.2.2.2.2.2.2.2.2.2.2.2.2.2.2.2.2.2.2.2.2.2.2.2.1 = d, zt.2.2.2.2.2.2.2.2.2.2.2.2.2.2.2.2.2.2.2.2.2.2.2.2.2.2.1 = q, zt.2.2.2.2.2.2.2.2.2.2.2.2.2.2.2.2.2.2.2.2.2.2.2.2.2.2.2 = r
  clear zt
  intro W st ex ed ep hq ee he nx nd npb nel hdd hql hr post
  refine enterPC (args := ⟨[.ref x, .ref el], []⟩) W st (news := [(el, listOf ev.toArray ne), (x, instObj 121 dx), (dx, lexDict w k1 k2 k3 k4 t1 t3 ln fs pb), (pb, listOf its.toArray np)]) (binds := [(PySem.Str.ofString "lexer", .ref x), (PySem.Str.ofString "ends", .ref el)])
    (NewAt.cons ee nel (.cons ex nx (.cons ed nd (.cons ep npb .nil)))) (by k_is) (by k_is) (by decide) (BindsTo.of_eq rfl) rfl (by decide +kernel) ?_ rfl rfl rfl
  refine @(all_eps9 (neP neI (neP neI (neP neI (neP neI (neP neI (neP neI (neP neI (neP neI neI)))))))) ?_)
  generalize @eps9 _ _ _ _ _ _ _ _ _ _ _ = zt
  generalize zt.1 = g, zt.2.1 = h₁, zt.2.2.1 = tk, zt.2.2.2.1 = cells, zt.2.2.2.2.1 = p, zt.2.2.2.2.2.1 = loose, zt.2.2.2.2.2.2.1 = mean, zt.2.2.2.2.2.2.2.1 = mg, zt.2.2.2.2.2.2.2.2 = mb
  clear zt
  intro F N Y X T hg hl stg
  k_cells Y
  (try simp only [List.cons_append, List.nil_append] at N)
  have zd := dist_cell hl hdd rfl
  clear hl
  have F : Fr g _ h₁ (mSet [(PySem.Str.ofString "ends", some (.ref el)), (PySem.Str.ofString "lexer", some (.ref x))] fun _ => none) := F
  (with_reducible show wpAny _ _ _ _ _ _)
  k_fold
  k_extra "m_steps"
  (with_reducible rename_i oc0 hoc0 a0 _ a1 _ a2 _ a3 _ ol _ _ _ _ _ _ _ _ _ _ _ _ _)
  (with_reducible rename News _ _ _ _ => NN)
  (with_reducible rename Fr _ _ _ _ => FF)
  (rename IsRange _ _ _ _ _ _ _ _ => RR)
  (with_reducible rename Dist _ => zd0)
  try dsimp only
  refine LoopR.rangeK 6 FF NN rfl RR rfl (small_one (by decide) (by decide) (by decide) (by decide)) (by rw [rangeSize_nat]; rfl)
    (fun i K => InvO r i (LedO w ol a0 a1 a2 a3 (s.heap.objs.size + 1) x dx pb fs k1 k2 k3 k4 t1 t3 ln K)) (fun i K K' hk h => h.mono fun _ _ _ _ _ _ _ _ _ _ _ _ _ _ _ _ _ _ _ q => ⟨q.1, hk _ _ q.2⟩)
    ⟨oc0, _, el, ev, its, [], [], [], [], np, ne, 0, 0, 0, 0, _, _, _, _, _, ⟨q, [], [], [], [], a, b, c, d⟩, hoc0, .nil, .nil, .nil, .nil, he, hq, hql, hr, dist_front (pre := [ol, a3, a2, a1, a0, s.heap.objs.size + 1]) zd0, by k_extra "m_norm"⟩ (by k_subL) ?_ ?_
  · clear NN FF RR
    intro I0 i t h tk hi hJ
    obtain ⟨oc, vc, el', its', v0, v1, v2, v3, np', ne', n0, n1, n2, n3, mk, mt, mg, mp, mn, σa, σb, σc, σd, ta, tb, tc, td, r1, hoc, hd0, hd1, hin, hst, hall, hnext, zdo, F, N, o⟩ := hJ.open hi
    have zd := dist_new' o zdo rfl
    clear o zdo hJ
    (with_reducible show wpAny _ _ _ _ _ _)
    k_fold
    k_extra "m_steps"
    (with_reducible rename_i sl _ _ oc1 hoc1 _ _ _ _ _ _ _ _ _ _ _ _ _ _)
    (with_reducible rename News _ _ _ _ => NN)
    (with_reducible rename Fr _ _ _ _ => FF)
    (rename IsRange _ _ _ _ _ _ _ _ => RR)
    (with_reducible rename Dist _ => zd1)
    try dsimp only
    refine LoopR.rangeK σd.toNat FF NN rfl RR rfl (small_one (by decide) (by decide) (by omega) (by omega)) (by rw [rangeSize_nat]; omega)
      (fun j K => InvI [σa, σb, σc, σd] σd.toNat r1 j (LedI w ol a0 a1 a2 a3 (s.heap.objs.size + 1) x dx pb fs el' sl I0 k1 k2 k3 k4 t1 t3 ln [.int σa ta, .int σb tb, .int σc tc, .int σd td] ne' oc1 (itR ((i + 1 : Nat) : Int) (((6 : Nat) : Int) - ((i + 1 : Nat) : Int))) (some (.int (i : Int) t)) K)) (fun j K K' hk h => h.mono fun _ _ _ _ _ _ _ _ _ _ _ _ _ _ _ _ _ _ q => hk _ _ q)
      (hin _ _ _ _ _ _ (by k_extra "m_norm")) (by k_subL) ?_ ?_
    · clear NN FF RR hin hall hnext
      intro I1 j t' h tk hj hJ
      obtain ⟨tt, tg, vp, vn, stv, its₁, u0, u1, u2, u3, np₁, ns₁, m0, m1, m2, m3, n, tot, grp, gg, tn, hgn, hbis, hl1, hM0, hM1, hM2, hM3, hM4, hnt, hg0, hg1, hgg0, hgg3, hj3, hit0, hit1, hit2, hit3, hno, F, N, o⟩ := hJ.open hj (by omega)
      have zd := dist_new' o zd1 rfl
      clear o zd1 hJ
      (with_reducible show wpAny _ _ _ _ _ _)
      k_fold
      k_extra "m_steps"
      · exact RNx.intro 2 (by with_reducible assumption) (by with_reducible assumption) (by with_reducible assumption) (by rfl) (by rfl) (hit0 (by assumption) (by assumption) _ _ _ _ _ _ _ _ _ _ (by k_extra "m_norm"))
      · exact RNx.intro 2 (by with_reducible assumption) (by with_reducible assumption) (by with_reducible assumption) (by rfl) (by rfl) (hit1 (by assumption) (by assumption) _ _ _ _ _ _ _ _ _ _ (by k_extra "m_norm"))
      · exact RNx.intro 2 (by with_reducible assumption) (by with_reducible assumption) (by with_reducible assumption) (by rfl) (by rfl) (hit2 (by assumption) (by assumption) _ _ _ _ _ _ _ _ _ _ (by k_extra "m_norm"))
      · exact RNx.intro 2 (by with_reducible assumption) (by with_reducible assumption) (by with_reducible assumption) (by rfl) (by rfl) (hit3 (by assumption) (by assumption) _ _ _ _ _ _ _ _ _ _ (by k_extra "m_norm"))
      · exact RNx.intro 2 (by with_reducible assumption) (by with_reducible assumption) (by with_reducible assumption) (by rfl) (by rfl) (hno (by assumption) _ _ _ _ _ _ _ (by k_extra "m_norm"))
    · clear NN FF RR hin
      intro h tk hJ
      obtain ⟨tt, tg, vp, vn, stv, its₁, u0, u1, u2, u3, np₁, ns₁, m0, m1, m2, m3, tot, grp, iu0, iu1, iu2, iu3, ist, iq, hql₁, F, N⟩ := hJ.done
      clear hJ
      try dsimp only
      k_extra "m_steps"
      (with_reducible rename Dist _ => zd2)
      exact RNx.introS (frIte (by with_reducible assumption)) (by with_reducible assumption) (hnext _ _ _ _ _ _ _ iu0 iu1 iu2 iu3 iq hql₁ (by assumption) _ _ _ _ _ _ _ _ _ _ _ _ _ _ hoc1 ⟨dist_sub zd2 (by repeat (first | exact List.Sublist.slnil | apply List.Sublist.cons₂ | apply List.Sublist.cons)), by k_extra "m_norm"⟩) (by k_mem) (by k_subL) (by k_extra "m_all")
  · clear NN FF RR
    intro h tk hJ
    obtain ⟨oc, el', ev', its', v0, v1, v2, v3, np', ne', n0, n1, n2, n3, mk, mt, mg, mp, mn, iv0, iv1, iv2, iv3, iq, zd, F, N⟩ := hJ.done
    clear hJ
    try dsimp only
    k_extra "m_steps"
    (with_reducible rename News _ _ _ _ => NN)
    (with_reducible rename Fr _ _ _ _ => FF)
    exact post ol a0 a1 a2 a3 v0 v1 v2 v3 _ _ _ _ _ _ _ _ iv0 iv1 iv2 iv3 (keeps_mid (keeps_mid (keeps_of FF hg) ex (NN.get (by k_mem))) ed (NN.get (by k_mem))) (NN.get (by k_mem)) (NN.get (by k_mem)) (NN.get (by k_mem)) (NN.get (by k_mem)) (NN.get (by k_mem)) (fun y hy => fresh_list (ys := [ol, a3, a2, a1, a0, s.heap.objs.size + 1]) (rest := [x, dx, pb]) hg (fun p hp => NN p (.tail _ hp)) rfl zd0 y (List.mem_append_left [s.heap.objs.size + 1] hy)) iq (NN.get (by k_mem))
end Mine
end

section
open PySem PySem.W PyProof.Rows PySem.Calls
set_option maxRecDepth 100000
set_option maxHeartbeats 4000000
namespace Mine
example : True := by
  w_top off
  k_with_none
  trivial
example : True := by first | walk1 | trivial
def LoopG (prog : Program) (w : World) (A : Around) (env : Env) (target : Expr) (body : List Stmt) (Q : Flow → Shared → Prop) (v : Value) (s : Shared) : Prop :=
  wpAny (model prog w) A (pyIter v) (fun it s₂ => codeAny (model prog w) A (.forLoop target it body [] env) (fun r s' => match r with | .ok f => Q f s' | .error e => cameBackBy (model prog w) A env (fun _ _ => False) e s') s₂) (fun _ _ => False) s
theorem For_G {prog : Program} {w : World} {A : Around} {s : Shared} {env : Env} {target : Expr} {body : List Stmt} {Q : Flow → Shared → Prop} {pos : Pos} {iter : Expr}
    (h : wpAny (model prog w) A (eval iter env) (fun xv s₁ => LoopG prog w A env target body Q xv s₁) (fun _ _ => False) s)
    (hs : ∀ x, foldedSetIterable iter env x = pure x := by intro _; rfl) : wpAny (model prog w) A (exec (.For target iter body [] pos) env) Q (fun _ _ => False) s := wpAny_For h hs
/-- what a turn of a loop over a range begins with, the target not yet set -/
inductive TurnG (h₀ : Heap) (L : Addr) (h : Heap) (I : Addr) (it : Obj) (m : PySem.Str → Option Value) (news : List (Addr × Obj)) : Prop
  | mk (F : Fr h₀ L h m) (N : News h₀ L h ((I, it) :: news)) (o : ∀ p ∈ news, p.1 ≠ I) : TurnG h₀ L h I it m news
theorem LoopG.rangeK {prog : Program} {w : World} {A : Around} {s : Shared} {env : Env} {h₀ : Heap} {target : Expr} {body : List Stmt} {Q : Flow → Shared → Prop} {r : Addr} {b₀ : Int} {t₀ u₀ v₀ : Tok} {m₀ : PySem.Str → Option Value} {news news₀ : List (Addr × Obj)} {L : Addr} (n : Nat)
    (F : Fr h₀ L s.heap m₀) (N : News h₀ L s.heap news) (hr : IsRange s.heap r 0 b₀ 1 t₀ u₀ v₀) (hh : A.handled = none) (hsmall : Builtin.Range.small 0 b₀ 1 = true) (hn : Builtin.Range.rangeSize 0 b₀ 1 = (n : Int))
    (hgo : ∀ it v, letOwnedTupleGo target it v = pure ())
    (J : Nat → ((PySem.Str → Option Value) → List (Addr × Obj) → Prop) → Prop) (mono : ∀ i K K', (∀ m n, K m n → K' m n) → J i K → J i K') (hJ : J 0 fun m n => m = m₀ ∧ n = news₀) (sub : SubL news₀ news)
    (turn : ∀ I i t h tk, i < n → J i (TurnG h₀ L h I (itR ((i + 1 : Nat) : Int) ((n : Int) - ((i + 1 : Nat) : Int)))) →
      wpAny (model prog w) A (assign target env (.int (i : Int) t)) (fun _ s₂ => wpAny (model prog w) A (execs body env) (fun f s₃ => match f with
        | .next | .cont => RNx h₀ L s I (itR ((i + 1 : Nat) : Int) ((n : Int) - ((i + 1 : Nat) : Int))) (J (i + 1)) s₃
        | .brk => Q .next s₃
        | .ret v => Q (.ret v) s₃) (fun _ _ => False) s₂) (fun _ _ => False) { s with heap := h, toks := tk })
    (done : ∀ h tk, J n (Done h₀ L h) → Q .next { s with heap := h, toks := tk }) :
    LoopG prog w A env target body Q (.ref r) s := by
  have N0 : News h₀ L s.heap news₀ := fun p hp => N p (sub.mem p hp)
  refine wpAny_pyIter_range hr hsmall ?_
  have never : ∀ {α : Type} {t : Sem α} {Q : α → Shared → Prop} {E : Value → Shared → Prop} {s : Shared}, wpAny (model prog w) A t Q (fun _ _ => False) s → wpAny (model prog w) A t Q E s := fun h => wpAny_mono h (fun _ _ x => x) fun _ _ x => x.elim
  have hlt : ∀ p ∈ news₀, p.1 < s.heap.objs.size := fun p hp => Heap.lt_size (N0 p hp).1
  have z : ∀ i : Nat, (0 : Int) + (i : Int) = (i : Int) := fun i => Int.zero_add _
  refine codeAny_forLoop_any (fun k s' => ∃ (h : Heap) (tk : Nat) (m₁ : PySem.Str → Option Value) (news₁ : List (Addr × Obj)) (i : Nat), s' = { s with heap := h, toks := tk } ∧ Fr h₀ L h m₁ ∧ News h₀ L h ((s.heap.objs.size, itR (i : Int) ((n : Int) - (i : Int))) :: news₁) ∧ (∀ p ∈ news₁, p.1 ≠ s.heap.objs.size) ∧ (J i fun m n => m = m₁ ∧ n = news₁) ∧ i ≤ n ∧ k = n + 1 - i) ?_ (n + 1) ?_
  · rintro k s' ⟨h, tk, m₁, news₁, i, rfl, F₁, N₁, hoff, hJ₁, hi, rfl⟩
    have hit := N₁ _ (.head _)
    by_cases hlt' : i < n
    · refine wpAny_pyNext_range_item (x := (i : Int)) (left := (n : Int) - (i : Int)) (step := 1) hit.1 (by omega) fun h' hit' hs' => ?_
      have e1 : (i : Int) + 1 = ((i + 1 : Nat) : Int) := by omega
      have e2 : (n : Int) - (i : Int) - 1 = (n : Int) - ((i + 1 : Nat) : Int) := by omega
      rw [e1, e2] at hit'
      have F₂ := F₁.change hs' hit.2.1 hit.2.2
      have N₂ : News h₀ L h' ((s.heap.objs.size, itR ((i + 1 : Nat) : Int) ((n : Int) - ((i + 1 : Nat) : Int))) :: news₁) := news_set (pre := []) N₁ (fun p hp => nomatch hp) hoff hs' hit'
      refine wpAny_of_eq (hgo _ _) ?_
      refine never (wpAny_mono (turn s.heap.objs.size i tk h' _ hlt' (mono _ _ _ (fun m n q => by obtain ⟨rfl, rfl⟩ := q; exact .mk F₂ N₂ hoff) hJ₁)) (fun _ s₂ h₂ => never (wpAny_mono h₂ (fun f s₃ hf => ?_) fun _ _ x => x)) fun _ _ x => x)
      have fin : RNx h₀ L s s.heap.objs.size (itR ((i + 1 : Nat) : Int) ((n : Int) - ((i + 1 : Nat) : Int))) (J (i + 1)) s₃ → ∃ m, m < n + 1 - i ∧ ∃ (h : Heap) (tk : Nat) (m₁ : PySem.Str → Option Value) (news₁ : List (Addr × Obj)) (j : Nat), s₃ = { s with heap := h, toks := tk } ∧ Fr h₀ L h m₁ ∧ News h₀ L h ((s.heap.objs.size, itR (j : Int) ((n : Int) - (j : Int))) :: news₁) ∧ (∀ p ∈ news₁, p.1 ≠ s.heap.objs.size) ∧ (J j fun m n => m = m₁ ∧ n = news₁) ∧ j ≤ n ∧ m = n + 1 - j := by
        rintro ⟨h3, tk3, m3, news3, rfl, F3, N3, o3, j3⟩
        exact ⟨n + 1 - (i + 1), by omega, h3, tk3, m3, news3, i + 1, rfl, F3, N3, o3, j3, hlt', rfl⟩
      cases f with
      | next => exact fin hf
      | cont => exact fin hf
      | brk => exact hf
      | ret v => exact hf
    · obtain rfl : i = n := by omega
      refine wpAny_pyNext_range_end (x := (i : Int)) (left := (i : Int) - (i : Int)) (step := 1) hh hit.1 (by omega) fun h' hb => wpAny_execs_nil ?_
      exact done h' _ (mono _ _ _ (fun m n q => by
        obtain ⟨rfl, rfl⟩ := q
        exact .mk ⟨F₁.ns.at' fun o e => hb _ _ (Ne.symm hit.2.1) e, fun b o e => hb _ _ (fun q => by rw [q, hit.2.2] at e; cases e) (F₁.keep _ _ e), F₁.above⟩ fun p hp => ⟨hb _ _ (hoff p hp) (N₁ p (.tail _ hp)).1, (N₁ p (.tail _ hp)).2⟩) hJ₁)
  · have hz : Builtin.Range.rangeSize 0 b₀ 1 = (n : Int) - ((0 : Nat) : Int) := by rw [hn]; simp
    refine ⟨_, _, m₀, news₀, 0, rfl, F.push _, ?_, fun p hp => Nat.ne_of_lt (hlt p hp), hJ, Nat.zero_le _, rfl⟩
    rw [← hz]
    exact N0.push F _ rfl
/-- a step that gives an int and changes no object -/
def IntAt (n : Int) (s : Shared) (v : Value) (s' : Shared) : Prop := ∃ u tk, v = .int n u ∧ s' = { s with toks := tk }
theorem IntAt.mk {n k : Int} {u : Tok} {s : Shared} {tk : Nat} (e : k = n) : IntAt n s (.int k u) { s with toks := tk } := ⟨u, tk, by rw [e], rfl⟩
theorem cutInt {prog : Program} {w : World} {A : Around} {E : Value → Shared → Prop} {s : Shared} {Q : Value → Shared → Prop} {t : Sem Value} (n : Int) (h : wpAny (model prog w) A t (IntAt n s) E s) (k : ∀ u tk, Q (.int n u) { s with toks := tk }) : Held (wpAny (model prog w) A t Q E s) :=
  wpAny_mono h (fun v s' x => by obtain ⟨u, tk, rfl, rfl⟩ := x; exact k u tk) fun _ _ y => y
end Mine
end

section
open PySem PySem.W PyProof.Rows PySem.Calls PyProof.Rows.LCg
set_option maxRecDepth 100000
set_option maxHeartbeats 4000000
namespace Mine
example : True := by
  w_top off
  k_with_none
  trivial
example : True := by first | walk1 | trivial
section
variable {prog : Program} {w : World} {A : Around} {E : Value → Shared → Prop} {s : Shared} {h₀ : Heap} {L : Addr} {m : PySem.Str → Option Value} {env : Env}
/-- the block of a list comp with a pair target whose element changes no object -/
theorem block_Z {elt iter : Expr} {x x₂ : PySem.Str} {px px₂ tp : Pos} {tk} {scope : Scope} {cl : List (PySem.Str × Addr)} {pos : Pos} {s₂ : Shared} {I : Addr} {fp wr : List Addr} {n : Nat} {Pt : Nat → Array Value → Prop} {St : Nat → Heap → Prop} {Mid : Nat → Addr → Heap → Prop} {news : List (Addr × Obj)}
    {Y : Nat → Value → Prop} {RR : Value → Addr → Result → Shared → Prop}
    (W : WalksU prog w A I fp wr n Pt St Mid) (hsz : n ≤ sizeLine) (hPt : ∀ i vals, Pt i vals → ∃ v₁ v₂, vals = #[v₁, v₂])
    (hcell : ∀ y ∈ scope.names, y.2 ≠ .cell) (hkind : scope.kind = .function) (hx : scope.names.lookup x = some .local) (hx₂ : scope.names.lookup x₂ = some .local) (hxx : x ≠ x₂) (hh : A.handled = none) (hst : St 0 s₂.heap) (hfp : ∀ b ∈ fp, b < s₂.heap.objs.size)
    (F : Fr h₀ L s₂.heap m) (N : News h₀ L s₂.heap news) (hL : L ∉ wr) (h0w : ∀ b ∈ wr, h₀.get? b = none) (off : ∀ p ∈ news, p.1 ∉ wr)
    (R : ∀ i v₁ v₂ C oC m₂ h tk (E' : Value → Shared → Prop), i < n → Pt i #[v₁, v₂] → NsObj oC m₂ → m₂ x = some v₁ → m₂ x₂ = some v₂ → Fr h₀ L h m → News h₀ L h ((C, oC) :: news) →
       wpAny (model prog w) A (eval elt (compEnvC scope cl C env)) (fun y s₄ => (∃ tk', s₄ = { s₂ with heap := h, toks := tk' }) ∧ Y i y) E' { s₂ with heap := h, toks := tk })
    (hRR : ∀ D C h tk m' ys, Fr h₀ L h m → News h₀ L h ((D, lst ys) :: news) → h.Ns C m' → h₀.get? C = none → h₀.get? D = none → C ≠ L → D ≠ L → C ≠ D → (∀ p ∈ news, p.1 ≠ C) → (∀ p ∈ news, p.1 ≠ D) → ys.length = n → (∀ j y, ys[j]? = some y → Y j y) → RR (.ref D) C (.ok .next) { s₂ with heap := h, toks := tk }) :
    wpAny (model prog w) A (newList []) (fun acc s₃ => wpAny (model prog w) A (newFunctionEnv scope env.globals cl [] env.qual none .none (some env)) (fun cenv s₄ =>
      codeAny (model prog w) A (.compStart (.ListComp elt [⟨.Tuple [.Name x px, .Name x₂ px₂] tk tp, iter, [], 0⟩] scope pos) 0 (.ref I) acc { cenv with scope := relabel scope env }) (RR acc cenv.locals) s₄) E s₃) E s₂ := by
  refine wpAny_newObj_type (wpAny_newFunctionEnv hcell (by intro y hy; simp at hy) (fun h₁ hns₁ hsb₁ => ?_) hkind)
  dsimp only at hns₁ hsb₁ ⊢
  generalize hH2 : s₂.heap.push { cls := .type "list", dict := none, data := .seq ([] : List Value).toArray } = H2 at hns₁ hsb₁ ⊢
  have hC : H2.objs.size = s₂.heap.objs.size + 1 := by rw [← hH2, Heap.size_push]
  have hDC : s₂.heap.objs.size ≠ H2.objs.size := by rw [hC]; exact Nat.ne_of_lt (Nat.lt_succ_self _)
  have below : ∀ b, b < s₂.heap.objs.size → b ≠ H2.objs.size ∧ b ≠ s₂.heap.objs.size := fun b hb => ⟨by rw [hC]; exact Nat.ne_of_lt (Nat.lt_succ_of_lt hb), Nat.ne_of_lt hb⟩
  have hDf : s₂.heap.objs.size ∉ fp := fun hm => Nat.lt_irrefl _ (hfp _ hm)
  have hCf : H2.objs.size ∉ fp := fun hm => by have := hfp _ hm; rw [hC] at this; exact Nat.lt_irrefl _ (Nat.lt_of_succ_lt this)
  have hDw : s₂.heap.objs.size ∉ wr := fun hm => hDf (W.sub _ hm)
  have hCw : H2.objs.size ∉ wr := fun hm => hCf (W.sub _ hm)
  have old : ∀ b o, s₂.heap.get? b = some o → h₁.get? b = some o := fun b o e => hsb₁.extBut b o (below b (Heap.lt_size e)).1 (Heap.get?_push_of_some _ (hH2 ▸ Heap.get?_push_of_some _ e))
  have hacc : h₁.get? s₂.heap.objs.size = some (lst []) := hsb₁.extBut _ _ hDC (Heap.get?_push_of_some _ (hH2 ▸ Heap.get?_push_size _ rfl))
  have hst₁ : St 0 h₁ := W.frame _ _ _ hst fun b _ o e => old b o e
  have fresh : ∀ a, s₂.heap.objs.size ≤ a → s₂.heap.get? a = none := fun a ha => by
    cases e : s₂.heap.get? a with
    | none => rfl
    | some o' => exact absurd (Heap.lt_size e) (Nat.not_lt.mpr ha)
  have fresh₀ : ∀ a, s₂.heap.objs.size ≤ a → h₀.get? a = none := fun a ha => by
    cases e : h₀.get? a with
    | none => rfl
    | some o' => have := F.keep a o' e; rw [fresh a ha] at this; cases this
  have hD₀ : h₀.get? s₂.heap.objs.size = none := fresh₀ _ (Nat.le_refl _)
  have hC₀ : h₀.get? H2.objs.size = none := fresh₀ _ (by rw [hC]; exact Nat.le_succ _)
  have hLlt : L < s₂.heap.objs.size := F.ns.lt
  have hDL : s₂.heap.objs.size ≠ L := Ne.symm (below L hLlt).2
  have hCL : H2.objs.size ≠ L := Ne.symm (below L hLlt).1
  have hnC : ∀ p ∈ news, p.1 ≠ H2.objs.size := fun p hp => (below _ (Heap.lt_size (N p hp).1)).1
  have hnD : ∀ p ∈ news, p.1 ≠ s₂.heap.objs.size := fun p hp => (below _ (Heap.lt_size (N p hp).1)).2
  have frw : ∀ {h h' : Heap}, Fr h₀ L h m → (∀ b o, b ∉ wr → h.get? b = some o → h'.get? b = some o) → Fr h₀ L h' m := fun F hk => ⟨F.ns.at' fun o e => hk L o hL e, fun b o e => hk b o (fun hm => by rw [h0w b hm] at e; cases e) (F.keep b o e), F.above⟩
  have nww : ∀ {h h' : Heap}, News h₀ L h news → (∀ b o, b ∉ wr → h.get? b = some o → h'.get? b = some o) → News h₀ L h' news := fun N hk p hp => ⟨hk _ _ (off p hp) (N p hp).1, (N p hp).2⟩
  have loop : ∀ s₃ : Shared, s₃ = { s₂ with heap := h₁, toks := s₂.toks + ([] : List (PySem.Str × Value)).length } →
      codeAny (model prog w) A (.compLoop (.ListComp elt [⟨.Tuple [.Name x px, .Name x₂ px₂] tk tp, iter, [], 0⟩] scope pos) 0 (.ref I) (.ref s₂.heap.objs.size) (compEnvC scope cl H2.objs.size env))
        (RR (.ref s₂.heap.objs.size) H2.objs.size) s₃ := by
    rintro s₃ rfl
    refine LCp.codeAny_compLoop_pair
      (fun k s' => ∃ (h' : Heap) (tk i : Nat) (ys : List Value) (m' : PySem.Str → Option Value), s' = { s₂ with heap := h', toks := tk } ∧ i ≤ n ∧ k = n + 1 - i ∧ ys.length = i ∧ (∀ j y, ys[j]? = some y → Y j y) ∧ St i h' ∧ Fr h₀ L h' m ∧ h'.Ns H2.objs.size m' ∧ News h₀ L h' news ∧ h'.get? s₂.heap.objs.size = some (lst ys)) ?_ (n + 1)
      ⟨h₁, _, 0, [], _, rfl, Nat.zero_le _, rfl, rfl, (by intro j y e; simp at e), hst₁, F.keeps old, hns₁, fun p hp => ⟨old _ _ (N p hp).1, (N p hp).2⟩, hacc⟩
    rintro k s' ⟨h', tk, i, ys, m', rfl, hi, rfl, hyl, hY, hst', F', hn', N', hD'⟩
    by_cases hlt : i < n
    · refine W.item i _ _ _ hlt hst' fun T vals h₂ tk₂ hPv hT hMid hk₂ => ?_
      obtain ⟨v₁, v₂, rfl⟩ := hPt i _ hPv
      refine W.go _ _ _ i T _ _ _ hMid fun h₃ hst₃ hk₃ => ?_
      have hT₃ : h₃.IsTuple T #[v₁, v₂] := hT.at fun o e => hk₃ T o (W.apart i T _ hMid) e
      have hk : ∀ b o, b ∉ wr → h'.get? b = some o → h₃.get? b = some o := fun b o hb e => hk₃ b o hb (hk₂ b o hb e)
      refine assign_Tuple_tuple hh hT₃ rfl rfl fun h₅ he => ?_
      have he' : ∀ b o, h₃.get? b = some o → h₅.get? b = some o := fun b o e => he b o (Nat.ne_of_lt (Heap.lt_size e)) e
      refine assignInOrder_cons (wpAny_assign_Name (wpAny_storeName_local (lookup_relabel_local hx) ((hn'.at' fun o e => hk _ o hCw e).at' fun o e => he' _ o e) (fun h₆ hn₆ hs₆ => ?_) (by simp [compEnvC, relabel, hkind])))
      refine assignInOrder_cons (wpAny_assign_Name (wpAny_storeName_local (lookup_relabel_local hx₂) hn₆ (fun h₇ hn₇ hs₇ => ?_) (by simp [compEnvC, relabel, hkind])))
      refine assignInOrder_nil ?_
      have old7 : ∀ b o, b ≠ H2.objs.size → h₃.get? b = some o → h₇.get? b = some o := fun b o hb e => hs₇.extBut b o hb (hs₆.extBut b o hb (he' b o e))
      have hst₇ : St (i + 1) h₇ := W.frame _ _ _ hst₃ fun b hb o e => old7 b o (fun q => hCf (by have q' : b = H2.objs.size := q; rw [← q']; exact hb)) e
      obtain ⟨oC, heC, hoC⟩ := ns_obj hn₇
      have F₇ : Fr h₀ L h₇ m := (((frw F' hk).keeps he').change hs₆ hCL hC₀).change hs₇ hCL hC₀
      have N₇ : News h₀ L h₇ news := fun p hp => ⟨old7 _ _ (hnC p hp) (nww N' hk p hp).1, (N' p hp).2⟩
      have D₇ : h₇.get? s₂.heap.objs.size = some (lst ys) := old7 _ _ hDC (hk _ _ hDw hD')
      refine wpAny_mono (R i v₁ v₂ H2.objs.size oC _ h₇ _ _ hlt hPv hoC (by simp [hxx]) (by simp) F₇ (fun p hp => ?_)) (fun y s₄ h₄ => ?_) fun _ _ e => e
      · rcases List.mem_cons.mp hp with rfl | hp
        · exact ⟨heC, hCL, hC₀⟩
        · exact N₇ p hp
      · obtain ⟨⟨tk₄, rfl⟩, hy⟩ := h₄
        refine append_at (hsz := by show ys.toArray.size ≤ sizeLine; rw [List.size_toArray, hyl]; exact Nat.le_trans hi hsz) D₇ fun h₈ hs₈ hD₈ => ?_
        refine ⟨n + 1 - (i + 1), by omega, h₈, tk₄, i + 1, ys ++ [y], _, rfl, hlt, rfl, by rw [List.length_append, List.length_singleton, hyl], ?_, W.frame _ _ _ hst₇ fun b hb o e => hs₈.extBut b o (fun q => hDf (q ▸ hb)) e, F₇.change hs₈ hDL hD₀, hn₇.sameBut hs₈ (Ne.symm hDC), fun p hp => ⟨hs₈.extBut _ _ (hnD p hp) (N₇ p hp).1, (N₇ p hp).2⟩, hD₈.trans (congrArg some (lst_snoc ys y))⟩
        intro j y' e
        by_cases hj : j < ys.length
        · exact hY j y' (by rwa [List.getElem?_append_left hj] at e)
        · rw [List.getElem?_append_right (by omega)] at e
          have hj' : j = ys.length := by
            have := (List.getElem?_eq_some_iff.mp e).1
            simp at this; omega
          subst hj'
          simp at e
          subst e
          rw [hyl]; exact hy
    · obtain rfl : i = n := Nat.le_antisymm hi (Nat.not_lt.mp hlt)
      refine W.done _ _ _ hst' fun h₂ tk₂ hk₂ => ?_
      refine hRR _ _ h₂ tk₂ _ ys (frw F' hk₂) (fun p hp => ?_) (hn'.at' fun o e => hk₂ _ o hCw e) hC₀ hD₀ hCL hDL (Ne.symm hDC) hnC hnD hyl hY
      rcases List.mem_cons.mp hp with rfl | hp
      · exact ⟨hk₂ _ _ hDw hD', hDL, hD₀⟩
      · exact nww N' hk₂ p hp
  exact codeAny_compStart_list (loop _ rfl) (W.self 0 _ _ _ hst₁ (loop _ rfl))
def SrcZ (prog : Program) (w : World) (A : Around) (h₀ : Heap) (L : Addr) (m : PySem.Str → Option Value) (env : Env) (elt : Expr) (x x₂ y : PySem.Str) (scope : Scope) (cl : List (PySem.Str × Addr)) (Q : Flow → Shared → Prop) (xv : Value) (s₁ : Shared) : Prop :=
  ∃ (I : Addr) (fp wr : List Addr) (n : Nat) (Pt : Nat → Array Value → Prop) (St : Nat → Heap → Prop) (Mid : Nat → Addr → Heap → Prop) (news : List (Addr × Obj)) (Y : Nat → Value → Prop), xv = .ref I ∧ WalksU prog w A I fp wr n Pt St Mid ∧ n ≤ sizeLine ∧ (∀ i vals, Pt i vals → ∃ v₁ v₂, vals = #[v₁, v₂]) ∧ A.handled = none ∧ St 0 s₁.heap ∧ (∀ b ∈ fp, b < s₁.heap.objs.size) ∧
    Fr h₀ L s₁.heap m ∧ News h₀ L s₁.heap news ∧ L ∉ wr ∧ (∀ b ∈ wr, h₀.get? b = none) ∧ (∀ p ∈ news, p.1 ∉ wr) ∧
    (∀ i v₁ v₂ C oC m₂ h tk (E' : Value → Shared → Prop), i < n → Pt i #[v₁, v₂] → NsObj oC m₂ → m₂ x = some v₁ → m₂ x₂ = some v₂ → Fr h₀ L h m → News h₀ L h ((C, oC) :: news) →
       wpAny (model prog w) A (eval elt (compEnvC scope cl C env)) (fun y s₄ => (∃ tk', s₄ = { s₁ with heap := h, toks := tk' }) ∧ Y i y) E' { s₁ with heap := h, toks := tk }) ∧
    (∀ D h tk ys, Fr h₀ L h (fun z => if z = y then some (.ref D) else m z) → News h₀ L h ((D, lst ys) :: news) → (∀ p ∈ news, p.1 ≠ D) → ys.length = n → (∀ j v, ys[j]? = some v → Y j v) → Q .next { s₁ with heap := h, toks := tk })
theorem Assign_ListComp_Z {elt iter : Expr} {x x₂ y : PySem.Str} {px px₂ tp py : Pos} {tk} {scope : Scope} {cl : List (PySem.Str × Addr)} {pos spos : Pos} {Q : Flow → Shared → Prop} (F₀ : Fr h₀ L s.heap m) (hLe : env.locals = L)
    (hsw : swapsWith (.ListComp elt [⟨.Tuple [.Name x px, .Name x₂ px₂] tk tp, iter, [], 0⟩] scope pos) (some (.Name y py)) spos.line env = pure true)
    (hclos : closureFor scope env = pure cl) (hcell : ∀ z ∈ scope.names, z.2 ≠ .cell) (hkind : scope.kind = .function)
    (hnames : ∀ z ∈ scope.names, z.2 = .local → scope.names.lookup z.1 = some .local) (hx : scope.names.lookup x = some .local) (hx₂ : scope.names.lookup x₂ = some .local) (hxx : x ≠ x₂)
    (hy : env.kindOf y = some .local) (hp : (env.scope.kind == .class || (env.scope.kind == .module && env.locals != env.globals)) = false)
    (h : wpAny (model prog w) A (eval iter env) (SrcZ prog w A h₀ L m env elt x x₂ y scope cl Q) E s)
    (hs : ∀ x, foldedSetIterable iter env x = pure x := by intro _; rfl) :
    wpAny (model prog w) A (exec (.Assign [.Name y py] (.ListComp elt [⟨.Tuple [.Name x px, .Name x₂ px₂] tk tp, iter, [], 0⟩] scope pos) spos) env) Q E s := by
  subst hLe
  rw [exec_Assign_Name_used _ _ _ _ hsw]
  refine wpAny_bind (wpAny_standAt (wpAny_bind ?_))
  show wpAny _ A (do let _ ← comprehension (.ListComp elt [⟨.Tuple [.Name x px, .Name x₂ px₂] tk tp, iter, [], 0⟩] scope pos) scope env _ (newList []) false (eval iter env) (some (assign (.Name y py) env))) _ _ s
  refine wpAny_bind (wpAny_mono (wpAny_comprehension_free (use := some (assign (.Name y py) env)) (Q := fun _ s' => Q .next s') rfl hs hclos hkind hnames
    (wpAny_mono h (fun xv s₁ h₁ => ?_) fun _ _ e => e)) (fun _ s' hq => wpAny_pure (wpAny_pure hq)) fun _ _ e => e)
  obtain ⟨I, fp, wr, n, Pt, St, Mid, news, Y, rfl, W, hsz, hPt, hh, hst, hfp, F, N, hL, h0w, off, R, fin⟩ := h₁
  refine W.self 0 _ _ _ hst ?_
  refine block_Z W hsz hPt hcell hkind hx hx₂ hxx hh hst hfp F N hL h0w off R ?_
  intro D C h' tk m' ys F' N' hn hC₀ hD₀ hCL hDL hCD hnC hnD hyl hY
  show wpAny _ A (assign (.Name y py) env (.ref D)) _ _ _
  refine wpAny_assign_Name (wpAny_storeName_local hy F'.ns (fun h₂ hn₂ hs₂ => ?_) hp)
  have hL₀ : h₀.get? env.locals = none := Heap.get?_none_of_le F'.above
  have F₂ : Fr h₀ env.locals h₂ (fun z => if z = y then some (.ref D) else m z) := ⟨hn₂, fun b o e => hs₂.extBut b o (fun q => by rw [q, hL₀] at e; cases e) (F'.keep b o e), F'.above⟩
  refine ⟨m', hn.sameBut hs₂ hCL, fun h'' hs'' => fin D h'' _ ys (F₂.change hs'' hCL hC₀) (fun p hp => ?_) hnD hyl hY⟩
  have z : h₂.get? p.1 = some p.2 := hs₂.extBut _ _ (N' p hp).2.1 (N' p hp).1
  refine ⟨hs''.extBut _ _ ?_ z, (N' p hp).2⟩
  rcases List.mem_cons.mp hp with rfl | hp
  · exact Ne.symm hCD
  · exact hnC p hp
theorem SrcZ.zip {elt : Expr} {x x₂ y : PySem.Str} {scope : Scope} {cl : List (PySem.Str × Addr)} {Q : Flow → Shared → Prop} {l1 l2 : Addr} {xs ys : List Value} {n1 n2 : Nat} {news : List (Addr × Obj)} (hh : A.handled = none) (F : Fr h₀ L s.heap m) (N : News h₀ L s.heap news) (hm1 : (l1, listOf xs.toArray n1) ∈ news) (hm2 : (l2, listOf ys.toArray n2) ∈ news)
    (hsz : xs.length ≤ 1000) (hne : l1 ≠ l2) (Y : Nat → Value → Prop)
    (R : ∀ i v₁ v₂ C oC m₂ h tk (E' : Value → Shared → Prop), xs[i]? = some v₁ → ys[i]? = some v₂ → NsObj oC m₂ → m₂ x = some v₁ → m₂ x₂ = some v₂ → Fr h₀ L h m → News h₀ L h ((C, oC) :: news) →
       wpAny (model prog w) A (eval elt (compEnvC scope cl C env)) (fun y s₄ => (∃ tk', s₄ = { s with heap := h, toks := tk' }) ∧ Y i y) E' { s with heap := h, toks := tk })
    (fin : ∀ D h tk zs, Fr h₀ L h (fun z => if z = y then some (.ref D) else m z) → News h₀ L h ((D, lst zs) :: news) → (∀ p ∈ news, p.1 ≠ D) → zs.length = min xs.length ys.length → (∀ j v, zs[j]? = some v → Y j v) → Q .next { s with heap := h, toks := tk }) :
    wpAny (model prog w) A (call (.type "zip") [.ref l1, .ref l2]) (SrcZ prog w A h₀ L m env elt x x₂ y scope cl Q) E s := by
  have hl1 : s.heap.IsList l1 xs.toArray := ⟨_, (N _ hm1).1, rfl, _, rfl⟩
  have hl2 : s.heap.IsList l2 ys.toArray := ⟨_, (N _ hm2).1, rfl, _, rfl⟩
  have hlt1 : l1 < s.heap.objs.size := Heap.lt_size (N _ hm1).1
  have hlt2 : l2 < s.heap.objs.size := Heap.lt_size (N _ hm2).1
  have hLs : L < s.heap.objs.size := F.ns.lt
  have D : ZipApart (s.heap.objs.size + 4) (s.heap.objs.size + 2) (s.heap.objs.size + 3) s.heap.objs.size (s.heap.objs.size + 1) l1 l2 := ktu_apart _ _ _ hlt1 hlt2
  refine call_zip_2 hl1 hl2 fun h' hz hTI hTO hi1 hi2 hs hk => ?_
  have new : ∀ b ∈ [s.heap.objs.size + 4, s.heap.objs.size + 3, s.heap.objs.size, s.heap.objs.size + 1], s.heap.objs.size ≤ b := fun b hb => by
    simp only [List.mem_cons, List.not_mem_nil, or_false] at hb
    rcases hb with rfl | rfl | rfl | rfl <;> first | exact Nat.le_add_right _ _ | exact Nat.le_refl _
  refine ⟨_, _, _, _, _, _, _, news, Y, rfl, (WalksT.zip2 hh _ _ _ _ _ _ _ D xs.toArray ys.toArray).toU, ?_, ?_, hh, ⟨hz, hTI, ⟨_, _, hTO⟩, hi1, hi2, hl1.at fun o e => hk _ _ e, hl2.at fun o e => hk _ _ e⟩, ?_, F.keeps hk, N.grown hk, ?_, ?_, ?_, ?_, ?_⟩
  · simp [sizeLine_eq]; omega
  · rintro i vals ⟨x, y, _, _, rfl⟩; exact ⟨x, y, rfl⟩
  · intro b hb
    rw [hs]
    simp only [List.mem_cons, List.not_mem_nil, or_false] at hb
    have g : ∀ k : Nat, k < 5 → s.heap.objs.size + k < s.heap.objs.size + 5 := fun k h => Nat.add_lt_add_left h _
    rcases hb with rfl | rfl | rfl | rfl | rfl | rfl | rfl
    · exact g 4 (by decide)
    · exact g 2 (by decide)
    · exact g 3 (by decide)
    · exact g 0 (by decide)
    · exact g 1 (by decide)
    · exact Nat.lt_of_lt_of_le hlt1 (Nat.le_add_right _ _)
    · exact Nat.lt_of_lt_of_le hlt2 (Nat.le_add_right _ _)
  · exact fun hb => absurd (Nat.lt_of_lt_of_le hLs (new _ hb)) (Nat.lt_irrefl _)
  · exact fun b hb => ktu_new F (new b hb)
  · exact fun p hp hb => absurd (Nat.lt_of_lt_of_le (Heap.lt_size (N p hp).1) (new _ hb)) (Nat.lt_irrefl _)
  · rintro i v₁ v₂ C oC m₂ h tk E' hi ⟨a, b, ha, hb, e⟩ hC e1 e2 F' N'
    have e3 := congrArg Array.toList e
    simp at e3
    obtain ⟨rfl, rfl⟩ := e3
    exact R i _ _ C oC m₂ h tk E' (by simpa using ha) (by simpa using hb) hC e1 e2 F' N'
  · intro D' h tk zs F' N' hD hl hY
    exact fin D' h tk zs F' N' hD (by simpa using hl) hY
end
end Mine
end

section
open PySem PySem.W PyProof.Rows PySem.Calls PyProof.Rows.LCg
set_option maxRecDepth 100000
set_option maxHeartbeats 4000000
namespace Mine
example : True := by
  w_top off
  k_with_none
  trivial
example : True := by first | walk1 | trivial
/-- the end of an element of the comp: its value, and the ledger as it was -/
def ElEnd (h₀ : Heap) (L : Addr) (m : PySem.Str → Option Value) (s₂ : Shared) (own : List (Addr × Obj)) (J : Value → Prop) (y : Value) (s₄ : Shared) : Prop :=
  ∃ h tk, s₄ = { s₂ with heap := h, toks := tk } ∧ Fr h₀ L h m ∧ News h₀ L h own ∧ J y
section
variable {prog : Program} {w : World} {A : Around} {E : Value → Shared → Prop} {s : Shared} {h₀ : Heap} {L : Addr} {m : PySem.Str → Option Value} {env : Env}
/-- a list comp over a range whose variable is a cell of the comp's own scope -/
theorem block_K {elt iter : Expr} {x : PySem.Str} {px : Pos} {scope : Scope} {cl : List (PySem.Str × Addr)} {pos : Pos} {s₂ : Shared} {I : Addr} {n : Nat} {a₀ : Int} {news : List (Addr × Obj)}
    {J : Nat → List Value → Prop} {RR : Value → Addr → Result → Shared → Prop}
    (hsz : n ≤ sizeLine) (hkind : scope.kind = .function) (hcells : ∀ a, cellsFrom a scope.names cl = (x, a) :: cl) (hpush : ∀ h : Heap, pushCells h scope.names = h.push { cls := .type "cell", data := .cell none })
    (hxk : ∀ C kc, (compEnvC scope ((x, kc) :: cl) C env).kindOf x = some .cell) (hh : A.handled = none) (hit : IsRangeIter s₂.heap I a₀ n 1)
    (F : Fr h₀ L s₂.heap m) (N : News h₀ L s₂.heap news) (hIL : I ≠ L) (hI₀ : h₀.get? I = none) (off : ∀ p ∈ news, p.1 ≠ I) (hJ : J 0 [])
    (R : ∀ i ys C oC D kc ok t h tk (E' : Value → Shared → Prop), i < n → J i ys → ok.data = .cell (some (.int (a₀ + (i : Int)) t)) → Fr h₀ L h m → News h₀ L h ((I, itR (a₀ + ((i + 1 : Nat) : Int)) ((n : Int) - ((i + 1 : Nat) : Int))) :: (C, oC) :: (D, lst ys) :: (kc, ok) :: news) →
       (∀ p ∈ news, p.1 ≠ I ∧ p.1 ≠ C ∧ p.1 ≠ D ∧ p.1 ≠ kc) →
       wpAny (model prog w) A (eval elt (compEnvC scope ((x, kc) :: cl) C env)) (ElEnd h₀ L m s₂ ((I, itR (a₀ + ((i + 1 : Nat) : Int)) ((n : Int) - ((i + 1 : Nat) : Int))) :: (C, oC) :: (D, lst ys) :: (kc, ok) :: news) fun y => J (i + 1) (ys ++ [y])) E' { s₂ with heap := h, toks := tk })
    (hRR : ∀ D C h tk m' ys, Fr h₀ L h m → News h₀ L h ((D, lst ys) :: news) → h.Ns C m' → h₀.get? C = none → h₀.get? D = none → C ≠ L → D ≠ L → C ≠ D → (∀ p ∈ news, p.1 ≠ C) → (∀ p ∈ news, p.1 ≠ D) → ys.length = n → J n ys → RR (.ref D) C (.ok .next) { s₂ with heap := h, toks := tk }) :
    wpAny (model prog w) A (newList []) (fun acc s₃ => wpAny (model prog w) A (newFunctionEnv scope env.globals cl [] env.qual none .none (some env)) (fun cenv s₄ =>
      codeAny (model prog w) A (.compStart (.ListComp elt [⟨.Name x px, iter, [], 0⟩] scope pos) 0 (.ref I) acc { cenv with scope := relabel scope env }) (RR acc cenv.locals) s₄) E s₃) E s₂ := by
  refine wpAny_newObj_type ?_
  simp only [newFunctionEnv, Option.isSome_some, if_true]
  refine wpAny_bind (wpAny_alloc ?_)
  refine wpAny_bind (wpAny_layCells _ (fun name kind cells => by cases hkc : kind == NameKind.cell <;> simp [hkc]) _ _ _ _ ?_)
  rw [hcells, hpush]
  simp only [List.forIn_nil]
  refine wpAny_bind (wpAny_pure (wpAny_pure ?_))
  generalize hH2 : s₂.heap.push { cls := .type "list", dict := none, data := .seq ([] : List Value).toArray } = H2
  generalize hH3 : H2.push { cls := .type "dict", data := .dict #[] } = H3
  have hC : H2.objs.size = s₂.heap.objs.size + 1 := by rw [← hH2, Heap.size_push]
  have hK : H3.objs.size = s₂.heap.objs.size + 2 := by rw [← hH3, Heap.size_push, hC]
  have below : ∀ b, b < s₂.heap.objs.size → b ≠ H2.objs.size ∧ b ≠ s₂.heap.objs.size ∧ b ≠ H3.objs.size := fun b hb => ⟨by rw [hC]; exact Nat.ne_of_lt (Nat.lt_succ_of_lt hb), Nat.ne_of_lt hb, by rw [hK]; exact Nat.ne_of_lt (Nat.lt_succ_of_lt (Nat.lt_succ_of_lt hb))⟩
  have hDC : s₂.heap.objs.size ≠ H2.objs.size := by rw [hC]; exact Nat.ne_of_lt (Nat.lt_succ_self _)
  have hDK : s₂.heap.objs.size ≠ H3.objs.size := by rw [hK]; exact Nat.ne_of_lt (Nat.lt_succ_of_lt (Nat.lt_succ_self _))
  have hCK : H2.objs.size ≠ H3.objs.size := by rw [hK, hC]; exact Nat.ne_of_lt (Nat.lt_succ_self _)
  have old : ∀ b o, s₂.heap.get? b = some o → (H3.push { cls := .type "cell", data := .cell none }).get? b = some o := fun b o e => Heap.get?_push_of_some _ (hH3 ▸ Heap.get?_push_of_some _ (hH2 ▸ Heap.get?_push_of_some _ e))
  have hacc : (H3.push { cls := .type "cell", data := .cell none }).get? s₂.heap.objs.size = some (lst []) := Heap.get?_push_of_some _ (hH3 ▸ Heap.get?_push_of_some _ (hH2 ▸ Heap.get?_push_size _ rfl))
  have hkc : (H3.push { cls := .type "cell", data := .cell none }).get? H3.objs.size = some { cls := .type "cell", data := .cell none } := Heap.get?_push_size _ rfl
  have hns : (H3.push { cls := .type "cell", data := .cell none }).Ns H2.objs.size (fun _ => none) := (hH3 ▸ Heap.Ns.new H2 (.type "dict") : H3.Ns H2.objs.size (fun _ => none)).keeps fun b o e => Heap.get?_push_of_some _ e
  have fresh : ∀ a, s₂.heap.objs.size ≤ a → s₂.heap.get? a = none := fun a ha => by
    cases e : s₂.heap.get? a with
    | none => rfl
    | some o' => exact absurd (Heap.lt_size e) (Nat.not_lt.mpr ha)
  have fresh₀ : ∀ a, s₂.heap.objs.size ≤ a → h₀.get? a = none := fun a ha => by
    cases e : h₀.get? a with
    | none => rfl
    | some o' => have := F.keep a o' e; rw [fresh a ha] at this; cases this
  have hD₀ : h₀.get? s₂.heap.objs.size = none := fresh₀ _ (Nat.le_refl _)
  have hC₀ : h₀.get? H2.objs.size = none := fresh₀ _ (by rw [hC]; exact Nat.le_succ _)
  have hK₀ : h₀.get? H3.objs.size = none := fresh₀ _ (by rw [hK]; exact Nat.le_add_right _ _)
  have hLlt : L < s₂.heap.objs.size := F.ns.lt
  have hIlt : I < s₂.heap.objs.size := Heap.lt_size hit
  have hDL : s₂.heap.objs.size ≠ L := Ne.symm (below L hLlt).2.1
  have hCL : H2.objs.size ≠ L := Ne.symm (below L hLlt).1
  have hKL : H3.objs.size ≠ L := Ne.symm (below L hLlt).2.2
  show codeAny (model prog w) A (.compStart (.ListComp elt [⟨.Name x px, iter, [], 0⟩] scope pos) 0 (.ref I) (.ref s₂.heap.objs.size) (compEnvC scope ((x, H3.objs.size) :: cl) H2.objs.size env)) (RR (.ref s₂.heap.objs.size) H2.objs.size) { s₂ with heap := H3.push { cls := .type "cell", data := .cell none } }
  have ptr : ∀ {h h' : Heap} {news : List (Addr × Obj)}, News h₀ L h news → (∀ b o, b ≠ I → h.get? b = some o → h'.get? b = some o) → (∀ p ∈ news, p.1 ≠ I) → News h₀ L h' news := fun N hk hoff p hp => ⟨hk _ _ (hoff p hp) (N p hp).1, (N p hp).2⟩
  have dis : ∀ p ∈ news, p.1 ≠ I ∧ p.1 ≠ H2.objs.size ∧ p.1 ≠ s₂.heap.objs.size ∧ p.1 ≠ H3.objs.size := fun p hp => by
    have := below _ (Heap.lt_size (N p hp).1)
    exact ⟨off p hp, this.1, this.2.1, this.2.2⟩
  have hIC : I ≠ H2.objs.size := (below I hIlt).1
  have hID : I ≠ s₂.heap.objs.size := (below I hIlt).2.1
  have hIK : I ≠ H3.objs.size := (below I hIlt).2.2
  have loop : codeAny (model prog w) A (.compLoop (.ListComp elt [⟨.Name x px, iter, [], 0⟩] scope pos) 0 (.ref I) (.ref s₂.heap.objs.size) (compEnvC scope ((x, H3.objs.size) :: cl) H2.objs.size env))
        (RR (.ref s₂.heap.objs.size) H2.objs.size) { s₂ with heap := H3.push { cls := .type "cell", data := .cell none } } := by
    refine codeAny_compLoop_tests
      (fun k s' => ∃ (h' : Heap) (tk i : Nat) (ys : List Value) (oC ok : Obj) (m' : PySem.Str → Option Value) (vk : Option Value), s' = { s₂ with heap := h', toks := tk } ∧ i ≤ n ∧ k = n + 1 - i ∧ ys.length = i ∧ Fr h₀ L h' m ∧ NsObj oC m' ∧
         News h₀ L h' ((I, itR (a₀ + (i : Int)) ((n : Int) - (i : Int))) :: (H2.objs.size, oC) :: (s₂.heap.objs.size, lst ys) :: (H3.objs.size, ok) :: news) ∧ ok.data = .cell vk ∧ J i ys) ?_ (n + 1) ?_
    · rintro k s' ⟨h', tk, i, ys, oC, ok, m', vk, rfl, hi, rfl, hyl, F', hn', N', hok, hJ'⟩
      have zI := N' _ (.head _)
      have zC := N' _ (.tail _ (.head _))
      have zD := N' _ (.tail _ (.tail _ (.head _)))
      have zK := N' _ (.tail _ (.tail _ (.tail _ (.head _))))
      have zN : ∀ p ∈ news, _ := fun p hp => N' p (.tail _ (.tail _ (.tail _ (.tail _ hp))))
      by_cases hlt : i < n
      · refine wpAny_pyNext_range_item (x := a₀ + (i : Int)) (left := (n : Int) - (i : Int)) (step := 1) zI.1 (by omega) fun h₂ hit₂ hs₂ => ?_
        have e1 : a₀ + (i : Int) + 1 = a₀ + ((i + 1 : Nat) : Int) := by omega
        have e2 : (n : Int) - (i : Int) - 1 = (n : Int) - ((i + 1 : Nat) : Int) := by omega
        rw [e1, e2] at hit₂
        have hk₂ : ∀ b o, b ≠ I → h'.get? b = some o → h₂.get? b = some o := fun b o hb e => (hs₂.2 b hb).trans e
        refine wpAny_assign_Name (wpAny_storeName_cell (c := H3.objs.size) (v₀ := vk) (by simp [compEnvC, relabel, hkind]) (hxk _ _) (by simp [compEnvC]) ⟨ok, hk₂ _ _ (Ne.symm hIK) zK.1, hok⟩ (fun h₃ hc₃ hs₃ => ?_))
        refine wpAny_tests_nil ?_
        simp only [if_true]
        obtain ⟨ok₃, hok₃, hod₃⟩ := hc₃
        have hk₃ : ∀ b o, b ≠ I → b ≠ H3.objs.size → h'.get? b = some o → h₃.get? b = some o := fun b o hb hb' e => (hs₃.2 b hb').trans (hk₂ b o hb e)
        have F₃ : Fr h₀ L h₃ m := (F'.change hs₂ hIL hI₀).change hs₃ hKL hK₀
        have N₃ : News h₀ L h₃ ((I, itR (a₀ + ((i + 1 : Nat) : Int)) ((n : Int) - ((i + 1 : Nat) : Int))) :: (H2.objs.size, oC) :: (s₂.heap.objs.size, lst ys) :: (H3.objs.size, ok₃) :: news) := by
          intro p hp
          rcases List.mem_cons.mp hp with rfl | hp
          · exact ⟨(hs₃.2 _ hIK).trans hit₂, hIL, hI₀⟩
          rcases List.mem_cons.mp hp with rfl | hp
          · exact ⟨hk₃ _ _ (Ne.symm hIC) hCK zC.1, hCL, hC₀⟩
          rcases List.mem_cons.mp hp with rfl | hp
          · exact ⟨hk₃ _ _ (Ne.symm hID) hDK zD.1, hDL, hD₀⟩
          rcases List.mem_cons.mp hp with rfl | hp
          · exact ⟨hok₃, hKL, hK₀⟩
          · exact ⟨hk₃ _ _ (dis p hp).1 (dis p hp).2.2.2 (zN p hp).1, (zN p hp).2⟩
        refine wpAny_mono (R i ys H2.objs.size oC s₂.heap.objs.size H3.objs.size ok₃ _ h₃ _ _ hlt hJ' hod₃ F₃ N₃ (fun p hp => dis p hp)) (fun y s₄ h₄ => ?_) fun _ _ e => e
        obtain ⟨h₅, tk₅, rfl, F₅, N₅, hJ₅⟩ := h₄
        have z5 := N₅ _ (.tail _ (.tail _ (.head _)))
        refine append_at (hsz := by show ys.toArray.size ≤ sizeLine; rw [List.size_toArray, hyl]; exact Nat.le_trans hi hsz) z5.1 fun h₈ hs₈ hD₈ => ?_
        refine ⟨n + 1 - (i + 1), by omega, h₈, tk₅, i + 1, ys ++ [y], oC, ok₃, m', _, rfl, hlt, rfl, by rw [List.length_append, List.length_singleton, hyl], F₅.change hs₈ hDL hD₀, hn', ?_, hod₃, hJ₅⟩
        intro p hp
        rcases List.mem_cons.mp hp with rfl | hp
        · exact ⟨hs₈.extBut _ _ hID (N₅ _ (.head _)).1, hIL, hI₀⟩
        rcases List.mem_cons.mp hp with rfl | hp
        · exact ⟨hs₈.extBut _ _ (Ne.symm hDC) (N₅ _ (.tail _ (.head _))).1, hCL, hC₀⟩
        rcases List.mem_cons.mp hp with rfl | hp
        · exact ⟨hD₈.trans (congrArg some (lst_snoc ys y)), hDL, hD₀⟩
        rcases List.mem_cons.mp hp with rfl | hp
        · exact ⟨hs₈.extBut _ _ (Ne.symm hDK) (N₅ _ (.tail _ (.tail _ (.tail _ (.head _))))).1, hKL, hK₀⟩
        · exact ⟨hs₈.extBut _ _ (dis p hp).2.2.1 (N₅ p (.tail _ (.tail _ (.tail _ (.tail _ hp))))).1, (zN p hp).2⟩
      · obtain rfl : i = n := Nat.le_antisymm hi (Nat.not_lt.mp hlt)
        refine wpAny_pyNext_range_end (x := a₀ + (i : Int)) (left := (i : Int) - (i : Int)) (step := 1) hh zI.1 (by omega) fun h₂ hb => ?_
        refine hRR _ _ h₂ tk m' ys ⟨F'.ns.at' fun o e => hb _ _ (Ne.symm hIL) e, fun b o e => hb _ _ (fun q => by rw [q, hI₀] at e; cases e) (F'.keep _ _ e), F'.above⟩ (fun p hp => ?_) (hn'.ns (hb _ _ (Ne.symm hIC) zC.1)) hC₀ hD₀ hCL hDL (Ne.symm hDC) (fun p hp => (dis p hp).2.1) (fun p hp => (dis p hp).2.2.1) hyl hJ'
        rcases List.mem_cons.mp hp with rfl | hp
        · exact ⟨hb _ _ (Ne.symm hID) zD.1, hDL, hD₀⟩
        · exact ⟨hb _ _ (dis p hp).1 (zN p hp).1, (zN p hp).2⟩
    · obtain ⟨oC, heC, hoC⟩ := ns_obj hns
      refine ⟨_, _, 0, [], oC, { cls := .type "cell", data := .cell none }, _, none, rfl, Nat.zero_le _, rfl, rfl, F.keeps old, hoC, ?_, rfl, hJ⟩
      intro p hp
      rcases List.mem_cons.mp hp with rfl | hp
      · refine ⟨?_, hIL, hI₀⟩
        have e : itR (a₀ + ((0 : Nat) : Int)) ((n : Int) - ((0 : Nat) : Int)) = itR a₀ n := by simp
        show Heap.get? _ I = some (itR (a₀ + ((0 : Nat) : Int)) ((n : Int) - ((0 : Nat) : Int)))
        rw [e]
        exact old _ _ hit
      rcases List.mem_cons.mp hp with rfl | hp
      · exact ⟨heC, hCL, hC₀⟩
      rcases List.mem_cons.mp hp with rfl | hp
      · exact ⟨hacc, hDL, hD₀⟩
      rcases List.mem_cons.mp hp with rfl | hp
      · exact ⟨hkc, hKL, hK₀⟩
      · exact ⟨old _ _ (N p hp).1, (N p hp).2⟩
  exact codeAny_compStart_list loop (wpAny_pyIter_rangeiter (old _ _ hit) loop)
/-- the iterable of such a comp is reached: a range -/
def SrcK (prog : Program) (w : World) (A : Around) (h₀ : Heap) (L : Addr) (m : PySem.Str → Option Value) (env : Env) (elt : Expr) (x : PySem.Str) (scope : Scope) (cl : List (PySem.Str × Addr)) (Q : Value → Shared → Prop) (xv : Value) (s₁ : Shared) : Prop :=
  ∃ (r : Addr) (a b : Int) (t u v : Tok) (n : Nat) (news : List (Addr × Obj)) (J : Nat → List Value → Prop), xv = .ref r ∧ A.handled = none ∧ Fr h₀ L s₁.heap m ∧ News h₀ L s₁.heap news ∧ IsRange s₁.heap r a b 1 t u v ∧ Builtin.Range.small a b 1 = true ∧ Builtin.Range.rangeSize a b 1 = (n : Int) ∧ n ≤ sizeLine ∧ J 0 [] ∧
    (∀ i ys I C oC D kc ok t h tk (E' : Value → Shared → Prop), i < n → J i ys → ok.data = .cell (some (.int (a + (i : Int)) t)) → Fr h₀ L h m → News h₀ L h ((I, itR (a + ((i + 1 : Nat) : Int)) ((n : Int) - ((i + 1 : Nat) : Int))) :: (C, oC) :: (D, lst ys) :: (kc, ok) :: news) →
       (∀ p ∈ news, p.1 ≠ I ∧ p.1 ≠ C ∧ p.1 ≠ D ∧ p.1 ≠ kc) →
       wpAny (model prog w) A (eval elt (compEnvC scope ((x, kc) :: cl) C env)) (ElEnd h₀ L m s₁ ((I, itR (a + ((i + 1 : Nat) : Int)) ((n : Int) - ((i + 1 : Nat) : Int))) :: (C, oC) :: (D, lst ys) :: (kc, ok) :: news) fun y => J (i + 1) (ys ++ [y])) E' { s₁ with heap := h, toks := tk }) ∧
    (∀ D h tk ys, Fr h₀ L h m → News h₀ L h ((D, lst ys) :: news) → (∀ p ∈ news, p.1 ≠ D) → ys.length = n → J n ys → Q (.ref D) { s₁ with heap := h, toks := tk })
theorem ListComp_K {elt iter : Expr} {x : PySem.Str} {px : Pos} {scope : Scope} {cl : List (PySem.Str × Addr)} {pos : Pos} {Q : Value → Shared → Prop} (F₀ : Fr h₀ L s.heap m)
    (hclos : closureFor scope env = pure cl) (hkind : scope.kind = .function) (hcells : ∀ a, cellsFrom a scope.names cl = (x, a) :: cl) (hpush : ∀ h : Heap, pushCells h scope.names = h.push { cls := .type "cell", data := .cell none })
    (hxk : ∀ C kc, (compEnvC scope ((x, kc) :: cl) C env).kindOf x = some .cell)
    (hnames : ∀ y ∈ scope.names, y.2 = .local → scope.names.lookup y.1 = some .local)
    (h : wpAny (model prog w) A (eval iter env) (SrcK prog w A h₀ L m env elt x scope cl Q) E s)
    (hs : ∀ x, foldedSetIterable iter env x = pure x := by intro _; rfl) :
    wpAny (model prog w) A (eval (.ListComp elt [⟨.Name x px, iter, [], 0⟩] scope pos) env) Q E s := by
  rw [eval_ListComp]
  refine wpAny_comprehension_free (use := none) rfl hs hclos hkind hnames (wpAny_mono h (fun xv s₁ h₁ => ?_) fun _ _ e => e)
  obtain ⟨r, a, b, t, u, v, n, news, J, rfl, hh, F, N, hr, hsm, hn, hsz, hJ, R, fin⟩ := h₁
  refine wpAny_pyIter_range hr hsm ?_
  refine block_K (n := n) (a₀ := a) (news := news) (J := J) hsz hkind hcells hpush hxk hh (by show IsRangeIter _ _ _ _ _; rw [hn]; exact Heap.get?_push_size _ rfl)
      (F.keeps fun _ _ e => Heap.get?_push_of_some _ e) (N.grown fun _ _ e => Heap.get?_push_of_some _ e) (Ne.symm (Nat.ne_of_lt F.ns.lt)) (next_is_new F) (fun p hp => Nat.ne_of_lt (Heap.lt_size (N p hp).1)) hJ (fun i ys C oC D kc ok t h tk E' hi hJ' hok F' N' o => R i ys _ C oC D kc ok t h tk E' hi hJ' hok F' N' o) ?_
  intro D C h tk m' ys F' N' hn hC₀ hD₀ hCL hDL hCD offC offD hyl hJ'
  refine ⟨m', hn, fun h'' hs'' => fin D h'' tk ys (F'.change hs'' hCL hC₀) (fun p hp => ?_) offD hyl hJ'⟩
  refine ⟨hs''.extBut _ _ ?_ (N' p hp).1, (N' p hp).2⟩
  rcases List.mem_cons.mp hp with rfl | hp
  · exact Ne.symm hCD
  · exact offC p hp
end
end Mine
end

section
open PySem PySem.W PyProof.Rows PySem.Calls PyProof.Rows.LCg
set_option maxRecDepth 100000
set_option maxHeartbeats 4000000
namespace Mine
example : True := by
  w_top off
  k_with_none
  trivial
example : True := by first | walk1 | trivial
section
variable {prog : Program} {w : World} {A : Around} {E : Value → Shared → Prop} {s : Shared} {h₀ : Heap} {L : Addr} {m : PySem.Str → Option Value} {env : Env}
/-- the block of a list comp with one local target whose element changes no object -/
theorem block_S {elt iter : Expr} {x : PySem.Str} {px : Pos} {scope : Scope} {cl : List (PySem.Str × Addr)} {pos : Pos} {s₂ : Shared} {I : Addr} {fp wr : List Addr} {n : Nat} {P : Nat → Value → Prop} {St : Nat → Heap → Prop} {news : List (Addr × Obj)}
    {Y : Nat → Value → Prop} {RR : Value → Addr → Result → Shared → Prop}
    (W : Walks prog w A I fp wr n P St) (hsz : n ≤ sizeLine)
    (hcell : ∀ y ∈ scope.names, y.2 ≠ .cell) (hkind : scope.kind = .function) (hx : scope.names.lookup x = some .local) (hh : A.handled = none) (hst : St 0 s₂.heap) (hfp : ∀ b ∈ fp, b < s₂.heap.objs.size)
    (F : Fr h₀ L s₂.heap m) (N : News h₀ L s₂.heap news) (hL : L ∉ wr) (h0w : ∀ b ∈ wr, h₀.get? b = none) (off : ∀ p ∈ news, p.1 ∉ wr)
    (R : ∀ i v C oC m₂ h tk (E' : Value → Shared → Prop), i < n → P i v → NsObj oC m₂ → m₂ x = some v → Fr h₀ L h m → News h₀ L h ((C, oC) :: news) →
       wpAny (model prog w) A (eval elt (compEnvC scope cl C env)) (fun y s₄ => (∃ tk', s₄ = { s₂ with heap := h, toks := tk' }) ∧ Y i y) E' { s₂ with heap := h, toks := tk })
    (hRR : ∀ D C h tk m' ys, Fr h₀ L h m → News h₀ L h ((D, lst ys) :: news) → h.Ns C m' → h₀.get? C = none → h₀.get? D = none → C ≠ L → D ≠ L → C ≠ D → (∀ p ∈ news, p.1 ≠ C) → (∀ p ∈ news, p.1 ≠ D) → ys.length = n → (∀ j y, ys[j]? = some y → Y j y) → RR (.ref D) C (.ok .next) { s₂ with heap := h, toks := tk }) :
    wpAny (model prog w) A (newList []) (fun acc s₃ => wpAny (model prog w) A (newFunctionEnv scope env.globals cl [] env.qual none .none (some env)) (fun cenv s₄ =>
      codeAny (model prog w) A (.compStart (.ListComp elt [⟨.Name x px, iter, [], 0⟩] scope pos) 0 (.ref I) acc { cenv with scope := relabel scope env }) (RR acc cenv.locals) s₄) E s₃) E s₂ := by
  refine wpAny_newObj_type (wpAny_newFunctionEnv hcell (by intro y hy; simp at hy) (fun h₁ hns₁ hsb₁ => ?_) hkind)
  dsimp only at hns₁ hsb₁ ⊢
  generalize hH2 : s₂.heap.push { cls := .type "list", dict := none, data := .seq ([] : List Value).toArray } = H2 at hns₁ hsb₁ ⊢
  have hC : H2.objs.size = s₂.heap.objs.size + 1 := by rw [← hH2, Heap.size_push]
  have hDC : s₂.heap.objs.size ≠ H2.objs.size := by rw [hC]; exact Nat.ne_of_lt (Nat.lt_succ_self _)
  have below : ∀ b, b < s₂.heap.objs.size → b ≠ H2.objs.size ∧ b ≠ s₂.heap.objs.size := fun b hb => ⟨by rw [hC]; exact Nat.ne_of_lt (Nat.lt_succ_of_lt hb), Nat.ne_of_lt hb⟩
  have hDf : s₂.heap.objs.size ∉ fp := fun hm => Nat.lt_irrefl _ (hfp _ hm)
  have hCf : H2.objs.size ∉ fp := fun hm => by have := hfp _ hm; rw [hC] at this; exact Nat.lt_irrefl _ (Nat.lt_of_succ_lt this)
  have hDw : s₂.heap.objs.size ∉ wr := fun hm => hDf (W.sub _ hm)
  have hCw : H2.objs.size ∉ wr := fun hm => hCf (W.sub _ hm)
  have old : ∀ b o, s₂.heap.get? b = some o → h₁.get? b = some o := fun b o e => hsb₁.extBut b o (below b (Heap.lt_size e)).1 (Heap.get?_push_of_some _ (hH2 ▸ Heap.get?_push_of_some _ e))
  have hacc : h₁.get? s₂.heap.objs.size = some (lst []) := hsb₁.extBut _ _ hDC (Heap.get?_push_of_some _ (hH2 ▸ Heap.get?_push_size _ rfl))
  have hst₁ : St 0 h₁ := W.frame _ _ _ hst fun b _ o e => old b o e
  have fresh : ∀ a, s₂.heap.objs.size ≤ a → s₂.heap.get? a = none := fun a ha => by
    cases e : s₂.heap.get? a with
    | none => rfl
    | some o' => exact absurd (Heap.lt_size e) (Nat.not_lt.mpr ha)
  have fresh₀ : ∀ a, s₂.heap.objs.size ≤ a → h₀.get? a = none := fun a ha => by
    cases e : h₀.get? a with
    | none => rfl
    | some o' => have := F.keep a o' e; rw [fresh a ha] at this; cases this
  have hD₀ : h₀.get? s₂.heap.objs.size = none := fresh₀ _ (Nat.le_refl _)
  have hC₀ : h₀.get? H2.objs.size = none := fresh₀ _ (by rw [hC]; exact Nat.le_succ _)
  have hLlt : L < s₂.heap.objs.size := F.ns.lt
  have hDL : s₂.heap.objs.size ≠ L := Ne.symm (below L hLlt).2
  have hCL : H2.objs.size ≠ L := Ne.symm (below L hLlt).1
  have hnC : ∀ p ∈ news, p.1 ≠ H2.objs.size := fun p hp => (below _ (Heap.lt_size (N p hp).1)).1
  have hnD : ∀ p ∈ news, p.1 ≠ s₂.heap.objs.size := fun p hp => (below _ (Heap.lt_size (N p hp).1)).2
  have frw : ∀ {h h' : Heap}, Fr h₀ L h m → (∀ b o, b ∉ wr → h.get? b = some o → h'.get? b = some o) → Fr h₀ L h' m := fun F hk => ⟨F.ns.at' fun o e => hk L o hL e, fun b o e => hk b o (fun hm => by rw [h0w b hm] at e; cases e) (F.keep b o e), F.above⟩
  have nww : ∀ {h h' : Heap}, News h₀ L h news → (∀ b o, b ∉ wr → h.get? b = some o → h'.get? b = some o) → News h₀ L h' news := fun N hk p hp => ⟨hk _ _ (off p hp) (N p hp).1, (N p hp).2⟩
  have loop : ∀ s₃ : Shared, s₃ = { s₂ with heap := h₁, toks := s₂.toks + ([] : List (PySem.Str × Value)).length } →
      codeAny (model prog w) A (.compLoop (.ListComp elt [⟨.Name x px, iter, [], 0⟩] scope pos) 0 (.ref I) (.ref s₂.heap.objs.size) (compEnvC scope cl H2.objs.size env))
        (RR (.ref s₂.heap.objs.size) H2.objs.size) s₃ := by
    rintro s₃ rfl
    refine codeAny_compLoop_tests
      (fun k s' => ∃ (h' : Heap) (tk i : Nat) (ys : List Value) (m' : PySem.Str → Option Value), s' = { s₂ with heap := h', toks := tk } ∧ i ≤ n ∧ k = n + 1 - i ∧ ys.length = i ∧ (∀ j y, ys[j]? = some y → Y j y) ∧ St i h' ∧ Fr h₀ L h' m ∧ h'.Ns H2.objs.size m' ∧ News h₀ L h' news ∧ h'.get? s₂.heap.objs.size = some (lst ys)) ?_ (n + 1)
      ⟨h₁, _, 0, [], _, rfl, Nat.zero_le _, rfl, rfl, (by intro j y e; simp at e), hst₁, F.keeps old, hns₁, fun p hp => ⟨old _ _ (N p hp).1, (N p hp).2⟩, hacc⟩
    rintro k s' ⟨h', tk, i, ys, m', rfl, hi, rfl, hyl, hY, hst', F', hn', N', hD'⟩
    by_cases hlt : i < n
    · refine W.item i _ _ _ hlt hst' fun v h₃ tk₂ hPv hst₃ hk => ?_
      refine wpAny_assign_Name (wpAny_storeName_local (lookup_relabel_local hx) (hn'.at' fun o e => hk _ o hCw e) (fun h₇ hn₇ hs₇ => ?_) (by simp [compEnvC, relabel, hkind]))
      refine wpAny_tests_nil ?_
      simp only [if_true]
      have old7 : ∀ b o, b ≠ H2.objs.size → h₃.get? b = some o → h₇.get? b = some o := fun b o hb e => hs₇.extBut b o hb e
      have hst₇ : St (i + 1) h₇ := W.frame _ _ _ hst₃ fun b hb o e => old7 b o (fun q => hCf (by have q' : b = H2.objs.size := q; rw [← q']; exact hb)) e
      obtain ⟨oC, heC, hoC⟩ := ns_obj hn₇
      have F₇ : Fr h₀ L h₇ m := (frw F' hk).change hs₇ hCL hC₀
      have N₇ : News h₀ L h₇ news := fun p hp => ⟨old7 _ _ (hnC p hp) (nww N' hk p hp).1, (N' p hp).2⟩
      have D₇ : h₇.get? s₂.heap.objs.size = some (lst ys) := old7 _ _ hDC (hk _ _ hDw hD')
      refine wpAny_mono (R i v H2.objs.size oC _ h₇ _ _ hlt hPv hoC (by simp) F₇ (fun p hp => ?_)) (fun y s₄ h₄ => ?_) fun _ _ e => e
      · rcases List.mem_cons.mp hp with rfl | hp
        · exact ⟨heC, hCL, hC₀⟩
        · exact N₇ p hp
      · obtain ⟨⟨tk₄, rfl⟩, hy⟩ := h₄
        refine append_at (hsz := by show ys.toArray.size ≤ sizeLine; rw [List.size_toArray, hyl]; exact Nat.le_trans hi hsz) D₇ fun h₈ hs₈ hD₈ => ?_
        refine ⟨n + 1 - (i + 1), by omega, h₈, tk₄, i + 1, ys ++ [y], _, rfl, hlt, rfl, by rw [List.length_append, List.length_singleton, hyl], ?_, W.frame _ _ _ hst₇ fun b hb o e => hs₈.extBut b o (fun q => hDf (q ▸ hb)) e, F₇.change hs₈ hDL hD₀, hn₇.sameBut hs₈ (Ne.symm hDC), fun p hp => ⟨hs₈.extBut _ _ (hnD p hp) (N₇ p hp).1, (N₇ p hp).2⟩, hD₈.trans (congrArg some (lst_snoc ys y))⟩
        intro j y' e
        by_cases hj : j < ys.length
        · exact hY j y' (by rwa [List.getElem?_append_left hj] at e)
        · rw [List.getElem?_append_right (by omega)] at e
          have hj' : j = ys.length := by
            have := (List.getElem?_eq_some_iff.mp e).1
            simp at this; omega
          subst hj'
          simp at e
          subst e
          rw [hyl]; exact hy
    · obtain rfl : i = n := Nat.le_antisymm hi (Nat.not_lt.mp hlt)
      refine W.done _ _ _ hst' fun h₂ tk₂ hk₂ => ?_
      refine hRR _ _ h₂ tk₂ _ ys (frw F' hk₂) (fun p hp => ?_) (hn'.at' fun o e => hk₂ _ o hCw e) hC₀ hD₀ hCL hDL (Ne.symm hDC) hnC hnD hyl hY
      rcases List.mem_cons.mp hp with rfl | hp
      · exact ⟨hk₂ _ _ hDw hD', hDL, hD₀⟩
      · exact nww N' hk₂ p hp
  exact codeAny_compStart_list (loop _ rfl) (W.self 0 _ _ _ hst₁ (loop _ rfl))
/-- the iterable is reached: a text -/
def SrcS (prog : Program) (w : World) (A : Around) (h₀ : Heap) (L : Addr) (m : PySem.Str → Option Value) (env : Env) (elt : Expr) (x : PySem.Str) (scope : Scope) (cl : List (PySem.Str × Addr)) (Q : Value → Shared → Prop) (xv : Value) (s₁ : Shared) : Prop :=
  ∃ (txt : PySem.Str) (tt : Tok) (news : List (Addr × Obj)) (Y : Nat → Value → Prop), xv = .str txt tt ∧ txt.cps.size ≤ sizeLine ∧ A.handled = none ∧ Fr h₀ L s₁.heap m ∧ News h₀ L s₁.heap news ∧
    (∀ i c u C oC m₂ h tk (E' : Value → Shared → Prop), txt.cps[i]? = some c → NsObj oC m₂ → m₂ x = some (.str ⟨#[c]⟩ u) → Fr h₀ L h m → News h₀ L h ((C, oC) :: news) →
       wpAny (model prog w) A (eval elt (compEnvC scope cl C env)) (fun y s₄ => (∃ tk', s₄ = { s₁ with heap := h, toks := tk' }) ∧ Y i y) E' { s₁ with heap := h, toks := tk }) ∧
    (∀ D h tk ys, Fr h₀ L h m → News h₀ L h ((D, lst ys) :: news) → (∀ p ∈ news, p.1 ≠ D) → ys.length = txt.cps.size → (∀ j v, ys[j]? = some v → Y j v) → Q (.ref D) { s₁ with heap := h, toks := tk })
theorem ListComp_S {elt iter : Expr} {x : PySem.Str} {px : Pos} {scope : Scope} {cl : List (PySem.Str × Addr)} {pos : Pos} {Q : Value → Shared → Prop} (F₀ : Fr h₀ L s.heap m)
    (hclos : closureFor scope env = pure cl) (hcell : ∀ y ∈ scope.names, y.2 ≠ .cell) (hkind : scope.kind = .function)
    (hnames : ∀ y ∈ scope.names, y.2 = .local → scope.names.lookup y.1 = some .local) (hx : scope.names.lookup x = some .local)
    (h : wpAny (model prog w) A (eval iter env) (SrcS prog w A h₀ L m env elt x scope cl Q) E s)
    (hs : ∀ x, foldedSetIterable iter env x = pure x := by intro _; rfl) :
    wpAny (model prog w) A (eval (.ListComp elt [⟨.Name x px, iter, [], 0⟩] scope pos) env) Q E s := by
  rw [eval_ListComp]
  refine wpAny_comprehension_free (use := none) rfl hs hclos hkind hnames (wpAny_mono h (fun xv s₁ h₁ => ?_) fun _ _ e => e)
  obtain ⟨txt, tt, news, Y, rfl, hsz, hh, F, N, R, fin⟩ := h₁
  refine wpAny_pyIter_str fun o St hW hst => ?_
  have up : ∀ b o', s₁.heap.get? b = some o' → (s₁.heap.push o).get? b = some o' := fun b o' e => Heap.get?_push_of_some _ e
  refine block_S (W := hW A hh) (Y := Y) hsz hcell hkind hx hh hst (fun b hb => ?_) (F.keeps up) (N.grown up) (fun hb => ?_) (fun b hb => ?_) (fun p hp hb => ?_) (fun i v C oC m₂ h tk E' _ hP hoC hm F' N' => ?_) ?_
  · rw [List.mem_singleton.mp hb]
    show s₁.heap.objs.size < (s₁.heap.push o).objs.size
    rw [Heap.size_push]; exact Nat.lt_succ_self _
  · exact Nat.ne_of_lt F.ns.lt (List.mem_singleton.mp hb)
  · rw [List.mem_singleton.mp hb]; exact next_is_new F
  · exact Nat.ne_of_lt (Heap.lt_size (N p hp).1) (List.mem_singleton.mp hb)
  · obtain ⟨c, u, hc, rfl⟩ := hP
    exact R i c u C oC m₂ h tk E' hc hoC hm F' N'
  · intro D C h tk m' ys F' N' hn hC₀ hD₀ hCL hDL hCD offC offD hyl hY
    refine ⟨m', hn, fun h'' hs'' => fin D h'' tk ys (F'.change hs'' hCL hC₀) (fun p hp => ?_) offD hyl hY⟩
    refine ⟨hs''.extBut _ _ ?_ (N' p hp).1, (N' p hp).2⟩
    rcases List.mem_cons.mp hp with rfl | hp
    · exact Ne.symm hCD
    · exact offC p hp
/-- the iterable is reached: a written or unwritten list of the ledger -/
def SrcL (prog : Program) (w : World) (A : Around) (h₀ : Heap) (L : Addr) (m : PySem.Str → Option Value) (env : Env) (elt : Expr) (x : PySem.Str) (scope : Scope) (cl : List (PySem.Str × Addr)) (Q : Value → Shared → Prop) (xv : Value) (s₁ : Shared) : Prop :=
  ∃ (ax : Addr) (its : Array Value) (news : List (Addr × Obj)) (Y : Nat → Value → Prop), xv = .ref ax ∧ s₁.heap.IsList ax its ∧ its.size ≤ sizeLine ∧ A.handled = none ∧ Fr h₀ L s₁.heap m ∧ News h₀ L s₁.heap news ∧
    (∀ i v C oC m₂ h tk (E' : Value → Shared → Prop), its[i]? = some v → NsObj oC m₂ → m₂ x = some v → Fr h₀ L h m → News h₀ L h ((C, oC) :: news) →
       wpAny (model prog w) A (eval elt (compEnvC scope cl C env)) (fun y s₄ => (∃ tk', s₄ = { s₁ with heap := h, toks := tk' }) ∧ Y i y) E' { s₁ with heap := h, toks := tk }) ∧
    (∀ D h tk ys, Fr h₀ L h m → News h₀ L h ((D, lst ys) :: news) → (∀ p ∈ news, p.1 ≠ D) → ys.length = its.size → (∀ j v, ys[j]? = some v → Y j v) → Q (.ref D) { s₁ with heap := h, toks := tk })
theorem ListComp_L {elt iter : Expr} {x : PySem.Str} {px : Pos} {scope : Scope} {cl : List (PySem.Str × Addr)} {pos : Pos} {Q : Value → Shared → Prop} (F₀ : Fr h₀ L s.heap m)
    (hclos : closureFor scope env = pure cl) (hcell : ∀ y ∈ scope.names, y.2 ≠ .cell) (hkind : scope.kind = .function)
    (hnames : ∀ y ∈ scope.names, y.2 = .local → scope.names.lookup y.1 = some .local) (hx : scope.names.lookup x = some .local)
    (h : wpAny (model prog w) A (eval iter env) (SrcL prog w A h₀ L m env elt x scope cl Q) E s)
    (hs : ∀ x, foldedSetIterable iter env x = pure x := by intro _; rfl) :
    wpAny (model prog w) A (eval (.ListComp elt [⟨.Name x px, iter, [], 0⟩] scope pos) env) Q E s := by
  rw [eval_ListComp]
  refine wpAny_comprehension_free (use := none) rfl hs hclos hkind hnames (wpAny_mono h (fun xv s₁ h₁ => ?_) fun _ _ e => e)
  obtain ⟨ax, its, news, Y, rfl, hl, hsz, hh, F, N, R, fin⟩ := h₁
  have hlt : ax < s₁.heap.objs.size := by obtain ⟨_, e, _⟩ := hl; exact Heap.lt_size e
  refine wpAny_pyIter_list hl ?_
  have up : ∀ b o, s₁.heap.get? b = some o → (s₁.heap.push { cls := .type "list_iterator", data := .fields #[.ref ax, .int 0 0] }).get? b = some o := fun b o e => Heap.get?_push_of_some _ e
  refine block_S (W := Walks.list hh s₁.heap.objs.size ax (Nat.ne_of_lt hlt) its) (Y := Y) hsz hcell hkind hx hh ⟨⟨_, Heap.get?_push_size _ rfl, rfl, rfl⟩, hl.push _⟩ (fun b hb => ?_) (F.keeps up) (N.grown up) (fun hb => ?_) (fun b hb => ?_) (fun p hp hb => ?_) (fun i v C oC m₂ h tk E' _ hP hoC hm F' N' => R i v C oC m₂ h tk E' hP hoC hm F' N') ?_
  · show b < (s₁.heap.push _).objs.size
    rw [Heap.size_push]
    rcases List.mem_cons.mp hb with rfl | hb
    · exact Nat.lt_succ_self _
    · rw [List.mem_singleton.mp hb]; exact Nat.lt_succ_of_lt hlt
  · exact Nat.ne_of_lt F.ns.lt (List.mem_singleton.mp hb)
  · rw [List.mem_singleton.mp hb]; exact next_is_new F
  · exact Nat.ne_of_lt (Heap.lt_size (N p hp).1) (List.mem_singleton.mp hb)
  · intro D C h tk m' ys F' N' hn hC₀ hD₀ hCL hDL hCD offC offD hyl hY
    refine ⟨m', hn, fun h'' hs'' => fin D h'' tk ys (F'.change hs'' hCL hC₀) (fun p hp => ?_) offD hyl hY⟩
    refine ⟨hs''.extBut _ _ ?_ (N' p hp).1, (N' p hp).2⟩
    rcases List.mem_cons.mp hp with rfl | hp
    · exact Ne.symm hCD
    · exact offC p hp
end
end Mine
end

section
open PySem PySem.W PyProof.Rows PySem.Calls
set_option maxRecDepth 100000
set_option maxHeartbeats 8000000
namespace Mine
example : True := by
  w_top off
  k_with_none
  trivial
example : True := by first | walk1 | trivial
example : True := by
  k_with_none
  k_with "m_memR" => (first | (with_reducible apply mem_h) | (with_reducible apply mem_t; k_extra "m_memR"))
  k_with "m_memD" => (first | apply mem_h | (with_reducible apply mem_t; k_extra "m_memD"))
  k_with "m_mem" => (first | k_extra "m_memR" | k_extra "m_memD")
  k_with "m_neD" => (first | (with_reducible apply NeD.l; k_extra "m_memR") | (with_reducible apply NeD.r; k_extra "m_memR") | (with_reducible apply NeD.t; k_extra "m_neD"))
  k_with "m_ne" => ((try dsimp only); refine ne_of (by with_reducible assumption) (by k_extra "m_neD"))
  k_with "m_updS" => (first | (with_reducible apply UpdS.head) | (apply UpdS.tail; k_extra "m_updS"))
  k_with "m_updF" => k_dflt (refine updF_dist (by k_extra "m_updS") (by with_reducible assumption) (by rfl))
  k_with "m_upd" => k_dflt (refine upd_dist (by k_extra "m_updS") (by with_reducible assumption) (by rfl))
  k_with "m_lt" => k_dflt (intro zl; (with_reducible rename Dist _ => zdo); (have zd' := dist_lt zl zdo (by rfl)); clear zl zdo)
  k_with "m_nw" => k_dflt (intro zl; (with_reducible rename Dist _ => zdo); (have zd' := dist_new zl zdo (by rfl)); clear zl zdo)
  k_with "storeName" => (k_here; k_dflt (refine storeL (by k_asm) (by k_asm) ?_ (by rfl) (by rfl)); intro _ _ _; (try k_sweep))
  trivial
def stepRow (c : Int) (rows : List Int) : List Int := List.zipWith (fun up stay => up + c * stay) (rows ++ [0]) (0 :: rows)
def rowsN (c : Int) : Nat → List Int → List Int
  | 0, r => r
  | k + 1, r => stepRow c (rowsN c k r)
def timesOf (p : List Int) (k : Nat) : Int := if k = 0 then p.getD 0 0 - 1 else p.getD k 0
def cRows (p : List Int) (group : Nat) (r0 : List Int) : Nat → List Int
  | 0 => r0
  | k + 1 => rowsN ((group : Int) + 1 - (k : Int)) (timesOf p k).toNat (cRows p group r0 k)
theorem times_le {a b c d : Int} {i group : Nat} (hb : (0 ≤ a ∧ a ≤ 2) ∧ (0 ≤ b ∧ b ≤ 2) ∧ (0 ≤ c ∧ c ≤ 2) ∧ (0 ≤ d ∧ d ≤ 2)) (hi : i < group + 1) : timesOf [a, b, c, d] i ≤ 2 := by
  unfold timesOf
  rcases i with _ | _ | _ | _ | i <;> simp <;> omega
theorem times_ge {a b c d : Int} {i group : Nat} (hb : (0 ≤ a ∧ a ≤ 2) ∧ (0 ≤ b ∧ b ≤ 2) ∧ (0 ≤ c ∧ c ≤ 2) ∧ (0 ≤ d ∧ d ≤ 2)) (hi : i < group + 1) : -1 ≤ timesOf [a, b, c, d] i := by
  unfold timesOf
  rcases i with _ | _ | _ | _ | i <;> simp <;> omega
theorem ints_of_get : ∀ (zs : List Value) (f : Nat → Int), (∀ (k : Nat) (v : Value), zs[k]? = some v → ∃ t, v = Value.int (f k) t) → IntsAre zs ((List.range zs.length).map f)
  | [], _, _ => .nil
  | z :: zs, f, h => by
    obtain ⟨t, rfl⟩ := h 0 z rfl
    have ih := ints_of_get zs (fun k => f (k + 1)) fun k v e => h (k + 1) v (by simpa using e)
    rw [List.length_cons, List.range_succ_eq_map, List.map_cons, List.map_map]
    exact .cons _ _ ih
theorem ints_step {c : Int} {rows : List Int} {zs : List Value} (hl : zs.length = rows.length + 1) (hY : ∀ (k : Nat) (v : Value), zs[k]? = some v → ∃ t, v = Value.int ((rows ++ [0]).getD k 0 + c * (0 :: rows).getD k 0) t) : IntsAre zs (stepRow c rows) := by
  have h := ints_of_get zs _ hY
  have e : (List.range zs.length).map (fun k => (rows ++ [0]).getD k 0 + c * (0 :: rows).getD k 0) = stepRow c rows := by
    unfold stepRow
    refine List.ext_getElem (by simp [hl]) fun k h1 h2 => ?_
    simp at h1
    simp [List.getD_eq_getElem?_getD, List.getElem?_eq_getElem (show k < (rows ++ [0]).length by simp; omega), List.getElem?_eq_getElem (show k < (0 :: rows).length by simp; omega)]
  rw [e] at h
  exact h
theorem add_K {prog : Program} {w : World} {A : Around} {E : Value → Shared → Prop} {s : Shared} {h₀ : Heap} {L a b : Addr} {m : PySem.Str → Option Value} {news : List (Addr × Obj)} {vs ws : List Value} {n1 n2 : Nat} {Q : Value → Shared → Prop} (F : Fr h₀ L s.heap m) (N : News h₀ L s.heap news) (ha : (a, listOf vs.toArray n1) ∈ news) (hb : (b, listOf ws.toArray n2) ∈ news) (h1 : vs.length ≤ 20) (h2 : ws.length ≤ 20)
    (h : ∀ D h', Fr h₀ L h' m → News h₀ L h' ((D, listOf (vs ++ ws).toArray 0) :: news) → (∀ p ∈ news, p.1 < D) → Q (.ref D) { s with heap := h' }) : wpAny (model prog w) A (binaryOp .Add (.ref a) (.ref b)) Q E s :=
  add_lists (hsz := by rw [sizeLine_eq]; omega) F N ⟨_, (N _ ha).1, rfl, _, rfl⟩ ⟨_, (N _ hb).1, rfl, _, rfl⟩ fun h' F' N' => h _ h' F' N' fun p hp => Heap.lt_size (N p hp).1
abbrev PC := Obj → Addr → List Value → Nat → Option Value → Option Value → Prop
/-- the rows, between two powers -/
inductive CoO (p : List Int) (group : Nat) (r0 : List Int) (i : Nat) (P : PC) : Prop
  | mk (ok : Obj) (vk : Option Value) (r : Addr) (vals : List Value) (nr : Nat) (mt mi : Option Value) : ok.data = .cell vk → IntsAre vals (cRows p group r0 i) → vals.length ≤ 2 + 2 * i → P ok r vals nr mt mi → CoO p group r0 i P
theorem CoO.mono {p : List Int} {group : Nat} {r0 : List Int} {i : Nat} {P P' : PC} (h : CoO p group r0 i P) (k : ∀ a b c d e f, P a b c d e f → P' a b c d e f) : CoO p group r0 i P' := by
  obtain ⟨ok, vk, r, vals, nr, mt, mi, h1, h2, h3, h4⟩ := h
  exact ⟨ok, vk, r, vals, nr, mt, mi, h1, h2, h3, k _ _ _ _ _ _ h4⟩
abbrev PD := Addr → List Value → Nat → Option Value → Prop
/-- the rows, between two steps of one power -/
inductive CoI (c : Int) (r0 : List Int) (b j : Nat) (P : PD) : Prop
  | mk (r : Addr) (vals : List Value) (nr : Nat) (mi : Option Value) : IntsAre vals (rowsN c j r0) → vals.length ≤ b + j → P r vals nr mi → CoI c r0 b j P
theorem CoI.mono {c : Int} {r0 : List Int} {b j : Nat} {P P' : PD} (h : CoI c r0 b j P) (k : ∀ a b c d, P a b c d → P' a b c d) : CoI c r0 b j P' := by
  obtain ⟨r, vals, nr, mi, h2, h3, h4⟩ := h
  exact ⟨r, vals, nr, mi, h2, h3, k _ _ _ _ h4⟩
abbrev CK := (PySem.Str → Option Value) → List (Addr × Obj) → Prop
def LedC (c2 c1 pa : Addr) (na : Nat) (o2 : Obj) (pv : List Value) (start step : Int) (u1 u2 : Tok) (K : CK) : PC := fun ok r vals nr mt mi => Dist [r, c2, c1, pa] ∧
  K (mSet [(PySem.Str.ofString "rows", some (.ref r)), (PySem.Str.ofString "times", mt), (PySem.Str.ofString "i", mi), (PySem.Str.ofString "powers", some (.ref pa)), (PySem.Str.ofString "step", some (.int step u2)), (PySem.Str.ofString "start", some (.int start u1))] fun _ => none)
    [(r, listOf vals.toArray nr), (c2, ok), (c1, o2), (pa, listOf pv.toArray na)]
def LedD (I0 c2 c1 pa : Addr) (na : Nat) (it o2 ok : Obj) (pv : List Value) (start step : Int) (u1 u2 : Tok) (mt : Option Value) (K : CK) : PD := fun r vals nr mi => Dist [r, I0, c2, c1, pa] ∧
  K (mSet [(PySem.Str.ofString "rows", some (.ref r)), (PySem.Str.ofString "i", mi), (PySem.Str.ofString "times", mt), (PySem.Str.ofString "powers", some (.ref pa)), (PySem.Str.ofString "step", some (.int step u2)), (PySem.Str.ofString "start", some (.int start u1))] fun _ => none)
    [(r, listOf vals.toArray nr), (I0, it), (c2, ok), (c1, o2), (pa, listOf pv.toArray na)]
theorem rowsN_add {c : Int} {r0 : List Int} {vals zs : List Value} {j : Nat} {x y : Value} (ivs : IntsAre vals (rowsN c j r0)) (hl : zs.length = min (vals ++ [x]).length ([y] ++ vals).length) (hY : ∀ (k : Nat) (v : Value), zs[k]? = some v → ∃ t, v = Value.int ((rowsN c j r0 ++ [0]).getD k 0 + c * (0 :: rowsN c j r0).getD k 0) t) : IntsAre zs (rowsN c (j + 1) r0) ∧ zs.length = vals.length + 1 := by
  have e : zs.length = vals.length + 1 := by rw [hl]; simp
  exact ⟨ints_step (by rw [e, ivs.length]) hY, e⟩
example : True := by
  k_with "exec Assign cons ListComp" => (refine of_held ?_)
  k_with "eval IfExp" => (goal_lacks IntAt; refine of_held ?_)
  k_with "call type:zip" => (refine of_held ?_)
  k_with "exec For Name Call cons nil" => (k_here; (with_unfolding_all refine For_G ?_))
  k_with "binaryOp Add ref ref" => (k_here; k_dflt (refine add_K (by k_asm) (by k_asm) (by k_mem) (by k_mem) (by first | assumption | exact Nat.le_of_ble_eq_true rfl) (by first | assumption | exact Nat.le_of_ble_eq_true rfl) ?_); intro _ _ _ _ zl; (try k_lt zl); (try k_sweep))
  k_with "m_all" => (first | exact List.forall_mem_nil _ | (refine List.forall_mem_cons.mpr (And.intro (by k_ne) ?_); k_extra "m_all"))
  k_with "m_steps" => (repeat' (first | (k_unfold; (try dsimp only)) | (k_end; wrow_close) | (walk1; (try dsimp only)) | (dsimp only; walk1) | (leave1; try dsimp only) | fail "no step"))
  k_with "m_steps0" => (repeat' (first | (k_unfold; (try dsimp only)) | (k_end; wrow_close) | walk1 | (dsimp only; walk1) | (leave1; try dsimp only) | fail "no step"))
  k_with "m_mb" => (first | exact MBase.base | (apply MBase.set (by kernel_rfl); k_extra "m_mb"))
  k_with "m_norm" => (exact ⟨mNorm (by k_extra "m_mb") rfl, rfl⟩)
  trivial
theorem c_coeff {prog : Program} {w : World} {s : Shared} {h₀ : Heap} {E : Value → Shared → Prop} {Q : Value → Shared → Prop} (W : Wd w h₀) (st : h₀.StaysIn s.heap) {pa : Addr} {pv : List Value} {na : Nat} {start step a b c d : Int} {group : Nat} {u1 u2 u3 : Tok}
   (ep : s.heap.get? pa = some (listOf pv.toArray na)) (hp : IntsAre pv [a, b, c, d]) (npa : h₀.get? pa = none) (hg4 : group < 4) (hst1 : -10 ≤ start) (hst2 : start ≤ 10) (hsp1 : -10 ≤ step) (hsp2 : step ≤ 10) (hb : (0 ≤ a ∧ a ≤ 2) ∧ (0 ≤ b ∧ b ≤ 2) ∧ (0 ≤ c ∧ c ≤ 2) ∧ (0 ≤ d ∧ d ≤ 2))
   (post : ∀ q ws nq h' tk', IntsAre ws (List.drop 1 (cRows [a, b, c, d] group [step, start + step * (group : Int)] (group + 1))) → Keeps s.heap h' [] → h'.get? q = some (listOf ws.toArray nq) → s.heap.get? q = none → Q (.ref q) { s with heap := h', toks := tk' }) :
   wpAny (model prog w) (AC 325 380) (call (.ref 188) [.int start u1, .int step u2, .ref pa, .int (group : Int) u3]) Q E s := by
  revert W st ep hp npa hg4 hst1 hst2 hsp1 hsp2 hb post
  refine pad fun (zp0 : Nat) => pad fun (zp1 : Nat) => pad fun (zp2 : Nat) => ?_
  revert prog w s h₀ E Q pa pv na start step a b c d group u1 u2 u3 zp0 zp1 zp2
  refine @(all_eps22 (neP neI (neP neW (neP neS (neP neI (neP neI (neP neI (neP neI (neP neI (neP neI (neP neI (neP neI (neP neI (neP neI (neP neI (neP neI (neP neI (neP neI (neP neI (neP neI (neP neI (neP neI neI))))))))))))))))))))) ?_)
  generalize @eps22 _ _ _ _ _ _ _ _ _ _ _ _ _ _ _ _ _ _ _ _ _ _ _ _ = zt
  generalize zt.1 = prog, zt.2.1 = w, zt.2.2.1 = s, zt.2.2.2.1 = h₀, zt.2.2.2.2.1 = E, zt.2.2.2.2.2.1 = Q, zt.2.2.2.2.2.2.1 = pa, zt.2.2.2.2.2.2.2.1 = pv, zt.2.2.2.2.2.2.2.2.1 = na, zt.2.2.2.2.2.2.2.2.2.1 = start, zt.2.2.2.2.2.2.2.2.2.2.1 = step, zt.2.2.2.2.2.2.2.2.2.2.2.1 = a, zt.2.2.2.2.2.2.2.2.2.2.2.2.1 = b, zt.2.2.2.2.2.2.2.2.2.2.2.2.2.1 = c, zt.2.2.2.2.2.2.2.2.2.2.2.2.2.2.1 = d, zt.2.2.2.2.2.2.2.2.2.2.2.2.2.2.2.1 = group, zt.2.2.2.2.2.2.2.2.2.2.2.2.2.2.2.2.1 = u1, zt.2.2.2.2.2.2.2.2.2.2.2.2.2.2.2.2.2.1 = u2, zt.2.2.2.2.2.2.2.2.2.2.2.2.2.2.2.2.2.2.1 = u3, zt.2.2.2.2.2.2.2.2.2.2.2.2.2.2.2.2.2.2.2.1 = zp0, zt.2.2.2.2.2.2.2.2.2.2.2.2.2.2.2.2.2.2.2.2.1 = zp1, zt.2.2.2.2.2.2.2.2.2.2.2.2.2.2.2.2.2.2.2.2.2 = zp2
  clear zt
  clear zp0 zp1 zp2
  intro W st ep hp npa hg4 hst1 hst2 hsp1 hsp2 hb post
  refine enterPC (args := ⟨[.int start u1, .int step u2, .ref pa, .int (group : Int) u3], []⟩) W st (news := [(pa, listOf pv.toArray na)]) (binds := [(PySem.Str.ofString "start", .int start u1), (PySem.Str.ofString "step", .int step u2), (PySem.Str.ofString "powers", .ref pa), (PySem.Str.ofString "group", .int (group : Int) u3)])
    (NewAt.cons ep npa .nil) (by k_is) (by k_is) (by decide) (BindsTo.of_eq rfl) rfl (by decide +kernel) ?_ rfl rfl rfl
  refine @(all_eps9 (neP neI (neP neI (neP neI (neP neI (neP neI (neP neI (neP neI (neP neI neI)))))))) ?_)
  generalize @eps9 _ _ _ _ _ _ _ _ _ _ _ = zt
  generalize zt.1 = g, zt.2.1 = h₁, zt.2.2.1 = tk, zt.2.2.2.1 = cells, zt.2.2.2.2.1 = p, zt.2.2.2.2.2.1 = loose, zt.2.2.2.2.2.2.1 = mean, zt.2.2.2.2.2.2.2.1 = mg, zt.2.2.2.2.2.2.2.2 = mb
  clear zt
  intro F N Y X T hg hl stg
  k_cells Y
  (try simp only [List.cons_append, List.nil_append] at N)
  have zd := dist_cell2 hl (dist_one pa) rfl
  clear hl
  have F : Fr g _ h₁ (mSet [(PySem.Str.ofString "powers", some (.ref pa)), (PySem.Str.ofString "step", some (.int step u2)), (PySem.Str.ofString "start", some (.int start u1))] fun _ => none) := F
  (with_reducible show wpAny _ _ _ _ _ _)
  k_fold
  k_extra "m_steps"
  (with_reducible rename_i o1 o2 d1 d2 l0 _ _ _ _ _ _ _ _ _ _ _ _ _)
  (with_reducible rename News _ _ _ _ => NN)
  (with_reducible rename Fr _ _ _ _ => FF)
  (rename IsRange _ _ _ _ _ _ _ _ => RR)
  (with_reducible rename Dist _ => zd0)
  have hgc : o2.data = .cell (some (.int (group : Int) u3)) := d2
  refine LoopG.rangeK (group + 1) FF NN RR rfl (small_one (by decide) (by decide) (by omega) (by omega)) (by rw [rangeSize_nat]; omega) (fun _ _ => rfl)
    (fun i K => CoO [a, b, c, d] group [step, start + step * group] i (LedC (s.heap.objs.size + 1 + 1) (s.heap.objs.size + 1) pa na o2 pv start step u1 u2 K)) (fun i K K' hk h => h.mono fun _ _ _ _ _ _ q => ⟨q.1, hk _ _ q.2⟩)
    ⟨o1, _, l0, _, 0, _, _, d1, .cons _ _ (.cons _ _ .nil), Nat.le_of_ble_eq_true rfl, zd0, by k_extra "m_norm"⟩ (by k_subL) ?_ ?_
  · clear NN FF RR zd0
    intro I0 i t h tk hi hJ
    obtain ⟨ok, vk, r, vals, nr, mt, mi, hok, ivs, hvl, zdo, F, N, o⟩ := hJ
    have zd := dist_new' o zdo rfl
    clear o zdo
    refine wpAny_assign_Name ?_
    (with_reducible show wpAny _ _ _ _ _ _)
    k_extra "m_steps"
    refine cutInt (timesOf [a, b, c, d] i) ?_ fun ut tk => ?_
    · k_extra "m_steps"
      · have hi0 : (i : Int) = 0 := by assumption
        exact IntAt.mk (by unfold timesOf; rw [if_pos (by omega), hi0]; rfl)
      · have hi0 : (i : Int) ≠ 0 := by assumption
        exact IntAt.mk (by unfold timesOf; rw [if_neg (by omega), Int.toNat_natCast])
    · try dsimp only
      k_extra "m_steps"
      have hTb : timesOf [a, b, c, d] i ≤ 2 := times_le hb hi
      have hTg := times_ge hb hi
      (with_reducible rename_i ok2 dk2 _ _ _ _ _ _ _ _ _ _ _ _ _)
      (with_reducible rename News _ _ _ _ => NN)
      (with_reducible rename Fr _ _ _ _ => FF)
      (rename IsRange _ _ _ _ _ _ _ _ => RR)
      (with_reducible rename Dist _ => zd1)
      refine LoopG.rangeK (timesOf [a, b, c, d] i).toNat FF NN RR rfl (small_one (by decide) (by decide) (by omega) (by omega)) (by rw [rangeSize_nat]; simp) (fun _ _ => rfl)
        (fun j K => CoI ((group : Int) + 1 - (i : Int)) (cRows [a, b, c, d] group [step, start + step * group] i) (2 + 2 * i) j (LedD I0 (s.heap.objs.size + 1 + 1) (s.heap.objs.size + 1) pa na (itR ((i + 1 : Nat) : Int) (((group + 1 : Nat) : Int) - ((i + 1 : Nat) : Int))) o2 ok2 pv start step u1 u2 (some (.int (timesOf [a, b, c, d] i) ut)) K)) (fun i K K' hk h => h.mono fun _ _ _ _ q => ⟨q.1, hk _ _ q.2⟩)
        ⟨r, vals, nr, _, ivs, hvl, dist_swap zd1, by k_extra "m_norm"⟩ (by k_subL) ?_ ?_
      · clear NN FF RR ivs zd1
        intro I1 j t2 h2 tk2 hj hJ
        obtain ⟨r2, vals2, nr2, mi2, ivs2, hvl2, zdo, F, N, o⟩ := hJ
        have zd := dist_new' o zdo rfl
        clear o zdo
        have hlen2 : vals2.length ≤ 20 := by omega
        refine wpAny_assign_Name ?_
        (with_reducible show wpAny _ _ _ _ _ _)
        k_extra "m_steps"
        (with_reducible rename Fr _ _ _ _ => FF)
        refine' Assign_ListComp_Z (F₀ := FF) ?q1 ?q2 ?q3 ?q4 ?q5 ?q6 ?q7 ?q8 ?q9 ?qA ?qB ?qC
        case q1 => rfl
        case q3 => rfl
        case q4 => decide
        case q5 => rfl
        case q6 => decide
        case q7 => rfl
        case q8 => rfl
        case q9 => decide
        case qA => rfl
        case qB => rfl
        case q2 => with_unfolding_all rfl
        (with_reducible show wpAny _ _ _ _ _ _)
        k_extra "m_steps"
        (with_reducible rename News _ _ _ _ => NN)
        (with_reducible rename Fr _ _ _ _ => FF)
        (with_reducible rename Dist _ => zd2)
        refine SrcZ.zip rfl FF NN (by k_mem) (by k_mem) (by rw [List.length_append]; exact Nat.le_trans (Nat.add_le_add hlen2 (Nat.le_refl 1)) (by decide)) (by k_ne) (fun k v => ∃ t, v = .int ((rowsN ((group : Int) + 1 - (i : Int)) j (cRows [a, b, c, d] group [step, start + step * group] i) ++ [0]).getD k 0 + ((group : Int) + 1 - (i : Int)) * (0 :: rowsN ((group : Int) + 1 - (i : Int)) j (cRows [a, b, c, d] group [step, start + step * group] i)).getD k 0) t) ?_ ?_
        · clear FF NN
          intro k v₁ v₂ C oC m₂ h tk E' hv1 hv2 hC e1 e2 F' N'
          obtain ⟨t1, rfl⟩ := (ivs2.append (.cons 0 _ .nil)).int_at k v₁ hv1
          obtain ⟨t2, rfl⟩ := IntsAre.int_at (.cons 0 _ ivs2) k v₂ hv2
          (with_reducible show wpAny _ _ _ _ _ _)
          k_extra "m_steps"
        · clear FF NN
          intro D h tk zs F' N' hD hl hY
          have zd3 := dist_new' hD zd2 rfl
          try dsimp only
          k_extra "m_steps"
          have hz := rowsN_add ivs2 hl hY
          exact RNx.introS (frIte F') N' ⟨D, zs, _, _, hz.1, by rw [hz.2]; exact Nat.succ_le_succ hvl2, dist_sub zd3 (by repeat (first | exact List.Sublist.slnil | apply List.Sublist.cons_cons | apply List.Sublist.cons)), by k_extra "m_norm"⟩ (by k_mem) (by k_subL) (by k_extra "m_all")
      · clear NN FF RR zd1
        intro h tk hJ
        obtain ⟨r2, vals2, nr2, mi2, ivs2, hvl2, zd2, F, N⟩ := hJ
        have hvl3 : vals2.length ≤ 2 + 2 * (i + 1) := by omega
        try dsimp only
        k_extra "m_steps"
        exact RNx.introS F N ⟨ok2, _, r2, vals2, nr2, _, _, dk2, ivs2, hvl3, dist_sub zd2 (by repeat (first | exact List.Sublist.slnil | apply List.Sublist.cons_cons | apply List.Sublist.cons)), by k_extra "m_norm"⟩ (by k_mem) (by k_subL) (by k_extra "m_all")
  · clear NN FF RR
    intro h tk hJ
    obtain ⟨ok, vk, r, vals, nr, mt, mi, hok, ivs, hvl, zd, F, N⟩ := hJ
    have hvl2 : vals.length ≤ 20 := by omega
    try dsimp only
    k_extra "m_steps0"
    (with_reducible rename News _ _ _ _ => NN)
    (with_reducible rename Fr _ _ _ _ => FF)
    have hq := fresh_of hg (NN _ (.head _)).2.2 (fun h => by have := List.mem_singleton.mp h; exact absurd this (by k_ne))
    exact post _ _ _ _ _ (by assumption) (keeps_drop (keeps_of FF hg) ep (NN.get (by k_mem))) (NN.get (.head _)) hq
end Mine
end

section
open PySem PySem.W PyProof.Rows PySem.Calls
set_option maxRecDepth 100000
set_option maxHeartbeats 8000000
namespace Mine
example : True := by
  w_top off
  k_with_none
  trivial
example : True := by first | walk1 | trivial
example : True := by
  k_with_none
  trivial
open PyProof.Rows.LCg
theorem pick3 (ns : List Int) {k : Int} (hk : 0 ≤ k) : (pickNums ns (some k) (some 15) (some 5)).length ≤ 3 := by
  unfold pickNums
  refine Nat.le_trans (List.length_filterMap_le _ _) ?_
  unfold sliceRange sliceBounds
  simp only [List.length_map, List.length_range, Option.getD_some, if_pos (show (5 : Int) > 0 by decide), if_neg (show ¬ ((15 : Int) < 0) by decide), if_neg (show ¬ (k < 0) by omega)]
  split <;> omega
theorem slice3_K {prog : Program} {w : World} {A : Around} {E : Value → Shared → Prop} {s : Shared} {h₀ : Heap} {L : Addr} {m : PySem.Str → Option Value} {news : List (Addr × Obj)} {value slice : PySem.Expr} {l : Addr} {sv : List Value} {ns : List Int} {k : Int} {t u v : Tok} {ops : List Value} {Q : Value → Shared → Prop}
    (F : Fr h₀ L s.heap m) (N : News h₀ L s.heap news) (hl : s.heap.IsList l sv.toArray) (hi : IntsAre sv ns) (hk : 0 ≤ k)
    (h : ∀ D vals ms h', Fr h₀ L h' m → News h₀ L h' ((D, listOf (vals : List Value).toArray 0) :: news) → IntsAre vals ms → ms.length ≤ 3 → (∀ p ∈ news, p.1 < D) → Q (.ref D) { s with heap := h' })
    (hs : subscripted slice false (.ref l) (.ref s.heap.objs.size) = operate ops (getItem (.ref l) (.ref s.heap.objs.size)))
    (ht : ∀ r, letTemporaryGo value (.ref l) r = pure ())
    (hsz : sv.toArray.size ≤ sizeLine) :
    wpAny (model prog w) A (subscriptTail value slice (.ref l) (.ref s.heap.objs.size)) Q E { s with heap := s.heap.push { cls := .type "slice", data := .fields #[.int k t, .int 15 u, .int 5 v] } } := by
  refine slice_list3 F N hl (IsPart.int _ _) (IsPart.int _ _) (IsPart.int _ _) (by decide) (fun h' F' N' => ?_) hs ht hsz
  refine h _ (slicePick sv.toArray (some k) (some 15) (some 5)).toList _ _ F' ?_ (hi.pick _ _ _) (pick3 ns hk) fun p hp => Nat.lt_succ_of_lt (Heap.lt_size (N p hp).1)
  rw [Array.toArray_toList]
  exact N'
section
variable {prog : Program} {w : World} {A : Around} {E : Value → Shared → Prop} {s : Shared} {h₀ : Heap} {L : Addr} {m : PySem.Str → Option Value} {env : Env}
theorem ints_of {f : Int → Int} : ∀ {ms : List Int} {ys : List Value}, ys.length = ms.length → (∀ (j : Nat) v, ys[j]? = some v → ∃ n t, ms[j]? = some n ∧ v = Value.int (f n) t) → IntsAre ys (ms.map f)
  | [], [], _, _ => .nil
  | [], _ :: _, h, _ => nomatch h
  | _ :: _, [], h, _ => nomatch h
  | c :: cs, y :: ys, h, hY => by
    obtain ⟨c', u, e, rfl⟩ := hY 0 y rfl
    obtain rfl : c = c' := Option.some.inj e
    exact .cons _ _ (ints_of (Nat.succ.inj h) fun j v e => hY (j + 1) v e)
theorem SrcL.ints {D : Addr} {vals : List Value} {ms : List Int} {n0 : Nat} {news : List (Addr × Obj)} {elt : PySem.Expr} {x : PySem.Str} {scope : Scope} {cl : List (PySem.Str × Addr)} {Q : Value → Shared → Prop} (f : Int → Int) (hh : A.handled = none) (F : Fr h₀ L s.heap m) (N : News h₀ L s.heap news) (hm : (D, listOf vals.toArray n0) ∈ news) (iv : IntsAre vals ms) (hl : ms.length ≤ 1000)
    (R : ∀ n t C oC m₂ h tk (E' : Value → Shared → Prop), NsObj oC m₂ → m₂ x = some (.int n t) → Fr h₀ L h m → News h₀ L h ((C, oC) :: news) →
       wpAny (model prog w) A (eval elt (compEnvC scope cl C env)) (fun y s₄ => (∃ tk', s₄ = { s with heap := h, toks := tk' }) ∧ ∃ t, y = .int (f n) t) E' { s with heap := h, toks := tk })
    (fin : ∀ D' h tk ys, Fr h₀ L h m → News h₀ L h ((D', lst ys) :: news) → (∀ p ∈ news, p.1 ≠ D') → IntsAre ys (ms.map f) → Q (.ref D') { s with heap := h, toks := tk }) :
    SrcL prog w A h₀ L m env elt x scope cl Q (.ref D) s := by
  have hvl := iv.length
  refine ⟨D, vals.toArray, news, fun i y => ∃ n t, ms[i]? = some n ∧ y = Value.int (f n) t, rfl, News.isList N hm, by rw [PySem.sizeLine_eq, List.size_toArray]; omega, hh, F, N, ?_, ?_⟩
  · intro i v C oC m₂ h tk E' hv hoC hx F' N'
    rw [List.getElem?_toArray] at hv
    obtain ⟨t, rfl⟩ := iv.int_at i v hv
    have hi : i < ms.length := by rw [← hvl]; exact (List.getElem?_eq_some_iff.mp hv).1
    refine wpAny_mono (R _ t C oC m₂ h tk E' hoC hx F' N') (fun y s₄ hy => ?_) fun _ _ e => e
    obtain ⟨a, t', rfl⟩ := hy
    refine ⟨a, _, t', ?_, rfl⟩
    rw [List.getD_eq_getElem?_getD, List.getElem?_eq_getElem hi]; rfl
  · intro D' h tk ys F' N' off hyl hY
    exact fin D' h tk ys F' N' off (ints_of (by rw [hyl, List.size_toArray, hvl]) hY)
end
example : True := by
  k_with "SrcL" => ((refine' SrcL.ints (fun n => n.fmod 100000) (by rfl) (by k_asm) (by k_asm) (by k_mem) (by assumption) (by omega) (fun n' t' C' oC' m₂' h' tk' E' hoC' hx' F' N' => ?_) (fun D' h' tk' ys' F' N' off' iv' => ?_); rotate_left; (have ne9' := allNe_of (q := D') (fun p hp => (off' p hp).symm)); (simp only [AllNe, and_true] at ne9'); rotate_right))
  k_with "subscriptTail Name Slice ref ref" => ((k_here; k_dflt (refine' slice3_K (s := ⟨_, _, _, _, _⟩) (by k_asm) (by k_asm) (by kmk_list) (by assumption) (by first | decide | omega) ?_ (by with_unfolding_all rfl) (by kmk_pure) (by (rw [PySem.sizeLine_eq, List.size_toArray]; omega))); intro D' vals' ms' h' F' N' iv' ml' l1; (try k_lt l1); (try k_sweep)))
  k_with "eval ListComp" => ((k_here; (with_reducible show wpAny _ _ (eval (Expr.ListComp _ [⟨_, Expr.Call _ _ _ _, _, _⟩] _ _) _) _ _ _); k_dflt (refine LCg.ListComp_U (F₀ := by k_asm) (by rfl) (by decide) (by rfl) (by decide) (by rfl) ?_); k_dflt lcg_toSrc))
  k_with "eval ListComp" => ((k_here; (with_reducible show wpAny _ _ (eval (Expr.ListComp _ [⟨_, Expr.Subscript _ _ _, _, _⟩] _ _) _) _ _ _); k_dflt (refine ListComp_L (F₀ := by k_asm) (by rfl) (by decide) (by rfl) (by decide) (by rfl) ?_)))
  k_with "CompSrc" => ((k_here; k_dflt (refine LCg.CompSrc.range (by rfl) (by k_asm) (by k_asm) (by assumption) (by first | decide | rfl) (by first | rfl | decide) (by exact Nat.le_of_ble_eq_true rfl) ?_; intro g'; lcg_lit)))
  k_with "CompEnd" => ((refine LCg.CompEnd.intro (by assumption) (by assumption) _ (fun _ hp => .tail _ (.tail _ hp)) (by simp only [LCg.Off3, and_true]; assumption) (by exact True.intro) ?_))
  trivial
theorem sum_mod : ∀ {ms : List Int}, 0 ≤ (ms.map (fun n => n.fmod 100000)).sum ∧ (ms.map (fun n => n.fmod 100000)).sum ≤ 99999 * ms.length
  | [] => ⟨by simp, by simp⟩
  | n :: r => by
    have := sum_mod (ms := r)
    rw [List.map_cons, List.sum_cons, List.length_cons]
    have h1 := Int.emod_nonneg n (show (100000 : Int) ≠ 0 by decide)
    have h2 := Int.emod_lt_of_pos n (show (0 : Int) < 100000 by decide)
    rw [Int.fmod_eq_emod_of_nonneg _ (by decide)]
    omega
theorem drawn_le {ms : List Int} {c d : Int} (h : ms.length ≤ 3) (e : d = c + (ms.map (fun n => n.fmod 100000)).sum) (hc : 0 ≤ c ∧ c ≤ 1000) : 0 ≤ d ∧ d ≤ 400000 := by
  have := sum_mod (ms := ms)
  omega
theorem c_drawn {prog : Program} {w : World} {s : Shared} {h₀ : Heap} {E : Value → Shared → Prop} {Q : Value → Shared → Prop} (W : Wd w h₀) (st : h₀.StaysIn s.heap) {sa : Addr} {sv : List Value} {ns : List Int}
   (es : s.heap.IsList sa sv.toArray) (hi : IntsAre sv ns) (hlen : ns.length ≤ 63)
   (post : ∀ q d0 d1 d2 d3 d4 u0 u1 u2 u3 u4 nq h' tk', ((0 ≤ d0 ∧ d0 ≤ 400000) ∧ (0 ≤ d1 ∧ d1 ≤ 400000) ∧ (0 ≤ d2 ∧ d2 ≤ 400000) ∧ (0 ≤ d3 ∧ d3 ≤ 400000) ∧ (0 ≤ d4 ∧ d4 ≤ 400000)) → Keeps s.heap h' [] → h'.get? q = some (listOf [Value.int d0 u0, Value.int d1 u1, Value.int d2 u2, Value.int d3 u3, Value.int d4 u4].toArray nq) → s.heap.get? q = none → Q (.ref q) { s with heap := h', toks := tk' }) :
   wpAny (model prog w) (AC 340 430) (call (.ref 130) [.ref sa]) Q E s := by
  revert W st es hi hlen post
  revert prog w s h₀ E Q sa sv ns
  refine @(all_eps9 (neP neI (neP neW (neP neS (neP neI (neP neI (neP neI (neP neI (neP neI neI)))))))) ?_)
  generalize @eps9 _ _ _ _ _ _ _ _ _ _ _ = zt
  generalize zt.1 = prog, zt.2.1 = w, zt.2.2.1 = s, zt.2.2.2.1 = h₀, zt.2.2.2.2.1 = E, zt.2.2.2.2.2.1 = Q, zt.2.2.2.2.2.2.1 = sa, zt.2.2.2.2.2.2.2.1 = sv, zt.2.2.2.2.2.2.2.2 = ns
  clear zt
  intro W st es hi hlen post
  refine enterPC (args := ⟨[.ref sa], []⟩) W st (news := []) (binds := [(PySem.Str.ofString "script", .ref sa)]) (fun _ h => nomatch h) (by k_is) (by k_is) (by decide) (BindsTo.of_eq rfl) rfl (by decide +kernel) ?_ rfl rfl rfl
  refine @(all_eps9 (neP neI (neP neI (neP neI (neP neI (neP neI (neP neI (neP neI (neP neI neI)))))))) ?_)
  generalize @eps9 _ _ _ _ _ _ _ _ _ _ _ = zt
  generalize zt.1 = g, zt.2.1 = h₁, zt.2.2.1 = tk, zt.2.2.2.1 = cells, zt.2.2.2.2.1 = p, zt.2.2.2.2.2.1 = loose, zt.2.2.2.2.2.2.1 = mean, zt.2.2.2.2.2.2.2.1 = mg, zt.2.2.2.2.2.2.2.2 = mb
  clear zt
  intro F N Y X T hg hl stg
  k_cells Y
  (try simp only [List.cons_append, List.nil_append] at N)
  have hls : g.IsList sa sv.toArray := es.at fun o e => hg _ _ e (fun h => nomatch h)
  have hsvl : sv.length ≤ 63 := by rw [hi.length]; exact hlen
  (with_reducible show wpAny _ _ _ _ _ _)
  k_fold
  repeat' (first | (k_unfold; (try dsimp only)) | (k_end; wrow_close) | (walk1; (try dsimp only)) | (dsimp only; walk1) | (leave1; walk_say "STEP leave1"; try dsimp only) | fail "no step")
  (with_reducible rename News _ _ _ _ => NN)
  (with_reducible rename Fr _ _ _ _ => FF)
  have hq := fresh_of hg (NN _ (.head _)).2.2 (fun h => nomatch h)
  refine post _ _ _ _ _ _ _ _ _ _ _ _ _ _ ⟨drawn_le (by assumption) rfl (by decide), drawn_le (by assumption) rfl (by decide), drawn_le (by assumption) rfl (by decide), drawn_le (by assumption) rfl (by decide), drawn_le (by assumption) rfl (by decide)⟩ (keeps_of FF hg) (NN.get (.head _)) hq
end Mine
end

section
open PySem PySem.W PyProof.Rows PySem.Calls
set_option maxRecDepth 100000
set_option maxHeartbeats 8000000
namespace Mine
example : True := by
  w_top off
  k_with_none
  trivial
example : True := by first | walk1 | trivial
example : True := by
  k_with_none
  trivial
example : True := by
  k_with "eval ListComp" => ((k_here; k_dflt (refine LCg.ListComp_U (F₀ := by k_asm) (by rfl) (by decide) (by rfl) (by decide) (by rfl) ?_); k_dflt lcg_toSrc))
  trivial
theorem c_bare {prog : Program} {w : World} {s : Shared} {h₀ : Heap} {E : Value → Shared → Prop} {Q : Value → Shared → Prop} (W : Wd w h₀) (st : h₀.StaysIn s.heap) {sa : Addr} {n : Nat} {d0 d1 d2 d3 d4 : Int} {t0 t1 t2 t3 t4 : Tok}
   (es : s.heap.get? sa = some (listOf [Value.int d0 t0, Value.int d1 t1, Value.int d2 t2, Value.int d3 t3, Value.int d4 t4].toArray n)) (nsa : h₀.get? sa = none) (hd : (0 ≤ d0 ∧ d0 ≤ 400000) ∧ (0 ≤ d1 ∧ d1 ≤ 400000) ∧ (0 ≤ d2 ∧ d2 ≤ 400000) ∧ (0 ≤ d3 ∧ d3 ≤ 400000) ∧ (0 ≤ d4 ∧ d4 ≤ 400000))
   (post : ∀ q vals nq h' tk', IntsAre vals [(d0.fdiv 28).fmod 2, (d0.fdiv 56).fmod 2, (d1.fdiv 96).fmod 2, (d2.fdiv 96).fmod 2, (d3.fdiv 96).fmod 2, (d4.fdiv 96).fmod 2] → vals.length = 6 → Keeps s.heap h' [] → h'.get? q = some (listOf vals.toArray nq) → s.heap.get? q = none → Q (.ref q) { s with heap := h', toks := tk' }) :
   wpAny (model prog w) (AC 340 430) (call (.ref 152) [.ref sa]) Q E s := by
  revert W st es nsa hd post
  revert prog w s h₀ E Q sa n d0 d1 d2 d3 d4 t0 t1 t2 t3 t4
  refine @(all_eps18 (neP neI (neP neW (neP neS (neP neI (neP neI (neP neI (neP neI (neP neI (neP neI (neP neI (neP neI (neP neI (neP neI (neP neI (neP neI (neP neI (neP neI neI))))))))))))))))) ?_)
  generalize @eps18 _ _ _ _ _ _ _ _ _ _ _ _ _ _ _ _ _ _ _ _ = zt
  generalize zt.1 = prog, zt.2.1 = w, zt.2.2.1 = s, zt.2.2.2.1 = h₀, zt.2.2.2.2.1 = E, zt.2.2.2.2.2.1 = Q, zt.2.2.2.2.2.2.1 = sa, zt.2.2.2.2.2.2.2.1 = n, zt.2.2.2.2.2.2.2.2.1 = d0, zt.2.2.2.2.2.2.2.2.2.1 = d1, zt.2.2.2.2.2.2.2.2.2.2.1 = d2, zt.2.2.2.2.2.2.2.2.2.2.2.1 = d3, zt.2.2.2.2.2.2.2.2.2.2.2.2.1 = d4, zt.2.2.2.2.2.2.2.2.2.2.2.2.2.1 = t0, zt.2.2.2.2.2.2.2.2.2.2.2.2.2.2.1 = t1, zt.2.2.2.2.2.2.2.2.2.2.2.2.2.2.2.1 = t2, zt.2.2.2.2.2.2.2.2.2.2.2.2.2.2.2.2.1 = t3, zt.2.2.2.2.2.2.2.2.2.2.2.2.2.2.2.2.2 = t4
  clear zt
  intro W st es nsa hd post
  refine enterP (args := ⟨[.ref sa], []⟩) W st (news := [(sa, listOf [Value.int d0 t0, Value.int d1 t1, Value.int d2 t2, Value.int d3 t3, Value.int d4 t4].toArray n)]) (binds := [(PySem.Str.ofString "drawn", .ref sa)]) (fun p hp => by rcases List.mem_cons.mp hp with rfl | hp; exact ⟨es, nsa⟩; exact nomatch hp) (by k_is) (by k_is) (by decide) (BindsTo.of_eq rfl) (locs rfl) ?_ rfl rfl rfl (by decide)
  refine pad0 ?_
  refine @(all_eps9 (neP neI (neP neI (neP neI (neP neI (neP neI (neP neI (neP neI (neP neI neI)))))))) ?_)
  generalize @eps9 _ _ _ _ _ _ _ _ _ _ _ = zt
  generalize zt.1 = zp0, zt.2.1 = g, zt.2.2.1 = h₁, zt.2.2.2.1 = tk, zt.2.2.2.2.1 = p, zt.2.2.2.2.2.1 = loose, zt.2.2.2.2.2.2.1 = mean, zt.2.2.2.2.2.2.2.1 = mg, zt.2.2.2.2.2.2.2.2 = mb
  clear zt
  clear zp0
  intro F N X T hg hl stg
  k_lt hl
  (with_reducible show wpAny _ _ _ _ _ _)
  k_fold
  repeat' (first | (k_unfold; (try dsimp only)) | (k_end; wrow_close) | walk1 | (dsimp only; walk1) | (leave1; walk_say "STEP leave1"; try dsimp only) | fail "no step")
  (with_reducible rename News _ _ _ _ => NN)
  (with_reducible rename Fr _ _ _ _ => FF)
  have e := NN.get (.head _)
  have hq := fresh_of hg (NN _ (.head _)).2.2 (fun h => by have := List.mem_singleton.mp h; exact absurd this.symm (by k_ne))
  exact post _ [_, _, _, _, _, _] _ _ _ (.cons _ _ (.cons _ _ (.cons _ _ (.cons _ _ (.cons _ _ (.cons _ _ .nil)))))) rfl (keeps_drop (keeps_of FF hg) es (NN.get (by k_mem))) e hq
end Mine
end

section
open PySem PySem.W PyProof.Rows PySem.Calls
set_option maxRecDepth 100000
set_option maxHeartbeats 8000000
namespace Mine
example : True := by
  w_top off
  k_with_none
  trivial
example : True := by first | walk1 | trivial
example : True := by
  k_with_none
  trivial
example : True := by
  k_with "eval ListComp" => ((k_here; k_dflt (refine LCg.ListComp_U (F₀ := by k_asm) (by rfl) (by decide) (by rfl) (by decide) (by rfl) ?_); k_dflt lcg_toSrc))
  k_with "eval ListComp" => ((k_here; k_dflt (refine ListComp_K (F₀ := by k_asm) (by rfl) (by rfl) (by intro; rfl) (by intro; rfl) (by intro _ _; rfl) (by decide) ?_)))
  k_with "CompSrc" => ((k_here; k_dflt (refine LCg.CompSrc.range (by rfl) (by k_asm) (by k_asm) (by assumption) (by first | decide | rfl) (by first | rfl | decide) (by exact Nat.le_of_ble_eq_true rfl) ?_; intro g'; lcg_lit)))
  k_with "CompEnd" => ((refine LCg.CompEnd.intro (by assumption) (by assumption) _ (fun _ hp => hp) (by simp only [LCg.Off3, and_true]; assumption) (by exact True.intro) ?_))
  trivial
theorem ElEnd.intro {h₀ : Heap} {L : Addr} {m : PySem.Str → Option Value} {s₂ : Shared} {own all : List (Addr × Obj)} {J : Value → Prop} {y : Value} {h : Heap} {tk : Nat} (F : Fr h₀ L h m) (N : News h₀ L h all) (sub : SubL own all) (j : J y) : ElEnd h₀ L m s₂ own J y { s₂ with heap := h, toks := tk } := ⟨h, tk, rfl, F, fun p hp => N p (sub.mem p hp), j⟩
/-- the i-th sign of a name, and a name of n signs -/
def nmI (d : Int) (i : Nat) : PySem.Str := Txt.item (PySem.Str.ofString "\"\\a ") (((d.fdiv 6).fdiv (4 ^ i)).fmod 4)
def nmS (d : Int) (n : Nat) : PySem.Str := Txt.join (PySem.Str.ofString "") ((List.range n).map (nmI d))
/-- the four names -/
def nm1 (d : Int) : PySem.Str := nmS d (1 + d.fmod 2).toNat
def nm2 (d : Int) : PySem.Str := nmS d (d.fmod 3).toNat
def nm3 (d : Int) : PySem.Str := nmS d (d.fmod 2).toNat
theorem c_names {prog : Program} {w : World} {s : Shared} {h₀ : Heap} {E : Value → Shared → Prop} {Q : Value → Shared → Prop} (W : Wd w h₀) (st : h₀.StaysIn s.heap) {sa : Addr} {n : Nat} {d0 d1 d2 d3 d4 : Int} {t0 t1 t2 t3 t4 : Tok}
   (es : s.heap.get? sa = some (listOf [Value.int d0 t0, Value.int d1 t1, Value.int d2 t2, Value.int d3 t3, Value.int d4 t4].toArray n)) (nsa : h₀.get? sa = none) (hd : (0 ≤ d0 ∧ d0 ≤ 400000) ∧ (0 ≤ d1 ∧ d1 ≤ 400000) ∧ (0 ≤ d2 ∧ d2 ≤ 400000) ∧ (0 ≤ d3 ∧ d3 ≤ 400000) ∧ (0 ≤ d4 ∧ d4 ≤ 400000))
   (post : ∀ q u1 u2 u3 u4 nq h' tk', Keeps s.heap h' [] → h'.get? q = some (listOf [Value.str (nm1 d1) u1, Value.str (nm2 d2) u2, Value.str (nm3 d3) u3, Value.str (nm3 d4) u4].toArray nq) → s.heap.get? q = none → Q (.ref q) { s with heap := h', toks := tk' }) :
   wpAny (model prog w) (AC 340 430) (call (.ref 142) [.ref sa]) Q E s := by
  revert W st es nsa hd post
  revert prog w s h₀ E Q sa n d0 d1 d2 d3 d4 t0 t1 t2 t3 t4
  refine @(all_eps18 (neP neI (neP neW (neP neS (neP neI (neP neI (neP neI (neP neI (neP neI (neP neI (neP neI (neP neI (neP neI (neP neI (neP neI (neP neI (neP neI (neP neI neI))))))))))))))))) ?_)
  generalize @eps18 _ _ _ _ _ _ _ _ _ _ _ _ _ _ _ _ _ _ _ _ = zt
  generalize zt.1 = prog, zt.2.1 = w, zt.2.2.1 = s, zt.2.2.2.1 = h₀, zt.2.2.2.2.1 = E, zt.2.2.2.2.2.1 = Q, zt.2.2.2.2.2.2.1 = sa, zt.2.2.2.2.2.2.2.1 = n, zt.2.2.2.2.2.2.2.2.1 = d0, zt.2.2.2.2.2.2.2.2.2.1 = d1, zt.2.2.2.2.2.2.2.2.2.2.1 = d2, zt.2.2.2.2.2.2.2.2.2.2.2.1 = d3, zt.2.2.2.2.2.2.2.2.2.2.2.2.1 = d4, zt.2.2.2.2.2.2.2.2.2.2.2.2.2.1 = t0, zt.2.2.2.2.2.2.2.2.2.2.2.2.2.2.1 = t1, zt.2.2.2.2.2.2.2.2.2.2.2.2.2.2.2.1 = t2, zt.2.2.2.2.2.2.2.2.2.2.2.2.2.2.2.2.1 = t3, zt.2.2.2.2.2.2.2.2.2.2.2.2.2.2.2.2.2 = t4
  clear zt
  intro W st es nsa hd post
  refine enterPC (args := ⟨[.ref sa], []⟩) W st (news := [(sa, listOf [Value.int d0 t0, Value.int d1 t1, Value.int d2 t2, Value.int d3 t3, Value.int d4 t4].toArray n)]) (binds := [(PySem.Str.ofString "drawn", .ref sa)]) (fun p hp => by rcases List.mem_cons.mp hp with rfl | hp; exact ⟨es, nsa⟩; exact nomatch hp) (by k_is) (by k_is) (by decide) (BindsTo.of_eq rfl) rfl (by decide +kernel) ?_ rfl rfl rfl
  refine @(all_eps9 (neP neI (neP neI (neP neI (neP neI (neP neI (neP neI (neP neI (neP neI neI)))))))) ?_)
  generalize @eps9 _ _ _ _ _ _ _ _ _ _ _ = zt
  generalize zt.1 = g, zt.2.1 = h₁, zt.2.2.1 = tk, zt.2.2.2.1 = cells, zt.2.2.2.2.1 = p, zt.2.2.2.2.2.1 = loose, zt.2.2.2.2.2.2.1 = mean, zt.2.2.2.2.2.2.2.1 = mg, zt.2.2.2.2.2.2.2.2 = mb
  clear zt
  intro F N Y X T hg hl stg
  k_lt hl
  k_cells Y
  (try simp only [List.cons_append, List.nil_append] at N)
  (with_reducible show wpAny _ _ _ _ _ _)
  k_fold
  repeat' (first | (k_unfold; (try dsimp only)) | (k_end; wrow_close) | walk1 | (dsimp only; walk1) | (leave1; walk_say "STEP leave1"; try dsimp only) | fail "no step")
  (with_reducible rename News _ _ _ _ => NN)
  (with_reducible rename Fr _ _ _ _ => FF)
  (rename IsRange _ _ _ _ _ _ _ _ => RR)
  refine ⟨_, _, _, _, _, _, 4, _, fun i ys => ys.length = i ∧ ∀ j, j < i → ∃ u, ys[j]? = some (Value.str (nmS ([d0, d1, d2, d3, d4].getD (1 + j) 0) ([1 + ([d0, d1, d2, d3, d4].getD (Int.toNat 1) 0).fmod 2, ([d0, d1, d2, d3, d4].getD (Int.toNat 2) 0).fmod 3, ([d0, d1, d2, d3, d4].getD (Int.toNat 3) 0).fmod 2, ([d0, d1, d2, d3, d4].getD (Int.toNat 4) 0).fmod 2].getD j 0).toNat) u), rfl, rfl, FF, NN, RR, by decide, by decide, by decide, ⟨rfl, fun j h => absurd h (Nat.not_lt_zero _)⟩, ?_, ?_⟩
  · clear NN FF RR
    intro i ys I C oC D kc ok t h tk E' hi hJ hok F N off
    have hN : ∀ y : PySem.Str, ∀ t : Tok, y = nmS ([d0, d1, d2, d3, d4].getD (1 + i) 0) ([1 + ([d0, d1, d2, d3, d4].getD (Int.toNat 1) 0).fmod 2, ([d0, d1, d2, d3, d4].getD (Int.toNat 2) 0).fmod 3, ([d0, d1, d2, d3, d4].getD (Int.toNat 3) 0).fmod 2, ([d0, d1, d2, d3, d4].getD (Int.toNat 4) 0).fmod 2].getD i 0).toNat → (ys ++ [Value.str y t]).length = i + 1 ∧ ∀ j, j < i + 1 → ∃ u, (ys ++ [Value.str y t])[j]? = some (Value.str (nmS ([d0, d1, d2, d3, d4].getD (1 + j) 0) ([1 + ([d0, d1, d2, d3, d4].getD (Int.toNat 1) 0).fmod 2, ([d0, d1, d2, d3, d4].getD (Int.toNat 2) 0).fmod 3, ([d0, d1, d2, d3, d4].getD (Int.toNat 3) 0).fmod 2, ([d0, d1, d2, d3, d4].getD (Int.toNat 4) 0).fmod 2].getD j 0).toNat) u) := by
      intro y t e
      refine ⟨by rw [List.length_append, hJ.1]; rfl, fun j hj => ?_⟩
      by_cases q : j < i
      · rw [List.getElem?_append_left (by rw [hJ.1]; exact q)]; exact hJ.2 j q
      · obtain rfl : j = i := by omega
        rw [List.getElem?_append_right (by rw [hJ.1]; exact Nat.le_refl _), hJ.1, Nat.sub_self, e]
        exact ⟨t, rfl⟩
    clear hJ
    (with_reducible show wpAny _ _ _ _ _ _)
    dsimp only
    repeat' (first | (k_unfold; (try dsimp only)) | (k_end; wrow_close) | (walk1; (try dsimp only)) | (dsimp only; walk1) | (leave1; walk_say "STEP leave1"; try dsimp only) | fail "no step")
    (rename IsRange _ _ _ _ _ _ _ _ => RR)
    have hsz : [1 + ([d0, d1, d2, d3, d4].getD (Int.toNat 1) 0).fmod 2, ([d0, d1, d2, d3, d4].getD (Int.toNat 2) 0).fmod 3, ([d0, d1, d2, d3, d4].getD (Int.toNat 3) 0).fmod 2, ([d0, d1, d2, d3, d4].getD (Int.toNat 4) 0).fmod 2].getD (0 + (i : Int)).toNat 0 = 0 ∨ [1 + ([d0, d1, d2, d3, d4].getD (Int.toNat 1) 0).fmod 2, ([d0, d1, d2, d3, d4].getD (Int.toNat 2) 0).fmod 3, ([d0, d1, d2, d3, d4].getD (Int.toNat 3) 0).fmod 2, ([d0, d1, d2, d3, d4].getD (Int.toNat 4) 0).fmod 2].getD (0 + (i : Int)).toNat 0 = 1 ∨ [1 + ([d0, d1, d2, d3, d4].getD (Int.toNat 1) 0).fmod 2, ([d0, d1, d2, d3, d4].getD (Int.toNat 2) 0).fmod 3, ([d0, d1, d2, d3, d4].getD (Int.toNat 3) 0).fmod 2, ([d0, d1, d2, d3, d4].getD (Int.toNat 4) 0).fmod 2].getD (0 + (i : Int)).toNat 0 = 2 := by
      obtain rfl | rfl | rfl | rfl : i = 0 ∨ i = 1 ∨ i = 2 ∨ i = 3 := by omega
      · show 1 + d1.fmod 2 = 0 ∨ 1 + d1.fmod 2 = 1 ∨ 1 + d1.fmod 2 = 2
        rw [Int.fmod_eq_emod_of_nonneg _ (by decide)]; omega
      · show d2.fmod 3 = 0 ∨ d2.fmod 3 = 1 ∨ d2.fmod 3 = 2
        rw [Int.fmod_eq_emod_of_nonneg _ (by decide)]; omega
      · show d3.fmod 2 = 0 ∨ d3.fmod 2 = 1 ∨ d3.fmod 2 = 2
        rw [Int.fmod_eq_emod_of_nonneg _ (by decide)]; omega
      · show d4.fmod 2 = 0 ∨ d4.fmod 2 = 1 ∨ d4.fmod 2 = 2
        rw [Int.fmod_eq_emod_of_nonneg _ (by decide)]; omega
    rcases hsz with e | e | e
    all_goals
      rw [e] at RR
      (try dsimp only)
      repeat' (first | (k_unfold; (try dsimp only)) | (k_end; wrow_close) | (walk1; (try dsimp only)) | (dsimp only; walk1) | (leave1; walk_say "STEP leave1"; try dsimp only) | fail "no step")
      (with_reducible rename News _ _ _ _ => NN)
      (with_reducible rename Fr _ _ _ _ => FF)
      refine ElEnd.intro FF NN (by k_subL) (hN _ _ ?_)
      have e3 : (1 + (0 + (i : Int))).toNat = 1 + i := by omega
      have hszi : [1 + ([d0, d1, d2, d3, d4].getD (Int.toNat 1) 0).fmod 2, ([d0, d1, d2, d3, d4].getD (Int.toNat 2) 0).fmod 3, ([d0, d1, d2, d3, d4].getD (Int.toNat 3) 0).fmod 2, ([d0, d1, d2, d3, d4].getD (Int.toNat 4) 0).fmod 2].getD (0 + (i : Int)).toNat 0 = [1 + ([d0, d1, d2, d3, d4].getD (Int.toNat 1) 0).fmod 2, ([d0, d1, d2, d3, d4].getD (Int.toNat 2) 0).fmod 3, ([d0, d1, d2, d3, d4].getD (Int.toNat 3) 0).fmod 2, ([d0, d1, d2, d3, d4].getD (Int.toNat 4) 0).fmod 2].getD i 0 := by rw [Int.zero_add, Int.toNat_natCast]
      rw [← hszi, e]
      (try rw [e3])
      rfl
  · clear NN FF RR
    rintro D h tk ys F N off hyl hJ
    match ys, hyl with
    | [y1, y2, y3, y4], _ =>
    obtain ⟨u1, e1⟩ := hJ.2 0 (by omega)
    obtain ⟨u2, e2⟩ := hJ.2 1 (by omega)
    obtain ⟨u3, e3⟩ := hJ.2 2 (by omega)
    obtain ⟨u4, e4⟩ := hJ.2 3 (by omega)
    obtain rfl : y1 = Value.str (nm1 d1) u1 := Option.some.inj e1
    obtain rfl : y2 = Value.str (nm2 d2) u2 := Option.some.inj e2
    obtain rfl : y3 = Value.str (nm3 d3) u3 := Option.some.inj e3
    obtain rfl : y4 = Value.str (nm3 d4) u4 := Option.some.inj e4
    clear e1 e2 e3 e4 hJ hyl
    have hDsa : (sa : Nat) ≠ D := off (sa, _) (by k_mem)
    dsimp only
    repeat' (first | (k_unfold; (try dsimp only)) | (k_end; wrow_close) | walk1 | (dsimp only; walk1) | (leave1; walk_say "STEP leave1"; try dsimp only) | fail "no step")
    (with_reducible rename News _ _ _ _ => NN)
    (with_reducible rename Fr _ _ _ _ => FF)
    have hq := fresh_of hg (NN _ (.head _)).2.2 (fun h => by have := List.mem_singleton.mp h; exact absurd this.symm (by k_ne))
    exact post _ _ _ _ _ _ _ _ (keeps_drop (keeps_of FF hg) es (NN.get (by k_mem))) (NN.get (.head _)) hq
end Mine
end

section
open PySem PySem.W PyProof.Rows PySem.Calls
set_option maxRecDepth 100000
set_option maxHeartbeats 8000000
namespace Mine
example : True := by
  w_top off
  k_with_none
  trivial
example : True := by first | walk1 | trivial
example : True := by
  k_with_none
  trivial
example : True := by
  k_with "eval ListComp" => ((k_here; k_dflt (refine ListComp_S (F₀ := by k_asm) (by rfl) (by decide) (by rfl) (by decide) (by rfl) ?_)))
  trivial
open PySem.Builtin PySem.Builtin.Str in
/-- str.replace, and the count of tokens does not fall -/
theorem replaceM {prog : Program} {w : World} {A : Around} {E : Value → Shared → Prop} {s : Shared} {x y z : PySem.Str} {t u v : Tok} {Q : Value → Shared → Prop} (hu : u ≠ 0) (hv : v ≠ 0) (huv : u ≠ v) (hyz : (y == z) = false) (hx : x.length ≤ 1000) (hz : z.length ≤ 14)
    (hq : ∀ t' k, s.toks ≤ k → Q (.str (Txt.replace x y z) t') { s with toks := k }) : wpAny (model prog w) A (call (.builtin "str.replace") [.str x t, .str y u, .str z v]) Q E s := by
  have hb : x.length + (x.length + 1) * z.length ≤ 16777216 := by
    have h1 : (x.length + 1) * z.length ≤ (x.length + 1) * 14 := Nat.mul_le_mul_left _ hz
    omega
  have hocc : (occurrences x y 0 x.length (x.length + 1)).length * z.length ≤ (x.length + 1) * z.length := Nat.mul_le_mul_right _ (StrLaws.occ_length_le x y 0 x.length (x.length + 1))
  refine call_gives F.slot_str_replace (typeIs_str _ _ _) F.entry_str_replace (F.args_str_replace_3 _ _ _)
    (gives_str_replace x y z t u v fun _ => ⟨by simp [hu, hv], by simp [huv], hyz, decide_eq_false (by rw [sizeLine_eq]; omega)⟩) ?_
  have hq' := hq
  unfold Txt.replace at hq'
  cases hc : ((occurrences x y 0 x.length (x.length + 1)).isEmpty || (y.length == 0 && z.length == 0)) <;> rw [hc] at hq' <;> simp only [Bool.false_eq_true, if_false, if_true] at hq' ⊢
  · exact ⟨fits_replaced y hb, hq' _ _ (Nat.le_succ _)⟩
  · exact hq' t s.toks (Nat.le_refl _)
example : True := by
  k_with "call builtin:str.replace" => ((k_here; k_dflt (refine replaceM (neN (by omega)) (neN (by omega)) (neN (by omega)) (by decide +kernel) (by omega) (by decide +kernel) ?_); intro t' k' hk'; (try dsimp only at hk'); (try dsimp only)))
  trivial
theorem strs_of {f : Nat → PySem.Str} : ∀ {cs : List Nat} {ys : List Value}, ys.length = cs.length → (∀ (j : Nat) v, ys[j]? = some v → ∃ c u, cs[j]? = some c ∧ v = Value.str (f c) u) → StrsAre ys (cs.map f)
  | [], [], _, _ => .nil
  | [], _ :: _, h, _ => nomatch h
  | _ :: _, [], h, _ => nomatch h
  | c :: cs, y :: ys, h, hY => by
    obtain ⟨c', u, e, rfl⟩ := hY 0 y rfl
    obtain rfl : c = c' := Option.some.inj e
    exact .cons _ _ (strs_of (Nat.succ.inj h) fun j v e => hY (j + 1) v e)
theorem sum_sp {cs : List Nat} : ((cs.map fun c => PySem.Str.ofString "\\" ++ (⟨#[c]⟩ : PySem.Str)).map (·.length)).sum = 2 * cs.length := by
  induction cs with
  | nil => rfl
  | cons c cs ih =>
    rw [List.map_cons, List.map_cons, List.sum_cons, ih, List.length_cons]
    have : (PySem.Str.ofString "\\" ++ (⟨#[c]⟩ : PySem.Str)).length = 2 := by
      show ((PySem.Str.ofString "\\").cps ++ #[c]).size = 2
      rw [Array.size_append]
      have : (PySem.Str.ofString "\\").cps.size = 1 := by decide +kernel
      rw [this]; rfl
    rw [this]; omega
theorem glue_fold : ∀ (l : List PySem.Str) (a : Array Nat), l.foldl (fun acc p => acc ++ (PySem.Str.ofString "").cps ++ p.cps) a = a ++ (l.flatMap fun p => p.cps.toList).toArray
  | [], a => by simp
  | p :: r, a => by
    have e : (PySem.Str.ofString "").cps = #[] := by decide +kernel
    rw [List.foldl_cons, glue_fold r, List.flatMap_cons, e]
    apply Array.ext'
    simp
/-- ''.join -/
theorem join_eq (l : List PySem.Str) : Txt.join (PySem.Str.ofString "") l = ⟨(l.flatMap fun p => p.cps.toList).toArray⟩ := by
  show PySem.Builtin.Str.glued (PySem.Str.ofString "") l = _
  unfold PySem.Builtin.Str.glued
  rw [glue_fold]
  cases l with
  | nil => rfl
  | cons p r =>
    congr 1
    apply Array.ext'
    simp
theorem sp_codes (cs : List Nat) : ((cs.map fun c => PySem.Str.ofString "\\" ++ (⟨#[c]⟩ : PySem.Str)).flatMap fun p => p.cps.toList) = cs.flatMap fun c => [92, c] := by
  induction cs with
  | nil => rfl
  | cons c cs ih =>
    rw [List.map_cons, List.flatMap_cons, List.flatMap_cons, ih]
    have : ((PySem.Str.ofString "\\" ++ (⟨#[c]⟩ : PySem.Str)).cps.toList) = [92, c] := by
      show ((PySem.Str.ofString "\\").cps ++ #[c]).toList = _
      have : (PySem.Str.ofString "\\").cps = #[92] := by decide +kernel
      rw [this]; rfl
    rw [this]
theorem sp_len (cs : List Nat) : (cs.flatMap fun c => [92, c]).length = 2 * cs.length := by
  induction cs with
  | nil => rfl
  | cons c cs ih => rw [List.flatMap_cons, List.length_append, ih, List.length_cons]; simp; omega
/-- a word as the law spells it -/
def spellL (word : List Nat) (b : Int) : List Nat := if b = 1 then word.flatMap (fun c => [92, c]) ++ [9] else 34 :: (word.flatMap (fun c => if c = 34 ∨ c = 92 then [92, c] else [c]) ++ [34, 10])
theorem c_spell0 {prog : Program} {w : World} {s : Shared} {h₀ : Heap} {E : Value → Shared → Prop} {Q : Value → Shared → Prop} (W : Wd w h₀) (st : h₀.StaysIn s.heap) {x : PySem.Str} {t u : Tok} (hlen : x.length ≤ 40)
   (hl1 : (Txt.replace x (PySem.Str.ofString "\\") (PySem.Str.ofString "\\\\")).length ≤ 100) (hl2 : (Txt.replace (Txt.replace x (PySem.Str.ofString "\\") (PySem.Str.ofString "\\\\")) (PySem.Str.ofString "\"") (PySem.Str.ofString "\\\"")).length ≤ 200)
   (post : ∀ t' h' tk', Keeps s.heap h' [] → Q (.str (PySem.Str.ofString "\"" ++ Txt.replace (Txt.replace x (PySem.Str.ofString "\\") (PySem.Str.ofString "\\\\")) (PySem.Str.ofString "\"") (PySem.Str.ofString "\\\"") ++ PySem.Str.ofString "\"\n") t') { s with heap := h', toks := tk' }) :
   wpAny (model prog w) (AC 340 430) (call (.ref 157) [.str x t, .int 0 u]) Q E s := by
  refine enterP (args := ⟨[.str x t, .int 0 u], []⟩) W st (news := []) (binds := [(PySem.Str.ofString "word", .str x t), (PySem.Str.ofString "bare", .int 0 u)]) (fun _ h => nomatch h) (by k_is) (by k_is) (by decide) (BindsTo.of_eq rfl) (locs rfl) ?_ rfl rfl rfl (by decide)
  intro g h₁ tk p loose mean mg mb F N X T hg hl stg
  (with_reducible show wpAny _ _ _ _ _ _)
  k_fold
  repeat' (first | (k_unfold; (try dsimp only)) | (k_end; wrow_close) | walk1 | (dsimp only; walk1) | (leave1; walk_say "STEP leave1"; try dsimp only) | fail "no step")
  (with_reducible rename News _ _ _ _ => NN)
  (with_reducible rename Fr _ _ _ _ => FF)
  exact post _ _ _ (keeps_of FF hg)
theorem c_spell1 {prog : Program} {w : World} {s : Shared} {h₀ : Heap} {E : Value → Shared → Prop} {Q : Value → Shared → Prop} (W : Wd w h₀) (st : h₀.StaysIn s.heap) {x : PySem.Str} {t u : Tok} (hlen : x.length ≤ 40)
   (post : ∀ t' h' tk', Keeps s.heap h' [] → Q (.str (⟨(x.cps.toList.flatMap fun c => [92, c]).toArray⟩ ++ PySem.Str.ofString "\t") t') { s with heap := h', toks := tk' }) :
   wpAny (model prog w) (AC 340 430) (call (.ref 157) [.str x t, .int 1 u]) Q E s := by
  refine enterP (args := ⟨[.str x t, .int 1 u], []⟩) W st (news := []) (binds := [(PySem.Str.ofString "word", .str x t), (PySem.Str.ofString "bare", .int 1 u)]) (fun _ h => nomatch h) (by k_is) (by k_is) (by decide) (BindsTo.of_eq rfl) (locs rfl) ?_ rfl rfl rfl (by decide)
  intro g h₁ tk p loose mean mg mb F N X T hg hl stg
  (with_reducible show wpAny _ _ _ _ _ _)
  k_fold
  repeat' (first | (k_unfold; (try dsimp only)) | (k_end; wrow_close) | walk1 | (dsimp only; walk1) | (leave1; walk_say "STEP leave1"; try dsimp only) | fail "no step")
  (with_reducible rename News _ _ _ _ => NN)
  (with_reducible rename Fr _ _ _ _ => FF)
  refine ⟨x, t, _, fun i y => ∃ c u, x.cps[i]? = some c ∧ y = .str (PySem.Str.ofString "\\" ++ ⟨#[c]⟩) u, rfl, by have : x.cps.size ≤ 40 := hlen; rw [PySem.sizeLine_eq]; omega, rfl, FF, NN, ?_, ?_⟩
  · clear FF NN
    intro i c u' C oC m₂ h tk E' hc hoC hm F N
    (with_reducible show wpAny _ _ _ _ _ _)
    repeat' (first | (k_unfold; (try dsimp only)) | (k_end; wrow_close) | walk1 | (dsimp only; walk1) | (leave1; walk_say "STEP leave1"; try dsimp only) | fail "no step")
  · clear FF NN
    intro D h tk ys F N off hyl hY
    have hS : StrsAre ys (x.cps.toList.map fun c => PySem.Str.ofString "\\" ++ ⟨#[c]⟩) := strs_of (by rw [hyl]; rfl) fun j v e => by
      obtain ⟨c, u, e1, e2⟩ := hY j v e
      exact ⟨c, u, by rw [Array.getElem?_toList]; exact e1, e2⟩
    have hxl : x.cps.toList.length ≤ 40 := hlen
    dsimp only
    repeat' (first | (k_unfold; (try dsimp only)) | (k_end; wrow_close) | walk1 | (dsimp only; walk1) | (leave1; walk_say "STEP leave1"; try dsimp only) | fail "no step")
    refine join_listW (News.isList N (.head _)) hS (by decide +kernel) (by rw [sum_sp, List.length_map]; omega) ?_
    intro t' k'
    dsimp only
    have hjl : (⟨(x.cps.toList.flatMap fun c => [92, c]).toArray⟩ : PySem.Str).length ≤ 200 := by
      show ((x.cps.toList.flatMap fun c => [92, c]).toArray).size ≤ 200
      rw [List.size_toArray, sp_len]; omega
    rw [join_eq, sp_codes]
    repeat' (first | (k_unfold; (try dsimp only)) | (k_end; wrow_close) | walk1 | (dsimp only; walk1) | (leave1; walk_say "STEP leave1"; try dsimp only) | fail "no step")
    (with_reducible rename News _ _ _ _ => NN)
    (with_reducible rename Fr _ _ _ _ => FF)
    exact post _ _ _ (keeps_of FF hg)
end Mine
end

section
open PySem PySem.W PyProof.Rows PySem.Calls
set_option maxRecDepth 100000
set_option maxHeartbeats 8000000
namespace Mine
example : True := by
  w_top off
  k_with_none
  trivial
example : True := by first | walk1 | trivial
/-- the possible names -/
def allN : List (List Nat) := [] :: ([34, 92, 97, 32].map fun a => [a]) ++ [34, 92, 97, 32].flatMap fun a => [34, 92, 97, 32].map fun b => [a, b]
/-- the reply that tells a name -/
def qL (name : List Nat) : PySem.Str := ⟨([50, 53, 55, 32, 34] ++ dbl name ++ [34]).toArray⟩
/-- the possible words -/
def allW : List PySem.Str := ([-2, -1, 0, 1, 2, 3, 4].map pL) ++ allN.map qL
theorem q_made : ∀ l ∈ allN, (PySem.Str.ofString "257 \"" ++ Txt.replace ⟨l.toArray⟩ (PySem.Str.ofString "\"") (PySem.Str.ofString "\"\"") ++ PySem.Str.ofString "\"") = qL l := by decide +kernel
theorem q_slice : ∀ l ∈ allN, (qL l).length ≤ 100 ∧ l.length ≤ 2 ∧ Txt.slice (qL l) none (some 3) = sT "257" ∧ Txt.slice (qL l) (some 3) (some 5) = sT " \"" := by decide +kernel
theorem q_rep : ∀ l ∈ allN, (⟨l.toArray⟩ : PySem.Str).length ≤ 2 ∧ (Txt.replace ⟨l.toArray⟩ (PySem.Str.ofString "\"") (PySem.Str.ofString "\"\"")).length ≤ 4 := by decide +kernel
theorem w_len : ∀ x ∈ allW, x.length ≤ 40 ∧ (Txt.replace x (PySem.Str.ofString "\\") (PySem.Str.ofString "\\\\")).length ≤ 100 ∧ (Txt.replace (Txt.replace x (PySem.Str.ofString "\\") (PySem.Str.ofString "\\\\")) (PySem.Str.ofString "\"") (PySem.Str.ofString "\\\"")).length ≤ 200 := by decide +kernel
theorem w_sp : ∀ x ∈ allW, PySem.Str.ofString "\"" ++ Txt.replace (Txt.replace x (PySem.Str.ofString "\\") (PySem.Str.ofString "\\\\")) (PySem.Str.ofString "\"") (PySem.Str.ofString "\\\"") ++ PySem.Str.ofString "\"\n" = ⟨(spellL x.cps.toList 0).toArray⟩ := by decide +kernel
theorem w_sp1 : ∀ x ∈ allW, (⟨(x.cps.toList.flatMap fun c => [92, c]).toArray⟩ : PySem.Str) ++ PySem.Str.ofString "\t" = ⟨(spellL x.cps.toList 1).toArray⟩ := by decide +kernel
theorem w_ten : ∀ x ∈ allW, (∀ c ∈ x.cps.toList, c ≠ 10) ∧ x.cps.toList ≠ [] ∧ x.cps.toList.length ≤ 40 := by decide +kernel
theorem w_spl : ∀ x ∈ allW, (spellL x.cps.toList 0).length ≤ 100 ∧ (spellL x.cps.toList 1).length ≤ 100 := by decide +kernel
def chN : List Nat := [34, 92, 97, 32]
theorem item_ch {i : Int} (h : i = 0 ∨ i = 1 ∨ i = 2 ∨ i = 3) : ∃ c, c ∈ chN ∧ Txt.item (PySem.Str.ofString "\"\\a ") i = ⟨#[c]⟩ := by
  rcases h with rfl | rfl | rfl | rfl
  · exact ⟨34, by decide, by decide +kernel⟩
  · exact ⟨92, by decide, by decide +kernel⟩
  · exact ⟨97, by decide, by decide +kernel⟩
  · exact ⟨32, by decide, by decide +kernel⟩
theorem nmI_ch (d : Int) (i : Nat) : ∃ c, c ∈ chN ∧ nmI d i = ⟨#[c]⟩ := item_ch (by rw [Int.fmod_eq_emod_of_nonneg _ (by decide)]; omega)
theorem in1 : ∀ a ∈ chN, [a] ∈ allN := by decide
theorem in2 : ∀ a ∈ chN, ∀ b ∈ chN, [a, b] ∈ allN := by decide
theorem nmS_is (d : Int) {n : Nat} (hn : n ≤ 2) : ∃ l, l ∈ allN ∧ nmS d n = ⟨l.toArray⟩ ∧ l.length = n := by
  obtain ⟨c, hc, e⟩ := nmI_ch d 0
  obtain ⟨c', hc', e'⟩ := nmI_ch d 1
  unfold nmS
  rw [join_eq]
  obtain rfl | rfl | rfl : n = 0 ∨ n = 1 ∨ n = 2 := by omega
  · exact ⟨[], by decide, rfl, rfl⟩
  · refine ⟨[c], in1 c hc, ?_, rfl⟩
    show (⟨(List.flatMap (fun p : PySem.Str => p.cps.toList) [nmI d 0]).toArray⟩ : PySem.Str) = _
    rw [e]; rfl
  · refine ⟨[c, c'], in2 c hc c' hc', ?_, rfl⟩
    show (⟨(List.flatMap (fun p : PySem.Str => p.cps.toList) [nmI d 0, nmI d 1]).toArray⟩ : PySem.Str) = _
    rw [e, e']; rfl
theorem c_spell {prog : Program} {w : World} {s : Shared} {h₀ : Heap} {E : Value → Shared → Prop} {Q : Value → Shared → Prop} (W : Wd w h₀) (st : h₀.StaysIn s.heap) {x : PySem.Str} {t u : Tok} {b : Int} (hx : x ∈ allW) (hb : b = 0 ∨ b = 1)
   (post : ∀ t' h' tk', Keeps s.heap h' [] → Q (.str ⟨(spellL x.cps.toList b).toArray⟩ t') { s with heap := h', toks := tk' }) :
   wpAny (model prog w) (AC 340 430) (call (.ref 157) [.str x t, .int b u]) Q E s := by
  obtain ⟨l1, l2, l3⟩ := w_len x hx
  rcases hb with rfl | rfl
  · refine c_spell0 W st l1 l2 l3 fun t' h' tk' k => ?_
    rw [w_sp x hx]; exact post t' h' tk' k
  · refine c_spell1 W st l1 fun t' h' tk' k => ?_
    rw [w_sp1 x hx]; exact post t' h' tk' k
end Mine
end

section
open PySem PySem.W PyProof.Rows PySem.Calls
set_option maxRecDepth 100000
set_option maxHeartbeats 8000000
namespace Mine
example : True := by
  w_top off
  k_with_none
  trivial
example : True := by first | walk1 | trivial
example : True := by
  k_with_none
  trivial
section
variable {prog : Program} {w : World} {A : Around} {E : Value → Shared → Prop} {Q : Value → Shared → Prop} {s : Shared} {g : Heap} {p : Program} {loose : List PySem.Str} {mean : ExcName → Option Value} {mg mb : PySem.Str → Option Value} {L : Addr} {m : PySem.Str → Option Value} {news : List (Addr × Obj)}
/-- a new object of a contract joins the ledger -/
theorem ledgerN {h' : Heap} {q : Addr} {o : Obj} (F : Fr g L s.heap m) (N : News g L s.heap news) (k : Keeps s.heap h' []) (e : h'.get? q = some o) (hq : s.heap.get? q = none) : Fr g L h' m ∧ News g L h' ((q, o) :: news) ∧ ∀ p ∈ news, q ≠ p.1 := by
  obtain ⟨F', N'⟩ := ledger0 F N k
  obtain ⟨oL, es, ep, hL, hLd, hLk, hLf⟩ := F.ns
  refine ⟨F', fun p hp => ?_, fun p hp e' => ?_⟩
  · rcases List.mem_cons.mp hp with rfl | hp
    · refine ⟨e, fun q' => ?_, ?_⟩
      · subst q'; rw [hL] at hq; cases hq
      · cases z : g.get? q with
        | none => rfl
        | some o => have := F.keep _ _ z; rw [hq] at this; cases this
    · exact N' p hp
  · subst e'; rw [(N _ hp).1] at hq; cases hq
theorem r_names {sa : Addr} {n : Nat} {d0 d1 d2 d3 d4 : Int} {t0 t1 t2 t3 t4 : Tok} (F : Fr g L s.heap m) (N : News g L s.heap news) (X : (lawTop.heap_39 w.params).In g) (T : Top p loose mean mg mb g)
   (es : (sa, listOf [Value.int d0 t0, Value.int d1 t1, Value.int d2 t2, Value.int d3 t3, Value.int d4 t4].toArray n) ∈ news) (hd : (0 ≤ d0 ∧ d0 ≤ 400000) ∧ (0 ≤ d1 ∧ d1 ≤ 400000) ∧ (0 ≤ d2 ∧ d2 ≤ 400000) ∧ (0 ≤ d3 ∧ d3 ≤ 400000) ∧ (0 ≤ d4 ∧ d4 ≤ 400000)) (hA1 : A.handled = none) (hA2 : A.depth ≤ 340) (hA3 : A.units ≤ 430)
   (post : ∀ q u1 u2 u3 u4 nq h' tk', Fr g L h' m → News g L h' ((q, listOf [Value.str (nm1 d1) u1, Value.str (nm2 d2) u2, Value.str (nm3 d3) u3, Value.str (nm3 d4) u4].toArray nq) :: news) → (∀ p ∈ news, q ≠ p.1) → Q (.ref q) { s with heap := h', toks := tk' }) :
   wpAny (model prog w) A (call (.ref 142) [.ref sa]) Q E s :=
  weaken (c_names ⟨X, _, _, _, _, _, T⟩ F.keep (N _ es).1 (N _ es).2.2 hd fun q u1 u2 u3 u4 nq h' tk' k e hq => let ⟨F', N', o⟩ := ledgerN F N k e hq; post q u1 u2 u3 u4 nq h' tk' F' N' o) hA1 hA2 hA3
end
theorem nab7 (a : Int) : (a.fmod 7 - 2).natAbs < 10 ^ 9 := by rw [Int.fmod_eq_emod_of_nonneg _ (by decide)]; omega
theorem nab4 (a : Int) : (a.fmod 4 - 1).natAbs < 10 ^ 9 := by rw [Int.fmod_eq_emod_of_nonneg _ (by decide)]; omega
example : True := by
  k_with "binaryOp Add ref ref" => ((k_here; k_dflt (refine add_K (by k_asm) (by k_asm) (by k_mem) (by k_mem) (by (simp only [List.length_cons, List.length_nil]); omega) ?_); intro D' h' F' N' l1; (try k_lt l1); (try k_sweep)))
  k_with "call ref" => ((k_here; k_dflt (first
  | (refine r_port (by k_asm) (by k_asm) (by k_asm) (by k_asm) (by first | exact nab7 _ | exact nab4 _ | omega) rfl (Nat.le_of_ble_eq_true rfl) (Nat.le_of_ble_eq_true rfl) ?_; intro t1' h' tk' F' N'; (try k_sweep))
  | (refine r_names (by k_asm) (by k_asm) (by k_asm) (by k_asm) (by k_mem) (by assumption) rfl (Nat.le_of_ble_eq_true rfl) (Nat.le_of_ble_eq_true rfl) ?_; intro q' u1' u2' u3' u4' nq' h' tk' F' N' ne'; (have ne9' := allNe_of ne'); (simp only [AllNe, and_true] at ne9'); (try k_sweep)))))
  k_with "call builtin:str.replace" => ((k_here; k_dflt (refine replaceM (neN (by omega)) (neN (by omega)) (neN (by omega)) (by decide +kernel) (by omega) (by decide +kernel) ?_); intro t' k' hk'; (try dsimp only at hk'); (try dsimp only)))
  k_with "eval ListComp" => ((k_here; k_dflt (refine LCg.ListComp_U (F₀ := by k_asm) (by rfl) (by decide) (by rfl) (by decide) (by rfl) ?_); k_dflt lcg_toSrc))
  k_with "m_memR" => ((first | (with_reducible apply mem_h) | (with_reducible apply mem_t; k_extra "m_memR")))
  k_with "m_ne" => (((try dsimp only); (first
  | ((with_reducible rename Offs _ _ _ _ => zo); (first | (with_reducible apply offI zo; k_extra "m_memR") | (with_reducible apply offC zo; k_extra "m_memR") | (with_reducible apply offD zo; k_extra "m_memR") | (with_reducible apply offI' zo; k_extra "m_memR") | (with_reducible apply offC' zo; k_extra "m_memR") | (with_reducible apply offD' zo; k_extra "m_memR")))
  | ((with_reducible rename Ne3 _ _ _ => zn); (with_reducible first | apply ne3_1 zn | apply ne3_2 zn | apply ne3_3 zn | apply ne3_4 zn | apply ne3_5 zn | apply ne3_6 zn))
  | ((with_reducible apply offO (by with_reducible assumption) (by k_extra "m_memR")))
  | ((with_reducible apply offO' (by with_reducible assumption) (by k_extra "m_memR")))
  | ((with_reducible apply neOf (by with_reducible assumption) (by k_extra "m_memR")))
  | ((with_reducible apply neOf' (by with_reducible assumption) (by k_extra "m_memR")))
  | (apply neN; omega))))
  k_with "CompRest" => ((with_unfolding_all first
  | (refine LCg.CompRest.succ ?_; intro v' I' oI' C' oC' D' m' h' tk' E' hv' hC' hx' F' N' off' ne'; (first | lcg_open hv' | (obtain ⟨t9', hv9'⟩ := hv'; subst hv9')); (have zof' := offs_of off'); (clear off'); (simp only [List.map_cons, List.map_nil] at zof'); (have zne' := ne3_of ne'); (clear ne'))
  | refine LCg.CompRest.zero ?_))
  k_with "FinE" => (((unfold LCg.FinE); intro D' h' tk' F' N' o1'; (have o2' := offo_of o1'); (clear o1'); (simp only [List.map_cons, List.map_nil] at o2'); (try simp only [List.nil_append, List.cons_append] at N'); (try dsimp only)))
  k_with "FinA" => (((unfold LCg.FinA); intro D' h' tk' F' N' o1'; (have o2' := offo_of o1'); (clear o1'); (simp only [List.map_cons, List.map_nil] at o2'); (try simp only [List.nil_append, List.cons_append] at N'); (try dsimp only)))
  k_with "CompEnd" => (((first
  | (refine' compEnd0 (by with_reducible assumption) (by assumption) (by with_reducible assumption) (by rfl) (by first | exact True.intro | assumption | exact Or.inl (by assumption) | (apply srcAt; k_mem)) ?_)
  | (refine' compEnd1 (by with_reducible assumption) (by assumption) (by with_reducible assumption) (by rfl) (by first | exact True.intro | assumption | exact Or.inl (by assumption) | (apply srcAt; k_mem)) ?_)
  | (refine' compEnd2 (by with_reducible assumption) (by assumption) (by with_reducible assumption) (by rfl) (by first | exact True.intro | assumption | exact Or.inl (by assumption) | (apply srcAt; k_mem)) ?_)); ((with_reducible rename Offs _ _ _ _ => zof); clear zof); ((with_reducible rename Ne3 _ _ _ => zne); (clear zne))))
  trivial
theorem c_replies {prog : Program} {w : World} {s : Shared} {h₀ : Heap} {E : Value → Shared → Prop} {Q : Value → Shared → Prop} (W : Wd w h₀) (st : h₀.StaysIn s.heap) {sa : Addr} {n : Nat} {d0 d1 d2 d3 d4 : Int} {t0 t1 t2 t3 t4 : Tok}
   (es : s.heap.get? sa = some (listOf [Value.int d0 t0, Value.int d1 t1, Value.int d2 t2, Value.int d3 t3, Value.int d4 t4].toArray n)) (nsa : h₀.get? sa = none) (hd : (0 ≤ d0 ∧ d0 ≤ 400000) ∧ (0 ≤ d1 ∧ d1 ≤ 400000) ∧ (0 ≤ d2 ∧ d2 ≤ 400000) ∧ (0 ≤ d3 ∧ d3 ≤ 400000) ∧ (0 ≤ d4 ∧ d4 ≤ 400000))
   {l1 l2 l3 l4 : List Nat} (e1 : nm1 d1 = ⟨l1.toArray⟩) (e2 : nm2 d2 = ⟨l2.toArray⟩) (e3 : nm3 d3 = ⟨l3.toArray⟩) (e4 : nm3 d4 = ⟨l4.toArray⟩) (i1 : l1 ∈ allN) (i2 : l2 ∈ allN) (i3 : l3 ∈ allN) (i4 : l4 ∈ allN)
   (post : ∀ q u1 u2 u3 u4 u5 u6 nq h' tk', Keeps s.heap h' [] → h'.get? q = some (listOf [Value.str (pL (d0.fmod 7 - 2)) u1, Value.str (pL ((d0.fdiv 7).fmod 4 - 1)) u2, Value.str (qL l1) u3, Value.str (qL l2) u4, Value.str (qL l3) u5, Value.str (qL l4) u6].toArray nq) → s.heap.get? q = none → Q (.ref q) { s with heap := h', toks := tk' }) :
   wpAny (model prog w) (AC 325 380) (call (.ref 147) [.ref sa]) Q E s := by
  revert W st es nsa hd e1 e2 e3 e4 i1 i2 i3 i4 post
  revert prog w s h₀ E Q sa n d0 d1 d2 d3 d4 t0 t1 t2 t3 t4 l1 l2 l3 l4
  refine @(all_eps22 (neP neI (neP neW (neP neS (neP neI (neP neI (neP neI (neP neI (neP neI (neP neI (neP neI (neP neI (neP neI (neP neI (neP neI (neP neI (neP neI (neP neI (neP neI (neP neI (neP neI (neP neI neI))))))))))))))))))))) ?_)
  generalize @eps22 _ _ _ _ _ _ _ _ _ _ _ _ _ _ _ _ _ _ _ _ _ _ _ _ = zt
  generalize zt.1 = prog, zt.2.1 = w, zt.2.2.1 = s, zt.2.2.2.1 = h₀, zt.2.2.2.2.1 = E, zt.2.2.2.2.2.1 = Q, zt.2.2.2.2.2.2.1 = sa, zt.2.2.2.2.2.2.2.1 = n, zt.2.2.2.2.2.2.2.2.1 = d0, zt.2.2.2.2.2.2.2.2.2.1 = d1, zt.2.2.2.2.2.2.2.2.2.2.1 = d2, zt.2.2.2.2.2.2.2.2.2.2.2.1 = d3, zt.2.2.2.2.2.2.2.2.2.2.2.2.1 = d4, zt.2.2.2.2.2.2.2.2.2.2.2.2.2.1 = t0, zt.2.2.2.2.2.2.2.2.2.2.2.2.2.2.1 = t1, zt.2.2.2.2.2.2.2.2.2.2.2.2.2.2.2.1 = t2, zt.2.2.2.2.2.2.2.2.2.2.2.2.2.2.2.2.1 = t3, zt.2.2.2.2.2.2.2.2.2.2.2.2.2.2.2.2.2.1 = t4, zt.2.2.2.2.2.2.2.2.2.2.2.2.2.2.2.2.2.2.1 = l1, zt.2.2.2.2.2.2.2.2.2.2.2.2.2.2.2.2.2.2.2.1 = l2, zt.2.2.2.2.2.2.2.2.2.2.2.2.2.2.2.2.2.2.2.2.1 = l3, zt.2.2.2.2.2.2.2.2.2.2.2.2.2.2.2.2.2.2.2.2.2 = l4
  clear zt
  intro W st es nsa hd e1 e2 e3 e4 i1 i2 i3 i4 post
  refine enterP (args := ⟨[.ref sa], []⟩) W st (news := [(sa, listOf [Value.int d0 t0, Value.int d1 t1, Value.int d2 t2, Value.int d3 t3, Value.int d4 t4].toArray n)]) (binds := [(PySem.Str.ofString "drawn", .ref sa)]) (fun p hp => by rcases List.mem_cons.mp hp with rfl | hp; exact ⟨es, nsa⟩; exact nomatch hp) (by k_is) (by k_is) (by decide) (BindsTo.of_eq rfl) (locs rfl) ?_ rfl rfl rfl (by decide)
  refine pad0 ?_
  refine @(all_eps9 (neP neI (neP neI (neP neI (neP neI (neP neI (neP neI (neP neI (neP neI neI)))))))) ?_)
  generalize @eps9 _ _ _ _ _ _ _ _ _ _ _ = zt
  generalize zt.1 = zp0, zt.2.1 = g, zt.2.2.1 = h₁, zt.2.2.2.1 = tk, zt.2.2.2.2.1 = p, zt.2.2.2.2.2.1 = loose, zt.2.2.2.2.2.2.1 = mean, zt.2.2.2.2.2.2.2.1 = mg, zt.2.2.2.2.2.2.2.2 = mb
  clear zt
  clear zp0
  intro F N X T hg hl stg
  k_lt hl
  have r1 := q_rep l1 i1
  have r2 := q_rep l2 i2
  have r3 := q_rep l3 i3
  have r4 := q_rep l4 i4
  (with_reducible show wpAny _ _ _ _ _ _)
  k_fold
  repeat' (first | (k_unfold; (try dsimp only)) | (simp only [e1, e2, e3, e4]) | (k_end; wrow_close) | walk1 | (dsimp only; walk1) | (leave1; walk_say "STEP leave1"; try dsimp only) | fail "no step")
  (with_reducible rename News _ _ _ _ => NN)
  (with_reducible rename Fr _ _ _ _ => FF)
  have hq := fresh_of hg (NN _ (.head _)).2.2 (fun h => by have := List.mem_singleton.mp h; exact absurd this.symm (by k_ne))
  have e9 := NN.get (.head _)
  rw [q_made l1 i1, q_made l2 i2, q_made l3 i3, q_made l4 i4] at e9
  exact post _ _ _ _ _ _ _ _ _ _ (keeps_drop (keeps_of FF hg) es (NN.get (by k_mem))) e9 hq
end Mine
end

section
open PySem PySem.W PyProof.Rows PySem.Calls
set_option maxRecDepth 100000
set_option maxHeartbeats 8000000
namespace Mine
example : True := by
  w_top off
  k_with_none
  trivial
example : True := by first | walk1 | trivial
section
variable {prog : Program} {w : World} {A : Around} {E : Value → Shared → Prop} {Q : Value → Shared → Prop} {s : Shared} {g : Heap} {p : Program} {loose : List PySem.Str} {mean : ExcName → Option Value} {mg mb : PySem.Str → Option Value} {L : Addr} {m : PySem.Str → Option Value} {news : List (Addr × Obj)} {G H : Obj → List (Addr × Obj)}
abbrev BD (d0 d1 d2 d3 d4 : Int) : Prop := (0 ≤ d0 ∧ d0 ≤ 400000) ∧ (0 ≤ d1 ∧ d1 ≤ 400000) ∧ (0 ≤ d2 ∧ d2 ≤ 400000) ∧ (0 ≤ d3 ∧ d3 ≤ 400000) ∧ (0 ≤ d4 ∧ d4 ≤ 400000)
theorem r_drawn {sa : Addr} {sv : List Value} {ns : List Int} (F : Fr g L s.heap m) (N : News g L s.heap news) (X : (lawTop.heap_39 w.params).In g) (T : Top p loose mean mg mb g) (es : g.IsList sa sv.toArray) (hi : IntsAre sv ns) (hlen : ns.length ≤ 63) (hA1 : A.handled = none) (hA2 : A.depth ≤ 340) (hA3 : A.units ≤ 430)
   (post : ∀ q d0 d1 d2 d3 d4 u0 u1 u2 u3 u4 nq h' tk', BD d0 d1 d2 d3 d4 → Fr g L h' m → News g L h' ((q, listOf [Value.int d0 u0, Value.int d1 u1, Value.int d2 u2, Value.int d3 u3, Value.int d4 u4].toArray nq) :: news) → (∀ p ∈ news, q ≠ p.1) → Q (.ref q) { s with heap := h', toks := tk' }) :
   wpAny (model prog w) A (call (.ref 130) [.ref sa]) Q E s :=
  weaken (c_drawn ⟨X, _, _, _, _, _, T⟩ F.keep (es.at fun o e => F.keep _ _ e) hi hlen fun q d0 d1 d2 d3 d4 u0 u1 u2 u3 u4 nq h' tk' b k e hq => let ⟨F', N', o⟩ := ledgerN F N k e hq; post q d0 d1 d2 d3 d4 u0 u1 u2 u3 u4 nq h' tk' b F' N' o) hA1 hA2 hA3
theorem r_replies {sa : Addr} {n : Nat} {d0 d1 d2 d3 d4 : Int} {t0 t1 t2 t3 t4 : Tok} {l1 l2 l3 l4 : List Nat} (F : Fr g L s.heap m) (N : News g L s.heap news) (X : (lawTop.heap_39 w.params).In g) (T : Top p loose mean mg mb g)
   (es : (sa, listOf [Value.int d0 t0, Value.int d1 t1, Value.int d2 t2, Value.int d3 t3, Value.int d4 t4].toArray n) ∈ news) (hd : BD d0 d1 d2 d3 d4)
   (e1 : nm1 d1 = ⟨l1.toArray⟩) (e2 : nm2 d2 = ⟨l2.toArray⟩) (e3 : nm3 d3 = ⟨l3.toArray⟩) (e4 : nm3 d4 = ⟨l4.toArray⟩) (i1 : l1 ∈ allN) (i2 : l2 ∈ allN) (i3 : l3 ∈ allN) (i4 : l4 ∈ allN) (hA1 : A.handled = none) (hA2 : A.depth ≤ 325) (hA3 : A.units ≤ 380)
   (post : ∀ q u1 u2 u3 u4 u5 u6 nq h' tk', Fr g L h' m → News g L h' ((q, listOf [Value.str (pL (d0.fmod 7 - 2)) u1, Value.str (pL ((d0.fdiv 7).fmod 4 - 1)) u2, Value.str (qL l1) u3, Value.str (qL l2) u4, Value.str (qL l3) u5, Value.str (qL l4) u6].toArray nq) :: news) → (∀ p ∈ news, q ≠ p.1) → Q (.ref q) { s with heap := h', toks := tk' }) :
   wpAny (model prog w) A (call (.ref 147) [.ref sa]) Q E s :=
  weaken (c_replies ⟨X, _, _, _, _, _, T⟩ F.keep (N _ es).1 (N _ es).2.2 hd e1 e2 e3 e4 i1 i2 i3 i4 fun q u1 u2 u3 u4 u5 u6 nq h' tk' k e hq => let ⟨F', N', o⟩ := ledgerN F N k e hq; post q u1 u2 u3 u4 u5 u6 nq h' tk' F' N' o) hA1 hA2 hA3
theorem r_bare {sa : Addr} {n : Nat} {d0 d1 d2 d3 d4 : Int} {t0 t1 t2 t3 t4 : Tok} (F : Fr g L s.heap m) (N : News g L s.heap news) (X : (lawTop.heap_39 w.params).In g) (T : Top p loose mean mg mb g)
   (es : (sa, listOf [Value.int d0 t0, Value.int d1 t1, Value.int d2 t2, Value.int d3 t3, Value.int d4 t4].toArray n) ∈ news) (hd : BD d0 d1 d2 d3 d4) (hA1 : A.handled = none) (hA2 : A.depth ≤ 340) (hA3 : A.units ≤ 430)
   (post : ∀ q b0 b1 b2 b3 b4 b5 u0 u1 u2 u3 u4 u5 nq h' tk', (0 ≤ b0 ∧ b0 ≤ 1) ∧ (0 ≤ b1 ∧ b1 ≤ 1) ∧ (0 ≤ b2 ∧ b2 ≤ 1) ∧ (0 ≤ b3 ∧ b3 ≤ 1) ∧ (0 ≤ b4 ∧ b4 ≤ 1) ∧ (0 ≤ b5 ∧ b5 ≤ 1) → Fr g L h' m → News g L h' ((q, listOf [Value.int b0 u0, Value.int b1 u1, Value.int b2 u2, Value.int b3 u3, Value.int b4 u4, Value.int b5 u5].toArray nq) :: news) → (∀ p ∈ news, q ≠ p.1) → Q (.ref q) { s with heap := h', toks := tk' }) :
   wpAny (model prog w) A (call (.ref 152) [.ref sa]) Q E s := by
  have two : ∀ a : Int, 0 ≤ a.fmod 2 ∧ a.fmod 2 ≤ 1 := fun a => by rw [Int.fmod_eq_emod_of_nonneg _ (by decide)]; omega
  refine weaken (c_bare ⟨X, _, _, _, _, _, T⟩ F.keep (N _ es).1 (N _ es).2.2 hd fun q vals nq h' tk' iv hl k e hq => ?_) hA1 hA2 hA3
  obtain ⟨F', N', o⟩ := ledgerN F N k e hq
  obtain ⟨u0, v1, rfl, iv1⟩ := iv.cons_inv
  obtain ⟨u1, v2, rfl, iv2⟩ := iv1.cons_inv
  obtain ⟨u2, v3, rfl, iv3⟩ := iv2.cons_inv
  obtain ⟨u3, v4, rfl, iv4⟩ := iv3.cons_inv
  obtain ⟨u4, v5, rfl, iv5⟩ := iv4.cons_inv
  obtain ⟨u5, v6, rfl, iv6⟩ := iv5.cons_inv
  obtain rfl := iv6.nil_inv
  exact post q _ _ _ _ _ _ u0 u1 u2 u3 u4 u5 nq h' tk' ⟨two _, two _, two _, two _, two _, two _⟩ F' N' o
theorem r_spell {x : PySem.Str} {t u : Tok} {b : Int} (F : Fr g L s.heap m) (N : News g L s.heap news) (X : (lawTop.heap_39 w.params).In g) (T : Top p loose mean mg mb g) (hx : x ∈ allW) (hb : 0 ≤ b ∧ b ≤ 1) (hA1 : A.handled = none) (hA2 : A.depth ≤ 340) (hA3 : A.units ≤ 430)
   (post : ∀ t' h' tk', Fr g L h' m → News g L h' news → Q (.str ⟨(spellL x.cps.toList b).toArray⟩ t') { s with heap := h', toks := tk' }) :
   wpAny (model prog w) A (call (.ref 157) [.str x t, .int b u]) Q E s :=
  weaken (c_spell ⟨X, _, _, _, _, _, T⟩ F.keep hx (by omega) fun t' h' tk' k => let ⟨F', N'⟩ := ledger0 F N k; post t' h' tk' F' N') hA1 hA2 hA3
theorem r_p257 {name : List Nat} {t : Tok} (F : Fr g L s.heap m) (N : News g L s.heap news) (X : (lawTop.heap_39 w.params).In g) (T : Top p loose mean mg mb g) (hn : name ∈ allN) (hA1 : A.handled = none) (hA2 : A.depth ≤ 330) (hA3 : A.units ≤ 400)
   (post : ∀ t' h' tk', Fr g L h' m → News g L h' news → Q (.str ⟨name.toArray⟩ t') { s with heap := h', toks := tk' }) :
   wpAny (model prog w) A (call (.ref 83) [.str (qL name) t]) Q E s :=
  let ⟨q1, q2, q3, q4⟩ := q_slice name hn
  weaken (c_p257 ⟨X, _, _, _, _, _, T⟩ F.keep rfl q1 (Nat.le_trans q2 (by decide)) q3 q4 fun t' h' tk' k => let ⟨F', N'⟩ := ledger0 F N k; post t' h' tk' F' N') hA1 hA2 hA3
theorem r_running {r : Addr} {vals : List Value} {nr : Nat} {a b c d : Int} (F : Fr g L s.heap m) (N : News g L s.heap news) (X : (lawTop.heap_39 w.params).In g) (T : Top p loose mean mg mb g) (er : (r, listOf vals.toArray nr) ∈ news) (hi : IntsAre vals [a, b, c, d]) (hab : a.natAbs ≤ 1000 ∧ b.natAbs ≤ 1000 ∧ c.natAbs ≤ 1000 ∧ d.natAbs ≤ 1000) (hA1 : A.handled = none) (hA2 : A.depth ≤ 330) (hA3 : A.units ≤ 400)
   (post : ∀ q u1 u2 u3 u4 nq h' tk', Fr g L h' m → News g L h' ((q, listOf [Value.int a u1, Value.int (a + b) u2, Value.int (a + b + c) u3, Value.int (a + b + c + d) u4].toArray nq) :: news) → (∀ p ∈ news, q ≠ p.1) → Q (.ref q) { s with heap := h', toks := tk' }) :
   wpAny (model prog w) A (call (.ref 171) [.ref r]) Q E s := by
  refine weaken (c_running ⟨X, _, _, _, _, _, T⟩ F.keep (N _ er).1 hi (N _ er).2.2 hab.1 hab.2.1 hab.2.2.1 hab.2.2.2 fun q vals' nq h' tk' iv k e hq => ?_) hA1 hA2 hA3
  obtain ⟨F', N', o⟩ := ledgerN F N k e hq
  obtain ⟨u1, v1, rfl, iv1⟩ := iv.cons_inv
  obtain ⟨u2, v2, rfl, iv2⟩ := iv1.cons_inv
  obtain ⟨u3, v3, rfl, iv3⟩ := iv2.cons_inv
  obtain ⟨u4, v4, rfl, iv4⟩ := iv3.cons_inv
  obtain rfl := iv4.nil_inv
  exact post q u1 u2 u3 u4 nq h' tk' F' N' o
theorem r_coeff {pa : Addr} {pv : List Value} {na group : Nat} {start step a b c d k : Int} {u1 u2 u3 : Tok} (F : Fr g L s.heap m) (N : News g L s.heap news) (X : (lawTop.heap_39 w.params).In g) (T : Top p loose mean mg mb g) (ep : (pa, listOf pv.toArray na) ∈ news) (hp : IntsAre pv [a, b, c, d]) (hk : k = (group : Int)) (hg4 : group < 4)
   (hst : -10 ≤ start ∧ start ≤ 10 ∧ -10 ≤ step ∧ step ≤ 10) (hb : (0 ≤ a ∧ a ≤ 2) ∧ (0 ≤ b ∧ b ≤ 2) ∧ (0 ≤ c ∧ c ≤ 2) ∧ (0 ≤ d ∧ d ≤ 2)) (hA1 : A.handled = none) (hA2 : A.depth ≤ 325) (hA3 : A.units ≤ 380)
   (post : ∀ q ws nq h' tk', IntsAre ws (List.drop 1 (cRows [a, b, c, d] group [step, start + step * (group : Int)] (group + 1))) → Fr g L h' m → News g L h' ((q, listOf ws.toArray nq) :: news) → (∀ p ∈ news, q ≠ p.1) → Q (.ref q) { s with heap := h', toks := tk' }) :
   wpAny (model prog w) A (call (.ref 188) [.int start u1, .int step u2, .ref pa, .int k u3]) Q E s := by
  subst hk
  exact weaken (c_coeff ⟨X, _, _, _, _, _, T⟩ F.keep (N _ ep).1 hp (N _ ep).2.2 hg4 hst.1 hst.2.1 hst.2.2.1 hst.2.2.2 hb fun q ws nq h' tk' iv k e hq => let ⟨F', N', o⟩ := ledgerN F N k e hq; post q ws nq h' tk' iv F' N' o) hA1 hA2 hA3
theorem r_lined {x dx pb fs : Addr} {k1 k2 k3 k4 t1 t3 : Tok} {ln start step n : Int} {np size : Nat} {u1 u2 u3 : Tok} (F : Fr g L s.heap m) (N : News g L s.heap news) (X : (lawTop.heap_39 w.params).In g) (T : Top p loose mean mg mb g)
   (hx : (x, instObj 121 dx) ∈ news) (hdx : (dx, lexDict w k1 k2 k3 k4 t1 t3 ln fs pb) ∈ news) (U : UpdF pb (listOf ([] : List Value).toArray np) news G) (ne1 : x ≠ dx) (ne2 : x ≠ pb) (ne3 : dx ≠ pb) (hn : n = (size : Int)) (hsz : size ≤ 20) (hst : -10 ≤ start ∧ start ≤ 10 ∧ -10 ≤ step ∧ step ≤ 10) (hA1 : A.handled = none) (hA2 : A.depth ≤ 325) (hA3 : A.units ≤ 390)
   (post : ∀ its np' h' tk', NumsAre its ((List.range size).map fun (k : Nat) => start + step * (k : Int)) → Fr g L h' m → News g L h' (G (listOf its.toArray np')) → Q .none { s with heap := h', toks := tk' }) :
   wpAny (model prog w) A (call (.ref 178) [.ref x, .int start u1, .int step u2, .int n u3]) Q E s := by
  subst hn
  have hp := N _ (updF_in U)
  exact weaken (c_lined ⟨X, _, _, _, _, _, T⟩ F.keep (N _ hx).1 (N _ hdx).1 hp.1 (N _ hx).2.2 (N _ hdx).2.2 hp.2.2 ne1 ne2 ne3 hsz hst.1 hst.2.1 hst.2.2.1 hst.2.2.2 fun its np' h' tk' iv k e => let ⟨F', N'⟩ := ledger1 F N U k e; post its np' h' tk' iv F' N') hA1 hA2 hA3
end
end Mine
end

section
open PySem PySem.W PyProof.Rows PySem.Calls
set_option maxRecDepth 100000
set_option maxHeartbeats 8000000
namespace Mine
example : True := by
  w_top off
  k_with_none
  trivial
example : True := by first | walk1 | trivial
section
variable {prog : Program} {w : World} {A : Around} {E : Value → Shared → Prop} {Q : Value → Shared → Prop} {s : Shared} {g : Heap} {p : Program} {loose : List PySem.Str} {mean : ExcName → Option Value} {mg mb : PySem.Str → Option Value} {L : Addr} {m : PySem.Str → Option Value} {news : List (Addr × Obj)} {G : Obj → List (Addr × Obj)} {H : Obj → Obj → List (Addr × Obj)}
theorem fresh_new {a : Addr} (F : Fr g L s.heap m) (h : s.heap.get? a = none) : a ≠ L ∧ g.get? a = none := by
  obtain ⟨oL, es, ep, hL, hLd, hLk, hLf⟩ := F.ns
  refine ⟨fun q => (by subst q; rw [hL] at h; cases h), ?_⟩
  cases z : g.get? a with
  | none => rfl
  | some o => have := F.keep _ _ z; rw [h] at this; cases this
theorem r_lexer {text : PySem.Str} {t : Tok} (F : Fr g L s.heap m) (N : News g L s.heap news) (X : (lawTop.heap_39 w.params).In g) (T : Top p loose mean mg mb g) (C : CodeHd g 163 159) (U : UpdF 159 (tabObj #[]) news G) (hA1 : A.handled = none) (hA2 : A.depth ≤ 330) (hA3 : A.units ≤ 400)
   (post : ∀ x dx pb al fs d fr c' tc ac o1 o2 o3 o4 o5 o6 k1 k2 k3 k4 t1 t3 ta na np ps h' tk', Fr g L h' m →
      News g L h' ((x, instObj 121 dx) :: (dx, lexDict w k1 k2 k3 k4 t1 t3 1 fs pb) :: (pb, listOf ([] : List Value).toArray np) :: (al, listOf #[Value.int ((0 : Nat) : Int) ta] na) :: (fs, o1) :: (d, o2) :: (fr, o3) :: (c', o4) :: (tc, o5) :: (ac, o6) :: G (tabObj ps)) →
      Chain x dx pb al fs d fr c' tc ac → (∀ p ∈ news, @LT.lt Nat _ p.1 tc) → StreamO w text al d fr c' tc ac o1 o2 o3 o4 o5 o6 → Q (.ref x) { s with heap := h', toks := tk' }) :
   wpAny (model prog w) A (call (.ref 164) [.str text t]) Q E s := by
  have h159 := N _ (updF_in U)
  refine weaken (c_lexer ⟨X, _, _, _, _, _, T⟩ F.keep h159.1 h159.2.2 C fun x dx pb al fs d fr c' tc ac o1 o2 o3 o4 o5 o6 k1 k2 k3 k4 t1 t3 ta na np ps h' tk' k e ch e1 e2 e3 e4 e5 e6 e7 e8 e9 e10 S => ?_) hA1 hA2 hA3
  obtain ⟨c0, ch⟩ := ch
  obtain ⟨F', N'⟩ := ledger1 F N U k e
  have nw : ∀ a : Nat, s.heap.objs.size ≤ a → a ≠ L ∧ g.get? a = none := fun a ha => fresh_new F (Heap.get?_none_of_le ha)
  have lt : ∀ p ∈ news, p.1 < tc := fun p hp => Nat.lt_trans (Heap.lt_size (N p hp).1) c0
  refine post x dx pb al fs d fr c' tc ac o1 o2 o3 o4 o5 o6 k1 k2 k3 k4 t1 t3 ta na np ps h' tk' F' (fun p hp => ?_) ch lt S
  obtain ⟨ch1, ch2, ch3, ch4, ch5, ch6, ch7, ch8, ch9⟩ := ch
  rcases List.mem_cons.mp hp with rfl | hp
  · exact ⟨e1, nw x (by omega)⟩
  rcases List.mem_cons.mp hp with rfl | hp
  · exact ⟨e2, nw dx (by omega)⟩
  rcases List.mem_cons.mp hp with rfl | hp
  · exact ⟨e3, nw pb (by omega)⟩
  rcases List.mem_cons.mp hp with rfl | hp
  · exact ⟨e4, nw al (by omega)⟩
  rcases List.mem_cons.mp hp with rfl | hp
  · exact ⟨e5, nw fs (by omega)⟩
  rcases List.mem_cons.mp hp with rfl | hp
  · exact ⟨e6, nw d (by omega)⟩
  rcases List.mem_cons.mp hp with rfl | hp
  · exact ⟨e7, nw fr (by omega)⟩
  rcases List.mem_cons.mp hp with rfl | hp
  · exact ⟨e8, nw c' (by omega)⟩
  rcases List.mem_cons.mp hp with rfl | hp
  · exact ⟨e9, nw tc (by omega)⟩
  rcases List.mem_cons.mp hp with rfl | hp
  · exact ⟨e10, nw ac (by omega)⟩
  · exact N' p hp
theorem nod {a : Nat} {l : List Nat} (h : ∀ b ∈ l, a ≠ b) (n : l.Nodup) : (a :: l).Nodup := List.nodup_cons.mpr ⟨fun q => h a q rfl, n⟩
theorem chain_dist {x dx pb al fs d fr c' tc ac : Addr} (ch : Chain x dx pb al fs d fr c' tc ac) : Dist [x, dx, pb, al] := by
  obtain ⟨ch1, ch2, ch3, ch4, ch5, ch6, ch7, ch8, ch9⟩ := ch
  refine nod (fun b h => ?_) (nod (fun b h => ?_) (nod (fun b h => ?_) (nod (fun b h => nomatch h) List.nodup_nil)))
  all_goals simp only [List.mem_cons, List.not_mem_nil, or_false] at h; omega
theorem hide4 {x dx pb al b : Nat} (h1 : b ≠ x) (h2 : b ≠ dx) (h3 : b ≠ pb) (h4 : b ≠ al) : b ∉ [x, dx, pb, al] := fun h => by
  simp only [List.mem_cons, List.not_mem_nil, or_false] at h; omega
/-- the lexer with its objects hidden -/
theorem at_hidden {x dx pb al fs d fr c' tc ac : Addr} {o1 o2 o3 o4 o5 o6 : Obj} {text : PySem.Str} (F : Fr g L s.heap m) (N : News g L s.heap news) (X : (lawTop.heap_39 w.params).In g) (T : Top p loose mean mg mb g) (S : StreamO w text al d fr c' tc ac o1 o2 o3 o4 o5 o6) (ch : Chain x dx pb al fs d fr c' tc ac)
   (g1 : g.get? x = none) (g2 : g.get? dx = none) (g3 : g.get? pb = none) (g4 : g.get? al = none)
   (h1 : (fs, o1) ∈ news) (h2 : (d, o2) ∈ news) (h3 : (fr, o3) ∈ news) (h4 : (c', o4) ∈ news) (h5 : (tc, o5) ∈ news) (h6 : (ac, o6) ∈ news) :
   Wd w (hideAll s.heap [x, dx, pb, al]) ∧ (hideAll s.heap [x, dx, pb, al]).StaysIn s.heap ∧ StreamAt w (hideAll s.heap [x, dx, pb, al]) fs text al := by
  obtain ⟨ch1, ch2, ch3, ch4, ch5, ch6, ch7, ch8, ch9⟩ := ch
  have kg : ∀ b o, g.get? b = some o → (hideAll s.heap [x, dx, pb, al]).get? b = some o := fun b o e => hideAll_get _ (F.keep b o e) fun hm => by
    simp only [List.mem_cons, List.not_mem_nil, or_false] at hm
    rcases hm with rfl | rfl | rfl | rfl
    · rw [g1] at e; cases e
    · rw [g2] at e; cases e
    · rw [g3] at e; cases e
    · rw [g4] at e; cases e
  refine ⟨⟨X.keeps kg, _, _, _, _, _, T.keeps kg⟩, fun b o e => of_hideAll _ e, S.at ?_ ?_ ?_ ?_ ?_ ?_⟩
  · exact hideAll_get _ (N _ h1).1 (hide4 (by omega) (by omega) (by omega) (by omega))
  · exact hideAll_get _ (N _ h2).1 (hide4 (by omega) (by omega) (by omega) (by omega))
  · exact hideAll_get _ (N _ h3).1 (hide4 (by omega) (by omega) (by omega) (by omega))
  · exact hideAll_get _ (N _ h4).1 (hide4 (by omega) (by omega) (by omega) (by omega))
  · exact hideAll_get _ (N _ h5).1 (hide4 (by omega) (by omega) (by omega) (by omega))
  · exact hideAll_get _ (N _ h6).1 (hide4 (by omega) (by omega) (by omega) (by omega))
theorem r_word {x dx pb al fs d fr c' tc ac : Addr} {o1 o2 o3 o4 o5 o6 : Obj} {k1 k2 k3 k4 t1 t3 ta : Tok} {ln b : Int} {np n na nl : Nat} {text wd : PySem.Str} {rest : List Nat} (F : Fr g L s.heap m) (N : News g L s.heap news) (X : (lawTop.heap_39 w.params).In g) (T : Top p loose mean mg mb g)
   (S : StreamO w text al d fr c' tc ac o1 o2 o3 o4 o5 o6) (ch : Chain x dx pb al fs d fr c' tc ac) (hx : (x, instObj 121 dx) ∈ news) (hpb : (pb, listOf ([] : List Value).toArray np) ∈ news)
   (U : UpdF dx (lexDict w k1 k2 k3 k4 t1 t3 ln fs pb) news G) (V : ∀ o, UpdF al (listOf #[Value.int (n : Int) ta] na) (G o) (H o))
   (h1 : (fs, o1) ∈ news) (h2 : (d, o2) ∈ news) (h3 : (fr, o3) ∈ news) (h4 : (c', o4) ∈ news) (h5 : (tc, o5) ∈ news) (h6 : (ac, o6) ∈ news)
   (hd : text.cps.toList.drop n = List.replicate nl 10 ++ (spellL wd.cps.toList b ++ rest)) (hw : wd ∈ allW) (hb : 0 ≤ b ∧ b ≤ 1) (hlen : text.length ≤ 10000) (hA1 : A.handled = none) (hA2 : A.depth ≤ 340) (hA3 : A.units ≤ 430)
   (post : ∀ n' t' t1' ta' h' tk', text.cps.toList.drop n' = List.replicate (1 - b).toNat 10 ++ rest → n' ≤ text.length → Fr g L h' m → News g L h' (H (lexDict w k1 k2 k3 k4 t1' t3 (ln + nl) fs pb) (listOf #[Value.int ((n' : Nat) : Int) ta'] na)) → Q (.str wd t') { s with heap := h', toks := tk' }) :
   wpAny (model prog w) A (call (.ref 111) [.ref x]) Q E s := by
  have hne : dx ≠ al := by obtain ⟨ch1, ch2, ch3, ch4, ch5, ch6, ch7, ch8, ch9⟩ := ch; exact neN (by omega)
  have hdx := N _ (updF_in U)
  have hal := N _ ((updF_mem U (updF_in (V (lexDict w k1 k2 k3 k4 t1 t3 ln fs pb)))).resolve_left fun q => hne (congrArg Prod.fst q).symm).1
  have hxx := N _ hx
  have hpp := N _ hpb
  obtain ⟨W, st, SA⟩ := at_hidden F N X T S ch hxx.2.2 hdx.2.2 hpp.2.2 hal.2.2 h1 h2 h3 h4 h5 h6
  obtain ⟨w1, w2, w3⟩ := w_ten wd hw
  have hdd := chain_dist ch
  have ewd : ∀ l : List Nat, wd.cps.toList = l → wd = ⟨l.toArray⟩ := fun l e => by subst e; rfl
  have hn : n ≤ text.length := by
    have e := congrArg List.length hd
    rw [List.length_drop, len_toList, List.length_append, List.length_append] at e
    have : 0 < (spellL wd.cps.toList b).length := by unfold spellL; split <;> simp
    omega
  have hb' : b = 0 ∨ b = 1 := by omega
  clear hb
  rcases hb' with rfl | rfl
  · refine weaken (gt_tok W st hxx.1 hdx.1 hpp.1 hal.1 SA (hideAll_none _ (by simp)) (hideAll_none _ (by simp)) (hideAll_none _ (by simp)) (hideAll_none _ (by simp)) hdd hlen (nl := nl) (word := wd.cps.toList) (rest := 10 :: rest) hd hn (.q ?_ w1 (Nat.le_trans w3 (by decide))) fun n' t' t1' ta' h' tk' e1 e2 k e3 e4 => ?_) hA1 hA2 hA3
    · unfold spellL; rw [if_neg (by decide)]; simp only [List.cons_append, List.append_assoc, List.nil_append]; rfl
    · obtain ⟨F', N'⟩ := ledger2 F N U (V _) (Ne.symm hne) k e3 e4
      exact post n' t' t1' ta' h' tk' e1 e2 F' N'
  · obtain ⟨c0, word, e0⟩ := List.exists_cons_of_ne_nil w2
    refine weaken (gt_tok W st hxx.1 hdx.1 hpp.1 hal.1 SA (hideAll_none _ (by simp)) (hideAll_none _ (by simp)) (hideAll_none _ (by simp)) (hideAll_none _ (by simp)) hdd hlen (nl := nl) (word := wd.cps.toList) (rest := rest) hd hn (.b c0 word e0 ?_ w1 (Nat.le_trans w3 (by decide))) fun n' t' t1' ta' h' tk' e1 e2 k e3 e4 => ?_) hA1 hA2 hA3
    · rw [e0]; unfold spellL; rw [if_pos rfl, List.flatMap_cons]; simp
    · obtain ⟨F', N'⟩ := ledger2 F N U (V _) (Ne.symm hne) k e3 e4
      exact post n' t' t1' ta' h' tk' (by rw [e1]; rfl) e2 F' N'
theorem r_end {x dx pb al fs d fr c' tc ac : Addr} {o1 o2 o3 o4 o5 o6 : Obj} {k1 k2 k3 k4 t1 t3 ta : Tok} {ln : Int} {np n na nl : Nat} {text : PySem.Str} {news' : List (Addr × Obj)} (F : Fr g L s.heap m) (N : News g L s.heap news) (X : (lawTop.heap_39 w.params).In g) (T : Top p loose mean mg mb g)
   (S : StreamO w text al d fr c' tc ac o1 o2 o3 o4 o5 o6) (ch : Chain x dx pb al fs d fr c' tc ac) (hx : (x, instObj 121 dx) ∈ news) (hpb : (pb, listOf ([] : List Value).toArray np) ∈ news)
   (U : (dx, lexDict w k1 k2 k3 k4 t1 t3 ln fs pb) ∈ news) (V : (al, listOf #[Value.int (n : Int) ta] na) ∈ news) (sub : ∀ p ∈ news', p ∈ news) (off : ∀ p ∈ news', p.1 ≠ dx ∧ p.1 ≠ al)
   (h1 : (fs, o1) ∈ news) (h2 : (d, o2) ∈ news) (h3 : (fr, o3) ∈ news) (h4 : (c', o4) ∈ news) (h5 : (tc, o5) ∈ news) (h6 : (ac, o6) ∈ news)
   (hd : text.cps.toList.drop n = List.replicate nl 10) (hn : n ≤ text.length) (hlen : text.length ≤ 10000) (hA1 : A.handled = none) (hA2 : A.depth ≤ 340) (hA3 : A.units ≤ 430)
   (post : ∀ t' t1' h' tk', Fr g L h' m → News g L h' ((dx, lexDict w k1 k2 k3 k4 t1' t3 (ln + nl) fs pb) :: news') → Q (.str ⟨#[]⟩ t') { s with heap := h', toks := tk' }) :
   wpAny (model prog w) A (call (.ref 111) [.ref x]) Q E s := by
  have hdx := N _ U
  have hal := N _ V
  have hxx := N _ hx
  have hpp := N _ hpb
  obtain ⟨W, st, SA⟩ := at_hidden F N X T S ch hxx.2.2 hdx.2.2 hpp.2.2 hal.2.2 h1 h2 h3 h4 h5 h6
  refine weaken (gt_tok W st hxx.1 hdx.1 hpp.1 hal.1 SA (hideAll_none _ (by simp)) (hideAll_none _ (by simp)) (hideAll_none _ (by simp)) (hideAll_none _ (by simp)) (chain_dist ch) hlen (nl := nl) (by rw [hd, List.append_nil]) hn (.e rfl rfl rfl) fun n' t' t1' ta' h' tk' e1 e2 k e3 e4 => ?_) hA1 hA2 hA3
  refine post t' t1' h' tk' (ledger_fr F k fun a ha => ?_) fun p hp => ?_
  · rcases List.mem_cons.mp ha with rfl | ha
    · exact hdx.2
    · rw [List.mem_singleton.mp ha]; exact hal.2
  · rcases List.mem_cons.mp hp with rfl | hp
    · exact ⟨e3, hdx.2⟩
    · refine ⟨k _ _ (N p (sub p hp)).1 (fun hm => ?_), (N p (sub p hp)).2⟩
      rcases List.mem_cons.mp hm with q | q
      · exact (off p hp).1 q
      · exact (off p hp).2 (List.mem_singleton.mp q)
theorem r_struck {x dx pb fs el : Addr} {k1 k2 k3 k4 t1 t3 : Tok} {ln : Int} {np ne : Nat} {ev its : List Value} {a b c d : Int} {q : List Int} {r : O} {rest : List (Addr × Obj)} (F : Fr g L s.heap m) (N : News g L s.heap ((el, listOf ev.toArray ne) :: rest)) (X : (lawTop.heap_39 w.params).In g) (T : Top p loose mean mg mb g)
   (hx : (x, instObj 121 dx) ∈ rest) (hdx : (dx, lexDict w k1 k2 k3 k4 t1 t3 ln fs pb) ∈ rest) (U : UpdF pb (listOf its.toArray np) rest G) (hel : ∀ p ∈ rest, el ≠ p.1) (hdd : Dist [el, x, dx, pb]) (hq : NumsAre its q) (he : IntsAre ev [a, b, c, d]) (hql : q.length ≤ 100) (hr : outr 6 ⟨q, [], [], [], [], a, b, c, d⟩ = some r) (hA1 : A.handled = none) (hA2 : A.depth ≤ 325) (hA3 : A.units ≤ 380)
   (post : ∀ ol a0 a1 a2 a3 v0 v1 v2 v3 n0 n1 n2 n3 its' np' h' tk', IntsAre v0 r.o0 → IntsAre v1 r.o1 → IntsAre v2 r.o2 → IntsAre v3 r.o3 → NumsAre its' r.q → Fr g L h' m →
      News g L h' ((ol, listOf #[.ref a0, .ref a1, .ref a2, .ref a3] 0) :: (a0, listOf v0.toArray n0) :: (a1, listOf v1.toArray n1) :: (a2, listOf v2.toArray n2) :: (a3, listOf v3.toArray n3) :: G (listOf its'.toArray np')) →
      (∀ y, y ∈ [ol, a0, a1, a2, a3] → ∀ p ∈ rest, y ≠ p.1) → Q (.ref ol) { s with heap := h', toks := tk' }) :
   wpAny (model prog w) A (call (.ref 183) [.ref x, .ref el]) Q E s := by
  have Nr : News g L s.heap rest := fun p hp => N p (.tail _ hp)
  have ee := N _ (.head _)
  have hp := Nr _ (updF_in U)
  refine weaken (c_struck ⟨X, _, _, _, _, _, T⟩ F.keep (Nr _ hx).1 (Nr _ hdx).1 hp.1 hq ee.1 he (Nr _ hx).2.2 (Nr _ hdx).2.2 hp.2.2 ee.2.2 hdd hql hr fun ol a0 a1 a2 a3 v0 v1 v2 v3 n0 n1 n2 n3 its' np' h' tk' i0 i1 i2 i3 k el' e0 e1 e2 e3 hf hq' ep => ?_) hA1 hA2 hA3
  have F' : Fr g L h' m := ledger_fr F k fun a ha => by
    rcases List.mem_cons.mp ha with rfl | ha
    · exact ee.2
    · rw [List.mem_singleton.mp ha]; exact hp.2
  refine post ol a0 a1 a2 a3 v0 v1 v2 v3 n0 n1 n2 n3 its' np' h' tk' i0 i1 i2 i3 hq' F' (fun z hz => ?_) fun y hy z hz q => ?_
  · rcases List.mem_cons.mp hz with rfl | hz
    · exact ⟨el', fresh_new F (hf _ (by simp))⟩
    rcases List.mem_cons.mp hz with rfl | hz
    · exact ⟨e0, fresh_new F (hf _ (by simp))⟩
    rcases List.mem_cons.mp hz with rfl | hz
    · exact ⟨e1, fresh_new F (hf _ (by simp))⟩
    rcases List.mem_cons.mp hz with rfl | hz
    · exact ⟨e2, fresh_new F (hf _ (by simp))⟩
    rcases List.mem_cons.mp hz with rfl | hz
    · exact ⟨e3, fresh_new F (hf _ (by simp))⟩
    rcases updF_mem U hz with rfl | ⟨hz, hn⟩
    · exact ⟨ep, hp.2⟩
    · refine ⟨k _ _ (Nr z hz).1 (fun hm => ?_), (Nr z hz).2⟩
      rcases List.mem_cons.mp hm with q | q
      · exact hel z hz q.symm
      · exact hn (List.mem_singleton.mp q)
  · have := hf y (by simp only [List.mem_cons, List.not_mem_nil, or_false] at hy ⊢; rcases hy with h | h | h | h | h <;> simp only [h, true_or, or_true])
    rw [q, (Nr z hz).1] at this
    cases this
end
end Mine
end

section
open PySem PySem.W PyProof.Rows PySem.Calls
set_option maxRecDepth 100000
namespace Mine
example : True := by
  w_top off
  k_with_none
  trivial
example : True := by first | walk1 | trivial
def shapeOK (a b c d start step : Int) : Bool :=
  let e1 := a; let e2 := e1 + b; let e3 := e2 + c; let e4 := e3 + d
  let f1 := e1; let f2 := f1 + e2; let f3 := f2 + e3; let f4 := f3 + e4
  match outr 6 ⟨(List.range f4.toNat).map (fun (k : Nat) => start + step * (k : Int)), [], [], [], [], f1, f2, f3, f4⟩ with
  | none => false
  | some r => (r.q == []) && (r.o0 == (cRows [a, b, c, d] 0 [step, start + step * 0] 1).drop 1) && (r.o1 == (cRows [a, b, c, d] 1 [step, start + step * 1] 2).drop 1) && (r.o2 == (cRows [a, b, c, d] 2 [step, start + step * 2] 3).drop 1) && (r.o3 == (cRows [a, b, c, d] 3 [step, start + step * 3] 4).drop 1)
/-! the numbers as sums u * start + v * step: nothing that is compared depends on start or step -/
abbrev Lin := Int × Int
def ev (u v : Int) (p : Lin) : Int := u * p.1 + v * p.2
def addL (p q : Lin) : Lin := (p.1 + q.1, p.2 + q.2)
def okL (p : Lin) : Bool := decide (p.1.natAbs ≤ 100000) && decide (p.2.natAbs ≤ 100000)
structure SL where
  q : List Lin
  o0 : List Lin
  o1 : List Lin
  o2 : List Lin
  o3 : List Lin
  st : List Int
  tot : Lin
  grp : Int
def SL.ev (u v : Int) (s : SL) : S := { q := s.q.map (Mine.ev u v), o0 := s.o0.map (Mine.ev u v), o1 := s.o1.map (Mine.ev u v), o2 := s.o2.map (Mine.ev u v), o3 := s.o3.map (Mine.ev u v), st := s.st, tot := Mine.ev u v s.tot, grp := s.grp }
def SL.hit (s : SL) (g : Int) (n : Lin) (i : Nat) (q : List Lin) : SL :=
  { q := q, o0 := if g = 0 then s.o0 ++ [n] else s.o0, o1 := if g = 1 then s.o1 ++ [n] else s.o1, o2 := if g = 2 then s.o2 ++ [n] else s.o2, o3 := if g = 3 then s.o3 ++ [n] else s.o3, st := s.st ++ [(i : Int)], tot := s.tot, grp := g }
def innL (e : List Int) : Nat → Nat → SL → Option SL
  | 0, _, s => some s
  | k + 1, i, s => match s.q with
    | [] => none
    | n :: q => match bisR e i 8 s.grp e.length with
      | none => none
      | some g => if (okL n = true ∧ s.o0.length ≤ 100 ∧ s.o1.length ≤ 100 ∧ s.o2.length ≤ 100 ∧ s.o3.length ≤ 100 ∧ s.st.length ≤ 100 ∧ okL (addL s.tot n) = true) ∧ (g = 0 ∨ g = 1 ∨ g = 2 ∨ g = 3) then
          (if (i : Int) + 1 = e.getD g.toNat 0 then innL e k (i + 1) (s.hit g n i q)
           else innL e k (i + 1) { s with q := q ++ [addL s.tot n], tot := addL s.tot n, grp := g })
        else none
structure OL where
  q : List Lin
  o0 : List Lin
  o1 : List Lin
  o2 : List Lin
  o3 : List Lin
  a : Int
  b : Int
  c : Int
  d : Int
def OL.ev (u v : Int) (s : OL) : O := { q := s.q.map (Mine.ev u v), o0 := s.o0.map (Mine.ev u v), o1 := s.o1.map (Mine.ev u v), o2 := s.o2.map (Mine.ev u v), o3 := s.o3.map (Mine.ev u v), a := s.a, b := s.b, c := s.c, d := s.d }
def OL.start (s : OL) : SL := { q := s.q, o0 := s.o0, o1 := s.o1, o2 := s.o2, o3 := s.o3, st := [], tot := (0, 0), grp := 0 }
def outrL : Nat → OL → Option OL
  | 0, s => some s
  | k + 1, s =>
    if (0 ≤ s.a ∧ s.a ≤ 20) ∧ (0 ≤ s.b ∧ s.b ≤ 20) ∧ (0 ≤ s.c ∧ s.c ≤ 20) ∧ (0 ≤ s.d ∧ s.d ≤ 20) then
      match innL [s.a, s.b, s.c, s.d] s.d.toNat 0 s.start with
      | none => none
      | some r => if r.st.length ≤ 20 then
          match bisL r.st s.a 8 0 r.st.length, bisL r.st s.b 8 0 r.st.length, bisL r.st s.c 8 0 r.st.length, bisL r.st s.d 8 0 r.st.length with
          | some ba, some bb, some bc, some bd => outrL k { q := r.q, o0 := r.o0, o1 := r.o1, o2 := r.o2, o3 := r.o3, a := s.a - ba, b := s.b - bb, c := s.c - bc, d := s.d - bd }
          | _, _, _, _ => none
        else none
    else none
def stepRowL (c : Int) (rows : List Lin) : List Lin := List.zipWith (fun up stay => (up.1 + c * stay.1, up.2 + c * stay.2)) (rows ++ [(0, 0)]) ((0, 0) :: rows)
def rowsNL (c : Int) : Nat → List Lin → List Lin
  | 0, r => r
  | k + 1, r => stepRowL c (rowsNL c k r)
def cRowsL (p : List Int) (group : Nat) (r0 : List Lin) : Nat → List Lin
  | 0 => r0
  | k + 1 => rowsNL ((group : Int) + 1 - (k : Int)) (timesOf p k).toNat (cRowsL p group r0 k)
def shapeL (a b c d : Int) : Bool :=
  match outrL 6 ⟨(List.range (a + (a + b) + (a + b + c) + (a + b + c + d)).toNat).map (fun (k : Nat) => ((1 : Int), (k : Int))), [], [], [], [], a, a + (a + b), a + (a + b) + (a + b + c), a + (a + b) + (a + b + c) + (a + b + c + d)⟩ with
  | none => false
  | some r => decide (r.q = []) && decide (r.o0 = (cRowsL [a, b, c, d] 0 [(0, 1), (1, 0)] 1).drop 1) && decide (r.o1 = (cRowsL [a, b, c, d] 1 [(0, 1), (1, 1)] 2).drop 1) && decide (r.o2 = (cRowsL [a, b, c, d] 2 [(0, 1), (1, 2)] 3).drop 1) && decide (r.o3 = (cRowsL [a, b, c, d] 3 [(0, 1), (1, 3)] 4).drop 1)
theorem ev_add {u v : Int} {p q : Lin} : ev u v (addL p q) = ev u v p + ev u v q := by
  unfold ev addL
  rw [Int.mul_add, Int.mul_add]; omega
theorem ok_ev {u v : Int} {p : Lin} (hu : u.natAbs ≤ 4) (hv : v.natAbs ≤ 4) (h : okL p = true) : (ev u v p).natAbs < 10 ^ 9 := by
  unfold okL at h
  simp only [Bool.and_eq_true, decide_eq_true_eq] at h
  have h1 : (u * p.1).natAbs ≤ 4 * 100000 := by rw [Int.natAbs_mul]; exact Nat.mul_le_mul hu h.1
  have h2 : (v * p.2).natAbs ≤ 4 * 100000 := by rw [Int.natAbs_mul]; exact Nat.mul_le_mul hv h.2
  have h3 := Int.natAbs_add_le (u * p.1) (v * p.2)
  unfold ev
  omega
theorem ok_good {u v : Int} {p : Lin} (hu : u.natAbs ≤ 4) (hv : v.natAbs ≤ 4) (h : okL p = true) : goodN (ev u v p) = true := decide_eq_true (ok_ev hu hv h)
theorem hit_ev {u v : Int} {s : SL} {g : Int} {n : Lin} {i : Nat} {q : List Lin} : (s.hit g n i q).ev u v = (s.ev u v).hit g (ev u v n) i (q.map (ev u v)) := by
  simp only [SL.hit, SL.ev, S.hit, apply_ite (List.map (ev u v)), List.map_append, List.map_cons, List.map_nil]
theorem inn_ev {u v : Int} {e : List Int} (hu : u.natAbs ≤ 4) (hv : v.natAbs ≤ 4) : ∀ (k i : Nat) (s R : SL), innL e k i s = some R → inn e k i (s.ev u v) = some (R.ev u v)
  | 0, _, s, R, h => by cases h; rfl
  | k + 1, i, s, R, h => by
    unfold innL at h
    unfold inn
    split at h
    · cases h
    · rename_i n q hq
      split at h
      · cases h
      · rename_i g hg
        split at h
        · rename_i hc
          obtain ⟨⟨c1, c2, c3, c4, c5, c6, c7⟩, c8⟩ := hc
          have e1 : (s.ev u v).q = ev u v n :: q.map (ev u v) := by show s.q.map (ev u v) = _; rw [hq]; rfl
          have e2 : (s.ev u v).tot + ev u v n = ev u v (addL s.tot n) := ev_add.symm
          have c : (goodN (ev u v n) = true ∧ (s.ev u v).o0.length ≤ 100 ∧ (s.ev u v).o1.length ≤ 100 ∧ (s.ev u v).o2.length ≤ 100 ∧ (s.ev u v).o3.length ≤ 100 ∧ (s.ev u v).st.length ≤ 100 ∧ ((s.ev u v).tot + ev u v n).natAbs < 10 ^ 9) ∧ (g = 0 ∨ g = 1 ∨ g = 2 ∨ g = 3) := by
            refine ⟨⟨ok_good hu hv c1, ?_, ?_, ?_, ?_, c6, e2 ▸ ok_ev hu hv c7⟩, c8⟩
            all_goals (simp only [SL.ev, List.length_map]; assumption)
          rw [e1]
          have hg' : bisR e i 8 (s.ev u v).grp e.length = some g := hg
          simp only [hg']
          rw [if_pos c]
          split at h
          · rename_i hh
            rw [if_pos hh, ← hit_ev]
            exact inn_ev hu hv k (i + 1) _ R h
          · rename_i hh
            rw [if_neg hh, e2, if_pos (ok_good hu hv c7)]
            have := inn_ev hu hv k (i + 1) _ R h
            simpa only [SL.ev, List.map_append, List.map_cons, List.map_nil] using this
        · cases h
theorem out_ev {u v : Int} (hu : u.natAbs ≤ 4) (hv : v.natAbs ≤ 4) : ∀ (k : Nat) (s R : OL), outrL k s = some R → outr k (s.ev u v) = some (R.ev u v)
  | 0, s, R, h => by cases h; rfl
  | k + 1, s, R, h => by
    unfold outrL at h
    unfold outr
    split at h
    · rename_i hc
      have hc' : (0 ≤ (s.ev u v).a ∧ (s.ev u v).a ≤ 20) ∧ (0 ≤ (s.ev u v).b ∧ (s.ev u v).b ≤ 20) ∧ (0 ≤ (s.ev u v).c ∧ (s.ev u v).c ≤ 20) ∧ (0 ≤ (s.ev u v).d ∧ (s.ev u v).d ≤ 20) := hc
      rw [if_pos hc']
      split at h
      · cases h
      · rename_i r hr
        have es : (s.ev u v).start = s.start.ev u v := by
          have z : ev u v (0, 0) = 0 := by unfold ev; simp
          simp only [O.start, OL.start, SL.ev, OL.ev, z]
        have hr' : inn [(s.ev u v).a, (s.ev u v).b, (s.ev u v).c, (s.ev u v).d] (s.ev u v).d.toNat 0 (s.ev u v).start = some (r.ev u v) := by
          rw [es]; exact inn_ev hu hv _ _ _ _ hr
        simp only [hr']
        split at h
        · rename_i hl
          have hl' : (r.ev u v).st.length ≤ 20 := hl
          rw [if_pos hl']
          split at h
          · rename_i ba bb bc bd h1 h2 h3 h4
            have h1' : bisL (r.ev u v).st (s.ev u v).a 8 0 (r.ev u v).st.length = some ba := h1
            have h2' : bisL (r.ev u v).st (s.ev u v).b 8 0 (r.ev u v).st.length = some bb := h2
            have h3' : bisL (r.ev u v).st (s.ev u v).c 8 0 (r.ev u v).st.length = some bc := h3
            have h4' : bisL (r.ev u v).st (s.ev u v).d 8 0 (r.ev u v).st.length = some bd := h4
            simp only [h1', h2', h3', h4']
            exact out_ev hu hv k _ R h
          · cases h
        · cases h
    · cases h
theorem step_ev {u v c : Int} {rows : List Lin} : (stepRowL c rows).map (ev u v) = stepRow c (rows.map (ev u v)) := by
  unfold stepRowL stepRow
  have z : ev u v (0, 0) = 0 := by unfold ev; simp
  rw [List.map_zipWith, show rows.map (ev u v) ++ [0] = (rows ++ [(0, 0)]).map (ev u v) from by rw [List.map_append, List.map_cons, List.map_nil, z], show (0 :: rows.map (ev u v)) = ((0, 0) :: rows).map (ev u v) from by rw [List.map_cons, z], List.zipWith_map]
  congr 1
  funext p q
  unfold ev
  rw [Int.mul_add, Int.mul_add, Int.mul_add, Int.mul_left_comm c u, Int.mul_left_comm c v]
  omega
theorem rowsN_ev {u v c : Int} {rows : List Lin} : ∀ k : Nat, (rowsNL c k rows).map (ev u v) = rowsN c k (rows.map (ev u v))
  | 0 => rfl
  | k + 1 => by
    show (stepRowL c (rowsNL c k rows)).map (ev u v) = stepRow c (rowsN c k (rows.map (ev u v)))
    rw [step_ev, rowsN_ev k]
theorem cRows_ev {u v : Int} {p : List Int} {group : Nat} {r0 : List Lin} : ∀ k : Nat, (cRowsL p group r0 k).map (ev u v) = cRows p group (r0.map (ev u v)) k
  | 0 => rfl
  | k + 1 => by
    show (rowsNL _ _ (cRowsL p group r0 k)).map (ev u v) = rowsN _ _ (cRows p group (r0.map (ev u v)) k)
    rw [rowsN_ev, cRows_ev k]
theorem row_ev {u v : Int} {p : List Int} {group : Nat} {g : Int} {k : Nat} {o : List Lin} (h : o = (cRowsL p group [(0, 1), (1, g)] k).drop 1) : o.map (ev u v) = (cRows p group [v, u + v * g] k).drop 1 := by
  rw [h, List.map_drop, cRows_ev]
  congr 2
  simp [ev]
theorem shape_ev {a b c d u v : Int} (h : shapeL a b c d = true) (hu : u.natAbs ≤ 4) (hv : v.natAbs ≤ 4) : shapeOK a b c d u v = true := by
  unfold shapeL at h
  split at h
  · cases h
  · rename_i R hR
    simp only [Bool.and_eq_true, decide_eq_true_eq] at h
    obtain ⟨⟨⟨⟨h0, h1⟩, h2⟩, h3⟩, h4⟩ := h
    have e := out_ev hu hv 6 _ R hR
    have es : (List.range (a + (a + b) + (a + b + c) + (a + b + c + d)).toNat).map (fun (k : Nat) => u + v * (k : Int)) = ((List.range (a + (a + b) + (a + b + c) + (a + b + c + d)).toNat).map (fun (k : Nat) => ((1 : Int), (k : Int)))).map (ev u v) := by
      rw [List.map_map]
      refine List.map_congr_left fun k _ => ?_
      show u + v * (k : Int) = u * 1 + v * (k : Int)
      rw [Int.mul_one]
    unfold shapeOK
    dsimp only
    rw [es]
    have e' : outr 6 ⟨((List.range (a + (a + b) + (a + b + c) + (a + b + c + d)).toNat).map (fun (k : Nat) => ((1 : Int), (k : Int)))).map (ev u v), [], [], [], [], a, a + (a + b), a + (a + b) + (a + b + c), a + (a + b) + (a + b + c) + (a + b + c + d)⟩ = some (R.ev u v) := e
    rw [e']
    simp only [OL.ev, h0, List.map_nil, row_ev h1, row_ev h2, row_ev h3, row_ev h4, beq_self_eq_true, Bool.and_self]
theorem shapes1 : ([0, 1, 2] : List Int).all (fun b => ([0, 1] : List Int).all fun c => ([0, 1] : List Int).all fun d => shapeL 1 b c d) = true := by decide +kernel
theorem shapes2 : ([0, 1, 2] : List Int).all (fun b => ([0, 1] : List Int).all fun c => ([0, 1] : List Int).all fun d => shapeL 2 b c d) = true := by decide +kernel
theorem shapeOK_of {a b c d st sp : Int} (ha : 1 ≤ a ∧ a ≤ 2) (hb : 0 ≤ b ∧ b ≤ 2) (hc : 0 ≤ c ∧ c ≤ 1) (hd : 0 ≤ d ∧ d ≤ 1) (hst : -2 ≤ st ∧ st ≤ 4) (hsp : -1 ≤ sp ∧ sp ≤ 2) : shapeOK a b c d st sp = true := by
  refine shape_ev ?_ (by omega) (by omega)
  clear hst hsp
  have mb : b ∈ ([0, 1, 2] : List Int) := by simp; omega
  have mc : c ∈ ([0, 1] : List Int) := by simp; omega
  have md : d ∈ ([0, 1] : List Int) := by simp; omega
  have ha' : a = 1 ∨ a = 2 := by omega
  rcases ha' with rfl | rfl
  · exact List.all_eq_true.mp (List.all_eq_true.mp (List.all_eq_true.mp shapes1 _ mb) _ mc) _ md
  · exact List.all_eq_true.mp (List.all_eq_true.mp (List.all_eq_true.mp shapes2 _ mb) _ mc) _ md
end Mine
end

section
open PySem PySem.W PyProof.Rows PySem.Calls
set_option maxRecDepth 100000
set_option maxHeartbeats 8000000
namespace Mine
example : True := by
  w_top off
  k_with_none
  trivial
example : True := by first | walk1 | trivial
def Below (c : Addr) (as : List Addr) : Prop := ∀ a ∈ as, @LT.lt Nat _ a c
theorem below_of {c : Addr} {news : List (Addr × Obj)} (h : ∀ p ∈ news, @LT.lt Nat _ p.1 c) : Below c (news.map Prod.fst) := fun a ha => by
  obtain ⟨p, hp, rfl⟩ := List.mem_map.mp ha
  exact h p hp
/-- the lexer's ten addresses, in falling order but the last -/
structure Blk (x dx pb al fs d fr c' tc ac : Nat) : Prop where
  ch : Chain x dx pb al fs d fr c' tc ac
theorem inc_cons {a b : Nat} {l : List Nat} (h : a < b) (p : List.Pairwise (fun a b : Nat => a < b) (b :: l)) : List.Pairwise (fun a b : Nat => a < b) (a :: b :: l) :=
  .cons (fun _ hc => (List.mem_cons.mp hc).elim (fun e => e ▸ h) fun hc => Nat.lt_trans h (List.rel_of_pairwise_cons p hc)) p
theorem inc_ne {l : List Nat} (p : List.Pairwise (fun a b : Nat => a < b) l) {i j a b : Nat} (hi : l[i]? = some a) (hj : l[j]? = some b) (h : i ≠ j) : a ≠ b := by
  obtain ⟨h1, rfl⟩ := List.getElem?_eq_some_iff.mp hi
  obtain ⟨h2, rfl⟩ := List.getElem?_eq_some_iff.mp hj
  rcases Nat.lt_or_gt_of_ne h with q | q
  · exact Nat.ne_of_lt (List.pairwise_iff_getElem.mp p i j h1 h2 q)
  · exact Nat.ne_of_gt (List.pairwise_iff_getElem.mp p j i h2 h1 q)
theorem Blk.inc {x dx pb al fs d fr c' tc ac : Nat} (h : Blk x dx pb al fs d fr c' tc ac) : List.Pairwise (fun a b : Nat => a < b) [tc, ac, al, c', fr, fs, d, dx, x, pb] := by
  obtain ⟨ch1, ch2, ch3, ch4, ch5, ch6, ch7, ch8, ch9⟩ := h.ch
  exact inc_cons ch1 (inc_cons ch2 (inc_cons ch3 (inc_cons ch4 (inc_cons ch5 (inc_cons ch6 (inc_cons ch7 (inc_cons ch8 (inc_cons ch9 (List.pairwise_singleton _ _)))))))))
theorem Blk.ge {x dx pb al fs d fr c' tc ac : Nat} (h : Blk x dx pb al fs d fr c' tc ac) {y : Nat} (hy : y ∈ [x, dx, pb, al, fs, d, fr, c', tc, ac]) : tc ≤ y := by
  have P := h.inc
  have g : ∀ y ∈ [tc, ac, al, c', fr, fs, d, dx, x, pb], tc ≤ y := List.forall_mem_cons.mpr ⟨Nat.le_refl _, fun y hy => Nat.le_of_lt (List.rel_of_pairwise_cons P hy)⟩
  refine g y ?_
  have m : ∀ y ∈ [x, dx, pb, al, fs, d, fr, c', tc, ac], y ∈ [tc, ac, al, c', fr, fs, d, dx, x, pb] := List.forall_mem_cons.mpr ⟨(.tail _ (.tail _ (.tail _ (.tail _ (.tail _ (.tail _ (.tail _ (.tail _ (.head _))))))))), List.forall_mem_cons.mpr ⟨(.tail _ (.tail _ (.tail _ (.tail _ (.tail _ (.tail _ (.tail _ (.head _)))))))), List.forall_mem_cons.mpr ⟨(.tail _ (.tail _ (.tail _ (.tail _ (.tail _ (.tail _ (.tail _ (.tail _ (.tail _ (.head _)))))))))), List.forall_mem_cons.mpr ⟨(.tail _ (.tail _ (.head _))), List.forall_mem_cons.mpr ⟨(.tail _ (.tail _ (.tail _ (.tail _ (.tail _ (.head _)))))), List.forall_mem_cons.mpr ⟨(.tail _ (.tail _ (.tail _ (.tail _ (.tail _ (.tail _ (.head _))))))), List.forall_mem_cons.mpr ⟨(.tail _ (.tail _ (.tail _ (.tail _ (.head _))))), List.forall_mem_cons.mpr ⟨(.tail _ (.tail _ (.tail _ (.head _)))), List.forall_mem_cons.mpr ⟨(.head _), List.forall_mem_cons.mpr ⟨(.tail _ (.head _)), List.forall_mem_nil _⟩⟩⟩⟩⟩⟩⟩⟩⟩⟩
  exact m y hy
theorem blk_ne {x dx pb al fs d fr c' tc ac : Nat} (h : Blk x dx pb al fs d fr c' tc ac) {as : List Addr} (b : Below tc as) {a : Addr} {y : Addr} (ha : a ∈ as) (hy : y ∈ ([x, dx, pb, al, fs, d, fr, c', tc, ac] : List Nat)) : a ≠ y := fun q => by
  subst q
  exact Nat.lt_irrefl _ (Nat.lt_of_lt_of_le (b _ ha) (h.ge hy))
theorem blk_ne' {x dx pb al fs d fr c' tc ac : Nat} (h : Blk x dx pb al fs d fr c' tc ac) {as : List Addr} (b : Below tc as) {a : Addr} {y : Addr} (ha : a ∈ as) (hy : y ∈ ([x, dx, pb, al, fs, d, fr, c', tc, ac] : List Nat)) : y ≠ a := (blk_ne h b ha hy).symm
theorem Blk.nodup {x dx pb al fs d fr c' tc ac : Nat} (h : Blk x dx pb al fs d fr c' tc ac) : List.Pairwise (fun a b : Nat => a ≠ b) [x, dx, pb, al, fs, d, fr, c', tc, ac] := by
  have P := h.inc
  exact .cons (List.forall_mem_cons.mpr ⟨inc_ne P (i := 8) (j := 7) rfl rfl (Nat.ne_of_beq_eq_false rfl), List.forall_mem_cons.mpr ⟨inc_ne P (i := 8) (j := 9) rfl rfl (Nat.ne_of_beq_eq_false rfl), List.forall_mem_cons.mpr ⟨inc_ne P (i := 8) (j := 2) rfl rfl (Nat.ne_of_beq_eq_false rfl), List.forall_mem_cons.mpr ⟨inc_ne P (i := 8) (j := 5) rfl rfl (Nat.ne_of_beq_eq_false rfl), List.forall_mem_cons.mpr ⟨inc_ne P (i := 8) (j := 6) rfl rfl (Nat.ne_of_beq_eq_false rfl), List.forall_mem_cons.mpr ⟨inc_ne P (i := 8) (j := 4) rfl rfl (Nat.ne_of_beq_eq_false rfl), List.forall_mem_cons.mpr ⟨inc_ne P (i := 8) (j := 3) rfl rfl (Nat.ne_of_beq_eq_false rfl), List.forall_mem_cons.mpr ⟨inc_ne P (i := 8) (j := 0) rfl rfl (Nat.ne_of_beq_eq_false rfl), List.forall_mem_cons.mpr ⟨inc_ne P (i := 8) (j := 1) rfl rfl (Nat.ne_of_beq_eq_false rfl), List.forall_mem_nil _⟩⟩⟩⟩⟩⟩⟩⟩⟩) (.cons (List.forall_mem_cons.mpr ⟨inc_ne P (i := 7) (j := 9) rfl rfl (Nat.ne_of_beq_eq_false rfl), List.forall_mem_cons.mpr ⟨inc_ne P (i := 7) (j := 2) rfl rfl (Nat.ne_of_beq_eq_false rfl), List.forall_mem_cons.mpr ⟨inc_ne P (i := 7) (j := 5) rfl rfl (Nat.ne_of_beq_eq_false rfl), List.forall_mem_cons.mpr ⟨inc_ne P (i := 7) (j := 6) rfl rfl (Nat.ne_of_beq_eq_false rfl), List.forall_mem_cons.mpr ⟨inc_ne P (i := 7) (j := 4) rfl rfl (Nat.ne_of_beq_eq_false rfl), List.forall_mem_cons.mpr ⟨inc_ne P (i := 7) (j := 3) rfl rfl (Nat.ne_of_beq_eq_false rfl), List.forall_mem_cons.mpr ⟨inc_ne P (i := 7) (j := 0) rfl rfl (Nat.ne_of_beq_eq_false rfl), List.forall_mem_cons.mpr ⟨inc_ne P (i := 7) (j := 1) rfl rfl (Nat.ne_of_beq_eq_false rfl), List.forall_mem_nil _⟩⟩⟩⟩⟩⟩⟩⟩) (.cons (List.forall_mem_cons.mpr ⟨inc_ne P (i := 9) (j := 2) rfl rfl (Nat.ne_of_beq_eq_false rfl), List.forall_mem_cons.mpr ⟨inc_ne P (i := 9) (j := 5) rfl rfl (Nat.ne_of_beq_eq_false rfl), List.forall_mem_cons.mpr ⟨inc_ne P (i := 9) (j := 6) rfl rfl (Nat.ne_of_beq_eq_false rfl), List.forall_mem_cons.mpr ⟨inc_ne P (i := 9) (j := 4) rfl rfl (Nat.ne_of_beq_eq_false rfl), List.forall_mem_cons.mpr ⟨inc_ne P (i := 9) (j := 3) rfl rfl (Nat.ne_of_beq_eq_false rfl), List.forall_mem_cons.mpr ⟨inc_ne P (i := 9) (j := 0) rfl rfl (Nat.ne_of_beq_eq_false rfl), List.forall_mem_cons.mpr ⟨inc_ne P (i := 9) (j := 1) rfl rfl (Nat.ne_of_beq_eq_false rfl), List.forall_mem_nil _⟩⟩⟩⟩⟩⟩⟩) (.cons (List.forall_mem_cons.mpr ⟨inc_ne P (i := 2) (j := 5) rfl rfl (Nat.ne_of_beq_eq_false rfl), List.forall_mem_cons.mpr ⟨inc_ne P (i := 2) (j := 6) rfl rfl (Nat.ne_of_beq_eq_false rfl), List.forall_mem_cons.mpr ⟨inc_ne P (i := 2) (j := 4) rfl rfl (Nat.ne_of_beq_eq_false rfl), List.forall_mem_cons.mpr ⟨inc_ne P (i := 2) (j := 3) rfl rfl (Nat.ne_of_beq_eq_false rfl), List.forall_mem_cons.mpr ⟨inc_ne P (i := 2) (j := 0) rfl rfl (Nat.ne_of_beq_eq_false rfl), List.forall_mem_cons.mpr ⟨inc_ne P (i := 2) (j := 1) rfl rfl (Nat.ne_of_beq_eq_false rfl), List.forall_mem_nil _⟩⟩⟩⟩⟩⟩) (.cons (List.forall_mem_cons.mpr ⟨inc_ne P (i := 5) (j := 6) rfl rfl (Nat.ne_of_beq_eq_false rfl), List.forall_mem_cons.mpr ⟨inc_ne P (i := 5) (j := 4) rfl rfl (Nat.ne_of_beq_eq_false rfl), List.forall_mem_cons.mpr ⟨inc_ne P (i := 5) (j := 3) rfl rfl (Nat.ne_of_beq_eq_false rfl), List.forall_mem_cons.mpr ⟨inc_ne P (i := 5) (j := 0) rfl rfl (Nat.ne_of_beq_eq_false rfl), List.forall_mem_cons.mpr ⟨inc_ne P (i := 5) (j := 1) rfl rfl (Nat.ne_of_beq_eq_false rfl), List.forall_mem_nil _⟩⟩⟩⟩⟩) (.cons (List.forall_mem_cons.mpr ⟨inc_ne P (i := 6) (j := 4) rfl rfl (Nat.ne_of_beq_eq_false rfl), List.forall_mem_cons.mpr ⟨inc_ne P (i := 6) (j := 3) rfl rfl (Nat.ne_of_beq_eq_false rfl), List.forall_mem_cons.mpr ⟨inc_ne P (i := 6) (j := 0) rfl rfl (Nat.ne_of_beq_eq_false rfl), List.forall_mem_cons.mpr ⟨inc_ne P (i := 6) (j := 1) rfl rfl (Nat.ne_of_beq_eq_false rfl), List.forall_mem_nil _⟩⟩⟩⟩) (.cons (List.forall_mem_cons.mpr ⟨inc_ne P (i := 4) (j := 3) rfl rfl (Nat.ne_of_beq_eq_false rfl), List.forall_mem_cons.mpr ⟨inc_ne P (i := 4) (j := 0) rfl rfl (Nat.ne_of_beq_eq_false rfl), List.forall_mem_cons.mpr ⟨inc_ne P (i := 4) (j := 1) rfl rfl (Nat.ne_of_beq_eq_false rfl), List.forall_mem_nil _⟩⟩⟩) (.cons (List.forall_mem_cons.mpr ⟨inc_ne P (i := 3) (j := 0) rfl rfl (Nat.ne_of_beq_eq_false rfl), List.forall_mem_cons.mpr ⟨inc_ne P (i := 3) (j := 1) rfl rfl (Nat.ne_of_beq_eq_false rfl), List.forall_mem_nil _⟩⟩) (.cons (List.forall_mem_cons.mpr ⟨inc_ne P (i := 0) (j := 1) rfl rfl (Nat.ne_of_beq_eq_false rfl), List.forall_mem_nil _⟩) (.cons (List.forall_mem_nil _) (.nil))))))))))
section
variable {prog : Program} {w : World} {A : Around} {E : Value → Shared → Prop} {Q : Value → Shared → Prop} {s : Shared} {g : Heap} {p : Program} {loose : List PySem.Str} {mean : ExcName → Option Value} {mg mb : PySem.Str → Option Value} {L : Addr} {m : PySem.Str → Option Value}
theorem dist_blk {x dx pb al fs d fr c' tc ac : Addr} {as : List Addr} (ch : Blk x dx pb al fs d fr c' tc ac) (b : Below tc as) (d' : Dist as) : Dist (x :: dx :: pb :: al :: fs :: d :: fr :: c' :: tc :: ac :: as) := by
  show ([x, dx, pb, al, fs, d, fr, c', tc, ac] ++ as).Nodup
  exact List.nodup_append.mpr ⟨ch.nodup, d', fun y hy a ha q => blk_ne ch b ha hy q.symm⟩
end
end Mine
end

section
open PySem PySem.W PyProof.Rows PySem.Calls
set_option maxRecDepth 100000
set_option maxHeartbeats 8000000
namespace Mine
example : True := by
  w_top off
  k_with_none
  trivial
example : True := by first | walk1 | trivial
theorem NumsAre.nil_inv {vs : List Value} (h : NumsAre vs []) : vs = [] := by cases h; rfl
section
variable {prog : Program} {w : World} {A : Around} {E : Value → Shared → Prop} {Q : Value → Shared → Prop} {s : Shared} {g : Heap} {p : Program} {loose : List PySem.Str} {mean : ExcName → Option Value} {mg mb : PySem.Str → Option Value} {L : Addr} {m : PySem.Str → Option Value} {news : List (Addr × Obj)} {as : List Addr} {G : Obj → List (Addr × Obj)}
theorem Blk.n1 {x dx pb al fs d fr c' tc ac : Addr} (h : Blk x dx pb al fs d fr c' tc ac) : x ≠ dx ∧ x ≠ pb ∧ dx ≠ pb := by
  obtain ⟨ch1, ch2, ch3, ch4, ch5, ch6, ch7, ch8, ch9⟩ := h.ch
  exact ⟨neN (by omega), neN (by omega), neN (by omega)⟩
theorem updS_sub {d : Addr} {o : Obj} {l : List (Addr × Obj)} (h : UpdS d o l G) (n : (l.map Prod.fst).Nodup) (o' : Obj) : ∀ p ∈ G o', p = (d, o') ∨ (p ∈ l ∧ p.1 ≠ d) := by
  induction h with
  | @head r =>
    intro p hp
    rcases List.mem_cons.mp hp with rfl | hp
    · exact .inl rfl
    · refine .inr ⟨.tail _ hp, fun q => (List.nodup_cons.mp n).1 ?_⟩
      have hm := List.mem_map_of_mem (f := Prod.fst) hp
      rw [q] at hm
      exact hm
  | @tail p' r g h ih =>
    intro p hp
    rcases List.mem_cons.mp hp with rfl | hp
    · refine .inr ⟨.head _, fun q => (List.nodup_cons.mp n).1 ?_⟩
      have hm := List.mem_map_of_mem (f := Prod.fst) h.mem
      rw [q]
      exact hm
    · rcases ih (List.nodup_cons.mp n).2 p hp with e | ⟨e1, e2⟩
      · exact .inl e
      · exact .inr ⟨.tail _ e1, e2⟩
theorem r_linedS {x dx pb al fs d fr c' tc ac : Addr} {k1 k2 k3 k4 t1 t3 : Tok} {ln start step n : Int} {np : Nat} {u1 u2 u3 : Tok} (F : Fr g L s.heap m) (N : News g L s.heap news) (X : (lawTop.heap_39 w.params).In g) (T : Top p loose mean mg mb g)
   (ch : Blk x dx pb al fs d fr c' tc ac) (hx : (x, instObj 121 dx) ∈ news) (hdx : (dx, lexDict w k1 k2 k3 k4 t1 t3 ln fs pb) ∈ news) (U : UpdS pb (listOf ([] : List Value).toArray np) news G) (hD : Dist as) (he : news.map Prod.fst = as) (hn : 0 ≤ n ∧ n ≤ 20) (hst : -2 ≤ start ∧ start ≤ 4) (hsp : -1 ≤ step ∧ step ≤ 2) (hA1 : A.handled = none) (hA2 : A.depth ≤ 325) (hA3 : A.units ≤ 390)
   (post : ∀ its np' h' tk', NumsAre its ((List.range n.toNat).map fun (k : Nat) => start + step * (k : Int)) → Fr g L h' m → News g L h' (G (listOf its.toArray np')) → Q .none { s with heap := h', toks := tk' }) :
   wpAny (model prog w) A (call (.ref 178) [.ref x, .int start u1, .int step u2, .int n u3]) Q E s :=
  r_lined F N X T hx hdx (updF_dist U hD he) ch.n1.1 ch.n1.2.1 ch.n1.2.2 (Int.toNat_of_nonneg hn.1).symm (by omega) ⟨by omega, by omega, by omega, by omega⟩ hA1 hA2 hA3 post
theorem shape_out {a b c d st sp : Int} {q : List Int} (ha : 1 ≤ a ∧ a ≤ 2) (hb : 0 ≤ b ∧ b ≤ 2) (hc : 0 ≤ c ∧ c ≤ 1) (hd : 0 ≤ d ∧ d ≤ 1) (hst : -2 ≤ st ∧ st ≤ 4) (hsp : -1 ≤ sp ∧ sp ≤ 2)
    (hq : q = (List.range (a + (a + b) + (a + b + c) + (a + b + c + d)).toNat).map fun (k : Nat) => st + sp * (k : Int)) :
    ∃ r, outr 6 ⟨q, [], [], [], [], a, a + (a + b), a + (a + b) + (a + b + c), a + (a + b) + (a + b + c) + (a + b + c + d)⟩ = some r ∧ r.q = [] ∧ r.o0 = (cRows [a, b, c, d] 0 [sp, st + sp * 0] 1).drop 1 ∧ r.o1 = (cRows [a, b, c, d] 1 [sp, st + sp * 1] 2).drop 1 ∧ r.o2 = (cRows [a, b, c, d] 2 [sp, st + sp * 2] 3).drop 1 ∧ r.o3 = (cRows [a, b, c, d] 3 [sp, st + sp * 3] 4).drop 1 := by
  have h := shapeOK_of ha hb hc hd hst hsp
  subst hq
  unfold shapeOK at h
  dsimp only at h
  split at h
  · cases h
  · rename_i r hr
    simp only [Bool.and_eq_true, beq_iff_eq] at h
    exact ⟨r, hr, h.1.1.1.1, h.1.1.1.2, h.1.1.2, h.1.2, h.2⟩
theorem r_struckS {x dx pb al fs d fr c' tc ac : Addr} {el : Addr} {k1 k2 k3 k4 t1 t3 : Tok} {ln : Int} {np ne : Nat} {its : List Value} {a b c e st sp : Int} {v1 v2 v3 v4 : Tok} {rest : List (Addr × Obj)} (F : Fr g L s.heap m)
   (N : News g L s.heap ((el, listOf [Value.int a v1, Value.int (a + (a + b)) v2, Value.int (a + (a + b) + (a + b + c)) v3, Value.int (a + (a + b) + (a + b + c) + (a + b + c + e)) v4].toArray ne) :: rest)) (X : (lawTop.heap_39 w.params).In g) (T : Top p loose mean mg mb g)
   (ch : Blk x dx pb al fs d fr c' tc ac) (hx : (x, instObj 121 dx) ∈ rest) (hdx : (dx, lexDict w k1 k2 k3 k4 t1 t3 ln fs pb) ∈ rest) (U : UpdS pb (listOf its.toArray np) rest G) (hD : Dist (el :: as)) (he : rest.map Prod.fst = as)
   (ha : 1 ≤ a ∧ a ≤ 2) (hb : 0 ≤ b ∧ b ≤ 2) (hc : 0 ≤ c ∧ c ≤ 1) (hd : 0 ≤ e ∧ e ≤ 1) (hst : -2 ≤ st ∧ st ≤ 4) (hsp : -1 ≤ sp ∧ sp ≤ 2) (hq : NumsAre its ((List.range (a + (a + b) + (a + b + c) + (a + b + c + e)).toNat).map fun (k : Nat) => st + sp * (k : Int))) (hA1 : A.handled = none) (hA2 : A.depth ≤ 325) (hA3 : A.units ≤ 380)
   (post : ∀ ol a0 a1 a2 a3 v0 v1 v2 v3 n0 n1 n2 n3 np' h' tk', IntsAre v0 ((cRows [a, b, c, e] 0 [sp, st + sp * 0] 1).drop 1) → IntsAre v1 ((cRows [a, b, c, e] 1 [sp, st + sp * 1] 2).drop 1) → IntsAre v2 ((cRows [a, b, c, e] 2 [sp, st + sp * 2] 3).drop 1) → IntsAre v3 ((cRows [a, b, c, e] 3 [sp, st + sp * 3] 4).drop 1) → Fr g L h' m →
      News g L h' ((ol, listOf #[.ref a0, .ref a1, .ref a2, .ref a3] 0) :: (a0, listOf v0.toArray n0) :: (a1, listOf v1.toArray n1) :: (a2, listOf v2.toArray n2) :: (a3, listOf v3.toArray n3) :: G (listOf ([] : List Value).toArray np')) →
      (∀ y, y ∈ [ol, a0, a1, a2, a3] → ∀ p ∈ rest, y ≠ p.1) → Q (.ref ol) { s with heap := h', toks := tk' }) :
   wpAny (model prog w) A (call (.ref 183) [.ref x, .ref el]) Q E s := by
  obtain ⟨r, hr, q0, q1, q2, q3, q4⟩ := shape_out ha hb hc hd hst hsp rfl
  have hD' : Dist as := (List.nodup_cons.mp hD).2
  have hne : ∀ p ∈ rest, el ≠ p.1 := fun p hp q => (List.nodup_cons.mp hD).1 (by rw [q, ← he]; exact List.mem_map_of_mem (f := Prod.fst) hp)
  have hdd : Dist [el, x, dx, pb] := nod (fun y hy => by
    rcases List.mem_cons.mp hy with rfl | hy
    · exact hne _ hx
    rcases List.mem_cons.mp hy with rfl | hy
    · exact hne _ hdx
    rw [List.mem_singleton.mp hy]; exact hne _ U.mem) ((chain_dist ch.ch).sublist (.cons₂ _ (.cons₂ _ (.cons₂ _ (.cons _ .slnil)))))
  refine r_struck F N X T hx hdx (updF_dist U hD' he) hne hdd hq (.cons _ _ (.cons _ _ (.cons _ _ (.cons _ _ .nil)))) ?_ hr hA1 hA2 hA3 fun ol a0 a1 a2 a3 v0 v1 v2 v3 n0 n1 n2 n3 its' np' h' tk' i0 i1 i2 i3 hq' F' N' ne => ?_
  · simp only [List.length_map, List.length_range]; omega
  · rw [q0] at hq'
    obtain rfl := hq'.nil_inv
    rw [q1] at i0
    rw [q2] at i1
    rw [q3] at i2
    rw [q4] at i3
    exact post ol a0 a1 a2 a3 v0 v1 v2 v3 n0 n1 n2 n3 np' h' tk' i0 i1 i2 i3 F' N' ne
theorem updS_map {d : Addr} {o : Obj} {l : List (Addr × Obj)} (h : UpdS d o l G) (o' : Obj) : (G o').map Prod.fst = l.map Prod.fst := by
  induction h with
  | head => rfl
  | tail _ ih => simp only [List.map_cons, ih]
inductive DelS (a : Addr) (o : Obj) : List (Addr × Obj) → List (Addr × Obj) → Prop
  | head {r} : DelS a o ((a, o) :: r) r
  | tail {p r r'} : DelS a o r r' → DelS a o (p :: r) (p :: r')
theorem DelS.mem {a : Addr} {o : Obj} {l l' : List (Addr × Obj)} (h : DelS a o l l') : (a, o) ∈ l := by
  induction h with
  | head => exact .head _
  | tail _ ih => exact .tail _ ih
theorem delS_sub {a : Addr} {o : Obj} {l l' : List (Addr × Obj)} (h : DelS a o l l') (n : (l.map Prod.fst).Nodup) : ∀ p ∈ l', p ∈ l ∧ p.1 ≠ a := by
  induction h with
  | @head r =>
    intro p hp
    refine ⟨.tail _ hp, fun q => (List.nodup_cons.mp n).1 ?_⟩
    have hm := List.mem_map_of_mem (f := Prod.fst) hp
    rw [q] at hm
    exact hm
  | @tail p' r r' h ih =>
    intro p hp
    rcases List.mem_cons.mp hp with rfl | hp
    · refine ⟨.head _, fun q => (List.nodup_cons.mp n).1 ?_⟩
      have hm := List.mem_map_of_mem (f := Prod.fst) h.mem
      rw [q]
      exact hm
    · obtain ⟨e1, e2⟩ := ih (List.nodup_cons.mp n).2 p hp
      exact ⟨.tail _ e1, e2⟩
def Sep (ys as : List Addr) : Prop := ∀ y ∈ ys, ∀ a ∈ as, y ≠ a
theorem sep_of {ys : List Addr} {rest : List (Addr × Obj)} (h : ∀ y, y ∈ ys → ∀ p ∈ rest, y ≠ p.1) : Sep ys (rest.map Prod.fst) := fun y hy a ha => by
  obtain ⟨p, hp, rfl⟩ := List.mem_map.mp ha
  exact h y hy p hp
theorem dist_tail {q : Addr} (d : Dist (q :: as)) : Dist as := (List.nodup_cons.mp d).2
/-- the last token, five young objects ahead -/
theorem r_endT {x dx pb al fs d fr c' tc ac : Addr} {o1 o2 o3 o4 o5 o6 : Obj} {k1 k2 k3 k4 t1 t3 ta : Tok} {ln : Int} {np n na nl : Nat} {text : PySem.Str} {H : Obj → List (Addr × Obj)} {y1 y2 y3 y4 y5 : Addr} {q1 q2 q3 q4 q5 : Obj} (F : Fr g L s.heap m) (N : News g L s.heap ((y1, q1) :: (y2, q2) :: (y3, q3) :: (y4, q4) :: (y5, q5) :: news)) (X : (lawTop.heap_39 w.params).In g) (T : Top p loose mean mg mb g)
   (S : StreamO w text al d fr c' tc ac o1 o2 o3 o4 o5 o6) (ch : Blk x dx pb al fs d fr c' tc ac) (hx : (x, instObj 121 dx) ∈ news) (hpb : (pb, listOf ([] : List Value).toArray np) ∈ news)
   (U : UpdS dx (lexDict w k1 k2 k3 k4 t1 t3 ln fs pb) news G) (V : ∀ o, DelS al (listOf #[Value.int (n : Int) ta] na) (G o) (H o)) (hD : Dist as) (he : news.map Prod.fst = as) (hs : Sep [y1, y2, y3, y4, y5] as)
   (h1 : (fs, o1) ∈ news) (h2 : (d, o2) ∈ news) (h3 : (fr, o3) ∈ news) (h4 : (c', o4) ∈ news) (h5 : (tc, o5) ∈ news) (h6 : (ac, o6) ∈ news)
   (hd : text.cps.toList.drop n = List.replicate nl 10 ++ []) (hn : n ≤ text.length) (hlen : text.length ≤ 10000) (hA1 : A.handled = none) (hA2 : A.depth ≤ 340) (hA3 : A.units ≤ 430)
   (post : ∀ t' t1' h' tk', Fr g L h' m → News g L h' ((y1, q1) :: (y2, q2) :: (y3, q3) :: (y4, q4) :: (y5, q5) :: H (lexDict w k1 k2 k3 k4 t1' t3 (ln + nl) fs pb)) → Q (.str ⟨#[]⟩ t') { s with heap := h', toks := tk' }) :
   wpAny (model prog w) A (call (.ref 111) [.ref x]) Q E s := by
  subst he
  have hne : dx ≠ al := by
    obtain ⟨ch1, ch2, ch3, ch4, ch5, ch6, ch7, ch8, ch9⟩ := ch.ch
    exact neN (by omega)
  have mal : (al, listOf #[Value.int (n : Int) ta] na) ∈ news := by
    rcases updS_sub U hD (lexDict w k1 k2 k3 k4 t1 t3 ln fs pb) _ (V _).mem with e | e
    · exact absurd (congrArg Prod.fst e).symm hne
    · exact e.1
  have up : ∀ z ∈ news, z ∈ (y1, q1) :: (y2, q2) :: (y3, q3) :: (y4, q4) :: (y5, q5) :: news := fun z hz => .tail _ (.tail _ (.tail _ (.tail _ (.tail _ hz))))
  have adx : dx ∈ news.map Prod.fst := List.mem_map_of_mem (f := Prod.fst) U.mem
  have aal : al ∈ news.map Prod.fst := List.mem_map_of_mem (f := Prod.fst) mal
  refine r_end F N X T S ch.ch (up _ hx) (up _ hpb) (up _ U.mem) (up _ mal) (news' := (y1, q1) :: (y2, q2) :: (y3, q3) :: (y4, q4) :: (y5, q5) :: news.filter fun p => p.1 != dx && p.1 != al) (fun p hp => ?_) (fun p hp => ?_) (up _ h1) (up _ h2) (up _ h3) (up _ h4) (up _ h5) (up _ h6) (by rw [hd, List.append_nil]) hn hlen hA1 hA2 hA3 fun t' t1' h' tk' F' N' => post t' t1' h' tk' F' fun p hp => N' p ?_
  · simp only [List.mem_cons] at hp
    rcases hp with rfl | rfl | rfl | rfl | rfl | hp
    · exact .head _
    · exact .tail _ (.head _)
    · exact .tail _ (.tail _ (.head _))
    · exact .tail _ (.tail _ (.tail _ (.head _)))
    · exact .tail _ (.tail _ (.tail _ (.tail _ (.head _))))
    · exact up _ (List.mem_filter.mp hp).1
  · simp only [List.mem_cons] at hp
    rcases hp with rfl | rfl | rfl | rfl | rfl | hp
    · exact ⟨hs y1 (by simp) _ adx, hs y1 (by simp) _ aal⟩
    · exact ⟨hs y2 (by simp) _ adx, hs y2 (by simp) _ aal⟩
    · exact ⟨hs y3 (by simp) _ adx, hs y3 (by simp) _ aal⟩
    · exact ⟨hs y4 (by simp) _ adx, hs y4 (by simp) _ aal⟩
    · exact ⟨hs y5 (by simp) _ adx, hs y5 (by simp) _ aal⟩
    · have := (List.mem_filter.mp hp).2
      simp only [Bool.and_eq_true, bne_iff_ne] at this
      exact this
  · simp only [List.mem_cons] at hp
    rcases hp with rfl | rfl | rfl | rfl | rfl | hp
    · exact .tail _ (.head _)
    · exact .tail _ (.tail _ (.head _))
    · exact .tail _ (.tail _ (.tail _ (.head _)))
    · exact .tail _ (.tail _ (.tail _ (.tail _ (.head _))))
    · exact .tail _ (.tail _ (.tail _ (.tail _ (.tail _ (.head _)))))
    · obtain ⟨e1, e2⟩ := delS_sub (V _) (by rw [updS_map U]; exact hD) p hp
      rcases updS_sub U hD _ p e1 with e | ⟨e3, e4⟩
      · rw [e]; exact .head _
      · exact .tail _ (.tail _ (.tail _ (.tail _ (.tail _ (.tail _ (List.mem_filter.mpr ⟨e3, by simp only [Bool.and_eq_true, bne_iff_ne]; exact ⟨e4, e2⟩⟩))))))
end
end Mine
end

section
open PySem PySem.W PyProof.Rows PySem.Calls
set_option maxRecDepth 100000
set_option maxHeartbeats 8000000
namespace Mine
example : True := by
  w_top off
  k_with_none
  trivial
example : True := by first | walk1 | trivial
theorem w_ok : ∀ x ∈ allW, PyData.strOk x = true := by decide +kernel
theorem n_ok : ∀ l ∈ allN, PyData.strOk ⟨l.toArray⟩ = true := by decide +kernel
inductive StrsAre : List Value → List PySem.Str → Prop
  | nil : StrsAre [] []
  | cons (x : PySem.Str) (t : Tok) {vs ss} : StrsAre vs ss → StrsAre (.str x t :: vs) (x :: ss)
theorem StrsAre.carried : ∀ {vs : List Value} {ss : List PySem.Str}, StrsAre vs ss → CarriedAll vs (ss.map PyData.str)
  | _, _, .nil => .nil
  | _, _, .cons x t r => .cons (.str x t) r.carried
theorem strs_lay : ∀ {ss : List PySem.Str}, (∀ x ∈ ss, PyData.strOk x = true) → PyData.canLayAll0 (ss.map PyData.str) = true
  | [], _ => rfl
  | x :: r, h => by
    simp only [List.map_cons, PyData.canLayAll0, PyData.canLay0, Bool.and_eq_true]
    exact ⟨h x (.head _), strs_lay fun y hy => h y (.tail _ hy)⟩
theorem strs_depth : ∀ ss : List PySem.Str, PyData.depthAll (ss.map PyData.str) = 0
  | [] => rfl
  | _ :: r => by simp [PyData.depthAll, PyData.depth, strs_depth r]
theorem strs_eqv : ∀ ss : List PySem.Str, PyData.eqvAll (ss.map PyData.str) (ss.map PyData.str) = true
  | [] => by simp [PyData.eqvAll]
  | x :: r => by simp [PyData.eqvAll, PyData.eqv, strs_eqv r]
section
variable {prog : Program} {w : World} {A : Around} {E : Value → Shared → Prop} {Q : Value → Shared → Prop} {s : Shared} {g : Heap} {L : Addr} {news : List (Addr × Obj)}
theorem eq_strsL {a b : Addr} {xs ys : List Value} {na nb : Nat} {ss : List PySem.Str} (N : News g L s.heap news) (ha : (a, listOf xs.toArray na) ∈ news) (hb : (b, listOf ys.toArray nb) ∈ news) (hi : StrsAre xs ss) (hj : StrsAre ys ss)
    (hok : ∀ x ∈ ss, PyData.strOk x = true) (hu : A.units + 64 < cLine) (h : Q (.bool true) s) : wpAny (model prog w) A (compareOp .Eq (.ref a) (.ref b)) Q E s := by
  have sh : SeqAt.shaped (.list (ss.map PyData.str)) = true := by simp [SeqAt.shaped, PyData.canLay0, PyData.depth, strs_lay hok, strs_depth]
  refine eq_dataH (reads_newData (News.isList N ha) hi.carried) (reads_newData (News.isList N hb) hj.carried) sh sh hu ?_
  have : PyData.eqv (.list (ss.map PyData.str)) (.list (ss.map PyData.str)) = true := by simp only [PyData.eqv]; exact strs_eqv ss
  rw [this]
  exact h
theorem ints_shaped4 (l0 l1 l2 l3 : List Int) : SeqAt.shaped (.list [.list (l0.map PyData.int), .list (l1.map PyData.int), .list (l2.map PyData.int), .list (l3.map PyData.int)]) = true := by
  simp [SeqAt.shaped, PyData.canLay0, PyData.canLayAll0, PyData.depth, PyData.depthAll, ke_canLayAll0, ke_depthAll]
theorem ints_eqv4 (l0 l1 l2 l3 : List Int) : PyData.eqv (.list [.list (l0.map PyData.int), .list (l1.map PyData.int), .list (l2.map PyData.int), .list (l3.map PyData.int)]) (.list [.list (l0.map PyData.int), .list (l1.map PyData.int), .list (l2.map PyData.int), .list (l3.map PyData.int)]) = true := by
  simp [PyData.eqv, PyData.eqvAll, ked_eqvAll]
theorem reads4 {h : Heap} {a a0 a1 a2 a3 : Addr} {v0 v1 v2 v3 : List Value} {na m0 m1 m2 m3 : Nat} {l0 l1 l2 l3 : List Int} (N : News g L h news) (ha : (a, listOf #[.ref a0, .ref a1, .ref a2, .ref a3] na) ∈ news) (h0 : (a0, listOf v0.toArray m0) ∈ news) (h1 : (a1, listOf v1.toArray m1) ∈ news) (h2 : (a2, listOf v2.toArray m2) ∈ news) (h3 : (a3, listOf v3.toArray m3) ∈ news)
    (i0 : IntsAre v0 l0) (i1 : IntsAre v1 l1) (i2 : IntsAre v2 l2) (i3 : IntsAre v3 l3) : ∃ as, Reads h (.ref a) (.list [.list (l0.map PyData.int), .list (l1.map PyData.int), .list (l2.map PyData.int), .list (l3.map PyData.int)]) as :=
  ⟨_, reads_list_at (News.get N ha) rfl rfl (.cons (reads_newData (News.isList N h0) (ke_carried i0)) (.cons (reads_newData (News.isList N h1) (ke_carried i1)) (.cons (reads_newData (News.isList N h2) (ke_carried i2)) (.cons (reads_newData (News.isList N h3) (ke_carried i3)) .nil))))⟩
theorem eq_nest4 {a a0 a1 a2 a3 b b0 b1 b2 b3 : Addr} {v0 v1 v2 v3 w0 w1 w2 w3 : List Value} {na nb m0 m1 m2 m3 n0 n1 n2 n3 : Nat} {l0 l1 l2 l3 : List Int} (N : News g L s.heap news) (ha : (a, listOf #[.ref a0, .ref a1, .ref a2, .ref a3] na) ∈ news) (h0 : (a0, listOf v0.toArray m0) ∈ news) (h1 : (a1, listOf v1.toArray m1) ∈ news) (h2 : (a2, listOf v2.toArray m2) ∈ news) (h3 : (a3, listOf v3.toArray m3) ∈ news)
    (hb : (b, listOf [.ref b0, .ref b1, .ref b2, .ref b3].toArray nb) ∈ news) (g0 : (b0, listOf w0.toArray n0) ∈ news) (g1 : (b1, listOf w1.toArray n1) ∈ news) (g2 : (b2, listOf w2.toArray n2) ∈ news) (g3 : (b3, listOf w3.toArray n3) ∈ news)
    (i0 : IntsAre v0 l0) (i1 : IntsAre v1 l1) (i2 : IntsAre v2 l2) (i3 : IntsAre v3 l3) (j0 : IntsAre w0 l0) (j1 : IntsAre w1 l1) (j2 : IntsAre w2 l2) (j3 : IntsAre w3 l3) (hu : A.units + 64 < cLine) (h : Q (.bool true) s) : wpAny (model prog w) A (compareOp .Eq (.ref a) (.ref b)) Q E s := by
  obtain ⟨_, r1⟩ := reads4 N ha h0 h1 h2 h3 i0 i1 i2 i3
  obtain ⟨_, r2⟩ := reads4 N hb g0 g1 g2 g3 j0 j1 j2 j3
  refine eq_dataH r1 r2 (ints_shaped4 _ _ _ _) (ints_shaped4 _ _ _ _) hu ?_
  rw [ints_eqv4]
  exact h
theorem r_namesN {p : Program} {loose : List PySem.Str} {mean : ExcName → Option Value} {mg mb : PySem.Str → Option Value} {m : PySem.Str → Option Value} {sa : Addr} {n : Nat} {d0 d1 d2 d3 d4 : Int} {t0 t1 t2 t3 t4 : Tok} {x1 x2 x3 x4 : PySem.Str} (F : Fr g L s.heap m) (N : News g L s.heap news) (X : (lawTop.heap_39 w.params).In g) (T : Top p loose mean mg mb g)
   (es : (sa, listOf [Value.int d0 t0, Value.int d1 t1, Value.int d2 t2, Value.int d3 t3, Value.int d4 t4].toArray n) ∈ news) (hd : BD d0 d1 d2 d3 d4) (e1 : nm1 d1 = x1) (e2 : nm2 d2 = x2) (e3 : nm3 d3 = x3) (e4 : nm3 d4 = x4) (hA1 : A.handled = none) (hA2 : A.depth ≤ 340) (hA3 : A.units ≤ 430)
   (post : ∀ q u1 u2 u3 u4 nq h' tk', Fr g L h' m → News g L h' ((q, listOf [Value.str x1 u1, Value.str x2 u2, Value.str x3 u3, Value.str x4 u4].toArray nq) :: news) → Q (.ref q) { s with heap := h', toks := tk' }) :
   wpAny (model prog w) A (call (.ref 142) [.ref sa]) Q E s := by
  subst e1 e2 e3 e4
  exact r_names F N X T es hd hA1 hA2 hA3 fun q u1 u2 u3 u4 nq h' tk' F' N' _ => post q u1 u2 u3 u4 nq h' tk' F' N'
end
section
variable {prog : Program} {w : World} {A : Around} {E : Value → Shared → Prop} {Q : Value → Shared → Prop} {s : Shared} {g : Heap} {p : Program} {loose : List PySem.Str} {mean : ExcName → Option Value} {mg mb : PySem.Str → Option Value} {L : Addr} {m : PySem.Str → Option Value}
/-- get_token of a spelled word, the stream's own objects somewhere in the old part -/
theorem r_word3D {x dx pb al fs d fr c' tc ac : Addr} {o1 o2 o3 o4 o5 o6 : Obj} {k1 k2 k3 k4 t1 t3 ta : Tok} {ln b : Int} {np n na nl : Nat} {text wd : PySem.Str} {cs rest : List Nat} {as : List Addr} {p1 p2 p3 : Addr × Obj} {old : List (Addr × Obj)} (F : Fr g L s.heap m)
   (N : News g L s.heap (p1 :: p2 :: p3 :: (x, instObj 121 dx) :: (dx, lexDict w k1 k2 k3 k4 t1 t3 ln fs pb) :: (pb, listOf ([] : List Value).toArray np) :: (al, listOf #[Value.int (n : Int) ta] na) :: old)) (X : (lawTop.heap_39 w.params).In g) (T : Top p loose mean mg mb g)
   (S : StreamO w text al d fr c' tc ac o1 o2 o3 o4 o5 o6) (ch : Blk x dx pb al fs d fr c' tc ac) (D : Dist (x :: dx :: pb :: al :: as)) (eas : old.map Prod.fst = as) (hpre : ∀ p ∈ [p1, p2, p3], p.1 ≠ dx ∧ p.1 ≠ al)
   (h1 : (fs, o1) ∈ old) (h2 : (d, o2) ∈ old) (h3 : (fr, o3) ∈ old) (h4 : (c', o4) ∈ old) (h5 : (tc, o5) ∈ old) (h6 : (ac, o6) ∈ old)
   (hd : text.cps.toList.drop n = List.replicate nl 10 ++ (spellL cs b ++ rest)) (ecs : wd.cps.toList = cs) (hw : wd ∈ allW) (hb : 0 ≤ b ∧ b ≤ 1) (hlen : text.length ≤ 10000) (hA1 : A.handled = none) (hA2 : A.depth ≤ 340) (hA3 : A.units ≤ 430)
   (post : ∀ n' t' t1' ta' h' tk', text.cps.toList.drop n' = List.replicate (1 - b).toNat 10 ++ rest → n' ≤ text.length → Fr g L h' m →
      News g L h' (p1 :: p2 :: p3 :: (x, instObj 121 dx) :: (dx, lexDict w k1 k2 k3 k4 t1' t3 (ln + nl) fs pb) :: (pb, listOf ([] : List Value).toArray np) :: (al, listOf #[Value.int (n' : Int) ta'] na) :: old) → Q (.str wd t') { s with heap := h', toks := tk' }) :
   wpAny (model prog w) A (call (.ref 111) [.ref x]) Q E s := by
  subst ecs
  subst eas
  obtain ⟨n1, n2, n3⟩ := ch.n1
  have hdal : dx ≠ al ∧ x ≠ al ∧ pb ≠ al := by
    obtain ⟨ch1, ch2, ch3, ch4, ch5, ch6, ch7, ch8, ch9⟩ := ch.ch
    exact ⟨neN (by omega), neN (by omega), neN (by omega)⟩
  have D1 := (List.nodup_cons.mp D).2
  have D2 := List.nodup_cons.mp D1
  have D4 := List.nodup_cons.mp (List.nodup_cons.mp D2.2).2
  have hold : ∀ p ∈ old, p.1 ≠ dx ∧ p.1 ≠ al := fun p hp => by
    have hm := List.mem_map_of_mem (f := Prod.fst) hp
    exact ⟨fun q => D2.1 (.tail _ (.tail _ (q ▸ hm))), fun q => D4.1 (q ▸ hm)⟩
  have U : UpdF dx (lexDict w k1 k2 k3 k4 t1 t3 ln fs pb) (p1 :: p2 :: p3 :: (x, instObj 121 dx) :: (dx, lexDict w k1 k2 k3 k4 t1 t3 ln fs pb) :: (pb, listOf ([] : List Value).toArray np) :: (al, listOf #[Value.int (n : Int) ta] na) :: old)
      (fun o => p1 :: p2 :: p3 :: (x, instObj 121 dx) :: (dx, o) :: (pb, listOf ([] : List Value).toArray np) :: (al, listOf #[Value.int (n : Int) ta] na) :: old) :=
    .tail (hpre _ (.head _)).1 (.tail (hpre _ (.tail _ (.head _))).1 (.tail (hpre _ (.tail _ (.tail _ (.head _)))).1 (.tail n1 (.head fun p hp => by
      rcases List.mem_cons.mp hp with rfl | hp
      · exact n3.symm
      rcases List.mem_cons.mp hp with rfl | hp
      · exact hdal.1.symm
      · exact (hold p hp).1))))
  have V : ∀ o, UpdF al (listOf #[Value.int (n : Int) ta] na) (p1 :: p2 :: p3 :: (x, instObj 121 dx) :: (dx, o) :: (pb, listOf ([] : List Value).toArray np) :: (al, listOf #[Value.int (n : Int) ta] na) :: old)
      (fun o' => p1 :: p2 :: p3 :: (x, instObj 121 dx) :: (dx, o) :: (pb, listOf ([] : List Value).toArray np) :: (al, o') :: old) := fun o =>
    .tail (hpre _ (.head _)).2 (.tail (hpre _ (.tail _ (.head _))).2 (.tail (hpre _ (.tail _ (.tail _ (.head _)))).2 (.tail hdal.2.1 (.tail hdal.1 (.tail hdal.2.2 (.head fun p hp => (hold p hp).2))))))
  have up : ∀ z ∈ old, z ∈ p1 :: p2 :: p3 :: (x, instObj 121 dx) :: (dx, lexDict w k1 k2 k3 k4 t1 t3 ln fs pb) :: (pb, listOf ([] : List Value).toArray np) :: (al, listOf #[Value.int (n : Int) ta] na) :: old := fun z hz => .tail _ (.tail _ (.tail _ (.tail _ (.tail _ (.tail _ (.tail _ hz))))))
  exact r_word F N X T S ch.ch (.tail _ (.tail _ (.tail _ (.head _)))) (.tail _ (.tail _ (.tail _ (.tail _ (.tail _ (.head _)))))) U V (up _ h1) (up _ h2) (up _ h3) (up _ h4) (up _ h5) (up _ h6) hd hw hb hlen hA1 hA2 hA3 post
end
end Mine
end

section
open PySem PySem.W PyProof.Rows PySem.Calls
set_option maxRecDepth 100000
set_option maxHeartbeats 8000000
namespace Mine
example : True := by
  w_top off
  k_with_none
  trivial
example : True := by first | walk1 | trivial
example : True := by
  k_with "m_mem" => (k_extra "m_mem")
  k_with "m_in" => (k_extra "m_in")
  k_with "m_ne" => (k_extra "m_ne")
  k_with "m_updF" => (k_extra "m_updF")
  trivial
example : True := by
  k_with_none
  trivial
section
variable {prog : Program} {w : World} {A : Around} {E : Value → Shared → Prop} {Q : Value → Shared → Prop} {s : Shared} {g : Heap} {p : Program} {loose : List PySem.Str} {mean : ExcName → Option Value} {mg mb : PySem.Str → Option Value} {L : Addr} {m : PySem.Str → Option Value} {news : List (Addr × Obj)}
theorem allW_pL {n : Int} (h : -2 ≤ n ∧ n ≤ 4) : pL n ∈ allW := by
  refine List.mem_append_left _ (List.mem_map_of_mem ?_)
  simp only [List.mem_cons, List.not_mem_nil, or_false]; omega
theorem allW_qL {l : List Nat} (h : l ∈ allN) : qL l ∈ allW := List.mem_append_right _ (List.mem_map_of_mem h)
theorem good_small {n : Int} (h : -2 ≤ n ∧ n ≤ 4) : goodN n = true := by
  have : n = -2 ∨ n = -1 ∨ n = 0 ∨ n = 1 ∨ n = 2 ∨ n = 3 ∨ n = 4 := by omega
  rcases this with rfl | rfl | rfl | rfl | rfl | rfl | rfl <;> decide +kernel
theorem r_drawnN {sa : Addr} {sv : List Value} {ns : List Int} (F : Fr g L s.heap m) (N : News g L s.heap news) (X : (lawTop.heap_39 w.params).In g) (T : Top p loose mean mg mb g) (es : g.IsList sa sv.toArray) (hi : IntsAre sv ns) (hlen : ns.length ≤ 63) (hA1 : A.handled = none) (hA2 : A.depth ≤ 340) (hA3 : A.units ≤ 430)
   (post : ∀ q d0 d1 d2 d3 d4 u0 u1 u2 u3 u4 nq l1 l2 l3 l4 h' tk', BD d0 d1 d2 d3 d4 → nm1 d1 = ⟨l1.toArray⟩ → nm2 d2 = ⟨l2.toArray⟩ → nm3 d3 = ⟨l3.toArray⟩ → nm3 d4 = ⟨l4.toArray⟩ → l1 ∈ allN → l2 ∈ allN → l3 ∈ allN → l4 ∈ allN →
      qL l1 ∈ allW → qL l2 ∈ allW → qL l3 ∈ allW → qL l4 ∈ allW → pL (d0.fmod 7 - 2) ∈ allW → pL ((d0.fdiv 7).fmod 4 - 1) ∈ allW → goodN (d0.fmod 7 - 2) = true → goodN ((d0.fdiv 7).fmod 4 - 1) = true → (-2 ≤ d0.fmod 7 - 2 ∧ d0.fmod 7 - 2 ≤ 4) → (-1 ≤ (d0.fdiv 7).fmod 4 - 1 ∧ (d0.fdiv 7).fmod 4 - 1 ≤ 2) →
      (1 ≤ (⟨l1.toArray⟩ : PySem.Str).length ∧ (⟨l1.toArray⟩ : PySem.Str).length ≤ 2) → (⟨l2.toArray⟩ : PySem.Str).length ≤ 2 → (⟨l3.toArray⟩ : PySem.Str).length ≤ 1 → (⟨l4.toArray⟩ : PySem.Str).length ≤ 1 →
      Fr g L h' m → News g L h' ((q, listOf [Value.int d0 u0, Value.int d1 u1, Value.int d2 u2, Value.int d3 u3, Value.int d4 u4].toArray nq) :: news) → (∀ p ∈ news, q ≠ p.1) → Q (.ref q) { s with heap := h', toks := tk' }) :
   wpAny (model prog w) A (call (.ref 130) [.ref sa]) Q E s := by
  refine r_drawn F N X T es hi hlen hA1 hA2 hA3 fun q d0 d1 d2 d3 d4 u0 u1 u2 u3 u4 nq h' tk' b F' N' o => ?_
  have m1 : 1 + d1.fmod 2 = 1 ∨ 1 + d1.fmod 2 = 2 := by rw [Int.fmod_eq_emod_of_nonneg _ (by decide)]; omega
  have m2 : 0 ≤ d2.fmod 3 ∧ d2.fmod 3 ≤ 2 := by rw [Int.fmod_eq_emod_of_nonneg _ (by decide)]; omega
  have m3 : 0 ≤ d3.fmod 2 ∧ d3.fmod 2 ≤ 1 := by rw [Int.fmod_eq_emod_of_nonneg _ (by decide)]; omega
  have m4 : 0 ≤ d4.fmod 2 ∧ d4.fmod 2 ≤ 1 := by rw [Int.fmod_eq_emod_of_nonneg _ (by decide)]; omega
  have m7 : -2 ≤ d0.fmod 7 - 2 ∧ d0.fmod 7 - 2 ≤ 4 := by rw [Int.fmod_eq_emod_of_nonneg _ (by decide)]; omega
  have m8 : -1 ≤ (d0.fdiv 7).fmod 4 - 1 ∧ (d0.fdiv 7).fmod 4 - 1 ≤ 2 := by rw [Int.fmod_eq_emod_of_nonneg _ (by decide)]; omega
  obtain ⟨l1, i1, e1, h1⟩ := nmS_is d1 (n := (1 + d1.fmod 2).toNat) (by omega)
  obtain ⟨l2, i2, e2, h2⟩ := nmS_is d2 (n := (d2.fmod 3).toNat) (by omega)
  obtain ⟨l3, i3, e3, h3⟩ := nmS_is d3 (n := (d3.fmod 2).toNat) (by omega)
  obtain ⟨l4, i4, e4, h4⟩ := nmS_is d4 (n := (d4.fmod 2).toNat) (by omega)
  have len : ∀ l : List Nat, (⟨l.toArray⟩ : PySem.Str).length = l.length := fun l => by show l.toArray.size = _; simp
  refine post q d0 d1 d2 d3 d4 u0 u1 u2 u3 u4 nq l1 l2 l3 l4 h' tk' b e1 e2 e3 e4 i1 i2 i3 i4 (allW_qL i1) (allW_qL i2) (allW_qL i3) (allW_qL i4) (allW_pL m7) (allW_pL ⟨by omega, by omega⟩) (good_small m7) (good_small ⟨by omega, by omega⟩) m7 m8 ⟨?_, ?_⟩ ?_ ?_ ?_ F' N' o
  all_goals rw [len]; omega
end
theorem spell_len {x : PySem.Str} {b : Int} (hx : x ∈ allW) (hb : 0 ≤ b ∧ b ≤ 1) : (spellL x.cps.toList b).length ≤ 100 := by
  have h := w_spl x hx
  have : b = 0 ∨ b = 1 := by omega
  rcases this with rfl | rfl
  · exact h.1
  · exact h.2
theorem join_words {prog : Program} {w : World} {A : Around} {E : Value → Shared → Prop} {Q : Value → Shared → Prop} {s : Shared} {D : Addr} {t : Tok} {x1 x2 x3 x4 x5 x6 : PySem.Str} {b1 b2 b3 b4 b5 b6 : Int} {u1 u2 u3 u4 u5 u6 : Tok}
   (hl : s.heap.IsList D [Value.str ⟨(spellL x1.cps.toList b1).toArray⟩ u1, Value.str ⟨(spellL x2.cps.toList b2).toArray⟩ u2, Value.str ⟨(spellL x3.cps.toList b3).toArray⟩ u3, Value.str ⟨(spellL x4.cps.toList b4).toArray⟩ u4, Value.str ⟨(spellL x5.cps.toList b5).toArray⟩ u5, Value.str ⟨(spellL x6.cps.toList b6).toArray⟩ u6].toArray)
   (h1 : x1 ∈ allW) (h2 : x2 ∈ allW) (h3 : x3 ∈ allW) (h4 : x4 ∈ allW) (h5 : x5 ∈ allW) (h6 : x6 ∈ allW) (g1 : 0 ≤ b1 ∧ b1 ≤ 1) (g2 : 0 ≤ b2 ∧ b2 ≤ 1) (g3 : 0 ≤ b3 ∧ b3 ≤ 1) (g4 : 0 ≤ b4 ∧ b4 ≤ 1) (g5 : 0 ≤ b5 ∧ b5 ≤ 1) (g6 : 0 ≤ b6 ∧ b6 ≤ 1)
   (post : ∀ (text : PySem.Str) t' k, text.length ≤ 10000 → text.cps.toList.drop 0 = List.replicate 0 10 ++ (spellL x1.cps.toList b1 ++ (spellL x2.cps.toList b2 ++ (spellL x3.cps.toList b3 ++ (spellL x4.cps.toList b4 ++ (spellL x5.cps.toList b5 ++ (spellL x6.cps.toList b6 ++ [])))))) → Q (.str text t') { s with toks := k }) :
   wpAny (model prog w) A (call (.builtin "str.join") [.str (PySem.Str.ofString "") t, .ref D]) Q E s := by
  have k1 := spell_len h1 g1
  have k2 := spell_len h2 g2
  have k3 := spell_len h3 g3
  have k4 := spell_len h4 g4
  have k5 := spell_len h5 g5
  have k6 := spell_len h6 g6
  have len : ∀ l : List Nat, (⟨l.toArray⟩ : PySem.Str).length = l.length := fun l => by show l.toArray.size = _; simp
  refine join_listW hl (.cons _ _ (.cons _ _ (.cons _ _ (.cons _ _ (.cons _ _ (.cons _ _ .nil)))))) (by decide +kernel) (by simp only [List.map_cons, List.map_nil, List.sum_cons, List.sum_nil, len, List.length_cons, List.length_nil]; omega) fun t' k => ?_
  rw [join_eq]
  refine post _ t' k ?_ ?_
  · rw [len]
    simp only [List.flatMap_cons, List.flatMap_nil, List.length_append, List.length_nil]
    omega
  · simp only [List.flatMap_cons, List.flatMap_nil, List.drop_zero, List.replicate_zero, List.nil_append]
theorem fold7 {g : Heap} {L : Addr} {h : Heap} {M1 M2 M3 M4 M5 M6 M7 : Addr × Obj} {q : Addr} {o : Obj} {rest : List (Addr × Obj)} (N : News g L h ((q, o) :: M1 :: M2 :: M3 :: M4 :: M5 :: M6 :: M7 :: rest)) (d : Dist (q :: M1.1 :: M2.1 :: M3.1 :: M4.1 :: M5.1 :: M6.1 :: M7.1 :: rest.map Prod.fst)) :
    ∃ rest' : List (Addr × Obj), (q, o) ∈ rest' ∧ (∀ p ∈ rest, p ∈ rest') ∧ News g L h (M1 :: M2 :: M3 :: M4 :: M5 :: M6 :: M7 :: rest') ∧ Dist (M1.1 :: M2.1 :: M3.1 :: M4.1 :: M5.1 :: M6.1 :: M7.1 :: rest'.map Prod.fst) :=
  ⟨(q, o) :: rest, .head _, fun p hp => .tail _ hp, fun p hp => N p ((List.perm_middle (l₁ := [M1, M2, M3, M4, M5, M6, M7])).mem_iff.mp hp), (List.perm_middle (l₁ := [M1.1, M2.1, M3.1, M4.1, M5.1, M6.1, M7.1]) (a := q) (l₂ := rest.map Prod.fst)).symm.nodup d⟩
theorem fold11 {g : Heap} {L : Addr} {h : Heap} {M1 M2 M3 M4 M5 M6 M7 M8 M9 M10 M11 : Addr × Obj} {q : Addr} {o : Obj} {rest : List (Addr × Obj)} (N : News g L h ((q, o) :: M1 :: M2 :: M3 :: M4 :: M5 :: M6 :: M7 :: M8 :: M9 :: M10 :: M11 :: rest)) (d : Dist (q :: M1.1 :: M2.1 :: M3.1 :: M4.1 :: M5.1 :: M6.1 :: M7.1 :: M8.1 :: M9.1 :: M10.1 :: M11.1 :: rest.map Prod.fst)) :
    ∃ rest' : List (Addr × Obj), (q, o) ∈ rest' ∧ (∀ p ∈ rest, p ∈ rest') ∧ News g L h (M1 :: M2 :: M3 :: M4 :: M5 :: M6 :: M7 :: M8 :: M9 :: M10 :: M11 :: rest') ∧ Dist (M1.1 :: M2.1 :: M3.1 :: M4.1 :: M5.1 :: M6.1 :: M7.1 :: M8.1 :: M9.1 :: M10.1 :: M11.1 :: rest'.map Prod.fst) :=
  ⟨(q, o) :: rest, .head _, fun p hp => .tail _ hp, fun p hp => N p ((List.perm_middle (l₁ := [M1, M2, M3, M4, M5, M6, M7, M8, M9, M10, M11])).mem_iff.mp hp), (List.perm_middle (l₁ := [M1.1, M2.1, M3.1, M4.1, M5.1, M6.1, M7.1, M8.1, M9.1, M10.1, M11.1]) (a := q) (l₂ := rest.map Prod.fst)).symm.nodup d⟩
theorem foldL7 {g : Heap} {L : Addr} {h : Heap} {M1 M2 M3 M4 M5 M6 M7 : Addr × Obj} {q : Addr} {ys : List Value} {rest : List (Addr × Obj)} (N : News g L h ((q, LCg.lst ys) :: M1 :: M2 :: M3 :: M4 :: M5 :: M6 :: M7 :: rest)) (d : Dist (q :: M1.1 :: M2.1 :: M3.1 :: M4.1 :: M5.1 :: M6.1 :: M7.1 :: rest.map Prod.fst)) :
    ∃ rest' : List (Addr × Obj), (q, listOf ys.toArray ys.length) ∈ rest' ∧ (∀ p ∈ rest, p ∈ rest') ∧ News g L h (M1 :: M2 :: M3 :: M4 :: M5 :: M6 :: M7 :: rest') ∧ Dist (M1.1 :: M2.1 :: M3.1 :: M4.1 :: M5.1 :: M6.1 :: M7.1 :: rest'.map Prod.fst) := fold7 N d
theorem foldL11 {g : Heap} {L : Addr} {h : Heap} {M1 M2 M3 M4 M5 M6 M7 M8 M9 M10 M11 : Addr × Obj} {q : Addr} {ys : List Value} {rest : List (Addr × Obj)} (N : News g L h ((q, LCg.lst ys) :: M1 :: M2 :: M3 :: M4 :: M5 :: M6 :: M7 :: M8 :: M9 :: M10 :: M11 :: rest)) (d : Dist (q :: M1.1 :: M2.1 :: M3.1 :: M4.1 :: M5.1 :: M6.1 :: M7.1 :: M8.1 :: M9.1 :: M10.1 :: M11.1 :: rest.map Prod.fst)) :
    ∃ rest' : List (Addr × Obj), (q, listOf ys.toArray ys.length) ∈ rest' ∧ (∀ p ∈ rest, p ∈ rest') ∧ News g L h (M1 :: M2 :: M3 :: M4 :: M5 :: M6 :: M7 :: M8 :: M9 :: M10 :: M11 :: rest') ∧ Dist (M1.1 :: M2.1 :: M3.1 :: M4.1 :: M5.1 :: M6.1 :: M7.1 :: M8.1 :: M9.1 :: M10.1 :: M11.1 :: rest'.map Prod.fst) := fold11 N d
theorem foldX {g : Heap} {L : Addr} {h : Heap} {M1 M2 M3 M4 M5 M6 M7 e1 e2 e3 e4 e5 e6 f1 f2 f3 f4 : Addr × Obj} {rest : List (Addr × Obj)} (N : News g L h (f1 :: f2 :: f3 :: f4 :: e1 :: e2 :: e3 :: e4 :: e5 :: e6 :: M1 :: M2 :: M3 :: M4 :: M5 :: M6 :: M7 :: rest)) (d : Dist (f1.1 :: f2.1 :: f3.1 :: f4.1 :: e1.1 :: e2.1 :: e3.1 :: e4.1 :: e5.1 :: e6.1 :: M1.1 :: M2.1 :: M3.1 :: M4.1 :: M5.1 :: M6.1 :: M7.1 :: rest.map Prod.fst)) :
    ∃ rest' : List (Addr × Obj), (e1 ∈ rest' ∧ e2 ∈ rest' ∧ e3 ∈ rest' ∧ e4 ∈ rest' ∧ e5 ∈ rest' ∧ e6 ∈ rest') ∧ (∀ p ∈ rest, p ∈ rest') ∧ News g L h (f1 :: f2 :: f3 :: f4 :: M1 :: M2 :: M3 :: M4 :: M5 :: M6 :: M7 :: rest') ∧ Dist (f1.1 :: f2.1 :: f3.1 :: f4.1 :: M1.1 :: M2.1 :: M3.1 :: M4.1 :: M5.1 :: M6.1 :: M7.1 :: rest'.map Prod.fst) := by
  refine ⟨e1 :: e2 :: e3 :: e4 :: e5 :: e6 :: rest, ⟨.head _, .tail _ (.head _), .tail _ (.tail _ (.head _)), .tail _ (.tail _ (.tail _ (.head _))), .tail _ (.tail _ (.tail _ (.tail _ (.head _)))), .tail _ (.tail _ (.tail _ (.tail _ (.tail _ (.head _)))))⟩, fun p hp => .tail _ (.tail _ (.tail _ (.tail _ (.tail _ (.tail _ hp))))), fun p hp => N p ?_, ?_⟩
  · simp only [List.mem_cons] at hp ⊢
    grind
  · have e : (f1.1 :: f2.1 :: f3.1 :: f4.1 :: M1.1 :: M2.1 :: M3.1 :: M4.1 :: M5.1 :: M6.1 :: M7.1 :: e1.1 :: e2.1 :: e3.1 :: e4.1 :: e5.1 :: e6.1 :: rest.map Prod.fst).Perm (f1.1 :: f2.1 :: f3.1 :: f4.1 :: e1.1 :: e2.1 :: e3.1 :: e4.1 :: e5.1 :: e6.1 :: M1.1 :: M2.1 :: M3.1 :: M4.1 :: M5.1 :: M6.1 :: M7.1 :: rest.map Prod.fst) := by
      have h : ([M1.1, M2.1, M3.1, M4.1, M5.1, M6.1, M7.1] ++ [e1.1, e2.1, e3.1, e4.1, e5.1, e6.1]).Perm ([e1.1, e2.1, e3.1, e4.1, e5.1, e6.1] ++ [M1.1, M2.1, M3.1, M4.1, M5.1, M6.1, M7.1]) := List.perm_append_comm
      exact (h.append_right (rest.map Prod.fst)).append_left [f1.1, f2.1, f3.1, f4.1]
    exact e.symm.nodup d
theorem news_rest7 {g : Heap} {L : Addr} {h : Heap} {M1 M2 M3 M4 M5 M6 M7 : Addr × Obj} {rest : List (Addr × Obj)} (N : News g L h [M1, M2, M3, M4, M5, M6, M7]) (hr : rest = []) : News g L h (M1 :: M2 :: M3 :: M4 :: M5 :: M6 :: M7 :: rest) := by subst hr; exact N
theorem sub_m {e : Addr × Obj} {r r' : List (Addr × Obj)} (hs : ∀ p ∈ r, p ∈ r') (h : e ∈ r) : e ∈ r' := hs e h
example : True := by
  k_with "m_rest" => ((first | (with_reducible assumption) | (apply sub_m; (with_reducible assumption); k_extra "m_rest")))
  k_with "m_restD" => ((first | assumption | (apply sub_m; (with_reducible assumption); k_extra "m_restD")))
  k_with "m_memR" => ((first | (with_reducible apply mem_h) | (with_reducible apply mem_t; k_extra "m_memR") | k_extra "m_rest"))
  k_with "m_memD" => ((first | apply mem_h | (with_reducible apply mem_t; k_extra "m_memD") | k_extra "m_restD"))
  k_with "m_mem" => ((first | k_extra "m_memR" | k_extra "m_memD"))
  k_with "m_in" => ((apply Frag.In.keeps (by with_reducible assumption); apply Fr.keep; with_reducible assumption))
  k_with "m_ne" => (((try dsimp only); (first
  | ((with_reducible rename Offs _ _ _ _ => zo); (first | (with_reducible apply offI zo; k_extra "m_memR") | (with_reducible apply offC zo; k_extra "m_memR") | (with_reducible apply offD zo; k_extra "m_memR") | (with_reducible apply offI' zo; k_extra "m_memR") | (with_reducible apply offC' zo; k_extra "m_memR") | (with_reducible apply offD' zo; k_extra "m_memR")))
  | ((with_reducible rename Ne3 _ _ _ => zn); (with_reducible first | apply ne3_1 zn | apply ne3_2 zn | apply ne3_3 zn | apply ne3_4 zn | apply ne3_5 zn | apply ne3_6 zn))
  | ((with_reducible rename Blk _ _ _ _ _ _ _ _ _ _ => zc); (with_reducible rename Below _ _ => zb); (first | (with_reducible apply blk_ne zc zb <;> k_extra "m_memR") | (with_reducible apply blk_ne' zc zb <;> k_extra "m_memR")))
  | ((with_reducible apply offO (by with_reducible assumption) (by k_extra "m_memR")))
  | ((with_reducible apply offO' (by with_reducible assumption) (by k_extra "m_memR")))
  | ((with_reducible apply neOf (by with_reducible assumption) (by k_extra "m_memR")))
  | ((with_reducible apply neOf' (by with_reducible assumption) (by k_extra "m_memR")))
  | (apply neN; omega))))
  trivial
theorem all_nil {a : Addr} : ∀ p ∈ ([] : List (Addr × Obj)), p.1 ≠ a := fun _ h => nomatch h
theorem all_cons {a : Addr} {q : Addr × Obj} {r : List (Addr × Obj)} (h : q.1 ≠ a) (hr : ∀ p ∈ r, p.1 ≠ a) : ∀ p ∈ q :: r, p.1 ≠ a := fun p hp => by
  rcases List.mem_cons.mp hp with rfl | hp
  · exact h
  · exact hr p hp
theorem sub_0 {l : List (Addr × Obj)} : ∀ p ∈ l, p ∈ l := fun _ h => h
theorem sub_1 {q : Addr × Obj} {l : List (Addr × Obj)} : ∀ p ∈ l, p ∈ q :: l := fun _ h => .tail _ h
theorem sub_2 {q q' : Addr × Obj} {l : List (Addr × Obj)} : ∀ p ∈ l, p ∈ q :: q' :: l := fun _ h => .tail _ (.tail _ h)
theorem dist_newF {D : Addr} {as : List Addr} (h : Offo as D) (d : Dist as) : Dist (D :: as) := List.nodup_cons.mpr ⟨fun hm => h D hm rfl, d⟩
example : True := by
  k_with "m_updS" => ((first | (with_reducible apply UpdS.head) | (apply UpdS.tail; k_extra "m_updS")))
  k_with "m_delS" => ((first | (with_reducible apply DelS.head) | (apply DelS.tail; k_extra "m_delS")))
  k_with "m_updF" => (((refine' updF_dist (by k_extra "m_updS") (by with_reducible assumption) (by rfl))))
  k_with "callWith ref" => ((k_here; (with_reducible show wpAny _ _ (callWith _ (Value.ref _) _ (backTo _ (starEach (_ :: _) _)) []) _ _ _); k_dflt (refine' callWith_K (by k_asm) (by k_is) ?_)))
  k_with "callWith ref" => ((k_here; (with_reducible show wpAny _ _ (callWith _ (Value.ref _) _ (backTo _ (starEach [] _)) []) _ _ _); k_dflt (refine' callWith_K0 (by k_in) (by k_is) ?_)))
  k_with "eval Name" => ((k_here; (with_reducible show wpAny _ _ (eval (Expr.Name _ _) (envOfC _ _ _ _ _)) _ _ _); k_dflt (first
  | (refine' nameX_L (by k_asm) (by rfl) ?_ (by rfl) (by rfl))
  | (refine' nameX_K (by k_asm) (by k_asm) (by k_asm) (by k_is) ?_ (by rfl) (by rfl))
  | (refine' nameX_C (by k_asm) (by rfl) (by k_mem) (by k_asm) ?_ (by rfl) (by rfl)))))
  k_with "eval Name" => ((k_here; (with_reducible show wpAny _ _ (eval (Expr.Name _ _) (compEnvC _ _ _ _)) _ _ _); k_dflt (first
  | refine LCgL.ld_own (by k_asm) (by k_mem) (by assumption) (by assumption) ?_
  | (refine' lcf_free (by k_asm) (by rfl) (by k_mem) (by k_asm) ?_ (by rfl) (by rfl))
  | (refine' lcf_cell (by k_asm) (by rfl) (by k_mem) (by k_asm) ?_ (by rfl) (by rfl))
  | refine LCgL.ld_global (by k_asm) (by k_asm) (by k_asm) (by k_is) ?_)))
  k_with "CompRest" => ((with_unfolding_all first
  | (refine LCg.CompRest.succ ?_; intro v' I' oI' C' oC' D' m' h' tk' E' hv' hC' hx' F' N' off' ne'; (first | lcg_open hv' | (obtain ⟨t9', hv9'⟩ := hv'; subst hv9')); (have zof' := offs_of off'); (clear off'); (simp only [List.map_cons, List.map_nil] at zof'); (have zne' := ne3_of ne'); (clear ne'))
  | refine LCg.CompRest.zero ?_))
  k_with "FinE" => (((unfold LCg.FinE); intro D' h' tk' F' N' o1'; (first | ((with_reducible rename Dist _ => zdo); (have o2' := offo_of o1'); (simp only [List.map_cons, List.map_nil] at o2'); (have zd' := dist_newF o2' zdo); clear zdo; clear o1' o2'; (try simp only [List.nil_append, List.cons_append] at N'); (first | (obtain ⟨zr', zm', zs', N2', zd2'⟩ := foldL11 N' zd'; clear N' zd'; (try dsimp only at zd2' zm')) | (obtain ⟨zr', zm', zs', N2', zd2'⟩ := foldL7 N' zd'; clear N' zd'; (try dsimp only at zd2' zm')))) | (clear o1'; (try simp only [List.nil_append, List.cons_append] at N'))); (try dsimp only)))
  k_with "FinA" => (((unfold LCg.FinA); intro D' h' tk' F' N' o1'; (first | ((with_reducible rename Dist _ => zdo); (have o2' := offo_of o1'); (simp only [List.map_cons, List.map_nil] at o2'); (have zd' := dist_newF o2' zdo); clear zdo; clear o1' o2'; (try simp only [List.nil_append, List.cons_append] at N'); (first | (obtain ⟨zr', zm', zs', N2', zd2'⟩ := foldL11 N' zd'; clear N' zd'; (try dsimp only at zd2' zm')) | (obtain ⟨zr', zm', zs', N2', zd2'⟩ := foldL7 N' zd'; clear N' zd'; (try dsimp only at zd2' zm')))) | (clear o1'; (try simp only [List.nil_append, List.cons_append] at N'))); (try dsimp only)))
  k_with "eval ListComp" => ((k_here; k_dflt (refine LCg.ListComp_U (F₀ := by k_asm) (by rfl) (by decide) (by rfl) (by decide) (by rfl) ?_); k_dflt lcg_toSrc))
  k_with "exec Assign cons ListComp" => ((k_here; k_dflt (refine LCg.Assign_ListComp_U (F₀ := by k_asm) (by rfl) (by with_unfolding_all rfl) (by with_unfolding_all rfl) (by decide) (by rfl) (by decide) (by rfl) (by rfl) (by rfl) ?_); k_dflt lcg_toSrc))
  k_with "CompSrc" => ((k_here; k_dflt (first
  | (refine LCg.CompSrc.ledger (by rfl) (by k_asm) (by k_asm) (by k_mem) (by exact Nat.le_of_ble_eq_true rfl) ?_; intro g'; lcg_lit)
  | (refine LCg.CompSrc.range (by rfl) (by k_asm) (by k_asm) (by assumption) (by first | decide | rfl) (by first | rfl | decide) (by exact Nat.le_of_ble_eq_true rfl) ?_; intro g'; lcg_lit))))
  k_with "subscriptTail Name Constant ref int" => ((k_here; k_dflt (refine item_litK (News.isList (by k_asm) (by k_mem)) (by decide) (by decide) (by rfl) ?_)))
  k_with "call builtin:sum" => ((k_here; (with_reducible show wpAny _ _ (call (Value.builtin "sum") [Value.ref _]) _ _ _); k_dflt (refine' sumK (by with_unfolding_all rfl) (by k_asm) (by k_asm) (by apply News.isList; (with_reducible assumption); (k_extra "m_mem")) (by exact .cons _ _ (.cons _ _ (.cons _ _ (.cons _ _ (.cons _ _ (.cons _ _ .nil)))))) ?_); intro h' tk' t' F' N'; (try simp only [List.sum_cons, List.sum_nil])))
  k_with "subscriptTail Name Name ref int" => ((k_here; k_dflt (refine item_litK (News.isList (by k_asm) (by k_mem)) (by decide) (by decide) (by rfl) ?_)))
  trivial
theorem tup_itemL {prog : Program} {w : World} {A : Around} {E : Value → Shared → Prop} {Q : Value → Shared → Prop} {s : Shared} {g : Heap} {L : Addr} {news : List (Addr × Obj)} {value slice : PySem.Expr} {t : Addr} {l : List Value} {k : Int} {u : Tok} {j : Nat} {x : Value} (N : News g L s.heap news) (hm : (t, tupOf l.toArray) ∈ news)
    (hlo : -(2 ^ 63) ≤ k) (hhi : k < 2 ^ 63) (hj : seqIndex? k l.length = some j) (hx : l[j]? = some x) (h : Q x s) (hs : subscripted slice false (.ref t) (.int k u) = operate [.ref t, .int k u] (getItem (.ref t) (.int k u)) := by with_unfolding_all rfl) : wpAny (model prog w) A (subscriptTail value slice (.ref t) (.int k u)) Q E s := item_tupleT (News.isTup N hm) hlo hhi hj hx h hs
example : True := by
  k_with "subscriptTail Call Name cons nil Constant ref int" => ((k_here; k_dflt (refine' tup_itemL (by with_reducible assumption) (by k_extra "m_mem") (by decide) (by decide) (by rfl) (by rfl) ?_)))
  k_with "subscriptTail Name Slice ref ref" => ((k_here; (with_reducible show wpAny _ _ (subscriptTail _ (PySem.Expr.Slice _ _ none _) (Value.ref _) (Value.ref _)) _ _ _); k_dflt (first | (refine' kms_slice_lit (by k_asm) (by k_asm) (by kmk_list) (by kmk_part) (by kmk_part) (by kl_lit) ?_ (by with_unfolding_all rfl) (by kmk_pure) (by kmk_size)) | (refine' kmk_slice_lit (by k_asm) (by k_asm) (by kmk_list) (by kmk_part) (by kmk_part) (by kl_lit) ?_ (by with_unfolding_all rfl) (by kmk_pure) (by kmk_size))); intro D' h' F' N' l1; ((with_reducible rename Dist _ => zdo); (k_dflt (have zd' := dist_lt l1 zdo (by rfl))); clear zdo; clear l1); (obtain ⟨zr', zm', zs', N2', zd2'⟩ := fold11 N' zd'); clear N' zd'; (try dsimp only at zd2'); (try k_sweep)))
  k_with "call builtin:str.join" => ((k_here; k_dflt (refine join_words (News.isList (by k_asm) (by k_mem)) (by assumption) (by assumption) (by assumption) (by assumption) (by assumption) (by assumption) (by assumption) (by assumption) (by assumption) (by assumption) (by assumption) (by assumption) ?_); intro text' t' k' hlen' hd'; (try dsimp only)))
  k_with "m_pre" => (first | exact List.forall_mem_nil _ | (refine List.forall_mem_cons.mpr (And.intro (And.intro (by k_ne) (by k_ne)) ?_); k_extra "m_pre"))
  k_with "call ref" => ((k_here; k_dflt (first
  | ((with_reducible show wpAny _ _ (call (Value.ref 130) _) _ _ _); refine r_drawnN (by k_asm) (by k_asm) (by k_asm) (by k_asm) (by assumption) (by assumption) (by assumption) rfl (Nat.le_of_ble_eq_true rfl) (Nat.le_of_ble_eq_true rfl) ?_; intro q' d0' d1' d2' d3' d4' u0' u1' u2' u3' u4' nq' l1' l2' l3' l4' h' tk' b' e1' e2' e3' e4' i1' i2' i3' i4' w1' w2' w3' w4' w5' w6' g1' g2' m7' m8' n1' n2' n3' n4' F' N' ne'; ((with_reducible rename Dist _ => zdo); (k_dflt (have zd' := dist_new ne' zdo (by rfl))); clear zdo; clear ne'); (obtain ⟨zr', zm', zs', N2', zd2'⟩ := fold7 N' zd'); clear N' zd'; (try dsimp only at zd2'); (try k_sweep))
  | ((with_reducible show wpAny _ _ (call (Value.ref 147) _) _ _ _); refine r_replies (by k_asm) (by k_asm) (by k_asm) (by k_asm) (by k_mem) (by assumption) (by assumption) (by assumption) (by assumption) (by assumption) (by assumption) (by assumption) (by assumption) (by assumption) rfl (Nat.le_of_ble_eq_true rfl) (Nat.le_of_ble_eq_true rfl) ?_; intro q' u1' u2' u3' u4' u5' u6' nq' h' tk' F' N' ne'; ((with_reducible rename Dist _ => zdo); (k_dflt (have zd' := dist_new ne' zdo (by rfl))); clear zdo; clear ne'); (obtain ⟨zr', zm', zs', N2', zd2'⟩ := fold7 N' zd'); clear N' zd'; (try dsimp only at zd2'); (try k_sweep))
  | ((with_reducible show wpAny _ _ (call (Value.ref 152) _) _ _ _); refine r_bare (by k_asm) (by k_asm) (by k_asm) (by k_asm) (by k_mem) (by assumption) rfl (Nat.le_of_ble_eq_true rfl) (Nat.le_of_ble_eq_true rfl) ?_; intro q' b0' b1' b2' b3' b4' b5' u0' u1' u2' u3' u4' u5' nq' h' tk' hb' F' N' ne'; ((with_reducible rename Dist _ => zdo); (k_dflt (have zd' := dist_new ne' zdo (by rfl))); clear zdo; clear ne'); (obtain ⟨zr', zm', zs', N2', zd2'⟩ := fold7 N' zd'); clear N' zd'; (try dsimp only at zd2'); (obtain ⟨hb0', hb1', hb2', hb3', hb4', hb5'⟩ := hb'); (try k_sweep))
  | ((with_reducible show wpAny _ _ (call (Value.ref 157) _) _ _ _); refine r_spell (by k_asm) (by k_asm) (by k_asm) (by k_asm) (by assumption) (by assumption) rfl (Nat.le_of_ble_eq_true rfl) (Nat.le_of_ble_eq_true rfl) ?_; intro t' h' tk' F' N'; (try k_sweep))
  | ((with_reducible show wpAny _ _ (call (Value.ref 164) _) _ _ _); refine r_lexer (by k_asm) (by k_asm) (by k_asm) (by k_asm) (by assumption) (by k_updF) rfl (Nat.le_of_ble_eq_true rfl) (Nat.le_of_ble_eq_true rfl) ?_; intro x' dx' pb' al' fs' d' fr' c' tc' ac' o1' o2' o3' o4' o5' o6' k1' k2' k3' k4' t1' t3' ta' na' np' ps' h' tk' F' N' ch' lt' S'; (have zc' := Blk.mk ch'); (clear ch'); (try dsimp only at N'); (have zb' := below_of lt'); (clear lt'); (simp only [List.map_cons, List.map_nil] at zb'); ((with_reducible rename Dist _ => zdo); (have zd' := dist_blk zc' zb' zdo); clear zdo); clear zb'; (obtain ⟨zr', ⟨zm1', zm2', zm3', zm4', zm5', zm6'⟩, zs', N2', zd2'⟩ := foldX N' zd'); clear N' zd'; (try dsimp only at zd2'); (try k_sweep))
  | ((with_reducible show wpAny _ _ (call (Value.ref 111) _) _ _ _); refine' r_word3D (by k_asm) (by k_asm) (by k_asm) (by k_asm) (by with_reducible assumption) (by with_reducible assumption) (by assumption) rfl (by (k_extra "m_pre")) (by k_extra "m_mem") (by k_extra "m_mem") (by k_extra "m_mem") (by k_extra "m_mem") (by k_extra "m_mem") (by k_extra "m_mem") (by assumption) (by rfl) (by with_reducible assumption) (by with_reducible assumption) (by with_reducible assumption) rfl (Nat.le_of_ble_eq_true rfl) (Nat.le_of_ble_eq_true rfl) ?_; intro n' t' t1' ta' h' tk' hd' hn' F' N'; (try k_sweep))
  | ((with_reducible show wpAny _ _ (call (Value.ref 111) _) _ _ _); refine' r_endT (by k_asm) (by k_asm) (by k_asm) (by k_asm) (by with_reducible assumption) (by with_reducible assumption) (by k_extra "m_mem") (by k_extra "m_mem") (by k_extra "m_updS") (by (intro _; k_extra "m_delS")) (by with_reducible assumption) (by rfl) (by with_reducible assumption) (by k_extra "m_mem") (by k_extra "m_mem") (by k_extra "m_mem") (by k_extra "m_mem") (by k_extra "m_mem") (by k_extra "m_mem") (by assumption) (by with_reducible assumption) (by with_reducible assumption) rfl (Nat.le_of_ble_eq_true rfl) (Nat.le_of_ble_eq_true rfl) ?_; intro t' t1' h' tk' F' N'; (try dsimp only at N'); (try k_sweep))
  | ((with_reducible show wpAny _ _ (call (Value.ref 76) _) _ _ _); refine' r_parse (by k_asm) (by k_asm) (by k_asm) (by k_asm) (by with_reducible assumption) (by k_extra "m_mem") rfl (Nat.le_of_ble_eq_true rfl) (Nat.le_of_ble_eq_true rfl) ?_; intro q' tq1' tq2' h' tk' F' N' ne'; clear ne'; (try k_sweep))
  | ((with_reducible show wpAny _ _ (call (Value.ref 83) _) _ _ _); refine' r_p257 (by k_asm) (by k_asm) (by k_asm) (by k_asm) (by with_reducible assumption) rfl (Nat.le_of_ble_eq_true rfl) (Nat.le_of_ble_eq_true rfl) ?_; intro t' h' tk' F' N'; (try k_sweep))
  | ((with_reducible show wpAny _ _ (call (Value.ref 171) _) _ _ _); refine' r_running (by k_asm) (by k_asm) (by k_asm) (by k_asm) (by k_extra "m_mem") (by exact .cons _ _ (.cons _ _ (.cons _ _ (.cons _ _ .nil)))) (by (refine ⟨?_, ?_, ?_, ?_⟩ <;> omega)) rfl (Nat.le_of_ble_eq_true rfl) (Nat.le_of_ble_eq_true rfl) ?_; intro q' u1' u2' u3' u4' nq' h' tk' F' N' ne'; ((with_reducible rename Dist _ => zdo); (k_dflt (have zd' := dist_new ne' zdo (by rfl))); clear zdo; clear ne'); (try k_sweep))
  | ((with_reducible show wpAny _ _ (call (Value.ref 178) _) _ _ _); refine' r_linedS (by k_asm) (by k_asm) (by k_asm) (by k_asm) (by with_reducible assumption) (by k_extra "m_mem") (by k_extra "m_mem") (by k_extra "m_updS") (by with_reducible assumption) (by rfl) (by omega) (by with_reducible assumption) (by with_reducible assumption) rfl (Nat.le_of_ble_eq_true rfl) (Nat.le_of_ble_eq_true rfl) ?_; intro its' np' h' tk' nums' F' N'; (try dsimp only at N'); (try k_sweep))
  | ((with_reducible show wpAny _ _ (call (Value.ref 183) _) _ _ _); refine' r_struckS (by k_asm) (by k_asm) (by k_asm) (by k_asm) (by with_reducible assumption) (by k_extra "m_mem") (by k_extra "m_mem") (by k_extra "m_updS") (by with_reducible assumption) (by rfl) (by omega) (by omega) (by omega) (by omega) (by with_reducible assumption) (by with_reducible assumption) (by assumption) rfl (Nat.le_of_ble_eq_true rfl) (Nat.le_of_ble_eq_true rfl) ?_; intro ol' a0' a1' a2' a3' v0' v1' v2' v3' n0' n1' n2' n3' np' h' tk' i0' i1' i2' i3' F' N' ne'; (try dsimp only at N'); (have zs' := sep_of ne'); clear ne'; (simp only [List.map_cons, List.map_nil] at zs'); ((with_reducible rename Dist _ => zdo); (have zd' := dist_tail zdo); clear zdo); (try k_sweep))
  | ((with_reducible show wpAny _ _ (call (Value.ref 142) _) _ _ _); refine' r_namesN (by k_asm) (by k_asm) (by k_asm) (by k_asm) (by k_extra "m_mem") (by with_reducible assumption) (by with_reducible assumption) (by with_reducible assumption) (by with_reducible assumption) (by with_reducible assumption) rfl (Nat.le_of_ble_eq_true rfl) (Nat.le_of_ble_eq_true rfl) ?_; intro q' u1' u2' u3' u4' nq' h' tk' F' N'; (try k_sweep))
  | ((with_reducible show wpAny _ _ (call (Value.ref 188) _) _ _ _); (first | (refine' r_coeff (group := 0) (by k_asm) (by k_asm) (by k_asm) (by k_asm) (by k_extra "m_mem") (by exact .cons _ _ (.cons _ _ (.cons _ _ (.cons _ _ .nil)))) (by rfl) (by decide) (by (refine ⟨?_, ?_, ?_, ?_⟩ <;> omega)) (by (refine ⟨⟨?_, ?_⟩, ⟨?_, ?_⟩, ⟨?_, ?_⟩, ⟨?_, ?_⟩⟩ <;> omega)) rfl (Nat.le_of_ble_eq_true rfl) (Nat.le_of_ble_eq_true rfl) ?_) | (refine' r_coeff (group := 1) (by k_asm) (by k_asm) (by k_asm) (by k_asm) (by k_extra "m_mem") (by exact .cons _ _ (.cons _ _ (.cons _ _ (.cons _ _ .nil)))) (by rfl) (by decide) (by (refine ⟨?_, ?_, ?_, ?_⟩ <;> omega)) (by (refine ⟨⟨?_, ?_⟩, ⟨?_, ?_⟩, ⟨?_, ?_⟩, ⟨?_, ?_⟩⟩ <;> omega)) rfl (Nat.le_of_ble_eq_true rfl) (Nat.le_of_ble_eq_true rfl) ?_) | (refine' r_coeff (group := 2) (by k_asm) (by k_asm) (by k_asm) (by k_asm) (by k_extra "m_mem") (by exact .cons _ _ (.cons _ _ (.cons _ _ (.cons _ _ .nil)))) (by rfl) (by decide) (by (refine ⟨?_, ?_, ?_, ?_⟩ <;> omega)) (by (refine ⟨⟨?_, ?_⟩, ⟨?_, ?_⟩, ⟨?_, ?_⟩, ⟨?_, ?_⟩⟩ <;> omega)) rfl (Nat.le_of_ble_eq_true rfl) (Nat.le_of_ble_eq_true rfl) ?_) | (refine' r_coeff (group := 3) (by k_asm) (by k_asm) (by k_asm) (by k_asm) (by k_extra "m_mem") (by exact .cons _ _ (.cons _ _ (.cons _ _ (.cons _ _ .nil)))) (by rfl) (by decide) (by (refine ⟨?_, ?_, ?_, ?_⟩ <;> omega)) (by (refine ⟨⟨?_, ?_⟩, ⟨?_, ?_⟩, ⟨?_, ?_⟩, ⟨?_, ?_⟩⟩ <;> omega)) rfl (Nat.le_of_ble_eq_true rfl) (Nat.le_of_ble_eq_true rfl) ?_)); intro q' ws' nq' h' tk' iv' F' N' ne'; (try k_sweep))
  | (refine of_held ?_))))
  k_with "CompEnd" => (((first | (refine' compEnd0 (by with_reducible assumption) (by with_reducible assumption) (by with_reducible assumption) (by rfl) (by first | exact True.intro | (apply srcAt; k_extra "m_mem")) ?_) | (refine' compEnd1 (by with_reducible assumption) (by with_reducible assumption) (by with_reducible assumption) (by rfl) (by first | exact True.intro | (apply srcAt; k_extra "m_mem")) ?_) | (refine' compEnd2 (by with_reducible assumption) (by with_reducible assumption) (by with_reducible assumption) (by rfl) (by first | exact True.intro | (apply srcAt; k_extra "m_mem")) ?_)); ((with_reducible rename Offs _ _ _ _ => zof); clear zof); ((with_reducible rename Ne3 _ _ _ => zne); (clear zne))))
  trivial
theorem compEndQ {h₀ : Heap} {L I C D : Addr} {m : PySem.Str → Option Value} {s₁ : Shared} {oI oC oD : Obj} {S : List (Addr × Obj) → Prop} {rest : Value → List (Addr × Obj) → Prop} {y : Value} {h' : Heap} {tk : Nat} {news' : List (Addr × Obj)} {as : List Addr} {q : Addr} {oq : Obj}
    (F : Fr h₀ L h' m) (N : News h₀ L h' ((q, oq) :: (I, oI) :: (C, oC) :: (D, oD) :: news')) (hq : ∀ p ∈ (I, oI) :: (C, oC) :: (D, oD) :: news', q ≠ p.1) (off : Offs as I C D) (e : news'.map Prod.fst = as) (hS : S ((q, oq) :: news')) (r : rest y ((q, oq) :: news')) :
    LCg.CompEnd h₀ L m s₁ I oI C oC D oD S rest y { s₁ with heap := h', toks := tk } := by
  refine LCg.CompEnd.intro F N ((q, oq) :: news') (fun p hp => ?_) ⟨⟨hq _ (.head _), hq _ (.tail _ (.head _)), hq _ (.tail _ (.tail _ (.head _)))⟩, off3_of off e⟩ hS r
  simp only [List.mem_cons] at hp ⊢
  rcases hp with hp | hp | hp | hp | hp
  · exact .inr (.inl hp)
  · exact .inr (.inr (.inl hp))
  · exact .inr (.inr (.inr (.inl hp)))
  · exact .inl hp
  · exact .inr (.inr (.inr (.inr hp)))
example : True := by
  k_with "CompEnd ref" => (((refine' compEndQ (by with_reducible assumption) (by with_reducible assumption) (by with_reducible assumption) (by with_reducible assumption) (by rfl) (by exact True.intro) ?_); ((with_reducible rename Offs _ _ _ _ => zof); clear zof); ((with_reducible rename Ne3 _ _ _ => zne); (clear zne))))
  k_with "m_strs" => ((first | apply StrsAre.nil | (apply StrsAre.cons; k_extra "m_strs")))
  k_with "m_strok" => ((first | exact List.forall_mem_nil _ | (refine List.forall_mem_cons.mpr (And.intro ?_ ?_); (first | (apply w_ok; with_reducible assumption) | (apply n_ok; with_reducible assumption)); k_extra "m_strok")))
  k_with "compareOp Eq ref ref" => ((k_here; (with_reducible show wpAny _ _ (compareOp CmpOp.Eq (Value.ref _) (Value.ref _)) _ _ _); k_dflt (first
  | (refine' eq_strsL (by k_asm) (by k_extra "m_mem") (by k_extra "m_mem") (by k_extra "m_strs") (by k_extra "m_strs") (by k_extra "m_strok") (by ke_room) ?_)
  | (refine' eq_nest4 (by k_asm) (by k_extra "m_mem") (by k_extra "m_mem") (by k_extra "m_mem") (by k_extra "m_mem") (by k_extra "m_mem") (by k_extra "m_mem") (by k_extra "m_mem") (by k_extra "m_mem") (by k_extra "m_mem") (by k_extra "m_mem") (by assumption) (by assumption) (by assumption) (by assumption) (by assumption) (by assumption) (by assumption) (by assumption) (by ke_room) ?_))))
  k_with "ite" => ((k_here; k_dflt (refine PySem.W.ite_pos (by first | (simp only [Bool.and_eq_true, beq_iff_eq]; first | omega | exact ⟨rfl, rfl⟩)) ?_)))
  trivial
theorem dist_cells {n : Nat} (h : 159 < n) : Dist [n + 1 + 1 + 1 + 1 + 1 + 1, n + 1 + 1 + 1 + 1 + 1, n + 1 + 1 + 1 + 1, n + 1 + 1 + 1, n + 1 + 1, n + 1, 159] := by
  show ([n + 1 + 1 + 1 + 1 + 1 + 1, n + 1 + 1 + 1 + 1 + 1, n + 1 + 1 + 1 + 1, n + 1 + 1 + 1, n + 1 + 1, n + 1, 159] : List Nat).Nodup
  simp only [List.nodup_cons, List.mem_cons, List.not_mem_nil, or_false, not_or, not_false_eq_true, and_true, List.nodup_nil]
  omega
theorem with_nil {α : Prop} (k : ∀ r : List (Addr × Obj), r = [] → α) : α := k [] rfl
theorem cells6 {α : Prop} {g : Heap} {L : Addr} {h : Heap} {rest : List (Addr × Obj)} {cm : PySem.Str → Option Value} {n₁ n₂ n₃ n₄ n₅ n₆ : PySem.Str} {c₁ c₂ c₃ c₄ c₅ c₆ : Addr} {cells : List (Addr × Obj)} (x : CellsAre cm [(n₁, c₁), (n₂, c₂), (n₃, c₃), (n₄, c₄), (n₅, c₅), (n₆, c₆)] cells) (N : News g L h (cells ++ rest))
    (k : ∀ o₁ o₂ o₃ o₄ o₅ o₆ : Obj, o₁.data = .cell (cm n₁) → o₂.data = .cell (cm n₂) → o₃.data = .cell (cm n₃) → o₄.data = .cell (cm n₄) → o₅.data = .cell (cm n₅) → o₆.data = .cell (cm n₆) → News g L h ((c₁, o₁) :: (c₂, o₂) :: (c₃, o₃) :: (c₄, o₄) :: (c₅, o₅) :: (c₆, o₆) :: rest) → α) : α := by
  obtain ⟨o₁, o₂, o₃, o₄, o₅, o₆, rfl, h₁, h₂, h₃, h₄, h₅, h₆⟩ := kc_six x
  exact k _ _ _ _ _ _ h₁ h₂ h₃ h₄ h₅ h₆ N
theorem c_law {prog : Program} {w : World} {s : Shared} {h₀ : Heap} {E : Value → Shared → Prop} {Q : Value → Shared → Prop} (W : Wd w h₀) (st : h₀.StaysIn s.heap) {sa : Addr} {sv : List Value} {ns : List Int}
   (h159 : s.heap.get? 159 = some (tabObj #[])) (h159' : h₀.get? 159 = none) (C : CodeHd h₀ 163 159) (es : s.heap.IsList sa sv.toArray) (hsa : sa ≠ 159) (hi : IntsAre sv ns) (hlen : ns.length ≤ 63)
   (post : ∀ h' tk' ps, Keeps s.heap h' [159] → h'.get? 159 = some (tabObj ps) → Q (.bool true) { s with heap := h', toks := tk' }) :
   wpAny (model prog w) (AC 305 350) (call (.ref 193) [.ref sa]) Q E s := by
  revert W st h159 h159' C es hsa hi hlen post
  revert prog w s h₀ E Q sa sv ns
  refine @(all_eps9 (neP neI (neP neW (neP neS (neP neI inferInstance)))) ?_)
  generalize @eps9 _ _ _ _ _ _ _ _ _ _ _ = zt
  generalize zt.1 = prog, zt.2.1 = w, zt.2.2.1 = s, zt.2.2.2.1 = h₀, zt.2.2.2.2.1 = E, zt.2.2.2.2.2.1 = Q, zt.2.2.2.2.2.2.1 = sa, zt.2.2.2.2.2.2.2.1 = sv, zt.2.2.2.2.2.2.2.2 = ns
  clear zt
  intro W st h159 h159' C es hsa hi hlen post
  refine enterPC (args := ⟨[.ref sa], []⟩) W st (news := [(159, tabObj #[])]) (binds := [(PySem.Str.ofString "script", .ref sa)]) (fun p hp => by cases hp with | head => exact ⟨h159, h159'⟩ | tail _ h => exact nomatch h) (by k_is) (by k_is) (by decide) (BindsTo.of_eq rfl) rfl (by decide +kernel) ?_ rfl rfl rfl
  refine all_eps9 (neP neI (neP neI (neP neI (neP neI (neP neI inferInstance))))) ?_
  generalize @eps9 _ _ _ _ _ _ _ _ _ _ _ = zt
  generalize zt.1 = g, zt.2.1 = h₁, zt.2.2.1 = tk, zt.2.2.2.1 = cells, zt.2.2.2.2.1 = p, zt.2.2.2.2.2.1 = loose, zt.2.2.2.2.2.2.1 = mean, zt.2.2.2.2.2.2.2.1 = mg, zt.2.2.2.2.2.2.2.2 = mb
  clear zt
  intro F N Y X T hg hl stg
  have C' := C.keeps stg
  have hls : g.IsList sa sv.toArray := es.at fun o e => hg _ _ e (fun h => hsa (List.mem_singleton.mp h))
  k_lt hl
  refine cells6 Y N ?_
  clear Y N
  refine all_eps6 (inferInstance) ?_
  generalize @eps6 _ _ _ _ _ _ _ _ = zt
  generalize zt.1 = oc1, zt.2.1 = oc2, zt.2.2.1 = oc3, zt.2.2.2.1 = oc4, zt.2.2.2.2.1 = oc5, zt.2.2.2.2.2 = oc6
  clear zt
  intro hoc1 hoc2 hoc3 hoc4 hoc5 hoc6 N
  (try simp only [List.cons_append, List.nil_append] at N)
  have zd0 := dist_cells hl
  refine with_nil ?_
  refine all_eps (inferInstance) ?_
  generalize @eps _ _ _ = rest0
  intro hrest0
  have zd : Dist ((s.heap.objs.size + 1 + 1 + 1 + 1 + 1 + 1) :: (s.heap.objs.size + 1 + 1 + 1 + 1 + 1) :: (s.heap.objs.size + 1 + 1 + 1 + 1) :: (s.heap.objs.size + 1 + 1 + 1) :: (s.heap.objs.size + 1 + 1) :: (s.heap.objs.size + 1) :: 159 :: rest0.map Prod.fst) := by subst hrest0; exact zd0
  have N0 := news_rest7 N hrest0
  clear N zd0 hrest0
  (with_reducible show wpAny _ _ _ _ _ _)
  k_fold
  repeat' (first | (k_unfold; (try dsimp only)) | (k_end; wrow_close) | (walk1; (try dsimp only)) | (dsimp only; walk1) | (leave1; (try dsimp only)) | fail "no step")
  (with_reducible rename News _ _ _ _ => NN)
  (with_reducible rename Fr _ _ _ _ => FF)
  exact post _ _ _ (keeps_of FF hg) (NN.get (by walk_at "m_mem"))
end Mine
end

section
open PySem PySem.W PyProof.Rows PySem.Calls
set_option maxRecDepth 100000
set_option maxHeartbeats 8000000
namespace Mine
example : True := by
  w_top off
  k_with_none
  trivial
example : True := by first | walk1 | trivial
theorem good_true {c : ClaimW} {cl : PySem.Str → Option Addr} {mean : ExcName → Option Value} {args : List WData} {s₁ : Shared} {h' : Heap} {tk' : Nat} {ps : Array Value} (hT : TabsAt [(163, 159)] s₁.heap) (hgen : s₁.gens = #[]) (k : Keeps s₁.heap h' [159]) (e : h'.get? 159 = some (tabObj ps))
    (hr : ∀ cls, c.raises args cls = false) (hp : c.post args (.bool true) args = true) : GoodWG c cl mean args s₁ (.ok (.ret (.bool true))) { s₁ with heap := h', toks := tk' } := by
  have tab := hT _ (.head _)
  refine ⟨.inl ⟨_, _, _, rfl, hr, .bool true, hp, fun _ => ⟨List.nodup_nil, fun a ha => nomatch ha⟩⟩, ⟨fun b o eb => ?_, fun b o eb => ?_⟩, rfl, .of_eq hgen⟩
  · by_cases hb : b = 159
    · subst hb
      have e2 := tab.2
      rw [eb] at e2
      cases e2
      exact .inr (.inl ⟨(tab.1.tab tab.2).isCodeTable, rfl, #[], ps, rfl, by rw [Array.empty_append]; exact e⟩)
    · exact .inl (k b o eb fun hm => hb (List.mem_singleton.mp hm))
  · by_cases hb : b = 159
    · subst hb; exact ⟨_, e⟩
    · exact ⟨o, k b o eb fun hm => hb (List.mem_singleton.mp hm)⟩
theorem head_law {prog : Program} {w : World} {s : Shared} {E : Value → Shared → Prop} {Q : Value → Shared → Prop} {p : Program} {loose : List PySem.Str} {mean : ExcName → Option Value} {mg mb : PySem.Str → Option Value} {fa : Addr} (X : (lawTop.heap_39 w.params).In s.heap) (T : Top p loose mean mg mb s.heap) (hT : TabsAt [(163, 159)] s.heap)
    (hmg : mg (PySem.Str.ofString "law") = some (.ref fa)) {sa : Addr} {sv : List Value} {ns : List Int} (es : s.heap.IsList sa sv.toArray) (hi : IntsAre sv ns) (hlen : ns.length ≤ 63)
    (post : ∀ h' tk' ps, Keeps s.heap h' [159] → h'.get? 159 = some (tabObj ps) → Q (.bool true) { s with heap := h', toks := tk' }) :
    wpAny (model prog w) callerA (call (.ref fa) [.ref sa]) Q E s := by
  have e193 : mg (PySem.Str.ofString "law") = some (.ref 193) := mg_of X T.g (by k_is)
  rw [hmg] at e193
  cases e193
  have tab := hT _ (.head _)
  have X' := ghost_K hT X (by kernel_rfl)
  have T' := ghost_top hT T
  have hsa : sa ≠ 159 := fun q => by
    obtain ⟨o, eo, hc, _⟩ := es
    rw [q, tab.2] at eo
    cases eo
    cases hc
  exact weaken (c_law (h₀ := ghostOf s.heap [(163, 159)]) ⟨X', _, _, _, _, _, T'⟩ (fun b o e => of_hideAll _ e) tab.2 (hideAll_none _ (.head _)) (ghost_code hT).1 es hsa hi hlen post) rfl (Nat.le_of_ble_eq_true rfl) (Nat.le_of_ble_eq_true rfl)

end Mine
end

end

open PySem PySem.W PyProof.Rows PySem.Calls
set_option maxRecDepth 100000 in
set_option maxHeartbeats 8000000 in
theorem PySem.Challenge.cw_sr0033_01_holds : PySem.Challenge.rw_sr0033_01.Holds := by
  exact Mine.lawTop (by
  k_fill
  intro w s₀ s₁ mg mb G Y fa o pm cd doc dV kV ho hd hcd hD hmg hg args vals as hpre hlay hrd hwl hlo
  have KX := km_in_of Y
  km_tabs Y
  refine Ground.open G ?_
  intro T B D TE TW
  try (refine guard_noD D (by decide +kernel) ?_; clear D)
  km_lay T hmg ho hd cd
  have hmg2 := hmg
  wrow_args hpre hlay hrd hwl hlo
  rename_i hL _ _ _ hI _ hc63 _
  refine Mine.head_law KX T hT9 hmg2 hL hI (by omega) fun h' tk' ps k e => Mine.good_true hT9 hg k e (fun _ => rfl) ?_
  wrow_post)
