import PyProof.Rows.All
import Wide.All
import OpenK.AllK
import Wide.FinOn
import PySem.Builtin.Sre.Common
import PySem.Challenge.RW_xe0046_01
set_option Elab.async false

section Top
open PySem PySem.W PyProof.Rows
namespace Mine
set_option maxRecDepth 100000 in
set_option maxHeartbeats 8000000 in
open_top hd for PySem.Challenge.rw_xe0046_01
end Mine
end Top
section PXBase
open PySem PySem.Spec PySem.Calls PySem.W PyProof.Rows
namespace Mine
noncomputable abbrev lawProg : Program := PySem.Challenge.rw_xe0046_01.row.prog
noncomputable abbrev TopX (mean : ExcName → Option Value) (mg mb : Str → Option Value) (h : Heap) : Prop :=
  Top hd.view_39 (looseW hd.view_39 [Str.ofString "IPV4_RE", Str.ofString "Whitespace"]) mean mg mb h

/-- what stands behind a called def's body: the value, and that nothing that stood was changed -/
def LeaveP (g : Heap) (P : Value → Shared → Prop) (v : Value) (s' : Shared) : Prop := g.StaysIn s'.heap ∧ P v s'
theorem LeaveP.of {g : Heap} {L : Addr} {m : Str → Option Value} {P : Value → Shared → Prop} {v : Value} {s' : Shared} (F : Fr g L s'.heap m) (h : g.StaysIn s'.heap → P v s') : LeaveP g P v s' :=
  ⟨F.keep, h F.keep⟩

section
variable {prog : Program} {w : World} {A₀ A : Around} {E : Value → Shared → Prop} {s : Shared} {K : Frag} {L : Addr} {h₀ base : Heap} {m mg mb : Str → Option Value} {p : Program} {loose : List Str} {mean : ExcName → Option Value}

theorem enter_own {env : Env} {outer : List Env} {Q : Value → Shared → Prop} {name qual : Str} {params : Arguments} {body : List Stmt} {scope : Scope} {dV kV doc pm cdv ct oc : Value} {an od : Option Addr} {osl : Array (Option Value)} {f : Addr} {args : List Value} {kw : List (Str × Value)} {binds : List (Str × Value)}
    (B : Below A₀ base outer h₀) (F : Fr h₀ L s.heap m) (X₀ : K.In h₀) (T : Top p loose mean mg mb h₀) (hA : A.frames = some (env :: outer)) (hf : env.frame = some L) (hke : env.scope.kind = .function)
    (ho : K.lookup f = some ⟨oc, od, .func (fnOf name qual params body scope dV kV doc pm an cdv ct), osl⟩) (hcd : codeIn K cdv qual = true) (hroom : A.depth < recursionLimit)
    (hbind : BindsTo s (fnOf name qual params body scope dV kV doc pm an cdv ct) ⟨args, kw⟩ binds) (hloc : ∀ y ∈ binds, scope.names.lookup y.1 = some .local)
    (h : ∀ L' h₁, Fr s.heap L' h₁ (fun y => binds.reverse.lookup y) → News s.heap L' h₁ [] → Below A base (env :: outer) s.heap → K.In s.heap → Top p loose mean mg mb s.heap →
      wpAny (model prog w) (A.deeper (envOf qual scope L' f cdv)) (execs body (envOf qual scope L' f cdv))
        (fun fl s' => LeaveP s.heap Q (match fl with | .ret v => v | _ => .none) s')
        (fun _ _ => False)
        { s with heap := h₁, toks := s.toks + binds.length })
    (hco : scope.isCoroutine = false) (hgen : scope.isGenerator = false) (hk : scope.kind = .function)
    (hcell : ∀ x ∈ scope.names, x.2 ≠ .cell) : wpAny (model prog w) A (call (.ref f) args kw) Q E s := by
  have X := X₀.keeps F.keep
  have st : h₀.StaysIn s.heap := F.keep
  have B₁ : Below A base (env :: outer) s.heap := by
    have z := pushX B F hf hke
    exact ⟨hA, z.stays, z.frames⟩
  refine wpAny_call (codeAny_call_def (fd := fnOf name qual params body scope dV kV doc pm an cdv ct) (body := body) (binds := binds) hroom (X _ _ ho) rfl (T.nolimit.keeps F.keep) (codeRec_of X hcd) rfl hbind hcell hloc (fun h₁ hns hk₁ => ?_) hco hgen hk)
  refine wpAny_mono (h s.heap.objs.size h₁ ⟨hns, hk₁, Nat.le_refl _⟩ News.nil B₁ X (T.keeps F.keep)) (fun fl s' hl => ?_) fun _ _ x => x.elim
  exact hl.2

theorem enter_init {env : Env} {outer : List Env} {Q : Value → Shared → Prop} {name qual : Str} {params : Arguments} {body : List Stmt} {scope : Scope} {dV kV doc pm cdv ct oc : Value} {an od : Option Addr} {osl : Array (Option Value)} {C f : Addr} {rest : List Value} {binds : Addr → List (Str × Value)}
    (B : Below A₀ base outer h₀) (F : Fr h₀ L s.heap m) (X₀ : K.In h₀) (T : Top p loose mean mg mb h₀) (hA : (A.under (.builtin "type.__call__" ⟨.ref C :: rest, []⟩)).frames = some (env :: outer)) (hf : env.frame = some L) (hke : env.scope.kind = .function)
    (hm : makesIn K C = true) (hi : findIn K (.ref C) "__init__" = some (some (.ref f))) (hft : typeIn K (.ref f) = some (.type "function"))
    (ho : K.lookup f = some ⟨oc, od, .func (fnOf name qual params body scope dV kV doc pm an cdv ct), osl⟩) (hcd : codeIn K cdv qual = true) (hroom : (A.under (.builtin "type.__call__" ⟨.ref C :: rest, []⟩)).depth < recursionLimit)
    (hbind : ∀ x s, BindsTo s (fnOf name qual params body scope dV kV doc pm an cdv ct) ⟨.ref x :: rest, []⟩ (binds x)) (hloc : ∀ x, ∀ y ∈ binds x, scope.names.lookup y.1 = some .local)
    (h : ∀ x dx L' h₁ tk, s.heap.objs.size ≤ dx → dx < x → x < L' → Fr s.heap L' h₁ (fun y => (binds x).reverse.lookup y) → News s.heap L' h₁ [(x, instObj C dx), (dx, dictOf [] 0)] → Below (A.under (.builtin "type.__call__" ⟨.ref C :: rest, []⟩)) base (env :: outer) s.heap → K.In s.heap → Top p loose mean mg mb s.heap →
      wpAny (model prog w) ((A.under (.builtin "type.__call__" ⟨.ref C :: rest, []⟩)).deeper (envOf qual scope L' f cdv)) (execs body (envOf qual scope L' f cdv))
        (fun fl s' => LeaveP s.heap (fun v s' => v = .none ∧ Q (.ref x) s') (match fl with | .ret v => v | _ => .none) s')
        (fun _ _ => False)
        { s with heap := h₁, toks := tk })
    (hco : scope.isCoroutine = false) (hgen : scope.isGenerator = false) (hk : scope.kind = .function)
    (hcell : ∀ x ∈ scope.names, x.2 ≠ .cell) : wpAny (model prog w) A (call (.ref C) rest) Q E s := by
  have X := X₀.keeps F.keep
  have B₁ : Below (A.under (.builtin "type.__call__" ⟨.ref C :: rest, []⟩)) base (env :: outer) s.heap := by
    have z := pushX B F hf hke
    exact ⟨hA, z.stays, z.frames⟩
  refine wpAny_call ?_
  obtain ⟨hh, g, d, t, os⟩ := s
  have k : ∀ b o, hh.get? b = some o → ((hh.push emptyDict).push (instObj C hh.objs.size)).get? b = some o := fun b o e => Heap.get?_push_of_some _ (Heap.get?_push_of_some _ e)
  have hx : ((hh.push emptyDict).push (instObj C hh.objs.size)).get? (hh.objs.size + 1) = some (instObj C hh.objs.size) := by heap_get
  have hdx : ((hh.push emptyDict).push (instObj C hh.objs.size)).get? hh.objs.size = some (dictOf [] 0) := by heap_get
  refine make_core (makes_of X hm) (looks_findIn X hi) (fun self => bind_fn X self hft) (.inl rfl) ?_
  have kk : h₀.StaysIn ((hh.push emptyDict).push (instObj C hh.objs.size)) := fun b o e => k b o (F.keep b o e)
  refine codeAny_call_def (fd := fnOf name qual params body scope dV kV doc pm an cdv ct) (body := body) (binds := binds (hh.objs.size + 1)) hroom (k _ _ (X _ _ ho)) rfl (T.nolimit.keeps kk) ((codeRec_of X hcd).keeps k) rfl (hbind _ _) hcell (hloc _) (fun h₁ hns hk₁ => ?_) hco hgen hk
  have none_of : ∀ b, hh.objs.size ≤ b → hh.get? b = none := fun b hb => by
    cases q : hh.get? b with
    | none => rfl
    | some o => exact absurd (Heap.lt_size q) (Nat.not_lt.mpr hb)
  have hL : ((hh.push emptyDict).push (instObj C hh.objs.size)).objs.size = hh.objs.size + 2 := by rw [Heap.size_push, Heap.size_push]
  refine wpAny_mono (h (hh.objs.size + 1) hh.objs.size _ h₁ _ (Nat.le_refl _) (Nat.lt_succ_self _) (by rw [hL]; exact Nat.lt_succ_self _) ⟨hns, fun b o e => hk₁ b o (k b o e), by show hh.objs.size ≤ _; rw [hL]; exact Nat.le_add_right _ _⟩ ?_ B₁ X (T.keeps F.keep)) (fun fl s' hl => ?_) fun _ _ x => x.elim
  · intro q hq
    rcases List.mem_cons.mp hq with rfl | hq
    · exact ⟨hk₁ _ _ hx, by rw [hL]; exact Nat.ne_of_lt (Nat.lt_succ_self _), none_of _ (Nat.le_succ _)⟩
    · cases List.mem_singleton.mp hq
      exact ⟨hk₁ _ _ hdx, by rw [hL]; exact Nat.ne_of_lt (Nat.lt_add_of_pos_right (by decide)), none_of _ (Nat.le_refl _)⟩
  · exact hl.2

theorem endB {g h' : Heap} {L : Addr} {m : Str → Option Value} {Q : Value → Shared → Prop} {b b' : Bool} {s : Shared} {tk : Nat} (F : Fr g L h' m) (ret : ∀ h' tk', g.StaysIn h' → Q (.bool b) { s with heap := h', toks := tk' }) (e : b' = b) :
    LeaveP g Q (.bool b') { s with heap := h', toks := tk } := ⟨F.keep, by rw [e]; exact ret _ _ F.keep⟩
theorem endS {g h' : Heap} {L : Addr} {m : Str → Option Value} {Q : Value → Shared → Prop} {x x' : Str} {t : Tok} {s : Shared} {tk : Nat} (F : Fr g L h' m) (ret : ∀ t h' tk', g.StaysIn h' → Q (.str x t) { s with heap := h', toks := tk' }) (e : x' = x) :
    LeaveP g Q (.str x' t) { s with heap := h', toks := tk } := ⟨F.keep, by rw [e]; exact ret _ _ _ F.keep⟩
theorem use_ret {v : Value} {news : List (Addr × Obj)} {Q : Value → Shared → Prop} (F : Fr h₀ L s.heap m) (N : News h₀ L s.heap news) (k : ∀ h' tk', Fr h₀ L h' m → News h₀ L h' news → Q v { s with heap := h', toks := tk' }) :
    ∀ h' tk', s.heap.StaysIn h' → Q v { s with heap := h', toks := tk' } := fun h' tk' st => k h' tk' (F.keeps st) (N.grown st)
theorem use_retT {v : Tok → Value} {news : List (Addr × Obj)} {Q : Value → Shared → Prop} (F : Fr h₀ L s.heap m) (N : News h₀ L s.heap news) (k : ∀ t h' tk', Fr h₀ L h' m → News h₀ L h' news → Q (v t) { s with heap := h', toks := tk' }) :
    ∀ t h' tk', s.heap.StaysIn h' → Q (v t) { s with heap := h', toks := tk' } := fun t h' tk' st => k t h' tk' (F.keeps st) (N.grown st)
end
end Mine

end PXBase
section PXRe
open PySem PySem.Spec PySem.Calls PyProof.Rows PySem.Builtin PySem.Builtin.Re
namespace Mine
set_option maxRecDepth 100000
theorem pat_attrs : PlainAttrs "re.Pattern" :=
  ⟨⟨"object.__getattribute__", by rw [typeLookup_type, builtinLookup_eq_fast]; kernel_rfl, by decide +kernel⟩, by rw [typeLookup_type, builtinLookup_eq_fast]; kernel_rfl⟩
theorem pat_owner : Manifest.owners.lookup (String.ofList ['n','r','e','t','t','a','P','.','e','r'].reverse) = some Manifest.sig_re_Pattern := by kernel_rfl
theorem pat_slot : Slot "re.Pattern" "search" "re.Pattern.search" :=
  .of (owner := "re.Pattern") (n := "search") (by rw [typeLookup_type, builtinLookup_eq_fast]; kernel_rfl) (by decide +kernel) (by decide +kernel) (by decide +kernel)
    (by first | exact .inl (by decide +kernel) | exact .inr (by decide +kernel)) (by rw [isSubtype_type]; kernel_rfl)
theorem pat_type : typeOf (.builtin "re.Pattern.search") = pure (.type "method_descriptor") := by show builtinType _ = _; rw [builtinType_eq_fast]; kernel_rfl
theorem pat_entry : entryFor table "re.Pattern.search" = some Builtin.«re.Pattern.search» := entryFor_of_tree (by kernel_rfl)
theorem pat_args (a b : Value) : argsOk "re.Pattern.search" ⟨[a, b], []⟩ := by
  unfold argsOk; rw [signature?_of (id := "re.Pattern.search") (n := ['h','c','r','a','e','s']) (o := ['n','r','e','t','t','a','P','.','e','r']) (by kernel_rfl) pat_owner]; kernel_rfl

def reCode : Array Nat := #[14, 8, 1, 2, 4294967295, 1, 1, 46, 0, 16, 46, 24, 9, 1, 4294967295, 13, 4, 8, 0, 0, 1, 6, 5, 1]
def reFrom (x : Str) : Sre.M := Sre.forSearch reCode x.cps 0 0 x.cps.size false
def driveTo : Nat → Sre.M → Option Sre.M
  | 0, _ => none
  | n + 1, m => let m := m.runFor reTurnSteps; if m.outcome.isSome then some m else driveTo n m
def failsIn (n : Nat) (x : Str) : Bool := match driveTo n (reFrom x) with
  | some m => match m.outcome with
    | some .failed => true
    | _ => false
  | none => false

theorem wp_drive {M : Model} {A : Around} {E : Value → Shared → Prop} {s : Shared} {Q : Sre.M → Shared → Prop} : ∀ {n N : Nat} {m m' : Sre.M}, driveTo n m = some m' → n ≤ N → Q m' s → wpAny M A (reDrive N m) Q E s
  | 0, _, _, _, h, _, _ => nomatch h
  | _ + 1, 0, _, _, _, h, _ => absurd h (by omega)
  | n + 1, N + 1, m, m', h, hn, hq => by
    unfold driveTo at h
    unfold reDrive
    dsimp only at h ⊢
    split at h
    · rename_i e
      rw [if_pos e]
      cases h
      exact wpAny_pure hq
    · rename_i e
      rw [if_neg e]
      exact wpAny_bind (wpAny_rule (wp_drive h (by omega) hq))

theorem wp_rules {α : Type} {M : Model} {A : Around} {E : Value → Shared → Prop} {s : Shared} {f : α → PUnit → Sem (ForInStep PUnit)}
    (hf : ∀ (i : α) (Q : ForInStep PUnit → Shared → Prop), Q (.yield ⟨⟩) s → wpAny M A (f i ⟨⟩) Q E s) {Q : PUnit → Shared → Prop} : ∀ (l : List α), Q ⟨⟩ s → wpAny M A (forIn (m := Sem) l PUnit.unit f) Q E s
  | [], h => wpAny_pure h
  | i :: r, h => by
    rw [List.forIn_cons]
    exact wpAny_bind (hf i _ (wp_rules hf r h))

theorem wp_reRun {M : Model} {A : Around} {E : Value → Shared → Prop} {s : Shared} {Q : Option Sre.M → Shared → Prop} {x : Str} {n : Nat} (hf : failsIn n x = true) (hn : n ≤ 2 ^ 64) (h : Q none s) :
    wpAny M A (reRunToEnd (reFrom x)) Q E s := by
  unfold failsIn at hf
  split at hf
  · rename_i m e
    split at hf
    · rename_i e2
      unfold reRunToEnd
      refine wpAny_bind (wp_drive e hn ?_)
      refine wpAny_bind (wp_rules (fun i Q hq => ?_) _ ?_)
      · by_cases q : m.seen.has i = true
        · rw [if_pos q]; exact wpAny_bind (wpAny_rule (wpAny_pure hq))
        · rw [if_neg q]; exact wpAny_bind (wpAny_pure (wpAny_pure hq))
      rw [e2]
      exact wpAny_pure h
    · cases hf
  · cases hf
end Mine

end PXRe
section PXRe2
open PySem PySem.Spec PySem.Calls PyProof.Rows PySem.Builtin PySem.Builtin.Re
namespace Mine
set_option maxRecDepth 100000
theorem re_named (x : Str) (t : Tok) : reNamed "re.Pattern.search" "search" ["string", "pos", "endpos"] 1 [.str x t] [] = pure [some (.str x t), none, none] := by rfl

def patFields (x : Str) (t t' : Tok) : Array Value := #[.str x t, .int 256 t', .int 0 0, .none, .none, .ref 42, .int 0 0]
def codeItems : Array Value := #[.int 14 0, .int 8 0, .int 1 0, .int 2 0, .int 4294967295 0, .int 1 0, .int 1 0, .int 46 0, .int 0 0, .int 16 0, .int 46 0, .int 24 0, .int 9 0, .int 1 0, .int 4294967295 0, .int 13 0, .int 4 0, .int 8 0, .int 0 0, .int 0 0, .int 1 0, .int 6 0, .int 5 0, .int 1 0]
theorem code_is : (codeItems.map reRawOf).map (·.toNat) = reCode := by decide +kernel

theorem search_meets {x : Str} {t : Tok} {n : Nat} (hf : failsIn n x = true) (hn : n ≤ 2 ^ 64) (hx : x.cps.size < 2 ^ 62) {px : Str} {pt pt' : Tok} {o43 o42 : Obj} {ep : Nat} (d43 : o43.data = .fields (patFields px pt pt')) (d42 : o42.data = .seq codeItems ep) :
    Meets (Builtin.«re.Pattern.search» ⟨[.ref 43, .str x t], []⟩) (fun _ R s => s.heap.get? 43 = some o43 ∧ s.heap.get? 42 = some o42 ∧ R (.ok (.ret .none)) s) := by
  refine Meets.of_wp fun prog w A R s ⟨h43, h42, hr⟩ => ?_
  unfold Builtin.«re.Pattern.search»
  refine wpAny_bind ?_
  unfold reTarget
  dsimp only
  rw [re_named]
  refine wpAny_bind (wpAny_pure ?_)
  dsimp only
  refine wpAny_bind (wpAny_pure (wpAny_bind (wpAny_pure (wpAny_bind ?_))))
  unfold fieldsOf
  dsimp only
  refine wpAny_bind (wpAny_load h43 ?_)
  rw [d43]
  dsimp only
  refine wpAny_pure (wpAny_bind ?_)
  unfold reTextOf
  refine wpAny_bind (wpAny_pure ?_)
  dsimp only
  refine wpAny_pure ?_
  have c1 : (reRawNat ((patFields px pt pt').getD 6 Value.none) == 0 && ((x.cps, 0) : Array Nat × Nat).snd == 1) = false := rfl
  have c2 : (reRawNat ((patFields px pt pt').getD 6 Value.none) == 1 && ((x.cps, 0) : Array Nat × Nat).snd == 0) = false := rfl
  rw [c1, c2]
  simp only [Bool.false_eq_true, if_false]
  refine wpAny_bind ?_
  show wpAny _ _ (pure ()) _ _ _
  refine wpAny_pure (wpAny_bind ?_)
  have c5 : (patFields px pt pt').getD 5 Value.none = .ref 42 := rfl
  rw [c5]
  unfold reRawItems
  refine wpAny_bind ?_
  unfold seqItems?
  dsimp only
  refine wpAny_bind (wpAny_load h42 ?_)
  rw [d42]
  dsimp only
  refine wpAny_pure (wpAny_pure (wpAny_pure ?_))
  have e1 : Array.map (fun x => x.toNat) (Array.map reRawOf ((some codeItems).getD #[])) = reCode := code_is
  have e2 : Min.min (Int.toNat 0) ((x.cps, 0) : Array Nat × Nat).fst.size = 0 := by simp
  have e3 : Min.min (2 ^ 63 - 1 : Int).toNat ((x.cps, 0) : Array Nat × Nat).fst.size = x.cps.size := by
    show Min.min (2 ^ 63 - 1 : Int).toNat x.cps.size = _
    have : ((2 ^ 63 - 1 : Int)).toNat = 2 ^ 63 - 1 := by decide
    omega
  rw [e1, e2, e3]
  unfold reAnswer
  refine wpAny_bind ?_
  refine wp_reRun (n := n) hf hn ?_
  exact wpAny_pure ⟨_, rfl, hr⟩

theorem search_none {prog : Program} {w : World} {A : Around} {E : Value → Shared → Prop} {s : Shared} {Q : Value → Shared → Prop} {x : Str} {t : Tok} {n : Nat} (hf : failsIn n x = true) (hn : n ≤ 2 ^ 64) (hx : x.cps.size < 2 ^ 62) {px : Str} {pt pt' : Tok} {o43 o42 : Obj} {ep : Nat} (d43 : o43.data = .fields (patFields px pt pt')) (d42 : o42.data = .seq codeItems ep)
    (c43 : o43.cls = .type "re.Pattern") (h43 : s.heap.get? 43 = some o43) (h42 : s.heap.get? 42 = some o42) (h : Q .none s) : wpAny (model prog w) A (call (.builtin "re.Pattern.search") [.ref 43, .str x t]) Q E s :=
  call_meets pat_slot ⟨o43, h43, c43⟩ pat_entry (pat_args _ _) (search_meets hf hn hx d43 d42) ⟨h43, h42, h⟩
theorem search_method {M : Model} {A : Around} {E : Value → Shared → Prop} {s : Shared} {pl : Sem Bool} {Q : Value × List Value → Shared → Prop} {o43 : Obj} (h43 : s.heap.get? 43 = some o43) (c43 : o43.cls = .type "re.Pattern") (hd : o43.dict = none)
    (h : Q (.builtin "re.Pattern.search", [.ref 43]) s) : wpAny M A (getMethod (.ref 43) "search" pl) Q E s :=
  getMethod_builtin ⟨o43, h43, c43⟩ pat_attrs pat_slot pat_type (fun a e => by cases e; exact ⟨o43, h43, hd⟩) h
end Mine

end PXRe2
section PXH1
open PySem PySem.Spec PySem.Calls PySem.W PyProof.Rows
namespace Mine
local macro_rules | `(tactic| walk_at "own_enter") => `(tactic| (k_dflt (refine' enter_own ?k1 ?k2 ?k3 ?k5 ?kA ?kF ?kK ?k6 ?k7 ?k8 ?k9 ?kB ?_ ?c2 ?c3 ?c4 ?c5; (case kA => exact rfl); (case kF => exact rfl); (case kK => assumption); (case k1 => k_asm); (case k2 => k_asm); (case k3 => k_asm); (case k5 => k_asm); (case k6 => k_is); (case k7 => k_is); (case k8 => ktr_room); (case k9 => exact BindsTo.of_eq rfl); (case c5 => decide); (case kB => exact locs rfl); (case c2 => exact rfl); (case c3 => exact rfl); (case c4 => exact rfl); k_whole; intro L' h' F' N' B' X' T'; (try dsimp only); (try k_lift B'); (try k_fold))))
set_option maxRecDepth 100000
theorem pat_in (P : Params) : (hd.heap_39 P).lookup 43 = some { cls := .type "re.Pattern", data := .fields (patFields ⟨#[92, 46, 92, 100, 43, 36]⟩ 292 319) } := by kernel_rfl
theorem code_in (P : Params) : (hd.heap_39 P).lookup 42 = some { cls := .type "tuple", data := .seq codeItems 0 } := by kernel_rfl
section
variable {prog : Program} {w : World} {A : Around} {E : Value → Shared → Prop} {s : Shared} {h₀ : Heap} {L : Addr} {m : Str → Option Value}
theorem search_K {Q : Value → Shared → Prop} {x : Str} {t : Tok} {n : Nat} (F : Fr h₀ L s.heap m) (X : (hd.heap_39 w.params).In h₀) (hf : failsIn n x = true) (hn : n ≤ 2 ^ 64) (hx : x.length < 2 ^ 62) (h : Q .none s) :
    wpAny (model prog w) A (call (.builtin "re.Pattern.search") [.ref 43, .str x t]) Q E s :=
  search_none hf hn hx rfl rfl rfl ((X.keeps F.keep) _ _ (pat_in _)) ((X.keeps F.keep) _ _ (code_in _)) h
theorem search_method_K {pl : Sem Bool} {Q : Value × List Value → Shared → Prop} (F : Fr h₀ L s.heap m) (X : (hd.heap_39 w.params).In h₀) (h : Q (.builtin "re.Pattern.search", [.ref 43]) s) :
    wpAny (model prog w) A (getMethod (.ref 43) "search" pl) Q E s := search_method ((X.keeps F.keep) _ _ (pat_in _)) rfl rfl h
end
local macro_rules | `(tactic| walk_at "getMethod ref") => `(tactic| (k_here; (with_reducible show wpAny _ _ (getMethod (Value.ref 43) _ _) _ _ _); k_dflt (refine' search_method_K ?k1 ?k2 ?_; (case k1 => k_asm); (case k2 => k_asm); k_whole)))
local macro_rules | `(tactic| walk_at "call builtin:re.Pattern.search") => `(tactic| (k_here; k_dflt (refine' search_K (n := 40) ?k1 ?k2 ?k3 ?k4 ?k5 ?_; (case k1 => k_asm); (case k2 => k_asm); (case k3 => with_reducible assumption); (case k4 => decide); (case k5 => omega); k_whole)))

def hdnF (text : Str) : Bool := !(text == "") && !(Txt.item text 0 == ".") && !(Txt.item text (-1) == ".")
set_option maxHeartbeats 8000000 in
theorem hdn_call {w : World} {mean : ExcName → Option Value} {mg mb : Str → Option Value} (text : Str) (tt : Tok) (hf : failsIn 40 text = true) (hlen : text.length < 100)
    {dp un : Nat} {gd : Option (List Code)} {cn : Str} {cs : Scope} {a : Addr} {ccd : Value} {cl : List (Str × Addr)} {outer : List Env} {A₀ : Around} {base h₀ : Heap} {L : Addr} {m : Str → Option Value} {s : Shared} {Q E : Value → Shared → Prop}
    (B : Below A₀ base outer h₀) (F : Fr h₀ L s.heap m) (X : (hd.heap_39 w.params).In h₀) (T : TopX mean mg mb h₀) (hk : cs.kind = .function) (hdp : dp + 1 < recursionLimit) (hun : un + 8 < cLine)
    (ret : ∀ h' tk', s.heap.StaysIn h' → Q (.bool (hdnF text)) { s with heap := h', toks := tk' }) :
    wpAny (model lawProg w) (ktrTop dp un gd cn cs L a ccd cl outer) (call (.ref 50) [.str text tt]) Q E s := by
  have _ff : PySem.Challenge.rw_xe0046_01 = PySem.Challenge.rw_xe0046_01 ∧ hd.heap_39 = hd.heap_39 := by (k_fill; exact ⟨rfl, rfl⟩)
  clear _ff
  walk_at "own_enter"
  k_steps
  all_goals exact endB (by assumption) ret (by simp_all [hdnF])
theorem hdn_N {w : World} {mean : ExcName → Option Value} {mg mb : Str → Option Value} (text : Str) (tt : Tok) (hf : failsIn 40 text = true) (hlen : text.length < 100)
    {dp un : Nat} {gd : Option (List Code)} {cn : Str} {cs : Scope} {a : Addr} {ccd : Value} {cl : List (Str × Addr)} {outer : List Env} {A₀ : Around} {base h₀ : Heap} {L : Addr} {m : Str → Option Value} {s : Shared} {Q E : Value → Shared → Prop} {news : List (Addr × Obj)}
    (B : Below A₀ base outer h₀) (F : Fr h₀ L s.heap m) (X : (hd.heap_39 w.params).In h₀) (T : TopX mean mg mb h₀) (hk : cs.kind = .function) (hdp : dp + 1 < recursionLimit) (hun : un + 8 < cLine) (N : News h₀ L s.heap news)
    (ret : ∀ h' tk', Fr h₀ L h' m → News h₀ L h' news → Q (.bool (hdnF text)) { s with heap := h', toks := tk' }) :
    wpAny (model lawProg w) (ktrTop dp un gd cn cs L a ccd cl outer) (call (.ref 50) [.str text tt]) Q E s :=
  hdn_call text tt hf hlen B F X T hk hdp hun (use_ret F N ret)
end Mine

end PXH1
section PXH2
open PySem PySem.Spec PySem.Calls PySem.W PyProof.Rows
namespace Mine
local macro_rules | `(tactic| walk_at "own_enter") => `(tactic| (k_dflt (refine' enter_own ?k1 ?k2 ?k3 ?k5 ?kA ?kF ?kK ?k6 ?k7 ?k8 ?k9 ?kB ?_ ?c2 ?c3 ?c4 ?c5; (case kA => exact rfl); (case kF => exact rfl); (case kK => assumption); (case k1 => k_asm); (case k2 => k_asm); (case k3 => k_asm); (case k5 => k_asm); (case k6 => k_is); (case k7 => k_is); (case k8 => ktr_room); (case k9 => exact BindsTo.of_eq rfl); (case c5 => decide); (case kB => exact locs rfl); (case c2 => exact rfl); (case c3 => exact rfl); (case c4 => exact rfl); k_whole; intro L' h' F' N' B' X' T'; (try dsimp only); (try k_lift B'); (try k_fold))))
local macro_rules | `(tactic| walk_at "fill") => `(tactic| ((have _ff : PySem.Challenge.rw_xe0046_01 = PySem.Challenge.rw_xe0046_01 ∧ hd.heap_39 = hd.heap_39 := by (k_fill; exact ⟨rfl, rfl⟩)); clear _ff))
local macro_rules | `(tactic| walk_at "call ref") => `(tactic| (k_here; (with_reducible show wpAny _ _ (call (Value.ref 50) [Value.str _ _]) _ _ _); k_dflt (refine' hdn_N _ _ ?h1 ?h2 ?k1 ?k2 ?k3 ?k4 ?k5 ?k6 ?k7 ?k8 ?_; (case h1 => with_reducible assumption); (case h2 => with_reducible assumption); (case k1 => k_asm); (case k2 => k_asm); (case k3 => k_asm); (case k4 => k_asm); (case k5 => first | exact rfl | assumption); (case k6 => ktr_room); (case k7 => ktr_units); (case k8 => k_asm); k_whole; intro h' tk' F' N'; (try k_sweep))))
set_option maxRecDepth 100000
def dmF (x y : Str) : Bool :=
  let x := Txt.lower x
  let y := Txt.lower y
  if x == y then true
  else if !hdnF x then false
  else if Txt.rfind x y = -1 then false
  else if Txt.rfind x y = 0 then false
  else if !Txt.startswith y "." then false
  else hdnF (Txt.slice y (some 1) none)
set_option maxHeartbeats 8000000 in
theorem dm_call {w : World} {mean : ExcName → Option Value} {mg mb : Str → Option Value} (x y : Str) (tx ty : Tok) (hx : failsIn 40 (Txt.lower x) = true) (hx2 : (Txt.lower x).length < 100)
    (hy : failsIn 40 (Txt.slice (Txt.lower y) (some 1) none) = true) (hy2 : (Txt.slice (Txt.lower y) (some 1) none).length < 100) (hx3 : x.length < 100) (hy3 : y.length < 100) (hy4 : (Txt.lower y).length < 100)
    {dp un : Nat} {gd : Option (List Code)} {cn : Str} {cs : Scope} {a : Addr} {ccd : Value} {cl : List (Str × Addr)} {outer : List Env} {A₀ : Around} {base h₀ : Heap} {L : Addr} {m : Str → Option Value} {s : Shared} {Q E : Value → Shared → Prop}
    (B : Below A₀ base outer h₀) (F : Fr h₀ L s.heap m) (X : (hd.heap_39 w.params).In h₀) (T : TopX mean mg mb h₀) (hk : cs.kind = .function) (hdp : dp + 2 < recursionLimit) (hun : un + 12 < cLine)
    (ret : ∀ h' tk', s.heap.StaysIn h' → Q (.bool (dmF x y)) { s with heap := h', toks := tk' }) :
    wpAny (model lawProg w) (ktrTop dp un gd cn cs L a ccd cl outer) (call (.ref 57) [.str x tx, .str y ty]) Q E s := by
  walk_at "fill"
  walk_at "own_enter"
  k_steps
  all_goals exact endB (by assumption) ret (by simp_all [dmF])
end Mine

end PXH2
section PXH3
open PySem PySem.Spec PySem.Calls PySem.W PyProof.Rows
namespace Mine
local macro_rules | `(tactic| walk_at "own_enter") => `(tactic| (k_dflt (refine' enter_own ?k1 ?k2 ?k3 ?k5 ?kA ?kF ?kK ?k6 ?k7 ?k8 ?k9 ?kB ?_ ?c2 ?c3 ?c4 ?c5; (case kA => exact rfl); (case kF => exact rfl); (case kK => assumption); (case k1 => k_asm); (case k2 => k_asm); (case k3 => k_asm); (case k5 => k_asm); (case k6 => k_is); (case k7 => k_is); (case k8 => ktr_room); (case k9 => exact BindsTo.of_eq rfl); (case c5 => decide); (case kB => exact locs rfl); (case c2 => exact rfl); (case c3 => exact rfl); (case c4 => exact rfl); k_whole; intro L' h' F' N' B' X' T'; (try dsimp only); (try k_lift B'); (try k_fold))))
local macro_rules | `(tactic| walk_at "fill") => `(tactic| ((have _ff : PySem.Challenge.rw_xe0046_01 = PySem.Challenge.rw_xe0046_01 ∧ hd.heap_39 = hd.heap_39 := by (k_fill; exact ⟨rfl, rfl⟩)); clear _ff))
local macro_rules | `(tactic| walk_at "call ref") => `(tactic| (k_here; (with_reducible show wpAny _ _ (call (Value.ref 50) [Value.str _ _]) _ _ _); k_dflt (refine' hdn_N _ _ ?h1 ?h2 ?k1 ?k2 ?k3 ?k4 ?k5 ?k6 ?k7 ?k8 ?_; (case h1 => with_reducible assumption); (case h2 => with_reducible assumption); (case k1 => k_asm); (case k2 => k_asm); (case k3 => k_asm); (case k4 => k_asm); (case k5 => first | exact rfl | assumption); (case k6 => ktr_room); (case k7 => ktr_units); (case k8 => k_asm); k_whole; intro h' tk' F' N'; (try k_sweep))))
set_option maxRecDepth 100000
def reachF (h : Str) : Str :=
  if 0 ≤ Txt.find h "." then
    if hdnF h then
      if 0 ≤ Txt.find (Txt.slice h (some (Txt.find h "." + 1)) none) "." then "." ++ Txt.slice h (some (Txt.find h "." + 1)) none
      else if Txt.slice h (some (Txt.find h "." + 1)) none == "local" then "." ++ Txt.slice h (some (Txt.find h "." + 1)) none
      else h
    else h
  else h
set_option maxHeartbeats 8000000 in
theorem reach_call {w : World} {mean : ExcName → Option Value} {mg mb : Str → Option Value} (x : Str) (tx : Tok) (hx : failsIn 40 x = true) (hx2 : x.length < 100)
    {dp un : Nat} {gd : Option (List Code)} {cn : Str} {cs : Scope} {a : Addr} {ccd : Value} {cl : List (Str × Addr)} {outer : List Env} {A₀ : Around} {base h₀ : Heap} {L : Addr} {m : Str → Option Value} {s : Shared} {Q E : Value → Shared → Prop}
    (B : Below A₀ base outer h₀) (F : Fr h₀ L s.heap m) (X : (hd.heap_39 w.params).In h₀) (T : TopX mean mg mb h₀) (hk : cs.kind = .function) (hdp : dp + 2 < recursionLimit) (hun : un + 12 < cLine)
    (ret : ∀ t h' tk', s.heap.StaysIn h' → Q (.str (reachF x) t) { s with heap := h', toks := tk' }) :
    wpAny (model lawProg w) (ktrTop dp un gd cn cs L a ccd cl outer) (call (.ref 64) [.str x tx]) Q E s := by
  walk_at "fill"
  walk_at "own_enter"
  k_steps
  all_goals exact endS (by assumption) ret (by simp only [reachF, *, if_true, if_false, Bool.false_eq_true])
end Mine

end PXH3
section PXE1
open PySem PySem.Spec PySem.Calls PySem.W PyProof.Rows
namespace Mine
local macro_rules | `(tactic| walk_at "own_enter") => `(tactic| (k_dflt (refine' enter_own ?k1 ?k2 ?k3 ?k5 ?kA ?kF ?kK ?k6 ?k7 ?k8 ?k9 ?kB ?_ ?c2 ?c3 ?c4 ?c5; (case kA => exact rfl); (case kF => exact rfl); (case kK => assumption); (case k1 => k_asm); (case k2 => k_asm); (case k3 => k_asm); (case k5 => k_asm); (case k6 => k_is); (case k7 => k_is); (case k8 => ktr_room); (case k9 => exact BindsTo.of_eq rfl); (case c5 => decide); (case kB => exact locs rfl); (case c2 => exact rfl); (case c3 => exact rfl); (case c4 => exact rfl); k_whole; intro L' h' F' N' B' X' T'; (try dsimp only); (try k_lift B'); (try k_fold))))
local macro_rules | `(tactic| walk_at "fill") => `(tactic| ((have _ff : PySem.Challenge.rw_xe0046_01 = PySem.Challenge.rw_xe0046_01 ∧ hd.heap_39 = hd.heap_39 := by (k_fill; exact ⟨rfl, rfl⟩)); clear _ff))
set_option maxRecDepth 100000
section
variable {prog : Program} {w : World} {A : Around} {E : Value → Shared → Prop} {s : Shared} {h₀ : Heap} {L : Addr} {m : Str → Option Value} {news : List (Addr × Obj)}
theorem map_fst4 {l : List (Str × Tok)} {a b c d : Str} (h : l.map (·.1) = [a, b, c, d]) : ∃ t0 t1 t2 t3, l = [(a, t0), (b, t1), (c, t2), (d, t3)] := by
  match l, h with
  | [(_, t0), (_, t1), (_, t2), (_, t3)], h => simp only [List.map_cons, List.map_nil, List.cons.injEq, and_true] at h; obtain ⟨rfl, rfl, rfl, rfl⟩ := h; exact ⟨_, _, _, _, rfl⟩
theorem split4 {x : Str} {t : Tok} {y : Str} {u : Tok} {a b c d : Str} {Q : Value → Shared → Prop} (hF : Fr h₀ L s.heap m) (hN : News h₀ L s.heap news) (hy : (y.length == 0) = false) (hs : Txt.split x y = [a, b, c, d])
    (h : ∀ l h' k t0 t1 t2 t3, Fr h₀ L h' m → News h₀ L h' ((l, listOf #[.str a t0, .str b t1, .str c t2, .str d t3] 0) :: news) → (∀ p ∈ news, p.1 < l) → Q (.ref l) { s with heap := h', toks := k })
    (hsz : x.length + 2 ≤ sizeLine) : wpAny (model prog w) A (call (.builtin "str.split") [.str x t, .str y u]) Q E s := by
  refine splitN1 hF hN hy (fun l h' k hl F' N' => ?_) hsz
  rw [hs] at hl
  obtain ⟨t0, t1, t2, t3, rfl⟩ := map_fst4 hl
  exact h _ h' k t0 t1 t2 t3 F' N' (fun p hp => Heap.lt_size (hN p hp).1)
theorem map_fst5 {l : List (Str × Tok)} {a b c d e : Str} (h : l.map (·.1) = [a, b, c, d, e]) : ∃ t0 t1 t2 t3 t4, l = [(a, t0), (b, t1), (c, t2), (d, t3), (e, t4)] := by
  match l, h with
  | [(_, t0), (_, t1), (_, t2), (_, t3), (_, t4)], h => simp only [List.map_cons, List.map_nil, List.cons.injEq, and_true] at h; obtain ⟨rfl, rfl, rfl, rfl, rfl⟩ := h; exact ⟨_, _, _, _, _, rfl⟩
theorem split5 {x : Str} {t : Tok} {y : Str} {u : Tok} {a b c d e : Str} {Q : Value → Shared → Prop} (hF : Fr h₀ L s.heap m) (hN : News h₀ L s.heap news) (hy : (y.length == 0) = false) (hs : Txt.split x y = [a, b, c, d, e])
    (h : ∀ l h' k t0 t1 t2 t3 t4, Fr h₀ L h' m → News h₀ L h' ((l, listOf #[.str a t0, .str b t1, .str c t2, .str d t3, .str e t4] 0) :: news) → (∀ p ∈ news, p.1 < l) → Q (.ref l) { s with heap := h', toks := k })
    (hsz : x.length + 2 ≤ sizeLine) : wpAny (model prog w) A (call (.builtin "str.split") [.str x t, .str y u]) Q E s := by
  refine splitN1 hF hN hy (fun l h' k hl F' N' => ?_) hsz
  rw [hs] at hl
  obtain ⟨t0, t1, t2, t3, t4, rfl⟩ := map_fst5 hl
  exact h _ h' k t0 t1 t2 t3 t4 F' N' (fun p hp => Heap.lt_size (hN p hp).1)
end
theorem gives_find4 (x y : Str) (i : Int) (t u v k : Tok) : Gives (Builtin.«str.find» ⟨[.str x t, .str y u, .int i v, .int (x.length : Int) k], []⟩) (.int (Txt.find3 x y i)) := by
  have e : min x.length (fromIndex x.length (x.length : Int)) = x.length := by unfold fromIndex; omega
  show Gives (match Builtin.Str.occurrences x y (fromIndex x.length i) (min x.length (fromIndex x.length (x.length : Int))) 1 with | k :: _ => retInt k | [] => (do rule "str.find.not-found"; retInt (-1))) _
  rw [e]
  unfold Txt.find3
  cases Builtin.Str.occurrences x y (fromIndex x.length i) x.length 1 with
  | nil => exact .rule (.of_eq rfl)
  | cons k _ => exact .of_eq rfl
theorem find4 {prog : Program} {w : World} {A : Around} {E : Value → Shared → Prop} {s : Shared} {x y : Str} {i : Int} {t u v k : Tok} {Q : Value → Shared → Prop} (hq : -1 ≤ Txt.find3 x y i ∧ Txt.find3 x y i ≤ x.length → Q (.int (Txt.find3 x y i) s.toks) { s with toks := s.toks + 1 }) :
    wpAny (model prog w) A (call (.builtin "str.find") [.str x t, .str y u, .int i v, .int (x.length : Int) k]) Q E s :=
  call_gives F.slot_str_find (typeIs_str _ _ _) F.entry_str_find (F.args_str_find_4 _ _ _ _) (gives_find4 x y i t u v k) (hq (fact_find3 x y i))
local macro_rules | `(tactic| walk_at "call builtin:str.find") => `(tactic| (k_here; k_dflt (refine' find4 ?_; intro hb')))
local macro_rules | `(tactic| walk_at "call builtin:str.split") => `(tactic| (k_here; k_dflt (refine' split4 ?k1 ?k2 ?k3 ?k4 ?_ ?k5; (case k1 => k_asm); (case k2 => k_asm); (case k3 => rfl); (case k4 => with_reducible assumption); (case k5 => size_fits); k_whole; intro l' h' k' t0' t1' t2' t3' F' N' lt'; (try k_lt lt'); (try k_sweep))))

local macro_rules | `(tactic| walk_at "call builtin:str.split") => `(tactic| (k_here; k_dflt (refine' split5 ?k1 ?k2 ?k3 ?k4 ?_ ?k5; (case k1 => k_asm); (case k2 => k_asm); (case k3 => rfl); (case k4 => with_reducible assumption); (case k5 => size_fits); k_whole; intro l' h' k' t0' t1' t2' t3' t4' F' N' lt'; (try k_lt lt'); (try k_sweep))))

def ell2F (got a b : Str) : Bool :=
  if Txt.find3 got (Str.ofString "") 0 < 0 then false
  else if Txt.find3 got a (Txt.find3 got (Str.ofString "") 0 + ((0 : Nat) : Int)) < 0 then false
  else if Txt.find3 got b (Txt.find3 got a (Txt.find3 got (Str.ofString "") 0 + ((0 : Nat) : Int)) + (a.length : Int)) < 0 then false
  else if Txt.find3 got (Str.ofString "") (Txt.find3 got b (Txt.find3 got a (Txt.find3 got (Str.ofString "") 0 + ((0 : Nat) : Int)) + (a.length : Int)) + (b.length : Int)) < 0 then false
  else true
def ell3F (got a b c : Str) : Bool :=
  if Txt.find3 got (Str.ofString "") 0 < 0 then false
  else if Txt.find3 got a (Txt.find3 got (Str.ofString "") 0 + ((0 : Nat) : Int)) < 0 then false
  else if Txt.find3 got b (Txt.find3 got a (Txt.find3 got (Str.ofString "") 0 + ((0 : Nat) : Int)) + (a.length : Int)) < 0 then false
  else if Txt.find3 got c (Txt.find3 got b (Txt.find3 got a (Txt.find3 got (Str.ofString "") 0 + ((0 : Nat) : Int)) + (a.length : Int)) + (b.length : Int)) < 0 then false
  else if Txt.find3 got (Str.ofString "") (Txt.find3 got c (Txt.find3 got b (Txt.find3 got a (Txt.find3 got (Str.ofString "") 0 + ((0 : Nat) : Int)) + (a.length : Int)) + (b.length : Int)) + (c.length : Int)) < 0 then false
  else true
set_option maxHeartbeats 8000000 in
theorem ell2_call {w : World} {mean : ExcName → Option Value} {mg mb : Str → Option Value} (want got a b : Str) (tx ty : Tok) (hin : (Builtin.Str.occurrences want (Str.ofString "...") 0 want.length 1).isEmpty = false) (hs : Txt.split want (Str.ofString "...") = [Str.ofString "", a, b, Str.ofString ""]) (hx2 : want.length < 100) (hx3 : got.length < 100) (ha : a.length = 1) (hb : b.length = 1)
    {dp un : Nat} {gd : Option (List Code)} {cn : Str} {cs : Scope} {ca : Addr} {ccd : Value} {cl : List (Str × Addr)} {outer : List Env} {A₀ : Around} {base h₀ : Heap} {L : Addr} {m : Str → Option Value} {s : Shared} {Q E : Value → Shared → Prop}
    (B : Below A₀ base outer h₀) (F : Fr h₀ L s.heap m) (X : (hd.heap_39 w.params).In h₀) (T : TopX mean mg mb h₀) (hk : cs.kind = .function) (hdp : dp + 1 < recursionLimit) (hun : un + 8 < cLine)
    (ret : ∀ h' tk', s.heap.StaysIn h' → Q (.bool (ell2F got a b)) { s with heap := h', toks := tk' }) :
    wpAny (model lawProg w) (ktrTop dp un gd cn cs L ca ccd cl outer) (call (.ref 71) [.str want tx, .str got ty]) Q E s := by
  walk_at "fill"
  walk_at "own_enter"
  k_steps
  all_goals exact endB (by assumption) ret (by clear ha hb; simp only [ell2F, *, if_true, if_false])
set_option maxHeartbeats 8000000 in
theorem ell3_call {w : World} {mean : ExcName → Option Value} {mg mb : Str → Option Value} (want got a b c : Str) (tx ty : Tok) (hin : (Builtin.Str.occurrences want (Str.ofString "...") 0 want.length 1).isEmpty = false) (hs : Txt.split want (Str.ofString "...") = [Str.ofString "", a, b, c, Str.ofString ""]) (hx2 : want.length < 100) (hx3 : got.length < 100) (ha : a.length = 1) (hb : b.length = 1) (hc : c.length = 1)
    {dp un : Nat} {gd : Option (List Code)} {cn : Str} {cs : Scope} {ca : Addr} {ccd : Value} {cl : List (Str × Addr)} {outer : List Env} {A₀ : Around} {base h₀ : Heap} {L : Addr} {m : Str → Option Value} {s : Shared} {Q E : Value → Shared → Prop}
    (B : Below A₀ base outer h₀) (F : Fr h₀ L s.heap m) (X : (hd.heap_39 w.params).In h₀) (T : TopX mean mg mb h₀) (hk : cs.kind = .function) (hdp : dp + 1 < recursionLimit) (hun : un + 8 < cLine)
    (ret : ∀ h' tk', s.heap.StaysIn h' → Q (.bool (ell3F got a b c)) { s with heap := h', toks := tk' }) :
    wpAny (model lawProg w) (ktrTop dp un gd cn cs L ca ccd cl outer) (call (.ref 71) [.str want tx, .str got ty]) Q E s := by
  walk_at "fill"
  walk_at "own_enter"
  k_steps
  all_goals exact endB (by assumption) ret (by clear ha hb hc; simp only [ell3F, *, if_true, if_false])
end Mine

end PXE1
section PXD
open PySem PySem.Spec PySem.Calls PyProof.Rows
namespace Mine
/-- the row's signs, by their numbers: each put in behind so many of those in the row -/
def insN {α : Type} (l : List α) (x : Nat) (c : α) : List α := l.take x ++ c :: l.drop x
def permOf (x0 x1 x2 x3 : Nat) : List Nat := insN (insN (insN (insN [97] x0 98) x1 99) x2 100) x3 101
def sg (c : Nat) : Str := ⟨#[c]⟩
def tx (l : List Nat) : Str := ⟨l.toArray⟩
def IsPerm (p : List Nat) : Prop := ∃ x0 x1 x2 x3, x0 < 2 ∧ x1 < 3 ∧ x2 < 4 ∧ x3 < 5 ∧ p = permOf x0 x1 x2 x3
theorem insN_map {α β : Type} (f : α → β) (l : List α) (x : Nat) (c : α) : (insN l x c).map f = insN (l.map f) x (f c) := by
  unfold insN; rw [List.map_append, List.map_cons, List.map_take, List.map_drop]
/-- what holds of all 120 rows -/
theorem perm_all {P : List Nat → Prop} [DecidablePred P] (h : (∀ x0 < 2, ∀ x1 < 3, ∀ x2 < 4, ∀ x3 < 5, P (permOf x0 x1 x2 x3))) {p : List Nat} (hp : IsPerm p) : P p := by
  obtain ⟨x0, x1, x2, x3, h0, h1, h2, h3, rfl⟩ := hp
  exact h x0 h0 x1 h1 x2 h2 x3 h3
theorem join_perm {p : List Nat} (hp : IsPerm p) : Txt.join (Str.ofString "") (p.map sg) = tx p :=
  perm_all (P := fun p => Txt.join (Str.ofString "") (p.map sg) = tx p) (by decide +kernel) hp
end Mine

end PXD
section PXF
open PySem PySem.Spec PySem.Calls PyProof.Rows PySem.Builtin PySem.Builtin.Str
namespace Mine
set_option maxRecDepth 100000
/-- searches in a text, as plain recursion over its signs -/
def headsN : List Nat → List Nat → Bool
  | _, [] => true
  | [], _ :: _ => false
  | a :: x, b :: y => Nat.beq a b && headsN x y
def seekN (y : List Nat) : List Nat → Nat → Option Nat
  | [], i => if y.isEmpty then some i else none
  | a :: r, i => if headsN (a :: r) y then some i else seekN y r (i + 1)
def seekL (y : List Nat) : List Nat → Nat → Option Nat → Option Nat
  | [], i, o => if y.isEmpty then some i else o
  | a :: r, i, o => seekL y r (i + 1) (if headsN (a :: r) y then some i else o)
def orNo : Option Nat → Int
  | some k => (k : Int)
  | none => -1
def find3N (x y : List Nat) (i : Int) : Int :=
  if fromIndex x.length i ≤ x.length then orNo (seekN y (x.drop (fromIndex x.length i)) (fromIndex x.length i)) else -1
def rfindN (x y : List Nat) : Int := orNo (seekL y x 0 none)
theorem heads_take : ∀ (x y : List Nat), headsN x y = (x.take y.length == y)
  | x, [] => by cases x <;> rfl
  | [], _ :: _ => rfl
  | a :: x, b :: y => by
    show (Nat.beq a b && headsN x y) = ((a :: x).take (y.length + 1) == b :: y)
    rw [List.take_succ_cons, heads_take x y, List.cons_beq_cons]
    congr 1
    rw [Bool.eq_iff_iff, Nat.beq_eq, beq_iff_eq]
theorem hit_is {X Y : List Nat} {i : Nat} (h : i ≤ X.length) : (decide (i + Y.length ≤ X.length) && ((X.drop i).take Y.length == Y)) = headsN (X.drop i) Y := by
  rw [heads_take]
  by_cases q : ((X.drop i).take Y.length == Y) = true
  · rw [q, Bool.and_true, decide_eq_true_eq]
    have := congrArg List.length (eq_of_beq q)
    rw [List.length_take, List.length_drop] at this
    omega
  · rw [Bool.eq_false_iff.mpr q, Bool.and_false]
theorem occ_stay (s sub : Str) (hi : Nat) : ∀ (l : List Nat) (st : Array Nat × Nat), st.fst.size = 1 → (forIn l st (StrLaws.occBody s sub hi 1)).run.fst = st.fst
  | [], _, _ => rfl
  | a :: l, st, h => by
    rw [List.forIn_cons]
    unfold StrLaws.occBody
    rw [if_neg (fun c => by have := c.1.1.1; omega)]
    exact occ_stay s sub hi l _ h
theorem occ_find (s sub : Str) (hi : Nat) : ∀ (l : List Nat) (free : Nat), (∀ i ∈ l, free ≤ i) →
    (forIn l ((#[] : Array Nat), free) (StrLaws.occBody s sub hi 1)).run.fst.toList = (l.find? fun i => decide (i + sub.length ≤ hi) && subAt s sub i).toList
  | [], _, _ => rfl
  | a :: l, free, hf => by
    rw [List.forIn_cons, List.find?_cons]
    unfold StrLaws.occBody
    by_cases hc : a + sub.length ≤ hi ∧ subAt s sub a = true
    · rw [if_pos ⟨⟨⟨by simp, hf a (List.mem_cons_self ..)⟩, hc.1⟩, hc.2⟩, decide_eq_true hc.1, hc.2]
      have := occ_stay s sub hi l ((#[] : Array Nat).push a, a + sub.length) (by simp)
      show (forIn l ((#[] : Array Nat).push a, a + sub.length) (StrLaws.occBody s sub hi 1)).run.fst.toList = _
      rw [this]
      rfl
    · rw [if_neg (fun h => hc ⟨h.1.2, h.2⟩)]
      have e : (decide (a + sub.length ≤ hi) && subAt s sub a) = false := by
        rw [Bool.eq_false_iff]
        intro h
        rw [Bool.and_eq_true, decide_eq_true_eq] at h
        exact hc h
      rw [e]
      exact occ_find s sub hi l free fun i h => hf i (List.mem_cons_of_mem _ h)
theorem seek_range {X Y : List Nat} : ∀ (k lo : Nat), lo + k = X.length → ((List.range' lo (k + 1)).find? fun i => headsN (X.drop i) Y) = seekN Y (X.drop lo) lo
  | 0, lo, h => by
    rw [List.drop_eq_nil_of_le (by omega)]
    show (List.find? _ [lo]) = _
    rw [List.find?_cons, List.drop_eq_nil_of_le (by omega)]
    cases Y <;> rfl
  | k + 1, lo, h => by
    have lt : lo < X.length := by omega
    rw [List.range'_succ, List.find?_cons, seek_range k (lo + 1) (by omega), List.drop_eq_getElem_cons lt]
    show _ = if headsN _ Y = true then _ else _
    cases headsN (X[lo] :: X.drop (lo + 1)) Y <;> rfl
theorem find_congr' {P R : Nat → Bool} : ∀ {l : List Nat}, (∀ i ∈ l, P i = R i) → l.find? P = l.find? R
  | [], _ => rfl
  | a :: l, h => by
    rw [List.find?_cons, List.find?_cons, h a (List.mem_cons_self ..), find_congr' fun i hi => h i (List.mem_cons_of_mem _ hi)]
theorem occ_seek (x y : Str) {lo : Nat} (h : lo ≤ x.length) : occurrences x y lo x.length 1 = (seekN y.cps.toList (x.cps.toList.drop lo) lo).toList := by
  have hx : x.length = x.cps.toList.length := by simp [Str.length]
  rw [StrLaws.occ_eq, occ_find _ _ _ _ _ (fun i hi => by rw [List.mem_range'] at hi; obtain ⟨a, _, rfl⟩ := hi; omega)]
  rw [find_congr' (R := fun i => headsN (x.cps.toList.drop i) y.cps.toList) (fun i hi => by
    have hy : y.length = y.cps.toList.length := by simp [Str.length]
    have : i ≤ x.cps.toList.length := by rw [List.mem_range'] at hi; obtain ⟨a, q, rfl⟩ := hi; omega
    rw [StrLaws.subAt_eq, hy, hx, hit_is this])]
  have e : x.length + 1 - lo = (x.length - lo) + 1 := by omega
  rw [e, seek_range (x.length - lo) lo (by omega)]
theorem occ_past (x y : Str) {lo : Nat} (h : ¬ lo ≤ x.length) : occurrences x y lo x.length 1 = [] := by
  rw [StrLaws.occ_eq]
  have e : x.length + 1 - lo = 0 := by omega
  rw [e]
  rfl
theorem find3_is (x y : Str) (i : Int) : Txt.find3 x y i = find3N x.cps.toList y.cps.toList i := by
  have hx : x.cps.toList.length = x.length := by simp [Str.length]
  unfold Txt.find3 find3N
  rw [hx]
  by_cases h : fromIndex x.length i ≤ x.length
  · rw [if_pos h, occ_seek x y h]
    cases seekN y.cps.toList (x.cps.toList.drop (fromIndex x.length i)) (fromIndex x.length i) <;> rfl
  · rw [if_neg h, occ_past x y h]
theorem find_is (x y : Str) : Txt.find x y = orNo (seekN y.cps.toList x.cps.toList 0) := by
  unfold Txt.find
  rw [occ_seek x y (Nat.zero_le _), List.drop_zero]
  cases seekN y.cps.toList x.cps.toList 0 <;> rfl
theorem last_range {X Y : List Nat} : ∀ (k lo : Nat) (o : Option Nat), lo + k = X.length → ((List.range' lo (k + 1)).foldl (fun o i => if headsN (X.drop i) Y then some i else o) o) = seekL Y (X.drop lo) lo o
  | 0, lo, o, h => by
    rw [List.drop_eq_nil_of_le (by omega)]
    show (if headsN (X.drop lo) Y then some lo else o) = _
    rw [List.drop_eq_nil_of_le (by omega)]
    cases Y <;> rfl
  | k + 1, lo, o, h => by
    have lt : lo < X.length := by omega
    rw [List.range'_succ, List.foldl_cons, last_range k (lo + 1) _ (by omega), List.drop_eq_getElem_cons lt]
    rfl
theorem last_fold (P : Nat → Prop) [DecidablePred P] : ∀ (l : List Nat) (o : Option Nat), (forIn l o (fun i o => (if P i then pure (ForInStep.yield (some i)) else pure (ForInStep.yield o) : Id (ForInStep (Option Nat))))).run = l.foldl (fun o i => if P i then some i else o) o
  | [], _ => rfl
  | a :: l, o => by
    rw [List.forIn_cons, List.foldl_cons]
    by_cases h : P a
    · rw [if_pos h, if_pos h]; exact last_fold P l _
    · rw [if_neg h, if_neg h]; exact last_fold P l _
theorem last_list (x y : Str) : lastOccurrence x y 0 x.length = (forIn (List.range' 0 (x.length + 1)) none (fun i o => (if i + y.length ≤ x.length ∧ subAt x y i = true then pure (ForInStep.yield (some i)) else pure (ForInStep.yield o) : Id (ForInStep (Option Nat))))).run := by
  unfold lastOccurrence
  simp
theorem foldl_congr' {f g : Option Nat → Nat → Option Nat} : ∀ {l : List Nat} {o : Option Nat}, (∀ i ∈ l, ∀ o, f o i = g o i) → l.foldl f o = l.foldl g o
  | [], _, _ => rfl
  | a :: l, o, h => by
    rw [List.foldl_cons, List.foldl_cons, h a (List.mem_cons_self ..), foldl_congr' fun i hi => h i (List.mem_cons_of_mem _ hi)]
theorem rfind_is (x y : Str) : Txt.rfind x y = rfindN x.cps.toList y.cps.toList := by
  have hx : x.length = x.cps.toList.length := by simp [Str.length]
  have hy : y.length = y.cps.toList.length := by simp [Str.length]
  unfold Txt.rfind rfindN
  rw [last_list, last_fold, foldl_congr' (g := fun o i => if headsN (x.cps.toList.drop i) y.cps.toList then some i else o) (fun i hi o => by
    have : i ≤ x.cps.toList.length := by rw [List.mem_range'] at hi; obtain ⟨a, q, rfl⟩ := hi; omega
    rw [← hit_is this, StrLaws.subAt_eq, ← hy, ← hx]
    simp), last_range x.length 0 none (by omega), List.drop_zero]
  cases seekL y.cps.toList x.cps.toList 0 none <;> rfl
end Mine

end PXF
section PXR1
open PySem PySem.Spec PySem.Calls PySem.W PyProof.Rows
namespace Mine
local macro_rules | `(tactic| walk_at "own_enter") => `(tactic| (k_dflt (refine' enter_own ?k1 ?k2 ?k3 ?k5 ?kA ?kF ?kK ?k6 ?k7 ?k8 ?k9 ?kB ?_ ?c2 ?c3 ?c4 ?c5; (case kA => exact rfl); (case kF => exact rfl); (case kK => assumption); (case k1 => k_asm); (case k2 => k_asm); (case k3 => k_asm); (case k5 => k_asm); (case k6 => k_is); (case k7 => k_is); (case k8 => ktr_room); (case k9 => exact BindsTo.of_eq rfl); (case c5 => decide); (case kB => exact locs rfl); (case c2 => exact rfl); (case c3 => exact rfl); (case c4 => exact rfl); k_whole; intro L' h' F' N' B' X' T'; (try dsimp only); (try k_lift B'); (try k_fold))))
local macro_rules | `(tactic| walk_at "fill") => `(tactic| ((have _ff : PySem.Challenge.rw_xe0046_01 = PySem.Challenge.rw_xe0046_01 ∧ hd.heap_39 = hd.heap_39 := by (k_fill; exact ⟨rfl, rfl⟩)); clear _ff))
set_option maxRecDepth 100000
theorem ints_of_all : ∀ (vs : List Value), (∀ v ∈ vs, ∃ n t, v = Value.int n t) → ∃ ns, IntsAre vs ns
  | [], _ => ⟨_, .nil⟩
  | v :: r, h => by
    obtain ⟨n, t, rfl⟩ := h v (.head _)
    obtain ⟨ns, hn⟩ := ints_of_all r fun u hu => h u (.tail _ hu)
    exact ⟨_, .cons n t hn⟩
theorem picks_ints {vs : List Value} {ns : List Int} (hi : IntsAre vs ns) (lo hi' st : Option Int) : ∃ ms, IntsAre (slicePick vs.toArray lo hi' st).toList ms := by
  refine ints_of_all _ fun v hv => ?_
  unfold slicePick at hv
  rw [List.toList_toArray] at hv
  obtain ⟨i, _, e⟩ := List.mem_filterMap.mp hv
  obtain ⟨n, t, h, _⟩ := hi.at i v (by simpa using e)
  exact ⟨n, t, h⟩
section
variable {prog : Program} {w : World} {A : Around} {E : Value → Shared → Prop} {s : Shared} {h₀ : Heap} {L l : Addr} {m : Str → Option Value} {news news' : List (Addr × Obj)} {value slice : PySem.Expr} {vs : List Value} {ns : List Int} {vl vu vk : Value} {lo hi st : Option Int} {Q : Value → Shared → Prop}
theorem slice3_ints {ops : List Value} (F : Fr h₀ L s.heap m) (N : News h₀ L s.heap news) (hl : s.heap.IsList l vs.toArray) (pl : IsPart vl lo) (pu : IsPart vu hi) (pk : IsPart vk st) (h0 : st ≠ some 0) (hn : IntsAre vs ns) (hz : ns.length ≤ sizeLine)
    (h : ∀ D ws ms h', Fr h₀ L h' m → News h₀ L h' ((D, listOf (List.toArray ws) 0) :: news) → (∀ p ∈ news, p.1 < D) → IntsAre ws ms → Q (.ref D) { s with heap := h' })
    (hs : subscripted slice false (.ref l) (.ref s.heap.objs.size) = operate ops (getItem (.ref l) (.ref s.heap.objs.size))) (ht : ∀ r, letTemporaryGo value (.ref l) r = pure ()) :
    wpAny (model prog w) A (subscriptTail value slice (.ref l) (.ref s.heap.objs.size)) Q E { s with heap := s.heap.push { cls := .type "slice", data := .fields #[vl, vu, vk] } } := by
  obtain ⟨ms, hm⟩ := picks_ints hn lo hi st
  refine kmk_slice3_lit F N hl pl pu pk h0 rfl (fun D h' F' N' lt => h D _ ms h' F' N' lt hm) hs ht ?_
  rw [List.size_toArray, hn.length]; exact hz

theorem insN_length {α : Type} (l : List α) (x : Nat) (y : α) : (insN l x y).length = l.length + 1 := by
  unfold insN; simp only [List.length_append, List.length_cons, List.length_take, List.length_drop]; omega
theorem strsAre_values : ∀ l : List (Str × Tok), StrsAre (strValues l) (l.map (·.1))
  | [] => .nil
  | p :: r => .cons p.1 p.2 (strsAre_values r)
theorem sum_le_of : ∀ (l : List Str) (k : Nat), (∀ y ∈ l, y.length ≤ k) → (l.map (·.length)).sum ≤ l.length * k
  | [], _, _ => by simp
  | y :: r, k, h => by
    have h1 := h y (.head _)
    have h2 := sum_le_of r k fun z hz => h z (.tail _ hz)
    simp only [List.map_cons, List.sum_cons, List.length_cons, Nat.add_mul]
    omega
theorem join_strs {x : Str} {t : Tok} {its : Array Value} {l : List (Str × Tok)} {ys : List Str} {D : Addr} {n : Nat} (N : News h₀ L s.heap news) (hm : (D, listOf its n) ∈ news) (e : its = (strValues l).toArray) (ey : l.map (·.1) = ys) (hx : x.length ≤ 16) (hl : ys.length ≤ 100) (hy : ∀ y ∈ ys, y.length ≤ 100)
    (h : ∀ t' k, Q (.str (Txt.join x ys) t') { s with toks := k }) : wpAny (model prog w) A (call (.builtin "str.join") [.str x t, .ref D]) Q E s := by
  subst e ey
  refine join_listW (News.isList N hm) (by rw [List.toList_toArray]; exact strsAre_values l) hx ?_ h
  have h1 := sum_le_of _ _ hy
  have h2 : (l.map (·.1)).length * 100 ≤ 10000 := by omega
  omega
theorem insert_strs {x : Int} {u : Tok} {y : Str} {t : Tok} {its : Array Value} {l : List (Str × Tok)} {D : Addr} {n : Nat} (F : Fr h₀ L s.heap m) (N : News h₀ L s.heap news) (e : its = (strValues l).toArray) (h0 : 0 ≤ x) (hx : x ≤ (l.length : Int)) (hz : l.length ≤ 100)
    (U : Upd D (listOf its n) (listOf (strValues (insN l x.toNat (y, t))).toArray (n + 1)) news news') (h : ∀ h', Fr h₀ L h' m → News h₀ L h' news' → Q .none { s with heap := h' }) :
    wpAny (model prog w) A (call (.builtin "list.insert") [.ref D, .int x u, .str y t]) Q E s := by
  subst e
  refine kl_insert (l := strValues (insN l x.toNat (y, t))) F N ?_ ?_ U ?_ h
  · unfold Builtin.List.listFitsIndex
    simp only [Bool.and_eq_true, decide_eq_true_eq]
    constructor <;> omega
  · unfold kl_ins insN strValues
    rw [if_neg (by omega), List.toList_toArray, List.length_map, Nat.min_eq_left (by omega)]
    simp [List.map_take, List.map_drop]
  · rw [List.toList_toArray]; unfold strValues; rw [List.length_map]; exact Nat.le_trans hz (by rw [sizeLine_eq]; decide)
theorem fmod_in (a : Int) {k : Int} (hk : 0 < k) {n : Nat} (hn : k ≤ (n : Int) + 1) : a.fmod k ≤ (n : Int) := by
  have := Int.fmod_lt_of_pos a hk; omega
theorem strs_one (a : Str) (t : Tok) : (#[.str a t] : Array Value) = (strValues [(a, t)]).toArray := rfl
end
local macro_rules | `(tactic| walk_at "subscriptTail Name Slice ref ref") => `(tactic| (k_here; (with_reducible show wpAny _ _ (subscriptTail _ (PySem.Expr.Slice _ _ (some _) _) (Value.ref _) (Value.ref _)) _ _ _); k_dflt (refine' slice3_ints ?F ?N ?l ?p ?q ?k ?o ?i ?z ?_ ?s ?t; (case F => k_asm); (case N => k_asm); (case l => kmk_list); (case p => kmk_part); (case q => kmk_part); (case k => kmk_part); (case o => decide); (case i => l_ints); (case z => (rw [sizeLine_eq]; omega)); (case s => with_unfolding_all rfl); (case t => kmk_pure)); intro D' ws' ms' h' F' N' l1 hI'; (try k_lt l1); (try k_sweep)))
local macro_rules | `(tactic| walk_at "callWith builtin:list.insert cons nil") => `(tactic| (refine' callWith_method1 ?_ ?he ?hp; (case he => exact rfl); (case hp => exact rfl)))
local macro_rules | `(tactic| walk_at "call builtin:list.insert") => `(tactic| (k_here; k_dflt (refine' insert_strs ?F ?N ?e ?a ?b ?c ?U ?_; (case F => k_asm); (case N => k_asm); rotate_left 4; (case U => k_upd); (case e => first | exact strs_one _ _ | exact rfl); (case a => exact Int.fmod_nonneg_of_pos _ (by decide)); (case b => refine fmod_in _ (by decide) ?_; simp only [insN_length, List.length_cons, List.length_nil]; decide); (case c => simp only [insN_length, List.length_cons, List.length_nil]; decide)); intro h' F' N'; (try k_sweep)))
theorem row_is {x0 x1 x2 x3 : Nat} {t0 t1 t2 t3 t4 : Tok} : (insN (insN (insN (insN [(Str.ofString "a", t0)] x0 (Txt.item (Str.ofString "bcde") (0 + ((0 : Nat) : Int)), t1)) x1 (Txt.item (Str.ofString "bcde") (0 + ((1 : Nat) : Int)), t2)) x2 (Txt.item (Str.ofString "bcde") (0 + ((2 : Nat) : Int)), t3)) x3 (Txt.item (Str.ofString "bcde") (0 + ((3 : Nat) : Int)), t4)).map (·.1) = (permOf x0 x1 x2 x3).map sg := by
  unfold permOf
  simp only [insN_map]
  rfl
theorem fmod_lt (a : Int) {k : Int} {n : Nat} (hk : k = (n : Int)) (h0 : 0 < n) : (a.fmod k).toNat < n := by
  subst hk
  have h1 := Int.fmod_lt_of_pos a (b := (n : Int)) (by omega)
  have h2 := Int.fmod_nonneg_of_pos a (b := (n : Int)) (by omega)
  omega
theorem perm_len {p : List Nat} (hp : IsPerm p) : (p.map sg).length ≤ 100 ∧ ∀ y ∈ p.map sg, y.length ≤ 100 := by
  constructor
  · exact perm_all (P := fun p => (p.map sg).length ≤ 100) (by decide +kernel) hp
  · intro y hy
    obtain ⟨c, _, rfl⟩ := List.mem_map.mp hy
    show 1 ≤ 100
    omega
theorem row_end {g h' : Heap} {L : Addr} {m : Str → Option Value} {Q : Value → Shared → Prop} {p : List Nat} {t : Tok} {s : Shared} {tk : Nat} (F : Fr g L h' m) (ret : ∀ p, IsPerm p → ∀ t h' tk', g.StaysIn h' → Q (.str (tx p) t) { s with heap := h', toks := tk' }) (hp : IsPerm p) :
    LeaveP g Q (.str (Txt.join (Str.ofString "") (p.map sg)) t) { s with heap := h', toks := tk } := ⟨F.keep, by rw [join_perm hp]; exact ret p hp _ _ _ F.keep⟩
local macro_rules | `(tactic| walk_at "call builtin:str.join") => `(tactic| (k_here; k_dflt (refine' join_strs ?N ?m ?e ?ey ?x ?a ?b ?_; (case N => k_asm); (case m => k_mem); (case e => exact rfl); (case ey => exact row_is); (case x => decide); (case a => exact (perm_len ⟨_, _, _, _, fmod_lt _ rfl (by decide), fmod_lt _ rfl (by decide), fmod_lt _ rfl (by decide), fmod_lt _ rfl (by decide), rfl⟩).1); (case b => exact (perm_len ⟨_, _, _, _, fmod_lt _ rfl (by decide), fmod_lt _ rfl (by decide), fmod_lt _ rfl (by decide), fmod_lt _ rfl (by decide), rfl⟩).2)); intro t' k'))
set_option maxHeartbeats 8000000 in
theorem row_call {w : World} {mean : ExcName → Option Value} {mg mb : Str → Option Value} {l : Addr} {vs : List Value} {ns : List Int} (hi : IntsAre vs ns) (hlen : ns.length ≤ 63)
    {dp un : Nat} {gd : Option (List Code)} {cn : Str} {cs : Scope} {ca : Addr} {ccd : Value} {cl : List (Str × Addr)} {outer : List Env} {A₀ : Around} {base h₀ : Heap} {L : Addr} {m : Str → Option Value} {s : Shared} {Q E : Value → Shared → Prop}
    (hl : base.IsList l vs.toArray)
    (B : Below A₀ base outer h₀) (F : Fr h₀ L s.heap m) (X : (hd.heap_39 w.params).In h₀) (T : TopX mean mg mb h₀) (hk : cs.kind = .function) (hdp : dp + 1 < recursionLimit) (hun : un + 8 < cLine)
    (ret : ∀ p, IsPerm p → ∀ t h' tk', s.heap.StaysIn h' → Q (.str (tx p) t) { s with heap := h', toks := tk' }) :
    wpAny (model lawProg w) (ktrTop dp un gd cn cs L ca ccd cl outer) (call (.ref 144) [.ref l]) Q E s := by
  walk_at "fill"
  walk_at "own_enter"
  k_steps
  all_goals exact row_end (by assumption) ret ⟨_, _, _, _, fmod_lt _ rfl (by decide), fmod_lt _ rfl (by decide), fmod_lt _ rfl (by decide), fmod_lt _ rfl (by decide), rfl⟩
end Mine

end PXR1
section PXLoop
open PySem PySem.Spec PySem.Calls PySem.W PyProof.Rows
namespace Mine
/-- a turn's end under an invariant over the frame's map and the ledger; the iterator's object ahead of the ledger -/
def EndJ (h₀ : Heap) (L : Addr) (io : Addr × Obj) (J : (Str → Option Value) → List (Addr × Obj) → Prop) (s₁ s₂ : Shared) : Prop :=
  ∃ h' tk m' nx, s₂ = { s₁ with heap := h', toks := tk } ∧ Fr h₀ L h' m' ∧ News h₀ L h' (io :: nx) ∧ (∀ p ∈ nx, p.1 ≠ io.1) ∧ J m' nx
def TurnJ (h₀ : Heap) (L : Addr) (io : Addr × Obj) (J : (Str → Option Value) → List (Addr × Obj) → Prop) (s₁ : Shared) (Q : Flow → Shared → Prop) (f : Flow) (s₂ : Shared) : Prop :=
  match f with
  | .ret v => Q (.ret v) s₂
  | .brk => Q .next s₂
  | _ => EndJ h₀ L io J s₁ s₂
theorem EndJ.intro {h₀ h' : Heap} {L : Addr} {io : Addr × Obj} {J : (Str → Option Value) → List (Addr × Obj) → Prop} {s₁ : Shared} {tk : Nat} {m' : Str → Option Value} {news' nx : List (Addr × Obj)} (F : Fr h₀ L h' m') (N : News h₀ L h' news') (hi : io ∈ news') (hn : ∀ p ∈ nx, p ∈ news') (ho : ∀ p ∈ nx, p.1 ≠ io.1) (hj : J m' nx) :
    EndJ h₀ L io J s₁ { s₁ with heap := h', toks := tk } :=
  ⟨h', tk, m', nx, rfl, F, fun p hp => N p ((List.mem_cons.mp hp).elim (fun e => e ▸ hi) (hn p)), ho, hj⟩
section
variable {prog : Program} {w : World} {A : Around} {E : Value → Shared → Prop} {s : Shared} {env : Env} {h₀ : Heap} {x : Str} {body : List Stmt} {Q : Flow → Shared → Prop}

theorem loop_J {I : Addr} {fp : List Addr} {n : Nat} {P : Nat → Value → Prop} {St : Nat → Heap → Prop} {m₀ : Str → Option Value} {news kept : List (Addr × Obj)} (J : Nat → (Str → Option Value) → List (Addr × Obj) → Prop)
    (W : Walks prog w A I fp [I] n P St) (hfp : ∀ b ∈ fp, b = I ∨ (∃ q, h₀.get? b = some q) ∨ ∃ o, (b, o) ∈ kept) (hI0 : h₀.get? I = none) (hob : ∀ i h, St i h → ∃ o, h.get? I = some o)
    (hLf : env.locals ∉ fp) (hnw : ∀ p ∈ news, p.1 ≠ I) (hst : St 0 s.heap) (F : Fr h₀ env.locals s.heap m₀) (N : News h₀ env.locals s.heap news)
    (hk : ∀ i m nx, J i m nx → ∀ p ∈ kept, p ∈ nx) (hj : J 0 m₀ news)
    (turn : ∀ i v m₁ nx h tk o, i < n → P i v → J i m₁ nx → (∀ p ∈ nx, p.1 ≠ I) → Fr h₀ env.locals h (fun y => if y = x then some v else m₁ y) → News h₀ env.locals h ((I, o) :: nx) →
      wpAny (model prog w) A (execs body env) (TurnJ h₀ env.locals (I, o) (J (i + 1)) { s with heap := h, toks := tk } Q) E { s with heap := h, toks := tk })
    (done : ∀ m₁ nx h tk, J n m₁ nx → Fr h₀ env.locals h m₁ → News h₀ env.locals h nx → Q .next { s with heap := h, toks := tk }) :
    LoopAtV prog w A h₀ env x body Q E (.ref I) s := by
  have hIf : I ∈ fp := W.sub I (List.mem_singleton.mpr rfl)
  refine ⟨I, fp, [I], n, P, St, m₀, news, J, rfl, W, hLf, fun b hb => by rw [List.mem_singleton.mp hb]; exact hI0, fun p hp hq => hnw p hp (List.mem_singleton.mp hq), hst, F, N, hj, ?_, ?_⟩
  · rintro i v m₁ nx s₁ own ⟨hh', tk', rfl⟩ hin hP hJ hoff hown hown2 hall hst' F₁ N₁
    obtain ⟨o, ho⟩ := hob _ _ hst'
    have hio : (I, o) ∈ own := hall I hIf hI0 o ho
    have hnI : ∀ p ∈ nx, p.1 ≠ I := fun p hp q => hoff p hp (List.mem_singleton.mpr q)
    have each : ∀ p ∈ own, p = (I, o) ∨ p ∈ kept := by
      intro p hp
      have h3 := N₁ p (List.mem_append_left _ hp)
      rcases hfp p.1 (hown p hp) with e1 | ⟨q, hq⟩ | ⟨q, hq⟩
      · left
        have h4 := h3.1
        rw [e1] at h4
        exact Prod.ext e1 (Option.some.inj (ho.symm.trans h4)).symm
      · have h5 := h3.2.2
        rw [hq] at h5
        cases h5
      · right
        have h6 := (N₁ (p.1, q) (List.mem_append_right _ (hk _ _ _ hJ _ hq))).1
        have e2 : p.2 = q := Option.some.inj (h3.1.symm.trans h6)
        have e3 : p = (p.1, q) := Prod.ext rfl e2
        rw [e3]; exact hq
    have N₂ : News h₀ env.locals hh' ((I, o) :: nx) := fun p hp => N₁ p ((List.mem_cons.mp hp).elim (fun e => e ▸ List.mem_append_left _ hio) (List.mem_append_right _))
    refine wpAny_mono (turn i v m₁ nx hh' tk' o hin hP hJ hnI F₁ N₂) (fun f s₂ z => ?_) fun _ _ e => e
    have fin : EndJ h₀ env.locals (I, o) (J (i + 1)) { s with heap := hh', toks := tk' } s₂ → LoopStepU h₀ env.locals [I] own (J (i + 1)) { s with heap := hh', toks := tk' } .next s₂ := by
      rintro ⟨h', tk, m', nx', e, F', N', hn, hm⟩
      refine ⟨rfl, h', tk, m', nx', e, F', fun p hp => ?_, fun p hp hq => hn p hp (List.mem_singleton.mp hq), hm⟩
      rcases List.mem_append.mp hp with hp | hp
      · rcases each p hp with e | hq
        · rw [e]; exact N' _ (.head _)
        · exact N' p (.tail _ (hk _ _ _ hm _ hq))
      · exact N' p (.tail _ hp)
    cases f with
    | ret v => exact .ret z
    | brk => exact .brk z
    | next => exact .next (fin z)
    | cont => exact .cont (fin z)
  · rintro h' tk m' nx F' N' _ hJ
    exact done m' nx h' tk hJ F' N'

theorem pyIter_strO {xt : Str} {t : Tok} {Q : Value → Shared → Prop}
    (hQ : ∀ (o : Obj) (St : Nat → Heap → Prop), (∀ A' : Around, A'.handled = none → Walks prog w A' s.heap.objs.size [s.heap.objs.size] [s.heap.objs.size] xt.cps.size (SignAt xt) St) → (∀ i h, St i h → ∃ o, h.get? s.heap.objs.size = some o) → St 0 (s.heap.push o) →
      Q (.ref s.heap.objs.size) { s with heap := s.heap.push o }) : wpAny (model prog w) A (pyIter (.str xt t)) Q E s := by
  cases ha : xt.cps.all (· < 128)
  · exact wpAny_pyIter_wide ha (hQ _ _ (fun A' hA => Walks.strWide hA _ xt t) (fun _ _ st => let ⟨o, ho, _⟩ := st; ⟨o, ho⟩) ⟨_, Heap.get?_push_size _ rfl, rfl, rfl⟩)
  · exact wpAny_pyIter_ascii ha (hQ _ _ (fun A' hA => Walks.strAscii hA _ xt t) (fun _ _ st => let ⟨o, ho, _⟩ := st; ⟨o, ho⟩) ⟨_, Heap.get?_push_size _ rfl, rfl, rfl⟩)
theorem off_new {news : List (Addr × Obj)} {L : Addr} (N : News h₀ L s.heap news) : ∀ p ∈ news, p.1 ≠ s.heap.objs.size := fun p hp hI => absurd (Heap.lt_size (N p hp).1) (hI ▸ Nat.lt_irrefl _)
theorem news_pushed {news : List (Addr × Obj)} {L : Addr} (N : News h₀ L s.heap news) (o : Obj) : News h₀ L (s.heap.push o) news := fun p hp => ⟨Heap.get?_push_of_some _ (N p hp).1, (N p hp).2⟩

theorem iter_textJ {xt : Str} {tt : Tok} {m₀ : Str → Option Value} {news : List (Addr × Obj)} (J : Nat → (Str → Option Value) → List (Addr × Obj) → Prop)
    (hh : A.handled = none) (F : Fr h₀ env.locals s.heap m₀) (N : News h₀ env.locals s.heap news) (hj : J 0 m₀ news)
    (turn : ∀ i c t m₁ nx h tk I o, xt.cps[i]? = some c → J i m₁ nx → (∀ p ∈ nx, p.1 ≠ I) → Fr h₀ env.locals h (fun y => if y = x then some (.str ⟨#[c]⟩ t) else m₁ y) → News h₀ env.locals h ((I, o) :: nx) →
      wpAny (model prog w) A (execs body env) (TurnJ h₀ env.locals (I, o) (J (i + 1)) { s with heap := h, toks := tk } Q) E { s with heap := h, toks := tk })
    (done : ∀ m₁ nx h tk, J xt.cps.size m₁ nx → Fr h₀ env.locals h m₁ → News h₀ env.locals h nx → Q .next { s with heap := h, toks := tk }) :
    wpAny (model prog w) A (pyIter (.str xt tt)) (fun it s₂ => LoopAtV prog w A h₀ env x body Q E it s₂) E s := by
  refine pyIter_strO fun o St hW hob hst => ?_
  refine loop_J (kept := []) J (hW A hh) (fun b hb => .inl (List.mem_singleton.mp hb)) (next_is_new F) hob ?_ (off_new N) hst (F.push _) (news_pushed N _) (fun _ _ _ _ p hp => nomatch hp) hj ?_ done
  · intro hm
    exact absurd F.ns.lt ((List.mem_singleton.mp hm) ▸ Nat.lt_irrefl _)
  · rintro i v m₁ nx h tk o hi ⟨c, u, hc, rfl⟩ hJ hn F₁ N₁
    exact turn i c u m₁ nx h tk _ o hc hJ hn F₁ N₁

theorem iter_rangeJ {r : Addr} {a₀ b₀ : Int} {t₀ u₀ v₀ : Tok} {n : Nat} {m₀ : Str → Option Value} {news : List (Addr × Obj)} (J : Nat → (Str → Option Value) → List (Addr × Obj) → Prop)
    (hh : A.handled = none) (hr : IsRange s.heap r a₀ b₀ 1 t₀ u₀ v₀) (hsmall : Builtin.Range.small a₀ b₀ 1 = true) (hn : Builtin.Range.rangeSize a₀ b₀ 1 = (n : Int)) (F : Fr h₀ env.locals s.heap m₀) (N : News h₀ env.locals s.heap news) (hj : J 0 m₀ news)
    (turn : ∀ i t m₁ nx h tk I o, i < n → J i m₁ nx → (∀ p ∈ nx, p.1 ≠ I) → Fr h₀ env.locals h (fun y => if y = x then some (.int (a₀ + (i : Int)) t) else m₁ y) → News h₀ env.locals h ((I, o) :: nx) →
      wpAny (model prog w) A (execs body env) (TurnJ h₀ env.locals (I, o) (J (i + 1)) { s with heap := h, toks := tk } Q) E { s with heap := h, toks := tk })
    (done : ∀ m₁ nx h tk, J n m₁ nx → Fr h₀ env.locals h m₁ → News h₀ env.locals h nx → Q .next { s with heap := h, toks := tk }) :
    wpAny (model prog w) A (pyIter (.ref r)) (fun it s₂ => LoopAtV prog w A h₀ env x body Q E it s₂) E s := by
  refine wpAny_pyIter_range hr hsmall ?_
  have W : Walks prog w A s.heap.objs.size [s.heap.objs.size] [s.heap.objs.size] n (fun i v => i < n ∧ ∃ t, v = .int (a₀ + i * 1) t)
      (fun i h => IsRangeIter h s.heap.objs.size (a₀ + (i : Nat) * 1) ((n : Int) - (i : Nat)) 1) := (Walks.range hh _ a₀ 1 n).bound
  refine loop_J (kept := []) J W (fun b hb => .inl (List.mem_singleton.mp hb)) (next_is_new F) (fun i h st => ⟨_, st⟩) ?_ (off_new N) (by show IsRangeIter _ _ _ _ _; rw [hn]; simpa using Heap.get?_push_size _ rfl) (F.push _) (news_pushed N _) (fun _ _ _ _ p hp => nomatch hp) hj ?_ done
  · intro hm
    exact absurd F.ns.lt ((List.mem_singleton.mp hm) ▸ Nat.lt_irrefl _)
  · rintro i v m₁ nx h tk o hi ⟨_, t, rfl⟩ hJ hn F₁ N₁
    rw [Int.mul_one] at F₁
    exact turn i t m₁ nx h tk _ o hi hJ hn F₁ N₁

theorem iter_listJ {l : Addr} {vs : List Value} {ep : Nat} {m₀ : Str → Option Value} {news : List (Addr × Obj)} (J : Nat → (Str → Option Value) → List (Addr × Obj) → Prop)
    (hh : A.handled = none) (hl : (l, listOf vs.toArray ep) ∈ news) (F : Fr h₀ env.locals s.heap m₀) (N : News h₀ env.locals s.heap news) (hk : ∀ i m nx, J i m nx → (l, listOf vs.toArray ep) ∈ nx) (hj : J 0 m₀ news)
    (turn : ∀ i v m₁ nx h tk I o, vs[i]? = some v → J i m₁ nx → (∀ p ∈ nx, p.1 ≠ I) → Fr h₀ env.locals h (fun y => if y = x then some v else m₁ y) → News h₀ env.locals h ((I, o) :: nx) →
      wpAny (model prog w) A (execs body env) (TurnJ h₀ env.locals (I, o) (J (i + 1)) { s with heap := h, toks := tk } Q) E { s with heap := h, toks := tk })
    (done : ∀ m₁ nx h tk, J vs.length m₁ nx → Fr h₀ env.locals h m₁ → News h₀ env.locals h nx → Q .next { s with heap := h, toks := tk }) :
    wpAny (model prog w) A (pyIter (.ref l)) (fun it s₂ => LoopAtV prog w A h₀ env x body Q E it s₂) E s := by
  have hls : s.heap.IsList l vs.toArray := News.isList N hl
  have hlt : l < s.heap.objs.size := Heap.lt_size (N _ hl).1
  refine wpAny_pyIter_list hls ?_
  have W := Walks.list (prog := prog) (w := w) hh s.heap.objs.size l (Nat.ne_of_lt hlt) vs.toArray
  rw [List.size_toArray] at W
  refine loop_J (kept := [(l, listOf vs.toArray ep)]) J W ?_ (next_is_new F) (fun i h st => let ⟨⟨o, ho, _⟩, _⟩ := st; ⟨o, ho⟩) ?_ (off_new N) ⟨⟨_, Heap.get?_push_size _ rfl, rfl, rfl⟩, hls.at fun o e => Heap.get?_push_of_some _ e⟩ (F.push _) (news_pushed N _) (fun i m nx hJ p hp => (List.mem_singleton.mp hp) ▸ hk i m nx hJ) hj ?_ done
  · intro b hb
    rcases List.mem_cons.mp hb with e | hb
    · exact .inl e
    · cases List.mem_singleton.mp hb
      exact .inr (.inr ⟨_, List.mem_singleton.mpr rfl⟩)
  · intro hm
    rcases List.mem_cons.mp hm with e | hm
    · exact absurd F.ns.lt (e ▸ Nat.lt_irrefl _)
    · exact (N _ hl).2.1 (List.mem_singleton.mp hm).symm
  · intro i v m₁ nx h tk o hi hP hJ hn F₁ N₁
    exact turn i v m₁ nx h tk _ o (by simpa using hP) hJ hn F₁ N₁
end

/-- what the frame's map is known to hold -/
def Known (m : Str → Option Value) : List (Str × Value) → Prop
  | [] => True
  | p :: r => m p.1 = some p.2 ∧ Known m r
def frm (u : Str → Option Value) : List (Str × Value) → Str → Option Value
  | [] => u
  | p :: r => fun y => if y = p.1 then some p.2 else frm u r y
theorem frm_eq {m : Str → Option Value} : ∀ {l : List (Str × Value)}, Known m l → frm m l = m
  | [], _ => rfl
  | p :: r, ⟨h, hr⟩ => by
    funext y
    show (if y = p.1 then some p.2 else frm m r y) = m y
    rw [frm_eq hr]
    by_cases e : y = p.1
    · rw [if_pos e, e, h]
    · rw [if_neg e]
theorem fr_known {h₀ h : Heap} {L : Addr} {m : Str → Option Value} {l : List (Str × Value)} (F : Fr h₀ L h m) (k : Known m l) : Fr h₀ L h (frm m l) := by rw [frm_eq k]; exact F
theorem fr_known1 {h₀ h : Heap} {L : Addr} {m : Str → Option Value} {l : List (Str × Value)} {x : Str} {v : Option Value} (F : Fr h₀ L h (fun y => if y = x then v else m y)) (k : Known m l) : Fr h₀ L h (fun y => if y = x then v else frm m l y) := by rw [frm_eq k]; exact F
end Mine

end PXLoop
section PXW1
open PySem PySem.Spec PySem.Calls PySem.W PyProof.Rows
namespace Mine
local macro_rules | `(tactic| walk_at "own_enter") => `(tactic| (k_dflt (refine' enter_own ?k1 ?k2 ?k3 ?k5 ?kA ?kF ?kK ?k6 ?k7 ?k8 ?k9 ?kB ?_ ?c2 ?c3 ?c4 ?c5; (case kA => exact rfl); (case kF => exact rfl); (case kK => assumption); (case k1 => k_asm); (case k2 => k_asm); (case k3 => k_asm); (case k5 => k_asm); (case k6 => k_is); (case k7 => k_is); (case k8 => ktr_room); (case k9 => exact BindsTo.of_eq rfl); (case c5 => decide); (case kB => exact locs rfl); (case c2 => exact rfl); (case c3 => exact rfl); (case c4 => exact rfl); k_whole; intro L' h' F' N' B' X' T'; (try dsimp only); (try k_lift B'); (try k_fold))))
local macro_rules | `(tactic| walk_at "fill") => `(tactic| ((have _ff : PySem.Challenge.rw_xe0046_01 = PySem.Challenge.rw_xe0046_01 ∧ hd.heap_39 = hd.heap_39 := by (k_fill; exact ⟨rfl, rfl⟩)); clear _ff))
local macro_rules | `(tactic| walk_at "init_enter") => `(tactic| (k_dflt (refine' enter_init ?k1 ?k2 ?k3 ?k5 ?kA ?kF ?kK ?m1 ?m2 ?m3 ?k6 ?k7 ?k8 ?k9 ?kB ?_ ?c2 ?c3 ?c4 ?c5; (case kA => exact rfl); (case kF => exact rfl); (case kK => assumption); (case k1 => k_asm); (case k2 => k_asm); (case k3 => k_asm); (case k5 => k_asm); (case m1 => k_is); (case m2 => k_is); (case m3 => k_is); (case k6 => k_is); (case k7 => k_is); (case k8 => (simp only [depth_under_make]; ktr_room)); (case k9 => intro _ _; exact BindsTo.of_eq rfl); (case c5 => decide); (case kB => intro _; exact locs rfl); (case c2 => exact rfl); (case c3 => exact rfl); (case c4 => exact rfl); k_whole; intro x' dx' L' h' tk' lz' lx' lL' F' N' B' X' T'; k_lt2 lx'; k_lt2 lL'; (try dsimp only); (try k_lift B'); (try k_fold))))
local macro_rules | `(tactic| walk_at "to_loop") => `(tactic| repeat' (first | ((fail_if_success (with_reducible show wpAny _ _ (pyIter _) _ _ _)); first | (k_unfold; (try dsimp only)) | (k_end; wrow_close) | walk1 | (dsimp only; walk1) | (leave1; walk_say "STEP leave1"; try dsimp only) | fail "no step")))
set_option maxRecDepth 100000
def lead (a b : Nat) : Str := ⟨(List.replicate a 9 ++ List.replicate b 32 ++ [120]).toArray⟩
theorem lead_at {a b i c : Nat} (h : (lead a b).cps[i]? = some c) : (i < a ∧ c = 9) ∨ (a ≤ i ∧ i < a + b ∧ c = 32) ∨ (i = a + b ∧ c = 120) := by
  have h' : (List.replicate a 9 ++ List.replicate b 32 ++ [120])[i]? = some c := by simpa [lead] using h
  by_cases h1 : i < a
  · rw [List.append_assoc, List.getElem?_append_left (by simpa using h1), List.getElem?_replicate, if_pos h1] at h'
    exact .inl ⟨h1, (Option.some.inj h').symm⟩
  · by_cases h2 : i < a + b
    · rw [List.getElem?_append_left (by simp; omega), List.getElem?_append_right (by simp; omega), List.getElem?_replicate, if_pos (by simp; omega)] at h'
      exact .inr (.inl ⟨by omega, h2, (Option.some.inj h').symm⟩)
    · rw [List.getElem?_append_right (by simp; omega)] at h'
      have h3 : i = a + b := by
        have := (List.getElem?_eq_some_iff.mp h').1
        simp at this; omega
      subst h3
      simp at h'
      exact .inr (.inr ⟨rfl, h'.symm⟩)
theorem lead_size (a b : Nat) : (lead a b).cps.size = a + b + 1 := by simp [lead]; omega
def initJ (a b : Nat) (D x dx : Addr) (oD ox od : Obj) (i : Nat) (m : Str → Option Value) (nx : List (Addr × Obj)) : Prop :=
  ∃ (c : Addr) (its : Array Value) (tb tn tnt : Tok), nx = [(c, listOf its 0), (D, oD), (x, ox), (dx, od)] ∧
    Known m [(Str.ofString "nt", .int (min i a : Nat) tnt), (Str.ofString "n", .int (i : Int) tn), (Str.ofString "b", .int (i - a : Nat) tb), (Str.ofString "count", .ref c), (Str.ofString "S", .str (Str.ofString " ") 377), (Str.ofString "T", .str (Str.ofString "\t") 378), (Str.ofString "self", .ref x)] ∧
    ((min i a = 0 ∧ its = #[]) ∨ (0 < min i a ∧ ∃ t, its = #[.int (min i a : Nat) t])) ∧ i ≤ a + b ∧ c ≠ D ∧ c ≠ x ∧ c ≠ dx ∧ D ≠ x ∧ D ≠ dx ∧ x ≠ dx
theorem kInt {o : Option Value} {v v' : Int} {t : Tok} (h : o = some (.int v t)) (e : v = v') : o = some (.int v' t) := e ▸ h
theorem kArr {o : Array Value} {v v' : Int} {t : Tok} (h : o = #[.int v t]) (e : v = v') : o = #[.int v' t] := e ▸ h
theorem mem4 {α : Type} {a b c d : α} {l : List α} (h1 : a ∈ l) (h2 : b ∈ l) (h3 : c ∈ l) (h4 : d ∈ l) : ∀ p ∈ [a, b, c, d], p ∈ l := by
  intro p hp
  rcases List.mem_cons.mp hp with rfl | hp; exact h1
  rcases List.mem_cons.mp hp with rfl | hp; exact h2
  rcases List.mem_cons.mp hp with rfl | hp; exact h3
  cases List.mem_singleton.mp hp; exact h4
theorem off4 {a b c d : Addr × Obj} {I : Addr} {o : Obj} (h1 : @Ne Nat a.1 I) (h2 : @Ne Nat b.1 I) (h3 : @Ne Nat c.1 I) (h4 : @Ne Nat d.1 I) : ∀ p ∈ [a, b, c, d], p.1 ≠ ((I, o) : Addr × Obj).1 := by
  intro p hp
  rcases List.mem_cons.mp hp with rfl | hp; exact h1
  rcases List.mem_cons.mp hp with rfl | hp; exact h2
  rcases List.mem_cons.mp hp with rfl | hp; exact h3
  cases List.mem_singleton.mp hp; exact h4
theorem neA {a b : Addr} (h : a ≠ b) : @Ne Nat a b := h
section
variable {prog : Program} {w : World} {A : Around} {E : Value → Shared → Prop} {s : Shared} {env : Env} {h₀ : Heap} {body : List Stmt} {Q : Flow → Shared → Prop} {x : Str}
theorem iter_init {a b : Nat} {tt : Tok} {D z dx c0 : Addr} {oD oz od : Obj} {m₀ : Str → Option Value} (hh : A.handled = none) (F : Fr h₀ env.locals s.heap m₀) (N : News h₀ env.locals s.heap [(c0, listOf #[] 0), (D, oD), (z, oz), (dx, od)])
    (hj : initJ a b D z dx oD oz od 0 m₀ [(c0, listOf #[] 0), (D, oD), (z, oz), (dx, od)])
    (turnT : ∀ (i : Nat) (t : Tok) (m₁ : Str → Option Value) (h : Heap) (tk : Nat) (I : Addr) (o : Obj) (cc : Addr) (its : Array Value) (tb tn tnt : Tok), i < a → ((i = 0 ∧ its = #[]) ∨ (0 < i ∧ ∃ t, its = #[.int (i : Int) t])) →
      @Ne Nat cc D → @Ne Nat cc z → @Ne Nat cc dx → @Ne Nat D z → @Ne Nat D dx → @Ne Nat z dx → @Ne Nat cc I → @Ne Nat D I → @Ne Nat z I → @Ne Nat dx I →
      Fr h₀ env.locals h (fun y => if y = x then some (.str (Str.ofString "\t") t) else if y = Str.ofString "nt" then some (.int (i : Int) tnt) else if y = Str.ofString "n" then some (.int (i : Int) tn) else if y = Str.ofString "b" then some (.int 0 tb)
        else if y = Str.ofString "count" then some (.ref cc) else if y = Str.ofString "S" then some (.str (Str.ofString " ") 377) else if y = Str.ofString "T" then some (.str (Str.ofString "\t") 378) else if y = Str.ofString "self" then some (.ref z) else m₁ y) →
      News h₀ env.locals h [(I, o), (cc, listOf its 0), (D, oD), (z, oz), (dx, od)] →
      wpAny (model prog w) A (execs body env) (TurnJ h₀ env.locals (I, o) (initJ a b D z dx oD oz od (i + 1)) { s with heap := h, toks := tk } Q) E { s with heap := h, toks := tk })
    (turnB : ∀ (i : Nat) (t : Tok) (m₁ : Str → Option Value) (h : Heap) (tk : Nat) (I : Addr) (o : Obj) (cc : Addr) (its : Array Value) (tb tn tnt : Tok), a ≤ i → i < a + b → ((a = 0 ∧ its = #[]) ∨ (0 < a ∧ ∃ t, its = #[.int (a : Int) t])) →
      @Ne Nat cc D → @Ne Nat cc z → @Ne Nat cc dx → @Ne Nat D z → @Ne Nat D dx → @Ne Nat z dx → @Ne Nat cc I → @Ne Nat D I → @Ne Nat z I → @Ne Nat dx I →
      Fr h₀ env.locals h (fun y => if y = x then some (.str (Str.ofString " ") t) else if y = Str.ofString "nt" then some (.int (a : Int) tnt) else if y = Str.ofString "n" then some (.int (i : Int) tn) else if y = Str.ofString "b" then some (.int ((i - a : Nat) : Int) tb)
        else if y = Str.ofString "count" then some (.ref cc) else if y = Str.ofString "S" then some (.str (Str.ofString " ") 377) else if y = Str.ofString "T" then some (.str (Str.ofString "\t") 378) else if y = Str.ofString "self" then some (.ref z) else m₁ y) →
      News h₀ env.locals h [(I, o), (cc, listOf its 0), (D, oD), (z, oz), (dx, od)] →
      wpAny (model prog w) A (execs body env) (TurnJ h₀ env.locals (I, o) (initJ a b D z dx oD oz od (i + 1)) { s with heap := h, toks := tk } Q) E { s with heap := h, toks := tk })
    (turnX : ∀ (t : Tok) (m₁ : Str → Option Value) (h : Heap) (tk : Nat) (I : Addr) (o : Obj) (cc : Addr) (its : Array Value) (tb tn tnt : Tok), ((a = 0 ∧ its = #[]) ∨ (0 < a ∧ ∃ t, its = #[.int (a : Int) t])) →
      @Ne Nat cc D → @Ne Nat cc z → @Ne Nat cc dx → @Ne Nat D z → @Ne Nat D dx → @Ne Nat z dx → @Ne Nat cc I → @Ne Nat D I → @Ne Nat z I → @Ne Nat dx I →
      Fr h₀ env.locals h (fun y => if y = x then some (.str (Str.ofString "x") t) else if y = Str.ofString "nt" then some (.int (a : Int) tnt) else if y = Str.ofString "n" then some (.int ((a + b : Nat) : Int) tn) else if y = Str.ofString "b" then some (.int (b : Int) tb)
        else if y = Str.ofString "count" then some (.ref cc) else if y = Str.ofString "S" then some (.str (Str.ofString " ") 377) else if y = Str.ofString "T" then some (.str (Str.ofString "\t") 378) else if y = Str.ofString "self" then some (.ref z) else m₁ y) →
      News h₀ env.locals h [(I, o), (cc, listOf its 0), (D, oD), (z, oz), (dx, od)] →
      wpAny (model prog w) A (execs body env) (TurnJ h₀ env.locals (I, o) (initJ a b D z dx oD oz od (a + b + 1)) { s with heap := h, toks := tk } Q) E { s with heap := h, toks := tk }) :
    wpAny (model prog w) A (pyIter (.str (lead a b) tt)) (fun it s₂ => LoopAtV prog w A h₀ env x body Q E it s₂) E s := by
  refine iter_textJ (initJ a b D z dx oD oz od) hh F N hj ?_ ?_
  · rintro i ch t m₁ nx h tk I o hc ⟨c, its, tb, tn, tnt, rfl, hm, hits, hle, n1, n2, n3, n4, n5, n6⟩ hI F₁ N₁
    have F₂ := fr_known1 F₁ hm
    rcases lead_at hc with ⟨l1, rfl⟩ | ⟨l1, l2, rfl⟩ | ⟨l1, rfl⟩
    · rw [show min i a = i by omega] at hits F₂
      rw [show i - a = 0 by omega] at F₂
      exact turnT i t m₁ h tk I o c its tb tn tnt l1 hits n1 n2 n3 n4 n5 n6 (hI _ (.head _)) (hI _ (.tail _ (.head _))) (hI _ (.tail _ (.tail _ (.head _)))) (hI _ (.tail _ (.tail _ (.tail _ (.head _))))) F₂ N₁
    · rw [show min i a = a by omega] at hits F₂
      exact turnB i t m₁ h tk I o c its tb tn tnt l1 l2 hits n1 n2 n3 n4 n5 n6 (hI _ (.head _)) (hI _ (.tail _ (.head _))) (hI _ (.tail _ (.tail _ (.head _)))) (hI _ (.tail _ (.tail _ (.tail _ (.head _))))) F₂ N₁
    · subst l1
      rw [show min (a + b) a = a by omega] at hits F₂
      rw [show a + b - a = b by omega] at F₂
      exact turnX t m₁ h tk I o c its tb tn tnt hits n1 n2 n3 n4 n5 n6 (hI _ (.head _)) (hI _ (.tail _ (.head _))) (hI _ (.tail _ (.tail _ (.head _)))) (hI _ (.tail _ (.tail _ (.tail _ (.head _))))) F₂ N₁
  · rintro m₁ nx h tk ⟨c, its, tb, tn, tnt, _, _, _, hle, _⟩
    rw [lead_size] at hle
    omega
end
abbrev wsObj (P : Params) (raw : Value) (n nt : Int) (norm : Addr) (k1 k2 t2 k3 t3 k4 k5 : Tok) : Obj :=
  dictOf [⟨PyData.keyHash P (Str.ofString "raw"), .str (Str.ofString "raw") k1, raw⟩, ⟨PyData.keyHash P (Str.ofString "n"), .str (Str.ofString "n") k2, .int n t2⟩, ⟨PyData.keyHash P (Str.ofString "nt"), .str (Str.ofString "nt") k3, .int nt t3⟩,
    ⟨PyData.keyHash P (Str.ofString "norm"), .str (Str.ofString "norm") k4, .ref norm⟩, ⟨PyData.keyHash P (Str.ofString "is_simple"), .str (Str.ofString "is_simple") k5, .bool true⟩] 5
theorem ws_end {P : Params} {g h' : Heap} {L C x dx : Addr} {m : Str → Option Value} {Q : Value → Shared → Prop} {raw : Value} {n n' nt : Int} {norm : Addr} {k1 k2 t2 k3 t3 k4 k5 : Tok} {s : Shared} {tk : Nat} {news : List (Addr × Obj)} (F : Fr g L h' m) (N : News g L h' news) (hx : (x, instObj C dx) ∈ news) (hd : (dx, wsObj P raw n nt norm k1 k2 t2 k3 t3 k4 k5) ∈ news) (hn : n = n') (hz : g.objs.size ≤ dx) (hl : @LT.lt Nat _ dx x)
    (ret : ∀ x dx norm k1 k2 t2 k3 t3 k4 k5 h' tk', g.StaysIn h' → g.objs.size ≤ dx → @LT.lt Nat _ dx x → h'.get? x = some (instObj C dx) → h'.get? dx = some (wsObj P raw n' nt norm k1 k2 t2 k3 t3 k4 k5) → Q (.ref x) { s with heap := h', toks := tk' }) :
    LeaveP g (fun v s' => v = .none ∧ Q (.ref x) s') .none { s with heap := h', toks := tk } := by
  subst hn
  exact ⟨F.keep, rfl, ret _ _ _ _ _ _ _ _ _ _ _ _ F.keep hz hl (N _ hx).1 (N _ hd).1⟩
set_option maxHeartbeats 8000000 in
theorem ws_call {w : World} {mean : ExcName → Option Value} {mg mb : Str → Option Value} {a b : Nat} (ha : a ≤ 4) (hb : 1 ≤ b) (hb2 : b ≤ 9) {t : Tok}
    {dp un : Nat} {gd : Option (List Code)} {cn : Str} {cs : Scope} {ca : Addr} {ccd : Value} {cl : List (Str × Addr)} {outer : List Env} {A₀ : Around} {base h₀ : Heap} {L : Addr} {m : Str → Option Value} {s : Shared} {Q E : Value → Shared → Prop}
    (B : Below A₀ base outer h₀) (F : Fr h₀ L s.heap m) (X : (hd.heap_39 w.params).In h₀) (T : TopX mean mg mb h₀) (hk : cs.kind = .function) (hdp : dp + 4 < recursionLimit) (hun : un + 12 < cLine)
    (ret : ∀ x dx norm k1 k2 t2 k3 t3 k4 k5 h' tk', s.heap.StaysIn h' → s.heap.objs.size ≤ dx → @LT.lt Nat _ dx x → h'.get? x = some (instObj 133 dx) → h'.get? dx = some (wsObj w.params (.str (lead a b) t) ((a : Int) + (b : Int)) (a : Int) norm k1 k2 t2 k3 t3 k4 k5) → Q (.ref x) { s with heap := h', toks := tk' }) :
    wpAny (model lawProg w) (ktrTop dp un gd cn cs L ca ccd cl outer) (call (.ref 133) [.str (lead a b) t]) Q E s := by
  walk_at "fill"
  walk_at "init_enter"
  walk_at "to_loop"
  with_reducible rename Fr _ _ _ _ => F1
  with_reducible rename News _ _ _ _ => N1
  refine' iter_init rfl F1 N1 ?hj ?turnT ?turnB ?turnX
  case hj =>
    refine ⟨_, _, _, _, _, rfl, ⟨by rw [Nat.zero_min]; rfl, rfl, by rw [Nat.zero_sub]; rfl, rfl, by with_unfolding_all rfl, by with_unfolding_all rfl, by with_unfolding_all rfl, trivial⟩, .inl ⟨by omega, rfl⟩, by omega, ?_⟩
    refine ⟨?_, ?_, ?_, ?_, ?_, ?_⟩ <;> k_ne
  case turnT =>
    clear F1 N1
    intro i t m₁ h tk I o c its tb tn tnt l1 hits n1 n2 n3 n4 n5 n6 q1 q2 q3 q4 F₂ N₂
    rcases hits with ⟨rfl, rfl⟩ | ⟨e1, t, rfl⟩
    · k_steps
      with_reducible rename Fr _ _ _ _ => F9
      with_reducible rename News _ _ _ _ => N9
      refine EndJ.intro (nx := [(_, listOf _ 0), (_, _), (_, _), (_, _)]) F9 N9 (by k_mem) (mem4 (by k_mem) (by k_mem) (by k_mem) (by k_mem)) ?_ ⟨_, _, _, _, _, rfl, ⟨kInt rfl (by omega), kInt rfl (by omega), kInt rfl (by omega), rfl, rfl, rfl, rfl, trivial⟩, .inr ⟨by omega, _, kArr rfl (by first | (show (0 : Int) + 1 = _; omega) | (show (i : Int) + 1 = _; omega))⟩, by omega, ?_⟩
      · exact off4 (by k_ne) (by k_ne) (by k_ne) (by k_ne)
      · refine ⟨?_, ?_, ?_, ?_, ?_, ?_⟩ <;> k_ne
    · k_steps
      with_reducible rename Fr _ _ _ _ => F9
      with_reducible rename News _ _ _ _ => N9
      refine EndJ.intro (nx := [(_, listOf _ 0), (_, _), (_, _), (_, _)]) F9 N9 (by k_mem) (mem4 (by k_mem) (by k_mem) (by k_mem) (by k_mem)) ?_ ⟨_, _, _, _, _, rfl, ⟨kInt rfl (by omega), kInt rfl (by omega), kInt rfl (by omega), rfl, rfl, rfl, rfl, trivial⟩, .inr ⟨by omega, _, kArr rfl (by first | (show (0 : Int) + 1 = _; omega) | (show (i : Int) + 1 = _; omega))⟩, by omega, ?_⟩
      · exact off4 (by k_ne) (by k_ne) (by k_ne) (by k_ne)
      · refine ⟨?_, ?_, ?_, ?_, ?_, ?_⟩ <;> k_ne
  case turnB =>
    clear F1 N1
    intro i t m₁ h tk I o c its tb tn tnt l1 l2 hits n1 n2 n3 n4 n5 n6 q1 q2 q3 q4 F₂ N₂
    k_steps
    with_reducible rename Fr _ _ _ _ => F9
    with_reducible rename News _ _ _ _ => N9
    refine EndJ.intro (nx := [(_, listOf _ 0), (_, _), (_, _), (_, _)]) F9 N9 (by k_mem) (mem4 (by k_mem) (by k_mem) (by k_mem) (by k_mem)) ?_ ⟨_, _, _, _, _, rfl, ⟨kInt rfl (by omega), kInt rfl (by omega), kInt rfl (by omega), rfl, rfl, rfl, rfl, trivial⟩, ?_, by omega, ?_⟩
    · exact off4 (by k_ne) (by k_ne) (by k_ne) (by k_ne)
    · rcases hits with ⟨h1, h2⟩ | ⟨h1, t, h2⟩
      · exact .inl ⟨by omega, h2⟩
      · exact .inr ⟨by omega, t, kArr h2 (by omega)⟩
    · refine ⟨?_, ?_, ?_, ?_, ?_, ?_⟩ <;> k_ne
  case turnX =>
    clear F1 N1
    intro t m₁ h tk I o c its tb tn tnt hits n1 n2 n3 n4 n5 n6 q1 q2 q3 q4 F₂ N₂
    rcases hits with ⟨rfl, rfl⟩ | ⟨e1, t, rfl⟩
    · k_steps
      dsimp only [TurnJ]
      k_steps
      with_reducible rename Fr _ _ _ _ => F9
      with_reducible rename News _ _ _ _ => N9
      exact ws_end F9 N9 (by k_mem) (by k_mem) (by omega) (by assumption) (by assumption) ret
    · k_steps
      dsimp only [TurnJ]
      k_steps
      with_reducible rename Fr _ _ _ _ => F9
      with_reducible rename News _ _ _ _ => N9
      exact ws_end F9 N9 (by k_mem) (by k_mem) (by omega) (by assumption) (by assumption) ret
end Mine

end PXW1
section PXL1
open PySem PySem.Spec PySem.Calls PySem.W PyProof.Rows
namespace Mine
local macro_rules | `(tactic| walk_at "own_enter") => `(tactic| (k_dflt (refine' enter_own ?k1 ?k2 ?k3 ?k5 ?kA ?kF ?kK ?k6 ?k7 ?k8 ?k9 ?kB ?_ ?c2 ?c3 ?c4 ?c5; (case kA => exact rfl); (case kF => exact rfl); (case kK => assumption); (case k1 => k_asm); (case k2 => k_asm); (case k3 => k_asm); (case k5 => k_asm); (case k6 => k_is); (case k7 => k_is); (case k8 => ktr_room); (case k9 => exact BindsTo.of_eq rfl); (case c5 => decide); (case kB => exact locs rfl); (case c2 => exact rfl); (case c3 => exact rfl); (case c4 => exact rfl); k_whole; intro L' h' F' N' B' X' T'; (try dsimp only); (try k_lift B'); (try k_fold))))
local macro_rules | `(tactic| walk_at "fill") => `(tactic| ((have _ff : PySem.Challenge.rw_xe0046_01 = PySem.Challenge.rw_xe0046_01 ∧ hd.heap_39 = hd.heap_39 := by (k_fill; exact ⟨rfl, rfl⟩)); clear _ff))
theorem inst_base {h₀ h : Heap} {L x C dx : Addr} {m : Str → Option Value} {od : Obj} (F : Fr h₀ L h m) (h1 : h₀.get? x = some (instObj C dx)) (h2 : h₀.get? dx = some od) : InstAt h x (instObj C dx) C (some od) :=
  ⟨F.keep _ _ h1, rfl, rfl, F.keep _ _ h2⟩
local macro_rules | `(tactic| k_inst) => `(tactic| (refine' inst_base ?F ?a ?b; (case F => k_asm); (case a => with_reducible assumption); (case b => with_reducible assumption)))
set_option maxRecDepth 100000
def lessF (n nt n' nt' : Int) : Bool := if n' ≤ n then false else decide (nt ≤ nt')
set_option maxHeartbeats 8000000 in
theorem less_call {w : World} {mean : ExcName → Option Value} {mg mb : Str → Option Value} {x y dx dy : Addr} {rx ry : Value} {nx ny ntx nty : Int} {mx my : Addr} {k1 k2 t2 k3 t3 k4 k5 l1 l2 u2 l3 u3 l4 l5 : Tok}
    {dp un : Nat} {gd : Option (List Code)} {cn : Str} {cs : Scope} {ca : Addr} {ccd : Value} {cl : List (Str × Addr)} {outer : List Env} {A₀ : Around} {base h₀ : Heap} {L : Addr} {m : Str → Option Value} {s : Shared} {Q E : Value → Shared → Prop}
    (hx : s.heap.get? x = some (instObj 133 dx)) (hdx : s.heap.get? dx = some (wsObj w.params rx nx ntx mx k1 k2 t2 k3 t3 k4 k5)) (hy : s.heap.get? y = some (instObj 133 dy)) (hdy : s.heap.get? dy = some (wsObj w.params ry ny nty my l1 l2 u2 l3 u3 l4 l5))
    (B : Below A₀ base outer h₀) (F : Fr h₀ L s.heap m) (X : (hd.heap_39 w.params).In h₀) (T : TopX mean mg mb h₀) (hk : cs.kind = .function) (hdp : dp + 1 < recursionLimit) (_hun : un + 8 < cLine)
    (ret : ∀ h' tk', s.heap.StaysIn h' → Q (.bool (lessF nx ntx ny nty)) { s with heap := h', toks := tk' }) :
    wpAny (model lawProg w) (ktrTop dp un gd cn cs L ca ccd cl outer) (call (.ref 123) [.ref x, .ref y]) Q E s := by
  walk_at "fill"
  walk_at "own_enter"
  k_steps
  all_goals exact endB (by assumption) ret (by simp only [lessF, *, if_true, if_false])
end Mine

end PXL1
section PXD1
open PySem PySem.Spec PySem.Calls PySem.W PyProof.Rows
namespace Mine
local macro_rules | `(tactic| walk_at "own_enter") => `(tactic| (k_dflt (refine' enter_own ?k1 ?k2 ?k3 ?k5 ?kA ?kF ?kK ?k6 ?k7 ?k8 ?k9 ?kB ?_ ?c2 ?c3 ?c4 ?c5; (case kA => exact rfl); (case kF => exact rfl); (case kK => assumption); (case k1 => k_asm); (case k2 => k_asm); (case k3 => k_asm); (case k5 => k_asm); (case k6 => k_is); (case k7 => k_is); (case k8 => ktr_room); (case k9 => exact BindsTo.of_eq rfl); (case c5 => decide); (case kB => exact locs rfl); (case c2 => exact rfl); (case c3 => exact rfl); (case c4 => exact rfl); k_whole; intro L' h' F' N' B' X' T'; (try dsimp only); (try k_lift B'); (try k_fold))))
local macro_rules | `(tactic| walk_at "fill") => `(tactic| ((have _ff : PySem.Challenge.rw_xe0046_01 = PySem.Challenge.rw_xe0046_01 ∧ hd.heap_39 = hd.heap_39 := by (k_fill; exact ⟨rfl, rfl⟩)); clear _ff))
theorem ws_N {w : World} {mean : ExcName → Option Value} {mg mb : Str → Option Value} {a b : Nat} (ha : a ≤ 4) (hb : 1 ≤ b) (hb2 : b ≤ 9) {text : Str} (ht : text = lead a b) {t : Tok}
    {dp un : Nat} {gd : Option (List Code)} {cn : Str} {cs : Scope} {ca : Addr} {ccd : Value} {cl : List (Str × Addr)} {outer : List Env} {A₀ : Around} {base h₀ : Heap} {L : Addr} {m : Str → Option Value} {s : Shared} {Q E : Value → Shared → Prop} {news : List (Addr × Obj)}
    (B : Below A₀ base outer h₀) (F : Fr h₀ L s.heap m) (X : (hd.heap_39 w.params).In h₀) (T : TopX mean mg mb h₀) (hk : cs.kind = .function) (hdp : dp + 4 < recursionLimit) (hun : un + 12 < cLine) (N : News h₀ L s.heap news)
    (ret : ∀ x dx raw norm k1 k2 t2 k3 t3 k4 k5 h' tk', Fr h₀ L h' m → News h₀ L h' ((x, instObj 133 dx) :: (dx, wsObj w.params raw ((a : Int) + (b : Int)) (a : Int) norm k1 k2 t2 k3 t3 k4 k5) :: news) → (∀ p ∈ news, p.1 < dx) → @LT.lt Nat _ dx x → Q (.ref x) { s with heap := h', toks := tk' }) :
    wpAny (model lawProg w) (ktrTop dp un gd cn cs L ca ccd cl outer) (call (.ref 133) [.str text t]) Q E s := by
  subst ht
  refine ws_call ha hb hb2 B F X T hk hdp hun fun x dx norm k1 k2 t2 k3 t3 k4 k5 h' tk' st hz hl gx gd => ?_
  have none_of : ∀ b, s.heap.objs.size ≤ b → s.heap.get? b = none := fun b hb => by
    cases q : s.heap.get? b with
    | none => rfl
    | some o => exact absurd (Heap.lt_size q) (Nat.not_lt.mpr hb)
  have hzx : s.heap.objs.size ≤ x := Nat.le_of_lt (Nat.lt_of_le_of_lt hz hl)
  have nL : ∀ b, s.heap.objs.size ≤ b → b ≠ L := fun b hb e => absurd F.ns.lt (by rw [← e]; exact Nat.not_lt.mpr hb)
  have n0 : ∀ b, s.heap.objs.size ≤ b → h₀.get? b = none := fun b hb => by
    cases q : h₀.get? b with
    | none => rfl
    | some o => have := F.keep _ _ q; rw [none_of b hb] at this; cases this
  refine ret x dx (.str (lead a b) t) norm k1 k2 t2 k3 t3 k4 k5 h' tk' (F.keeps st) ?_ (fun p hp => Nat.lt_of_lt_of_le (Heap.lt_size (N p hp).1) hz) hl
  intro p hp
  rcases List.mem_cons.mp hp with rfl | hp
  · exact ⟨gx, nL _ hzx, n0 _ hzx⟩
  rcases List.mem_cons.mp hp with rfl | hp
  · exact ⟨gd, nL _ hz, n0 _ hz⟩
  · exact (N.grown st) p hp
set_option maxRecDepth 100000
def at_ (p : List Nat) (c : Nat) : Nat := p.idxOf c
theorem at_find {p : List Nat} (hp : IsPerm p) {c : Nat} (hc : 97 ≤ c ∧ c ≤ 101) : Txt.find (tx p) (sg c) = (at_ p c : Int) ∧ at_ p c ≤ 4 := by
  have z : ∀ c ∈ [97, 98, 99, 100, 101], (orNo (seekN [c] p 0) = (at_ p c : Int) ∧ at_ p c ≤ 4) :=
    perm_all (P := fun p => ∀ c ∈ [97, 98, 99, 100, 101], (orNo (seekN [c] p 0) = (at_ p c : Int) ∧ at_ p c ≤ 4)) (by decide +kernel) hp
  rw [find_is]
  refine z c ?_
  simp only [List.mem_cons, List.not_mem_nil, or_false]
  omega
theorem find_perm {prog : Program} {w : World} {A : Around} {E : Value → Shared → Prop} {s : Shared} {Q : Value → Shared → Prop} {p : List Nat} (hp : IsPerm p) {c : Nat} {y : Str} (e : y = sg c) (hc : 97 ≤ c ∧ c ≤ 101) {t u : Tok} (h : at_ p c ≤ 4 → Q (.int (at_ p c : Int) s.toks) { s with toks := s.toks + 1 }) :
    wpAny (model prog w) A (call (.builtin "str.find") [.str (tx p) t, .str y u]) Q E s := by
  subst e
  have z := at_find hp hc
  refine SC.find ?_
  rw [z.1]
  exact h z.2
local macro_rules | `(tactic| walk_at "call builtin:str.find") => `(tactic| (k_here; k_dflt (first | (refine' find_perm (c := 97) ?hp (rfl : Str.ofString "a" = sg 97) ?hc ?_) | (refine' find_perm (c := 98) ?hp (rfl : Str.ofString "b" = sg 98) ?hc ?_) | (refine' find_perm (c := 99) ?hp (rfl : Str.ofString "c" = sg 99) ?hc ?_) | (refine' find_perm (c := 100) ?hp (rfl : Str.ofString "d" = sg 100) ?hc ?_) | (refine' find_perm (c := 101) ?hp (rfl : Str.ofString "e" = sg 101) ?hc ?_)); (case hp => with_reducible assumption); (case hc => decide); intro hf'))
theorem mul_small {prog : Program} {w : World} {A : Around} {E : Value → Shared → Prop} {s : Shared} {Q : Value → Shared → Prop} {x : Str} {t u : Tok} {n : Int} (hx : x.length ≤ 16) (h0 : 0 ≤ n) (hn : n ≤ 100) (h : ∀ t' k, Q (.str (Txt.mul x n) t') { s with toks := k }) :
    wpAny (model prog w) A (binaryOp .Mult (.str x t) (.int n u)) Q E s := SB.mul (mulOk_of 16 100 hx hn (by omega) (by decide) (by decide)) h
local macro_rules | `(tactic| walk_at "binaryOp Mult str int") => `(tactic| (k_here; k_dflt (refine' mul_small ?h1 ?h2 ?h3 ?_; (case h1 => decide); (case h2 => omega); (case h3 => omega)); intro t' k'))
theorem lead_tabs {a : Nat} (ha : a ≤ 4) : Txt.mul (Str.ofString "\t") (a : Int) = ⟨(List.replicate a 9).toArray⟩ := by
  have z : ∀ a < 5, Txt.mul (Str.ofString "\t") ((a : Nat) : Int) = ⟨(List.replicate a 9).toArray⟩ := by decide +kernel
  exact z a (by omega)
theorem lead_is {a b : Nat} {n : Int} (hn : n = (b : Int)) (ha : a ≤ 4) (hb : b ≤ 9) : Txt.mul (Str.ofString "\t") (a : Int) ++ Txt.mul (Str.ofString " ") n ++ Str.ofString "x" = lead a b := by
  subst hn
  have z : ∀ a < 5, ∀ b < 10, Txt.mul (Str.ofString "\t") ((a : Nat) : Int) ++ Txt.mul (Str.ofString " ") ((b : Nat) : Int) ++ Str.ofString "x" = lead a b := by decide +kernel
  exact z a (by omega) b (by omega)
theorem fit1 {a : Nat} {n : Int} (ha : a ≤ 4) (h0 : 0 ≤ n) (hn : n ≤ 9) : (Txt.mul (Str.ofString "\t") (a : Int)).length + (Txt.mul (Str.ofString " ") n).length ≤ sizeLine := by
  have z : ∀ a < 5, ∀ b < 10, (Txt.mul (Str.ofString "\t") ((a : Nat) : Int)).length + (Txt.mul (Str.ofString " ") ((b : Nat) : Int)).length ≤ 100 := by decide +kernel
  have := z a (by omega) n.toNat (by omega)
  rw [Int.toNat_of_nonneg h0] at this
  exact Nat.le_trans this (by rw [sizeLine_eq]; decide)
theorem fit2 {a : Nat} {n : Int} (ha : a ≤ 4) (h0 : 0 ≤ n) (hn : n ≤ 9) : (Txt.mul (Str.ofString "\t") (a : Int) ++ Txt.mul (Str.ofString " ") n).length + (Str.ofString "x").length ≤ sizeLine := by
  have z : ∀ a < 5, ∀ b < 10, (Txt.mul (Str.ofString "\t") ((a : Nat) : Int) ++ Txt.mul (Str.ofString " ") ((b : Nat) : Int)).length + (Str.ofString "x").length ≤ 100 := by decide +kernel
  have := z a (by omega) n.toNat (by omega)
  rw [Int.toNat_of_nonneg h0] at this
  exact Nat.le_trans this (by rw [sizeLine_eq]; decide)
local macro_rules | `(tactic| walk_at "binaryOp Add str str") => `(tactic| (k_here; k_dflt (refine' SB.add ?_ ?z; (case z => first | ((with_reducible refine' fit2 ?p1 ?p2 ?p3); (case p1 => assumption); (case p2 => omega); (case p3 => omega)) | ((with_reducible refine' fit1 ?p1 ?p2 ?p3); (case p1 => assumption); (case p2 => omega); (case p3 => omega)))); intro t' k'))
local macro_rules | `(tactic| walk_at "call ref") => `(tactic| (k_here; (with_reducible show wpAny _ _ (call (Value.ref 133) [Value.str _ _]) _ _ _); k_dflt (refine' ws_N ?h1 ?h2 ?h3 ?h4 ?k1 ?k2 ?k3 ?k4 ?k5 ?k6 ?k7 ?k8 ?_; rotate_left 3; (case h4 => exact lead_is (b := Int.toNat _) (Int.toNat_of_nonneg (by omega)).symm (by assumption) (by omega)); (case h1 => assumption); (case h2 => omega); (case h3 => omega); (case k1 => k_asm); (case k2 => k_asm); (case k3 => k_asm); (case k4 => k_asm); (case k5 => first | exact rfl | assumption); (case k6 => ktr_room); (case k7 => ktr_units); (case k8 => k_asm); k_whole; intro x' dx' raw' norm' k1' k2' t2' k3' t3' k4' k5' h' tk' F' N' l1 l2; (try k_lt l1); (try k_sweep))))
structure WsT where
  x : Addr
  dx : Addr
  raw : Value
  norm : Addr
  k1 : Tok
  k2 : Tok
  t2 : Tok
  k3 : Tok
  t3 : Tok
  k4 : Tok
  k5 : Tok
abbrev wsO (P : Params) (v : WsT) (n nt : Int) : Obj := wsObj P v.raw n nt v.norm v.k1 v.k2 v.t2 v.k3 v.t3 v.k4 v.k5
/-- the leads stand on the ledger: the list, and for each sign its object with its dict -/
structure LeadsOn (P : Params) (p : List Nat) (l : Addr) (ws : Nat → WsT) (led : List (Addr × Obj)) : Prop where
  list : ∃ ep, (l, listOf #[.ref (ws 0).x, .ref (ws 1).x, .ref (ws 2).x, .ref (ws 3).x, .ref (ws 4).x] ep) ∈ led
  inst : ∀ k < 5, ((ws k).x, instObj 133 (ws k).dx) ∈ led
  dict : ∀ k < 5, ((ws k).dx, wsO P (ws k) (5 + (k : Int)) (at_ p (97 + k) : Int)) ∈ led
theorem five {P : Nat → Prop} (h0 : P 0) (h1 : P 1) (h2 : P 2) (h3 : P 3) (h4 : P 4) : ∀ k < 5, P k := by
  intro k hk
  match k, hk with
  | 0, _ => exact h0
  | 1, _ => exact h1
  | 2, _ => exact h2
  | 3, _ => exact h3
  | 4, _ => exact h4
def ws5 (w0 w1 w2 w3 w4 : WsT) : Nat → WsT
  | 0 => w0
  | 1 => w1
  | 2 => w2
  | 3 => w3
  | _ => w4
theorem leads_end {P : Params} {p : List Nat} {g h' : Heap} {L l : Addr} {ep : Nat} {m : Str → Option Value} {Q : Value → Shared → Prop} {s : Shared} {tk : Nat} {news : List (Addr × Obj)}
    {x0 dx0 : Addr} {raw0 : Value} {norm0 : Addr} {k1_0 k2_0 t2_0 k3_0 t3_0 k4_0 k5_0 : Tok} {n0 : Int}
    {x1 dx1 : Addr} {raw1 : Value} {norm1 : Addr} {k1_1 k2_1 t2_1 k3_1 t3_1 k4_1 k5_1 : Tok} {n1 : Int}
    {x2 dx2 : Addr} {raw2 : Value} {norm2 : Addr} {k1_2 k2_2 t2_2 k3_2 t3_2 k4_2 k5_2 : Tok} {n2 : Int}
    {x3 dx3 : Addr} {raw3 : Value} {norm3 : Addr} {k1_3 k2_3 t2_3 k3_3 t3_3 k4_3 k5_3 : Tok} {n3 : Int}
    {x4 dx4 : Addr} {raw4 : Value} {norm4 : Addr} {k1_4 k2_4 t2_4 k3_4 t3_4 k4_4 k5_4 : Tok} {n4 : Int}
    (F : Fr g L h' m) (N : News g L h' news) (hl : (l, listOf #[.ref x0, .ref x1, .ref x2, .ref x3, .ref x4] ep) ∈ news)
    (i0 : (x0, instObj 133 dx0) ∈ news) (d0 : (dx0, wsObj P raw0 n0 (at_ p 97 : Int) norm0 k1_0 k2_0 t2_0 k3_0 t3_0 k4_0 k5_0) ∈ news) (e0 : n0 = 5)
    (i1 : (x1, instObj 133 dx1) ∈ news) (d1 : (dx1, wsObj P raw1 n1 (at_ p 98 : Int) norm1 k1_1 k2_1 t2_1 k3_1 t3_1 k4_1 k5_1) ∈ news) (e1 : n1 = 6)
    (i2 : (x2, instObj 133 dx2) ∈ news) (d2 : (dx2, wsObj P raw2 n2 (at_ p 99 : Int) norm2 k1_2 k2_2 t2_2 k3_2 t3_2 k4_2 k5_2) ∈ news) (e2 : n2 = 7)
    (i3 : (x3, instObj 133 dx3) ∈ news) (d3 : (dx3, wsObj P raw3 n3 (at_ p 100 : Int) norm3 k1_3 k2_3 t2_3 k3_3 t3_3 k4_3 k5_3) ∈ news) (e3 : n3 = 8)
    (i4 : (x4, instObj 133 dx4) ∈ news) (d4 : (dx4, wsObj P raw4 n4 (at_ p 101 : Int) norm4 k1_4 k2_4 t2_4 k3_4 t3_4 k4_4 k5_4) ∈ news) (e4 : n4 = 9)
    (ret : ∀ l ws led h' tk', LeadsOn P p l ws led → g.StaysIn h' → (∀ q ∈ led, h'.get? q.1 = some q.2 ∧ g.get? q.1 = none) → Q (.ref l) { s with heap := h', toks := tk' }) :
    LeaveP g Q (.ref l) { s with heap := h', toks := tk } := by
  subst e0 e1 e2 e3 e4
  refine ⟨F.keep, ret l (ws5 ⟨x0, dx0, raw0, norm0, k1_0, k2_0, t2_0, k3_0, t3_0, k4_0, k5_0⟩ ⟨x1, dx1, raw1, norm1, k1_1, k2_1, t2_1, k3_1, t3_1, k4_1, k5_1⟩ ⟨x2, dx2, raw2, norm2, k1_2, k2_2, t2_2, k3_2, t3_2, k4_2, k5_2⟩ ⟨x3, dx3, raw3, norm3, k1_3, k2_3, t2_3, k3_3, t3_3, k4_3, k5_3⟩ ⟨x4, dx4, raw4, norm4, k1_4, k2_4, t2_4, k3_4, t3_4, k4_4, k5_4⟩) news h' tk ⟨⟨ep, hl⟩, five i0 i1 i2 i3 i4, five d0 d1 d2 d3 d4⟩ F.keep fun q hq => ⟨(N q hq).1, (N q hq).2.2⟩⟩
set_option maxHeartbeats 8000000 in
theorem leads_call {w : World} {mean : ExcName → Option Value} {mg mb : Str → Option Value} {p : List Nat} (hp : IsPerm p) {t : Tok}
    {dp un : Nat} {gd : Option (List Code)} {cn : Str} {cs : Scope} {ca : Addr} {ccd : Value} {cl : List (Str × Addr)} {outer : List Env} {A₀ : Around} {base h₀ : Heap} {L : Addr} {m : Str → Option Value} {s : Shared} {Q E : Value → Shared → Prop}
    (B : Below A₀ base outer h₀) (F : Fr h₀ L s.heap m) (X : (hd.heap_39 w.params).In h₀) (T : TopX mean mg mb h₀) (hk : cs.kind = .function) (hdp : dp + 6 < recursionLimit) (hun : un + 20 < cLine)
    (ret : ∀ l ws led h' tk', LeadsOn w.params p l ws led → s.heap.StaysIn h' → (∀ q ∈ led, h'.get? q.1 = some q.2 ∧ s.heap.get? q.1 = none) → Q (.ref l) { s with heap := h', toks := tk' }) :
    wpAny (model lawProg w) (ktrTop dp un gd cn cs L ca ccd cl outer) (call (.ref 151) [.str (tx p) t]) Q E s := by
  walk_at "fill"
  walk_at "own_enter"
  k_steps
  with_reducible rename Fr _ _ _ _ => F9
  with_reducible rename News _ _ _ _ => N9
  exact leads_end F9 N9 (by k_mem) (by k_mem) (by k_mem) (by omega) (by k_mem) (by k_mem) (by omega) (by k_mem) (by k_mem) (by omega) (by k_mem) (by k_mem) (by omega) (by k_mem) (by k_mem) (by omega) ret
end Mine

end PXD1
section PXA1
open PySem PySem.Spec PySem.Calls PySem.W PyProof.Rows
namespace Mine
set_option maxRecDepth 100000
section
variable {prog : Program} {w : World} {A : Around} {E : Value → Shared → Prop} {s : Shared} {h₀ : Heap} {L : Addr} {m : Str → Option Value} {news news' : List (Addr × Obj)} {value slice : PySem.Expr}

theorem abc_is {i : Nat} (h : i < 5) : Txt.item (Str.ofString "abcde") (i : Int) = sg (97 + i) := by
  have z : ∀ i < 5, Txt.item (Str.ofString "abcde") ((i : Nat) : Int) = sg (97 + i) := by decide +kernel
  exact z i h
theorem abc_item {k : Int} {i : Nat} {t u : Tok} {Q : Value → Shared → Prop} (e : k = (i : Int)) (hi : i < 5) (h : Q (.str (sg (97 + i)) s.toks) { s with toks := s.toks + 1 })
    (hs : subscripted slice false (.str (Str.ofString "abcde") t) (.int k u) = operate [.str (Str.ofString "abcde") t, .int k u] (getItem (.str (Str.ofString "abcde") t) (.int k u)))
    (ht : ∀ r, letTemporaryGo value (.str (Str.ofString "abcde") t) r = pure ()) :
    wpAny (model prog w) A (subscriptTail value slice (.str (Str.ofString "abcde") t) (.int k u)) Q E s := by
  subst e
  have hl : ((Str.ofString "abcde").length : Int) = 5 := by decide
  refine item_str ?_ (by omega) (by omega) (fun _ => ?_) hs ht
  · unfold fitsSsize
    rw [decide_eq_false (by omega), decide_eq_false (by omega)]
    rfl
  · rw [abc_is hi]; exact h

theorem append_strs {l : List (Str × Tok)} {its : Array Value} {D : Addr} {n : Nat} {y : Str} {t : Tok} {Q : Value → Shared → Prop} (F : Fr h₀ L s.heap m) (N : News h₀ L s.heap news) (e : its = (strValues l).toArray) (hz : l.length ≤ 1000)
    (U : Upd D (listOf its n) (listOf (strValues (l ++ [(y, t)])).toArray (n + 1)) news news') (h : ∀ h', Fr h₀ L h' m → News h₀ L h' news' → Q .none { s with heap := h' }) :
    wpAny (model prog w) A (call (.builtin "list.append") [.ref D, .str y t]) Q E s := by
  subst e
  have q : (strValues l).toArray.push (.str y t) = (strValues (l ++ [(y, t)])).toArray := by simp [strValues]
  rw [← q] at U
  refine append_K F N U h ?_
  rw [List.size_toArray]
  unfold strValues
  rw [List.length_map]
  exact Nat.le_trans hz (by rw [sizeLine_eq]; decide)
end
def AllNe (I : Addr) : List (Addr × Obj) → Prop
  | [] => True
  | p :: r => @Ne Nat p.1 I ∧ AllNe I r
theorem allNe_of {I : Addr} : ∀ {l : List (Addr × Obj)}, (∀ p ∈ l, p.1 ≠ I) → AllNe I l
  | [], _ => trivial
  | p :: _, h => ⟨h p (.head _), allNe_of fun q hq => h q (.tail _ hq)⟩
theorem of_allNe {I : Addr} : ∀ {l : List (Addr × Obj)}, AllNe I l → (∀ p ∈ l, p.1 ≠ I)
  | [], _, _, hp => nomatch hp
  | _ :: _, h, _, hp => (List.mem_cons.mp hp).elim (fun e => e ▸ h.1) (of_allNe h.2 _)
theorem known_push {m : Str → Option Value} {x : Str} {v : Option Value} : ∀ {l : List (Str × Value)}, Known m l → (l.all fun p => decide (p.1 ≠ x)) = true → Known (fun y => if y = x then v else m y) l
  | [], _, _ => trivial
  | p :: r, ⟨h, hr⟩, e => by
    simp only [List.all_cons, Bool.and_eq_true, decide_eq_true_eq] at e
    exact ⟨by show (if p.1 = x then v else m p.1) = _; rw [if_neg e.1, h], known_push hr e.2⟩

/-- a list of texts grown by a loop: what it holds after so many turns; the rest of the ledger stands -/
def accJ (th : Addr) (rest : List (Addr × Obj)) (kn : List (Str × Value)) (G : Nat → List Str) (i : Nat) (m : Str → Option Value) (nx : List (Addr × Obj)) : Prop :=
  ∃ (l : List (Str × Tok)) (ep : Nat), nx = (th, listOf (strValues l).toArray ep) :: rest ∧ Known m kn ∧ l.map (·.1) = G i
section
variable {prog : Program} {w : World} {A : Around} {E : Value → Shared → Prop} {s : Shared} {env : Env} {h₀ : Heap} {x : Str} {body : List Stmt} {Q : Flow → Shared → Prop}
theorem iter_acc {r : Addr} {a₀ b₀ : Int} {t₀ u₀ v₀ : Tok} {a n : Nat} {m₀ : Str → Option Value} {th : Addr} {its : Array Value} {l₀ : List (Str × Tok)} {ep₀ : Nat} {rest : List (Addr × Obj)} (G : Nat → List Str) (kn : List (Str × Value))
    (hh : A.handled = none) (hr : IsRange s.heap r a₀ b₀ 1 t₀ u₀ v₀) (F : Fr h₀ env.locals s.heap m₀) (N : News h₀ env.locals s.heap ((th, listOf its ep₀) :: rest)) (hi : its = (strValues l₀).toArray) (h0 : l₀.map (·.1) = G 0) (hk : Known m₀ kn)
    (ha : a₀ = (a : Int)) (hb : b₀ = ((a + n : Nat) : Int)) (hn : a + n < 1000) (hG : ∀ i ≤ n, (G i).length ≤ 1000)
    (turn : ∀ i t m₁ h tk I o l ep, i < n → l.map (·.1) = G i → l.length ≤ 1000 → @Ne Nat th I → AllNe I rest → Fr h₀ env.locals h (fun y => if y = x then some (.int ((a + i : Nat) : Int) t) else frm m₁ kn y) → News h₀ env.locals h ((I, o) :: (th, listOf (strValues l).toArray ep) :: rest) →
      wpAny (model prog w) A (execs body env) (TurnJ h₀ env.locals (I, o) (accJ th rest kn G (i + 1)) { s with heap := h, toks := tk } Q) E { s with heap := h, toks := tk })
    (done : ∀ m₁ h tk l ep, l.map (·.1) = G n → l.length ≤ 1000 → Fr h₀ env.locals h (frm m₁ kn) → News h₀ env.locals h ((th, listOf (strValues l).toArray ep) :: rest) → Q .next { s with heap := h, toks := tk }) :
    wpAny (model prog w) A (pyIter (.ref r)) (fun it s₂ => LoopAtV prog w A h₀ env x body Q E it s₂) E s := by
  subst ha hb hi
  have hs : Builtin.Range.rangeSize (a : Int) ((a + n : Nat) : Int) 1 = (n : Int) := by
    unfold Builtin.Range.rangeSize
    rw [if_pos (by decide)]
    by_cases h : n = 0
    · subst h; rw [if_neg (by omega)]; rfl
    · rw [if_pos (by omega), Int.ediv_one]; omega
  have hlen : ∀ {l : List (Str × Tok)} {i : Nat}, i ≤ n → l.map (·.1) = G i → l.length ≤ 1000 := fun {l i} hi e => by
    have := hG i hi
    rw [← e, List.length_map] at this
    exact this
  refine iter_rangeJ (accJ th rest kn G) hh hr ?_ hs F N ⟨l₀, ep₀, rfl, hk, h0⟩ ?_ ?_
  · have fl : ∀ z : Int, -1 ≤ z → z ≤ 2000 → Builtin.Range.rangeFitsLong z = true := fun z h1 h2 => by
      unfold Builtin.Range.rangeFitsLong
      simp only [Bool.and_eq_true, decide_eq_true_eq]
      constructor <;> omega
    unfold Builtin.Range.small
    rw [hs, fl _ (by omega) (by omega), fl _ (by omega) (by omega), fl 1 (by omega) (by omega), fl _ (by omega) (by omega), if_pos (by decide), fl _ (by omega) (by omega)]
    simp
  · rintro i t m₁ nx h tk I o hi ⟨l, ep, rfl, hk', hl⟩ hI F₁ N₁
    have F₂ := fr_known1 F₁ hk'
    have e : (a : Int) + (i : Int) = ((a + i : Nat) : Int) := by omega
    rw [e] at F₂
    exact turn i t m₁ h tk I o l ep hi hl (hlen (by omega) hl) (hI _ (.head _)) (allNe_of fun p hp => hI p (.tail _ hp)) F₂ N₁
  · rintro m₁ nx h tk ⟨l, ep, rfl, hk', hl⟩ F₁ N₁
    exact done m₁ h tk l ep hl (hlen (Nat.le_refl _) hl) (fr_known F₁ hk') N₁
theorem acc_end {h' : Heap} {L : Addr} {io : Addr × Obj} {th : Addr} {rest : List (Addr × Obj)} {kn : List (Str × Value)} {G : Nat → List Str} {i : Nat} {s₁ : Shared} {tk : Nat} {m' : Str → Option Value} {news' : List (Addr × Obj)} {l : List (Str × Tok)} {its : Array Value} {ep : Nat}
    (F : Fr h₀ L h' m') (N : News h₀ L h' news') (hi : io ∈ news') (ht : (th, listOf its ep) ∈ news') (hr : ∀ p ∈ rest, p ∈ news') (hit : its = (strValues l).toArray) (hne : @Ne Nat th io.1) (hall : AllNe io.1 rest) (hk : Known m' kn) (hG : l.map (·.1) = G i) :
    EndJ h₀ L io (accJ th rest kn G i) s₁ { s₁ with heap := h', toks := tk } := by
  subst hit
  exact EndJ.intro (nx := (th, listOf (strValues l).toArray ep) :: rest) F N hi (fun p hp => (List.mem_cons.mp hp).elim (fun e => e ▸ ht) (hr p)) (fun p hp => (List.mem_cons.mp hp).elim (fun e => e ▸ hne) (of_allNe hall p)) ⟨l, ep, rfl, hk, hG⟩
end
end Mine

end PXA1
section PXT1h
open PySem PySem.Spec PySem.Calls PySem.W PyProof.Rows
namespace Mine
local macro_rules | `(tactic| walk_at "own_enter") => `(tactic| (k_dflt (refine' enter_own ?k1 ?k2 ?k3 ?k5 ?kA ?kF ?kK ?k6 ?k7 ?k8 ?k9 ?kB ?_ ?c2 ?c3 ?c4 ?c5; (case kA => exact rfl); (case kF => exact rfl); (case kK => assumption); (case k1 => k_asm); (case k2 => k_asm); (case k3 => k_asm); (case k5 => k_asm); (case k6 => k_is); (case k7 => k_is); (case k8 => ktr_room); (case k9 => exact BindsTo.of_eq rfl); (case c5 => decide); (case kB => exact locs rfl); (case c2 => exact rfl); (case c3 => exact rfl); (case c4 => exact rfl); k_whole; intro L' h' F' N' B' X' T'; (try dsimp only); (try k_lift B'); (try k_fold))))
local macro_rules | `(tactic| walk_at "fill") => `(tactic| ((have _ff : PySem.Challenge.rw_xe0046_01 = PySem.Challenge.rw_xe0046_01 ∧ hd.heap_39 = hd.heap_39 := by (k_fill; exact ⟨rfl, rfl⟩)); clear _ff))
local macro_rules | `(tactic| walk_at "to_loop") => `(tactic| repeat' (first | ((fail_if_success (with_reducible show wpAny _ _ (pyIter _) _ _ _)); first | (k_unfold; (try dsimp only)) | (k_end; wrow_close) | walk1 | (dsimp only; walk1) | (leave1; walk_say "STEP leave1"; try dsimp only) | fail "no step")))
set_option maxRecDepth 100000
def want3 (i j k : Nat) : Str := Str.ofString "..." ++ sg (97 + j) ++ Str.ofString "..." ++ sg (97 + i) ++ Str.ofString "..." ++ sg (97 + k) ++ Str.ofString "..."
theorem want3_ok {i j k : Nat} (hi : i < 5) (hj : j < 5) (hk : k < 5) (hij : i < j) (hjk : j < k) : (Builtin.Str.occurrences (want3 i j k) (Str.ofString "...") 0 (want3 i j k).length 1).isEmpty = false ∧ Txt.split (want3 i j k) (Str.ofString "...") = [Str.ofString "", sg (97 + j), sg (97 + i), sg (97 + k), Str.ofString ""] ∧ (want3 i j k).length < 100 := by
  have z : ∀ i < 5, ∀ j < 5, ∀ k < 5, (!(decide (i < j)) || (!(decide (j < k)) || (!(Builtin.Str.occurrences (want3 i j k) (Str.ofString "...") 0 (want3 i j k).length 1).isEmpty && (decide (Txt.split (want3 i j k) (Str.ofString "...") = [Str.ofString "", sg (97 + j), sg (97 + i), sg (97 + k), Str.ofString ""]) && decide ((want3 i j k).length < 100))))) = true := by decide +kernel
  have q := z i hi j hj k hk
  rw [decide_eq_true hij, decide_eq_true hjk] at q
  simp only [Bool.not_true, Bool.false_or, Bool.and_eq_true, Bool.not_eq_true', decide_eq_true_eq] at q
  exact q
theorem tx_len {p : List Nat} (hp : IsPerm p) : (tx p).length < 100 := perm_all (P := fun p => (tx p).length < 100) (by decide +kernel) hp
theorem ell3_N {w : World} {i j k : Nat} {mean : ExcName → Option Value} {mg mb : Str → Option Value} {want : Str} {t1 t2 : Tok} (hw : want = want3 i j k) {p : List Nat} (hp : IsPerm p) (hi : i < 5) (hj : j < 5) (hk' : k < 5) (hij : i < j) (hjk : j < k)
    {dp un : Nat} {gd : Option (List Code)} {cn : Str} {cs : Scope} {ca : Addr} {ccd : Value} {cl : List (Str × Addr)} {outer : List Env} {A₀ : Around} {base h₀ : Heap} {L : Addr} {m : Str → Option Value} {s : Shared} {Q E : Value → Shared → Prop} {news : List (Addr × Obj)}
    (B : Below A₀ base outer h₀) (F : Fr h₀ L s.heap m) (X : (hd.heap_39 w.params).In h₀) (T : TopX mean mg mb h₀) (hk : cs.kind = .function) (hdp : dp + 1 < recursionLimit) (hun : un + 8 < cLine) (N : News h₀ L s.heap news)
    (ret : ∀ h' tk', Fr h₀ L h' m → News h₀ L h' news → Q (.bool (ell3F (Mine.tx p) (sg (97 + j)) (sg (97 + i)) (sg (97 + k)))) { s with heap := h', toks := tk' }) :
    wpAny (model lawProg w) (ktrTop dp un gd cn cs L ca ccd cl outer) (call (.ref 71) [.str want t1, .str (Mine.tx p) t2]) Q E s := by
  subst hw
  exact ell3_call (want3 i j k) (Mine.tx p) (sg (97 + j)) (sg (97 + i)) (sg (97 + k)) t1 t2 (want3_ok hi hj hk' hij hjk).1 (want3_ok hi hj hk' hij hjk).2.1 (want3_ok hi hj hk' hij hjk).2.2 (tx_len hp) rfl rfl rfl B F X T hk hdp hun (use_ret F N ret)

def thrT (p : List Nat) (i j k : Nat) : List Str := if ell3F (tx p) (sg (97 + j)) (sg (97 + i)) (sg (97 + k)) then [sg (97 + i) ++ sg (97 + j) ++ sg (97 + k)] else []
def flat (n : Nat) (f : Nat → List Str) : List Str := (List.range n).flatMap f
theorem flat_succ (n : Nat) (f : Nat → List Str) : flat (n + 1) f = flat n f ++ f n := by
  unfold flat; rw [List.range_succ, List.flatMap_append]; simp
theorem flat_len {f : Nat → List Str} {c : Nat} (h : ∀ t, (f t).length ≤ c) : ∀ n, (flat n f).length ≤ n * c
  | 0 => by simp [flat]
  | n + 1 => by rw [flat_succ, List.length_append, Nat.add_mul]; have := flat_len h n; have := h n; omega
def thr3 (p : List Nat) (i j n : Nat) : List Str := flat n fun t => thrT p i j (j + 1 + t)
def thr2 (p : List Nat) (i n : Nat) : List Str := flat n fun t => thr3 p i (i + 1 + t) (4 - (i + 1 + t))
def thr1 (p : List Nat) (n : Nat) : List Str := flat n fun i => thr2 p i (4 - i)
theorem thrT_len (p : List Nat) (i j k : Nat) : (thrT p i j k).length ≤ 1 := by unfold thrT; split <;> simp
theorem thr3_len (p : List Nat) (i j n : Nat) : (thr3 p i j n).length ≤ n := by have := flat_len (fun t => thrT_len p i j (j + 1 + t)) n; unfold thr3; omega
theorem thr2_len (p : List Nat) (i n : Nat) : (thr2 p i n).length ≤ n * 4 := flat_len (fun t => Nat.le_trans (thr3_len p _ _ _) (Nat.sub_le _ _)) n
theorem thr1_len (p : List Nat) (n : Nat) : (thr1 p n).length ≤ n * 16 := flat_len (fun t => Nat.le_trans (thr2_len p _ _) (by omega)) n
theorem thr_yes {p : List Nat} {i j k : Nat} {pre : List Str} {l : List (Str × Tok)} {t : Tok} (hl : l.map (·.1) = pre ++ thr3 p i j k) (he : ell3F (tx p) (sg (97 + j)) (sg (97 + i)) (sg (97 + (j + 1 + k))) = true) :
    (l ++ [(sg (97 + i) ++ sg (97 + j) ++ sg (97 + (j + 1 + k)), t)]).map (·.1) = pre ++ thr3 p i j (k + 1) := by
  rw [List.map_append, hl]
  unfold thr3
  rw [flat_succ, thrT, if_pos he, List.append_assoc]
  rfl
theorem thr_no {p : List Nat} {i j k : Nat} {pre : List Str} {l : List (Str × Tok)} (hl : l.map (·.1) = pre ++ thr3 p i j k) (he : ell3F (tx p) (sg (97 + j)) (sg (97 + i)) (sg (97 + (j + 1 + k))) = false) :
    l.map (·.1) = pre ++ thr3 p i j (k + 1) := by
  rw [hl]
  unfold thr3
  rw [flat_succ, thrT, if_neg (by rw [he]; decide), List.append_nil]
theorem thr_up3 {p : List Nat} {i j : Nat} {l : List (Str × Tok)} (hl : l.map (·.1) = thr1 p i ++ thr2 p i j ++ thr3 p i (i + 1 + j) (4 - (i + 1 + j))) : l.map (·.1) = thr1 p i ++ thr2 p i (j + 1) := by
  rw [hl]
  unfold thr2
  rw [flat_succ, List.append_assoc]
theorem thr_up2 {p : List Nat} {i : Nat} {l : List (Str × Tok)} (hl : l.map (·.1) = thr1 p i ++ thr2 p i (4 - i)) : l.map (·.1) = thr1 p (i + 1) := by
  rw [hl]
  unfold thr1
  rw [flat_succ]
theorem sub0 {l : List (Addr × Obj)} : ∀ p ∈ ([] : List (Addr × Obj)), p ∈ l := fun _ h => nomatch h
theorem sub1 {a : Addr × Obj} {r l : List (Addr × Obj)} (h : a ∈ l) (hr : ∀ p ∈ r, p ∈ l) : ∀ p ∈ a :: r, p ∈ l := fun p hp => (List.mem_cons.mp hp).elim (fun e => e ▸ h) (hr p)
theorem news_swap {h₀ h : Heap} {L : Addr} {a b : Addr × Obj} {rest : List (Addr × Obj)} (N : News h₀ L h (a :: b :: rest)) : News h₀ L h (b :: a :: rest) := fun p hp => by
  rcases List.mem_cons.mp hp with rfl | hp; exact N _ (.tail _ (.head _))
  rcases List.mem_cons.mp hp with rfl | hp; exact N _ (.head _)
  exact N _ (.tail _ (.tail _ hp))
local macro_rules | `(tactic| walk_at "subscriptTail") => `(tactic| (k_here; (with_reducible show wpAny _ _ (subscriptTail _ _ (Value.str (Str.ofString "abcde") _) (Value.int _ _)) _ _ _); k_dflt (refine' abc_item ?e ?i ?_ ?hs ?ht; (case e => exact rfl); (case i => omega); (case hs => with_unfolding_all rfl); (case ht => intro _; with_unfolding_all rfl))))
local macro_rules | `(tactic| walk_at "binaryOp Add str str") => `(tactic| (k_here; k_dflt (refine' SB.add ?_ ?z; (case z => exact Nat.le_of_ble_eq_true rfl)); intro t' k'))
local macro_rules | `(tactic| walk_at "call ref") => `(tactic| (k_here; (with_reducible show wpAny _ _ (call (Value.ref 71) [Value.str _ _, Value.str _ _]) _ _ _); k_dflt (refine' ell3_N ?h1 ?h2 ?h3 ?h4 ?h5 ?h6 ?h7 ?k1 ?k2 ?k3 ?k4 ?k5 ?k6 ?k7 ?k8 ?_; (case h1 => exact rfl); (case h2 => with_reducible assumption); (case h3 => omega); (case h4 => omega); (case h5 => omega); (case h6 => omega); (case h7 => omega); (case k1 => k_asm); (case k2 => k_asm); (case k3 => k_asm); (case k4 => k_asm); (case k5 => first | exact rfl | assumption); (case k6 => ktr_room); (case k7 => ktr_units); (case k8 => k_asm); k_whole; intro h' tk' F' N'; (try k_sweep))))
local macro_rules | `(tactic| walk_at "call type:range") => `(tactic| (k_here; k_dflt (refine' range2_rows ?F ?N ?_; (case F => k_asm); (case N => k_asm)); intro h' tk' t1' u1' v1' R' F' N' st'; (try clear st'); (try k_sweep)))
local macro_rules | `(tactic| walk_at "call builtin:list.append") => `(tactic| (k_here; k_dflt (refine' append_strs ?F ?N ?e ?z ?U ?_; (case F => k_asm); (case N => k_asm); (case e => exact rfl); (case U => k_upd); (case z => omega)); intro h' F' N'; (try k_sweep)))
set_option maxHeartbeats 8000000 in
theorem threes_call {w : World} {mean : ExcName → Option Value} {mg mb : Str → Option Value} {p : List Nat} (hp : IsPerm p) {t : Tok}
    {dp un : Nat} {gd : Option (List Code)} {cn : Str} {cs : Scope} {ca : Addr} {ccd : Value} {cl : List (Str × Addr)} {outer : List Env} {A₀ : Around} {base h₀ : Heap} {L : Addr} {m : Str → Option Value} {s : Shared} {Q E : Value → Shared → Prop}
    (B : Below A₀ base outer h₀) (F : Fr h₀ L s.heap m) (X : (hd.heap_39 w.params).In h₀) (T : TopX mean mg mb h₀) (hk : cs.kind = .function) (hdp : dp + 6 < recursionLimit) (hun : un + 20 < cLine)
    (ret : ∀ th l ep h' tk', l.map (·.1) = thr1 p 5 → s.heap.StaysIn h' → h'.get? th = some (listOf (strValues l).toArray ep) → s.heap.get? th = none → Q (.ref th) { s with heap := h', toks := tk' }) :
    wpAny (model lawProg w) (ktrTop dp un gd cn cs L ca ccd cl outer) (call (.ref 165) [.str (tx p) t]) Q E s := by
  walk_at "fill"
  walk_at "own_enter"
  walk_at "to_loop"
  with_reducible rename Fr _ _ _ _ => F1
  with_reducible rename News _ _ _ _ => N1
  refine' iter_acc (a := 0) (n := 5) (l₀ := []) (thr1 p) [(Str.ofString "row", .str (tx p) t), (Str.ofString "threes", .ref _)] rfl (by assumption) F1 N1 rfl rfl ?kn ?ha ?hb (by decide) ?hG ?turn ?done
  case kn => exact ⟨by with_unfolding_all rfl, by with_unfolding_all rfl, trivial⟩
  case ha => rfl
  case hb => rfl
  case hG => intro i hi; have := thr1_len p i; omega
  case turn =>
    clear F1 N1
    intro i t m₁ h tk I o l ep hi hl hlen hne hall F₂ N₂
    simp only [frm, Nat.zero_add] at F₂
    replace N₂ := news_swap N₂
    walk_at "to_loop"
    with_reducible rename Fr _ _ _ _ => F3
    with_reducible rename News _ _ _ _ => N3
    with_reducible rename IsRange _ _ _ _ _ _ _ _ => R3
    refine' iter_acc (a := i + 1) (n := 4 - i) (l₀ := l) (fun n => thr1 p i ++ thr2 p i n) [(Str.ofString "i", .int (i : Int) t), (Str.ofString "row", .str (tx p) _), (Str.ofString "threes", .ref _)] rfl R3 F3 N3 rfl ?g02 ?kn2 ?ha2 ?hb2 (by omega) ?hG2 ?turn2 ?done2
    case g02 => rw [hl]; simp [thr2, flat]
    case kn2 => exact ⟨by with_unfolding_all rfl, by with_unfolding_all rfl, by with_unfolding_all rfl, trivial⟩
    case ha2 => omega
    case hb2 => omega
    case hG2 => intro n hn; have h1 := thr1_len p i; have h2 := thr2_len p i n; rw [List.length_append]; omega
    case turn2 =>
      clear F3 N3 R3
      intro j t2 m₂ h tk I2 o2 l2 ep2 hj hl2 hlen2 hne2 hall2 F₄ N₄
      simp only [frm] at F₄
      have hall2' := hall2
      simp only [AllNe, and_true] at hall2
      replace N₄ := news_swap N₄
      walk_at "to_loop"
      with_reducible rename Fr _ _ _ _ => F5
      with_reducible rename News _ _ _ _ => N5
      with_reducible rename IsRange _ _ _ _ _ _ _ _ => R5
      refine' iter_acc (a := i + 1 + j + 1) (n := 4 - (i + 1 + j)) (l₀ := l2) (fun n => thr1 p i ++ thr2 p i j ++ thr3 p i (i + 1 + j) n) [(Str.ofString "j", .int ((i + 1 + j : Nat) : Int) t2), (Str.ofString "i", .int (i : Int) t), (Str.ofString "row", .str (tx p) _), (Str.ofString "threes", .ref _)] rfl R5 F5 N5 rfl ?g03 ?kn3 ?ha3 ?hb3 (by omega) ?hG3 ?turn3 ?done3
      case g03 => rw [hl2]; simp [thr3, flat]
      case kn3 => exact ⟨by with_unfolding_all rfl, by with_unfolding_all rfl, by with_unfolding_all rfl, by with_unfolding_all rfl, trivial⟩
      case ha3 => omega
      case hb3 => omega
      case hG3 => intro n hn; have h1 := thr1_len p i; have h2 := thr2_len p i j; have h3 := thr3_len p i (i + 1 + j) n; rw [List.length_append, List.length_append]; omega
      case turn3 =>
        clear F5 N5 R5
        intro k t3 m₃ h tk I3 o3 l3 ep3 hk3 hl3 hlen3 hne3 hall3 F₆ N₆
        simp only [frm] at F₆
        have hall3' := hall3
        simp only [AllNe, and_true] at hall3
        k_steps
        · with_reducible rename Fr _ _ _ _ => F9
          with_reducible rename News _ _ _ _ => N9
          exact acc_end F9 N9 (by k_mem) (by k_mem) (sub1 (by k_mem) (sub1 (by k_mem) sub0)) rfl hne3 hall3' ⟨by with_unfolding_all rfl, by with_unfolding_all rfl, by with_unfolding_all rfl, by with_unfolding_all rfl, trivial⟩ (thr_yes hl3 (by assumption))
        · with_reducible rename Fr _ _ _ _ => F9
          with_reducible rename News _ _ _ _ => N9
          exact acc_end F9 N9 (by k_mem) (by k_mem) (sub1 (by k_mem) (sub1 (by k_mem) sub0)) rfl hne3 hall3' ⟨by with_unfolding_all rfl, by with_unfolding_all rfl, by with_unfolding_all rfl, by with_unfolding_all rfl, trivial⟩ (thr_no hl3 (by assumption))
      case done3 =>
        clear F5 N5 R5
        intro m₃ h tk l3 ep3 hl3 hlen3 F₆ N₆
        simp only [frm] at F₆
        k_steps
        with_reducible rename Fr _ _ _ _ => F9
        with_reducible rename News _ _ _ _ => N9
        exact acc_end F9 N9 (by k_mem) (by k_mem) (sub1 (by k_mem) sub0) rfl hne2 hall2' ⟨by with_unfolding_all rfl, by with_unfolding_all rfl, by with_unfolding_all rfl, trivial⟩ (thr_up3 hl3)
    case done2 =>
      clear F3 N3 R3
      intro m₂ h tk l2 ep2 hl2 hlen2 F₄ N₄
      simp only [frm] at F₄
      k_steps
      with_reducible rename Fr _ _ _ _ => F9
      with_reducible rename News _ _ _ _ => N9
      exact acc_end F9 N9 (by k_mem) (by k_mem) sub0 rfl hne hall ⟨by with_unfolding_all rfl, by with_unfolding_all rfl, trivial⟩ (thr_up2 hl2)
  case done =>
    clear F1 N1
    intro m₁ h tk l ep hl hlen F₂ N₂
    simp only [frm] at F₂
    k_steps
    with_reducible rename Fr _ _ _ _ => F9
    with_reducible rename News _ _ _ _ => N9
    exact ⟨F9.keep, ret _ l ep _ _ hl F9.keep (N9 _ (.head _)).1 (N9 _ (.head _)).2.2⟩
end Mine

end PXT1h
section PXPd
open PySem PySem.Spec PySem.Calls PyProof.Rows
namespace Mine
set_option maxRecDepth 100000
/-- the pile's state between two signs: what is written (a sign, the pile from its foot up), the pile from its foot up, how many signs are laid -/
structure PS where
  H : List (Nat × List Nat)
  P : List Nat
  la : Nat
  deriving DecidableEq
def pushed (P : List Nat) (la u : Nat) : List Nat := P ++ (List.range u).map fun t => 97 + (la + t)
def need (P : List Nat) (la c : Nat) : Nat := ((List.range 6).find? fun u => (pushed P la u).contains c).getD 6
def step (s : PS) (c : Nat) : Option PS :=
  let P' := pushed s.P s.la (need s.P s.la c)
  if P'.getLast? = some c then some ⟨s.H ++ [(c, P')], P'.dropLast, s.la + need s.P s.la c⟩ else none
def stuckOf (s : PS) (c : Nat) : List Nat :=
  let P' := pushed s.P s.la (need s.P s.la c)
  [c, P'.getLast?.getD 0, 97 + (s.la + need s.P s.la c - 1)]
def pileGo : List Nat → PS → List (Nat × List Nat) × List Nat
  | [], s => (s.H, [])
  | c :: r, s => match step s c with
    | some s' => pileGo r s'
    | none => (s.H, stuckOf s c)
def stAt (r : List Nat) : Nat → Option PS
  | 0 => some ⟨[], [], 0⟩
  | i + 1 => match stAt r i, r[i]? with
    | some s, some c => step s c
    | _, _ => none
def pileOf (p : List Nat) : List (Nat × List Nat) × List Nat := pileGo p.reverse ⟨[], [], 0⟩
/-- what each turn may lean on -/
def turnOk (p : List Nat) (i : Nat) : Bool := match stAt p.reverse i, p.reverse[i]? with
  | some s, some c =>
    let u := need s.P s.la c
    decide (u < 6 ∧ s.la + u ≤ 5 ∧ s.P.length ≤ 5 ∧ s.H.length ≤ 5 ∧ (pushed s.P s.la u).contains c = true ∧ (∀ v < u, (pushed s.P s.la v).contains c = false) ∧ (s.H.all fun h => h.1 != c) = true ∧ 1 ≤ (pushed s.P s.la u).length ∧ (pushed s.P s.la u).length ≤ 5 ∧ 1 ≤ s.la + u ∧
      pileOf p = pileGo (c :: p.reverse.drop (i + 1)) s)
  | _, _ => true
theorem turn_ok {p : List Nat} (hp : IsPerm p) {i : Nat} (hi : i < 5) : turnOk p i = true := by
  have z : ∀ i < 5, turnOk p i = true := perm_all (P := fun p => ∀ i < 5, turnOk p i = true) (by decide +kernel) hp
  exact z i hi
theorem end_ok {p : List Nat} (hp : IsPerm p) : ∀ s, stAt p.reverse 5 = some s → pileOf p = (s.H, []) := by
  have z : (match stAt p.reverse 5 with | some s => decide (pileOf p = (s.H, [])) | none => true) = true :=
    perm_all (P := fun p => (match stAt p.reverse 5 with | some s => decide (pileOf p = (s.H, [])) | none => true) = true) (by decide +kernel) hp
  intro s hs
  rw [hs] at z
  exact of_decide_eq_true z
theorem perm_signs {p : List Nat} (hp : IsPerm p) : p.length = 5 ∧ ∀ c ∈ p, 97 ≤ c ∧ c ≤ 101 := by
  have z : (decide (p.length = 5) && p.all fun c => decide (97 ≤ c) && decide (c ≤ 101)) = true := perm_all (P := fun p => (decide (p.length = 5) && p.all fun c => decide (97 ≤ c) && decide (c ≤ 101)) = true) (by decide +kernel) hp
  simp only [Bool.and_eq_true, decide_eq_true_eq, List.all_eq_true] at z
  exact z
end Mine

end PXPd
section PXPr
open PySem PySem.Spec PySem.Calls PySem.W PyProof.Rows
namespace Mine
set_option maxRecDepth 100000
theorem strsAre_vals : ∀ l : List (Str × Tok), StrsAre (strValues l) (l.map (·.1))
  | [] => .nil
  | p :: r => .cons p.1 p.2 (strsAre_vals r)
theorem sg_beq (a b : Nat) : (sg a == sg b) = (a == b) := by
  by_cases h : a = b
  · subst h; rw [beq_self_eq_true, beq_self_eq_true]
  · have n : sg a ≠ sg b := fun e => h (by have := congrArg Str.cps e; simpa [sg] using this)
    rw [beq_eq_false_iff_ne.mpr h, beq_eq_false_iff_ne.mpr n]
theorem any_sg (l : List Nat) (c : Nat) : (l.map sg).any (· == sg c) = l.contains c := by
  induction l with
  | nil => rfl
  | cons a r ih => rw [List.map_cons, List.any_cons, ih, sg_beq, List.contains_cons, Bool.beq_comm]
theorem rev_list (l : List Nat) : (List.range l.length).map (fun k => l.getD (l.length - 1 - k) 0) = l.reverse := by
  apply List.ext_getElem
  · simp
  · intro i h1 h2
    simp at h1
    simp only [List.getElem_map, List.getElem_range, List.getElem_reverse]
    rw [List.getD_eq_getElem?_getD, List.getElem?_eq_getElem (by omega)]
    rfl
theorem rev_tx (p : List Nat) (u : Tok) : Txt.sliceBy (tx p) none none (-1, u) = tx p.reverse := by
  refine Str.ext' (Array.toList_inj.mp ?_)
  rw [step_rev_list]
  show (List.range p.toArray.size).map (fun k => p.toArray.getD (p.toArray.size - 1 - k) 0) = p.reverse.toArray.toList
  rw [List.toList_toArray, ← rev_list]
  simp [Array.getD_eq_getD_getElem?, List.getD_eq_getElem?_getD]
section
variable {prog : Program} {w : World} {A : Around} {E : Value → Shared → Prop} {s : Shared} {h₀ : Heap} {L D D2 : Addr} {m : Str → Option Value} {news news' : List (Addr × Obj)} {value slice : PySem.Expr} {its its2 : Array Value} {l l2 : List (Str × Tok)} {n n2 : Nat}

theorem rev_str {p : List Nat} {t uk : Tok} {ops : List Value} {Q : Value → Shared → Prop} (F : Fr h₀ L s.heap m) (N : News h₀ L s.heap news) (hz : p.length ≤ 100) (h : ∀ h' t' k, Fr h₀ L h' m → News h₀ L h' news → Q (.str (tx p.reverse) t') { s with heap := h', toks := k })
    (hs : subscripted slice false (.str (tx p) t) (.ref s.heap.objs.size) = operate ops (getItem (.str (tx p) t) (.ref s.heap.objs.size))) (ht : ∀ r, letTemporaryGo value (.str (tx p) t) r = pure ()) :
    wpAny (model prog w) A (subscriptTail value slice (.str (tx p) t) (.ref s.heap.objs.size)) Q E { s with heap := s.heap.push { cls := .type "slice", data := .fields #[.none, .none, .int (-1) uk] } } := by
  have hl : (tx p).length = p.length := by show p.toArray.size = _; simp
  refine tail_of_ItemOn ⟨"str", _, PySem.F.slot_str_getitem.lookup, typeIs_str _ _ _, wpAny_getItem_str_slice (l := none) (u := none) (st := some (-1, uk)) ⟨_, Heap.get?_push_size _ rfl, rfl, rfl⟩ rfl
    (post_val_or_str ⟨?_, fun t' c => ?_⟩)⟩ hs ht
  · refine Nat.le_trans (Txt.sliceBy_le (tx p) none none (-1, uk) (by show (-1 : Int) ≠ 0; decide)) ?_
    rw [hl]; exact Nat.le_trans hz (by rw [sizeLine_eq]; decide)
  · have e : (if (((some ((-1 : Int), uk)).map (·.1)).getD 1 == 1 && (slicePicked (tx p) none none (some (-1, uk))).length == (tx p).length) = true then tx p else ⟨((slicePicked (tx p) none none (some (-1, uk))).filterMap ((tx p).cps[·]?)).toArray⟩) = tx p.reverse := rev_tx p uk
    show Q (.str (if _ then _ else _) t') _
    rw [e]
    exact h _ t' c (keptFrN _ _ ⟨F, N⟩).1 (keptFrN _ _ ⟨F, N⟩).2

theorem notin_strs {t : Tok} {c : Nat} {cs : List Nat} {Q : Value → Shared → Prop} (N : News h₀ L s.heap news) (hm : (D, listOf its n) ∈ news) (e : its = (strValues l).toArray) (hl : l.map (·.1) = cs.map sg) (h : Q (.bool (!cs.contains c)) s) :
    wpAny (model prog w) A (compareOp .NotIn (.str (sg c) t) (.ref D)) Q E s := by
  subst e
  refine notin_list_strs (News.isList N hm) (strsAre_vals l) ?_
  rw [hl, any_sg]
  exact h

theorem vals_len (l : List (Str × Tok)) : (strValues l).toArray.size = l.length := by rw [List.size_toArray]; unfold strValues; rw [List.length_map]
theorem fits_le {n k : Nat} (h : n ≤ k) (hk : k ≤ 100000 := by decide) : n ≤ sizeLine := Nat.le_trans h (Nat.le_trans hk (by rw [sizeLine_eq]; decide))
theorem list_last {u : Tok} {x : Str} {Q : Value → Shared → Prop} (N : News h₀ L s.heap news) (hm : (D, listOf its n) ∈ news) (e : its = (strValues l).toArray) (hx : (l.map (·.1)).getLast? = some x) (hz : l.length ≤ 1000) (h : ∀ t, Q (.str x t) s)
    (hs : subscripted slice false (.ref D) (.int (-1) u) = operate [.ref D, .int (-1) u] (getItem (.ref D) (.int (-1) u))) :
    wpAny (model prog w) A (subscriptTail value slice (.ref D) (.int (-1) u)) Q E s := by
  subst e
  have hL := News.isList N hm
  have hne : l ≠ [] := by rintro rfl; cases hx
  have hpos : 0 < l.length := List.length_pos_iff.mpr hne
  obtain ⟨t, ht⟩ : ∃ t, l.getLast? = some (x, t) := by
    rw [List.getLast?_map] at hx
    cases q : l.getLast? with
    | none => rw [q] at hx; cases hx
    | some y => rw [q] at hx; cases hx; exact ⟨y.2, rfl⟩
  refine tail_any hL.typeIs slot_list_getitem.lookup (wpAny_getItem_list_neg (x := .str x t) hL (by decide) ?_ (by decide) ?_ (h t)) hs
  · rw [vals_len]; omega
  · rw [vals_len]
    have e : ((-1 : Int) + (l.length : Int)).toNat = l.length - 1 := by omega
    rw [e]
    rw [List.getLast?_eq_getElem?] at ht
    simp [strValues, ht]

theorem revList_strs {vk : Value} {ops : List Value} {Q : Value → Shared → Prop} (F : Fr h₀ L s.heap m) (N : News h₀ L s.heap news) (hm : (D, listOf its n) ∈ news) (e : its = (strValues l).toArray) (pk : IsPart vk (some (-1))) (hz : l.length ≤ 1000)
    (h : ∀ D h', Fr h₀ L h' m → News h₀ L h' ((D, listOf (strValues l.reverse).toArray 0) :: news) → (∀ p ∈ news, p.1 < D) → Q (.ref D) { s with heap := h' })
    (hs : subscripted slice false (.ref D) (.ref s.heap.objs.size) = operate ops (getItem (.ref D) (.ref s.heap.objs.size))) (ht : ∀ r, letTemporaryGo value (.ref D) r = pure ()) :
    wpAny (model prog w) A (subscriptTail value slice (.ref D) (.ref s.heap.objs.size)) Q E { s with heap := s.heap.push { cls := .type "slice", data := .fields #[.none, .none, vk] } } := by
  subst e
  refine krv_lit F N (News.isList N hm) pk ?_ h hs ht (by rw [vals_len]; exact fits_le hz)
  rw [List.toList_toArray]
  unfold strValues
  rw [List.map_reverse]

theorem add_strs {Q : Value → Shared → Prop} (F : Fr h₀ L s.heap m) (N : News h₀ L s.heap news) (h1 : (D, listOf its n) ∈ news) (h2 : (D2, listOf its2 n2) ∈ news) (e1 : its = (strValues l).toArray) (e2 : its2 = (strValues l2).toArray) (z1 : l.length ≤ 1000) (z2 : l2.length ≤ 1000)
    (h : ∀ D h', Fr h₀ L h' m → News h₀ L h' ((D, listOf (strValues (l ++ l2)).toArray 0) :: news) → (∀ p ∈ news, p.1 < D) → Q (.ref D) { s with heap := h' }) :
    wpAny (model prog w) A (binaryOp .Add (.ref D) (.ref D2)) Q E s := by
  subst e1 e2
  refine add_arrays F N (News.isList N h1) (News.isList N h2) (fun h' F' N' => ?_) (by rw [vals_len, vals_len]; exact fits_le (k := 2000) (by omega))
  refine h _ h' F' ?_ fun p hp => Heap.lt_size (N p hp).1
  have q : ((strValues l).toArray.toList ++ (strValues l2).toArray.toList).toArray = (strValues (l ++ l2)).toArray := by simp [strValues]
  rw [← q]
  exact N'

theorem kl_last_append : ∀ (a : List Value) (y : Value), kl_last (a ++ [y]) = some (a, y)
  | [], _ => rfl
  | x :: r, y => by
    show (match kl_last (r ++ [y]) with | some (p, y) => some (x :: p, y) | none => some ([], x)) = _
    rw [kl_last_append r y]
theorem pop_strs {Q : Value → Shared → Prop} (F : Fr h₀ L s.heap m) (N : News h₀ L s.heap news) (e : its = (strValues l).toArray) (hne : l ≠ []) (hz : l.length ≤ 1000) (U : Upd D (listOf its n) (listOf (strValues l.dropLast).toArray (n + 1)) news news')
    (h : ∀ v h', Fr h₀ L h' m → News h₀ L h' news' → Q v { s with heap := h' }) : wpAny (model prog w) A (call (.builtin "list.pop") [.ref D]) Q E s := by
  subst e
  refine kl_pop (p := strValues l.dropLast) (y := .str (l.getLast hne).1 (l.getLast hne).2) F N ?_ U (by rw [List.toList_toArray]; unfold strValues; rw [List.length_map]; exact fits_le hz) (h _)
  rw [List.toList_toArray, ← kl_last_append]
  congr 1
  conv => lhs; rw [← List.dropLast_concat_getLast hne]
  simp [strValues]
end
end Mine

end PXPr
section PXP0
open PySem PySem.Spec PySem.Calls PySem.W PyProof.Rows
namespace Mine
set_option maxRecDepth 100000
def hostS (P : List Nat) : Str := Txt.join (Str.ofString ".") (P.reverse.map sg ++ [Str.ofString "local"])
def hostKvs (HT : List ((Nat × List Nat) × Tok)) : List (Str × Value) := HT.map fun h => (sg h.1.1, .str (hostS h.1.2) h.2)
def hostD (H : List (Nat × List Nat)) : List (PyData × PyData) := H.map fun h => (.str (sg h.1), .str (hostS h.2))
theorem hostFlat : ∀ HT : List ((Nat × List Nat) × Tok), PyProof.V.FlatPairs PyData.str (hostKvs HT) (hostD (HT.map (·.1)))
  | [] => .nil
  | _ :: r => .cons (PyProof.V.Flat.str _ _) (hostFlat r)
theorem sg_inj {a b : Nat} (h : sg a = sg b) : a = b := by have := congrArg Str.cps h; simpa [sg] using this
theorem host_stored {HT : List ((Nat × List Nat) × Tok)} {c : Nat} {P : List Nat} {t : Tok} (h : ((HT.map (·.1)).all fun h => h.1 != c) = true) : stored (hostKvs HT) (sg c) (.str (hostS P) t) = hostKvs (HT ++ [((c, P), t)]) := by
  have q : (hostKvs HT).any (fun kv => kv.1 = sg c) = false := by
    rw [List.any_eq_false]
    intro kv hkv
    obtain ⟨x, hx, rfl⟩ := List.mem_map.mp hkv
    have := List.all_eq_true.mp h x.1 (List.mem_map.mpr ⟨x, hx, rfl⟩)
    simp only [bne_iff_ne] at this
    simpa using fun e => this (sg_inj e)
  unfold stored
  rw [q]
  simp [hostKvs]
structure TurnIs (p : List Nat) (i c : Nat) (st : PS) : Prop where
  u6 : need st.P st.la c < 6
  la5 : st.la + need st.P st.la c ≤ 5
  p5 : st.P.length ≤ 5
  h5 : st.H.length ≤ 5
  yes : (pushed st.P st.la (need st.P st.la c)).contains c = true
  no : ∀ v < need st.P st.la c, (pushed st.P st.la v).contains c = false
  fresh : (st.H.all fun h => h.1 != c) = true
  one : 1 ≤ (pushed st.P st.la (need st.P st.la c)).length
  five : (pushed st.P st.la (need st.P st.la c)).length ≤ 5
  la1 : 1 ≤ st.la + need st.P st.la c
  go : pileOf p = pileGo (c :: p.reverse.drop (i + 1)) st
theorem turnIs {p : List Nat} (hp : IsPerm p) {i c : Nat} {st : PS} (hs : stAt p.reverse i = some st) (hc : p.reverse[i]? = some c) : TurnIs p i c st := by
  have hi : i < 5 := by
    have := (List.getElem?_eq_some_iff.mp hc).1
    rw [List.length_reverse, (perm_signs hp).1] at this
    exact this
  have z := turn_ok hp hi
  unfold turnOk at z
  rw [hs, hc] at z
  obtain ⟨a, b, c, d, e, f, g, h, i, j, k⟩ := of_decide_eq_true z
  exact ⟨a, b, c, d, e, f, g, h, i, j, k⟩
def pileJ (prog : Program) (w : World) (p : List Nat) (hd pl : Addr) (i : Nat) (m : Str → Option Value) (nx : List (Addr × Obj)) : Prop :=
  ∃ (st : PS) (o : Obj) (HT : List ((Nat × List Nat) × Tok)) (l : List (Str × Tok)) (ep : Nat) (tl : Tok), stAt p.reverse i = some st ∧ HT.map (·.1) = st.H ∧ o.IsDictOf (PySem.strKind prog w) (hostKvs HT) ∧ l.map (·.1) = st.P.map sg ∧
    nx = [(pl, listOf (strValues l).toArray ep), (hd, o)] ∧ Known m [(Str.ofString "laid", .int (st.la : Int) tl), (Str.ofString "pile", .ref pl), (Str.ofString "hosts", .ref hd)]
def whileJ (st : PS) (c : Nat) (tc : Tok) (hd pl I : Addr) (o oI : Obj) (n : Nat) (m : Str → Option Value) (nx : List (Addr × Obj)) : Prop :=
  ∃ (u : Nat) (l : List (Str × Tok)) (ep : Nat) (tl : Tok), n + u = need st.P st.la c ∧ l.map (·.1) = (pushed st.P st.la u).map sg ∧ nx = [(I, oI), (pl, listOf (strValues l).toArray ep), (hd, o)] ∧
    Known m [(Str.ofString "laid", .int ((st.la + u : Nat) : Int) tl), (Str.ofString "sign", .str (sg c) tc), (Str.ofString "pile", .ref pl), (Str.ofString "hosts", .ref hd)]
section
variable {prog : Program} {w : World} {A : Around} {E : Value → Shared → Prop} {s : Shared} {env : Env} {h₀ : Heap} {body : List Stmt} {Q : Flow → Shared → Prop} {x : Str}
theorem iter_pile {p : List Nat} (hp : IsPerm p) {tt : Tok} {hd pl : Addr} {o₀ : Obj} {m₀ : Str → Option Value} {tl : Tok} (hh : A.handled = none) (F : Fr h₀ env.locals s.heap m₀) (N : News h₀ env.locals s.heap [(pl, listOf #[] 0), (hd, o₀)]) (ho : o₀.IsDictOf (PySem.strKind prog w) [])
    (hk : Known m₀ [(Str.ofString "laid", .int 0 tl), (Str.ofString "pile", .ref pl), (Str.ofString "hosts", .ref hd)])
    (turn : ∀ (i c : Nat) (t : Tok) (m₁ : Str → Option Value) (h : Heap) (tk : Nat) (I : Addr) (oI : Obj) (st : PS) (o : Obj) (HT : List ((Nat × List Nat) × Tok)) (l : List (Str × Tok)) (ep : Nat) (tl : Tok),
      p.reverse[i]? = some c → stAt p.reverse i = some st → TurnIs p i c st → HT.map (·.1) = st.H → o.IsDictOf (PySem.strKind prog w) (hostKvs HT) → l.map (·.1) = st.P.map sg → @Ne Nat pl I → @Ne Nat hd I →
      Fr h₀ env.locals h (fun y => if y = x then some (.str (sg c) t) else if y = Str.ofString "laid" then some (.int (st.la : Int) tl) else if y = Str.ofString "pile" then some (.ref pl) else if y = Str.ofString "hosts" then some (.ref hd) else m₁ y) →
      News h₀ env.locals h [(I, oI), (pl, listOf (strValues l).toArray ep), (hd, o)] →
      wpAny (model prog w) A (execs body env) (TurnJ h₀ env.locals (I, oI) (pileJ prog w p hd pl (i + 1)) { s with heap := h, toks := tk } Q) E { s with heap := h, toks := tk })
    (done : ∀ (m₁ : Str → Option Value) (h : Heap) (tk : Nat) (st : PS) (o : Obj) (HT : List ((Nat × List Nat) × Tok)) (l : List (Str × Tok)) (ep : Nat) (tl : Tok), pileOf p = (st.H, []) → HT.map (·.1) = st.H → o.IsDictOf (PySem.strKind prog w) (hostKvs HT) →
      Fr h₀ env.locals h (fun y => if y = Str.ofString "laid" then some (.int (st.la : Int) tl) else if y = Str.ofString "pile" then some (.ref pl) else if y = Str.ofString "hosts" then some (.ref hd) else m₁ y) →
      News h₀ env.locals h [(pl, listOf (strValues l).toArray ep), (hd, o)] → Q .next { s with heap := h, toks := tk }) :
    wpAny (model prog w) A (pyIter (.str (tx p.reverse) tt)) (fun it s₂ => LoopAtV prog w A h₀ env x body Q E it s₂) E s := by
  refine iter_textJ (pileJ prog w p hd pl) hh F N ⟨⟨[], [], 0⟩, o₀, [], [], 0, tl, rfl, rfl, ho, rfl, rfl, hk⟩ ?_ ?_
  · rintro i c t m₁ nx h tk I oI hc ⟨st, o, HT, l, ep, tl, hs, hH, hO, hl, rfl, hm⟩ hI F₁ N₁
    have hc' : p.reverse[i]? = some c := by simpa [tx] using hc
    exact turn i c t m₁ h tk I oI st o HT l ep tl hc' hs (turnIs hp hs hc') hH hO hl (hI _ (.head _)) (hI _ (.tail _ (.head _))) (fr_known1 F₁ hm) N₁
  · rintro m₁ nx h tk ⟨st, o, HT, l, ep, tl, hs, hH, hO, hl, rfl, hm⟩ F₁ N₁
    have e5 : (tx p.reverse).cps.size = 5 := by simp [tx, (perm_signs hp).1]
    rw [e5] at hs
    exact done m₁ h tk st o HT l ep tl (end_ok hp st hs) hH hO (fr_known F₁ hm) N₁
theorem iter_while {test : Expr} {pos : Pos} {st : PS} {c : Nat} {tc : Tok} {hd pl I : Addr} {o oI : Obj} {m₀ : Str → Option Value} {l₀ : List (Str × Tok)} {ep₀ : Nat} {L : Addr} {tl₀ : Tok} (F : Fr h₀ L s.heap m₀) (N : News h₀ L s.heap [(I, oI), (pl, listOf (strValues l₀).toArray ep₀), (hd, o)])
    (hl : l₀.map (·.1) = st.P.map sg) (hk : Known m₀ [(Str.ofString "laid", .int (st.la : Int) tl₀), (Str.ofString "sign", .str (sg c) tc), (Str.ofString "pile", .ref pl), (Str.ofString "hosts", .ref hd)])
    (turn : ∀ (n u : Nat) (m₁ : Str → Option Value) (h : Heap) (tk : Nat) (l : List (Str × Tok)) (ep : Nat) (tl : Tok), n + u = need st.P st.la c → l.map (·.1) = (pushed st.P st.la u).map sg →
      Fr h₀ L h (fun y => if y = Str.ofString "laid" then some (.int ((st.la + u : Nat) : Int) tl) else if y = Str.ofString "sign" then some (.str (sg c) tc) else if y = Str.ofString "pile" then some (.ref pl) else if y = Str.ofString "hosts" then some (.ref hd) else m₁ y) →
      News h₀ L h [(I, oI), (pl, listOf (strValues l).toArray ep), (hd, o)] →
      wpAny (model prog w) A (isTrue test env (eval test env)) (fun b s₂ =>
        if b = true then wpAny (model prog w) A (execs body env) (WhileStep2 h₀ L s (whileJ st c tc hd pl I o oI) Q n) E s₂ else Q .next s₂) E { s with heap := h, toks := tk })
    (hE : PassesOwn (model prog w) A env E := by passes_own) : wpAny (model prog w) A (exec (.While test body [] pos) env) Q E s := by
  refine While_inv2 (whileJ st c tc hd pl I o oI) (n₀ := need st.P st.la c) F N ⟨0, l₀, ep₀, tl₀, rfl, by rw [hl]; simp [pushed], rfl, hk⟩ ?_ hE
  rintro n m₁ nx h tk F₁ N₁ ⟨u, l, ep, tl, hn, hl', rfl, hm⟩
  exact turn n u m₁ h tk l ep tl hn hl' (fr_known F₁ hm) N₁
end
end Mine

end PXP0
section PXP1
open PySem PySem.Spec PySem.Calls PySem.W PyProof.Rows
namespace Mine
local macro_rules | `(tactic| walk_at "own_enter") => `(tactic| (k_dflt (refine' enter_own ?k1 ?k2 ?k3 ?k5 ?kA ?kF ?kK ?k6 ?k7 ?k8 ?k9 ?kB ?_ ?c2 ?c3 ?c4 ?c5; (case kA => exact rfl); (case kF => exact rfl); (case kK => assumption); (case k1 => k_asm); (case k2 => k_asm); (case k3 => k_asm); (case k5 => k_asm); (case k6 => k_is); (case k7 => k_is); (case k8 => ktr_room); (case k9 => exact BindsTo.of_eq rfl); (case c5 => decide); (case kB => exact locs rfl); (case c2 => exact rfl); (case c3 => exact rfl); (case c4 => exact rfl); k_whole; intro L' h' F' N' B' X' T'; (try dsimp only); (try k_lift B'); (try k_fold))))
local macro_rules | `(tactic| walk_at "fill") => `(tactic| ((have _ff : PySem.Challenge.rw_xe0046_01 = PySem.Challenge.rw_xe0046_01 ∧ hd.heap_39 = hd.heap_39 := by (k_fill; exact ⟨rfl, rfl⟩)); clear _ff))
local macro_rules | `(tactic| walk_at "to_loop") => `(tactic| repeat' (first | ((fail_if_success (with_reducible show wpAny _ _ (pyIter _) _ _ _)); (fail_if_success (with_reducible show wpAny _ _ (exec (Stmt.While _ _ _ _) _) _ _ _)); first | (k_unfold; (try dsimp only)) | (k_end; wrow_close) | walk1 | (dsimp only; walk1) | (leave1; walk_say "STEP leave1"; try dsimp only) | fail "no step")))
local macro_rules | `(tactic| walk_at "exec For Name Subscript cons nil") => `(tactic| (k_here; (rename Fr _ _ _ _ => lF'); (with_unfolding_all refine' For_invVF lF' ?k1 ?k2 ?_; (case k1 => exact rfl); (case k2 => exact rfl); k_whole)))
local macro_rules | `(tactic| walk_at "exec For Name BinOp cons nil") => `(tactic| (k_here; (rename Fr _ _ _ _ => lF'); (with_unfolding_all refine' For_invVF lF' ?k1 ?k2 ?_; (case k1 => exact rfl); (case k2 => exact rfl); k_whole)))
local macro_rules | `(tactic| walk_at "exec For Name Name cons nil") => `(tactic| (k_here; (rename Fr _ _ _ _ => lF'); (with_unfolding_all refine' For_invVF lF' ?k1 ?k2 ?_; (case k1 => exact rfl); (case k2 => exact rfl); k_whole)))
local macro_rules | `(tactic| walk_at "exec For Name Tuple cons nil") => `(tactic| (k_here; (rename Fr _ _ _ _ => lF'); (with_unfolding_all refine' For_invVF lF' ?k1 ?k2 ?_; (case k1 => exact rfl); (case k2 => exact rfl); k_whole)))
local macro_rules | `(tactic| walk_at "exec For Name Call cons nil") => `(tactic| (k_here; (rename Fr _ _ _ _ => lF'); (with_unfolding_all refine' For_invVF lF' ?k1 ?k2 ?_; (case k1 => exact rfl); (case k2 => exact rfl); k_whole)))
set_option maxRecDepth 100000
theorem pushed_succ (P : List Nat) (la u : Nat) : pushed P la (u + 1) = pushed P la u ++ [97 + (la + u)] := by
  unfold pushed; rw [List.range_succ, List.map_append, List.append_assoc]; rfl
theorem while_end {h₀ h' : Heap} {L : Addr} {s₁ : Shared} {st : PS} {c : Nat} {tc : Tok} {hd pl I : Addr} {o oI : Obj} {Q : Flow → Shared → Prop} {n u : Nat} {m' : Str → Option Value} {news' : List (Addr × Obj)} {l : List (Str × Tok)} {its : Array Value} {ep : Nat} {t tl : Tok} {tk : Nat} {y : Str} {v : Int}
    (F : Fr h₀ L h' m') (N : News h₀ L h' news') (h1 : (I, oI) ∈ news') (h2 : (pl, listOf its ep) ∈ news') (h3 : (hd, o) ∈ news') (hit : its = (strValues (l ++ [(y, t)])).toArray) (hy : y = sg (97 + (st.la + u))) (hl : l.map (·.1) = (pushed st.P st.la u).map sg) (hu : n + u = need st.P st.la c) (hlt : u < need st.P st.la c)
    (k1 : m' (Str.ofString "laid") = some (.int v tl)) (kv : v = ((st.la + u : Nat) : Int) + 1) (k2 : m' (Str.ofString "sign") = some (.str (sg c) tc)) (k3 : m' (Str.ofString "pile") = some (.ref pl)) (k4 : m' (Str.ofString "hosts") = some (.ref hd)) :
    WhileStep2 h₀ L s₁ (whileJ st c tc hd pl I o oI) Q n .next { s₁ with heap := h', toks := tk } := by
  subst hit hy
  refine ⟨h', tk, m', [(I, oI), (pl, listOf (strValues (l ++ [(sg (97 + (st.la + u)), t)])).toArray ep), (hd, o)], n - 1, rfl, F, fun p hp => N p ?_, by omega, u + 1, _, ep, tl, by omega, ?_, rfl, ?_, k2, k3, k4, trivial⟩
  · rcases List.mem_cons.mp hp with rfl | hp; exact h1
    rcases List.mem_cons.mp hp with rfl | hp; exact h2
    cases List.mem_singleton.mp hp; exact h3
  · rw [List.map_append, hl, pushed_succ, List.map_append]; rfl
  · rw [k1, kv]; congr 2
def stuckS (l : List Nat) : Str := tx l
theorem stuck3 (a b c : Nat) : sg a ++ sg b ++ sg c = tx [a, b, c] := rfl
theorem pile_end {prog : Program} {w : World} {h₀ h' : Heap} {L : Addr} {s₁ : Shared} {p : List Nat} {st : PS} {i c d : Nat} {hd pl : Addr} {io : Addr × Obj} {o : Obj} {HT : List ((Nat × List Nat) × Tok)} {m' : Str → Option Value} {news' : List (Addr × Obj)} {l : List (Str × Tok)} {its : Array Value} {ep : Nat} {t tl : Tok} {tk : Nat}
    (F : Fr h₀ L h' m') (N : News h₀ L h' news') (h1 : io ∈ news') (h2 : (pl, listOf its ep) ∈ news') (h3 : (hd, o) ∈ news') (hit : its = (strValues l.dropLast).toArray) (hl : l.map (·.1) = (pushed st.P st.la (need st.P st.la c)).map sg) (n1 : @Ne Nat pl io.1) (n2 : @Ne Nat hd io.1)
    (hs : stAt p.reverse i = some st) (hc : p.reverse[i]? = some c) (hd' : (pushed st.P st.la (need st.P st.la c)).getLast? = some d) (hdc : (sg d != sg c) = false) (hH : HT.map (·.1) = st.H) (hf : (st.H.all fun h => h.1 != c) = true)
    (hO : o.IsDictOf (PySem.strKind prog w) (stored (hostKvs HT) (sg c) (.str (hostS (pushed st.P st.la (need st.P st.la c))) t)))
    (k1 : m' (Str.ofString "laid") = some (.int ((st.la + need st.P st.la c : Nat) : Int) tl)) (k3 : m' (Str.ofString "pile") = some (.ref pl)) (k4 : m' (Str.ofString "hosts") = some (.ref hd)) :
    EndJ h₀ L io (pileJ prog w p hd pl (i + 1)) s₁ { s₁ with heap := h', toks := tk } := by
  subst hit
  have e : d = c := by
    rw [bne_eq_false_iff_eq] at hdc
    exact sg_inj hdc
  subst e
  rw [host_stored (by rw [hH]; exact hf)] at hO
  refine EndJ.intro (nx := [(pl, listOf (strValues l.dropLast).toArray ep), (hd, o)]) F N h1 (fun p hp => ?_) (fun p hp => ?_) ⟨⟨st.H ++ [(d, pushed st.P st.la (need st.P st.la d))], (pushed st.P st.la (need st.P st.la d)).dropLast, st.la + need st.P st.la d⟩, o, _, l.dropLast, ep, tl, ?_, ?_, hO, ?_, rfl, k1, k3, k4, trivial⟩
  · rcases List.mem_cons.mp hp with rfl | hp; exact h2
    cases List.mem_singleton.mp hp; exact h3
  · rcases List.mem_cons.mp hp with rfl | hp; exact n1
    cases List.mem_singleton.mp hp; exact n2
  · show (match stAt p.reverse i, p.reverse[i]? with | some s, some c => step s c | _, _ => none) = _
    rw [hs, hc]
    show step st d = _
    unfold step
    dsimp only
    rw [if_pos hd']
  · rw [List.map_append, hH]; rfl
  · rw [List.map_dropLast, hl, ← List.map_dropLast]
theorem pile_stuck {p : List Nat} {st : PS} {i c d : Nat} (hT : TurnIs p i c st) (hd' : (pushed st.P st.la (need st.P st.la c)).getLast? = some d) (hdc : (sg d != sg c) = true) : pileOf p = (st.H, [c, d, 97 + (st.la + need st.P st.la c - 1)]) := by
  have n : d ≠ c := fun e => by subst e; simp at hdc
  rw [hT.go]
  show (match step st c with | some s' => pileGo _ s' | none => (st.H, stuckOf st c)) = _
  have e : step st c = none := by
    unfold step
    dsimp only
    rw [if_neg (by rw [hd']; exact fun e => n (Option.some.inj e))]
  rw [e]
  show (st.H, stuckOf st c) = _
  unfold stuckOf
  dsimp only
  rw [hd']
  rfl
theorem pile_ret {prog : Program} {w : World} {g h' : Heap} {L : Addr} {s₁ : Shared} {p : List Nat} {H : List (Nat × List Nat)} {sl : List Nat} {hd tup : Addr} {o : Obj} {HT : List ((Nat × List Nat) × Tok)} {m' : Str → Option Value} {news' : List (Addr × Obj)} {x : Str} {t : Tok} {tk : Nat} {Q : Value → Shared → Prop}
    (F : Fr g L h' m') (N : News g L h' news') (h1 : (tup, ({ cls := .type "tuple", data := .seq #[.ref hd, .str x t] } : Obj)) ∈ news') (h3 : (hd, o) ∈ news') (lo : (hd == sysModules) = false) (hH : HT.map (·.1) = H) (hO : o.IsDictOf (PySem.strKind prog w) (hostKvs HT)) (hp : pileOf p = (H, sl)) (hx : x = tx sl)
    (ret : ∀ tup hd o HT t h' tk', HT.map (·.1) = (pileOf p).1 → o.IsDictOf (PySem.strKind prog w) (hostKvs HT) → (hd == sysModules) = false → g.StaysIn h' → h'.get? tup = some ({ cls := .type "tuple", data := .seq #[.ref hd, .str (tx (pileOf p).2) t] } : Obj) → h'.get? hd = some o → g.get? tup = none → g.get? hd = none → Q (.ref tup) { s₁ with heap := h', toks := tk' }) :
    LeaveP g Q (.ref tup) { s₁ with heap := h', toks := tk } := by
  subst hx
  refine ⟨F.keep, ret tup hd o HT t h' tk (by rw [hp]; exact hH) hO lo F.keep ?_ (N _ h3).1 (N _ h1).2.2 (N _ h3).2.2⟩
  rw [hp]; exact (N _ h1).1
theorem notin_b {prog : Program} {w : World} {A : Around} {E : Value → Shared → Prop} {s : Shared} {h₀ : Heap} {L D : Addr} {news : List (Addr × Obj)} {its : Array Value} {l : List (Str × Tok)} {n : Nat} {t : Tok} {c : Nat} {cs : List Nat} {b : Bool} {Q : Value → Shared → Prop} (N : News h₀ L s.heap news) (hm : (D, listOf its n) ∈ news) (e : its = (strValues l).toArray) (hl : l.map (·.1) = cs.map sg) (hb : cs.contains c = b) (h : Q (.bool (!b)) s) :
    wpAny (model prog w) A (compareOp .NotIn (.str (sg c) t) (.ref D)) Q E s := notin_strs N hm e hl (by rw [hb]; exact h)
theorem sub_one {n : Nat} (h : 1 ≤ n) : (n : Int) - 1 = ((n - 1 : Nat) : Int) := by omega
theorem add_one' (n : Nat) : (n : Int) + 1 = ((n + 1 : Nat) : Int) := by omega
theorem host_parts {l : List (Str × Tok)} {P : List Nat} {t : Tok} (hl : l.map (·.1) = P.map sg) : (l.reverse ++ [(Str.ofString "local", t)]).map (·.1) = P.reverse.map sg ++ [Str.ofString "local"] := by
  rw [List.map_append, List.map_reverse, hl, List.map_reverse]; rfl
theorem host_len {P : List Nat} (h : P.length ≤ 5) : (P.reverse.map sg ++ [Str.ofString "local"]).length ≤ 100 ∧ ∀ y ∈ P.reverse.map sg ++ [Str.ofString "local"], y.length ≤ 100 := by
  constructor
  · simp; omega
  · intro y hy
    rcases List.mem_append.mp hy with hy | hy
    · obtain ⟨c, _, rfl⟩ := List.mem_map.mp hy
      show 1 ≤ 100
      omega
    · cases List.mem_singleton.mp hy
      decide
theorem hostD_len {HT : List ((Nat × List Nat) × Tok)} {H : List (Nat × List Nat)} (h : HT.map (·.1) = H) (h5 : H.length ≤ 5) : (hostD (HT.map (·.1))).length ≤ sizeLine := by
  rw [h]; unfold hostD; rw [List.length_map]; exact fits_le h5
theorem len_of_map {l : List (Str × Tok)} {P : List Nat} (hl : l.map (·.1) = P.map sg) : l.length = P.length := by
  have := congrArg List.length hl; simpa using this
theorem last_of_map {l : List (Str × Tok)} {P : List Nat} {d : Nat} (hl : l.map (·.1) = P.map sg) (hd : P.getLast? = some d) : (l.map (·.1)).getLast? = some (sg d) := by
  rw [hl, List.getLast?_map, hd]; rfl
local macro_rules | `(tactic| walk_at "subscriptTail") => `(tactic| (k_here; (with_reducible show wpAny _ _ (subscriptTail _ _ (Value.str (Str.ofString "abcde") _) (Value.int _ _)) _ _ _); k_dflt (refine' abc_item ?e ?i ?_ ?hs ?ht; (case e => first | exact rfl | exact sub_one (by omega)); (case i => omega); (case hs => with_unfolding_all rfl); (case ht => intro _; with_unfolding_all rfl))))
local macro_rules | `(tactic| walk_at "subscriptTail") => `(tactic| (k_here; (with_reducible show wpAny _ _ (subscriptTail _ _ (Value.str (Mine.tx _) _) (Value.ref _)) _ _ _); k_dflt (refine' rev_str ?F ?N ?z ?_ ?hs ?ht; (case F => k_asm); (case N => k_asm); (case z => (rw [(perm_signs (by with_reducible assumption)).1]; decide)); (case hs => with_unfolding_all rfl); (case ht => intro _; with_unfolding_all rfl)); intro h' t' k' F' N'; (try k_sweep)))
local macro_rules | `(tactic| walk_at "compareOp NotIn str ref") => `(tactic| (k_here; k_dflt (refine' notin_b ?N ?m ?e ?l ?b ?_; (case N => k_asm); (case m => k_mem); (case e => exact rfl); (case l => with_reducible assumption); (case b => with_reducible assumption)); dsimp only [Bool.not_true, Bool.not_false]))
local macro_rules | `(tactic| walk_at "call builtin:list.append") => `(tactic| (k_here; k_dflt (refine' append_strs ?F ?N ?e ?z ?U ?_; (case F => k_asm); (case N => k_asm); (case e => exact rfl); (case U => k_upd); (case z => omega)); intro h' F' N'; (try k_sweep)))
local macro_rules | `(tactic| walk_at "subscriptTail") => `(tactic| (k_here; (with_reducible show wpAny _ _ (subscriptTail _ _ (Value.ref _) (Value.int (-1) _)) _ _ _); k_dflt (refine' list_last ?N ?m ?e ?x ?z ?_ ?s; (case N => k_asm); (case m => k_mem); (case e => exact rfl); (case x => with_reducible assumption); (case z => omega); (case s => with_unfolding_all rfl)); intro t'))
local macro_rules | `(tactic| walk_at "subscriptTail Name Slice ref ref") => `(tactic| (k_here; k_dflt (refine' revList_strs ?F ?N ?m ?e ?k ?z ?_ ?s ?t; (case F => k_asm); (case N => k_asm); (case m => k_mem); (case e => exact rfl); (case k => exact IsPart.int _ _); (case z => omega); (case s => with_unfolding_all rfl); (case t => kmk_pure)); intro D' h' F' N' l1; (try k_lt l1); (try k_sweep)))
theorem vals_one (x : Str) (t : Tok) : (#[.str x t] : Array Value) = (strValues [(x, t)]).toArray := rfl
local macro_rules | `(tactic| walk_at "binaryOp Add ref ref") => `(tactic| (k_here; k_dflt (refine' add_strs ?F ?N ?m1 ?m2 ?e1 ?e2 ?z1 ?z2 ?_; (case F => k_asm); (case N => k_asm); (case m1 => k_mem); (case m2 => k_mem); (case e1 => exact rfl); (case e2 => exact vals_one _ _); (case z1 => (rw [List.length_reverse]; omega)); (case z2 => exact Nat.le_of_ble_eq_true rfl)); intro D' h' F' N' l1; (try k_lt l1); (try k_sweep)))
local macro_rules | `(tactic| walk_at "call builtin:str.join") => `(tactic| (k_here; k_dflt (refine' join_strs (x := Str.ofString ".") ?N ?m ?e ?ey ?x ?a ?b ?_; (case N => k_asm); (case m => k_mem); (case e => exact rfl); (case ey => exact host_parts (by with_reducible assumption)); (case x => decide); (case a => exact (host_len (by with_reducible assumption)).1); (case b => exact (host_len (by with_reducible assumption)).2)); intro t' k'))
local macro_rules | `(tactic| walk_at "setItem ref str") => `(tactic| (k_here; k_dflt (refine' setItem_K PyProof.V.same_str (strKind_is _ _ _ _) (PyProof.V.Flat.str _ _) ?F ?N ?U ?d ?f ?_ ?z; (case F => k_asm); (case N => k_asm); (case U => k_updF); (case d => with_reducible assumption); (case f => exact hostFlat _); (case z => exact hostD_len (by with_reducible assumption) (by with_reducible assumption))); intro h' o' F' N' hd' hf'; (try dsimp only at N'); (try k_sweep)))
local macro_rules | `(tactic| walk_at "call builtin:list.pop") => `(tactic| (k_here; k_dflt (refine' pop_strs ?F ?N ?e ?n ?z ?U ?_; (case F => k_asm); (case N => k_asm); (case e => exact rfl); (case U => k_upd); (case n => with_reducible assumption); (case z => omega)); intro v' h' F' N'; (try k_sweep)))
set_option maxHeartbeats 8000000 in
theorem pile_call {w : World} {mean : ExcName → Option Value} {mg mb : Str → Option Value} {p : List Nat} (hp : IsPerm p) {t : Tok}
    {dp un : Nat} {gd : Option (List Code)} {cn : Str} {cs : Scope} {ca : Addr} {ccd : Value} {cl : List (Str × Addr)} {outer : List Env} {A₀ : Around} {base h₀ : Heap} {L : Addr} {m : Str → Option Value} {s : Shared} {Q E : Value → Shared → Prop}
    (B : Below A₀ base outer h₀) (F : Fr h₀ L s.heap m) (X : (hd.heap_39 w.params).In h₀) (T : TopX mean mg mb h₀) (hk : cs.kind = .function) (hdp : dp + 6 < recursionLimit) (hun : un + 20 < cLine)
    (ret : ∀ tup hd o HT t h' tk', HT.map (·.1) = (pileOf p).1 → o.IsDictOf (PySem.strKind lawProg w) (hostKvs HT) → (hd == sysModules) = false → s.heap.StaysIn h' → h'.get? tup = some ({ cls := .type "tuple", data := .seq #[.ref hd, .str (tx (pileOf p).2) t] } : Obj) → h'.get? hd = some o → s.heap.get? tup = none → s.heap.get? hd = none → Q (.ref tup) { s with heap := h', toks := tk' }) :
    wpAny (model lawProg w) (ktrTop dp un gd cn cs L ca ccd cl outer) (call (.ref 158) [.str (tx p) t]) Q E s := by
  walk_at "fill"
  walk_at "own_enter"
  walk_at "to_loop"
  with_reducible rename Fr _ _ _ _ => F1
  with_reducible rename News _ _ _ _ => N1
  refine' iter_pile (p := p) hp rfl F1 N1 (by assumption) ?kn ?turn ?done
  case kn => exact ⟨by with_unfolding_all rfl, by with_unfolding_all rfl, by with_unfolding_all rfl, trivial⟩
  case done =>
    clear F1 N1
    intro m₁ h tk st o HT l ep tl hgo hH hO F₂ N₂
    k_steps
    with_reducible rename Fr _ _ _ _ => F9
    with_reducible rename News _ _ _ _ => N9
    exact pile_ret F9 N9 (by k_mem) (by k_mem) (by assumption) hH hO hgo rfl ret
  case turn =>
    clear F1 N1
    intro i c t m₁ h tk I oI st o HT l ep tl hc hst hT hH hO hl n1 n2 F₂ N₂
    walk_at "to_loop"
    refine' iter_while F₂ N₂ hl ?kn2 ?turn2
    case kn2 => exact ⟨by with_unfolding_all rfl, by with_unfolding_all rfl, by with_unfolding_all rfl, by with_unfolding_all rfl, trivial⟩
    case turn2 =>
      clear F₂ N₂
      intro n u m₂ h tk l2 ep2 tl2 hu hl2 F₃ N₃
      have hlen2 := len_of_map hl2
      have hu6 := hT.u6
      have hla5 := hT.la5
      have hp5 := hT.p5
      by_cases hlt : u < need st.P st.la c
      · have hno := hT.no u hlt
        have hpl : (pushed st.P st.la u).length ≤ 10 := by simp [pushed]; omega
        k_steps
        with_reducible rename Fr _ _ _ _ => F9
        with_reducible rename News _ _ _ _ => N9
        exact while_end F9 N9 (by k_mem) (by k_mem) (by k_mem) rfl rfl hl2 hu hlt (by with_unfolding_all rfl) rfl (by with_unfolding_all rfl) (by with_unfolding_all rfl) (by with_unfolding_all rfl)
      · have hue : u = need st.P st.la c := by omega
        subst hue
        have hyes := hT.yes
        have hone := hT.one
        have hfive := hT.five
        have hla1 := hT.la1
        have hh5 := hT.h5
        obtain ⟨d, hd'⟩ : ∃ d, (pushed st.P st.la (need st.P st.la c)).getLast? = some d := by
          cases q : (pushed st.P st.la (need st.P st.la c)).getLast? with
          | none => rw [List.getLast?_eq_none_iff.mp q] at hone; cases hone
          | some d => exact ⟨d, rfl⟩
        have hx := last_of_map hl2 hd'
        have hne : l2 ≠ [] := by rintro rfl; cases hx
        k_steps
        · with_reducible rename Fr _ _ _ _ => F9
          with_reducible rename News _ _ _ _ => N9
          exact pile_ret F9 N9 (by k_mem) (by k_mem) (by assumption) hH hO (pile_stuck hT hd' (by assumption)) (stuck3 _ _ _) ret
        · with_reducible rename Fr _ _ _ _ => F9
          with_reducible rename News _ _ _ _ => N9
          exact pile_end F9 N9 (by k_mem) (by k_mem) (by k_mem) rfl hl2 n1 n2 hst hc hd' (by assumption) hH hT.fresh (by assumption) (by with_unfolding_all rfl) (by with_unfolding_all rfl) (by with_unfolding_all rfl)
end Mine

end PXP1
section PXN
open PySem PySem.Spec PySem.Calls PySem.W PyProof.Rows
namespace Mine
set_option maxRecDepth 100000
structure PileIs (p : List Nat) (H : List (Nat × List Nat)) (sk : Str) : Prop where
  h : H = (pileOf p).1
  s : sk = Mine.tx (pileOf p).2
structure ThrIs (p : List Nat) (l : List Str) : Prop where
  h : l = thr1 p 5
section
variable {h₀ h h' : Heap} {L : Addr} {m : Str → Option Value}
theorem fr_new {b : Addr} {o : Obj} (F : Fr h₀ L h m) (hb : h.get? b = none) (hg : h'.get? b = some o) : h'.get? b = some o ∧ b ≠ L ∧ h₀.get? b = none := by
  refine ⟨hg, fun e => ?_, ?_⟩
  · obtain ⟨_, _, _, ho, _⟩ := F.ns
    rw [e, ho] at hb
    cases hb
  · cases q : h₀.get? b with
    | none => rfl
    | some o => rw [F.keep _ _ q] at hb; cases hb
theorem fr_lt {b a : Addr} {o : Obj} (ha : h.get? a = some o) (hb : h.get? b = none) : @Ne Nat a b := fun e => by
  have e' : a = b := e
  rw [e', hb] at ha; cases ha
end
section
variable {w : World} {mean : ExcName → Option Value} {mg mb : Str → Option Value} {p : List Nat}
    {dp un : Nat} {gd : Option (List Code)} {cn : Str} {cs : Scope} {ca : Addr} {ccd : Value} {cl : List (Str × Addr)} {outer : List Env} {A₀ : Around} {base h₀ : Heap} {L : Addr} {m : Str → Option Value} {s : Shared} {Q E : Value → Shared → Prop} {news : List (Addr × Obj)}
theorem row_N {l : Addr} {vs : List Value} {ns : List Int} (hi : IntsAre vs ns) (hlen : ns.length ≤ 63) (hl : base.IsList l vs.toArray)
    (B : Below A₀ base outer h₀) (F : Fr h₀ L s.heap m) (X : (hd.heap_39 w.params).In h₀) (T : TopX mean mg mb h₀) (hk : cs.kind = .function) (hdp : dp + 1 < recursionLimit) (hun : un + 8 < cLine) (N : News h₀ L s.heap news)
    (ret : ∀ p, IsPerm p → ∀ t h' tk', Fr h₀ L h' m → News h₀ L h' news → Q (.str (Mine.tx p) t) { s with heap := h', toks := tk' }) :
    wpAny (model lawProg w) (ktrTop dp un gd cn cs L ca ccd cl outer) (call (.ref 144) [.ref l]) Q E s :=
  row_call hi hlen hl B F X T hk hdp hun fun p hp => use_retT F N (ret p hp)
theorem leads_N (hp : IsPerm p) {t : Tok}
    (B : Below A₀ base outer h₀) (F : Fr h₀ L s.heap m) (X : (hd.heap_39 w.params).In h₀) (T : TopX mean mg mb h₀) (hk : cs.kind = .function) (hdp : dp + 6 < recursionLimit) (hun : un + 20 < cLine) (N : News h₀ L s.heap news)
    (ret : ∀ l ws led h' tk', LeadsOn w.params p l ws led → Fr h₀ L h' m → News h₀ L h' (news ++ led) → Q (.ref l) { s with heap := h', toks := tk' }) :
    wpAny (model lawProg w) (ktrTop dp un gd cn cs L ca ccd cl outer) (call (.ref 151) [.str (Mine.tx p) t]) Q E s :=
  leads_call hp B F X T hk hdp hun fun l ws led h' tk' hL st hg => ret l ws led h' tk' hL (F.keeps st) fun q hq => by
    rcases List.mem_append.mp hq with hq | hq
    · exact (N.grown st) q hq
    · exact fr_new F (hg q hq).2 (hg q hq).1
theorem less_N {l : Addr} {ws : Nat → WsT} {led : List (Addr × Obj)} {i j : Nat} (hL : LeadsOn w.params p l ws led) (hled : ∀ q ∈ led, q ∈ news) (hi : i < 5) (hj : j < 5)
    (B : Below A₀ base outer h₀) (F : Fr h₀ L s.heap m) (X : (hd.heap_39 w.params).In h₀) (T : TopX mean mg mb h₀) (hk : cs.kind = .function) (hdp : dp + 1 < recursionLimit) (hun : un + 8 < cLine) (N : News h₀ L s.heap news)
    (ret : ∀ h' tk', Fr h₀ L h' m → News h₀ L h' news → Q (.bool (lessF (5 + (i : Int)) (at_ p (97 + i) : Int) (5 + (j : Int)) (at_ p (97 + j) : Int))) { s with heap := h', toks := tk' }) :
    wpAny (model lawProg w) (ktrTop dp un gd cn cs L ca ccd cl outer) (call (.ref 123) [.ref (ws i).x, .ref (ws j).x]) Q E s :=
  less_call (N _ (hled _ (hL.inst i hi))).1 (N _ (hled _ (hL.dict i hi))).1 (N _ (hled _ (hL.inst j hj))).1 (N _ (hled _ (hL.dict j hj))).1 B F X T hk hdp hun (use_ret F N ret)
def want2 (i j : Nat) : Str := Str.ofString "..." ++ sg (97 + i) ++ Str.ofString "..." ++ sg (97 + j) ++ Str.ofString "..."
theorem want2_ok {i j : Nat} (hi : i < 5) (hj : j < 5) : (Builtin.Str.occurrences (want2 i j) (Str.ofString "...") 0 (want2 i j).length 1).isEmpty = false ∧ Txt.split (want2 i j) (Str.ofString "...") = [Str.ofString "", sg (97 + i), sg (97 + j), Str.ofString ""] ∧ (want2 i j).length < 100 := by
  have z : ∀ i < 5, ∀ j < 5, (Builtin.Str.occurrences (want2 i j) (Str.ofString "...") 0 (want2 i j).length 1).isEmpty = false ∧ Txt.split (want2 i j) (Str.ofString "...") = [Str.ofString "", sg (97 + i), sg (97 + j), Str.ofString ""] ∧ (want2 i j).length < 100 := by decide +kernel
  exact z i hi j hj
theorem ell2_N {i j : Nat} {want : Str} {t1 t2 : Tok} (hw : want = want2 i j) (hp : IsPerm p) (hi : i < 5) (hj : j < 5)
    (B : Below A₀ base outer h₀) (F : Fr h₀ L s.heap m) (X : (hd.heap_39 w.params).In h₀) (T : TopX mean mg mb h₀) (hk : cs.kind = .function) (hdp : dp + 1 < recursionLimit) (hun : un + 8 < cLine) (N : News h₀ L s.heap news)
    (ret : ∀ h' tk', Fr h₀ L h' m → News h₀ L h' news → Q (.bool (ell2F (Mine.tx p) (sg (97 + i)) (sg (97 + j)))) { s with heap := h', toks := tk' }) :
    wpAny (model lawProg w) (ktrTop dp un gd cn cs L ca ccd cl outer) (call (.ref 71) [.str want t1, .str (Mine.tx p) t2]) Q E s := by
  subst hw
  exact ell2_call (want2 i j) (Mine.tx p) (sg (97 + i)) (sg (97 + j)) t1 t2 (want2_ok hi hj).1 (want2_ok hi hj).2.1 (want2_ok hi hj).2.2 (tx_len hp) rfl rfl B F X T hk hdp hun (use_ret F N ret)
theorem threes_N (hp : IsPerm p) {t : Tok}
    (B : Below A₀ base outer h₀) (F : Fr h₀ L s.heap m) (X : (hd.heap_39 w.params).In h₀) (T : TopX mean mg mb h₀) (hk : cs.kind = .function) (hdp : dp + 6 < recursionLimit) (hun : un + 20 < cLine) (N : News h₀ L s.heap news)
    (ret : ∀ th l ep h' tk', ThrIs p (l.map (·.1)) → Fr h₀ L h' m → News h₀ L h' ((th, listOf (strValues l).toArray ep) :: news) → (∀ q ∈ news, @Ne Nat q.1 th) → Q (.ref th) { s with heap := h', toks := tk' }) :
    wpAny (model lawProg w) (ktrTop dp un gd cn cs L ca ccd cl outer) (call (.ref 165) [.str (Mine.tx p) t]) Q E s :=
  threes_call hp B F X T hk hdp hun fun th l ep h' tk' hl st hg hn => ret th l ep h' tk' ⟨hl⟩ (F.keeps st) (fun q hq => by
    rcases List.mem_cons.mp hq with rfl | hq
    · exact fr_new F hn hg
    · exact (N.grown st) q hq) fun q hq => fr_lt (N q hq).1 hn
theorem pile_N (hp : IsPerm p) {t : Tok}
    (B : Below A₀ base outer h₀) (F : Fr h₀ L s.heap m) (X : (hd.heap_39 w.params).In h₀) (T : TopX mean mg mb h₀) (hk : cs.kind = .function) (hdp : dp + 6 < recursionLimit) (hun : un + 20 < cLine) (N : News h₀ L s.heap news)
    (ret : ∀ tup hd o HT sk t h' tk', PileIs p (HT.map (·.1)) sk → o.IsDictOf (PySem.strKind lawProg w) (hostKvs HT) → (hd == sysModules) = false → Fr h₀ L h' m →
      News h₀ L h' ((tup, ({ cls := .type "tuple", data := .seq #[.ref hd, .str sk t] } : Obj)) :: (hd, o) :: news) → (∀ q ∈ news, @Ne Nat q.1 tup) → (∀ q ∈ news, @Ne Nat q.1 hd) → Q (.ref tup) { s with heap := h', toks := tk' }) :
    wpAny (model lawProg w) (ktrTop dp un gd cn cs L ca ccd cl outer) (call (.ref 158) [.str (Mine.tx p) t]) Q E s :=
  pile_call hp B F X T hk hdp hun fun tup hd o HT t h' tk' hH hO lo st hg1 hg2 hn1 hn2 => ret tup hd o HT _ t h' tk' ⟨hH, rfl⟩ hO lo (F.keeps st) (fun q hq => by
    rcases List.mem_cons.mp hq with rfl | hq
    · exact fr_new F hn1 hg1
    rcases List.mem_cons.mp hq with rfl | hq
    · exact fr_new F hn2 hg2
    · exact (N.grown st) q hq) (fun q hq => fr_lt (N q hq).1 hn1) (fun q hq => fr_lt (N q hq).1 hn2)
end
end Mine

end PXN
section PXN2
open PySem PySem.Spec PySem.Calls PySem.W PyProof.Rows
namespace Mine
set_option maxRecDepth 100000
theorem LeadsOn.up {P : Params} {p : List Nat} {l : Addr} {ws : Nat → WsT} {led R : List (Addr × Obj)} (h : LeadsOn P p l ws led) (s : ∀ q ∈ led, q ∈ R) : LeadsOn P p l ws R :=
  ⟨let ⟨ep, z⟩ := h.list; ⟨ep, s _ z⟩, fun k hk => s _ (h.inst k hk), fun k hk => s _ (h.dict k hk)⟩
/-- is sign i over sign j -/
def tN (p : List Nat) (i j : Nat) : Bool := decide (i < j) && decide (at_ p (97 + i) < at_ p (97 + j))
def ell2N (p : List Nat) (a b : Nat) : Bool :=
  if find3N p [] 0 < 0 then false
  else if find3N p [a] (find3N p [] 0 + ((0 : Nat) : Int)) < 0 then false
  else if find3N p [b] (find3N p [a] (find3N p [] 0 + ((0 : Nat) : Int)) + ((1 : Nat) : Int)) < 0 then false
  else if find3N p [] (find3N p [b] (find3N p [a] (find3N p [] 0 + ((0 : Nat) : Int)) + ((1 : Nat) : Int)) + ((1 : Nat) : Int)) < 0 then false
  else true
theorem ell2_is (p : List Nat) (a b : Nat) : ell2F (tx p) (sg a) (sg b) = ell2N p a b := by
  have e : Str.ofString "" = ⟨#[]⟩ := by decide
  unfold ell2F ell2N
  rw [e]
  simp only [find3_is]
  rfl
theorem ell2_at {p : List Nat} (hp : IsPerm p) {i j : Nat} (hi : i < 5) (hj : j < 5) (h : i < j) : ell2F (tx p) (sg (97 + i)) (sg (97 + j)) = decide (at_ p (97 + i) < at_ p (97 + j)) := by
  have z : ∀ i < 5, ∀ j < 5, (!(decide (i < j)) || (ell2N p (97 + i) (97 + j) == decide (at_ p (97 + i) < at_ p (97 + j)))) = true :=
    perm_all (P := fun p => ∀ i < 5, ∀ j < 5, (!(decide (i < j)) || (ell2N p (97 + i) (97 + j) == decide (at_ p (97 + i) < at_ p (97 + j)))) = true) (by decide +kernel) hp
  have q := z i hi j hj
  rw [decide_eq_true h] at q
  rw [ell2_is]
  exact eq_of_beq q
theorem less_told {p : List Nat} (hp : IsPerm p) {i j : Nat} (hi : i < 5) (hj : j < 5) : lessF (5 + (i : Int)) (at_ p (97 + i) : Int) (5 + (j : Int)) (at_ p (97 + j) : Int) = tN p i j := by
  have z : ∀ i < 5, ∀ j < 5, lessF (5 + ((i : Nat) : Int)) (at_ p (97 + i) : Int) (5 + ((j : Nat) : Int)) (at_ p (97 + j) : Int) = tN p i j :=
    perm_all (P := fun p => ∀ i < 5, ∀ j < 5, lessF (5 + ((i : Nat) : Int)) (at_ p (97 + i) : Int) (5 + ((j : Nat) : Int)) (at_ p (97 + j) : Int) = tN p i j) (by decide +kernel) hp
  exact z i hi j hj
theorem told_lt {p : List Nat} (hp : IsPerm p) {i j : Nat} {b : Bool} (hi : i < 5) (hj : j < 5) (h : i < j) (e : tN p i j = b) : ell2F (tx p) (sg (97 + i)) (sg (97 + j)) = b := by
  unfold tN at e
  rw [decide_eq_true h, Bool.true_and] at e
  exact (ell2_at hp hi hj h).trans e
theorem told_ge {p : List Nat} {i j : Nat} (h : ¬ i < j) : tN p i j = false := by
  unfold tN
  rw [decide_eq_false h, Bool.false_and]
section
variable {w : World} {mean : ExcName → Option Value} {mg mb : Str → Option Value} {p : List Nat}
    {dp un : Nat} {gd : Option (List Code)} {cn : Str} {cs : Scope} {ca : Addr} {ccd : Value} {cl : List (Str × Addr)} {outer : List Env} {A₀ : Around} {base h₀ : Heap} {L : Addr} {m : Str → Option Value} {s : Shared} {Q E : Value → Shared → Prop} {news : List (Addr × Obj)}
theorem leads_R (hp : IsPerm p) {t : Tok}
    (B : Below A₀ base outer h₀) (F : Fr h₀ L s.heap m) (X : (hd.heap_39 w.params).In h₀) (T : TopX mean mg mb h₀) (hk : cs.kind = .function) (hdp : dp + 6 < recursionLimit) (hun : un + 20 < cLine) (N : News h₀ L s.heap news)
    (ret : ∀ l ws R h' tk', LeadsOn w.params p l ws R → (∀ q ∈ news, q ∈ R) → Fr h₀ L h' m → News h₀ L h' R → Q (.ref l) { s with heap := h', toks := tk' }) :
    wpAny (model lawProg w) (ktrTop dp un gd cn cs L ca ccd cl outer) (call (.ref 151) [.str (Mine.tx p) t]) Q E s :=
  leads_N hp B F X T hk hdp hun N fun l ws led h' tk' hL F' N' => ret l ws (news ++ led) h' tk' (hL.up fun _ hq => List.mem_append_right _ hq) (fun _ hq => List.mem_append_left _ hq) F' N'
theorem less_R {l : Addr} {ws : Nat → WsT} {R : List (Addr × Obj)} {i j : Nat} {b : Bool} (hp : IsPerm p) (hL : LeadsOn w.params p l ws R) (hR : ∀ q ∈ R, q ∈ news) (hi : i < 5) (hj : j < 5) (hb : tN p i j = b)
    (B : Below A₀ base outer h₀) (F : Fr h₀ L s.heap m) (X : (hd.heap_39 w.params).In h₀) (T : TopX mean mg mb h₀) (hk : cs.kind = .function) (hdp : dp + 1 < recursionLimit) (hun : un + 8 < cLine) (N : News h₀ L s.heap news)
    (ret : ∀ h' tk', Fr h₀ L h' m → News h₀ L h' news → Q (.bool b) { s with heap := h', toks := tk' }) :
    wpAny (model lawProg w) (ktrTop dp un gd cn cs L ca ccd cl outer) (call (.ref 123) [.ref (ws i).x, .ref (ws j).x]) Q E s :=
  less_N (led := R) hL hR hi hj B F X T hk hdp hun N (by rw [less_told hp hi hj, hb]; exact ret)
theorem ell2_R {i j : Nat} {want : Str} {t1 t2 : Tok} {b : Bool} (hw : want = want2 i j) (hp : IsPerm p) (hi : i < 5) (hj : j < 5) (hij : i < j) (hb : tN p i j = b)
    (B : Below A₀ base outer h₀) (F : Fr h₀ L s.heap m) (X : (hd.heap_39 w.params).In h₀) (T : TopX mean mg mb h₀) (hk : cs.kind = .function) (hdp : dp + 1 < recursionLimit) (hun : un + 8 < cLine) (N : News h₀ L s.heap news)
    (ret : ∀ h' tk', Fr h₀ L h' m → News h₀ L h' news → Q (.bool b) { s with heap := h', toks := tk' }) :
    wpAny (model lawProg w) (ktrTop dp un gd cn cs L ca ccd cl outer) (call (.ref 71) [.str want t1, .str (Mine.tx p) t2]) Q E s :=
  ell2_N hw hp hi hj B F X T hk hdp hun N (by rw [told_lt hp hi hj hij hb]; exact ret)
end
section
variable {prog : Program} {w : World} {A : Around} {E : Value → Shared → Prop} {s : Shared} {h₀ : Heap} {L : Addr} {m : Str → Option Value} {news : List (Addr × Obj)} {value slice : PySem.Expr} {P : Params} {p : List Nat} {l : Addr} {ws : Nat → WsT} {R : List (Addr × Obj)} {i : Nat}
theorem inst_led (hL : LeadsOn P p l ws R) (hR : ∀ q ∈ R, q ∈ news) (hi : i < 5) (N : News h₀ L s.heap news) : InstAt s.heap (ws i).x (instObj 133 (ws i).dx) 133 (some (wsO P (ws i) (5 + (i : Int)) (at_ p (97 + i) : Int))) :=
  ⟨(N _ (hR _ (hL.inst i hi))).1, rfl, rfl, (N _ (hR _ (hL.dict i hi))).1⟩
theorem item_led {k : Int} {u : Tok} {Q : Value → Shared → Prop} (hL : LeadsOn P p l ws R) (hR : ∀ q ∈ R, q ∈ news) (N : News h₀ L s.heap news) (e : k = (i : Int)) (hi : i < 5) (h : Q (.ref (ws i).x) s)
    (hs : subscripted slice false (.ref l) (.int k u) = operate [.ref l, .int k u] (getItem (.ref l) (.int k u))) :
    wpAny (model prog w) A (subscriptTail value slice (.ref l) (.int k u)) Q E s := by
  subst e
  obtain ⟨ep, hm⟩ := hL.list
  have hl := News.isList N (hR _ hm)
  refine tail_any hl.typeIs slot_list_getitem.lookup (wpAny_getItem_list (x := .ref (ws i).x) hl (Int.natCast_nonneg i) (Int.lt_trans (Int.ofNat_lt.mpr hi) (by decide)) ?_ h) hs
  match i, hi with
  | 0, _ => rfl
  | 1, _ => rfl
  | 2, _ => rfl
  | 3, _ => rfl
  | 4, _ => rfl
end
theorem sub_self {R : List (Addr × Obj)} : ∀ q ∈ R, q ∈ R := fun _ h => h
theorem sub_up {R l : List (Addr × Obj)} {a : Addr × Obj} (h : ∀ q ∈ R, q ∈ l) : ∀ q ∈ R, q ∈ a :: l := fun q hq => .tail _ (h q hq)
theorem ne_of_lts {R : List (Addr × Obj)} {a : Addr} (h : ∀ q ∈ R, q.1 < a) : ∀ q ∈ R, q.1 ≠ a := fun q hq => Nat.ne_of_lt (h q hq)
theorem ne_of_all {R : List (Addr × Obj)} {a : Addr} (h : AllNe a R) : ∀ q ∈ R, q.1 ≠ a := of_allNe h
def ovT (p : List Nat) (i j : Nat) : List Str := if tN p i j then [sg (97 + i) ++ sg (97 + j)] else []
def ov2 (p : List Nat) (i n : Nat) : List Str := flat n fun j => ovT p i j
def ov1 (p : List Nat) (n : Nat) : List Str := flat n fun i => ov2 p i 5
theorem ovT_len (p : List Nat) (i j : Nat) : (ovT p i j).length ≤ 1 := by unfold ovT; split <;> simp
theorem ov2_len (p : List Nat) (i n : Nat) : (ov2 p i n).length ≤ n := by have h : (flat n fun j => ovT p i j).length ≤ n * 1 := flat_len (fun t => ovT_len p i t) n; rw [Nat.mul_one] at h; exact h
theorem ov1_len (p : List Nat) (n : Nat) : (ov1 p n).length ≤ n * 5 := flat_len (f := fun i => ov2 p i 5) (c := 5) (fun t => ov2_len p t 5) n
theorem ov_yes {p : List Nat} {i j : Nat} {pre : List Str} {l : List (Str × Tok)} {t : Tok} (hl : l.map (·.1) = pre ++ ov2 p i j) (he : tN p i j = true) :
    (l ++ [(sg (97 + i) ++ sg (97 + j), t)]).map (·.1) = pre ++ ov2 p i (j + 1) := by
  rw [List.map_append, hl]
  unfold ov2
  rw [flat_succ, ovT, if_pos he, List.append_assoc]
  rfl
theorem ov_no {p : List Nat} {i j : Nat} {pre : List Str} {l : List (Str × Tok)} (hl : l.map (·.1) = pre ++ ov2 p i j) (he : tN p i j = false) : l.map (·.1) = pre ++ ov2 p i (j + 1) := by
  rw [hl]
  unfold ov2
  rw [flat_succ, ovT, if_neg (by rw [he]; decide), List.append_nil]
theorem ov_up {p : List Nat} {i : Nat} {l : List (Str × Tok)} (hl : l.map (·.1) = ov1 p i ++ ov2 p i 5) : l.map (·.1) = ov1 p (i + 1) := by
  rw [hl]
  unfold ov1
  rw [flat_succ]
end Mine

end PXN2
section PXLT
open PySem PySem.Spec PySem.Calls PySem.W PyProof.Rows
namespace Mine
/-- a turn of a loop whose target is no local -/
def TurnT (h₀ : Heap) (L : Addr) (io : Addr × Obj) (J : (Str → Option Value) → List (Addr × Obj) → Prop) (s₁ : Shared) (f : Flow) (s₂ : Shared) : Prop :=
  match f with
  | .next => EndJ h₀ L io J s₁ s₂
  | _ => False
section
variable {prog : Program} {w : World} {A : Around} {E : Value → Shared → Prop} {s : Shared} {env : Env} {h₀ : Heap} {target : PySem.Expr} {body : List Stmt} {Q : Flow → Shared → Prop}
theorem loop_JT {I : Addr} {fp : List Addr} {n : Nat} {P : Nat → Value → Prop} {St : Nat → Heap → Prop} {m₀ : Str → Option Value} {news kept : List (Addr × Obj)} (J : Nat → (Str → Option Value) → List (Addr × Obj) → Prop)
    (W : Walks prog w A I fp [I] n P St) (hfp : ∀ b ∈ fp, b = I ∨ (∃ q, h₀.get? b = some q) ∨ ∃ o, (b, o) ∈ kept) (hI0 : h₀.get? I = none) (hob : ∀ i h, St i h → ∃ o, h.get? I = some o)
    (hLf : env.locals ∉ fp) (hnw : ∀ p ∈ news, p.1 ≠ I) (hst : St 0 s.heap) (F : Fr h₀ env.locals s.heap m₀) (N : News h₀ env.locals s.heap news)
    (hgo : ∀ i (s' : Shared) v (Q' : Unit → Shared → Prop), St i s'.heap → Q' () s' → wpAny (model prog w) A (letOwnedTupleGo target (.ref I) v) Q' E s')
    (hk : ∀ i m nx, J i m nx → ∀ p ∈ kept, p ∈ nx) (hj : J 0 m₀ news)
    (turn : ∀ i v m₁ nx s₁ o, i < n → P i v → J i m₁ nx → (∀ p ∈ nx, p.1 ≠ I) → Fr h₀ env.locals s₁.heap m₁ → News h₀ env.locals s₁.heap ((I, o) :: nx) →
      wpAny (model prog w) A (assign target env v) (fun _ s₃ => wpAny (model prog w) A (execs body env) (TurnT h₀ env.locals (I, o) (J (i + 1)) s₁) E s₃) E s₁)
    (done : ∀ m₁ nx h tk, J n m₁ nx → Fr h₀ env.locals h m₁ → News h₀ env.locals h nx → Q .next { s with heap := h, toks := tk }) :
    LoopAtT prog w A h₀ env target body Q E (.ref I) s := by
  have hIf : I ∈ fp := W.sub I (List.mem_singleton.mpr rfl)
  refine ⟨I, fp, [I], n, P, St, m₀, news, J, rfl, W, hLf, fun b hb => by rw [List.mem_singleton.mp hb]; exact hI0, fun p hp hq => hnw p hp (List.mem_singleton.mp hq), hst, F, N, hgo, hj, ?_, ?_⟩
  · rintro i v m₁ nx s₁ own hin hP hJ hoff hown hown2 hall hst' F₁ N₁
    obtain ⟨o, ho⟩ := hob _ _ hst'
    have hio : (I, o) ∈ own := hall I hIf hI0 o ho
    have hnI : ∀ p ∈ nx, p.1 ≠ I := fun p hp q => hoff p hp (List.mem_singleton.mpr q)
    have each : ∀ p ∈ own, p = (I, o) ∨ p ∈ kept := by
      intro p hp
      have h3 := N₁ p (List.mem_append_left _ hp)
      rcases hfp p.1 (hown p hp) with e1 | ⟨q, hq⟩ | ⟨q, hq⟩
      · left
        have h4 := h3.1
        rw [e1] at h4
        exact Prod.ext e1 (Option.some.inj (ho.symm.trans h4)).symm
      · have h5 := h3.2.2
        rw [hq] at h5
        cases h5
      · right
        have h6 := (N₁ (p.1, q) (List.mem_append_right _ (hk _ _ _ hJ _ hq))).1
        have e2 : p.2 = q := Option.some.inj (h3.1.symm.trans h6)
        have e3 : p = (p.1, q) := Prod.ext rfl e2
        rw [e3]; exact hq
    have N₂ : News h₀ env.locals s₁.heap ((I, o) :: nx) := fun p hp => N₁ p ((List.mem_cons.mp hp).elim (fun e => e ▸ List.mem_append_left _ hio) (List.mem_append_right _))
    refine wpAny_mono (turn i v m₁ nx s₁ o hin hP hJ hnI F₁ N₂) (fun _ s₃ z => wpAny_mono z (fun f s₂ y => ?_) fun _ _ e => e) fun _ _ e => e
    cases f with
    | ret v => exact y.elim
    | brk => exact y.elim
    | cont => exact y.elim
    | next =>
      obtain ⟨h', tk, m', nx', e, F', N', hn, hm⟩ := y
      refine ⟨rfl, h', tk, m', nx', e, F', fun p hp => ?_, fun p hp hq => hn p hp (List.mem_singleton.mp hq), hm⟩
      rcases List.mem_append.mp hp with hp | hp
      · rcases each p hp with e | hq
        · rw [e]; exact N' _ (.head _)
        · exact N' p (.tail _ (hk _ _ _ hm _ hq))
      · exact N' p (.tail _ hp)
  · rintro h' tk m' nx F' N' _ hJ
    exact done m' nx h' tk hJ F' N'

theorem hostKvs_at {HT : List ((Nat × List Nat) × Tok)} {i : Nat} {k : Str} {x : Value} (h : (hostKvs HT)[i]? = some (k, x)) : ∃ c P t, HT[i]? = some ((c, P), t) ∧ k = sg c ∧ x = .str (hostS P) t := by
  unfold hostKvs at h
  rw [List.getElem?_map] at h
  cases q : HT[i]? with
  | none => rw [q] at h; cases h
  | some y => rw [q] at h; cases h; exact ⟨_, _, _, rfl, rfl, rfl⟩
/-- the loop over the hosts, its target in a cell -/
def hostJ (cl : Addr) (rest : List (Addr × Obj)) (kn : List (Str × Value)) (m : Str → Option Value) (nx : List (Addr × Obj)) : Prop :=
  ∃ (o : Obj) (v : Option Value), nx = (cl, o) :: rest ∧ o.data = .cell v ∧ Known m kn
theorem iter_hosts {d cl : Addr} {od oc : Obj} {HT : List ((Nat × List Nat) × Tok)} {v₀ : Option Value} {m₀ : Str → Option Value} {news rest : List (Addr × Obj)} (kn : List (Str × Value))
    (hh : A.handled = none) (lo : (d == sysModules) = false) (hO : od.IsDictOf (PySem.strKind prog w) (hostKvs HT)) (F : Fr h₀ env.locals s.heap m₀) (N : News h₀ env.locals s.heap news)
    (hn : ∀ p ∈ (cl, oc) :: rest, p ∈ news) (hd : (d, od) ∈ rest) (hc : oc.data = .cell v₀) (hk : Known m₀ kn)
    (turn : ∀ (i c : Nat) (P : List Nat) (t u : Tok) (m₁ : Str → Option Value) (s₁ : Shared) (I : Addr) (o oc : Obj) (v : Option Value), HT[i]? = some ((c, P), t) → @Ne Nat cl I → AllNe I rest → oc.data = .cell v → Fr h₀ env.locals s₁.heap (frm m₁ kn) → News h₀ env.locals s₁.heap ((I, o) :: (cl, oc) :: rest) →
      wpAny (model prog w) A (assign target env (.str (sg c) u)) (fun _ s₃ => wpAny (model prog w) A (execs body env) (TurnT h₀ env.locals (I, o) (hostJ cl rest kn) s₁) E s₃) E s₁)
    (done : ∀ m₁ h tk oc, Fr h₀ env.locals h (frm m₁ kn) → News h₀ env.locals h ((cl, oc) :: rest) → Q .next { s with heap := h, toks := tk }) :
    wpAny (model prog w) A (pyIter (.ref d)) (fun it s₂ => LoopAtT prog w A h₀ env target body Q E it s₂) E s := by
  obtain ⟨ep, hat⟩ := (Heap.dictOf_iff.mpr ⟨_, (N _ (hn _ (.tail _ hd))).1, hO⟩).dictAt
  refine wpAny_pyIter_dict lo hat ?_
  have hne : d ≠ s.heap.objs.size := Nat.ne_of_lt hat.lt_size
  have N' : News h₀ env.locals s.heap ((cl, oc) :: rest) := fun p hp => N p (hn p hp)
  refine loop_JT (kept := [(d, od)]) (fun _ => hostJ cl rest kn) (Walks.dictKeys (knd := strKind prog w) hh s.heap.objs.size d hne (hostKvs HT) ep) ?_ (next_is_new F) (fun i h st => let ⟨⟨o, ho, _⟩, _⟩ := st; ⟨o, ho⟩) ?_ (off_new N') ⟨⟨_, Heap.get?_push_size _ rfl, rfl, rfl⟩, hat.push _⟩ (F.push _) (news_pushed N' _) (fun i s' v Q' st hQ' => letGo_keyiter st.1 hQ') ?_ ⟨oc, v₀, rfl, hc, hk⟩ ?_ ?_
  · intro b hb
    rcases List.mem_cons.mp hb with e | hb
    · exact .inl e
    · cases List.mem_singleton.mp hb
      exact .inr (.inr ⟨_, List.mem_singleton.mpr rfl⟩)
  · intro hm
    rcases List.mem_cons.mp hm with e | hm
    · exact absurd F.ns.lt (e ▸ Nat.lt_irrefl _)
    · exact (N' _ (.tail _ hd)).2.1 (List.mem_singleton.mp hm).symm
  · rintro i m nx ⟨o, v, rfl, _⟩ p hp
    cases List.mem_singleton.mp hp
    exact .tail _ hd
  · rintro i v m₁ nx s₁ o hi ⟨k, x, hx, hkey⟩ ⟨oc', v', rfl, hd', hk'⟩ hoff F₁ N₁
    obtain ⟨c, P, t, hi', rfl, rfl⟩ := hostKvs_at hx
    obtain ⟨u, rfl⟩ := Value.isStrOf_shape hkey
    exact turn i c P t u m₁ s₁ _ o oc' v' hi' (hoff _ (.head _)) (allNe_of fun p hp => hoff p (.tail _ hp)) hd' (fr_known F₁ hk') N₁
  · rintro m₁ nx h tk ⟨oc', v', rfl, _, hk'⟩ F₁ N₁
    exact done m₁ h tk oc' (fr_known F₁ hk') N₁
end
end Mine

end PXLT
section PXS1
open PySem PySem.Spec PySem.Calls PySem.W PyProof.Rows PyProof.V PySem.SeqAt
namespace Mine
set_option maxRecDepth 100000
structure OvIs (p : List Nat) (l : List Str) : Prop where
  h : l = ov1 p 5
theorem News.sub {h₀ h : Heap} {L : Addr} {l l' : List (Addr × Obj)} (N : News h₀ L h l) (s : ∀ q ∈ l', q ∈ l) : News h₀ L h l' := fun q hq => N q (s q hq)
theorem readsAll_strs {h : Heap} : ∀ (l : List (Str × Tok)), ReadsAll h (strValues l) ((l.map (·.1)).map PyData.str) []
  | [] => .nil
  | p :: r => by
    have := ReadsAll.cons (Reads.str (h := h) p.1 p.2) (readsAll_strs (h := h) r)
    simpa [strValues] using this
theorem reads_of_strs {h : Heap} {a : Addr} {l : List (Str × Tok)} (hl : h.IsList a (strValues l).toArray) : Reads h (.ref a) (.list ((l.map (·.1)).map PyData.str)) [a] := by
  obtain ⟨o, ho, hc, n, hd⟩ := hl
  exact Reads.list ho hc hd (by simpa using readsAll_strs l)
theorem canLayAll0_strs : ∀ ns : List Str, ns.all PyData.strOk = true → PyData.canLayAll0 (ns.map PyData.str) = true
  | [], _ => by simp [PyData.canLayAll0]
  | n :: r, h => by
    simp only [List.all_cons, Bool.and_eq_true] at h
    simp [PyData.canLayAll0, PyData.canLay0, h.1, canLayAll0_strs r h.2]
theorem depthAll_strs : ∀ ns : List Str, PyData.depthAll (ns.map PyData.str) ≤ 1
  | [] => by simp [PyData.depthAll]
  | n :: r => by
    have := depthAll_strs r
    simp only [List.map_cons, PyData.depthAll, PyData.depth]
    omega
theorem shaped_strs (ns : List Str) (ok : ns.all PyData.strOk = true) : shaped (.list (ns.map PyData.str)) = true := by
  have h1 := depthAll_strs ns
  have h2 : PyData.depth (.list (ns.map PyData.str)) ≤ 64 := by simp only [PyData.depth]; omega
  show (PyData.canLay0 (.list (ns.map PyData.str)) && decide (PyData.depth (.list (ns.map PyData.str)) ≤ 64)) = true
  rw [Bool.and_eq_true]
  exact ⟨by simp only [PyData.canLay0]; exact canLayAll0_strs ns ok, decide_eq_true h2⟩
theorem noMix_strs : ∀ ns ms : List Str, noMixAll (ns.map PyData.str) (ms.map PyData.str) = true
  | [], [] => by simp [noMixAll]
  | [], _ :: _ => by simp [noMixAll]
  | _ :: _, [] => by simp [noMixAll]
  | _ :: r, _ :: q => by simp [noMixAll, noMix, noMix_strs r q]
theorem same_strs : ∀ ns ms : List Str, PySem.Spec.sameAll (ns.map PyData.str) (ms.map PyData.str) = decide (ns = ms)
  | [], [] => by simp [PySem.Spec.sameAll]
  | [], _ :: _ => by simp [PySem.Spec.sameAll]
  | _ :: _, [] => by simp [PySem.Spec.sameAll]
  | n :: r, k :: q => by
    simp only [List.map_cons, PySem.Spec.sameAll, PySem.Spec.same, same_strs r q]
    by_cases h : n = k <;> simp [h]
section
variable {prog : Program} {w : World} {A : Around} {E : Value → Shared → Prop} {s : Shared} {h₀ : Heap} {L : Addr} {m : Str → Option Value} {news : List (Addr × Obj)}
/-- two lists of the same texts: != is False -/
theorem ne_strs {a b : Addr} {x y : Array Value} {l l' : List (Str × Tok)} {n n' : Nat} {Q : Value → Shared → Prop} (N : News h₀ L s.heap news) (ha : (a, listOf x n) ∈ news) (hb : (b, listOf y n') ∈ news) (ex : x = (strValues l).toArray) (ey : y = (strValues l').toArray) (e : l.map (·.1) = l'.map (·.1)) (ok : (l.map (·.1)).all PyData.strOk = true) (hu : A.units + 64 < cLine)
    (h : Q (.bool false) s) : wpAny (model prog w) A (compareOp .NotEq (.ref a) (.ref b)) Q E s := by
  subst ex ey
  refine ne_dataH_same (reads_of_strs (News.isList N ha)) (reads_of_strs (News.isList N hb)) (shaped_strs _ ok) (shaped_strs _ (e ▸ ok)) hu (by simp only [noMix]; exact noMix_strs _ _) ?_
  simp only [PySem.Spec.same]
  rw [same_strs, e, decide_eq_true rfl]
  exact h
theorem ne_text {x y : Str} {t u : Tok} {Q : Value → Shared → Prop} (e : (x == y) = false) (h : Q (.bool true) s) : wpAny (model prog w) A (compareOp .NotEq (.str x t) (.str y u)) Q E s := by
  refine ne_str ?_
  have : (x != y) = true := by unfold bne; rw [e]; rfl
  rw [this]; exact h
theorem eq_text {x y : Str} {t u : Tok} {Q : Value → Shared → Prop} (e : (x == y) = false) (h : Q (.bool false) s) : wpAny (model prog w) A (compareOp .Eq (.str x t) (.str y u)) Q E s := by
  refine eq_str ?_
  rw [e]; exact h
theorem in_those {k : Str} {t : Tok} {D : Addr} {its : Array Value} {n : Nat} {l : List (Str × Tok)} {Q : Value → Shared → Prop} (N : News h₀ L s.heap news) (hm : (D, listOf its n) ∈ news) (e : its = (strValues l).toArray) (hk : (l.map (·.1)).any (· == k) = true) (h : Q (.bool false) s) :
    wpAny (model prog w) A (compareOp .NotIn (.str k t) (.ref D)) Q E s := by
  subst e
  refine notin_list_strs (News.isList N hm) (strsAre_vals l) ?_
  rw [hk]
  exact h
def IfNo (h₀ : Heap) (L : Addr) (m : Str → Option Value) (news : List (Addr × Obj)) (s : Shared) (b : Bool) (s' : Shared) : Prop :=
  b = false ∧ ∃ h' tk', s' = { s with heap := h', toks := tk' } ∧ Fr h₀ L h' m ∧ News h₀ L h' news
theorem IfNo.intro {h' : Heap} {tk : Nat} {news' : List (Addr × Obj)} {b : Bool} (F : Fr h₀ L h' m) (N : News h₀ L h' news') (hs : ∀ q ∈ news, q ∈ news') (e : b = false) : IfNo h₀ L m news s b { s with heap := h', toks := tk } := ⟨e, h', tk, rfl, F, News.sub N hs⟩
/-- a test that is False, whatever path it takes: the paths meet behind it -/
theorem if_skip {c : PySem.Expr} {body orelse : List Stmt} {pos : Pos} {env : Env} {Q : Flow → Shared → Prop} (_F : Fr h₀ L s.heap m) (_N : News h₀ L s.heap news)
    (h : wpAny (model prog w) A (isTrue c env (eval c env)) (IfNo h₀ L m news s) E s)
    (k : ∀ h' tk', Fr h₀ L h' m → News h₀ L h' news → wpAny (model prog w) A (execs orelse env) Q E { s with heap := h', toks := tk' }) : wpAny (model prog w) A (exec (.If c body orelse pos) env) Q E s := by
  refine wpAny_If (wpAny_mono h (fun b s' z => ?_) fun _ _ e => e)
  obtain ⟨rfl, h', tk', rfl, F', N'⟩ := z
  exact k h' tk' F' N'
end
def ell3N (p : List Nat) (a b c : Nat) : Bool :=
  if find3N p [] 0 < 0 then false
  else if find3N p [a] (find3N p [] 0 + ((0 : Nat) : Int)) < 0 then false
  else if find3N p [b] (find3N p [a] (find3N p [] 0 + ((0 : Nat) : Int)) + ((1 : Nat) : Int)) < 0 then false
  else if find3N p [c] (find3N p [b] (find3N p [a] (find3N p [] 0 + ((0 : Nat) : Int)) + ((1 : Nat) : Int)) + ((1 : Nat) : Int)) < 0 then false
  else if find3N p [] (find3N p [c] (find3N p [b] (find3N p [a] (find3N p [] 0 + ((0 : Nat) : Int)) + ((1 : Nat) : Int)) + ((1 : Nat) : Int)) + ((1 : Nat) : Int)) < 0 then false
  else true
theorem ell3_is (p : List Nat) (a b c : Nat) : ell3F (tx p) (sg a) (sg b) (sg c) = ell3N p a b c := by
  have e : Str.ofString "" = ⟨#[]⟩ := by decide
  unfold ell3F ell3N
  rw [e]
  simp only [find3_is]
  rfl
/-- the triples, as lists of Nat -/
def flatN (n : Nat) (f : Nat → List (List Nat)) : List (List Nat) := (List.range n).flatMap f
theorem flat_map {f : Nat → List Str} {g : Nat → List (List Nat)} (h : ∀ t, f t = (g t).map tx) (n : Nat) : flat n f = (flatN n g).map tx := by
  unfold flat flatN
  rw [List.map_flatMap]
  congr 1
  exact funext h
def thrN (p : List Nat) (i j k : Nat) : List (List Nat) := if ell3N p (97 + j) (97 + i) (97 + k) then [[97 + i, 97 + j, 97 + k]] else []
def thrN1 (p : List Nat) (n : Nat) : List (List Nat) := flatN n fun i => flatN (4 - i) fun t => flatN (4 - (i + 1 + t)) fun u => thrN p i (i + 1 + t) (i + 1 + t + 1 + u)
theorem thr1_is (p : List Nat) (n : Nat) : thr1 p n = (thrN1 p n).map tx := by
  unfold thr1 thrN1
  refine flat_map (fun i => ?_) n
  unfold thr2
  refine flat_map (fun t => ?_) _
  unfold thr3
  refine flat_map (fun u => ?_) _
  unfold thrT thrN
  rw [ell3_is]
  split <;> rfl
theorem tx_inj {a b : List Nat} (h : tx a = tx b) : a = b := by
  have := congrArg (fun x : Str => x.cps.toList) h
  simpa [tx] using this
theorem stuck_cases {p : List Nat} (hp : IsPerm p) {H : List (Nat × List Nat)} {sk : Str} (h : PileIs p H sk) {l : List (Str × Tok)} (ht : ThrIs p (l.map (·.1))) : (sk = Str.ofString "" ∧ l = []) ∨ ((sk == Str.ofString "") = false ∧ (l.map (·.1)).any (· == sk) = true) := by
  have zN : (((pileOf p).2.isEmpty && (thrN1 p 5).isEmpty) || (!(pileOf p).2.isEmpty && (thrN1 p 5).contains (pileOf p).2)) = true :=
    perm_all (P := fun p => (((pileOf p).2.isEmpty && (thrN1 p 5).isEmpty) || (!(pileOf p).2.isEmpty && (thrN1 p 5).contains (pileOf p).2)) = true) (by decide +kernel) hp
  have e0 : Str.ofString "" = tx [] := by decide
  have z : (Mine.tx (pileOf p).2 = Str.ofString "" ∧ thr1 p 5 = []) ∨ ((Mine.tx (pileOf p).2 == Str.ofString "") = false ∧ (thr1 p 5).any (· == Mine.tx (pileOf p).2) = true) := by
    simp only [Bool.or_eq_true, Bool.and_eq_true, List.isEmpty_iff, Bool.not_eq_true'] at zN
    rcases zN with ⟨a, b⟩ | ⟨a, b⟩
    · left
      rw [a, thr1_is, b, e0]
      exact ⟨rfl, rfl⟩
    · right
      constructor
      · rw [e0, beq_eq_false_iff_ne]
        intro q
        rw [tx_inj q] at a
        cases a
      · rw [thr1_is, List.any_eq_true]
        exact ⟨_, List.mem_map_of_mem (List.contains_iff_mem.mp b), beq_self_eq_true _⟩
  rw [ht.h, h.s]
  rcases z with ⟨z1, z2⟩ | z
  · left
    refine ⟨z1, ?_⟩
    have := ht.h
    rw [z2] at this
    exact List.map_eq_nil_iff.mp this
  · exact .inr z
end Mine

end PXS1
section PXC1
open PySem PySem.Spec PySem.Calls PySem.W PyProof.Rows PyProof.Rows.LCg PyProof.Rows.LCt
namespace Mine
set_option maxRecDepth 100000
abbrev lstS (l : List (Str × Tok)) : Obj := listOf (strValues l).toArray (strValues l).length
def CompY (h₀ : Heap) (L : Addr) (m : Str → Option Value) (s₁ : Shared) (all : List (Addr × Obj)) (pre post : List Str) (y : Value) (s₂ : Shared) : Prop :=
  ∃ x t h' tk, y = .str x t ∧ s₂ = { s₁ with heap := h', toks := tk } ∧ Fr h₀ L h' m ∧ News h₀ L h' all ∧ pre ++ [x] = post
def CompN (h₀ : Heap) (L : Addr) (m : Str → Option Value) (s₁ : Shared) (all : List (Addr × Obj)) (pre post : List Str) (s₂ : Shared) : Prop :=
  ∃ h' tk, s₂ = { s₁ with heap := h', toks := tk } ∧ Fr h₀ L h' m ∧ News h₀ L h' all ∧ pre = post
theorem CompY.intro {h₀ h' : Heap} {L : Addr} {m : Str → Option Value} {s₁ : Shared} {all all' : List (Addr × Obj)} {pre post : List Str} {x : Str} {t : Tok} {tk : Nat} (F : Fr h₀ L h' m) (N : News h₀ L h' all') (hs : ∀ q ∈ all, q ∈ all') (e : pre ++ [x] = post) :
    CompY h₀ L m s₁ all pre post (.str x t) { s₁ with heap := h', toks := tk } := ⟨x, t, h', tk, rfl, rfl, F, News.sub N hs, e⟩
theorem CompN.intro {h₀ h' : Heap} {L : Addr} {m : Str → Option Value} {s₁ : Shared} {all all' : List (Addr × Obj)} {pre post : List Str} {tk : Nat} (F : Fr h₀ L h' m) (N : News h₀ L h' all') (hs : ∀ q ∈ all, q ∈ all') (e : pre = post) :
    CompN h₀ L m s₁ all pre post { s₁ with heap := h', toks := tk } := ⟨h', tk, rfl, F, News.sub N hs, e⟩
section
variable {prog : Program} {w : World} {A : Around} {s : Shared} {h₀ : Heap} {L : Addr} {m : Str → Option Value} {env : Env}
/-- a comprehension with a test that makes a list of texts: what it holds after so many turns -/
theorem comp_strs {ct elt : PySem.Expr} {x : Str} {scope : Scope} {cl : List (Str × Addr)} {S : List (Addr × Obj) → Prop} {P : Nat → Value → Prop} {Fin : List Value → List (Addr × Obj) → Prop} {n : Nat} {news : List (Addr × Obj)} (G : Nat → List Str)
    (turn : ∀ i l v I oI C oC D m₂ h tk (E' : Value → Shared → Prop), i < n → l.map (·.1) = G i → P i v → NsObj oC m₂ → m₂ x = some v → Fr h₀ L h m → News h₀ L h ((I, oI) :: (C, oC) :: (D, lstS l) :: news) → Off3 I C D news → ((@Ne Nat I C) ∧ (@Ne Nat I D) ∧ (@Ne Nat C D)) →
      wpAny (model prog w) A (isTrue ct (compEnvC scope cl C env) (eval ct (compEnvC scope cl C env))) (fun ok s' => if ok = true then
        wpAny (model prog w) A (eval elt (compEnvC scope cl C env)) (CompY h₀ L m { s with heap := h, toks := tk } ((I, oI) :: (C, oC) :: (D, lstS l) :: news) (G i) (G (i + 1))) E' s'
        else CompN h₀ L m { s with heap := h, toks := tk } ((I, oI) :: (C, oC) :: (D, lstS l) :: news) (G i) (G (i + 1)) s') E' { s with heap := h, toks := tk })
    (hS : S news) (h0 : G 0 = []) (fin : ∀ l, l.map (·.1) = G n → Fin (strValues l) news) :
    CompRestT prog w A h₀ L m env ct elt x scope cl s S P Fin n 0 [] news := by
  have main : ∀ k i (l : List (Str × Tok)), i + k = n → l.map (·.1) = G i → CompRestT prog w A h₀ L m env ct elt x scope cl s S P Fin k i (strValues l) news := by
    intro k
    induction k with
    | zero =>
      intro i l hi hl
      have : i = n := by omega
      subst this
      exact CompRestT.zero (fin l hl)
    | succ k ih =>
      intro i l hi hl
      refine CompRestT.succ fun v I oI C oC D m₂ h tk E' hP hC hx F N off ne => ?_
      refine wpAny_mono (turn i l v I oI C oC D m₂ h tk E' (by omega) hl hP hC hx F N off ne) (fun ok s' z => ?_) fun _ _ e => e
      cases ok with
      | true =>
        simp only [if_true] at z ⊢
        refine wpAny_mono z (fun y s'' q => ?_) fun _ _ e => e
        obtain ⟨x', t, h', tk', rfl, rfl, F', N', e⟩ := q
        refine ⟨h', tk', news, rfl, F', N', off, hS, ?_⟩
        have e2 : strValues l ++ [.str x' t] = strValues (l ++ [(x', t)]) := by simp [strValues]
        show CompRestT prog w A h₀ L m env ct elt x scope cl s S P Fin k (i + 1) (strValues l ++ [.str x' t]) news
        rw [e2]
        exact ih (i + 1) _ (by omega) (by rw [List.map_append, hl]; exact e)
      | false =>
        simp only [Bool.false_eq_true, if_false] at z ⊢
        obtain ⟨h', tk', rfl, F', N', e⟩ := z
        exact ⟨h', tk', news, rfl, F', N', off, hS, ih (i + 1) _ (by omega) (hl.trans e)⟩
  exact main n 0 [] (by omega) h0.symm
end
def upsG (p : List Nat) (c : Nat) (i : Nat) : List Str := (((ov1 p 5).take i).filter fun x => Txt.item x 1 == sg c).map fun x => Txt.item x 0
def upsOf (p : List Nat) (c : Nat) : List Str := upsG p c (ov1 p 5).length
theorem ups_turn {p : List Nat} {c i : Nat} {x : Str} (h : (ov1 p 5)[i]? = some x) : upsG p c (i + 1) = if (Txt.item x 1 == sg c) = true then upsG p c i ++ [Txt.item x 0] else upsG p c i := by
  unfold upsG
  rw [List.take_add_one, h]
  simp only [Option.toList_some, List.filter_append, List.map_append]
  by_cases q : (Txt.item x 1 == sg c) = true
  · rw [if_pos q]; simp [q]
  · rw [if_neg q]; simp [q]
theorem ov_two {p : List Nat} (hp : IsPerm p) : ∀ x ∈ ov1 p 5, x.length = 2 := perm_all (P := fun p => ∀ x ∈ ov1 p 5, x.length = 2) (by decide +kernel) hp
theorem vals_at {l : List (Str × Tok)} {i : Nat} {v : Value} (h : (strValues l).toArray[i]? = some v) : ∃ x t, v = .str x t ∧ (l.map (·.1))[i]? = some x := by
  unfold strValues at h
  simp at h
  obtain ⟨a, b, q, rfl⟩ := h
  exact ⟨a, b, rfl, by rw [List.getElem?_map, q]; rfl⟩
section
variable {prog : Program} {w : World} {A : Around} {E : Value → Shared → Prop} {s : Shared} {value slice : PySem.Expr}
theorem item_two {x : Str} {k : Int} {t u : Tok} {Q : Value → Shared → Prop} (hx : x.length = 2) (h0 : 0 ≤ k) (hk : k < 2) (h : Q (.str (Txt.item x k) s.toks) { s with toks := s.toks + 1 })
    (hs : subscripted slice false (.str x t) (.int k u) = operate [.str x t, .int k u] (getItem (.str x t) (.int k u)))
    (ht : ∀ r, letTemporaryGo value (.str x t) r = pure ()) :
    wpAny (model prog w) A (subscriptTail value slice (.str x t) (.int k u)) Q E s := by
  refine item_str ?_ (by omega) (by omega) (fun _ => h) hs ht
  unfold fitsSsize
  rw [decide_eq_false (by omega), decide_eq_false (by omega)]
  rfl
theorem eq_bool {x y : Str} {t u : Tok} {b : Bool} {Q : Value → Shared → Prop} (e : (x == y) = b) (h : Q (.bool b) s) : wpAny (model prog w) A (compareOp .Eq (.str x t) (.str y u)) Q E s := by
  refine eq_str ?_
  rw [e]; exact h
end
end Mine

end PXC1
section PXH4
open PySem PySem.Spec PySem.Calls PySem.W PyProof.Rows PyProof.V
namespace Mine
set_option maxRecDepth 100000
def hfind (H : List (Nat × List Nat)) (c : Nat) : Option (List Nat) := (H.find? fun h => h.1 == c).map (·.2)
theorem lookup_host (c : Nat) : ∀ H : List (Nat × List Nat), Spec.lookup (.str (sg c)) (hostD H) = (hfind H c).map fun P => PyData.str (hostS P)
  | [] => by simp [hostD, hfind, Spec.lookup]
  | h :: r => by
    have ih := lookup_host c r
    unfold hostD hfind at ih ⊢
    simp only [List.map_cons, Spec.lookup, Spec.same, sg_beq, List.find?_cons]
    cases q : (h.1 == c)
    · simp only [Bool.false_eq_true, if_false]
      first | exact ih | (rw [← ih]; done) | skip
    · simp
section
variable {prog : Program} {w : World} {A : Around} {E : Value → Shared → Prop} {s : Shared} {value slice : PySem.Expr} {h₀ : Heap} {L d : Addr} {news : List (Addr × Obj)} {o : Obj} {HT : List ((Nat × List Nat) × Tok)} {c : Nat} {t : Tok}
theorem host_item {P : List Nat} {Q : Value → Shared → Prop} (N : News h₀ L s.heap news) (hm : (d, o) ∈ news) (lo : (d == sysModules) = false) (hO : o.IsDictOf (PySem.strKind prog w) (hostKvs HT)) (hf : hfind (HT.map (·.1)) c = some P)
    (h : ∀ t', Q (.str (hostS P) t') { s with toks := s.toks + 1 })
    (hs : subscripted slice false (.ref d) (.str (sg c) t) = operate [.ref d, .str (sg c) t] (getItem (.ref d) (.str (sg c) t))) (hg : ∀ r, letTemporaryGo value (.ref d) r = pure ()) :
    wpAny (model prog w) A (subscriptTail value slice (.ref d) (.str (sg c) t)) Q E s := by
  refine item_strTab (TabAt.ofNews N hm lo hO (hostFlat HT)) (by rw [lookup_host, hf]; rfl) (fun v hv => ?_) hs hg
  obtain ⟨t', rfl⟩ := hv.str_inv
  exact h t'
theorem host_in {b : Bool} {Q : Value → Shared → Prop} (N : News h₀ L s.heap news) (hm : (d, o) ∈ news) (lo : (d == sysModules) = false) (hO : o.IsDictOf (PySem.strKind prog w) (hostKvs HT)) (hf : (hfind (HT.map (·.1)) c).isSome = b)
    (h : Q (.bool b) { s with toks := s.toks + 1 }) : wpAny (model prog w) A (compareOp .In (.str (sg c) t) (.ref d)) Q E s := by
  refine in_strTab (TabAt.ofNews N hm lo hO (hostFlat HT)) ?_
  rw [lookup_host, Option.isSome_map, hf]
  exact h
end
theorem hfind_mem {H : List (Nat × List Nat)} {c : Nat} {P : List Nat} (h : hfind H c = some P) : ∃ c', (c', P) ∈ H ∧ c' = c := by
  unfold hfind at h
  cases q : H.find? fun h => h.1 == c with
  | none => rw [q] at h; cases h
  | some y =>
    rw [q] at h
    cases h
    exact ⟨y.1, List.mem_of_find?_eq_some q, by simpa using List.find?_some q⟩
theorem hfind_all {p : List Nat} (hp : IsPerm p) : ∀ h ∈ (pileOf p).1, hfind (pileOf p).1 h.1 = some h.2 := by
  have z : ((pileOf p).1.all fun h => hfind (pileOf p).1 h.1 == some h.2) = true := perm_all (P := fun p => ((pileOf p).1.all fun h => hfind (pileOf p).1 h.1 == some h.2) = true) (by decide +kernel) hp
  intro h hh
  simpa using List.all_eq_true.mp z h hh
theorem host_at {p : List Nat} (hp : IsPerm p) {HT : List ((Nat × List Nat) × Tok)} {sk : Str} (hs : PileIs p (HT.map (·.1)) sk) {i c : Nat} {P : List Nat} {t : Tok} (hi : HT[i]? = some ((c, P), t)) : (c, P) ∈ (pileOf p).1 ∧ hfind (HT.map (·.1)) c = some P := by
  have hm : (c, P) ∈ HT.map (·.1) := List.mem_map.mpr ⟨_, List.mem_of_getElem? hi, rfl⟩
  rw [hs.h] at hm ⊢
  exact ⟨hm, hfind_all hp _ hm⟩
section
variable {w : World} {mean : ExcName → Option Value} {mg mb : Str → Option Value} {p : List Nat}
    {dp un : Nat} {gd : Option (List Code)} {cn : Str} {cs : Scope} {ca : Addr} {ccd : Value} {cl : List (Str × Addr)} {outer : List Env} {A₀ : Around} {base h₀ : Heap} {L : Addr} {m : Str → Option Value} {s : Shared} {Q E : Value → Shared → Prop} {news : List (Addr × Obj)}
theorem reach_N {x y : Str} {t : Tok} (hx : failsIn 40 x = true) (hx2 : x.length < 100) (hy : reachF x = y)
    (B : Below A₀ base outer h₀) (F : Fr h₀ L s.heap m) (X : (hd.heap_39 w.params).In h₀) (T : TopX mean mg mb h₀) (hk : cs.kind = .function) (hdp : dp + 2 < recursionLimit) (hun : un + 12 < cLine) (N : News h₀ L s.heap news)
    (ret : ∀ t h' tk', Fr h₀ L h' m → News h₀ L h' news → Q (.str y t) { s with heap := h', toks := tk' }) :
    wpAny (model lawProg w) (ktrTop dp un gd cn cs L ca ccd cl outer) (call (.ref 64) [.str x t]) Q E s :=
  reach_call x t hx hx2 B F X T hk hdp hun (by rw [hy]; exact use_retT F N ret)
end
end Mine
namespace Mine
section
variable {prog : Program} {w : World} {A : Around} {E : Value → Shared → Prop} {s : Shared}
theorem ne_same {x : Str} {t u : Tok} {Q : Value → Shared → Prop} (h : Q (.bool false) s) : wpAny (model prog w) A (compareOp .NotEq (.str x t) (.str x u)) Q E s := by
  refine ne_str ?_
  have : (x != x) = false := by unfold bne; rw [beq_self_eq_true]; rfl
  rw [this]; exact h
end
/-- the uppers: how many, how long -/
structure UpsOk (p : List Nat) (c : Nat) : Prop where
  n : (upsOf p c).length ≤ 5
  one : ∀ y ∈ upsOf p c, y.length = 1
  ok : (upsOf p c).all PyData.strOk = true
  j : (Txt.join (Str.ofString ".") ((upsOf p c).reverse ++ [Str.ofString "local"])).length ≤ 50
theorem ups_ok {p : List Nat} (hp : IsPerm p) : ∀ h ∈ (pileOf p).1, UpsOk p h.1 := by
  have z : ((pileOf p).1.all fun h => decide ((upsOf p h.1).length ≤ 5) && ((upsOf p h.1).all fun y => decide (y.length = 1)) && (upsOf p h.1).all PyData.strOk && decide ((Txt.join (Str.ofString ".") ((upsOf p h.1).reverse ++ [Str.ofString "local"])).length ≤ 50)) = true :=
    perm_all (P := fun p => ((pileOf p).1.all fun h => decide ((upsOf p h.1).length ≤ 5) && ((upsOf p h.1).all fun y => decide (y.length = 1)) && (upsOf p h.1).all PyData.strOk && decide ((Txt.join (Str.ofString ".") ((upsOf p h.1).reverse ++ [Str.ofString "local"])).length ≤ 50)) = true) (by decide +kernel) hp
  intro h hh
  have q := List.all_eq_true.mp z h hh
  simp only [Bool.and_eq_true, decide_eq_true_eq, List.all_eq_true] at q
  obtain ⟨⟨⟨a, b⟩, c⟩, d⟩ := q
  exact ⟨a, b, List.all_eq_true.mpr c, d⟩
theorem ups_parts {l : List (Str × Tok)} {U : List Str} {x : Str} {t : Tok} (hl : l.map (·.1) = U) : (l.reverse ++ [(x, t)]).map (·.1) = U.reverse ++ [x] := by
  rw [List.map_append, List.map_reverse, hl]; rfl
theorem parts_ok {p : List Nat} {c : Nat} (h : UpsOk p c) : ((upsOf p c).reverse ++ [Str.ofString "local"]).length ≤ 100 ∧ ∀ y ∈ (upsOf p c).reverse ++ [Str.ofString "local"], y.length ≤ 100 := by
  constructor
  · have := h.n; simp; omega
  · intro y hy
    rcases List.mem_append.mp hy with hy | hy
    · have := h.one y (List.mem_reverse.mp hy); omega
    · cases List.mem_singleton.mp hy; decide
end Mine

end PXH4
section PXC2
open PySem PySem.Spec PySem.Calls PySem.W PyProof.Rows PyProof.Rows.LCg PyProof.Rows.LCt
namespace Mine
set_option maxRecDepth 100000
section
variable {prog : Program} {w : World} {A : Around} {E : Value → Shared → Prop} {s : Shared} {h₀ : Heap} {L : Addr} {m : Str → Option Value} {env : Env}
/-- the source of a comprehension: a text -/
def SrcST (prog : Program) (w : World) (A : Around) (h₀ : Heap) (L : Addr) (m : Str → Option Value) (env : Env) (ct elt : PySem.Expr) (x : Str) (scope : Scope) (cl : List (Str × Addr)) (Fin : Shared → List Value → List (Addr × Obj) → Prop) (xv : Value) (s₁ : Shared) : Prop :=
  ∃ xt tt news, xv = .str xt tt ∧ xt.cps.all (· < 128) = true ∧ A.handled = none ∧ Fr h₀ L s₁.heap m ∧ News h₀ L s₁.heap news ∧ xt.cps.size ≤ sizeLine ∧
    ∀ s₂ : Shared, (∃ h, s₂ = { s₁ with heap := h }) → CompRestT prog w A h₀ L m env ct elt x scope cl s₂ (fun _ => True) (SignAt xt) (Fin s₂) xt.cps.size 0 [] news
theorem SrcST.intro {ct elt : PySem.Expr} {x : Str} {scope : Scope} {cl : List (Str × Addr)} {Fin : Shared → List Value → List (Addr × Obj) → Prop} {xt : Str} {tt : Tok} {news : List (Addr × Obj)} {s₁ : Shared}
    (ha : xt.cps.all (· < 128) = true) (hh : A.handled = none) (F : Fr h₀ L s₁.heap m) (N : News h₀ L s₁.heap news) (hsz : xt.cps.size ≤ sizeLine)
    (h : ∀ g, CompRestT prog w A h₀ L m env ct elt x scope cl { s₁ with heap := g } (fun _ => True) (SignAt xt) (Fin { s₁ with heap := g }) xt.cps.size 0 [] news) :
    SrcST prog w A h₀ L m env ct elt x scope cl Fin (.str xt tt) s₁ := ⟨xt, tt, news, rfl, ha, hh, F, N, hsz, fun _ ⟨g, e⟩ => e ▸ h g⟩
theorem Assign_ListComp_S {ct elt iter : PySem.Expr} {x y : Str} {px py : Pos} {scope : Scope} {cl : List (Str × Addr)} {pos spos : Pos} {Q : Flow → Shared → Prop} (F₀ : Fr h₀ L s.heap m) (hLe : env.locals = L)
    (hsw : swapsWith (.ListComp elt [⟨.Name x px, iter, [ct], 0⟩] scope pos) (some (.Name y py)) spos.line env = pure true)
    (hclos : closureFor scope env = pure cl) (hcell : ∀ z ∈ scope.names, z.2 ≠ .cell) (hkind : scope.kind = .function)
    (hnames : ∀ z ∈ scope.names, z.2 = .local → scope.names.lookup z.1 = some .local) (hx : scope.names.lookup x = some .local)
    (hy : env.kindOf y = some .local) (hp : (env.scope.kind == .class || (env.scope.kind == .module && env.locals != env.globals)) = false)
    (h : wpAny (model prog w) A (eval iter env) (SrcST prog w A h₀ L m env ct elt x scope cl (fun s₂ => FinA h₀ L m s₂ y Q)) E s)
    (hs : ∀ x, foldedSetIterable iter env x = pure x := by intro _; rfl) :
    wpAny (model prog w) A (exec (.Assign [.Name y py] (.ListComp elt [⟨.Name x px, iter, [ct], 0⟩] scope pos) spos) env) Q E s := by
  subst hLe
  rw [exec_Assign_Name_used _ _ _ _ hsw]
  refine wpAny_bind (wpAny_standAt (wpAny_bind ?_))
  show wpAny _ A (do let _ ← comprehension (.ListComp elt [⟨.Name x px, iter, [ct], 0⟩] scope pos) scope env _ (newList []) false (eval iter env) (some (assign (.Name y py) env))) _ _ s
  refine wpAny_bind (wpAny_mono (wpAny_comprehension_free (use := some (assign (.Name y py) env)) (Q := fun _ s' => Q .next s') rfl hs hclos hkind hnames
    (wpAny_mono h (fun xv s₁ h₁ => ?_) fun _ _ e => e)) (fun _ s' hq => wpAny_pure (wpAny_pure hq)) fun _ _ e => e)
  obtain ⟨xt, tt, news, rfl, ha, hh, F, N, hsz, R⟩ := h₁
  refine wpAny_pyIter_ascii ha ?_
  refine block_T (Walks.strAscii hh s₁.heap.objs.size xt tt) hsz (fun i h st => by obtain ⟨o, e, _⟩ := st; exact ⟨o, e⟩) ?_ hcell hkind hx ⟨_, Heap.get?_push_size _ rfl, rfl, rfl⟩ (fun b hb => ?_)
    (F.push _) (news_pushed N _) (Nat.ne_of_lt F.ns.lt) (next_is_new F) (fun p hp => Nat.ne_of_lt (Heap.lt_size (N p hp).1)) trivial (R _ ⟨_, rfl⟩) ?_
  · intro i h h' o nw st e e' _ _ _
    obtain ⟨o2, ho2, r⟩ := st
    rw [e] at ho2
    cases ho2
    exact ⟨_, e', r⟩
  · rw [List.mem_singleton.mp hb]
    show s₁.heap.objs.size < (s₁.heap.push _).objs.size
    rw [Heap.size_push]; exact Nat.lt_succ_self _
  · intro D C h' tk m' ys news' F' N' o1 hn hC₀ hD₀ hCL hDL hCD offC fin
    show wpAny _ A (assign (.Name y py) env (.ref D)) _ _ _
    refine wpAny_assign_Name (wpAny_storeName_local hy F'.ns (fun h₂ hn₂ hs₂ => ?_) hp)
    have hL₀ : h₀.get? env.locals = none := Heap.get?_none_of_le F'.above
    have F₂ : Fr h₀ env.locals h₂ (fun z => if z = y then some (.ref D) else m z) := ⟨hn₂, fun b o e => hs₂.extBut b o (fun q => by rw [q, hL₀] at e; cases e) (F'.keep b o e), F'.above⟩
    refine ⟨m', hn.sameBut hs₂ hCL, fun h'' hs'' => fin D h'' _ (F₂.change hs'' hCL hC₀) (fun p hp => ?_) o1⟩
    have z : h₂.get? p.1 = some p.2 := hs₂.extBut _ _ (N' p hp).2.1 (N' p hp).1
    refine ⟨hs''.extBut _ _ ?_ z, (N' p hp).2⟩
    rcases List.mem_cons.mp hp with rfl | hp
    · exact Ne.symm hCD
    · exact offC p hp
end
/-- the signs found: they have a host, and it tells -/
def fndT (H : List (Nat × List Nat)) (P : List Nat) (k : Nat) : List Str := match hfind H (97 + k) with
  | some P' => if P'.isPrefixOf P && P' != P then [sg (97 + k)] else []
  | none => []
def fnd (H : List (Nat × List Nat)) (P : List Nat) (n : Nat) : List Str := flat n (fndT H P)
theorem fnd_none {H : List (Nat × List Nat)} {P : List Nat} {k : Nat} (h : hfind H (97 + k) = none) : fnd H P (k + 1) = fnd H P k := by
  unfold fnd; rw [flat_succ, fndT, h]; simp
theorem fnd_no {H : List (Nat × List Nat)} {P P' : List Nat} {k : Nat} (h : hfind H (97 + k) = some P') (e : (P'.isPrefixOf P && P' != P) = false) : fnd H P (k + 1) = fnd H P k := by
  unfold fnd; rw [flat_succ, fndT, h]; simp [e]
theorem fnd_yes {H : List (Nat × List Nat)} {P P' : List Nat} {k : Nat} (h : hfind H (97 + k) = some P') (e : (P'.isPrefixOf P && P' != P) = true) : fnd H P (k + 1) = fnd H P k ++ [sg (97 + k)] := by
  unfold fnd; rw [flat_succ, fndT, h]; simp [e]
theorem abc_at {i c : Nat} (h : (Str.ofString "abcde").cps[i]? = some c) : i < 5 ∧ c = 97 + i := by
  have hs : (Str.ofString "abcde").cps = #[97, 98, 99, 100, 101] := by decide
  rw [hs] at h
  match i, h with
  | 0, h => exact ⟨by decide, (Option.some.inj h).symm⟩
  | 1, h => exact ⟨by decide, (Option.some.inj h).symm⟩
  | 2, h => exact ⟨by decide, (Option.some.inj h).symm⟩
  | 3, h => exact ⟨by decide, (Option.some.inj h).symm⟩
  | 4, h => exact ⟨by decide, (Option.some.inj h).symm⟩
/-- what domain_match needs of its two texts -/
structure DmOk (x y : Str) (b : Bool) : Prop where
  hx : failsIn 40 (Txt.lower x) = true
  hx2 : (Txt.lower x).length < 100
  hy : failsIn 40 (Txt.slice (Txt.lower y) (some 1) none) = true
  hy2 : (Txt.slice (Txt.lower y) (some 1) none).length < 100
  hx3 : x.length < 100
  hy3 : y.length < 100
  hy4 : (Txt.lower y).length < 100
  r : dmF x y = b
section
variable {w : World} {mean : ExcName → Option Value} {mg mb : Str → Option Value} {p : List Nat}
    {dp un : Nat} {gd : Option (List Code)} {cn : Str} {cs : Scope} {ca : Addr} {ccd : Value} {cl : List (Str × Addr)} {outer : List Env} {A₀ : Around} {base h₀ : Heap} {L : Addr} {m : Str → Option Value} {s : Shared} {Q E : Value → Shared → Prop} {news : List (Addr × Obj)}
theorem dm_N {x y : Str} {t u : Tok} {b : Bool} (k : DmOk x y b)
    (B : Below A₀ base outer h₀) (F : Fr h₀ L s.heap m) (X : (hd.heap_39 w.params).In h₀) (T : TopX mean mg mb h₀) (hk : cs.kind = .function) (hdp : dp + 2 < recursionLimit) (hun : un + 12 < cLine) (N : News h₀ L s.heap news)
    (ret : ∀ h' tk', Fr h₀ L h' m → News h₀ L h' news → Q (.bool b) { s with heap := h', toks := tk' }) :
    wpAny (model lawProg w) (ktrTop dp un gd cn cs L ca ccd cl outer) (call (.ref 57) [.str x t, .str y u]) Q E s :=
  dm_call x y t u k.hx k.hx2 k.hy k.hy2 k.hx3 k.hy3 k.hy4 B F X T hk hdp hun (by rw [k.r]; exact use_ret F N ret)
end
end Mine
namespace Mine
/-- all that the law asks of two hosts -/
structure PairOk (P P' : List Nat) : Prop where
  up : DmOk (Txt.upper (hostS P)) (Str.ofString "." ++ hostS P') (P'.isPrefixOf P && P' != P)
  no : DmOk (Str.ofString "" ++ Txt.upper (hostS P)) (Str.ofString "" ++ hostS P') (decide (P = P'))
  both : DmOk (Str.ofString "." ++ Txt.upper (hostS P)) (Str.ofString "." ++ hostS P') (decide (P = P'))
  l1 : (Str.ofString ".").length + (hostS P').length ≤ 40
  l0 : (Str.ofString "").length + (hostS P').length ≤ 40
  u1 : (Str.ofString ".").length + (Txt.upper (hostS P)).length ≤ 40
  u0 : (Str.ofString "").length + (Txt.upper (hostS P)).length ≤ 40
end Mine
namespace Mine
def upsN (p : List Nat) (c : Nat) : List Nat := ((List.range 5).filter fun i => tN p i (c - 97)).map fun i => 97 + i
theorem ups_sg {p : List Nat} (hp : IsPerm p) : ∀ h ∈ (pileOf p).1, upsOf p h.1 = (upsN p h.1).map sg := by
  have z : ((pileOf p).1.all fun h => decide (upsOf p h.1 = (upsN p h.1).map sg)) = true := perm_all (P := fun p => ((pileOf p).1.all fun h => decide (upsOf p h.1 = (upsN p h.1).map sg)) = true) (by decide +kernel) hp
  intro h hh
  exact of_decide_eq_true (List.all_eq_true.mp z h hh)
def kepG (H : List (Nat × List Nat)) (U : List Nat) (i : Nat) : List Str := ((U.take i).filter fun a => (hfind H a).isSome).map sg
theorem kep_yes {H : List (Nat × List Nat)} {U : List Nat} {i a : Nat} (h : U[i]? = some a) (e : (hfind H a).isSome = true) : kepG H U (i + 1) = kepG H U i ++ [sg a] := by
  unfold kepG
  rw [List.take_add_one, h]
  simp [e]
theorem kep_no {H : List (Nat × List Nat)} {U : List Nat} {i a : Nat} (h : U[i]? = some a) (e : (hfind H a).isSome = false) : kepG H U (i + 1) = kepG H U i := by
  unfold kepG
  rw [List.take_add_one, h]
  simp [e]
/-- the signs found are the uppers that have a host -/
theorem fnd_is {p : List Nat} (hp : IsPerm p) : ∀ h ∈ (pileOf p).1, fnd (pileOf p).1 h.2 5 = kepG (pileOf p).1 (upsN p h.1) (upsN p h.1).length ∧ (fnd (pileOf p).1 h.2 5).all PyData.strOk = true ∧ (fnd (pileOf p).1 h.2 5).length ≤ 5 := by
  have z : ((pileOf p).1.all fun h => decide (fnd (pileOf p).1 h.2 5 = kepG (pileOf p).1 (upsN p h.1) (upsN p h.1).length ∧ (fnd (pileOf p).1 h.2 5).all PyData.strOk = true ∧ (fnd (pileOf p).1 h.2 5).length ≤ 5)) = true :=
    perm_all (P := fun p => ((pileOf p).1.all fun h => decide (fnd (pileOf p).1 h.2 5 = kepG (pileOf p).1 (upsN p h.1) (upsN p h.1).length ∧ (fnd (pileOf p).1 h.2 5).all PyData.strOk = true ∧ (fnd (pileOf p).1 h.2 5).length ≤ 5)) = true) (by decide +kernel) hp
  intro h hh
  exact of_decide_eq_true (List.all_eq_true.mp z h hh)
theorem sg_at {l : List (Str × Tok)} {U : List Nat} {i : Nat} {v : Value} (hl : l.map (·.1) = U.map sg) (h : (strValues l).toArray[i]? = some v) : ∃ a t, v = .str (sg a) t ∧ U[i]? = some a := by
  obtain ⟨x, t, rfl, hx⟩ := vals_at h
  rw [hl, List.getElem?_map] at hx
  cases q : U[i]? with
  | none => rw [q] at hx; cases hx
  | some a => rw [q] at hx; cases hx; exact ⟨a, t, rfl, rfl⟩
end Mine

end PXC2
section PXC3
open PySem PySem.Spec PySem.Calls PySem.W PyProof.Rows
namespace Mine
set_option maxRecDepth 100000
def constJ (rest : List (Addr × Obj)) (kn : List (Str × Value)) (m : Str → Option Value) (nx : List (Addr × Obj)) : Prop := nx = rest ∧ Known m kn
section
variable {prog : Program} {w : World} {A : Around} {E : Value → Shared → Prop} {s : Shared} {env : Env} {h₀ : Heap} {x : Str} {body : List Stmt} {Q : Flow → Shared → Prop}
theorem iter_const {l : Addr} {vs : List Value} {its : Array Value} {ep : Nat} {m₀ : Str → Option Value} {rest : List (Addr × Obj)} (kn : List (Str × Value))
    (hh : A.handled = none) (e : its = vs.toArray) (hl : (l, listOf its ep) ∈ rest) (F : Fr h₀ env.locals s.heap m₀) (N : News h₀ env.locals s.heap rest) (hk : Known m₀ kn)
    (turn : ∀ (i : Nat) (v : Value) (m₁ : Str → Option Value) (h : Heap) (tk : Nat) (I : Addr) (o : Obj), vs.toArray[i]? = some v → AllNe I rest → Fr h₀ env.locals h (fun y => if y = x then some v else frm m₁ kn y) → News h₀ env.locals h ((I, o) :: rest) →
      wpAny (model prog w) A (execs body env) (TurnJ h₀ env.locals (I, o) (constJ rest kn) { s with heap := h, toks := tk } Q) E { s with heap := h, toks := tk })
    (done : ∀ m₁ h tk, Fr h₀ env.locals h (frm m₁ kn) → News h₀ env.locals h rest → Q .next { s with heap := h, toks := tk }) :
    wpAny (model prog w) A (pyIter (.ref l)) (fun it s₂ => LoopAtV prog w A h₀ env x body Q E it s₂) E s := by
  subst e
  refine iter_listJ (fun _ => constJ rest kn) hh hl F N (fun i m nx hj => hj.1 ▸ hl) ⟨rfl, hk⟩ ?_ ?_
  · rintro i v m₁ nx h tk I o hv ⟨rfl, hk'⟩ hoff F₁ N₁
    exact turn i v m₁ h tk I o (by simpa using hv) (allNe_of hoff) (fr_known1 F₁ hk') N₁
  · rintro m₁ nx h tk ⟨rfl, hk'⟩ F₁ N₁
    exact done m₁ h tk (fr_known F₁ hk') N₁
theorem const_end {h' : Heap} {L : Addr} {io : Addr × Obj} {rest : List (Addr × Obj)} {kn : List (Str × Value)} {s₁ : Shared} {tk : Nat} {m' : Str → Option Value} {news' : List (Addr × Obj)}
    (F : Fr h₀ L h' m') (N : News h₀ L h' news') (hi : io ∈ news') (hr : ∀ p ∈ rest, p ∈ news') (hall : AllNe io.1 rest) (hk : Known m' kn) : EndJ h₀ L io (constJ rest kn) s₁ { s₁ with heap := h', toks := tk } :=
  EndJ.intro (nx := rest) F N hi hr (of_allNe hall) ⟨rfl, hk⟩
theorem host_end {h' : Heap} {L : Addr} {io : Addr × Obj} {cl : Addr} {oc : Obj} {v : Option Value} {rest : List (Addr × Obj)} {kn : List (Str × Value)} {s₁ : Shared} {tk : Nat} {m' : Str → Option Value} {news' : List (Addr × Obj)}
    (F : Fr h₀ L h' m') (N : News h₀ L h' news') (hi : io ∈ news') (hc : (cl, oc) ∈ news') (hd : oc.data = .cell v) (hr : ∀ p ∈ rest, p ∈ news') (hne : @Ne Nat cl io.1) (hall : AllNe io.1 rest) (hk : Known m' kn) : EndJ h₀ L io (hostJ cl rest kn) s₁ { s₁ with heap := h', toks := tk } :=
  EndJ.intro (nx := (cl, oc) :: rest) F N hi (fun p hp => (List.mem_cons.mp hp).elim (fun e => e ▸ hc) (hr p)) (fun p hp => (List.mem_cons.mp hp).elim (fun e => e ▸ hne) (of_allNe hall p)) ⟨oc, v, rfl, hd, hk⟩
end
def signsN (H : List (Nat × List Nat)) (U : List Nat) (c : Nat) : List Nat := ((U.take U.length).filter fun a => (hfind H a).isSome) ++ [c]
theorem signs_map {H : List (Nat × List Nat)} {U : List Nat} {c : Nat} {l : List (Str × Tok)} {t : Tok} (h : l.map (·.1) = kepG H U U.length) : (l ++ [(sg c, t)]).map (·.1) = (signsN H U c).map sg := by
  rw [List.map_append, h]
  unfold signsN kepG
  rw [List.map_append]; rfl
theorem top_all {p : List Nat} (hp : IsPerm p) : ∀ h ∈ (pileOf p).1, h.2.getLast? = some h.1 := by
  have z : ((pileOf p).1.all fun h => decide (h.2.getLast? = some h.1)) = true := perm_all (P := fun p => ((pileOf p).1.all fun h => decide (h.2.getLast? = some h.1)) = true) (by decide +kernel) hp
  intro h hh
  exact of_decide_eq_true (List.all_eq_true.mp z h hh)
/-- each sign of the last loop has a host; it is the lower one just if the hosts are the same -/
theorem sign_host {p : List Nat} (hp : IsPerm p) {c : Nat} {P : List Nat} (hc : (c, P) ∈ (pileOf p).1) {U : List Nat} {a : Nat} {i : Nat} (h : (signsN (pileOf p).1 U c)[i]? = some a) : ∃ P', hfind (pileOf p).1 a = some P' ∧ (a, P') ∈ (pileOf p).1 ∧ (sg a == sg c) = decide (P = P') := by
  have hm := List.mem_of_getElem? h
  unfold signsN at hm
  have hs : ∃ P', hfind (pileOf p).1 a = some P' := by
    rcases List.mem_append.mp hm with hm | hm
    · exact Option.isSome_iff_exists.mp (List.mem_filter.mp hm).2
    · cases List.mem_singleton.mp hm
      exact ⟨P, hfind_all hp _ hc⟩
  obtain ⟨P', hP⟩ := hs
  obtain ⟨c', hm', rfl⟩ := hfind_mem hP
  refine ⟨P', hP, hm', ?_⟩
  rw [sg_beq]
  by_cases e : c' = c
  · subst e
    have h1 := hfind_all hp _ hc
    rw [hP] at h1
    cases h1
    simp
  · have n : P ≠ P' := fun q => e (by
      subst q
      have h1 := top_all hp _ hc
      have h2 := top_all hp _ hm'
      exact (Option.some.inj (h1.symm.trans h2)).symm)
    rw [decide_eq_false n]
    simpa using e
end Mine

end PXC3
section PXM
open PySem PySem.Spec PySem.Calls PySem.W PyProof.Rows
namespace Mine
set_option maxRecDepth 100000
/-- the piles that can stand: signs in the alphabet's order, from the foot up -/
def subs : List (List Nat) := ([97, 98, 99, 100, 101].foldr (fun a r => r.flatMap fun l => [l, a :: l]) [[]]).filter fun l => l != []
theorem piles_subs {p : List Nat} (hp : IsPerm p) : ∀ h ∈ (pileOf p).1, h.2 ∈ subs := by
  have z : ((pileOf p).1.all fun h => subs.contains h.2) = true := perm_all (P := fun p => ((pileOf p).1.all fun h => subs.contains h.2) = true) (by decide +kernel) hp
  intro h hh
  simpa using List.all_eq_true.mp z h hh
/-- a host, as a list of Nat -/
def hostN (P : List Nat) : List Nat := P.reverse.flatMap (fun c => [c, 46]) ++ [108, 111, 99, 97, 108]
theorem host_all : (subs.all fun P => (hostS P).cps.toList == hostN P) = true := by decide +kernel
theorem facts_all : (subs.all fun P => ((hostN P).all fun c => Nat.blt c 128) && (((hostN P).map up1).all fun c => Nat.blt c 128) && ((hostN P).map up1).map lo1 == hostN P && (hostN P).map lo1 == hostN P && Nat.blt (hostN P).length 20) = true := by decide +kernel
theorem f_all : (subs.all fun P => failsIn 40 (tx (hostN P))) = true := by decide +kernel
theorem fd_all : (subs.all fun P => failsIn 40 (tx (46 :: hostN P))) = true := by decide +kernel
theorem fl_one : failsIn 40 (Str.ofString ".local") = true := by decide +kernel
theorem cut_all : (subs.all fun P => Txt.slice (Str.ofString "." ++ hostS P) (some 1) none == hostS P && Txt.slice (hostS P) (some 1) none == (if P.dropLast == [] then Str.ofString ".local" else Str.ofString "." ++ hostS P.dropLast) && (P.dropLast == [] || subs.contains P.dropLast)) = true := by decide +kernel
theorem rest_all : (subs.all fun P => hdnF (hostS P) && !hdnF (Str.ofString "." ++ hostS P) && !Txt.startswith (hostS P) "." && Txt.startswith (Str.ofString "." ++ hostS P) ".") = true := by decide +kernel
theorem tx_upper {l : List Nat} (h : (l.all fun c => Nat.blt c 128) = true) : Txt.upper (tx l) = tx (l.map up1) := by
  rw [upper_ascii (x := tx l) fun c hc => by simpa [Nat.blt_eq] using List.all_eq_true.mp h c hc]
  simp [tx]
theorem tx_lower {l : List Nat} (h : (l.all fun c => Nat.blt c 128) = true) : Txt.lower (tx l) = tx (l.map lo1) := by
  rw [lower_ascii (x := tx l) fun c hc => by simpa [Nat.blt_eq] using List.all_eq_true.mp h c hc]
  simp [tx]
theorem tx_dot (l : List Nat) : Str.ofString "." ++ tx l = tx (46 :: l) := by
  have e : Str.ofString "." = tx [46] := by decide
  rw [e]
  show Str.mk (#[46] ++ l.toArray) = _
  simp [tx]
theorem no_dot (x : Str) : Str.ofString "" ++ x = x := by
  have e : Str.ofString "" = ⟨#[]⟩ := by decide
  rw [e]
  show Str.mk (#[] ++ x.cps) = _
  simp
theorem tx_len' (l : List Nat) : (tx l).length = l.length := by simp [tx, Str.length]
theorem host_is {P : List Nat} (h : P ∈ subs) : hostS P = tx (hostN P) := by
  have z := eq_of_beq (List.all_eq_true.mp host_all P h)
  rw [← z]
  simp [tx]
structure Unary (P : List Nat) : Prop where
  low : Txt.lower (Txt.upper (hostS P)) = hostS P
  low' : Txt.lower (hostS P) = hostS P
  lowd : Txt.lower (Str.ofString "." ++ hostS P) = Str.ofString "." ++ hostS P
  lowd' : Txt.lower (Str.ofString "." ++ Txt.upper (hostS P)) = Str.ofString "." ++ hostS P
  cut : Txt.slice (Str.ofString "." ++ hostS P) (some 1) none = hostS P
  e0 : Str.ofString "" ++ hostS P = hostS P
  e0u : Str.ofString "" ++ Txt.upper (hostS P) = Txt.upper (hostS P)
  len : (hostS P).length < 20
  lenu : (Txt.upper (hostS P)).length < 20
  lend : (Str.ofString "." ++ hostS P).length < 21
  lendu : (Str.ofString "." ++ Txt.upper (hostS P)).length < 21
  f : failsIn 40 (hostS P) = true
  fd : failsIn 40 (Str.ofString "." ++ hostS P) = true
  fc : failsIn 40 (Txt.slice (hostS P) (some 1) none) = true
  lenc : (Txt.slice (hostS P) (some 1) none).length < 40
  hd : hdnF (hostS P) = true
  hdd : hdnF (Str.ofString "." ++ hostS P) = false
  st : Txt.startswith (hostS P) "." = false
  std : Txt.startswith (Str.ofString "." ++ hostS P) "." = true
theorem unary {P : List Nat} (h : P ∈ subs) : Unary P := by
  have e := host_is h
  have u := List.all_eq_true.mp facts_all P h
  have f : failsIn 40 (hostS P) = true := by rw [e]; exact List.all_eq_true.mp f_all P h
  have fd : failsIn 40 (Str.ofString "." ++ hostS P) = true := by rw [e, tx_dot]; exact List.all_eq_true.mp fd_all P h
  have c := List.all_eq_true.mp cut_all P h
  have r := List.all_eq_true.mp rest_all P h
  simp only [Bool.and_eq_true, Bool.not_eq_true', beq_iff_eq] at u c r
  obtain ⟨⟨⟨⟨a1, a2⟩, a3⟩, a4⟩, a5⟩ := u
  obtain ⟨⟨⟨r7, r8⟩, r9⟩, r10⟩ := r
  rw [Nat.blt_eq] at a5
  have eu : Txt.upper (hostS P) = tx ((hostN P).map up1) := by rw [e, tx_upper a1]
  have d1 : ((46 :: hostN P).all fun c => Nat.blt c 128) = true := by rw [List.all_cons, a1]; rfl
  have d2 : ((46 :: (hostN P).map up1).all fun c => Nat.blt c 128) = true := by rw [List.all_cons, a2]; rfl
  have lo : lo1 46 = 46 := by decide
  have q : failsIn 40 (Txt.slice (hostS P) (some 1) none) = true ∧ (Txt.slice (hostS P) (some 1) none).length < 40 := by
    rw [c.1.2]
    split
    · exact ⟨fl_one, by decide⟩
    · rename_i n
      have m : P.dropLast ∈ subs := by
        have z := c.2
        simp only [Bool.or_eq_true] at z
        rcases z with z | z
        · exact absurd z (by simpa using n)
        · simpa using z
      have u' := List.all_eq_true.mp facts_all _ m
      simp only [Bool.and_eq_true] at u'
      have z' := u'.2
      rw [Nat.blt_eq] at z'
      rw [host_is m, tx_dot]
      refine ⟨List.all_eq_true.mp fd_all _ m, ?_⟩
      rw [tx_len', List.length_cons]
      omega
  refine ⟨?_, ?_, ?_, ?_, c.1.1, no_dot _, no_dot _, ?_, ?_, ?_, ?_, f, fd, q.1, q.2, r7, r8, r9, r10⟩
  · rw [eu, tx_lower a2, a3, e]
  · rw [e, tx_lower a1, a4]
  · rw [e, tx_dot, tx_lower d1, List.map_cons, a4, lo]
  · rw [eu, e, tx_dot, tx_dot, tx_lower d2, List.map_cons, a3, lo]
  · rw [e, tx_len']; exact a5
  · rw [eu, tx_len', List.length_map]; exact a5
  · rw [e, tx_dot, tx_len', List.length_cons]; omega
  · rw [eu, tx_dot, tx_len', List.length_cons, List.length_map]; omega
def tells (r : Int) : Bool := !(decide (r = -1)) && !(decide (r = 0))
theorem tells_all : (subs.all fun P => subs.all fun P' => tells (rfindN (hostN P) (46 :: hostN P')) == (P'.isPrefixOf P && P' != P)) = true := by decide +kernel
theorem inj_all : (subs.all fun P => subs.all fun P' => (hostN P == hostN P') == (P == P')) = true := by decide +kernel
theorem tells_is {P P' : List Nat} (h : P ∈ subs) (h' : P' ∈ subs) : tells (Txt.rfind (hostS P) (Str.ofString "." ++ hostS P')) = (P'.isPrefixOf P && P' != P) := by
  rw [host_is h, host_is h', tx_dot, rfind_is]
  exact eq_of_beq (List.all_eq_true.mp (List.all_eq_true.mp tells_all P h) P' h')
theorem inj_is {P P' : List Nat} (h : P ∈ subs) (h' : P' ∈ subs) : (hostS P == hostS P') = decide (P = P') := by
  have z := eq_of_beq (List.all_eq_true.mp (List.all_eq_true.mp inj_all P h) P' h')
  rw [host_is h, host_is h']
  by_cases q : P = P'
  · subst q
    rw [decide_eq_true rfl, beq_self_eq_true]
  · rw [decide_eq_false q, beq_eq_false_iff_ne]
    intro w
    rw [tx_inj w, beq_self_eq_true] at z
    exact q (eq_of_beq z.symm)
theorem dm_eval {x y X Y : Str} (hx : Txt.lower x = X) (hy : Txt.lower y = Y) : dmF x y = if X == Y then true else if !hdnF X then false else if Txt.rfind X Y = -1 then false else if Txt.rfind X Y = 0 then false else if !Txt.startswith Y "." then false else hdnF (Txt.slice Y (some 1) none) := by
  unfold dmF
  rw [hx, hy]
theorem beq_not {X Y : Str} (h : X ≠ Y) : (X == Y) = false := beq_eq_false_iff_ne.mpr h
theorem pair_ok {P P' : List Nat} (h : P ∈ subs) (h' : P' ∈ subs) : PairOk P P' := by
  have a := unary h
  have b := unary h'
  have hl1 : (Str.ofString ".").length = 1 := by decide
  have hl0 : (Str.ofString "").length = 0 := by decide
  refine ⟨⟨by rw [a.low]; exact a.f, by rw [a.low]; have := a.len; omega, by rw [b.lowd, b.cut]; exact b.f, by rw [b.lowd, b.cut]; have := b.len; omega, by have := a.lenu; omega, by have := b.lend; omega, by rw [b.lowd]; have := b.lend; omega, ?_⟩,
    ⟨by rw [a.e0u, a.low]; exact a.f, by rw [a.e0u, a.low]; have := a.len; omega, by rw [b.e0, b.low']; exact b.fc, by rw [b.e0, b.low']; have := b.lenc; omega, by rw [a.e0u]; have := a.lenu; omega, by rw [b.e0]; have := b.len; omega, by rw [b.e0, b.low']; have := b.len; omega, ?_⟩,
    ⟨by rw [a.lowd']; exact a.fd, by rw [a.lowd']; have := a.lend; omega, by rw [b.lowd, b.cut]; exact b.f, by rw [b.lowd, b.cut]; have := b.len; omega, by have := a.lendu; omega, by have := b.lend; omega, by rw [b.lowd]; have := b.lend; omega, ?_⟩,
    by rw [hl1]; have := b.len; omega, by rw [hl0]; have := b.len; omega, by rw [hl1]; have := a.lenu; omega, by rw [hl0]; have := a.lenu; omega⟩
  · rw [dm_eval a.low b.lowd, beq_not (fun e => by have := a.st; rw [e, b.std] at this; cases this), a.hd, b.std, b.cut, b.hd, ← tells_is h h']
    unfold tells
    by_cases q : Txt.rfind (hostS P) (Str.ofString "." ++ hostS P') = -1
    · simp [q]
    · by_cases q2 : Txt.rfind (hostS P) (Str.ofString "." ++ hostS P') = 0
      · simp [q2]
      · simp [q, q2]
  · rw [a.e0u, b.e0, dm_eval a.low b.low', inj_is h h', a.hd, b.st]
    by_cases q : P = P'
    · simp [q]
    · simp [q]
  · rw [dm_eval a.lowd' b.lowd, a.hdd]
    by_cases q : P = P'
    · subst q; simp
    · have n : (Str.ofString "." ++ hostS P == Str.ofString "." ++ hostS P') = false := beq_not fun e => by
        have e2 : hostS P = hostS P' := by rw [← a.cut, ← b.cut, e]
        have := inj_is h h'
        rw [e2, beq_self_eq_true, decide_eq_false q] at this
        cases this
      rw [n, decide_eq_false q]
      simp
/-- what reach leaves -/
theorem reach_all : (subs.all fun P => reachF (hostS P) == Str.ofString "." ++ Txt.join (Str.ofString ".") ((P.dropLast.map sg).reverse ++ [Str.ofString "local"])) = true := by decide +kernel
theorem ups_drop {p : List Nat} (hp : IsPerm p) : ∀ h ∈ (pileOf p).1, upsN p h.1 = h.2.dropLast := by
  have z : ((pileOf p).1.all fun h => decide (upsN p h.1 = h.2.dropLast)) = true := perm_all (P := fun p => ((pileOf p).1.all fun h => decide (upsN p h.1 = h.2.dropLast)) = true) (by decide +kernel) hp
  intro h hh
  exact of_decide_eq_true (List.all_eq_true.mp z h hh)
theorem reach_host {p : List Nat} (hp : IsPerm p) {c : Nat} {P : List Nat} (h : (c, P) ∈ (pileOf p).1) : reachF (hostS P) = Str.ofString "." ++ Txt.join (Str.ofString ".") ((upsOf p c).reverse ++ [Str.ofString "local"]) := by
  have z := List.all_eq_true.mp reach_all P (piles_subs hp _ h)
  have e := ups_sg hp _ h
  have e2 := ups_drop hp _ h
  dsimp only at e e2
  rw [e, e2]
  exact eq_of_beq z
theorem host_fits {p : List Nat} (hp : IsPerm p) {c : Nat} {P : List Nat} (h : (c, P) ∈ (pileOf p).1) : failsIn 40 (hostS P) = true ∧ (hostS P).length < 100 :=
  ⟨(unary (piles_subs hp _ h)).f, Nat.lt_trans (unary (piles_subs hp _ h)).len (by decide)⟩
end Mine

end PXM
section PLaw
open PySem PySem.Spec PySem.Calls PySem.W PyProof.Rows
namespace Mine
local macro_rules | `(tactic| walk_at "own_enter") => `(tactic| (k_dflt (refine' enter_own ?k1 ?k2 ?k3 ?k5 ?kA ?kF ?kK ?k6 ?k7 ?k8 ?k9 ?kB ?_ ?c2 ?c3 ?c4 ?c5; (case kA => exact rfl); (case kF => exact rfl); (case kK => assumption); (case k1 => k_asm); (case k2 => k_asm); (case k3 => k_asm); (case k5 => k_asm); (case k6 => k_is); (case k7 => k_is); (case k8 => ktr_room); (case k9 => exact BindsTo.of_eq rfl); (case c5 => decide); (case kB => exact locs rfl); (case c2 => exact rfl); (case c3 => exact rfl); (case c4 => exact rfl); k_whole; intro L' h' F' N' B' X' T'; (try dsimp only); (try k_lift B'); (try k_fold))))
local macro_rules | `(tactic| walk_at "fill") => `(tactic| ((have _ff : PySem.Challenge.rw_xe0046_01 = PySem.Challenge.rw_xe0046_01 ∧ hd.heap_39 = hd.heap_39 := by (k_fill; exact ⟨rfl, rfl⟩)); clear _ff))
local macro_rules | `(tactic| walk_at "own_enter") => `(tactic| (k_dflt (refine' enter_own ?k1 ?k2 ?k3 ?k5 ?kA ?kF ?kK ?k6 ?k7 ?k8 ?k9 ?kB ?_ ?c2 ?c3 ?c4 ?c5; (case kA => exact rfl); (case kF => exact rfl); (case kK => assumption); (case k1 => k_asm); (case k2 => k_asm); (case k3 => k_asm); (case k5 => k_asm); (case k6 => k_is); (case k7 => k_is); (case k8 => ktr_room); (case k9 => exact BindsTo.of_eq rfl); (case c5 => decide); (case kB => exact locs rfl); (case c2 => exact rfl); (case c3 => exact rfl); (case c4 => exact rfl); k_whole; intro L' h' F' N' B' X' T'; (try dsimp only); (try k_lift B'); (try k_fold))))
local macro_rules | `(tactic| walk_at "fill") => `(tactic| ((have _ff : PySem.Challenge.rw_xe0046_01 = PySem.Challenge.rw_xe0046_01 ∧ hd.heap_39 = hd.heap_39 := by (k_fill; exact ⟨rfl, rfl⟩)); clear _ff))
local macro_rules | `(tactic| walk_at "to_loop") => `(tactic| repeat' (first | ((fail_if_success (with_reducible show wpAny _ _ (pyIter _) _ _ _)); (fail_if_success (with_reducible show wpAny _ _ (exec (Stmt.While _ _ _ _) _) _ _ _)); first | (k_unfold; (try dsimp only)) | (k_end; wrow_close) | walk1 | (dsimp only; walk1) | (leave1; walk_say "STEP leave1"; try dsimp only) | fail "no step")))
local macro_rules | `(tactic| walk_at "exec For Name Subscript cons nil") => `(tactic| (k_here; (rename Fr _ _ _ _ => lF'); (with_unfolding_all refine' For_invVF lF' ?k1 ?k2 ?_; (case k1 => exact rfl); (case k2 => exact rfl); k_whole)))
local macro_rules | `(tactic| walk_at "exec For Name BinOp cons nil") => `(tactic| (k_here; (rename Fr _ _ _ _ => lF'); (with_unfolding_all refine' For_invVF lF' ?k1 ?k2 ?_; (case k1 => exact rfl); (case k2 => exact rfl); k_whole)))
local macro_rules | `(tactic| walk_at "exec For Name Name cons nil") => `(tactic| (k_here; (rename Fr _ _ _ _ => lF'); (with_unfolding_all refine' For_invVF lF' ?k1 ?k2 ?_; (case k1 => exact rfl); (case k2 => exact rfl); k_whole)))
local macro_rules | `(tactic| walk_at "exec For Name Call cons nil") => `(tactic| (k_here; (rename Fr _ _ _ _ => lF'); (with_unfolding_all refine' For_invVF lF' ?k1 ?k2 ?_; (case k1 => exact rfl); (case k2 => exact rfl); k_whole)))
local macro_rules | `(tactic| walk_at "call ref") => `(tactic| (k_here; (with_reducible show wpAny _ _ (call (Value.ref 144) [Value.ref _]) _ _ _); k_dflt (refine' row_N ?h1 ?h2 ?h3 ?k1 ?k2 ?k3 ?k4 ?k5 ?k6 ?k7 ?k8 ?_; (case h1 => with_reducible assumption); (case h2 => omega); (case h3 => with_reducible assumption); (case k1 => k_asm); (case k2 => k_asm); (case k3 => k_asm); (case k4 => k_asm); (case k5 => first | exact rfl | assumption); (case k6 => ktr_room); (case k7 => ktr_units); (case k8 => k_asm); k_whole; intro p' hp' t' h' tk' F' N'; (try k_sweep))))
local macro_rules | `(tactic| walk_at "call ref") => `(tactic| (k_here; (with_reducible show wpAny _ _ (call (Value.ref 151) [Value.str _ _]) _ _ _); k_dflt (refine' leads_R ?h1 ?k1 ?k2 ?k3 ?k4 ?k5 ?k6 ?k7 ?k8 ?_; (case h1 => with_reducible assumption); (case k1 => k_asm); (case k2 => k_asm); (case k3 => k_asm); (case k4 => k_asm); (case k5 => first | exact rfl | assumption); (case k6 => ktr_room); (case k7 => ktr_units); (case k8 => k_asm); k_whole; intro l' ws' R' h' tk' hL' hR' F' N'; (try k_sweep))))
local macro_rules | `(tactic| walk_at "subR") => `(tactic| repeat (first | exact sub_self | refine sub_up ?_))
local macro_rules | `(tactic| k_all) => `(tactic| exact ne_of_lts (by with_reducible assumption))
local macro_rules | `(tactic| k_inst) => `(tactic| (refine' inst_led ?L ?R ?i ?N; (case N => k_asm); (case L => with_reducible assumption); (case R => walk_at "subR"); (case i => omega)))
local macro_rules | `(tactic| walk_at "call ref") => `(tactic| (k_here; (with_reducible show wpAny _ _ (call (Value.ref 71) [Value.str _ _, Value.str _ _]) _ _ _); k_dflt (refine' ell2_R ?h1 ?h2 ?h3 ?h4 ?h5 ?h6 ?k1 ?k2 ?k3 ?k4 ?k5 ?k6 ?k7 ?k8 ?_; (case h1 => exact rfl); (case h2 => with_reducible assumption); (case h3 => omega); (case h4 => omega); (case h5 => with_reducible assumption); (case h6 => with_reducible assumption); (case k1 => k_asm); (case k2 => k_asm); (case k3 => k_asm); (case k4 => k_asm); (case k5 => first | exact rfl | assumption); (case k6 => ktr_room); (case k7 => ktr_units); (case k8 => k_asm); k_whole; intro h' tk' F' N'; (try k_sweep))))
local macro_rules | `(tactic| walk_at "call ref") => `(tactic| (k_here; (with_reducible show wpAny _ _ (call (Value.ref 123) [Value.ref _, Value.ref _]) _ _ _); k_dflt (refine' less_R ?h1 ?h2 ?h3 ?h4 ?h5 ?h6 ?k1 ?k2 ?k3 ?k4 ?k5 ?k6 ?k7 ?k8 ?_; (case k8 => k_asm); (case h1 => with_reducible assumption); (case h2 => with_reducible assumption); (case h3 => walk_at "subR"); (case h4 => omega); (case h5 => omega); (case h6 => with_reducible assumption); (case k1 => k_asm); (case k2 => k_asm); (case k3 => k_asm); (case k4 => k_asm); (case k5 => first | exact rfl | assumption); (case k6 => ktr_room); (case k7 => ktr_units); k_whole; intro h' tk' F' N'; (try k_sweep))))
local macro_rules | `(tactic| walk_at "subscriptTail") => `(tactic| (k_here; (with_reducible show wpAny _ _ (subscriptTail _ _ (Value.str (Str.ofString "abcde") _) (Value.int _ _)) _ _ _); k_dflt (refine' abc_item ?e ?i ?_ ?hs ?ht; (case e => exact rfl); (case i => omega); (case hs => with_unfolding_all rfl); (case ht => intro _; with_unfolding_all rfl))))
local macro_rules | `(tactic| walk_at "subscriptTail Name Name ref int") => `(tactic| (k_here; (with_reducible show wpAny _ _ (subscriptTail _ _ (Value.ref _) (Value.int _ _)) _ _ _); k_dflt (refine' item_led ?L ?R ?N ?e ?i ?_ ?hs; (case N => k_asm); (case L => with_reducible assumption); (case R => walk_at "subR"); (case e => exact rfl); (case i => omega); (case hs => with_unfolding_all rfl))))
local macro_rules | `(tactic| walk_at "binaryOp Add str str") => `(tactic| (k_here; k_dflt (refine' SB.add ?_ ?z; (case z => exact Nat.le_of_ble_eq_true rfl)); intro t' k'))
local macro_rules | `(tactic| walk_at "call builtin:list.append") => `(tactic| (k_here; k_dflt (refine' append_strs ?F ?N ?e ?z ?U ?_; (case F => k_asm); (case N => k_asm); (case e => exact rfl); (case U => k_upd); (case z => omega)); intro h' F' N'; (try k_sweep)))
local macro_rules | `(tactic| walk_at "call ref") => `(tactic| (k_here; (with_reducible show wpAny _ _ (call (Value.ref 158) [Value.str _ _]) _ _ _); k_dflt (refine' pile_N ?h1 ?k1 ?k2 ?k3 ?k4 ?k5 ?k6 ?k7 ?k8 ?_; (case h1 => with_reducible assumption); (case k1 => k_asm); (case k2 => k_asm); (case k3 => k_asm); (case k4 => k_asm); (case k5 => first | exact rfl | assumption); (case k6 => ktr_room); (case k7 => ktr_units); (case k8 => k_asm); k_whole; intro tup' hd' o' HT' sk' t' h' tk' hH' hO' lo' F' N' n1' n2'; (replace n1' := allNe_of n1'); (replace n2' := allNe_of n2'); (simp only [AllNe, and_true] at n1' n2'); (try k_sweep))))
local macro_rules | `(tactic| walk_at "call ref") => `(tactic| (k_here; (with_reducible show wpAny _ _ (call (Value.ref 165) [Value.str _ _]) _ _ _); k_dflt (refine' threes_N ?h1 ?k1 ?k2 ?k3 ?k4 ?k5 ?k6 ?k7 ?k8 ?_; (case h1 => with_reducible assumption); (case k1 => k_asm); (case k2 => k_asm); (case k3 => k_asm); (case k4 => k_asm); (case k5 => first | exact rfl | assumption); (case k6 => ktr_room); (case k7 => ktr_units); (case k8 => k_asm); k_whole; intro th' l' ep' h' tk' hl' F' N' n1'; (replace n1' := allNe_of n1'); (simp only [AllNe, and_true] at n1'); (try k_sweep))))
local macro_rules | `(tactic| walk_at "compareOp NotEq str str") => `(tactic| (k_here; k_dflt (refine' ne_text ?e ?_; (case e => with_reducible assumption))))
local macro_rules | `(tactic| walk_at "compareOp Eq str str") => `(tactic| (k_here; k_dflt (refine' eq_text ?e ?_; (case e => with_reducible assumption))))
local macro_rules | `(tactic| walk_at "compareOp NotIn str ref") => `(tactic| (k_here; k_dflt (refine' in_those ?N ?m ?e ?k ?_; (case N => k_asm); (case m => k_mem); (case e => exact rfl); (case k => with_reducible assumption))))
local macro_rules | `(tactic| walk_at "compareOp NotEq ref ref") => `(tactic| (k_here; k_dflt (refine' ne_strs (l := []) (l' := []) ?N ?a ?b ?ex ?ey ?e ?ok ?hu ?_; (case N => k_asm); (case a => k_mem); (case b => k_mem); (case ex => exact rfl); (case ey => exact rfl); (case e => exact rfl); (case ok => exact rfl); (case hu => units_room))))
local macro_rules | `(tactic| walk_at "exec For Name Name cons nil") => `(tactic| (k_here; (rename Fr _ _ _ _ => lF'); (first | (with_unfolding_all refine' For_invVF lF' ?k1 ?k2 ?_; (case k1 => exact rfl); (case k2 => exact rfl); k_whole) | (with_unfolding_all refine' For_invTF lF' ?_ ?k3; (case k3 => intro _; exact rfl); k_whole))))
local macro_rules | `(tactic| walk_at "subscriptTail") => `(tactic| (k_here; (with_reducible show wpAny _ _ (subscriptTail _ _ (Value.str _ _) (Value.int _ _)) _ _ _); k_dflt (refine' item_two ?e ?a ?b ?_ ?hs ?ht; (case e => with_reducible assumption); (case a => decide); (case b => decide); (case hs => with_unfolding_all rfl); (case ht => intro _; with_unfolding_all rfl))))
local macro_rules | `(tactic| walk_at "compareOp Eq str str") => `(tactic| (k_here; k_dflt (refine' eq_bool ?e ?_; (case e => with_reducible assumption))))
local macro_rules | `(tactic| walk_at "compareOp NotEq str str") => `(tactic| (k_here; with_reducible refine ne_same ?_))
local macro_rules | `(tactic| walk_at "subscriptTail Name Name ref str") => `(tactic| (k_here; k_dflt (refine' host_item ?N ?m ?lo ?O ?f ?_ ?hs ?ht; (case N => k_asm); (case O => with_reducible assumption); (case m => k_mem); (case lo => with_reducible assumption); (case f => with_reducible assumption); (case hs => with_unfolding_all rfl); (case ht => intro _; with_unfolding_all rfl)); intro t'))
local macro_rules | `(tactic| walk_at "call ref") => `(tactic| (k_here; (with_reducible show wpAny _ _ (call (Value.ref 64) [Value.str _ _]) _ _ _); k_dflt (refine' reach_N ?h1 ?h2 ?h3 ?k1 ?k2 ?k3 ?k4 ?k5 ?k6 ?k7 ?k8 ?_; (case h1 => with_reducible assumption); (case h2 => with_reducible assumption); (case h3 => with_reducible assumption); (case k1 => k_asm); (case k2 => k_asm); (case k3 => k_asm); (case k4 => k_asm); (case k5 => first | exact rfl | assumption); (case k6 => ktr_room); (case k7 => ktr_units); (case k8 => k_asm); k_whole; intro t' h' tk' F' N'; (try k_sweep))))
local macro_rules | `(tactic| walk_at "subscriptTail Name Slice ref ref") => `(tactic| (k_here; k_dflt (refine' revList_strs ?F ?N ?m ?e ?k ?z ?_ ?s ?t; (case F => k_asm); (case N => k_asm); (case m => k_mem); (case e => exact rfl); (case k => exact IsPart.int _ _); (case z => with_reducible assumption); (case s => with_unfolding_all rfl); (case t => kmk_pure)); intro D' h' F' N' l1; (try k_lt l1); (try k_sweep)))
local macro_rules | `(tactic| walk_at "binaryOp Add ref ref") => `(tactic| (k_here; k_dflt (refine' add_strs ?F ?N ?m1 ?m2 ?e1 ?e2 ?z1 ?z2 ?_; (case F => k_asm); (case N => k_asm); (case m1 => k_mem); (case m2 => k_mem); (case e1 => exact rfl); (case e2 => exact vals_one _ _); (case z1 => first | (with_reducible assumption) | (rw [List.length_reverse]; assumption)); (case z2 => exact Nat.le_of_ble_eq_true rfl)); intro D' h' F' N' l1; (try k_lt l1); (try k_sweep)))
local macro_rules | `(tactic| walk_at "call builtin:str.join") => `(tactic| (k_here; k_dflt (refine' join_strs (x := Str.ofString ".") ?N ?m ?e ?ey ?x ?a ?b ?_; (case N => k_asm); (case m => k_mem); (case e => exact rfl); (case ey => exact ups_parts (by with_reducible assumption)); (case x => decide); (case a => exact (parts_ok (by with_reducible assumption)).1); (case b => exact (parts_ok (by with_reducible assumption)).2)); intro t' k'))
local macro_rules | `(tactic| walk_at "binaryOp Add str str") => `(tactic| (k_here; k_dflt (refine' SB.add ?_ ?z; (case z => exact fits_le (by with_reducible assumption))); intro t' k'))
local macro_rules | `(tactic| walk_at "compareOp In str ref") => `(tactic| (k_here; k_dflt (refine' host_in ?N ?m ?lo ?O ?f ?_; (case N => k_asm); (case O => with_reducible assumption); (case m => k_mem); (case lo => with_reducible assumption); (case f => with_reducible assumption))))
local macro_rules | `(tactic| walk_at "call ref") => `(tactic| (k_here; (with_reducible show wpAny _ _ (call (Value.ref 57) [Value.str _ _, Value.str _ _]) _ _ _); k_dflt (refine' dm_N ?h1 ?k1 ?k2 ?k3 ?k4 ?k5 ?k6 ?k7 ?k8 ?_; (case h1 => with_reducible assumption); (case k1 => k_asm); (case k2 => k_asm); (case k3 => k_asm); (case k4 => k_asm); (case k5 => first | exact rfl | assumption); (case k6 => ktr_room); (case k7 => ktr_units); (case k8 => k_asm); k_whole; intro h' tk' F' N'; (try k_sweep))))
local macro_rules | `(tactic| walk_at "compareOp NotEq ref ref") => `(tactic| (k_here; k_dflt (refine' ne_strs ?N ?a ?b ?ex ?ey ?e ?ok ?hu ?_; (case N => k_asm); (case a => k_mem); (case b => k_mem); (case ex => exact rfl); (case ey => exact rfl); (case e => with_reducible assumption); (case ok => with_reducible assumption); (case hu => units_room))))
local macro_rules | `(tactic| walk_at "to_lc") => `(tactic| repeat' (first | ((fail_if_success (with_reducible show wpAny _ _ (eval (PySem.Expr.ListComp _ _ _ _) _) _ _ _)); first | (k_unfold; (try dsimp only)) | (k_end; wrow_close) | walk1 | (dsimp only; walk1) | (leave1; walk_say "STEP leave1"; try dsimp only) | fail "no step")))
set_option maxRecDepth 100000
local macro_rules | `(tactic| walk_at "to_asg") => `(tactic| repeat' (first | ((fail_if_success (with_reducible show wpAny _ _ (exec (Stmt.Assign _ _ _) _) _ _ _)); first | (k_unfold; (try dsimp only)) | (k_end; wrow_close) | walk1 | (dsimp only; walk1) | (leave1; walk_say "STEP leave1"; try dsimp only) | fail "no step")))
local macro_rules | `(tactic| walk_at "to_if") => `(tactic| repeat' (first | ((fail_if_success (with_reducible show wpAny _ _ (exec (Stmt.If _ _ _ _) _) _ _ _)); first | (k_unfold; (try dsimp only)) | (k_end; wrow_close) | walk1 | (dsimp only; walk1) | (leave1; walk_say "STEP leave1"; try dsimp only) | fail "no step")))
local macro_rules | `(tactic| walk_at "to_call") => `(tactic| repeat' (first | ((fail_if_success (with_reducible show wpAny _ _ (assign _ _ _) _ _ _)); first | (k_unfold; (try dsimp only)) | (k_end; wrow_close) | walk1 | (dsimp only; walk1) | (leave1; walk_say "STEP leave1"; try dsimp only) | fail "no step")))
theorem not_told {i j : Nat} (h : ¬ i < j) (a : (false != decide ((i : Int) < (j : Int))) = true) : False := by
  rw [decide_eq_false (by omega)] at a
  cases a
set_option maxHeartbeats 40000000 in
theorem law_holds : PySem.Challenge.rw_xe0046_01.Holds := by
  refine Mine.hd ?_
  k_go0
  walk_at "fill"
  walk_at "to_loop"
  with_reducible rename Fr _ _ _ _ => F1
  with_reducible rename News _ _ _ _ => N1
  with_reducible rename LeadsOn _ _ _ _ _ => HL
  with_reducible rename IsPerm _ => HP
  with_reducible rename ∀ q ∈ _, q ∈ _ => HR
  with_reducible rename List Nat => p
  with_reducible rename List (Addr × Obj) => R
  have HLt := ne_of_lts (R := R) (by with_reducible assumption)
  with_reducible rename IsRange _ _ _ _ _ _ _ _ => R1
  refine' iter_acc (a := 0) (n := 5) (l₀ := []) (ov1 p) [(Str.ofString "over", .ref _), (Str.ofString "leads", .ref _), (Str.ofString "row", .str (tx p) _)] rfl R1 F1 N1 rfl rfl ?kn ?ha ?hb (by decide) ?hG ?turn ?done
  case kn => exact ⟨by with_unfolding_all rfl, by with_unfolding_all rfl, by with_unfolding_all rfl, trivial⟩
  case ha => rfl
  case hb => rfl
  case hG => intro i hi; have := ov1_len p i; omega
  case turn =>
    clear F1 N1 R1
    intro i t m₁ h tk I o l ep hi hl hlen hne hall F₂ N₂
    simp only [frm, Nat.zero_add] at F₂
    replace N₂ := news_swap N₂
    walk_at "to_loop"
    with_reducible rename Fr _ _ _ _ => F3
    with_reducible rename News _ _ _ _ => N3
    with_reducible rename IsRange _ _ _ _ _ _ _ _ => R3
    refine' iter_acc (a := 0) (n := 5) (l₀ := l) (fun n => ov1 p i ++ ov2 p i n) [(Str.ofString "i", .int (i : Int) t), (Str.ofString "over", .ref _), (Str.ofString "leads", .ref _), (Str.ofString "row", .str (tx p) _)] rfl R3 F3 N3 rfl ?g02 ?kn2 ?ha2 ?hb2 (by decide) ?hG2 ?turn2 ?done2
    case g02 => rw [hl]; simp [ov2, flat]
    case kn2 => exact ⟨by with_unfolding_all rfl, by with_unfolding_all rfl, by with_unfolding_all rfl, by with_unfolding_all rfl, trivial⟩
    case ha2 => rfl
    case hb2 => rfl
    case hG2 => intro n hn; have h1 := ov1_len p i; have h2 := ov2_len p i n; rw [List.length_append]; omega
    case turn2 =>
      clear F3 N3 R3
      intro j t2 m₂ h tk I2 o2 l2 ep2 hj hl2 hlen2 hne2 hall2 F₄ N₄
      simp only [frm, Nat.zero_add] at F₄
      have hne3 := hall2.1
      by_cases hij : i < j
      · cases ht : tN p i j
        · k_steps
          with_reducible rename Fr _ _ _ _ => F9
          with_reducible rename News _ _ _ _ => N9
          exact acc_end F9 N9 (by k_mem) (by k_mem) (sub1 (by k_mem) (by walk_at "subR")) rfl hne2 hall2 ⟨by with_unfolding_all rfl, by with_unfolding_all rfl, by with_unfolding_all rfl, by with_unfolding_all rfl, trivial⟩ (ov_no hl2 ht)
        · k_steps
          with_reducible rename Fr _ _ _ _ => F9
          with_reducible rename News _ _ _ _ => N9
          exact acc_end F9 N9 (by k_mem) (by k_mem) (sub1 (by k_mem) (by walk_at "subR")) rfl hne2 hall2 ⟨by with_unfolding_all rfl, by with_unfolding_all rfl, by with_unfolding_all rfl, by with_unfolding_all rfl, trivial⟩ (ov_yes hl2 ht)
      · have ht := told_ge (p := p) hij
        k_steps
        · exfalso
          rename (_ != decide _) = true => ha
          exact not_told hij ha
        · skip
          with_reducible rename Fr _ _ _ _ => F9
          with_reducible rename News _ _ _ _ => N9
          exact acc_end F9 N9 (by k_mem) (by k_mem) (sub1 (by k_mem) (by walk_at "subR")) rfl hne2 hall2 ⟨by with_unfolding_all rfl, by with_unfolding_all rfl, by with_unfolding_all rfl, by with_unfolding_all rfl, trivial⟩ (ov_no hl2 ht)
    case done2 =>
      clear F3 N3 R3
      intro m₂ h tk l2 ep2 hl2 hlen2 F₄ N₄
      simp only [frm] at F₄
      k_steps
      with_reducible rename Fr _ _ _ _ => F9
      with_reducible rename News _ _ _ _ => N9
      exact acc_end F9 N9 (by k_mem) (by k_mem) (by walk_at "subR") rfl hne hall ⟨by with_unfolding_all rfl, by with_unfolding_all rfl, by with_unfolding_all rfl, trivial⟩ (ov_up hl2)
  case done =>
    clear F1 N1
    intro m₁ h tk l ep hl hlen F₂ N₂
    simp only [frm] at F₂
    replace N₂ : News _ _ _ [_, _, _] := News.sub N₂ (sub1 (.head _) (fun q hq => .tail _ (HR q hq)))
    have hov := allNe_of (fun q hq => HLt q (HR q hq))
    simp only [AllNe, and_true] at hov
    replace hl : OvIs p (l.map (·.1)) := ⟨hl⟩
    clear HL HLt HR R1
    walk_at "to_if"
    with_reducible rename Fr _ _ _ _ => F3
    with_reducible rename News _ _ _ _ => N3
    refine' if_skip F3 N3 ?test ?rest
    case test =>
      with_reducible rename PileIs _ _ _ => HS
      with_reducible rename ThrIs _ _ => HT3
      rcases stuck_cases HP HS HT3 with ⟨e1, e2⟩ | ⟨e1, e2⟩
      · subst e1
        subst e2
        k_steps
        with_reducible rename Fr _ _ _ _ => F9
        with_reducible rename News _ _ _ _ => N9
        exact IfNo.intro F9 N9 (by walk_at "subR") rfl
      · k_steps
        exact IfNo.intro F3 N3 (by walk_at "subR") rfl
    case rest =>
      intro h4 tk4 F4 N4
      clear F3 N3
      replace N4 : News _ _ _ [_, _, _, _] := News.sub N4 (sub1 (.tail _ (.tail _ (.tail _ (.tail _ (.head _))))) (sub1 (.tail _ (.tail _ (.head _))) (sub1 (.tail _ (.tail _ (.tail _ (.head _)))) (sub1 (.tail _ (.tail _ (.tail _ (.tail _ (.tail _ (.head _)))))) sub0))))
      walk_at "to_loop"
      with_reducible rename Fr _ _ _ _ => F5
      refine' iter_hosts [(Str.ofString "over", .ref _)] rfl (by assumption) (by assumption) F5 N4 sub_self (.head _) (by assumption) ?kn3 ?turn3 ?done3
      case kn3 => exact ⟨by with_unfolding_all rfl, trivial⟩
      case done3 =>
        clear F5 N4
        intro m₂ h tk oc F6 N6
        simp only [frm] at F6
        k_steps
      case turn3 =>
        clear F5 N4
        intro i c P tP u m₂ s6 I oI oc v hi hcl hall hoc F6 N6
        simp only [frm] at F6
        have hall3 := hall
        simp only [AllNe, and_true] at hall
        with_reducible rename List ((Nat × List Nat) × Tok) => HT'
        with_reducible rename PileIs _ _ _ => HS
        obtain ⟨hmem, hfd⟩ := host_at HP HS hi
        have hreach : reachF (hostS P) = Str.ofString "." ++ Txt.join (Str.ofString ".") ((upsOf p c).reverse ++ [Str.ofString "local"]) := reach_host HP hmem
        have hfl : failsIn 40 (hostS P) = true := (host_fits HP hmem).1
        have hln : (hostS P).length < 100 := (host_fits HP hmem).2
        walk_at "to_asg"
        with_reducible rename Fr _ _ _ _ => F7
        with_reducible rename News _ _ _ _ => N7
        have hsz : (strValues l).toArray.size = (ov1 p 5).length := by rw [vals_len, ← hl.h, List.length_map]
        have hsz2 : (ov1 p 5).length ≤ 25 := ov1_len p 5
        refine LCt.Assign_ListComp_T (F₀ := F7) (by rfl) (by with_unfolding_all rfl) (by with_unfolding_all rfl) (by decide) (by rfl) (by decide) (by rfl) (by rfl) (by rfl) ?_
        walk1
        try dsimp only
        refine LCt.CompSrcT.ledger rfl F7 N7 (by k_mem) (by rw [hsz]; exact fits_le hsz2) ?_
        intro g
        refine' comp_strs (upsG p c) ?turn5 ?src5 ?zero5 ?fin5
        case zero5 => rfl
        case src5 => exact Or.inr ⟨_, by k_mem, rfl, _, rfl⟩
        case turn5 =>
          intro i5 l5 v5 I5 oI5 C5 oC5 D5 m5 h5 tk5 E5 hi5 hl5 hv5 hC5 hx5 F8 N8 off5 ne5
          obtain ⟨x5, t5, rfl, hx5'⟩ := vals_at hv5
          rw [hl.h] at hx5'
          have htwo := ov_two HP x5 (List.mem_of_getElem? hx5')
          have hup := ups_turn (c := c) hx5'
          clear F7 N7
          cases hb : (Txt.item x5 1 == sg c)
          · rw [hb, if_neg (by decide)] at hup
            k_steps
            exact CompN.intro F8 N8 sub_self hup.symm
          · rw [hb, if_pos rfl] at hup
            k_steps
            exact CompY.intro F8 N8 sub_self hup.symm
        case fin5 =>
          intro l5 hl5
          rw [hsz] at hl5
          change l5.map (·.1) = upsOf p c at hl5
          intro D5 h5 tk5 F8 N8 o5
          clear F7 N7
          simp only [LCg.Off1, and_true] at o5
          dsimp only
          have hU := ups_ok HP _ hmem
          have hUl : l5.length ≤ 1000 := by rw [← List.length_map (f := (·.1)), hl5]; exact Nat.le_trans hU.n (by decide)
          have hj0 : (Str.ofString ".").length = 1 := by decide
          have hj : (Str.ofString ".").length + (Txt.join (Str.ofString ".") ((upsOf p c).reverse ++ [Str.ofString "local"])).length ≤ 51 := by rw [hj0]; exact Nat.add_le_add_left hU.j 1
          walk_at "to_if"
          with_reducible rename Fr _ _ _ _ => F9
          with_reducible rename News _ _ _ _ => N9
          refine' if_skip F9 N9 ?test6 ?rest6
          case test6 =>
            k_steps
            with_reducible rename Fr _ _ _ _ => F10
            with_reducible rename News _ _ _ _ => N10
            exact IfNo.intro F10 N10 (by walk_at "subR") rfl
          case rest6 =>
            clear F9 N9
            intro h6 tk6 F9 N9
            walk_at "to_asg"
            refine Assign_ListComp_S (F₀ := F9) (by rfl) (by with_unfolding_all rfl) (by with_unfolding_all rfl) (by decide) (by rfl) (by decide) (by rfl) (by rfl) (by rfl) ?_
            walk1
            try dsimp only
            refine SrcST.intro (by decide +kernel) rfl F9 N9 (fits_le (k := 10) (by decide)) ?_
            intro g7
            refine' comp_strs (fnd (HT'.map (·.1)) P) ?turn7 ?src7 ?zero7 ?fin7
            case zero7 => rfl
            case src7 => trivial
            case turn7 =>
              intro i7 l7 v7 I7 oI7 C7 oC7 D7 m7 h7 tk7 E7 hi7 hl7 hv7 hC7 hx7 F11 N11 off7 ne7
              clear F9 N9
              obtain ⟨c7, t7, hc7, rfl⟩ := hv7
              obtain ⟨hlt7, rfl⟩ := abc_at hc7
              change m7 (Str.ofString "upper") = some (.str (sg (97 + i7)) t7) at hx7
              change News _ _ _ _ at N11
              simp only [LCg.Off3, and_true] at off7
              cases hf7 : hfind (HT'.map (·.1)) (97 + i7) with
              | none =>
                have hb7 : (hfind (HT'.map (·.1)) (97 + i7)).isSome = false := by rw [hf7]; rfl
                k_steps
                exact CompN.intro F11 N11 sub_self (fnd_none hf7).symm
              | some P' =>
                have hb7 : (hfind (HT'.map (·.1)) (97 + i7)).isSome = true := by rw [hf7]; rfl
                have hpair : PairOk P P' := by
                  have q := hf7
                  rw [HS.h] at q
                  obtain ⟨c', hm', _⟩ := hfind_mem q
                  exact pair_ok (piles_subs HP _ hmem) (piles_subs HP _ hm')
                have hup := hpair.up
                have hl1 := hpair.l1
                cases hd7 : (P'.isPrefixOf P && P' != P)
                · rw [hd7] at hup
                  k_steps
                  with_reducible rename Fr _ _ _ _ => F12
                  with_reducible rename News _ _ _ _ => N12
                  exact CompN.intro F12 N12 sub_self (fnd_no hf7 hd7).symm
                · rw [hd7] at hup
                  k_steps
                  with_reducible rename Fr _ _ _ _ => F12
                  with_reducible rename News _ _ _ _ => N12
                  exact CompY.intro F12 N12 sub_self (fnd_yes hf7 hd7).symm
            case fin7 =>
              intro l7 hl7
              change l7.map (·.1) = fnd (HT'.map (·.1)) P 5 at hl7
              intro D7 h7 tk7 F11 N11 o7
              clear F9 N9
              simp only [LCg.Off1, and_true] at o7
              dsimp only
              have hUN := ups_sg HP _ hmem
              have hfd7 := fnd_is HP _ hmem
              rw [← HS.h] at hfd7
              walk_at "to_if"
              with_reducible rename Fr _ _ _ _ => F9
              with_reducible rename News _ _ _ _ => N9
              refine' if_skip F9 N9 ?test8 ?rest8
              case test8 =>
                walk_at "to_lc"
                refine LCt.ListComp_T (F₀ := F9) (by with_unfolding_all rfl) (by decide) (by rfl) (by decide) (by rfl) ?_
                walk1
                try dsimp only
                have hsz8 : (strValues l5).toArray.size = (upsN p c).length := by rw [vals_len, ← List.length_map (f := (·.1)), hl5, hUN, List.length_map]
                have hsz9 : (upsN p c).length ≤ 5 := by have := hU.n; rw [hUN, List.length_map] at this; exact this
                refine LCt.CompSrcT.ledger rfl F9 N9 (by k_mem) (by rw [hsz8]; exact fits_le hsz9) ?_
                intro g8
                refine' comp_strs (kepG (HT'.map (·.1)) (upsN p c)) ?turn8 ?src8 ?zero8 ?fin8
                case zero8 => rfl
                case src8 => exact Or.inr ⟨_, by k_mem, rfl, _, rfl⟩
                case turn8 =>
                  intro i8 l8 v8 I8 oI8 C8 oC8 D8 m8 h8 tk8 E8 hi8 hl8 hv8 hC8 hx8 F11 N11 off8 ne8
                  clear F9 N9
                  obtain ⟨a8, t8, rfl, ha8⟩ := sg_at (hl5.trans hUN) hv8
                  simp only [LCg.Off3, and_true] at off8
                  cases hb8 : (hfind (HT'.map (·.1)) a8).isSome
                  · k_steps
                    exact CompN.intro F11 N11 sub_self (kep_no ha8 hb8).symm
                  · k_steps
                    exact CompY.intro F11 N11 sub_self (kep_yes ha8 hb8).symm
                case fin8 =>
                  intro l8 hl8
                  intro D8 h8 tk8 F11 N11 o8
                  clear F9 N9
                  simp only [LCg.Off1, and_true] at o8
                  dsimp only
                  rw [hsz8, ← hfd7.1, ← hl7] at hl8
                  have hl9 := hl8.symm
                  have hok : (l7.map (·.1)).all PyData.strOk = true := by rw [hl7]; exact hfd7.2.1
                  k_steps
                  exact IfNo.intro F11 N11 (by walk_at "subR") rfl
              case rest8 =>
                intro h9 tk9 F11 N11
                clear F9 N9
                have hl7n : l7.length ≤ 1000 := by rw [← List.length_map (f := (·.1)), hl7]; exact Nat.le_trans hfd7.2.2 (by decide)
                walk_at "to_loop"
                with_reducible rename Fr _ _ _ _ => F9
                with_reducible rename News _ _ _ _ => N9
                refine' iter_const [(Str.ofString "over", .ref _)] rfl rfl (.head _) F9 N9 ?kn9 ?turn9 ?done9
                case kn9 => exact ⟨by with_unfolding_all rfl, trivial⟩
                case done9 =>
                  clear F9 N9
                  intro m9 h10 tk10 F9 N9
                  simp only [frm] at F9
                  k_steps
                  exact host_end F9 N9 (by k_mem) (by k_mem) (by assumption) (by walk_at "subR") hcl hall3 ⟨by with_unfolding_all rfl, trivial⟩
                case turn9 =>
                  clear F9 N9
                  intro i9 v9 m9 h10 tk10 I9 o9 hv9 hall9 F9 N9
                  simp only [frm] at F9
                  have hall9' := hall9
                  simp only [AllNe, and_true] at hall9
                  obtain ⟨a9, t9, rfl, ha9⟩ := sg_at (signs_map (hl7.trans hfd7.1)) hv9
                  rw [HS.h] at ha9
                  obtain ⟨P9, hP9, hm9, he9⟩ := sign_host HP hmem ha9
                  rw [← HS.h] at hP9
                  have hpair : PairOk P P9 := pair_ok (piles_subs HP _ hmem) (piles_subs HP _ hm9)
                  have hno := hpair.no
                  have hboth := hpair.both
                  have hl1 := hpair.l1
                  have hl0 := hpair.l0
                  have hu1 := hpair.u1
                  have hu0 := hpair.u0
                  cases hq9 : decide (P = P9)
                  · rw [hq9] at hno hboth he9
                    k_steps
                    with_reducible rename Fr _ _ _ _ => F12
                    with_reducible rename News _ _ _ _ => N12
                    exact const_end F12 N12 (by k_mem) (by walk_at "subR") hall9' ⟨by with_unfolding_all rfl, trivial⟩
                  · rw [hq9] at hno hboth he9
                    k_steps
                    with_reducible rename Fr _ _ _ _ => F12
                    with_reducible rename News _ _ _ _ => N12
                    exact const_end F12 N12 (by k_mem) (by walk_at "subR") hall9' ⟨by with_unfolding_all rfl, trivial⟩
end Mine

end PLaw
set_option maxRecDepth 100000 in
theorem PySem.Challenge.cw_xe0046_01_holds : PySem.Challenge.rw_xe0046_01.Holds := by
  exact Mine.law_holds
