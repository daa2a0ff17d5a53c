import PyProof.Rows.All
import Wide.All
import OpenK.AllK
import Wide.FinOn
import Lean
import PySem.Challenge.RW_wo0076_01
open PySem PySem.W PyProof.Rows
set_option Elab.async false
set_option rowWalk.seconds 0
local macro_rules | `(tactic| walk_at $s:str) => `(tactic| k_extra $s)
local macro_rules | `(tactic| k_ne) => `(tactic| (refine neN ?_; (try dsimp only); first | k_extra "my.ne" | omega))
-- HdT
example : True := by
  w_top off
  exact trivial
namespace Mine
/-- the top's run over a tree of objects -/
noncomputable def topRunT (tb : String → Option Builtin) (p : Program) (w : World) (n₀ : Nat) (ann : Option Value) : Nat → SharedT → Thread → Option SharedT
  | 0, _, _ => none
  | n + 1, s, t => match through t with
    | true => some s
    | false => match stepOk n₀ ann t with
      | false => none
      | true => match stepT (denote tb) p w s t with
        | some (s', t') => topRunT tb p w n₀ ann n s' t'
        | none => none
theorem topRunT_of {tb : String → Option Builtin} {p : Program} {w : World} {n₀ : Nat} {ann : Option Value} : ∀ {n : Nat} {s s' : SharedT} {t : Thread}, topRunT tb p w n₀ ann n s t = some s' → topRun tb p w n₀ ann n s.abs t = some s'.abs
  | 0, _, _, _, h => by cases h
  | n + 1, s, s', t, h => by
    unfold topRunT at h
    unfold topRun
    cases he : through t with
    | true => rw [he] at h; cases h; rfl
    | false =>
      rw [he] at h
      cases hk : stepOk n₀ ann t with
      | false => rw [hk] at h; cases h
      | true =>
        rw [hk] at h
        cases hs : stepT (denote tb) p w s t with
        | none => rw [hs] at h; cases h
        | some r => obtain ⟨s₂, t₂⟩ := r; rw [hs] at h; dsimp only; rw [stepT_spec hs]; exact topRunT_of h
/-- a list of objects as a tree -/
noncomputable def plant : List Obj → BT → Nat → Option BT
  | [], t, _ => some t
  | o :: r, t, n => match ((t.ins n o).get n).isSome with
    | true => plant r (t.ins n o) (n + 1)
    | false => none
theorem plant_of {life : Life} : ∀ {l : List Obj} {t t' : BT} {n : Nat}, plant l t n = some t' → absHeap t' (n + l.length) life = ⟨(absHeap t n life).objs ++ l.toArray, life⟩
  | [], t, t', n, h => by cases h; simp [absHeap]
  | o :: r, t, t', n, h => by
    unfold plant at h
    cases e : ((t.ins n o).get n).isSome with
    | false => rw [e] at h; cases h
    | true =>
      rw [e] at h
      have := plant_of (life := life) h
      rw [absHeap_ins e] at this
      rw [List.length_cons, show n + (r.length + 1) = n + 1 + r.length by omega, this]
      simp [Heap.push]
noncomputable def topFromT (tb : String → Option Builtin) (p : Program) (w : World) (N : Nat) (s₀ : Shared) : Option SharedT :=
  match s₀.heap.isNs mainGlobals && s₀.gens.size == 0 with
  | true => match plant s₀.heap.objs.toList .nil 0 with
    | some T => match topRunT tb p w s₀.heap.objs.size (s₀.heap.nsMap mainGlobals "__annotations__") N ⟨T, s₀.heap.objs.size, s₀.heap.life, s₀.gens, s₀.drawn, s₀.toks, s₀.os⟩ (topStub p) with
      | some s₁ => match staticsOk (importedModules p.main.body) s₀.heap s₁.abs.heap && namesBound p s₁.abs.heap && gensDone s₁.abs && laidKept s₀.heap s₁.abs.heap with
        | true => some s₁
        | false => none
      | none => none
    | none => none
  | false => none
theorem topFromT_of {tb : String → Option Builtin} {p : Program} {w : World} {N : Nat} {s₀ : Shared} {s₁ : SharedT} (h : topFromT tb p w N s₀ = some s₁) : topFrom tb p w N s₀ = some s₁.abs := by
  unfold topFromT at h
  unfold topFrom
  cases h1 : s₀.heap.isNs mainGlobals && s₀.gens.size == 0 with
  | false => rw [h1] at h; cases h
  | true =>
    rw [h1] at h
    dsimp only at h ⊢
    cases h2 : plant s₀.heap.objs.toList .nil 0 with
    | none => rw [h2] at h; cases h
    | some T =>
      rw [h2] at h
      dsimp only at h
      have e0 := plant_of (life := s₀.heap.life) h2
      have e : (⟨T, s₀.heap.objs.size, s₀.heap.life, s₀.gens, s₀.drawn, s₀.toks, s₀.os⟩ : SharedT).abs = s₀ := by
        obtain ⟨⟨objs, life⟩, gens, drawn, toks, os⟩ := s₀
        unfold SharedT.abs
        dsimp only at e0 ⊢
        rw [Nat.zero_add] at e0
        rw [← Array.length_toList, e0]
        congr 1
        simp [absHeap, BT.list]
      cases h3 : topRunT tb p w s₀.heap.objs.size (s₀.heap.nsMap mainGlobals "__annotations__") N ⟨T, s₀.heap.objs.size, s₀.heap.life, s₀.gens, s₀.drawn, s₀.toks, s₀.os⟩ (topStub p) with
      | none => rw [h3] at h; cases h
      | some s =>
        rw [h3] at h
        have r := topRunT_of h3
        rw [e] at r
        rw [r]
        dsimp only [Option.bind] at h ⊢
        cases h4 : staticsOk (importedModules p.main.body) s₀.heap s.abs.heap && namesBound p s.abs.heap && gensDone s.abs && laidKept s₀.heap s.abs.heap with
        | false => rw [h4] at h; cases h
        | true => rw [h4] at h; cases h; rfl
theorem left_of {p q : Program} {loose : List Str} {Xt : Shared → Bool} {α : Type} {Yf : Shared → α} {Ya : World → α} {N : Nat} {g0 : Bool}
    (h : ∀ w, ((fencedOpening treeTable p w N).bind fun s₀ => (topFromT treeTable p w N s₀).map fun s => (openSeen q loose (importedModules p.main.body) Xt g0 s.abs, Yf s.abs)) = some (openGood q loose, Ya w)) : LeftO p q loose Xt Yf Ya N g0 := fun w => by
  obtain ⟨s₀, h1, h2⟩ := Option.bind_eq_some_iff.mp (h w)
  obtain ⟨s₁, h3, h4⟩ := Option.map_eq_some_iff.mp h2
  unfold openEnds
  rw [h1]
  show ((topFrom treeTable p w N s₀).map _) = _
  rw [topFromT_of h3]
  exact congrArg some h4
end Mine
-- Hd2
example : True := by
  w_top off
  exact trivial
namespace Mine
structure Hid (P : Prop) : Prop where
  out : P
structure HdS where
  L : Prop
  T : Prop
  go : Hid L → Hid T → PySem.Challenge.rw_wo0076_01.Holds
theorem hide2 {L T C : Prop} (h1 : Hid L) (h2 : Hid T) (k : (L → T → C)) : C := k h1.out h2.out
theorem two {A B C : Prop} (_ : A) (_ : B) (c : C) : C := c
set_option maxRecDepth 100000 in
set_option maxHeartbeats 8000000 in
/-- the head: what is left of it is that the top ends as it should (L) and the walk (T) -/
noncomputable def hd : HdS := HdS.mk _ _ (fun h1 h2 => hide2 h1 h2 (by
  intro a b
  w_on
  refine holds_law (by rw [PySem.W.Fast.te9446332074065402090]; kernel_rfl) fun said => ?_
  have hh : type_of% a := ?hl
  have hk : type_of% b := ?hc
  rotate_left 1
  exact @Hid.out (type_of% b) h2
  exact @Hid.out (type_of% a) h1
  clear hh hk a b
  k_head
  w_witness2))
end Mine
-- Hd3
example : True := by
  w_top off
  exact trivial
namespace Mine
/-- topRunT over the library's quick forms -/
noncomputable def topRunQ (p : Program) (w : World) (n₀ : Nat) (ann : Option Value) : Nat → SharedT → Thread → Option SharedT
  | 0, _, _ => none
  | n + 1, s, t => match through t with
    | true => some s
    | false => match PySem.W.Fast.tw6613529449190102663 n₀ ann t with
      | false => none
      | true => match PySem.W.Fast.tw10156331382660048174 (PySem.W.Fast.tw11892475500146522536 PySem.W.Fast.tw14364793385576792824) p w s t with
        | some (s', t') => topRunQ p w n₀ ann n s' t'
        | none => none
theorem topRunQ_eq {p : Program} {w : World} {n₀ : Nat} {ann : Option Value} : ∀ (n : Nat) (s : SharedT) (t : Thread), topRunT treeTable p w n₀ ann n s t = topRunQ p w n₀ ann n s t
  | 0, _, _ => rfl
  | n + 1, s, t => by
    unfold topRunT topRunQ
    rw [← PySem.W.Fast.te6613529449190102663, ← PySem.W.Fast.te10156331382660048174, ← PySem.W.Fast.te11892475500146522536, ← PySem.W.Fast.te14364793385576792824]
    simp only [topRunQ_eq n]
    (try rfl)
noncomputable def topFromQ (p : Program) (w : World) (N : Nat) (s₀ : Shared) : Option SharedT :=
  match s₀.heap.isNs mainGlobals && s₀.gens.size == 0 with
  | true => match plant s₀.heap.objs.toList .nil 0 with
    | some T => match topRunQ p w s₀.heap.objs.size (s₀.heap.nsMap mainGlobals "__annotations__") N ⟨T, s₀.heap.objs.size, s₀.heap.life, s₀.gens, s₀.drawn, s₀.toks, s₀.os⟩ (topStub p) with
      | some s₁ => match staticsOk (importedModules p.main.body) s₀.heap s₁.abs.heap && namesBound p s₁.abs.heap && gensDone s₁.abs && laidKept s₀.heap s₁.abs.heap with
        | true => some s₁
        | false => none
      | none => none
    | none => none
  | false => none
theorem topFromQ_eq {p : Program} {w : World} {N : Nat} {s₀ : Shared} : topFromT treeTable p w N s₀ = topFromQ p w N s₀ := by
  unfold topFromT topFromQ
  simp only [topRunQ_eq]
  (try rfl)
theorem left_q {p q : Program} {loose : List Str} {Xt : Shared → Bool} {α : Type} {Yf : Shared → α} {Ya : World → α} {N : Nat} {g0 : Bool}
    (h : ∀ w, (((PySem.W.Fast.tw10274390034422433532 PySem.W.Fast.tw14364793385576792824 (opening p) w N (PySem.W.Fast.tw1435165496053646825 (opening p)).1 (PySem.W.Fast.tw1435165496053646825 (opening p)).2).bind (PySem.W.Fast.tw14289696077712309145 p)).bind fun s₀ => (topFromQ p w N s₀).map fun s => (PySem.W.Fast.tw4187177175401517315 q loose (importedModules p.main.body) Xt g0 s.abs, Yf s.abs)) = some (openGood q loose, Ya w)) : LeftO p q loose Xt Yf Ya N g0 := by
  refine left_of fun w => ?_
  have h := h w
  rw [← PySem.W.Fast.te10274390034422433532, ← PySem.W.Fast.te14364793385576792824, ← PySem.W.Fast.te1435165496053646825, ← PySem.W.Fast.te14289696077712309145, ← PySem.W.Fast.te4187177175401517315] at h
  simp only [← topFromQ_eq] at h
  exact h
set_option maxRecDepth 100000 in
theorem hd_left : hd.L := left_q fun w => by kernel_rfl
theorem hd_use (h : hd.T) : PySem.Challenge.rw_wo0076_01.Holds := hd.go ⟨hd_left⟩ ⟨h⟩
end Mine
-- Base
example : True := by
  w_top off
  exact trivial
namespace Mine

/-- what every call may lean on -/
structure Wd (w : World) (h : Heap) : Prop where
  X : (hd.heap_1 w.params).In h
  T : ∃ loose mean mg mb, Top hd.view_1 loose mean mg mb h

theorem Wd.keeps {w : World} {h h' : Heap} (W : Wd w h) (k : ∀ b o, h.get? b = some o → h'.get? b = some o) : Wd w h' :=
  ⟨W.X.keeps k, let ⟨a, b, c, d, T⟩ := W.T; ⟨a, b, c, d, T.keeps k⟩⟩

noncomputable abbrev addrs (own : List (Addr × Obj)) : List Addr := own.map (·.1)

theorem inc_refl {α : Type} {l : List α} : ∀ p ∈ l, p ∈ l := fun _ h => h
theorem inc_nil {α : Type} {l : List α} : ∀ p ∈ ([] : List α), p ∈ l := fun _ h => nomatch h
theorem inc_same {α : Type} {a : α} {l l' : List α} (h : ∀ p ∈ l, p ∈ l') : ∀ p ∈ a :: l, p ∈ a :: l' := fun p hp => by
  cases hp with
  | head => exact .head _
  | tail _ q => exact .tail _ (h p q)
theorem inc_skip {α : Type} {b : α} {l l' : List α} (h : ∀ p ∈ l, p ∈ l') : ∀ p ∈ l, p ∈ b :: l' := fun p hp => .tail _ (h p hp)
theorem inc_one {α : Type} {a : α} {l l' : List α} (m : a ∈ l') (h : ∀ p ∈ l, p ∈ l') : ∀ p ∈ a :: l, p ∈ l' := List.forall_mem_cons.mpr ⟨m, h⟩
theorem inc_app {α : Type} {k l l' : List α} (m : ∀ p ∈ k, p ∈ l') (h : ∀ p ∈ l, p ∈ l') : ∀ p ∈ k ++ l, p ∈ l' := List.forall_mem_append.mpr ⟨m, h⟩
theorem inc_left {α : Type} {k l l' : List α} (h : ∀ p ∈ k, p ∈ l) : ∀ p ∈ k, p ∈ l ++ l' := fun p hp => List.mem_append_left _ (h p hp)
theorem inc_right {α : Type} {k l l' : List α} (h : ∀ p ∈ k, p ∈ l') : ∀ p ∈ k, p ∈ l ++ l' := fun p hp => List.mem_append_right _ (h p hp)
theorem neS1 {n : Nat} : n ≠ n + 1 := Nat.ne_of_lt (Nat.lt_succ_self _)
theorem neS2 {n : Nat} : n ≠ n + 1 + 1 := Nat.ne_of_lt (Nat.lt_succ_of_lt (Nat.lt_succ_self _))
theorem neS3 {n : Nat} : n ≠ n + 1 + 1 + 1 := Nat.ne_of_lt (Nat.lt_succ_of_lt (Nat.lt_succ_of_lt (Nat.lt_succ_self _)))
theorem neU1 {a n : Nat} (h : a < n) : a ≠ n + 1 := Nat.ne_of_lt (Nat.lt_succ_of_lt h)
theorem neU2 {a n : Nat} (h : a < n) : a ≠ n + 1 + 1 := Nat.ne_of_lt (Nat.lt_succ_of_lt (Nat.lt_succ_of_lt h))
theorem neU3 {a n : Nat} (h : a < n) : a ≠ n + 1 + 1 + 1 := Nat.ne_of_lt (Nat.lt_succ_of_lt (Nat.lt_succ_of_lt (Nat.lt_succ_of_lt h)))

/-- a call of f: it may change what `own` lists, all else stays -/
noncomputable def MCall (w : World) (f : Addr) (vs : List Value) (kw : List (Str × Value)) (k : Nat) (h : Heap) (own : List (Addr × Obj)) (Ret : Value → Heap → Prop) : Prop :=
  ∀ (dp un : Nat) (fr : Option (List Env)) (gd : Option (List Code)) (s : Shared) (Q E : Value → Shared → Prop), s.heap = h → dp + k < recursionLimit → un + 8 * k < cLine →
    (∀ v h' tk', (∀ b o, h.get? b = some o → b ∉ addrs own → h'.get? b = some o) → Ret v h' → Q v { s with heap := h', toks := tk' }) →
    wpAny (model PySem.Challenge.rw_wo0076_01.row.prog w) ⟨none, dp, fr, gd, un⟩ (call (.ref f) vs kw) Q E s

theorem hide_keep {h : Heap} {as : List Addr} {b : Addr} {o : Obj} (e : (hideAll h as).get? b = some o) : h.get? b = some o := of_hideAll as e

section
variable {w : World} {dp un : Nat} {fr : Option (List Env)} {gd : Option (List Code)} {s : Shared} {Q E : Value → Shared → Prop} {name qual : Str} {params : Arguments} {body : List Stmt} {scope : Scope}
  {dV kV doc pm cdv ct oc : Value} {an od : Option Addr} {osl : Array (Option Value)} {f : Addr} {vs : List Value} {kw : List (Str × Value)}

noncomputable def retOf (fl : Flow) : Value := match fl with | .ret v => v | _ => .none

theorem enterV {L' : Addr} (binds : List (Str × Value)) (own : List (Addr × Obj)) (hO : ∀ p ∈ own, s.heap.get? p.1 = some p.2) (W : Wd w (hideAll s.heap (addrs own)))
    (ho : (hd.heap_1 w.params).lookup f = some ⟨oc, od, .func (fnOf name qual params body scope dV kV doc pm an cdv ct), osl⟩) (hcd : codeIn (hd.heap_1 w.params) cdv qual = true) (hroom : dp < recursionLimit)
    (hbind : BindsTo s (fnOf name qual params body scope dV kV doc pm an cdv ct) ⟨vs, kw⟩ binds) (hloc : ∀ y ∈ binds, scope.names.lookup y.1 = some .local)
    (h : ∀ h₁, Fr (hideAll s.heap (addrs own)) L' h₁ (fun y => binds.reverse.lookup y) → News (hideAll s.heap (addrs own)) L' h₁ own → (∀ p ∈ own, p.1 < L') →
      wpAny (model PySem.Challenge.rw_wo0076_01.row.prog w) (Around.deeper ⟨none, dp, fr, gd, un⟩ (envOf qual scope L' f cdv)) (execs body (envOf qual scope L' f cdv))
        (fun fl s' => Q (retOf fl) s') (fun _ _ => False) { s with heap := h₁, toks := s.toks + binds.length })
    (hL : L' = s.heap.objs.size) (hcell : ∀ x ∈ scope.names, x.2 ≠ .cell) (hco : scope.isCoroutine = false := by rfl) (hgen : scope.isGenerator = false := by rfl) (hk : scope.kind = .function := by rfl) :
    wpAny (model PySem.Challenge.rw_wo0076_01.row.prog w) ⟨none, dp, fr, gd, un⟩ (call (.ref f) vs kw) Q E s := by
  subst hL
  obtain ⟨_, _, _, _, T⟩ := W.T
  refine wpAny_call (codeAny_call_def (fd := fnOf name qual params body scope dV kV doc pm an cdv ct) (body := body) (binds := binds) hroom (hide_keep (W.X _ _ ho)) rfl (T.nolimit.keeps fun b o e => hide_keep e) (codeRec_of (W.X.keeps fun b o e => hide_keep e) hcd) rfl hbind hcell hloc (fun h₁ hns hk₁ => ?_) hco hgen hk)
  refine wpAny_mono (h h₁ ⟨hns, fun b o e => hk₁ b o (hide_keep e), Nat.le_of_eq (hideAll_size _ _)⟩ (fun p hp => ⟨hk₁ _ _ (hO p hp), Nat.ne_of_lt (Heap.lt_size (hO p hp)), hideAll_none _ (List.mem_map_of_mem hp)⟩) (fun p hp => Heap.lt_size (hO p hp))) (fun fl s' q => ?_) fun _ _ q => q.elim
  cases fl <;> exact q

theorem enterM (binds : List (Str × Value)) (own : List (Addr × Obj)) (hO : ∀ p ∈ own, s.heap.get? p.1 = some p.2) (W : Wd w (hideAll s.heap (addrs own)))
    (ho : (hd.heap_1 w.params).lookup f = some ⟨oc, od, .func (fnOf name qual params body scope dV kV doc pm an cdv ct), osl⟩) (hcd : codeIn (hd.heap_1 w.params) cdv qual = true) (hroom : dp < recursionLimit)
    (hbind : BindsTo s (fnOf name qual params body scope dV kV doc pm an cdv ct) ⟨vs, kw⟩ binds) (hloc : ∀ y ∈ binds, scope.names.lookup y.1 = some .local)
    (h : ∀ L' h₁, Fr (hideAll s.heap (addrs own)) L' h₁ (fun y => binds.reverse.lookup y) → News (hideAll s.heap (addrs own)) L' h₁ own → (∀ p ∈ own, p.1 < L') →
      wpAny (model PySem.Challenge.rw_wo0076_01.row.prog w) (Around.deeper ⟨none, dp, fr, gd, un⟩ (envOf qual scope L' f cdv)) (execs body (envOf qual scope L' f cdv))
        (fun fl s' => Q (retOf fl) s') (fun _ _ => False) { s with heap := h₁, toks := s.toks + binds.length })
    (hcell : ∀ x ∈ scope.names, x.2 ≠ .cell) (hco : scope.isCoroutine = false := by rfl) (hgen : scope.isGenerator = false := by rfl) (hk : scope.kind = .function := by rfl) :
    wpAny (model PySem.Challenge.rw_wo0076_01.row.prog w) ⟨none, dp, fr, gd, un⟩ (call (.ref f) vs kw) Q E s :=
  enterV binds own hO W ho hcd hroom hbind hloc (h _) rfl hcell hco hgen hk

theorem enterCV {L' : Addr} (binds : List (Str × Value)) (own : List (Addr × Obj)) (hO : ∀ p ∈ own, s.heap.get? p.1 = some p.2) (W : Wd w (hideAll s.heap (addrs own)))
    (ho : (hd.heap_1 w.params).lookup f = some ⟨oc, od, .func (fnOf name qual params body scope dV kV doc pm an cdv ct), osl⟩) (hcd : codeIn (hd.heap_1 w.params) cdv qual = true) (hroom : dp < recursionLimit)
    (hbind : BindsTo s (fnOf name qual params body scope dV kV doc pm an cdv ct) ⟨vs, kw⟩ binds)
    (hkind : (binds.all fun y => scope.names.lookup y.1 == some .local || scope.names.lookup y.1 == some .cell) = true)
    (hnd : ((cellsFrom 0 scope.names []).map (·.1)).Nodup)
    (h : ∀ h₁ tk cells, Fr (hideAll s.heap (addrs own)) L' h₁ (bindL (envOfC qual scope L' f cdv).kindOf binds fun _ => none) → News (hideAll s.heap (addrs own)) L' h₁ (cells ++ own) →
      CellsAre (bindC (envOfC qual scope L' f cdv).kindOf binds fun _ => none) (cellsFrom (L' + 1) scope.names []) cells → (∀ p ∈ own, p.1 < L') →
      wpAny (model PySem.Challenge.rw_wo0076_01.row.prog w) (Around.deeper ⟨none, dp, fr, gd, un⟩ (envOfC qual scope L' f cdv)) (execs body (envOfC qual scope L' f cdv))
        (fun fl s' => Q (retOf fl) s') (fun _ _ => False) { s with heap := h₁, toks := tk })
    (hL : L' = s.heap.objs.size) (hco : scope.isCoroutine = false := by rfl) (hgen : scope.isGenerator = false := by rfl) (hk : scope.kind = .function := by rfl) :
    wpAny (model PySem.Challenge.rw_wo0076_01.row.prog w) ⟨none, dp, fr, gd, un⟩ (call (.ref f) vs kw) Q E s := by
  subst hL
  obtain ⟨_, _, _, _, T⟩ := W.T
  refine wpAny_call (codeAny_call_function (fd := fnOf name qual params body scope dV kV doc pm an cdv ct) hroom (hide_keep (W.X _ _ ho)) rfl hco hgen rfl (codeRec_of (W.X.keeps fun b o e => hide_keep e) hcd) (hbind _ _ _ _ ?_))
  refine wpAny_newFunctionEnv_cells hk (kindsX hkind _) fun env' he s' x => ?_
  subst he
  refine ⟨(T.nolimit.keeps fun b o e => hide_keep e).keeps x.toInCall.keep, codeAny_func ?_⟩
  obtain ⟨h₁, tk, rfl, _⟩ := x.done
  have hk₁ := x.toInCall.keep
  obtain ⟨cells, NC, Y⟩ := Cl.news (h₀ := s.heap) (Nat.le_refl _) fun n c hm => ⟨x.cell n c (lookup_of_mem_nodup (cellsFrom_names scope.names 0 (s.heap.objs.size + 1) [] [] rfl ▸ hnd) hm), x.above n c hm⟩
  refine wpAny_mono (h h₁ tk cells ⟨x.toInCall.ns, fun b o e => hk₁ b o (hide_keep e), Nat.le_of_eq (hideAll_size _ _)⟩ (fun p hp => ?_) Y (fun p hp => Heap.lt_size (hO p hp))) (fun fl s' q => ?_) fun _ _ q => q.elim
  · rcases List.mem_append.mp hp with q | q
    · refine ⟨(NC p q).1, (NC p q).2.1, ?_⟩
      cases e : (hideAll s.heap (addrs own)).get? p.1 with
      | none => rfl
      | some o => have := (NC p q).2.2; rw [hide_keep e] at this; cases this
    · exact ⟨hk₁ _ _ (hO p q), Nat.ne_of_lt (Heap.lt_size (hO p q)), hideAll_none _ (List.mem_map_of_mem q)⟩
  · cases fl <;> exact q

theorem enterC (binds : List (Str × Value)) (own : List (Addr × Obj)) (hO : ∀ p ∈ own, s.heap.get? p.1 = some p.2) (W : Wd w (hideAll s.heap (addrs own)))
    (ho : (hd.heap_1 w.params).lookup f = some ⟨oc, od, .func (fnOf name qual params body scope dV kV doc pm an cdv ct), osl⟩) (hcd : codeIn (hd.heap_1 w.params) cdv qual = true) (hroom : dp < recursionLimit)
    (hbind : BindsTo s (fnOf name qual params body scope dV kV doc pm an cdv ct) ⟨vs, kw⟩ binds)
    (hkind : (binds.all fun y => scope.names.lookup y.1 == some .local || scope.names.lookup y.1 == some .cell) = true)
    (hnd : ((cellsFrom 0 scope.names []).map (·.1)).Nodup)
    (h : ∀ L' h₁ tk cells, Fr (hideAll s.heap (addrs own)) L' h₁ (bindL (envOfC qual scope L' f cdv).kindOf binds fun _ => none) → News (hideAll s.heap (addrs own)) L' h₁ (cells ++ own) →
      CellsAre (bindC (envOfC qual scope L' f cdv).kindOf binds fun _ => none) (cellsFrom (L' + 1) scope.names []) cells → (∀ p ∈ own, p.1 < L') →
      wpAny (model PySem.Challenge.rw_wo0076_01.row.prog w) (Around.deeper ⟨none, dp, fr, gd, un⟩ (envOfC qual scope L' f cdv)) (execs body (envOfC qual scope L' f cdv))
        (fun fl s' => Q (retOf fl) s') (fun _ _ => False) { s with heap := h₁, toks := tk })
    (hco : scope.isCoroutine = false := by rfl) (hgen : scope.isGenerator = false := by rfl) (hk : scope.kind = .function := by rfl) :
    wpAny (model PySem.Challenge.rw_wo0076_01.row.prog w) ⟨none, dp, fr, gd, un⟩ (call (.ref f) vs kw) Q E s :=
  enterCV binds own hO W ho hcd hroom hbind hkind hnd (h _) rfl hco hgen hk

theorem MCall.use {k : Nat} {own rest : List (Addr × Obj)} {Ret : Value → Heap → Prop} {h₀ : Heap} {L : Addr} {m : Str → Option Value}
    (C : MCall w f vs kw k s.heap own Ret) (hd : dp + k < recursionLimit) (hu : un + 8 * k < cLine) (F : Fr h₀ L s.heap m) (N : News h₀ L s.heap (own ++ rest)) (hr : ∀ p ∈ rest, p.1 ∉ addrs own)
    (h : ∀ v h' tk', Ret v h' → (∀ b o, s.heap.get? b = some o → b ∉ addrs own → h'.get? b = some o) → Fr h₀ L h' m → News h₀ L h' rest → Q v { s with heap := h', toks := tk' }) :
    wpAny (model PySem.Challenge.rw_wo0076_01.row.prog w) ⟨none, dp, fr, gd, un⟩ (call (.ref f) vs kw) Q E s := by
  refine C dp un fr gd s Q E rfl hd hu fun v h' tk' hk hR => h v h' tk' hR hk ?_ ?_
  · have hL : L ∉ addrs own := fun q => by
      obtain ⟨p, hp, e⟩ := List.mem_map.mp q
      exact (N p (List.mem_append_left _ hp)).2.1 e
    obtain ⟨oL, es, ep, hLo, r⟩ := F.ns
    refine ⟨⟨oL, es, ep, hk _ _ hLo hL, r⟩, fun b o e => hk b o (F.keep b o e) fun q => ?_, F.above⟩
    obtain ⟨p, hp, rfl⟩ := List.mem_map.mp q
    rw [(N p (List.mem_append_left _ hp)).2.2] at e; cases e
  · exact fun p hp => ⟨hk _ _ (N p (List.mem_append_right _ hp)).1 (hr p hp), (N p (List.mem_append_right _ hp)).2⟩

/-- a call that changes nothing that stood -/
theorem MCall.pure {k : Nat} {Ret : Value → Heap → Prop} {h₀ : Heap} {L : Addr} {m : Str → Option Value} {news : List (Addr × Obj)}
    (C : MCall w f vs kw k s.heap [] Ret) (hd : dp + k < recursionLimit) (hu : un + 8 * k < cLine) (F : Fr h₀ L s.heap m) (N : News h₀ L s.heap news)
    (h : ∀ v h' tk', Ret v h' → (∀ b o, s.heap.get? b = some o → h'.get? b = some o) → Fr h₀ L h' m → News h₀ L h' news → Q v { s with heap := h', toks := tk' }) :
    wpAny (model PySem.Challenge.rw_wo0076_01.row.prog w) ⟨none, dp, fr, gd, un⟩ (call (.ref f) vs kw) Q E s := by
  refine C dp un fr gd s Q E rfl hd hu fun v h' tk' hk hR => ?_
  have k : ∀ b o, s.heap.get? b = some o → h'.get? b = some o := fun b o e => hk b o e (by simp [addrs])
  exact h v h' tk' hR k (F.keeps k) (N.keeps k)
end
theorem one_for_all {α : Type} (h : Nonempty α) (P : α → Prop) : ∃ a, P a → ∀ b, P b := by
  by_cases q : ∃ a, ¬ P a
  · obtain ⟨a, ha⟩ := q
    exact ⟨a, fun h => absurd h ha⟩
  · obtain ⟨a⟩ := h
    exact ⟨a, fun _ b => Classical.byContradiction fun hb => q ⟨b, hb⟩⟩
noncomputable def Hold (P : Prop) : Prop := P
theorem Hold.out {P : Prop} (h : Hold P) : P := h
theorem al0 {m : Str → Option Value} : ∀ p ∈ ([] : List (Str × Value)), m p.1 = some p.2 := fun _ h => nomatch h
theorem al {m : Str → Option Value} {x : Str} {v : Value} {l : List (Str × Value)} (h : m x = some v) (t : ∀ p ∈ l, m p.1 = some p.2) : ∀ p ∈ (x, v) :: l, m p.1 = some p.2 :=
  List.forall_mem_cons.mpr ⟨h, t⟩
noncomputable def IsI (x : Int) (v : Value) : Prop := ∃ t, v = .int x t
noncomputable def IsS (x : Str) (v : Value) : Prop := ∃ t, v = .str x t
theorem IsI.of {x y : Int} {t : Tok} (e : y = x) : IsI x (.int y t) := ⟨t, by rw [e]⟩
theorem IsS.of {x y : Str} {t : Tok} (e : y = x) : IsS x (.str y t) := ⟨t, by rw [e]⟩
end Mine
-- Re
example : True := by
  w_top off
  exact trivial
namespace Mine
set_option maxRecDepth 100000

theorem plain_pat : PlainAttrs "re.Pattern" :=
  ⟨⟨"object.__getattribute__", by rw [typeLookup_type, builtinLookup_eq_fast]; kernel_rfl, by decide +kernel⟩, by rw [typeLookup_type, builtinLookup_eq_fast]; kernel_rfl⟩
theorem slot_search : Slot "re.Pattern" "search" "re.Pattern.search" :=
  .of (owner := "re.Pattern") (n := "search") (by rw [typeLookup_type, builtinLookup_eq_fast]; kernel_rfl) (by decide +kernel) (by decide +kernel) (by decide +kernel)
    (by first | exact .inl (by decide +kernel) | exact .inr (by decide +kernel)) (by rw [isSubtype_type]; kernel_rfl)
theorem type_search : typeOf (.builtin "re.Pattern.search") = pure (.type "method_descriptor") := by show builtinType _ = _; rw [builtinType_eq_fast]; kernel_rfl
theorem entry_search : entryFor table "re.Pattern.search" = some Builtin.«re.Pattern.search» := entryFor_of_fast (by kernel_rfl)
theorem args_search (a b : Value) : argsOk "re.Pattern.search" ⟨[a, b], []⟩ := by unfold argsOk; kernel_rfl
open PySem.Builtin.Re in
theorem named_search (x : Str) (t : Tok) : reNamed "re.Pattern.search" "search" ["string", "pos", "endpos"] 1 [.str x t] [] = pure [some (.str x t), none, none] := by rfl

/-- what a failed search leaves -/
noncomputable def Fails (m : Sre.M) : Prop := m.answer = some false ∧ m.frames = [] ∧ m.outcome.isSome = false
open PySem.Builtin.Re in
theorem drive_fails {M : Model} {A : Around} {E : Value → Shared → Prop} {s : Shared} {m : Sre.M} (hm : Fails m) {Q : Option Sre.M → Shared → Prop} (h : Q none s) : wpAny M A (reRunToEnd m) Q E s := by
  obtain ⟨h1, h2, h3⟩ := hm
  have e : ∀ n, reDrive (n + 1) m = pure { m with outcome := some .failed } := by
    intro n
    have e1 : m.step = { m with outcome := some .failed } := by
      unfold Sre.M.step
      rw [h3, h1, h2]
      simp
    have e2 : m.runFor reTurnSteps = { m with outcome := some .failed } := by
      show m.runFor (3 + 1) = _
      unfold Sre.M.runFor
      rw [h3, e1, if_neg Bool.false_ne_true]
      show Sre.M.runFor (2 + 1) _ = _
      unfold Sre.M.runFor
      simp
    unfold reDrive
    rw [e2]
    simp
  unfold reRunToEnd
  rw [show (2 : Nat) ^ 64 = 18446744073709551615 + 1 from rfl, e]
  refine wpAny_bind (wpAny_pure (wpAny_bind ?_))
  refine wpAny_forIn_list _ (fun _ _ s' => s' = s) _ ?_ ?_ _ _ rfl
  · rintro y rest b s' rfl
    dsimp only
    split
    · exact wpAny_bind (wpAny_rule (wpAny_pure rfl))
    · exact wpAny_pure rfl
  · rintro b s' rfl
    exact wpAny_pure h

open PySem.Builtin.Re in
theorem search_none {prog : Program} {w : World} {A : Around} {E : Value → Shared → Prop} {s : Shared} {p q : Addr} {a b : Value} {t0 t1 : Tok} {items : Array Value} {n : Nat} {sl sl' : Array (Option Value)} {x : Str} {t : Tok} {code : Array Nat} {Q : Value → Shared → Prop}
    (hp : s.heap.get? p = some ⟨.type "re.Pattern", none, .fields #[a, b, .int 0 t0, .none, .none, .ref q, .int 0 t1], sl⟩) (hq : s.heap.get? q = some ⟨.type "tuple", none, .seq items n, sl'⟩)
    (hcode : ((items.map reRawOf).map Int.toNat) = code) (hc : Fails (Sre.forSearch code x.cps 0 0 x.cps.size false)) (hx : x.cps.size ≤ 1000) (h : Q .none s) :
    wpAny (model prog w) A (call (.builtin "re.Pattern.search") [.ref p, .str x t]) Q E s := by
  refine wpAny_call_entry slot_search ⟨_, hp, rfl⟩ entry_search ?_ (args_search _ _)
  unfold Builtin.«re.Pattern.search» reTarget
  refine wpAny_bind ?_
  dsimp only
  rw [named_search]
  refine wpAny_bind (wpAny_pure ?_)
  dsimp only
  refine wpAny_bind (wpAny_pure ?_)
  refine wpAny_bind (wpAny_pure ?_)
  refine wpAny_bind ?_
  unfold fieldsOf
  refine wpAny_bind (wpAny_load hp ?_)
  dsimp only
  refine wpAny_pure ?_
  refine wpAny_bind ?_
  unfold reTextOf
  refine wpAny_bind (wpAny_pure ?_)
  refine wpAny_pure ?_
  dsimp only
  refine wpAny_bind (wpAny_pure ?_)
  refine wpAny_bind ?_
  unfold reRawItems
  refine wpAny_bind ?_
  unfold seqItems?
  refine wpAny_bind (wpAny_load hq ?_)
  dsimp only
  refine wpAny_pure (wpAny_pure (wpAny_pure ?_))
  dsimp only
  unfold reAnswer
  dsimp only
  refine wpAny_bind (drive_fails ?_ ?_)
  · have e1 : min (Int.toNat (2 ^ 63 - 1)) x.cps.size = x.cps.size := by
      have : Int.toNat (2 ^ 63 - 1) = 9223372036854775807 := by decide
      omega
    have e2 : min (Int.toNat 0) x.cps.size = 0 := by simp
    simp only [e1, e2]
    rw [← hcode] at hc
    exact hc
  · exact wpAny_pure ⟨_, rfl, h⟩

noncomputable def codeN : Array Nat := #[14, 10, 4, 1, 1, 22, 0, 31, 16, 127, 0, 13, 7, 22, 0, 31, 16, 127, 0, 1]
noncomputable def codeV : Array Nat := #[14, 14, 4, 1, 1, 9, 4294966783, 0, 0, 2147483648, 0, 0, 0, 0, 0, 13, 11, 9, 4294966783, 0, 0, 2147483648, 0, 0, 0, 0, 0, 1]
open Sre in
theorem inN (c : Nat) (h0 : 32 ≤ c) (h1 : c < 127) (seen : Sre.Seen) : inSet codeN c codeN.size 5 true seen = .ok (false, ((seen.add 22).add 16).add 0) := by
  have e1 : (decide (0 ≤ c) && decide (c ≤ 31)) = false := by
    have : ¬ c ≤ 31 := by omega
    simp [this]
  have e2 : (c == 127) = false := by simp; omega
  show (if (decide (0 ≤ c) && decide (c ≤ 31)) = true then Except.ok (true, seen.add 22) else (if (c == 127) = true then Except.ok (true, (seen.add 22).add 16) else .ok (false, ((seen.add 22).add 16).add 0))) = _
  rw [e1, e2]
  rfl
open Sre in
theorem inV (c : Nat) (h0 : 32 ≤ c) (h1 : c < 127) (seen : Sre.Seen) : inSet codeV c codeV.size 5 true seen = .ok (false, (seen.add 9).add 0) := by
  have e1 : (decide (c < 256) && (codeV.getD (5 + (1 + c / 32)) 0).testBit (c % 32)) = false := by
    have : ∀ c : Fin 127, 32 ≤ c.val → (decide (c.val < 256) && (codeV.getD (5 + (1 + c.val / 32)) 0).testBit (c.val % 32)) = false := by decide +kernel
    exact this ⟨c, h1⟩ h0
  show (if (decide (c < 256) && (codeV.getD (5 + (1 + c / 32)) 0).testBit (c % 32)) = true then Except.ok (true, seen.add 9) else .ok (false, (seen.add 9).add 0)) = _
  rw [e1]
  rfl
/-- signs that no pattern of the text's refuses -/
noncomputable def Clean (x : Str) : Prop := x.cps.size ≤ 1000 ∧ ∀ c ∈ x.cps.toList, 32 ≤ c ∧ c < 127
open Sre in
theorem admitted_none {m : M} (hi : ∀ c, 32 ≤ c → c < 127 → ∀ seen, ∃ seen', inSet m.code c m.code.size 5 true seen = .ok (false, seen')) (hl : m.lim = m.text.size) (hc : ∀ c ∈ m.text.toList, 32 ≤ c ∧ c < 127) :
    ∀ fuel s seen, ∃ seen', M.admitted m fuel s seen = .ok (none, seen') := by
  intro fuel
  induction fuel with
  | zero => intro s seen; exact ⟨seen, rfl⟩
  | succ n ih =>
    intro s seen
    unfold M.admitted
    split
    · exact ⟨seen, rfl⟩
    · rename_i hs
      have hlt : s < m.text.size := by omega
      have e : m.text.getD s 0 = m.text[s] := by simp [Array.getD, hlt]
      have hm : m.text.getD s 0 ∈ m.text.toList := by rw [e]; simp
      obtain ⟨seen', e1⟩ := hi _ (hc _ hm).1 (hc _ hm).2 seen
      rw [e1]
      exact ih (s + 1) seen'
open Sre in
theorem fails_of {code : Array Nat} (hi : ∀ c, 32 ≤ c → c < 127 → ∀ seen, ∃ seen', inSet code c code.size 5 true seen = .ok (false, seen')) (hf : ∀ m : M, m.code = code → m.hasFirstSet = true) (hh : (header code).1 = 1) {x : Str} (hx : Clean x) :
    Fails (forSearch code x.cps 0 0 x.cps.size false) := by
  unfold forSearch
  rw [hh]
  dsimp only
  split
  · exact ⟨rfl, rfl, rfl⟩
  · have key : ∀ m : M, m.code = code → m.lim = x.cps.size → m.text = x.cps → m.frames = [] → m.outcome = none → Fails (m.attemptFrom 0 true) := by
      intro m h1 h2 h3 h4 h5
      unfold M.attemptFrom
      rw [hf _ h1]
      simp only [Bool.not_true, Bool.false_eq_true, if_false]
      obtain ⟨seen', e⟩ := admitted_none (m := m) (by rw [h1]; exact hi) (by rw [h2, h3]) (by rw [h3]; exact hx.2) (m.lim + 1 - 0) 0 m.seen
      rw [e]
      exact ⟨rfl, h4, by show m.outcome.isSome = false; rw [h5]; rfl⟩
    exact key _ rfl rfl rfl rfl rfl
theorem failsN {x : Str} (hx : Clean x) : Fails (Sre.forSearch codeN x.cps 0 0 x.cps.size false) :=
  fails_of (fun c h0 h1 seen => ⟨_, inN c h0 h1 seen⟩) (fun m e => by unfold Sre.M.hasFirstSet; rw [e]; rfl) rfl hx
theorem failsV {x : Str} (hx : Clean x) : Fails (Sre.forSearch codeV x.cps 0 0 x.cps.size false) :=
  fails_of (fun c h0 h1 seen => ⟨_, inV c h0 h1 seen⟩) (fun m e => by unfold Sre.M.hasFirstSet; rw [e]; rfl) rfl hx
end Mine
-- Gn
example : True := by
  w_top off
  exact trivial
namespace Mine
section
variable {prog : Program} {w : World} {A : Around} {E : Value → Shared → Prop} {s : Shared} {h₀ : Heap} {L : Addr} {m : Str → Option Value} {env : Env}
theorem method_search {p : Addr} {dat : Data} {sl : Array (Option Value)} {pl : Sem Bool} {Q : Value × List Value → Shared → Prop} (hp : s.heap.get? p = some ⟨.type "re.Pattern", none, dat, sl⟩) (h : Q (.builtin "re.Pattern.search", [.ref p]) s) :
    wpAny (model prog w) A (getMethod (.ref p) "search" pl) Q E s :=
  getMethod_builtin ⟨_, hp, rfl⟩ plain_pat slot_search type_search (fun a e => by cases e; exact ⟨_, hp, rfl⟩) h

theorem cr_inv {elt : Expr} {x : Str} {scope : Scope} {cl : List (Str × Addr)} {S : List (Addr × Obj) → Prop} {P : Nat → Value → Prop} {Fin : List Value → List (Addr × Obj) → Prop} {n : Nat} {news : List (Addr × Obj)} (Inv : Nat → List Value → List (Addr × Obj) → Prop) (h0 : Inv 0 [] news)
    (turn : ∀ i ys news v I oI C oC D m₂ h tk (E' : Value → Shared → Prop), i < n → ys.length = i → Inv i ys news → P i v → LCg.NsObj oC m₂ → m₂ x = some v → Fr h₀ L h m → News h₀ L h ((I, oI) :: (C, oC) :: (D, LCg.lst ys) :: news) → LCg.Off3 I C D news → ((@Ne Nat I C) ∧ (@Ne Nat I D) ∧ (@Ne Nat C D)) →
      wpAny (model prog w) A (eval elt (compEnvC scope cl C env)) (LCg.CompEnd h₀ L m { s with heap := h, toks := tk } I oI C oC D (LCg.lst ys) S (fun y news' => Inv (i + 1) (ys ++ [y]) news')) E' { s with heap := h, toks := tk })
    (fin : ∀ ys news, ys.length = n → Inv n ys news → Fin ys news) : LCg.CompRest prog w A h₀ L m env elt x scope cl s S P Fin n 0 [] news := by
  have key : ∀ (j i : Nat) (ys : List Value) (news : List (Addr × Obj)), i + j = n → ys.length = i → Inv i ys news → LCg.CompRest prog w A h₀ L m env elt x scope cl s S P Fin j i ys news := by
    intro j
    induction j with
    | zero =>
      intro i ys news hi hy hI
      have e : i = n := by omega
      subst e
      exact LCg.CompRest.zero (fin ys news hy hI)
    | succ j ih =>
      intro i ys news hi hy hI
      refine LCg.CompRest.succ ?_
      intro v I oI C oC D m₂ h tk E' hv hC hx F N off ne
      refine wpAny_mono (turn i ys news v I oI C oC D m₂ h tk E' (by omega) hy hI hv hC hx F N off ne) (fun y s₂ hq => ?_) fun _ _ e => e
      obtain ⟨h', tk', nw, e, F', N', off', hS, hI'⟩ := hq
      exact ⟨h', tk', nw, e, F', N', off', hS, ih (i + 1) _ _ (by omega) (by rw [List.length_append, List.length_singleton, hy]) hI'⟩
  exact key n 0 [] news (by omega) rfl h0

theorem crt_inv {ct elt : Expr} {x : Str} {scope : Scope} {cl : List (Str × Addr)} {S : List (Addr × Obj) → Prop} {P : Nat → Value → Prop} {Fin : List Value → List (Addr × Obj) → Prop} {n : Nat} {news : List (Addr × Obj)} (Inv : Nat → List Value → List (Addr × Obj) → Prop) (h0 : Inv 0 [] news)
    (turn : ∀ i ys news v I oI C oC D m₂ h tk (E' : Value → Shared → Prop), i < n → Inv i ys news → P i v → LCg.NsObj oC m₂ → m₂ x = some v → Fr h₀ L h m → News h₀ L h ((I, oI) :: (C, oC) :: (D, LCg.lst ys) :: news) → LCg.Off3 I C D news → ((@Ne Nat I C) ∧ (@Ne Nat I D) ∧ (@Ne Nat C D)) →
      wpAny (model prog w) A (isTrue ct (compEnvC scope cl C env) (eval ct (compEnvC scope cl C env))) (fun ok s' => if ok = true then
        wpAny (model prog w) A (eval elt (compEnvC scope cl C env)) (LCg.CompEnd h₀ L m { s with heap := h, toks := tk } I oI C oC D (LCg.lst ys) S (fun y news' => Inv (i + 1) (ys ++ [y]) news')) E' s'
        else LCg.CompEnd h₀ L m { s with heap := h, toks := tk } I oI C oC D (LCg.lst ys) S (fun _ news' => Inv (i + 1) ys news') Value.none s') E' { s with heap := h, toks := tk })
    (fin : ∀ ys news, Inv n ys news → Fin ys news) : LCt.CompRestT prog w A h₀ L m env ct elt x scope cl s S P Fin n 0 [] news := by
  have key : ∀ (j i : Nat) (ys : List Value) (news : List (Addr × Obj)), i + j = n → Inv i ys news → LCt.CompRestT prog w A h₀ L m env ct elt x scope cl s S P Fin j i ys news := by
    intro j
    induction j with
    | zero =>
      intro i ys news hi hI
      have e : i = n := by omega
      subst e
      exact LCt.CompRestT.zero (fin ys news hI)
    | succ j ih =>
      intro i ys news hi hI
      refine LCt.CompRestT.succ ?_
      intro v I oI C oC D m₂ h tk E' hv hC hx F N off ne
      refine wpAny_mono (turn i ys news v I oI C oC D m₂ h tk E' (by omega) hI hv hC hx F N off ne) (fun b s₂ hq => ?_) fun _ _ e => e
      cases b with
      | true =>
        simp only [if_true] at hq ⊢
        refine wpAny_mono hq (fun y s₃ hr => ?_) fun _ _ e => e
        obtain ⟨h', tk', nw, e, F', N', off', hS, hI'⟩ := hr
        exact ⟨h', tk', nw, e, F', N', off', hS, ih (i + 1) _ _ (by omega) hI'⟩
      | false =>
        simp only [Bool.false_eq_true, if_false] at hq ⊢
        obtain ⟨h', tk', nw, e, F', N', off', hS, hI'⟩ := hq
        exact ⟨h', tk', nw, e, F', N', off', hS, ih (i + 1) _ _ (by omega) hI'⟩
  exact key n 0 [] news (by omega) h0

theorem crp_inv {elt : Expr} {x x₂ : Str} {scope : Scope} {cl : List (Str × Addr)} {S : List (Addr × Obj) → Prop} {P : Nat → Value → Prop} {Fin : List Value → List (Addr × Obj) → Prop} {n : Nat} {news : List (Addr × Obj)} (Inv : Nat → List Value → List (Addr × Obj) → Prop) (h0 : Inv 0 [] news)
    (turn : ∀ i ys news v, i < n → ys.length = i → Inv i ys news → P i v → ∃ (t : Addr) (ot : Obj) (v₁ v₂ : Value) (nt : Nat), v = .ref t ∧ (t, ot) ∈ news ∧ ot.cls = .type "tuple" ∧ ot.data = .seq #[v₁, v₂] nt ∧
      ∀ I oI C oC D m₂ h tk (E' : Value → Shared → Prop), LCg.NsObj oC m₂ → m₂ x = some v₁ → m₂ x₂ = some v₂ → Fr h₀ L h m → News h₀ L h ((I, oI) :: (C, oC) :: (D, LCg.lst ys) :: news) → LCg.Off3 I C D news → ((@Ne Nat I C) ∧ (@Ne Nat I D) ∧ (@Ne Nat C D)) →
      wpAny (model prog w) A (eval elt (compEnvC scope cl C env)) (LCg.CompEnd h₀ L m { s with heap := h, toks := tk } I oI C oC D (LCg.lst ys) S (fun y news' => Inv (i + 1) (ys ++ [y]) news')) E' { s with heap := h, toks := tk })
    (fin : ∀ ys news, ys.length = n → Inv n ys news → Fin ys news) : LCp.CompRestP prog w A h₀ L m env elt x x₂ scope cl s S P Fin n 0 [] news := by
  have key : ∀ (j i : Nat) (ys : List Value) (news : List (Addr × Obj)), i + j = n → ys.length = i → Inv i ys news → LCp.CompRestP prog w A h₀ L m env elt x x₂ scope cl s S P Fin j i ys news := by
    intro j
    induction j with
    | zero =>
      intro i ys news hi hy hI
      have e : i = n := by omega
      subst e
      exact LCp.CompRestP.zero (fin ys news hy hI)
    | succ j ih =>
      intro i ys news hi hy hI
      refine LCp.CompRestP.succ ?_
      intro v hv
      obtain ⟨t, ot, v₁, v₂, nt, e, hm, hc, hd, go⟩ := turn i ys news v (by omega) hy hI hv
      refine ⟨t, ot, v₁, v₂, nt, e, hm, hc, hd, ?_⟩
      intro I oI C oC D m₂ h tk E' hC hx hx₂ F N off ne
      refine wpAny_mono (go I oI C oC D m₂ h tk E' hC hx hx₂ F N off ne) (fun y s₂ hq => ?_) fun _ _ e => e
      obtain ⟨h', tk', nw, e, F', N', off', hS, hI'⟩ := hq
      exact ⟨h', tk', nw, e, F', N', off', hS, ih (i + 1) _ _ (by omega) (by rw [List.length_append, List.length_singleton, hy]) hI'⟩
  exact key n 0 [] news (by omega) rfl h0
end

example (P : Params) : hd.heap_1 P = hd.heap_1 P ∧ PySem.Challenge.rw_wo0076_01 = PySem.Challenge.rw_wo0076_01 := by
  k_fill
  exact ⟨rfl, rfl⟩
section
example : True := by
  k_with_none
  (k_with "my.enter" => ((case k1 => first | exact List.forall_mem_nil _ | assumption); (case k6 => k_is); (case k7 => k_is); (case k8 => omega); (case k9 => first | exact BindsTo.of_eq rfl | exact binds_K (by k_in) rfl (by k_is) rfl rfl rfl); (case kB => exact locs rfl); (case c5 => decide); (case c2 => exact rfl); (case c3 => exact rfl); (case c4 => exact rfl)))
  (k_with "getMethod ref" => (k_here; k_dflt (refine' method_search (by exact Fr.keep (by k_asm) _ _ ((by assumption : Frag.In _ _) _ _ (by k_is))) ?_; k_whole)))
  (k_with "call builtin:re.Pattern.search" => (k_here; k_dflt (first
  | (refine' search_none (code := codeN) (by exact Fr.keep (by k_asm) _ _ ((by assumption : Frag.In _ _) 162 _ (by k_is))) (by exact Fr.keep (by k_asm) _ _ ((by assumption : Frag.In _ _) _ _ (by k_is))) (by simp [codeN, Builtin.Re.reRawOf]) (by exact failsN (by assumption)) (by exact (by assumption : Clean _).1) ?_)
  | (refine' search_none (code := codeV) (by exact Fr.keep (by k_asm) _ _ ((by assumption : Frag.In _ _) 167 _ (by k_is))) (by exact Fr.keep (by k_asm) _ _ ((by assumption : Frag.In _ _) _ _ (by k_is))) (by simp [codeV, Builtin.Re.reRawOf]) (by exact failsV (by assumption)) (by exact (by assumption : Clean _).1) ?_))))
  exact trivial
set_option maxRecDepth 100000 in
set_option maxHeartbeats 8000000 in
theorem c_convert {w : World} {h : Heap} (W : Wd w h) (sv : Value) (x : Str) (t : Tok) (b : Bool) (hc : Clean x) : MCall w 197 [sv, .str x t] [(Str.ofString "name", .bool b)] 1 h [] (fun v h' => v = .str x t) := by
  intro dp un fr gd s Q E hs hdp hun hret
  subst hs
  obtain ⟨X, loose, mean, mg, mb, T⟩ := id W
  k_dflt (refine' enterM [(Str.ofString "self", sv), (Str.ofString "value", .str x t), (Str.ofString "name", .bool b)] [] ?k1 W ?k6 ?k7 ?k8 ?k9 ?kB ?_ ?c5 ?c2 ?c3 ?c4; walk_at "my.enter")
  intro L' h₁ F N _
  (try dsimp only [addrs, List.map, hideAll] at F N)
  (try k_fold)
  k_steps
  all_goals (dsimp only; k_unfold; dsimp only [retOf])
  all_goals (exact hret _ _ _ (fun b o e _ => Fr.keep (by assumption) b o e) rfl)
end
end Mine
-- Gn2
example : True := by
  w_top off
  exact trivial
namespace Mine
noncomputable def Held (h : Heap) (own : List (Addr × Obj)) (h' : Heap) (own' : List (Addr × Obj)) : Prop := ∀ p ∈ own', h'.get? p.1 = some p.2 ∧ (p.1 ∈ addrs own ∨ h.get? p.1 = none)
theorem Held.of {h h' : Heap} {L' : Addr} {own own' news' : List (Addr × Obj)} (N : News (hideAll h (addrs own)) L' h' news') (hs : ∀ p ∈ own', p ∈ news') : Held h own h' own' := fun p hp => by
  refine ⟨(N p (hs p hp)).1, ?_⟩
  by_cases hm : p.1 ∈ addrs own
  · exact .inl hm
  · right
    cases e : h.get? p.1 with
    | none => rfl
    | some o =>
      have := hideAll_get (addrs own) e hm
      rw [(N p (hs p hp)).2.2] at this
      cases this
noncomputable def MCall2 (w : World) (f : Addr) (vs : List Value) (kw : List (Str × Value)) (k : Nat) (h : Heap) (own : List (Addr × Obj)) (P : Value → List (Addr × Obj) → Prop) : Prop :=
  MCall w f vs kw k h own (fun v h' => ∃ own', P v own' ∧ Held h own h' own')
section
variable {w : World} {dp un : Nat} {fr : Option (List Env)} {gd : Option (List Code)} {s : Shared} {Q E : Value → Shared → Prop} {f : Addr} {vs : List Value} {kw : List (Str × Value)}
theorem MCall2.use {k : Nat} {own rest news : List (Addr × Obj)} {P : Value → List (Addr × Obj) → Prop} {h₀ : Heap} {L : Addr} {m : Str → Option Value}
    (C : MCall2 w f vs kw k s.heap own P) (hd : dp + k < recursionLimit) (hu : un + 8 * k < cLine) (F : Fr h₀ L s.heap m) (N : News h₀ L s.heap news) (ho : ∀ p ∈ own, p ∈ news) (hn : ∀ p ∈ rest, p ∈ news) (hr : ∀ p ∈ rest, p.1 ∉ addrs own)
    (h : ∀ v own' h' tk', P v own' → Fr h₀ L h' m → News h₀ L h' (own' ++ rest) → (∀ p ∈ own', p.1 ∈ addrs own ∨ ∀ q ∈ own ++ rest, p.1 ≠ q.1) → Q v { s with heap := h', toks := tk' }) :
    wpAny (model PySem.Challenge.rw_wo0076_01.row.prog w) ⟨none, dp, fr, gd, un⟩ (call (.ref f) vs kw) Q E s := by
  have N₀ : News h₀ L s.heap (own ++ rest) := fun p hp => (List.mem_append.mp hp).elim (fun q => N p (ho p q)) fun q => N p (hn p q)
  refine MCall.use (own := own) (rest := rest) C hd hu F N₀ hr fun v h' tk' hR hk F' N' => ?_
  obtain ⟨own', hP, hH⟩ := hR
  have alive : ∀ b o, s.heap.get? b = some o → ∀ p ∈ own', p.1 ∉ addrs own → p.1 ≠ b := fun b o e p hp hm q => by
    rcases (hH p hp).2 with z | z
    · exact hm z
    · rw [q, e] at z; cases z
  refine h v own' h' tk' hP F' (fun p hp => ?_) (fun p hp => ?_)
  · rcases List.mem_append.mp hp with q | q
    · by_cases hm : p.1 ∈ addrs own
      · obtain ⟨p0, hp0, e0⟩ := List.mem_map.mp hm
        have z := N₀ p0 (List.mem_append_left _ hp0)
        exact ⟨(hH p q).1, e0 ▸ z.2.1, e0 ▸ z.2.2⟩
      · refine ⟨(hH p q).1, ?_, ?_⟩
        · obtain ⟨oL, _, _, hL, _⟩ := F.ns
          exact alive L oL hL p q hm
        · cases e : h₀.get? p.1 with
          | none => rfl
          | some o => exact absurd rfl (alive p.1 o (F.keep _ _ e) p q hm)
    · exact N' p q
  · by_cases hm : p.1 ∈ addrs own
    · exact .inl hm
    · exact .inr fun q hq => alive q.1 q.2 (N₀ q hq).1 p hp hm
theorem MCall2.pure {k : Nat} {news : List (Addr × Obj)} {P : Value → List (Addr × Obj) → Prop} {h₀ : Heap} {L : Addr} {m : Str → Option Value}
    (C : MCall2 w f vs kw k s.heap [] P) (hd : dp + k < recursionLimit) (hu : un + 8 * k < cLine) (F : Fr h₀ L s.heap m) (N : News h₀ L s.heap news)
    (h : ∀ v own' h' tk', P v own' → Fr h₀ L h' m → News h₀ L h' (own' ++ news) → (∀ p ∈ own', ∀ q ∈ news, p.1 ≠ q.1) → Q v { s with heap := h', toks := tk' }) :
    wpAny (model PySem.Challenge.rw_wo0076_01.row.prog w) ⟨none, dp, fr, gd, un⟩ (call (.ref f) vs kw) Q E s :=
  MCall2.use (rest := news) C hd hu F N (fun _ h => nomatch h) (fun _ h => h) (fun _ _ h => nomatch h) fun v own' h' tk' hP F' N' ha => h v own' h' tk' hP F' N' fun p hp => (ha p hp).elim (fun q => nomatch q) id
end

section
variable {prog : Program} {w : World} {A : Around} {E : Value → Shared → Prop} {s : Shared} {env : Env} {h₀ : Heap} {x : Str} {body : List Stmt} {Q : Flow → Shared → Prop}
noncomputable def RngEnd {σ : Type} (h₀ : Heap) (L : Addr) (Led : σ → List (Addr × Obj)) (ps : σ → List (Str × Value)) (x : Str) (stored : List Str) (m₀ : Str → Option Value) (P : σ → Prop) (I : Addr) (oI : Obj) (s₁ s₂ : Shared) : Prop :=
  ∃ (c : σ) (h' : Heap) (tk : Nat) (m' : Str → Option Value) (news' : List (Addr × Obj)), s₂ = { s₁ with heap := h', toks := tk } ∧ Fr h₀ L h' m' ∧ News h₀ L h' news' ∧ (I, oI) ∈ news' ∧ (∀ p ∈ Led c, p ∈ news') ∧ (∀ p ∈ Led c, p.1 ≠ I) ∧ (∀ p ∈ ps c, m' p.1 = some p.2) ∧ (∀ z, z ≠ x → (∀ p ∈ ps c, z ≠ p.1) → stored.contains z = false → m' z = m₀ z) ∧ P c
noncomputable def RngPost {σ : Type} (h₀ : Heap) (L : Addr) (Led : σ → List (Addr × Obj)) (ps : σ → List (Str × Value)) (x : Str) (stored : List Str) (m₀ : Str → Option Value) (P : σ → Prop) (I : Addr) (oI : Obj) (s₁ : Shared) (Q : Flow → Shared → Prop) (f : Flow) (s₂ : Shared) : Prop :=
  match f with
  | .ret v => Q (.ret v) s₂
  | .brk => Q .next s₂
  | _ => RngEnd h₀ L Led ps x stored m₀ P I oI s₁ s₂
theorem rng_end {σ : Type} {L : Addr} {Led : σ → List (Addr × Obj)} {ps : σ → List (Str × Value)} {stored : List Str} {m₀ m' : Str → Option Value} {P : σ → Prop} {I : Addr} {oI : Obj} {s₁ : Shared} {h' : Heap} {tk : Nat} {news' : List (Addr × Obj)} (c : σ)
    (F : Fr h₀ L h' m') (N : News h₀ L h' news') (hi : (I, oI) ∈ news') (hn : ∀ p ∈ Led c, p ∈ news') (ho : ∀ p ∈ Led c, p.1 ≠ I) (hk : ∀ p ∈ ps c, m' p.1 = some p.2) (hr : ∀ z, z ≠ x → (∀ p ∈ ps c, z ≠ p.1) → stored.contains z = false → m' z = m₀ z) (hp : P c) :
    RngEnd h₀ L Led ps x stored m₀ P I oI s₁ { s₁ with heap := h', toks := tk } := ⟨c, h', tk, m', news', rfl, F, N, hi, hn, ho, hk, hr, hp⟩

theorem rng_at {σ : Type} {a₀ : Int} {I : Addr} {n : Nat} {m₀ : Str → Option Value} (Led : σ → List (Addr × Obj)) (ps : σ → List (Str × Value)) (stored : List Str) (P : Nat → σ → Prop) (c₀ : σ)
    (W : Walks prog w A I [I] [I] n (fun i v => i < n ∧ ∃ t, v = .int (a₀ + i * 1) t) (fun i h => IsRangeIter h I (a₀ + (i : Nat) * 1) ((n : Int) - (i : Nat)) 1))
    (hI : h₀.get? I = none) (hL : env.locals ≠ I) (hnw : ∀ p ∈ Led c₀, p.1 ≠ I) (hst : IsRangeIter s.heap I (a₀ + ((0 : Nat) : Nat) * 1) ((n : Int) - ((0 : Nat) : Nat)) 1) (F : Fr h₀ env.locals s.heap m₀) (N : News h₀ env.locals s.heap (Led c₀)) (hk : ∀ p ∈ ps c₀, m₀ p.1 = some p.2) (hp : P 0 c₀)
    (turn : ∀ (c : σ) (i : Nat) (k : Int) t (u : Str → Option Value) h tk oI, k = a₀ + (i : Int) → i < n → LCg.Off1 I (Led c) → P i c → Fr h₀ env.locals h (fun y => if y = x then some (.int k t) else kstB (fun z => if stored.contains z then u z else m₀ z) (ps c) y) → News h₀ env.locals h ((I, oI) :: Led c) →
      wpAny (model prog w) A (execs body env) (RngPost h₀ env.locals Led ps x stored m₀ (P (i + 1)) I oI { s with heap := h, toks := tk } Q) E { s with heap := h, toks := tk })
    (done : ∀ (c : σ) (u : Str → Option Value) h tk, P n c → Fr h₀ env.locals h (fun y => if y = x then u y else kstB (fun z => if stored.contains z then u z else m₀ z) (ps c) y) → News h₀ env.locals h (Led c) → Q .next { s with heap := h, toks := tk }) :
    LoopAtV prog w A h₀ env x body Q E (.ref I) s := by
  let J : Nat → (Str → Option Value) → List (Addr × Obj) → Prop := fun i m nx => ∃ c : σ, nx = Led c ∧ (∀ p ∈ ps c, m p.1 = some p.2) ∧ (∀ z, z ≠ x → (∀ p ∈ ps c, z ≠ p.1) → stored.contains z = false → m z = m₀ z) ∧ P i c
  refine ⟨I, _, _, n, _, _, m₀, Led c₀, J, rfl, W, by simpa using hL, by simpa using hI, fun p hp => by simpa using hnw p hp, hst, F, N, ⟨c₀, rfl, hk, fun _ _ _ _ => rfl, hp⟩, ?_, ?_⟩
  · rintro i v m₁ news₁ s₁ own ⟨hh', tk', rfl⟩ hin ⟨_, t, rfl⟩ ⟨c, rfl, h1, h2, hp'⟩ hoff hown hal hall hst' F₁ N₁
    have e1 : a₀ + (i : Int) * 1 = a₀ + (i : Int) := by omega
    rw [e1] at F₁
    obtain ⟨oI, heI⟩ : ∃ o, hh'.get? I = some o := ⟨_, hst'⟩
    have hio : (I, oI) ∈ own := hall I (by simp) hI oI heI
    have hone : ∀ p ∈ own, p = (I, oI) := fun p hp => by
      have hp1 : p.1 = I := by simpa using hown p hp
      have := hal p hp
      rw [hp1] at this
      have e : p.2 = oI := (Option.some.inj (this.symm.trans heI))
      exact Prod.ext hp1 e
    have off' : ∀ p ∈ Led c, p.1 ≠ I := fun p hp => by simpa using hoff p hp
    have of1 : ∀ {l : List (Addr × Obj)}, (∀ p ∈ l, p.1 ≠ I) → LCg.Off1 I l := by
      intro l
      induction l with
      | nil => intro _; trivial
      | cons p r ih => intro h; exact ⟨h p List.mem_cons_self, ih fun q hq => h q (List.mem_cons_of_mem _ hq)⟩
    have N₂ : News h₀ env.locals hh' ((I, oI) :: Led c) := fun p hp => by
      rcases List.mem_cons.mp hp with rfl | hp
      · exact N₁ _ (List.mem_append_left _ hio)
      · exact N₁ _ (List.mem_append_right _ hp)
    refine wpAny_mono (turn c i _ t m₁ hh' tk' oI rfl hin (of1 off') hp' (kst_fr h1 h2 F₁) N₂) (fun f s₂ p => ?_) fun _ _ e => e
    have fin : RngEnd h₀ env.locals Led ps x stored m₀ (P (i + 1)) I oI { s with heap := hh', toks := tk' } s₂ → LoopStepU h₀ env.locals [I] own (J (i + 1)) { s with heap := hh', toks := tk' } .next s₂ := by
      rintro ⟨c', h', tk, m', news', e, F', N', hi', hn', ho', hk', hr', hp'⟩
      refine ⟨rfl, h', tk, m', Led c', e, F', fun p hp => N' p ?_, fun p hp => by simpa using ho' p hp, c', rfl, hk', hr', hp'⟩
      rcases List.mem_append.mp hp with q | q
      · rw [hone p q]; exact hi'
      · exact hn' p q
    cases f with
    | ret v => exact .ret p
    | brk => exact .brk p
    | next => exact .next (fin p)
    | cont => exact .cont (fin p)
  · rintro h' tk m' news' F' N' _ ⟨c, rfl, h1, h2, hp'⟩
    exact done c m' h' tk hp' (kst_frOut h1 h2 F') N'

theorem rng {σ : Type} {r : Addr} {a₀ b₀ : Int} {t₀ u₀ v₀ : Tok} {n : Nat} {m₀ : Str → Option Value} (Led : σ → List (Addr × Obj)) (ps : σ → List (Str × Value)) (stored : List Str) (P : Nat → σ → Prop) (c₀ : σ)
    (hh : A.handled = none) (hr : IsRange s.heap r a₀ b₀ 1 t₀ u₀ v₀) (hsmall : Builtin.Range.small a₀ b₀ 1 = true) (hn : Builtin.Range.rangeSize a₀ b₀ 1 = (n : Int)) (F : Fr h₀ env.locals s.heap m₀) (N : News h₀ env.locals s.heap (Led c₀)) (hk : ∀ p ∈ ps c₀, m₀ p.1 = some p.2) (hp : P 0 c₀)
    (turn : ∀ (c : σ) (i : Nat) (k : Int) t (u : Str → Option Value) h tk I oI, k = a₀ + (i : Int) → i < n → LCg.Off1 I (Led c) → P i c → Fr h₀ env.locals h (fun y => if y = x then some (.int k t) else kstB (fun z => if stored.contains z then u z else m₀ z) (ps c) y) → News h₀ env.locals h ((I, oI) :: Led c) →
      wpAny (model prog w) A (execs body env) (RngPost h₀ env.locals Led ps x stored m₀ (P (i + 1)) I oI { s with heap := h, toks := tk } Q) E { s with heap := h, toks := tk })
    (done : ∀ (c : σ) (u : Str → Option Value) h tk, P n c → Fr h₀ env.locals h (fun y => if y = x then u y else kstB (fun z => if stored.contains z then u z else m₀ z) (ps c) y) → News h₀ env.locals h (Led c) → Q .next { s with heap := h, toks := tk }) :
    wpAny (model prog w) A (pyIter (.ref r)) (fun it s₂ => LoopAtV prog w A h₀ env x body Q E it s₂) E s := by
  refine wpAny_pyIter_range hr hsmall ?_
  refine rng_at Led ps stored P c₀ (Walks.range hh _ a₀ 1 n).bound (next_is_new F) (Nat.ne_of_lt F.ns.lt) (fun p hp => Nat.ne_of_lt (Heap.lt_size (N p hp).1)) ?_ (F.push _) (fun p hp => ⟨Heap.get?_push_of_some _ (N p hp).1, (N p hp).2⟩) hk hp ?_ done
  · show IsRangeIter _ _ _ _ _
    rw [hn]
    simpa using Heap.get?_push_size _ rfl
  · intro c i k t u h tk oI
    exact turn c i k t u h tk _ oI
end

/-- a list of pairs of texts: the list's values, the tuples, the pairs -/
inductive Prs : List Value → List (Addr × Obj) → List (Str × Str) → Prop
  | nil : Prs [] [] []
  | cons (t : Addr) (a b : Str) (ta tb : Tok) (n : Nat) {vs ts ps} : Prs vs ts ps → Prs (.ref t :: vs) ((t, { cls := .type "tuple", data := .seq #[.str a ta, .str b tb] n }) :: ts) ((a, b) :: ps)
theorem Prs.length {vs ts ps} (h : Prs vs ts ps) : vs.length = ps.length := by induction h with | nil => rfl | cons => simp_all
theorem Prs.append {vs ts ps} (h : Prs vs ts ps) {vs' ts' ps'} (h' : Prs vs' ts' ps') : Prs (vs ++ vs') (ts ++ ts') (ps ++ ps') := by
  induction h with
  | nil => exact h'
  | cons t a b ta tb n _ ih => exact .cons t a b ta tb n ih
theorem Prs.at {vs ts ps} (h : Prs vs ts ps) : ∀ {i : Nat} {v : Value}, vs[i]? = some v → ∃ (t : Addr) (a b : Str) (ta tb : Tok) (n : Nat), v = .ref t ∧ ps[i]? = some (a, b) ∧ (t, ({ cls := .type "tuple", data := .seq #[.str a ta, .str b tb] n } : Obj)) ∈ ts := by
  induction h with
  | nil => intro i v h; simp at h
  | cons t a b ta tb n _ ih =>
    intro i v h
    cases i with
    | zero => simp at h; subst h; exact ⟨t, a, b, ta, tb, n, rfl, rfl, List.mem_cons_self⟩
    | succ i =>
      simp at h
      obtain ⟨t', a', b', ta', tb', n', e, e2, hm⟩ := ih h
      exact ⟨t', a', b', ta', tb', n', e, by simpa using e2, List.mem_cons_of_mem _ hm⟩
noncomputable abbrev hdO (w : World) (x dx l : Addr) (tk : Tok) (vs : List Value) (n : Nat) : List (Addr × Obj) :=
  [(x, instObj 296 dx), (dx, dictOf [⟨PyData.keyHash w.params (Str.ofString "_headers"), .str (Str.ofString "_headers") tk, .ref l⟩] 1), (l, listOf vs.toArray n)]
end Mine
namespace Mine
section
variable {w : World} {dp un : Nat} {fr : Option (List Env)} {gd : Option (List Code)} {s : Shared} {Q E : Value → Shared → Prop} {name qual : Str} {params : Arguments} {body : List Stmt} {scope : Scope}
  {dV kV doc pm cdv ct oc : Value} {an od : Option Addr} {osl : Array (Option Value)} {f : Addr} {vs : List Value} {kw : List (Str × Value)}
/-- enterM for a def with a ** name that is handed nothing -/
theorem enterK (binds : Addr → List (Str × Value)) (own : List (Addr × Obj)) (hO : ∀ p ∈ own, s.heap.get? p.1 = some p.2) (W : Wd w (hideAll s.heap (addrs own)))
    (ho : (hd.heap_1 w.params).lookup f = some ⟨oc, od, .func (fnOf name qual params body scope dV kV doc pm an cdv ct), osl⟩) (hcd : codeIn (hd.heap_1 w.params) cdv qual = true) (hroom : dp < recursionLimit)
    (hbind : ∀ (M : Model) (A : Around) (E : Value → Shared → Prop) (Q : List (Str × Value) → Shared → Prop), Q (binds s.heap.objs.size) { s with heap := s.heap.push (dictOf [] 0) } → wpAny M A (bindArgs (fnOf name qual params body scope dV kV doc pm an cdv ct) ⟨vs, kw⟩) Q E s)
    (hloc : ∀ D, ∀ y ∈ binds D, scope.names.lookup y.1 = some .local)
    (h : ∀ D oD L' h₁ tk, (D == sysModules) = false → oD.IsDictOf (strKind PySem.Challenge.rw_wo0076_01.row.prog w) [] → PyProof.V.FlatPairs PyData.str [] [] → Fr (hideAll s.heap (addrs own)) L' h₁ (fun y => (binds D).reverse.lookup y) → News (hideAll s.heap (addrs own)) L' h₁ ((D, oD) :: own) → (∀ p ∈ own, p.1 < D) → (∀ p ∈ own, p.1 < L') → D < L' →
      wpAny (model PySem.Challenge.rw_wo0076_01.row.prog w) (Around.deeper ⟨none, dp, fr, gd, un⟩ (envOf qual scope L' f cdv)) (execs body (envOf qual scope L' f cdv))
        (fun fl s' => Q (retOf fl) s') (fun _ _ => False) { s with heap := h₁, toks := tk })
    (hcell : ∀ x ∈ scope.names, x.2 ≠ .cell) (hco : scope.isCoroutine = false := by rfl) (hgen : scope.isGenerator = false := by rfl) (hk : scope.kind = .function := by rfl) :
    wpAny (model PySem.Challenge.rw_wo0076_01.row.prog w) ⟨none, dp, fr, gd, un⟩ (call (.ref f) vs kw) Q E s := by
  obtain ⟨_, _, _, _, T⟩ := W.T
  refine wpAny_call (codeAny_call_function (fd := fnOf name qual params body scope dV kV doc pm an cdv ct) hroom (hide_keep (W.X _ _ ho)) rfl hco hgen rfl (codeRec_of (W.X.keeps fun b o e => hide_keep e) hcd) (hbind _ _ _ _ ?_))
  have pk : ∀ b o, s.heap.get? b = some o → (s.heap.push (dictOf [] 0)).get? b = some o := fun b o e => Heap.get?_push_of_some _ e
  have sz : (hideAll s.heap (addrs own)).objs.size = s.heap.objs.size := hideAll_size _ _
  refine wpAny_newFunctionEnv hcell (hloc _) (fun h₀ hns₀ hsb₀ => ⟨((T.nolimit.keeps fun b o e => hide_keep e).keeps pk).fresh _ hsb₀, codeAny_func ?_⟩) hk
  have hk₁ : ∀ b o, s.heap.get? b = some o → h₀.get? b = some o := fun b o e => hsb₀.extBut b o (Nat.ne_of_lt (Heap.lt_size (pk b o e))) (Heap.get?_push_of_some _ (pk b o e))
  have hD : h₀.get? s.heap.objs.size = some (dictOf [] 0) := hsb₀.extBut _ _ (Nat.ne_of_lt (by rw [Heap.size_push]; exact Nat.lt_succ_self _)) (Heap.get?_push_of_some _ (Heap.get?_push_size _ rfl))
  have lo : (s.heap.objs.size == sysModules) = false := beq_eq_false_iff_ne.mpr (Nat.ne_of_gt (by have := modules_low T.nolimit; rw [sz] at this; exact this))
  have hdd : (dictOf [] 0).IsDictOf (strKind PySem.Challenge.rw_wo0076_01.row.prog w) [] := by
    obtain ⟨o, ho, hd⟩ := Heap.dictOf_iff.mp (Heap.DictOf.new (knd := strKind PySem.Challenge.rw_wo0076_01.row.prog w) s.heap)
    rw [Heap.get?_push_size _ rfl] at ho
    have e := Option.some.inj ho
    subst e
    exact hd
  refine wpAny_mono (h s.heap.objs.size (dictOf [] 0) _ h₀ _ lo hdd .nil ⟨hns₀, fun b o e => hk₁ b o (hide_keep e), by rw [sz, Heap.size_push]; exact Nat.le_succ _⟩ (fun p hp => ?_) (fun p hp => Heap.lt_size (hO p hp)) (fun p hp => by rw [Heap.size_push]; exact Nat.lt_succ_of_lt (Heap.lt_size (hO p hp))) (by rw [Heap.size_push]; exact Nat.lt_succ_self _)) (fun fl s' q => ?_) fun _ _ q => q.elim
  · rcases List.mem_cons.mp hp with rfl | q
    · refine ⟨hD, Nat.ne_of_lt (by rw [Heap.size_push]; exact Nat.lt_succ_self _), ?_⟩
      exact Heap.get?_none_of_le (by rw [sz]; exact Nat.le_refl _)
    · exact ⟨hk₁ _ _ (hO p q), Nat.ne_of_lt (by rw [Heap.size_push]; exact Nat.lt_succ_of_lt (Heap.lt_size (hO p q))), hideAll_none _ (List.mem_map_of_mem q)⟩
  · cases fl <;> exact q
end
end Mine
namespace Mine
theorem allLt_up {d e : Nat} (h : d ≤ e) : ∀ {l : List (Addr × Obj)}, AllLt d l → AllLt e l
  | [], _ => trivial
  | p :: _, x => ⟨Nat.lt_of_lt_of_le x.1 h, allLt_up h x.2⟩
end Mine
namespace Mine
section
variable {prog : Program} {w : World} {A : Around} {E : Value → Shared → Prop} {s : Shared} {h₀ : Heap} {L : Addr} {m : Str → Option Value} {env : Env}
theorem cr_fix {elt : Expr} {x : Str} {scope : Scope} {cl : List (Str × Addr)} {S : List (Addr × Obj) → Prop} {P : Nat → Value → Prop} {Fin : List Value → List (Addr × Obj) → Prop} {n : Nat} {news : List (Addr × Obj)} (R : Nat → List Value → Prop) (h0 : R 0 [])
    (turn : ∀ i ys v I oI C oC D m₂ h tk (E' : Value → Shared → Prop), i < n → ys.length = i → R i ys → P i v → LCg.NsObj oC m₂ → m₂ x = some v → Fr h₀ L h m → News h₀ L h ((I, oI) :: (C, oC) :: (D, LCg.lst ys) :: news) → LCg.Off3 I C D news → ((@Ne Nat I C) ∧ (@Ne Nat I D) ∧ (@Ne Nat C D)) →
      wpAny (model prog w) A (eval elt (compEnvC scope cl C env)) (LCg.CompEnd h₀ L m { s with heap := h, toks := tk } I oI C oC D (LCg.lst ys) S (fun y news' => news' = news ∧ R (i + 1) (ys ++ [y]))) E' { s with heap := h, toks := tk })
    (fin : ∀ ys, ys.length = n → R n ys → Fin ys news) : LCg.CompRest prog w A h₀ L m env elt x scope cl s S P Fin n 0 [] news :=
  cr_inv (fun i ys nw => nw = news ∧ R i ys) ⟨rfl, h0⟩ (fun i ys nw v I oI C oC D m₂ h tk E' hi hy hI hv hC hx F N off ne => by obtain ⟨rfl, hR⟩ := hI; exact turn i ys v I oI C oC D m₂ h tk E' hi hy hR hv hC hx F N off ne)
    fun ys nw hy hI => by obtain ⟨rfl, hR⟩ := hI; exact fin ys hy hR
theorem crt_fix {ct elt : Expr} {x : Str} {scope : Scope} {cl : List (Str × Addr)} {S : List (Addr × Obj) → Prop} {P : Nat → Value → Prop} {Fin : List Value → List (Addr × Obj) → Prop} {n : Nat} {news : List (Addr × Obj)} (R : Nat → List Value → Prop) (h0 : R 0 [])
    (turn : ∀ i ys v I oI C oC D m₂ h tk (E' : Value → Shared → Prop), i < n → R i ys → P i v → LCg.NsObj oC m₂ → m₂ x = some v → Fr h₀ L h m → News h₀ L h ((I, oI) :: (C, oC) :: (D, LCg.lst ys) :: news) → LCg.Off3 I C D news → ((@Ne Nat I C) ∧ (@Ne Nat I D) ∧ (@Ne Nat C D)) →
      wpAny (model prog w) A (isTrue ct (compEnvC scope cl C env) (eval ct (compEnvC scope cl C env))) (fun ok s' => if ok = true then
        wpAny (model prog w) A (eval elt (compEnvC scope cl C env)) (LCg.CompEnd h₀ L m { s with heap := h, toks := tk } I oI C oC D (LCg.lst ys) S (fun y news' => news' = news ∧ R (i + 1) (ys ++ [y]))) E' s'
        else LCg.CompEnd h₀ L m { s with heap := h, toks := tk } I oI C oC D (LCg.lst ys) S (fun _ news' => news' = news ∧ R (i + 1) ys) Value.none s') E' { s with heap := h, toks := tk })
    (fin : ∀ ys, R n ys → Fin ys news) : LCt.CompRestT prog w A h₀ L m env ct elt x scope cl s S P Fin n 0 [] news :=
  crt_inv (fun i ys nw => nw = news ∧ R i ys) ⟨rfl, h0⟩ (fun i ys nw v I oI C oC D m₂ h tk E' hi hI hv hC hx F N off ne => by obtain ⟨rfl, hR⟩ := hI; exact turn i ys v I oI C oC D m₂ h tk E' hi hR hv hC hx F N off ne)
    fun ys nw hI => by obtain ⟨rfl, hR⟩ := hI; exact fin ys hR
theorem Prs.tup {vs ts ps} (h : Prs vs ts ps) : ∀ {i : Nat} {v : Value}, vs[i]? = some v → ∃ (t : Addr) (a b : Str) (ta tb : Tok) (n : Nat), v = .ref t ∧ ps[i]? = some (a, b) ∧ (∀ {h₀ h : Heap} {L : Addr} {nw : List (Addr × Obj)}, News h₀ L h nw → (∀ p ∈ ts, p ∈ nw) → IsTup h t #[.str a ta, .str b tb]) ∧ vs[i]? = some (.ref t) ∧ ts[i]? = some (t, { cls := .type "tuple", data := .seq #[.str a ta, .str b tb] n }) := by
  induction h with
  | nil => intro i v h; simp at h
  | cons t a b ta tb n _ ih =>
    intro i v h
    cases i with
    | zero => simp at h; subst h; exact ⟨t, a, b, ta, tb, n, rfl, rfl, fun N hs => ⟨_, (N _ (hs _ List.mem_cons_self)).1, rfl, _, rfl⟩, rfl, rfl⟩
    | succ i =>
      simp at h
      obtain ⟨t', a', b', ta', tb', n', e, e2, hm, e3, e4⟩ := ih h
      exact ⟨t', a', b', ta', tb', n', e, by simpa using e2, fun N hs => hm N fun p hp => hs p (List.mem_cons_of_mem _ hp), by simpa using e3, by simpa using e4⟩
end
end Mine
namespace Mine
theorem nm1 {h₀ h : Heap} {L a : Addr} {o : Obj} {rest : List (Addr × Obj)} (_ : News h₀ L h ((a, o) :: rest)) : ∃ r, r = a := ⟨a, rfl⟩
theorem nm2 {h₀ h : Heap} {L a b : Addr} {o o' : Obj} {rest : List (Addr × Obj)} (_ : News h₀ L h ((a, o) :: (b, o') :: rest)) : ∃ r q, r = a ∧ q = b := ⟨a, b, rfl, rfl⟩
theorem nm3 {h₀ h : Heap} {L a b c : Addr} {o o' o'' : Obj} {rest : List (Addr × Obj)} (_ : News h₀ L h ((a, o) :: (b, o') :: (c, o'') :: rest)) : ∃ r q p, r = a ∧ q = b ∧ p = c := ⟨a, b, c, rfl, rfl, rfl⟩
end Mine
-- Mdat
example : True := by
  w_top off
  exact trivial
namespace Mine
/-- the sign at place i of a spelling -/
noncomputable def sg (s n i : Nat) : Nat := if n / 2 ^ i % 2 = 1 then 65 + s + i else 97 + s + i
noncomputable def sp1 (s n i : Nat) : Str := ⟨#[sg s n i]⟩
noncomputable def spell (s n : Nat) : Str := ⟨#[sg s n 0, sg s n 1, sg s n 2, sg s n 3]⟩
theorem spell_len (s n : Nat) : (spell s n).length = 4 := rfl
theorem item_spell (s : Fin 20) (n : Fin 16) (i : Fin 4) : Txt.item (spell s n) (i.val : Int) = sp1 s n i := by
  match i with
  | 0 => rfl
  | 1 => rfl
  | 2 => rfl
  | 3 => rfl
theorem upper_sp1 : ∀ s : Fin 20, ∀ i : Fin 4, Txt.upper (sp1 s 0 i) = sp1 s 15 i := by decide +kernel
theorem sp1_15 : ∀ s : Fin 20, ∀ n : Fin 16, ∀ i : Fin 4, (n.val / 2 ^ i.val % 2 = 1 → sp1 s 15 i = sp1 s n i) ∧ (¬ n.val / 2 ^ i.val % 2 = 1 → sp1 s 0 i = sp1 s n i) := by decide +kernel
theorem join_spell (s n : Nat) : Txt.join (Str.ofString "") [sp1 s n 0, sp1 s n 1, sp1 s n 2, sp1 s n 3] = spell s n := rfl
theorem fdiv_pow (n i : Nat) : (((n : Int).fdiv (2 ^ i)).fmod 2 = 1) ↔ n / 2 ^ i % 2 = 1 := by
  have e1 : (n : Int).fdiv (2 ^ i) = ((n / 2 ^ i : Nat) : Int) := by
    rw [Int.fdiv_eq_ediv_of_nonneg _ (Int.le_of_lt (Int.pow_pos (by decide)))]
    simp
  rw [e1, Int.fmod_eq_emod_of_nonneg _ (by decide)]
  omega
/-- at how many places two texts are unlike -/
noncomputable def unl (a b : Str) : Int := (((List.range 4).filter fun (k : Nat) => Txt.item a (k : Int) != Txt.item b (k : Int)).length : Nat)

end Mine
-- Gs
example : True := by
  w_top off
  exact trivial
namespace Mine
section
variable {prog : Program} {w : World} {A : Around} {E : Value → Shared → Prop} {s : Shared} {env : Env} {h₀ : Heap} {x : Str} {body : List Stmt}
theorem toksW {α : Type} {M : Model} {t : Sem α} {Q : α → Shared → Prop} (h : wpAny M A t (fun a s' => s.toks ≤ s'.toks → Q a s') E s) : wpAny M A t Q E s :=
  wpAny_mono (wpAny_toks_of (Nat.le_refl _) h) (fun _ _ q => q.2 q.1) fun _ _ q => q.2
theorem str_loop {σ : Type} {y : Str} {ty : Tok} {m₀ : Str → Option Value} {news : List (Addr × Obj)} {R : Result → Shared → Prop} {px : Pos} (n0 : Nat) (ps : σ → List (Str × Value)) (stored : List Str) (P : Nat → σ → Prop) (c₀ : σ)
    (hh : A.handled = none) (ha : y.cps.all (· < 128) = true) (hx : env.kindOf x = some .local) (hp : (env.scope.kind == .class || (env.scope.kind == .module && env.locals != env.globals)) = false)
    (F : Fr h₀ env.locals s.heap m₀) (N : News h₀ env.locals s.heap news) (hb : n0 ≤ s.toks) (hk : ∀ p ∈ ps c₀, m₀ p.1 = some p.2) (hP : P 0 c₀)
    (turn : ∀ (c : σ) (i cp : Nat) (t : Tok) (u : Str → Option Value) h tk I oI (E' : Value → Shared → Prop), i < y.cps.size → y.cps[i]? = some cp → n0 ≤ t → LCg.Off1 I news → P i c →
      Fr h₀ env.locals h (fun z => if z = x then some (.str ⟨#[cp]⟩ t) else kstB (fun z => if stored.contains z then u z else m₀ z) (ps c) z) → News h₀ env.locals h ((I, oI) :: news) →
      wpAny (model prog w) A (execs body env) (RngPost h₀ env.locals (fun _ => news) ps x stored m₀ (P (i + 1)) I oI { s with heap := h, toks := tk } (fun f s' => R (.ok f) s')) E' { s with heap := h, toks := tk })
    (done : ∀ (c : σ) (u : Str → Option Value) h tk (E' : Value → Shared → Prop), P y.cps.size c → Fr h₀ env.locals h (fun z => if z = x then u z else kstB (fun z => if stored.contains z then u z else m₀ z) (ps c) z) → News h₀ env.locals h news →
      R (.ok .next) { s with heap := h, toks := tk }) :
    wpAny (model prog w) A (pyIter (.str y ty)) (fun it s₂ => codeAny (model prog w) A (.forLoop (.Name x px) it body [] env) R s₂) E s := by
  refine wpAny_pyIter_ascii ha ?_
  have hIlt : env.locals ≠ s.heap.objs.size := Nat.ne_of_lt F.ns.lt
  have hI0 : h₀.get? s.heap.objs.size = none := next_is_new F
  have offN : ∀ p ∈ news, p.1 ≠ s.heap.objs.size := fun p hp => Nat.ne_of_lt (Heap.lt_size (N p hp).1)
  have of1 : ∀ {l : List (Addr × Obj)}, (∀ p ∈ l, p.1 ≠ s.heap.objs.size) → LCg.Off1 s.heap.objs.size l := by
    intro l
    induction l with
    | nil => intro _; trivial
    | cons p r ih => intro h; exact ⟨h p List.mem_cons_self, ih fun q hq => h q (List.mem_cons_of_mem _ hq)⟩
  generalize hIe : s.heap.objs.size = I at hIlt hI0 offN of1 ⊢
  refine codeAny_forLoop
    (fun k s' => ∃ h' tk m' i c, s' = { s with heap := h', toks := tk } ∧ n0 ≤ tk ∧ h'.IsStrIter I "str_ascii_iterator" y ty i ∧ Fr h₀ env.locals h' m' ∧ News h₀ env.locals h' news ∧
      (∀ p ∈ ps c, m' p.1 = some p.2) ∧ (∀ z, z ≠ x → (∀ p ∈ ps c, z ≠ p.1) → stored.contains z = false → m' z = m₀ z) ∧ P i c ∧ i ≤ y.cps.size ∧ k = y.cps.size + 1 - i) ?_ (y.cps.size + 1)
    ⟨_, s.toks, m₀, 0, c₀, rfl, hb, ⟨_, hIe ▸ Heap.get?_push_size _ rfl, rfl, rfl⟩, F.push _, fun p hp => ⟨Heap.get?_push_of_some _ (N p hp).1, (N p hp).2⟩, hk, fun _ _ _ _ => rfl, hP, Nat.zero_le _, rfl⟩
  rintro k s' ⟨h', tk, m', i, c, rfl, htk, hit, F', N', hk', hr', hP', hi, rfl⟩
  have keepL : ∀ {h₁ : Heap}, (∀ b o, b ≠ I → h'.get? b = some o → h₁.get? b = some o) → Fr h₀ env.locals h₁ m' ∧ News h₀ env.locals h₁ news := fun {h₁} q =>
    ⟨⟨F'.ns.at' fun o e => q _ o hIlt e, fun b o e => q b o (fun z => by rw [z, hI0] at e; cases e) (F'.keep b o e), F'.above⟩, fun p hp => ⟨q _ _ (offN p hp) (N' p hp).1, (N' p hp).2⟩⟩
  by_cases hlt : i < y.cps.size
  · have hc : y.cps[i]? = some y.cps[i] := by simp [hlt]
    refine wpAny_pyNext_ascii_item hit hc fun h₁ hit₁ hs₁ => ?_
    obtain ⟨F₁, N₁⟩ := keepL (fun b o hb e => hs₁.extBut b o hb e)
    refine wpAny_assign_Name (wpAny_storeName_local hx F₁.ns (fun h₂ hn₂ hs₂ => ?_) hp)
    have F₂ := F₁.set hn₂ hs₂
    have hit₂ : h₂.IsStrIter I "str_ascii_iterator" y ty (i + 1) := hit₁.extBut hs₂.extBut (Ne.symm hIlt)
    obtain ⟨oI, heI, hcI, hdI⟩ := id hit₂
    have N₂ : News h₀ env.locals h₂ ((I, oI) :: news) := fun p hp => by
      rcases List.mem_cons.mp hp with rfl | hp
      · exact ⟨heI, Ne.symm hIlt, hI0⟩
      · exact ⟨hs₂.extBut _ _ (N₁ p hp).2.1 (N₁ p hp).1, (N₁ p hp).2⟩
    refine toksW (wpAny_mono (turn c i _ tk m' h₂ _ I oI _ hlt hc htk (of1 offN) hP' (kst_fr hk' hr' F₂) N₂) (fun f s₃ q hm => ?_) fun _ _ e => e)
    have fin : RngEnd h₀ env.locals (fun _ => news) ps x stored m₀ (P (i + 1)) I oI { s with heap := h₂, toks := tk + 1 } s₃ → ∃ m, m < y.cps.size + 1 - i ∧ (∃ h' tk m' i c, s₃ = { s with heap := h', toks := tk } ∧ n0 ≤ tk ∧ h'.IsStrIter I "str_ascii_iterator" y ty i ∧ Fr h₀ env.locals h' m' ∧ News h₀ env.locals h' news ∧
        (∀ p ∈ ps c, m' p.1 = some p.2) ∧ (∀ z, z ≠ x → (∀ p ∈ ps c, z ≠ p.1) → stored.contains z = false → m' z = m₀ z) ∧ P i c ∧ i ≤ y.cps.size ∧ m = y.cps.size + 1 - i) := by
      rintro ⟨c', h₃, tk₃, m₃, news₃, rfl, F₃, N₃, hiN, hnN, _, hk₃, hr₃, hP₃⟩
      have hz : tk + 1 + 1 ≤ tk₃ := hm
      exact ⟨y.cps.size + 1 - (i + 1), by omega, h₃, tk₃, m₃, i + 1, c', rfl, by omega, ⟨oI, (N₃ _ hiN).1, hcI, hdI⟩, F₃, fun p hp => N₃ p (hnN p hp), hk₃, hr₃, hP₃, hlt, rfl⟩
    cases f with
    | ret v => exact q
    | brk => exact q
    | next => exact fin q
    | cont => exact fin q
  · have hin : i = y.cps.size := by omega
    subst hin
    refine wpAny_pyNext_ascii_end hh hit (by simp) fun h₁ he₁ => wpAny_execs_nil ?_
    obtain ⟨F₁, _⟩ := keepL (fun b o hb e => he₁ b o hb e)
    obtain ⟨_, N₁⟩ := keepL (fun b o hb e => he₁ b o hb e)
    exact done c m' h₁ _ (fun _ _ => True) hP' (kst_frOut hk' hr' F₁) N₁

/-- identity of texts: told by their tokens, or by the world where they are equal -/
theorem is_strs {M : Model} {p q : Str} {t u : Tok} {mk : Str → Option Value} {Q : Value → Shared → Prop} (ht : @Ne Nat t 0) (hu : @Ne Nat u 0) (hne : @Eq Nat t u → p = q) (hS : s.heap.Ns cStatics mk) (hm : mk sharingNotToldKey = none)
    (h1 : ∀ c : Bool, (c = true → p = q) → Q (.bool c) s) : wpAny M A (compareOp .Is (.str p t) (.str q u)) Q E s := by
  show wpAny M A (do return .bool (← isSame (.str p t) (.str q u))) Q E s
  refine wpAny_bind ?_
  show wpAny M A (isSame.created (p == q) t u) _ _ _
  unfold isSame.created
  rw [if_neg (by have h1 : t ≠ 0 := ht; have h2 : u ≠ 0 := hu; simp [h1, h2])]
  by_cases e : t = u
  · rw [if_pos (by simp [e])]
    exact wpAny_pure (wpAny_pure (h1 true fun _ => hne e))
  · rw [if_neg (by simp [e])]
    by_cases e2 : p = q
    · rw [if_neg (by simp [e2])]
      have ns : ∀ z, wpAny M A (sharingNotTold z) (fun b s' => b = false ∧ s' = s) E s := fun z => by
        unfold sharingNotTold
        refine wpAny_bind (wpAny_nsGet hS ?_)
        rw [hm]
        exact wpAny_pure ⟨rfl, rfl⟩
      refine wpAny_bind (wpAny_mono (ns t) (fun b s' hb => ?_) fun _ _ e => e)
      obtain ⟨rfl, rfl⟩ := hb
      simp only [Bool.false_eq_true, if_false]
      refine wpAny_bind (wpAny_mono (ns u) (fun b s' hb => ?_) fun _ _ e => e)
      obtain ⟨rfl, rfl⟩ := hb
      simp only [Bool.false_eq_true, if_false]
      refine wpAny_bind (wpAny_rule (wpAny_bind (wpAny_askSetting ?_)))
      exact wpAny_pure (wpAny_pure (h1 _ fun _ => e2))
    · rw [if_pos (by simp [e2])]
      exact wpAny_pure (wpAny_pure (h1 false fun h => by cases h))
end

theorem cs_none {K : Frag} {h : Heap} {a : Addr} {mc : Str → Option Value} {n : Str} (X : K.In h) (G : h.Ns a mc) (e : nsIn K a n = some none) : mc n = none := by
  obtain ⟨o, es, ep, ho, hd, _, hf⟩ := G
  unfold nsIn at e
  split at e
  · rename_i c d es' n' sl q
    have := X _ _ q
    rw [ho] at this
    cases this
    cases hd
    split at e
    · cases e
    · rename_i he
      rw [← hf]
      unfold nsFind findBy
      rw [← Array.find?_toList, he]
      rfl
  · cases e
section
variable {prog : Program} {w : World} {A : Around} {E : Value → Shared → Prop} {s : Shared}
open PySem.Builtin.List in
theorem setItem_all {l sl D : Addr} {items its : Array Value} {Q : Unit → Shared → Prop} (hl : s.heap.IsList l items) (hD : s.heap.IsList D its) (hne : l ≠ D)
    (hs : s.heap.IsSliceOf sl .none .none .none) (hz : items.size + its.size ≤ sizeLine)
    (h : ∀ h' n, h'.get? l = some ⟨.type "list", (Option.none : Option Addr), .seq its n, #[]⟩ → Heap.SameBut l s.heap h' → Q () { s with heap := h' })
    (hpl : ∃ n, s.heap.get? l = some ⟨.type "list", (Option.none : Option Addr), .seq items n, #[]⟩) :
    wpAny (model prog w) A (setItem (.ref l) (.ref sl) (.ref D)) Q E s := by
  obtain ⟨n0, ho⟩ := hpl
  obtain ⟨oD, hoD, hcD, neD, hdD⟩ := id hD
  obtain ⟨os, hos, hcs, hds⟩ := id hs
  have hTs : s.TypeIs (.ref sl) "slice" := ⟨os, hos, hcs⟩
  unfold setItem
  try with_reducible refine wpAny_holding ?_
  first | refine wpAny_bind (wpAny_pure ?_) | skip
  refine wpAny_bind (wpAny_sequenceKey hl.typeIs (by decide) ?_)
  refine wpAny_bind (wpAny_callSpecial?_slot (name := Str.ofString "__setitem__") hl.typeIs slot_list_setitem
    (wpAny_call_entry slot_list_setitem hl.typeIs entry_list_setitem ?_ (args_list_setitem _ _ _)))
  show wpAny _ _ (listSubscript? (.ref sl) >>= _) _ _ s
  refine wpAny_bind ?_
  · unfold listSubscript?
    refine wpAny_bind (wpAny_specialOf hTs slice_no_index ?_)
    simp only [Option.isNone_none, if_true]
    refine wpAny_pure ?_
    show wpAny _ _ (typeOf (.ref sl) >>= _) _ _ s
    refine wpAny_bind (wpAny_typeOf hTs ?_)
    rw [if_neg (by decide)]
    rw [listSliceParts_eq]
    refine wpAny_bind (wpAny_bind (wpAny_field hos hds (x := .none) rfl (wpAny_bind (wpAny_listPart .none ?_))))
    rw [if_neg (by decide)]
    refine wpAny_bind (wpAny_field hos hds (x := .none) rfl (wpAny_bind (wpAny_listPart .none ?_)))
    refine wpAny_bind (wpAny_field hos hds (x := .none) rfl (wpAny_bind (wpAny_listPart .none (wpAny_pure ?_))))
    dsimp only
    rw [if_neg (by show ¬ ((l == D) = true); simpa using hne)]
    refine wpAny_bind (m := listAllItems (.ref D) _) ?_
    · unfold listAllItems
      refine wpAny_bind (wpAny_typeOf hD.typeIs ?_)
      rw [if_pos (by decide)]
      unfold listItems
      refine wpAny_bind (wpAny_seqItems hoD hdD (wpAny_pure ?_))
      refine wpAny_bind (wpAny_bind (wpAny_seqItems ho rfl (wpAny_pure ?_)))
      refine wpAny_bind (wpAny_of_eq (sliceIndices_raw none none none items.size (by simp)) ?_)
      have e : sliceBounds none none none items.size = (0, (items.size : Int), 1) := rfl
      rw [e]
      dsimp only
      rw [if_pos (by decide)]
      refine wpAny_bind (wpAny_rule ?_)
      rw [if_neg (by unfold listTooLong; simp; omega)]
      have ex : items.extract 0 (Int.toNat 0) ++ its ++ items.extract (max 0 (items.size : Int)).toNat = its := by
        have e1 : (max 0 (items.size : Int)).toNat = items.size := by omega
        rw [e1]
        simp
      refine wpAny_bind ?_
      unfold listUpdate
      refine wpAny_updateSeq ho rfl ?_ (by omega) (by rw [ex]; omega)
      refine wpAny_bind (wpAny_letGo ?_)
      obtain ⟨n', hd'⟩ := Obj.data_mapSeq (o := ⟨.type "list", (Option.none : Option Addr), .seq items n0, #[]⟩) (xs := items) (n := n0) rfl (fun xs => xs.extract 0 (Int.toNat 0) ++ its ++ xs.extract (max 0 (items.size : Int)).toNat)
      rw [ex] at hd'
      refine wpAny_pure ⟨.none, rfl, wpAny_pure (h _ n' ?_ (Heap.SameBut.update ..))⟩
      rw [Heap.get?_update_self _ ho (Obj.isFreed_of_seq hd')]
      refine congrArg some ?_
      show (⟨.type "list", Option.none, (Obj.mapSeq (fun xs => xs.extract 0 (Int.toNat 0) ++ its ++ xs.extract (max 0 (items.size : Int)).toNat) ⟨.type "list", (Option.none : Option Addr), .seq items n0, #[]⟩).data, #[]⟩ : Obj) = _
      rw [hd']
end

section
variable {prog : Program} {w : World} {A : Around} {E : Value → Shared → Prop} {s : Shared} {h₀ : Heap} {L l D sl : Addr} {m : Str → Option Value} {news : List (Addr × Obj)} {news' : Nat → List (Addr × Obj)}
theorem setAll_K {vs us : List Value} {n k : Nat} {Q : Unit → Shared → Prop} (F : Fr h₀ L s.heap m) (N : News h₀ L s.heap news) (U : ∀ n', Upd l (listOf vs.toArray n) (listOf us.toArray n') news (news' n'))
    (hm : (D, listOf us.toArray k) ∈ news) (hne : @Ne Nat l D) (hs : s.heap.IsSliceOf sl .none .none .none)
    (h : ∀ h' n', Fr h₀ L h' m → News h₀ L h' (news' n') → Q () { s with heap := h' }) (hz : vs.length + us.length ≤ sizeLine) :
    wpAny (model prog w) A (setItem (.ref l) (.ref sl) (.ref D)) Q E s := by
  have z : (l, listOf vs.toArray n) ∈ news := by
    obtain ⟨pre, post, rfl, _, _, _⟩ := (U 0).split
    exact List.mem_append.mpr (.inr (.head _))
  refine setItem_all (items := vs.toArray) (its := us.toArray) ⟨_, (N _ z).1, rfl, _, rfl⟩ ⟨_, (N _ hm).1, rfl, _, rfl⟩ hne hs (by simpa using hz) (fun h' n' hg hb => ?_) ⟨n, (N _ z).1⟩
  obtain ⟨pre, post, e1, e2, a, b⟩ := (U n').split
  refine h h' n' (F.change hb (N _ z).2.1 (N _ z).2.2) ?_
  rw [e2]
  rw [e1] at N
  exact news_set N a b hb hg
end
section
variable {M : Model} {A : Around} {E : Value → Shared → Prop} {s : Shared} {K : Frag} {x C L f : Addr} {h₀ : Heap} {m : Str → Option Value} {ox : Obj} {od : Option Obj} {v : Value}
theorem delItem_K {Q : Unit → Shared → Prop} (F : Fr h₀ L s.heap m) (X₀ : K.In h₀) (I : InstAt s.heap x ox C od) (hq : noSeq K C = true) (hs : findIn K (.ref C) "__delitem__" = some (some (.ref f))) (hf : isFn K (.ref f) = true)
    (h : wpAny M A (call (.ref f) [.ref x, v]) (fun _ s' => Q () s') E s) : wpAny M A (delItem (.ref x) v) Q E s := by
  have X := X₀.keeps F.keep
  unfold delItem sequenceKey
  refine wpAny_holding (wpAny_bind (wpAny_bind (I.type.here ?_)))
  refine wpAny_bind ((anyM_none X hq).here ?_)
  rw [if_pos (show (!false) = true from rfl)]
  exact wpAny_pure (wpAny_bind (special_fn X I hs (beq_iff_eq.mp hf) (wpAny_mono h (fun _ _ z => wpAny_pure z) fun _ _ z => z)))
end
theorem Wd.under {w : World} {h₀ h : Heap} {L : Addr} {m : Str → Option Value} {own news : List (Addr × Obj)} (W : Wd w h₀) (F : Fr h₀ L h m) (N : News h₀ L h news) (ho : ∀ p ∈ own, p ∈ news) : Wd w (hideAll h (addrs own)) :=
  W.keeps fun b o e => hideAll_get (addrs own) (F.keep b o e) fun hb => by
    obtain ⟨p, hp, rfl⟩ := List.mem_map.mp hb
    rw [(N p (ho p hp)).2.2] at e; cases e
/-- where a statement's ways meet: what holds of the names and the rest stands as it stood -/
noncomputable def CutX {σ : Type} (h₀ : Heap) (L : Addr) (s : Shared) (news : List (Addr × Obj)) (ps : σ → List (Str × Value)) (stored : List Str) (m₀ : Str → Option Value) (R : σ → Prop) (s₂ : Shared) : Prop :=
  ∃ (c : σ) (h' : Heap) (tk : Nat) (m' : Str → Option Value), s₂ = { s with heap := h', toks := tk } ∧ Fr h₀ L h' m' ∧ News h₀ L h' news ∧ (∀ p ∈ ps c, m' p.1 = some p.2) ∧ (∀ z, (∀ p ∈ ps c, z ≠ p.1) → stored.contains z = false → m' z = m₀ z) ∧ R c
section
variable {prog : Program} {w : World} {A : Around} {E : Value → Shared → Prop} {Q : Flow → Shared → Prop} {s : Shared} {env : Env} {h₀ : Heap} {L : Addr}
theorem cut_end {σ : Type} {news : List (Addr × Obj)} {ps : σ → List (Str × Value)} {stored : List Str} {m₀ m' : Str → Option Value} {R : σ → Prop} {h' : Heap} {tk : Nat} (c : σ)
    (F : Fr h₀ L h' m') (N : News h₀ L h' news) (hk : ∀ p ∈ ps c, m' p.1 = some p.2) (hr : ∀ z, (∀ p ∈ ps c, z ≠ p.1) → stored.contains z = false → m' z = m₀ z) (hR : R c) :
    CutX h₀ L s news ps stored m₀ R { s with heap := h', toks := tk } := ⟨c, h', tk, m', rfl, F, N, hk, hr, hR⟩
theorem cut_st {σ : Type} {st : Stmt} {m₀ : Str → Option Value} {news : List (Addr × Obj)} (ps : σ → List (Str × Value)) (stored : List Str) (R : σ → Prop) (F : Fr h₀ L s.heap m₀) (N : News h₀ L s.heap news)
    (h : wpAny (model prog w) A (exec st env) (fun f s' => match f with | .next => CutX h₀ L s news ps stored m₀ R s' | f => Q f s') E s)
    (k : ∀ (c : σ) (u : Str → Option Value) h tk, R c → Fr h₀ L h (kstB (fun z => if stored.contains z then u z else m₀ z) (ps c)) → News h₀ L h news → Q .next { s with heap := h, toks := tk }) :
    wpAny (model prog w) A (exec st env) Q E s := by
  have _ := F
  have _ := N
  refine wpAny_mono h (fun f s' q => ?_) fun _ _ e => e
  cases f with
  | next =>
    obtain ⟨c, h', tk, m', rfl, F', N', hk, hr, hR⟩ := q
    exact k c m' h' tk hR (ksw_fr hk hr F') N'
  | ret v => exact q
  | brk => exact q
  | cont => exact q
theorem ksw_cut {σ : Type} {test : Expr} {body : List Stmt} {pos : Pos} {m₀ : Str → Option Value} {news : List (Addr × Obj)} (ps : σ → List (Str × Value)) (stored : List Str) (P : σ → Prop) (μ : σ → Nat) (c₀ : σ) (R : σ → Prop)
    (F : Fr h₀ L s.heap m₀) (N : News h₀ L s.heap news) (hk : ∀ p ∈ ps c₀, m₀ p.1 = some p.2) (hp : P c₀)
    (turn : ∀ (c : σ) (u : Str → Option Value) h tk, P c → Fr h₀ L h (kstB (fun z => if stored.contains z then u z else m₀ z) (ps c)) → News h₀ L h news →
      wpAny (model prog w) A (isTrue test env (eval test env)) (fun b s₂ =>
        if b = true then wpAny (model prog w) A (execs body env) (KswPost h₀ L s (fun _ => news) ps (fun _ => True) stored m₀ P μ (fun f s' => match f with | .next => CutX h₀ L s news ps stored m₀ R s' | f => Q f s') c) E s₂ else CutX h₀ L s news ps stored m₀ R s₂) E { s with heap := h, toks := tk })
    (k : ∀ (c : σ) (u : Str → Option Value) h tk, R c → Fr h₀ L h (kstB (fun z => if stored.contains z then u z else m₀ z) (ps c)) → News h₀ L h news → Q .next { s with heap := h, toks := tk })
    (hE : PassesOwn (model prog w) A env E := by passes_own) :
    wpAny (model prog w) A (exec (.While test body [] pos) env) Q E s := by
  refine wpAny_mono (ksw_while (Q := fun f s' => match f with | .next => CutX h₀ L s news ps stored m₀ R s' | f => Q f s') (fun _ => news) ps (fun _ => True) stored P μ c₀ F N trivial hk hp (fun c u h tk _ hP F' N' => turn c u h tk hP F' N') hE) (fun f s' q => ?_) fun _ _ e => e
  cases f with
  | next =>
    obtain ⟨c, h', tk, m', rfl, F', N', hk, hr, hR⟩ := q
    exact k c m' h' tk hR (ksw_fr hk hr F') N'
  | ret v => exact q
  | brk => exact q
  | cont => exact q
theorem kstB_at {rest : Str → Option Value} {z : Str} : ∀ {ps : List (Str × Value)}, (∀ p ∈ ps, z ≠ p.1) → kstB rest ps z = rest z
  | [], _ => rfl
  | p :: r, h => by
    show (if z = p.1 then some p.2 else kstB rest r z) = rest z
    rw [if_neg (h p List.mem_cons_self)]
    exact kstB_at fun q hq => h q (List.mem_cons_of_mem _ hq)
theorem kstB_stay {stored : List Str} {u m₀ : Str → Option Value} {ps : List (Str × Value)} (z : Str) (h : ∀ p ∈ ps, z ≠ p.1) (hs : stored.contains z = false) : kstB (fun z => if stored.contains z then u z else m₀ z) ps z = m₀ z := by
  rw [kstB_at h]
  exact if_neg (by rw [hs]; exact Bool.false_ne_true)
end

end Mine
-- C1
example : True := by
  w_top off
  exact trivial
namespace Mine
example (P : Params) : hd.heap_1 P = hd.heap_1 P ∧ PySem.Challenge.rw_wo0076_01 = PySem.Challenge.rw_wo0076_01 := by
  k_fill
  exact ⟨rfl, rfl⟩



/-- how many signs of a text are the sign c -/
noncomputable def cntL (c : Nat) : List Nat → Int
  | [] => 0
  | d :: r => (if d = c then 1 else 0) + cntL c r
theorem cntL_snoc (c d : Nat) : ∀ l : List Nat, cntL c (l ++ [d]) = cntL c l + (if d = c then 1 else 0)
  | [] => by simp [cntL]
  | a :: r => by simp only [List.cons_append, cntL, cntL_snoc c d r]; omega
section
example : True := by
  k_with_none
  (k_with "my.enter" => ((case k1 => first | exact List.forall_mem_nil _ | assumption); (case k6 => k_is); (case k7 => k_is); (case k8 => omega); (case k9 => first | exact BindsTo.of_eq rfl | exact binds_K (by k_in) rfl (by k_is) rfl rfl rfl); (case kB => exact locs rfl); (case c5 => decide); (case c2 => exact rfl); (case c3 => exact rfl); (case c4 => exact rfl)))
  (k_with "my.enterC" => ((case k1 => first | exact List.forall_mem_nil _ | assumption); (case k6 => k_is); (case k7 => k_is); (case k8 => omega); (case k9 => first | exact BindsTo.of_eq rfl | exact binds_K (by k_in) rfl (by k_is) rfl rfl rfl); (case kB => exact rfl); (case kD => decide +kernel); (case c2 => exact rfl); (case c3 => exact rfl); (case c4 => exact rfl)))
  (k_with "my.room" => first | omega | ((simp only [depth_under_make, depth_under_kw, depth_in1, depth_deeper, depth_caller]); omega))
  (k_with "my.units" => first | omega | ((simp only [units_in1, units_deeper, Around.mark_units, units_caller]); omega))
  (k_with "my.wd" => exact Wd.keeps (by assumption) (Fr.keep (by k_asm)))
  (k_with "call builtin:list.append" => (k_here; k_dflt (refine' append_K (by k_asm) (by k_asm) (by k_upd) ?_ (by (simp only [List.size_toArray, Array.size_push, List.length_append, List.length_cons, List.length_nil, sizeLine_eq]; omega)); k_whole); intro h' F' N'; (try simp only [List.push_toArray] at N'); (try k_sweep)))
  (k_with "my.end" => ((try dsimp only); (try k_unfold); (try dsimp only [retOf])))
  (k_with "my.keep" => exact (fun b o e hb => Fr.keep (by assumption) b o (hideAll_get _ e hb)))
  (k_with "my.cend" => (unfold Hold; refine LCg.CompEnd.intro (by k_asm) (by assumption) _ (fun p hp => hp) (by assumption) (by first | trivial | exact .inr ⟨_, by k_memK, rfl, _, rfl⟩ | exact .inl (by assumption)) ⟨rfl, ?_⟩))
  (k_with "my.m" => with_reducible ((repeat (first | exact List.Mem.head _ | refine List.Mem.tail _ ?_ | assumption | (refine List.mem_append_left _ ?_; walk_at "my.m") | (refine List.mem_append_right _ ?_; walk_at "my.m"))); done))
  (k_with "my.mg" => first | walk_at "my.m" | ((try dsimp only [hdO, PyProof.Rows.LCg.lst, PySem.W.listOf, PySem.W.instObj, PySem.W.dictOf, List.cons_append, List.nil_append]); walk_at "my.m") | ((simp only [List.mem_cons, List.mem_append]); grind))
  (k_with "my.inc" => with_reducible ((repeat' (first | exact inc_refl | exact inc_nil | refine inc_same ?_ | refine inc_app ?_ ?_ | refine inc_one (by walk_at "my.m") ?_ | assumption | refine inc_skip ?_ | (refine inc_left ?_; walk_at "my.inc") | (refine inc_right ?_; walk_at "my.inc"))); done))
  (k_with "my.ne" => with_reducible first | assumption | exact neS1 | exact neS1.symm | exact neS2 | exact neS2.symm | (refine Ne.symm ?_; assumption) | (refine Nat.ne_of_lt ?_; assumption) | (refine Nat.ne_of_gt ?_; assumption))
  (k_with "my.pin" => first | ((try dsimp only [hdO, List.cons_append, List.nil_append] at hp ⊢); exact (show ∀ p ∈ _, p ∈ _ from by walk_at "my.inc") _ hp) | ((try dsimp only [hdO, PyProof.Rows.LCg.lst, PySem.W.listOf, PySem.W.instObj, PySem.W.dictOf, List.cons_append, List.nil_append] at hp ⊢); exact (show ∀ p ∈ _, p ∈ _ from by walk_at "my.inc") _ hp) | ((simp only [hdO, List.cons_append, List.nil_append, List.mem_append, List.mem_cons, List.not_mem_nil, or_false] at hp ⊢); grind))
  (k_with "my.mY" => ((repeat (first | exact List.Mem.head _ | refine List.Mem.tail _ ?_ | refine List.mem_append_right _ ?_)); done))
  (k_with "my.pinS" => ((try dsimp only [hdO, List.cons_append, List.nil_append] at hp ⊢); revert hp; revert p; (repeat (first | exact inc_snoc2 | exact inc_snoc1 | refine inc_under ?_ | refine inc_over ?_)); done))
  (k_with "my.pinY" => ((try dsimp only [hdO, List.cons_append, List.nil_append] at hp ⊢); revert hp; revert p; (repeat (refine inc_one (by walk_at "my.mY") ?_)); (with_reducible (repeat (first | exact inc_refl | exact inc_nil | refine inc_skip ?_ | refine inc_left ?_))); done))
  (k_with "my.in" => first | ((try dsimp only [hdO, List.cons_append, List.nil_append]); walk_at "my.inc") | ((try dsimp only [hdO, PyProof.Rows.LCg.lst, PySem.W.listOf, PySem.W.instObj, PySem.W.dictOf, List.cons_append, List.nil_append]); walk_at "my.inc") | (intro p hp; (try simp only [hdO, List.cons_append, List.nil_append, List.mem_cons, List.mem_append, List.not_mem_nil, or_false, false_or] at hp ⊢); first | exact hp | grind))
  (k_with "my.same" => (intro z h1 h2 h3; first
  | rfl
  | (simp only [List.forall_mem_cons, List.forall_mem_nil, List.not_mem_nil, false_implies, implies_true, and_true, ne_eq] at h2; simp only [List.contains_cons, List.contains_nil, Bool.or_false, Bool.or_eq_false_iff, beq_eq_false_iff_ne, ne_eq] at h3; simp [h1, h2, h3, kstB]; done)
  | (simp [h1, kstB]; done)
  | (simp_all [kstB]; done)))
  (k_with "my.csame" => (intro z h2 h3; first
  | rfl
  | exact kstB_stay z h2 h3
  | (simp only [List.forall_mem_cons, List.forall_mem_nil, List.not_mem_nil, false_implies, implies_true, and_true, ne_eq] at h2; (try simp only [List.contains_cons, List.contains_nil, Bool.or_false, Bool.or_eq_false_iff, beq_eq_false_iff_ne, ne_eq] at h3); simp [h2, h3, kstB]; done)
  | (simp_all [kstB]; done)))
  (k_with "my.all" => (repeat' (first | exact List.forall_mem_nil _ | (refine List.forall_mem_cons.mpr ⟨rfl, ?_⟩))))
  (k_with "execs cons" => first | (k_here; k_gentoks) | (k_here; k_made; walk_at "execs cons") | ((with_reducible refine wpAny_execs_cons ?_); (try dsimp only); k_fold))
  (k_with "my.sub" => (repeat' (first | exact List.forall_mem_nil _ | (refine List.forall_mem_cons.mpr ⟨?_, ?_⟩) | k_mem)))
  (k_with "exec For Name Name cons nil" => (refine Hold.out ?_))
  (k_with "execs cons" => (refine wpAny_execs_cons ?_))
  (k_with "pyIter str" => (refine Hold.out ?_))
  (k_with "RngPost" => (dsimp only [RngPost]))
  (k_with "RngEnd" => (refine Hold.out ?_))
  (k_with "compareOp Is str str" => (k_here; k_dflt (refine' is_strs (by omega) (by omega) (fun e => absurd e (by omega)) (by assumption) (by assumption) ?_); intro c9 hc9; dsimp only))
  exact trivial
set_option maxRecDepth 100000 in
set_option maxHeartbeats 2000000 in
theorem c_countOf {w : World} {h : Heap} (W : Wd w h) (a : Str) (ta : Tok) (c : Nat) (tb : Tok) (ha : a.length ≤ 40) (hasc : a.cps.all (· < 128) = true) :
    ∀ (dp un : Nat) (fr : Option (List Env)) (gd : Option (List Code)) (s : Shared) (Q E : Value → Shared → Prop), s.heap = h → dp + 1 < recursionLimit → un + 8 * 1 < cLine → @LT.lt Nat _ 0 tb → @LT.lt Nat _ tb s.toks →
    (∀ v h' tk', (∀ b o, s.heap.get? b = some o → h'.get? b = some o) → IsI (cntL c a.cps.toList) v → Q v { s with heap := h', toks := tk' }) →
    wpAny (model PySem.Challenge.rw_wo0076_01.row.prog w) ⟨none, dp, fr, gd, un⟩ (call (.ref 124) [.str a ta, .str ⟨#[c]⟩ tb] []) Q E s := by
  intro dp un fr gd s Q E hs hdp hun htb htb2 hret
  subst hs
  obtain ⟨X, loose, mean, mg, mb, T⟩ := id W
  k_dflt (refine' enterM [(Str.ofString "a", .str a ta), (Str.ofString "b", .str ⟨#[c]⟩ tb)] [] ?k1 W ?k6 ?k7 ?k8 ?k9 ?kB ?_ ?c5 ?c2 ?c3 ?c4; walk_at "my.enter")
  intro L' h₁ F N hLow
  (try dsimp only [addrs, List.map, hideAll] at F N)
  (try k_fold)
  k_steps
  unfold Hold
  (rename News _ _ _ _ => N8)
  (rename Fr _ _ _ _ => F8)
  refine wpAny_For ?_
  k_steps
  unfold Hold
  k_dflt (refine str_loop (σ := Int × Tok) (tb + 1) (fun c => [(Str.ofString "count", .int c.1 c.2)]) [] (fun i d => d.1 = cntL c (a.cps.toList.take i) ∧ 0 ≤ d.1 ∧ d.1 ≤ i) (0, _) (by rfl) hasc (by rfl) (by rfl) F8 N8 (by exact Nat.le_trans htb2 (Nat.le_add_right s.toks 4)) (List.forall_mem_singleton.mpr rfl) ⟨rfl, by dsimp only; omega, by dsimp only; omega⟩ ?_ ?_)
  · rintro ⟨n9, tn9⟩ i cp t u h2 tk2 I oI E' hi hcp ht off ⟨hc1, hc2, hc3⟩ F2 N2
    dsimp only at hc1 hc2 hc3 F2 N2
    obtain ⟨mc9, hmc9, _⟩ := T.nolimit
    have hNs : h2.Ns cStatics mc9 := hmc9.keeps F2.keep
    have hmk : mc9 sharingNotToldKey = none := cs_none X hmc9 (by k_is)
    have hi40 : (i : Int) ≤ 40 := by have : a.cps.size ≤ 40 := ha; omega
    have hsn : cntL c (a.cps.toList.take (i + 1)) = cntL c (a.cps.toList.take i) + (if cp = c then 1 else 0) := by
      rw [List.take_add_one, show a.cps.toList[i]? = some cp by simpa using hcp]
      exact cntL_snoc _ _ _
    k_steps
    all_goals (unfold Hold; (rename News _ _ _ _ => N3); (rename Fr _ _ _ _ => F3))
    · (rename (_ = true → _) => hz)
      have hcc : cp = c := by have := hz (by assumption); simpa using this
      exact rng_end (_, _) F3 N3 (by k_mem) (fun _ h => nomatch h) (fun _ h => nomatch h) (List.forall_mem_singleton.mpr rfl) (by walk_at "my.same") ⟨by rw [hsn, if_pos hcc, ← hc1], by dsimp only; omega, by dsimp only; omega⟩
    · (rename (_ == _) = true => he)
      have hcc : cp = c := by have := eq_of_beq he; simpa using this
      exact rng_end (_, _) F3 N3 (by k_mem) (fun _ h => nomatch h) (fun _ h => nomatch h) (List.forall_mem_singleton.mpr rfl) (by walk_at "my.same") ⟨by rw [hsn, if_pos hcc, ← hc1], by dsimp only; omega, by dsimp only; omega⟩
    · (rename (_ == _) = false => he)
      have hcc : ¬ cp = c := by intro q; simp [q] at he
      exact rng_end (n9, tn9) F3 N3 (by k_mem) (fun _ h => nomatch h) (fun _ h => nomatch h) (List.forall_mem_singleton.mpr rfl) (by walk_at "my.same") ⟨by rw [hsn, if_neg hcc, ← hc1]; omega, by dsimp only; omega, by dsimp only; omega⟩
  · rintro ⟨n9, tn9⟩ u h2 tk2 E' ⟨hc1, hc2, hc3⟩ F2 N2
    dsimp only at hc1 hc2 hc3 F2 N2
    dsimp only
    k_steps
    walk_at "my.end"
    refine hret _ _ _ (fun b o e => Fr.keep (by assumption) b o e) (IsI.of ?_)
    rw [hc1, List.take_of_length_le (by simp)]
end

end Mine
-- Ldat
example : True := by
  w_top off
  exact trivial
namespace Mine
noncomputable def slc (x : Str) (q : Int) : Str := if q = 0 then Txt.slice x none none else Txt.slice x none (some q)
noncomputable def preS (a b : Str) : Nat → Int → Int
  | 0, p => p
  | f + 1, p => if (Txt.slice a (some p) none).length = 0 then p else if (Txt.slice b (some p) none).length = 0 then p else if (Txt.item a p == Txt.item b p) = true then preS a b f (p + 1) else p
noncomputable def postS (a b : Str) : Nat → Int → Int
  | 0, q => q
  | f + 1, q => if (slc a q).length = 0 then q else if (slc b q).length = 0 then q else if (Txt.item a (q - 1) == Txt.item b (q - 1)) = true then postS a b f (q - 1) else q
noncomputable def subCost (a b : Str) : Int := if a = b then 0 else if Txt.lower a = Txt.lower b then 1 else 2
structure LSt where
  dist : Int
  res : Int
  mn : Int
  row : List Int
noncomputable def lstep (a : Str) (bc : Str) (st : LSt) (i : Nat) : LSt :=
  let sub := st.dist + subCost bc (Txt.item a (i : Int))
  let d := st.row.getD i 0
  let r0 := (if d < st.res then d else st.res) + 2
  let r := if sub < r0 then sub else r0
  ⟨d, r, if r < st.mn then r else st.mn, st.row.set i r⟩
noncomputable def lin (a : Str) (bc : Str) (st : LSt) (n : Nat) : LSt := (List.range n).foldl (lstep a bc) st
noncomputable def lout (a b : Str) (m : Int) : Nat → Nat → List Int → Int → Int
  | 0, _, _, res => res
  | f + 1, bi, row, _ =>
    let st := lin a (Txt.item b (bi : Int)) ⟨(bi : Int) * 2, (bi : Int) * 2, 9223372036854775807, row⟩ a.length
    if st.mn > m then m + 1 else lout a b m f (bi + 1) st.row st.res
noncomputable def ltail (a b : Str) (m : Int) : Int := if ((b.length : Int) - a.length) * 2 > m then m + 1 else lout a b m b.length 0 ((List.range a.length).map fun (i : Nat) => 2 + 2 * (i : Int)) 0
noncomputable def lrest (a b : Str) (m : Int) : Int :=
  if a.length = 0 ∨ b.length = 0 then 2 * ((a.length : Int) + b.length) else if b.length < a.length then ltail b a m else ltail a b m
noncomputable def lev (a b : Str) (m : Int) : Int :=
  if a = b then 0 else
  let p := preS a b 200 0
  let a1 := Txt.slice a (some p) none
  let b1 := Txt.slice b (some p) none
  let q := postS a1 b1 200 0
  lrest (slc a1 q) (slc b1 q) m
theorem tn1 {x : Int} (h : 0 ≤ x) : (x + 1).toNat = x.toNat + 1 := Int.toNat_add h (by decide)
theorem preS_unf (a b : Str) {p : Int} (h0 : 0 ≤ p) (h1 : p ≤ 100) : preS a b (200 - p).toNat p = if (Txt.slice a (some p) none).length = 0 then p else if (Txt.slice b (some p) none).length = 0 then p else if (Txt.item a p == Txt.item b p) = true then preS a b (200 - (p + 1)).toNat (p + 1) else p := by
  rw [show 200 - p = 200 - (p + 1) + 1 by omega, tn1 (by omega)]
  rfl
theorem pre_go {a b : Str} {p R : Int} (h0 : 0 ≤ p) (h1 : p ≤ 100) (ha : ((Txt.slice a (some p) none).length : Int) ≠ 0) (hb : ((Txt.slice b (some p) none).length : Int) ≠ 0) (he : (Txt.item a p == Txt.item b p) = true) (h : preS a b (200 - p).toNat p = R) : preS a b (200 - (p + 1)).toNat (p + 1) = R := by
  rw [preS_unf a b h0 h1, if_neg (fun q => ha (Int.natCast_eq_zero.mpr q)), if_neg (fun q => hb (Int.natCast_eq_zero.mpr q)), if_pos he] at h
  exact h
theorem pre_end {a b : Str} {p R : Int} (h0 : 0 ≤ p) (h1 : p ≤ 100) (hz : ((Txt.slice a (some p) none).length : Int) = 0 ∨ ((Txt.slice b (some p) none).length : Int) = 0 ∨ (Txt.item a p == Txt.item b p) = false) (h : preS a b (200 - p).toNat p = R) : p = R := by
  rw [preS_unf a b h0 h1] at h
  by_cases e1 : (Txt.slice a (some p) none).length = 0
  · rw [if_pos e1] at h; exact h
  · rw [if_neg e1] at h
    by_cases e2 : (Txt.slice b (some p) none).length = 0
    · rw [if_pos e2] at h; exact h
    · rw [if_neg e2] at h
      have e3 : (Txt.item a p == Txt.item b p) = false := by
        rcases hz with q | q | q
        · exact absurd (Int.natCast_eq_zero.mp q) e1
        · exact absurd (Int.natCast_eq_zero.mp q) e2
        · exact q
      rw [if_neg (by rw [e3]; exact Bool.false_ne_true)] at h
      exact h
theorem postS_unf (a b : Str) {p : Int} (h0 : p ≤ 0) (h1 : -100 ≤ p) : postS a b (200 + p).toNat p = if (slc a p).length = 0 then p else if (slc b p).length = 0 then p else if (Txt.item a (p - 1) == Txt.item b (p - 1)) = true then postS a b (200 + (p - 1)).toNat (p - 1) else p := by
  rw [show 200 + p = 200 + (p - 1) + 1 by omega, tn1 (by omega)]
  rfl
theorem post_go {a b : Str} {p R : Int} (h0 : p ≤ 0) (h1 : -100 ≤ p) (ha : ((slc a p).length : Int) ≠ 0) (hb : ((slc b p).length : Int) ≠ 0) (he : (Txt.item a (p - 1) == Txt.item b (p - 1)) = true) (h : postS a b (200 + p).toNat p = R) : postS a b (200 + (p - 1)).toNat (p - 1) = R := by
  rw [postS_unf a b h0 h1, if_neg (fun q => ha (Int.natCast_eq_zero.mpr q)), if_neg (fun q => hb (Int.natCast_eq_zero.mpr q)), if_pos he] at h
  exact h
theorem post_end {a b : Str} {p R : Int} (h0 : p ≤ 0) (h1 : -100 ≤ p) (hz : ((slc a p).length : Int) = 0 ∨ ((slc b p).length : Int) = 0 ∨ (Txt.item a (p - 1) == Txt.item b (p - 1)) = false) (h : postS a b (200 + p).toNat p = R) : p = R := by
  rw [postS_unf a b h0 h1] at h
  by_cases e1 : (slc a p).length = 0
  · rw [if_pos e1] at h; exact h
  · rw [if_neg e1] at h
    by_cases e2 : (slc b p).length = 0
    · rw [if_pos e2] at h; exact h
    · rw [if_neg e2] at h
      have e3 : (Txt.item a (p - 1) == Txt.item b (p - 1)) = false := by
        rcases hz with q | q | q
        · exact absurd (Int.natCast_eq_zero.mp q) e1
        · exact absurd (Int.natCast_eq_zero.mp q) e2
        · exact q
      rw [if_neg (by rw [e3]; exact Bool.false_ne_true)] at h
      exact h
theorem slc_0 (x : Str) : slc x 0 = Txt.slice x none none := if_pos rfl
theorem slc_ne (x : Str) {q : Int} (h : q ≠ 0) : slc x q = Txt.slice x none (some q) := if_neg h
theorem slice_neg_len (x : Str) {q : Int} (h0 : q < 0) (h1 : -(x.length : Int) ≤ q) : ((Txt.slice x none (some q)).length : Int) = x.length + q := by
  have hs : Txt.slice x none (some q) = ⟨((x.cps.toList.drop (0 : Int).toNat).take ((x.length : Int) + q - 0).toNat).toArray⟩ := by
    have := slice_closes_to_neg (x := x) (j := q) (k := (x.length : Int) + q) h0 h1 (by omega)
    exact eq_of_beq this
  rw [hs]
  show (((List.drop (Int.toNat 0) x.cps.toList).take ((x.length : Int) + q - 0).toNat).toArray.size : Int) = _
  have : x.cps.toList.length = x.length := by simp [Str.length]
  have h2 : 0 ≤ (x.length : Int) + q := by omega
  have h3 : ((x.length : Int) + q).toNat ≤ x.length := by omega
  rw [List.size_toArray, List.length_take, List.length_drop, this, Int.sub_zero, show x.length - Int.toNat 0 = x.length from rfl, Nat.min_eq_left h3, Int.toNat_of_nonneg h2]
theorem slc_le (x : Str) (q : Int) : (slc x q).length ≤ x.length := by
  unfold slc
  split <;> exact PyProof.Txt.length_slice_le _ _ _

theorem rangeSize_two (n : Nat) : Builtin.Range.rangeSize 2 (2 * ((n : Int) + 1)) 2 = (n : Int) := by
  unfold Builtin.Range.rangeSize
  simp only [show (2 : Int) > 0 by decide, if_true]
  split <;> omega
theorem small_two {a b : Int} (ha : -(2 ^ 60) ≤ a) (ha' : a < 2 ^ 60) (hb : -(2 ^ 60) ≤ b) (hb' : b < 2 ^ 60) : Builtin.Range.small a b 2 = true := by
  unfold Builtin.Range.small Builtin.Range.rangeSize
  simp only [Builtin.Range.rangeFitsLong, Bool.and_eq_true, Bool.or_eq_true, decide_eq_true_eq, beq_iff_eq, show (2 : Int) > 0 by decide, if_true]
  have A := And.intro (Int.le_trans (show -(2 ^ 63 : Int) ≤ -(2 ^ 60) by decide) ha) (Int.lt_trans ha' (show (2 ^ 60 : Int) < 2 ^ 63 by decide))
  have B := And.intro (Int.le_trans (show -(2 ^ 63 : Int) ≤ -(2 ^ 60) by decide) hb) (Int.lt_trans hb' (show (2 ^ 60 : Int) < 2 ^ 63 by decide))
  split
  · next hab => exact ⟨⟨⟨⟨A, B⟩, by decide, by decide⟩, by omega, by omega⟩, .inr ⟨by omega, by omega⟩⟩
  · exact ⟨⟨⟨⟨A, B⟩, by decide, by decide⟩, by decide, by decide⟩, .inl rfl⟩
theorem ints_of_items {acc : Array Value} {n : Nat} {c : Nat → Int} (h : ItemsOf (fun i v => ∃ t, v = Value.int (c i) t) acc n) : IntsAre acc.toList ((List.range n).map c) := by
  have key : ∀ (vs : List Value) (ns : List Int), vs.length = ns.length → (∀ (i : Nat) (v : Value), vs[i]? = some v → ∃ t, v = Value.int (ns.getD i 0) t) → IntsAre vs ns := by
    intro vs
    induction vs with
    | nil => intro ns hl _; cases ns with
      | nil => exact .nil
      | cons => cases hl
    | cons v vs ih =>
      intro ns hl hv
      cases ns with
      | nil => cases hl
      | cons a ns =>
        obtain ⟨t, rfl⟩ := hv 0 v rfl
        exact .cons a t (ih ns (by simpa using hl) fun i v e => hv (i + 1) v (by simpa using e))
  refine key _ _ (by simp [h.1]) fun i v e => ?_
  have e' : acc[i]? = some v := by simpa using e
  have hi : i < n := by have := (Array.getElem?_eq_some_iff.mp e').1; rw [h.1] at this; exact this
  obtain ⟨t, rfl⟩ := h.2 i v e'
  exact ⟨t, by simp [List.getD, hi]⟩

section
variable {prog : Program} {w : World} {A : Around} {E : Value → Shared → Prop} {s : Shared} {h₀ : Heap} {L : Addr} {m : Str → Option Value} {Q : Value → Shared → Prop}
theorem list_range2 {r : Addr} {a b c : Int} {t u v : Tok} {n : Nat} {news : List (Addr × Obj)} (hh : A.handled = none) (Fh : Fr h₀ L s.heap m) (N : News h₀ L s.heap news)
    (hr : IsRange s.heap r a b c t u v) (hsmall : Builtin.Range.small a b c = true) (hn : Builtin.Range.rangeSize a b c = (n : Int)) (hlen : n ≤ 2 ^ 24)
    (hQ : ∀ (d : Addr) h' tk (us : List Value) (k : Nat), Fr h₀ L h' m → News h₀ L h' ((d, listOf us.toArray k) :: news) → IntsAre us ((List.range n).map fun (i : Nat) => a + (i : Int) * c) → Q (.ref d) { s with heap := h', toks := tk }) :
    wpAny (model prog w) A (call (.type "list") [.ref r]) Q E s := by
  refine call_list_range hh hr hsmall hn hlen fun h' tk acc' c' hk hS' hacc => ?_
  refine hQ s.heap.objs.size h' tk acc'.toList c' (Fh.keeps hk) (fun p hp => ?_) (ints_of_items hacc)
  rcases List.mem_cons.mp hp with rfl | hp
  · refine ⟨by simpa using hS', ?_, ?_⟩
    · exact Nat.ne_of_gt Fh.ns.lt
    · cases e : h₀.get? s.heap.objs.size with
      | none => rfl
      | some o => exact absurd (Heap.lt_size (Fh.keep _ _ e)) (Nat.lt_irrefl _)
  · exact ⟨hk _ _ (N p hp).1, (N p hp).2⟩
end

theorem lout_step (a b : Str) (m : Int) (f bi : Nat) (row : List Int) (res : Int) : lout a b m (f + 1) bi row res =
    (let st := lin a (Txt.item b (bi : Int)) ⟨(bi : Int) * 2, (bi : Int) * 2, 9223372036854775807, row⟩ a.length
     if st.mn > m then m + 1 else lout a b m f (bi + 1) st.row st.res) := rfl
theorem lin_step (a bc : Str) (st : LSt) (n : Nat) : lin a bc st (n + 1) = lstep a bc (lin a bc st n) n := by
  unfold lin
  rw [List.range_succ, List.foldl_append]
  rfl
theorem lstep_len (a bc : Str) (st : LSt) (i : Nat) : (lstep a bc st i).row.length = st.row.length := by
  simp [lstep]

theorem lout_go {a b : Str} {m res R : Int} {i : Nat} {row : List Int} {st : LSt} (hi : i < b.length) (hl : st = lin a (Txt.item b (i : Int)) ⟨(i : Int) * 2, (i : Int) * 2, 9223372036854775807, row⟩ a.length)
    (h : lout a b m (b.length - i) i row res = R) : (if st.mn > m then m + 1 else lout a b m (b.length - (i + 1)) (i + 1) st.row st.res) = R := by
  have hf : b.length - i = b.length - (i + 1) + 1 := (Nat.succ_pred_eq_of_pos (Nat.sub_pos_of_lt hi)).symm
  rw [hf, lout_step] at h
  rw [hl]
  exact h

end Mine
-- F1
example : True := by
  w_top off
  exact trivial
namespace Mine
example (P : Params) : hd.heap_1 P = hd.heap_1 P ∧ PySem.Challenge.rw_wo0076_01 = PySem.Challenge.rw_wo0076_01 := by
  k_fill
  exact ⟨rfl, rfl⟩

example : True := by
  k_with_none
  (k_with "my.enter" => ((case k1 => first | exact fun _ h => nomatch h | assumption); (case k6 => k_is); (case k7 => k_is); (case k8 => omega); (case k9 => first | exact BindsTo.of_eq rfl | exact binds_K (by k_in) rfl (by k_is) rfl rfl rfl); (case kB => exact locs rfl); (case c5 => decide); (case c2 => exact rfl); (case c3 => exact rfl); (case c4 => exact rfl)))
  (k_with "my.enterC" => ((case k1 => first | exact fun _ h => nomatch h | assumption); (case k6 => k_is); (case k7 => k_is); (case k8 => omega); (case k9 => first | exact BindsTo.of_eq rfl | exact binds_K (by k_in) rfl (by k_is) rfl rfl rfl); (case kB => exact rfl); (case kD => decide +kernel); (case c2 => exact rfl); (case c3 => exact rfl); (case c4 => exact rfl)))
  exact trivial
set_option maxRecDepth 100000 in
set_option maxHeartbeats 8000000 in
theorem c_and {w : World} {h : Heap} (W : Wd w h) (a : Int) (ta : Tok) (b : Int) (tb : Tok)  : MCall w 96 [.int a ta, .int b tb] [] 1 h [] (fun v h' => IsI (Builtin.bitAnd a b) v) := by
  intro dp un fr gd s Q E hs hdp hun hret
  subst hs
  obtain ⟨X, loose, mean, mg, mb, T⟩ := id W
  k_dflt (refine' enterM [(Str.ofString "a", .int a ta), (Str.ofString "b", .int b tb)] [] ?k1 W ?k6 ?k7 ?k8 ?k9 ?kB ?_ ?c5 ?c2 ?c3 ?c4; walk_at "my.enter")
  intro L' h₁ F N _
  (try dsimp only [addrs, List.map, hideAll] at F N)
  (try k_fold)
  k_steps
  all_goals (dsimp only; k_unfold; dsimp only [retOf])
  all_goals (refine hret _ _ _ (fun b o e _ => Fr.keep (by assumption) b o e) (IsI.of ?_))
  all_goals rfl
set_option maxRecDepth 100000 in
set_option maxHeartbeats 8000000 in
theorem c_xor {w : World} {h : Heap} (W : Wd w h) (a : Int) (ta : Tok) (b : Int) (tb : Tok)  : MCall w 110 [.int a ta, .int b tb] [] 1 h [] (fun v h' => IsI (Builtin.bitXor a b) v) := by
  intro dp un fr gd s Q E hs hdp hun hret
  subst hs
  obtain ⟨X, loose, mean, mg, mb, T⟩ := id W
  k_dflt (refine' enterM [(Str.ofString "a", .int a ta), (Str.ofString "b", .int b tb)] [] ?k1 W ?k6 ?k7 ?k8 ?k9 ?kB ?_ ?c5 ?c2 ?c3 ?c4; walk_at "my.enter")
  intro L' h₁ F N _
  (try dsimp only [addrs, List.map, hideAll] at F N)
  (try k_fold)
  k_steps
  all_goals (dsimp only; k_unfold; dsimp only [retOf])
  all_goals (refine hret _ _ _ (fun b o e _ => Fr.keep (by assumption) b o e) (IsI.of ?_))
  all_goals rfl
set_option maxRecDepth 100000 in
set_option maxHeartbeats 8000000 in
theorem c_rshift {w : World} {h : Heap} (W : Wd w h) (a : Int) (ta : Tok) (b : Int) (tb : Tok) (hb : 0 ≤ b) : MCall w 103 [.int a ta, .int b tb] [] 1 h [] (fun v h' => IsI (a.fdiv (2 ^ b.toNat)) v) := by
  intro dp un fr gd s Q E hs hdp hun hret
  subst hs
  obtain ⟨X, loose, mean, mg, mb, T⟩ := id W
  k_dflt (refine' enterM [(Str.ofString "a", .int a ta), (Str.ofString "b", .int b tb)] [] ?k1 W ?k6 ?k7 ?k8 ?k9 ?kB ?_ ?c5 ?c2 ?c3 ?c4; walk_at "my.enter")
  intro L' h₁ F N _
  (try dsimp only [addrs, List.map, hideAll] at F N)
  (try k_fold)
  k_steps
  all_goals (dsimp only; k_unfold; dsimp only [retOf])
  all_goals (refine hret _ _ _ (fun b o e _ => Fr.keep (by assumption) b o e) (IsI.of ?_))
  all_goals rfl
set_option maxRecDepth 100000 in
set_option maxHeartbeats 8000000 in
theorem c_contains {w : World} {h : Heap} (W : Wd w h) (a : Str) (ta : Tok) (b : Str) (tb : Tok)  : MCall w 117 [.str a ta, .str b tb] [] 1 h [] (fun v h' => v = .bool (!(Builtin.Str.occurrences a b 0 a.length 1).isEmpty)) := by
  intro dp un fr gd s Q E hs hdp hun hret
  subst hs
  obtain ⟨X, loose, mean, mg, mb, T⟩ := id W
  k_dflt (refine' enterM [(Str.ofString "a", .str a ta), (Str.ofString "b", .str b tb)] [] ?k1 W ?k6 ?k7 ?k8 ?k9 ?kB ?_ ?c5 ?c2 ?c3 ?c4; walk_at "my.enter")
  intro L' h₁ F N _
  (try dsimp only [addrs, List.map, hideAll] at F N)
  (try k_fold)
  k_steps
  all_goals (dsimp only; k_unfold; dsimp only [retOf])
  all_goals (exact hret _ _ _ (fun b o e _ => Fr.keep (by assumption) b o e) rfl)
set_option maxRecDepth 100000 in
set_option maxHeartbeats 8000000 in
theorem c_subst {w : World} {h : Heap} (W : Wd w h) (a : Str) (ta : Tok) (b : Str) (tb : Tok) (ha : a.length ≤ 100) (hb : b.length ≤ 100) : MCall w 145 [.str a ta, .str b tb] [] 1 h [] (fun v h' => IsI (subCost a b) v) := by
  intro dp un fr gd s Q E hs hdp hun hret
  subst hs
  obtain ⟨X, loose, mean, mg, mb, T⟩ := id W
  k_dflt (refine' enterM [(Str.ofString "ch_a", .str a ta), (Str.ofString "ch_b", .str b tb)] [] ?k1 W ?k6 ?k7 ?k8 ?k9 ?kB ?_ ?c5 ?c2 ?c3 ?c4; walk_at "my.enter")
  intro L' h₁ F N _
  (try dsimp only [addrs, List.map, hideAll] at F N)
  (try k_fold)
  k_steps
  all_goals (dsimp only; k_unfold; dsimp only [retOf])
  all_goals (refine hret _ _ _ (fun b o e _ => Fr.keep (by assumption) b o e) (IsI.of ?_))
  all_goals (simp_all [subCost]; done)
end Mine
-- Mb
example : True := by
  w_top off
  exact trivial
namespace Mine
/-- the body of MCall at a state -/
noncomputable def MB (w : World) (f : Addr) (vs : List Value) (kw : List (Str × Value)) (k : Nat) (own : List (Addr × Obj)) (Ret : Value → Heap → Prop) (dp un : Nat) (fr : Option (List Env)) (gd : Option (List Code)) (s : Shared) (Q E : Value → Shared → Prop) : Prop :=
  dp + k < recursionLimit → un + 8 * k < cLine → (∀ v h' tk', (∀ b o, s.heap.get? b = some o → b ∉ addrs own → h'.get? b = some o) → Ret v h' → Q v { s with heap := h', toks := tk' }) →
    wpAny (model PySem.Challenge.rw_wo0076_01.row.prog w) ⟨none, dp, fr, gd, un⟩ (call (.ref f) vs kw) Q E s
theorem inc_under {α : Type} {a d : α} {l l' : List α} (h : ∀ p ∈ l, p ∈ d :: l') : ∀ p ∈ a :: l, p ∈ d :: a :: l' := fun p hp => by
  cases hp with
  | head => exact .tail _ (.head _)
  | tail _ q =>
    cases h p q with
    | head => exact .head _
    | tail _ z => exact .tail _ (.tail _ z)
theorem inc_over {α : Type} {a d : α} {l l' : List α} (h : ∀ p ∈ l, p ∈ d :: l') : ∀ p ∈ l, p ∈ d :: a :: l' := fun p hp => by
  cases h p hp with
  | head => exact .head _
  | tail _ z => exact .tail _ (.tail _ z)
theorem inc_snoc1 {α : Type} {d : α} {l : List α} : ∀ p ∈ l ++ [d], p ∈ d :: l := fun p hp => (List.mem_append.mp hp).elim (fun q => .tail _ q) fun q => by rw [List.mem_singleton.mp q]; exact .head _
theorem inc_snoc2 {α : Type} {d : α} {k l : List α} : ∀ p ∈ k ++ (l ++ [d]), p ∈ d :: (k ++ l) := fun p hp => inc_snoc1 p (by rw [List.append_assoc]; exact hp)
theorem MB.all {w : World} {f : Addr} {vs : List Value} {kw : List (Str × Value)} {k : Nat} {h : Heap} {own : List (Addr × Obj)} {Ret : Value → Heap → Prop} (H : ∀ dp un fr gd s Q E, s.heap = h → MB w f vs kw k own Ret dp un fr gd s Q E) : MCall w f vs kw k h own Ret := by
  intro dp un fr gd s Q E hs hdp hun hret
  have := H dp un fr gd s Q E hs
  subst hs
  exact this hdp hun hret
end Mine
-- F3
example : True := by
  w_top off
  exact trivial
namespace Mine
example (P : Params) : hd.heap_1 P = hd.heap_1 P ∧ PySem.Challenge.rw_wo0076_01 = PySem.Challenge.rw_wo0076_01 := by
  k_fill
  exact ⟨rfl, rfl⟩



/-- what parse257's loop tells from the place i on -/
noncomputable def p257 (r : Str) : Nat → Int → Str → Str
  | 0, _, d => d
  | f + 1, i, d => if i < r.length then
      (if (Txt.item r i == Str.ofString "\"") = true then (if r.length ≤ i + 1 then d else if (Txt.item r (i + 1) != Str.ofString "\"") = true then d else p257 r f (i + 2) (d ++ Txt.item r i))
       else p257 r f (i + 1) (d ++ Txt.item r i)) else d
noncomputable def told257 (r : Str) : Str := if (Txt.slice r (some 3) (some 5) != Str.ofString " \"") = true then Str.ofString "" else p257 r r.length 5 (Str.ofString "")
noncomputable def P257 (r : Str) (i : Int) (d : Str) (R : Str) : Prop := ∃ f : Nat, (r.length : Int) ≤ i + f ∧ p257 r f i d = R
theorem P257.unf {r : Str} {i : Int} {d R : Str} (h : P257 r i d R) (hi : i < r.length) : ∃ f : Nat, (r.length : Int) ≤ i + 1 + f ∧ (if (Txt.item r i == Str.ofString "\"") = true then (if r.length ≤ i + 1 then d else if (Txt.item r (i + 1) != Str.ofString "\"") = true then d else p257 r f (i + 2) (d ++ Txt.item r i)) else p257 r f (i + 1) (d ++ Txt.item r i)) = R := by
  obtain ⟨f, hf, e⟩ := h
  obtain ⟨g, rfl⟩ : ∃ g, f = g + 1 := ⟨f - 1, by omega⟩
  refine ⟨g, by omega, ?_⟩
  rw [← e]
  exact (if_pos hi).symm
theorem P257.end1 {r : Str} {i : Int} {d R : Str} (h : P257 r i d R) (hi : i < r.length) (h1 : (Txt.item r i == Str.ofString "\"") = true) (h2 : r.length ≤ i + 1) : R = d := by
  obtain ⟨f, _, e⟩ := h.unf hi
  rw [if_pos h1, if_pos h2] at e
  exact e.symm
theorem P257.end2 {r : Str} {i : Int} {d R : Str} (h : P257 r i d R) (hi : i < r.length) (h1 : (Txt.item r i == Str.ofString "\"") = true) (h2 : ¬ r.length ≤ i + 1) (h3 : (Txt.item r (i + 1) != Str.ofString "\"") = true) : R = d := by
  obtain ⟨f, _, e⟩ := h.unf hi
  rw [if_pos h1, if_neg h2, if_pos h3] at e
  exact e.symm
theorem P257.end3 {r : Str} {i : Int} {d R : Str} (h : P257 r i d R) (hi : ¬ i < r.length) : R = d := by
  obtain ⟨f, _, e⟩ := h
  cases f with
  | zero => exact e.symm
  | succ f => rw [← e]; exact if_neg hi
theorem P257.two {r : Str} {i : Int} {d R : Str} (h : P257 r i d R) (hi : i < r.length) (h1 : (Txt.item r i == Str.ofString "\"") = true) (h2 : ¬ r.length ≤ i + 1) (h3 : (Txt.item r (i + 1) != Str.ofString "\"") = false) : P257 r (i + 1 + 1) (d ++ Txt.item r i) R := by
  obtain ⟨f, hf, e⟩ := h.unf hi
  rw [if_pos h1, if_neg h2, if_neg (by rw [h3]; exact Bool.false_ne_true)] at e
  exact ⟨f, by omega, by rw [← e, show i + 1 + 1 = i + 2 by omega]⟩
theorem P257.one {r : Str} {i : Int} {d R : Str} (h : P257 r i d R) (hi : i < r.length) (h1 : (Txt.item r i == Str.ofString "\"") = false) : P257 r (i + 1) (d ++ Txt.item r i) R := by
  obtain ⟨f, hf, e⟩ := h.unf hi
  rw [if_neg (by rw [h1]; exact Bool.false_ne_true)] at e
  exact ⟨f, hf, e⟩
section
namespace P257
example : True := by
  k_with_none
  (k_with "my.enter" => ((case k1 => first | exact List.forall_mem_nil _ | assumption); (case k6 => k_is); (case k7 => k_is); (case k8 => omega); (case k9 => first | exact BindsTo.of_eq rfl | exact binds_K (by k_in) rfl (by k_is) rfl rfl rfl); (case kB => exact locs rfl); (case c5 => decide); (case c2 => exact rfl); (case c3 => exact rfl); (case c4 => exact rfl)))
  (k_with "my.enterC" => ((case k1 => first | exact List.forall_mem_nil _ | assumption); (case k6 => k_is); (case k7 => k_is); (case k8 => omega); (case k9 => first | exact BindsTo.of_eq rfl | exact binds_K (by k_in) rfl (by k_is) rfl rfl rfl); (case kB => exact rfl); (case kD => decide +kernel); (case c2 => exact rfl); (case c3 => exact rfl); (case c4 => exact rfl)))
  (k_with "my.room" => first | omega | ((simp only [depth_under_make, depth_under_kw, depth_in1, depth_deeper, depth_caller]); omega))
  (k_with "my.units" => first | omega | ((simp only [units_in1, units_deeper, Around.mark_units, units_caller]); omega))
  (k_with "my.wd" => exact Wd.keeps (by assumption) (Fr.keep (by k_asm)))
  (k_with "call builtin:list.append" => (k_here; k_dflt (refine' append_K (by k_asm) (by k_asm) (by k_upd) ?_ (by (simp only [List.size_toArray, Array.size_push, List.length_append, List.length_cons, List.length_nil, sizeLine_eq]; omega)); k_whole); intro h' F' N'; (try simp only [List.push_toArray] at N'); (try k_sweep)))
  (k_with "my.end" => ((try dsimp only); (try k_unfold); (try dsimp only [retOf])))
  (k_with "my.keep" => exact (fun b o e hb => Fr.keep (by assumption) b o (hideAll_get _ e hb)))
  (k_with "my.cend" => (unfold Hold; refine LCg.CompEnd.intro (by k_asm) (by assumption) _ (fun p hp => hp) (by assumption) (by first | trivial | exact .inr ⟨_, by k_memK, rfl, _, rfl⟩ | exact .inl (by assumption)) ⟨rfl, ?_⟩))
  (k_with "my.m" => with_reducible ((repeat (first | exact List.Mem.head _ | refine List.Mem.tail _ ?_ | assumption | (refine List.mem_append_left _ ?_; walk_at "my.m") | (refine List.mem_append_right _ ?_; walk_at "my.m"))); done))
  (k_with "my.mg" => first | walk_at "my.m" | ((try dsimp only [hdO, PyProof.Rows.LCg.lst, PySem.W.listOf, PySem.W.instObj, PySem.W.dictOf, List.cons_append, List.nil_append]); walk_at "my.m") | ((simp only [List.mem_cons, List.mem_append]); grind))
  (k_with "my.inc" => with_reducible ((repeat' (first | exact inc_refl | exact inc_nil | refine inc_same ?_ | refine inc_app ?_ ?_ | refine inc_one (by walk_at "my.m") ?_ | assumption | refine inc_skip ?_ | (refine inc_left ?_; walk_at "my.inc") | (refine inc_right ?_; walk_at "my.inc"))); done))
  (k_with "my.ne" => with_reducible first | assumption | exact neS1 | exact neS1.symm | exact neS2 | exact neS2.symm | (refine Ne.symm ?_; assumption) | (refine Nat.ne_of_lt ?_; assumption) | (refine Nat.ne_of_gt ?_; assumption))
  (k_with "my.pin" => first | ((try dsimp only [hdO, List.cons_append, List.nil_append] at hp ⊢); exact (show ∀ p ∈ _, p ∈ _ from by walk_at "my.inc") _ hp) | ((try dsimp only [hdO, PyProof.Rows.LCg.lst, PySem.W.listOf, PySem.W.instObj, PySem.W.dictOf, List.cons_append, List.nil_append] at hp ⊢); exact (show ∀ p ∈ _, p ∈ _ from by walk_at "my.inc") _ hp) | ((simp only [hdO, List.cons_append, List.nil_append, List.mem_append, List.mem_cons, List.not_mem_nil, or_false] at hp ⊢); grind))
  (k_with "my.mY" => ((repeat (first | exact List.Mem.head _ | refine List.Mem.tail _ ?_ | refine List.mem_append_right _ ?_)); done))
  (k_with "my.pinS" => ((try dsimp only [hdO, List.cons_append, List.nil_append] at hp ⊢); revert hp; revert p; (repeat (first | exact inc_snoc2 | exact inc_snoc1 | refine inc_under ?_ | refine inc_over ?_)); done))
  (k_with "my.pinY" => ((try dsimp only [hdO, List.cons_append, List.nil_append] at hp ⊢); revert hp; revert p; (repeat (refine inc_one (by walk_at "my.mY") ?_)); (with_reducible (repeat (first | exact inc_refl | exact inc_nil | refine inc_skip ?_ | refine inc_left ?_))); done))
  (k_with "my.in" => first | ((try dsimp only [hdO, List.cons_append, List.nil_append]); walk_at "my.inc") | ((try dsimp only [hdO, PyProof.Rows.LCg.lst, PySem.W.listOf, PySem.W.instObj, PySem.W.dictOf, List.cons_append, List.nil_append]); walk_at "my.inc") | (intro p hp; (try simp only [hdO, List.cons_append, List.nil_append, List.mem_cons, List.mem_append, List.not_mem_nil, or_false, false_or] at hp ⊢); first | exact hp | grind))
  (k_with "my.same" => (intro z h1 h2 h3; first
  | rfl
  | (simp only [List.forall_mem_cons, List.forall_mem_nil, List.not_mem_nil, false_implies, implies_true, and_true, ne_eq] at h2; simp only [List.contains_cons, List.contains_nil, Bool.or_false, Bool.or_eq_false_iff, beq_eq_false_iff_ne, ne_eq] at h3; simp [h1, h2, h3, kstB]; done)
  | (simp [h1, kstB]; done)
  | (simp_all [kstB]; done)))
  (k_with "my.csame" => (intro z h2 h3; first
  | rfl
  | exact kstB_stay z h2 h3
  | (simp only [List.forall_mem_cons, List.forall_mem_nil, List.not_mem_nil, false_implies, implies_true, and_true, ne_eq] at h2; (try simp only [List.contains_cons, List.contains_nil, Bool.or_false, Bool.or_eq_false_iff, beq_eq_false_iff_ne, ne_eq] at h3); simp [h2, h3, kstB]; done)
  | (simp_all [kstB]; done)))
  (k_with "my.all" => (repeat' (first | exact List.forall_mem_nil _ | (refine List.forall_mem_cons.mpr ⟨rfl, ?_⟩))))
  (k_with "execs cons" => first | (k_here; k_gentoks) | (k_here; k_made; walk_at "execs cons") | ((with_reducible refine wpAny_execs_cons ?_); (try dsimp only); k_fold))
  (k_with "my.sub" => (repeat' (first | exact List.forall_mem_nil _ | (refine List.forall_mem_cons.mpr ⟨?_, ?_⟩) | k_mem)))
  (k_with "exec While Compare cons nil" => (refine Hold.out ?_))
  (k_with "KswEnd" => (refine Hold.out ?_))
  exact trivial
noncomputable def Body (w : World) (r : Str) (tr : Tok) (dp : Nat) (un : Nat) (fr : Option (List Env)) (gd : Option (List Code)) (s : Shared) (Q : Value → Shared → Prop) (E : Value → Shared → Prop) : Prop :=
    Wd w s.heap → r.length ≤ 100 → (Txt.slice r none (some 3)) = Str.ofString "257" →
    MB w 89 [.str r tr] [] 1 [] (fun v h' => IsS (told257 r) v) dp un fr gd s Q E
noncomputable def Ok (v : World × Str × Tok × Nat × Nat × (Option (List Env)) × (Option (List Code)) × Shared × (Value → Shared → Prop) × (Value → Shared → Prop)) : Prop := Body v.1 v.2.1 v.2.2.1 v.2.2.2.1 v.2.2.2.2.1 v.2.2.2.2.2.1 v.2.2.2.2.2.2.1 v.2.2.2.2.2.2.2.1 v.2.2.2.2.2.2.2.2.1 v.2.2.2.2.2.2.2.2.2
theorem ne : Nonempty (World × Str × Tok × Nat × Nat × (Option (List Env)) × (Option (List Code)) × Shared × (Value → Shared → Prop) × (Value → Shared → Prop)) := ⟨(aWorld 1, ⟨#[]⟩, 0, 0, 0, none, none, {}, fun _ _ => True, fun _ _ => True)⟩
noncomputable def v0 : World × Str × Tok × Nat × Nat × (Option (List Env)) × (Option (List Code)) × Shared × (Value → Shared → Prop) × (Value → Shared → Prop) := Classical.choose (one_for_all ne Ok)
@[irreducible] noncomputable def w : World := v0.1
@[irreducible] noncomputable def r : Str := v0.2.1
@[irreducible] noncomputable def tr : Tok := v0.2.2.1
@[irreducible] noncomputable def dp : Nat := v0.2.2.2.1
@[irreducible] noncomputable def un : Nat := v0.2.2.2.2.1
@[irreducible] noncomputable def fr : Option (List Env) := v0.2.2.2.2.2.1
@[irreducible] noncomputable def gd : Option (List Code) := v0.2.2.2.2.2.2.1
@[irreducible] noncomputable def s : Shared := v0.2.2.2.2.2.2.2.1
@[irreducible] noncomputable def Q : Value → Shared → Prop := v0.2.2.2.2.2.2.2.2.1
@[irreducible] noncomputable def E : Value → Shared → Prop := v0.2.2.2.2.2.2.2.2.2
theorem all (w : World) (r : Str) (tr : Tok) (dp : Nat) (un : Nat) (fr : Option (List Env)) (gd : Option (List Code)) (s : Shared) (Q : Value → Shared → Prop) (E : Value → Shared → Prop) (h : Body P257.w P257.r P257.tr P257.dp P257.un P257.fr P257.gd P257.s P257.Q P257.E) : Body w r tr dp un fr gd s Q E := by
  delta P257.w P257.r P257.tr P257.dp P257.un P257.fr P257.gd P257.s P257.Q P257.E at h
  exact Classical.choose_spec (one_for_all ne Ok) h (w, r, tr, dp, un, fr, gd, s, Q, E)
noncomputable def L' : Addr := s.heap.objs.size
set_option maxRecDepth 100000 in
set_option maxHeartbeats 2000000 in
theorem walk : Body w r tr dp un fr gd s Q E := by
  (k_with "execs cons" => first | (k_here; k_gentoks) | (k_here; k_made; walk_at "execs cons") | ((with_reducible refine wpAny_execs_cons ?_); (try dsimp only)))
  intro W hl h3 hdp hun hret
  obtain ⟨X, loose, mean, mg, mb, T⟩ := id W
  k_dflt (refine' enterV (L' := L') [(Str.ofString "resp", .str r tr)] [] ?k1 W ?k6 ?k7 ?k8 ?k9 ?kB ?_ rfl ?c5 ?c2 ?c3 ?c4; walk_at "my.enter")
  intro h₁ F N hLow
  (try dsimp only [hdO, List.cons_append, List.nil_append] at *)
  (try k_lt hLow)
  (try dsimp only [addrs, List.map, hideAll] at F N)
  k_steps
  all_goals (try (exfalso; simp_all; done))
  · walk_at "my.end"
    exact hret _ _ _ (fun b o e _ => Fr.keep (by assumption) b o e) (IsS.of (by unfold told257; rw [if_pos (by assumption)]))
  unfold Hold
  (rename Fr _ _ _ _ => F1)
  (rename News _ _ _ _ => N1)
  (rename (_ != _) = false => hs5)
  have hR : told257 r = p257 r r.length 5 (Str.ofString "") := by unfold told257; rw [if_neg (by rw [hs5]; exact Bool.false_ne_true)]
  with_unfolding_all (refine ksw_while (σ := Int × Tok × Str × Tok) (fun _ => []) (fun c => [(Str.ofString "i", .int c.1 c.2.1), (Str.ofString "dirname", .str c.2.2.1 c.2.2.2)]) (fun _ => True) [Str.ofString "c"] (fun c => 5 ≤ c.1 ∧ c.1 ≤ 102 ∧ (c.2.2.1.length : Int) ≤ c.1 ∧ P257 r c.1 c.2.2.1 (told257 r)) (fun c => (200 - c.1).toNat) (5, _, Str.ofString "", _) F1 N1 trivial (List.forall_mem_cons.mpr ⟨rfl, List.forall_mem_singleton.mpr rfl⟩) ⟨by dsimp only; omega, by dsimp only; omega, by dsimp only; decide, ⟨r.length, by dsimp only; omega, hR.symm⟩⟩ ?_ (fun _ _ h => False.elim h))
  rintro ⟨i, ti, d, td⟩ u h2 tk9 _ ⟨h1, h2, h3, h4⟩ F2 N2
  dsimp only at h1 h2 h3 h4 F2 N2 ⊢
  (try k_fold)
  k_steps
  · walk_at "my.end"
    exact hret _ _ _ (fun b o e _ => Fr.keep (by assumption) b o e) (IsS.of (h4.end1 (by assumption) (by assumption) (by assumption)).symm)
  · walk_at "my.end"
    exact hret _ _ _ (fun b o e _ => Fr.keep (by assumption) b o e) (IsS.of (h4.end2 (by assumption) (by assumption) (by assumption) (by assumption)).symm)
  · unfold Hold
    (rename Fr _ _ _ _ => F3)
    (rename News _ _ _ _ => N3)
    (rename _ ∧ (d ++ _).length ≤ _ => hl9)
    (rename _ ∧ (Txt.item r i).length ≤ _ => hl8)
    exact ksw_end (_, _, _, _) F3 N3 (fun _ h => nomatch h) trivial (List.forall_mem_cons.mpr ⟨rfl, List.forall_mem_singleton.mpr rfl⟩) (by walk_at "my.csame") ⟨by dsimp only; omega, by dsimp only; omega, by dsimp only; omega, h4.two (by assumption) (by assumption) (by assumption) (by assumption)⟩ (by dsimp only; omega)
  · unfold Hold
    (rename Fr _ _ _ _ => F3)
    (rename News _ _ _ _ => N3)
    (rename _ ∧ (d ++ _).length ≤ _ => hl9)
    (rename _ ∧ (Txt.item r i).length ≤ _ => hl8)
    exact ksw_end (_, _, _, _) F3 N3 (fun _ h => nomatch h) trivial (List.forall_mem_cons.mpr ⟨rfl, List.forall_mem_singleton.mpr rfl⟩) (by walk_at "my.csame") ⟨by dsimp only; omega, by dsimp only; omega, by dsimp only; omega, h4.one (by assumption) (by assumption)⟩ (by dsimp only; omega)
  · walk_at "my.end"
    exact hret _ _ _ (fun b o e _ => Fr.keep (by assumption) b o e) (IsS.of (h4.end3 (by assumption)).symm)
end P257
theorem c_parse257 {w : World} {h : Heap} (W : Wd w h) (r : Str) (tr : Tok) (hl : r.length ≤ 100) (h3 : (Txt.slice r none (some 3)) = Str.ofString "257") : MCall w 89 [.str r tr] [] 1 h [] (fun v h' => IsS (told257 r) v) := by
  intro dp9 un9 fr9 gd9 s9 Q9 E9 e9 hdp9 hun9 hret9
  subst e9
  exact P257.all w r tr dp9 un9 fr9 gd9 s9 Q9 E9 P257.walk W hl h3 hdp9 hun9 hret9
end

end Mine
-- G1
example : True := by
  w_top off
  exact trivial
namespace Mine
example (P : Params) : hd.heap_1 P = hd.heap_1 P ∧ PySem.Challenge.rw_wo0076_01 = PySem.Challenge.rw_wo0076_01 := by
  k_fill
  exact ⟨rfl, rfl⟩



noncomputable def look3 (a a0 a1 a2 b0 b1 b2 : Str) : Str := if Txt.lower a0 = Txt.lower a then b0 else if Txt.lower a1 = Txt.lower a then b1 else b2
section
namespace Get
example : True := by
  k_with_none
  (k_with "my.enter" => ((case k1 => first | exact List.forall_mem_nil _ | assumption); (case k6 => k_is); (case k7 => k_is); (case k8 => omega); (case k9 => first | exact BindsTo.of_eq rfl | exact binds_K (by k_in) rfl (by k_is) rfl rfl rfl); (case kB => exact locs rfl); (case c5 => decide); (case c2 => exact rfl); (case c3 => exact rfl); (case c4 => exact rfl)))
  (k_with "my.enterC" => ((case k1 => first | exact List.forall_mem_nil _ | assumption); (case k6 => k_is); (case k7 => k_is); (case k8 => omega); (case k9 => first | exact BindsTo.of_eq rfl | exact binds_K (by k_in) rfl (by k_is) rfl rfl rfl); (case kB => exact rfl); (case kD => decide +kernel); (case c2 => exact rfl); (case c3 => exact rfl); (case c4 => exact rfl)))
  (k_with "my.room" => first | omega | ((simp only [depth_under_make, depth_under_kw, depth_in1, depth_deeper, depth_caller]); omega))
  (k_with "my.units" => first | omega | ((simp only [units_in1, units_deeper, Around.mark_units, units_caller]); omega))
  (k_with "my.wd" => exact Wd.keeps (by assumption) (Fr.keep (by k_asm)))
  (k_with "call builtin:list.append" => (k_here; k_dflt (refine' append_K (by k_asm) (by k_asm) (by k_upd) ?_ (by (simp only [List.size_toArray, Array.size_push, List.length_append, List.length_cons, List.length_nil, sizeLine_eq]; omega)); k_whole); intro h' F' N'; (try simp only [List.push_toArray] at N'); (try k_sweep)))
  (k_with "my.end" => ((try dsimp only); (try k_unfold); (try dsimp only [retOf])))
  (k_with "my.keep" => exact (fun b o e hb => Fr.keep (by assumption) b o (hideAll_get _ e hb)))
  (k_with "my.cend" => (unfold Hold; refine LCg.CompEnd.intro (by k_asm) (by assumption) _ (fun p hp => hp) (by assumption) (by first | trivial | exact .inr ⟨_, by k_memK, rfl, _, rfl⟩ | exact .inl (by assumption)) ⟨rfl, ?_⟩))
  (k_with "my.m" => with_reducible ((repeat (first | exact List.Mem.head _ | refine List.Mem.tail _ ?_ | assumption | (refine List.mem_append_left _ ?_; walk_at "my.m") | (refine List.mem_append_right _ ?_; walk_at "my.m"))); done))
  (k_with "my.mg" => first | walk_at "my.m" | ((try dsimp only [hdO, PyProof.Rows.LCg.lst, PySem.W.listOf, PySem.W.instObj, PySem.W.dictOf, List.cons_append, List.nil_append]); walk_at "my.m") | ((simp only [List.mem_cons, List.mem_append]); grind))
  (k_with "my.inc" => with_reducible ((repeat' (first | exact inc_refl | exact inc_nil | refine inc_same ?_ | refine inc_app ?_ ?_ | refine inc_one (by walk_at "my.m") ?_ | assumption | refine inc_skip ?_ | (refine inc_left ?_; walk_at "my.inc") | (refine inc_right ?_; walk_at "my.inc"))); done))
  (k_with "my.ne" => with_reducible first | assumption | exact neS1 | exact neS1.symm | exact neS2 | exact neS2.symm | (refine Ne.symm ?_; assumption) | (refine Nat.ne_of_lt ?_; assumption) | (refine Nat.ne_of_gt ?_; assumption))
  (k_with "my.pin" => first | ((try dsimp only [hdO, List.cons_append, List.nil_append] at hp ⊢); exact (show ∀ p ∈ _, p ∈ _ from by walk_at "my.inc") _ hp) | ((try dsimp only [hdO, PyProof.Rows.LCg.lst, PySem.W.listOf, PySem.W.instObj, PySem.W.dictOf, List.cons_append, List.nil_append] at hp ⊢); exact (show ∀ p ∈ _, p ∈ _ from by walk_at "my.inc") _ hp) | ((simp only [hdO, List.cons_append, List.nil_append, List.mem_append, List.mem_cons, List.not_mem_nil, or_false] at hp ⊢); grind))
  (k_with "my.mY" => ((repeat (first | exact List.Mem.head _ | refine List.Mem.tail _ ?_ | refine List.mem_append_right _ ?_)); done))
  (k_with "my.pinS" => ((try dsimp only [hdO, List.cons_append, List.nil_append] at hp ⊢); revert hp; revert p; (repeat (first | exact inc_snoc2 | exact inc_snoc1 | refine inc_under ?_ | refine inc_over ?_)); done))
  (k_with "my.pinY" => ((try dsimp only [hdO, List.cons_append, List.nil_append] at hp ⊢); revert hp; revert p; (repeat (refine inc_one (by walk_at "my.mY") ?_)); (with_reducible (repeat (first | exact inc_refl | exact inc_nil | refine inc_skip ?_ | refine inc_left ?_))); done))
  (k_with "my.in" => first | ((try dsimp only [hdO, List.cons_append, List.nil_append]); walk_at "my.inc") | ((try dsimp only [hdO, PyProof.Rows.LCg.lst, PySem.W.listOf, PySem.W.instObj, PySem.W.dictOf, List.cons_append, List.nil_append]); walk_at "my.inc") | (intro p hp; (try simp only [hdO, List.cons_append, List.nil_append, List.mem_cons, List.mem_append, List.not_mem_nil, or_false, false_or] at hp ⊢); first | exact hp | grind))
  (k_with "my.same" => (intro z h1 h2 h3; first
  | rfl
  | (simp only [List.forall_mem_cons, List.forall_mem_nil, List.not_mem_nil, false_implies, implies_true, and_true, ne_eq] at h2; simp only [List.contains_cons, List.contains_nil, Bool.or_false, Bool.or_eq_false_iff, beq_eq_false_iff_ne, ne_eq] at h3; simp [h1, h2, h3, kstB]; done)
  | (simp [h1, kstB]; done)
  | (simp_all [kstB]; done)))
  (k_with "my.csame" => (intro z h2 h3; first
  | rfl
  | exact kstB_stay z h2 h3
  | (simp only [List.forall_mem_cons, List.forall_mem_nil, List.not_mem_nil, false_implies, implies_true, and_true, ne_eq] at h2; (try simp only [List.contains_cons, List.contains_nil, Bool.or_false, Bool.or_eq_false_iff, beq_eq_false_iff_ne, ne_eq] at h3); simp [h2, h3, kstB]; done)
  | (simp_all [kstB]; done)))
  (k_with "my.all" => (repeat' (first | exact List.forall_mem_nil _ | (refine List.forall_mem_cons.mpr ⟨rfl, ?_⟩))))
  (k_with "execs cons" => first | (k_here; k_gentoks) | (k_here; k_made; walk_at "execs cons") | ((with_reducible refine wpAny_execs_cons ?_); (try dsimp only); k_fold))
  (k_with "my.sub" => (repeat' (first | exact List.forall_mem_nil _ | (refine List.forall_mem_cons.mpr ⟨?_, ?_⟩) | k_mem)))
  (k_with "call ref" => (k_here; (with_reducible show wpAny _ _ (call (Value.ref 197) _ _) _ _ _); k_dflt (refine' MCall.pure (c_convert (by walk_at "my.wd") _ _ _ _ (by assumption)) (by walk_at "my.room") (by walk_at "my.units") (by k_asm) (by k_asm) ?_); intro v9 h9 tk9 hR9 hk9 F9 N9; (try k_sweep); subst hR9; (try dsimp only)))
  (k_with "exec For Tuple Attribute cons nil" => (k_here; (rename Fr _ _ _ _ => lF'); (with_unfolding_all refine' For_turns lF' ?_); k_whole))
  exact trivial
noncomputable def Body (w : World) (x : Addr) (dx : Addr) (l : Addr) (tk : Tok) (n : Nat) (t0 : Addr) (t1 : Addr) (t2 : Addr) (a0 : Str) (a1 : Str) (a2 : Str) (b0 : Str) (b1 : Str) (b2 : Str) (k0 : Tok) (k1 : Tok) (k2 : Tok) (j0 : Tok) (j1 : Tok) (j2 : Tok) (n0 : Nat) (n1 : Nat) (n2 : Nat) (a : Str) (ta : Tok) (dp : Nat) (un : Nat) (fr : Option (List Env)) (gd : Option (List Code)) (s : Shared) (Q : Value → Shared → Prop) (E : Value → Shared → Prop) : Prop :=
    Wd w (hideAll s.heap (addrs (hdO w x dx l tk [.ref t0, .ref t1, .ref t2] n ++ [(t0, { cls := .type "tuple", data := .seq #[.str a0 k0, .str b0 j0] n0 }), (t1, { cls := .type "tuple", data := .seq #[.str a1 k1, .str b1 j1] n1 }), (t2, { cls := .type "tuple", data := .seq #[.str a2 k2, .str b2 j2] n2 })]))) → (∀ p ∈ (hdO w x dx l tk [.ref t0, .ref t1, .ref t2] n ++ [(t0, { cls := .type "tuple", data := .seq #[.str a0 k0, .str b0 j0] n0 }), (t1, { cls := .type "tuple", data := .seq #[.str a1 k1, .str b1 j1] n1 }), (t2, { cls := .type "tuple", data := .seq #[.str a2 k2, .str b2 j2] n2 })]), s.heap.get? p.1 = some p.2) → Clean (Txt.lower a) → a.length ≤ 100 → a0.length ≤ 100 → a1.length ≤ 100 → a2.length ≤ 100 → Txt.lower a0 = Txt.lower a ∨ Txt.lower a1 = Txt.lower a ∨ Txt.lower a2 = Txt.lower a →
    MB w 243 [.ref x, .str a ta] [] 3 (hdO w x dx l tk [.ref t0, .ref t1, .ref t2] n ++ [(t0, { cls := .type "tuple", data := .seq #[.str a0 k0, .str b0 j0] n0 }), (t1, { cls := .type "tuple", data := .seq #[.str a1 k1, .str b1 j1] n1 }), (t2, { cls := .type "tuple", data := .seq #[.str a2 k2, .str b2 j2] n2 })]) (fun v h' => ∃ own', (fun v own' => own' = (hdO w x dx l tk [.ref t0, .ref t1, .ref t2] n ++ [(t0, { cls := .type "tuple", data := .seq #[.str a0 k0, .str b0 j0] n0 }), (t1, { cls := .type "tuple", data := .seq #[.str a1 k1, .str b1 j1] n1 }), (t2, { cls := .type "tuple", data := .seq #[.str a2 k2, .str b2 j2] n2 })]) ∧ IsS (look3 a a0 a1 a2 b0 b1 b2) v) v own' ∧ Held s.heap (hdO w x dx l tk [.ref t0, .ref t1, .ref t2] n ++ [(t0, { cls := .type "tuple", data := .seq #[.str a0 k0, .str b0 j0] n0 }), (t1, { cls := .type "tuple", data := .seq #[.str a1 k1, .str b1 j1] n1 }), (t2, { cls := .type "tuple", data := .seq #[.str a2 k2, .str b2 j2] n2 })]) h' own') dp un fr gd s Q E
noncomputable def Ok (v : World × Addr × Addr × Addr × Tok × Nat × Addr × Addr × Addr × Str × Str × Str × Str × Str × Str × Tok × Tok × Tok × Tok × Tok × Tok × Nat × Nat × Nat × Str × Tok × Nat × Nat × (Option (List Env)) × (Option (List Code)) × Shared × (Value → Shared → Prop) × (Value → Shared → Prop)) : Prop := Body v.1 v.2.1 v.2.2.1 v.2.2.2.1 v.2.2.2.2.1 v.2.2.2.2.2.1 v.2.2.2.2.2.2.1 v.2.2.2.2.2.2.2.1 v.2.2.2.2.2.2.2.2.1 v.2.2.2.2.2.2.2.2.2.1 v.2.2.2.2.2.2.2.2.2.2.1 v.2.2.2.2.2.2.2.2.2.2.2.1 v.2.2.2.2.2.2.2.2.2.2.2.2.1 v.2.2.2.2.2.2.2.2.2.2.2.2.2.1 v.2.2.2.2.2.2.2.2.2.2.2.2.2.2.1 v.2.2.2.2.2.2.2.2.2.2.2.2.2.2.2.1 v.2.2.2.2.2.2.2.2.2.2.2.2.2.2.2.2.1 v.2.2.2.2.2.2.2.2.2.2.2.2.2.2.2.2.2.1 v.2.2.2.2.2.2.2.2.2.2.2.2.2.2.2.2.2.2.1 v.2.2.2.2.2.2.2.2.2.2.2.2.2.2.2.2.2.2.2.1 v.2.2.2.2.2.2.2.2.2.2.2.2.2.2.2.2.2.2.2.2.1 v.2.2.2.2.2.2.2.2.2.2.2.2.2.2.2.2.2.2.2.2.2.1 v.2.2.2.2.2.2.2.2.2.2.2.2.2.2.2.2.2.2.2.2.2.2.1 v.2.2.2.2.2.2.2.2.2.2.2.2.2.2.2.2.2.2.2.2.2.2.2.1 v.2.2.2.2.2.2.2.2.2.2.2.2.2.2.2.2.2.2.2.2.2.2.2.2.1 v.2.2.2.2.2.2.2.2.2.2.2.2.2.2.2.2.2.2.2.2.2.2.2.2.2.1 v.2.2.2.2.2.2.2.2.2.2.2.2.2.2.2.2.2.2.2.2.2.2.2.2.2.2.1 v.2.2.2.2.2.2.2.2.2.2.2.2.2.2.2.2.2.2.2.2.2.2.2.2.2.2.2.1 v.2.2.2.2.2.2.2.2.2.2.2.2.2.2.2.2.2.2.2.2.2.2.2.2.2.2.2.2.1 v.2.2.2.2.2.2.2.2.2.2.2.2.2.2.2.2.2.2.2.2.2.2.2.2.2.2.2.2.2.1 v.2.2.2.2.2.2.2.2.2.2.2.2.2.2.2.2.2.2.2.2.2.2.2.2.2.2.2.2.2.2.1 v.2.2.2.2.2.2.2.2.2.2.2.2.2.2.2.2.2.2.2.2.2.2.2.2.2.2.2.2.2.2.2.1 v.2.2.2.2.2.2.2.2.2.2.2.2.2.2.2.2.2.2.2.2.2.2.2.2.2.2.2.2.2.2.2.2
theorem ne : Nonempty (World × Addr × Addr × Addr × Tok × Nat × Addr × Addr × Addr × Str × Str × Str × Str × Str × Str × Tok × Tok × Tok × Tok × Tok × Tok × Nat × Nat × Nat × Str × Tok × Nat × Nat × (Option (List Env)) × (Option (List Code)) × Shared × (Value → Shared → Prop) × (Value → Shared → Prop)) := ⟨(aWorld 1, (0 : Nat), (0 : Nat), (0 : Nat), 0, 0, (0 : Nat), (0 : Nat), (0 : Nat), ⟨#[]⟩, ⟨#[]⟩, ⟨#[]⟩, ⟨#[]⟩, ⟨#[]⟩, ⟨#[]⟩, 0, 0, 0, 0, 0, 0, 0, 0, 0, ⟨#[]⟩, 0, 0, 0, none, none, {}, fun _ _ => True, fun _ _ => True)⟩
noncomputable def v0 : World × Addr × Addr × Addr × Tok × Nat × Addr × Addr × Addr × Str × Str × Str × Str × Str × Str × Tok × Tok × Tok × Tok × Tok × Tok × Nat × Nat × Nat × Str × Tok × Nat × Nat × (Option (List Env)) × (Option (List Code)) × Shared × (Value → Shared → Prop) × (Value → Shared → Prop) := Classical.choose (one_for_all ne Ok)
@[irreducible] noncomputable def w : World := v0.1
@[irreducible] noncomputable def x : Addr := v0.2.1
@[irreducible] noncomputable def dx : Addr := v0.2.2.1
@[irreducible] noncomputable def l : Addr := v0.2.2.2.1
@[irreducible] noncomputable def tk : Tok := v0.2.2.2.2.1
@[irreducible] noncomputable def n : Nat := v0.2.2.2.2.2.1
@[irreducible] noncomputable def t0 : Addr := v0.2.2.2.2.2.2.1
@[irreducible] noncomputable def t1 : Addr := v0.2.2.2.2.2.2.2.1
@[irreducible] noncomputable def t2 : Addr := v0.2.2.2.2.2.2.2.2.1
@[irreducible] noncomputable def a0 : Str := v0.2.2.2.2.2.2.2.2.2.1
@[irreducible] noncomputable def a1 : Str := v0.2.2.2.2.2.2.2.2.2.2.1
@[irreducible] noncomputable def a2 : Str := v0.2.2.2.2.2.2.2.2.2.2.2.1
@[irreducible] noncomputable def b0 : Str := v0.2.2.2.2.2.2.2.2.2.2.2.2.1
@[irreducible] noncomputable def b1 : Str := v0.2.2.2.2.2.2.2.2.2.2.2.2.2.1
@[irreducible] noncomputable def b2 : Str := v0.2.2.2.2.2.2.2.2.2.2.2.2.2.2.1
@[irreducible] noncomputable def k0 : Tok := v0.2.2.2.2.2.2.2.2.2.2.2.2.2.2.2.1
@[irreducible] noncomputable def k1 : Tok := v0.2.2.2.2.2.2.2.2.2.2.2.2.2.2.2.2.1
@[irreducible] noncomputable def k2 : Tok := v0.2.2.2.2.2.2.2.2.2.2.2.2.2.2.2.2.2.1
@[irreducible] noncomputable def j0 : Tok := v0.2.2.2.2.2.2.2.2.2.2.2.2.2.2.2.2.2.2.1
@[irreducible] noncomputable def j1 : Tok := v0.2.2.2.2.2.2.2.2.2.2.2.2.2.2.2.2.2.2.2.1
@[irreducible] noncomputable def j2 : Tok := v0.2.2.2.2.2.2.2.2.2.2.2.2.2.2.2.2.2.2.2.2.1
@[irreducible] noncomputable def n0 : Nat := v0.2.2.2.2.2.2.2.2.2.2.2.2.2.2.2.2.2.2.2.2.2.1
@[irreducible] noncomputable def n1 : Nat := v0.2.2.2.2.2.2.2.2.2.2.2.2.2.2.2.2.2.2.2.2.2.2.1
@[irreducible] noncomputable def n2 : Nat := v0.2.2.2.2.2.2.2.2.2.2.2.2.2.2.2.2.2.2.2.2.2.2.2.1
@[irreducible] noncomputable def a : Str := v0.2.2.2.2.2.2.2.2.2.2.2.2.2.2.2.2.2.2.2.2.2.2.2.2.1
@[irreducible] noncomputable def ta : Tok := v0.2.2.2.2.2.2.2.2.2.2.2.2.2.2.2.2.2.2.2.2.2.2.2.2.2.1
@[irreducible] noncomputable def dp : Nat := v0.2.2.2.2.2.2.2.2.2.2.2.2.2.2.2.2.2.2.2.2.2.2.2.2.2.2.1
@[irreducible] noncomputable def un : Nat := v0.2.2.2.2.2.2.2.2.2.2.2.2.2.2.2.2.2.2.2.2.2.2.2.2.2.2.2.1
@[irreducible] noncomputable def fr : Option (List Env) := v0.2.2.2.2.2.2.2.2.2.2.2.2.2.2.2.2.2.2.2.2.2.2.2.2.2.2.2.2.1
@[irreducible] noncomputable def gd : Option (List Code) := v0.2.2.2.2.2.2.2.2.2.2.2.2.2.2.2.2.2.2.2.2.2.2.2.2.2.2.2.2.2.1
@[irreducible] noncomputable def s : Shared := v0.2.2.2.2.2.2.2.2.2.2.2.2.2.2.2.2.2.2.2.2.2.2.2.2.2.2.2.2.2.2.1
@[irreducible] noncomputable def Q : Value → Shared → Prop := v0.2.2.2.2.2.2.2.2.2.2.2.2.2.2.2.2.2.2.2.2.2.2.2.2.2.2.2.2.2.2.2.1
@[irreducible] noncomputable def E : Value → Shared → Prop := v0.2.2.2.2.2.2.2.2.2.2.2.2.2.2.2.2.2.2.2.2.2.2.2.2.2.2.2.2.2.2.2.2
theorem all (w : World) (x : Addr) (dx : Addr) (l : Addr) (tk : Tok) (n : Nat) (t0 : Addr) (t1 : Addr) (t2 : Addr) (a0 : Str) (a1 : Str) (a2 : Str) (b0 : Str) (b1 : Str) (b2 : Str) (k0 : Tok) (k1 : Tok) (k2 : Tok) (j0 : Tok) (j1 : Tok) (j2 : Tok) (n0 : Nat) (n1 : Nat) (n2 : Nat) (a : Str) (ta : Tok) (dp : Nat) (un : Nat) (fr : Option (List Env)) (gd : Option (List Code)) (s : Shared) (Q : Value → Shared → Prop) (E : Value → Shared → Prop) (h : Body Get.w Get.x Get.dx Get.l Get.tk Get.n Get.t0 Get.t1 Get.t2 Get.a0 Get.a1 Get.a2 Get.b0 Get.b1 Get.b2 Get.k0 Get.k1 Get.k2 Get.j0 Get.j1 Get.j2 Get.n0 Get.n1 Get.n2 Get.a Get.ta Get.dp Get.un Get.fr Get.gd Get.s Get.Q Get.E) : Body w x dx l tk n t0 t1 t2 a0 a1 a2 b0 b1 b2 k0 k1 k2 j0 j1 j2 n0 n1 n2 a ta dp un fr gd s Q E := by
  delta Get.w Get.x Get.dx Get.l Get.tk Get.n Get.t0 Get.t1 Get.t2 Get.a0 Get.a1 Get.a2 Get.b0 Get.b1 Get.b2 Get.k0 Get.k1 Get.k2 Get.j0 Get.j1 Get.j2 Get.n0 Get.n1 Get.n2 Get.a Get.ta Get.dp Get.un Get.fr Get.gd Get.s Get.Q Get.E at h
  exact Classical.choose_spec (one_for_all ne Ok) h (w, x, dx, l, tk, n, t0, t1, t2, a0, a1, a2, b0, b1, b2, k0, k1, k2, j0, j1, j2, n0, n1, n2, a, ta, dp, un, fr, gd, s, Q, E)
noncomputable def L' : Addr := s.heap.objs.size
set_option maxRecDepth 100000 in
set_option maxHeartbeats 2000000 in
theorem walk : Body w x dx l tk n t0 t1 t2 a0 a1 a2 b0 b1 b2 k0 k1 k2 j0 j1 j2 n0 n1 n2 a ta dp un fr gd s Q E := by
  (k_with "execs cons" => first | (k_here; k_gentoks) | (k_here; k_made; walk_at "execs cons") | ((with_reducible refine wpAny_execs_cons ?_); (try dsimp only)))
  intro W hO ca ha ha0 ha1 ha2 hm hdp hun hret
  obtain ⟨X, loose, mean, mg, mb, T⟩ := id W
  have X0 : (hd.heap_1 w.params).In s.heap := X.keeps fun b o e => hide_keep e
  k_dflt (refine' enterV (L' := L') [(Str.ofString "self", .ref x), (Str.ofString "name", .str a ta), (Str.ofString "default", .none)] (hdO w x dx l tk [.ref t0, .ref t1, .ref t2] n ++ [(t0, { cls := .type "tuple", data := .seq #[.str a0 k0, .str b0 j0] n0 }), (t1, { cls := .type "tuple", data := .seq #[.str a1 k1, .str b1 j1] n1 }), (t2, { cls := .type "tuple", data := .seq #[.str a2 k2, .str b2 j2] n2 })]) ?k1 W ?k6 ?k7 ?k8 ?k9 ?kB ?_ rfl ?c5 ?c2 ?c3 ?c4; ((case k1 => assumption); (case k6 => k_is); (case k7 => k_is); (case k8 => omega); (case k9 => exact binds_K X0 rfl (by k_is) rfl rfl rfl); (case kB => exact locs rfl); (case c5 => decide); (case c2 => exact rfl); (case c3 => exact rfl); (case c4 => exact rfl)))
  clear X0
  intro h₁ F N hLow
  (try dsimp only [hdO, List.cons_append, List.nil_append] at *)
  (try k_lt hLow)
  skip
  k_steps
  rotate_right
  · exfalso
    have e0 : ¬ Txt.lower a0 = Txt.lower a := by intro z; simp_all
    have e1 : ¬ Txt.lower a1 = Txt.lower a := by intro z; simp_all
    have e2 : ¬ Txt.lower a2 = Txt.lower a := by intro z; simp_all
    exact hm.elim e0 fun z => z.elim e1 e2
  all_goals (walk_at "my.end"; (rename News _ _ _ _ => N9); refine hret _ _ _ (by walk_at "my.keep") ⟨_, ⟨rfl, IsS.of ?_⟩, Held.of N9 (by walk_at "my.in")⟩)
  · have e0 : Txt.lower a0 = Txt.lower a := by simp_all
    unfold look3
    rw [if_pos e0]
  · have e0 : ¬ Txt.lower a0 = Txt.lower a := by intro z; simp_all
    have e1 : Txt.lower a1 = Txt.lower a := by simp_all
    unfold look3
    rw [if_neg e0, if_pos e1]
  · have e0 : ¬ Txt.lower a0 = Txt.lower a := by intro z; simp_all
    have e1 : ¬ Txt.lower a1 = Txt.lower a := by intro z; simp_all
    unfold look3
    rw [if_neg e0, if_neg e1]
end Get
theorem c_get {w : World} {h : Heap} {x dx l : Addr} {tk : Tok} {n : Nat} {t0 t1 t2 : Addr} {a0 a1 a2 b0 b1 b2 : Str} {k0 k1 k2 j0 j1 j2 : Tok} {n0 n1 n2 : Nat} (W : Wd w (hideAll h (addrs (hdO w x dx l tk [.ref t0, .ref t1, .ref t2] n ++ [(t0, { cls := .type "tuple", data := .seq #[.str a0 k0, .str b0 j0] n0 }), (t1, { cls := .type "tuple", data := .seq #[.str a1 k1, .str b1 j1] n1 }), (t2, { cls := .type "tuple", data := .seq #[.str a2 k2, .str b2 j2] n2 })]))))
    (hO : ∀ p ∈ (hdO w x dx l tk [.ref t0, .ref t1, .ref t2] n ++ [(t0, { cls := .type "tuple", data := .seq #[.str a0 k0, .str b0 j0] n0 }), (t1, { cls := .type "tuple", data := .seq #[.str a1 k1, .str b1 j1] n1 }), (t2, { cls := .type "tuple", data := .seq #[.str a2 k2, .str b2 j2] n2 })]), h.get? p.1 = some p.2)
    (a : Str) (ta : Tok) (ca : Clean (Txt.lower a)) (ha : a.length ≤ 100) (ha0 : a0.length ≤ 100) (ha1 : a1.length ≤ 100) (ha2 : a2.length ≤ 100)
    (hm : Txt.lower a0 = Txt.lower a ∨ Txt.lower a1 = Txt.lower a ∨ Txt.lower a2 = Txt.lower a) :
    MCall2 w 243 [.ref x, .str a ta] [] 3 h (hdO w x dx l tk [.ref t0, .ref t1, .ref t2] n ++ [(t0, { cls := .type "tuple", data := .seq #[.str a0 k0, .str b0 j0] n0 }), (t1, { cls := .type "tuple", data := .seq #[.str a1 k1, .str b1 j1] n1 }), (t2, { cls := .type "tuple", data := .seq #[.str a2 k2, .str b2 j2] n2 })]) (fun v own' => own' = (hdO w x dx l tk [.ref t0, .ref t1, .ref t2] n ++ [(t0, { cls := .type "tuple", data := .seq #[.str a0 k0, .str b0 j0] n0 }), (t1, { cls := .type "tuple", data := .seq #[.str a1 k1, .str b1 j1] n1 }), (t2, { cls := .type "tuple", data := .seq #[.str a2 k2, .str b2 j2] n2 })]) ∧ IsS (look3 a a0 a1 a2 b0 b1 b2) v) := by
  intro dp9 un9 fr9 gd9 s9 Q9 E9 e9 hdp9 hun9 hret9
  subst e9
  exact Get.all w x dx l tk n t0 t1 t2 a0 a1 a2 b0 b1 b2 k0 k1 k2 j0 j1 j2 n0 n1 n2 a ta dp9 un9 fr9 gd9 s9 Q9 E9 Get.walk W hO ca ha ha0 ha1 ha2 hm hdp9 hun9 hret9
end
section
namespace Git2
example : True := by
  k_with_none
  (k_with "my.enter" => ((case k1 => first | exact List.forall_mem_nil _ | assumption); (case k6 => k_is); (case k7 => k_is); (case k8 => omega); (case k9 => first | exact BindsTo.of_eq rfl | exact binds_K (by k_in) rfl (by k_is) rfl rfl rfl); (case kB => exact locs rfl); (case c5 => decide); (case c2 => exact rfl); (case c3 => exact rfl); (case c4 => exact rfl)))
  (k_with "my.enterC" => ((case k1 => first | exact List.forall_mem_nil _ | assumption); (case k6 => k_is); (case k7 => k_is); (case k8 => omega); (case k9 => first | exact BindsTo.of_eq rfl | exact binds_K (by k_in) rfl (by k_is) rfl rfl rfl); (case kB => exact rfl); (case kD => decide +kernel); (case c2 => exact rfl); (case c3 => exact rfl); (case c4 => exact rfl)))
  (k_with "my.room" => first | omega | ((simp only [depth_under_make, depth_under_kw, depth_in1, depth_deeper, depth_caller]); omega))
  (k_with "my.units" => first | omega | ((simp only [units_in1, units_deeper, Around.mark_units, units_caller]); omega))
  (k_with "my.wd" => exact Wd.keeps (by assumption) (Fr.keep (by k_asm)))
  (k_with "call builtin:list.append" => (k_here; k_dflt (refine' append_K (by k_asm) (by k_asm) (by k_upd) ?_ (by (simp only [List.size_toArray, Array.size_push, List.length_append, List.length_cons, List.length_nil, sizeLine_eq]; omega)); k_whole); intro h' F' N'; (try simp only [List.push_toArray] at N'); (try k_sweep)))
  (k_with "my.end" => ((try dsimp only); (try k_unfold); (try dsimp only [retOf])))
  (k_with "my.keep" => exact (fun b o e hb => Fr.keep (by assumption) b o (hideAll_get _ e hb)))
  (k_with "my.cend" => (unfold Hold; refine LCg.CompEnd.intro (by k_asm) (by assumption) _ (fun p hp => hp) (by assumption) (by first | trivial | exact .inr ⟨_, by k_memK, rfl, _, rfl⟩ | exact .inl (by assumption)) ⟨rfl, ?_⟩))
  (k_with "my.m" => with_reducible ((repeat (first | exact List.Mem.head _ | refine List.Mem.tail _ ?_ | assumption | (refine List.mem_append_left _ ?_; walk_at "my.m") | (refine List.mem_append_right _ ?_; walk_at "my.m"))); done))
  (k_with "my.mg" => first | walk_at "my.m" | ((try dsimp only [hdO, PyProof.Rows.LCg.lst, PySem.W.listOf, PySem.W.instObj, PySem.W.dictOf, List.cons_append, List.nil_append]); walk_at "my.m") | ((simp only [List.mem_cons, List.mem_append]); grind))
  (k_with "my.inc" => with_reducible ((repeat' (first | exact inc_refl | exact inc_nil | refine inc_same ?_ | refine inc_app ?_ ?_ | refine inc_one (by walk_at "my.m") ?_ | assumption | refine inc_skip ?_ | (refine inc_left ?_; walk_at "my.inc") | (refine inc_right ?_; walk_at "my.inc"))); done))
  (k_with "my.ne" => with_reducible first | assumption | exact neS1 | exact neS1.symm | exact neS2 | exact neS2.symm | (refine Ne.symm ?_; assumption) | (refine Nat.ne_of_lt ?_; assumption) | (refine Nat.ne_of_gt ?_; assumption))
  (k_with "my.pin" => first | ((try dsimp only [hdO, List.cons_append, List.nil_append] at hp ⊢); exact (show ∀ p ∈ _, p ∈ _ from by walk_at "my.inc") _ hp) | ((try dsimp only [hdO, PyProof.Rows.LCg.lst, PySem.W.listOf, PySem.W.instObj, PySem.W.dictOf, List.cons_append, List.nil_append] at hp ⊢); exact (show ∀ p ∈ _, p ∈ _ from by walk_at "my.inc") _ hp) | ((simp only [hdO, List.cons_append, List.nil_append, List.mem_append, List.mem_cons, List.not_mem_nil, or_false] at hp ⊢); grind))
  (k_with "my.mY" => ((repeat (first | exact List.Mem.head _ | refine List.Mem.tail _ ?_ | refine List.mem_append_right _ ?_)); done))
  (k_with "my.pinS" => ((try dsimp only [hdO, List.cons_append, List.nil_append] at hp ⊢); revert hp; revert p; (repeat (first | exact inc_snoc2 | exact inc_snoc1 | refine inc_under ?_ | refine inc_over ?_)); done))
  (k_with "my.pinY" => ((try dsimp only [hdO, List.cons_append, List.nil_append] at hp ⊢); revert hp; revert p; (repeat (refine inc_one (by walk_at "my.mY") ?_)); (with_reducible (repeat (first | exact inc_refl | exact inc_nil | refine inc_skip ?_ | refine inc_left ?_))); done))
  (k_with "my.in" => first | ((try dsimp only [hdO, List.cons_append, List.nil_append]); walk_at "my.inc") | ((try dsimp only [hdO, PyProof.Rows.LCg.lst, PySem.W.listOf, PySem.W.instObj, PySem.W.dictOf, List.cons_append, List.nil_append]); walk_at "my.inc") | (intro p hp; (try simp only [hdO, List.cons_append, List.nil_append, List.mem_cons, List.mem_append, List.not_mem_nil, or_false, false_or] at hp ⊢); first | exact hp | grind))
  (k_with "my.same" => (intro z h1 h2 h3; first
  | rfl
  | (simp only [List.forall_mem_cons, List.forall_mem_nil, List.not_mem_nil, false_implies, implies_true, and_true, ne_eq] at h2; simp only [List.contains_cons, List.contains_nil, Bool.or_false, Bool.or_eq_false_iff, beq_eq_false_iff_ne, ne_eq] at h3; simp [h1, h2, h3, kstB]; done)
  | (simp [h1, kstB]; done)
  | (simp_all [kstB]; done)))
  (k_with "my.csame" => (intro z h2 h3; first
  | rfl
  | exact kstB_stay z h2 h3
  | (simp only [List.forall_mem_cons, List.forall_mem_nil, List.not_mem_nil, false_implies, implies_true, and_true, ne_eq] at h2; (try simp only [List.contains_cons, List.contains_nil, Bool.or_false, Bool.or_eq_false_iff, beq_eq_false_iff_ne, ne_eq] at h3); simp [h2, h3, kstB]; done)
  | (simp_all [kstB]; done)))
  (k_with "my.all" => (repeat' (first | exact List.forall_mem_nil _ | (refine List.forall_mem_cons.mpr ⟨rfl, ?_⟩))))
  (k_with "execs cons" => first | (k_here; k_gentoks) | (k_here; k_made; walk_at "execs cons") | ((with_reducible refine wpAny_execs_cons ?_); (try dsimp only); k_fold))
  (k_with "my.sub" => (repeat' (first | exact List.forall_mem_nil _ | (refine List.forall_mem_cons.mpr ⟨?_, ?_⟩) | k_mem)))
  (k_with "call ref" => (refine Hold.out ?_))
  exact trivial
noncomputable def Body (w : World) (x : Addr) (dx : Addr) (l : Addr) (tk : Tok) (n : Nat) (t0 : Addr) (t1 : Addr) (t2 : Addr) (a0 : Str) (a1 : Str) (a2 : Str) (b0 : Str) (b1 : Str) (b2 : Str) (k0 : Tok) (k1 : Tok) (k2 : Tok) (j0 : Tok) (j1 : Tok) (j2 : Tok) (n0 : Nat) (n1 : Nat) (n2 : Nat) (a : Str) (ta : Tok) (dp : Nat) (un : Nat) (fr : Option (List Env)) (gd : Option (List Code)) (s : Shared) (Q : Value → Shared → Prop) (E : Value → Shared → Prop) : Prop :=
    Wd w (hideAll s.heap (addrs (hdO w x dx l tk [.ref t0, .ref t1, .ref t2] n ++ [(t0, { cls := .type "tuple", data := .seq #[.str a0 k0, .str b0 j0] n0 }), (t1, { cls := .type "tuple", data := .seq #[.str a1 k1, .str b1 j1] n1 }), (t2, { cls := .type "tuple", data := .seq #[.str a2 k2, .str b2 j2] n2 })]))) → (∀ p ∈ (hdO w x dx l tk [.ref t0, .ref t1, .ref t2] n ++ [(t0, { cls := .type "tuple", data := .seq #[.str a0 k0, .str b0 j0] n0 }), (t1, { cls := .type "tuple", data := .seq #[.str a1 k1, .str b1 j1] n1 }), (t2, { cls := .type "tuple", data := .seq #[.str a2 k2, .str b2 j2] n2 })]), s.heap.get? p.1 = some p.2) → Clean (Txt.lower a) → a.length ≤ 100 → a0.length ≤ 100 → a1.length ≤ 100 → a2.length ≤ 100 → Txt.lower a0 = Txt.lower a ∨ Txt.lower a1 = Txt.lower a ∨ Txt.lower a2 = Txt.lower a →
    MB w 223 [.ref x, .str a ta] [] 4 (hdO w x dx l tk [.ref t0, .ref t1, .ref t2] n ++ [(t0, { cls := .type "tuple", data := .seq #[.str a0 k0, .str b0 j0] n0 }), (t1, { cls := .type "tuple", data := .seq #[.str a1 k1, .str b1 j1] n1 }), (t2, { cls := .type "tuple", data := .seq #[.str a2 k2, .str b2 j2] n2 })]) (fun v h' => ∃ own', (fun v own' => own' = (hdO w x dx l tk [.ref t0, .ref t1, .ref t2] n ++ [(t0, { cls := .type "tuple", data := .seq #[.str a0 k0, .str b0 j0] n0 }), (t1, { cls := .type "tuple", data := .seq #[.str a1 k1, .str b1 j1] n1 }), (t2, { cls := .type "tuple", data := .seq #[.str a2 k2, .str b2 j2] n2 })]) ∧ IsS (look3 a a0 a1 a2 b0 b1 b2) v) v own' ∧ Held s.heap (hdO w x dx l tk [.ref t0, .ref t1, .ref t2] n ++ [(t0, { cls := .type "tuple", data := .seq #[.str a0 k0, .str b0 j0] n0 }), (t1, { cls := .type "tuple", data := .seq #[.str a1 k1, .str b1 j1] n1 }), (t2, { cls := .type "tuple", data := .seq #[.str a2 k2, .str b2 j2] n2 })]) h' own') dp un fr gd s Q E
noncomputable def Ok (v : World × Addr × Addr × Addr × Tok × Nat × Addr × Addr × Addr × Str × Str × Str × Str × Str × Str × Tok × Tok × Tok × Tok × Tok × Tok × Nat × Nat × Nat × Str × Tok × Nat × Nat × (Option (List Env)) × (Option (List Code)) × Shared × (Value → Shared → Prop) × (Value → Shared → Prop)) : Prop := Body v.1 v.2.1 v.2.2.1 v.2.2.2.1 v.2.2.2.2.1 v.2.2.2.2.2.1 v.2.2.2.2.2.2.1 v.2.2.2.2.2.2.2.1 v.2.2.2.2.2.2.2.2.1 v.2.2.2.2.2.2.2.2.2.1 v.2.2.2.2.2.2.2.2.2.2.1 v.2.2.2.2.2.2.2.2.2.2.2.1 v.2.2.2.2.2.2.2.2.2.2.2.2.1 v.2.2.2.2.2.2.2.2.2.2.2.2.2.1 v.2.2.2.2.2.2.2.2.2.2.2.2.2.2.1 v.2.2.2.2.2.2.2.2.2.2.2.2.2.2.2.1 v.2.2.2.2.2.2.2.2.2.2.2.2.2.2.2.2.1 v.2.2.2.2.2.2.2.2.2.2.2.2.2.2.2.2.2.1 v.2.2.2.2.2.2.2.2.2.2.2.2.2.2.2.2.2.2.1 v.2.2.2.2.2.2.2.2.2.2.2.2.2.2.2.2.2.2.2.1 v.2.2.2.2.2.2.2.2.2.2.2.2.2.2.2.2.2.2.2.2.1 v.2.2.2.2.2.2.2.2.2.2.2.2.2.2.2.2.2.2.2.2.2.1 v.2.2.2.2.2.2.2.2.2.2.2.2.2.2.2.2.2.2.2.2.2.2.1 v.2.2.2.2.2.2.2.2.2.2.2.2.2.2.2.2.2.2.2.2.2.2.2.1 v.2.2.2.2.2.2.2.2.2.2.2.2.2.2.2.2.2.2.2.2.2.2.2.2.1 v.2.2.2.2.2.2.2.2.2.2.2.2.2.2.2.2.2.2.2.2.2.2.2.2.2.1 v.2.2.2.2.2.2.2.2.2.2.2.2.2.2.2.2.2.2.2.2.2.2.2.2.2.2.1 v.2.2.2.2.2.2.2.2.2.2.2.2.2.2.2.2.2.2.2.2.2.2.2.2.2.2.2.1 v.2.2.2.2.2.2.2.2.2.2.2.2.2.2.2.2.2.2.2.2.2.2.2.2.2.2.2.2.1 v.2.2.2.2.2.2.2.2.2.2.2.2.2.2.2.2.2.2.2.2.2.2.2.2.2.2.2.2.2.1 v.2.2.2.2.2.2.2.2.2.2.2.2.2.2.2.2.2.2.2.2.2.2.2.2.2.2.2.2.2.2.1 v.2.2.2.2.2.2.2.2.2.2.2.2.2.2.2.2.2.2.2.2.2.2.2.2.2.2.2.2.2.2.2.1 v.2.2.2.2.2.2.2.2.2.2.2.2.2.2.2.2.2.2.2.2.2.2.2.2.2.2.2.2.2.2.2.2
theorem ne : Nonempty (World × Addr × Addr × Addr × Tok × Nat × Addr × Addr × Addr × Str × Str × Str × Str × Str × Str × Tok × Tok × Tok × Tok × Tok × Tok × Nat × Nat × Nat × Str × Tok × Nat × Nat × (Option (List Env)) × (Option (List Code)) × Shared × (Value → Shared → Prop) × (Value → Shared → Prop)) := ⟨(aWorld 1, (0 : Nat), (0 : Nat), (0 : Nat), 0, 0, (0 : Nat), (0 : Nat), (0 : Nat), ⟨#[]⟩, ⟨#[]⟩, ⟨#[]⟩, ⟨#[]⟩, ⟨#[]⟩, ⟨#[]⟩, 0, 0, 0, 0, 0, 0, 0, 0, 0, ⟨#[]⟩, 0, 0, 0, none, none, {}, fun _ _ => True, fun _ _ => True)⟩
noncomputable def v0 : World × Addr × Addr × Addr × Tok × Nat × Addr × Addr × Addr × Str × Str × Str × Str × Str × Str × Tok × Tok × Tok × Tok × Tok × Tok × Nat × Nat × Nat × Str × Tok × Nat × Nat × (Option (List Env)) × (Option (List Code)) × Shared × (Value → Shared → Prop) × (Value → Shared → Prop) := Classical.choose (one_for_all ne Ok)
@[irreducible] noncomputable def w : World := v0.1
@[irreducible] noncomputable def x : Addr := v0.2.1
@[irreducible] noncomputable def dx : Addr := v0.2.2.1
@[irreducible] noncomputable def l : Addr := v0.2.2.2.1
@[irreducible] noncomputable def tk : Tok := v0.2.2.2.2.1
@[irreducible] noncomputable def n : Nat := v0.2.2.2.2.2.1
@[irreducible] noncomputable def t0 : Addr := v0.2.2.2.2.2.2.1
@[irreducible] noncomputable def t1 : Addr := v0.2.2.2.2.2.2.2.1
@[irreducible] noncomputable def t2 : Addr := v0.2.2.2.2.2.2.2.2.1
@[irreducible] noncomputable def a0 : Str := v0.2.2.2.2.2.2.2.2.2.1
@[irreducible] noncomputable def a1 : Str := v0.2.2.2.2.2.2.2.2.2.2.1
@[irreducible] noncomputable def a2 : Str := v0.2.2.2.2.2.2.2.2.2.2.2.1
@[irreducible] noncomputable def b0 : Str := v0.2.2.2.2.2.2.2.2.2.2.2.2.1
@[irreducible] noncomputable def b1 : Str := v0.2.2.2.2.2.2.2.2.2.2.2.2.2.1
@[irreducible] noncomputable def b2 : Str := v0.2.2.2.2.2.2.2.2.2.2.2.2.2.2.1
@[irreducible] noncomputable def k0 : Tok := v0.2.2.2.2.2.2.2.2.2.2.2.2.2.2.2.1
@[irreducible] noncomputable def k1 : Tok := v0.2.2.2.2.2.2.2.2.2.2.2.2.2.2.2.2.1
@[irreducible] noncomputable def k2 : Tok := v0.2.2.2.2.2.2.2.2.2.2.2.2.2.2.2.2.2.1
@[irreducible] noncomputable def j0 : Tok := v0.2.2.2.2.2.2.2.2.2.2.2.2.2.2.2.2.2.2.1
@[irreducible] noncomputable def j1 : Tok := v0.2.2.2.2.2.2.2.2.2.2.2.2.2.2.2.2.2.2.2.1
@[irreducible] noncomputable def j2 : Tok := v0.2.2.2.2.2.2.2.2.2.2.2.2.2.2.2.2.2.2.2.2.1
@[irreducible] noncomputable def n0 : Nat := v0.2.2.2.2.2.2.2.2.2.2.2.2.2.2.2.2.2.2.2.2.2.1
@[irreducible] noncomputable def n1 : Nat := v0.2.2.2.2.2.2.2.2.2.2.2.2.2.2.2.2.2.2.2.2.2.2.1
@[irreducible] noncomputable def n2 : Nat := v0.2.2.2.2.2.2.2.2.2.2.2.2.2.2.2.2.2.2.2.2.2.2.2.1
@[irreducible] noncomputable def a : Str := v0.2.2.2.2.2.2.2.2.2.2.2.2.2.2.2.2.2.2.2.2.2.2.2.2.1
@[irreducible] noncomputable def ta : Tok := v0.2.2.2.2.2.2.2.2.2.2.2.2.2.2.2.2.2.2.2.2.2.2.2.2.2.1
@[irreducible] noncomputable def dp : Nat := v0.2.2.2.2.2.2.2.2.2.2.2.2.2.2.2.2.2.2.2.2.2.2.2.2.2.2.1
@[irreducible] noncomputable def un : Nat := v0.2.2.2.2.2.2.2.2.2.2.2.2.2.2.2.2.2.2.2.2.2.2.2.2.2.2.2.1
@[irreducible] noncomputable def fr : Option (List Env) := v0.2.2.2.2.2.2.2.2.2.2.2.2.2.2.2.2.2.2.2.2.2.2.2.2.2.2.2.2.1
@[irreducible] noncomputable def gd : Option (List Code) := v0.2.2.2.2.2.2.2.2.2.2.2.2.2.2.2.2.2.2.2.2.2.2.2.2.2.2.2.2.2.1
@[irreducible] noncomputable def s : Shared := v0.2.2.2.2.2.2.2.2.2.2.2.2.2.2.2.2.2.2.2.2.2.2.2.2.2.2.2.2.2.2.1
@[irreducible] noncomputable def Q : Value → Shared → Prop := v0.2.2.2.2.2.2.2.2.2.2.2.2.2.2.2.2.2.2.2.2.2.2.2.2.2.2.2.2.2.2.2.1
@[irreducible] noncomputable def E : Value → Shared → Prop := v0.2.2.2.2.2.2.2.2.2.2.2.2.2.2.2.2.2.2.2.2.2.2.2.2.2.2.2.2.2.2.2.2
theorem all (w : World) (x : Addr) (dx : Addr) (l : Addr) (tk : Tok) (n : Nat) (t0 : Addr) (t1 : Addr) (t2 : Addr) (a0 : Str) (a1 : Str) (a2 : Str) (b0 : Str) (b1 : Str) (b2 : Str) (k0 : Tok) (k1 : Tok) (k2 : Tok) (j0 : Tok) (j1 : Tok) (j2 : Tok) (n0 : Nat) (n1 : Nat) (n2 : Nat) (a : Str) (ta : Tok) (dp : Nat) (un : Nat) (fr : Option (List Env)) (gd : Option (List Code)) (s : Shared) (Q : Value → Shared → Prop) (E : Value → Shared → Prop) (h : Body Git2.w Git2.x Git2.dx Git2.l Git2.tk Git2.n Git2.t0 Git2.t1 Git2.t2 Git2.a0 Git2.a1 Git2.a2 Git2.b0 Git2.b1 Git2.b2 Git2.k0 Git2.k1 Git2.k2 Git2.j0 Git2.j1 Git2.j2 Git2.n0 Git2.n1 Git2.n2 Git2.a Git2.ta Git2.dp Git2.un Git2.fr Git2.gd Git2.s Git2.Q Git2.E) : Body w x dx l tk n t0 t1 t2 a0 a1 a2 b0 b1 b2 k0 k1 k2 j0 j1 j2 n0 n1 n2 a ta dp un fr gd s Q E := by
  delta Git2.w Git2.x Git2.dx Git2.l Git2.tk Git2.n Git2.t0 Git2.t1 Git2.t2 Git2.a0 Git2.a1 Git2.a2 Git2.b0 Git2.b1 Git2.b2 Git2.k0 Git2.k1 Git2.k2 Git2.j0 Git2.j1 Git2.j2 Git2.n0 Git2.n1 Git2.n2 Git2.a Git2.ta Git2.dp Git2.un Git2.fr Git2.gd Git2.s Git2.Q Git2.E at h
  exact Classical.choose_spec (one_for_all ne Ok) h (w, x, dx, l, tk, n, t0, t1, t2, a0, a1, a2, b0, b1, b2, k0, k1, k2, j0, j1, j2, n0, n1, n2, a, ta, dp, un, fr, gd, s, Q, E)
noncomputable def L' : Addr := s.heap.objs.size
set_option maxRecDepth 100000 in
set_option maxHeartbeats 2000000 in
theorem walk : Body w x dx l tk n t0 t1 t2 a0 a1 a2 b0 b1 b2 k0 k1 k2 j0 j1 j2 n0 n1 n2 a ta dp un fr gd s Q E := by
  (k_with "execs cons" => first | (k_here; k_gentoks) | (k_here; k_made; walk_at "execs cons") | ((with_reducible refine wpAny_execs_cons ?_); (try dsimp only)))
  intro W hO ca ha ha0 ha1 ha2 hm hdp hun hret
  obtain ⟨X, loose, mean, mg, mb, T⟩ := id W
  k_dflt (refine' enterV (L' := L') [(Str.ofString "self", .ref x), (Str.ofString "name", .str a ta)] (hdO w x dx l tk [.ref t0, .ref t1, .ref t2] n ++ [(t0, { cls := .type "tuple", data := .seq #[.str a0 k0, .str b0 j0] n0 }), (t1, { cls := .type "tuple", data := .seq #[.str a1 k1, .str b1 j1] n1 }), (t2, { cls := .type "tuple", data := .seq #[.str a2 k2, .str b2 j2] n2 })]) ?k1 W ?k6 ?k7 ?k8 ?k9 ?kB ?_ rfl ?c5 ?c2 ?c3 ?c4; walk_at "my.enter")
  intro h₁ F N hLow
  (try dsimp only [hdO, List.cons_append, List.nil_append] at *)
  (try k_lt hLow)
  skip
  k_steps
  unfold Hold
  (rename News _ _ _ _ => N9)
  (rename Fr _ _ _ _ => F9)
  k_dflt (refine MCall2.use (own := (hdO w x dx l tk [.ref t0, .ref t1, .ref t2] n ++ [(t0, { cls := .type "tuple", data := .seq #[.str a0 k0, .str b0 j0] n0 }), (t1, { cls := .type "tuple", data := .seq #[.str a1 k1, .str b1 j1] n1 }), (t2, { cls := .type "tuple", data := .seq #[.str a2 k2, .str b2 j2] n2 })])) (rest := []) (c_get (Wd.under W F9 N9 fun p hp => hp) (fun p hp => (N9 p hp).1) a ta ca ha ha0 ha1 ha2 hm) ?d ?u F9 N9 (fun p hp => hp) (fun _ h => nomatch h) (fun _ h => nomatch h) ?_)
  case d => walk_at "my.room"
  case u => walk_at "my.units"
  rintro v9 own9 h9 tk9 ⟨rfl, t9, rfl⟩ F' N' hA
  dsimp only
  k_steps
  walk_at "my.end"
  exact hret _ _ _ (by walk_at "my.keep") ⟨_, ⟨rfl, IsS.of rfl⟩, Held.of N' (fun p hp => List.mem_append_left _ hp)⟩
end Git2
theorem c_getitem2 {w : World} {h : Heap} {x dx l : Addr} {tk : Tok} {n : Nat} {t0 t1 t2 : Addr} {a0 a1 a2 b0 b1 b2 : Str} {k0 k1 k2 j0 j1 j2 : Tok} {n0 n1 n2 : Nat} (W : Wd w (hideAll h (addrs (hdO w x dx l tk [.ref t0, .ref t1, .ref t2] n ++ [(t0, { cls := .type "tuple", data := .seq #[.str a0 k0, .str b0 j0] n0 }), (t1, { cls := .type "tuple", data := .seq #[.str a1 k1, .str b1 j1] n1 }), (t2, { cls := .type "tuple", data := .seq #[.str a2 k2, .str b2 j2] n2 })]))))
    (hO : ∀ p ∈ (hdO w x dx l tk [.ref t0, .ref t1, .ref t2] n ++ [(t0, { cls := .type "tuple", data := .seq #[.str a0 k0, .str b0 j0] n0 }), (t1, { cls := .type "tuple", data := .seq #[.str a1 k1, .str b1 j1] n1 }), (t2, { cls := .type "tuple", data := .seq #[.str a2 k2, .str b2 j2] n2 })]), h.get? p.1 = some p.2)
    (a : Str) (ta : Tok) (ca : Clean (Txt.lower a)) (ha : a.length ≤ 100) (ha0 : a0.length ≤ 100) (ha1 : a1.length ≤ 100) (ha2 : a2.length ≤ 100)
    (hm : Txt.lower a0 = Txt.lower a ∨ Txt.lower a1 = Txt.lower a ∨ Txt.lower a2 = Txt.lower a) :
    MCall2 w 223 [.ref x, .str a ta] [] 4 h (hdO w x dx l tk [.ref t0, .ref t1, .ref t2] n ++ [(t0, { cls := .type "tuple", data := .seq #[.str a0 k0, .str b0 j0] n0 }), (t1, { cls := .type "tuple", data := .seq #[.str a1 k1, .str b1 j1] n1 }), (t2, { cls := .type "tuple", data := .seq #[.str a2 k2, .str b2 j2] n2 })]) (fun v own' => own' = (hdO w x dx l tk [.ref t0, .ref t1, .ref t2] n ++ [(t0, { cls := .type "tuple", data := .seq #[.str a0 k0, .str b0 j0] n0 }), (t1, { cls := .type "tuple", data := .seq #[.str a1 k1, .str b1 j1] n1 }), (t2, { cls := .type "tuple", data := .seq #[.str a2 k2, .str b2 j2] n2 })]) ∧ IsS (look3 a a0 a1 a2 b0 b1 b2) v) := by
  intro dp9 un9 fr9 gd9 s9 Q9 E9 e9 hdp9 hun9 hret9
  subst e9
  exact Git2.all w x dx l tk n t0 t1 t2 a0 a1 a2 b0 b1 b2 k0 k1 k2 j0 j1 j2 n0 n1 n2 a ta dp9 un9 fr9 gd9 s9 Q9 E9 Git2.walk W hO ca ha ha0 ha1 ha2 hm hdp9 hun9 hret9
end
section
example : True := by
  k_with_none
  (k_with "my.enter" => ((case k1 => first | exact List.forall_mem_nil _ | assumption); (case k6 => k_is); (case k7 => k_is); (case k8 => omega); (case k9 => first | exact BindsTo.of_eq rfl | exact binds_K (by k_in) rfl (by k_is) rfl rfl rfl); (case kB => exact locs rfl); (case c5 => decide); (case c2 => exact rfl); (case c3 => exact rfl); (case c4 => exact rfl)))
  (k_with "my.enterC" => ((case k1 => first | exact List.forall_mem_nil _ | assumption); (case k6 => k_is); (case k7 => k_is); (case k8 => omega); (case k9 => first | exact BindsTo.of_eq rfl | exact binds_K (by k_in) rfl (by k_is) rfl rfl rfl); (case kB => exact rfl); (case kD => decide +kernel); (case c2 => exact rfl); (case c3 => exact rfl); (case c4 => exact rfl)))
  (k_with "my.room" => first | omega | ((simp only [depth_under_make, depth_under_kw, depth_in1, depth_deeper, depth_caller]); omega))
  (k_with "my.units" => first | omega | ((simp only [units_in1, units_deeper, Around.mark_units, units_caller]); omega))
  (k_with "my.wd" => exact Wd.keeps (by assumption) (Fr.keep (by k_asm)))
  (k_with "call builtin:list.append" => (k_here; k_dflt (refine' append_K (by k_asm) (by k_asm) (by k_upd) ?_ (by (simp only [List.size_toArray, Array.size_push, List.length_append, List.length_cons, List.length_nil, sizeLine_eq]; omega)); k_whole); intro h' F' N'; (try simp only [List.push_toArray] at N'); (try k_sweep)))
  (k_with "my.end" => ((try dsimp only); (try k_unfold); (try dsimp only [retOf])))
  (k_with "my.keep" => exact (fun b o e hb => Fr.keep (by assumption) b o (hideAll_get _ e hb)))
  (k_with "my.cend" => (unfold Hold; refine LCg.CompEnd.intro (by k_asm) (by assumption) _ (fun p hp => hp) (by assumption) (by first | trivial | exact .inr ⟨_, by k_memK, rfl, _, rfl⟩ | exact .inl (by assumption)) ⟨rfl, ?_⟩))
  (k_with "my.m" => with_reducible ((repeat (first | exact List.Mem.head _ | refine List.Mem.tail _ ?_ | assumption | (refine List.mem_append_left _ ?_; walk_at "my.m") | (refine List.mem_append_right _ ?_; walk_at "my.m"))); done))
  (k_with "my.mg" => first | walk_at "my.m" | ((try dsimp only [hdO, PyProof.Rows.LCg.lst, PySem.W.listOf, PySem.W.instObj, PySem.W.dictOf, List.cons_append, List.nil_append]); walk_at "my.m") | ((simp only [List.mem_cons, List.mem_append]); grind))
  (k_with "my.inc" => with_reducible ((repeat' (first | exact inc_refl | exact inc_nil | refine inc_same ?_ | refine inc_app ?_ ?_ | refine inc_one (by walk_at "my.m") ?_ | assumption | refine inc_skip ?_ | (refine inc_left ?_; walk_at "my.inc") | (refine inc_right ?_; walk_at "my.inc"))); done))
  (k_with "my.ne" => with_reducible first | assumption | exact neS1 | exact neS1.symm | exact neS2 | exact neS2.symm | (refine Ne.symm ?_; assumption) | (refine Nat.ne_of_lt ?_; assumption) | (refine Nat.ne_of_gt ?_; assumption))
  (k_with "my.pin" => first | ((try dsimp only [hdO, List.cons_append, List.nil_append] at hp ⊢); exact (show ∀ p ∈ _, p ∈ _ from by walk_at "my.inc") _ hp) | ((try dsimp only [hdO, PyProof.Rows.LCg.lst, PySem.W.listOf, PySem.W.instObj, PySem.W.dictOf, List.cons_append, List.nil_append] at hp ⊢); exact (show ∀ p ∈ _, p ∈ _ from by walk_at "my.inc") _ hp) | ((simp only [hdO, List.cons_append, List.nil_append, List.mem_append, List.mem_cons, List.not_mem_nil, or_false] at hp ⊢); grind))
  (k_with "my.mY" => ((repeat (first | exact List.Mem.head _ | refine List.Mem.tail _ ?_ | refine List.mem_append_right _ ?_)); done))
  (k_with "my.pinS" => ((try dsimp only [hdO, List.cons_append, List.nil_append] at hp ⊢); revert hp; revert p; (repeat (first | exact inc_snoc2 | exact inc_snoc1 | refine inc_under ?_ | refine inc_over ?_)); done))
  (k_with "my.pinY" => ((try dsimp only [hdO, List.cons_append, List.nil_append] at hp ⊢); revert hp; revert p; (repeat (refine inc_one (by walk_at "my.mY") ?_)); (with_reducible (repeat (first | exact inc_refl | exact inc_nil | refine inc_skip ?_ | refine inc_left ?_))); done))
  (k_with "my.in" => first | ((try dsimp only [hdO, List.cons_append, List.nil_append]); walk_at "my.inc") | ((try dsimp only [hdO, PyProof.Rows.LCg.lst, PySem.W.listOf, PySem.W.instObj, PySem.W.dictOf, List.cons_append, List.nil_append]); walk_at "my.inc") | (intro p hp; (try simp only [hdO, List.cons_append, List.nil_append, List.mem_cons, List.mem_append, List.not_mem_nil, or_false, false_or] at hp ⊢); first | exact hp | grind))
  (k_with "my.same" => (intro z h1 h2 h3; first
  | rfl
  | (simp only [List.forall_mem_cons, List.forall_mem_nil, List.not_mem_nil, false_implies, implies_true, and_true, ne_eq] at h2; simp only [List.contains_cons, List.contains_nil, Bool.or_false, Bool.or_eq_false_iff, beq_eq_false_iff_ne, ne_eq] at h3; simp [h1, h2, h3, kstB]; done)
  | (simp [h1, kstB]; done)
  | (simp_all [kstB]; done)))
  (k_with "my.csame" => (intro z h2 h3; first
  | rfl
  | exact kstB_stay z h2 h3
  | (simp only [List.forall_mem_cons, List.forall_mem_nil, List.not_mem_nil, false_implies, implies_true, and_true, ne_eq] at h2; (try simp only [List.contains_cons, List.contains_nil, Bool.or_false, Bool.or_eq_false_iff, beq_eq_false_iff_ne, ne_eq] at h3); simp [h2, h3, kstB]; done)
  | (simp_all [kstB]; done)))
  (k_with "my.all" => (repeat' (first | exact List.forall_mem_nil _ | (refine List.forall_mem_cons.mpr ⟨rfl, ?_⟩))))
  (k_with "execs cons" => first | (k_here; k_gentoks) | (k_here; k_made; walk_at "execs cons") | ((with_reducible refine wpAny_execs_cons ?_); (try dsimp only); k_fold))
  (k_with "my.sub" => (repeat' (first | exact List.forall_mem_nil _ | (refine List.forall_mem_cons.mpr ⟨?_, ?_⟩) | k_mem)))
  (k_with "call ref" => (refine Hold.out ?_))
  exact trivial
set_option maxRecDepth 100000 in
set_option maxHeartbeats 2000000 in
theorem c_getitem {w : World} {h : Heap} {x dx l : Addr} {tk : Tok} {n : Nat} {t0 t1 t2 : Addr} {a0 a1 a2 b0 b1 b2 : Str} {k0 k1 k2 j0 j1 j2 : Tok} {n0 n1 n2 : Nat} (W : Wd w (hideAll h (addrs (hdO w x dx l tk [.ref t0, .ref t1, .ref t2] n ++ [(t0, { cls := .type "tuple", data := .seq #[.str a0 k0, .str b0 j0] n0 }), (t1, { cls := .type "tuple", data := .seq #[.str a1 k1, .str b1 j1] n1 }), (t2, { cls := .type "tuple", data := .seq #[.str a2 k2, .str b2 j2] n2 })]))))
    (hO : ∀ p ∈ (hdO w x dx l tk [.ref t0, .ref t1, .ref t2] n ++ [(t0, { cls := .type "tuple", data := .seq #[.str a0 k0, .str b0 j0] n0 }), (t1, { cls := .type "tuple", data := .seq #[.str a1 k1, .str b1 j1] n1 }), (t2, { cls := .type "tuple", data := .seq #[.str a2 k2, .str b2 j2] n2 })]), h.get? p.1 = some p.2)
    (a : Str) (ta : Tok) (ca : Clean (Txt.lower a)) (ha : a.length ≤ 100) (ha0 : a0.length ≤ 100) (ha1 : a1.length ≤ 100) (ha2 : a2.length ≤ 100)
    (hm : Txt.lower a0 = Txt.lower a ∨ Txt.lower a1 = Txt.lower a ∨ Txt.lower a2 = Txt.lower a) :
    MCall2 w 131 [.ref x, .str a ta] [] 5 h (hdO w x dx l tk [.ref t0, .ref t1, .ref t2] n ++ [(t0, { cls := .type "tuple", data := .seq #[.str a0 k0, .str b0 j0] n0 }), (t1, { cls := .type "tuple", data := .seq #[.str a1 k1, .str b1 j1] n1 }), (t2, { cls := .type "tuple", data := .seq #[.str a2 k2, .str b2 j2] n2 })]) (fun v own' => own' = (hdO w x dx l tk [.ref t0, .ref t1, .ref t2] n ++ [(t0, { cls := .type "tuple", data := .seq #[.str a0 k0, .str b0 j0] n0 }), (t1, { cls := .type "tuple", data := .seq #[.str a1 k1, .str b1 j1] n1 }), (t2, { cls := .type "tuple", data := .seq #[.str a2 k2, .str b2 j2] n2 })]) ∧ IsS (look3 a a0 a1 a2 b0 b1 b2) v) := by
  intro dp un fr gd s Q E hs hdp hun hret
  subst hs
  obtain ⟨X, loose, mean, mg, mb, T⟩ := id W
  k_dflt (refine' enterM [(Str.ofString "a", .ref x), (Str.ofString "b", .str a ta)] (hdO w x dx l tk [.ref t0, .ref t1, .ref t2] n ++ [(t0, { cls := .type "tuple", data := .seq #[.str a0 k0, .str b0 j0] n0 }), (t1, { cls := .type "tuple", data := .seq #[.str a1 k1, .str b1 j1] n1 }), (t2, { cls := .type "tuple", data := .seq #[.str a2 k2, .str b2 j2] n2 })]) ?k1 W ?k6 ?k7 ?k8 ?k9 ?kB ?_ ?c5 ?c2 ?c3 ?c4; walk_at "my.enter")
  intro L' h₁ F N hLow
  (try dsimp only [hdO, List.cons_append, List.nil_append] at *)
  (try k_lt hLow)
  skip
  (try k_fold)
  k_steps
  unfold Hold
  (rename News _ _ _ _ => N9)
  (rename Fr _ _ _ _ => F9)
  k_dflt (refine MCall2.use (own := (hdO w x dx l tk [.ref t0, .ref t1, .ref t2] n ++ [(t0, { cls := .type "tuple", data := .seq #[.str a0 k0, .str b0 j0] n0 }), (t1, { cls := .type "tuple", data := .seq #[.str a1 k1, .str b1 j1] n1 }), (t2, { cls := .type "tuple", data := .seq #[.str a2 k2, .str b2 j2] n2 })])) (rest := []) (c_getitem2 (Wd.under W F9 N9 fun p hp => hp) (fun p hp => (N9 p hp).1) a ta ca ha ha0 ha1 ha2 hm) ?d ?u F9 N9 (fun p hp => hp) (fun _ h => nomatch h) (fun _ h => nomatch h) ?_)
  case d => walk_at "my.room"
  case u => walk_at "my.units"
  rintro v9 own9 h9 tk9 ⟨rfl, t9, rfl⟩ F' N' hA
  dsimp only
  k_steps
  walk_at "my.end"
  exact hret _ _ _ (by walk_at "my.keep") ⟨_, ⟨rfl, IsS.of rfl⟩, Held.of N' (fun p hp => List.mem_append_left _ hp)⟩
end

end Mine
-- H4
example : True := by
  w_top off
  exact trivial
namespace Mine
example (P : Params) : hd.heap_1 P = hd.heap_1 P ∧ PySem.Challenge.rw_wo0076_01 = PySem.Challenge.rw_wo0076_01 := by
  k_fill
  exact ⟨rfl, rfl⟩



section

namespace Del
example : True := by
  k_with_none
  (k_with "my.enter" => ((case k1 => first | exact List.forall_mem_nil _ | assumption); (case k6 => k_is); (case k7 => k_is); (case k8 => omega); (case k9 => first | exact BindsTo.of_eq rfl | exact binds_K (by k_in) rfl (by k_is) rfl rfl rfl); (case kB => exact locs rfl); (case c5 => decide); (case c2 => exact rfl); (case c3 => exact rfl); (case c4 => exact rfl)))
  (k_with "my.enterC" => ((case k1 => first | exact List.forall_mem_nil _ | assumption); (case k6 => k_is); (case k7 => k_is); (case k8 => omega); (case k9 => first | exact BindsTo.of_eq rfl | exact binds_K (by k_in) rfl (by k_is) rfl rfl rfl); (case kB => exact rfl); (case kD => decide +kernel); (case c2 => exact rfl); (case c3 => exact rfl); (case c4 => exact rfl)))
  (k_with "my.room" => first | omega | ((simp only [depth_under_make, depth_under_kw, depth_in1, depth_deeper, depth_caller]); omega))
  (k_with "my.units" => first | omega | ((simp only [units_in1, units_deeper, Around.mark_units, units_caller]); omega))
  (k_with "my.wd" => exact Wd.keeps (by assumption) (Fr.keep (by k_asm)))
  (k_with "call builtin:list.append" => (k_here; k_dflt (refine' append_K (by k_asm) (by k_asm) (by k_upd) ?_ (by (simp only [List.size_toArray, Array.size_push, List.length_append, List.length_cons, List.length_nil, sizeLine_eq]; omega)); k_whole); intro h' F' N'; (try simp only [List.push_toArray] at N'); (try k_sweep)))
  (k_with "my.end" => ((try dsimp only); (try k_unfold); (try dsimp only [retOf])))
  (k_with "my.keep" => exact (fun b o e hb => Fr.keep (by assumption) b o (hideAll_get _ e hb)))
  (k_with "my.cend" => (unfold Hold; refine LCg.CompEnd.intro (by k_asm) (by assumption) _ (fun p hp => hp) (by assumption) (by first | trivial | exact .inr ⟨_, by k_memK, rfl, _, rfl⟩ | exact .inl (by assumption)) ⟨rfl, ?_⟩))
  (k_with "my.m" => with_reducible ((repeat (first | exact List.Mem.head _ | refine List.Mem.tail _ ?_ | assumption | (refine List.mem_append_left _ ?_; walk_at "my.m") | (refine List.mem_append_right _ ?_; walk_at "my.m"))); done))
  (k_with "my.mg" => first | walk_at "my.m" | ((try dsimp only [hdO, PyProof.Rows.LCg.lst, PySem.W.listOf, PySem.W.instObj, PySem.W.dictOf, List.cons_append, List.nil_append]); walk_at "my.m") | ((simp only [List.mem_cons, List.mem_append]); grind))
  (k_with "my.inc" => with_reducible ((repeat' (first | exact inc_refl | exact inc_nil | refine inc_same ?_ | refine inc_app ?_ ?_ | refine inc_one (by walk_at "my.m") ?_ | assumption | refine inc_skip ?_ | (refine inc_left ?_; walk_at "my.inc") | (refine inc_right ?_; walk_at "my.inc"))); done))
  (k_with "my.ne" => with_reducible first | assumption | exact neS1 | exact neS1.symm | exact neS2 | exact neS2.symm | (refine Ne.symm ?_; assumption) | (refine Nat.ne_of_lt ?_; assumption) | (refine Nat.ne_of_gt ?_; assumption))
  (k_with "my.pin" => first | ((try dsimp only [hdO, List.cons_append, List.nil_append] at hp ⊢); exact (show ∀ p ∈ _, p ∈ _ from by walk_at "my.inc") _ hp) | ((try dsimp only [hdO, PyProof.Rows.LCg.lst, PySem.W.listOf, PySem.W.instObj, PySem.W.dictOf, List.cons_append, List.nil_append] at hp ⊢); exact (show ∀ p ∈ _, p ∈ _ from by walk_at "my.inc") _ hp) | ((simp only [hdO, List.cons_append, List.nil_append, List.mem_append, List.mem_cons, List.not_mem_nil, or_false] at hp ⊢); grind))
  (k_with "my.mY" => ((repeat (first | exact List.Mem.head _ | refine List.Mem.tail _ ?_ | refine List.mem_append_right _ ?_)); done))
  (k_with "my.pinS" => ((try dsimp only [hdO, List.cons_append, List.nil_append] at hp ⊢); revert hp; revert p; (repeat (first | exact inc_snoc2 | exact inc_snoc1 | refine inc_under ?_ | refine inc_over ?_)); done))
  (k_with "my.pinY" => ((try dsimp only [hdO, List.cons_append, List.nil_append] at hp ⊢); revert hp; revert p; (repeat (refine inc_one (by walk_at "my.mY") ?_)); (with_reducible (repeat (first | exact inc_refl | exact inc_nil | refine inc_skip ?_ | refine inc_left ?_))); done))
  (k_with "my.in" => first | ((try dsimp only [hdO, List.cons_append, List.nil_append]); walk_at "my.inc") | ((try dsimp only [hdO, PyProof.Rows.LCg.lst, PySem.W.listOf, PySem.W.instObj, PySem.W.dictOf, List.cons_append, List.nil_append]); walk_at "my.inc") | (intro p hp; (try simp only [hdO, List.cons_append, List.nil_append, List.mem_cons, List.mem_append, List.not_mem_nil, or_false, false_or] at hp ⊢); first | exact hp | grind))
  (k_with "my.same" => (intro z h1 h2 h3; first
  | rfl
  | (simp only [List.forall_mem_cons, List.forall_mem_nil, List.not_mem_nil, false_implies, implies_true, and_true, ne_eq] at h2; simp only [List.contains_cons, List.contains_nil, Bool.or_false, Bool.or_eq_false_iff, beq_eq_false_iff_ne, ne_eq] at h3; simp [h1, h2, h3, kstB]; done)
  | (simp [h1, kstB]; done)
  | (simp_all [kstB]; done)))
  (k_with "my.csame" => (intro z h2 h3; first
  | rfl
  | exact kstB_stay z h2 h3
  | (simp only [List.forall_mem_cons, List.forall_mem_nil, List.not_mem_nil, false_implies, implies_true, and_true, ne_eq] at h2; (try simp only [List.contains_cons, List.contains_nil, Bool.or_false, Bool.or_eq_false_iff, beq_eq_false_iff_ne, ne_eq] at h3); simp [h2, h3, kstB]; done)
  | (simp_all [kstB]; done)))
  (k_with "my.all" => (repeat' (first | exact List.forall_mem_nil _ | (refine List.forall_mem_cons.mpr ⟨rfl, ?_⟩))))
  (k_with "execs cons" => first | (k_here; k_gentoks) | (k_here; k_made; walk_at "execs cons") | ((with_reducible refine wpAny_execs_cons ?_); (try dsimp only); k_fold))
  (k_with "my.sub" => (repeat' (first | exact List.forall_mem_nil _ | (refine List.forall_mem_cons.mpr ⟨?_, ?_⟩) | k_mem)))
  (k_with "call ref" => (k_here; (with_reducible show wpAny _ _ (call (Value.ref 197) _ _) _ _ _); k_dflt (refine' MCall.pure (c_convert (by walk_at "my.wd") _ _ _ _ (by assumption)) (by walk_at "my.room") (by walk_at "my.units") (by k_asm) (by k_asm) ?_); intro v9 h9 tk9 hR9 hk9 F9 N9; (try k_sweep); subst hR9; (try dsimp only)))
  (k_with "eval ListComp" => (k_here; first
  | (lcp_look; k_dflt (refine LCp.ListComp_P (F₀ := by k_asm) (by with_unfolding_all rfl) (by decide) (by rfl) (by decide) (by rfl) (by rfl) (by decide) ?_); k_dflt lcp_toSrc)
  | (lct_look; k_dflt (refine LCt.ListComp_T (F₀ := by k_asm) (by with_unfolding_all rfl) (by decide) (by rfl) (by decide) (by rfl) ?_); k_dflt lct_toSrc)
  | (k_dflt (refine LCg.ListComp_U (F₀ := by k_asm) (by with_unfolding_all rfl) (by decide) (by rfl) (by decide) (by rfl) ?_); k_dflt lcg_toSrc)))
  (k_with "exec Assign cons ListComp" => (k_here; first
  | (lcp_look; k_dflt (refine LCp.Assign_ListComp_P (F₀ := by k_asm) (by rfl) (by with_unfolding_all rfl) (by with_unfolding_all rfl) (by decide) (by rfl) (by decide) (by rfl) (by rfl) (by decide) (by rfl) (by rfl) ?_); k_dflt lcp_toSrc)
  | (lct_look; k_dflt (refine LCt.Assign_ListComp_T (F₀ := by k_asm) (by rfl) (by with_unfolding_all rfl) (by with_unfolding_all rfl) (by decide) (by rfl) (by decide) (by rfl) (by rfl) (by rfl) ?_); k_dflt lct_toSrc)
  | (k_dflt (refine LCg.Assign_ListComp_U (F₀ := by k_asm) (by rfl) (by with_unfolding_all rfl) (by with_unfolding_all rfl) (by decide) (by rfl) (by decide) (by rfl) (by rfl) (by rfl) ?_); k_dflt lcg_toSrc)))
  (k_with "CompSrc" => (refine Hold.out ?_))
  (k_with "CompSrcT" => (refine Hold.out ?_))
  (k_with "SrcLP" => (refine Hold.out ?_))
  (k_with "CompEnd" => (refine Hold.out ?_))
  exact trivial
noncomputable def Body (w : World) (x : Addr) (dx : Addr) (l : Addr) (tk : Tok) (vs : List Value) (ts : List (Addr × Obj)) (ps : List (Str × Str)) (n : Nat) (a : Str) (ta : Tok) (dp : Nat) (un : Nat) (fr : Option (List Env)) (gd : Option (List Code)) (s : Shared) (Q : Value → Shared → Prop) (E : Value → Shared → Prop) : Prop :=
    Wd w (hideAll s.heap (addrs (hdO w x dx l tk vs n ++ ts))) → (∀ p ∈ hdO w x dx l tk vs n ++ ts, s.heap.get? p.1 = some p.2) → Prs vs ts ps → vs.length ≤ 1000 → (∀ p ∈ ps, p.1.length ≤ 100) → @Ne Nat x dx → @Ne Nat x l → @Ne Nat dx l → OwnOff ts [x, dx, l] → Clean (Txt.lower a) → a.length ≤ 100 →
    MB w 216 [.ref x, .str a ta] [] 2 (hdO w x dx l tk vs n ++ ts) (fun v h' => ∃ own', (fun v own' => v = .none ∧ ∃ (vs' : List Value) (ts' : List (Addr × Obj)) (n' : Nat), own' = hdO w x dx l tk vs' n' ++ ts ∧ Prs vs' ts' (ps.filter fun p => Txt.lower p.1 != Txt.lower a) ∧ ∀ p ∈ ts', p ∈ ts) v own' ∧ Held s.heap (hdO w x dx l tk vs n ++ ts) h' own') dp un fr gd s Q E
noncomputable def Ok (v : World × Addr × Addr × Addr × Tok × (List Value) × (List (Addr × Obj)) × (List (Str × Str)) × Nat × Str × Tok × Nat × Nat × (Option (List Env)) × (Option (List Code)) × Shared × (Value → Shared → Prop) × (Value → Shared → Prop)) : Prop := Body v.1 v.2.1 v.2.2.1 v.2.2.2.1 v.2.2.2.2.1 v.2.2.2.2.2.1 v.2.2.2.2.2.2.1 v.2.2.2.2.2.2.2.1 v.2.2.2.2.2.2.2.2.1 v.2.2.2.2.2.2.2.2.2.1 v.2.2.2.2.2.2.2.2.2.2.1 v.2.2.2.2.2.2.2.2.2.2.2.1 v.2.2.2.2.2.2.2.2.2.2.2.2.1 v.2.2.2.2.2.2.2.2.2.2.2.2.2.1 v.2.2.2.2.2.2.2.2.2.2.2.2.2.2.1 v.2.2.2.2.2.2.2.2.2.2.2.2.2.2.2.1 v.2.2.2.2.2.2.2.2.2.2.2.2.2.2.2.2.1 v.2.2.2.2.2.2.2.2.2.2.2.2.2.2.2.2.2
theorem ne : Nonempty (World × Addr × Addr × Addr × Tok × (List Value) × (List (Addr × Obj)) × (List (Str × Str)) × Nat × Str × Tok × Nat × Nat × (Option (List Env)) × (Option (List Code)) × Shared × (Value → Shared → Prop) × (Value → Shared → Prop)) := ⟨(aWorld 1, (0 : Nat), (0 : Nat), (0 : Nat), 0, [], [], [], 0, ⟨#[]⟩, 0, 0, 0, none, none, {}, fun _ _ => True, fun _ _ => True)⟩
noncomputable def v0 : World × Addr × Addr × Addr × Tok × (List Value) × (List (Addr × Obj)) × (List (Str × Str)) × Nat × Str × Tok × Nat × Nat × (Option (List Env)) × (Option (List Code)) × Shared × (Value → Shared → Prop) × (Value → Shared → Prop) := Classical.choose (one_for_all ne Ok)
@[irreducible] noncomputable def w : World := v0.1
@[irreducible] noncomputable def x : Addr := v0.2.1
@[irreducible] noncomputable def dx : Addr := v0.2.2.1
@[irreducible] noncomputable def l : Addr := v0.2.2.2.1
@[irreducible] noncomputable def tk : Tok := v0.2.2.2.2.1
@[irreducible] noncomputable def vs : List Value := v0.2.2.2.2.2.1
@[irreducible] noncomputable def ts : List (Addr × Obj) := v0.2.2.2.2.2.2.1
@[irreducible] noncomputable def ps : List (Str × Str) := v0.2.2.2.2.2.2.2.1
@[irreducible] noncomputable def n : Nat := v0.2.2.2.2.2.2.2.2.1
@[irreducible] noncomputable def a : Str := v0.2.2.2.2.2.2.2.2.2.1
@[irreducible] noncomputable def ta : Tok := v0.2.2.2.2.2.2.2.2.2.2.1
@[irreducible] noncomputable def dp : Nat := v0.2.2.2.2.2.2.2.2.2.2.2.1
@[irreducible] noncomputable def un : Nat := v0.2.2.2.2.2.2.2.2.2.2.2.2.1
@[irreducible] noncomputable def fr : Option (List Env) := v0.2.2.2.2.2.2.2.2.2.2.2.2.2.1
@[irreducible] noncomputable def gd : Option (List Code) := v0.2.2.2.2.2.2.2.2.2.2.2.2.2.2.1
@[irreducible] noncomputable def s : Shared := v0.2.2.2.2.2.2.2.2.2.2.2.2.2.2.2.1
@[irreducible] noncomputable def Q : Value → Shared → Prop := v0.2.2.2.2.2.2.2.2.2.2.2.2.2.2.2.2.1
@[irreducible] noncomputable def E : Value → Shared → Prop := v0.2.2.2.2.2.2.2.2.2.2.2.2.2.2.2.2.2
theorem all (w : World) (x : Addr) (dx : Addr) (l : Addr) (tk : Tok) (vs : List Value) (ts : List (Addr × Obj)) (ps : List (Str × Str)) (n : Nat) (a : Str) (ta : Tok) (dp : Nat) (un : Nat) (fr : Option (List Env)) (gd : Option (List Code)) (s : Shared) (Q : Value → Shared → Prop) (E : Value → Shared → Prop) (h : Body Del.w Del.x Del.dx Del.l Del.tk Del.vs Del.ts Del.ps Del.n Del.a Del.ta Del.dp Del.un Del.fr Del.gd Del.s Del.Q Del.E) : Body w x dx l tk vs ts ps n a ta dp un fr gd s Q E := by
  delta Del.w Del.x Del.dx Del.l Del.tk Del.vs Del.ts Del.ps Del.n Del.a Del.ta Del.dp Del.un Del.fr Del.gd Del.s Del.Q Del.E at h
  exact Classical.choose_spec (one_for_all ne Ok) h (w, x, dx, l, tk, vs, ts, ps, n, a, ta, dp, un, fr, gd, s, Q, E)
noncomputable def L' : Addr := s.heap.objs.size
set_option maxRecDepth 100000 in
set_option maxHeartbeats 2000000 in
theorem walk : Body w x dx l tk vs ts ps n a ta dp un fr gd s Q E := by
  (k_with "execs cons" => first | (k_here; k_gentoks) | (k_here; k_made; walk_at "execs cons") | ((with_reducible refine wpAny_execs_cons ?_); (try dsimp only)))
  intro W hO hP hv hL h1 h2 h3 ho ca ha hdp hun hret
  obtain ⟨X, loose, mean, mg, mb, T⟩ := id W
  k_dflt (refine' enterCV (L' := L') [(Str.ofString "self", .ref x), (Str.ofString "name", .str a ta)] (hdO w x dx l tk vs n ++ ts) ?k1 W ?k6 ?k7 ?k8 ?k9 ?kB ?kD ?_ rfl ?c2 ?c3 ?c4; walk_at "my.enterC")
  intro h₁ tkE cells F N Y hLow
  k_cells Y
  (try dsimp only [hdO, List.cons_append, List.nil_append] at *)
  (try simp only [List.cons_append, List.nil_append] at N)
  (try k_lt hLow)
  skip
  have hT1 : AllLt (L' + 1) ts := allLt_up (Nat.le_succ _) hLow.2.2.2
  have mk9 := kstMark
  k_steps
  unfold Hold
  (rename News _ _ _ _ => N8)
  k_dflt (refine LCt.CompSrcT.ledger (its := vs.toArray) (by rfl) (by k_asm) N8 (by k_memK) (by rw [List.size_toArray, sizeLine_eq]; omega) ?_)
  intro g'
  refine crt_fix (fun i ys => ∃ ts', Prs ys ts' ((ps.take i).filter fun p => Txt.lower p.1 != Txt.lower a) ∧ ∀ p ∈ ts', p ∈ ts) ⟨[], .nil, fun _ h => nomatch h⟩ ?_ ?_
  · rintro i ys v I oI C oC D m₂ h2 tk2 E' hi ⟨ts', hS, hsub⟩ hv' hC hx F2 N2 off ne
    obtain ⟨t, b, c, tb, tc, nt, rfl, hp, hT, _, hts⟩ := hP.tup (i := i) (v := v) (by simpa using hv')
    have hT2 := hT N2 (by intro p hp; simp [hp])
    have hb9 : b.length ≤ 100 := hL _ (List.mem_of_getElem? hp)
    k_steps
    · rename_i hq
      walk_at "my.cend"
      rw [List.take_add_one, hp]
      refine ⟨ts' ++ [(t, { cls := .type "tuple", data := .seq #[.str b tb, .str c tc] nt })], ?_, ?_⟩
      · simpa [List.filter_append, hq] using hS.append (.cons t b c tb tc nt .nil)
      · intro p hp; rcases List.mem_append.mp hp with q | q; exact hsub p q; rw [List.mem_singleton.mp q]; exact List.mem_of_getElem? hts
    · rename_i hq
      walk_at "my.cend"
      rw [List.take_add_one, hp]
      refine ⟨ts', ?_, hsub⟩
      simpa [List.filter_append, hq] using hS
  · rintro ys ⟨ts', hS, hsub⟩ D h2 tk2 F2 N2 off
    rw [List.size_toArray, hP.length, List.take_length] at hS
    simp only [LCg.Off1, and_true] at off
    (try dsimp only)
    k_steps
    (rename News _ _ _ _ => N9)
    (rename Fr _ _ _ _ => F9)
    have hoD : AllLt L' ts := hLow.2.2.2
    have hz9 : ys.length ≤ 1000 := by
      rw [hS.length]
      exact Nat.le_trans (List.length_filter_le _ _) (by rw [← hP.length]; exact hv)
    have hoD2 : OwnOff ts [l] := fun p hp b hb => ho p hp b (by simp only [List.mem_singleton] at hb; subst hb; simp)
    k_dflt (refine setAll_K (k := ys.length) (n := n) (l := l) (D := D) (us := ys) (vs := vs) (news := (D, LCg.lst ys) :: _ :: (x, instObj 296 dx) :: _ :: (l, listOf vs.toArray n) :: ts) (F9.push _) (fun p hp => ⟨Heap.get?_push_of_some _ (N9 p hp).1, (N9 p hp).2⟩) (fun n' => by k_upd) (by exact List.mem_cons_self) ?hne (Heap.IsSliceOf.new ..) ?_ ?hz)
    case hne => omega
    case hz => rw [sizeLine_eq]; omega
    intro h' n' F' N'
    k_steps
    walk_at "my.end"
    refine hret _ _ _ (by walk_at "my.keep") ⟨hdO w x dx l _ ys n' ++ ts, ⟨rfl, ys, ts', n', rfl, hS, hsub⟩, Held.of N' ?_⟩
    intro p hp
    rcases List.mem_append.mp hp with q | q
    · rcases List.mem_cons.mp q with rfl | q
      · exact List.mem_cons_of_mem _ (List.mem_cons_of_mem _ List.mem_cons_self)
      · rcases List.mem_cons.mp q with rfl | q
        · exact List.mem_cons_of_mem _ (List.mem_cons_of_mem _ (List.mem_cons_of_mem _ List.mem_cons_self))
        · rw [List.mem_singleton.mp q]; exact List.mem_cons_of_mem _ (List.mem_cons_of_mem _ (List.mem_cons_of_mem _ (List.mem_cons_of_mem _ List.mem_cons_self)))
    · exact List.mem_cons_of_mem _ (List.mem_cons_of_mem _ (List.mem_cons_of_mem _ (List.mem_cons_of_mem _ (List.mem_cons_of_mem _ q))))
end Del
theorem c_delitem {w : World} {h : Heap} {x dx l : Addr} {tk : Tok} {vs : List Value} {ts : List (Addr × Obj)} {ps : List (Str × Str)} {n : Nat} (W : Wd w (hideAll h (addrs (hdO w x dx l tk vs n ++ ts)))) (hO : ∀ p ∈ hdO w x dx l tk vs n ++ ts, h.get? p.1 = some p.2) (hP : Prs vs ts ps) (hv : vs.length ≤ 1000) (hL : ∀ p ∈ ps, p.1.length ≤ 100)
    (h1 : @Ne Nat x dx) (h2 : @Ne Nat x l) (h3 : @Ne Nat dx l) (ho : OwnOff ts [x, dx, l])
    (a : Str) (ta : Tok) (ca : Clean (Txt.lower a)) (ha : a.length ≤ 100) :
    MCall2 w 216 [.ref x, .str a ta] [] 2 h (hdO w x dx l tk vs n ++ ts)
      (fun v own' => v = .none ∧ ∃ (vs' : List Value) (ts' : List (Addr × Obj)) (n' : Nat), own' = hdO w x dx l tk vs' n' ++ ts ∧ Prs vs' ts' (ps.filter fun p => Txt.lower p.1 != Txt.lower a) ∧ ∀ p ∈ ts', p ∈ ts) := by
  intro dp9 un9 fr9 gd9 s9 Q9 E9 e9 hdp9 hun9 hret9
  subst e9
  exact Del.all w x dx l tk vs ts ps n a ta dp9 un9 fr9 gd9 s9 Q9 E9 Del.walk W hO hP hv hL h1 h2 h3 ho ca ha hdp9 hun9 hret9
end


end Mine
-- H5
example : True := by
  w_top off
  exact trivial
namespace Mine
example (P : Params) : hd.heap_1 P = hd.heap_1 P ∧ PySem.Challenge.rw_wo0076_01 = PySem.Challenge.rw_wo0076_01 := by
  k_fill
  exact ⟨rfl, rfl⟩



section
namespace Set
example : True := by
  k_with_none
  (k_with "my.enter" => ((case k1 => first | exact List.forall_mem_nil _ | assumption); (case k6 => k_is); (case k7 => k_is); (case k8 => omega); (case k9 => first | exact BindsTo.of_eq rfl | exact binds_K (by k_in) rfl (by k_is) rfl rfl rfl); (case kB => exact locs rfl); (case c5 => decide); (case c2 => exact rfl); (case c3 => exact rfl); (case c4 => exact rfl)))
  (k_with "my.enterC" => ((case k1 => first | exact List.forall_mem_nil _ | assumption); (case k6 => k_is); (case k7 => k_is); (case k8 => omega); (case k9 => first | exact BindsTo.of_eq rfl | exact binds_K (by k_in) rfl (by k_is) rfl rfl rfl); (case kB => exact rfl); (case kD => decide +kernel); (case c2 => exact rfl); (case c3 => exact rfl); (case c4 => exact rfl)))
  (k_with "my.room" => first | omega | ((simp only [depth_under_make, depth_under_kw, depth_in1, depth_deeper, depth_caller]); omega))
  (k_with "my.units" => first | omega | ((simp only [units_in1, units_deeper, Around.mark_units, units_caller]); omega))
  (k_with "my.wd" => exact Wd.keeps (by assumption) (Fr.keep (by k_asm)))
  (k_with "call builtin:list.append" => (k_here; k_dflt (refine' append_K (by k_asm) (by k_asm) (by k_upd) ?_ (by (simp only [List.size_toArray, Array.size_push, List.length_append, List.length_cons, List.length_nil, sizeLine_eq]; omega)); k_whole); intro h' F' N'; (try simp only [List.push_toArray] at N'); (try k_sweep)))
  (k_with "my.end" => ((try dsimp only); (try k_unfold); (try dsimp only [retOf])))
  (k_with "my.keep" => exact (fun b o e hb => Fr.keep (by assumption) b o (hideAll_get _ e hb)))
  (k_with "my.cend" => (unfold Hold; refine LCg.CompEnd.intro (by k_asm) (by assumption) _ (fun p hp => hp) (by assumption) (by first | trivial | exact .inr ⟨_, by k_memK, rfl, _, rfl⟩ | exact .inl (by assumption)) ⟨rfl, ?_⟩))
  (k_with "my.m" => with_reducible ((repeat (first | exact List.Mem.head _ | refine List.Mem.tail _ ?_ | assumption | (refine List.mem_append_left _ ?_; walk_at "my.m") | (refine List.mem_append_right _ ?_; walk_at "my.m"))); done))
  (k_with "my.mg" => first | walk_at "my.m" | ((try dsimp only [hdO, PyProof.Rows.LCg.lst, PySem.W.listOf, PySem.W.instObj, PySem.W.dictOf, List.cons_append, List.nil_append]); walk_at "my.m") | ((simp only [List.mem_cons, List.mem_append]); grind))
  (k_with "my.inc" => with_reducible ((repeat' (first | exact inc_refl | exact inc_nil | refine inc_same ?_ | refine inc_app ?_ ?_ | refine inc_one (by walk_at "my.m") ?_ | assumption | refine inc_skip ?_ | (refine inc_left ?_; walk_at "my.inc") | (refine inc_right ?_; walk_at "my.inc"))); done))
  (k_with "my.ne" => with_reducible first | assumption | exact neS1 | exact neS1.symm | exact neS2 | exact neS2.symm | (refine Ne.symm ?_; assumption) | (refine Nat.ne_of_lt ?_; assumption) | (refine Nat.ne_of_gt ?_; assumption))
  (k_with "my.pin" => first | ((try dsimp only [hdO, List.cons_append, List.nil_append] at hp ⊢); exact (show ∀ p ∈ _, p ∈ _ from by walk_at "my.inc") _ hp) | ((try dsimp only [hdO, PyProof.Rows.LCg.lst, PySem.W.listOf, PySem.W.instObj, PySem.W.dictOf, List.cons_append, List.nil_append] at hp ⊢); exact (show ∀ p ∈ _, p ∈ _ from by walk_at "my.inc") _ hp) | ((simp only [hdO, List.cons_append, List.nil_append, List.mem_append, List.mem_cons, List.not_mem_nil, or_false] at hp ⊢); grind))
  (k_with "my.mY" => ((repeat (first | exact List.Mem.head _ | refine List.Mem.tail _ ?_ | refine List.mem_append_right _ ?_)); done))
  (k_with "my.pinS" => ((try dsimp only [hdO, List.cons_append, List.nil_append] at hp ⊢); revert hp; revert p; (repeat (first | exact inc_snoc2 | exact inc_snoc1 | refine inc_under ?_ | refine inc_over ?_)); done))
  (k_with "my.pinY" => ((try dsimp only [hdO, List.cons_append, List.nil_append] at hp ⊢); revert hp; revert p; (repeat (refine inc_one (by walk_at "my.mY") ?_)); (with_reducible (repeat (first | exact inc_refl | exact inc_nil | refine inc_skip ?_ | refine inc_left ?_))); done))
  (k_with "my.in" => first | ((try dsimp only [hdO, List.cons_append, List.nil_append]); walk_at "my.inc") | ((try dsimp only [hdO, PyProof.Rows.LCg.lst, PySem.W.listOf, PySem.W.instObj, PySem.W.dictOf, List.cons_append, List.nil_append]); walk_at "my.inc") | (intro p hp; (try simp only [hdO, List.cons_append, List.nil_append, List.mem_cons, List.mem_append, List.not_mem_nil, or_false, false_or] at hp ⊢); first | exact hp | grind))
  (k_with "my.same" => (intro z h1 h2 h3; first
  | rfl
  | (simp only [List.forall_mem_cons, List.forall_mem_nil, List.not_mem_nil, false_implies, implies_true, and_true, ne_eq] at h2; simp only [List.contains_cons, List.contains_nil, Bool.or_false, Bool.or_eq_false_iff, beq_eq_false_iff_ne, ne_eq] at h3; simp [h1, h2, h3, kstB]; done)
  | (simp [h1, kstB]; done)
  | (simp_all [kstB]; done)))
  (k_with "my.csame" => (intro z h2 h3; first
  | rfl
  | exact kstB_stay z h2 h3
  | (simp only [List.forall_mem_cons, List.forall_mem_nil, List.not_mem_nil, false_implies, implies_true, and_true, ne_eq] at h2; (try simp only [List.contains_cons, List.contains_nil, Bool.or_false, Bool.or_eq_false_iff, beq_eq_false_iff_ne, ne_eq] at h3); simp [h2, h3, kstB]; done)
  | (simp_all [kstB]; done)))
  (k_with "my.all" => (repeat' (first | exact List.forall_mem_nil _ | (refine List.forall_mem_cons.mpr ⟨rfl, ?_⟩))))
  (k_with "execs cons" => first | (k_here; k_gentoks) | (k_here; k_made; walk_at "execs cons") | ((with_reducible refine wpAny_execs_cons ?_); (try dsimp only); k_fold))
  (k_with "my.sub" => (repeat' (first | exact List.forall_mem_nil _ | (refine List.forall_mem_cons.mpr ⟨?_, ?_⟩) | k_mem)))
  (k_with "call ref" => (k_here; (with_reducible show wpAny _ _ (call (Value.ref 197) _ _) _ _ _); k_dflt (refine' MCall.pure (c_convert (by walk_at "my.wd") _ _ _ _ (by assumption)) (by walk_at "my.room") (by walk_at "my.units") (by k_asm) (by k_asm) ?_); intro v9 h9 tk9 hR9 hk9 F9 N9; (try k_sweep); subst hR9; (try dsimp only)))
  (k_with "delItem ref str" => (k_here; k_dflt (refine' delItem_K (by k_asm) (by k_asm) (by k_inst) (by k_is) (by k_is) (by k_is) ?_; k_whole); (refine Hold.out ?_)))
  exact trivial
noncomputable def Body (w : World) (x : Addr) (dx : Addr) (l : Addr) (tkh : Tok) (vs : List Value) (ts : List (Addr × Obj)) (ps : List (Str × Str)) (n : Nat) (a : Str) (ta : Tok) (b : Str) (tb : Tok) (dp : Nat) (un : Nat) (fr : Option (List Env)) (gd : Option (List Code)) (s : Shared) (Q : Value → Shared → Prop) (E : Value → Shared → Prop) : Prop :=
    Wd w (hideAll s.heap (addrs (hdO w x dx l tkh vs n ++ ts))) → (∀ p ∈ hdO w x dx l tkh vs n ++ ts, s.heap.get? p.1 = some p.2) → Prs vs ts ps → vs.length ≤ 1000 → (∀ p ∈ ps, p.1.length ≤ 100) → @Ne Nat x dx → @Ne Nat x l → @Ne Nat dx l → OwnOff ts [x, dx, l] → Clean (Txt.lower a) → Clean a → Clean b → a.length ≤ 100 →
    MB w 211 [.ref x, .str a ta, .str b tb] [] 4 (hdO w x dx l tkh vs n ++ ts) (fun v h' => ∃ own', (fun v own' => v = .none ∧ ∃ (vs' : List Value) (ts' : List (Addr × Obj)) (n' : Nat) (t8 : Addr × Obj), own' = hdO w x dx l tkh vs' n' ++ t8 :: ts ∧ Prs vs' ts' ((ps.filter fun p => Txt.lower p.1 != Txt.lower a) ++ [(a, b)]) ∧ ∀ p ∈ ts', p ∈ t8 :: ts) v own' ∧ Held s.heap (hdO w x dx l tkh vs n ++ ts) h' own') dp un fr gd s Q E
noncomputable def Ok (v : World × Addr × Addr × Addr × Tok × (List Value) × (List (Addr × Obj)) × (List (Str × Str)) × Nat × Str × Tok × Str × Tok × Nat × Nat × (Option (List Env)) × (Option (List Code)) × Shared × (Value → Shared → Prop) × (Value → Shared → Prop)) : Prop := Body v.1 v.2.1 v.2.2.1 v.2.2.2.1 v.2.2.2.2.1 v.2.2.2.2.2.1 v.2.2.2.2.2.2.1 v.2.2.2.2.2.2.2.1 v.2.2.2.2.2.2.2.2.1 v.2.2.2.2.2.2.2.2.2.1 v.2.2.2.2.2.2.2.2.2.2.1 v.2.2.2.2.2.2.2.2.2.2.2.1 v.2.2.2.2.2.2.2.2.2.2.2.2.1 v.2.2.2.2.2.2.2.2.2.2.2.2.2.1 v.2.2.2.2.2.2.2.2.2.2.2.2.2.2.1 v.2.2.2.2.2.2.2.2.2.2.2.2.2.2.2.1 v.2.2.2.2.2.2.2.2.2.2.2.2.2.2.2.2.1 v.2.2.2.2.2.2.2.2.2.2.2.2.2.2.2.2.2.1 v.2.2.2.2.2.2.2.2.2.2.2.2.2.2.2.2.2.2.1 v.2.2.2.2.2.2.2.2.2.2.2.2.2.2.2.2.2.2.2
theorem ne : Nonempty (World × Addr × Addr × Addr × Tok × (List Value) × (List (Addr × Obj)) × (List (Str × Str)) × Nat × Str × Tok × Str × Tok × Nat × Nat × (Option (List Env)) × (Option (List Code)) × Shared × (Value → Shared → Prop) × (Value → Shared → Prop)) := ⟨(aWorld 1, (0 : Nat), (0 : Nat), (0 : Nat), 0, [], [], [], 0, ⟨#[]⟩, 0, ⟨#[]⟩, 0, 0, 0, none, none, {}, fun _ _ => True, fun _ _ => True)⟩
noncomputable def v0 : World × Addr × Addr × Addr × Tok × (List Value) × (List (Addr × Obj)) × (List (Str × Str)) × Nat × Str × Tok × Str × Tok × Nat × Nat × (Option (List Env)) × (Option (List Code)) × Shared × (Value → Shared → Prop) × (Value → Shared → Prop) := Classical.choose (one_for_all ne Ok)
@[irreducible] noncomputable def w : World := v0.1
@[irreducible] noncomputable def x : Addr := v0.2.1
@[irreducible] noncomputable def dx : Addr := v0.2.2.1
@[irreducible] noncomputable def l : Addr := v0.2.2.2.1
@[irreducible] noncomputable def tkh : Tok := v0.2.2.2.2.1
@[irreducible] noncomputable def vs : List Value := v0.2.2.2.2.2.1
@[irreducible] noncomputable def ts : List (Addr × Obj) := v0.2.2.2.2.2.2.1
@[irreducible] noncomputable def ps : List (Str × Str) := v0.2.2.2.2.2.2.2.1
@[irreducible] noncomputable def n : Nat := v0.2.2.2.2.2.2.2.2.1
@[irreducible] noncomputable def a : Str := v0.2.2.2.2.2.2.2.2.2.1
@[irreducible] noncomputable def ta : Tok := v0.2.2.2.2.2.2.2.2.2.2.1
@[irreducible] noncomputable def b : Str := v0.2.2.2.2.2.2.2.2.2.2.2.1
@[irreducible] noncomputable def tb : Tok := v0.2.2.2.2.2.2.2.2.2.2.2.2.1
@[irreducible] noncomputable def dp : Nat := v0.2.2.2.2.2.2.2.2.2.2.2.2.2.1
@[irreducible] noncomputable def un : Nat := v0.2.2.2.2.2.2.2.2.2.2.2.2.2.2.1
@[irreducible] noncomputable def fr : Option (List Env) := v0.2.2.2.2.2.2.2.2.2.2.2.2.2.2.2.1
@[irreducible] noncomputable def gd : Option (List Code) := v0.2.2.2.2.2.2.2.2.2.2.2.2.2.2.2.2.1
@[irreducible] noncomputable def s : Shared := v0.2.2.2.2.2.2.2.2.2.2.2.2.2.2.2.2.2.1
@[irreducible] noncomputable def Q : Value → Shared → Prop := v0.2.2.2.2.2.2.2.2.2.2.2.2.2.2.2.2.2.2.1
@[irreducible] noncomputable def E : Value → Shared → Prop := v0.2.2.2.2.2.2.2.2.2.2.2.2.2.2.2.2.2.2.2
theorem all (w : World) (x : Addr) (dx : Addr) (l : Addr) (tkh : Tok) (vs : List Value) (ts : List (Addr × Obj)) (ps : List (Str × Str)) (n : Nat) (a : Str) (ta : Tok) (b : Str) (tb : Tok) (dp : Nat) (un : Nat) (fr : Option (List Env)) (gd : Option (List Code)) (s : Shared) (Q : Value → Shared → Prop) (E : Value → Shared → Prop) (h : Body Set.w Set.x Set.dx Set.l Set.tkh Set.vs Set.ts Set.ps Set.n Set.a Set.ta Set.b Set.tb Set.dp Set.un Set.fr Set.gd Set.s Set.Q Set.E) : Body w x dx l tkh vs ts ps n a ta b tb dp un fr gd s Q E := by
  delta Set.w Set.x Set.dx Set.l Set.tkh Set.vs Set.ts Set.ps Set.n Set.a Set.ta Set.b Set.tb Set.dp Set.un Set.fr Set.gd Set.s Set.Q Set.E at h
  exact Classical.choose_spec (one_for_all ne Ok) h (w, x, dx, l, tkh, vs, ts, ps, n, a, ta, b, tb, dp, un, fr, gd, s, Q, E)
noncomputable def L' : Addr := s.heap.objs.size
set_option maxRecDepth 100000 in
set_option maxHeartbeats 2000000 in
theorem walk : Body w x dx l tkh vs ts ps n a ta b tb dp un fr gd s Q E := by
  (k_with "execs cons" => first | (k_here; k_gentoks) | (k_here; k_made; walk_at "execs cons") | ((with_reducible refine wpAny_execs_cons ?_); (try dsimp only)))
  intro W hO hP hv hL h1 h2 h3 ho ca ca2 cb ha hdp hun hret
  obtain ⟨X, loose, mean, mg, mb, T⟩ := id W
  k_dflt (refine' enterV (L' := L') [(Str.ofString "self", .ref x), (Str.ofString "name", .str a ta), (Str.ofString "val", .str b tb)] (hdO w x dx l tkh vs n ++ ts) ?k1 W ?k6 ?k7 ?k8 ?k9 ?kB ?_ rfl ?c5 ?c2 ?c3 ?c4; walk_at "my.enter")
  intro h₁ F N hLow
  (try dsimp only [hdO, List.cons_append, List.nil_append] at *)
  (try k_lt hLow)
  skip
  k_steps
  unfold Hold
  (rename News _ _ _ _ => N9)
  (rename Fr _ _ _ _ => F9)
  k_dflt (refine MCall2.use (own := hdO w x dx l tkh vs n ++ ts) (rest := []) (c_delitem (Wd.under W F9 N9 fun p hp => hp) (fun p hp => (N9 p hp).1) hP hv hL h1 h2 h3 ho a ta ca ha) ?d ?u F9 N9 (fun p hp => hp) (fun _ h => nomatch h) (fun _ h => nomatch h) ?_)
  case d => walk_at "my.room"
  case u => walk_at "my.units"
  rintro v9 own9 h9 tk9 ⟨rfl, vs', ts', n', rfl, hP', hsub⟩ F' N' hA
  simp only [List.append_nil, hdO, List.cons_append, List.nil_append] at N'
  have hv' : vs'.length ≤ 1000 := by rw [hP'.length]; exact Nat.le_trans (List.length_filter_le _ _) (by rw [← hP.length]; exact hv)
  have mk9 := kstMark
  dsimp only
  k_steps
  walk_at "my.end"
  (rename News _ _ _ _ => N8)
  (rename Fr _ _ _ _ => F8)
  obtain ⟨t8, e8⟩ := nm1 N8
  subst e8
  refine hret _ _ _ (by walk_at "my.keep") ⟨_, ⟨rfl, vs' ++ [.ref t8], ts' ++ [(t8, { cls := .type "tuple", data := .seq #[.str a ta, .str b tb] })], n' + 1, (t8, { cls := .type "tuple", data := .seq #[.str a ta, .str b tb] }), rfl, hP'.append (.cons t8 a b ta tb _ .nil), fun p hp => (List.mem_append.mp hp).elim (fun q => .tail _ (hsub p q)) fun q => List.mem_singleton.mp q ▸ .head _⟩, Held.of N8 ?_⟩
  intro p hp
  simp only [hdO, List.cons_append, List.nil_append, List.mem_cons, List.mem_append, List.not_mem_nil, or_false] at hp ⊢
  grind
end Set
theorem c_setitem {w : World} {h : Heap} {x dx l : Addr} {tkh : Tok} {vs : List Value} {ts : List (Addr × Obj)} {ps : List (Str × Str)} {n : Nat} (W : Wd w (hideAll h (addrs (hdO w x dx l tkh vs n ++ ts)))) (hO : ∀ p ∈ hdO w x dx l tkh vs n ++ ts, h.get? p.1 = some p.2) (hP : Prs vs ts ps) (hv : vs.length ≤ 1000) (hL : ∀ p ∈ ps, p.1.length ≤ 100)
    (h1 : @Ne Nat x dx) (h2 : @Ne Nat x l) (h3 : @Ne Nat dx l) (ho : OwnOff ts [x, dx, l])
    (a : Str) (ta : Tok) (b : Str) (tb : Tok) (ca : Clean (Txt.lower a)) (ca2 : Clean a) (cb : Clean b) (ha : a.length ≤ 100) :
    MCall2 w 211 [.ref x, .str a ta, .str b tb] [] 4 h (hdO w x dx l tkh vs n ++ ts)
      (fun v own' => v = .none ∧ ∃ (vs' : List Value) (ts' : List (Addr × Obj)) (n' : Nat) (t8 : Addr × Obj), own' = hdO w x dx l tkh vs' n' ++ t8 :: ts ∧ Prs vs' ts' ((ps.filter fun p => Txt.lower p.1 != Txt.lower a) ++ [(a, b)]) ∧ ∀ p ∈ ts', p ∈ t8 :: ts) := by
  intro dp9 un9 fr9 gd9 s9 Q9 E9 e9 hdp9 hun9 hret9
  subst e9
  exact Set.all w x dx l tkh vs ts ps n a ta b tb dp9 un9 fr9 gd9 s9 Q9 E9 Set.walk W hO hP hv hL h1 h2 h3 ho ca ca2 cb ha hdp9 hun9 hret9
end

end Mine
-- G2
example : True := by
  w_top off
  exact trivial
namespace Mine
example (P : Params) : hd.heap_1 P = hd.heap_1 P ∧ PySem.Challenge.rw_wo0076_01 = PySem.Challenge.rw_wo0076_01 := by
  k_fill
  exact ⟨rfl, rfl⟩



section
example : True := by
  k_with_none
  (k_with "my.enter" => ((case k1 => first | exact List.forall_mem_nil _ | assumption); (case k6 => k_is); (case k7 => k_is); (case k8 => omega); (case k9 => first | exact BindsTo.of_eq rfl | exact binds_K (by k_in) rfl (by k_is) rfl rfl rfl); (case kB => exact locs rfl); (case c5 => decide); (case c2 => exact rfl); (case c3 => exact rfl); (case c4 => exact rfl)))
  (k_with "my.enterC" => ((case k1 => first | exact List.forall_mem_nil _ | assumption); (case k6 => k_is); (case k7 => k_is); (case k8 => omega); (case k9 => first | exact BindsTo.of_eq rfl | exact binds_K (by k_in) rfl (by k_is) rfl rfl rfl); (case kB => exact rfl); (case kD => decide +kernel); (case c2 => exact rfl); (case c3 => exact rfl); (case c4 => exact rfl)))
  (k_with "my.room" => first | omega | ((simp only [depth_under_make, depth_under_kw, depth_in1, depth_deeper, depth_caller]); omega))
  (k_with "my.units" => first | omega | ((simp only [units_in1, units_deeper, Around.mark_units, units_caller]); omega))
  (k_with "my.wd" => exact Wd.keeps (by assumption) (Fr.keep (by k_asm)))
  (k_with "call builtin:list.append" => (k_here; k_dflt (refine' append_K (by k_asm) (by k_asm) (by k_upd) ?_ (by (simp only [List.size_toArray, Array.size_push, List.length_append, List.length_cons, List.length_nil, sizeLine_eq]; omega)); k_whole); intro h' F' N'; (try simp only [List.push_toArray] at N'); (try k_sweep)))
  (k_with "my.end" => ((try dsimp only); (try k_unfold); (try dsimp only [retOf])))
  (k_with "my.keep" => exact (fun b o e hb => Fr.keep (by assumption) b o (hideAll_get _ e hb)))
  (k_with "my.cend" => (unfold Hold; refine LCg.CompEnd.intro (by k_asm) (by assumption) _ (fun p hp => hp) (by assumption) (by first | trivial | exact .inr ⟨_, by k_memK, rfl, _, rfl⟩ | exact .inl (by assumption)) ⟨rfl, ?_⟩))
  (k_with "my.m" => with_reducible ((repeat (first | exact List.Mem.head _ | refine List.Mem.tail _ ?_ | assumption | (refine List.mem_append_left _ ?_; walk_at "my.m") | (refine List.mem_append_right _ ?_; walk_at "my.m"))); done))
  (k_with "my.mg" => first | walk_at "my.m" | ((try dsimp only [hdO, PyProof.Rows.LCg.lst, PySem.W.listOf, PySem.W.instObj, PySem.W.dictOf, List.cons_append, List.nil_append]); walk_at "my.m") | ((simp only [List.mem_cons, List.mem_append]); grind))
  (k_with "my.inc" => with_reducible ((repeat' (first | exact inc_refl | exact inc_nil | refine inc_same ?_ | refine inc_app ?_ ?_ | refine inc_one (by walk_at "my.m") ?_ | assumption | refine inc_skip ?_ | (refine inc_left ?_; walk_at "my.inc") | (refine inc_right ?_; walk_at "my.inc"))); done))
  (k_with "my.ne" => with_reducible first | assumption | exact neS1 | exact neS1.symm | exact neS2 | exact neS2.symm | (refine Ne.symm ?_; assumption) | (refine Nat.ne_of_lt ?_; assumption) | (refine Nat.ne_of_gt ?_; assumption))
  (k_with "my.pin" => first | ((try dsimp only [hdO, List.cons_append, List.nil_append] at hp ⊢); exact (show ∀ p ∈ _, p ∈ _ from by walk_at "my.inc") _ hp) | ((try dsimp only [hdO, PyProof.Rows.LCg.lst, PySem.W.listOf, PySem.W.instObj, PySem.W.dictOf, List.cons_append, List.nil_append] at hp ⊢); exact (show ∀ p ∈ _, p ∈ _ from by walk_at "my.inc") _ hp) | ((simp only [hdO, List.cons_append, List.nil_append, List.mem_append, List.mem_cons, List.not_mem_nil, or_false] at hp ⊢); grind))
  (k_with "my.mY" => ((repeat (first | exact List.Mem.head _ | refine List.Mem.tail _ ?_ | refine List.mem_append_right _ ?_)); done))
  (k_with "my.pinS" => ((try dsimp only [hdO, List.cons_append, List.nil_append] at hp ⊢); revert hp; revert p; (repeat (first | exact inc_snoc2 | exact inc_snoc1 | refine inc_under ?_ | refine inc_over ?_)); done))
  (k_with "my.pinY" => ((try dsimp only [hdO, List.cons_append, List.nil_append] at hp ⊢); revert hp; revert p; (repeat (refine inc_one (by walk_at "my.mY") ?_)); (with_reducible (repeat (first | exact inc_refl | exact inc_nil | refine inc_skip ?_ | refine inc_left ?_))); done))
  (k_with "my.in" => first | ((try dsimp only [hdO, List.cons_append, List.nil_append]); walk_at "my.inc") | ((try dsimp only [hdO, PyProof.Rows.LCg.lst, PySem.W.listOf, PySem.W.instObj, PySem.W.dictOf, List.cons_append, List.nil_append]); walk_at "my.inc") | (intro p hp; (try simp only [hdO, List.cons_append, List.nil_append, List.mem_cons, List.mem_append, List.not_mem_nil, or_false, false_or] at hp ⊢); first | exact hp | grind))
  (k_with "my.same" => (intro z h1 h2 h3; first
  | rfl
  | (simp only [List.forall_mem_cons, List.forall_mem_nil, List.not_mem_nil, false_implies, implies_true, and_true, ne_eq] at h2; simp only [List.contains_cons, List.contains_nil, Bool.or_false, Bool.or_eq_false_iff, beq_eq_false_iff_ne, ne_eq] at h3; simp [h1, h2, h3, kstB]; done)
  | (simp [h1, kstB]; done)
  | (simp_all [kstB]; done)))
  (k_with "my.csame" => (intro z h2 h3; first
  | rfl
  | exact kstB_stay z h2 h3
  | (simp only [List.forall_mem_cons, List.forall_mem_nil, List.not_mem_nil, false_implies, implies_true, and_true, ne_eq] at h2; (try simp only [List.contains_cons, List.contains_nil, Bool.or_false, Bool.or_eq_false_iff, beq_eq_false_iff_ne, ne_eq] at h3); simp [h2, h3, kstB]; done)
  | (simp_all [kstB]; done)))
  (k_with "my.all" => (repeat' (first | exact List.forall_mem_nil _ | (refine List.forall_mem_cons.mpr ⟨rfl, ?_⟩))))
  (k_with "execs cons" => first | (k_here; k_gentoks) | (k_here; k_made; walk_at "execs cons") | ((with_reducible refine wpAny_execs_cons ?_); (try dsimp only); k_fold))
  (k_with "my.sub" => (repeat' (first | exact List.forall_mem_nil _ | (refine List.forall_mem_cons.mpr ⟨?_, ?_⟩) | k_mem)))
  (k_with "call ref" => (refine Hold.out ?_))
  exact trivial
set_option maxRecDepth 100000 in
set_option maxHeartbeats 2000000 in
theorem c_setitemf {w : World} {h : Heap} {x dx l : Addr} {tkh : Tok} {vs : List Value} {ts : List (Addr × Obj)} {ps : List (Str × Str)} {n : Nat} (W : Wd w (hideAll h (addrs (hdO w x dx l tkh vs n ++ ts)))) (hO : ∀ p ∈ hdO w x dx l tkh vs n ++ ts, h.get? p.1 = some p.2) (hP : Prs vs ts ps) (hv : vs.length ≤ 1000) (hL : ∀ p ∈ ps, p.1.length ≤ 100)
    (h1 : @Ne Nat x dx) (h2 : @Ne Nat x l) (h3 : @Ne Nat dx l) (ho : OwnOff ts [x, dx, l])
    (a : Str) (ta : Tok) (b : Str) (tb : Tok) (ca : Clean (Txt.lower a)) (ca2 : Clean a) (cb : Clean b) (ha : a.length ≤ 100) :
    MCall2 w 138 [.ref x, .str a ta, .str b tb] [] 5 h (hdO w x dx l tkh vs n ++ ts)
      (fun v own' => v = .none ∧ ∃ (vs' : List Value) (ts' : List (Addr × Obj)) (n' : Nat) (t8 : Addr × Obj), own' = hdO w x dx l tkh vs' n' ++ t8 :: ts ∧ Prs vs' ts' ((ps.filter fun p => Txt.lower p.1 != Txt.lower a) ++ [(a, b)]) ∧ ∀ p ∈ ts', p ∈ t8 :: ts) := by
  intro dp un fr gd s Q E hs hdp hun hret
  subst hs
  obtain ⟨X, loose, mean, mg, mb, T⟩ := id W
  k_dflt (refine' enterM [(Str.ofString "a", .ref x), (Str.ofString "b", .str a ta), (Str.ofString "c", .str b tb)] (hdO w x dx l tkh vs n ++ ts) ?k1 W ?k6 ?k7 ?k8 ?k9 ?kB ?_ ?c5 ?c2 ?c3 ?c4; walk_at "my.enter")
  intro L' h₁ F N hLow
  (try dsimp only [hdO, List.cons_append, List.nil_append] at *)
  (try k_lt hLow)
  skip
  (try k_fold)
  have mk9 := kstMark
  k_steps
  unfold Hold
  (rename News _ _ _ _ => N9)
  (rename Fr _ _ _ _ => F9)
  k_dflt (refine MCall2.use (own := hdO w x dx l tkh vs n ++ ts) (rest := []) (c_setitem (Wd.under W F9 N9 fun p hp => hp) (fun p hp => (N9 p hp).1) hP hv hL h1 h2 h3 ho a ta b tb ca ca2 cb ha) ?d ?u F9 N9 (fun p hp => hp) (fun _ h => nomatch h) (fun _ h => nomatch h) ?_)
  case d => walk_at "my.room"
  case u => walk_at "my.units"
  rintro v9 own9 h9 tk9 ⟨rfl, vs', ts', n', t8, rfl, hP', hsub⟩ F' N' hA
  dsimp only
  k_steps
  walk_at "my.end"
  exact hret _ _ _ (by walk_at "my.keep") ⟨_, ⟨rfl, vs', ts', n', t8, rfl, hP', hsub⟩, Held.of N' (fun p hp => List.mem_append_left _ hp)⟩
end
theorem Prs.cls {vs ts ps} (h : Prs vs ts ps) : ∀ p ∈ ts, p.2.cls = .type "tuple" := by
  induction h with
  | nil => exact fun _ h => nomatch h
  | cons t a b ta tb n _ ih =>
    intro p hp
    rcases List.mem_cons.mp hp with rfl | hp
    · rfl
    · exact ih p hp
/-- the rows' tuples stand off the object, its dict and its list -/
theorem Prs.off {vs ts ps} (h : Prs vs ts ps) {h₀ g : Heap} {L : Addr} {nw : List (Addr × Obj)} {w : World} {x dx l : Addr} {tk : Tok} {ws : List Value} {n : Nat} (N : News h₀ L g nw) (h1 : ∀ p ∈ hdO w x dx l tk ws n, p ∈ nw) (h2 : ∀ p ∈ ts, p ∈ nw) : OwnOff ts [x, dx, l] := by
  intro p hp b hb e0
  have hc := h.cls p hp
  have e := (N p (h2 p hp)).1
  simp only [List.mem_cons, List.not_mem_nil, or_false] at hb
  rcases hb with rfl | rfl | rfl
  · have e2 := (N _ (h1 _ (by simp only [hdO]; exact List.mem_cons_self))).1
    rw [e0] at e
    rw [e] at e2
    rw [Option.some.inj e2] at hc
    simp [instObj] at hc
  · have e2 := (N _ (h1 _ (by simp only [hdO]; exact List.mem_cons_of_mem _ List.mem_cons_self))).1
    rw [e0] at e
    rw [e] at e2
    rw [Option.some.inj e2] at hc
    simp [dictOf] at hc
  · have e2 := (N _ (h1 _ (by simp only [hdO]; exact List.mem_cons_of_mem _ (List.mem_cons_of_mem _ List.mem_cons_self)))).1
    rw [e0] at e
    rw [e] at e2
    rw [Option.some.inj e2] at hc
    simp [PySem.W.listOf] at hc

end Mine
-- Gt
example : True := by
  w_top off
  exact trivial
namespace Mine
section
variable {prog : Program} {w : World} {A : Around} {E : Value → Shared → Prop} {s : Shared} {env : Env} {h₀ : Heap} {body : List Stmt} {Q : Flow → Shared → Prop}
theorem rngT_at {σ : Type} {a₀ : Int} {I : Addr} {n : Nat} {m₀ : Str → Option Value} {y : Str} {py : Pos} (Led : σ → List (Addr × Obj)) (ps : σ → List (Str × Value)) (stored : List Str) (P : Nat → σ → Prop) (c₀ : σ)
    (W : Walks prog w A I [I] [I] n (fun i v => i < n ∧ ∃ t, v = .int (a₀ + i * 1) t) (fun i h => IsRangeIter h I (a₀ + (i : Nat) * 1) ((n : Int) - (i : Nat)) 1))
    (hI0 : h₀.get? I = none) (hIlt : env.locals ≠ I) (hnw : ∀ p ∈ Led c₀, p.1 ≠ I) (hst : IsRangeIter s.heap I (a₀ + ((0 : Nat) : Nat) * 1) ((n : Int) - ((0 : Nat) : Nat)) 1) (F : Fr h₀ env.locals s.heap m₀) (N : News h₀ env.locals s.heap (Led c₀)) (hk : ∀ p ∈ ps c₀, m₀ p.1 = some p.2) (hp : P 0 c₀)
    (turn : ∀ (c : σ) (i : Nat) (k : Int) t (u : Str → Option Value) h tk oI, k = a₀ + (i : Int) → i < n → LCg.Off1 I (Led c) → P i c → Fr h₀ env.locals h (fun y => if y = Str.ofString "" then u y else kstB (fun z => if stored.contains z then u z else m₀ z) (ps c) y) → News h₀ env.locals h ((I, oI) :: Led c) →
      wpAny (model prog w) A (assign (.Name y py) env (.int k t)) (fun _ s₃ => wpAny (model prog w) A (execs body env) (RngPost h₀ env.locals Led ps (Str.ofString "") stored m₀ (P (i + 1)) I oI { s with heap := h, toks := tk } Q) E s₃) E { s with heap := h, toks := tk })
    (done : ∀ (c : σ) (u : Str → Option Value) h tk, P n c → Fr h₀ env.locals h (fun y => if y = Str.ofString "" then u y else kstB (fun z => if stored.contains z then u z else m₀ z) (ps c) y) → News h₀ env.locals h (Led c) → Q .next { s with heap := h, toks := tk }) :
    TurnsAt prog w A h₀ env (.Name y py) body Q E (.ref I) s := by
  let J : Nat → (Str → Option Value) → List (Addr × Obj) → Prop := fun i m nx => ∃ c : σ, nx = Led c ∧ (∀ p ∈ ps c, m p.1 = some p.2) ∧ (∀ z, z ≠ Str.ofString "" → (∀ p ∈ ps c, z ≠ p.1) → stored.contains z = false → m z = m₀ z) ∧ P i c
  refine ⟨I, _, _, n, _, _, _, m₀, Led c₀, J, rfl, KTurns.ofWalks W (fun i v s Q E st q => wpAny_pure q), by simpa using hIlt, by simpa using hI0, fun p hp => by simpa using hnw p hp, hst, F, N, ⟨c₀, rfl, hk, fun _ _ _ _ => rfl, hp⟩, ?_, ?_⟩
  · rintro i v m₁ news₁ hh' tk' own hin ⟨_, t, rfl⟩ ⟨c, rfl, h1, h2, hp'⟩ hoff hown hal hall hst' F₁ N₁
    have e1 : a₀ + (i : Int) * 1 = a₀ + (i : Int) := by omega
    rw [e1]
    obtain ⟨oI, heI⟩ : ∃ o, hh'.get? I = some o := ⟨_, hst'⟩
    have hio : (I, oI) ∈ own := hall I (by simp) hI0 oI heI
    have hone : ∀ p ∈ own, p = (I, oI) := fun p hp => by
      have hp1 : p.1 = I := by simpa using hown p hp
      have := hal p hp
      rw [hp1] at this
      have e : p.2 = oI := (Option.some.inj (this.symm.trans heI))
      exact Prod.ext hp1 e
    have off' : ∀ p ∈ Led c, p.1 ≠ I := fun p hp => by simpa using hoff p hp
    have of1 : ∀ {l : List (Addr × Obj)}, (∀ p ∈ l, p.1 ≠ I) → LCg.Off1 I l := by
      intro l
      induction l with
      | nil => intro _; trivial
      | cons p r ih => intro h; exact ⟨h p List.mem_cons_self, ih fun q hq => h q (List.mem_cons_of_mem _ hq)⟩
    have N₂ : News h₀ env.locals hh' ((I, oI) :: Led c) := fun p hp => by
      rcases List.mem_cons.mp hp with rfl | hp
      · exact N₁ _ (List.mem_append_left _ hio)
      · exact N₁ _ (List.mem_append_right _ hp)
    refine wpAny_mono (turn c i _ t m₁ hh' tk' oI rfl hin (of1 off') hp' (kst_frOut h1 h2 F₁) N₂) (fun _ s₃ q => wpAny_mono q (fun f s₂ p => ?_) fun _ _ e => e) fun _ _ e => e
    have fin : RngEnd h₀ env.locals Led ps (Str.ofString "") stored m₀ (P (i + 1)) I oI { s with heap := hh', toks := tk' } s₂ → LoopStepU h₀ env.locals [I] own (J (i + 1)) { s with heap := hh', toks := tk' } .next s₂ := by
      rintro ⟨c', h', tk, m', news', e, F', N', hi', hn', ho', hk', hr', hp'⟩
      refine ⟨rfl, h', tk, m', Led c', e, F', fun p hp => N' p ?_, fun p hp => by simpa using ho' p hp, c', rfl, hk', hr', hp'⟩
      rcases List.mem_append.mp hp with q | q
      · rw [hone p q]; exact hi'
      · exact hn' p q
    cases f with
    | ret v => exact .ret p
    | brk => exact .brk p
    | next => exact .next (fin p)
    | cont => exact .cont (fin p)
  · rintro h' tk m' news' F' N' _ ⟨c, rfl, h1, h2, hp'⟩
    exact done c m' h' tk hp' (kst_frOut h1 h2 F') N'
/-- a loop over range whose target may be captured: the turn begins with the store -/
theorem rngT {σ : Type} {r : Addr} {a₀ b₀ : Int} {t₀ u₀ v₀ : Tok} {n : Nat} {m₀ : Str → Option Value} {y : Str} {py : Pos} (Led : σ → List (Addr × Obj)) (ps : σ → List (Str × Value)) (stored : List Str) (P : Nat → σ → Prop) (c₀ : σ)
    (hh : A.handled = none) (hr : IsRange s.heap r a₀ b₀ 1 t₀ u₀ v₀) (hsmall : Builtin.Range.small a₀ b₀ 1 = true) (hn : Builtin.Range.rangeSize a₀ b₀ 1 = (n : Int)) (F : Fr h₀ env.locals s.heap m₀) (N : News h₀ env.locals s.heap (Led c₀)) (hk : ∀ p ∈ ps c₀, m₀ p.1 = some p.2) (hp : P 0 c₀)
    (turn : ∀ (c : σ) (i : Nat) (k : Int) t (u : Str → Option Value) h tk I oI, k = a₀ + (i : Int) → i < n → LCg.Off1 I (Led c) → P i c → Fr h₀ env.locals h (fun y => if y = Str.ofString "" then u y else kstB (fun z => if stored.contains z then u z else m₀ z) (ps c) y) → News h₀ env.locals h ((I, oI) :: Led c) →
      wpAny (model prog w) A (assign (.Name y py) env (.int k t)) (fun _ s₃ => wpAny (model prog w) A (execs body env) (RngPost h₀ env.locals Led ps (Str.ofString "") stored m₀ (P (i + 1)) I oI { s with heap := h, toks := tk } Q) E s₃) E { s with heap := h, toks := tk })
    (done : ∀ (c : σ) (u : Str → Option Value) h tk, P n c → Fr h₀ env.locals h (fun y => if y = Str.ofString "" then u y else kstB (fun z => if stored.contains z then u z else m₀ z) (ps c) y) → News h₀ env.locals h (Led c) → Q .next { s with heap := h, toks := tk }) :
    wpAny (model prog w) A (pyIter (.ref r)) (fun it s₂ => TurnsAt prog w A h₀ env (.Name y py) body Q E it s₂) E s := by
  refine wpAny_pyIter_range hr hsmall ?_
  refine rngT_at Led ps stored P c₀ (Walks.range hh _ a₀ 1 n).bound (next_is_new F) (Nat.ne_of_lt F.ns.lt) (fun p hp => Nat.ne_of_lt (Heap.lt_size (N p hp).1)) ?_ (F.push _) (fun p hp => ⟨Heap.get?_push_of_some _ (N p hp).1, (N p hp).2⟩) hk hp ?_ done
  · show IsRangeIter _ _ _ _ _
    rw [hn]
    simpa using Heap.get?_push_size _ rfl
  · intro c i k t u h tk oI
    exact turn c i k t u h tk _ oI
end
theorem nmo3 {h₀ h : Heap} {L a b c d : Addr} {x o1 o2 o3 : Obj} (_ : News h₀ L h [(a, x), (b, o1), (c, o2), (d, o3)]) : ∃ r p1 p2 p3, r = a ∧ p1 = o1 ∧ p2 = o2 ∧ p3 = o3 := ⟨a, o1, o2, o3, rfl, rfl, rfl, rfl⟩
theorem isNot_bools {M : Model} {A : Around} {E : Value → Shared → Prop} {s : Shared} {a b z : Bool} {Q : Value → Shared → Prop} (e : (a != b) = z) (h : Q (.bool z) s) : wpAny M A (compareOp .IsNot (.bool a) (.bool b)) Q E s := by
  show wpAny M A (do return .bool (!(← isSame (.bool a) (.bool b)))) Q E s
  subst e
  cases a <;> cases b <;> exact wpAny_bind (wpAny_pure (wpAny_pure h))
theorem eq_bools {prog : Program} {w : World} {A : Around} {E : Value → Shared → Prop} {s : Shared} {a b : Int} {t u : Tok} {z : Bool} {Q : Value → Shared → Prop} (e : (a == b) = z) (h : Q (.bool z) s) : wpAny (model prog w) A (compareOp .Eq (.int a t) (.int b u)) Q E s := by
  subst e
  exact PyProof.Rows.eq_int h

end Mine
-- Gc
example : True := by
  w_top off
  exact trivial
namespace Mine
section
variable {prog : Program} {w : World} {A : Around} {E : Value → Shared → Prop} {s : Shared} {h₀ : Heap} {L : Addr} {m : Str → Option Value} {env : Env}
/-- a tuple of the ledger that a comprehension runs over -/
noncomputable def TupSrc (ax : Addr) (its : Array Value) (nw : List (Addr × Obj)) : Prop := ∃ k, (ax, ({ cls := .type "tuple", data := .seq its k } : Obj)) ∈ nw
theorem TupSrc.at {ax : Addr} {its : Array Value} {nw : List (Addr × Obj)} {h : Heap} (S : TupSrc ax its nw) (N : News h₀ L h nw) : h.IsTuple ax its := by
  obtain ⟨k, hm⟩ := S
  exact ⟨_, (N _ hm).1, rfl, _, rfl⟩
noncomputable def SrcTT (prog : Program) (w : World) (A : Around) (h₀ : Heap) (L : Addr) (m : Str → Option Value) (env : Env) (ct elt : Expr) (x : Str) (scope : Scope) (cl : List (Str × Addr)) (Fin : Shared → List Value → List (Addr × Obj) → Prop) (xv : Value) (s₁ : Shared) : Prop :=
  ∃ ax its news, xv = .ref ax ∧ A.handled = none ∧ Fr h₀ L s₁.heap m ∧ News h₀ L s₁.heap news ∧ TupSrc ax its news ∧ its.size ≤ sizeLine ∧
    ∀ g, LCt.CompRestT prog w A h₀ L m env ct elt x scope cl { s₁ with heap := g } (TupSrc ax its) (fun i v => its[i]? = some v) (Fin { s₁ with heap := g }) its.size 0 [] news
theorem AssignLC_tup {ct elt iter : Expr} {x y : Str} {px py : Pos} {scope : Scope} {cl : List (Str × Addr)} {pos spos : Pos} {Q : Flow → Shared → Prop} (F₀ : Fr h₀ L s.heap m) (hLe : env.locals = L)
    (hsw : swapsWith (.ListComp elt [⟨.Name x px, iter, [ct], 0⟩] scope pos) (some (.Name y py)) spos.line env = pure true)
    (hclos : closureFor scope env = pure cl) (hcell : ∀ z ∈ scope.names, z.2 ≠ .cell) (hkind : scope.kind = .function)
    (hnames : ∀ z ∈ scope.names, z.2 = .local → scope.names.lookup z.1 = some .local) (hx : scope.names.lookup x = some .local)
    (hy : env.kindOf y = some .local) (hp : (env.scope.kind == .class || (env.scope.kind == .module && env.locals != env.globals)) = false)
    (h : wpAny (model prog w) A (eval iter env) (SrcTT prog w A h₀ L m env ct elt x scope cl (fun s₂ => LCg.FinA h₀ L m s₂ y Q)) E s)
    (hs : ∀ x, foldedSetIterable iter env x = pure x := by intro _; rfl) :
    wpAny (model prog w) A (exec (.Assign [.Name y py] (.ListComp elt [⟨.Name x px, iter, [ct], 0⟩] scope pos) spos) env) Q E s := by
  have _ := F₀
  subst hLe
  rw [exec_Assign_Name_used _ _ _ _ hsw]
  refine wpAny_bind (wpAny_standAt (wpAny_bind ?_))
  show wpAny _ A (do let _ ← comprehension (.ListComp elt [⟨.Name x px, iter, [ct], 0⟩] scope pos) scope env _ (newList []) false (eval iter env) (some (assign (.Name y py) env))) _ _ s
  refine wpAny_bind (wpAny_mono (wpAny_comprehension_free (use := some (assign (.Name y py) env)) (Q := fun _ s' => Q .next s') rfl hs hclos hkind hnames
    (wpAny_mono h (fun xv s₁ h₁ => ?_) fun _ _ e => e)) (fun _ s' hq => wpAny_pure (wpAny_pure hq)) fun _ _ e => e)
  obtain ⟨ax, its, news, rfl, hh, F, N, S, hsz, R⟩ := h₁
  have ht := S.at N
  have hlt : ax < s₁.heap.objs.size := by obtain ⟨_, e, _⟩ := ht; exact Heap.lt_size e
  refine wpAny_pyIter_tuple ht ?_
  have up : ∀ b o, s₁.heap.get? b = some o → (s₁.heap.push { cls := .type "tuple_iterator", data := .fields #[.ref ax, .int 0 0] }).get? b = some o := fun b o e => Heap.get?_push_of_some _ e
  refine LCt.block_T (S := TupSrc ax its) (Walks.tuple hh s₁.heap.objs.size ax (Nat.ne_of_lt hlt) its) hsz (fun i h st => by obtain ⟨o, e, _⟩ := st.1; exact ⟨o, e⟩) (fun i h h' o nw st e e' _ N' S' => ⟨st.1.at fun o' q => by rw [e] at q; cases q; exact e', S'.at N'⟩) hcell hkind hx ⟨⟨_, Heap.get?_push_size _ rfl, rfl, rfl⟩, ht.at fun o e => up _ _ e⟩ (fun b hb => ?_)
    (F.keeps up) (N.grown up) (Nat.ne_of_lt F.ns.lt) (next_is_new F) (fun p hp => Nat.ne_of_lt (Heap.lt_size (N p hp).1)) S (R _) ?_
  · show b < (s₁.heap.push _).objs.size
    rw [Heap.size_push]
    rcases List.mem_cons.mp hb with rfl | hb
    · exact Nat.lt_succ_self _
    · rw [List.mem_singleton.mp hb]; exact Nat.lt_succ_of_lt hlt
  · intro D C h' tk m' ys news' F' N' o1 hn hC₀ hD₀ hCL hDL hCD offC fin
    show wpAny _ A (assign (.Name y py) env (.ref D)) _ _ _
    refine wpAny_assign_Name (wpAny_storeName_local hy F'.ns (fun h₂ hn₂ hs₂ => ?_) hp)
    have hL₀ : h₀.get? env.locals = none := Heap.get?_none_of_le F'.above
    have F₂ : Fr h₀ env.locals h₂ (fun z => if z = y then some (.ref D) else m z) := ⟨hn₂, fun b o e => hs₂.extBut b o (fun q => by rw [q, hL₀] at e; cases e) (F'.keep b o e), F'.above⟩
    refine ⟨m', hn.sameBut hs₂ hCL, fun h'' hs'' => fin D h'' _ (F₂.change hs'' hCL hC₀) (fun p hp => ?_) o1⟩
    have z : h₂.get? p.1 = some p.2 := hs₂.extBut _ _ (N' p hp).2.1 (N' p hp).1
    refine ⟨hs''.extBut _ _ ?_ z, (N' p hp).2⟩
    rcases List.mem_cons.mp hp with rfl | hp
    · exact Ne.symm hCD
    · exact offC p hp
end

end Mine
-- Gw
example : True := by
  w_top off
  exact trivial
namespace Mine
section
variable {prog : Program} {w : World} {A : Around} {E : Value → Shared → Prop} {s : Shared} {Q : Value → Shared → Prop}
/-- an int of a list of ints whose value is said -/
theorem item_said {value slice : Expr} {l : Addr} {vs : List Value} {ns : List Int} {k a : Int} {u : Tok} (hl : s.heap.IsList l vs.toArray) (hi : IntsAre vs ns)
    (h0 : 0 ≤ k) (h1 : k < ns.length) (hfit : k < 2 ^ 63) (hv : ns.getD k.toNat 0 = a) (h : ∀ t, Q (.int a t) s)
    (hs : subscripted slice false (.ref l) (.int k u) = operate [.ref l, .int k u] (getItem (.ref l) (.int k u)) := by with_unfolding_all rfl) (hg : ∀ r, letTemporaryGo value (.ref l) r = pure () := by intro _; with_unfolding_all rfl) :
    wpAny (model prog w) A (subscriptTail value slice (.ref l) (.int k u)) Q E s := by
  subst hv
  exact item_list_ints hl hi h0 h1 hfit h hs hg
theorem notin_two {t : Addr} {x a b : Int} {u ta tb : Tok} (ht : IsTup s.heap t #[.int a ta, .int b tb])
    (h1 : (x ≠ a ∧ x ≠ b) → Q (.bool true) s) (h2 : ¬ (x ≠ a ∧ x ≠ b) → Q (.bool false) s) : wpAny (model prog w) A (compareOp .NotIn (.int x u) (.ref t)) Q E s := by
  refine notin_tuple_ints (ns := [a, b]) ht (.cons _ _ (.cons _ _ .nil)) ?_
  by_cases e : x ≠ a ∧ x ≠ b
  · have : (!([a, b].any (· == x))) = true := by
      have e1 : ¬ a = x := fun q => e.1 q.symm
      have e2 : ¬ b = x := fun q => e.2 q.symm
      simp [e1, e2]
    rw [this]
    exact h1 e
  · have : (!([a, b].any (· == x))) = false := by
      simp only [List.any_cons, List.any_nil, Bool.or_false, Bool.not_eq_false', Bool.or_eq_true, beq_iff_eq]
      by_cases z : x = a
      · exact .inl z.symm
      · by_cases z2 : x = b
        · exact .inr z2.symm
        · exact absurd ⟨z, z2⟩ e
    rw [this]
    exact h2 e
theorem ne_br {a b : Int} {t u : Tok} (h1 : a = b → Q (.bool false) s) (h2 : a ≠ b → Q (.bool true) s) : wpAny (model prog w) A (compareOp .NotEq (.int a t) (.int b u)) Q E s := by
  refine PyProof.Rows.ne_int ?_
  by_cases e : a = b
  · rw [show (a != b) = false by simp [e]]; exact h1 e
  · rw [show (a != b) = true by simp [e]]; exact h2 e
theorem eq_br {a b : Int} {t u : Tok} (h1 : a = b → Q (.bool true) s) (h2 : a ≠ b → Q (.bool false) s) : wpAny (model prog w) A (compareOp .Eq (.int a t) (.int b u)) Q E s := by
  refine PyProof.Rows.eq_int ?_
  by_cases e : a = b
  · rw [show (a == b) = true by simp [e]]; exact h1 e
  · rw [show (a == b) = false by simp [e]]; exact h2 e
theorem ne_same {a : Int} {t u : Tok} (h : Q (.bool false) s) : wpAny (model prog w) A (compareOp .NotEq (.int a t) (.int a u)) Q E s :=
  ne_br (fun _ => h) fun z => absurd rfl z
/-- the first of a list that begins with a known value -/
theorem item_first {value slice : Expr} {l : Addr} {v : Value} {r : List Value} {u : Tok} (hl : s.heap.IsList l (v :: r).toArray) (h : Q v s)
    (hs : subscripted slice false (.ref l) (.int 0 u) = operate [.ref l, .int 0 u] (getItem (.ref l) (.int 0 u)) := by with_unfolding_all rfl) (hg : ∀ r, letTemporaryGo value (.ref l) r = pure () := by intro _; with_unfolding_all rfl) :
    wpAny (model prog w) A (subscriptTail value slice (.ref l) (.int 0 u)) Q E s :=
  item_list hl (by decide) (by decide) (by simp) h hs hg
end
/-- names that a loop has stored may be forgotten -/
theorem kst_forget {stored : List Str} {u m₀ : Str → Option Value} {pl : List (Str × Value)} (h : ∀ p ∈ pl, stored.contains p.1 = true) :
    kstB (fun z => if stored.contains z then u z else m₀ z) pl = kstB (fun z => if stored.contains z then kstB u pl z else m₀ z) [] := by
  funext z
  show _ = if stored.contains z then kstB u pl z else m₀ z
  by_cases hz : stored.contains z = true
  · rw [if_pos hz]
    clear h
    induction pl with
    | nil => exact if_pos hz
    | cons p r ih =>
      show (if z = p.1 then some p.2 else kstB _ r z) = if z = p.1 then some p.2 else kstB u r z
      rw [ih]
  · rw [if_neg hz, kstB_at fun p hp e => hz (by rw [e]; exact h p hp)]
    exact if_neg hz
theorem off1_mem {I : Addr} {l : List (Addr × Obj)} (h : LCg.Off1 I l) : ∀ p ∈ l, @Ne Nat p.1 I := by
  induction l with
  | nil => intro p hp; exact absurd hp List.not_mem_nil
  | cons q r ih =>
    intro p hp
    have h1 : @Ne Nat q.1 I ∧ LCg.Off1 I r := h
    rcases List.mem_cons.mp hp with e | hp
    · rw [e]; exact h1.1
    · exact ih h1.2 p hp
section
variable {prog : Program} {w : World} {A : Around} {E : Value → Shared → Prop} {s : Shared} {Q : Value → Shared → Prop}
/-- a text of a list of texts whose value is said -/
theorem item_str_said {value slice : Expr} {l : Addr} {vs : List Value} {ws : List Str} {k : Int} {u : Tok} {x : Str} (hl : s.heap.IsList l vs.toArray) (hw : StrsAre vs ws)
    (h0 : 0 ≤ k) (hfit : k < 2 ^ 63) (hv : ws[k.toNat]? = some x) (h : ∀ t, Q (.str x t) s)
    (hs : subscripted slice false (.ref l) (.int k u) = operate [.ref l, .int k u] (getItem (.ref l) (.int k u)) := by with_unfolding_all rfl) (hg : ∀ r, letTemporaryGo value (.ref l) r = pure () := by intro _; with_unfolding_all rfl) :
    wpAny (model prog w) A (subscriptTail value slice (.ref l) (.int k u)) Q E s := by
  obtain ⟨t, e⟩ := hw.get k.toNat x hv
  exact item_list hl h0 hfit (by simpa using e) (h t) hs hg
end
section
variable {prog : Program} {w : World} {A : Around} {E : Value → Shared → Prop} {s : Shared} {h₀ : Heap} {L : Addr} {m : Str → Option Value} {env : Env}
noncomputable def SrcTU (prog : Program) (w : World) (A : Around) (h₀ : Heap) (L : Addr) (m : Str → Option Value) (env : Env) (elt : Expr) (x : Str) (scope : Scope) (cl : List (Str × Addr)) (Fin : Shared → List Value → List (Addr × Obj) → Prop) (xv : Value) (s₁ : Shared) : Prop :=
  ∃ ax its news, xv = .ref ax ∧ A.handled = none ∧ Fr h₀ L s₁.heap m ∧ News h₀ L s₁.heap news ∧ TupSrc ax its news ∧ its.size ≤ sizeLine ∧
    ∀ g, LCg.CompRest prog w A h₀ L m env elt x scope cl { s₁ with heap := g } (TupSrc ax its) (fun i v => its[i]? = some v) (Fin { s₁ with heap := g }) its.size 0 [] news
theorem AssignLC_tupU {elt iter : Expr} {x y : Str} {px py : Pos} {scope : Scope} {cl : List (Str × Addr)} {pos spos : Pos} {Q : Flow → Shared → Prop} (F₀ : Fr h₀ L s.heap m) (hLe : env.locals = L)
    (hsw : swapsWith (.ListComp elt [⟨.Name x px, iter, [], 0⟩] scope pos) (some (.Name y py)) spos.line env = pure true)
    (hclos : closureFor scope env = pure cl) (hcell : ∀ z ∈ scope.names, z.2 ≠ .cell) (hkind : scope.kind = .function)
    (hnames : ∀ z ∈ scope.names, z.2 = .local → scope.names.lookup z.1 = some .local) (hx : scope.names.lookup x = some .local)
    (hy : env.kindOf y = some .local) (hp : (env.scope.kind == .class || (env.scope.kind == .module && env.locals != env.globals)) = false)
    (h : wpAny (model prog w) A (eval iter env) (SrcTU prog w A h₀ L m env elt x scope cl (fun s₂ => LCg.FinA h₀ L m s₂ y Q)) E s)
    (hs : ∀ x, foldedSetIterable iter env x = pure x := by intro _; rfl) :
    wpAny (model prog w) A (exec (.Assign [.Name y py] (.ListComp elt [⟨.Name x px, iter, [], 0⟩] scope pos) spos) env) Q E s := by
  have _ := F₀
  subst hLe
  rw [exec_Assign_Name_used _ _ _ _ hsw]
  refine wpAny_bind (wpAny_standAt (wpAny_bind ?_))
  show wpAny _ A (do let _ ← comprehension (.ListComp elt [⟨.Name x px, iter, [], 0⟩] scope pos) scope env _ (newList []) false (eval iter env) (some (assign (.Name y py) env))) _ _ s
  refine wpAny_bind (wpAny_mono (wpAny_comprehension_free (use := some (assign (.Name y py) env)) (Q := fun _ s' => Q .next s') rfl hs hclos hkind hnames
    (wpAny_mono h (fun xv s₁ h₁ => ?_) fun _ _ e => e)) (fun _ s' hq => wpAny_pure (wpAny_pure hq)) fun _ _ e => e)
  obtain ⟨ax, its, news, rfl, hh, F, N, S, hsz, R⟩ := h₁
  have ht := S.at N
  have hlt : ax < s₁.heap.objs.size := by obtain ⟨_, e, _⟩ := ht; exact Heap.lt_size e
  refine wpAny_pyIter_tuple ht ?_
  have up : ∀ b o, s₁.heap.get? b = some o → (s₁.heap.push { cls := .type "tuple_iterator", data := .fields #[.ref ax, .int 0 0] }).get? b = some o := fun b o e => Heap.get?_push_of_some _ e
  refine LCg.block_U (S := TupSrc ax its) (Walks.tuple hh s₁.heap.objs.size ax (Nat.ne_of_lt hlt) its) hsz (fun i h st => by obtain ⟨o, e, _⟩ := st.1; exact ⟨o, e⟩) (fun i h h' o nw st e e' _ N' S' => ⟨st.1.at fun o' q => by rw [e] at q; cases q; exact e', S'.at N'⟩) hcell hkind hx ⟨⟨_, Heap.get?_push_size _ rfl, rfl, rfl⟩, ht.at fun o e => up _ _ e⟩ (fun b hb => ?_)
    (F.keeps up) (N.grown up) (Nat.ne_of_lt F.ns.lt) (next_is_new F) (fun p hp => Nat.ne_of_lt (Heap.lt_size (N p hp).1)) S (R _) ?_
  · show b < (s₁.heap.push _).objs.size
    rw [Heap.size_push]
    rcases List.mem_cons.mp hb with rfl | hb
    · exact Nat.lt_succ_self _
    · rw [List.mem_singleton.mp hb]; exact Nat.lt_succ_of_lt hlt
  · intro D C h' tk m' ys news' F' N' o1 hn hC₀ hD₀ hCL hDL hCD offC fin
    show wpAny _ A (assign (.Name y py) env (.ref D)) _ _ _
    refine wpAny_assign_Name (wpAny_storeName_local hy F'.ns (fun h₂ hn₂ hs₂ => ?_) hp)
    have hL₀ : h₀.get? env.locals = none := Heap.get?_none_of_le F'.above
    have F₂ : Fr h₀ env.locals h₂ (fun z => if z = y then some (.ref D) else m z) := ⟨hn₂, fun b o e => hs₂.extBut b o (fun q => by rw [q, hL₀] at e; cases e) (F'.keep b o e), F'.above⟩
    refine ⟨m', hn.sameBut hs₂ hCL, fun h'' hs'' => fin D h'' _ (F₂.change hs'' hCL hC₀) (fun p hp => ?_) o1⟩
    have z : h₂.get? p.1 = some p.2 := hs₂.extBut _ _ (N' p hp).2.1 (N' p hp).1
    refine ⟨hs''.extBut _ _ ?_ z, (N' p hp).2⟩
    rcases List.mem_cons.mp hp with rfl | hp
    · exact Ne.symm hCD
    · exact offC p hp
end

end Mine
-- R0
example : True := by
  w_top off
  exact trivial
namespace Mine
section
variable {w : World} {dp un : Nat} {outer : List Env} {gd : Option (List Code)} {s : Shared} {Q E : Value → Shared → Prop} {name qual : Str} {params : Arguments} {body : List Stmt} {scope : Scope}
  {dV kV doc pm cdv ct oc : Value} {an od : Option Addr} {osl : Array (Option Value)} {f : Addr} {vs : List Value} {kw : List (Str × Value)}
/-- enterM for a call that may raise, the frames below it known -/
theorem enterX {L' : Addr} (binds : List (Str × Value)) (W : Wd w s.heap)
    (ho : (hd.heap_1 w.params).lookup f = some ⟨oc, od, .func (fnOf name qual params body scope dV kV doc pm an cdv ct), osl⟩) (hcd : codeIn (hd.heap_1 w.params) cdv qual = true) (hroom : dp < recursionLimit)
    (hbind : BindsTo s (fnOf name qual params body scope dV kV doc pm an cdv ct) ⟨vs, kw⟩ binds) (hloc : ∀ y ∈ binds, scope.names.lookup y.1 = some .local)
    (h : ∀ h₁, Fr s.heap L' h₁ (fun y => binds.reverse.lookup y) → News s.heap L' h₁ [] →
      wpAny (model PySem.Challenge.rw_wo0076_01.row.prog w) (Around.deeper ⟨none, dp, some outer, gd, un⟩ (envOf qual scope L' f cdv)) (execs body (envOf qual scope L' f cdv))
        (fun fl s' => Q (retOf fl) s') (fun e s' => wpAny (model PySem.Challenge.rw_wo0076_01.row.prog w) (Around.deeper ⟨none, dp, some outer, gd, un⟩ (envOf qual scope L' f cdv)) (leaving (envOf qual scope L' f cdv) e) (fun _ s'' => E e s'') (fun e' s'' => E e' s'') s') { s with heap := h₁, toks := s.toks + binds.length })
    (hL : L' = s.heap.objs.size) (hcell : ∀ x ∈ scope.names, x.2 ≠ .cell) (hco : scope.isCoroutine = false := by rfl) (hgen : scope.isGenerator = false := by rfl) (hk : scope.kind = .function := by rfl) :
    wpAny (model PySem.Challenge.rw_wo0076_01.row.prog w) ⟨none, dp, some outer, gd, un⟩ (call (.ref f) vs kw) Q E s := by
  subst hL
  obtain ⟨_, _, _, _, T⟩ := W.T
  refine wpAny_call (codeAny_call_def (fd := fnOf name qual params body scope dV kV doc pm an cdv ct) (body := body) (binds := binds) hroom (W.X _ _ ho) rfl T.nolimit (codeRec_of W.X hcd) rfl hbind hcell hloc (fun h₁ hns hk₁ => ?_) hco hgen hk)
  refine wpAny_mono (h h₁ ⟨hns, hk₁, Nat.le_refl _⟩ (fun _ h => nomatch h)) (fun fl s' q => ?_) fun _ _ q => q
  cases fl <;> exact q
end
/-- a mark that a walk stops at, as long as it stands -/
structure Gd (n : Nat) : Prop where
  it : n = n
theorem gdAt (n : Nat) : Gd n := ⟨rfl⟩
theorem _root_.PySem.W.RaisedS.nil {base G : Heap} {l : List Env} {e t : Addr} {cls : Value} {vs : List Value} {news : List (Addr × Obj)} {h : Heap} (R : RaisedS base G l e cls t vs news h) : RaisedS base G l e cls t vs [] h := by
  obtain ⟨⟨B, a, b, c, d, f⟩, g⟩ := R
  exact ⟨⟨B, And.intro a (And.intro b (And.intro (fun q hq => absurd hq List.not_mem_nil) (And.intro d f)))⟩, g⟩
/-- what parse229 does with a reply: 0 error_reply, 1 error_proto, 2 it tells a pair -/
noncomputable def parts229 (r : Str) : List Str := Txt.split (Txt.slice r (some (Txt.find r (Str.ofString "(") + 1)) (some (Txt.find3 r (Str.ofString ")") (Txt.find r (Str.ofString "(") + 1)))) (Txt.item r (Txt.find r (Str.ofString "(") + 1))
noncomputable def out229 (r : Str) : Nat :=
  if (Txt.slice r none (some 3) != Str.ofString "229") = true then 0 else
  if Txt.find r (Str.ofString "(") < 0 then 1 else
  if Txt.find3 r (Str.ofString ")") (Txt.find r (Str.ofString "(") + 1) < 0 then 1 else
  if (Txt.item r (Txt.find r (Str.ofString "(") + 1) != Txt.item r (Txt.find3 r (Str.ofString ")") (Txt.find r (Str.ofString "(") + 1) - 1)) = true then 1 else
  if (parts229 r).length ≠ 5 then 1 else 2
/-- what parse229 leans on -/
noncomputable def good229 (r : Str) (n : Int) : Bool :=
  decide (r.length ≤ 100) && (decide (Txt.find r (Str.ofString "(") < 0) || decide (Txt.find3 r (Str.ofString ")") (Txt.find r (Str.ofString "(") + 1) < 0) ||
    (decide (Txt.find r (Str.ofString "(") + 1 < r.length) && decide (1 ≤ Txt.find3 r (Str.ofString ")") (Txt.find r (Str.ofString "(") + 1)) && decide (Txt.find3 r (Str.ofString ")") (Txt.find r (Str.ofString "(") + 1) ≤ r.length))) &&
  (decide (out229 r ≠ 2) || match (parts229 r)[3]? with | some y => PySem.intText? y == some n && decide (y.length ≤ 640) | none => false)
theorem good229_1 {r : Str} {n : Int} (h : good229 r n = true) : r.length ≤ 100 := by
  simp only [good229, Bool.and_eq_true, decide_eq_true_eq] at h
  exact h.1.1
theorem good229_2 {r : Str} {n : Int} (h : good229 r n = true) (h1 : ¬ Txt.find r (Str.ofString "(") < 0) (h2 : ¬ Txt.find3 r (Str.ofString ")") (Txt.find r (Str.ofString "(") + 1) < 0) :
    Txt.find r (Str.ofString "(") + 1 < r.length ∧ 1 ≤ Txt.find3 r (Str.ofString ")") (Txt.find r (Str.ofString "(") + 1) ∧ Txt.find3 r (Str.ofString ")") (Txt.find r (Str.ofString "(") + 1) ≤ r.length := by
  simp only [good229, Bool.and_eq_true, Bool.or_eq_true, decide_eq_true_eq] at h
  rcases h.1.2 with (q | q) | q
  · exact absurd q h1
  · exact absurd q h2
  · exact ⟨q.1.1, q.1.2, q.2⟩
theorem good229_3 {r : Str} {n : Int} {y : Str} (h : good229 r n = true) (h1 : out229 r = 2) (h2 : (parts229 r)[3]? = some y) : PySem.intText? y = some n ∧ y.length ≤ 640 := by
  simp only [good229, Bool.and_eq_true, Bool.or_eq_true, decide_eq_true_eq] at h
  rcases h.2 with q | q
  · exact absurd h1 q
  · rw [h2] at q
    simp only [Bool.and_eq_true, beq_iff_eq, decide_eq_true_eq] at q
    exact q
theorem out229_2 {r : Str} (h0 : (Txt.slice r none (some 3) != Str.ofString "229") = false) (h1 : ¬ Txt.find r (Str.ofString "(") < 0) (h2 : ¬ Txt.find3 r (Str.ofString ")") (Txt.find r (Str.ofString "(") + 1) < 0)
    (h3 : (Txt.item r (Txt.find r (Str.ofString "(") + 1) != Txt.item r (Txt.find3 r (Str.ofString ")") (Txt.find r (Str.ofString "(") + 1) - 1)) = false) (h4 : (parts229 r).length = 5) : out229 r = 2 := by
  unfold out229
  rw [if_neg (by rw [h0]; exact Bool.false_ne_true), if_neg h1, if_neg h2, if_neg (by rw [h3]; exact Bool.false_ne_true), if_neg (by omega)]
theorem out229_0 {r : Str} (h0 : (Txt.slice r none (some 3) != Str.ofString "229") = true) : out229 r = 0 := if_pos h0
theorem out229_1a {r : Str} (h0 : (Txt.slice r none (some 3) != Str.ofString "229") = false) (h1 : Txt.find r (Str.ofString "(") < 0) : out229 r = 1 := by
  unfold out229
  rw [if_neg (by rw [h0]; exact Bool.false_ne_true), if_pos h1]
theorem out229_1b {r : Str} (h0 : (Txt.slice r none (some 3) != Str.ofString "229") = false) (h1 : ¬ Txt.find r (Str.ofString "(") < 0) (h2 : Txt.find3 r (Str.ofString ")") (Txt.find r (Str.ofString "(") + 1) < 0) : out229 r = 1 := by
  unfold out229
  rw [if_neg (by rw [h0]; exact Bool.false_ne_true), if_neg h1, if_pos h2]
theorem out229_1c {r : Str} (h0 : (Txt.slice r none (some 3) != Str.ofString "229") = false) (h1 : ¬ Txt.find r (Str.ofString "(") < 0) (h2 : ¬ Txt.find3 r (Str.ofString ")") (Txt.find r (Str.ofString "(") + 1) < 0)
    (h3 : (Txt.item r (Txt.find r (Str.ofString "(") + 1) != Txt.item r (Txt.find3 r (Str.ofString ")") (Txt.find r (Str.ofString "(") + 1) - 1)) = true) : out229 r = 1 := by
  unfold out229
  rw [if_neg (by rw [h0]; exact Bool.false_ne_true), if_neg h1, if_neg h2, if_pos h3]
theorem out229_1d {r : Str} (h0 : (Txt.slice r none (some 3) != Str.ofString "229") = false) (h1 : ¬ Txt.find r (Str.ofString "(") < 0) (h2 : ¬ Txt.find3 r (Str.ofString ")") (Txt.find r (Str.ofString "(") + 1) < 0)
    (h3 : (Txt.item r (Txt.find r (Str.ofString "(") + 1) != Txt.item r (Txt.find3 r (Str.ofString ")") (Txt.find r (Str.ofString "(") + 1) - 1)) = false) (h4 : (parts229 r).length ≠ 5) : out229 r = 1 := by
  unfold out229
  rw [if_neg (by rw [h0]; exact Bool.false_ne_true), if_neg h1, if_neg h2, if_neg (by rw [h3]; exact Bool.false_ne_true), if_pos h4]
theorem out229_inv {r : Str} (h : out229 r = 2) : (Txt.slice r none (some 3) != Str.ofString "229") = false ∧ ¬ Txt.find r (Str.ofString "(") < 0 ∧ ¬ Txt.find3 r (Str.ofString ")") (Txt.find r (Str.ofString "(") + 1) < 0 ∧
    (Txt.item r (Txt.find r (Str.ofString "(") + 1) != Txt.item r (Txt.find3 r (Str.ofString ")") (Txt.find r (Str.ofString "(") + 1) - 1)) = false ∧ (parts229 r).length = 5 := by
  unfold out229 at h
  split at h
  · cases h
  split at h
  · cases h
  split at h
  · cases h
  split at h
  · cases h
  split at h
  · cases h
  rename_i a b c d e
  exact ⟨by simpa using a, b, c, by simpa using d, by omega⟩

end Mine
-- Mf
example : True := by
  w_top off
  exact trivial
namespace Mine
/-! a text whose signs are renamed -/
noncomputable def mapF (f : Nat → Nat) (x : Str) : Str := ⟨(x.cps.toList.map f).toArray⟩
structure Ren (f : Nat → Nat) : Prop where
  zero : f 0 = 0
  inj : ∀ a b, f a = f b → a = b
theorem mapF_inj {f : Nat → Nat} (r : Ren f) {x y : Str} : mapF f x = mapF f y ↔ x = y := by
  obtain ⟨⟨l⟩⟩ := x
  obtain ⟨⟨k⟩⟩ := y
  simp only [mapF, Str.mk.injEq, Array.mk.injEq]
  exact List.map_inj_right r.inj
theorem len_mapF (f : Nat → Nat) (x : Str) : (mapF f x).length = x.length := by simp [mapF, Str.length]
theorem get_mapF (f : Nat → Nat) (x : Str) (i : Nat) : (mapF f x).cps[i]? = (x.cps[i]?).map f := by simp [mapF]
theorem slice_mapF (f : Nat → Nat) (x : Str) (l u : Option Int) : Txt.slice (mapF f x) l u = mapF f (Txt.slice x l u) := by
  unfold Txt.slice
  rw [len_mapF]
  split
  · rfl
  · simp only [get_mapF]
    unfold mapF
    simp only [List.map_filterMap]
theorem item_mapF {f : Nat → Nat} (r : Ren f) (x : Str) (i : Int) : Txt.item (mapF f x) i = mapF f (Txt.item x i) := by
  unfold Txt.item Txt.charAt
  rw [len_mapF]
  cases seqIndex? i x.length with
  | none => exact congrArg (fun z => (⟨#[z]⟩ : Str)) r.zero.symm
  | some k =>
    show (⟨#[((mapF f x).cps[k]?).getD 0]⟩ : Str) = mapF f ⟨#[(x.cps[k]?).getD 0]⟩
    rw [get_mapF]
    cases x.cps[k]? with
    | none => exact congrArg (fun z => (⟨#[z]⟩ : Str)) r.zero.symm
    | some c => rfl
theorem beq_mapF {f : Nat → Nat} (r : Ren f) (x y : Str) : (mapF f x == mapF f y) = (x == y) := by
  rw [Bool.eq_iff_iff, beq_iff_eq, beq_iff_eq, mapF_inj r]
theorem app_mapF (f : Nat → Nat) (x y : Str) : mapF f (x ++ y) = mapF f x ++ mapF f y := by
  obtain ⟨⟨l⟩⟩ := x
  obtain ⟨⟨k⟩⟩ := y
  show mapF f ⟨⟨l⟩ ++ ⟨k⟩⟩ = ⟨(l.map f).toArray ++ (k.map f).toArray⟩
  simp [mapF]

end Mine
-- Wd1
example : True := by
  w_top off
  exact trivial
namespace Mine
noncomputable def wn (k : Nat) : Int := [0,1,0,2,1,2,0,1,0,2,0,1,2,1,0,2].getD k 0
noncomputable def dq (k : Nat) : Str := ⟨(List.replicate k 34).toArray⟩
noncomputable def ch (j : Nat) : Str := ⟨#[97 + j]⟩
noncomputable def rd (k : Int) (j : Nat) : Str := Str.ofString "257 \"" ++ Txt.mul (Str.ofString "\"") k ++ Txt.mul (ch j) 2 ++ Str.ofString "\" " ++ ch j
/-- what parse257 tells of k marks and the letter -/
noncomputable def td (k j : Nat) : Str := ⟨(List.replicate (k / 2) 34 ++ (if k % 2 = 0 then [97 + j, 97 + j] else [])).toArray⟩
/-! the letter moved j places on -/
noncomputable def lmv (j c : Nat) : Nat := bif Nat.ble 97 c then c + j else c
theorem lmv_lo {j c : Nat} (h : Nat.ble 97 c = false) : lmv j c = c := by unfold lmv; rw [h]; rfl
theorem lmv_hi {j c : Nat} (h : Nat.ble 97 c = true) : lmv j c = c + j := by unfold lmv; rw [h]; rfl
theorem lmvR (j : Nat) : Ren (lmv j) := ⟨rfl, fun a b h => by
  cases ha : Nat.ble 97 a <;> cases hb : Nat.ble 97 b
  · rw [lmv_lo ha, lmv_lo hb] at h; exact h
  · rw [lmv_lo ha, lmv_hi hb] at h
    rw [h, Nat.ble_eq_true_of_le (Nat.le_trans (Nat.le_of_ble_eq_true hb) (Nat.le_add_right b j))] at ha
    cases ha
  · rw [lmv_hi ha, lmv_lo hb] at h
    rw [← h, Nat.ble_eq_true_of_le (Nat.le_trans (Nat.le_of_ble_eq_true ha) (Nat.le_add_right a j))] at hb
    cases hb
  · rw [lmv_hi ha, lmv_hi hb] at h; exact Nat.add_right_cancel h⟩
theorem p257_succ (r : Str) (f : Nat) (i : Int) (d : Str) : p257 r (f + 1) i d = if i < r.length then
      (if (Txt.item r i == Str.ofString "\"") = true then (if r.length ≤ i + 1 then d else if (Txt.item r (i + 1) != Str.ofString "\"") = true then d else p257 r f (i + 2) (d ++ Txt.item r i))
       else p257 r f (i + 1) (d ++ Txt.item r i)) else d := rfl
theorem quote_beq (j : Nat) (x : Str) : (mapF (lmv j) x == Str.ofString "\"") = (x == Str.ofString "\"") := beq_mapF (lmvR j) x (Str.ofString "\"")
theorem p257_map (j : Nat) (r : Str) (f : Nat) : ∀ (i : Int) (d : Str), p257 (mapF (lmv j) r) f i (mapF (lmv j) d) = mapF (lmv j) (p257 r f i d) := by
  induction f with
  | zero => exact fun _ _ => rfl
  | succ f ih =>
    intro i d
    rw [p257_succ, p257_succ, len_mapF, item_mapF (lmvR j), item_mapF (lmvR j), bne, bne, quote_beq, quote_beq, ← app_mapF, ih, ih]
    (repeat' split) <;> rfl
theorem told_map (j : Nat) (r : Str) : told257 (mapF (lmv j) r) = mapF (lmv j) (told257 r) := by
  have e : (mapF (lmv j) (Txt.slice r (some 3) (some 5)) == Str.ofString " \"") = (Txt.slice r (some 3) (some 5) == Str.ofString " \"") := beq_mapF (lmvR j) _ (Str.ofString " \"")
  have e2 : p257 (mapF (lmv j) r) r.length 5 (Str.ofString "") = _ := p257_map j r r.length 5 (Str.ofString "")
  unfold told257
  rw [slice_mapF, len_mapF, bne, bne, e, e2]
  split <;> rfl
theorem lo_map (j : Nat) {x : Str} (h : x.cps.toList.all (fun c => !Nat.ble 97 c) = true) : mapF (lmv j) x = x := by
  have e : x.cps.toList.map (lmv j) = x.cps.toList.map id := List.map_congr_left fun c hc => lmv_lo (by simpa using List.all_eq_true.mp h c hc)
  unfold mapF
  rw [e, List.map_id]
theorem ch_map (j : Nat) : ch j = mapF (lmv j) (ch 0) := rfl
theorem rd_fin : ∀ i : Fin 16, (rd (i.val : Int) 0).length ≤ 100 ∧ Txt.slice (rd (i.val : Int) 0) none (some 3) = Str.ofString "257" := by decide +kernel
theorem td_fin : ∀ i : Fin 15, told257 (rd ((i.val + 1 : Nat) : Int) 0) = td (i.val + 1) 0 := by decide +kernel
theorem mul_lo : ∀ i : Fin 16, (Txt.mul (Str.ofString "\"") (i.val : Int)).cps.toList.all (fun c => !Nat.ble 97 c) = true := by decide +kernel
theorem rd_map0 (i : Fin 16) (j : Fin 23) : rd (i.val : Int) j.val = mapF (lmv j.val) (rd (i.val : Int) 0) := by
  unfold rd
  rw [app_mapF, app_mapF, app_mapF, app_mapF, lo_map _ (mul_lo i)]
  have e : ∀ j : Fin 23, mapF (lmv j.val) (Txt.mul (ch 0) 2) = Txt.mul (ch j.val) 2 := by decide +kernel
  rw [e]
  rfl
theorem td_map (k j : Nat) : td k j = mapF (lmv j) (td k 0) := by
  unfold td mapF
  have e : (List.replicate (k / 2) 34).map (lmv j) = List.replicate (k / 2) 34 := by rw [List.map_replicate]; rfl
  dsimp only
  rw [List.map_append, e]
  split <;> rfl
theorem rd_all (i : Fin 16) (j : Fin 23) : (rd (i.val : Int) j.val).length ≤ 100 ∧ Txt.slice (rd (i.val : Int) j.val) none (some 3) = Str.ofString "257" := by
  obtain ⟨a, b⟩ := rd_fin i
  rw [rd_map0, len_mapF, slice_mapF, b]
  exact ⟨a, rfl⟩
theorem td_all (i : Fin 15) (j : Fin 23) : told257 (rd ((i.val + 1 : Nat) : Int) j.val) = td (i.val + 1) j.val := by
  rw [show rd ((i.val + 1 : Nat) : Int) j.val = mapF (lmv j.val) (rd ((i.val + 1 : Nat) : Int) 0) from rd_map0 ⟨i.val + 1, Nat.succ_lt_succ i.isLt⟩ j, told_map, td_fin, ← td_map]
theorem td_len (k j : Nat) (h : k ≤ 15) : (td k j).length ≤ 9 := by
  unfold td Str.length
  split <;> simp <;> omega
theorem td_asc : ∀ i : Fin 16, ∀ j : Fin 23, (td i.val j.val).cps.all (· < 128) = true := by decide +kernel
theorem td_cnt : ∀ i : Fin 16, ∀ j : Fin 23, cntL 34 (td i.val j.val).cps.toList = ((i.val / 2 : Nat) : Int) := by decide +kernel
theorem td_has : ∀ i : Fin 16, ∀ j : Fin 23, (!(Builtin.Str.occurrences (td i.val j.val) (ch j.val) 0 (td i.val j.val).length 1).isEmpty) = decide (i.val % 2 = 0) := by decide +kernel
theorem td_due0 : ∀ i : Fin 16, ∀ j : Fin 23, i.val % 2 = 0 → (td i.val j.val != Txt.mul (Str.ofString "\"") (((i.val / 2 : Nat)) : Int) ++ Txt.mul (ch j.val) 2) = false := by decide +kernel
theorem td_due1 : ∀ i : Fin 16, ∀ j : Fin 23, i.val % 2 = 1 → (td i.val j.val != Txt.mul (Str.ofString "\"") (((i.val / 2 : Nat)) : Int) ++ Str.ofString "") = false := by decide +kernel

end Mine
-- Wd2
example : True := by
  w_top off
  exact trivial
namespace Mine
noncomputable def cleanB (x : Str) : Bool := decide (x.cps.size ≤ 100) && x.cps.toList.all fun c => decide (32 ≤ c) && decide (c < 127)
theorem Clean.of {x : Str} (h : cleanB x = true) : Clean x := by
  simp only [cleanB, Bool.and_eq_true, decide_eq_true_eq, List.all_eq_true] at h
  exact ⟨by omega, h.2⟩
theorem cleanB_len {x : Str} (h : cleanB x = true) : x.length ≤ 100 := by
  simp only [cleanB, Bool.and_eq_true, decide_eq_true_eq] at h
  exact h.1
/-- the reply that tells a worth -/
noncomputable def rp (j : Nat) (v : Int) : Str := Str.ofString "229 (" ++ ch j ++ Str.ofString "1" ++ Txt.mul (ch j) 2 ++ Str.ofString (toString v) ++ ch j ++ Str.ofString ")"
theorem rp_ok : ∀ j : Fin 23, ∀ v : Fin 3, good229 (rp j.val (v.val : Int)) (v.val : Int) = true ∧ out229 (rp j.val (v.val : Int)) = 2 ∧ cleanB (rp j.val (v.val : Int)) = true := by decide +kernel
theorem spell_clean : ∀ s : Fin 20, ∀ n : Fin 16, cleanB (spell s.val n.val) = true ∧ Txt.lower (spell s.val n.val) = spell s.val 0 := by decide +kernel
/-- a spelling with its first letter behind the others -/
noncomputable def turnS (s n : Nat) : Str := Txt.slice (spell s n) (some 1) none ++ Txt.item (spell s n) 0
noncomputable def dupS (s n : Nat) : Str := Txt.item (spell s n) 1 ++ Txt.slice (spell s n) (some 1) none
theorem turnS_clean : ∀ s : Fin 20, ∀ n : Fin 16, cleanB (turnS s.val n.val) = true ∧ (Txt.lower (turnS s.val n.val) == spell s.val 0) = false := by decide +kernel
/-! the distance, reckoned with a quick lower for single ascii signs -/
noncomputable def lowN (c : Nat) : Nat := if 65 ≤ c then (if c ≤ 90 then c + 32 else c) else c
noncomputable def oneB (x : Str) : Bool := match x.cps.toList with | [c] => decide (c < 128) | _ => false
noncomputable def sgn (x : Str) : Nat := match x.cps.toList with | c :: _ => c | [] => 0
theorem lower_fin : ∀ c : Fin 128, Txt.lower ⟨#[c.val]⟩ = ⟨#[lowN c.val]⟩ := by decide +kernel
theorem one_is {x : Str} (h : oneB x = true) : sgn x < 128 ∧ x = ⟨#[sgn x]⟩ := by
  obtain ⟨⟨l⟩⟩ := x
  unfold oneB at h
  dsimp only at h
  split at h
  · exact ⟨by simpa [sgn] using h, rfl⟩
  · cases h
noncomputable def subF (a b : Str) : Int := if sgn a = sgn b then 0 else if lowN (sgn a) = lowN (sgn b) then 1 else 2
theorem sub_one {a b : Str} (ha : oneB a = true) (hb : oneB b = true) : subCost a b = subF a b := by
  obtain ⟨a1, a2⟩ := one_is ha
  obtain ⟨b1, b2⟩ := one_is hb
  have hl : ∀ c d : Nat, ((⟨#[c]⟩ : Str) = ⟨#[d]⟩) ↔ c = d := fun c d => by simp
  unfold subCost subF
  have e1 : (a = b) ↔ sgn a = sgn b := by
    constructor
    · intro e; rw [e]
    · intro e; rw [a2, b2, e]
  have e2 : (Txt.lower a = Txt.lower b) ↔ lowN (sgn a) = lowN (sgn b) := by
    have ea : Txt.lower a = ⟨#[lowN (sgn a)]⟩ := by
      have := lower_fin ⟨sgn a, a1⟩
      rw [← a2] at this
      exact this
    have eb : Txt.lower b = ⟨#[lowN (sgn b)]⟩ := by
      have := lower_fin ⟨sgn b, b1⟩
      rw [← b2] at this
      exact this
    rw [ea, eb, hl]
  simp only [e1, e2]
noncomputable def lstepF (a : Str) (bc : Str) (st : LSt) (i : Nat) : LSt :=
  let sub := st.dist + subF bc (Txt.item a (i : Int))
  let d := st.row.getD i 0
  let r0 := (if d < st.res then d else st.res) + 2
  let r := if sub < r0 then sub else r0
  ⟨d, r, if r < st.mn then r else st.mn, st.row.set i r⟩
noncomputable def linF (a : Str) (bc : Str) (st : LSt) (n : Nat) : LSt := (List.range n).foldl (lstepF a bc) st
noncomputable def onesB (a : Str) (n : Nat) : Bool := (List.range n).all fun (i : Nat) => oneB (Txt.item a (i : Int))
theorem lin_F {a bc : Str} (st : LSt) (hb : oneB bc = true) : ∀ n, onesB a n = true → lin a bc st n = linF a bc st n := by
  intro n
  induction n with
  | zero => intro _; rfl
  | succ n ih =>
    intro h
    unfold onesB at h
    rw [List.range_succ, List.all_append, Bool.and_eq_true] at h
    have e1 := ih h.1
    have h2 : oneB (Txt.item a (n : Int)) = true := by simpa using h.2
    unfold lin linF at *
    rw [List.range_succ, List.foldl_append, List.foldl_append, e1]
    show lstep a bc _ n = lstepF a bc _ n
    unfold lstep lstepF
    rw [sub_one hb h2]
noncomputable def loutF (a b : Str) (m : Int) : Nat → Nat → List Int → Int → Int
  | 0, _, _, res => res
  | f + 1, bi, row, _ =>
    let st := linF a (Txt.item b (bi : Int)) ⟨(bi : Int) * 2, (bi : Int) * 2, 9223372036854775807, row⟩ a.length
    if st.mn > m then m + 1 else loutF a b m f (bi + 1) st.row st.res
theorem lout_F {a b : Str} {m : Int} (ha : onesB a a.length = true) {N : Nat} (hb : onesB b N = true) : ∀ (f bi : Nat) (row : List Int) (res : Int), bi + f ≤ N → lout a b m f bi row res = loutF a b m f bi row res := by
  intro f
  induction f with
  | zero => intro bi row res _; rfl
  | succ f ih =>
    intro bi row res h
    have h1 : oneB (Txt.item b (bi : Int)) = true := by
      unfold onesB at hb
      rw [List.all_eq_true] at hb
      exact hb bi (List.mem_range.mpr (by omega))
    rw [lout_step]
    unfold loutF
    rw [lin_F _ h1 _ ha]
    dsimp only
    split
    · rfl
    · exact ih _ _ _ (by omega)
theorem lout_mono {a b : Str} {m : Int} (hm : 4 ≤ m) : ∀ (f bi : Nat) (row : List Int) (res : Int), lout a b 4 f bi row res ≠ 5 → lout a b m f bi row res = lout a b 4 f bi row res := by
  intro f
  induction f with
  | zero => intro bi row res _; rfl
  | succ f ih =>
    intro bi row res h
    rw [lout_step] at h ⊢
    rw [lout_step]
    dsimp only at h ⊢
    split at h
    · exact absurd rfl h
    · rename_i hle
      rw [if_neg hle, if_neg (by omega)]
      exact ih _ _ _ h
noncomputable def ltailF (a b : Str) (m : Int) : Int := if ((b.length : Int) - a.length) * 2 > m then m + 1 else loutF a b m b.length 0 ((List.range a.length).map fun (i : Nat) => 2 + 2 * (i : Int)) 0
theorem ltail_F {a b : Str} {m : Int} (ha : onesB a a.length = true) (hb : onesB b b.length = true) : ltail a b m = ltailF a b m := by
  unfold ltail ltailF
  rw [lout_F ha hb _ _ _ _ (by omega)]
theorem ltail_mono {a b : Str} {m : Int} (hm : 4 ≤ m) (h : ltail a b 4 ≠ 5) : ltail a b m = ltail a b 4 := by
  unfold ltail at h ⊢
  split at h
  · exact absurd rfl h
  · rename_i hle
    rw [if_neg hle, if_neg (by omega)]
    exact lout_mono hm _ _ _ _ h
noncomputable def lrestF (a b : Str) (m : Int) : Int :=
  if a.length = 0 ∨ b.length = 0 then 2 * ((a.length : Int) + b.length) else if b.length < a.length then ltailF b a m else ltailF a b m
theorem lrest_F {a b : Str} {m : Int} (ha : onesB a a.length = true) (hb : onesB b b.length = true) : lrest a b m = lrestF a b m := by
  unfold lrest lrestF
  rw [ltail_F ha hb, ltail_F hb ha]
theorem lrest_mono {a b : Str} {m : Int} (hm : 4 ≤ m) (h : lrest a b 4 ≠ 5) : lrest a b m = lrest a b 4 := by
  unfold lrest at h ⊢
  split
  · rfl
  · rename_i h1
    rw [if_neg h1] at h
    split
    · rename_i h2
      rw [if_pos h2] at h
      exact ltail_mono hm h
    · rename_i h2
      rw [if_neg h2] at h
      exact ltail_mono hm h
theorem lev_mono {a b : Str} {m : Int} (hm : 4 ≤ m) (h : lev a b 4 ≠ 5) : lev a b m = lev a b 4 := by
  unfold lev at h ⊢
  split
  · rfl
  · rename_i h1
    rw [if_neg h1] at h
    exact lrest_mono hm h
/-- the quick reckoning, with what it leans on -/
noncomputable def levOk (a b : Str) (r : Int) : Bool :=
  if a = b then decide (r = 0) else
  let p := preS a b 200 0
  let a1 := Txt.slice a (some p) none
  let b1 := Txt.slice b (some p) none
  let q := postS a1 b1 200 0
  let a2 := slc a1 q
  let b2 := slc b1 q
  onesB a2 a2.length && onesB b2 b2.length && decide (lrestF a2 b2 4 = r) && decide (r ≠ 5)
theorem lev_of {a b : Str} {m r : Int} (hm : 4 ≤ m) (h : levOk a b r = true) : lev a b m = r := by
  unfold levOk at h
  by_cases e : a = b
  · rw [if_pos e] at h
    unfold lev
    rw [if_pos e]
    exact (of_decide_eq_true h).symm
  · rw [if_neg e] at h
    simp only [Bool.and_eq_true, decide_eq_true_eq] at h
    obtain ⟨⟨⟨h1, h2⟩, h3⟩, h4⟩ := h
    have h5 : lev a b 4 = r := by
      unfold lev
      rw [if_neg e]
      dsimp only
      rw [lrest_F h1 h2, h3]
    rw [lev_mono hm (by rw [h5]; exact h4), h5]
/-! a text's letters moved s places on: the distance stays -/
noncomputable def shf (s : Nat) : Nat → Nat
  | 0 => 0
  | c + 1 => c + 1 + s
noncomputable def smN (c : Nat) : Bool := decide (c < 128) && (c == 0 || (65 ≤ c && c ≤ 68) || (97 ≤ c && c ≤ 100))
noncomputable def Sm (c : Nat) : Prop := smN c = true
noncomputable def AllS (x : Str) : Prop := ∀ c ∈ x.cps.toList, Sm c
theorem shf_inj {s c d : Nat} : shf s c = shf s d ↔ c = d := by
  cases c with
  | zero =>
    cases d with
    | zero => exact Iff.rfl
    | succ d => exact ⟨fun h => absurd (h.trans (Nat.succ_add d s)).symm (Nat.succ_ne_zero _), fun h => nomatch h⟩
  | succ c =>
    cases d with
    | zero => exact ⟨fun h => absurd ((Nat.succ_add c s).symm.trans h) (Nat.succ_ne_zero _), fun h => nomatch h⟩
    | succ d => exact Nat.add_right_cancel_iff
theorem shfR (s : Nat) : Ren (shf s) := ⟨rfl, fun _ _ h => shf_inj.mp h⟩
theorem slc_mapS (s : Nat) (x : Str) (q : Int) : slc (mapF (shf s) x) q = mapF (shf s) (slc x q) := by
  unfold slc
  simp only [slice_mapF]
  split <;> rfl
theorem preS_succ (a b : Str) (n : Nat) (p : Int) : preS a b (n + 1) p = if (Txt.slice a (some p) none).length = 0 then p else if (Txt.slice b (some p) none).length = 0 then p else if (Txt.item a p == Txt.item b p) = true then preS a b n (p + 1) else p := rfl
theorem postS_succ (a b : Str) (n : Nat) (q : Int) : postS a b (n + 1) q = if (slc a q).length = 0 then q else if (slc b q).length = 0 then q else if (Txt.item a (q - 1) == Txt.item b (q - 1)) = true then postS a b n (q - 1) else q := rfl
theorem pre_mapS (s : Nat) (a b : Str) (n : Nat) : ∀ (p : Int), preS (mapF (shf s) a) (mapF (shf s) b) n p = preS a b n p := by
  induction n with
  | zero => exact fun _ => rfl
  | succ n ih =>
    intro p
    rw [preS_succ, preS_succ, slice_mapF, slice_mapF, len_mapF, len_mapF, item_mapF (shfR s), item_mapF (shfR s), beq_mapF (shfR s), ih]
theorem post_mapS (s : Nat) (a b : Str) (n : Nat) : ∀ (p : Int), postS (mapF (shf s) a) (mapF (shf s) b) n p = postS a b n p := by
  induction n with
  | zero => exact fun _ => rfl
  | succ n ih =>
    intro p
    rw [postS_succ, postS_succ, slc_mapS, slc_mapS, len_mapF, len_mapF, item_mapF (shfR s), item_mapF (shfR s), beq_mapF (shfR s), ih]
theorem AllS.slice {x : Str} (h : AllS x) (l u : Option Int) : AllS (Txt.slice x l u) := by
  unfold Txt.slice
  split
  · exact h
  · intro c hc
    obtain ⟨i, _, hi⟩ := List.mem_filterMap.mp hc
    exact h c (Array.mem_toList_iff.mpr (Array.mem_of_getElem? hi))
theorem AllS.slc {x : Str} (h : AllS x) (q : Int) : AllS (slc x q) := by
  unfold Mine.slc
  split <;> exact h.slice _ _
theorem AllS.item {x : Str} (h : AllS x) (i : Int) : ∃ c, Sm c ∧ Txt.item x i = ⟨#[c]⟩ := by
  refine ⟨_, ?_, rfl⟩
  unfold Txt.charAt
  cases seqIndex? i x.length with
  | none => exact (rfl : smN 0 = true)
  | some k =>
    show Sm ((x.cps[k]?).getD 0)
    cases e : x.cps[k]? with
    | none => exact (rfl : smN 0 = true)
    | some c => exact h c (Array.mem_toList_iff.mpr (Array.mem_of_getElem? e))
theorem low_fin : ∀ s : Fin 20, ∀ c : Fin 128, smN c.val = true → lowN (shf s.val c.val) = shf s.val (lowN c.val) ∧ shf s.val c.val < 128 := by decide +kernel
theorem low_shf {s c : Nat} (hs : s < 20) (hc : Sm c) : lowN (shf s c) = shf s (lowN c) ∧ shf s c < 128 ∧ c < 128 := by
  have h : c < 128 := of_decide_eq_true (Bool.and_eq_true_iff.mp hc).1
  obtain ⟨a, b⟩ := low_fin ⟨s, hs⟩ ⟨c, h⟩ hc
  exact ⟨a, b, h⟩
theorem one_sgn {c : Nat} (h : c < 128) : oneB ⟨#[c]⟩ = true := decide_eq_true h
theorem sub_mapS {s c d : Nat} (hs : s < 20) (hc : Sm c) (hd : Sm d) : subCost (mapF (shf s) ⟨#[c]⟩) (mapF (shf s) ⟨#[d]⟩) = subCost ⟨#[c]⟩ ⟨#[d]⟩ := by
  obtain ⟨c1, c2, c3⟩ := low_shf hs hc
  obtain ⟨d1, d2, d3⟩ := low_shf hs hd
  rw [sub_one (one_sgn c3) (one_sgn d3)]
  refine (sub_one (a := ⟨#[shf s c]⟩) (b := ⟨#[shf s d]⟩) (one_sgn c2) (one_sgn d2)).trans ?_
  show (if shf s c = shf s d then (0 : Int) else if lowN (shf s c) = lowN (shf s d) then 1 else 2) = if c = d then 0 else if lowN c = lowN d then 1 else 2
  simp only [c1, d1, shf_inj]
theorem lin_mapS {s : Nat} (hs : s < 20) {a b : Str} (ha : AllS a) (hb : AllS b) (k : Int) (st : LSt) (n : Nat) : lin (mapF (shf s) a) (Txt.item (mapF (shf s) b) k) st n = lin a (Txt.item b k) st n := by
  induction n with
  | zero => rfl
  | succ n ih =>
    rw [lin_step, lin_step, ih]
    obtain ⟨c, hc, e1⟩ := ha.item (n : Int)
    obtain ⟨d, hd, e2⟩ := hb.item k
    have e : subCost (Txt.item (mapF (shf s) b) k) (Txt.item (mapF (shf s) a) (n : Int)) = subCost (Txt.item b k) (Txt.item a (n : Int)) := by
      rw [item_mapF (shfR s), item_mapF (shfR s), e1, e2, sub_mapS hs hd hc]
    unfold lstep
    rw [e]
theorem lout_mapS {s : Nat} (hs : s < 20) {a b : Str} (ha : AllS a) (hb : AllS b) (m : Int) (f : Nat) : ∀ (bi : Nat) (row : List Int) (res : Int), lout (mapF (shf s) a) (mapF (shf s) b) m f bi row res = lout a b m f bi row res := by
  induction f with
  | zero => exact fun _ _ _ => rfl
  | succ f ih =>
    intro bi row res
    rw [lout_step, lout_step, lin_mapS hs ha hb, len_mapF]
    dsimp only
    rw [ih]
theorem lrest_mapS {s : Nat} (hs : s < 20) {a b : Str} (ha : AllS a) (hb : AllS b) (m : Int) : lrest (mapF (shf s) a) (mapF (shf s) b) m = lrest a b m := by
  unfold lrest ltail
  simp only [len_mapF, lout_mapS hs ha hb, lout_mapS hs hb ha]
theorem lev_mapS {s : Nat} (hs : s < 20) {a b : Str} (ha : AllS a) (hb : AllS b) (m : Int) : lev (mapF (shf s) a) (mapF (shf s) b) m = lev a b m := by
  unfold lev
  simp only [mapF_inj (shfR s), pre_mapS, slice_mapF, post_mapS, slc_mapS]
  split
  · rfl
  · exact lrest_mapS hs ((ha.slice _ _).slc _) ((hb.slice _ _).slc _) m
theorem unl_mapS (s : Nat) (a b : Str) : unl (mapF (shf s) a) (mapF (shf s) b) = unl a b := by
  unfold unl
  simp only [item_mapF (shfR s), bne, beq_mapF (shfR s)]
theorem shf_pos {s c : Nat} (h : 0 < c) : shf s c = c + s := by
  cases c with
  | zero => exact absurd h (Nat.lt_irrefl 0)
  | succ c => rfl
theorem sg_shf (s n i : Nat) : shf s (sg 0 n i) = sg s n i := by
  unfold sg
  split
  · exact (shf_pos (Nat.lt_of_lt_of_le (Nat.zero_lt_succ 64) (Nat.le_add_right 65 i))).trans (Nat.add_right_comm 65 i s)
  · exact (shf_pos (Nat.lt_of_lt_of_le (Nat.zero_lt_succ 96) (Nat.le_add_right 97 i))).trans (Nat.add_right_comm 97 i s)
theorem spell_map (s n : Nat) : spell s n = mapF (shf s) (spell 0 n) := by
  show spell s n = ⟨#[shf s (sg 0 n 0), shf s (sg 0 n 1), shf s (sg 0 n 2), shf s (sg 0 n 3)]⟩
  simp only [sg_shf]
  rfl
theorem turnS_map (s n : Nat) : turnS s n = mapF (shf s) (turnS 0 n) := by
  unfold turnS
  rw [spell_map s n, slice_mapF, item_mapF (shfR s), app_mapF]
theorem dupS_map (s n : Nat) : dupS s n = mapF (shf s) (dupS 0 n) := by
  unfold dupS
  rw [spell_map s n, slice_mapF, item_mapF (shfR s), app_mapF]
noncomputable def smB (x : Str) : Bool := x.cps.toList.all smN
theorem AllS.of {x : Str} (h : smB x = true) : AllS x := List.all_eq_true.mp h
theorem all0 : ∀ n : Fin 16, smB (spell 0 n.val) = true ∧ smB (turnS 0 n.val) = true ∧ smB (dupS 0 n.val) = true := by decide +kernel
theorem lev_turn0 : ∀ n : Fin 16, levOk (spell 0 n.val) (turnS 0 n.val) 4 = true ∧ levOk (spell 0 n.val) (dupS 0 n.val) 2 = true := by decide +kernel
theorem lev_next0 : ∀ n : Fin 15, levOk (spell 0 n.val) (spell 0 (n.val + 1)) (unl (spell 0 n.val) (spell 0 (n.val + 1))) = true := by decide +kernel
theorem lev_great0 : ∀ n : Fin 16, levOk (spell 0 0) (spell 0 n.val) (unl (spell 0 0) (spell 0 n.val)) = true := by decide +kernel
theorem lev_turn {s n : Nat} (hs : s < 20) (hn : n < 16) {m : Int} (hm : 4 ≤ m) : lev (spell s n) (turnS s n) m = 4 ∧ lev (spell s n) (dupS s n) m = 2 := by
  obtain ⟨a1, a2, a3⟩ := all0 ⟨n, hn⟩
  obtain ⟨b1, b2⟩ := lev_turn0 ⟨n, hn⟩
  rw [spell_map s n, turnS_map s n, dupS_map s n, lev_mapS hs (.of a1) (.of a2), lev_mapS hs (.of a1) (.of a3)]
  exact ⟨lev_of hm b1, lev_of hm b2⟩
theorem lev_next {s n : Nat} (hs : s < 20) (hn : n < 15) {m : Int} (hm : 4 ≤ m) : lev (spell s n) (spell s (n + 1)) m = unl (spell s n) (spell s (n + 1)) := by
  rw [spell_map s n, spell_map s (n + 1), unl_mapS, lev_mapS hs (.of (all0 ⟨n, Nat.lt_succ_of_lt hn⟩).1) (.of (all0 ⟨n + 1, Nat.succ_lt_succ hn⟩).1)]
  exact lev_of hm (lev_next0 ⟨n, hn⟩)
theorem lev_great {s n : Nat} (hs : s < 20) (hn : n < 16) {m : Int} (hm : 4 ≤ m) : lev (spell s 0) (spell s n) m = unl (spell s 0) (spell s n) := by
  rw [spell_map s 0, spell_map s n, unl_mapS, lev_mapS hs (a := spell 0 0) (b := spell 0 n) (.of (all0 0).1) (.of (all0 ⟨n, hn⟩).1)]
  exact lev_of hm (lev_great0 ⟨n, hn⟩)
theorem wn_told0 : ∀ n : Fin 15, wn (n.val + 1) = if (unl (spell 0 n.val) (spell 0 (n.val + 1))).fmod 2 = 1 then 2 - (unl (spell 0 0) (spell 0 (n.val + 1))).fmod 2 else 0 := by decide +kernel
theorem wn_told : ∀ s : Fin 20, ∀ n : Fin 15, wn (n.val + 1) = if (unl (spell s.val n.val) (spell s.val (n.val + 1))).fmod 2 = 1 then 2 - (unl (spell s.val 0) (spell s.val (n.val + 1))).fmod 2 else 0 := fun s n => by
  rw [spell_map s.val n.val, spell_map s.val (n.val + 1), spell_map s.val 0, unl_mapS, unl_mapS]
  exact wn_told0 n
theorem wn_fin : ∀ n : Fin 16, wn n.val = 0 ∨ wn n.val = 1 ∨ wn n.val = 2 := by decide +kernel
theorem bit_told : ∀ n : Fin 16, ∀ i : Fin 4, ((Builtin.bitAnd (n.val : Int) (2 ^ i.val)).fdiv (2 ^ i.val) = 1) ↔ n.val / 2 ^ i.val % 2 = 1 := by decide +kernel

end Mine
-- Gd
example : True := by
  w_top off
  exact trivial
namespace Mine
theorem strOk_clean {x : Str} (h : Clean x) : PyData.strOk x = true := by
  unfold PyData.strOk
  rw [Array.all_eq_true']
  intro c hc
  have := h.2 c (Array.mem_toList_iff.mpr hc)
  simp only [decide_eq_true_eq]
  omega
theorem strs_dat {nw : List (Addr × Obj)} {vs : List Value} {ws : List Str} (h : StrsAre vs ws) : DatAll nw vs (ws.map .str) := by
  induction h with
  | nil => exact .nil
  | cons x t _ ih => exact .cons (.str x t) ih
theorem ints_dat {nw : List (Addr × Obj)} {vs : List Value} {ws : List Int} (h : IntsAre vs ws) : DatAll nw vs (ws.map .int) := by
  induction h with
  | nil => exact .nil
  | cons x t _ ih => exact .cons (.int x t) ih
theorem prs_dat {nw : List (Addr × Obj)} {vs : List Value} {ts : List (Addr × Obj)} {ps : List (Str × Str)} (h : Prs vs ts ps) (hs : ∀ p ∈ ts, p ∈ nw) : DatAll nw vs (ps.map fun p => .tuple [.str p.1, .str p.2]) := by
  induction h with
  | nil => exact .nil
  | cons t a b ta tb n _ ih =>
    exact .cons (.tuple (vs := [.str a ta, .str b tb]) (hs _ List.mem_cons_self) (.cons (.str _ _) (.cons (.str _ _) .nil))) (ih fun p hp => hs p (List.mem_cons_of_mem _ hp))
section
variable {prog : Program} {w : World} {A : Around} {E : Value → Shared → Prop} {s : Shared} {h₀ : Heap} {L a b : Addr} {m : Str → Option Value} {news : List (Addr × Obj)} {oa ob : Obj} {xs ys : List Value} {ka kb : Nat} {ds : List Dat} {Q : Value → Shared → Prop}
/-- two lists of the same data: not unlike -/
theorem ne_same_dat (N : News h₀ L s.heap news) (ma : (a, oa) ∈ news) (ca : oa.cls = .type "list") (da : oa.data = .seq xs.toArray ka) (Da : DatAll news xs ds) (mb : (b, ob) ∈ news) (cb : ob.cls = .type "list") (db : ob.data = .seq ys.toArray kb) (Db : DatAll news ys ds)
    (ha : ∀ d ∈ ds, kqdOk 8 d = true) (hu : A.units + 64 < cLine) (h : Q (.bool false) s) : wpAny (model prog w) A (compareOp .NotEq (.ref a) (.ref b)) Q E s := by
  refine kqd_ne N ma ca da Da (fun _ h => h) mb cb db Db (fun _ h => h) ha ha hu ?_
  simpa using h
theorem eq_same_dat (N : News h₀ L s.heap news) (ma : (a, oa) ∈ news) (ca : oa.cls = .type "list") (da : oa.data = .seq xs.toArray ka) (Da : DatAll news xs ds) (mb : (b, ob) ∈ news) (cb : ob.cls = .type "list") (db : ob.data = .seq ys.toArray kb) (Db : DatAll news ys ds)
    (ha : ∀ d ∈ ds, kqdOk 8 d = true) (hu : A.units + 64 < cLine) (h : Q (.bool true) s) : wpAny (model prog w) A (compareOp .Eq (.ref a) (.ref b)) Q E s := by
  refine kqd_eq N ma ca da Da (fun _ h => h) mb cb db Db (fun _ h => h) ha ha hu ?_
  simpa using h
end
theorem ok_strs {ws : List Str} (h : ∀ x ∈ ws, Clean x) : ∀ d ∈ ws.map Dat.str, kqdOk 8 d = true := by
  intro d hd
  obtain ⟨x, hx, rfl⟩ := List.mem_map.mp hd
  exact strOk_clean (h x hx)
theorem ok_ints {ws : List Int} : ∀ d ∈ ws.map Dat.int, kqdOk 8 d = true := by
  intro d hd
  obtain ⟨x, hx, rfl⟩ := List.mem_map.mp hd
  rfl
theorem ok_prs {ps : List (Str × Str)} (h : ∀ p ∈ ps, Clean p.1 ∧ Clean p.2) : ∀ d ∈ ps.map (fun p => Dat.tuple [.str p.1, .str p.2]), kqdOk 8 d = true := by
  intro d hd
  obtain ⟨x, hx, rfl⟩ := List.mem_map.mp hd
  obtain ⟨h1, h2⟩ := h x hx
  show ([Dat.str x.1, Dat.str x.2].all (kqdOk 7)) = true
  simp only [List.all_cons, List.all_nil, Bool.and_true, Bool.and_eq_true]
  exact ⟨strOk_clean h1, strOk_clean h2⟩
theorem News_sub {h₀ h : Heap} {L : Addr} {a : List (Addr × Obj)} (b : List (Addr × Obj)) (N : News h₀ L h a) (hs : ∀ p ∈ b, p ∈ a) : News h₀ L h b := fun p hp => N p (hs p hp)
theorem ledger_ne {h₀ h : Heap} {L a b : Addr} {nw : List (Addr × Obj)} {o o' : Obj} (N : News h₀ L h nw) (ha : (a, o) ∈ nw) (hb : (b, o') ∈ nw) (h : o ≠ o') : @Ne Nat a b := by
  intro e
  have e1 := (N _ ha).1
  have e2 := (N _ hb).1
  have e' : a = b := e
  dsimp only at e1 e2
  rw [e', e2] at e1
  exact h (Option.some.inj e1).symm
/-- what holds of the rows' tuples: a list's or a cell's address is none of theirs -/
theorem Prs.off_list {vs ts ps} (h : Prs vs ts ps) {h₀ g : Heap} {L a : Addr} {nw : List (Addr × Obj)} {o : Obj} (N : News h₀ L g nw) (ha : (a, o) ∈ nw) (hc : o.cls = .type "list") (hs : ∀ p ∈ ts, p ∈ nw) : a ∉ addrs ts := by
  intro hm
  obtain ⟨p, hp, e⟩ := List.mem_map.mp hm
  have hcl := h.cls p hp
  refine ledger_ne N (hs p hp) ha (fun z => ?_) e
  rw [z, hc] at hcl
  exact absurd (Value.type.inj hcl) (by decide)
theorem Prs.seq {vs ts ps} (h : Prs vs ts ps) : ∀ p ∈ ts, ∃ its n, p.2.data = .seq its n := by
  induction h with
  | nil => exact fun _ h => nomatch h
  | cons t a b ta tb n _ ih =>
    intro p hp
    rcases List.mem_cons.mp hp with rfl | hp
    · exact ⟨_, _, rfl⟩
    · exact ih p hp
theorem Prs.off_cell {vs ts ps} (h : Prs vs ts ps) {h₀ g : Heap} {L a : Addr} {nw : List (Addr × Obj)} {o : Obj} {v : Option Value} (N : News h₀ L g nw) (ha : (a, o) ∈ nw) (hc : o.data = .cell v) (hs : ∀ p ∈ ts, p ∈ nw) : a ∉ addrs ts := by
  intro hm
  obtain ⟨p, hp, e⟩ := List.mem_map.mp hm
  obtain ⟨its, n, hcl⟩ := h.seq p hp
  refine ledger_ne N (hs p hp) ha (fun z => ?_) e
  rw [z, hc] at hcl
  cases hcl
section
variable {prog : Program} {w : World} {A : Around} {E : Value → Shared → Prop} {s : Shared} {h₀ : Heap} {L a b : Addr} {m : Str → Option Value} {news : List (Addr × Obj)} {d : Dat} {Q : Value → Shared → Prop}
/-- two objects of one datum are equal -/
theorem eq_dat_same (N : News h₀ L s.heap news) (Dx : DatIn news (.ref a) d) (Dy : DatIn news (.ref b) d) (hd : kqdOk 8 d = true) (hu : A.units + 64 < cLine) (h : Q (.bool true) s) : wpAny (model prog w) A (compareOp .Eq (.ref a) (.ref b)) Q E s := by
  obtain ⟨as, ra⟩ := kqd_in N 8 Dx hd
  obtain ⟨bs, rb⟩ := kqd_in N 8 Dy hd
  have la := kqd_lay 8 d hd
  have e : PyData.eqv (kqdP d) (kqdP d) = true := (kqd_eqv 8 d d 8 hd hd).mpr rfl
  refine eq_dataH ra rb ?_ ?_ hu (by rw [e]; exact h)
  · unfold SeqAt.shaped; rw [la.1, Bool.true_and]; exact decide_eq_true (Nat.le_trans la.2 (by decide))
  · unfold SeqAt.shaped; rw [la.1, Bool.true_and]; exact decide_eq_true (Nat.le_trans la.2 (by decide))
end
/-- a list of pairs of one text and an int -/
inductive Pis (host : Str) : List Value → List (Addr × Obj) → List Int → Prop
  | nil : Pis host [] [] []
  | cons (t : Addr) (x : Int) (ta tb : Tok) (n : Nat) {vs ts ps} : Pis host vs ts ps → Pis host (.ref t :: vs) ((t, { cls := .type "tuple", data := .seq #[.str host ta, .int x tb] n }) :: ts) (x :: ps)
theorem Pis.length {host vs ts ps} (h : Pis host vs ts ps) : vs.length = ps.length := by induction h with | nil => rfl | cons => simp_all
theorem Pis.append {host vs ts ps} (h : Pis host vs ts ps) {vs' ts' ps'} (h' : Pis host vs' ts' ps') : Pis host (vs ++ vs') (ts ++ ts') (ps ++ ps') := by
  induction h with
  | nil => exact h'
  | cons t x ta tb n _ ih => exact .cons t x ta tb n ih
theorem Pis.at {host vs ts ps} (h : Pis host vs ts ps) : ∀ {i : Nat} {v : Value}, vs[i]? = some v → ∃ (t : Addr) (x : Int) (ta tb : Tok) (n : Nat), v = .ref t ∧ ps[i]? = some x ∧ (t, ({ cls := .type "tuple", data := .seq #[.str host ta, .int x tb] n } : Obj)) ∈ ts := by
  induction h with
  | nil => intro i v h; simp at h
  | cons t x ta tb n _ ih =>
    intro i v h
    cases i with
    | zero => simp at h; subst h; exact ⟨t, x, ta, tb, n, rfl, rfl, List.mem_cons_self⟩
    | succ i =>
      simp at h
      obtain ⟨t', x', ta', tb', n', e, e2, hm⟩ := ih h
      exact ⟨t', x', ta', tb', n', e, by simpa using e2, List.mem_cons_of_mem _ hm⟩
theorem off3_of {I C D : Addr} {l : List (Addr × Obj)} (h : ∀ p ∈ l, @Ne Nat p.1 I ∧ @Ne Nat p.1 C ∧ @Ne Nat p.1 D) : LCg.Off3 I C D l := LCg.Off3.of h
theorem nmT {h₀ h : Heap} {L d : Addr} {host : Str} {x : Int} {ta tb : Tok} {n : Nat} {rest : List (Addr × Obj)} (_ : News h₀ L h ([(d, { cls := .type "tuple", data := .seq #[.str host ta, .int x tb] n })] ++ rest)) : ∃ d' tb' n', d' = d ∧ tb' = tb ∧ n' = n := ⟨d, tb, n, rfl, rfl, rfl⟩

end Mine
-- Gl
example : True := by
  w_top off
  exact trivial
namespace Mine
section
variable {prog : Program} {w : World} {A : Around} {E : Value → Shared → Prop} {s : Shared} {env : Env} {h₀ : Heap} {x : Str} {body : List Stmt} {Q : Flow → Shared → Prop}
/-- a loop over a list of the ledger that no turn changes -/
theorem lst_loop {σ : Type} {ax : Addr} {its : Array Value} {kc : Nat} {m₀ : Str → Option Value} (Led : σ → List (Addr × Obj)) (ps : σ → List (Str × Value)) (stored : List Str) (P : Nat → σ → Prop) (c₀ : σ)
    (hh : A.handled = none) (hm : ∀ c, (ax, ({ cls := .type "list", data := .seq its kc } : Obj)) ∈ Led c) (F : Fr h₀ env.locals s.heap m₀) (N : News h₀ env.locals s.heap (Led c₀)) (hk : ∀ p ∈ ps c₀, m₀ p.1 = some p.2) (hp : P 0 c₀)
    (turn : ∀ (c : σ) (i : Nat) (v : Value) (u : Str → Option Value) h tk I oI, its[i]? = some v → i < its.size → LCg.Off1 I (Led c) → P i c → Fr h₀ env.locals h (fun y => if y = x then some v else kstB (fun z => if stored.contains z then u z else m₀ z) (ps c) y) → News h₀ env.locals h ((I, oI) :: Led c) →
      wpAny (model prog w) A (execs body env) (RngPost h₀ env.locals Led ps x stored m₀ (P (i + 1)) I oI { s with heap := h, toks := tk } Q) E { s with heap := h, toks := tk })
    (done : ∀ (c : σ) (u : Str → Option Value) h tk, P its.size c → Fr h₀ env.locals h (fun y => if y = x then u y else kstB (fun z => if stored.contains z then u z else m₀ z) (ps c) y) → News h₀ env.locals h (Led c) → Q .next { s with heap := h, toks := tk }) :
    wpAny (model prog w) A (pyIter (.ref ax)) (fun it s₂ => LoopAtV prog w A h₀ env x body Q E it s₂) E s := by
  have hl : s.heap.IsList ax its := ⟨_, (N _ (hm c₀)).1, rfl, _, rfl⟩
  have hlt : ax < s.heap.objs.size := Heap.lt_size (N _ (hm c₀)).1
  refine wpAny_pyIter_list hl ?_
  have up : ∀ b o, s.heap.get? b = some o → (s.heap.push { cls := .type "list_iterator", data := .fields #[.ref ax, .int 0 0] }).get? b = some o := fun b o e => Heap.get?_push_of_some _ e
  have hnI : ax ≠ s.heap.objs.size := Nat.ne_of_lt hlt
  have W := Walks.list (prog := prog) (w := w) (A := A) hh s.heap.objs.size ax hnI its
  have hI0 : h₀.get? s.heap.objs.size = none := next_is_new F
  have hIL : env.locals ≠ s.heap.objs.size := Nat.ne_of_lt F.ns.lt
  have haL : env.locals ≠ ax := Ne.symm (N _ (hm c₀)).2.1
  have offI : ∀ p ∈ Led c₀, p.1 ≠ s.heap.objs.size := fun p hp => Nat.ne_of_lt (Heap.lt_size (N p hp).1)
  let J : Nat → (Str → Option Value) → List (Addr × Obj) → Prop := fun i m nx => ∃ c : σ, nx = Led c ∧ (∀ p ∈ ps c, m p.1 = some p.2) ∧ (∀ z, z ≠ x → (∀ p ∈ ps c, z ≠ p.1) → stored.contains z = false → m z = m₀ z) ∧ P i c
  generalize hIe : s.heap.objs.size = I at hnI W hI0 hIL offI ⊢
  refine ⟨I, _, _, its.size, _, _, m₀, Led c₀, J, rfl, W, by simp [hIL, haL], by simpa using hI0, fun p hp => by simpa using offI p hp, ⟨⟨_, hIe ▸ Heap.get?_push_size _ rfl, rfl, rfl⟩, hl.at fun o e => up _ _ e⟩, F.keeps up, N.grown up, ⟨c₀, rfl, hk, fun _ _ _ _ => rfl, hp⟩, ?_, ?_⟩
  · rintro i v m₁ news₁ s₁ own ⟨hh', tk', rfl⟩ hin hv ⟨c, rfl, h1, h2, hp'⟩ hoff hown hal hall hst' F₁ N₁
    obtain ⟨oI, heI⟩ : ∃ o, hh'.get? I = some o := by obtain ⟨⟨o, e, _⟩, _⟩ := hst'; exact ⟨o, e⟩
    have hio : (I, oI) ∈ own := hall I (by simp) hI0 oI heI
    have off' : ∀ p ∈ Led c, p.1 ≠ I := fun p hp => by simpa using hoff p hp
    have of1 : ∀ {l : List (Addr × Obj)}, (∀ p ∈ l, p.1 ≠ I) → LCg.Off1 I l := by
      intro l
      induction l with
      | nil => intro _; trivial
      | cons p r ih => intro h; exact ⟨h p List.mem_cons_self, ih fun q hq => h q (List.mem_cons_of_mem _ hq)⟩
    have N₂ : News h₀ env.locals hh' ((I, oI) :: Led c) := fun p hp => by
      rcases List.mem_cons.mp hp with rfl | hp
      · exact N₁ _ (List.mem_append_left _ hio)
      · exact N₁ _ (List.mem_append_right _ hp)
    refine wpAny_mono (turn c i v m₁ hh' tk' I oI hv hin (of1 off') hp' (kst_fr h1 h2 F₁) N₂) (fun f s₂ p => ?_) fun _ _ e => e
    have fin : RngEnd h₀ env.locals Led ps x stored m₀ (P (i + 1)) I oI { s with heap := hh', toks := tk' } s₂ → LoopStepU h₀ env.locals [I] own (J (i + 1)) { s with heap := hh', toks := tk' } .next s₂ := by
      rintro ⟨c', h', tk, m', news', e, F', N', hi', hn', ho', hk', hr', hp'⟩
      refine ⟨rfl, h', tk, m', Led c', e, F', fun p hp => ?_, fun p hp => by simpa using ho' p hp, c', rfl, hk', hr', hp'⟩
      rcases List.mem_append.mp hp with q | q
      · have hp1 : p.1 = I ∨ p.1 = ax := by simpa using hown p q
        rcases hp1 with z | z
        · have ee := hal p q
          dsimp only at ee
          rw [z, heI] at ee
          have : p = (I, oI) := Prod.ext z (Option.some.inj ee).symm
          rw [this]
          exact N' _ hi'
        · have ee := hal p q
          dsimp only at ee
          have e2 := (N₂ _ (.tail _ (hm c))).1
          rw [z, e2] at ee
          have : p = (ax, ({ cls := .type "list", data := .seq its kc } : Obj)) := Prod.ext z (Option.some.inj ee).symm
          rw [this]
          exact N' _ (hn' _ (hm c'))
      · exact N' p (hn' p q)
    cases f with
    | ret v => exact .ret p
    | brk => exact .brk p
    | next => exact .next (fin p)
    | cont => exact .cont (fin p)
  · rintro h' tk m' news' F' N' _ ⟨c, rfl, h1, h2, hp'⟩
    exact done c m' h' tk hp' (kst_frOut h1 h2 F') N'
end

end Mine
-- Wd3
example : True := by
  w_top off
  exact trivial
namespace Mine
/-! the game, in plain words -/
noncomputable def kx (sz : Nat → Nat) : Int := Builtin.bitXor (wn (sz 0)) (Builtin.bitXor (wn (sz 1)) (wn (sz 2)))
noncomputable def wy (key : Int) (s m : Nat) : Int := Builtin.bitXor key (Builtin.bitXor (wn s) (wn m))
noncomputable def wayK (key : Int) (k s : Nat) : List (Int × Nat × Nat) := if s = 0 then [] else [(wy key s (s - 1), k, s - 1), (wy key s (s / 2), k, s / 2)]
noncomputable def waysU (sz : Nat → Nat) : Nat → List (Int × Nat × Nat)
  | 0 => []
  | k + 1 => waysU sz k ++ wayK (kx sz) k (sz k)
noncomputable def upd {α : Type} (f : Nat → α) (k : Nat) (v : α) : Nat → α := fun j => if j = k then v else f j
noncomputable def tri (a b c : Nat) : Nat → Nat := fun k => if k = 0 then a else if k = 1 then b else c
theorem game_fin : ∀ a b c : Fin 8, ((waysU (tri a.val b.val c.val) 3).filter (fun y => y.1 == 0) = [] ↔ kx (tri a.val b.val c.val) = 0) ∧ (waysU (tri a.val b.val c.val) 3 = [] → kx (tri a.val b.val c.val) = 0) := by decide +kernel
theorem wn_v {n : Nat} (h : n < 8) : ∃ v : Fin 3, wn n = (v.val : Int) := by
  rcases wn_fin ⟨n, Nat.lt_trans h (by decide)⟩ with e | e | e
  · exact ⟨0, e⟩
  · exact ⟨1, e⟩
  · exact ⟨2, e⟩
theorem bx_fin : ∀ a b c m : Fin 3, Builtin.bitXor (Builtin.bitXor a.val (Builtin.bitXor b.val c.val)) (Builtin.bitXor a.val m.val) = Builtin.bitXor m.val (Builtin.bitXor b.val c.val) ∧
    Builtin.bitXor (Builtin.bitXor a.val (Builtin.bitXor b.val c.val)) (Builtin.bitXor b.val m.val) = Builtin.bitXor a.val (Builtin.bitXor m.val c.val) ∧
    Builtin.bitXor (Builtin.bitXor a.val (Builtin.bitXor b.val c.val)) (Builtin.bitXor c.val m.val) = Builtin.bitXor a.val (Builtin.bitXor b.val m.val) := by decide +kernel
theorem wy_upd {sz : Nat → Nat} (h : ∀ k, k < 3 → sz k < 8) {k m : Nat} (hk : k < 3) (hm : m < 8) : wy (kx sz) (sz k) m = kx (upd sz k m) := by
  obtain ⟨a, ea⟩ := wn_v (h 0 (by decide))
  obtain ⟨b, eb⟩ := wn_v (h 1 (by decide))
  obtain ⟨c, ec⟩ := wn_v (h 2 (by decide))
  obtain ⟨v, ev⟩ := wn_v hm
  obtain ⟨f0, f1, f2⟩ := bx_fin a b c v
  match k, hk with
  | 0, _ => show Builtin.bitXor (Builtin.bitXor (wn (sz 0)) (Builtin.bitXor (wn (sz 1)) (wn (sz 2)))) (Builtin.bitXor (wn (sz 0)) (wn m)) = Builtin.bitXor (wn m) (Builtin.bitXor (wn (sz 1)) (wn (sz 2))); rw [ea, eb, ec, ev]; exact f0
  | 1, _ => show Builtin.bitXor (Builtin.bitXor (wn (sz 0)) (Builtin.bitXor (wn (sz 1)) (wn (sz 2)))) (Builtin.bitXor (wn (sz 1)) (wn m)) = Builtin.bitXor (wn (sz 0)) (Builtin.bitXor (wn m) (wn (sz 2))); rw [ea, eb, ec, ev]; exact f1
  | 2, _ => show Builtin.bitXor (Builtin.bitXor (wn (sz 0)) (Builtin.bitXor (wn (sz 1)) (wn (sz 2)))) (Builtin.bitXor (wn (sz 2)) (wn m)) = Builtin.bitXor (wn (sz 0)) (Builtin.bitXor (wn (sz 1)) (wn m)); rw [ea, eb, ec, ev]; exact f2
theorem ways_mem {sz : Nat → Nat} {n : Nat} {y : Int × Nat × Nat} (hy : y ∈ waysU sz n) : y.2.1 < n ∧ y.2.2 < sz y.2.1 ∧ y.1 = wy (kx sz) (sz y.2.1) y.2.2 := by
  induction n with
  | zero => cases hy
  | succ n ih =>
    rcases List.mem_append.mp hy with q | q
    · exact ⟨Nat.lt_succ_of_lt (ih q).1, (ih q).2⟩
    · unfold wayK at q
      split at q
      · cases q
      · rename_i h0
        have hp : 0 < sz n := Nat.pos_of_ne_zero h0
        rcases List.mem_cons.mp q with q | q
        · rw [q]; exact ⟨Nat.lt_succ_self n, Nat.sub_lt hp (by decide), rfl⟩
        · rw [List.mem_singleton.mp q]; exact ⟨Nat.lt_succ_self n, Nat.div_lt_self hp (by decide), rfl⟩
theorem waysU_congr {f g : Nat → Nat} (h0 : f 0 = g 0) (h1 : f 1 = g 1) (h2 : f 2 = g 2) : waysU f 3 = waysU g 3 := by
  have hk : kx f = kx g := by unfold kx; rw [h0, h1, h2]
  simp only [waysU, hk, h0, h1, h2]
theorem kx_congr {f g : Nat → Nat} (h0 : f 0 = g 0) (h1 : f 1 = g 1) (h2 : f 2 = g 2) : kx f = kx g := by unfold kx; rw [h0, h1, h2]
theorem game {sz : Nat → Nat} (h : ∀ k, k < 3 → sz k < 8) : ((waysU sz 3).filter (fun y => y.1 == 0) = [] ↔ kx sz = 0) ∧ (waysU sz 3 = [] → kx sz = 0) ∧ ∀ y ∈ waysU sz 3, y.2.1 < 3 ∧ y.2.2 < sz y.2.1 ∧ y.1 = kx (upd sz y.2.1 y.2.2) := by
  obtain ⟨g1, g2⟩ := game_fin ⟨sz 0, h 0 (by decide)⟩ ⟨sz 1, h 1 (by decide)⟩ ⟨sz 2, h 2 (by decide)⟩
  have e0 : tri (sz 0) (sz 1) (sz 2) 0 = sz 0 := rfl
  have e1 : tri (sz 0) (sz 1) (sz 2) 1 = sz 1 := rfl
  have e2 : tri (sz 0) (sz 1) (sz 2) 2 = sz 2 := rfl
  dsimp only at g1 g2
  rw [waysU_congr e0 e1 e2, kx_congr e0 e1 e2] at g1 g2
  refine ⟨g1, g2, fun y hy => ?_⟩
  obtain ⟨a, b, c⟩ := ways_mem hy
  exact ⟨a, b, c.trans (wy_upd h a (Nat.lt_trans b (h _ a)))⟩
noncomputable def nmS (k : Nat) (f : Bool) : Str := ⟨#[if f then 88 + k else 120 + k]⟩
theorem nmS_fin : ∀ k : Fin 3, ∀ f : Bool, Txt.swapcase (nmS k.val f) = nmS k.val (!f) ∧ Txt.lower (nmS k.val f) = nmS k.val false ∧ cleanB (nmS k.val f) = true := by decide +kernel
theorem nmS_ne : ∀ k j : Fin 3, (nmS k.val false != nmS j.val false) = (k.val != j.val) := by decide +kernel
theorem nmS_item : ∀ k : Fin 3, Txt.item (Str.ofString "xyz") (k.val : Int) = nmS k.val false ∧ Txt.item (Str.ofString "XYZ") (k.val : Int) = nmS k.val true := by decide +kernel
theorem dq_fin : ∀ s : Fin 8, (dq s.val).length = s.val ∧ cleanB (dq s.val) = true ∧ Txt.slice (dq (s.val + 1)) (some 1) none = dq s.val ∧ (dq (s.val + 1) != Str.ofString "") = true := by decide +kernel
theorem lev_row : ∀ s : Fin 8, lev (dq (s.val + 1)) (dq s.val) 0 = 2 * (((s.val + 1 : Nat) : Int) - ((s.val : Nat) : Int)) ∧ lev (dq (s.val + 1)) (dq ((s.val + 1) / 2)) 0 = 2 * (((s.val + 1 : Nat) : Int) - (((s.val + 1) / 2 : Nat) : Int)) := by decide +kernel
noncomputable def perms6 : List (List Nat) := [[0, 1, 2], [0, 2, 1], [1, 0, 2], [1, 2, 0], [2, 0, 1], [2, 1, 0]]
theorem perms6_go : ∀ o ∈ perms6, ∀ k : Fin 3, (o.filter (fun j => j != k.val)) ++ [k.val] ∈ perms6 := by decide +kernel
theorem perms6_len : ∀ o ∈ perms6, o.length = 3 ∧ ∀ k ∈ o, k < 3 := by decide +kernel
theorem perms6_has : ∀ o ∈ perms6, ∀ k : Fin 3, k.val ∈ o := by decide +kernel
/-- the rows as they lie -/
noncomputable def rowsP (fs : Nat → Bool) (sz : Nat → Nat) (ord : List Nat) : List (Str × Str) := ord.map fun k => (nmS k (fs k), dq (sz k))
theorem rowsP_go {fs : Nat → Bool} {sz : Nat → Nat} {ord : List Nat} (ho : ord ∈ perms6) {k m : Nat} (hk : k < 3) :
    ((rowsP fs sz ord).filter fun p => Txt.lower p.1 != Txt.lower (nmS k (!fs k))) ++ [(nmS k (!fs k), dq m)] = rowsP (upd fs k (!fs k)) (upd sz k m) (ord.filter (fun j => j != k) ++ [k]) := by
  have hl := (perms6_len ord ho).2
  unfold rowsP
  rw [List.map_append, List.filter_map]
  have e1 : (ord.filter ((fun p : Str × Str => Txt.lower p.1 != Txt.lower (nmS k (!fs k))) ∘ fun k => (nmS k (fs k), dq (sz k)))) = ord.filter (fun j => j != k) := by
    refine List.filter_congr fun j hj => ?_
    show (Txt.lower (nmS j (fs j)) != Txt.lower (nmS k (!fs k))) = (j != k)
    rw [(nmS_fin ⟨j, hl j hj⟩ (fs j)).2.1, (nmS_fin ⟨k, hk⟩ (!fs k)).2.1]
    exact nmS_ne ⟨j, hl j hj⟩ ⟨k, hk⟩
  rw [e1]
  congr 1
  · refine List.map_congr_left fun j hj => ?_
    have hne : j ≠ k := by have := (List.mem_filter.mp hj).2; simpa using this
    simp [upd, hne]
  · simp [upd]
theorem look_told {fs : Nat → Bool} {sz : Nat → Nat} {o0 o1 o2 : Nat} (ho : [o0, o1, o2] ∈ perms6) {k : Nat} (hk : k < 3) (b : Bool) :
    look3 (nmS k b) (nmS o0 (fs o0)) (nmS o1 (fs o1)) (nmS o2 (fs o2)) (dq (sz o0)) (dq (sz o1)) (dq (sz o2)) = dq (sz k) ∧ (Txt.lower (nmS o0 (fs o0)) = Txt.lower (nmS k b) ∨ Txt.lower (nmS o1 (fs o1)) = Txt.lower (nmS k b) ∨ Txt.lower (nmS o2 (fs o2)) = Txt.lower (nmS k b)) := by
  have hl := (perms6_len _ ho).2
  have hh := perms6_has _ ho ⟨k, hk⟩
  have l0 : o0 < 3 := hl _ (.head _)
  have l1 : o1 < 3 := hl _ (.tail _ (.head _))
  have l2 : o2 < 3 := hl _ (.tail _ (.tail _ (.head _)))
  have inj : ∀ i j : Nat, i < 3 → j < 3 → (nmS i false = nmS j false ↔ i = j) := fun i j hi hj => by
    have := nmS_ne ⟨i, hi⟩ ⟨j, hj⟩
    dsimp only at this
    constructor
    · intro e
      rw [e] at this
      simpa using this
    · intro e; rw [e]
  unfold look3
  rw [(nmS_fin ⟨o0, l0⟩ (fs o0)).2.1, (nmS_fin ⟨o1, l1⟩ (fs o1)).2.1, (nmS_fin ⟨o2, l2⟩ (fs o2)).2.1, (nmS_fin ⟨k, hk⟩ b).2.1]
  simp only [inj _ _ l0 hk, inj _ _ l1 hk, inj _ _ l2 hk]
  simp only [List.mem_cons, List.not_mem_nil, or_false] at hh
  constructor
  · split
    · rename_i e; rw [e]
    · split
      · rename_i e; rw [e]
      · rename_i e1 e2
        rcases hh with e | e | e
        · exact absurd e.symm e1
        · exact absurd e.symm e2
        · rw [e]
  · rcases hh with e | e | e
    · exact .inl e.symm
    · exact .inr (.inl e.symm)
    · exact .inr (.inr e.symm)
/-- who is to win -/
noncomputable def Jg (i : Nat) (key fst : Int) : Prop := key ≠ 0 ↔ (fst ≠ 0 ↔ i % 2 = 0)

end Mine
-- Gp
example : True := by
  w_top off
  exact trivial
namespace Mine
section
variable {w : World} {dp un : Nat} {fr : Option (List Env)} {gd : Option (List Code)} {s : Shared} {Q E : Value → Shared → Prop} {f : Addr} {vs : List Value} {kw : List (Str × Value)}
/-- a call that only makes new objects -/
theorem MCall2.more {k : Nat} {own news : List (Addr × Obj)} {P : Value → List (Addr × Obj) → Prop} {h₀ : Heap} {L : Addr} {m : Str → Option Value}
    (C : MCall2 w f vs kw k s.heap own (fun v own' => ∃ ex, own' = ex ++ own ∧ P v ex)) (hd : dp + k < recursionLimit) (hu : un + 8 * k < cLine) (F : Fr h₀ L s.heap m) (N : News h₀ L s.heap news) (ho : ∀ p ∈ own, p ∈ news)
    (h : ∀ v ex h' tk', P v ex → Fr h₀ L h' m → News h₀ L h' (ex ++ news) → (∀ p ∈ ex, p.1 ∈ addrs own ∨ ∀ q ∈ news, p.1 ≠ q.1) → Q v { s with heap := h', toks := tk' }) :
    wpAny (model PySem.Challenge.rw_wo0076_01.row.prog w) ⟨none, dp, fr, gd, un⟩ (call (.ref f) vs kw) Q E s := by
  classical
  refine MCall2.use (own := own) (rest := news.filter fun p => decide (p.1 ∉ addrs own)) C hd hu F N ho (fun p hp => (List.mem_filter.mp hp).1) (fun p hp => of_decide_eq_true (List.mem_filter.mp hp).2) fun v own' h' tk' hP F' N' ha => ?_
  obtain ⟨ex, rfl, hP⟩ := hP
  have back : ∀ p ∈ news, p ∈ own ∨ p ∈ news.filter fun p => decide (p.1 ∉ addrs own) := fun p hp => by
    by_cases hm : p.1 ∈ addrs own
    · left
      obtain ⟨p0, hp0, e0⟩ := List.mem_map.mp hm
      have e1 := (N p0 (ho p0 hp0)).1
      rw [e0, (N p hp).1] at e1
      have : p0 = p := Prod.ext e0 (Option.some.inj e1).symm
      exact this ▸ hp0
    · exact .inr (List.mem_filter.mpr ⟨hp, decide_eq_true hm⟩)
  refine h v ex h' tk' hP F' (fun p hp => ?_) (fun p hp => ?_)
  · rcases List.mem_append.mp hp with q | q
    · exact N' p (List.mem_append_left _ (List.mem_append_left _ q))
    · rcases back p q with z | z
      · exact N' p (List.mem_append_left _ (List.mem_append_right _ z))
      · exact N' p (List.mem_append_right _ z)
  · rcases ha p (List.mem_append_left _ hp) with z | z
    · exact .inl z
    · refine .inr fun q hq => ?_
      rcases back q hq with y | y
      · exact z q (List.mem_append_left _ y)
      · exact z q (List.mem_append_right _ y)
/-- a call that leaves what it is handed as it was -/
theorem MCall2.same {k : Nat} {own news : List (Addr × Obj)} {P : Value → Prop} {h₀ : Heap} {L : Addr} {m : Str → Option Value}
    (C : MCall2 w f vs kw k s.heap own (fun v own' => own' = own ∧ P v)) (hd : dp + k < recursionLimit) (hu : un + 8 * k < cLine) (F : Fr h₀ L s.heap m) (N : News h₀ L s.heap news) (ho : ∀ p ∈ own, p ∈ news)
    (h : ∀ v h' tk', P v → Fr h₀ L h' m → News h₀ L h' news → Q v { s with heap := h', toks := tk' }) :
    wpAny (model PySem.Challenge.rw_wo0076_01.row.prog w) ⟨none, dp, fr, gd, un⟩ (call (.ref f) vs kw) Q E s := by
  refine MCall2.more (P := fun v ex => ex = [] ∧ P v) (fun dp un fr gd s Q E a b c d => C dp un fr gd s Q E a b c fun v h' tk' e r => d v h' tk' e ?_) hd hu F N ho fun v ex h' tk' hP F' N' _ => ?_
  · obtain ⟨own', ⟨rfl, hp⟩, hH⟩ := r
    exact ⟨_, ⟨[], rfl, rfl, hp⟩, hH⟩
  · obtain ⟨rfl, hp⟩ := hP
    exact h v h' tk' hp F' N'
end
/-- the ways of a turn, as they lie: an int, a row's number, what is left -/
inductive Wys : List Value → List (Addr × Obj) → List (Int × Nat × Nat) → Prop
  | nil : Wys [] [] []
  | cons (t : Addr) (x : Int) (k m : Nat) (ta tb tc : Tok) (n : Nat) {vs ts ps} : Wys vs ts ps → Wys (.ref t :: vs) ((t, { cls := .type "tuple", data := .seq #[.int x ta, .int (k : Int) tb, .str (dq m) tc] n }) :: ts) ((x, k, m) :: ps)
theorem Wys.length {vs ts ps} (h : Wys vs ts ps) : vs.length = ps.length := by induction h with | nil => rfl | cons => simp_all
theorem Wys.append {vs ts ps} (h : Wys vs ts ps) {vs' ts' ps'} (h' : Wys vs' ts' ps') : Wys (vs ++ vs') (ts ++ ts') (ps ++ ps') := by
  induction h with
  | nil => exact h'
  | cons t x k m ta tb tc n _ ih => exact .cons t x k m ta tb tc n ih
theorem Wys.at {vs ts ps} (h : Wys vs ts ps) : ∀ {i : Nat} {v : Value}, vs[i]? = some v → ∃ (t : Addr) (x : Int) (k m : Nat) (ta tb tc : Tok) (n : Nat), v = .ref t ∧ ps[i]? = some (x, k, m) ∧ (t, ({ cls := .type "tuple", data := .seq #[.int x ta, .int (k : Int) tb, .str (dq m) tc] n } : Obj)) ∈ ts := by
  induction h with
  | nil => intro i v h; simp at h
  | cons t x k m ta tb tc n _ ih =>
    intro i v h
    cases i with
    | zero => simp at h; subst h; exact ⟨t, x, k, m, ta, tb, tc, n, rfl, rfl, List.mem_cons_self⟩
    | succ i =>
      simp at h
      obtain ⟨t', x', k', m', ta', tb', tc', n', e, e2, hm⟩ := ih h
      exact ⟨t', x', k', m', ta', tb', tc', n', e, by simpa using e2, List.mem_cons_of_mem _ hm⟩
noncomputable def wyD (y : Int × Nat × Nat) : Dat := .tuple [.int y.1, .int (y.2.1 : Int), .str (dq y.2.2)]
theorem wys_dat {nw : List (Addr × Obj)} {vs : List Value} {ts : List (Addr × Obj)} {ps : List (Int × Nat × Nat)} (h : Wys vs ts ps) (hs : ∀ p ∈ ts, p ∈ nw) : DatAll nw vs (ps.map wyD) := by
  induction h with
  | nil => exact .nil
  | cons t x k m ta tb tc n _ ih =>
    exact .cons (.tuple (vs := [.int x ta, .int (k : Int) tb, .str (dq m) tc]) (hs _ List.mem_cons_self) (.cons (.int _ _) (.cons (.int _ _) (.cons (.str _ _) .nil)))) (ih fun p hp => hs p (List.mem_cons_of_mem _ hp))
theorem ok_wys {ps : List (Int × Nat × Nat)} (h : ∀ y ∈ ps, Clean (dq y.2.2)) : ∀ d ∈ ps.map wyD, kqdOk 8 d = true := by
  intro d hd
  obtain ⟨x, hx, rfl⟩ := List.mem_map.mp hd
  show ([Dat.int x.1, Dat.int (x.2.1 : Int), Dat.str (dq x.2.2)].all (kqdOk 7)) = true
  simp only [List.all_cons, List.all_nil, Bool.and_true, Bool.and_eq_true]
  exact ⟨rfl, rfl, strOk_clean (h x hx)⟩
section
variable {prog : Program} {w : World} {A : Around} {E : Value → Shared → Prop} {s : Shared} {h₀ : Heap} {L a b : Addr} {m : Str → Option Value} {news : List (Addr × Obj)} {oa ob : Obj} {xs ys : List Value} {ka kb : Nat} {ds : List Dat} {Q : Value → Shared → Prop}
/-- a list held against the empty one -/
theorem eq_nil_dat {z : Bool} (N : News h₀ L s.heap news) (ma : (a, oa) ∈ news) (ca : oa.cls = .type "list") (da : oa.data = .seq xs.toArray ka) (Da : DatAll news xs ds) (mb : (b, ob) ∈ news) (cb : ob.cls = .type "list") (db : ob.data = .seq (([] : List Value)).toArray kb)
    (ha : ∀ d ∈ ds, kqdOk 8 d = true) (hu : A.units + 64 < cLine) (hz : z = true ↔ ds = []) (h : Q (.bool z) s) : wpAny (model prog w) A (compareOp .Eq (.ref a) (.ref b)) Q E s := by
  classical
  refine kqd_eq N ma ca da Da (fun _ h => h) mb cb db (ys := []) (es := []) .nil (fun p hp => hp) ha (fun _ h => nomatch h) hu ?_
  by_cases q : ds = []
  · rw [decide_eq_true q]
    rw [hz.mpr q] at h
    exact h
  · rw [decide_eq_false q]
    have : z = false := by
      cases z with
      | true => exact absurd (hz.mp rfl) q
      | false => rfl
    rw [this] at h
    exact h
theorem ne_nil_dat {z : Bool} (N : News h₀ L s.heap news) (ma : (a, oa) ∈ news) (ca : oa.cls = .type "list") (da : oa.data = .seq xs.toArray ka) (Da : DatAll news xs ds) (mb : (b, ob) ∈ news) (cb : ob.cls = .type "list") (db : ob.data = .seq (([] : List Value)).toArray kb)
    (ha : ∀ d ∈ ds, kqdOk 8 d = true) (hu : A.units + 64 < cLine) (hz : z = true ↔ ds ≠ []) (h : Q (.bool z) s) : wpAny (model prog w) A (compareOp .NotEq (.ref a) (.ref b)) Q E s := by
  classical
  refine kqd_ne N ma ca da Da (fun _ h => h) mb cb db (ys := []) (es := []) .nil (fun p hp => hp) ha (fun _ h => nomatch h) hu ?_
  by_cases q : ds = []
  · rw [decide_eq_true q]
    have : z = false := by
      cases z with
      | true => exact absurd q (hz.mp rfl)
      | false => rfl
    rw [this] at h
    exact h
  · rw [decide_eq_false q]
    rw [hz.mpr q] at h
    exact h
end
theorem MCall2.imp {w : World} {f : Addr} {vs : List Value} {kw : List (Str × Value)} {k : Nat} {h : Heap} {own : List (Addr × Obj)} {P P' : Value → List (Addr × Obj) → Prop} (C : MCall2 w f vs kw k h own P) (hP : ∀ v o, P v o → P' v o) : MCall2 w f vs kw k h own P' :=
  fun dp un fr gd s Q E a b c d => C dp un fr gd s Q E a b c fun v h' tk' e r => d v h' tk' e (let ⟨o, x, y⟩ := r; ⟨o, hP v o x, y⟩)
theorem tupNm {h₀ h : Heap} {L d : Addr} {a b : Str} {ta tb : Tok} {n : Nat} {rest : List (Addr × Obj)} (N : News h₀ L h ((d, { cls := .type "tuple", data := .seq #[.str a ta, .str b tb] n }) :: rest)) : ∃ d' ta' tb' n', News h₀ L h ((d', { cls := .type "tuple", data := .seq #[.str a ta', .str b tb'] n' }) :: rest) ∧ d' = d := ⟨d, ta, tb, n, N, rfl⟩
theorem rowsP_clean {fs : Nat → Bool} {sz : Nat → Nat} {ord : List Nat} (ho : ord ∈ perms6) (h8 : ∀ k, k < 3 → sz k < 8) : ∀ p ∈ rowsP fs sz ord, Clean p.1 ∧ Clean p.2 := by
  intro p hp
  obtain ⟨k, hk, rfl⟩ := List.mem_map.mp hp
  have hk3 := (perms6_len ord ho).2 k hk
  exact ⟨Clean.of (nmS_fin ⟨k, hk3⟩ (fs k)).2.2, Clean.of (dq_fin ⟨sz k, h8 k hk3⟩).2.1⟩
theorem Prs.three {vs ts} {p0 p1 p2 : Str × Str} (h : Prs vs ts [p0, p1, p2]) : ∃ (t0 t1 t2 : Addr) (k0 k1 k2 j0 j1 j2 : Tok) (n0 n1 n2 : Nat), vs = [.ref t0, .ref t1, .ref t2] ∧
    ts = [(t0, { cls := .type "tuple", data := .seq #[.str p0.1 k0, .str p0.2 j0] n0 }), (t1, { cls := .type "tuple", data := .seq #[.str p1.1 k1, .str p1.2 j1] n1 }), (t2, { cls := .type "tuple", data := .seq #[.str p2.1 k2, .str p2.2 j2] n2 })] := by
  cases h with
  | cons t0 a0 b0 k0 j0 n0 h =>
    cases h with
    | cons t1 a1 b1 k1 j1 n1 h =>
      cases h with
      | cons t2 a2 b2 k2 j2 n2 h =>
        cases h
        exact ⟨t0, t1, t2, k0, k1, k2, j0, j1, j2, n0, n1, n2, rfl, rfl⟩
/-- a row asked for by its name -/
theorem c_row {w : World} {h : Heap} {x dx l : Addr} {tk : Tok} {vs : List Value} {ts : List (Addr × Obj)} {n : Nat} {fs : Nat → Bool} {sz : Nat → Nat} {ord : List Nat} (W : Wd w (hideAll h (addrs (hdO w x dx l tk vs n ++ ts)))) (hO : ∀ p ∈ hdO w x dx l tk vs n ++ ts, h.get? p.1 = some p.2)
    (hrows : Prs vs ts (rowsP fs sz ord)) (ho : ord ∈ perms6) {k : Nat} (hk : k < 3) (b : Bool) (ta : Tok) :
    MCall2 w 131 [.ref x, .str (nmS k b) ta] [] 5 h (hdO w x dx l tk vs n ++ ts) (fun v own' => own' = hdO w x dx l tk vs n ++ ts ∧ IsS (dq (sz k)) v) := by
  have hl := perms6_len ord ho
  obtain ⟨o0, o1, o2, rfl⟩ : ∃ a b c, ord = [a, b, c] := by
    match ord, hl.1 with
    | [a, b, c], _ => exact ⟨a, b, c, rfl⟩
  obtain ⟨t0, t1, t2, k0, k1, k2, j0, j1, j2, n0, n1, n2, rfl, rfl⟩ := Prs.three (show Prs vs ts [(nmS o0 (fs o0), dq (sz o0)), (nmS o1 (fs o1), dq (sz o1)), (nmS o2 (fs o2), dq (sz o2))] from hrows)
  obtain ⟨lk1, lk2⟩ := look_told (fs := fs) (sz := sz) ho hk b
  have hc := nmS_fin ⟨k, hk⟩ b
  have hln : ∀ (k : Nat) (b : Bool), (nmS k b).length ≤ 100 := fun _ _ => (by decide : 1 ≤ 100)
  have := c_getitem (x := x) (dx := dx) (l := l) (tk := tk) (n := n) W hO (nmS k b) ta (by rw [hc.2.1]; exact Clean.of (nmS_fin ⟨k, hk⟩ false).2.2) (hln _ _) (hln _ _) (hln _ _) (hln _ _) lk2
  rw [lk1] at this
  exact this
section
variable {prog : Program} {w : World} {A : Around} {E : Value → Shared → Prop} {s : Shared} {Q : Value → Shared → Prop}
theorem ne_str_said {a b : Str} {t u : Tok} {z : Bool} (e : (a != b) = z) (h : Q (.bool z) s) : wpAny (model prog w) A (compareOp .NotEq (.str a t) (.str b u)) Q E s := by
  subst e
  exact PyProof.Rows.ne_str h
end
theorem wayK_len (key : Int) (k s : Nat) : (wayK key k s).length ≤ 2 := by
  unfold wayK
  split
  · exact Nat.zero_le _
  · exact Nat.le_refl _
theorem waysU_len (sz : Nat → Nat) : ∀ k, (waysU sz k).length ≤ 2 * k
  | 0 => Nat.le_refl _
  | k + 1 => by
    have h1 := waysU_len sz k
    have h2 := wayK_len (kx sz) k (sz k)
    show (waysU sz k ++ wayK (kx sz) k (sz k)).length ≤ _
    rw [List.length_append]
    omega
theorem Wys.cls {vs ts ps} (h : Wys vs ts ps) : ∀ p ∈ ts, p.2.cls = .type "tuple" ∧ ∃ its n, p.2.data = .seq its n := by
  induction h with
  | nil => exact fun _ h => nomatch h
  | cons t x k m ta tb tc n _ ih =>
    intro p hp
    rcases List.mem_cons.mp hp with rfl | hp
    · exact ⟨rfl, _, _, rfl⟩
    · exact ih p hp
theorem tups_app {a b : List (Addr × Obj)} (ha : ∀ p ∈ a, p.2.cls = .type "tuple" ∧ ∃ its n, p.2.data = .seq its n) (hb : ∀ p ∈ b, p.2.cls = .type "tuple" ∧ ∃ its n, p.2.data = .seq its n) : ∀ p ∈ a ++ b, p.2.cls = .type "tuple" ∧ ∃ its n, p.2.data = .seq its n :=
  fun p hp => (List.mem_append.mp hp).elim (ha p) (hb p)
/-- tuples stand off a list and off a cell -/
theorem tups_list {tt : List (Addr × Obj)} (h : ∀ p ∈ tt, p.2.cls = .type "tuple" ∧ ∃ its n, p.2.data = .seq its n) {h₀ g : Heap} {L a : Addr} {nw : List (Addr × Obj)} {o : Obj} (N : News h₀ L g nw) (ha : (a, o) ∈ nw) (hc : o.cls = .type "list") (hs : ∀ p ∈ tt, p ∈ nw) : OwnOff tt [a] := by
  intro p hp b hb
  rw [List.mem_singleton.mp hb]
  refine ledger_ne N (hs p hp) ha fun z => ?_
  have := (h p hp).1
  rw [z, hc] at this
  exact absurd (Value.type.inj this) (by decide)
theorem tups_cell {tt : List (Addr × Obj)} (h : ∀ p ∈ tt, p.2.cls = .type "tuple" ∧ ∃ its n, p.2.data = .seq its n) {h₀ g : Heap} {L a : Addr} {nw : List (Addr × Obj)} {o : Obj} {v : Option Value} (N : News h₀ L g nw) (ha : (a, o) ∈ nw) (hc : o.data = .cell v) (hs : ∀ p ∈ tt, p ∈ nw) : OwnOff tt [a] := by
  intro p hp b hb
  rw [List.mem_singleton.mp hb]
  refine ledger_ne N (hs p hp) ha fun z => ?_
  obtain ⟨its, n, e⟩ := (h p hp).2
  rw [z, hc] at e
  cases e
section
variable {prog : Program} {w : World} {A : Around} {E : Value → Shared → Prop} {s : Shared} {Q : Value → Shared → Prop}
theorem ne_said {a b : Int} {t u : Tok} (e : a = b) (h : Q (.bool false) s) : wpAny (model prog w) A (compareOp .NotEq (.int a t) (.int b u)) Q E s := by
  subst e
  exact ne_same h
end
/-- what is left of a row, the two ways -/
theorem left_told {sz : Nat → Nat} {k s' : Nat} (hs : sz k = s' + 1) (h8 : sz k < 8) {i : Nat} (hi : i < 2) {v : Value} {t1 t2 : Tok} (hv : #[Value.str (dq (sz k - 1)) t1, .str (dq (sz k / 2)) t2][i]? = some v) :
    ∃ mm tv, v = .str (dq mm) tv ∧ mm < 8 ∧ (dq mm).length = mm ∧ lev (dq (sz k)) (dq mm) 0 = 2 * ((sz k : Int) - (mm : Int)) ∧ (wayK (kx sz) k (sz k))[i]? = some (wy (kx sz) (sz k) mm, k, mm) := by
  have hl := lev_row ⟨s', by omega⟩
  dsimp only at hl
  have hw : wayK (kx sz) k (sz k) = [(wy (kx sz) (sz k) (sz k - 1), k, sz k - 1), (wy (kx sz) (sz k) (sz k / 2), k, sz k / 2)] := by
    unfold wayK
    rw [if_neg (by omega)]
  rcases (show i = 0 ∨ i = 1 by omega) with rfl | rfl
  · cases hv
    refine ⟨_, _, rfl, by omega, (dq_fin ⟨sz k - 1, by omega⟩).1, ?_, by rw [hw]; rfl⟩
    rw [hs]
    exact hl.1
  · cases hv
    refine ⟨_, _, rfl, by omega, (dq_fin ⟨sz k / 2, by omega⟩).1, ?_, by rw [hw]; rfl⟩
    rw [hs]
    exact hl.2
theorem wyNm {h₀ h : Heap} {L d : Addr} {a b : Int} {c : Str} {ta tb tc : Tok} {n : Nat} {rest : List (Addr × Obj)} (N : News h₀ L h ((d, { cls := .type "tuple", data := .seq #[.int a ta, .int b tb, .str c tc] n }) :: rest)) : ∃ ta' tb' tc' n', News h₀ L h ((d, { cls := .type "tuple", data := .seq #[.int a ta', .int b tb', .str c tc'] n' }) :: rest) := ⟨ta, tb, tc, n, N⟩
section
variable {prog : Program} {w : World} {A : Around} {E : Value → Shared → Prop} {s : Shared} {Q : Value → Shared → Prop}
theorem eq_said {a b : Int} {t u : Tok} {z : Bool} (e : z = true ↔ a = b) (h : Q (.bool z) s) : wpAny (model prog w) A (compareOp .Eq (.int a t) (.int b u)) Q E s := by
  refine eq_br (fun q => ?_) fun q => ?_
  · rw [e.mpr q] at h; exact h
  · have : z = false := by
      cases z with
      | true => exact absurd (e.mp rfl) q
      | false => rfl
    rw [this] at h
    exact h
end
section
variable {prog : Program} {w : World} {A : Around} {E : Value → Shared → Prop} {s : Shared} {Q : Value → Shared → Prop}
theorem ne_bool_same {a : Bool} (h : Q (.bool false) s) : wpAny (model prog w) A (compareOp .NotEq (.bool a) (.bool a)) Q E s := by
  refine PyProof.Rows.ne_bool ?_
  rw [show (a != a) = false by cases a <;> rfl]
  exact h
end
section
variable {prog : Program} {w : World} {A : Around} {E : Value → Shared → Prop} {s : Shared} {Q : Value → Shared → Prop}
theorem ne_said2 {a b : Int} {t u : Tok} {z : Bool} (e : z = true ↔ a ≠ b) (h : Q (.bool z) s) : wpAny (model prog w) A (compareOp .NotEq (.int a t) (.int b u)) Q E s := by
  refine ne_br (fun q => ?_) fun q => ?_
  · have : z = false := by
      cases z with
      | true => exact absurd q (e.mp rfl)
      | false => rfl
    rw [this] at h
    exact h
  · rw [e.mpr q] at h; exact h
end
noncomputable def HoldP (P : Shared → Prop) (s : Shared) : Prop := P s
theorem cut_any {M : Model} {A : Around} {E : Value → Shared → Prop} {s : Shared} {env : Env} {st : Stmt} {Q : Flow → Shared → Prop} (P : Shared → Prop) (h : wpAny M A (exec st env) (fun f s' => match f with | .next => HoldP P s' | f => Q f s') E s) (k : ∀ s', P s' → Q .next s') : wpAny M A (exec st env) Q E s := by
  refine wpAny_mono h (fun f s' q => ?_) fun _ _ e => e
  cases f with
  | next => exact k s' q
  | ret v => exact q
  | brk => exact q
  | cont => exact q
theorem Wys.head {vs ts ps} (h : Wys vs ts ps) (hp : ps ≠ []) : ∃ (t : Addr) (x : Int) (k m : Nat) (ta tb tc : Tok) (n : Nat) (r : List Value), vs = .ref t :: r ∧ (x, k, m) ∈ ps ∧ (t, ({ cls := .type "tuple", data := .seq #[.int x ta, .int (k : Int) tb, .str (dq m) tc] n } : Obj)) ∈ ts := by
  cases h with
  | nil => exact absurd rfl hp
  | cons t x k m ta tb tc n h => exact ⟨t, x, k, m, ta, tb, tc, n, _, rfl, .head _, .head _⟩
theorem cut_anyF {M : Model} {A : Around} {E : Value → Shared → Prop} {s : Shared} {env : Env} {st : Stmt} {Q : Flow → Shared → Prop} {h₀ h : Heap} {L : Addr} {m : Str → Option Value} (_ : Fr h₀ L h m) (P : (Str → Option Value) → Shared → Prop) (h : wpAny M A (exec st env) (fun f s' => match f with | .next => HoldP (P m) s' | f => Q f s') E s) (k : ∀ s', P m s' → Q .next s') : wpAny M A (exec st env) Q E s := cut_any (P m) h k
section
variable {prog : Program} {w : World} {A : Around} {E : Value → Shared → Prop} {s : Shared} {Q : Value → Shared → Prop}
theorem len_list9 {l : Addr} {vs : List Value} (hl : s.heap.IsList l vs.toArray) (hfit : vs.length < 2 ^ 62)
    (h : Q (.int (vs.length : Nat) (s.toks + 1)) { s with toks := s.toks + 1 + 1 }) : wpAny (model prog w) A (call (.builtin "len") [.ref l]) Q E s := by
  have e : vs.toArray.size = vs.length := by simp
  refine Calls.call_len_list hl (by omega) ?_
  rw [e]
  exact h
end
theorem cell_list_ne {h₀ h : Heap} {L a b : Addr} {nw : List (Addr × Obj)} {o' : Obj} {vs : Array Value} {n : Nat} {v : Option Value} (N : News h₀ L h nw) (ha : (a, listOf vs n) ∈ nw) (hb : (b, o') ∈ nw) (hd : o'.data = .cell v) : @Ne Nat a b :=
  ledger_ne N ha hb fun z => by rw [← z] at hd; cases hd
theorem ltc1 {a L : Addr} (h : @LT.lt Nat _ a L) : @Ne Nat a (L + 1) := by
  have : @LT.lt Nat _ L (L + 1) := Nat.lt_succ_self _
  exact Nat.ne_of_lt (Nat.lt_trans h this)
theorem ltc2 {a L : Addr} (h : @LT.lt Nat _ a L) : @Ne Nat a (L + 1 + 1) := ltc1 (Nat.lt_trans h (Nat.lt_succ_self _))
theorem ltc3 {a L : Addr} (h : @LT.lt Nat _ a L) : @Ne Nat a (L + 1 + 1 + 1) := ltc2 (Nat.lt_trans h (Nat.lt_succ_self _))
theorem c23 {L : Addr} : @Ne Nat (L + 1 + 1) (L + 1 + 1 + 1) := Nat.ne_of_lt (Nat.lt_succ_self _)
theorem c13 {L : Addr} : @Ne Nat (L + 1) (L + 1 + 1 + 1) := Nat.ne_of_lt (Nat.lt_trans (Nat.lt_succ_self _) (Nat.lt_succ_self _))
theorem c31 {L : Addr} : @Ne Nat (L + 1 + 1 + 1) (L + 1) := Ne.symm c13
theorem c21 {L : Addr} : @Ne Nat (L + 1 + 1) (L + 1) := Nat.ne_of_gt (Nat.lt_succ_self _)
theorem strs_set {x : Str} {u : Tok} : ∀ {vs : List Value} {ns : List Str}, StrsAre vs ns → ∀ j : Nat, StrsAre (vs.set j (.str x u)) (ns.set j x)
  | _, _, .nil, _ => .nil
  | _, _, .cons _ _ h, 0 => .cons x u h
  | _, _, .cons i t h, j + 1 => .cons i t (strs_set h j)
section
variable {prog : Program} {w : World} {A : Around} {E : Value → Shared → Prop} {s : Shared} {h₀ : Heap} {L D : Addr} {m : Str → Option Value} {news news' : List (Addr × Obj)} {vs : List Value} {n : Nat} {k : Int} {t : Tok} {v : Value}
theorem set_any {Q : Unit → Shared → Prop} (F : Fr h₀ L s.heap m) (N : News h₀ L s.heap news) (U : Upd D (listOf vs.toArray n) (listOf (vs.set k.toNat v).toArray n) news news') (h0 : 0 ≤ k) (h1 : k < vs.length) (hfit : k < 2 ^ 63)
    (h : ∀ h', Fr h₀ L h' m → News h₀ L h' news' → Q () { s with heap := h' }) :
    wpAny (model prog w) A (setItem (.ref D) (.int k t) v) Q E s := by
  obtain ⟨pre, post, rfl, rfl, a, b⟩ := U.split
  have z := N (D, listOf vs.toArray n) (List.mem_append.mpr (.inr (.head _)))
  have hs : vs.toArray.size = vs.length := by rw [List.size_toArray]
  refine ki_setAt z.1 h0 hfit (by omega) (h _ (F.change (Heap.SameBut.update ..) z.2.1 z.2.2) (ki_turn _ N a b ?_ ?_))
  · show vs.toArray.setIfInBounds k.toNat v = (vs.set k.toNat v).toArray
    apply Array.toList_inj.mp
    simp
  · simp
end
theorem nsNm {h₀ h : Heap} {L t4 I nl : Addr} {o4 oI : Obj} {nn k : Nat} {ns : List Value} {x : Str} {u : Tok} {ws : List Str} {rest : List (Addr × Obj)} (N : News h₀ L h ((t4, o4) :: (I, oI) :: (nl, listOf (ns.set k (.str x u)).toArray nn) :: rest)) (hs : StrsAre ns ws) :
    ∃ ns2, News h₀ L h ((t4, o4) :: (I, oI) :: (nl, listOf ns2.toArray nn) :: rest) ∧ StrsAre ns2 (ws.set k x) := ⟨_, N, strs_set hs k⟩
theorem names_upd {fs : Nat → Bool} {kk : Nat} (hk : kk < 3) : ((List.range 3).map fun k => nmS k (fs k)).set kk (nmS kk (!fs kk)) = (List.range 3).map fun k => nmS k (upd fs kk (!fs kk) k) := by
  rcases (show kk = 0 ∨ kk = 1 ∨ kk = 2 by omega) with rfl | rfl | rfl <;> rfl
section
variable {prog : Program} {w : World} {A : Around} {E : Value → Shared → Prop} {s : Shared} {h₀ : Heap} {L : Addr} {m : Str → Option Value} {news : List (Addr × Obj)}
theorem add_lists9 {l b : Addr} {vs ws : List Value} {Q : Value → Shared → Prop} (F : Fr h₀ L s.heap m) (N : News h₀ L s.heap news) (hl : s.heap.IsList l vs.toArray) (hb : s.heap.IsList b ws.toArray)
    (hsz : vs.length + ws.length ≤ sizeLine) (h : ∀ D h', Fr h₀ L h' m → News h₀ L h' ((D, listOf (vs ++ ws).toArray 0) :: news) → (∀ p ∈ news, @LT.lt Nat _ p.1 D) → Q (.ref D) { s with heap := h' }) :
    wpAny (model prog w) A (binaryOp .Add (.ref l) (.ref b)) Q E s :=
  add_lists (hsz := hsz) F N hl hb fun h' F' N' => h _ h' F' N' fun p hp => Heap.lt_size (N p hp).1
end
section
variable {w : World} {dp un : Nat} {fr : Option (List Env)} {gd : Option (List Code)} {s : Shared} {Q E : Value → Shared → Prop} {f : Addr} {vs : List Value} {kw : List (Str × Value)}
/-- a call that turns hd, hands back the tuples ts and one more -/
theorem MCall2.rows {k : Nat} {hd ts news : List (Addr × Obj)} {P : Value → List (Addr × Obj) → Addr × Obj → Prop} {h₀ : Heap} {L : Addr} {m : Str → Option Value} (keep : List (Addr × Obj))
    (C : MCall2 w f vs kw k s.heap (hd ++ ts) (fun v own' => ∃ hd' t8, own' = hd' ++ t8 :: ts ∧ P v hd' t8)) (hd1 : dp + k < recursionLimit) (hu : un + 8 * k < cLine) (F : Fr h₀ L s.heap m) (N : News h₀ L s.heap news) (ho : ∀ p ∈ hd ++ ts, p ∈ news) (hk : ∀ p ∈ keep, p ∈ news) (hn : ∀ p ∈ keep, p.1 ∉ addrs hd)
    (h : ∀ v hd' t8 h' tk', P v hd' t8 → Fr h₀ L h' m → News h₀ L h' (hd' ++ t8 :: (ts ++ keep)) → (t8.1 ∈ addrs (hd ++ ts) ∨ ∀ q ∈ keep, q.1 ∉ addrs (hd ++ ts) → t8.1 ≠ q.1) → Q v { s with heap := h', toks := tk' }) :
    wpAny (model PySem.Challenge.rw_wo0076_01.row.prog w) ⟨none, dp, fr, gd, un⟩ (call (.ref f) vs kw) Q E s := by
  classical
  refine MCall2.use (own := hd ++ ts) (rest := keep.filter fun p => decide (p.1 ∉ addrs (hd ++ ts))) C hd1 hu F N ho (fun p hp => hk p (List.mem_filter.mp hp).1) (fun p hp => of_decide_eq_true (List.mem_filter.mp hp).2) fun v own' h' tk' hP F' N' ha => ?_
  obtain ⟨hd', t8, rfl, hP⟩ := hP
  refine h v hd' t8 h' tk' hP F' (fun p hp => ?_) ?_
  · have inOwn : ∀ q, q ∈ hd' ++ t8 :: ts → News h₀ L h' [q] := fun q hq r hr => by
      rw [List.mem_singleton.mp hr]; exact N' q (List.mem_append_left _ hq)
    rcases List.mem_append.mp hp with q | q
    · exact inOwn p (List.mem_append_left _ q) p (.head _)
    · rcases List.mem_cons.mp q with q | q
      · exact inOwn p (List.mem_append_right _ (q ▸ .head _)) p (.head _)
      · rcases List.mem_append.mp q with q | q
        · exact inOwn p (List.mem_append_right _ (.tail _ q)) p (.head _)
        · by_cases hm : p.1 ∈ addrs (hd ++ ts)
          · have hm2 : p.1 ∈ addrs ts := by
              rw [addrs, List.map_append] at hm
              exact (List.mem_append.mp hm).resolve_left (hn p q)
            obtain ⟨p0, hp0, e0⟩ := List.mem_map.mp hm2
            have e1 := (N p0 (ho p0 (List.mem_append_right _ hp0))).1
            rw [e0, (N p (hk p q)).1] at e1
            have : p0 = p := Prod.ext e0 (Option.some.inj e1).symm
            exact inOwn p (List.mem_append_right _ (.tail _ (this ▸ hp0))) p (.head _)
          · exact N' p (List.mem_append_right _ (List.mem_filter.mpr ⟨q, decide_eq_true hm⟩))
  · rcases ha t8 (List.mem_append_right _ (.head _)) with z | z
    · exact .inl z
    · exact .inr fun q hq hqn => z q (List.mem_append_right _ (List.mem_filter.mpr ⟨hq, decide_eq_true hqn⟩))
end
theorem Jg_go {i : Nat} {k k' f : Int} (h : Jg i k f) (hk : k' ≠ 0 ↔ k = 0) : Jg (i + 1) k' f := by
  unfold Jg at *
  rcases (show i % 2 = 0 ∨ i % 2 = 1 by omega) with e | e
  · have e2 : ¬ (i + 1) % 2 = 0 := by omega
    simp only [e, e2, iff_true, iff_false, ne_eq] at h ⊢
    rw [ne_eq] at hk
    rw [hk]
    constructor
    · intro a b; exact h.mpr b a
    · intro a
      by_cases b : k = 0
      · exact b
      · exact absurd (h.mp b) a
  · have e2 : (i + 1) % 2 = 0 := by omega
    simp only [e, e2, iff_true, ne_eq] at h ⊢
    rw [ne_eq] at hk
    rw [hk]
    have h' : ¬ k = 0 ↔ ¬ ¬ f = 0 := by
      rw [h]
      simp
    constructor
    · intro a b; exact (h'.mpr (fun c => c b)) a
    · intro a
      by_cases b : k = 0
      · exact b
      · exact absurd a (h'.mp b)
theorem sum_upd {sz : Nat → Nat} {kk mm i : Nat} (hk : kk < 3) (hm : mm < sz kk) (h : sz 0 + sz 1 + sz 2 + i ≤ 21) : upd sz kk mm 0 + upd sz kk mm 1 + upd sz kk mm 2 + (i + 1) ≤ 21 := by
  rcases (show kk = 0 ∨ kk = 1 ∨ kk = 2 by omega) with rfl | rfl | rfl <;> (simp [upd]; omega)
theorem tups_hd {tt : List (Addr × Obj)} (h : ∀ p ∈ tt, p.2.cls = .type "tuple" ∧ ∃ its n, p.2.data = .seq its n) {h₀ g : Heap} {L : Addr} {nw : List (Addr × Obj)} {w : World} {x dx l : Addr} {tk : Tok} {ws : List Value} {n : Nat} (N : News h₀ L g nw) (h1 : ∀ p ∈ hdO w x dx l tk ws n, p ∈ nw) (hs : ∀ p ∈ tt, p ∈ nw) : OwnOff tt [x, dx, l] := by
  intro p hp b hb
  have hc := (h p hp).1
  simp only [List.mem_cons, List.not_mem_nil, or_false] at hb
  rcases hb with rfl | rfl | rfl
  · refine ledger_ne N (hs p hp) (h1 _ (by simp only [hdO]; exact List.mem_cons_self)) fun z => ?_
    rw [z] at hc
    simp [instObj] at hc
  · refine ledger_ne N (hs p hp) (h1 _ (by simp only [hdO]; exact List.mem_cons_of_mem _ List.mem_cons_self)) fun z => ?_
    rw [z] at hc
    simp [dictOf] at hc
  · refine ledger_ne N (hs p hp) (h1 _ (by simp only [hdO]; exact List.mem_cons_of_mem _ (List.mem_cons_of_mem _ List.mem_cons_self))) fun z => ?_
    rw [z] at hc
    simp [PySem.W.listOf] at hc
theorem not_hd {w : World} {x dx l a : Addr} {tk : Tok} {ws : List Value} {n : Nat} (h1 : @Ne Nat a x) (h2 : @Ne Nat a dx) (h3 : @Ne Nat a l) : a ∉ addrs (hdO w x dx l tk ws n) := fun z => by
  simp only [hdO, addrs, List.map_cons, List.map_nil, List.mem_cons, List.not_mem_nil, or_false] at z
  rcases z with z | z | z
  · exact h1 z
  · exact h2 z
  · exact h3 z

end Mine
-- H1
example : True := by
  w_top off
  exact trivial
namespace Mine
example (P : Params) : hd.heap_1 P = hd.heap_1 P ∧ PySem.Challenge.rw_wo0076_01 = PySem.Challenge.rw_wo0076_01 := by
  k_fill
  exact ⟨rfl, rfl⟩



section
namespace Adh
example : True := by
  k_with_none
  (k_with "my.enter" => ((case k1 => first | exact List.forall_mem_nil _ | assumption); (case k6 => k_is); (case k7 => k_is); (case k8 => omega); (case k9 => first | exact BindsTo.of_eq rfl | exact binds_K (by k_in) rfl (by k_is) rfl rfl rfl); (case kB => exact locs rfl); (case c5 => decide); (case c2 => exact rfl); (case c3 => exact rfl); (case c4 => exact rfl)))
  (k_with "my.enterC" => ((case k1 => first | exact List.forall_mem_nil _ | assumption); (case k6 => k_is); (case k7 => k_is); (case k8 => omega); (case k9 => first | exact BindsTo.of_eq rfl | exact binds_K (by k_in) rfl (by k_is) rfl rfl rfl); (case kB => exact rfl); (case kD => decide +kernel); (case c2 => exact rfl); (case c3 => exact rfl); (case c4 => exact rfl)))
  (k_with "my.room" => first | omega | ((simp only [depth_under_make, depth_under_kw, depth_in1, depth_deeper, depth_caller]); omega))
  (k_with "my.units" => first | omega | ((simp only [units_in1, units_deeper, Around.mark_units, units_caller]); omega))
  (k_with "my.wd" => exact Wd.keeps (by assumption) (Fr.keep (by k_asm)))
  (k_with "call builtin:list.append" => (k_here; k_dflt (refine' append_K (by k_asm) (by k_asm) (by k_upd) ?_ (by (simp only [List.size_toArray, Array.size_push, List.length_append, List.length_cons, List.length_nil, sizeLine_eq]; omega)); k_whole); intro h' F' N'; (try simp only [List.push_toArray] at N'); (try k_sweep)))
  (k_with "my.end" => ((try dsimp only); (try k_unfold); (try dsimp only [retOf])))
  (k_with "my.keep" => exact (fun b o e hb => Fr.keep (by assumption) b o (hideAll_get _ e hb)))
  (k_with "my.cend" => (unfold Hold; refine LCg.CompEnd.intro (by k_asm) (by assumption) _ (fun p hp => hp) (by assumption) (by first | trivial | exact .inr ⟨_, by k_memK, rfl, _, rfl⟩ | exact .inl (by assumption)) ⟨rfl, ?_⟩))
  (k_with "my.m" => with_reducible ((repeat (first | exact List.Mem.head _ | refine List.Mem.tail _ ?_ | assumption | (refine List.mem_append_left _ ?_; walk_at "my.m") | (refine List.mem_append_right _ ?_; walk_at "my.m"))); done))
  (k_with "my.mg" => first | walk_at "my.m" | ((try dsimp only [hdO, PyProof.Rows.LCg.lst, PySem.W.listOf, PySem.W.instObj, PySem.W.dictOf, List.cons_append, List.nil_append]); walk_at "my.m") | ((simp only [List.mem_cons, List.mem_append]); grind))
  (k_with "my.inc" => with_reducible ((repeat' (first | exact inc_refl | exact inc_nil | refine inc_same ?_ | refine inc_app ?_ ?_ | refine inc_one (by walk_at "my.m") ?_ | assumption | refine inc_skip ?_ | (refine inc_left ?_; walk_at "my.inc") | (refine inc_right ?_; walk_at "my.inc"))); done))
  (k_with "my.ne" => with_reducible first | assumption | exact neS1 | exact neS1.symm | exact neS2 | exact neS2.symm | (refine Ne.symm ?_; assumption) | (refine Nat.ne_of_lt ?_; assumption) | (refine Nat.ne_of_gt ?_; assumption))
  (k_with "my.pin" => first | ((try dsimp only [hdO, List.cons_append, List.nil_append] at hp ⊢); exact (show ∀ p ∈ _, p ∈ _ from by walk_at "my.inc") _ hp) | ((try dsimp only [hdO, PyProof.Rows.LCg.lst, PySem.W.listOf, PySem.W.instObj, PySem.W.dictOf, List.cons_append, List.nil_append] at hp ⊢); exact (show ∀ p ∈ _, p ∈ _ from by walk_at "my.inc") _ hp) | ((simp only [hdO, List.cons_append, List.nil_append, List.mem_append, List.mem_cons, List.not_mem_nil, or_false] at hp ⊢); grind))
  (k_with "my.mY" => ((repeat (first | exact List.Mem.head _ | refine List.Mem.tail _ ?_ | refine List.mem_append_right _ ?_)); done))
  (k_with "my.pinS" => ((try dsimp only [hdO, List.cons_append, List.nil_append] at hp ⊢); revert hp; revert p; (repeat (first | exact inc_snoc2 | exact inc_snoc1 | refine inc_under ?_ | refine inc_over ?_)); done))
  (k_with "my.pinY" => ((try dsimp only [hdO, List.cons_append, List.nil_append] at hp ⊢); revert hp; revert p; (repeat (refine inc_one (by walk_at "my.mY") ?_)); (with_reducible (repeat (first | exact inc_refl | exact inc_nil | refine inc_skip ?_ | refine inc_left ?_))); done))
  (k_with "my.in" => first | ((try dsimp only [hdO, List.cons_append, List.nil_append]); walk_at "my.inc") | ((try dsimp only [hdO, PyProof.Rows.LCg.lst, PySem.W.listOf, PySem.W.instObj, PySem.W.dictOf, List.cons_append, List.nil_append]); walk_at "my.inc") | (intro p hp; (try simp only [hdO, List.cons_append, List.nil_append, List.mem_cons, List.mem_append, List.not_mem_nil, or_false, false_or] at hp ⊢); first | exact hp | grind))
  (k_with "my.same" => (intro z h1 h2 h3; first
  | rfl
  | (simp only [List.forall_mem_cons, List.forall_mem_nil, List.not_mem_nil, false_implies, implies_true, and_true, ne_eq] at h2; simp only [List.contains_cons, List.contains_nil, Bool.or_false, Bool.or_eq_false_iff, beq_eq_false_iff_ne, ne_eq] at h3; simp [h1, h2, h3, kstB]; done)
  | (simp [h1, kstB]; done)
  | (simp_all [kstB]; done)))
  (k_with "my.csame" => (intro z h2 h3; first
  | rfl
  | exact kstB_stay z h2 h3
  | (simp only [List.forall_mem_cons, List.forall_mem_nil, List.not_mem_nil, false_implies, implies_true, and_true, ne_eq] at h2; (try simp only [List.contains_cons, List.contains_nil, Bool.or_false, Bool.or_eq_false_iff, beq_eq_false_iff_ne, ne_eq] at h3); simp [h2, h3, kstB]; done)
  | (simp_all [kstB]; done)))
  (k_with "my.all" => (repeat' (first | exact List.forall_mem_nil _ | (refine List.forall_mem_cons.mpr ⟨rfl, ?_⟩))))
  (k_with "execs cons" => first | (k_here; k_gentoks) | (k_here; k_made; walk_at "execs cons") | ((with_reducible refine wpAny_execs_cons ?_); (try dsimp only); k_fold))
  (k_with "my.sub" => (repeat' (first | exact List.forall_mem_nil _ | (refine List.forall_mem_cons.mpr ⟨?_, ?_⟩) | k_mem)))
  (k_with "call ref" => (k_here; (with_reducible show wpAny _ _ (call (Value.ref 197) _ _) _ _ _); k_dflt (refine' MCall.pure (c_convert (by walk_at "my.wd") _ _ _ _ (by assumption)) (by walk_at "my.room") (by walk_at "my.units") (by k_asm) (by k_asm) ?_); intro v9 h9 tk9 hR9 hk9 F9 N9; (try k_sweep); subst hR9; (try dsimp only)))
  exact trivial
noncomputable def Body (w : World) (x : Addr) (dx : Addr) (l : Addr) (tk : Tok) (vs : List Value) (n : Nat) (a : Str) (b : Str) (ta : Tok) (tb : Tok) (dp : Nat) (un : Nat) (fr : Option (List Env)) (gd : Option (List Code)) (s : Shared) (Q : Value → Shared → Prop) (E : Value → Shared → Prop) : Prop :=
    Wd w (hideAll s.heap (addrs (hdO w x dx l tk vs n))) → (∀ p ∈ hdO w x dx l tk vs n, s.heap.get? p.1 = some p.2) → @Ne Nat x dx → @Ne Nat x l → @Ne Nat dx l → vs.length ≤ 1000 → Clean a → Clean b →
    MB w 293 [.ref x, .str a ta, .str b tb] [] 2 (hdO w x dx l tk vs n) (fun v h' => ∃ own', (fun v own' => v = .none ∧ ∃ (t : Addr) (ta' tb' : Tok) (nt : Nat), own' = hdO w x dx l tk (vs ++ [.ref t]) (n + 1) ++ [(t, { cls := .type "tuple", data := .seq #[.str a ta', .str b tb'] nt })]) v own' ∧ Held s.heap (hdO w x dx l tk vs n) h' own') dp un fr gd s Q E
noncomputable def Ok (v : World × Addr × Addr × Addr × Tok × (List Value) × Nat × Str × Str × Tok × Tok × Nat × Nat × (Option (List Env)) × (Option (List Code)) × Shared × (Value → Shared → Prop) × (Value → Shared → Prop)) : Prop := Body v.1 v.2.1 v.2.2.1 v.2.2.2.1 v.2.2.2.2.1 v.2.2.2.2.2.1 v.2.2.2.2.2.2.1 v.2.2.2.2.2.2.2.1 v.2.2.2.2.2.2.2.2.1 v.2.2.2.2.2.2.2.2.2.1 v.2.2.2.2.2.2.2.2.2.2.1 v.2.2.2.2.2.2.2.2.2.2.2.1 v.2.2.2.2.2.2.2.2.2.2.2.2.1 v.2.2.2.2.2.2.2.2.2.2.2.2.2.1 v.2.2.2.2.2.2.2.2.2.2.2.2.2.2.1 v.2.2.2.2.2.2.2.2.2.2.2.2.2.2.2.1 v.2.2.2.2.2.2.2.2.2.2.2.2.2.2.2.2.1 v.2.2.2.2.2.2.2.2.2.2.2.2.2.2.2.2.2
theorem ne : Nonempty (World × Addr × Addr × Addr × Tok × (List Value) × Nat × Str × Str × Tok × Tok × Nat × Nat × (Option (List Env)) × (Option (List Code)) × Shared × (Value → Shared → Prop) × (Value → Shared → Prop)) := ⟨(aWorld 1, (0 : Nat), (0 : Nat), (0 : Nat), 0, [], 0, ⟨#[]⟩, ⟨#[]⟩, 0, 0, 0, 0, none, none, {}, fun _ _ => True, fun _ _ => True)⟩
noncomputable def v0 : World × Addr × Addr × Addr × Tok × (List Value) × Nat × Str × Str × Tok × Tok × Nat × Nat × (Option (List Env)) × (Option (List Code)) × Shared × (Value → Shared → Prop) × (Value → Shared → Prop) := Classical.choose (one_for_all ne Ok)
@[irreducible] noncomputable def w : World := v0.1
@[irreducible] noncomputable def x : Addr := v0.2.1
@[irreducible] noncomputable def dx : Addr := v0.2.2.1
@[irreducible] noncomputable def l : Addr := v0.2.2.2.1
@[irreducible] noncomputable def tk : Tok := v0.2.2.2.2.1
@[irreducible] noncomputable def vs : List Value := v0.2.2.2.2.2.1
@[irreducible] noncomputable def n : Nat := v0.2.2.2.2.2.2.1
@[irreducible] noncomputable def a : Str := v0.2.2.2.2.2.2.2.1
@[irreducible] noncomputable def b : Str := v0.2.2.2.2.2.2.2.2.1
@[irreducible] noncomputable def ta : Tok := v0.2.2.2.2.2.2.2.2.2.1
@[irreducible] noncomputable def tb : Tok := v0.2.2.2.2.2.2.2.2.2.2.1
@[irreducible] noncomputable def dp : Nat := v0.2.2.2.2.2.2.2.2.2.2.2.1
@[irreducible] noncomputable def un : Nat := v0.2.2.2.2.2.2.2.2.2.2.2.2.1
@[irreducible] noncomputable def fr : Option (List Env) := v0.2.2.2.2.2.2.2.2.2.2.2.2.2.1
@[irreducible] noncomputable def gd : Option (List Code) := v0.2.2.2.2.2.2.2.2.2.2.2.2.2.2.1
@[irreducible] noncomputable def s : Shared := v0.2.2.2.2.2.2.2.2.2.2.2.2.2.2.2.1
@[irreducible] noncomputable def Q : Value → Shared → Prop := v0.2.2.2.2.2.2.2.2.2.2.2.2.2.2.2.2.1
@[irreducible] noncomputable def E : Value → Shared → Prop := v0.2.2.2.2.2.2.2.2.2.2.2.2.2.2.2.2.2
theorem all (w : World) (x : Addr) (dx : Addr) (l : Addr) (tk : Tok) (vs : List Value) (n : Nat) (a : Str) (b : Str) (ta : Tok) (tb : Tok) (dp : Nat) (un : Nat) (fr : Option (List Env)) (gd : Option (List Code)) (s : Shared) (Q : Value → Shared → Prop) (E : Value → Shared → Prop) (h : Body Adh.w Adh.x Adh.dx Adh.l Adh.tk Adh.vs Adh.n Adh.a Adh.b Adh.ta Adh.tb Adh.dp Adh.un Adh.fr Adh.gd Adh.s Adh.Q Adh.E) : Body w x dx l tk vs n a b ta tb dp un fr gd s Q E := by
  delta Adh.w Adh.x Adh.dx Adh.l Adh.tk Adh.vs Adh.n Adh.a Adh.b Adh.ta Adh.tb Adh.dp Adh.un Adh.fr Adh.gd Adh.s Adh.Q Adh.E at h
  exact Classical.choose_spec (one_for_all ne Ok) h (w, x, dx, l, tk, vs, n, a, b, ta, tb, dp, un, fr, gd, s, Q, E)
noncomputable def L' : Addr := s.heap.objs.size
set_option maxRecDepth 100000 in
set_option maxHeartbeats 2000000 in
theorem walk : Body w x dx l tk vs n a b ta tb dp un fr gd s Q E := by
  (k_with "execs cons" => first | (k_here; k_gentoks) | (k_here; k_made; walk_at "execs cons") | ((with_reducible refine wpAny_execs_cons ?_); (try dsimp only)))
  intro W hO h1 h2 h3 hv ca cb hdp hun hret
  obtain ⟨X, loose, mean, mg, mb, T⟩ := id W
  k_dflt (refine' enterK (fun D => [(Str.ofString "self", .ref x), (Str.ofString "_name", .str a ta), (Str.ofString "_value", .str b tb), (Str.ofString "_params", .ref D)]) (hdO w x dx l tk vs n) ?k1 W ?k6 ?k7 ?k8 ?k9 ?kB ?_ ?c5 ?c2 ?c3 ?c4; ((case k1 => first | exact List.forall_mem_nil _ | assumption); (case k6 => k_is); (case k7 => k_is); (case k8 => omega); (case k9 => exact fun M A E Q q Γ p hΓ => q); (case kB => exact fun D => locs rfl); (case c5 => decide); (case c2 => exact rfl); (case c3 => exact rfl); (case c4 => exact rfl)))
  intro D oD L' h₁ tk9 loD hDD hFD F N hLow1 hLow hLow2
  (try dsimp only [hdO, List.cons_append, List.nil_append] at *)
  (try k_lt hLow1)
  (try k_lt hLow)
  (try k_lt2 hLow2)
  skip
  have hb9 : b.length ≤ 1000 := cb.1
  have ha9 : a.length ≤ 1000 := ca.1
  k_steps
  walk_at "my.end"
  rename News _ _ _ _ => N9
  refine' hret _ _ _ (by walk_at "my.keep") ⟨_, ⟨rfl, _, _, _, _, rfl⟩, Held.of N9 ?s⟩
  case s =>
    dsimp only [hdO, List.cons_append, List.nil_append]
    walk_at "my.sub"
end Adh
theorem c_addheader {w : World} {h : Heap} {x dx l : Addr} {tk : Tok} {vs : List Value} {n : Nat} (W : Wd w (hideAll h (addrs (hdO w x dx l tk vs n)))) (hO : ∀ p ∈ hdO w x dx l tk vs n, h.get? p.1 = some p.2) (h1 : @Ne Nat x dx) (h2 : @Ne Nat x l) (h3 : @Ne Nat dx l) (hv : vs.length ≤ 1000)
    (a b : Str) (ta tb : Tok) (ca : Clean a) (cb : Clean b) : MCall2 w 293 [.ref x, .str a ta, .str b tb] [] 2 h (hdO w x dx l tk vs n)
      (fun v own' => v = .none ∧ ∃ (t : Addr) (ta' tb' : Tok) (nt : Nat), own' = hdO w x dx l tk (vs ++ [.ref t]) (n + 1) ++ [(t, { cls := .type "tuple", data := .seq #[.str a ta', .str b tb'] nt })]) := by
  intro dp9 un9 fr9 gd9 s9 Q9 E9 e9 hdp9 hun9 hret9
  subst e9
  exact Adh.all w x dx l tk vs n a b ta tb dp9 un9 fr9 gd9 s9 Q9 E9 Adh.walk W hO h1 h2 h3 hv ca cb hdp9 hun9 hret9
end

end Mine
-- H2
example : True := by
  w_top off
  exact trivial
namespace Mine
example (P : Params) : hd.heap_1 P = hd.heap_1 P ∧ PySem.Challenge.rw_wo0076_01 = PySem.Challenge.rw_wo0076_01 := by
  k_fill
  exact ⟨rfl, rfl⟩



section

namespace Kys
example : True := by
  k_with_none
  (k_with "my.enter" => ((case k1 => first | exact List.forall_mem_nil _ | assumption); (case k6 => k_is); (case k7 => k_is); (case k8 => omega); (case k9 => first | exact BindsTo.of_eq rfl | exact binds_K (by k_in) rfl (by k_is) rfl rfl rfl); (case kB => exact locs rfl); (case c5 => decide); (case c2 => exact rfl); (case c3 => exact rfl); (case c4 => exact rfl)))
  (k_with "my.enterC" => ((case k1 => first | exact List.forall_mem_nil _ | assumption); (case k6 => k_is); (case k7 => k_is); (case k8 => omega); (case k9 => first | exact BindsTo.of_eq rfl | exact binds_K (by k_in) rfl (by k_is) rfl rfl rfl); (case kB => exact rfl); (case kD => decide +kernel); (case c2 => exact rfl); (case c3 => exact rfl); (case c4 => exact rfl)))
  (k_with "my.room" => first | omega | ((simp only [depth_under_make, depth_under_kw, depth_in1, depth_deeper, depth_caller]); omega))
  (k_with "my.units" => first | omega | ((simp only [units_in1, units_deeper, Around.mark_units, units_caller]); omega))
  (k_with "my.wd" => exact Wd.keeps (by assumption) (Fr.keep (by k_asm)))
  (k_with "call builtin:list.append" => (k_here; k_dflt (refine' append_K (by k_asm) (by k_asm) (by k_upd) ?_ (by (simp only [List.size_toArray, Array.size_push, List.length_append, List.length_cons, List.length_nil, sizeLine_eq]; omega)); k_whole); intro h' F' N'; (try simp only [List.push_toArray] at N'); (try k_sweep)))
  (k_with "my.end" => ((try dsimp only); (try k_unfold); (try dsimp only [retOf])))
  (k_with "my.keep" => exact (fun b o e hb => Fr.keep (by assumption) b o (hideAll_get _ e hb)))
  (k_with "my.cend" => (unfold Hold; refine LCg.CompEnd.intro (by k_asm) (by assumption) _ (fun p hp => hp) (by assumption) (by first | trivial | exact .inr ⟨_, by k_memK, rfl, _, rfl⟩ | exact .inl (by assumption)) ⟨rfl, ?_⟩))
  (k_with "my.m" => with_reducible ((repeat (first | exact List.Mem.head _ | refine List.Mem.tail _ ?_ | assumption | (refine List.mem_append_left _ ?_; walk_at "my.m") | (refine List.mem_append_right _ ?_; walk_at "my.m"))); done))
  (k_with "my.mg" => first | walk_at "my.m" | ((try dsimp only [hdO, PyProof.Rows.LCg.lst, PySem.W.listOf, PySem.W.instObj, PySem.W.dictOf, List.cons_append, List.nil_append]); walk_at "my.m") | ((simp only [List.mem_cons, List.mem_append]); grind))
  (k_with "my.inc" => with_reducible ((repeat' (first | exact inc_refl | exact inc_nil | refine inc_same ?_ | refine inc_app ?_ ?_ | refine inc_one (by walk_at "my.m") ?_ | assumption | refine inc_skip ?_ | (refine inc_left ?_; walk_at "my.inc") | (refine inc_right ?_; walk_at "my.inc"))); done))
  (k_with "my.ne" => with_reducible first | assumption | exact neS1 | exact neS1.symm | exact neS2 | exact neS2.symm | (refine Ne.symm ?_; assumption) | (refine Nat.ne_of_lt ?_; assumption) | (refine Nat.ne_of_gt ?_; assumption))
  (k_with "my.pin" => first | ((try dsimp only [hdO, List.cons_append, List.nil_append] at hp ⊢); exact (show ∀ p ∈ _, p ∈ _ from by walk_at "my.inc") _ hp) | ((try dsimp only [hdO, PyProof.Rows.LCg.lst, PySem.W.listOf, PySem.W.instObj, PySem.W.dictOf, List.cons_append, List.nil_append] at hp ⊢); exact (show ∀ p ∈ _, p ∈ _ from by walk_at "my.inc") _ hp) | ((simp only [hdO, List.cons_append, List.nil_append, List.mem_append, List.mem_cons, List.not_mem_nil, or_false] at hp ⊢); grind))
  (k_with "my.mY" => ((repeat (first | exact List.Mem.head _ | refine List.Mem.tail _ ?_ | refine List.mem_append_right _ ?_)); done))
  (k_with "my.pinS" => ((try dsimp only [hdO, List.cons_append, List.nil_append] at hp ⊢); revert hp; revert p; (repeat (first | exact inc_snoc2 | exact inc_snoc1 | refine inc_under ?_ | refine inc_over ?_)); done))
  (k_with "my.pinY" => ((try dsimp only [hdO, List.cons_append, List.nil_append] at hp ⊢); revert hp; revert p; (repeat (refine inc_one (by walk_at "my.mY") ?_)); (with_reducible (repeat (first | exact inc_refl | exact inc_nil | refine inc_skip ?_ | refine inc_left ?_))); done))
  (k_with "my.in" => first | ((try dsimp only [hdO, List.cons_append, List.nil_append]); walk_at "my.inc") | ((try dsimp only [hdO, PyProof.Rows.LCg.lst, PySem.W.listOf, PySem.W.instObj, PySem.W.dictOf, List.cons_append, List.nil_append]); walk_at "my.inc") | (intro p hp; (try simp only [hdO, List.cons_append, List.nil_append, List.mem_cons, List.mem_append, List.not_mem_nil, or_false, false_or] at hp ⊢); first | exact hp | grind))
  (k_with "my.same" => (intro z h1 h2 h3; first
  | rfl
  | (simp only [List.forall_mem_cons, List.forall_mem_nil, List.not_mem_nil, false_implies, implies_true, and_true, ne_eq] at h2; simp only [List.contains_cons, List.contains_nil, Bool.or_false, Bool.or_eq_false_iff, beq_eq_false_iff_ne, ne_eq] at h3; simp [h1, h2, h3, kstB]; done)
  | (simp [h1, kstB]; done)
  | (simp_all [kstB]; done)))
  (k_with "my.csame" => (intro z h2 h3; first
  | rfl
  | exact kstB_stay z h2 h3
  | (simp only [List.forall_mem_cons, List.forall_mem_nil, List.not_mem_nil, false_implies, implies_true, and_true, ne_eq] at h2; (try simp only [List.contains_cons, List.contains_nil, Bool.or_false, Bool.or_eq_false_iff, beq_eq_false_iff_ne, ne_eq] at h3); simp [h2, h3, kstB]; done)
  | (simp_all [kstB]; done)))
  (k_with "my.all" => (repeat' (first | exact List.forall_mem_nil _ | (refine List.forall_mem_cons.mpr ⟨rfl, ?_⟩))))
  (k_with "execs cons" => first | (k_here; k_gentoks) | (k_here; k_made; walk_at "execs cons") | ((with_reducible refine wpAny_execs_cons ?_); (try dsimp only); k_fold))
  (k_with "my.sub" => (repeat' (first | exact List.forall_mem_nil _ | (refine List.forall_mem_cons.mpr ⟨?_, ?_⟩) | k_mem)))
  (k_with "eval ListComp" => (k_here; first
  | (lcp_look; k_dflt (refine LCp.ListComp_P (F₀ := by k_asm) (by with_unfolding_all rfl) (by decide) (by rfl) (by decide) (by rfl) (by rfl) (by decide) ?_); k_dflt lcp_toSrc)
  | (lct_look; k_dflt (refine LCt.ListComp_T (F₀ := by k_asm) (by with_unfolding_all rfl) (by decide) (by rfl) (by decide) (by rfl) ?_); k_dflt lct_toSrc)
  | (k_dflt (refine LCg.ListComp_U (F₀ := by k_asm) (by with_unfolding_all rfl) (by decide) (by rfl) (by decide) (by rfl) ?_); k_dflt lcg_toSrc)))
  (k_with "exec Assign cons ListComp" => (k_here; first
  | (lcp_look; k_dflt (refine LCp.Assign_ListComp_P (F₀ := by k_asm) (by rfl) (by with_unfolding_all rfl) (by with_unfolding_all rfl) (by decide) (by rfl) (by decide) (by rfl) (by rfl) (by decide) (by rfl) (by rfl) ?_); k_dflt lcp_toSrc)
  | (lct_look; k_dflt (refine LCt.Assign_ListComp_T (F₀ := by k_asm) (by rfl) (by with_unfolding_all rfl) (by with_unfolding_all rfl) (by decide) (by rfl) (by decide) (by rfl) (by rfl) (by rfl) ?_); k_dflt lct_toSrc)
  | (k_dflt (refine LCg.Assign_ListComp_U (F₀ := by k_asm) (by rfl) (by with_unfolding_all rfl) (by with_unfolding_all rfl) (by decide) (by rfl) (by decide) (by rfl) (by rfl) (by rfl) ?_); k_dflt lcg_toSrc)))
  (k_with "CompSrc" => (refine Hold.out ?_))
  (k_with "CompSrcT" => (refine Hold.out ?_))
  (k_with "SrcLP" => (refine Hold.out ?_))
  (k_with "CompEnd" => (refine Hold.out ?_))
  exact trivial
noncomputable def Body (w : World) (x : Addr) (dx : Addr) (l : Addr) (tk : Tok) (vs : List Value) (ts : List (Addr × Obj)) (ps : List (Str × Str)) (n : Nat) (dp : Nat) (un : Nat) (fr : Option (List Env)) (gd : Option (List Code)) (s : Shared) (Q : Value → Shared → Prop) (E : Value → Shared → Prop) : Prop :=
    Wd w (hideAll s.heap (addrs (hdO w x dx l tk vs n ++ ts))) → (∀ p ∈ hdO w x dx l tk vs n ++ ts, s.heap.get? p.1 = some p.2) → Prs vs ts ps → vs.length ≤ 1000 →
    MB w 248 [.ref x] [] 2 (hdO w x dx l tk vs n ++ ts) (fun v h' => ∃ own', (fun v own' => ∃ (r : Addr) (ys : List Value) (m : Nat), v = .ref r ∧ own' = (r, listOf ys.toArray m) :: (hdO w x dx l tk vs n ++ ts) ∧ StrsAre ys (ps.map (·.1))) v own' ∧ Held s.heap (hdO w x dx l tk vs n ++ ts) h' own') dp un fr gd s Q E
noncomputable def Ok (v : World × Addr × Addr × Addr × Tok × (List Value) × (List (Addr × Obj)) × (List (Str × Str)) × Nat × Nat × Nat × (Option (List Env)) × (Option (List Code)) × Shared × (Value → Shared → Prop) × (Value → Shared → Prop)) : Prop := Body v.1 v.2.1 v.2.2.1 v.2.2.2.1 v.2.2.2.2.1 v.2.2.2.2.2.1 v.2.2.2.2.2.2.1 v.2.2.2.2.2.2.2.1 v.2.2.2.2.2.2.2.2.1 v.2.2.2.2.2.2.2.2.2.1 v.2.2.2.2.2.2.2.2.2.2.1 v.2.2.2.2.2.2.2.2.2.2.2.1 v.2.2.2.2.2.2.2.2.2.2.2.2.1 v.2.2.2.2.2.2.2.2.2.2.2.2.2.1 v.2.2.2.2.2.2.2.2.2.2.2.2.2.2.1 v.2.2.2.2.2.2.2.2.2.2.2.2.2.2.2
theorem ne : Nonempty (World × Addr × Addr × Addr × Tok × (List Value) × (List (Addr × Obj)) × (List (Str × Str)) × Nat × Nat × Nat × (Option (List Env)) × (Option (List Code)) × Shared × (Value → Shared → Prop) × (Value → Shared → Prop)) := ⟨(aWorld 1, (0 : Nat), (0 : Nat), (0 : Nat), 0, [], [], [], 0, 0, 0, none, none, {}, fun _ _ => True, fun _ _ => True)⟩
noncomputable def v0 : World × Addr × Addr × Addr × Tok × (List Value) × (List (Addr × Obj)) × (List (Str × Str)) × Nat × Nat × Nat × (Option (List Env)) × (Option (List Code)) × Shared × (Value → Shared → Prop) × (Value → Shared → Prop) := Classical.choose (one_for_all ne Ok)
@[irreducible] noncomputable def w : World := v0.1
@[irreducible] noncomputable def x : Addr := v0.2.1
@[irreducible] noncomputable def dx : Addr := v0.2.2.1
@[irreducible] noncomputable def l : Addr := v0.2.2.2.1
@[irreducible] noncomputable def tk : Tok := v0.2.2.2.2.1
@[irreducible] noncomputable def vs : List Value := v0.2.2.2.2.2.1
@[irreducible] noncomputable def ts : List (Addr × Obj) := v0.2.2.2.2.2.2.1
@[irreducible] noncomputable def ps : List (Str × Str) := v0.2.2.2.2.2.2.2.1
@[irreducible] noncomputable def n : Nat := v0.2.2.2.2.2.2.2.2.1
@[irreducible] noncomputable def dp : Nat := v0.2.2.2.2.2.2.2.2.2.1
@[irreducible] noncomputable def un : Nat := v0.2.2.2.2.2.2.2.2.2.2.1
@[irreducible] noncomputable def fr : Option (List Env) := v0.2.2.2.2.2.2.2.2.2.2.2.1
@[irreducible] noncomputable def gd : Option (List Code) := v0.2.2.2.2.2.2.2.2.2.2.2.2.1
@[irreducible] noncomputable def s : Shared := v0.2.2.2.2.2.2.2.2.2.2.2.2.2.1
@[irreducible] noncomputable def Q : Value → Shared → Prop := v0.2.2.2.2.2.2.2.2.2.2.2.2.2.2.1
@[irreducible] noncomputable def E : Value → Shared → Prop := v0.2.2.2.2.2.2.2.2.2.2.2.2.2.2.2
theorem all (w : World) (x : Addr) (dx : Addr) (l : Addr) (tk : Tok) (vs : List Value) (ts : List (Addr × Obj)) (ps : List (Str × Str)) (n : Nat) (dp : Nat) (un : Nat) (fr : Option (List Env)) (gd : Option (List Code)) (s : Shared) (Q : Value → Shared → Prop) (E : Value → Shared → Prop) (h : Body Kys.w Kys.x Kys.dx Kys.l Kys.tk Kys.vs Kys.ts Kys.ps Kys.n Kys.dp Kys.un Kys.fr Kys.gd Kys.s Kys.Q Kys.E) : Body w x dx l tk vs ts ps n dp un fr gd s Q E := by
  delta Kys.w Kys.x Kys.dx Kys.l Kys.tk Kys.vs Kys.ts Kys.ps Kys.n Kys.dp Kys.un Kys.fr Kys.gd Kys.s Kys.Q Kys.E at h
  exact Classical.choose_spec (one_for_all ne Ok) h (w, x, dx, l, tk, vs, ts, ps, n, dp, un, fr, gd, s, Q, E)
noncomputable def L' : Addr := s.heap.objs.size
set_option maxRecDepth 100000 in
set_option maxHeartbeats 2000000 in
theorem walk : Body w x dx l tk vs ts ps n dp un fr gd s Q E := by
  (k_with "execs cons" => first | (k_here; k_gentoks) | (k_here; k_made; walk_at "execs cons") | ((with_reducible refine wpAny_execs_cons ?_); (try dsimp only)))
  intro W hO hP hv hdp hun hret
  obtain ⟨X, loose, mean, mg, mb, T⟩ := id W
  k_dflt (refine' enterV (L' := L') [(Str.ofString "self", .ref x)] (hdO w x dx l tk vs n ++ ts) ?k1 W ?k6 ?k7 ?k8 ?k9 ?kB ?_ rfl ?c5 ?c2 ?c3 ?c4; walk_at "my.enter")
  intro h₁ F N hLow
  (try dsimp only [hdO, List.cons_append, List.nil_append] at *)
  (try k_lt hLow)
  skip
  k_steps
  unfold Hold
  (rename News _ _ _ _ => N8)
  k_dflt (refine LCp.SrcLP.ledger (its := vs.toArray) (by rfl) (by k_asm) N8 (by k_memK) (by rw [List.size_toArray, sizeLine_eq]; omega) ?_)
  intro g'
  refine crp_inv (fun i ys nw => nw = (hdO w x dx l tk vs n ++ ts) ∧ StrsAre ys ((ps.take i).map (·.1))) ⟨rfl, .nil⟩ ?_ ?_
  · rintro i ys nw v hi hy ⟨rfl, hS⟩ hv'
    obtain ⟨t, a, b, ta, tb, nt, rfl, hp, hm⟩ := hP.at (i := i) (v := v) (by simpa using hv')
    refine ⟨t, _, _, _, _, rfl, List.mem_append_right _ hm, rfl, rfl, ?_⟩
    intro I oI C oC D m₂ h2 tk2 E' hC hx hx2 F2 N2 off ne
    k_steps
    unfold Hold
    refine LCg.CompEnd.intro (by assumption) N2 (hdO w x dx l tk vs n ++ ts) (fun p hp => hp) off (.inr ⟨_, by k_memK, rfl, _, rfl⟩) ⟨rfl, ?_⟩
    rw [List.take_add_one, hp]
    simpa using kct_snoc hS
  · rintro ys nw hy ⟨rfl, hS⟩
    rw [List.size_toArray, hP.length, List.take_length] at hS
    intro D h2 tk2 F2 N2 off
    walk_at "my.end"
    exact hret _ _ _ (by walk_at "my.keep") ⟨_, ⟨_, ys, ys.length, rfl, rfl, hS⟩, Held.of N2 fun p hp => hp⟩
end Kys
theorem c_keys {w : World} {h : Heap} {x dx l : Addr} {tk : Tok} {vs : List Value} {ts : List (Addr × Obj)} {ps : List (Str × Str)} {n : Nat} (W : Wd w (hideAll h (addrs (hdO w x dx l tk vs n ++ ts)))) (hO : ∀ p ∈ hdO w x dx l tk vs n ++ ts, h.get? p.1 = some p.2) (hP : Prs vs ts ps) (hv : vs.length ≤ 1000) :
    MCall2 w 248 [.ref x] [] 2 h (hdO w x dx l tk vs n ++ ts)
      (fun v own' => ∃ (r : Addr) (ys : List Value) (m : Nat), v = .ref r ∧ own' = (r, listOf ys.toArray m) :: (hdO w x dx l tk vs n ++ ts) ∧ StrsAre ys (ps.map (·.1))) := by
  intro dp9 un9 fr9 gd9 s9 Q9 E9 e9 hdp9 hun9 hret9
  subst e9
  exact Kys.all w x dx l tk vs ts ps n dp9 un9 fr9 gd9 s9 Q9 E9 Kys.walk W hO hP hv hdp9 hun9 hret9
end
section

namespace Gal
example : True := by
  k_with_none
  (k_with "my.enter" => ((case k1 => first | exact List.forall_mem_nil _ | assumption); (case k6 => k_is); (case k7 => k_is); (case k8 => omega); (case k9 => first | exact BindsTo.of_eq rfl | exact binds_K (by k_in) rfl (by k_is) rfl rfl rfl); (case kB => exact locs rfl); (case c5 => decide); (case c2 => exact rfl); (case c3 => exact rfl); (case c4 => exact rfl)))
  (k_with "my.enterC" => ((case k1 => first | exact List.forall_mem_nil _ | assumption); (case k6 => k_is); (case k7 => k_is); (case k8 => omega); (case k9 => first | exact BindsTo.of_eq rfl | exact binds_K (by k_in) rfl (by k_is) rfl rfl rfl); (case kB => exact rfl); (case kD => decide +kernel); (case c2 => exact rfl); (case c3 => exact rfl); (case c4 => exact rfl)))
  (k_with "my.room" => first | omega | ((simp only [depth_under_make, depth_under_kw, depth_in1, depth_deeper, depth_caller]); omega))
  (k_with "my.units" => first | omega | ((simp only [units_in1, units_deeper, Around.mark_units, units_caller]); omega))
  (k_with "my.wd" => exact Wd.keeps (by assumption) (Fr.keep (by k_asm)))
  (k_with "call builtin:list.append" => (k_here; k_dflt (refine' append_K (by k_asm) (by k_asm) (by k_upd) ?_ (by (simp only [List.size_toArray, Array.size_push, List.length_append, List.length_cons, List.length_nil, sizeLine_eq]; omega)); k_whole); intro h' F' N'; (try simp only [List.push_toArray] at N'); (try k_sweep)))
  (k_with "my.end" => ((try dsimp only); (try k_unfold); (try dsimp only [retOf])))
  (k_with "my.keep" => exact (fun b o e hb => Fr.keep (by assumption) b o (hideAll_get _ e hb)))
  (k_with "my.cend" => (unfold Hold; refine LCg.CompEnd.intro (by k_asm) (by assumption) _ (fun p hp => hp) (by assumption) (by first | trivial | exact .inr ⟨_, by k_memK, rfl, _, rfl⟩ | exact .inl (by assumption)) ⟨rfl, ?_⟩))
  (k_with "my.m" => with_reducible ((repeat (first | exact List.Mem.head _ | refine List.Mem.tail _ ?_ | assumption | (refine List.mem_append_left _ ?_; walk_at "my.m") | (refine List.mem_append_right _ ?_; walk_at "my.m"))); done))
  (k_with "my.mg" => first | walk_at "my.m" | ((try dsimp only [hdO, PyProof.Rows.LCg.lst, PySem.W.listOf, PySem.W.instObj, PySem.W.dictOf, List.cons_append, List.nil_append]); walk_at "my.m") | ((simp only [List.mem_cons, List.mem_append]); grind))
  (k_with "my.inc" => with_reducible ((repeat' (first | exact inc_refl | exact inc_nil | refine inc_same ?_ | refine inc_app ?_ ?_ | refine inc_one (by walk_at "my.m") ?_ | assumption | refine inc_skip ?_ | (refine inc_left ?_; walk_at "my.inc") | (refine inc_right ?_; walk_at "my.inc"))); done))
  (k_with "my.ne" => with_reducible first | assumption | exact neS1 | exact neS1.symm | exact neS2 | exact neS2.symm | (refine Ne.symm ?_; assumption) | (refine Nat.ne_of_lt ?_; assumption) | (refine Nat.ne_of_gt ?_; assumption))
  (k_with "my.pin" => first | ((try dsimp only [hdO, List.cons_append, List.nil_append] at hp ⊢); exact (show ∀ p ∈ _, p ∈ _ from by walk_at "my.inc") _ hp) | ((try dsimp only [hdO, PyProof.Rows.LCg.lst, PySem.W.listOf, PySem.W.instObj, PySem.W.dictOf, List.cons_append, List.nil_append] at hp ⊢); exact (show ∀ p ∈ _, p ∈ _ from by walk_at "my.inc") _ hp) | ((simp only [hdO, List.cons_append, List.nil_append, List.mem_append, List.mem_cons, List.not_mem_nil, or_false] at hp ⊢); grind))
  (k_with "my.mY" => ((repeat (first | exact List.Mem.head _ | refine List.Mem.tail _ ?_ | refine List.mem_append_right _ ?_)); done))
  (k_with "my.pinS" => ((try dsimp only [hdO, List.cons_append, List.nil_append] at hp ⊢); revert hp; revert p; (repeat (first | exact inc_snoc2 | exact inc_snoc1 | refine inc_under ?_ | refine inc_over ?_)); done))
  (k_with "my.pinY" => ((try dsimp only [hdO, List.cons_append, List.nil_append] at hp ⊢); revert hp; revert p; (repeat (refine inc_one (by walk_at "my.mY") ?_)); (with_reducible (repeat (first | exact inc_refl | exact inc_nil | refine inc_skip ?_ | refine inc_left ?_))); done))
  (k_with "my.in" => first | ((try dsimp only [hdO, List.cons_append, List.nil_append]); walk_at "my.inc") | ((try dsimp only [hdO, PyProof.Rows.LCg.lst, PySem.W.listOf, PySem.W.instObj, PySem.W.dictOf, List.cons_append, List.nil_append]); walk_at "my.inc") | (intro p hp; (try simp only [hdO, List.cons_append, List.nil_append, List.mem_cons, List.mem_append, List.not_mem_nil, or_false, false_or] at hp ⊢); first | exact hp | grind))
  (k_with "my.same" => (intro z h1 h2 h3; first
  | rfl
  | (simp only [List.forall_mem_cons, List.forall_mem_nil, List.not_mem_nil, false_implies, implies_true, and_true, ne_eq] at h2; simp only [List.contains_cons, List.contains_nil, Bool.or_false, Bool.or_eq_false_iff, beq_eq_false_iff_ne, ne_eq] at h3; simp [h1, h2, h3, kstB]; done)
  | (simp [h1, kstB]; done)
  | (simp_all [kstB]; done)))
  (k_with "my.csame" => (intro z h2 h3; first
  | rfl
  | exact kstB_stay z h2 h3
  | (simp only [List.forall_mem_cons, List.forall_mem_nil, List.not_mem_nil, false_implies, implies_true, and_true, ne_eq] at h2; (try simp only [List.contains_cons, List.contains_nil, Bool.or_false, Bool.or_eq_false_iff, beq_eq_false_iff_ne, ne_eq] at h3); simp [h2, h3, kstB]; done)
  | (simp_all [kstB]; done)))
  (k_with "my.all" => (repeat' (first | exact List.forall_mem_nil _ | (refine List.forall_mem_cons.mpr ⟨rfl, ?_⟩))))
  (k_with "execs cons" => first | (k_here; k_gentoks) | (k_here; k_made; walk_at "execs cons") | ((with_reducible refine wpAny_execs_cons ?_); (try dsimp only); k_fold))
  (k_with "my.sub" => (repeat' (first | exact List.forall_mem_nil _ | (refine List.forall_mem_cons.mpr ⟨?_, ?_⟩) | k_mem)))
  (k_with "call ref" => (k_here; (with_reducible show wpAny _ _ (call (Value.ref 197) _ _) _ _ _); k_dflt (refine' MCall.pure (c_convert (by walk_at "my.wd") _ _ _ _ (by assumption)) (by walk_at "my.room") (by walk_at "my.units") (by k_asm) (by k_asm) ?_); intro v9 h9 tk9 hR9 hk9 F9 N9; (try k_sweep); subst hR9; (try dsimp only)))
  (k_with "eval ListComp" => (k_here; first
  | (lcp_look; k_dflt (refine LCp.ListComp_P (F₀ := by k_asm) (by with_unfolding_all rfl) (by decide) (by rfl) (by decide) (by rfl) (by rfl) (by decide) ?_); k_dflt lcp_toSrc)
  | (lct_look; k_dflt (refine LCt.ListComp_T (F₀ := by k_asm) (by with_unfolding_all rfl) (by decide) (by rfl) (by decide) (by rfl) ?_); k_dflt lct_toSrc)
  | (k_dflt (refine LCg.ListComp_U (F₀ := by k_asm) (by with_unfolding_all rfl) (by decide) (by rfl) (by decide) (by rfl) ?_); k_dflt lcg_toSrc)))
  (k_with "exec Assign cons ListComp" => (k_here; first
  | (lcp_look; k_dflt (refine LCp.Assign_ListComp_P (F₀ := by k_asm) (by rfl) (by with_unfolding_all rfl) (by with_unfolding_all rfl) (by decide) (by rfl) (by decide) (by rfl) (by rfl) (by decide) (by rfl) (by rfl) ?_); k_dflt lcp_toSrc)
  | (lct_look; k_dflt (refine LCt.Assign_ListComp_T (F₀ := by k_asm) (by rfl) (by with_unfolding_all rfl) (by with_unfolding_all rfl) (by decide) (by rfl) (by decide) (by rfl) (by rfl) (by rfl) ?_); k_dflt lct_toSrc)
  | (k_dflt (refine LCg.Assign_ListComp_U (F₀ := by k_asm) (by rfl) (by with_unfolding_all rfl) (by with_unfolding_all rfl) (by decide) (by rfl) (by decide) (by rfl) (by rfl) (by rfl) ?_); k_dflt lcg_toSrc)))
  (k_with "CompSrc" => (refine Hold.out ?_))
  (k_with "CompSrcT" => (refine Hold.out ?_))
  (k_with "SrcLP" => (refine Hold.out ?_))
  (k_with "CompEnd" => (refine Hold.out ?_))
  exact trivial
noncomputable def Body (w : World) (x : Addr) (dx : Addr) (l : Addr) (tk : Tok) (vs : List Value) (ts : List (Addr × Obj)) (ps : List (Str × Str)) (n : Nat) (a : Str) (ta : Tok) (dp : Nat) (un : Nat) (fr : Option (List Env)) (gd : Option (List Code)) (s : Shared) (Q : Value → Shared → Prop) (E : Value → Shared → Prop) : Prop :=
    Wd w (hideAll s.heap (addrs (hdO w x dx l tk vs n ++ ts))) → (∀ p ∈ hdO w x dx l tk vs n ++ ts, s.heap.get? p.1 = some p.2) → Prs vs ts ps → vs.length ≤ 1000 → (∀ p ∈ ps, p.1.length ≤ 100) → Clean (Txt.lower a) → a.length ≤ 100 →
    MB w 235 [.ref x, .str a ta] [] 2 (hdO w x dx l tk vs n ++ ts) (fun v h' => ∃ own', (fun v own' => ∃ (r : Addr) (ys : List Value) (m : Nat), v = .ref r ∧ own' = (r, listOf ys.toArray m) :: (hdO w x dx l tk vs n ++ ts) ∧ StrsAre ys ((ps.filter fun p => Txt.lower p.1 == Txt.lower a).map (·.2))) v own' ∧ Held s.heap (hdO w x dx l tk vs n ++ ts) h' own') dp un fr gd s Q E
noncomputable def Ok (v : World × Addr × Addr × Addr × Tok × (List Value) × (List (Addr × Obj)) × (List (Str × Str)) × Nat × Str × Tok × Nat × Nat × (Option (List Env)) × (Option (List Code)) × Shared × (Value → Shared → Prop) × (Value → Shared → Prop)) : Prop := Body v.1 v.2.1 v.2.2.1 v.2.2.2.1 v.2.2.2.2.1 v.2.2.2.2.2.1 v.2.2.2.2.2.2.1 v.2.2.2.2.2.2.2.1 v.2.2.2.2.2.2.2.2.1 v.2.2.2.2.2.2.2.2.2.1 v.2.2.2.2.2.2.2.2.2.2.1 v.2.2.2.2.2.2.2.2.2.2.2.1 v.2.2.2.2.2.2.2.2.2.2.2.2.1 v.2.2.2.2.2.2.2.2.2.2.2.2.2.1 v.2.2.2.2.2.2.2.2.2.2.2.2.2.2.1 v.2.2.2.2.2.2.2.2.2.2.2.2.2.2.2.1 v.2.2.2.2.2.2.2.2.2.2.2.2.2.2.2.2.1 v.2.2.2.2.2.2.2.2.2.2.2.2.2.2.2.2.2
theorem ne : Nonempty (World × Addr × Addr × Addr × Tok × (List Value) × (List (Addr × Obj)) × (List (Str × Str)) × Nat × Str × Tok × Nat × Nat × (Option (List Env)) × (Option (List Code)) × Shared × (Value → Shared → Prop) × (Value → Shared → Prop)) := ⟨(aWorld 1, (0 : Nat), (0 : Nat), (0 : Nat), 0, [], [], [], 0, ⟨#[]⟩, 0, 0, 0, none, none, {}, fun _ _ => True, fun _ _ => True)⟩
noncomputable def v0 : World × Addr × Addr × Addr × Tok × (List Value) × (List (Addr × Obj)) × (List (Str × Str)) × Nat × Str × Tok × Nat × Nat × (Option (List Env)) × (Option (List Code)) × Shared × (Value → Shared → Prop) × (Value → Shared → Prop) := Classical.choose (one_for_all ne Ok)
@[irreducible] noncomputable def w : World := v0.1
@[irreducible] noncomputable def x : Addr := v0.2.1
@[irreducible] noncomputable def dx : Addr := v0.2.2.1
@[irreducible] noncomputable def l : Addr := v0.2.2.2.1
@[irreducible] noncomputable def tk : Tok := v0.2.2.2.2.1
@[irreducible] noncomputable def vs : List Value := v0.2.2.2.2.2.1
@[irreducible] noncomputable def ts : List (Addr × Obj) := v0.2.2.2.2.2.2.1
@[irreducible] noncomputable def ps : List (Str × Str) := v0.2.2.2.2.2.2.2.1
@[irreducible] noncomputable def n : Nat := v0.2.2.2.2.2.2.2.2.1
@[irreducible] noncomputable def a : Str := v0.2.2.2.2.2.2.2.2.2.1
@[irreducible] noncomputable def ta : Tok := v0.2.2.2.2.2.2.2.2.2.2.1
@[irreducible] noncomputable def dp : Nat := v0.2.2.2.2.2.2.2.2.2.2.2.1
@[irreducible] noncomputable def un : Nat := v0.2.2.2.2.2.2.2.2.2.2.2.2.1
@[irreducible] noncomputable def fr : Option (List Env) := v0.2.2.2.2.2.2.2.2.2.2.2.2.2.1
@[irreducible] noncomputable def gd : Option (List Code) := v0.2.2.2.2.2.2.2.2.2.2.2.2.2.2.1
@[irreducible] noncomputable def s : Shared := v0.2.2.2.2.2.2.2.2.2.2.2.2.2.2.2.1
@[irreducible] noncomputable def Q : Value → Shared → Prop := v0.2.2.2.2.2.2.2.2.2.2.2.2.2.2.2.2.1
@[irreducible] noncomputable def E : Value → Shared → Prop := v0.2.2.2.2.2.2.2.2.2.2.2.2.2.2.2.2.2
theorem all (w : World) (x : Addr) (dx : Addr) (l : Addr) (tk : Tok) (vs : List Value) (ts : List (Addr × Obj)) (ps : List (Str × Str)) (n : Nat) (a : Str) (ta : Tok) (dp : Nat) (un : Nat) (fr : Option (List Env)) (gd : Option (List Code)) (s : Shared) (Q : Value → Shared → Prop) (E : Value → Shared → Prop) (h : Body Gal.w Gal.x Gal.dx Gal.l Gal.tk Gal.vs Gal.ts Gal.ps Gal.n Gal.a Gal.ta Gal.dp Gal.un Gal.fr Gal.gd Gal.s Gal.Q Gal.E) : Body w x dx l tk vs ts ps n a ta dp un fr gd s Q E := by
  delta Gal.w Gal.x Gal.dx Gal.l Gal.tk Gal.vs Gal.ts Gal.ps Gal.n Gal.a Gal.ta Gal.dp Gal.un Gal.fr Gal.gd Gal.s Gal.Q Gal.E at h
  exact Classical.choose_spec (one_for_all ne Ok) h (w, x, dx, l, tk, vs, ts, ps, n, a, ta, dp, un, fr, gd, s, Q, E)
noncomputable def L' : Addr := s.heap.objs.size
set_option maxRecDepth 100000 in
set_option maxHeartbeats 2000000 in
theorem walk : Body w x dx l tk vs ts ps n a ta dp un fr gd s Q E := by
  (k_with "execs cons" => first | (k_here; k_gentoks) | (k_here; k_made; walk_at "execs cons") | ((with_reducible refine wpAny_execs_cons ?_); (try dsimp only)))
  intro W hO hP hv hL ca ha hdp hun hret
  obtain ⟨X, loose, mean, mg, mb, T⟩ := id W
  k_dflt (refine' enterCV (L' := L') [(Str.ofString "self", .ref x), (Str.ofString "name", .str a ta)] (hdO w x dx l tk vs n ++ ts) ?k1 W ?k6 ?k7 ?k8 ?k9 ?kB ?kD ?_ rfl ?c2 ?c3 ?c4; walk_at "my.enterC")
  intro h₁ tkE cells F N Y hLow
  k_cells Y
  (try dsimp only [hdO, List.cons_append, List.nil_append] at *)
  (try simp only [List.cons_append, List.nil_append] at N)
  (try k_lt hLow)
  skip
  have hT1 : AllLt (L' + 1) ts := allLt_up (Nat.le_succ _) hLow.2.2.2
  have mk9 := kstMark
  k_steps
  unfold Hold
  (rename News _ _ _ _ => N8)
  k_dflt (refine LCt.CompSrcT.ledger (its := vs.toArray) (by rfl) (by k_asm) N8 (by k_memK) (by rw [List.size_toArray, sizeLine_eq]; omega) ?_)
  intro g'
  refine crt_fix (fun i ys => StrsAre ys (((ps.take i).filter fun p => Txt.lower p.1 == Txt.lower a).map (·.2))) .nil ?_ ?_
  · rintro i ys v I oI C oC D m₂ h2 tk2 E' hi hS hv' hC hx F2 N2 off ne
    obtain ⟨t, b, c, tb, tc, nt, rfl, hp, hT, _, _⟩ := hP.tup (i := i) (v := v) (by simpa using hv')
    have hT2 := hT N2 (by intro p hp; simp [hp])
    have hb9 : b.length ≤ 100 := hL _ (List.mem_of_getElem? hp)
    k_steps
    · rename_i hq
      walk_at "my.cend"
      rw [List.take_add_one, hp]
      simpa [List.filter_append, hq] using kct_snoc hS
    · rename_i hq
      walk_at "my.cend"
      rw [List.take_add_one, hp]
      simpa [List.filter_append, hq] using hS
  · rintro ys hS D h2 tk2 F2 N2 off
    rw [List.size_toArray, hP.length, List.take_length] at hS
    walk_at "my.end"
    exact hret _ _ _ (by walk_at "my.keep") ⟨_, ⟨_, ys, ys.length, rfl, rfl, hS⟩, Held.of N2 (by walk_at "my.in")⟩
end Gal
theorem c_getall {w : World} {h : Heap} {x dx l : Addr} {tk : Tok} {vs : List Value} {ts : List (Addr × Obj)} {ps : List (Str × Str)} {n : Nat} (W : Wd w (hideAll h (addrs (hdO w x dx l tk vs n ++ ts)))) (hO : ∀ p ∈ hdO w x dx l tk vs n ++ ts, h.get? p.1 = some p.2) (hP : Prs vs ts ps) (hv : vs.length ≤ 1000) (hL : ∀ p ∈ ps, p.1.length ≤ 100)
    (a : Str) (ta : Tok) (ca : Clean (Txt.lower a)) (ha : a.length ≤ 100) :
    MCall2 w 235 [.ref x, .str a ta] [] 2 h (hdO w x dx l tk vs n ++ ts)
      (fun v own' => ∃ (r : Addr) (ys : List Value) (m : Nat), v = .ref r ∧ own' = (r, listOf ys.toArray m) :: (hdO w x dx l tk vs n ++ ts) ∧ StrsAre ys ((ps.filter fun p => Txt.lower p.1 == Txt.lower a).map (·.2))) := by
  intro dp9 un9 fr9 gd9 s9 Q9 E9 e9 hdp9 hun9 hret9
  subst e9
  exact Gal.all w x dx l tk vs ts ps n a ta dp9 un9 fr9 gd9 s9 Q9 E9 Gal.walk W hO hP hv hL ca ha hdp9 hun9 hret9
end

end Mine
-- H3
example : True := by
  w_top off
  exact trivial
namespace Mine
example (P : Params) : hd.heap_1 P = hd.heap_1 P ∧ PySem.Challenge.rw_wo0076_01 = PySem.Challenge.rw_wo0076_01 := by
  k_fill
  exact ⟨rfl, rfl⟩



section
example : True := by
  k_with_none
  (k_with "my.enter" => ((case k1 => first | exact List.forall_mem_nil _ | assumption); (case k6 => k_is); (case k7 => k_is); (case k8 => omega); (case k9 => first | exact BindsTo.of_eq rfl | exact binds_K (by k_in) rfl (by k_is) rfl rfl rfl); (case kB => exact locs rfl); (case c5 => decide); (case c2 => exact rfl); (case c3 => exact rfl); (case c4 => exact rfl)))
  (k_with "my.enterC" => ((case k1 => first | exact List.forall_mem_nil _ | assumption); (case k6 => k_is); (case k7 => k_is); (case k8 => omega); (case k9 => first | exact BindsTo.of_eq rfl | exact binds_K (by k_in) rfl (by k_is) rfl rfl rfl); (case kB => exact rfl); (case kD => decide +kernel); (case c2 => exact rfl); (case c3 => exact rfl); (case c4 => exact rfl)))
  (k_with "my.room" => first | omega | ((simp only [depth_under_make, depth_under_kw, depth_in1, depth_deeper, depth_caller]); omega))
  (k_with "my.units" => first | omega | ((simp only [units_in1, units_deeper, Around.mark_units, units_caller]); omega))
  (k_with "my.wd" => exact Wd.keeps (by assumption) (Fr.keep (by k_asm)))
  (k_with "call builtin:list.append" => (k_here; k_dflt (refine' append_K (by k_asm) (by k_asm) (by k_upd) ?_ (by (simp only [List.size_toArray, Array.size_push, List.length_append, List.length_cons, List.length_nil, sizeLine_eq]; omega)); k_whole); intro h' F' N'; (try simp only [List.push_toArray] at N'); (try k_sweep)))
  (k_with "my.end" => ((try dsimp only); (try k_unfold); (try dsimp only [retOf])))
  (k_with "my.keep" => exact (fun b o e hb => Fr.keep (by assumption) b o (hideAll_get _ e hb)))
  (k_with "my.cend" => (unfold Hold; refine LCg.CompEnd.intro (by k_asm) (by assumption) _ (fun p hp => hp) (by assumption) (by first | trivial | exact .inr ⟨_, by k_memK, rfl, _, rfl⟩ | exact .inl (by assumption)) ⟨rfl, ?_⟩))
  (k_with "my.m" => with_reducible ((repeat (first | exact List.Mem.head _ | refine List.Mem.tail _ ?_ | assumption | (refine List.mem_append_left _ ?_; walk_at "my.m") | (refine List.mem_append_right _ ?_; walk_at "my.m"))); done))
  (k_with "my.mg" => first | walk_at "my.m" | ((try dsimp only [hdO, PyProof.Rows.LCg.lst, PySem.W.listOf, PySem.W.instObj, PySem.W.dictOf, List.cons_append, List.nil_append]); walk_at "my.m") | ((simp only [List.mem_cons, List.mem_append]); grind))
  (k_with "my.inc" => with_reducible ((repeat' (first | exact inc_refl | exact inc_nil | refine inc_same ?_ | refine inc_app ?_ ?_ | refine inc_one (by walk_at "my.m") ?_ | assumption | refine inc_skip ?_ | (refine inc_left ?_; walk_at "my.inc") | (refine inc_right ?_; walk_at "my.inc"))); done))
  (k_with "my.ne" => with_reducible first | assumption | exact neS1 | exact neS1.symm | exact neS2 | exact neS2.symm | (refine Ne.symm ?_; assumption) | (refine Nat.ne_of_lt ?_; assumption) | (refine Nat.ne_of_gt ?_; assumption))
  (k_with "my.pin" => first | ((try dsimp only [hdO, List.cons_append, List.nil_append] at hp ⊢); exact (show ∀ p ∈ _, p ∈ _ from by walk_at "my.inc") _ hp) | ((try dsimp only [hdO, PyProof.Rows.LCg.lst, PySem.W.listOf, PySem.W.instObj, PySem.W.dictOf, List.cons_append, List.nil_append] at hp ⊢); exact (show ∀ p ∈ _, p ∈ _ from by walk_at "my.inc") _ hp) | ((simp only [hdO, List.cons_append, List.nil_append, List.mem_append, List.mem_cons, List.not_mem_nil, or_false] at hp ⊢); grind))
  (k_with "my.mY" => ((repeat (first | exact List.Mem.head _ | refine List.Mem.tail _ ?_ | refine List.mem_append_right _ ?_)); done))
  (k_with "my.pinS" => ((try dsimp only [hdO, List.cons_append, List.nil_append] at hp ⊢); revert hp; revert p; (repeat (first | exact inc_snoc2 | exact inc_snoc1 | refine inc_under ?_ | refine inc_over ?_)); done))
  (k_with "my.pinY" => ((try dsimp only [hdO, List.cons_append, List.nil_append] at hp ⊢); revert hp; revert p; (repeat (refine inc_one (by walk_at "my.mY") ?_)); (with_reducible (repeat (first | exact inc_refl | exact inc_nil | refine inc_skip ?_ | refine inc_left ?_))); done))
  (k_with "my.in" => first | ((try dsimp only [hdO, List.cons_append, List.nil_append]); walk_at "my.inc") | ((try dsimp only [hdO, PyProof.Rows.LCg.lst, PySem.W.listOf, PySem.W.instObj, PySem.W.dictOf, List.cons_append, List.nil_append]); walk_at "my.inc") | (intro p hp; (try simp only [hdO, List.cons_append, List.nil_append, List.mem_cons, List.mem_append, List.not_mem_nil, or_false, false_or] at hp ⊢); first | exact hp | grind))
  (k_with "my.same" => (intro z h1 h2 h3; first
  | rfl
  | (simp only [List.forall_mem_cons, List.forall_mem_nil, List.not_mem_nil, false_implies, implies_true, and_true, ne_eq] at h2; simp only [List.contains_cons, List.contains_nil, Bool.or_false, Bool.or_eq_false_iff, beq_eq_false_iff_ne, ne_eq] at h3; simp [h1, h2, h3, kstB]; done)
  | (simp [h1, kstB]; done)
  | (simp_all [kstB]; done)))
  (k_with "my.csame" => (intro z h2 h3; first
  | rfl
  | exact kstB_stay z h2 h3
  | (simp only [List.forall_mem_cons, List.forall_mem_nil, List.not_mem_nil, false_implies, implies_true, and_true, ne_eq] at h2; (try simp only [List.contains_cons, List.contains_nil, Bool.or_false, Bool.or_eq_false_iff, beq_eq_false_iff_ne, ne_eq] at h3); simp [h2, h3, kstB]; done)
  | (simp_all [kstB]; done)))
  (k_with "my.all" => (repeat' (first | exact List.forall_mem_nil _ | (refine List.forall_mem_cons.mpr ⟨rfl, ?_⟩))))
  (k_with "execs cons" => first | (k_here; k_gentoks) | (k_here; k_made; walk_at "execs cons") | ((with_reducible refine wpAny_execs_cons ?_); (try dsimp only); k_fold))
  (k_with "my.sub" => (repeat' (first | exact List.forall_mem_nil _ | (refine List.forall_mem_cons.mpr ⟨?_, ?_⟩) | k_mem)))
  exact trivial
set_option maxRecDepth 100000 in
set_option maxHeartbeats 2000000 in
theorem c_itemsF {w : World} {h : Heap} {x dx l : Addr} {tk : Tok} {vs : List Value} {ts : List (Addr × Obj)} {ps : List (Str × Str)} {n : Nat} (W : Wd w (hideAll h (addrs (hdO w x dx l tk vs n ++ ts)))) (hO : ∀ p ∈ hdO w x dx l tk vs n ++ ts, h.get? p.1 = some p.2) (hP : Prs vs ts ps) (hv : vs.length ≤ 1000) :
    MCall2 w 260 [.ref x] [] 2 h (hdO w x dx l tk vs n ++ ts)
      (fun v own' => ∃ (r : Addr) (m : Nat), v = .ref r ∧ own' = (r, listOf vs.toArray m) :: (hdO w x dx l tk vs n ++ ts) ∧ ∀ p ∈ hdO w x dx l tk vs n ++ ts, @Ne Nat p.1 r) := by
  intro dp un fr gd s Q E hs hdp hun hret
  subst hs
  obtain ⟨X, loose, mean, mg, mb, T⟩ := id W
  k_dflt (refine' enterM [(Str.ofString "self", .ref x)] (hdO w x dx l tk vs n ++ ts) ?k1 W ?k6 ?k7 ?k8 ?k9 ?kB ?_ ?c5 ?c2 ?c3 ?c4; walk_at "my.enter")
  intro L' h₁ F N hLow
  (try dsimp only [hdO, List.cons_append, List.nil_append] at *)
  (try k_lt hLow)
  skip
  (try k_fold)
  k_steps
  walk_at "my.end"
  (rename News _ _ _ _ => N9)
  rw [slicePick_all] at N9
  exact hret _ _ _ (by walk_at "my.keep") ⟨_, ⟨_, 0, rfl, rfl, fun p hp => Nat.ne_of_lt (Nat.lt_succ_of_lt (Heap.lt_size (N p hp).1))⟩, Held.of N9 fun p hp => hp⟩
theorem c_items {w : World} {h : Heap} {x dx l : Addr} {tk : Tok} {vs : List Value} {ts : List (Addr × Obj)} {ps : List (Str × Str)} {n : Nat} (W : Wd w (hideAll h (addrs (hdO w x dx l tk vs n ++ ts)))) (hO : ∀ p ∈ hdO w x dx l tk vs n ++ ts, h.get? p.1 = some p.2) (hP : Prs vs ts ps) (hv : vs.length ≤ 1000) :
    MCall2 w 260 [.ref x] [] 2 h (hdO w x dx l tk vs n ++ ts)
      (fun v own' => ∃ (r : Addr) (m : Nat), v = .ref r ∧ own' = (r, listOf vs.toArray m) :: (hdO w x dx l tk vs n ++ ts)) :=
  fun dp un fr gd s Q E a b c d => c_itemsF W hO hP hv dp un fr gd s Q E a b c fun v h' tk' e r => d v h' tk' e (let ⟨o, ⟨r, m, q1, q2, _⟩, y⟩ := r; ⟨o, ⟨r, m, q1, q2⟩, y⟩)
end

end Mine
-- I1
example : True := by
  w_top off
  exact trivial
namespace Mine
/-- MCall at the code's level: a call of f as an object's maker makes it -/
noncomputable def MCode (w : World) (f : Addr) (vs : List Value) (kw : List (Str × Value)) (k : Nat) (h : Heap) (own : List (Addr × Obj)) (P : Value → List (Addr × Obj) → Prop) : Prop :=
  ∀ (dp un : Nat) (fr : Option (List Env)) (gd : Option (List Code)) (s : Shared) (R : Result → Shared → Prop), s.heap = h → dp + k < recursionLimit → un + 8 * k < cLine →
    (∀ v h' tk', (∀ b o, s.heap.get? b = some o → b ∉ addrs own → h'.get? b = some o) → (∃ own', P v own' ∧ Held s.heap own h' own') → R (.ok (.ret v)) { s with heap := h', toks := tk' }) →
    codeAny (model PySem.Challenge.rw_wo0076_01.row.prog w) ⟨none, dp, fr, gd, un⟩ (.call (.ref f) ⟨vs, kw⟩) R s
noncomputable def MBC (w : World) (f : Addr) (vs : List Value) (kw : List (Str × Value)) (k : Nat) (own : List (Addr × Obj)) (Ret : Value → Heap → Prop) (dp un : Nat) (fr : Option (List Env)) (gd : Option (List Code)) (s : Shared) (R : Result → Shared → Prop) : Prop :=
  dp + k < recursionLimit → un + 8 * k < cLine → (∀ v h' tk', (∀ b o, s.heap.get? b = some o → b ∉ addrs own → h'.get? b = some o) → Ret v h' → R (.ok (.ret v)) { s with heap := h', toks := tk' }) →
    codeAny (model PySem.Challenge.rw_wo0076_01.row.prog w) ⟨none, dp, fr, gd, un⟩ (.call (.ref f) ⟨vs, kw⟩) R s
section
variable {w : World} {dp un : Nat} {fr : Option (List Env)} {gd : Option (List Code)} {s : Shared} {Q E : Value → Shared → Prop} {R : Result → Shared → Prop} {name qual : Str} {params : Arguments} {body : List Stmt} {scope : Scope}
  {dV kV doc pm cdv ct oc : Value} {an od : Option Addr} {osl : Array (Option Value)} {f : Addr} {vs : List Value} {kw : List (Str × Value)}
theorem enterI {L' : Addr} (binds : List (Str × Value)) (own : List (Addr × Obj)) (hO : ∀ p ∈ own, s.heap.get? p.1 = some p.2) (W : Wd w (hideAll s.heap (addrs own)))
    (ho : (hd.heap_1 w.params).lookup f = some ⟨oc, od, .func (fnOf name qual params body scope dV kV doc pm an cdv ct), osl⟩) (hcd : codeIn (hd.heap_1 w.params) cdv qual = true) (hroom : dp < recursionLimit)
    (hbind : BindsTo s (fnOf name qual params body scope dV kV doc pm an cdv ct) ⟨vs, kw⟩ binds) (hloc : ∀ y ∈ binds, scope.names.lookup y.1 = some .local)
    (h : ∀ h₁, Fr (hideAll s.heap (addrs own)) L' h₁ (fun y => binds.reverse.lookup y) → News (hideAll s.heap (addrs own)) L' h₁ own → (∀ p ∈ own, p.1 < L') →
      wpAny (model PySem.Challenge.rw_wo0076_01.row.prog w) (Around.deeper ⟨none, dp, fr, gd, un⟩ (envOf qual scope L' f cdv)) (execs body (envOf qual scope L' f cdv))
        (fun fl s' => R (.ok (.ret (retOf fl))) s') (fun _ _ => False) { s with heap := h₁, toks := s.toks + binds.length })
    (hL : L' = s.heap.objs.size) (hcell : ∀ x ∈ scope.names, x.2 ≠ .cell) (hco : scope.isCoroutine = false := by rfl) (hgen : scope.isGenerator = false := by rfl) (hk : scope.kind = .function := by rfl) :
    codeAny (model PySem.Challenge.rw_wo0076_01.row.prog w) ⟨none, dp, fr, gd, un⟩ (.call (.ref f) ⟨vs, kw⟩) R s := by
  subst hL
  obtain ⟨_, _, _, _, T⟩ := W.T
  refine codeAny_call_def (fd := fnOf name qual params body scope dV kV doc pm an cdv ct) (body := body) (binds := binds) hroom (hide_keep (W.X _ _ ho)) rfl (T.nolimit.keeps fun b o e => hide_keep e) (codeRec_of (W.X.keeps fun b o e => hide_keep e) hcd) rfl hbind hcell hloc (fun h₁ hns hk₁ => ?_) hco hgen hk
  refine wpAny_mono (h h₁ ⟨hns, fun b o e => hk₁ b o (hide_keep e), Nat.le_of_eq (hideAll_size _ _)⟩ (fun p hp => ⟨hk₁ _ _ (hO p hp), Nat.ne_of_lt (Heap.lt_size (hO p hp)), hideAll_none _ (List.mem_map_of_mem hp)⟩) (fun p hp => Heap.lt_size (hO p hp))) (fun fl s' q => ?_) fun _ _ q => q.elim
  cases fl <;> exact q
theorem MCode.use {k : Nat} {own rest news : List (Addr × Obj)} {P : Value → List (Addr × Obj) → Prop} {h₀ : Heap} {L : Addr} {m : Str → Option Value}
    (C : MCode w f vs kw k s.heap own P) (hd : dp + k < recursionLimit) (hu : un + 8 * k < cLine) (F : Fr h₀ L s.heap m) (N : News h₀ L s.heap news) (ho : ∀ p ∈ own, p ∈ news) (hn : ∀ p ∈ rest, p ∈ news) (hr : ∀ p ∈ rest, p.1 ∉ addrs own)
    (h : ∀ v own' h' tk', P v own' → Fr h₀ L h' m → News h₀ L h' (own' ++ rest) → R (.ok (.ret v)) { s with heap := h', toks := tk' }) :
    codeAny (model PySem.Challenge.rw_wo0076_01.row.prog w) ⟨none, dp, fr, gd, un⟩ (.call (.ref f) ⟨vs, kw⟩) R s := by
  refine C dp un fr gd s R rfl hd hu fun v h' tk' hk hR => ?_
  obtain ⟨own', hP, hH⟩ := hR
  have N₀ : News h₀ L s.heap (own ++ rest) := fun p hp => (List.mem_append.mp hp).elim (fun q => N p (ho p q)) fun q => N p (hn p q)
  have alive : ∀ b o, s.heap.get? b = some o → ∀ p ∈ own', p.1 ∉ addrs own → p.1 ≠ b := fun b o e p hp hm q => by
    rcases (hH p hp).2 with z | z
    · exact hm z
    · rw [q, e] at z; cases z
  have hL : L ∉ addrs own := fun q => by
    obtain ⟨p, hp, e⟩ := List.mem_map.mp q
    exact (N₀ p (List.mem_append_left _ hp)).2.1 e
  have F' : Fr h₀ L h' m := by
    obtain ⟨oL, es, ep, hLo, r⟩ := F.ns
    refine ⟨⟨oL, es, ep, hk _ _ hLo hL, r⟩, fun b o e => hk b o (F.keep b o e) fun q => ?_, F.above⟩
    obtain ⟨p, hp, rfl⟩ := List.mem_map.mp q
    rw [(N₀ p (List.mem_append_left _ hp)).2.2] at e; cases e
  refine h v own' h' tk' hP F' fun p hp => ?_
  rcases List.mem_append.mp hp with q | q
  · by_cases hm : p.1 ∈ addrs own
    · obtain ⟨p0, hp0, e0⟩ := List.mem_map.mp hm
      have z := N₀ p0 (List.mem_append_left _ hp0)
      exact ⟨(hH p q).1, e0 ▸ z.2.1, e0 ▸ z.2.2⟩
    · refine ⟨(hH p q).1, ?_, ?_⟩
      · obtain ⟨oL, _, _, hL, _⟩ := F.ns
        exact alive L oL hL p q hm
      · cases e : h₀.get? p.1 with
        | none => rfl
        | some o => exact absurd rfl (alive p.1 o (F.keep _ _ e) p q hm)
  · exact ⟨hk _ _ (N₀ p (List.mem_append_right _ q)).1 (hr p q), (N₀ p (List.mem_append_right _ q)).2⟩
end
example (P : Params) : hd.heap_1 P = hd.heap_1 P ∧ PySem.Challenge.rw_wo0076_01 = PySem.Challenge.rw_wo0076_01 := by
  k_fill
  exact ⟨rfl, rfl⟩



section
example : True := by
  k_with_none
  (k_with "my.enter" => ((case k1 => first | exact List.forall_mem_nil _ | assumption); (case k6 => k_is); (case k7 => k_is); (case k8 => omega); (case k9 => first | exact BindsTo.of_eq rfl | exact binds_K (by k_in) rfl (by k_is) rfl rfl rfl); (case kB => exact locs rfl); (case c5 => decide); (case c2 => exact rfl); (case c3 => exact rfl); (case c4 => exact rfl)))
  (k_with "my.enterC" => ((case k1 => first | exact List.forall_mem_nil _ | assumption); (case k6 => k_is); (case k7 => k_is); (case k8 => omega); (case k9 => first | exact BindsTo.of_eq rfl | exact binds_K (by k_in) rfl (by k_is) rfl rfl rfl); (case kB => exact rfl); (case kD => decide +kernel); (case c2 => exact rfl); (case c3 => exact rfl); (case c4 => exact rfl)))
  (k_with "my.room" => first | omega | ((simp only [depth_under_make, depth_under_kw, depth_in1, depth_deeper, depth_caller]); omega))
  (k_with "my.units" => first | omega | ((simp only [units_in1, units_deeper, Around.mark_units, units_caller]); omega))
  (k_with "my.wd" => exact Wd.keeps (by assumption) (Fr.keep (by k_asm)))
  (k_with "call builtin:list.append" => (k_here; k_dflt (refine' append_K (by k_asm) (by k_asm) (by k_upd) ?_ (by (simp only [List.size_toArray, Array.size_push, List.length_append, List.length_cons, List.length_nil, sizeLine_eq]; omega)); k_whole); intro h' F' N'; (try simp only [List.push_toArray] at N'); (try k_sweep)))
  (k_with "my.end" => ((try dsimp only); (try k_unfold); (try dsimp only [retOf])))
  (k_with "my.keep" => exact (fun b o e hb => Fr.keep (by assumption) b o (hideAll_get _ e hb)))
  (k_with "my.cend" => (unfold Hold; refine LCg.CompEnd.intro (by k_asm) (by assumption) _ (fun p hp => hp) (by assumption) (by first | trivial | exact .inr ⟨_, by k_memK, rfl, _, rfl⟩ | exact .inl (by assumption)) ⟨rfl, ?_⟩))
  (k_with "my.m" => with_reducible ((repeat (first | exact List.Mem.head _ | refine List.Mem.tail _ ?_ | assumption | (refine List.mem_append_left _ ?_; walk_at "my.m") | (refine List.mem_append_right _ ?_; walk_at "my.m"))); done))
  (k_with "my.mg" => first | walk_at "my.m" | ((try dsimp only [hdO, PyProof.Rows.LCg.lst, PySem.W.listOf, PySem.W.instObj, PySem.W.dictOf, List.cons_append, List.nil_append]); walk_at "my.m") | ((simp only [List.mem_cons, List.mem_append]); grind))
  (k_with "my.inc" => with_reducible ((repeat' (first | exact inc_refl | exact inc_nil | refine inc_same ?_ | refine inc_app ?_ ?_ | refine inc_one (by walk_at "my.m") ?_ | assumption | refine inc_skip ?_ | (refine inc_left ?_; walk_at "my.inc") | (refine inc_right ?_; walk_at "my.inc"))); done))
  (k_with "my.ne" => with_reducible first | assumption | exact neS1 | exact neS1.symm | exact neS2 | exact neS2.symm | (refine Ne.symm ?_; assumption) | (refine Nat.ne_of_lt ?_; assumption) | (refine Nat.ne_of_gt ?_; assumption))
  (k_with "my.pin" => first | ((try dsimp only [hdO, List.cons_append, List.nil_append] at hp ⊢); exact (show ∀ p ∈ _, p ∈ _ from by walk_at "my.inc") _ hp) | ((try dsimp only [hdO, PyProof.Rows.LCg.lst, PySem.W.listOf, PySem.W.instObj, PySem.W.dictOf, List.cons_append, List.nil_append] at hp ⊢); exact (show ∀ p ∈ _, p ∈ _ from by walk_at "my.inc") _ hp) | ((simp only [hdO, List.cons_append, List.nil_append, List.mem_append, List.mem_cons, List.not_mem_nil, or_false] at hp ⊢); grind))
  (k_with "my.mY" => ((repeat (first | exact List.Mem.head _ | refine List.Mem.tail _ ?_ | refine List.mem_append_right _ ?_)); done))
  (k_with "my.pinS" => ((try dsimp only [hdO, List.cons_append, List.nil_append] at hp ⊢); revert hp; revert p; (repeat (first | exact inc_snoc2 | exact inc_snoc1 | refine inc_under ?_ | refine inc_over ?_)); done))
  (k_with "my.pinY" => ((try dsimp only [hdO, List.cons_append, List.nil_append] at hp ⊢); revert hp; revert p; (repeat (refine inc_one (by walk_at "my.mY") ?_)); (with_reducible (repeat (first | exact inc_refl | exact inc_nil | refine inc_skip ?_ | refine inc_left ?_))); done))
  (k_with "my.in" => first | ((try dsimp only [hdO, List.cons_append, List.nil_append]); walk_at "my.inc") | ((try dsimp only [hdO, PyProof.Rows.LCg.lst, PySem.W.listOf, PySem.W.instObj, PySem.W.dictOf, List.cons_append, List.nil_append]); walk_at "my.inc") | (intro p hp; (try simp only [hdO, List.cons_append, List.nil_append, List.mem_cons, List.mem_append, List.not_mem_nil, or_false, false_or] at hp ⊢); first | exact hp | grind))
  (k_with "my.same" => (intro z h1 h2 h3; first
  | rfl
  | (simp only [List.forall_mem_cons, List.forall_mem_nil, List.not_mem_nil, false_implies, implies_true, and_true, ne_eq] at h2; simp only [List.contains_cons, List.contains_nil, Bool.or_false, Bool.or_eq_false_iff, beq_eq_false_iff_ne, ne_eq] at h3; simp [h1, h2, h3, kstB]; done)
  | (simp [h1, kstB]; done)
  | (simp_all [kstB]; done)))
  (k_with "my.csame" => (intro z h2 h3; first
  | rfl
  | exact kstB_stay z h2 h3
  | (simp only [List.forall_mem_cons, List.forall_mem_nil, List.not_mem_nil, false_implies, implies_true, and_true, ne_eq] at h2; (try simp only [List.contains_cons, List.contains_nil, Bool.or_false, Bool.or_eq_false_iff, beq_eq_false_iff_ne, ne_eq] at h3); simp [h2, h3, kstB]; done)
  | (simp_all [kstB]; done)))
  (k_with "my.all" => (repeat' (first | exact List.forall_mem_nil _ | (refine List.forall_mem_cons.mpr ⟨rfl, ?_⟩))))
  (k_with "execs cons" => first | (k_here; k_gentoks) | (k_here; k_made; walk_at "execs cons") | ((with_reducible refine wpAny_execs_cons ?_); (try dsimp only); k_fold))
  (k_with "my.sub" => (repeat' (first | exact List.forall_mem_nil _ | (refine List.forall_mem_cons.mpr ⟨?_, ?_⟩) | k_mem)))
  (k_with "call ref" => (k_here; (with_reducible show wpAny _ _ (call (Value.ref 197) _ _) _ _ _); k_dflt (refine' MCall.pure (c_convert (by walk_at "my.wd") _ _ _ _ (by assumption)) (by walk_at "my.room") (by walk_at "my.units") (by k_asm) (by k_asm) ?_); intro v9 h9 tk9 hR9 hk9 F9 N9; (try k_sweep); subst hR9; (try dsimp only)))
  (k_with "call type:type" => (k_here; k_dflt (refine' kto_cont (T := "list") (by (refine' ⟨_, kto_N (by k_asm) (by k_mem), (by exact rfl)⟩)) (by decide +kernel) ?_; k_whole)))
  exact trivial
set_option maxRecDepth 100000 in
set_option maxHeartbeats 2000000 in
theorem c_init0 {w : World} {h : Heap} {x dx l : Addr} {n : Nat} (W : Wd w (hideAll h (addrs ([(x, instObj 296 dx), (dx, dictOf [] 0), (l, listOf #[] n)])))) (hO : ∀ p ∈ [(x, instObj 296 dx), (dx, dictOf [] 0), (l, listOf #[] n)], h.get? p.1 = some p.2)
    (h1 : @Ne Nat x dx) (h2 : @Ne Nat x l) (h3 : @Ne Nat dx l) : MCode w 190 [.ref x, .ref l] [] 2 h ([(x, instObj 296 dx), (dx, dictOf [] 0), (l, listOf #[] n)])
      (fun v own' => v = .none ∧ ∃ tk, own' = hdO w x dx l tk [] n) := by
  intro dp un fr gd s R hs hdp hun hret
  subst hs
  obtain ⟨X, loose, mean, mg, mb, T⟩ := id W
  have X0 : (hd.heap_1 w.params).In s.heap := X.keeps fun b o e => hide_keep e
  k_dflt (refine' enterI (L' := s.heap.objs.size) [(Str.ofString "self", .ref x), (Str.ofString "headers", .ref l)] ([(x, instObj 296 dx), (dx, dictOf [] 0), (l, listOf #[] n)]) ?k1 W ?k6 ?k7 ?k8 ?k9 ?kB ?_ rfl ?c5 ?c2 ?c3 ?c4; ((case k1 => assumption); (case k6 => k_is); (case k7 => k_is); (case k8 => omega); (case k9 => exact binds_K X0 rfl (by k_is) rfl rfl rfl); (case kB => exact locs rfl); (case c5 => decide); (case c2 => exact rfl); (case c3 => exact rfl); (case c4 => exact rfl)))
  clear X0
  generalize s.heap.objs.size = L'
  intro h₁ F N hLow
  (try dsimp only [hdO, List.cons_append, List.nil_append] at *)
  (try k_lt hLow)
  (try k_fold)
  k_steps
  walk_at "my.end"
  (rename News _ _ _ _ => N9)
  exact hret _ _ _ (by walk_at "my.keep") ⟨_, ⟨rfl, _, rfl⟩, Held.of N9 (by walk_at "my.sub")⟩

namespace Ini3
noncomputable def Body (w : World) (x : Addr) (dx : Addr) (l : Addr) (n : Nat) (t0 : Addr) (t1 : Addr) (t2 : Addr) (a0 : Str) (a1 : Str) (a2 : Str) (b0 : Str) (b1 : Str) (b2 : Str) (k0 : Tok) (k1 : Tok) (k2 : Tok) (j0 : Tok) (j1 : Tok) (j2 : Tok) (n0 : Nat) (n1 : Nat) (n2 : Nat) (dp : Nat) (un : Nat) (fr : Option (List Env)) (gd : Option (List Code)) (s : Shared) (R : Result → Shared → Prop) : Prop :=
    Wd w (hideAll s.heap (addrs ([(x, instObj 296 dx), (dx, dictOf [] 0), (l, listOf #[.ref t0, .ref t1, .ref t2] n)] ++ [(t0, { cls := .type "tuple", data := .seq #[.str a0 k0, .str b0 j0] n0 }), (t1, { cls := .type "tuple", data := .seq #[.str a1 k1, .str b1 j1] n1 }), (t2, { cls := .type "tuple", data := .seq #[.str a2 k2, .str b2 j2] n2 })]))) → (∀ p ∈ [(x, instObj 296 dx), (dx, dictOf [] 0), (l, listOf #[.ref t0, .ref t1, .ref t2] n)] ++ [(t0, { cls := .type "tuple", data := .seq #[.str a0 k0, .str b0 j0] n0 }), (t1, { cls := .type "tuple", data := .seq #[.str a1 k1, .str b1 j1] n1 }), (t2, { cls := .type "tuple", data := .seq #[.str a2 k2, .str b2 j2] n2 })], s.heap.get? p.1 = some p.2) → @Ne Nat x dx → @Ne Nat x l → @Ne Nat dx l → @Ne Nat dx t0 → @Ne Nat dx t1 → @Ne Nat dx t2 → Clean a0 → Clean a1 → Clean a2 → Clean b0 → Clean b1 → Clean b2 →
    MBC w 190 [.ref x, .ref l] [] 2 ([(x, instObj 296 dx), (dx, dictOf [] 0), (l, listOf #[.ref t0, .ref t1, .ref t2] n)] ++ [(t0, { cls := .type "tuple", data := .seq #[.str a0 k0, .str b0 j0] n0 }), (t1, { cls := .type "tuple", data := .seq #[.str a1 k1, .str b1 j1] n1 }), (t2, { cls := .type "tuple", data := .seq #[.str a2 k2, .str b2 j2] n2 })]) (fun v h' => ∃ own', (fun v own' => v = .none ∧ ∃ tk, own' = hdO w x dx l tk [.ref t0, .ref t1, .ref t2] n ++ [(t0, { cls := .type "tuple", data := .seq #[.str a0 k0, .str b0 j0] n0 }), (t1, { cls := .type "tuple", data := .seq #[.str a1 k1, .str b1 j1] n1 }), (t2, { cls := .type "tuple", data := .seq #[.str a2 k2, .str b2 j2] n2 })]) v own' ∧ Held s.heap ([(x, instObj 296 dx), (dx, dictOf [] 0), (l, listOf #[.ref t0, .ref t1, .ref t2] n)] ++ [(t0, { cls := .type "tuple", data := .seq #[.str a0 k0, .str b0 j0] n0 }), (t1, { cls := .type "tuple", data := .seq #[.str a1 k1, .str b1 j1] n1 }), (t2, { cls := .type "tuple", data := .seq #[.str a2 k2, .str b2 j2] n2 })]) h' own') dp un fr gd s R
noncomputable def Ok (v : World × Addr × Addr × Addr × Nat × Addr × Addr × Addr × Str × Str × Str × Str × Str × Str × Tok × Tok × Tok × Tok × Tok × Tok × Nat × Nat × Nat × Nat × Nat × (Option (List Env)) × (Option (List Code)) × Shared × (Result → Shared → Prop)) : Prop := Body v.1 v.2.1 v.2.2.1 v.2.2.2.1 v.2.2.2.2.1 v.2.2.2.2.2.1 v.2.2.2.2.2.2.1 v.2.2.2.2.2.2.2.1 v.2.2.2.2.2.2.2.2.1 v.2.2.2.2.2.2.2.2.2.1 v.2.2.2.2.2.2.2.2.2.2.1 v.2.2.2.2.2.2.2.2.2.2.2.1 v.2.2.2.2.2.2.2.2.2.2.2.2.1 v.2.2.2.2.2.2.2.2.2.2.2.2.2.1 v.2.2.2.2.2.2.2.2.2.2.2.2.2.2.1 v.2.2.2.2.2.2.2.2.2.2.2.2.2.2.2.1 v.2.2.2.2.2.2.2.2.2.2.2.2.2.2.2.2.1 v.2.2.2.2.2.2.2.2.2.2.2.2.2.2.2.2.2.1 v.2.2.2.2.2.2.2.2.2.2.2.2.2.2.2.2.2.2.1 v.2.2.2.2.2.2.2.2.2.2.2.2.2.2.2.2.2.2.2.1 v.2.2.2.2.2.2.2.2.2.2.2.2.2.2.2.2.2.2.2.2.1 v.2.2.2.2.2.2.2.2.2.2.2.2.2.2.2.2.2.2.2.2.2.1 v.2.2.2.2.2.2.2.2.2.2.2.2.2.2.2.2.2.2.2.2.2.2.1 v.2.2.2.2.2.2.2.2.2.2.2.2.2.2.2.2.2.2.2.2.2.2.2.1 v.2.2.2.2.2.2.2.2.2.2.2.2.2.2.2.2.2.2.2.2.2.2.2.2.1 v.2.2.2.2.2.2.2.2.2.2.2.2.2.2.2.2.2.2.2.2.2.2.2.2.2.1 v.2.2.2.2.2.2.2.2.2.2.2.2.2.2.2.2.2.2.2.2.2.2.2.2.2.2.1 v.2.2.2.2.2.2.2.2.2.2.2.2.2.2.2.2.2.2.2.2.2.2.2.2.2.2.2.1 v.2.2.2.2.2.2.2.2.2.2.2.2.2.2.2.2.2.2.2.2.2.2.2.2.2.2.2.2
theorem ne : Nonempty (World × Addr × Addr × Addr × Nat × Addr × Addr × Addr × Str × Str × Str × Str × Str × Str × Tok × Tok × Tok × Tok × Tok × Tok × Nat × Nat × Nat × Nat × Nat × (Option (List Env)) × (Option (List Code)) × Shared × (Result → Shared → Prop)) := ⟨(aWorld 1, (0 : Nat), (0 : Nat), (0 : Nat), 0, (0 : Nat), (0 : Nat), (0 : Nat), ⟨#[]⟩, ⟨#[]⟩, ⟨#[]⟩, ⟨#[]⟩, ⟨#[]⟩, ⟨#[]⟩, 0, 0, 0, 0, 0, 0, 0, 0, 0, 0, 0, none, none, {}, fun _ _ => True)⟩
noncomputable def v0 : World × Addr × Addr × Addr × Nat × Addr × Addr × Addr × Str × Str × Str × Str × Str × Str × Tok × Tok × Tok × Tok × Tok × Tok × Nat × Nat × Nat × Nat × Nat × (Option (List Env)) × (Option (List Code)) × Shared × (Result → Shared → Prop) := Classical.choose (one_for_all ne Ok)
@[irreducible] noncomputable def w : World := v0.1
@[irreducible] noncomputable def x : Addr := v0.2.1
@[irreducible] noncomputable def dx : Addr := v0.2.2.1
@[irreducible] noncomputable def l : Addr := v0.2.2.2.1
@[irreducible] noncomputable def n : Nat := v0.2.2.2.2.1
@[irreducible] noncomputable def t0 : Addr := v0.2.2.2.2.2.1
@[irreducible] noncomputable def t1 : Addr := v0.2.2.2.2.2.2.1
@[irreducible] noncomputable def t2 : Addr := v0.2.2.2.2.2.2.2.1
@[irreducible] noncomputable def a0 : Str := v0.2.2.2.2.2.2.2.2.1
@[irreducible] noncomputable def a1 : Str := v0.2.2.2.2.2.2.2.2.2.1
@[irreducible] noncomputable def a2 : Str := v0.2.2.2.2.2.2.2.2.2.2.1
@[irreducible] noncomputable def b0 : Str := v0.2.2.2.2.2.2.2.2.2.2.2.1
@[irreducible] noncomputable def b1 : Str := v0.2.2.2.2.2.2.2.2.2.2.2.2.1
@[irreducible] noncomputable def b2 : Str := v0.2.2.2.2.2.2.2.2.2.2.2.2.2.1
@[irreducible] noncomputable def k0 : Tok := v0.2.2.2.2.2.2.2.2.2.2.2.2.2.2.1
@[irreducible] noncomputable def k1 : Tok := v0.2.2.2.2.2.2.2.2.2.2.2.2.2.2.2.1
@[irreducible] noncomputable def k2 : Tok := v0.2.2.2.2.2.2.2.2.2.2.2.2.2.2.2.2.1
@[irreducible] noncomputable def j0 : Tok := v0.2.2.2.2.2.2.2.2.2.2.2.2.2.2.2.2.2.1
@[irreducible] noncomputable def j1 : Tok := v0.2.2.2.2.2.2.2.2.2.2.2.2.2.2.2.2.2.2.1
@[irreducible] noncomputable def j2 : Tok := v0.2.2.2.2.2.2.2.2.2.2.2.2.2.2.2.2.2.2.2.1
@[irreducible] noncomputable def n0 : Nat := v0.2.2.2.2.2.2.2.2.2.2.2.2.2.2.2.2.2.2.2.2.1
@[irreducible] noncomputable def n1 : Nat := v0.2.2.2.2.2.2.2.2.2.2.2.2.2.2.2.2.2.2.2.2.2.1
@[irreducible] noncomputable def n2 : Nat := v0.2.2.2.2.2.2.2.2.2.2.2.2.2.2.2.2.2.2.2.2.2.2.1
@[irreducible] noncomputable def dp : Nat := v0.2.2.2.2.2.2.2.2.2.2.2.2.2.2.2.2.2.2.2.2.2.2.2.1
@[irreducible] noncomputable def un : Nat := v0.2.2.2.2.2.2.2.2.2.2.2.2.2.2.2.2.2.2.2.2.2.2.2.2.1
@[irreducible] noncomputable def fr : Option (List Env) := v0.2.2.2.2.2.2.2.2.2.2.2.2.2.2.2.2.2.2.2.2.2.2.2.2.2.1
@[irreducible] noncomputable def gd : Option (List Code) := v0.2.2.2.2.2.2.2.2.2.2.2.2.2.2.2.2.2.2.2.2.2.2.2.2.2.2.1
@[irreducible] noncomputable def s : Shared := v0.2.2.2.2.2.2.2.2.2.2.2.2.2.2.2.2.2.2.2.2.2.2.2.2.2.2.2.1
@[irreducible] noncomputable def R : Result → Shared → Prop := v0.2.2.2.2.2.2.2.2.2.2.2.2.2.2.2.2.2.2.2.2.2.2.2.2.2.2.2.2
theorem all (w : World) (x : Addr) (dx : Addr) (l : Addr) (n : Nat) (t0 : Addr) (t1 : Addr) (t2 : Addr) (a0 : Str) (a1 : Str) (a2 : Str) (b0 : Str) (b1 : Str) (b2 : Str) (k0 : Tok) (k1 : Tok) (k2 : Tok) (j0 : Tok) (j1 : Tok) (j2 : Tok) (n0 : Nat) (n1 : Nat) (n2 : Nat) (dp : Nat) (un : Nat) (fr : Option (List Env)) (gd : Option (List Code)) (s : Shared) (R : Result → Shared → Prop) (h : Body Ini3.w Ini3.x Ini3.dx Ini3.l Ini3.n Ini3.t0 Ini3.t1 Ini3.t2 Ini3.a0 Ini3.a1 Ini3.a2 Ini3.b0 Ini3.b1 Ini3.b2 Ini3.k0 Ini3.k1 Ini3.k2 Ini3.j0 Ini3.j1 Ini3.j2 Ini3.n0 Ini3.n1 Ini3.n2 Ini3.dp Ini3.un Ini3.fr Ini3.gd Ini3.s Ini3.R) : Body w x dx l n t0 t1 t2 a0 a1 a2 b0 b1 b2 k0 k1 k2 j0 j1 j2 n0 n1 n2 dp un fr gd s R := by
  delta Ini3.w Ini3.x Ini3.dx Ini3.l Ini3.n Ini3.t0 Ini3.t1 Ini3.t2 Ini3.a0 Ini3.a1 Ini3.a2 Ini3.b0 Ini3.b1 Ini3.b2 Ini3.k0 Ini3.k1 Ini3.k2 Ini3.j0 Ini3.j1 Ini3.j2 Ini3.n0 Ini3.n1 Ini3.n2 Ini3.dp Ini3.un Ini3.fr Ini3.gd Ini3.s Ini3.R at h
  exact Classical.choose_spec (one_for_all ne Ok) h (w, x, dx, l, n, t0, t1, t2, a0, a1, a2, b0, b1, b2, k0, k1, k2, j0, j1, j2, n0, n1, n2, dp, un, fr, gd, s, R)
noncomputable def L' : Addr := s.heap.objs.size
set_option maxRecDepth 100000 in
set_option maxHeartbeats 2000000 in
theorem walk : Body w x dx l n t0 t1 t2 a0 a1 a2 b0 b1 b2 k0 k1 k2 j0 j1 j2 n0 n1 n2 dp un fr gd s R := by
  (k_with "execs cons" => first | (k_here; k_gentoks) | (k_here; k_made; walk_at "execs cons") | ((with_reducible refine wpAny_execs_cons ?_); (try dsimp only)))
  intro W hO h1 h2 h3 d0 d1 d2 ca0 ca1 ca2 cb0 cb1 cb2 hdp hun hret
  obtain ⟨X, loose, mean, mg, mb, T⟩ := id W
  have X0 : (hd.heap_1 w.params).In s.heap := X.keeps fun b o e => hide_keep e
  k_dflt (refine' enterI (L' := L') [(Str.ofString "self", .ref x), (Str.ofString "headers", .ref l)] ([(x, instObj 296 dx), (dx, dictOf [] 0), (l, listOf #[.ref t0, .ref t1, .ref t2] n)] ++ [(t0, { cls := .type "tuple", data := .seq #[.str a0 k0, .str b0 j0] n0 }), (t1, { cls := .type "tuple", data := .seq #[.str a1 k1, .str b1 j1] n1 }), (t2, { cls := .type "tuple", data := .seq #[.str a2 k2, .str b2 j2] n2 })]) ?k1 W ?k6 ?k7 ?k8 ?k9 ?kB ?_ rfl ?c5 ?c2 ?c3 ?c4; ((case k1 => assumption); (case k6 => k_is); (case k7 => k_is); (case k8 => omega); (case k9 => exact binds_K X0 rfl (by k_is) rfl rfl rfl); (case kB => exact locs rfl); (case c5 => decide); (case c2 => exact rfl); (case c3 => exact rfl); (case c4 => exact rfl)))
  clear X0
  intro h₁ F N hLow
  (try dsimp only [hdO, List.cons_append, List.nil_append] at *)
  (try k_lt hLow)
  k_steps
  walk_at "my.end"
  (rename News _ _ _ _ => N9)
  exact hret _ _ _ (by walk_at "my.keep") ⟨_, ⟨rfl, _, rfl⟩, Held.of N9 (by walk_at "my.sub")⟩

end Ini3
theorem c_init3 {w : World} {h : Heap} {x dx l : Addr} {n : Nat} {t0 t1 t2 : Addr} {a0 a1 a2 b0 b1 b2 : Str} {k0 k1 k2 j0 j1 j2 : Tok} {n0 n1 n2 : Nat} (W : Wd w (hideAll h (addrs ([(x, instObj 296 dx), (dx, dictOf [] 0), (l, listOf #[.ref t0, .ref t1, .ref t2] n)] ++ [(t0, { cls := .type "tuple", data := .seq #[.str a0 k0, .str b0 j0] n0 }), (t1, { cls := .type "tuple", data := .seq #[.str a1 k1, .str b1 j1] n1 }), (t2, { cls := .type "tuple", data := .seq #[.str a2 k2, .str b2 j2] n2 })])))) (hO : ∀ p ∈ [(x, instObj 296 dx), (dx, dictOf [] 0), (l, listOf #[.ref t0, .ref t1, .ref t2] n)] ++ [(t0, { cls := .type "tuple", data := .seq #[.str a0 k0, .str b0 j0] n0 }), (t1, { cls := .type "tuple", data := .seq #[.str a1 k1, .str b1 j1] n1 }), (t2, { cls := .type "tuple", data := .seq #[.str a2 k2, .str b2 j2] n2 })], h.get? p.1 = some p.2)
    (h1 : @Ne Nat x dx) (h2 : @Ne Nat x l) (h3 : @Ne Nat dx l) (d0 : @Ne Nat dx t0) (d1 : @Ne Nat dx t1) (d2 : @Ne Nat dx t2) (ca0 : Clean a0) (ca1 : Clean a1) (ca2 : Clean a2) (cb0 : Clean b0) (cb1 : Clean b1) (cb2 : Clean b2) : MCode w 190 [.ref x, .ref l] [] 2 h ([(x, instObj 296 dx), (dx, dictOf [] 0), (l, listOf #[.ref t0, .ref t1, .ref t2] n)] ++ [(t0, { cls := .type "tuple", data := .seq #[.str a0 k0, .str b0 j0] n0 }), (t1, { cls := .type "tuple", data := .seq #[.str a1 k1, .str b1 j1] n1 }), (t2, { cls := .type "tuple", data := .seq #[.str a2 k2, .str b2 j2] n2 })])
      (fun v own' => v = .none ∧ ∃ tk, own' = hdO w x dx l tk [.ref t0, .ref t1, .ref t2] n ++ [(t0, { cls := .type "tuple", data := .seq #[.str a0 k0, .str b0 j0] n0 }), (t1, { cls := .type "tuple", data := .seq #[.str a1 k1, .str b1 j1] n1 }), (t2, { cls := .type "tuple", data := .seq #[.str a2 k2, .str b2 j2] n2 })]) := by
  intro dp9 un9 fr9 gd9 s9 R9 e9 hdp9 hun9 hret9
  subst e9
  exact Ini3.all w x dx l n t0 t1 t2 a0 a1 a2 b0 b1 b2 k0 k1 k2 j0 j1 j2 n0 n1 n2 dp9 un9 fr9 gd9 s9 R9 Ini3.walk W hO h1 h2 h3 d0 d1 d2 ca0 ca1 ca2 cb0 cb1 cb2 hdp9 hun9 hret9
end
section
variable {w : World} {dp un : Nat} {fr : Option (List Env)} {gd : Option (List Code)} {s : Shared} {Q E : Value → Shared → Prop} {h₀ : Heap} {L l : Addr} {m : Str → Option Value} {news rest : List (Addr × Obj)} {n : Nat}
/-- Headers of an empty list -/
theorem make0 (W : Wd w h₀) (F : Fr h₀ L s.heap m) (N : News h₀ L s.heap news) (hl : (l, listOf #[] n) ∈ news) (hn : ∀ p ∈ rest, p ∈ news) (hr : ∀ p ∈ rest, @Ne Nat p.1 l) (hd : dp + 3 < recursionLimit) (hu : un + 24 < cLine)
    (h : ∀ x dx tk h' tk', Fr h₀ L h' m → News h₀ L h' (hdO w x dx l tk [] n ++ rest) → (∀ p ∈ news, p.1 < dx) → dx < x → Q (.ref x) { s with heap := h', toks := tk' }) :
    wpAny (model PySem.Challenge.rw_wo0076_01.row.prog w) ⟨none, dp, fr, gd, un⟩ (call (.ref 296) [.ref l] []) Q E s := by
  have X := W.X
  refine call_cls (fI := 190) F X N (by k_is) (by k_is) (by k_is) fun x dx h' F' N' l1 l2 => ?_
  have e1 : @LT.lt Nat _ l dx := l1 _ hl
  have e2 : @LT.lt Nat _ dx x := l2
  have hs : ∀ p ∈ [(x, instObj 296 dx), (dx, dictOf [] 0), (l, listOf #[] n)], p ∈ (x, instObj 296 dx) :: (dx, dictOf [] 0) :: news := List.forall_mem_cons.mpr ⟨.head _, List.forall_mem_cons.mpr ⟨.tail _ (.head _), List.forall_mem_singleton.mpr (.tail _ (.tail _ hl))⟩⟩
  refine MCode.use (own := [(x, instObj 296 dx), (dx, dictOf [] 0), (l, listOf #[] n)]) (rest := rest) (c_init0 (W.under F' N' hs) (fun p hp => (N' p (hs p hp)).1) (by omega) (by omega) (by omega)) ?_ ?_ F' N' hs (fun p hp => .tail _ (.tail _ (hn p hp))) (fun p hp => ?_) ?_
  · show dp + 1 + 2 < recursionLimit
    omega
  · have e9 : ∀ args, (Code.builtin "type.__call__" args).cUnits ≤ 8 := fun args => by
      first | exact (by decide : (8:Nat) ≤ 8) | exact Nat.le_of_ble_eq_true rfl | (simp [Code.cUnits, Code.frames, Code.isFrame])
    exact Nat.lt_of_le_of_lt (Nat.add_le_add_right (Nat.add_le_add_left (e9 _) un) (8 * 2)) (by omega)
  · have e3 : @LT.lt Nat _ p.1 dx := l1 p (hn p hp)
    have e4 := hr p hp
    simp only [addrs, List.map_cons, List.map_nil, List.mem_cons, List.not_mem_nil, or_false, not_or]
    refine ⟨?_, ?_, e4⟩
    · intro z
      have : @LT.lt Nat _ x dx := z ▸ e3
      omega
    · intro z
      have : @LT.lt Nat _ dx dx := z ▸ e3
      omega
  · rintro v own' h9 tk9 ⟨rfl, tk, rfl⟩ F9 N9
    exact ⟨rfl, h x dx tk h9 tk9 F9 N9 l1 l2⟩
/-- Headers of three rows -/
theorem make3 {t0 t1 t2 : Addr} {a0 a1 a2 b0 b1 b2 : Str} {k0 k1 k2 j0 j1 j2 : Tok} {n0 n1 n2 : Nat} (W : Wd w h₀) (F : Fr h₀ L s.heap m) (N : News h₀ L s.heap news) (hl : ∀ p ∈ (l, listOf #[.ref t0, .ref t1, .ref t2] n) :: [(t0, { cls := .type "tuple", data := .seq #[.str a0 k0, .str b0 j0] n0 }), (t1, { cls := .type "tuple", data := .seq #[.str a1 k1, .str b1 j1] n1 }), (t2, { cls := .type "tuple", data := .seq #[.str a2 k2, .str b2 j2] n2 })], p ∈ news) (hn : ∀ p ∈ rest, p ∈ news) (hr : ∀ p ∈ rest, p.1 ∉ [l, t0, t1, t2]) (hd : dp + 3 < recursionLimit) (hu : un + 24 < cLine)
    (ca0 : Clean a0) (ca1 : Clean a1) (ca2 : Clean a2) (cb0 : Clean b0) (cb1 : Clean b1) (cb2 : Clean b2)
    (h : ∀ x dx tk h' tk', Fr h₀ L h' m → News h₀ L h' ((hdO w x dx l tk [.ref t0, .ref t1, .ref t2] n ++ [(t0, { cls := .type "tuple", data := .seq #[.str a0 k0, .str b0 j0] n0 }), (t1, { cls := .type "tuple", data := .seq #[.str a1 k1, .str b1 j1] n1 }), (t2, { cls := .type "tuple", data := .seq #[.str a2 k2, .str b2 j2] n2 })]) ++ rest) → (∀ p ∈ news, p.1 < dx) → dx < x → Q (.ref x) { s with heap := h', toks := tk' }) :
    wpAny (model PySem.Challenge.rw_wo0076_01.row.prog w) ⟨none, dp, fr, gd, un⟩ (call (.ref 296) [.ref l] []) Q E s := by
  have X := W.X
  refine call_cls (fI := 190) F X N (by k_is) (by k_is) (by k_is) fun x dx h' F' N' l1 l2 => ?_
  have e1 : @LT.lt Nat _ l dx := l1 _ (hl _ (.head _))
  have e20 : @LT.lt Nat _ t0 dx := l1 _ (hl _ (.tail _ (.head _)))
  have e21 : @LT.lt Nat _ t1 dx := l1 _ (hl _ (.tail _ (.tail _ (.head _))))
  have e22 : @LT.lt Nat _ t2 dx := l1 _ (hl _ (.tail _ (.tail _ (.tail _ (.head _)))))
  have e2 : @LT.lt Nat _ dx x := l2
  have hs : ∀ p ∈ [(x, instObj 296 dx), (dx, dictOf [] 0), (l, listOf #[.ref t0, .ref t1, .ref t2] n)] ++ [(t0, { cls := .type "tuple", data := .seq #[.str a0 k0, .str b0 j0] n0 }), (t1, { cls := .type "tuple", data := .seq #[.str a1 k1, .str b1 j1] n1 }), (t2, { cls := .type "tuple", data := .seq #[.str a2 k2, .str b2 j2] n2 })], p ∈ (x, instObj 296 dx) :: (dx, dictOf [] 0) :: news := List.forall_mem_cons.mpr ⟨.head _, List.forall_mem_cons.mpr ⟨.tail _ (.head _), fun p hp => .tail _ (.tail _ (hl p hp))⟩⟩
  refine MCode.use (own := [(x, instObj 296 dx), (dx, dictOf [] 0), (l, listOf #[.ref t0, .ref t1, .ref t2] n)] ++ [(t0, { cls := .type "tuple", data := .seq #[.str a0 k0, .str b0 j0] n0 }), (t1, { cls := .type "tuple", data := .seq #[.str a1 k1, .str b1 j1] n1 }), (t2, { cls := .type "tuple", data := .seq #[.str a2 k2, .str b2 j2] n2 })]) (rest := rest) (c_init3 (W.under F' N' hs) (fun p hp => (N' p (hs p hp)).1) (by omega) (by omega) (by omega) (by omega) (by omega) (by omega) ca0 ca1 ca2 cb0 cb1 cb2) ?_ ?_ F' N' hs (fun p hp => .tail _ (.tail _ (hn p hp))) (fun p hp => ?_) ?_
  · show dp + 1 + 2 < recursionLimit
    omega
  · have e9 : ∀ args, (Code.builtin "type.__call__" args).cUnits ≤ 8 := fun args => by
      first | exact (by decide : (8:Nat) ≤ 8) | exact Nat.le_of_ble_eq_true rfl | (simp [Code.cUnits, Code.frames, Code.isFrame])
    exact Nat.lt_of_le_of_lt (Nat.add_le_add_right (Nat.add_le_add_left (e9 _) un) (8 * 2)) (by omega)
  · have e3 : @LT.lt Nat _ p.1 dx := l1 p (hn p hp)
    have e4 := hr p hp
    simp only [List.mem_cons, List.not_mem_nil, or_false, not_or] at e4
    simp only [addrs, List.map_cons, List.map_nil, List.mem_cons, List.not_mem_nil, or_false, not_or, List.map_append, List.mem_append]
    refine ⟨⟨?_, ?_, e4.1⟩, e4.2⟩
    · intro z
      have : @LT.lt Nat _ x dx := z ▸ e3
      omega
    · intro z
      have : @LT.lt Nat _ dx dx := z ▸ e3
      omega
  · rintro v own' h9 tk9 ⟨rfl, tk, rfl⟩ F9 N9
    exact ⟨rfl, h x dx tk h9 tk9 F9 N9 l1 l2⟩
end

end Mine
-- L1
example : True := by
  w_top off
  exact trivial
namespace Mine
example (P : Params) : hd.heap_1 P = hd.heap_1 P ∧ PySem.Challenge.rw_wo0076_01 = PySem.Challenge.rw_wo0076_01 := by
  k_fill
  exact ⟨rfl, rfl⟩



theorem lvA {n j m r : Nat} {k : Int} (hk : k = 0 + (j : Int)) (hj : j < n) (hn : n ≤ 40) (hm : m = n) (hr : r = n) : k = (j : Int) ∧ 0 ≤ k ∧ k ≤ 40 ∧ k < (n : Int) ∧ k < (m : Int) ∧ k < (r : Int) := by
  subst hm hr
  have h1 : k = (j : Int) := by omega
  subst h1
  have h2 : (j : Int) < (r : Int) := Int.ofNat_lt.mpr hj
  exact ⟨rfl, Int.natCast_nonneg _, by omega, h2, h2, h2⟩
theorem slA {p L S : Int} (h : (0 ≤ p → p ≤ L → S = L - p) ∧ (L ≤ p → S = 0)) (h0 : 0 ≤ p) (hS : S ≠ 0) : p + 1 ≤ L := by
  have := h.2
  omega
theorem slB {q L S : Int} (h : S = L + q) (h0 : -L ≤ q) (hS : S ≠ 0) : -L ≤ q - 1 := by omega
theorem lt200 {p L : Int} (h0 : 0 ≤ p) (h1 : p ≤ L) (hL : L ≤ 40) : (200 - (p + 1)).toNat < (200 - p).toNat := by omega
theorem lt200' {q L : Int} (h0 : -L ≤ q) (hL : L ≤ 40) : (200 + (q - 1)).toNat < (200 + q).toNat := by omega
theorem nmLev {g h : Heap} {L : Addr} {n1 n2 n3 n4 : Str} {l1 l2 l3 l4 : List Str} {c1 c2 c3 c4 : List (Str × Value)} {u7 u5 u u0 r : Str → Option Value} {z0 z1 : Int} {t0 t1 t2 t3 : Tok} {b1 a1 : Str} (_ : Fr g L h (kstB (fun z => if l1.contains z = true then u7 z else kstB (fun z => if l2.contains z = true then u5 z else kstB (fun z => if l3.contains z = true then u z else if z = n1 then some (.int z0 t0) else if z = n2 then some (.str b1 t1) else if z = n3 then some (.str a1 t2) else kstB (fun z => if l4.contains z = true then u0 z else if z = n4 then some (.int z1 t3) else r z) c4 z) c3 z) c2 z) c1)) : ∃ p0 p1 p2 p3 v0, p0 = t0 ∧ p1 = t1 ∧ p2 = t2 ∧ p3 = t3 ∧ v0 = u0 := ⟨_, _, _, _, _, rfl, rfl, rfl, rfl, rfl⟩
section

namespace Lev
example : True := by
  k_with_none
  (k_with "my.enter" => ((case k1 => first | exact List.forall_mem_nil _ | assumption); (case k6 => k_is); (case k7 => k_is); (case k8 => omega); (case k9 => first | exact BindsTo.of_eq rfl | exact binds_K (by k_in) rfl (by k_is) rfl rfl rfl); (case kB => exact locs rfl); (case c5 => decide); (case c2 => exact rfl); (case c3 => exact rfl); (case c4 => exact rfl)))
  (k_with "my.enterC" => ((case k1 => first | exact List.forall_mem_nil _ | assumption); (case k6 => k_is); (case k7 => k_is); (case k8 => omega); (case k9 => first | exact BindsTo.of_eq rfl | exact binds_K (by k_in) rfl (by k_is) rfl rfl rfl); (case kB => exact rfl); (case kD => decide +kernel); (case c2 => exact rfl); (case c3 => exact rfl); (case c4 => exact rfl)))
  (k_with "my.room" => first | omega | ((simp only [depth_under_make, depth_under_kw, depth_in1, depth_deeper, depth_caller]); omega))
  (k_with "my.units" => first | omega | ((simp only [units_in1, units_deeper, Around.mark_units, units_caller]); omega))
  (k_with "my.wd" => exact Wd.keeps (by assumption) (Fr.keep (by k_asm)))
  (k_with "call builtin:list.append" => (k_here; k_dflt (refine' append_K (by k_asm) (by k_asm) (by k_upd) ?_ (by (simp only [List.size_toArray, Array.size_push, List.length_append, List.length_cons, List.length_nil, sizeLine_eq]; omega)); k_whole); intro h' F' N'; (try simp only [List.push_toArray] at N'); (try k_sweep)))
  (k_with "my.end" => ((try dsimp only); (try k_unfold); (try dsimp only [retOf])))
  (k_with "my.keep" => exact (fun b o e hb => Fr.keep (by assumption) b o (hideAll_get _ e hb)))
  (k_with "my.cend" => (unfold Hold; refine LCg.CompEnd.intro (by k_asm) (by assumption) _ (fun p hp => hp) (by assumption) (by first | trivial | exact .inr ⟨_, by k_memK, rfl, _, rfl⟩ | exact .inl (by assumption)) ⟨rfl, ?_⟩))
  (k_with "my.m" => with_reducible ((repeat (first | exact List.Mem.head _ | refine List.Mem.tail _ ?_ | assumption | (refine List.mem_append_left _ ?_; walk_at "my.m") | (refine List.mem_append_right _ ?_; walk_at "my.m"))); done))
  (k_with "my.mg" => first | walk_at "my.m" | ((try dsimp only [hdO, PyProof.Rows.LCg.lst, PySem.W.listOf, PySem.W.instObj, PySem.W.dictOf, List.cons_append, List.nil_append]); walk_at "my.m") | ((simp only [List.mem_cons, List.mem_append]); grind))
  (k_with "my.inc" => with_reducible ((repeat' (first | exact inc_refl | exact inc_nil | refine inc_same ?_ | refine inc_app ?_ ?_ | refine inc_one (by walk_at "my.m") ?_ | assumption | refine inc_skip ?_ | (refine inc_left ?_; walk_at "my.inc") | (refine inc_right ?_; walk_at "my.inc"))); done))
  (k_with "my.ne" => with_reducible first | assumption | exact neS1 | exact neS1.symm | exact neS2 | exact neS2.symm | (refine Ne.symm ?_; assumption) | (refine Nat.ne_of_lt ?_; assumption) | (refine Nat.ne_of_gt ?_; assumption))
  (k_with "my.pin" => first | ((try dsimp only [hdO, List.cons_append, List.nil_append] at hp ⊢); exact (show ∀ p ∈ _, p ∈ _ from by walk_at "my.inc") _ hp) | ((try dsimp only [hdO, PyProof.Rows.LCg.lst, PySem.W.listOf, PySem.W.instObj, PySem.W.dictOf, List.cons_append, List.nil_append] at hp ⊢); exact (show ∀ p ∈ _, p ∈ _ from by walk_at "my.inc") _ hp) | ((simp only [hdO, List.cons_append, List.nil_append, List.mem_append, List.mem_cons, List.not_mem_nil, or_false] at hp ⊢); grind))
  (k_with "my.mY" => ((repeat (first | exact List.Mem.head _ | refine List.Mem.tail _ ?_ | refine List.mem_append_right _ ?_)); done))
  (k_with "my.pinS" => ((try dsimp only [hdO, List.cons_append, List.nil_append] at hp ⊢); revert hp; revert p; (repeat (first | exact inc_snoc2 | exact inc_snoc1 | refine inc_under ?_ | refine inc_over ?_)); done))
  (k_with "my.pinY" => ((try dsimp only [hdO, List.cons_append, List.nil_append] at hp ⊢); revert hp; revert p; (repeat (refine inc_one (by walk_at "my.mY") ?_)); (with_reducible (repeat (first | exact inc_refl | exact inc_nil | refine inc_skip ?_ | refine inc_left ?_))); done))
  (k_with "my.in" => first | ((try dsimp only [hdO, List.cons_append, List.nil_append]); walk_at "my.inc") | ((try dsimp only [hdO, PyProof.Rows.LCg.lst, PySem.W.listOf, PySem.W.instObj, PySem.W.dictOf, List.cons_append, List.nil_append]); walk_at "my.inc") | (intro p hp; (try simp only [hdO, List.cons_append, List.nil_append, List.mem_cons, List.mem_append, List.not_mem_nil, or_false, false_or] at hp ⊢); first | exact hp | grind))
  (k_with "my.same" => (intro z h1 h2 h3; first
  | rfl
  | (simp only [List.forall_mem_cons, List.forall_mem_nil, List.not_mem_nil, false_implies, implies_true, and_true, ne_eq] at h2; simp only [List.contains_cons, List.contains_nil, Bool.or_false, Bool.or_eq_false_iff, beq_eq_false_iff_ne, ne_eq] at h3; simp [h1, h2, h3, kstB]; done)
  | (simp [h1, kstB]; done)
  | (simp_all [kstB]; done)))
  (k_with "my.csame" => (intro z h2 h3; first
  | rfl
  | exact kstB_stay z h2 h3
  | (simp only [List.forall_mem_cons, List.forall_mem_nil, List.not_mem_nil, false_implies, implies_true, and_true, ne_eq] at h2; (try simp only [List.contains_cons, List.contains_nil, Bool.or_false, Bool.or_eq_false_iff, beq_eq_false_iff_ne, ne_eq] at h3); simp [h2, h3, kstB]; done)
  | (simp_all [kstB]; done)))
  (k_with "my.all" => (repeat' (first | exact List.forall_mem_nil _ | (refine List.forall_mem_cons.mpr ⟨rfl, ?_⟩))))
  (k_with "execs cons" => first | (k_here; k_gentoks) | (k_here; k_made; walk_at "execs cons") | ((with_reducible refine wpAny_execs_cons ?_); (try dsimp only); k_fold))
  (k_with "my.sub" => (repeat' (first | exact List.forall_mem_nil _ | (refine List.forall_mem_cons.mpr ⟨?_, ?_⟩) | k_mem)))
  (k_with "my.slice" => (k_here; k_dflt (first
  | ((with_reducible show wpAny _ _ (subscriptTail _ _ (Value.str _ _) _) _ _ ⟨Heap.push _ ⟨_, _, Data.fields #[Value.int _ _, Value.none, Value.none], _⟩, _, _, _, _⟩); refine' slice_strN_sn_len (s := ⟨_, _, _, _, _⟩) (by k_asm) (by k_asm) ?_ (by with_unfolding_all rfl) (by (intro _; with_unfolding_all rfl)) (by (rw [sizeLine_eq]; omega)))
  | ((with_reducible show wpAny _ _ (subscriptTail _ _ (Value.str _ _) _) _ _ ⟨Heap.push _ ⟨_, _, Data.fields #[Value.none, Value.int _ _, Value.none], _⟩, _, _, _, _⟩); refine' slice_strN_ns_len (s := ⟨_, _, _, _, _⟩) (by k_asm) (by k_asm) ?_ (by with_unfolding_all rfl) (by (intro _; with_unfolding_all rfl)) (by (rw [sizeLine_eq]; omega)))
  | ((with_reducible show wpAny _ _ (subscriptTail _ _ (Value.str _ _) _) _ _ ⟨Heap.push _ ⟨_, _, Data.fields #[Value.none, Value.none, Value.none], _⟩, _, _, _, _⟩); refine' slice_strN_nn_len (s := ⟨_, _, _, _, _⟩) (by k_asm) (by k_asm) ?_ (by with_unfolding_all rfl) (by (intro _; with_unfolding_all rfl)) (by (rw [sizeLine_eq]; omega)))
  | ((with_reducible show wpAny _ _ (subscriptTail _ _ (Value.str _ _) _) _ _ ⟨Heap.push _ ⟨_, _, Data.fields #[Value.int _ _, Value.int _ _, Value.none], _⟩, _, _, _, _⟩); refine' slice_strN_ss_len (s := ⟨_, _, _, _, _⟩) (by k_asm) (by k_asm) ?_ (by with_unfolding_all rfl) (by (intro _; with_unfolding_all rfl)) (by (rw [sizeLine_eq]; omega)))); intro h' t' k' F' N' hlen'; (try k_sweep)))
  (k_with "subscriptTail Name Slice str ref" => walk_at "my.slice")
  (k_with "call ref" => (k_here; (with_reducible show wpAny _ _ (call (Value.ref 145) _ _) _ _ _); k_dflt (refine' MCall.pure (c_subst (by walk_at "my.wd") _ _ _ _ (by omega) (by omega)) (by walk_at "my.room") (by walk_at "my.units") (by k_asm) (by k_asm) ?_); intro v9 h9 tk9 hR9 hk9 F9 N9; (try k_sweep); (obtain ⟨t9, e9⟩ := hR9); subst e9; (try dsimp only)))
  (k_with "exec For Name Call cons nil" => (k_here; (rename Fr _ _ _ _ => lF'); (with_unfolding_all refine' For_invVF lF' (by exact rfl) (by exact rfl) ?_; k_whole)))
  (k_with "RngPost" => (dsimp only [RngPost]))
  (k_with "RngEnd" => (refine Hold.out ?_))
  (k_with "ite" => (k_here; (with_reducible show ite (decide ((40 : Int) < _) = true) _ _); refine ite_neg (by (rw [decide_eq_true_eq]; omega)) ?_))
  (k_with "exec While BoolOp cons nil" => (refine Hold.out ?_))
  (k_with "KswEnd" => (refine Hold.out ?_))
  (k_with "CutX" => (refine Hold.out ?_))
  (k_with "pyIter ref" => (refine Hold.out ?_))
  (k_with "exec If" => ((with_reducible show wpAny _ _ (exec (Stmt.If _ [Stmt.Assign [Expr.Tuple _ _ _] _ _] [] _) _) _ _ _); (refine Hold.out ?_)))
  (k_with "call type:list" => (refine Hold.out ?_))
  (k_with "exec Assign" => ((with_reducible show wpAny _ _ (exec (Stmt.Assign [Expr.Name _ _] (Expr.Subscript _ (Expr.Slice none (some (Expr.BoolOp _ _ _)) _ _) _) _) _) _ _ _); (refine Hold.out ?_)))
  exact trivial
noncomputable def Body (w : World) (a : Str) (ta : Tok) (b : Str) (tb : Tok) (m : Int) (tm : Tok) (dp : Nat) (un : Nat) (fr : Option (List Env)) (gd : Option (List Code)) (s : Shared) (Q : Value → Shared → Prop) (E : Value → Shared → Prop) : Prop :=
    Wd w s.heap → a.length ≤ 40 → b.length ≤ 40 → 0 ≤ m → m ≤ 10 → dp + 2 < recursionLimit → un + 8 * 2 < cLine → (∀ v h' tk', (∀ b o, s.heap.get? b = some o → b ∉ addrs [] → h'.get? b = some o) → IsI (lev a b m) v → Q v { s with heap := h', toks := tk' }) →
    wpAny (model PySem.Challenge.rw_wo0076_01.row.prog w) ⟨none, dp, fr, gd, un⟩ (call (.ref 152) [.str a ta, .str b tb, .int m tm] []) Q E s
noncomputable def Ok (v : World × Str × Tok × Str × Tok × Int × Tok × Nat × Nat × (Option (List Env)) × (Option (List Code)) × Shared × (Value → Shared → Prop) × (Value → Shared → Prop)) : Prop := Body v.1 v.2.1 v.2.2.1 v.2.2.2.1 v.2.2.2.2.1 v.2.2.2.2.2.1 v.2.2.2.2.2.2.1 v.2.2.2.2.2.2.2.1 v.2.2.2.2.2.2.2.2.1 v.2.2.2.2.2.2.2.2.2.1 v.2.2.2.2.2.2.2.2.2.2.1 v.2.2.2.2.2.2.2.2.2.2.2.1 v.2.2.2.2.2.2.2.2.2.2.2.2.1 v.2.2.2.2.2.2.2.2.2.2.2.2.2
theorem ne : Nonempty (World × Str × Tok × Str × Tok × Int × Tok × Nat × Nat × (Option (List Env)) × (Option (List Code)) × Shared × (Value → Shared → Prop) × (Value → Shared → Prop)) := ⟨(aWorld 1, ⟨#[]⟩, 0, ⟨#[]⟩, 0, 0, 0, 0, 0, none, none, {}, fun _ _ => True, fun _ _ => True)⟩
noncomputable def v0 : World × Str × Tok × Str × Tok × Int × Tok × Nat × Nat × (Option (List Env)) × (Option (List Code)) × Shared × (Value → Shared → Prop) × (Value → Shared → Prop) := Classical.choose (one_for_all ne Ok)
@[irreducible] noncomputable def w : World := v0.1
@[irreducible] noncomputable def a : Str := v0.2.1
@[irreducible] noncomputable def ta : Tok := v0.2.2.1
@[irreducible] noncomputable def b : Str := v0.2.2.2.1
@[irreducible] noncomputable def tb : Tok := v0.2.2.2.2.1
@[irreducible] noncomputable def m : Int := v0.2.2.2.2.2.1
@[irreducible] noncomputable def tm : Tok := v0.2.2.2.2.2.2.1
@[irreducible] noncomputable def dp : Nat := v0.2.2.2.2.2.2.2.1
@[irreducible] noncomputable def un : Nat := v0.2.2.2.2.2.2.2.2.1
@[irreducible] noncomputable def fr : Option (List Env) := v0.2.2.2.2.2.2.2.2.2.1
@[irreducible] noncomputable def gd : Option (List Code) := v0.2.2.2.2.2.2.2.2.2.2.1
@[irreducible] noncomputable def s : Shared := v0.2.2.2.2.2.2.2.2.2.2.2.1
@[irreducible] noncomputable def Q : Value → Shared → Prop := v0.2.2.2.2.2.2.2.2.2.2.2.2.1
@[irreducible] noncomputable def E : Value → Shared → Prop := v0.2.2.2.2.2.2.2.2.2.2.2.2.2
theorem all (w : World) (a : Str) (ta : Tok) (b : Str) (tb : Tok) (m : Int) (tm : Tok) (dp : Nat) (un : Nat) (fr : Option (List Env)) (gd : Option (List Code)) (s : Shared) (Q : Value → Shared → Prop) (E : Value → Shared → Prop) (h : Body Lev.w Lev.a Lev.ta Lev.b Lev.tb Lev.m Lev.tm Lev.dp Lev.un Lev.fr Lev.gd Lev.s Lev.Q Lev.E) : Body w a ta b tb m tm dp un fr gd s Q E := by
  delta Lev.w Lev.a Lev.ta Lev.b Lev.tb Lev.m Lev.tm Lev.dp Lev.un Lev.fr Lev.gd Lev.s Lev.Q Lev.E at h
  exact Classical.choose_spec (one_for_all ne Ok) h (w, a, ta, b, tb, m, tm, dp, un, fr, gd, s, Q, E)
noncomputable def L' : Addr := s.heap.objs.size
set_option maxRecDepth 100000 in
set_option maxHeartbeats 8000000 in
noncomputable def levC : (P : (Str) → (Str) → (Str) → (Str) → (Tok) → (Tok) → (Tok) → (Tok) → (Tok) → (Tok) → (Int) → (Int) → (Tok) → (Tok) → (Str → Option Value) → (Str → Option Value) → (Str → Option Value) → (Str → Option Value) → (Heap) → (Nat) → Prop) ×' ((∀ (a2 : Str) (b2 : Str) (a1 : Str) (b1 : Str) (t5 : Tok) (t7 : Tok) (t0 : Tok) (t1 : Tok) (t2 : Tok) (t3 : Tok) (p : Int) (q : Int) (tp : Tok) (tq : Tok) (u7 : Str → Option Value) (u5 : Str → Option Value) (u : Str → Option Value) (u0 : Str → Option Value) (h7 : Heap) (tk7 : Nat), P a2 b2 a1 b1 t5 t7 t0 t1 t2 t3 p q tp tq u7 u5 u u0 h7 tk7) → Body w a ta b tb m tm dp un fr gd s Q E) := ⟨_, fun hcut => by
  intro W ha hb hm0 hm1 hdp hun hret
  obtain ⟨X, loose, mean, mg, mb, T⟩ := id W
  k_dflt (refine' enterV (L' := L') [(Str.ofString "a", .str a ta), (Str.ofString "b", .str b tb), (Str.ofString "max_cost", .int m tm)] [] ?k1 W ?k6 ?k7 ?k8 ?k9 ?kB ?_ rfl ?c5 ?c2 ?c3 ?c4; walk_at "my.enter")
  intro h₁ F N hLow
  (try dsimp only [hdO, List.cons_append, List.nil_append] at *)
  (try k_lt hLow)
  (try dsimp only [addrs, List.map, hideAll] at F N)
  k_steps
  · walk_at "my.end"
    exact hret _ _ _ (fun b o e _ => Fr.keep (by assumption) b o e) (IsI.of (by unfold lev; rw [if_pos (by first | assumption | (simp_all; done))]))
  unfold Hold
  (rename Fr _ _ _ _ => F1)
  (rename News _ _ _ _ => N1)
  with_unfolding_all (refine ksw_cut (σ := Int × Tok) (fun c => [(Str.ofString "pre", .int c.1 c.2)]) [] (fun c => 0 ≤ c.1 ∧ c.1 ≤ a.length ∧ c.1 ≤ b.length ∧ preS a b (200 - c.1).toNat c.1 = preS a b 200 0) (fun c => (200 - c.1).toNat) (0, _) (fun c => 0 ≤ c.1 ∧ c.1 ≤ a.length ∧ c.1 ≤ b.length ∧ c.1 = preS a b 200 0) F1 N1 (List.forall_mem_singleton.mpr rfl) ⟨by dsimp only; omega, by dsimp only; omega, by dsimp only; omega, rfl⟩ ?_ ?_ (fun _ _ h => False.elim h))
  · rintro ⟨p, tp⟩ u h2 tk2 ⟨hp0, hp1, hp1', hp2⟩ F2 N2
    dsimp only at hp0 hp1 hp1' hp2 F2 N2 ⊢
    (try k_fold)
    k_steps
    all_goals (unfold Hold; (rename Fr _ _ _ _ => F3); (rename News _ _ _ _ => N3))
    · exact ksw_end (_, _) F3 N3 (fun _ h => nomatch h) trivial (List.forall_mem_singleton.mpr rfl) (by walk_at "my.csame") ⟨Int.le_trans hp0 (Int.le_of_lt (Int.lt_add_one_of_le (Int.le_refl p))), slA (S := ((Txt.slice a (some p) none).length : Int)) (by assumption) hp0 (by assumption), slA (S := ((Txt.slice b (some p) none).length : Int)) (by assumption) hp0 (by assumption), pre_go hp0 (by omega) (by assumption) (by assumption) (by assumption) hp2⟩ (lt200 hp0 hp1 (Int.ofNat_le.mpr ha))
    · exact cut_end (p, tp) F3 N3 (List.forall_mem_singleton.mpr rfl) (by walk_at "my.csame") ⟨hp0, hp1, hp1', pre_end hp0 (by omega) (.inr (.inr (by assumption))) hp2⟩
    · exact cut_end (p, tp) F3 N3 (List.forall_mem_singleton.mpr rfl) (by walk_at "my.csame") ⟨hp0, hp1, hp1', pre_end hp0 (by omega) (.inr (.inl (by assumption))) hp2⟩
    · exact cut_end (p, tp) F3 N3 (List.forall_mem_singleton.mpr rfl) (by walk_at "my.csame") ⟨hp0, hp1, hp1', pre_end hp0 (by omega) (.inl (by assumption)) hp2⟩
  rintro ⟨p, tp⟩ u h2 tk2 ⟨hp0, hp1, hp2, hp3⟩ F2 N2
  dsimp only at hp0 hp1 hp2 hp3 F2 N2 ⊢
  k_steps
  unfold Hold
  (rename Fr _ _ _ _ => F3)
  (rename News _ _ _ _ => N3)
  generalize ea1 : Txt.slice a (some p) none = a1 at *
  generalize eb1 : Txt.slice b (some p) none = b1 at *
  have la1 : a1.length ≤ 40 := by rw [← ea1]; exact Nat.le_trans (PyProof.Txt.length_slice_le _ _ _) ha
  have lb1 : b1.length ≤ 40 := by rw [← eb1]; exact Nat.le_trans (PyProof.Txt.length_slice_le _ _ _) hb
  with_unfolding_all (refine ksw_cut (σ := Int × Tok) (fun c => [(Str.ofString "post", .int c.1 c.2)]) [] (fun c => c.1 ≤ 0 ∧ -(a1.length : Int) ≤ c.1 ∧ -(b1.length : Int) ≤ c.1 ∧ postS a1 b1 (200 + c.1).toNat c.1 = postS a1 b1 200 0) (fun c => (200 + c.1).toNat) (0, _) (fun c => c.1 ≤ 0 ∧ -(a1.length : Int) ≤ c.1 ∧ -(b1.length : Int) ≤ c.1 ∧ c.1 = postS a1 b1 200 0) F3 N3 (List.forall_mem_singleton.mpr rfl) ⟨by dsimp only; omega, by dsimp only; omega, by dsimp only; omega, rfl⟩ ?_ ?_ (fun _ _ h => False.elim h))
  · rintro ⟨q, tq⟩ u h3 tk3 ⟨hq0, hq1, hq1', hq2⟩ F4 N4
    dsimp only at hq0 hq1 hq1' hq2 F4 N4 ⊢
    rcases (show q = 0 ∨ q < 0 by omega) with rfl | hqn
    · (try k_fold)
      k_steps
      all_goals (unfold Hold; (rename Fr _ _ _ _ => F3); (rename News _ _ _ _ => N3))
      · exact ksw_end (_, _) F3 N3 (fun _ h => nomatch h) trivial (List.forall_mem_singleton.mpr rfl) (by walk_at "my.csame") ⟨by dsimp only; omega, by dsimp only; omega, by dsimp only; omega, post_go (by omega) (by omega) (by rw [slc_0]; assumption) (by rw [slc_0]; assumption) (by assumption) hq2⟩ (show (200 + ((0 : Int) - 1)).toNat < (200 + (0 : Int)).toNat by decide)
      · exact cut_end (0, tq) F3 N3 (List.forall_mem_singleton.mpr rfl) (by walk_at "my.csame") ⟨hq0, hq1, hq1', post_end hq0 (by omega) (.inr (.inr (by assumption))) hq2⟩
      · exact cut_end (0, tq) F3 N3 (List.forall_mem_singleton.mpr rfl) (by walk_at "my.csame") ⟨hq0, hq1, hq1', post_end hq0 (by omega) (.inr (.inl (by rw [slc_0]; assumption))) hq2⟩
      · exact cut_end (0, tq) F3 N3 (List.forall_mem_singleton.mpr rfl) (by walk_at "my.csame") ⟨hq0, hq1, hq1', post_end hq0 (by omega) (.inl (by rw [slc_0]; assumption)) hq2⟩
    · have hqz : q ≠ 0 := by omega
      have hfa := slice_neg_len a1 hqn hq1
      have hfb := slice_neg_len b1 hqn hq1'
      (try k_fold)
      k_steps
      all_goals (try (exfalso; omega))
      all_goals (unfold Hold; (rename Fr _ _ _ _ => F3); (rename News _ _ _ _ => N3))
      · exact ksw_end (_, _) F3 N3 (fun _ h => nomatch h) trivial (List.forall_mem_singleton.mpr rfl) (by walk_at "my.csame") ⟨by dsimp only; omega, slB hfa hq1 (by assumption), slB hfb hq1' (by assumption), post_go (by omega) (by omega) (by rw [slc_ne _ hqz]; assumption) (by rw [slc_ne _ hqz]; assumption) (by assumption) hq2⟩ (lt200' hq1 (Int.ofNat_le.mpr la1))
      · exact cut_end (q, tq) F3 N3 (List.forall_mem_singleton.mpr rfl) (by walk_at "my.csame") ⟨hq0, hq1, hq1', post_end hq0 (by omega) (.inr (.inr (by assumption))) hq2⟩
      · exact cut_end (q, tq) F3 N3 (List.forall_mem_singleton.mpr rfl) (by walk_at "my.csame") ⟨hq0, hq1, hq1', post_end hq0 (by omega) (.inr (.inl (by rw [slc_ne _ hqz]; assumption))) hq2⟩
      · exact cut_end (q, tq) F3 N3 (List.forall_mem_singleton.mpr rfl) (by walk_at "my.csame") ⟨hq0, hq1, hq1', post_end hq0 (by omega) (.inl (by rw [slc_ne _ hqz]; assumption)) hq2⟩
  rintro ⟨q, tq⟩ u h3 tk3 ⟨hq0, hq1, hq1', hq2⟩ F4 N4
  dsimp only at hq0 hq1 hq1' hq2 F4 N4 ⊢
  k_steps
  unfold Hold
  (rename Fr _ _ _ _ => F5)
  (rename News _ _ _ _ => N5)
  refine cut_st (σ := Tok) (fun t => [(Str.ofString "a", .str (slc a1 q) t)]) [] (fun _ => True) F5 N5 ?_ ?_
  · refine wpAny_Assign_Name ?_
    (try dsimp only)
    rcases (show q = 0 ∨ q < 0 by omega) with rfl | hqn
    · k_steps
      all_goals (unfold Hold; (rename Fr _ _ _ _ => F3); (rename News _ _ _ _ => N3))
      exact cut_end _ F3 N3 (List.forall_mem_singleton.mpr (congrArg (fun z => some (Value.str z _)) (slc_0 a1).symm)) (by walk_at "my.csame") trivial
    · have hqz : q ≠ 0 := by omega
      k_steps
      all_goals (try (exfalso; omega))
      all_goals (unfold Hold; (rename Fr _ _ _ _ => F3); (rename News _ _ _ _ => N3))
      exact cut_end _ F3 N3 (List.forall_mem_singleton.mpr (congrArg (fun z => some (Value.str z _)) (slc_ne a1 hqz).symm)) (by walk_at "my.csame") trivial
  rintro t5 u5 h5 tk5 _ F6 N6
  dsimp only at F6 N6 ⊢
  k_steps
  unfold Hold
  (rename Fr _ _ _ _ => F7)
  (rename News _ _ _ _ => N7)
  refine cut_st (σ := Tok) (fun t => [(Str.ofString "b", .str (slc b1 q) t)]) [] (fun _ => True) F7 N7 ?_ ?_
  · refine wpAny_Assign_Name ?_
    (try dsimp only)
    rcases (show q = 0 ∨ q < 0 by omega) with rfl | hqn
    · k_steps
      all_goals (unfold Hold; (rename Fr _ _ _ _ => F3); (rename News _ _ _ _ => N3))
      exact cut_end _ F3 N3 (List.forall_mem_singleton.mpr (congrArg (fun z => some (Value.str z _)) (slc_0 b1).symm)) (by walk_at "my.csame") trivial
    · have hqz : q ≠ 0 := by omega
      k_steps
      all_goals (try (exfalso; omega))
      all_goals (unfold Hold; (rename Fr _ _ _ _ => F3); (rename News _ _ _ _ => N3))
      exact cut_end _ F3 N3 (List.forall_mem_singleton.mpr (congrArg (fun z => some (Value.str z _)) (slc_ne b1 hqz).symm)) (by walk_at "my.csame") trivial
  rintro t7 u7 h7 tk7 _ F8 N8
  dsimp only at F8 N8 ⊢
  have la2 : (slc a1 q).length ≤ 40 := Nat.le_trans (slc_le _ _) la1
  have lb2 : (slc b1 q).length ≤ 40 := Nat.le_trans (slc_le _ _) lb1
  generalize ea2 : slc a1 q = a2 at *
  generalize eb2 : slc b1 q = b2 at *
  have hlev : lev a b m = lrest a2 b2 m := by
    unfold lev
    rw [if_neg (by first | assumption | (simp_all; done))]
    simp only [← hp3, ea1, eb1, ← hq2, ea2, eb2]
  obtain ⟨t0, t1, t2, t3, u0, e0, e1, e2, e3, e4⟩ := nmLev F8
  subst e0 e1 e2 e3 e4
  replace F8 : Fr s.heap L' h7 _ := F8
  replace N8 : News s.heap L' h7 _ := N8
  revert N8; revert F8; revert hlev; revert lb2; revert la2; revert hret; revert hun; revert hdp; revert hm1; revert hm0; revert W
  exact hcut a2 b2 a1 b1 t5 t7 t0 t1 t2 t3 p q tp tq u7 u5 u u0 h7 tk7
  ⟩
namespace Rst
noncomputable def Body (a2 : Str) (b2 : Str) (a1 : Str) (b1 : Str) (t5 : Tok) (t7 : Tok) (t0 : Tok) (t1 : Tok) (t2 : Tok) (t3 : Tok) (p : Int) (q : Int) (tp : Tok) (tq : Tok) (u7 : Str → Option Value) (u5 : Str → Option Value) (u : Str → Option Value) (u0 : Str → Option Value) (h7 : Heap) (tk7 : Nat) : Prop :=
    levC.1 a2 b2 a1 b1 t5 t7 t0 t1 t2 t3 p q tp tq u7 u5 u u0 h7 tk7
noncomputable def Ok (v : Str × Str × Str × Str × Tok × Tok × Tok × Tok × Tok × Tok × Int × Int × Tok × Tok × (Str → Option Value) × (Str → Option Value) × (Str → Option Value) × (Str → Option Value) × Heap × Nat) : Prop := Body v.1 v.2.1 v.2.2.1 v.2.2.2.1 v.2.2.2.2.1 v.2.2.2.2.2.1 v.2.2.2.2.2.2.1 v.2.2.2.2.2.2.2.1 v.2.2.2.2.2.2.2.2.1 v.2.2.2.2.2.2.2.2.2.1 v.2.2.2.2.2.2.2.2.2.2.1 v.2.2.2.2.2.2.2.2.2.2.2.1 v.2.2.2.2.2.2.2.2.2.2.2.2.1 v.2.2.2.2.2.2.2.2.2.2.2.2.2.1 v.2.2.2.2.2.2.2.2.2.2.2.2.2.2.1 v.2.2.2.2.2.2.2.2.2.2.2.2.2.2.2.1 v.2.2.2.2.2.2.2.2.2.2.2.2.2.2.2.2.1 v.2.2.2.2.2.2.2.2.2.2.2.2.2.2.2.2.2.1 v.2.2.2.2.2.2.2.2.2.2.2.2.2.2.2.2.2.2.1 v.2.2.2.2.2.2.2.2.2.2.2.2.2.2.2.2.2.2.2
theorem ne : Nonempty (Str × Str × Str × Str × Tok × Tok × Tok × Tok × Tok × Tok × Int × Int × Tok × Tok × (Str → Option Value) × (Str → Option Value) × (Str → Option Value) × (Str → Option Value) × Heap × Nat) := ⟨(⟨#[]⟩, ⟨#[]⟩, ⟨#[]⟩, ⟨#[]⟩, 0, 0, 0, 0, 0, 0, 0, 0, 0, 0, fun _ => none, fun _ => none, fun _ => none, fun _ => none, {}, 0)⟩
noncomputable def v0 : Str × Str × Str × Str × Tok × Tok × Tok × Tok × Tok × Tok × Int × Int × Tok × Tok × (Str → Option Value) × (Str → Option Value) × (Str → Option Value) × (Str → Option Value) × Heap × Nat := Classical.choose (one_for_all ne Ok)
@[irreducible] noncomputable def a2 : Str := v0.1
@[irreducible] noncomputable def b2 : Str := v0.2.1
@[irreducible] noncomputable def a1 : Str := v0.2.2.1
@[irreducible] noncomputable def b1 : Str := v0.2.2.2.1
@[irreducible] noncomputable def t5 : Tok := v0.2.2.2.2.1
@[irreducible] noncomputable def t7 : Tok := v0.2.2.2.2.2.1
@[irreducible] noncomputable def t0 : Tok := v0.2.2.2.2.2.2.1
@[irreducible] noncomputable def t1 : Tok := v0.2.2.2.2.2.2.2.1
@[irreducible] noncomputable def t2 : Tok := v0.2.2.2.2.2.2.2.2.1
@[irreducible] noncomputable def t3 : Tok := v0.2.2.2.2.2.2.2.2.2.1
@[irreducible] noncomputable def p : Int := v0.2.2.2.2.2.2.2.2.2.2.1
@[irreducible] noncomputable def q : Int := v0.2.2.2.2.2.2.2.2.2.2.2.1
@[irreducible] noncomputable def tp : Tok := v0.2.2.2.2.2.2.2.2.2.2.2.2.1
@[irreducible] noncomputable def tq : Tok := v0.2.2.2.2.2.2.2.2.2.2.2.2.2.1
@[irreducible] noncomputable def u7 : Str → Option Value := v0.2.2.2.2.2.2.2.2.2.2.2.2.2.2.1
@[irreducible] noncomputable def u5 : Str → Option Value := v0.2.2.2.2.2.2.2.2.2.2.2.2.2.2.2.1
@[irreducible] noncomputable def u : Str → Option Value := v0.2.2.2.2.2.2.2.2.2.2.2.2.2.2.2.2.1
@[irreducible] noncomputable def u0 : Str → Option Value := v0.2.2.2.2.2.2.2.2.2.2.2.2.2.2.2.2.2.1
@[irreducible] noncomputable def h7 : Heap := v0.2.2.2.2.2.2.2.2.2.2.2.2.2.2.2.2.2.2.1
@[irreducible] noncomputable def tk7 : Nat := v0.2.2.2.2.2.2.2.2.2.2.2.2.2.2.2.2.2.2.2
theorem all (a2 : Str) (b2 : Str) (a1 : Str) (b1 : Str) (t5 : Tok) (t7 : Tok) (t0 : Tok) (t1 : Tok) (t2 : Tok) (t3 : Tok) (p : Int) (q : Int) (tp : Tok) (tq : Tok) (u7 : Str → Option Value) (u5 : Str → Option Value) (u : Str → Option Value) (u0 : Str → Option Value) (h7 : Heap) (tk7 : Nat) (h : Body Rst.a2 Rst.b2 Rst.a1 Rst.b1 Rst.t5 Rst.t7 Rst.t0 Rst.t1 Rst.t2 Rst.t3 Rst.p Rst.q Rst.tp Rst.tq Rst.u7 Rst.u5 Rst.u Rst.u0 Rst.h7 Rst.tk7) : Body a2 b2 a1 b1 t5 t7 t0 t1 t2 t3 p q tp tq u7 u5 u u0 h7 tk7 := by
  delta Rst.a2 Rst.b2 Rst.a1 Rst.b1 Rst.t5 Rst.t7 Rst.t0 Rst.t1 Rst.t2 Rst.t3 Rst.p Rst.q Rst.tp Rst.tq Rst.u7 Rst.u5 Rst.u Rst.u0 Rst.h7 Rst.tk7 at h
  exact Classical.choose_spec (one_for_all ne Ok) h (a2, b2, a1, b1, t5, t7, t0, t1, t2, t3, p, q, tp, tq, u7, u5, u, u0, h7, tk7)
set_option maxRecDepth 100000 in
set_option maxHeartbeats 8000000 in
theorem walk : Body a2 b2 a1 b1 t5 t7 t0 t1 t2 t3 p q tp tq u7 u5 u u0 h7 tk7 := by
  intro W hm0 hm1 hdp hun hret la2 lb2 hlev F8 N8
  obtain ⟨X, loose, mean, mg, mb, T⟩ := id W
  k_steps
  any_goals ((walk_at "my.end"); (exact hret _ _ _ (fun b o e _ => Fr.keep (by assumption) b o e) (IsI.of (by rw [hlev]; unfold lrest; rw [if_pos (by omega)]))))
  unfold Hold
  (rename Fr _ _ _ _ => F9)
  (rename News _ _ _ _ => N9)
  refine cut_st (σ := Str × Tok × Str × Tok) (fun t => [(Str.ofString "a", .str t.1 t.2.1), (Str.ofString "b", .str t.2.2.1 t.2.2.2)]) [] (fun t => (t.1.length : Int) ≤ t.2.2.1.length ∧ 1 ≤ (t.1.length : Int) ∧ (t.2.2.1.length : Int) ≤ 40 ∧ ltail t.1 t.2.2.1 m = lrest a2 b2 m) F9 N9 ?_ ?_
  · refine wpAny_If ?_
    k_steps
    all_goals (unfold Hold; dsimp only; (rename Fr _ _ _ _ => F3); (rename News _ _ _ _ => N3))
    · exact cut_end (b2, t7, a2, t5) F3 (fun p hp => nomatch hp) (by walk_at "my.all") (by walk_at "my.csame") ⟨by dsimp only; omega, by dsimp only; omega, by dsimp only; omega, by dsimp only; unfold lrest; rw [if_neg (by omega), if_pos (by omega)]⟩
    · exact cut_end (a2, t5, b2, t7) F3 N3 (by walk_at "my.all") (by walk_at "my.csame") ⟨by dsimp only; omega, by dsimp only; omega, by dsimp only; omega, by dsimp only; unfold lrest; rw [if_neg (by omega), if_neg (by omega)]⟩
  rintro ⟨a3, ta3, b3, tb3⟩ u9 h9 tk9 ⟨ha3, ha3', hb3, hr3⟩ F10 N10
  dsimp only at ha3 ha3' hb3 hr3 F10 N10 ⊢
  rw [hr3.symm] at hlev
  k_steps
  · walk_at "my.end"
    exact hret _ _ _ (fun b o e _ => Fr.keep (by assumption) b o e) (IsI.of (by rw [hlev]; unfold ltail; rw [if_pos (by omega)]))
  have hgap : ¬ ((b3.length : Int) - a3.length) * 2 > m := by omega
  have hbn : b3.length ≤ 40 := Int.ofNat_le.mp hb3
  have han : a3.length ≤ 40 := Nat.le_trans (Int.ofNat_le.mp ha3) hbn
  unfold ltail at hlev
  rw [if_neg hgap] at hlev
  unfold Hold
  (rename Fr _ _ _ _ => F11)
  (rename News _ _ _ _ => N11)
  refine list_range2 (n := a3.length) (by rfl) F11 N11 (by assumption) (small_two (by omega) (by omega) (by omega) (by omega)) (rangeSize_two _) (by omega) ?_
  intro d h12 tk12 us cap F12 N12 hus
  dsimp only
  have mk9 := kstMark
  have hul3 : us.length ≤ 40 := by rw [hus.length, List.length_map, List.length_range]; exact han
  k_steps
  unfold Hold
  (rename Fr _ _ _ _ => F13)
  (rename News _ _ _ _ => N13)
  k_dflt (refine rng (σ := List Value × List Int × Nat × Int × Tok) (n := b3.length) (fun c => [(d, listOf c.1.toArray c.2.2.1)]) (fun c => [(Str.ofString "result", .int c.2.2.2.1 c.2.2.2.2)]) [Str.ofString "bchar", Str.ofString "distance", Str.ofString "minimum", Str.ofString "index", Str.ofString "substitute", Str.ofString "insert_delete"] (fun bi c => IntsAre c.1 c.2.1 ∧ c.2.1.length = a3.length ∧ lout a3 b3 m (b3.length - bi) bi c.2.1 c.2.2.2.1 = lev a b m) (us, _, cap, 0, _) (by rfl) (by assumption) (by exact small_one (by omega) (by omega) (by omega) (by omega)) (by rw [rangeSize_nat]; omega) F13 N13 (List.forall_mem_singleton.mpr rfl) ⟨hus, by simp, ?hlo⟩ ?_ ?_)
  case hlo =>
    rw [hlev]
    simp only [Nat.sub_zero]
    refine congrArg (fun z => lout a3 b3 m b3.length 0 z 0) (List.map_congr_left fun i _ => ?_)
    omega
  · rintro ⟨us1, row1, cap1, res1, tres1⟩ i k t u13 h14 tk14 I oI hk hi2 off ⟨hu1, hr1, hl1⟩ F14 N14
    dsimp only at F14 N14 off hu1 hr1 hl1
    simp only [LCg.Off1, and_true] at off
    obtain ⟨qk1, hk0, hk40, hkB, -, -⟩ := lvA hk hi2 hbn rfl rfl
    have hk1 : Hid (k = (i : Int)) := ⟨qk1⟩
    have hlen4 : Hid (us1.length = a3.length) := ⟨by rw [hu1.length, hr1]⟩
    have hul1 : us1.length ≤ 40 := by rw [hlen4.out]; exact han
    replace hr1 : Hid (row1.length = a3.length) := ⟨hr1⟩
    clear hk qk1
    k_steps
    unfold Hold
    (rename Fr _ _ _ _ => F15)
    (rename News _ _ _ _ => N15)
    k_dflt (refine rng (σ := List Value × Nat × LSt × Tok × Tok × Tok) (n := a3.length) (fun c => [(I, oI), (d, listOf c.1.toArray c.2.1)]) (fun c => [(Str.ofString "distance", .int c.2.2.1.dist c.2.2.2.1), (Str.ofString "result", .int c.2.2.1.res c.2.2.2.2.1), (Str.ofString "minimum", .int c.2.2.1.mn c.2.2.2.2.2)]) [Str.ofString "substitute", Str.ofString "insert_delete"] (fun j c => IntsAre c.1 c.2.2.1.row ∧ c.2.2.1.row.length = a3.length ∧ c.2.2.1 = lin a3 (Txt.item b3 k) ⟨k * 2, k * 2, 9223372036854775807, row1⟩ j) (us1, cap1, ⟨k * 2, k * 2, 9223372036854775807, row1⟩, _, _, _) (by rfl) (by assumption) (by exact small_one (by omega) (by omega) (by omega) (by omega)) (by rw [rangeSize_nat]; omega) F15 N15 (by walk_at "my.all") ⟨hu1, hr1.out, rfl⟩ ?_ ?_)
    · rintro ⟨us2, cap2, ⟨dist2, res2, mn2, row2⟩, td2, tr2, tm2⟩ j kj tj u15 h16 tk16 I2 oI2 hkj hj2 off2 ⟨hu2, hr2, hl2⟩ F16 N16
      dsimp only at F16 N16 off2 hu2 hr2 hl2
      simp only [LCg.Off1, and_true] at off2
      have qlen5 : us2.length = a3.length := by rw [hu2.length, hr2]
      obtain ⟨qkj1, hkj0, hkj40, hkjA, hkjU, hkjR⟩ := lvA hkj hj2 han qlen5 hr2
      have hkj1 : Hid (kj = (j : Int)) := ⟨qkj1⟩
      have hul2 : us2.length ≤ 40 := by rw [qlen5]; exact han
      replace hr2 : Hid (row2.length = a3.length) := ⟨hr2⟩
      clear hkj qkj1 qlen5
      k_steps
      all_goals (unfold Hold; (rename News _ _ _ _ => N3); (rename Fr _ _ _ _ => F3); (rename IntsAre (List.set _ _ _) _ => hu9); (have hkj2 := hkj1.out); subst hkj2)
      · (rename (_ < mn2) => hm9)
        have hmn9 : (lstep a3 (Txt.item b3 k) ⟨dist2, res2, mn2, row2⟩ j).mn = _ := if_pos hm9
        refine rng_end (_, _, lstep a3 (Txt.item b3 k) ⟨dist2, res2, mn2, row2⟩ j, _, _, _) F3 N3 (by k_mem) (List.forall_mem_cons.mpr ⟨List.mem_cons_of_mem _ List.mem_cons_self, List.forall_mem_singleton.mpr (List.mem_cons_of_mem _ (List.mem_cons_of_mem _ List.mem_cons_self))⟩) (List.forall_mem_cons.mpr ⟨off2.1, List.forall_mem_singleton.mpr off2.2⟩) (List.forall_mem_cons.mpr ⟨rfl, List.forall_mem_cons.mpr ⟨rfl, List.forall_mem_singleton.mpr ((congrArg (fun z => some (Value.int z _)) hmn9).symm)⟩⟩) (by walk_at "my.same") ⟨hu9, (lstep_len _ _ _ _).trans hr2.out, by dsimp only; rw [lin_step, ← hl2]⟩
      · (rename (¬ _ < mn2) => hm9)
        have hmn9 : (lstep a3 (Txt.item b3 k) ⟨dist2, res2, mn2, row2⟩ j).mn = _ := if_neg hm9
        refine rng_end (_, _, lstep a3 (Txt.item b3 k) ⟨dist2, res2, mn2, row2⟩ j, _, _, tm2) F3 N3 (by k_mem) (List.forall_mem_cons.mpr ⟨List.mem_cons_of_mem _ List.mem_cons_self, List.forall_mem_singleton.mpr (List.mem_cons_of_mem _ (List.mem_cons_of_mem _ List.mem_cons_self))⟩) (List.forall_mem_cons.mpr ⟨off2.1, List.forall_mem_singleton.mpr off2.2⟩) (List.forall_mem_cons.mpr ⟨rfl, List.forall_mem_cons.mpr ⟨rfl, List.forall_mem_singleton.mpr ((congrArg (fun z => some (Value.int z _)) hmn9).symm)⟩⟩) (by walk_at "my.same") ⟨hu9, (lstep_len _ _ _ _).trans hr2.out, by dsimp only; rw [lin_step, ← hl2]⟩
    · rintro ⟨us2, cap2, ⟨dist2, res2, mn2, row2⟩, td2, tr2, tm2⟩ u15 h16 tk16 ⟨hu2, hr2, hl2⟩ F16 N16
      dsimp only at F16 N16 hu2 hr2 hl2
      have hgo := lout_go (st := ⟨dist2, res2, mn2, row2⟩) hi2 (by rw [← hk1.out]; exact hl2) hl1
      k_steps
      · walk_at "my.end"
        exact hret _ _ _ (fun b o e _ => Fr.keep (by assumption) b o e) (IsI.of (by rw [← hgo]; exact (if_pos (by assumption)).symm))
      · unfold Hold
        (rename News _ _ _ _ => N3)
        (rename Fr _ _ _ _ => F3)
        exact rng_end (us2, row2, cap2, res2, tr2) F3 N3 (by k_mem) (by walk_at "my.in") (List.forall_mem_singleton.mpr off) (List.forall_mem_singleton.mpr rfl) (by walk_at "my.same") ⟨hu2, hr2, by rw [← hgo, if_neg (by assumption)]⟩
  · rintro ⟨us1, row1, cap1, res1, tres1⟩ u13 h14 tk14 ⟨hu1, hr1, hl1⟩ F14 N14
    dsimp only at F14 N14 hu1 hr1 hl1
    k_steps
    walk_at "my.end"
    refine hret _ _ _ (fun b o e _ => Fr.keep (by assumption) b o e) (IsI.of ?_)
    rw [← hl1, Nat.sub_self]
    rfl
end Rst
theorem walk : Body w a ta b tb m tm dp un fr gd s Q E := levC.2 fun a2' b2' a1' b1' t5' t7' t0' t1' t2' t3' p' q' tp' tq' u7' u5' u' u0' h7' tk7' => Rst.all a2' b2' a1' b1' t5' t7' t0' t1' t2' t3' p' q' tp' tq' u7' u5' u' u0' h7' tk7' Rst.walk
end Lev
theorem c_lev {w : World} {h : Heap} (W : Wd w h) (a : Str) (ta : Tok) (b : Str) (tb : Tok) (m : Int) (tm : Tok) (ha : a.length ≤ 40) (hb : b.length ≤ 40) (hm0 : 0 ≤ m) (hm1 : m ≤ 10) : MCall w 152 [.str a ta, .str b tb, .int m tm] [] 2 h [] (fun v h' => IsI (lev a b m) v) := by
  intro dp un fr gd s Q E hs hdp hun hret
  subst hs
  exact Lev.all w a ta b tb m tm dp un fr gd s Q E Lev.walk W ha hb hm0 hm1 hdp hun hret
end

end Mine
-- R1
example : True := by
  w_top off
  exact trivial
namespace Mine
example (P : Params) : hd.heap_1 P = hd.heap_1 P ∧ PySem.Challenge.rw_wo0076_01 = PySem.Challenge.rw_wo0076_01 := by
  k_fill
  exact ⟨rfl, rfl⟩



section

namespace P229
example : True := by
  k_with_none
  (k_with "my.enter" => ((case k1 => first | exact List.forall_mem_nil _ | assumption); (case k6 => k_is); (case k7 => k_is); (case k8 => omega); (case k9 => first | exact BindsTo.of_eq rfl | exact binds_K (by k_in) rfl (by k_is) rfl rfl rfl); (case kB => exact locs rfl); (case c5 => decide); (case c2 => exact rfl); (case c3 => exact rfl); (case c4 => exact rfl)))
  (k_with "my.enterC" => ((case k1 => first | exact List.forall_mem_nil _ | assumption); (case k6 => k_is); (case k7 => k_is); (case k8 => omega); (case k9 => first | exact BindsTo.of_eq rfl | exact binds_K (by k_in) rfl (by k_is) rfl rfl rfl); (case kB => exact rfl); (case kD => decide +kernel); (case c2 => exact rfl); (case c3 => exact rfl); (case c4 => exact rfl)))
  (k_with "my.room" => first | omega | ((simp only [depth_under_make, depth_under_kw, depth_in1, depth_deeper, depth_caller]); omega))
  (k_with "my.units" => first | omega | ((simp only [units_in1, units_deeper, Around.mark_units, units_caller]); omega))
  (k_with "my.wd" => exact Wd.keeps (by assumption) (Fr.keep (by k_asm)))
  (k_with "call builtin:list.append" => (k_here; k_dflt (refine' append_K (by k_asm) (by k_asm) (by k_upd) ?_ (by (simp only [List.size_toArray, Array.size_push, List.length_append, List.length_cons, List.length_nil, sizeLine_eq]; omega)); k_whole); intro h' F' N'; (try simp only [List.push_toArray] at N'); (try k_sweep)))
  (k_with "my.end" => ((try dsimp only); (try k_unfold); (try dsimp only [retOf])))
  (k_with "my.keep" => exact (fun b o e hb => Fr.keep (by assumption) b o (hideAll_get _ e hb)))
  (k_with "my.cend" => (unfold Hold; refine LCg.CompEnd.intro (by k_asm) (by assumption) _ (fun p hp => hp) (by assumption) (by first | trivial | exact .inr ⟨_, by k_memK, rfl, _, rfl⟩ | exact .inl (by assumption)) ⟨rfl, ?_⟩))
  (k_with "my.m" => with_reducible ((repeat (first | exact List.Mem.head _ | refine List.Mem.tail _ ?_ | assumption | (refine List.mem_append_left _ ?_; walk_at "my.m") | (refine List.mem_append_right _ ?_; walk_at "my.m"))); done))
  (k_with "my.mg" => first | walk_at "my.m" | ((try dsimp only [hdO, PyProof.Rows.LCg.lst, PySem.W.listOf, PySem.W.instObj, PySem.W.dictOf, List.cons_append, List.nil_append]); walk_at "my.m") | ((simp only [List.mem_cons, List.mem_append]); grind))
  (k_with "my.inc" => with_reducible ((repeat' (first | exact inc_refl | exact inc_nil | refine inc_same ?_ | refine inc_app ?_ ?_ | refine inc_one (by walk_at "my.m") ?_ | assumption | refine inc_skip ?_ | (refine inc_left ?_; walk_at "my.inc") | (refine inc_right ?_; walk_at "my.inc"))); done))
  (k_with "my.ne" => with_reducible first | assumption | exact neS1 | exact neS1.symm | exact neS2 | exact neS2.symm | (refine Ne.symm ?_; assumption) | (refine Nat.ne_of_lt ?_; assumption) | (refine Nat.ne_of_gt ?_; assumption))
  (k_with "my.pin" => first | ((try dsimp only [hdO, List.cons_append, List.nil_append] at hp ⊢); exact (show ∀ p ∈ _, p ∈ _ from by walk_at "my.inc") _ hp) | ((try dsimp only [hdO, PyProof.Rows.LCg.lst, PySem.W.listOf, PySem.W.instObj, PySem.W.dictOf, List.cons_append, List.nil_append] at hp ⊢); exact (show ∀ p ∈ _, p ∈ _ from by walk_at "my.inc") _ hp) | ((simp only [hdO, List.cons_append, List.nil_append, List.mem_append, List.mem_cons, List.not_mem_nil, or_false] at hp ⊢); grind))
  (k_with "my.mY" => ((repeat (first | exact List.Mem.head _ | refine List.Mem.tail _ ?_ | refine List.mem_append_right _ ?_)); done))
  (k_with "my.pinS" => ((try dsimp only [hdO, List.cons_append, List.nil_append] at hp ⊢); revert hp; revert p; (repeat (first | exact inc_snoc2 | exact inc_snoc1 | refine inc_under ?_ | refine inc_over ?_)); done))
  (k_with "my.pinY" => ((try dsimp only [hdO, List.cons_append, List.nil_append] at hp ⊢); revert hp; revert p; (repeat (refine inc_one (by walk_at "my.mY") ?_)); (with_reducible (repeat (first | exact inc_refl | exact inc_nil | refine inc_skip ?_ | refine inc_left ?_))); done))
  (k_with "my.in" => first | ((try dsimp only [hdO, List.cons_append, List.nil_append]); walk_at "my.inc") | ((try dsimp only [hdO, PyProof.Rows.LCg.lst, PySem.W.listOf, PySem.W.instObj, PySem.W.dictOf, List.cons_append, List.nil_append]); walk_at "my.inc") | (intro p hp; (try simp only [hdO, List.cons_append, List.nil_append, List.mem_cons, List.mem_append, List.not_mem_nil, or_false, false_or] at hp ⊢); first | exact hp | grind))
  (k_with "my.same" => (intro z h1 h2 h3; first
  | rfl
  | (simp only [List.forall_mem_cons, List.forall_mem_nil, List.not_mem_nil, false_implies, implies_true, and_true, ne_eq] at h2; simp only [List.contains_cons, List.contains_nil, Bool.or_false, Bool.or_eq_false_iff, beq_eq_false_iff_ne, ne_eq] at h3; simp [h1, h2, h3, kstB]; done)
  | (simp [h1, kstB]; done)
  | (simp_all [kstB]; done)))
  (k_with "my.csame" => (intro z h2 h3; first
  | rfl
  | exact kstB_stay z h2 h3
  | (simp only [List.forall_mem_cons, List.forall_mem_nil, List.not_mem_nil, false_implies, implies_true, and_true, ne_eq] at h2; (try simp only [List.contains_cons, List.contains_nil, Bool.or_false, Bool.or_eq_false_iff, beq_eq_false_iff_ne, ne_eq] at h3); simp [h2, h3, kstB]; done)
  | (simp_all [kstB]; done)))
  (k_with "my.all" => (repeat' (first | exact List.forall_mem_nil _ | (refine List.forall_mem_cons.mpr ⟨rfl, ?_⟩))))
  (k_with "execs cons" => first | (k_here; k_gentoks) | (k_here; k_made; walk_at "execs cons") | ((with_reducible refine wpAny_execs_cons ?_); (try dsimp only); k_fold))
  (k_with "my.sub" => (repeat' (first | exact List.forall_mem_nil _ | (refine List.forall_mem_cons.mpr ⟨?_, ?_⟩) | k_mem)))
  (k_with "my.slice" => (k_here; k_dflt (first
  | ((with_reducible show wpAny _ _ (subscriptTail _ _ (Value.str _ _) _) _ _ ⟨Heap.push _ ⟨_, _, Data.fields #[Value.int _ _, Value.none, Value.none], _⟩, _, _, _, _⟩); refine' slice_strN_sn_len (s := ⟨_, _, _, _, _⟩) (by k_asm) (by k_asm) ?_ (by with_unfolding_all rfl) (by (intro _; with_unfolding_all rfl)) (by (rw [sizeLine_eq]; omega)))
  | ((with_reducible show wpAny _ _ (subscriptTail _ _ (Value.str _ _) _) _ _ ⟨Heap.push _ ⟨_, _, Data.fields #[Value.none, Value.int _ _, Value.none], _⟩, _, _, _, _⟩); refine' slice_strN_ns_len (s := ⟨_, _, _, _, _⟩) (by k_asm) (by k_asm) ?_ (by with_unfolding_all rfl) (by (intro _; with_unfolding_all rfl)) (by (rw [sizeLine_eq]; omega)))
  | ((with_reducible show wpAny _ _ (subscriptTail _ _ (Value.str _ _) _) _ _ ⟨Heap.push _ ⟨_, _, Data.fields #[Value.none, Value.none, Value.none], _⟩, _, _, _, _⟩); refine' slice_strN_nn_len (s := ⟨_, _, _, _, _⟩) (by k_asm) (by k_asm) ?_ (by with_unfolding_all rfl) (by (intro _; with_unfolding_all rfl)) (by (rw [sizeLine_eq]; omega)))
  | ((with_reducible show wpAny _ _ (subscriptTail _ _ (Value.str _ _) _) _ _ ⟨Heap.push _ ⟨_, _, Data.fields #[Value.int _ _, Value.int _ _, Value.none], _⟩, _, _, _, _⟩); refine' slice_strN_ss_len (s := ⟨_, _, _, _, _⟩) (by k_asm) (by k_asm) ?_ (by with_unfolding_all rfl) (by (intro _; with_unfolding_all rfl)) (by (rw [sizeLine_eq]; omega)))); intro h' t' k' F' N' hlen'; (try k_sweep)))
  (k_with "subscriptTail Name Slice str ref" => walk_at "my.slice")
  (k_with "subscriptTail Name BinOp str int" => ((with_reducible rename Gd 1 => g9); (refine Hold.out ?_)))
  (k_with "call type:int" => ((with_reducible rename Gd 2 => g9); (refine Hold.out ?_)))
  (k_with "leaving ref" => (k_here; (refine' leave_raiseS (by assumption) (by assumption) (by assumption) (by k_asm) ?_; k_whole; intro h' t' S' R' U'; (try dsimp only at S' R' U' ⊢))))
  exact trivial
noncomputable def Body (w : World) (r : Str) (tr : Tok) (pr : Addr) (host : Str) (th : Tok) (n : Int) (tn : Tok) (pv : Int) (dp : Nat) (un : Nat) (outer : List Env) (gd : Option (List Code)) (base : Heap) (s : Shared) (Q : Value → Shared → Prop) (E : Value → Shared → Prop) : Prop :=
    Wd w s.heap → IsTup s.heap pr #[.str host th, .int n tn] → good229 r pv = true → Below ⟨none, dp, some outer, gd, un⟩ base outer s.heap → dp + 1 < recursionLimit → un + 8 * 1 < cLine → (out229 r = 2 → ∀ (d : Addr) h' tk' tv k, (∀ b o, s.heap.get? b = some o → h'.get? b = some o) → h'.get? d = some { cls := .type "tuple", data := .seq #[.str host th, .int pv tv] k } → s.heap.get? d = none → Q (.ref d) { s with heap := h', toks := tk' }) → (∀ (e t : Addr) h' tk' C, (out229 r = 0 ∧ C = 61 ∨ out229 r = 1 ∧ C = 73) → RaisedS base s.heap outer e (.ref C) t [.str r tr] [] h' → s.heap.UpToSlots h' → E (.ref e) { s with heap := h', toks := tk' }) →
    wpAny (model PySem.Challenge.rw_wo0076_01.row.prog w) ⟨none, dp, some outer, gd, un⟩ (call (.ref 82) [.str r tr, .ref pr] []) Q E s
noncomputable def Ok (v : World × Str × Tok × Addr × Str × Tok × Int × Tok × Int × Nat × Nat × (List Env) × (Option (List Code)) × Heap × Shared × (Value → Shared → Prop) × (Value → Shared → Prop)) : Prop := Body v.1 v.2.1 v.2.2.1 v.2.2.2.1 v.2.2.2.2.1 v.2.2.2.2.2.1 v.2.2.2.2.2.2.1 v.2.2.2.2.2.2.2.1 v.2.2.2.2.2.2.2.2.1 v.2.2.2.2.2.2.2.2.2.1 v.2.2.2.2.2.2.2.2.2.2.1 v.2.2.2.2.2.2.2.2.2.2.2.1 v.2.2.2.2.2.2.2.2.2.2.2.2.1 v.2.2.2.2.2.2.2.2.2.2.2.2.2.1 v.2.2.2.2.2.2.2.2.2.2.2.2.2.2.1 v.2.2.2.2.2.2.2.2.2.2.2.2.2.2.2.1 v.2.2.2.2.2.2.2.2.2.2.2.2.2.2.2.2
theorem ne : Nonempty (World × Str × Tok × Addr × Str × Tok × Int × Tok × Int × Nat × Nat × (List Env) × (Option (List Code)) × Heap × Shared × (Value → Shared → Prop) × (Value → Shared → Prop)) := ⟨(aWorld 1, ⟨#[]⟩, 0, (0 : Nat), ⟨#[]⟩, 0, 0, 0, 0, 0, 0, [], none, {}, {}, fun _ _ => True, fun _ _ => True)⟩
noncomputable def v0 : World × Str × Tok × Addr × Str × Tok × Int × Tok × Int × Nat × Nat × (List Env) × (Option (List Code)) × Heap × Shared × (Value → Shared → Prop) × (Value → Shared → Prop) := Classical.choose (one_for_all ne Ok)
@[irreducible] noncomputable def w : World := v0.1
@[irreducible] noncomputable def r : Str := v0.2.1
@[irreducible] noncomputable def tr : Tok := v0.2.2.1
@[irreducible] noncomputable def pr : Addr := v0.2.2.2.1
@[irreducible] noncomputable def host : Str := v0.2.2.2.2.1
@[irreducible] noncomputable def th : Tok := v0.2.2.2.2.2.1
@[irreducible] noncomputable def n : Int := v0.2.2.2.2.2.2.1
@[irreducible] noncomputable def tn : Tok := v0.2.2.2.2.2.2.2.1
@[irreducible] noncomputable def pv : Int := v0.2.2.2.2.2.2.2.2.1
@[irreducible] noncomputable def dp : Nat := v0.2.2.2.2.2.2.2.2.2.1
@[irreducible] noncomputable def un : Nat := v0.2.2.2.2.2.2.2.2.2.2.1
@[irreducible] noncomputable def outer : List Env := v0.2.2.2.2.2.2.2.2.2.2.2.1
@[irreducible] noncomputable def gd : Option (List Code) := v0.2.2.2.2.2.2.2.2.2.2.2.2.1
@[irreducible] noncomputable def base : Heap := v0.2.2.2.2.2.2.2.2.2.2.2.2.2.1
@[irreducible] noncomputable def s : Shared := v0.2.2.2.2.2.2.2.2.2.2.2.2.2.2.1
@[irreducible] noncomputable def Q : Value → Shared → Prop := v0.2.2.2.2.2.2.2.2.2.2.2.2.2.2.2.1
@[irreducible] noncomputable def E : Value → Shared → Prop := v0.2.2.2.2.2.2.2.2.2.2.2.2.2.2.2.2
theorem all (w : World) (r : Str) (tr : Tok) (pr : Addr) (host : Str) (th : Tok) (n : Int) (tn : Tok) (pv : Int) (dp : Nat) (un : Nat) (outer : List Env) (gd : Option (List Code)) (base : Heap) (s : Shared) (Q : Value → Shared → Prop) (E : Value → Shared → Prop) (h : Body P229.w P229.r P229.tr P229.pr P229.host P229.th P229.n P229.tn P229.pv P229.dp P229.un P229.outer P229.gd P229.base P229.s P229.Q P229.E) : Body w r tr pr host th n tn pv dp un outer gd base s Q E := by
  delta P229.w P229.r P229.tr P229.pr P229.host P229.th P229.n P229.tn P229.pv P229.dp P229.un P229.outer P229.gd P229.base P229.s P229.Q P229.E at h
  exact Classical.choose_spec (one_for_all ne Ok) h (w, r, tr, pr, host, th, n, tn, pv, dp, un, outer, gd, base, s, Q, E)
noncomputable def L' : Addr := s.heap.objs.size
set_option maxRecDepth 100000 in
set_option maxHeartbeats 2000000 in
theorem walk : Body w r tr pr host th n tn pv dp un outer gd base s Q E := by
  (k_with "execs cons" => first | (k_here; k_gentoks) | (k_here; k_made; walk_at "execs cons") | ((with_reducible refine wpAny_execs_cons ?_); (try dsimp only)))
  intro W hpr hG K hdp hun hret hexc
  obtain ⟨X, loose, mean, mg, mb, T⟩ := id W
  have hl := good229_1 hG
  k_dflt (refine' enterX (L' := L') [(Str.ofString "resp", .str r tr), (Str.ofString "peer", .ref pr)] W ?k6 ?k7 ?k8 ?k9 ?kB ?_ rfl ?c5 ?c2 ?c3 ?c4; ((case k6 => k_is); (case k7 => k_is); (case k8 => omega); (case k9 => exact BindsTo.of_eq rfl); (case kB => exact locs rfl); (case c5 => decide); (case c2 => exact rfl); (case c3 => exact rfl); (case c4 => exact rfl)))
  intro h₁ F N
  have g1 := gdAt 1
  have g2 := gdAt 2
  k_steps
  · exact hexc _ _ _ _ _ (.inl ⟨out229_0 (by assumption), rfl⟩) (RaisedS.nil (by assumption)) (by assumption)
  · exact hexc _ _ _ _ _ (.inr ⟨out229_1a (by assumption) (by assumption), rfl⟩) (RaisedS.nil (by assumption)) (by assumption)
  · exact hexc _ _ _ _ _ (.inr ⟨out229_1b (by assumption) (by assumption) (by assumption), rfl⟩) (RaisedS.nil (by assumption)) (by assumption)
  unfold Hold
  (rename Gd 1 => g9; clear g9)
  obtain ⟨q1, q2, q3⟩ := good229_2 hG (by assumption) (by assumption)
  have q4 : 0 ≤ Txt.find r (Str.ofString "(") := by omega
  k_steps
  · exact hexc _ _ _ _ _ (.inr ⟨out229_1c (by assumption) (by assumption) (by assumption) (by assumption), rfl⟩) (RaisedS.nil (by assumption)) (by assumption)
  · (rename (_ = Txt.split _ _) => hl9)
    exact hexc _ _ _ _ _ (.inr ⟨out229_1d (by assumption) (by assumption) (by assumption) (by assumption) (by unfold parts229; rw [← hl9, List.length_map]; omega), rfl⟩) (RaisedS.nil (by assumption)) (by assumption)
  unfold Hold
  (rename Gd 2 => g9; clear g9)
  (rename (_ = Txt.split _ _) => hl9)
  (rename (_[_]? = some _) => hy9)
  have h2 : out229 r = 2 := out229_2 (by assumption) (by assumption) (by assumption) (by assumption) (by unfold parts229; rw [← hl9, List.length_map]; omega)
  obtain ⟨i1, i2⟩ := good229_3 hG h2 (by unfold parts229; rw [← hl9]; exact hy9)
  k_steps
  walk_at "my.end"
  (rename News _ _ _ _ => N9)
  (rename Fr _ _ _ _ => F9)
  exact hret h2 _ _ _ _ _ (fun b o e => F9.keep b o e) (N9 _ List.mem_cons_self).1 (N9 _ List.mem_cons_self).2.2
end P229
theorem c_parse229 {w : World} {h : Heap} (W : Wd w h) (r : Str) (tr : Tok) (pr : Addr) (host : Str) (th : Tok) (n : Int) (tn : Tok) (pv : Int) (hpr : IsTup h pr #[.str host th, .int n tn]) (hG : good229 r pv = true) :
   ∀ (dp un : Nat) (outer : List Env) (gd : Option (List Code)) (base : Heap) (s : Shared) (Q E : Value → Shared → Prop), s.heap = h → Below ⟨none, dp, some outer, gd, un⟩ base outer h → dp + 1 < recursionLimit → un + 8 * 1 < cLine →
   (out229 r = 2 → ∀ (d : Addr) h' tk' tv k, (∀ b o, s.heap.get? b = some o → h'.get? b = some o) → h'.get? d = some { cls := .type "tuple", data := .seq #[.str host th, .int pv tv] k } → s.heap.get? d = none → Q (.ref d) { s with heap := h', toks := tk' }) →
   (∀ (e t : Addr) h' tk' C, (out229 r = 0 ∧ C = 61 ∨ out229 r = 1 ∧ C = 73) → RaisedS base s.heap outer e (.ref C) t [.str r tr] [] h' → s.heap.UpToSlots h' → E (.ref e) { s with heap := h', toks := tk' }) →
   wpAny (model PySem.Challenge.rw_wo0076_01.row.prog w) ⟨none, dp, some outer, gd, un⟩ (call (.ref 82) [.str r tr, .ref pr] []) Q E s := by
  intro dp9 un9 outer9 gd9 base9 s9 Q9 E9 e9 K hdp hun hret hexc
  subst e9
  exact P229.all w r tr pr host th n tn pv dp9 un9 outer9 gd9 base9 s9 Q9 E9 P229.walk W hpr hG K hdp hun hret hexc
end
section

namespace P229v
example : True := by
  k_with_none
  (k_with "my.enter" => ((case k1 => first | exact List.forall_mem_nil _ | assumption); (case k6 => k_is); (case k7 => k_is); (case k8 => omega); (case k9 => first | exact BindsTo.of_eq rfl | exact binds_K (by k_in) rfl (by k_is) rfl rfl rfl); (case kB => exact locs rfl); (case c5 => decide); (case c2 => exact rfl); (case c3 => exact rfl); (case c4 => exact rfl)))
  (k_with "my.enterC" => ((case k1 => first | exact List.forall_mem_nil _ | assumption); (case k6 => k_is); (case k7 => k_is); (case k8 => omega); (case k9 => first | exact BindsTo.of_eq rfl | exact binds_K (by k_in) rfl (by k_is) rfl rfl rfl); (case kB => exact rfl); (case kD => decide +kernel); (case c2 => exact rfl); (case c3 => exact rfl); (case c4 => exact rfl)))
  (k_with "my.room" => first | omega | ((simp only [depth_under_make, depth_under_kw, depth_in1, depth_deeper, depth_caller]); omega))
  (k_with "my.units" => first | omega | ((simp only [units_in1, units_deeper, Around.mark_units, units_caller]); omega))
  (k_with "my.wd" => exact Wd.keeps (by assumption) (Fr.keep (by k_asm)))
  (k_with "call builtin:list.append" => (k_here; k_dflt (refine' append_K (by k_asm) (by k_asm) (by k_upd) ?_ (by (simp only [List.size_toArray, Array.size_push, List.length_append, List.length_cons, List.length_nil, sizeLine_eq]; omega)); k_whole); intro h' F' N'; (try simp only [List.push_toArray] at N'); (try k_sweep)))
  (k_with "my.end" => ((try dsimp only); (try k_unfold); (try dsimp only [retOf])))
  (k_with "my.keep" => exact (fun b o e hb => Fr.keep (by assumption) b o (hideAll_get _ e hb)))
  (k_with "my.cend" => (unfold Hold; refine LCg.CompEnd.intro (by k_asm) (by assumption) _ (fun p hp => hp) (by assumption) (by first | trivial | exact .inr ⟨_, by k_memK, rfl, _, rfl⟩ | exact .inl (by assumption)) ⟨rfl, ?_⟩))
  (k_with "my.m" => with_reducible ((repeat (first | exact List.Mem.head _ | refine List.Mem.tail _ ?_ | assumption | (refine List.mem_append_left _ ?_; walk_at "my.m") | (refine List.mem_append_right _ ?_; walk_at "my.m"))); done))
  (k_with "my.mg" => first | walk_at "my.m" | ((try dsimp only [hdO, PyProof.Rows.LCg.lst, PySem.W.listOf, PySem.W.instObj, PySem.W.dictOf, List.cons_append, List.nil_append]); walk_at "my.m") | ((simp only [List.mem_cons, List.mem_append]); grind))
  (k_with "my.inc" => with_reducible ((repeat' (first | exact inc_refl | exact inc_nil | refine inc_same ?_ | refine inc_app ?_ ?_ | refine inc_one (by walk_at "my.m") ?_ | assumption | refine inc_skip ?_ | (refine inc_left ?_; walk_at "my.inc") | (refine inc_right ?_; walk_at "my.inc"))); done))
  (k_with "my.ne" => with_reducible first | assumption | exact neS1 | exact neS1.symm | exact neS2 | exact neS2.symm | (refine Ne.symm ?_; assumption) | (refine Nat.ne_of_lt ?_; assumption) | (refine Nat.ne_of_gt ?_; assumption))
  (k_with "my.pin" => first | ((try dsimp only [hdO, List.cons_append, List.nil_append] at hp ⊢); exact (show ∀ p ∈ _, p ∈ _ from by walk_at "my.inc") _ hp) | ((try dsimp only [hdO, PyProof.Rows.LCg.lst, PySem.W.listOf, PySem.W.instObj, PySem.W.dictOf, List.cons_append, List.nil_append] at hp ⊢); exact (show ∀ p ∈ _, p ∈ _ from by walk_at "my.inc") _ hp) | ((simp only [hdO, List.cons_append, List.nil_append, List.mem_append, List.mem_cons, List.not_mem_nil, or_false] at hp ⊢); grind))
  (k_with "my.mY" => ((repeat (first | exact List.Mem.head _ | refine List.Mem.tail _ ?_ | refine List.mem_append_right _ ?_)); done))
  (k_with "my.pinS" => ((try dsimp only [hdO, List.cons_append, List.nil_append] at hp ⊢); revert hp; revert p; (repeat (first | exact inc_snoc2 | exact inc_snoc1 | refine inc_under ?_ | refine inc_over ?_)); done))
  (k_with "my.pinY" => ((try dsimp only [hdO, List.cons_append, List.nil_append] at hp ⊢); revert hp; revert p; (repeat (refine inc_one (by walk_at "my.mY") ?_)); (with_reducible (repeat (first | exact inc_refl | exact inc_nil | refine inc_skip ?_ | refine inc_left ?_))); done))
  (k_with "my.in" => first | ((try dsimp only [hdO, List.cons_append, List.nil_append]); walk_at "my.inc") | ((try dsimp only [hdO, PyProof.Rows.LCg.lst, PySem.W.listOf, PySem.W.instObj, PySem.W.dictOf, List.cons_append, List.nil_append]); walk_at "my.inc") | (intro p hp; (try simp only [hdO, List.cons_append, List.nil_append, List.mem_cons, List.mem_append, List.not_mem_nil, or_false, false_or] at hp ⊢); first | exact hp | grind))
  (k_with "my.same" => (intro z h1 h2 h3; first
  | rfl
  | (simp only [List.forall_mem_cons, List.forall_mem_nil, List.not_mem_nil, false_implies, implies_true, and_true, ne_eq] at h2; simp only [List.contains_cons, List.contains_nil, Bool.or_false, Bool.or_eq_false_iff, beq_eq_false_iff_ne, ne_eq] at h3; simp [h1, h2, h3, kstB]; done)
  | (simp [h1, kstB]; done)
  | (simp_all [kstB]; done)))
  (k_with "my.csame" => (intro z h2 h3; first
  | rfl
  | exact kstB_stay z h2 h3
  | (simp only [List.forall_mem_cons, List.forall_mem_nil, List.not_mem_nil, false_implies, implies_true, and_true, ne_eq] at h2; (try simp only [List.contains_cons, List.contains_nil, Bool.or_false, Bool.or_eq_false_iff, beq_eq_false_iff_ne, ne_eq] at h3); simp [h2, h3, kstB]; done)
  | (simp_all [kstB]; done)))
  (k_with "my.all" => (repeat' (first | exact List.forall_mem_nil _ | (refine List.forall_mem_cons.mpr ⟨rfl, ?_⟩))))
  (k_with "execs cons" => first | (k_here; k_gentoks) | (k_here; k_made; walk_at "execs cons") | ((with_reducible refine wpAny_execs_cons ?_); (try dsimp only); k_fold))
  (k_with "my.sub" => (repeat' (first | exact List.forall_mem_nil _ | (refine List.forall_mem_cons.mpr ⟨?_, ?_⟩) | k_mem)))
  (k_with "my.slice" => (k_here; k_dflt (first
  | ((with_reducible show wpAny _ _ (subscriptTail _ _ (Value.str _ _) _) _ _ ⟨Heap.push _ ⟨_, _, Data.fields #[Value.int _ _, Value.none, Value.none], _⟩, _, _, _, _⟩); refine' slice_strN_sn_len (s := ⟨_, _, _, _, _⟩) (by k_asm) (by k_asm) ?_ (by with_unfolding_all rfl) (by (intro _; with_unfolding_all rfl)) (by (rw [sizeLine_eq]; omega)))
  | ((with_reducible show wpAny _ _ (subscriptTail _ _ (Value.str _ _) _) _ _ ⟨Heap.push _ ⟨_, _, Data.fields #[Value.none, Value.int _ _, Value.none], _⟩, _, _, _, _⟩); refine' slice_strN_ns_len (s := ⟨_, _, _, _, _⟩) (by k_asm) (by k_asm) ?_ (by with_unfolding_all rfl) (by (intro _; with_unfolding_all rfl)) (by (rw [sizeLine_eq]; omega)))
  | ((with_reducible show wpAny _ _ (subscriptTail _ _ (Value.str _ _) _) _ _ ⟨Heap.push _ ⟨_, _, Data.fields #[Value.none, Value.none, Value.none], _⟩, _, _, _, _⟩); refine' slice_strN_nn_len (s := ⟨_, _, _, _, _⟩) (by k_asm) (by k_asm) ?_ (by with_unfolding_all rfl) (by (intro _; with_unfolding_all rfl)) (by (rw [sizeLine_eq]; omega)))
  | ((with_reducible show wpAny _ _ (subscriptTail _ _ (Value.str _ _) _) _ _ ⟨Heap.push _ ⟨_, _, Data.fields #[Value.int _ _, Value.int _ _, Value.none], _⟩, _, _, _, _⟩); refine' slice_strN_ss_len (s := ⟨_, _, _, _, _⟩) (by k_asm) (by k_asm) ?_ (by with_unfolding_all rfl) (by (intro _; with_unfolding_all rfl)) (by (rw [sizeLine_eq]; omega)))); intro h' t' k' F' N' hlen'; (try k_sweep)))
  (k_with "subscriptTail Name Slice str ref" => walk_at "my.slice")
  (k_with "call type:int" => ((with_reducible rename Gd 2 => g9); (refine Hold.out ?_)))
  exact trivial
noncomputable def Body (w : World) (r : Str) (tr : Tok) (pr : Addr) (host : Str) (th : Tok) (n : Int) (tn : Tok) (pv : Int) (dp : Nat) (un : Nat) (fr : Option (List Env)) (gd : Option (List Code)) (s : Shared) (Q : Value → Shared → Prop) (E : Value → Shared → Prop) : Prop :=
    Wd w s.heap → IsTup s.heap pr #[.str host th, .int n tn] → good229 r pv = true → out229 r = 2 →
    MB w 82 [.str r tr, .ref pr] [] 1 [] (fun v h' => ∃ own', (fun v own' => ∃ (d : Addr) (tv : Tok) (k : Nat), v = .ref d ∧ own' = [(d, { cls := .type "tuple", data := .seq #[.str host th, .int pv tv] k })]) v own' ∧ Held s.heap [] h' own') dp un fr gd s Q E
noncomputable def Ok (v : World × Str × Tok × Addr × Str × Tok × Int × Tok × Int × Nat × Nat × (Option (List Env)) × (Option (List Code)) × Shared × (Value → Shared → Prop) × (Value → Shared → Prop)) : Prop := Body v.1 v.2.1 v.2.2.1 v.2.2.2.1 v.2.2.2.2.1 v.2.2.2.2.2.1 v.2.2.2.2.2.2.1 v.2.2.2.2.2.2.2.1 v.2.2.2.2.2.2.2.2.1 v.2.2.2.2.2.2.2.2.2.1 v.2.2.2.2.2.2.2.2.2.2.1 v.2.2.2.2.2.2.2.2.2.2.2.1 v.2.2.2.2.2.2.2.2.2.2.2.2.1 v.2.2.2.2.2.2.2.2.2.2.2.2.2.1 v.2.2.2.2.2.2.2.2.2.2.2.2.2.2.1 v.2.2.2.2.2.2.2.2.2.2.2.2.2.2.2
theorem ne : Nonempty (World × Str × Tok × Addr × Str × Tok × Int × Tok × Int × Nat × Nat × (Option (List Env)) × (Option (List Code)) × Shared × (Value → Shared → Prop) × (Value → Shared → Prop)) := ⟨(aWorld 1, ⟨#[]⟩, 0, (0 : Nat), ⟨#[]⟩, 0, 0, 0, 0, 0, 0, none, none, {}, fun _ _ => True, fun _ _ => True)⟩
noncomputable def v0 : World × Str × Tok × Addr × Str × Tok × Int × Tok × Int × Nat × Nat × (Option (List Env)) × (Option (List Code)) × Shared × (Value → Shared → Prop) × (Value → Shared → Prop) := Classical.choose (one_for_all ne Ok)
@[irreducible] noncomputable def w : World := v0.1
@[irreducible] noncomputable def r : Str := v0.2.1
@[irreducible] noncomputable def tr : Tok := v0.2.2.1
@[irreducible] noncomputable def pr : Addr := v0.2.2.2.1
@[irreducible] noncomputable def host : Str := v0.2.2.2.2.1
@[irreducible] noncomputable def th : Tok := v0.2.2.2.2.2.1
@[irreducible] noncomputable def n : Int := v0.2.2.2.2.2.2.1
@[irreducible] noncomputable def tn : Tok := v0.2.2.2.2.2.2.2.1
@[irreducible] noncomputable def pv : Int := v0.2.2.2.2.2.2.2.2.1
@[irreducible] noncomputable def dp : Nat := v0.2.2.2.2.2.2.2.2.2.1
@[irreducible] noncomputable def un : Nat := v0.2.2.2.2.2.2.2.2.2.2.1
@[irreducible] noncomputable def fr : Option (List Env) := v0.2.2.2.2.2.2.2.2.2.2.2.1
@[irreducible] noncomputable def gd : Option (List Code) := v0.2.2.2.2.2.2.2.2.2.2.2.2.1
@[irreducible] noncomputable def s : Shared := v0.2.2.2.2.2.2.2.2.2.2.2.2.2.1
@[irreducible] noncomputable def Q : Value → Shared → Prop := v0.2.2.2.2.2.2.2.2.2.2.2.2.2.2.1
@[irreducible] noncomputable def E : Value → Shared → Prop := v0.2.2.2.2.2.2.2.2.2.2.2.2.2.2.2
theorem all (w : World) (r : Str) (tr : Tok) (pr : Addr) (host : Str) (th : Tok) (n : Int) (tn : Tok) (pv : Int) (dp : Nat) (un : Nat) (fr : Option (List Env)) (gd : Option (List Code)) (s : Shared) (Q : Value → Shared → Prop) (E : Value → Shared → Prop) (h : Body P229v.w P229v.r P229v.tr P229v.pr P229v.host P229v.th P229v.n P229v.tn P229v.pv P229v.dp P229v.un P229v.fr P229v.gd P229v.s P229v.Q P229v.E) : Body w r tr pr host th n tn pv dp un fr gd s Q E := by
  delta P229v.w P229v.r P229v.tr P229v.pr P229v.host P229v.th P229v.n P229v.tn P229v.pv P229v.dp P229v.un P229v.fr P229v.gd P229v.s P229v.Q P229v.E at h
  exact Classical.choose_spec (one_for_all ne Ok) h (w, r, tr, pr, host, th, n, tn, pv, dp, un, fr, gd, s, Q, E)
noncomputable def L' : Addr := s.heap.objs.size
set_option maxRecDepth 100000 in
set_option maxHeartbeats 2000000 in
theorem walk : Body w r tr pr host th n tn pv dp un fr gd s Q E := by
  (k_with "execs cons" => first | (k_here; k_gentoks) | (k_here; k_made; walk_at "execs cons") | ((with_reducible refine wpAny_execs_cons ?_); (try dsimp only)))
  intro W hpr hG h2 hdp hun hret
  obtain ⟨X, loose, mean, mg, mb, T⟩ := id W
  k_dflt (refine' enterV (L' := L') [(Str.ofString "resp", .str r tr), (Str.ofString "peer", .ref pr)] [] ?k1 W ?k6 ?k7 ?k8 ?k9 ?kB ?_ rfl ?c5 ?c2 ?c3 ?c4; walk_at "my.enter")
  intro h₁ F N hLow
  (try dsimp only [hdO, List.cons_append, List.nil_append] at *)
  (try k_lt hLow)
  (try dsimp only [addrs, List.map, hideAll] at F N)
  have hl := good229_1 hG
  have g2 := gdAt 2
  obtain ⟨f1, f2, f3, f4, f5⟩ := out229_inv h2
  obtain ⟨q1, q2, q3⟩ := good229_2 hG f2 f3
  have q4 : 0 ≤ Txt.find r (Str.ofString "(") := by omega
  k_steps
  · (rename (_ = Txt.split _ _) => hl9)
    exfalso
    have : (parts229 r).length ≠ 5 := by unfold parts229; rw [← hl9, List.length_map]; omega
    exact this f5
  unfold Hold
  (rename Gd 2 => g9; clear g9)
  (rename (_ = Txt.split _ _) => hl9)
  (rename (_[_]? = some _) => hy9)
  obtain ⟨i1, i2⟩ := good229_3 hG h2 (by unfold parts229; rw [← hl9]; exact hy9)
  k_steps
  walk_at "my.end"
  (rename News _ _ _ _ => N9)
  (rename Fr _ _ _ _ => F9)
  obtain ⟨d9, e9⟩ := nm1 N9
  subst e9
  exact hret _ _ _ (fun b o e _ => Fr.keep (by assumption) b o e) ⟨_, ⟨d9, _, _, rfl, rfl⟩, Held.of (own := []) N9 (by walk_at "my.sub")⟩
end P229v
theorem c_p229v {w : World} {h : Heap} (W : Wd w h) (r : Str) (tr : Tok) (pr : Addr) (host : Str) (th : Tok) (n : Int) (tn : Tok) (pv : Int) (hpr : IsTup h pr #[.str host th, .int n tn]) (hG : good229 r pv = true) (h2 : out229 r = 2) :
   MCall2 w 82 [.str r tr, .ref pr] [] 1 h [] (fun v own' => ∃ (d : Addr) (tv : Tok) (k : Nat), v = .ref d ∧ own' = [(d, { cls := .type "tuple", data := .seq #[.str host th, .int pv tv] k })]) := by
  intro dp9 un9 fr9 gd9 s9 Q9 E9 e9 hdp9 hun9 hret9
  subst e9
  exact P229v.all w r tr pr host th n tn pv dp9 un9 fr9 gd9 s9 Q9 E9 P229v.walk W hpr hG h2 hdp9 hun9 hret9
end

end Mine
-- R2
example : True := by
  w_top off
  exact trivial
namespace Mine
example (P : Params) : hd.heap_1 P = hd.heap_1 P ∧ PySem.Challenge.rw_wo0076_01 = PySem.Challenge.rw_wo0076_01 := by
  k_fill
  exact ⟨rfl, rfl⟩



section
variable {base g h h' : Heap} {outer : List Env} {L a e t : Addr} {m : Str → Option Value} {name : Str} {scope : Scope} {cd : Value} {cls : Value} {vs : List Value} {news : List (Addr × Obj)} {A₀ : Around}
/-- what is raised over a ledger, the ledger kept -/
theorem raise_news (R : RaisedS base h (envOf name scope L a cd :: outer) e cls t vs [] h') (U : h.UpToSlots h') (K : Below A₀ base outer g) (F : Fr g L h m) (N : News g L h news) :
    ∃ G, RaisedS base G (envOf name scope L a cd :: outer) e cls t vs news h' ∧ Fr g L G m ∧ G.UpToSlots h' := by
  obtain ⟨⟨B, hB, hBG, _, hfl, hnew⟩, htup⟩ := R
  have nm : ∀ b o, g.get? b = some o → b ∉ news.map (·.1) := fun b o e q => by
    obtain ⟨p, hp, rfl⟩ := List.mem_map.mp q
    rw [(N p hp).2.2] at e; cases e
  have nL : L ∉ news.map (·.1) := fun q => by
    obtain ⟨p, hp, e⟩ := List.mem_map.mp q
    exact (N p hp).2.1 e
  obtain ⟨oL, es, ep, hL, hLd, hLk, hLf⟩ := F.ns
  refine ⟨hideAll h (news.map (·.1)), ⟨⟨B, hB, fun b o q nm => hBG b o (of_hideAll _ q) nm, fun q hq => ⟨hBG _ _ (N q hq).1 fun hm => ?_, hideAll_none _ (List.mem_map_of_mem hq), fresh_of_stays K.stays (N q hq).2.2⟩, hfl, hnew⟩, htup⟩, ⟨⟨oL, es, ep, hideAll_get _ hL nL, hLd, hLk, hLf⟩, fun b o e => hideAll_get _ (F.keep b o e) (nm b o e), F.above⟩, fun b o q hd => U b o (of_hideAll _ q) hd⟩
  rcases kts_mem hm with z | z
  · exact (N q hq).2.1 z
  · obtain ⟨_, o, ho, _⟩ := K.frames.mem z
    rw [(N q hq).2.2] at ho
    cases ho
end
section
variable {base G0 h h' g' : Heap} {L Lf : Addr} {m m' : Str → Option Value} {news news' : List (Addr × Obj)} {A₀ : Around} {oF : Obj} {sl : Array (Option Value)} {ev : Env}
noncomputable def gSl (G0 : Heap) (Lf : Addr) (sl : Array (Option Value)) : Heap := G0.update Lf fun o => { o with slots := sl }
theorem gSl_self (hG : G0.get? Lf = some oF) : (gSl G0 Lf sl).get? Lf = some { oF with slots := sl } :=
  Heap.get?_update_self (fun o => { o with slots := sl }) hG ((kts_isFreed oF _).trans (Heap.get?_some_iff.mp hG).2)
theorem gSl_ne {b : Addr} (hb : b ≠ Lf) : (gSl G0 Lf sl).get? b = G0.get? b := Heap.get?_update_other _ _ (Ne.symm hb)
theorem hide1_ne {b : Addr} {o : Obj} (e : (hideAll G0 [Lf]).get? b = some o) : b ≠ Lf ∧ G0.get? b = some o :=
  ⟨fun q => (by rw [q, hideAll_none [Lf] (List.mem_singleton.mpr rfl)] at e; cases e), of_hideAll _ e⟩
/-- the frame below comes back into the ground -/
theorem sw_in (hG : G0.get? Lf = some oF) (hd : ∃ es n, oF.data = .dict es n) (B0 : base.StaysIn G0) (hb : base.get? Lf = none) (hev : ev.frame = some Lf) (hk : ev.scope.kind ≠ .module) (hA : A₀.frames = some [ev])
    (F : Fr (hideAll G0 [Lf]) L h m) (N : News (hideAll G0 [Lf]) L h ((Lf, { oF with slots := sl }) :: news)) (ho : ∀ p ∈ news, @Ne Nat p.1 Lf) :
    Fr (gSl G0 Lf sl) L h m ∧ News (gSl G0 Lf sl) L h news ∧ Below A₀ base [ev] (gSl G0 Lf sl) ∧ KtsDicts ([ev].filterMap (·.frame)) (gSl G0 Lf sl) := by
  have hs : (gSl G0 Lf sl).objs.size = G0.objs.size := Heap.size_after_update ..
  refine ⟨⟨F.ns, fun b o e => ?_, by have z := F.above; rw [hideAll_size] at z; rw [hs]; exact z⟩, fun p hp => ⟨(N p (.tail _ hp)).1, (N p (.tail _ hp)).2.1, ?_⟩, ⟨hA, fun b o e => ?_, ⟨hk, ⟨Lf, _, hev, hb, gSl_self hG, fun vs q => ?_⟩, trivial⟩⟩, fun b hm => ?_⟩
  · by_cases q : b = Lf
    · subst q
      rw [gSl_self hG] at e
      cases e
      exact (N _ (.head _)).1
    · rw [gSl_ne q] at e
      exact F.keep b o (hideAll_get _ e (by simpa using q))
  · rw [gSl_ne (ho p hp)]
    cases q : G0.get? p.1 with
    | none => rfl
    | some o =>
      have := (N p (.tail _ hp)).2.2
      have hp' : p.1 ≠ Lf := ho p hp
      rw [hideAll_get [Lf] q (by simpa using hp')] at this
      cases this
  · have q : b ≠ Lf := fun q => by rw [q, hb] at e; cases e
    rw [gSl_ne q]
    exact B0 b o e
  · obtain ⟨es, n, hd⟩ := hd
    have : oF.data = .fields vs := q
    rw [hd] at this
    cases this
  · have q : b = Lf := by simpa [hev] using hm
    subst q
    obtain ⟨es, n, hd⟩ := hd
    exact ⟨_, es, n, gSl_self hG, hd⟩
theorem sw_out (hG : G0.get? Lf = some oF) (hev : ev.frame = some Lf) (T : KtsTurn ([ev].filterMap (·.frame)) (gSl G0 Lf sl) g') (F : Fr g' L h' m') (N : News g' L h' news') :
    ∃ sl', Fr (hideAll G0 [Lf]) L h' m' ∧ News (hideAll G0 [Lf]) L h' ((Lf, { oF with slots := sl' }) :: news') := by
  have hs : (gSl G0 Lf sl).objs.size = G0.objs.size := Heap.size_after_update ..
  have hfs : [ev].filterMap (·.frame) = [Lf] := by simp [hev]
  rw [hfs] at T
  obtain ⟨sl', hs'⟩ := T.frame Lf _ (gSl_self hG) (List.mem_singleton.mpr rfl)
  have oth : ∀ b o, G0.get? b = some o → b ≠ Lf → g'.get? b = some o := fun b o e q => T.other b o (by rw [gSl_ne q]; exact e) (by simpa using q)
  have hL : Lf ≠ L := fun q => by
    have h1 := F.above
    have h2 := Heap.lt_size hs'
    rw [q] at h2
    exact absurd (Nat.lt_of_lt_of_le h2 h1) (Nat.lt_irrefl _)
  refine ⟨sl', ⟨F.ns, fun b o e => ?_, ?_⟩, fun p hp => ?_⟩
  · obtain ⟨q, e⟩ := hide1_ne e
    exact F.keep b o (oth b o e q)
  · rw [hideAll_size, ← hs, ← T.size]
    exact F.above
  · rcases List.mem_cons.mp hp with rfl | hp
    · exact ⟨F.keep _ _ hs', hL, hideAll_none _ (List.mem_singleton.mpr rfl)⟩
    · refine ⟨(N p hp).1, (N p hp).2.1, ?_⟩
      cases q : (hideAll G0 [Lf]).get? p.1 with
      | none => rfl
      | some o =>
        obtain ⟨q1, q2⟩ := hide1_ne q
        have := (N p hp).2.2
        rw [oth _ _ q2 q1] at this
        cases this
/-- at the start -/
theorem sw_start (hG : G0.get? Lf = some oF) (F : Fr G0 L h m) (N : News G0 L h news) : Fr (hideAll G0 [Lf]) L h m ∧ News (hideAll G0 [Lf]) L h ((Lf, { oF with slots := oF.slots }) :: news) := by
  refine ⟨⟨F.ns, fun b o e => F.keep b o (hide1_ne e).2, by rw [hideAll_size]; exact F.above⟩, fun p hp => ?_⟩
  rcases List.mem_cons.mp hp with rfl | hp
  · refine ⟨F.keep _ _ hG, fun q => ?_, hideAll_none _ (List.mem_singleton.mpr rfl)⟩
    have h1 := F.above
    have h2 := Heap.lt_size hG
    have q' : Lf = L := q
    rw [q'] at h2
    exact absurd (Nat.lt_of_lt_of_le h2 h1) (Nat.lt_irrefl _)
  · refine ⟨(N p hp).1, (N p hp).2.1, ?_⟩
    cases q : (hideAll G0 [Lf]).get? p.1 with
    | none => rfl
    | some o =>
      have := (N p hp).2.2
      rw [(hide1_ne q).2] at this
      cases this
end
/-- what stands behind a statement, walked over the ground with the frame below -/
noncomputable def SwEnd (ev : Env) (g : Heap) (G0 : Heap) (Lf : Addr) (oF : Obj) (L : Addr) (R : Shared → Prop) (s' : Shared) : Prop :=
  ∃ g' m' news', KtsTurn ([ev].filterMap (·.frame)) g g' ∧ Fr g' L s'.heap m' ∧ News g' L s'.heap news' ∧ ∀ sl', Fr (hideAll G0 [Lf]) L s'.heap m' → News (hideAll G0 [Lf]) L s'.heap ((Lf, { oF with slots := sl' }) :: news') → R s'
theorem sw_stmt {prog : Program} {w : World} {A A₀ : Around} {E : Value → Shared → Prop} {s : Shared} {env ev : Env} {st : Stmt} {Q : Flow → Shared → Prop} {base G0 : Heap} {L Lf : Addr} {m : Str → Option Value} {news : List (Addr × Obj)} {oF : Obj} {sl : Array (Option Value)}
    (hG : G0.get? Lf = some oF) (hd : ∃ es n, oF.data = .dict es n) (B0 : base.StaysIn G0) (hb : base.get? Lf = none) (hev : ev.frame = some Lf) (hk : ev.scope.kind ≠ .module) (hA : A₀.frames = some [ev])
    (F : Fr (hideAll G0 [Lf]) L s.heap m) (N : News (hideAll G0 [Lf]) L s.heap ((Lf, { oF with slots := sl }) :: news)) (ho : ∀ p ∈ news, @Ne Nat p.1 Lf)
    (k : ∀ g, Fr g L s.heap m → News g L s.heap news → Below A₀ base [ev] g → KtsDicts ([ev].filterMap (·.frame)) g → wpAny (model prog w) A (exec st env) (fun f s' => SwEnd ev g G0 Lf oF L (Q f) s') E s) : wpAny (model prog w) A (exec st env) Q E s := by
  obtain ⟨F', N', K, D⟩ := sw_in (A₀ := A₀) hG hd B0 hb hev hk hA F N ho
  refine wpAny_mono (k _ F' N' K D) (fun f s' q => ?_) fun _ _ e => e
  obtain ⟨g', m', news', T, F2, N2, r⟩ := q
  obtain ⟨sl', F3, N3⟩ := sw_out hG hev T F2 N2
  exact r sl' F3 N3
/-- parse229 in a frame whose ground has the frames below -/
theorem c_p229x {w : World} {dp un : Nat} {gd : Option (List Code)} {outer : List Env} {s : Shared} {base g : Heap} {L a : Addr} {m : Str → Option Value} {name : Str} {scope : Scope} {cd : Value} {news : List (Addr × Obj)} {Q E : Value → Shared → Prop} (W : Wd w g)
    (F : Fr g L s.heap m) (N : News g L s.heap news) (K : Below ⟨none, dp, some outer, gd, un⟩ base outer g) (r : Str) (tr : Tok) (pr : Addr) (host : Str) (th : Tok) (n : Int) (tn : Tok) (pv : Int) (kp : Nat) (hpr : (pr, ({ cls := .type "tuple", data := .seq #[.str host th, .int n tn] kp } : Obj)) ∈ news) (hG : good229 r pv = true)
    (hroom : dp + 3 < recursionLimit) (hun : un + 24 < cLine)
    (hret : out229 r = 2 → ∀ (d : Addr) h' tk' tv k, (∀ p ∈ news, @Ne Nat p.1 d) → Fr g L h' m → News g L h' ((d, { cls := .type "tuple", data := .seq #[.str host th, .int pv tv] k }) :: news) → Q (.ref d) { s with heap := h', toks := tk' })
    (hexc : ∀ (e t : Addr) h' tk' C G, (out229 r = 0 ∧ C = 61 ∨ out229 r = 1 ∧ C = 73) → RaisedS base G (envOf name scope L a cd :: outer) e (.ref C) t [.str r tr] news h' → Fr g L G m → G.UpToSlots h' → E (.ref e) { s with heap := h', toks := tk' })
    (hk : scope.kind = .function := by rfl) :
    wpAny (model PySem.Challenge.rw_wo0076_01.row.prog w) (Around.deeper ⟨none, dp, some outer, gd, un⟩ (envOf name scope L a cd)) (call (.ref 82) [.str r tr, .ref pr] []) Q E s := by
  refine c_parse229 (W.keeps F.keep) r tr pr host th n tn pv ⟨_, (N _ hpr).1, rfl, kp, rfl⟩ hG (dp + 1) (un + 3) _ _ base s Q E rfl (K.push F hk) (by omega) (by omega) (fun h2 d h' tk' tv k hkeep hd0 hdn => ?_) (fun e t h' tk' C hC R U => ?_)
  · refine hret h2 d h' tk' tv k (fun p hp q => ?_) (F.keeps hkeep) (fun p hp => ?_)
    · have := (N p hp).1
      have q' : p.1 = d := q
      rw [q', hdn] at this
      cases this
    · rcases List.mem_cons.mp hp with rfl | hp
      · refine ⟨hd0, fun q => ?_, kts_none F.keep hdn⟩
        obtain ⟨o, _, _, ho, _⟩ := F.ns
        have q' : d = L := q
        rw [← q', hdn] at ho
        cases ho
      · exact ⟨hkeep _ _ (N p hp).1, (N p hp).2⟩
  · obtain ⟨G, R', F', U'⟩ := raise_news R U K F N
    exact hexc e t h' tk' C G hC R' F' U'
section
example : True := by
  k_with_none
  (k_with "my.enter" => ((case k1 => first | exact List.forall_mem_nil _ | assumption); (case k6 => k_is); (case k7 => k_is); (case k8 => omega); (case k9 => first | exact BindsTo.of_eq rfl | exact binds_K (by k_in) rfl (by k_is) rfl rfl rfl); (case kB => exact locs rfl); (case c5 => decide); (case c2 => exact rfl); (case c3 => exact rfl); (case c4 => exact rfl)))
  (k_with "my.enterC" => ((case k1 => first | exact List.forall_mem_nil _ | assumption); (case k6 => k_is); (case k7 => k_is); (case k8 => omega); (case k9 => first | exact BindsTo.of_eq rfl | exact binds_K (by k_in) rfl (by k_is) rfl rfl rfl); (case kB => exact rfl); (case kD => decide +kernel); (case c2 => exact rfl); (case c3 => exact rfl); (case c4 => exact rfl)))
  (k_with "my.room" => first | omega | ((simp only [depth_under_make, depth_under_kw, depth_in1, depth_deeper, depth_caller]); omega))
  (k_with "my.units" => first | omega | ((simp only [units_in1, units_deeper, Around.mark_units, units_caller]); omega))
  (k_with "my.wd" => exact Wd.keeps (by assumption) (Fr.keep (by k_asm)))
  (k_with "call builtin:list.append" => (k_here; k_dflt (refine' append_K (by k_asm) (by k_asm) (by k_upd) ?_ (by (simp only [List.size_toArray, Array.size_push, List.length_append, List.length_cons, List.length_nil, sizeLine_eq]; omega)); k_whole); intro h' F' N'; (try simp only [List.push_toArray] at N'); (try k_sweep)))
  (k_with "my.end" => ((try dsimp only); (try k_unfold); (try dsimp only [retOf])))
  (k_with "my.keep" => exact (fun b o e hb => Fr.keep (by assumption) b o (hideAll_get _ e hb)))
  (k_with "my.cend" => (unfold Hold; refine LCg.CompEnd.intro (by k_asm) (by assumption) _ (fun p hp => hp) (by assumption) (by first | trivial | exact .inr ⟨_, by k_memK, rfl, _, rfl⟩ | exact .inl (by assumption)) ⟨rfl, ?_⟩))
  (k_with "my.m" => with_reducible ((repeat (first | exact List.Mem.head _ | refine List.Mem.tail _ ?_ | assumption | (refine List.mem_append_left _ ?_; walk_at "my.m") | (refine List.mem_append_right _ ?_; walk_at "my.m"))); done))
  (k_with "my.mg" => first | walk_at "my.m" | ((try dsimp only [hdO, PyProof.Rows.LCg.lst, PySem.W.listOf, PySem.W.instObj, PySem.W.dictOf, List.cons_append, List.nil_append]); walk_at "my.m") | ((simp only [List.mem_cons, List.mem_append]); grind))
  (k_with "my.inc" => with_reducible ((repeat' (first | exact inc_refl | exact inc_nil | refine inc_same ?_ | refine inc_app ?_ ?_ | refine inc_one (by walk_at "my.m") ?_ | assumption | refine inc_skip ?_ | (refine inc_left ?_; walk_at "my.inc") | (refine inc_right ?_; walk_at "my.inc"))); done))
  (k_with "my.ne" => with_reducible first | assumption | exact neS1 | exact neS1.symm | exact neS2 | exact neS2.symm | (refine Ne.symm ?_; assumption) | (refine Nat.ne_of_lt ?_; assumption) | (refine Nat.ne_of_gt ?_; assumption))
  (k_with "my.pin" => first | ((try dsimp only [hdO, List.cons_append, List.nil_append] at hp ⊢); exact (show ∀ p ∈ _, p ∈ _ from by walk_at "my.inc") _ hp) | ((try dsimp only [hdO, PyProof.Rows.LCg.lst, PySem.W.listOf, PySem.W.instObj, PySem.W.dictOf, List.cons_append, List.nil_append] at hp ⊢); exact (show ∀ p ∈ _, p ∈ _ from by walk_at "my.inc") _ hp) | ((simp only [hdO, List.cons_append, List.nil_append, List.mem_append, List.mem_cons, List.not_mem_nil, or_false] at hp ⊢); grind))
  (k_with "my.mY" => ((repeat (first | exact List.Mem.head _ | refine List.Mem.tail _ ?_ | refine List.mem_append_right _ ?_)); done))
  (k_with "my.pinS" => ((try dsimp only [hdO, List.cons_append, List.nil_append] at hp ⊢); revert hp; revert p; (repeat (first | exact inc_snoc2 | exact inc_snoc1 | refine inc_under ?_ | refine inc_over ?_)); done))
  (k_with "my.pinY" => ((try dsimp only [hdO, List.cons_append, List.nil_append] at hp ⊢); revert hp; revert p; (repeat (refine inc_one (by walk_at "my.mY") ?_)); (with_reducible (repeat (first | exact inc_refl | exact inc_nil | refine inc_skip ?_ | refine inc_left ?_))); done))
  (k_with "my.in" => first | ((try dsimp only [hdO, List.cons_append, List.nil_append]); walk_at "my.inc") | ((try dsimp only [hdO, PyProof.Rows.LCg.lst, PySem.W.listOf, PySem.W.instObj, PySem.W.dictOf, List.cons_append, List.nil_append]); walk_at "my.inc") | (intro p hp; (try simp only [hdO, List.cons_append, List.nil_append, List.mem_cons, List.mem_append, List.not_mem_nil, or_false, false_or] at hp ⊢); first | exact hp | grind))
  (k_with "my.same" => (intro z h1 h2 h3; first
  | rfl
  | (simp only [List.forall_mem_cons, List.forall_mem_nil, List.not_mem_nil, false_implies, implies_true, and_true, ne_eq] at h2; simp only [List.contains_cons, List.contains_nil, Bool.or_false, Bool.or_eq_false_iff, beq_eq_false_iff_ne, ne_eq] at h3; simp [h1, h2, h3, kstB]; done)
  | (simp [h1, kstB]; done)
  | (simp_all [kstB]; done)))
  (k_with "my.csame" => (intro z h2 h3; first
  | rfl
  | exact kstB_stay z h2 h3
  | (simp only [List.forall_mem_cons, List.forall_mem_nil, List.not_mem_nil, false_implies, implies_true, and_true, ne_eq] at h2; (try simp only [List.contains_cons, List.contains_nil, Bool.or_false, Bool.or_eq_false_iff, beq_eq_false_iff_ne, ne_eq] at h3); simp [h2, h3, kstB]; done)
  | (simp_all [kstB]; done)))
  (k_with "my.all" => (repeat' (first | exact List.forall_mem_nil _ | (refine List.forall_mem_cons.mpr ⟨rfl, ?_⟩))))
  (k_with "execs cons" => first | (k_here; k_gentoks) | (k_here; k_made; walk_at "execs cons") | ((with_reducible refine wpAny_execs_cons ?_); (try dsimp only); k_fold))
  (k_with "my.sub" => (repeat' (first | exact List.forall_mem_nil _ | (refine List.forall_mem_cons.mpr ⟨?_, ?_⟩) | k_mem)))
  (k_with "leaving ref" => (k_here; (refine' leave_raiseS (by assumption) (by assumption) (by assumption) (by k_asm) ?_; k_whole; intro h' t' S' R' U'; (try dsimp only at S' R' U' ⊢))))
  (k_with "exec While Compare cons nil" => (refine Hold.out ?_))
  exact trivial
set_option maxRecDepth 100000 in
set_option maxHeartbeats 2000000 in
theorem c_parse257r {w : World} {h : Heap} (W : Wd w h) (r : Str) (tr : Tok) (hl : r.length ≤ 100) (h3 : (Txt.slice r none (some 3) != Str.ofString "257") = true) :
   ∀ (dp un : Nat) (outer : List Env) (gd : Option (List Code)) (base : Heap) (s : Shared) (Q E : Value → Shared → Prop), s.heap = h → Below ⟨none, dp, some outer, gd, un⟩ base outer h → dp + 1 < recursionLimit → un + 8 * 1 < cLine →
   (∀ (e t : Addr) h' tk', RaisedS base s.heap outer e (.ref 61) t [.str r tr] [] h' → s.heap.UpToSlots h' → E (.ref e) { s with heap := h', toks := tk' }) →
   wpAny (model PySem.Challenge.rw_wo0076_01.row.prog w) ⟨none, dp, some outer, gd, un⟩ (call (.ref 89) [.str r tr] []) Q E s := by
  intro dp un outer gd base s Q E hs K hdp hun hexc
  subst hs
  obtain ⟨X, loose, mean, mg, mb, T⟩ := id W
  k_dflt (refine' enterX (L' := s.heap.objs.size) [(Str.ofString "resp", .str r tr)] W ?k6 ?k7 ?k8 ?k9 ?kB ?_ rfl ?c5 ?c2 ?c3 ?c4; ((case k6 => k_is); (case k7 => k_is); (case k8 => omega); (case k9 => exact BindsTo.of_eq rfl); (case kB => exact locs rfl); (case c5 => decide); (case c2 => exact rfl); (case c3 => exact rfl); (case c4 => exact rfl)))
  generalize s.heap.objs.size = L'
  intro h₁ F N
  (try k_fold)
  k_steps
  all_goals (try (exfalso; simp_all; done))
  · exact hexc _ _ _ _ (RaisedS.nil (by assumption)) (by assumption)
end
theorem c_p257x {w : World} {dp un : Nat} {gd : Option (List Code)} {outer : List Env} {s : Shared} {base g : Heap} {L a : Addr} {m : Str → Option Value} {name : Str} {scope : Scope} {cd : Value} {news : List (Addr × Obj)} {Q E : Value → Shared → Prop} (W : Wd w g)
    (F : Fr g L s.heap m) (N : News g L s.heap news) (K : Below ⟨none, dp, some outer, gd, un⟩ base outer g) (r : Str) (tr : Tok) (hl : r.length ≤ 100)
    (hroom : dp + 3 < recursionLimit) (hun : un + 24 < cLine)
    (hret : (Txt.slice r none (some 3)) = Str.ofString "257" → ∀ h' tk' tv, Fr g L h' m → News g L h' news → Q (.str (told257 r) tv) { s with heap := h', toks := tk' })
    (hexc : (Txt.slice r none (some 3) != Str.ofString "257") = true → ∀ (e t : Addr) h' tk' G, RaisedS base G (envOf name scope L a cd :: outer) e (.ref 61) t [.str r tr] news h' → Fr g L G m → G.UpToSlots h' → E (.ref e) { s with heap := h', toks := tk' })
    (hk : scope.kind = .function := by rfl) :
    wpAny (model PySem.Challenge.rw_wo0076_01.row.prog w) (Around.deeper ⟨none, dp, some outer, gd, un⟩ (envOf name scope L a cd)) (call (.ref 89) [.str r tr] []) Q E s := by
  by_cases q : Txt.slice r none (some 3) = Str.ofString "257"
  · refine c_parse257 (W.keeps F.keep) r tr hl q (dp + 1) (un + 3) _ _ s Q E rfl (by omega) (by omega) fun v h' tk' hkeep hv => ?_
    obtain ⟨t, rfl⟩ := hv
    have hk' : ∀ b o, s.heap.get? b = some o → h'.get? b = some o := fun b o e => hkeep b o e (by simp [addrs])
    exact hret q h' tk' t (F.keeps hk') fun p hp => ⟨hk' _ _ (N p hp).1, (N p hp).2⟩
  · have q' : (Txt.slice r none (some 3) != Str.ofString "257") = true := by simpa using q
    refine c_parse257r (W.keeps F.keep) r tr hl q' (dp + 1) (un + 3) _ _ base s Q E rfl (K.push F hk) (by omega) (by omega) fun e t h' tk' R U => ?_
    obtain ⟨G, R', F', U'⟩ := raise_news R U K F N
    exact hexc q' e t h' tk' G R' F' U'

end Mine
-- R3
example : True := by
  w_top off
  exact trivial
namespace Mine
example (P : Params) : hd.heap_1 P = hd.heap_1 P ∧ PySem.Challenge.rw_wo0076_01 = PySem.Challenge.rw_wo0076_01 := by
  k_fill
  exact ⟨rfl, rfl⟩



/-- the words of _law_refused -/
noncomputable def gd7 (j : Nat) : Str := Txt.mul (ch j) 3 ++ Str.ofString "7" ++ ch j
noncomputable def mk7 (j : Nat) : List Str := [Str.ofString ")(" ++ gd7 j ++ Str.ofString ") ()", Str.ofString "(" ++ gd7 j ++ ch j ++ Str.ofString ")", Str.ofString "(" ++ Txt.slice (gd7 j) (some 1) none ++ Str.ofString ")", Str.ofString "(" ++ gd7 j ++ Str.ofString "x)", Str.ofString "(" ++ gd7 j ++ Str.ofString "x", Str.ofString "2 7 2)"]
noncomputable def tx229 (j : Nat) : List Str := (Str.ofString "257 (" ++ gd7 j ++ Str.ofString ")") :: (mk7 j).map fun x => Str.ofString "229 " ++ x
noncomputable def tx257 (j : Nat) : List Str := [Str.ofString "229 \"7\"", Str.ofString "257-\"7\"", Str.ofString "257 77\"", Str.ofString "257 \"7\"\" " ++ ch j ++ Str.ofString "\""]
noncomputable def outA (r : Str) : Dat := if out229 r = 0 then .str (Str.ofString "reply") else if out229 r = 1 then .str (Str.ofString "proto") else .tuple [.str (Str.ofString ""), .int 7]
noncomputable def outB (r : Str) : Dat := if (Txt.slice r none (some 3) != Str.ofString "257") = true then .str (Str.ofString "reply") else .str (told257 r)
theorem tx229_both : ∀ j : Fin 23, (tx229 j.val).map (fun r => (good229 r 7, out229 r)) = [(true, 0), (true, 2), (true, 1), (true, 1), (true, 1), (true, 1), (true, 1)] := by decide +kernel
theorem tx229_good (j : Fin 23) (r : Str) (hr : r ∈ tx229 j.val) : good229 r 7 = true ∧ out229 r < 3 := by
  have h : (good229 r 7, out229 r) ∈ (tx229 j.val).map (fun r => (good229 r 7, out229 r)) := List.mem_map_of_mem hr
  rw [tx229_both] at h
  exact (by decide : ∀ p ∈ [(true, 0), (true, 2), (true, 1), (true, 1), (true, 1), (true, 1), (true, 1)], p.1 = true ∧ p.2 < 3) _ h
theorem tx229_out (j : Fin 23) : (tx229 j.val).map out229 = [0, 2, 1, 1, 1, 1, 1] := by
  have h := congrArg (List.map Prod.snd) (tx229_both j)
  rw [List.map_map] at h
  exact h
theorem tx257_fin : ∀ j : Fin 23, (tx257 j.val).map (fun r => (Txt.slice r none (some 3) != Str.ofString "257")) = [true, false, false, false] ∧ (tx257 j.val).tail.map told257 = [Str.ofString "", Str.ofString "", Str.ofString "7\" " ++ ch j.val] ∧ (tx257 j.val).all (fun r => decide (r.length ≤ 100)) = true := by decide +kernel
theorem mk7_len : ∀ j : Fin 23, ∀ x ∈ mk7 j.val, x.length ≤ 20 := by decide +kernel
theorem gd7_fin : ∀ j : Fin 23, (gd7 j.val).length = 5 ∧ (Txt.mul (ch j.val) 3).length = 3 ∧ (Txt.slice (gd7 j.val) (some 1) none).length = 4 := by decide +kernel
/-- what a list of answers holds -/
inductive Tld : List Value → List (Addr × Obj) → List Dat → Prop
  | nil : Tld [] [] []
  | str (s : Str) (t : Tok) {vs ts ds} : Tld vs ts ds → Tld (.str s t :: vs) ts (.str s :: ds)
  | tup (d : Addr) (s : Str) (t : Tok) (x : Int) (u : Tok) (n : Nat) {vs ts ds} : Tld vs ts ds → Tld (.ref d :: vs) ((d, { cls := .type "tuple", data := .seq #[.str s t, .int x u] n }) :: ts) (.tuple [.str s, .int x] :: ds)
theorem Tld.append {vs ts ds} (h : Tld vs ts ds) {vs' ts' ds'} (h' : Tld vs' ts' ds') : Tld (vs ++ vs') (ts ++ ts') (ds ++ ds') := by
  induction h with
  | nil => exact h'
  | str s t _ ih => exact .str s t ih
  | tup d s t x u n _ ih => exact .tup d s t x u n ih
theorem Tld.length {vs ts ds} (h : Tld vs ts ds) : vs.length = ds.length := by induction h <;> simp_all
theorem tld_dat {nw : List (Addr × Obj)} {vs : List Value} {ts : List (Addr × Obj)} {ds : List Dat} (h : Tld vs ts ds) (hs : ∀ p ∈ ts, p ∈ nw) : DatAll nw vs ds := by
  induction h with
  | nil => exact .nil
  | str s t _ ih => exact .cons (.str s t) (ih hs)
  | tup d s t x u n _ ih => exact .cons (.tuple (vs := [.str s t, .int x u]) (hs _ List.mem_cons_self) (.cons (.str _ _) (.cons (.int _ _) .nil))) (ih fun p hp => hs p (List.mem_cons_of_mem _ hp))
theorem Tld.seq {vs ts ds} (h : Tld vs ts ds) : ∀ p ∈ ts, ∃ its n, p.2.data = .seq its n := by
  induction h with
  | nil => intro p hp; cases hp
  | str s t _ ih => exact ih
  | tup d s t x u n _ ih =>
    intro p hp
    rcases List.mem_cons.mp hp with rfl | hp
    · exact ⟨_, _, rfl⟩
    · exact ih p hp
theorem Tld.off {vs ts ds} (h : Tld vs ts ds) {h₀ g : Heap} {L a : Addr} {nw : List (Addr × Obj)} {o : Obj} (N : News h₀ L g nw) (ha : (a, o) ∈ nw) (hc : o.cls = .type "list") (hs : ∀ p ∈ ts, p ∈ nw) : ∀ p ∈ ts, @Ne Nat p.1 a := by
  intro p hp
  obtain ⟨pa, po⟩ := p
  refine ledger_ne N (hs _ hp) ha fun q => ?_
  have hk : po.cls = .type "tuple" := by
    clear hs
    induction h with
    | nil => cases hp
    | str s t _ ih => exact ih hp
    | tup d s t x u n _ ih =>
      rcases List.mem_cons.mp hp with z | hp
      · cases z; rfl
      · exact ih hp
  rw [q, hc] at hk
  injection hk with hk
  exact absurd hk (by decide)
theorem refused_fin (j : Fin 23) : (tx229 j.val).map outA ++ (tx257 j.val).map outB = [.str (Str.ofString "reply"), .tuple [.str (Str.ofString ""), .int 7], .str (Str.ofString "proto"), .str (Str.ofString "proto"), .str (Str.ofString "proto"), .str (Str.ofString "proto"), .str (Str.ofString "proto"), .str (Str.ofString "reply"), .str (Str.ofString ""), .str (Str.ofString ""), .str (Str.ofString "7\" " ++ ch j.val)] := by
  have h1 := tx229_out j
  obtain ⟨h2, h3, -⟩ := tx257_fin j
  simp only [tx229, tx257, mk7, List.map_cons, List.map_nil, List.tail_cons, List.cons.injEq, and_true, List.cons_append, List.nil_append] at h1 h2 h3 ⊢
  obtain ⟨a0, a1, a2, a3, a4, a5, a6⟩ := h1
  obtain ⟨b0, b1, b2, b3⟩ := h2
  obtain ⟨c1, c2, c3⟩ := h3
  refine ⟨?_, ?_, ?_, ?_, ?_, ?_, ?_, ?_, ?_, ?_, ?_⟩
  · simp [outA, a0]
  · simp [outA, a1]
  · simp [outA, a2]
  · simp [outA, a3]
  · simp [outA, a4]
  · simp [outA, a5]
  · simp [outA, a6]
  · rw [outB, if_pos b0]
  · rw [outB, if_neg (by rw [b1]; exact Bool.false_ne_true), c1]
  · rw [outB, if_neg (by rw [b2]; exact Bool.false_ne_true), c2]
  · rw [outB, if_neg (by rw [b3]; exact Bool.false_ne_true), c3]
theorem nmR {h₀ h : Heap} {L x1 ml D tl Lf : Addr} {us1 us : List Value} {oD oL : Obj} {ws1 ws : List Str} (N : News h₀ L h [(x1, listOf us1.toArray 0), (ml, listOf us.toArray 0), (D, oD), (tl, listOf (([] : List Value)).toArray 0), (Lf, oL)]) (h1 : StrsAre us1 ws1) (h2 : StrsAre us ws) :
    ∃ (a b c : Addr) (u1 u2 : List Value), a = x1 ∧ b = ml ∧ c = tl ∧ StrsAre u1 ws1 ∧ StrsAre u2 ws ∧ News h₀ L h [(a, listOf u1.toArray 0), (b, listOf u2.toArray 0), (c, listOf (([] : List Value)).toArray 0), (Lf, oL)] :=
  ⟨x1, ml, tl, us1, us, rfl, rfl, rfl, h1, h2, fun p hp => N p (by simp only [List.mem_cons, List.not_mem_nil, or_false] at hp ⊢; grind)⟩
theorem nmQ {h₀ h : Heap} {L x1 : Addr} {us1 : List Value} {ws1 : List Str} {rest : List (Addr × Obj)} (N : News h₀ L h ((x1, listOf us1.toArray 0) :: rest)) (h1 : StrsAre us1 ws1) :
    ∃ (a : Addr) (u1 : List Value), a = x1 ∧ StrsAre u1 ws1 ∧ News h₀ L h ((a, listOf u1.toArray 0) :: rest) := ⟨x1, us1, rfl, h1, N⟩
theorem nmV {h₀ h : Heap} {L a b : Addr} {oa : Obj} {xs : Array Value} {r : Str} {t : Tok} {n : Nat} {rest : List (Addr × Obj)} (_ : News h₀ L h ((a, oa) :: (b, listOf (xs.push (.str r t)) n) :: rest)) : ∃ t', t' = t := ⟨t, rfl⟩
theorem off_set {I a b c : Addr} {oa ob oc oa' ob' oc' : Obj} {ts : List (Addr × Obj)} (h : LCg.Off1 I ((a, oa) :: (b, ob) :: (c, oc) :: ts)) : ∀ p ∈ (a, oa') :: (b, ob') :: (c, oc') :: ts, @Ne Nat p.1 I :=
  off1_mem (show LCg.Off1 I ((a, oa') :: (b, ob') :: (c, oc') :: ts) from h)
theorem refused_clean : ∀ j : Fin 23, cleanB (Str.ofString "7\" " ++ ch j.val) = true := by decide +kernel
theorem refused_ok (j : Fin 23) : ∀ d ∈ ([.str (Str.ofString "reply"), .tuple [.str (Str.ofString ""), .int 7], .str (Str.ofString "proto"), .str (Str.ofString "proto"), .str (Str.ofString "proto"), .str (Str.ofString "proto"), .str (Str.ofString "proto"), .str (Str.ofString "reply"), .str (Str.ofString ""), .str (Str.ofString ""), .str (Str.ofString "7\" " ++ ch j.val)] : List Dat), kqdOk 8 d = true := by
  have hc : kqdOk 8 (.str (Str.ofString "7\" " ++ ch j.val)) = true := strOk_clean (Clean.of (refused_clean j))
  simp only [List.forall_mem_cons, List.not_mem_nil, false_implies, implies_true, and_true]
  exact ⟨by decide +kernel, by decide +kernel, by decide +kernel, by decide +kernel, by decide +kernel, by decide +kernel, by decide +kernel, by decide +kernel, by decide +kernel, by decide +kernel, hc⟩
theorem strs_append {a b : List Value} {x y : List Str} (h : StrsAre a x) (h' : StrsAre b y) : StrsAre (a ++ b) (x ++ y) := by
  induction h with
  | nil => exact h'
  | cons s t _ ih => exact .cons s t ih
section


namespace Rfd
example : True := by
  k_with_none
  (k_with "my.enter" => ((case k1 => first | exact List.forall_mem_nil _ | assumption); (case k6 => k_is); (case k7 => k_is); (case k8 => omega); (case k9 => first | exact BindsTo.of_eq rfl | exact binds_K (by k_in) rfl (by k_is) rfl rfl rfl); (case kB => exact locs rfl); (case c5 => decide); (case c2 => exact rfl); (case c3 => exact rfl); (case c4 => exact rfl)))
  (k_with "my.enterC" => ((case k1 => first | exact List.forall_mem_nil _ | assumption); (case k6 => k_is); (case k7 => k_is); (case k8 => omega); (case k9 => first | exact BindsTo.of_eq rfl | exact binds_K (by k_in) rfl (by k_is) rfl rfl rfl); (case kB => exact rfl); (case kD => decide +kernel); (case c2 => exact rfl); (case c3 => exact rfl); (case c4 => exact rfl)))
  (k_with "my.room" => first | omega | ((simp only [depth_under_make, depth_under_kw, depth_in1, depth_deeper, depth_caller]); omega))
  (k_with "my.units" => first | omega | ((simp only [units_in1, units_deeper, Around.mark_units, units_caller]); omega))
  (k_with "my.wd" => exact Wd.keeps (by assumption) (Fr.keep (by k_asm)))
  (k_with "call builtin:list.append" => (k_here; k_dflt (refine' append_K (by k_asm) (by k_asm) (by k_upd) ?_ (by (simp only [List.size_toArray, Array.size_push, List.length_append, List.length_cons, List.length_nil, sizeLine_eq]; omega)); k_whole); intro h' F' N'; (try simp only [List.push_toArray] at N'); (try k_sweep)))
  (k_with "my.end" => ((try dsimp only); (try k_unfold); (try dsimp only [retOf])))
  (k_with "my.keep" => exact (fun b o e hb => Fr.keep (by assumption) b o (hideAll_get _ e hb)))
  (k_with "my.cend" => (unfold Hold; refine LCg.CompEnd.intro (by k_asm) (by assumption) _ (fun p hp => hp) (by assumption) (by first | trivial | exact .inr ⟨_, by k_memK, rfl, _, rfl⟩ | exact .inl (by assumption)) ⟨rfl, ?_⟩))
  (k_with "my.m" => with_reducible ((repeat (first | exact List.Mem.head _ | refine List.Mem.tail _ ?_ | assumption | (refine List.mem_append_left _ ?_; walk_at "my.m") | (refine List.mem_append_right _ ?_; walk_at "my.m"))); done))
  (k_with "my.mg" => first | walk_at "my.m" | ((try dsimp only [hdO, PyProof.Rows.LCg.lst, PySem.W.listOf, PySem.W.instObj, PySem.W.dictOf, List.cons_append, List.nil_append]); walk_at "my.m") | ((simp only [List.mem_cons, List.mem_append]); grind))
  (k_with "my.inc" => with_reducible ((repeat' (first | exact inc_refl | exact inc_nil | refine inc_same ?_ | refine inc_app ?_ ?_ | refine inc_one (by walk_at "my.m") ?_ | assumption | refine inc_skip ?_ | (refine inc_left ?_; walk_at "my.inc") | (refine inc_right ?_; walk_at "my.inc"))); done))
  (k_with "my.ne" => with_reducible first | assumption | exact neS1 | exact neS1.symm | exact neS2 | exact neS2.symm | (refine Ne.symm ?_; assumption) | (refine Nat.ne_of_lt ?_; assumption) | (refine Nat.ne_of_gt ?_; assumption))
  (k_with "my.pin" => first | ((try dsimp only [hdO, List.cons_append, List.nil_append] at hp ⊢); exact (show ∀ p ∈ _, p ∈ _ from by walk_at "my.inc") _ hp) | ((try dsimp only [hdO, PyProof.Rows.LCg.lst, PySem.W.listOf, PySem.W.instObj, PySem.W.dictOf, List.cons_append, List.nil_append] at hp ⊢); exact (show ∀ p ∈ _, p ∈ _ from by walk_at "my.inc") _ hp) | ((simp only [hdO, List.cons_append, List.nil_append, List.mem_append, List.mem_cons, List.not_mem_nil, or_false] at hp ⊢); grind))
  (k_with "my.mY" => ((repeat (first | exact List.Mem.head _ | refine List.Mem.tail _ ?_ | refine List.mem_append_right _ ?_)); done))
  (k_with "my.pinS" => ((try dsimp only [hdO, List.cons_append, List.nil_append] at hp ⊢); revert hp; revert p; (repeat (first | exact inc_snoc2 | exact inc_snoc1 | refine inc_under ?_ | refine inc_over ?_)); done))
  (k_with "my.pinY" => ((try dsimp only [hdO, List.cons_append, List.nil_append] at hp ⊢); revert hp; revert p; (repeat (refine inc_one (by walk_at "my.mY") ?_)); (with_reducible (repeat (first | exact inc_refl | exact inc_nil | refine inc_skip ?_ | refine inc_left ?_))); done))
  (k_with "my.in" => first | ((try dsimp only [hdO, List.cons_append, List.nil_append]); walk_at "my.inc") | ((try dsimp only [hdO, PyProof.Rows.LCg.lst, PySem.W.listOf, PySem.W.instObj, PySem.W.dictOf, List.cons_append, List.nil_append]); walk_at "my.inc") | (intro p hp; (try simp only [hdO, List.cons_append, List.nil_append, List.mem_cons, List.mem_append, List.not_mem_nil, or_false, false_or] at hp ⊢); first | exact hp | grind))
  (k_with "my.same" => (intro z h1 h2 h3; first
  | rfl
  | (simp only [List.forall_mem_cons, List.forall_mem_nil, List.not_mem_nil, false_implies, implies_true, and_true, ne_eq] at h2; simp only [List.contains_cons, List.contains_nil, Bool.or_false, Bool.or_eq_false_iff, beq_eq_false_iff_ne, ne_eq] at h3; simp [h1, h2, h3, kstB]; done)
  | (simp [h1, kstB]; done)
  | (simp_all [kstB]; done)))
  (k_with "my.csame" => (intro z h2 h3; first
  | rfl
  | exact kstB_stay z h2 h3
  | (simp only [List.forall_mem_cons, List.forall_mem_nil, List.not_mem_nil, false_implies, implies_true, and_true, ne_eq] at h2; (try simp only [List.contains_cons, List.contains_nil, Bool.or_false, Bool.or_eq_false_iff, beq_eq_false_iff_ne, ne_eq] at h3); simp [h2, h3, kstB]; done)
  | (simp_all [kstB]; done)))
  (k_with "my.all" => (repeat' (first | exact List.forall_mem_nil _ | (refine List.forall_mem_cons.mpr ⟨rfl, ?_⟩))))
  (k_with "execs cons" => first | (k_here; k_gentoks) | (k_here; k_made; walk_at "execs cons") | ((with_reducible refine wpAny_execs_cons ?_); (try dsimp only); k_fold))
  (k_with "my.sub" => (repeat' (first | exact List.forall_mem_nil _ | (refine List.forall_mem_cons.mpr ⟨?_, ?_⟩) | k_mem)))
  (k_with "my.slice" => (k_here; k_dflt (first
  | ((with_reducible show wpAny _ _ (subscriptTail _ _ (Value.str _ _) _) _ _ ⟨Heap.push _ ⟨_, _, Data.fields #[Value.int _ _, Value.none, Value.none], _⟩, _, _, _, _⟩); refine' slice_strN_sn_len (s := ⟨_, _, _, _, _⟩) (by k_asm) (by k_asm) ?_ (by with_unfolding_all rfl) (by (intro _; with_unfolding_all rfl)) (by (rw [sizeLine_eq]; omega)))
  | ((with_reducible show wpAny _ _ (subscriptTail _ _ (Value.str _ _) _) _ _ ⟨Heap.push _ ⟨_, _, Data.fields #[Value.none, Value.int _ _, Value.none], _⟩, _, _, _, _⟩); refine' slice_strN_ns_len (s := ⟨_, _, _, _, _⟩) (by k_asm) (by k_asm) ?_ (by with_unfolding_all rfl) (by (intro _; with_unfolding_all rfl)) (by (rw [sizeLine_eq]; omega)))
  | ((with_reducible show wpAny _ _ (subscriptTail _ _ (Value.str _ _) _) _ _ ⟨Heap.push _ ⟨_, _, Data.fields #[Value.none, Value.none, Value.none], _⟩, _, _, _, _⟩); refine' slice_strN_nn_len (s := ⟨_, _, _, _, _⟩) (by k_asm) (by k_asm) ?_ (by with_unfolding_all rfl) (by (intro _; with_unfolding_all rfl)) (by (rw [sizeLine_eq]; omega)))
  | ((with_reducible show wpAny _ _ (subscriptTail _ _ (Value.str _ _) _) _ _ ⟨Heap.push _ ⟨_, _, Data.fields #[Value.int _ _, Value.int _ _, Value.none], _⟩, _, _, _, _⟩); refine' slice_strN_ss_len (s := ⟨_, _, _, _, _⟩) (by k_asm) (by k_asm) ?_ (by with_unfolding_all rfl) (by (intro _; with_unfolding_all rfl)) (by (rw [sizeLine_eq]; omega)))); intro h' t' k' F' N' hlen'; (try k_sweep)))
  (k_with "subscriptTail Name Slice str ref" => walk_at "my.slice")
  (k_with "eval ListComp" => (k_here; first
  | (lcp_look; k_dflt (refine LCp.ListComp_P (F₀ := by k_asm) (by with_unfolding_all rfl) (by decide) (by rfl) (by decide) (by rfl) (by rfl) (by decide) ?_); k_dflt lcp_toSrc)
  | (lct_look; k_dflt (refine LCt.ListComp_T (F₀ := by k_asm) (by with_unfolding_all rfl) (by decide) (by rfl) (by decide) (by rfl) ?_); k_dflt lct_toSrc)
  | (k_dflt (refine LCg.ListComp_U (F₀ := by k_asm) (by with_unfolding_all rfl) (by decide) (by rfl) (by decide) (by rfl) ?_); k_dflt lcg_toSrc)))
  (k_with "exec Assign cons ListComp" => (k_here; first
  | (lcp_look; k_dflt (refine LCp.Assign_ListComp_P (F₀ := by k_asm) (by rfl) (by with_unfolding_all rfl) (by with_unfolding_all rfl) (by decide) (by rfl) (by decide) (by rfl) (by rfl) (by decide) (by rfl) (by rfl) ?_); k_dflt lcp_toSrc)
  | (lct_look; k_dflt (refine LCt.Assign_ListComp_T (F₀ := by k_asm) (by rfl) (by with_unfolding_all rfl) (by with_unfolding_all rfl) (by decide) (by rfl) (by decide) (by rfl) (by rfl) (by rfl) ?_); k_dflt lct_toSrc)
  | (k_dflt (refine LCg.Assign_ListComp_U (F₀ := by k_asm) (by rfl) (by with_unfolding_all rfl) (by with_unfolding_all rfl) (by decide) (by rfl) (by decide) (by rfl) (by rfl) (by rfl) ?_); k_dflt lcg_toSrc)))
  (k_with "CompSrc" => (refine Hold.out ?_))
  (k_with "CompSrcT" => (refine Hold.out ?_))
  (k_with "SrcLP" => (refine Hold.out ?_))
  (k_with "CompEnd" => (refine Hold.out ?_))
  (k_with "exec For Name BinOp cons nil" => (k_here; (rename Fr _ _ _ _ => lF'); (with_unfolding_all refine' For_invVF lF' (by exact rfl) (by exact rfl) ?_; k_whole)))
  (k_with "exec For Name List cons nil" => (k_here; (rename Fr _ _ _ _ => lF'); (with_unfolding_all refine' For_invVF lF' (by exact rfl) (by exact rfl) ?_; k_whole)))
  (k_with "binaryOp Add ref ref" => (refine Hold.out ?_))
  (k_with "call ref" => (k_here; (with_reducible show wpAny _ _ (call (Value.ref 82) _ _) _ _ _); (refine Hold.out ?_)))
  (k_with "call ref" => (k_here; (with_reducible show wpAny _ _ (call (Value.ref 89) _ _) _ _ _); (refine Hold.out ?_)))
  (k_with "call builtin:list.append" => (refine Hold.out ?_))
  (k_with "SwEnd" => (refine Hold.out ?_))
  (k_with "compareOp Eq ref ref" => (refine Hold.out ?_))
  (k_with "pyIter ref" => (refine Hold.out ?_))
  (k_with "RngPost" => (dsimp only [RngPost]))
  (k_with "RngEnd" => (refine Hold.out ?_))
  (k_with "newList" => (k_here; k_dflt (refine' newList_K (by k_asm) (by k_asm) ?_ (by (rw [sizeLine_eq]; exact Nat.le_of_ble_eq_true rfl)); k_whole); intro l' h' F' N' l1; (try k_lt l1); (try k_sweep)))
  (k_with "exec Try" => ((with_reducible rename Gd 3 => g9); (refine Hold.out ?_)))
  exact trivial
noncomputable def Body (w : World) (base : Heap) (j : Nat) (tj : Tok) (dp : Nat) (un : Nat) (gd : Option (List Code)) (ev : Env) (Lf : Addr) (oF : Obj) (s : Shared) (Q : Value → Shared → Prop) (E : Value → Shared → Prop) : Prop :=
    Wd w base → j < 23 → Below ⟨none, dp, some [ev], gd, un⟩ base [ev] s.heap → ev.frame = some Lf → s.heap.get? Lf = some oF → (∃ es n, oF.data = .dict es n) → dp + 5 < recursionLimit → un + 8 * 10 < cLine → (∀ h' tk', (∀ b o, s.heap.get? b = some o → b ≠ Lf → h'.get? b = some o) → (∃ sl', h'.get? Lf = some { oF with slots := sl' }) → Q (.bool true) { s with heap := h', toks := tk' }) →
    wpAny (model PySem.Challenge.rw_wo0076_01.row.prog w) ⟨none, dp, some [ev], gd, un⟩ (call (.ref 337) [.str (ch j) tj] []) Q E s
noncomputable def Ok (v : World × Heap × Nat × Tok × Nat × Nat × (Option (List Code)) × Env × Addr × Obj × Shared × (Value → Shared → Prop) × (Value → Shared → Prop)) : Prop := Body v.1 v.2.1 v.2.2.1 v.2.2.2.1 v.2.2.2.2.1 v.2.2.2.2.2.1 v.2.2.2.2.2.2.1 v.2.2.2.2.2.2.2.1 v.2.2.2.2.2.2.2.2.1 v.2.2.2.2.2.2.2.2.2.1 v.2.2.2.2.2.2.2.2.2.2.1 v.2.2.2.2.2.2.2.2.2.2.2.1 v.2.2.2.2.2.2.2.2.2.2.2.2
theorem ne : Nonempty (World × Heap × Nat × Tok × Nat × Nat × (Option (List Code)) × Env × Addr × Obj × Shared × (Value → Shared → Prop) × (Value → Shared → Prop)) := ⟨(aWorld 1, {}, 0, 0, 0, 0, none, default, (0 : Nat), default, {}, fun _ _ => True, fun _ _ => True)⟩
noncomputable def v0 : World × Heap × Nat × Tok × Nat × Nat × (Option (List Code)) × Env × Addr × Obj × Shared × (Value → Shared → Prop) × (Value → Shared → Prop) := Classical.choose (one_for_all ne Ok)
@[irreducible] noncomputable def w : World := v0.1
@[irreducible] noncomputable def base : Heap := v0.2.1
@[irreducible] noncomputable def j : Nat := v0.2.2.1
@[irreducible] noncomputable def tj : Tok := v0.2.2.2.1
@[irreducible] noncomputable def dp : Nat := v0.2.2.2.2.1
@[irreducible] noncomputable def un : Nat := v0.2.2.2.2.2.1
@[irreducible] noncomputable def gd : Option (List Code) := v0.2.2.2.2.2.2.1
@[irreducible] noncomputable def ev : Env := v0.2.2.2.2.2.2.2.1
@[irreducible] noncomputable def Lf : Addr := v0.2.2.2.2.2.2.2.2.1
@[irreducible] noncomputable def oF : Obj := v0.2.2.2.2.2.2.2.2.2.1
@[irreducible] noncomputable def s : Shared := v0.2.2.2.2.2.2.2.2.2.2.1
@[irreducible] noncomputable def Q : Value → Shared → Prop := v0.2.2.2.2.2.2.2.2.2.2.2.1
@[irreducible] noncomputable def E : Value → Shared → Prop := v0.2.2.2.2.2.2.2.2.2.2.2.2
theorem all (w : World) (base : Heap) (j : Nat) (tj : Tok) (dp : Nat) (un : Nat) (gd : Option (List Code)) (ev : Env) (Lf : Addr) (oF : Obj) (s : Shared) (Q : Value → Shared → Prop) (E : Value → Shared → Prop) (h : Body Rfd.w Rfd.base Rfd.j Rfd.tj Rfd.dp Rfd.un Rfd.gd Rfd.ev Rfd.Lf Rfd.oF Rfd.s Rfd.Q Rfd.E) : Body w base j tj dp un gd ev Lf oF s Q E := by
  delta Rfd.w Rfd.base Rfd.j Rfd.tj Rfd.dp Rfd.un Rfd.gd Rfd.ev Rfd.Lf Rfd.oF Rfd.s Rfd.Q Rfd.E at h
  exact Classical.choose_spec (one_for_all ne Ok) h (w, base, j, tj, dp, un, gd, ev, Lf, oF, s, Q, E)
noncomputable def L' : Addr := s.heap.objs.size
noncomputable def g0 : Heap := hideAll s.heap [Lf]
set_option maxRecDepth 100000 in
set_option maxHeartbeats 2000000 in
theorem walk : Body w base j tj dp un gd ev Lf oF s Q E := by
  (k_with "execs cons" => first | (k_here; k_gentoks) | (k_here; k_made; walk_at "execs cons") | ((with_reducible refine wpAny_execs_cons ?_); (try dsimp only)))
  intro WB hj K hev hG hdct hdp hun hret
  have hkm : ev.scope.kind ≠ .module := K.frames.1
  have hbL : base.get? Lf = none := (K.frames.mem (b := Lf) (by simp [hev])).1
  have W : Wd w s.heap := WB.keeps K.stays
  have B0 : base.StaysIn s.heap := K.stays
  have WG : Wd w (hideAll s.heap [Lf]) := WB.keeps fun b o e => hideAll_get _ (B0 b o e) (fun q => absurd (show b = Lf by simpa using q) (fun q' => by rw [q', hbL] at e; cases e))
  k_dflt (refine' enterX (L' := L') [(Str.ofString "mark", .str (ch j) tj)] W ?k6 ?k7 ?k8 ?k9 ?kB ?_ rfl ?c5 ?c2 ?c3 ?c4; ((case k6 => k_is); (case k7 => k_is); (case k8 => omega); (case k9 => exact BindsTo.of_eq rfl); (case kB => exact locs rfl); (case c5 => decide); (case c2 => exact rfl); (case c3 => exact rfl); (case c4 => exact rfl)))
  intro h₁ F₀ N₀
  obtain ⟨F, N⟩ := sw_start hG F₀ N₀
  clear F₀ N₀ W
  replace F : Fr g0 L' h₁ _ := F
  replace N : News g0 L' h₁ _ := N
  replace WG : Wd w g0 := WG
  obtain ⟨X, loose, mean, mg, mb, T⟩ := id WG
  have hret' : ∀ (h' : Heap) tk' L m news sl', Fr g0 L h' m → News g0 L h' ((Lf, { oF with slots := sl' }) :: news) → Q (.bool true) { s with heap := h', toks := tk' } := fun h' tk' L m news sl' F9 N9 =>
    hret h' tk' (fun b o e q => F9.keep b o (hideAll_get _ e (by simpa using q))) ⟨sl', (N9 _ (.head _)).1⟩
  have hL1 : (ch j).length = 1 := rfl
  obtain ⟨hL2, hL3, hL4⟩ := gd7_fin ⟨j, hj⟩
  dsimp only at hL2 hL3 hL4
  unfold gd7 at hL2 hL4
  have hL5 : (Str.ofString "7").length = 1 := rfl
  have hL6 : (Str.ofString ")(").length = 2 := rfl
  have hL7 : (Str.ofString ") ()").length = 4 := rfl
  have hL8 : (Str.ofString "(").length = 1 := rfl
  have hL9 : (Str.ofString ")").length = 1 := rfl
  have hLa : (Str.ofString "x)").length = 2 := rfl
  have hLb : (Str.ofString "x").length = 1 := rfl
  have hLc : (Str.ofString "257 (").length = 5 := rfl
  have hLd : (Str.ofString "229 ").length = 4 := rfl
  k_steps
  unfold Hold
  (rename News _ _ _ _ => N8)
  (rename Fr _ _ _ _ => F8)
  obtain ⟨x9, m9, t9, us1, us, e1, e2, e3, hS1, hS2, N9⟩ := nmR (ws := mk7 j) N8 (.cons _ _ .nil) (.cons _ _ (.cons _ _ (.cons _ _ (.cons _ _ (.cons _ _ (.cons _ _ .nil))))))
  subst e1 e2 e3
  clear N8
  have hl6 : us.length = 6 := by rw [hS2.length]; rfl
  have hl1 : us1.length = 1 := by rw [hS1.length]; rfl
  k_dflt (refine LCg.CompSrc.ledger (its := us.toArray) (by rfl) F8 N9 (.tail _ (.head _)) (by rw [List.size_toArray, sizeLine_eq]; omega) ?_)
  intro g'
  refine cr_fix (fun i ys => StrsAre ys (((mk7 j).map fun x => Str.ofString "229 " ++ x).take i)) .nil ?_ ?_
  · rintro i ys v I oI C oC D m₂ h4 tk4 E' hi hy hS hv hC hx F4 N4 off ne
    rw [List.size_toArray, hl6] at hi
    obtain ⟨y, hy2⟩ : ∃ y, (mk7 j)[i]? = some y := ⟨_, List.getElem?_eq_getElem (show i < (mk7 j).length from hi)⟩
    obtain ⟨tv, hv2⟩ := hS2.get i y hy2
    have hv3 : v = .str y tv := by
      have e : us.toArray[i]? = some v := hv
      rw [List.getElem?_toArray, hv2] at e
      exact (Option.some.inj e).symm
    subst hv3
    have hyl := mk7_len ⟨j, hj⟩ y (List.mem_of_getElem? hy2)
    k_steps
    unfold Hold
    (rename News _ _ _ _ => N5)
    (rename Fr _ _ _ _ => F5)
    refine LCg.CompEnd.intro F5 N5 _ (fun p hp => hp) off (.inr ⟨_, .tail _ (.head _), rfl, _, rfl⟩) ⟨rfl, ?_⟩
    rw [List.take_add_one, List.getElem?_map, hy2]
    exact kct_snoc hS
  · intro ys hy hS D h4 tk4 F4 N4 off4
    rw [List.size_toArray, hl6] at hy
    have hS3 : StrsAre ys ((mk7 j).map fun x => Str.ofString "229 " ++ x) := by
      have e : ((mk7 j).map fun x => Str.ofString "229 " ++ x).take us.toArray.size = (mk7 j).map fun x => Str.ofString "229 " ++ x := by rw [List.size_toArray, hl6]; rfl
      rw [← e]; exact hS
    clear hS
    (try dsimp only)
    k_steps
    unfold Hold
    (rename News _ _ _ _ => N5)
    (rename Fr _ _ _ _ => F5)
    refine add_lists9 (vs := us1) (ws := ys) F5 N5 (News.isList N5 (by k_mem)) (News.isList N5 (by k_mem)) (by rw [sizeLine_eq, hl1, hy]; omega) ?_
    intro x8 h6 F6 N6 lx6
    have N7 := News_sub [(x8, listOf (us1 ++ ys).toArray 0), (t9, listOf (([] : List Value)).toArray 0), (Lf, { oF with slots := oF.slots })] N6 (by walk_at "my.in")
    have hx8 : @Ne Nat x8 t9 := Ne.symm (Nat.ne_of_lt (lx6 _ (by k_mem : (t9, listOf (([] : List Value)).toArray 0) ∈ _)))
    clear N6 lx6 F5 N5
    have hS4 : StrsAre (us1 ++ ys) (tx229 j) := strs_append hS1 hS3
    have hl4 : (us1 ++ ys).length = 7 := by rw [List.length_append, hl1, hy]
    generalize us1 ++ ys = tx at hS4 hl4 N7
    clear hS1 hS3 hS2 hl1 hl6 hy
    (try dsimp only)
    k_steps
    unfold Hold
    (rename News _ _ _ _ => N8)
    (rename Fr _ _ _ _ => F8)
    k_dflt (refine lst_loop (σ := List Value × Nat × List (Addr × Obj) × Array (Option Value)) (its := tx.toArray) (kc := 0) (ax := x8) (fun c => (x8, listOf tx.toArray 0) :: (t9, listOf c.1.toArray c.2.1) :: (Lf, { oF with slots := c.2.2.2 }) :: c.2.2.1) (fun _ => []) [] (fun i c => Tld c.1 c.2.2.1 (((tx229 j).map outA).take i)) ([], 0, [], oF.slots) (by rfl) (fun _ => .head _) F8 N8 (fun _ h => nomatch h) .nil ?_ ?_)
    · rintro ⟨tv, tn, ts, sl⟩ i v u h9 tk9 I oI hv hi off hT F9 N9
      dsimp only at hT F9 N9 off
      rw [List.size_toArray, hl4] at hi
      obtain ⟨r, hr2⟩ : ∃ r, (tx229 j)[i]? = some r := ⟨_, List.getElem?_eq_getElem (show i < (tx229 j).length from hi)⟩
      obtain ⟨tr, hv2⟩ := hS4.get i r hr2
      have hv3 : v = .str r tr := by
        have e : tx.toArray[i]? = some v := hv
        rw [List.getElem?_toArray, hv2] at e
        exact (Option.some.inj e).symm
      subst hv3
      obtain ⟨hgr, hor⟩ := tx229_good ⟨j, hj⟩ r (List.mem_of_getElem? hr2)
      have hlen : tv.length = i := by rw [hT.length, List.length_take, List.length_map]; exact Nat.min_eq_left (Nat.le_of_lt hi)
      have off' := off
      simp only [LCg.Off1] at off'
      have htk : ((tx229 j).map outA).take (i + 1) = ((tx229 j).map outA).take i ++ [outA r] := by rw [List.take_add_one, List.getElem?_map, hr2]; rfl
      have g3 := gdAt 3
      k_steps
      unfold Hold
      (rename Gd 3 => g9; clear g9)
      (rename News _ _ _ _ => N10)
      (rename Fr _ _ _ _ => F10)
      have N11 := News_sub ((Lf, { oF with slots := sl }) :: (I, oI) :: (x8, listOf tx.toArray 0) :: (t9, listOf tv.toArray tn) :: ts) N10 (by walk_at "my.in")
      (replace F10 : Fr (hideAll s.heap [Lf]) L' _ _ := F10); (replace N11 : News (hideAll s.heap [Lf]) L' _ _ := N11)
      have hLoff : ∀ p ∈ (I, oI) :: (x8, listOf tx.toArray 0) :: (t9, listOf tv.toArray tn) :: ts, @Ne Nat p.1 Lf := by
        obtain ⟨es, en, hde⟩ := hdct
        intro p hp
        rcases List.mem_cons.mp hp with rfl | hp
        · exact fun q => off'.2.2.1 q.symm
        · obtain ⟨pa, po⟩ := p
          refine ledger_ne N11 (.tail _ (.tail _ hp)) (.head _) fun q => ?_
          have hsq : ∃ its n, po.data = .seq its n := by
            rcases List.mem_cons.mp hp with z | hp
            · cases z; exact ⟨_, _, rfl⟩
            rcases List.mem_cons.mp hp with z | hp
            · cases z; exact ⟨_, _, rfl⟩
            exact hT.seq _ hp
          obtain ⟨its, n, hsq⟩ := hsq
          rw [q] at hsq
          have : oF.data = .seq its n := hsq
          rw [hde] at this
          cases this
      refine sw_stmt (A₀ := ⟨none, dp, some [ev], gd, un⟩) (base := base) hG hdct B0 hbL hev hkm rfl F10 N11 hLoff ?_
      clear F10 N10 N11
      intro g F12 N12 K12 D12
      clear X T
      obtain ⟨XB, loose, mean, mg, mb, TB⟩ := id WB
      have X := XB.keeps K12.stays
      have T := TB.keeps K12.stays
      k_steps
      unfold Hold
      (rename News _ _ _ _ => N13)
      (rename Fr _ _ _ _ => F13)
      refine c_p229x (WB.keeps K12.stays) F13 N13 K12 r tr _ _ _ _ _ 7 _ (.head _) hgr (by omega) (by omega) (fun h2 d h' tk' tv9 k9 hne F N => ?_) (fun e t h' tk' C G hC R F U => ?_)
      · clear F13 N13
        have hTt := hT.off N (.tail _ (.tail _ (.tail _ (.tail _ (.head _))))) rfl (fun p hp => .tail _ (.tail _ (.tail _ (.tail _ (.tail _ hp)))))
        have hdt : @Ne Nat d t9 := Ne.symm (hne _ (.tail _ (.tail _ (.tail _ (.head _)))))
        have hdI : @Ne Nat d I := Ne.symm (hne _ (.tail _ (.head _)))
        have N14 := News_sub ((t9, listOf tv.toArray tn) :: (d, { cls := .type "tuple", data := .seq #[.str (Str.ofString "") tk9, .int 7 tv9] k9 }) :: (I, oI) :: (x8, listOf tx.toArray 0) :: ts) N (by walk_at "my.in")
        clear N
        k_steps
        unfold Hold
        (rename Fr _ _ _ _ => F15)
        refine append_K F15 N14 (.head (List.forall_mem_cons.mpr ⟨hdt, List.forall_mem_cons.mpr ⟨Ne.symm off'.2.1, List.forall_mem_cons.mpr ⟨hx8, hTt⟩⟩⟩)) (fun h16 F16 N16 => ?_) (by rw [sizeLine_eq, List.size_toArray]; omega)
        clear F15 N14
        k_steps
        unfold Hold
        refine ⟨_, _, _, KtsTurn.refl, F16, N16, fun sl' F17 N17 => ?_⟩
        clear F16 N16
        k_steps
        unfold Hold
        (rename News _ _ _ _ => N18)
        (rename Fr _ _ _ _ => F18)
        refine rng_end (tv ++ [.ref d], tn + 1, ts ++ [(d, { cls := .type "tuple", data := .seq #[.str (Str.ofString "") tk9, .int 7 tv9] k9 })], sl') F18 N18 (.tail _ (.tail _ (.tail _ (.head _)))) (fun p hp => ?_) (fun p hp => ?_) (fun _ h => nomatch h) (by walk_at "my.same") ?_
        · revert hp; revert p; rw [List.push_toArray]; walk_at "my.in"
        · have hof := off1_mem off
          simp only [List.mem_cons, List.mem_append, List.not_mem_nil, or_false] at hp
          rcases hp with z | z | z | z | z
          · rw [z]; exact off'.1
          · rw [z]; exact off'.2.1
          · rw [z]; exact off'.2.2.1
          · exact hof p (.tail _ (.tail _ (.tail _ z)))
          · rw [z]; exact hdI
        · show Tld _ _ (((tx229 j).map outA).take (i + 1))
          rw [htk]
          refine hT.append ?_
          rw [outA, if_neg (by rw [h2]; decide), if_neg (by rw [h2]; decide)]
          exact .tup _ _ _ _ _ _ .nil
      · rcases hC with ⟨h0, rfl⟩ | ⟨h1, rfl⟩
        · k_steps
          unfold Hold
          (rename Fr _ _ _ _ => F15)
          (rename News _ _ _ _ => N13)
          (rename KtsTurn _ _ _ => T15)
          have hTt := hT.off N13 (.tail _ (.tail _ (.tail _ (.head _)))) rfl (fun p hp => .tail _ (.tail _ (.tail _ (.tail _ hp))))
          have N14 := News_sub ((t9, listOf tv.toArray tn) :: (I, oI) :: (x8, listOf tx.toArray 0) :: ts) N13 (by walk_at "my.in")
          clear N13
          refine append_K F15 N14 (.head (List.forall_mem_cons.mpr ⟨Ne.symm off'.2.1, List.forall_mem_cons.mpr ⟨hx8, hTt⟩⟩)) (fun h16 F16 N16 => ?_) (by rw [sizeLine_eq, List.size_toArray]; omega)
          clear F15 N14
          k_steps
          unfold Hold
          refine ⟨_, _, _, T15, F16, N16, fun sl' F17 N17 => ?_⟩
          clear F16 N16
          k_steps
          unfold Hold
          (rename News _ _ _ _ => N18)
          (rename Fr _ _ _ _ => F18)
          obtain ⟨t7, e7⟩ := nmV N18
          subst e7
          refine rng_end (tv ++ [.str (Str.ofString "reply") t7], tn + 1, ts, sl') F18 N18 (.tail _ (.tail _ (.head _))) (fun p hp => ?_) (fun p hp => ?_) (fun _ h => nomatch h) (by walk_at "my.same") ?_
          · revert hp; revert p; rw [List.push_toArray]; walk_at "my.in"
          · exact off_set off p hp
          · show Tld _ _ (((tx229 j).map outA).take (i + 1))
            rw [htk]
            have e9 : ∀ q9, Tld (tv ++ [.str (Str.ofString "reply") q9]) ts (((tx229 j).map outA).take i ++ [.str (Str.ofString "reply")]) := fun q9 => by
              have := hT.append (.str (Str.ofString "reply") q9 .nil)
              rw [List.append_nil] at this
              exact this
            rw [outA, if_pos h0]
            exact e9 _
        · k_steps
          unfold Hold
          (rename Fr _ _ _ _ => F15)
          (rename News _ _ _ _ => N13)
          (rename KtsTurn _ _ _ => T15)
          have hTt := hT.off N13 (.tail _ (.tail _ (.tail _ (.head _)))) rfl (fun p hp => .tail _ (.tail _ (.tail _ (.tail _ hp))))
          have N14 := News_sub ((t9, listOf tv.toArray tn) :: (I, oI) :: (x8, listOf tx.toArray 0) :: ts) N13 (by walk_at "my.in")
          clear N13
          refine append_K F15 N14 (.head (List.forall_mem_cons.mpr ⟨Ne.symm off'.2.1, List.forall_mem_cons.mpr ⟨hx8, hTt⟩⟩)) (fun h16 F16 N16 => ?_) (by rw [sizeLine_eq, List.size_toArray]; omega)
          clear F15 N14
          k_steps
          unfold Hold
          refine ⟨_, _, _, T15, F16, N16, fun sl' F17 N17 => ?_⟩
          clear F16 N16
          k_steps
          unfold Hold
          (rename News _ _ _ _ => N18)
          (rename Fr _ _ _ _ => F18)
          obtain ⟨t7, e7⟩ := nmV N18
          subst e7
          refine rng_end (tv ++ [.str (Str.ofString "proto") t7], tn + 1, ts, sl') F18 N18 (.tail _ (.tail _ (.head _))) (fun p hp => ?_) (fun p hp => ?_) (fun _ h => nomatch h) (by walk_at "my.same") ?_
          · revert hp; revert p; rw [List.push_toArray]; walk_at "my.in"
          · exact off_set off p hp
          · show Tld _ _ (((tx229 j).map outA).take (i + 1))
            rw [htk]
            have e9 : ∀ q9, Tld (tv ++ [.str (Str.ofString "proto") q9]) ts (((tx229 j).map outA).take i ++ [.str (Str.ofString "proto")]) := fun q9 => by
              have := hT.append (.str (Str.ofString "proto") q9 .nil)
              rw [List.append_nil] at this
              exact this
            rw [outA, if_neg (by rw [h1]; decide), if_pos h1]
            exact e9 _
    · rintro ⟨tv, tn, ts, sl⟩ u h9 tk9 hT F9 N9
      dsimp only at hT F9 N9
      have hT2 : Tld tv ts ((tx229 j).map outA) := by
        have e : ((tx229 j).map outA).take tx.toArray.size = (tx229 j).map outA := by rw [List.size_toArray, hl4]; rfl
        rw [← e]; exact hT
      clear hT
      have N10 := News_sub ((t9, listOf tv.toArray tn) :: (Lf, { oF with slots := sl }) :: ts) N9 (by walk_at "my.in")
      clear N9
      (try dsimp only)
      clear hS4 hl4 hx8 N8 F8
      k_steps
      unfold Hold
      (rename Fr _ _ _ _ => F11)
      (rename News _ _ _ _ => N11)
      (rename _ ∧ _ => hx7)
      obtain ⟨x7, tx, e7, hS4, N12⟩ := nmQ (ws1 := tx257 j) N11 (.cons _ _ (.cons _ _ (.cons _ _ (.cons _ _ .nil))))
      subst e7
      clear N11
      have hx7 : @Ne Nat x7 t9 := Ne.symm (Nat.ne_of_lt hx7.1)
      have hl4 : tx.length = 4 := by rw [hS4.length]; rfl
      have hl7 : tv.length = 7 := by rw [hT2.length]; rfl
      k_dflt (refine lst_loop (σ := List Value × Nat × List (Addr × Obj) × Array (Option Value)) (its := tx.toArray) (kc := 0) (ax := x7) (fun c => (x7, listOf tx.toArray 0) :: (t9, listOf c.1.toArray c.2.1) :: (Lf, { oF with slots := c.2.2.2 }) :: c.2.2.1) (fun _ => []) [] (fun i c => Tld c.1 c.2.2.1 ((tx229 j).map outA ++ ((tx257 j).map outB).take i)) (tv, tn, ts, sl) (by rfl) (fun _ => .head _) F11 N12 (fun _ h => nomatch h) (by rw [List.take_zero, List.append_nil]; exact hT2) ?_ ?_)
      · clear F11 N12 hT2 hl7
        rintro ⟨tv, tn, ts, sl⟩ i v u h9 tk9 I oI hv hi off hT F9 N9
        dsimp only at hT F9 N9 off
        rw [List.size_toArray, hl4] at hi
        obtain ⟨r, hr2⟩ : ∃ r, (tx257 j)[i]? = some r := ⟨_, List.getElem?_eq_getElem (show i < (tx257 j).length from hi)⟩
        obtain ⟨tr, hv2⟩ := hS4.get i r hr2
        have hv3 : v = .str r tr := by
          have e : tx.toArray[i]? = some v := hv
          rw [List.getElem?_toArray, hv2] at e
          exact (Option.some.inj e).symm
        subst hv3
        have hgr : r.length ≤ 100 := of_decide_eq_true (List.all_eq_true.mp (tx257_fin ⟨j, hj⟩).2.2 r (List.mem_of_getElem? hr2))
        have hlen : tv.length = 7 + i := by rw [hT.length, List.length_append, List.length_take, List.length_map, List.length_map, show min i (tx257 j).length = i from Nat.min_eq_left (Nat.le_of_lt hi)]; rfl
        have off' := off
        simp only [LCg.Off1] at off'
        have htk : (tx229 j).map outA ++ ((tx257 j).map outB).take (i + 1) = ((tx229 j).map outA ++ ((tx257 j).map outB).take i) ++ [outB r] := by rw [List.take_add_one, List.getElem?_map, hr2, List.append_assoc]; rfl
        have g3 := gdAt 3
        k_steps
        unfold Hold
        (rename Gd 3 => g9; clear g9)
        (rename News _ _ _ _ => N10)
        (rename Fr _ _ _ _ => F10)
        have N11 := News_sub ((Lf, { oF with slots := sl }) :: (I, oI) :: (x7, listOf tx.toArray 0) :: (t9, listOf tv.toArray tn) :: ts) N10 (by walk_at "my.in")
        (replace F10 : Fr (hideAll s.heap [Lf]) L' _ _ := F10); (replace N11 : News (hideAll s.heap [Lf]) L' _ _ := N11)
        have hLoff : ∀ p ∈ (I, oI) :: (x7, listOf tx.toArray 0) :: (t9, listOf tv.toArray tn) :: ts, @Ne Nat p.1 Lf := by
          obtain ⟨es, en, hde⟩ := hdct
          intro p hp
          rcases List.mem_cons.mp hp with rfl | hp
          · exact fun q => off'.2.2.1 q.symm
          · obtain ⟨pa, po⟩ := p
            refine ledger_ne N11 (.tail _ (.tail _ hp)) (.head _) fun q => ?_
            have hsq : ∃ its n, po.data = .seq its n := by
              rcases List.mem_cons.mp hp with z | hp
              · cases z; exact ⟨_, _, rfl⟩
              rcases List.mem_cons.mp hp with z | hp
              · cases z; exact ⟨_, _, rfl⟩
              exact hT.seq _ hp
            obtain ⟨its, n, hsq⟩ := hsq
            rw [q] at hsq
            have : oF.data = .seq its n := hsq
            rw [hde] at this
            cases this
        refine sw_stmt (A₀ := ⟨none, dp, some [ev], gd, un⟩) (base := base) hG hdct B0 hbL hev hkm rfl F10 N11 hLoff ?_
        clear F10 N10 N11
        intro g F12 N12 K12 D12
        clear X T
        obtain ⟨XB, loose, mean, mg, mb, TB⟩ := id WB
        have X := XB.keeps K12.stays
        have T := TB.keeps K12.stays
        k_steps
        unfold Hold
        (rename News _ _ _ _ => N13)
        (rename Fr _ _ _ _ => F13)
        refine c_p257x (WB.keeps K12.stays) F13 N13 K12 r tr hgr (by omega) (by omega) (fun h2 h' tk' tv9 F N => ?_) (fun h0 e t h' tk' G R F U => ?_)
        · clear F13 N13
          have hTt := hT.off N (.tail _ (.tail _ (.head _))) rfl (fun p hp => .tail _ (.tail _ (.tail _ hp)))
          have N14 := News_sub ((t9, listOf tv.toArray tn) :: (I, oI) :: (x7, listOf tx.toArray 0) :: ts) N (by walk_at "my.in")
          clear N
          k_steps
          unfold Hold
          (rename Fr _ _ _ _ => F15)
          refine append_K F15 N14 (.head (List.forall_mem_cons.mpr ⟨Ne.symm off'.2.1, List.forall_mem_cons.mpr ⟨hx7, hTt⟩⟩)) (fun h16 F16 N16 => ?_) (by rw [sizeLine_eq, List.size_toArray]; omega)
          clear F15 N14
          k_steps
          unfold Hold
          refine ⟨_, _, _, KtsTurn.refl, F16, N16, fun sl' F17 N17 => ?_⟩
          clear F16 N16
          k_steps
          unfold Hold
          (rename News _ _ _ _ => N18)
          (rename Fr _ _ _ _ => F18)
          refine rng_end (tv ++ [.str (told257 r) tv9], tn + 1, ts, sl') F18 N18 (.tail _ (.tail _ (.head _))) (fun p hp => ?_) (fun p hp => ?_) (fun _ h => nomatch h) (by walk_at "my.same") ?_
          · revert hp; revert p; rw [List.push_toArray]; walk_at "my.in"
          · exact off_set off p hp
          · show Tld _ _ ((tx229 j).map outA ++ ((tx257 j).map outB).take (i + 1))
            rw [htk]
            have e9 := hT.append (.str (told257 r) tv9 .nil)
            rw [List.append_nil] at e9
            rw [outB, if_neg (by rw [h2]; decide)]
            exact e9
        · k_steps
          unfold Hold
          (rename Fr _ _ _ _ => F15)
          (rename News _ _ _ _ => N13)
          (rename KtsTurn _ _ _ => T15)
          have hTt := hT.off N13 (.tail _ (.tail _ (.head _))) rfl (fun p hp => .tail _ (.tail _ (.tail _ hp)))
          have N14 := News_sub ((t9, listOf tv.toArray tn) :: (I, oI) :: (x7, listOf tx.toArray 0) :: ts) N13 (by walk_at "my.in")
          clear N13
          refine append_K F15 N14 (.head (List.forall_mem_cons.mpr ⟨Ne.symm off'.2.1, List.forall_mem_cons.mpr ⟨hx7, hTt⟩⟩)) (fun h16 F16 N16 => ?_) (by rw [sizeLine_eq, List.size_toArray]; omega)
          clear F15 N14
          k_steps
          unfold Hold
          refine ⟨_, _, _, T15, F16, N16, fun sl' F17 N17 => ?_⟩
          clear F16 N16
          k_steps
          unfold Hold
          (rename News _ _ _ _ => N18)
          (rename Fr _ _ _ _ => F18)
          obtain ⟨t7, e7⟩ := nmV N18
          subst e7
          refine rng_end (tv ++ [.str (Str.ofString "reply") t7], tn + 1, ts, sl') F18 N18 (.tail _ (.tail _ (.head _))) (fun p hp => ?_) (fun p hp => ?_) (fun _ h => nomatch h) (by walk_at "my.same") ?_
          · revert hp; revert p; rw [List.push_toArray]; walk_at "my.in"
          · exact off_set off p hp
          · show Tld _ _ ((tx229 j).map outA ++ ((tx257 j).map outB).take (i + 1))
            rw [htk]
            have e9 : ∀ q9, Tld (tv ++ [.str (Str.ofString "reply") q9]) ts (((tx229 j).map outA ++ ((tx257 j).map outB).take i) ++ [.str (Str.ofString "reply")]) := fun q9 => by
              have := hT.append (.str (Str.ofString "reply") q9 .nil)
              rw [List.append_nil] at this
              exact this
            rw [outB, if_pos h0]
            exact e9 _
      · clear F11 N12 hT2 hl7
        rintro ⟨tv, tn, ts, sl⟩ u h9 tk9 hT F9 N9
        dsimp only at hT F9 N9
        have hT2 : Tld tv ts ((tx229 j).map outA ++ (tx257 j).map outB) := by
          have e : ((tx257 j).map outB).take tx.toArray.size = (tx257 j).map outB := by rw [List.size_toArray, hl4]; rfl
          rw [← e]; exact hT
        clear hT
        rw [refused_fin ⟨j, hj⟩] at hT2
        have N10 := News_sub ((t9, listOf tv.toArray tn) :: (Lf, { oF with slots := sl }) :: ts) N9 (by walk_at "my.in")
        clear N9
        (try dsimp only)
        k_steps
        unfold Hold
        (rename Fr _ _ _ _ => F11)
        (rename News _ _ _ _ => N11)
        have hcl := (Clean.of (show cleanB (Str.ofString "7\" " ++ ch j) = true from refused_clean ⟨j, hj⟩))
        refine eq_same_dat N11 (.tail _ (.tail _ (.head _))) rfl rfl (tld_dat hT2 fun p hp => .tail _ (.tail _ (.tail _ (.tail _ hp)))) (.head _) rfl rfl (.cons (.str _ _) (.cons (.tuple (vs := [.str (Str.ofString "") _, .int 7 _]) (.tail _ (.head _)) (.cons (.str _ _) (.cons (.int _ _) .nil))) (.cons (.str _ _) (.cons (.str _ _) (.cons (.str _ _) (.cons (.str _ _) (.cons (.str _ _) (.cons (.str _ _) (.cons (.str _ _) (.cons (.str _ _) (.cons (.str _ _) .nil))))))))))) ?_ ?_ ?_
        · exact refused_ok ⟨j, hj⟩
        · show un + 3 + 64 < cLine
          omega
        k_steps
        (rename Fr _ _ _ _ => F12)
        (rename News _ _ _ _ => N12)
        walk_at "my.end"
        exact hret' _ _ L' _ ts sl F12 (News_sub _ N12 (by walk_at "my.in"))
end Rfd
theorem c_refused {w : World} {base : Heap} (WB : Wd w base) (j : Nat) (tj : Tok) (hj : j < 23) :
   ∀ (dp un : Nat) (gd : Option (List Code)) (ev : Env) (Lf : Addr) (oF : Obj) (s : Shared) (Q E : Value → Shared → Prop), Below ⟨none, dp, some [ev], gd, un⟩ base [ev] s.heap → ev.frame = some Lf → s.heap.get? Lf = some oF → (∃ es n, oF.data = .dict es n) → dp + 5 < recursionLimit → un + 8 * 10 < cLine →
   (∀ h' tk', (∀ b o, s.heap.get? b = some o → b ≠ Lf → h'.get? b = some o) → (∃ sl', h'.get? Lf = some { oF with slots := sl' }) → Q (.bool true) { s with heap := h', toks := tk' }) →
   wpAny (model PySem.Challenge.rw_wo0076_01.row.prog w) ⟨none, dp, some [ev], gd, un⟩ (call (.ref 337) [.str (ch j) tj] []) Q E s := by
  intro dp9 un9 gd9 ev9 Lf9 oF9 s9 Q9 E9 K hev hG hdct hdp hun hret
  exact Rfd.all w base j tj dp9 un9 gd9 ev9 Lf9 oF9 s9 Q9 E9 Rfd.walk WB hj K hev hG hdct hdp hun hret
end

end Mine
-- W1
example : True := by
  w_top off
  exact trivial
namespace Mine
example (P : Params) : hd.heap_1 P = hd.heap_1 P ∧ PySem.Challenge.rw_wo0076_01 = PySem.Challenge.rw_wo0076_01 := by
  k_fill
  exact ⟨rfl, rfl⟩



noncomputable def HasIs (a b : Str) (z : Bool) : Prop := (!(Builtin.Str.occurrences a b 0 a.length 1).isEmpty) = z
noncomputable def Ok257 (r : Str) : Prop := r.length ≤ 100 ∧ Txt.slice r none (some 3) = Str.ofString "257"
theorem c_has {w : World} {h : Heap} (W : Wd w h) (a : Str) (ta : Tok) (b : Str) (tb : Tok) (z : Bool) (hz : HasIs a b z) : MCall w 117 [.str a ta, .str b tb] [] 1 h [] (fun v h' => v = .bool z) := by
  unfold HasIs at hz
  subst hz
  exact c_contains W a ta b tb
theorem c_p257 {w : World} {h : Heap} (W : Wd w h) (r : Str) (tr : Tok) (hr : Ok257 r) : MCall w 89 [.str r tr] [] 1 h [] (fun v h' => IsS (told257 r) v) := c_parse257 W r tr hr.1 hr.2
/-- the first i of 0, 1, 2 .. that are neither a nor b -/
noncomputable def free2 (a b : Int) : Nat → List Int
  | 0 => []
  | i + 1 => free2 a b i ++ (if (i : Int) ≠ a ∧ (i : Int) ≠ b then [(i : Int)] else [])
theorem free_mex : ∀ i : Fin 15, (free2 (wn i.val) (wn ((i.val + 1) / 2)) 3).head? = some (wn (i.val + 1)) := by decide +kernel
theorem free_head {i : Nat} {ys : List Value} (hi : i < 15) (h : IntsAre ys (free2 (wn i) (wn ((i + 1) / 2)) 3)) : ∃ t r, ys = .int (wn (i + 1)) t :: r := by
  have e := free_mex ⟨i, hi⟩
  dsimp only at e
  generalize free2 (wn i) (wn ((i + 1) / 2)) 3 = l at h e
  cases h with
  | nil => cases e
  | cons n t r => simp at e; subst e; exact ⟨t, _, rfl⟩
theorem mul_dq : ∀ k : Fin 16, Txt.mul (Str.ofString "\"") (k.val : Int) = dq k.val := by decide +kernel
theorem mem3 {α : Type} {a b c d : α} {l : List α} : d ∈ a :: b :: c :: d :: l := .tail _ (.tail _ (.tail _ (.head _)))
theorem mem4 {α : Type} {a b c d e : α} {l : List α} : e ∈ a :: b :: c :: d :: e :: l := .tail _ mem3
theorem mem5 {α : Type} {a b c d e f : α} {l : List α} : f ∈ a :: b :: c :: d :: e :: f :: l := .tail _ mem4
theorem mem6 {α : Type} {a b c d e f g : α} {l : List α} : g ∈ a :: b :: c :: d :: e :: f :: g :: l := .tail _ mem5
theorem getD_wn {n k : Nat} (h : k < n) : ((List.range n).map wn).getD k 0 = wn k := by simp [List.getD, h]
section

theorem fdh (i : Nat) : Int.fdiv (1 + (i : Int)) 2 = (((i + 1) / 2 : Nat) : Int) := by rw [Int.fdiv_eq_ediv_of_nonneg _ (by decide)]; omega
theorem fmh (i : Nat) : Int.fmod (1 + (i : Int)) 2 = (((i + 1) % 2 : Nat) : Int) := by rw [Int.fmod_eq_emod_of_nonneg _ (by decide)]; omega
theorem rdA {i n m : Nat} {k : Int} (hn1 : 9 ≤ n) (hn2 : n ≤ 16) (hi2 : i < n - 1) (hk : k = 1 + (i : Int)) (hm : m = n) :
    i + 1 < n ∧ i < 15 ∧ k < (m : Int) ∧ (i + 1) / 2 < n ∧ 0 ≤ k ∧ 0 ≤ k - 1 ∧ k.toNat = i + 1 ∧ (k - 1).toNat = i ∧ k = ((i + 1 : Nat) : Int) ∧ k ≤ 15 ∧ 1 ≤ k := by
  have h1 : i + 1 < n := Nat.add_lt_of_lt_sub hi2
  have h2 : i < 15 := by omega
  subst hm hk
  exact ⟨h1, h2, by omega, by omega, by omega, by omega, by omega, by omega, by omega, by omega, by omega⟩
theorem rdB {i n m : Nat} {f : Int} (hn : (i + 1) / 2 < n) (hi : i < 15) (hm : m = n) (hf : f = (((i + 1) / 2 : Nat) : Int)) : 0 ≤ f ∧ f ≤ 7 ∧ f < (m : Int) ∧ f.toNat = (i + 1) / 2 ∧ (i + 1) / 2 ≤ 7 := by
  have h3 : (i + 1) / 2 ≤ 7 := by omega
  subst hf hm
  exact ⟨Int.natCast_nonneg _, by omega, Int.ofNat_lt.mpr hn, Int.toNat_natCast _, h3⟩
theorem rdC {i : Nat} {f : Int} (hf : f = (((i + 1) % 2 : Nat) : Int)) : (f ≠ 0 → (i + 1) % 2 = 1 ∧ f = 1) ∧ (f = 0 → (i + 1) % 2 = 0) := by
  subst hf
  exact ⟨fun h => by omega, fun h => by omega⟩
theorem lt3 {i : Nat} (h : i < 3) : i = 0 ∨ i = 1 ∨ i = 2 := by omega
namespace Rds
example : True := by
  k_with_none
  (k_with "my.enter" => ((case k1 => first | exact List.forall_mem_nil _ | assumption); (case k6 => k_is); (case k7 => k_is); (case k8 => omega); (case k9 => first | exact BindsTo.of_eq rfl | exact binds_K (by k_in) rfl (by k_is) rfl rfl rfl); (case kB => exact locs rfl); (case c5 => decide); (case c2 => exact rfl); (case c3 => exact rfl); (case c4 => exact rfl)))
  (k_with "my.enterC" => ((case k1 => first | exact List.forall_mem_nil _ | assumption); (case k6 => k_is); (case k7 => k_is); (case k8 => omega); (case k9 => first | exact BindsTo.of_eq rfl | exact binds_K (by k_in) rfl (by k_is) rfl rfl rfl); (case kB => exact rfl); (case kD => decide +kernel); (case c2 => exact rfl); (case c3 => exact rfl); (case c4 => exact rfl)))
  (k_with "my.room" => first | omega | ((simp only [depth_under_make, depth_under_kw, depth_in1, depth_deeper, depth_caller]); omega))
  (k_with "my.units" => first | omega | ((simp only [units_in1, units_deeper, Around.mark_units, units_caller]); omega))
  (k_with "my.wd" => exact Wd.keeps (by assumption) (Fr.keep (by k_asm)))
  (k_with "call builtin:list.append" => (k_here; k_dflt (refine' append_K (by k_asm) (by k_asm) (by k_upd) ?_ (by (simp only [List.size_toArray, Array.size_push, List.length_append, List.length_cons, List.length_nil, sizeLine_eq]; omega)); k_whole); intro h' F' N'; (try simp only [List.push_toArray] at N'); (try k_sweep)))
  (k_with "my.end" => ((try dsimp only); (try k_unfold); (try dsimp only [retOf])))
  (k_with "my.keep" => exact (fun b o e hb => Fr.keep (by assumption) b o (hideAll_get _ e hb)))
  (k_with "my.cend" => (unfold Hold; refine LCg.CompEnd.intro (by k_asm) (by assumption) _ (fun p hp => hp) (by assumption) (by first | trivial | exact .inr ⟨_, by k_memK, rfl, _, rfl⟩ | exact .inl (by assumption)) ⟨rfl, ?_⟩))
  (k_with "my.m" => with_reducible ((repeat (first | exact List.Mem.head _ | refine List.Mem.tail _ ?_ | assumption | (refine List.mem_append_left _ ?_; walk_at "my.m") | (refine List.mem_append_right _ ?_; walk_at "my.m"))); done))
  (k_with "my.mg" => first | walk_at "my.m" | ((try dsimp only [hdO, PyProof.Rows.LCg.lst, PySem.W.listOf, PySem.W.instObj, PySem.W.dictOf, List.cons_append, List.nil_append]); walk_at "my.m") | ((simp only [List.mem_cons, List.mem_append]); grind))
  (k_with "my.inc" => with_reducible ((repeat' (first | exact inc_refl | exact inc_nil | refine inc_same ?_ | refine inc_app ?_ ?_ | refine inc_one (by walk_at "my.m") ?_ | assumption | refine inc_skip ?_ | (refine inc_left ?_; walk_at "my.inc") | (refine inc_right ?_; walk_at "my.inc"))); done))
  (k_with "my.ne" => with_reducible first | assumption | exact neS1 | exact neS1.symm | exact neS2 | exact neS2.symm | (refine Ne.symm ?_; assumption) | (refine Nat.ne_of_lt ?_; assumption) | (refine Nat.ne_of_gt ?_; assumption))
  (k_with "my.pin" => first | ((try dsimp only [hdO, List.cons_append, List.nil_append] at hp ⊢); exact (show ∀ p ∈ _, p ∈ _ from by walk_at "my.inc") _ hp) | ((try dsimp only [hdO, PyProof.Rows.LCg.lst, PySem.W.listOf, PySem.W.instObj, PySem.W.dictOf, List.cons_append, List.nil_append] at hp ⊢); exact (show ∀ p ∈ _, p ∈ _ from by walk_at "my.inc") _ hp) | ((simp only [hdO, List.cons_append, List.nil_append, List.mem_append, List.mem_cons, List.not_mem_nil, or_false] at hp ⊢); grind))
  (k_with "my.mY" => ((repeat (first | exact List.Mem.head _ | refine List.Mem.tail _ ?_ | refine List.mem_append_right _ ?_)); done))
  (k_with "my.pinS" => ((try dsimp only [hdO, List.cons_append, List.nil_append] at hp ⊢); revert hp; revert p; (repeat (first | exact inc_snoc2 | exact inc_snoc1 | refine inc_under ?_ | refine inc_over ?_)); done))
  (k_with "my.pinY" => ((try dsimp only [hdO, List.cons_append, List.nil_append] at hp ⊢); revert hp; revert p; (repeat (refine inc_one (by walk_at "my.mY") ?_)); (with_reducible (repeat (first | exact inc_refl | exact inc_nil | refine inc_skip ?_ | refine inc_left ?_))); done))
  (k_with "my.in" => first | ((try dsimp only [hdO, List.cons_append, List.nil_append]); walk_at "my.inc") | ((try dsimp only [hdO, PyProof.Rows.LCg.lst, PySem.W.listOf, PySem.W.instObj, PySem.W.dictOf, List.cons_append, List.nil_append]); walk_at "my.inc") | (intro p hp; (try simp only [hdO, List.cons_append, List.nil_append, List.mem_cons, List.mem_append, List.not_mem_nil, or_false, false_or] at hp ⊢); first | exact hp | grind))
  (k_with "my.same" => (intro z h1 h2 h3; first
  | rfl
  | (simp only [List.forall_mem_cons, List.forall_mem_nil, List.not_mem_nil, false_implies, implies_true, and_true, ne_eq] at h2; simp only [List.contains_cons, List.contains_nil, Bool.or_false, Bool.or_eq_false_iff, beq_eq_false_iff_ne, ne_eq] at h3; simp [h1, h2, h3, kstB]; done)
  | (simp [h1, kstB]; done)
  | (simp_all [kstB]; done)))
  (k_with "my.csame" => (intro z h2 h3; first
  | rfl
  | exact kstB_stay z h2 h3
  | (simp only [List.forall_mem_cons, List.forall_mem_nil, List.not_mem_nil, false_implies, implies_true, and_true, ne_eq] at h2; (try simp only [List.contains_cons, List.contains_nil, Bool.or_false, Bool.or_eq_false_iff, beq_eq_false_iff_ne, ne_eq] at h3); simp [h2, h3, kstB]; done)
  | (simp_all [kstB]; done)))
  (k_with "my.all" => (repeat' (first | exact List.forall_mem_nil _ | (refine List.forall_mem_cons.mpr ⟨rfl, ?_⟩))))
  (k_with "execs cons" => first | (k_here; k_gentoks) | (k_here; k_made; walk_at "execs cons") | ((with_reducible refine wpAny_execs_cons ?_); (try dsimp only); k_fold))
  (k_with "my.sub" => (repeat' (first | exact List.forall_mem_nil _ | (refine List.forall_mem_cons.mpr ⟨?_, ?_⟩) | k_mem)))
  (k_with "eval ListComp" => (k_here; first
  | (lcp_look; k_dflt (refine LCp.ListComp_P (F₀ := by k_asm) (by with_unfolding_all rfl) (by decide) (by rfl) (by decide) (by rfl) (by rfl) (by decide) ?_); k_dflt lcp_toSrc)
  | (lct_look; k_dflt (refine LCt.ListComp_T (F₀ := by k_asm) (by with_unfolding_all rfl) (by decide) (by rfl) (by decide) (by rfl) ?_); k_dflt lct_toSrc)
  | (k_dflt (refine LCg.ListComp_U (F₀ := by k_asm) (by with_unfolding_all rfl) (by decide) (by rfl) (by decide) (by rfl) ?_); k_dflt lcg_toSrc)))
  (k_with "exec Assign cons ListComp" => (k_here; first
  | (lcp_look; k_dflt (refine LCp.Assign_ListComp_P (F₀ := by k_asm) (by rfl) (by with_unfolding_all rfl) (by with_unfolding_all rfl) (by decide) (by rfl) (by decide) (by rfl) (by rfl) (by decide) (by rfl) (by rfl) ?_); k_dflt lcp_toSrc)
  | (lct_look; k_dflt (refine LCt.Assign_ListComp_T (F₀ := by k_asm) (by rfl) (by with_unfolding_all rfl) (by with_unfolding_all rfl) (by decide) (by rfl) (by decide) (by rfl) (by rfl) (by rfl) ?_); k_dflt lct_toSrc)
  | (k_dflt (refine LCg.Assign_ListComp_U (F₀ := by k_asm) (by rfl) (by with_unfolding_all rfl) (by with_unfolding_all rfl) (by decide) (by rfl) (by decide) (by rfl) (by rfl) (by rfl) ?_); k_dflt lcg_toSrc)))
  (k_with "CompSrc" => (refine Hold.out ?_))
  (k_with "CompSrcT" => (refine Hold.out ?_))
  (k_with "SrcLP" => (refine Hold.out ?_))
  (k_with "CompEnd" => (refine Hold.out ?_))
  (k_with "call ref" => (k_here; (with_reducible show wpAny _ _ (call (Value.ref 117) _ _) _ _ _); k_dflt (refine' MCall.pure (c_has (by walk_at "my.wd") _ _ _ _ _ (by with_reducible assumption)) (by walk_at "my.room") (by walk_at "my.units") (by k_asm) (by k_asm) ?_); intro v9 h9 tk9 hR9 hk9 F9 N9; (try k_sweep); subst hR9; (try dsimp only)))
  (k_with "call ref" => (k_here; (with_reducible show wpAny _ _ (call (Value.ref 89) _ _) _ _ _); k_dflt (refine' MCall.pure (c_p257 (by walk_at "my.wd") _ _ (by with_reducible assumption)) (by walk_at "my.room") (by walk_at "my.units") (by k_asm) (by k_asm) ?_); intro v9 h9 tk9 hR9 hk9 F9 N9; (try k_sweep); (obtain ⟨t9, e9⟩ := hR9); subst e9; (try dsimp only)))
  (k_with "call ref" => (k_here; (with_reducible show wpAny _ _ (call (Value.ref 124) _ _) _ _ _); (refine Hold.out ?_)))
  (k_with "exec For Name Call cons nil" => (k_here; (rename Fr _ _ _ _ => lF'); (with_unfolding_all refine' For_turns lF' ?_); k_whole))
  (k_with "pyIter ref" => (refine Hold.out ?_))
  (k_with "RngPost" => (dsimp only [RngPost]))
  (k_with "RngEnd" => (refine Hold.out ?_))
  (k_with "execs cons" => (refine wpAny_execs_cons ?_))
  (k_with "exec Assign cons ListComp" => (k_here; k_dflt (refine AssignLC_tup (F₀ := by k_asm) (by rfl) (by with_unfolding_all rfl) (by with_unfolding_all rfl) (by decide) (by rfl) (by decide) (by rfl) (by rfl) (by rfl) ?_)))
  (k_with "SrcTT" => (refine Hold.out ?_))
  (k_with "exec If" => ((with_reducible rename Gd 4 => g9); (refine Hold.out ?_)))
  (k_with "compareOp Eq int int" => (k_here; (refine eq_bools (by with_reducible assumption) ?_); dsimp only))
  (k_with "compareOp IsNot bool bool" => (k_here; first | refine isNot_bools (z := false) (by rfl) ?_ | refine isNot_bools (z := true) (by rfl) ?_))
  (k_with "call ref" => ((with_reducible rename Gd 6 => g9); (refine Hold.out ?_)))
  (k_with "ite" => ((with_reducible rename Gd 7 => g9); (refine Hold.out ?_)))
  (k_with "subscriptTail Name BinOp ref int" => (k_here; k_dflt (refine' item_said (by is_list) (by l_ints) (by omega) (by omega) (by omega) (by with_reducible assumption) ?_ ); intro t9))
  (k_with "subscriptTail Name Name ref int" => (k_here; k_dflt (refine' item_said (by is_list) (by l_ints) (by omega) (by omega) (by omega) (by with_reducible assumption) ?_ ); intro t9))
  (k_with "subscriptTail Name Constant ref int" => (k_here; k_dflt (refine' item_first (by exact News.isList (by k_asm) (by k_mem)) ?_)))
  (k_with "compareOp NotEq int int" => (k_here; refine ne_same ?_))
  (k_with "compareOp NotIn int ref" => (k_here; k_dflt (refine' notin_two (by exact News.isTup (by k_asm) (by k_mem)) ?_ ?_) <;> intro hz9))
  exact trivial
noncomputable def Body (w : World) (l : Addr) (vs : List Value) (ns : List Int) (n : Nat) (j : Nat) (tj : Tok) (dp : Nat) (un : Nat) (fr : Option (List Env)) (gd : Option (List Code)) (s : Shared) (Q : Value → Shared → Prop) (E : Value → Shared → Prop) : Prop :=
    Wd w s.heap → s.heap.IsList l vs.toArray → IntsAre vs ns → ns = (List.range n).map wn → 9 ≤ n → n ≤ 16 → j < 23 →
    MB w 327 [.ref l, .str (ch j) tj] [] 3 [] (fun v h' => ∃ own', (fun v own' => ∃ (r : Addr) (us : List Value) (m : Nat), v = .ref r ∧ own' = [(r, listOf us.toArray m)] ∧ StrsAre us ((List.range n).map fun k => dq (k / 2))) v own' ∧ Held s.heap [] h' own') dp un fr gd s Q E
noncomputable def Ok (v : World × Addr × (List Value) × (List Int) × Nat × Nat × Tok × Nat × Nat × (Option (List Env)) × (Option (List Code)) × Shared × (Value → Shared → Prop) × (Value → Shared → Prop)) : Prop := Body v.1 v.2.1 v.2.2.1 v.2.2.2.1 v.2.2.2.2.1 v.2.2.2.2.2.1 v.2.2.2.2.2.2.1 v.2.2.2.2.2.2.2.1 v.2.2.2.2.2.2.2.2.1 v.2.2.2.2.2.2.2.2.2.1 v.2.2.2.2.2.2.2.2.2.2.1 v.2.2.2.2.2.2.2.2.2.2.2.1 v.2.2.2.2.2.2.2.2.2.2.2.2.1 v.2.2.2.2.2.2.2.2.2.2.2.2.2
theorem ne : Nonempty (World × Addr × (List Value) × (List Int) × Nat × Nat × Tok × Nat × Nat × (Option (List Env)) × (Option (List Code)) × Shared × (Value → Shared → Prop) × (Value → Shared → Prop)) := ⟨(aWorld 1, (0 : Nat), [], [], 0, 0, 0, 0, 0, none, none, {}, fun _ _ => True, fun _ _ => True)⟩
noncomputable def v0 : World × Addr × (List Value) × (List Int) × Nat × Nat × Tok × Nat × Nat × (Option (List Env)) × (Option (List Code)) × Shared × (Value → Shared → Prop) × (Value → Shared → Prop) := Classical.choose (one_for_all ne Ok)
@[irreducible] noncomputable def w : World := v0.1
@[irreducible] noncomputable def l : Addr := v0.2.1
@[irreducible] noncomputable def vs : List Value := v0.2.2.1
@[irreducible] noncomputable def ns : List Int := v0.2.2.2.1
@[irreducible] noncomputable def n : Nat := v0.2.2.2.2.1
@[irreducible] noncomputable def j : Nat := v0.2.2.2.2.2.1
@[irreducible] noncomputable def tj : Tok := v0.2.2.2.2.2.2.1
@[irreducible] noncomputable def dp : Nat := v0.2.2.2.2.2.2.2.1
@[irreducible] noncomputable def un : Nat := v0.2.2.2.2.2.2.2.2.1
@[irreducible] noncomputable def fr : Option (List Env) := v0.2.2.2.2.2.2.2.2.2.1
@[irreducible] noncomputable def gd : Option (List Code) := v0.2.2.2.2.2.2.2.2.2.2.1
@[irreducible] noncomputable def s : Shared := v0.2.2.2.2.2.2.2.2.2.2.2.1
@[irreducible] noncomputable def Q : Value → Shared → Prop := v0.2.2.2.2.2.2.2.2.2.2.2.2.1
@[irreducible] noncomputable def E : Value → Shared → Prop := v0.2.2.2.2.2.2.2.2.2.2.2.2.2
theorem all (w : World) (l : Addr) (vs : List Value) (ns : List Int) (n : Nat) (j : Nat) (tj : Tok) (dp : Nat) (un : Nat) (fr : Option (List Env)) (gd : Option (List Code)) (s : Shared) (Q : Value → Shared → Prop) (E : Value → Shared → Prop) (h : Body Rds.w Rds.l Rds.vs Rds.ns Rds.n Rds.j Rds.tj Rds.dp Rds.un Rds.fr Rds.gd Rds.s Rds.Q Rds.E) : Body w l vs ns n j tj dp un fr gd s Q E := by
  delta Rds.w Rds.l Rds.vs Rds.ns Rds.n Rds.j Rds.tj Rds.dp Rds.un Rds.fr Rds.gd Rds.s Rds.Q Rds.E at h
  exact Classical.choose_spec (one_for_all ne Ok) h (w, l, vs, ns, n, j, tj, dp, un, fr, gd, s, Q, E)
noncomputable def L' : Addr := s.heap.objs.size
set_option maxRecDepth 100000 in
set_option maxHeartbeats 2000000 in
theorem walk : Body w l vs ns n j tj dp un fr gd s Q E := by
  (k_with "execs cons" => first | (k_here; k_made; walk_at "execs cons") | ((with_reducible refine wpAny_execs_cons ?_); (try dsimp only)))
  intro W hl hi hns hn1 hn2 hj hdp hun hret
  obtain ⟨X, loose, mean, mg, mb, T⟩ := id W
  k_dflt (refine' enterCV (L' := L') [(Str.ofString "worths", .ref l), (Str.ofString "letter", .str (ch j) tj)] [] ?k1 W ?k6 ?k7 ?k8 ?k9 ?kB ?kD ?_ rfl ?c2 ?c3 ?c4; walk_at "my.enterC")
  intro h₁ tkE cells F N Y hLow
  k_cells Y
  (try dsimp only [hdO, List.cons_append, List.nil_append] at *)
  (try simp only [List.cons_append, List.nil_append] at N)
  (try k_lt hLow)
  (try dsimp only [addrs, List.map, hideAll] at F N)
  have hlen : ns.length = n := by rw [hns]; simp
  have hlen2 : ns.length ≤ 16 := by omega
  have hlen3 : vs.length = n := by rw [hi.length, hlen]
  k_steps
  unfold Hold
  (rename News _ _ _ _ => N8)
  (rename Fr _ _ _ _ => F8)
  obtain ⟨r9, oH, oN, oW, e9, e10, e11, e12⟩ := nmo3 N8
  subst e9 e10 e11 e12
  have dW9 : oW.data = Data.cell (some (.ref l)) := by assumption
  k_dflt (refine rngT (σ := List Value × Nat × Obj × Obj) (n := n - 1) (fun c => [(r9, listOf c.1.toArray c.2.1), (L' + 1 + 1 + 1, c.2.2.1), (L' + 1 + 1, c.2.2.2), (L' + 1, oW)]) (fun _ => []) [Str.ofString "told", Str.ofString "due", Str.ofString "free"] (fun i c => StrsAre c.1 ((List.range (i + 1)).map fun k => dq (k / 2)) ∧ (∃ v, c.2.2.1.data = Data.cell v) ∧ ∃ v, c.2.2.2.data = Data.cell v) ([_], 0, oH, oN) (by rfl) (by assumption) (by exact small_one (by omega) (by omega) (by omega) (by omega)) (by rw [rangeSize_nat]; omega) F8 N8 (fun _ h => nomatch h) ⟨.cons _ _ .nil, ⟨_, by assumption⟩, ⟨_, by assumption⟩⟩ ?_ ?_)
  · rintro ⟨us, m, oH1, oN1⟩ i k t u h2 tk2 I oI hk hi2 off ⟨hu, ⟨vH, hvH⟩, vN, hvN⟩ F2 N2
    dsimp only at F2 N2 off hu hvH hvN
    simp only [LCg.Off1, and_true] at off
    obtain ⟨hi1n, hi15, hkn, hkn2, hk0, hk01, qkt, qkt1, qki, hk2, hk1⟩ := rdA hn1 hn2 hi2 hk hlen
    have hin : i < n := Nat.lt_of_succ_lt hi1n
    have hkn1 : k - 1 < (ns.length : Int) := Int.lt_trans (Int.sub_lt_self k (by decide)) hkn
    have qkd : k.fdiv 2 = (((i + 1) / 2 : Nat) : Int) := by rw [hk]; exact fdh i
    obtain ⟨hf0, hf1, hf2, qft, hf7⟩ := rdB hkn2 hi15 hlen qkd
    obtain ⟨pm1, pm0⟩ := rdC (show k.fmod 2 = (((i + 1) % 2 : Nat) : Int) by rw [hk]; exact fmh i)
    have hkd : Hid (k.fdiv 2 = (((i + 1) / 2 : Nat) : Int)) := ⟨qkd⟩
    have hft : Hid ((k.fdiv 2).toNat = (i + 1) / 2) := ⟨qft⟩
    have hkt : Hid (k.toNat = i + 1) := ⟨qkt⟩
    have hkt1 : Hid ((k - 1).toNat = i) := ⟨qkt1⟩
    have hki : Hid (k = ((i + 1 : Nat) : Int)) := ⟨qki⟩
    have hpm1 : Hid (k.fmod 2 ≠ 0 → (i + 1) % 2 = 1 ∧ k.fmod 2 = 1) := ⟨pm1⟩
    have hpm0 : Hid (k.fmod 2 = 0 → (i + 1) % 2 = 0) := ⟨pm0⟩
    have hi16 : i + 1 < 16 := Nat.succ_lt_succ hi15
    clear hk qkt qkt1 qki qkd qft pm1 pm0
    obtain ⟨of1, of2, of3, of4⟩ := id off
    have hul : us.length ≤ 15 := by rw [hu.length, List.length_map, List.length_range]; exact hi15
    have hcl : (ch j).length = 1 := rfl
    have hcl2 : (Txt.mul (ch j) 2).length = 2 := rfl
    have hcl3 : (Str.ofString "257 \"").length = 5 := rfl
    have hcl4 : (Str.ofString "\" ").length = 2 := rfl
    have hrd : Ok257 (Str.ofString "257 \"" ++ Txt.mul (Str.ofString "\"") k ++ Txt.mul (ch j) 2 ++ Str.ofString "\" " ++ ch j) := by
      have := rd_all ⟨i + 1, hi16⟩ ⟨j, hj⟩
      rw [hki.out]
      exact this
    have hT : told257 (Str.ofString "257 \"" ++ Txt.mul (Str.ofString "\"") k ++ Txt.mul (ch j) 2 ++ Str.ofString "\" " ++ ch j) = td (i + 1) j := by
      have := td_all ⟨i, hi15⟩ ⟨j, hj⟩
      rw [hki.out]
      exact this
    k_steps
    unfold Hold
    (rename Fr _ _ _ _ => F9)
    (rename News _ _ _ _ => N9)
    rw [hT] at F9 ⊢
    generalize hTd : td (i + 1) j = T at F9 ⊢
    (repeat (rename ((0 : Int) ≤ _ → _) => q9; clear q9))
    (repeat (rename (_ < (0 : Int) → _) => q9; clear q9))
    (repeat (rename (Str.length _ + _ ≤ _ ∧ _ ≤ _) => q9; clear q9))
    clear hcl3 hcl4
    have hTl : T.length ≤ 9 := by rw [← hTd]; exact td_len _ _ (Nat.le_of_lt_succ hi16)
    have hTa : T.cps.all (· < 128) = true := by rw [← hTd]; exact td_asc ⟨i + 1, hi16⟩ ⟨j, hj⟩
    k_dflt (refine (c_countOf (W.keeps F9.keep) T _ 34 _ (by omega) hTa) _ _ _ _ _ _ _ rfl ?d ?u ?t1 ?t2 ?_)
    case d => walk_at "my.room"
    case u => walk_at "my.units"
    case t1 => exact Nat.succ_pos _
    case t2 => exact Nat.lt_succ_self _
    intro v9 h10 tk10 hk10 hR9
    obtain ⟨t10, rfl⟩ := hR9
    have F10 := F9.keeps hk10
    have N10 := N9.keeps hk10
    clear hk10 F9 N9
    have hcn : cntL 34 T.cps.toList = k.fdiv 2 := by
      have := td_cnt ⟨i + 1, hi16⟩ ⟨j, hj⟩
      rw [← hTd, this, hkd.out]
    rw [hcn]
    clear hcn
    have hhas := td_has ⟨i + 1, hi16⟩ ⟨j, hj⟩
    have hdue0 := td_due0 ⟨i + 1, hi16⟩ ⟨j, hj⟩
    have hdue1 := td_due1 ⟨i + 1, hi16⟩ ⟨j, hj⟩
    dsimp only at hhas hdue0 hdue1
    rw [hTd] at hhas hdue0 hdue1
    rw [← hkd.out] at hdue0 hdue1
    obtain ⟨wa, hA⟩ : ∃ a, wn i = a := ⟨_, rfl⟩
    obtain ⟨wb, hB⟩ : ∃ b, wn ((i + 1) / 2) = b := ⟨_, rfl⟩
    obtain ⟨wc, hC⟩ : ∃ b, wn (i + 1) = b := ⟨_, rfl⟩
    have hA9 : ns.getD (k - 1).toNat 0 = wa := by rw [hns, ← hA, hkt1.out]; exact getD_wn hin
    have hB9 : ns.getD (k.fdiv 2).toNat 0 = wb := by rw [hns, ← hB, hft.out]; exact getD_wn hkn2
    have hC9 : ns.getD k.toNat 0 = wc := by rw [hns, ← hC, hkt.out]; exact getD_wn hi1n
    have g3 := gdAt 3
    have g4 := gdAt 4
    have g6 := gdAt 6
    k_steps
    · have hpar : (i + 1) % 2 = 1 := (hpm1.out (by assumption)).1
      have hdue := hdue1 hpar
      rw [decide_eq_false (by rw [hpar]; decide)] at hhas
      have hhas9 : HasIs T (ch j) false := hhas
      clear hhas
      have hkm0 : (k.fmod 2 == 0) = false := by rw [(hpm1.out (by assumption)).2]; rfl
      clear hdue0 hdue1
      unfold Hold
      (rename Gd 4 => g9; clear g9)
      refine wpAny_If ?_
      k_steps
      all_goals (try (exfalso; omega))
      unfold Hold
      (rename Gd 6 => g9; clear g9)
      (rename Fr _ _ _ _ => F12)
      (rename News _ _ _ _ => N12)
      k_dflt (refine' MCall.pure (c_has (W.keeps F12.keep) _ _ _ _ _ hhas9) ?d ?u F12 N12 ?_)
      case d => walk_at "my.room"
      case u => walk_at "my.units"
      intro v9 h9 tk9 hR9 hk9 F9 N9
      subst hR9
      dsimp only
      have g7 := gdAt 7
      k_steps
      unfold Hold
      (rename Gd 7 => g9; clear g9)
      first | rw [hkm0, if_neg (by decide)] | rw [if_neg (by decide)]
      k_steps
      unfold Hold
      (rename News _ _ _ _ => N13)
      (rename Fr _ _ _ _ => F13)
      refine ⟨_, _, _, rfl, by rfl, F13, N13, ⟨_, List.mem_cons_self⟩, by exact Nat.le_of_ble_eq_true rfl, fun g => ?_⟩
      refine crt_fix (fun c ys => IntsAre ys (free2 wa wb c)) .nil ?_ ?_
      · rintro i2 ys v I2 oI2 C oC D m₂ h3 tk3 E' hi3 hS hv hCC hx F3 N3 off3 ne
        have hi4 : i2 < 3 := hi3
        obtain ⟨tv, rfl⟩ : ∃ tv, v = .int (i2 : Int) tv := by
          rcases lt3 hi4 with rfl | rfl | rfl <;> (cases hv; exact ⟨_, rfl⟩)
        k_steps
        all_goals (unfold Hold; (rename News _ _ _ _ => N4); (rename Fr _ _ _ _ => F4))
        · (rename (_ ≠ _ ∧ _ ≠ _) => hz9)
          exact LCg.CompEnd.intro F4 N4 _ (by first | exact fun p hp => hp | exact fun p hp => List.mem_cons_of_mem _ hp) off3 ⟨_, by k_memK⟩ ⟨rfl, by unfold free2; rw [if_pos hz9]; exact hS.append (.cons _ _ .nil)⟩
        · (rename (¬ (_ ≠ _ ∧ _ ≠ _)) => hz9)
          exact LCg.CompEnd.intro F4 N4 _ (by first | exact fun p hp => hp | exact fun p hp => List.mem_cons_of_mem _ hp) off3 ⟨_, by k_memK⟩ ⟨rfl, by unfold free2; rw [if_neg hz9]; simpa using hS⟩
      · intro ys hS D h4 tk4 F4 N4 off4
        (try dsimp only)
        have hS3 : IntsAre ys (free2 wa wb 3) := hS
        rw [← hA, ← hB] at hS3
        obtain ⟨tf, rf, rfl⟩ := free_head (by omega) hS3
        rw [hC] at N4
        simp only [LCg.Off1, and_true] at off4
        (have off5 := off4; obtain ⟨oa1, oa2, oa3, oa4, oa5, oa6⟩ := off5)
        clear hS hS3
        k_steps
        unfold Hold
        (rename News _ _ _ _ => N5)
        (rename Fr _ _ _ _ => F5)
        refine rng_end (_, _, _, _) F5 N5 (by k_mem) (List.forall_mem_cons.mpr ⟨mem3, List.forall_mem_cons.mpr ⟨mem4, List.forall_mem_cons.mpr ⟨mem5, List.forall_mem_singleton.mpr mem6⟩⟩⟩) (List.forall_mem_cons.mpr ⟨off.1, List.forall_mem_cons.mpr ⟨off.2.1, List.forall_mem_cons.mpr ⟨off.2.2.1, List.forall_mem_singleton.mpr off.2.2.2⟩⟩⟩) (fun _ h => nomatch h) (by walk_at "my.same") ⟨?_, ⟨_, by assumption⟩, ⟨_, by assumption⟩⟩
        rw [List.range_succ, List.map_append]
        have hdq9 : Txt.mul (Str.ofString "\"") (k.fdiv 2) = dq ((i + 1) / 2) := by rw [hkd.out]; exact mul_dq ⟨(i + 1) / 2, Nat.lt_of_le_of_lt hf7 (by decide)⟩
        show StrsAre _ (_ ++ [dq ((i + 1) / 2)])
        rw [← hdq9]
        exact kct_snoc hu
    · have hpar : (i + 1) % 2 = 0 := hpm0.out (by assumption)
      have hdue := hdue0 hpar
      rw [decide_eq_true hpar] at hhas
      have hhas9 : HasIs T (ch j) true := hhas
      clear hhas
      have hkm0 : (k.fmod 2 == 0) = true := by rw [show k.fmod 2 = 0 by assumption]; rfl
      clear hdue0 hdue1
      unfold Hold
      (rename Gd 4 => g9; clear g9)
      refine wpAny_If ?_
      k_steps
      all_goals (try (exfalso; omega))
      unfold Hold
      (rename Gd 6 => g9; clear g9)
      (rename Fr _ _ _ _ => F12)
      (rename News _ _ _ _ => N12)
      k_dflt (refine' MCall.pure (c_has (W.keeps F12.keep) _ _ _ _ _ hhas9) ?d ?u F12 N12 ?_)
      case d => walk_at "my.room"
      case u => walk_at "my.units"
      intro v9 h9 tk9 hR9 hk9 F9 N9
      subst hR9
      dsimp only
      have g7 := gdAt 7
      k_steps
      unfold Hold
      (rename Gd 7 => g9; clear g9)
      first | rw [hkm0, if_neg (by decide)] | rw [if_neg (by decide)]
      k_steps
      unfold Hold
      (rename News _ _ _ _ => N13)
      (rename Fr _ _ _ _ => F13)
      refine ⟨_, _, _, rfl, by rfl, F13, N13, ⟨_, List.mem_cons_self⟩, by exact Nat.le_of_ble_eq_true rfl, fun g => ?_⟩
      refine crt_fix (fun c ys => IntsAre ys (free2 wa wb c)) .nil ?_ ?_
      · rintro i2 ys v I2 oI2 C oC D m₂ h3 tk3 E' hi3 hS hv hCC hx F3 N3 off3 ne
        have hi4 : i2 < 3 := hi3
        obtain ⟨tv, rfl⟩ : ∃ tv, v = .int (i2 : Int) tv := by
          rcases lt3 hi4 with rfl | rfl | rfl <;> (cases hv; exact ⟨_, rfl⟩)
        k_steps
        all_goals (unfold Hold; (rename News _ _ _ _ => N4); (rename Fr _ _ _ _ => F4))
        · (rename (_ ≠ _ ∧ _ ≠ _) => hz9)
          exact LCg.CompEnd.intro F4 N4 _ (by first | exact fun p hp => hp | exact fun p hp => List.mem_cons_of_mem _ hp) off3 ⟨_, by k_memK⟩ ⟨rfl, by unfold free2; rw [if_pos hz9]; exact hS.append (.cons _ _ .nil)⟩
        · (rename (¬ (_ ≠ _ ∧ _ ≠ _)) => hz9)
          exact LCg.CompEnd.intro F4 N4 _ (by first | exact fun p hp => hp | exact fun p hp => List.mem_cons_of_mem _ hp) off3 ⟨_, by k_memK⟩ ⟨rfl, by unfold free2; rw [if_neg hz9]; simpa using hS⟩
      · intro ys hS D h4 tk4 F4 N4 off4
        (try dsimp only)
        have hS3 : IntsAre ys (free2 wa wb 3) := hS
        rw [← hA, ← hB] at hS3
        obtain ⟨tf, rf, rfl⟩ := free_head (by omega) hS3
        rw [hC] at N4
        simp only [LCg.Off1, and_true] at off4
        (have off5 := off4; obtain ⟨oa1, oa2, oa3, oa4, oa5, oa6⟩ := off5)
        clear hS hS3
        k_steps
        unfold Hold
        (rename News _ _ _ _ => N5)
        (rename Fr _ _ _ _ => F5)
        refine rng_end (_, _, _, _) F5 N5 (by k_mem) (List.forall_mem_cons.mpr ⟨mem3, List.forall_mem_cons.mpr ⟨mem4, List.forall_mem_cons.mpr ⟨mem5, List.forall_mem_singleton.mpr mem6⟩⟩⟩) (List.forall_mem_cons.mpr ⟨off.1, List.forall_mem_cons.mpr ⟨off.2.1, List.forall_mem_cons.mpr ⟨off.2.2.1, List.forall_mem_singleton.mpr off.2.2.2⟩⟩⟩) (fun _ h => nomatch h) (by walk_at "my.same") ⟨?_, ⟨_, by assumption⟩, ⟨_, by assumption⟩⟩
        rw [List.range_succ, List.map_append]
        have hdq9 : Txt.mul (Str.ofString "\"") (k.fdiv 2) = dq ((i + 1) / 2) := by rw [hkd.out]; exact mul_dq ⟨(i + 1) / 2, Nat.lt_of_le_of_lt hf7 (by decide)⟩
        show StrsAre _ (_ ++ [dq ((i + 1) / 2)])
        rw [← hdq9]
        exact kct_snoc hu
  · rintro ⟨us, m, oH1, oN1⟩ u h2 tk2 ⟨hu, ⟨vH, hvH⟩, vN, hvN⟩ F2 N2
    dsimp only at F2 N2 hu hvH hvN
    k_steps
    walk_at "my.end"
    (rename News _ _ _ _ => N9)
    rw [show n - 1 + 1 = n by omega] at hu
    exact hret _ _ _ (fun b o e _ => Fr.keep (by assumption) b o e) ⟨_, ⟨_, us, m, rfl, rfl, hu⟩, Held.of (own := []) N9 (by walk_at "my.sub")⟩
end Rds
theorem c_reads {w : World} {h : Heap} (W : Wd w h) (l : Addr) (vs : List Value) (ns : List Int) (n : Nat) (hl : h.IsList l vs.toArray) (hi : IntsAre vs ns) (hns : ns = (List.range n).map wn) (hn1 : 9 ≤ n) (hn2 : n ≤ 16) (j : Nat) (tj : Tok) (hj : j < 23) :
    MCall2 w 327 [.ref l, .str (ch j) tj] [] 3 h [] (fun v own' => ∃ (r : Addr) (us : List Value) (m : Nat), v = .ref r ∧ own' = [(r, listOf us.toArray m)] ∧ StrsAre us ((List.range n).map fun k => dq (k / 2))) := by
  intro dp9 un9 fr9 gd9 s9 Q9 E9 e9 hdp9 hun9 hret9
  subst e9
  exact Rds.all w l vs ns n j tj dp9 un9 fr9 gd9 s9 Q9 E9 Rds.walk W hl hi hns hn1 hn2 hj hdp9 hun9 hret9
end

end Mine
-- S1
example : True := by
  w_top off
  exact trivial
namespace Mine
example (P : Params) : hd.heap_1 P = hd.heap_1 P ∧ PySem.Challenge.rw_wo0076_01 = PySem.Challenge.rw_wo0076_01 := by
  k_fill
  exact ⟨rfl, rfl⟩



section

namespace Spd
example : True := by
  k_with_none
  (k_with "my.enter" => ((case k1 => first | exact List.forall_mem_nil _ | assumption); (case k6 => k_is); (case k7 => k_is); (case k8 => omega); (case k9 => first | exact BindsTo.of_eq rfl | exact binds_K (by k_in) rfl (by k_is) rfl rfl rfl); (case kB => exact locs rfl); (case c5 => decide); (case c2 => exact rfl); (case c3 => exact rfl); (case c4 => exact rfl)))
  (k_with "my.enterC" => ((case k1 => first | exact List.forall_mem_nil _ | assumption); (case k6 => k_is); (case k7 => k_is); (case k8 => omega); (case k9 => first | exact BindsTo.of_eq rfl | exact binds_K (by k_in) rfl (by k_is) rfl rfl rfl); (case kB => exact rfl); (case kD => decide +kernel); (case c2 => exact rfl); (case c3 => exact rfl); (case c4 => exact rfl)))
  (k_with "my.room" => first | omega | ((simp only [depth_under_make, depth_under_kw, depth_in1, depth_deeper, depth_caller]); omega))
  (k_with "my.units" => first | omega | ((simp only [units_in1, units_deeper, Around.mark_units, units_caller]); omega))
  (k_with "my.wd" => exact Wd.keeps (by assumption) (Fr.keep (by k_asm)))
  (k_with "call builtin:list.append" => (k_here; k_dflt (refine' append_K (by k_asm) (by k_asm) (by k_upd) ?_ (by (simp only [List.size_toArray, Array.size_push, List.length_append, List.length_cons, List.length_nil, sizeLine_eq]; omega)); k_whole); intro h' F' N'; (try simp only [List.push_toArray] at N'); (try k_sweep)))
  (k_with "my.end" => ((try dsimp only); (try k_unfold); (try dsimp only [retOf])))
  (k_with "my.keep" => exact (fun b o e hb => Fr.keep (by assumption) b o (hideAll_get _ e hb)))
  (k_with "my.cend" => (unfold Hold; refine LCg.CompEnd.intro (by k_asm) (by assumption) _ (fun p hp => hp) (by assumption) (by first | trivial | exact .inr ⟨_, by k_memK, rfl, _, rfl⟩ | exact .inl (by assumption)) ⟨rfl, ?_⟩))
  (k_with "my.m" => with_reducible ((repeat (first | exact List.Mem.head _ | refine List.Mem.tail _ ?_ | assumption | (refine List.mem_append_left _ ?_; walk_at "my.m") | (refine List.mem_append_right _ ?_; walk_at "my.m"))); done))
  (k_with "my.mg" => first | walk_at "my.m" | ((try dsimp only [hdO, PyProof.Rows.LCg.lst, PySem.W.listOf, PySem.W.instObj, PySem.W.dictOf, List.cons_append, List.nil_append]); walk_at "my.m") | ((simp only [List.mem_cons, List.mem_append]); grind))
  (k_with "my.inc" => with_reducible ((repeat' (first | exact inc_refl | exact inc_nil | refine inc_same ?_ | refine inc_app ?_ ?_ | refine inc_one (by walk_at "my.m") ?_ | assumption | refine inc_skip ?_ | (refine inc_left ?_; walk_at "my.inc") | (refine inc_right ?_; walk_at "my.inc"))); done))
  (k_with "my.ne" => with_reducible first | assumption | exact neS1 | exact neS1.symm | exact neS2 | exact neS2.symm | (refine Ne.symm ?_; assumption) | (refine Nat.ne_of_lt ?_; assumption) | (refine Nat.ne_of_gt ?_; assumption))
  (k_with "my.pin" => first | ((try dsimp only [hdO, List.cons_append, List.nil_append] at hp ⊢); exact (show ∀ p ∈ _, p ∈ _ from by walk_at "my.inc") _ hp) | ((try dsimp only [hdO, PyProof.Rows.LCg.lst, PySem.W.listOf, PySem.W.instObj, PySem.W.dictOf, List.cons_append, List.nil_append] at hp ⊢); exact (show ∀ p ∈ _, p ∈ _ from by walk_at "my.inc") _ hp) | ((simp only [hdO, List.cons_append, List.nil_append, List.mem_append, List.mem_cons, List.not_mem_nil, or_false] at hp ⊢); grind))
  (k_with "my.mY" => ((repeat (first | exact List.Mem.head _ | refine List.Mem.tail _ ?_ | refine List.mem_append_right _ ?_)); done))
  (k_with "my.pinS" => ((try dsimp only [hdO, List.cons_append, List.nil_append] at hp ⊢); revert hp; revert p; (repeat (first | exact inc_snoc2 | exact inc_snoc1 | refine inc_under ?_ | refine inc_over ?_)); done))
  (k_with "my.pinY" => ((try dsimp only [hdO, List.cons_append, List.nil_append] at hp ⊢); revert hp; revert p; (repeat (refine inc_one (by walk_at "my.mY") ?_)); (with_reducible (repeat (first | exact inc_refl | exact inc_nil | refine inc_skip ?_ | refine inc_left ?_))); done))
  (k_with "my.in" => first | ((try dsimp only [hdO, List.cons_append, List.nil_append]); walk_at "my.inc") | ((try dsimp only [hdO, PyProof.Rows.LCg.lst, PySem.W.listOf, PySem.W.instObj, PySem.W.dictOf, List.cons_append, List.nil_append]); walk_at "my.inc") | (intro p hp; (try simp only [hdO, List.cons_append, List.nil_append, List.mem_cons, List.mem_append, List.not_mem_nil, or_false, false_or] at hp ⊢); first | exact hp | grind))
  (k_with "my.same" => (intro z h1 h2 h3; first
  | rfl
  | (simp only [List.forall_mem_cons, List.forall_mem_nil, List.not_mem_nil, false_implies, implies_true, and_true, ne_eq] at h2; simp only [List.contains_cons, List.contains_nil, Bool.or_false, Bool.or_eq_false_iff, beq_eq_false_iff_ne, ne_eq] at h3; simp [h1, h2, h3, kstB]; done)
  | (simp [h1, kstB]; done)
  | (simp_all [kstB]; done)))
  (k_with "my.csame" => (intro z h2 h3; first
  | rfl
  | exact kstB_stay z h2 h3
  | (simp only [List.forall_mem_cons, List.forall_mem_nil, List.not_mem_nil, false_implies, implies_true, and_true, ne_eq] at h2; (try simp only [List.contains_cons, List.contains_nil, Bool.or_false, Bool.or_eq_false_iff, beq_eq_false_iff_ne, ne_eq] at h3); simp [h2, h3, kstB]; done)
  | (simp_all [kstB]; done)))
  (k_with "my.all" => (repeat' (first | exact List.forall_mem_nil _ | (refine List.forall_mem_cons.mpr ⟨rfl, ?_⟩))))
  (k_with "execs cons" => first | (k_here; k_gentoks) | (k_here; k_made; walk_at "execs cons") | ((with_reducible refine wpAny_execs_cons ?_); (try dsimp only); k_fold))
  (k_with "my.sub" => (repeat' (first | exact List.forall_mem_nil _ | (refine List.forall_mem_cons.mpr ⟨?_, ?_⟩) | k_mem)))
  (k_with "eval ListComp" => (k_here; first
  | (lcp_look; k_dflt (refine LCp.ListComp_P (F₀ := by k_asm) (by with_unfolding_all rfl) (by decide) (by rfl) (by decide) (by rfl) (by rfl) (by decide) ?_); k_dflt lcp_toSrc)
  | (lct_look; k_dflt (refine LCt.ListComp_T (F₀ := by k_asm) (by with_unfolding_all rfl) (by decide) (by rfl) (by decide) (by rfl) ?_); k_dflt lct_toSrc)
  | (k_dflt (refine LCg.ListComp_U (F₀ := by k_asm) (by with_unfolding_all rfl) (by decide) (by rfl) (by decide) (by rfl) ?_); k_dflt lcg_toSrc)))
  (k_with "exec Assign cons ListComp" => (k_here; first
  | (lcp_look; k_dflt (refine LCp.Assign_ListComp_P (F₀ := by k_asm) (by rfl) (by with_unfolding_all rfl) (by with_unfolding_all rfl) (by decide) (by rfl) (by decide) (by rfl) (by rfl) (by decide) (by rfl) (by rfl) ?_); k_dflt lcp_toSrc)
  | (lct_look; k_dflt (refine LCt.Assign_ListComp_T (F₀ := by k_asm) (by rfl) (by with_unfolding_all rfl) (by with_unfolding_all rfl) (by decide) (by rfl) (by decide) (by rfl) (by rfl) (by rfl) ?_); k_dflt lct_toSrc)
  | (k_dflt (refine LCg.Assign_ListComp_U (F₀ := by k_asm) (by rfl) (by with_unfolding_all rfl) (by with_unfolding_all rfl) (by decide) (by rfl) (by decide) (by rfl) (by rfl) (by rfl) ?_); k_dflt lcg_toSrc)))
  (k_with "CompSrc" => (refine Hold.out ?_))
  (k_with "CompSrcT" => (refine Hold.out ?_))
  (k_with "SrcLP" => (refine Hold.out ?_))
  (k_with "CompEnd" => (refine Hold.out ?_))
  exact trivial
noncomputable def Body (w : World) (s0 : Nat) (n0 : Nat) (tL : Tok) (tn : Tok) (dp : Nat) (un : Nat) (fr : Option (List Env)) (gd : Option (List Code)) (s : Shared) (Q : Value → Shared → Prop) (E : Value → Shared → Prop) : Prop :=
    Wd w s.heap → s0 < 20 → n0 < 16 →
    MB w 312 [.str (spell s0 0) tL, .int (n0 : Int) tn] [] 2 [] (fun v h' => IsS (spell s0 n0) v) dp un fr gd s Q E
noncomputable def Ok (v : World × Nat × Nat × Tok × Tok × Nat × Nat × (Option (List Env)) × (Option (List Code)) × Shared × (Value → Shared → Prop) × (Value → Shared → Prop)) : Prop := Body v.1 v.2.1 v.2.2.1 v.2.2.2.1 v.2.2.2.2.1 v.2.2.2.2.2.1 v.2.2.2.2.2.2.1 v.2.2.2.2.2.2.2.1 v.2.2.2.2.2.2.2.2.1 v.2.2.2.2.2.2.2.2.2.1 v.2.2.2.2.2.2.2.2.2.2.1 v.2.2.2.2.2.2.2.2.2.2.2
theorem ne : Nonempty (World × Nat × Nat × Tok × Tok × Nat × Nat × (Option (List Env)) × (Option (List Code)) × Shared × (Value → Shared → Prop) × (Value → Shared → Prop)) := ⟨(aWorld 1, 0, 0, 0, 0, 0, 0, none, none, {}, fun _ _ => True, fun _ _ => True)⟩
noncomputable def v0 : World × Nat × Nat × Tok × Tok × Nat × Nat × (Option (List Env)) × (Option (List Code)) × Shared × (Value → Shared → Prop) × (Value → Shared → Prop) := Classical.choose (one_for_all ne Ok)
@[irreducible] noncomputable def w : World := v0.1
@[irreducible] noncomputable def s0 : Nat := v0.2.1
@[irreducible] noncomputable def n0 : Nat := v0.2.2.1
@[irreducible] noncomputable def tL : Tok := v0.2.2.2.1
@[irreducible] noncomputable def tn : Tok := v0.2.2.2.2.1
@[irreducible] noncomputable def dp : Nat := v0.2.2.2.2.2.1
@[irreducible] noncomputable def un : Nat := v0.2.2.2.2.2.2.1
@[irreducible] noncomputable def fr : Option (List Env) := v0.2.2.2.2.2.2.2.1
@[irreducible] noncomputable def gd : Option (List Code) := v0.2.2.2.2.2.2.2.2.1
@[irreducible] noncomputable def s : Shared := v0.2.2.2.2.2.2.2.2.2.1
@[irreducible] noncomputable def Q : Value → Shared → Prop := v0.2.2.2.2.2.2.2.2.2.2.1
@[irreducible] noncomputable def E : Value → Shared → Prop := v0.2.2.2.2.2.2.2.2.2.2.2
theorem all (w : World) (s0 : Nat) (n0 : Nat) (tL : Tok) (tn : Tok) (dp : Nat) (un : Nat) (fr : Option (List Env)) (gd : Option (List Code)) (s : Shared) (Q : Value → Shared → Prop) (E : Value → Shared → Prop) (h : Body Spd.w Spd.s0 Spd.n0 Spd.tL Spd.tn Spd.dp Spd.un Spd.fr Spd.gd Spd.s Spd.Q Spd.E) : Body w s0 n0 tL tn dp un fr gd s Q E := by
  delta Spd.w Spd.s0 Spd.n0 Spd.tL Spd.tn Spd.dp Spd.un Spd.fr Spd.gd Spd.s Spd.Q Spd.E at h
  exact Classical.choose_spec (one_for_all ne Ok) h (w, s0, n0, tL, tn, dp, un, fr, gd, s, Q, E)
noncomputable def L' : Addr := s.heap.objs.size
set_option maxRecDepth 100000 in
set_option maxHeartbeats 2000000 in
theorem walk : Body w s0 n0 tL tn dp un fr gd s Q E := by
  (k_with "execs cons" => first | (k_here; k_gentoks) | (k_here; k_made; walk_at "execs cons") | ((with_reducible refine wpAny_execs_cons ?_); (try dsimp only)))
  intro W hs hn hdp hun hret
  obtain ⟨X, loose, mean, mg, mb, T⟩ := id W
  k_dflt (refine' enterCV (L' := L') [(Str.ofString "letters", .str (spell s0 0) tL), (Str.ofString "number", .int (n0 : Int) tn)] [] ?k1 W ?k6 ?k7 ?k8 ?k9 ?kB ?kD ?_ rfl ?c2 ?c3 ?c4; walk_at "my.enterC")
  intro h₁ tkE cells F N Y hLow
  k_cells Y
  (try dsimp only [hdO, List.cons_append, List.nil_append] at *)
  (try simp only [List.cons_append, List.nil_append] at N)
  (try k_lt hLow)
  (try dsimp only [addrs, List.map, hideAll] at F N)
  have hL9 : (spell s0 0).length = 4 := rfl
  k_steps
  unfold Hold
  (rename News _ _ _ _ => N8)
  k_dflt (refine LCg.CompSrc.range (by rfl) (by k_asm) (by k_asm) (by assumption) (by first | decide | rfl) (by first | rfl | decide) (by exact Nat.le_of_ble_eq_true rfl) ?_)
  intro g'
  refine cr_fix (fun i ys => StrsAre ys ((List.range i).map (sp1 s0 n0))) .nil ?_ ?_
  · rintro i ys v I oI C oC D m₂ h2 tk2 E' hi hy hS ⟨t, rfl⟩ hC hx F2 N2 off ne
    have hi4 : i < 4 := hi
    obtain ⟨k, hk, hk0, hk4⟩ : ∃ k : Int, k = 0 + (i:Int) ∧ 0 ≤ k ∧ k < 4 := ⟨_, rfl, by omega, by omega⟩
    rw [← hk] at hx
    have hk1 : k = (i : Int) := by omega
    have hnn : 0 ≤ (n0 : Int) := by omega
    have e1 : Txt.item (spell s0 0) k = sp1 s0 0 i := by rw [hk1]; exact item_spell ⟨s0, hs⟩ 0 ⟨i, hi4⟩
    have e2 : Txt.upper (sp1 s0 0 i) = sp1 s0 15 i := upper_sp1 ⟨s0, hs⟩ ⟨i, hi4⟩
    have e3 := sp1_15 ⟨s0, hs⟩ ⟨n0, hn⟩ ⟨i, hi4⟩
    have e4 := fdiv_pow n0 i
    k_steps
    · rename_i hq _ _
      walk_at "my.cend"
      rw [hk1] at hq
      simp only [Int.toNat_natCast] at hq
      rw [e1, e2, List.range_succ, List.map_append, e3.1 (e4.mp hq)]
      exact kct_snoc hS
    · rename_i hq _
      walk_at "my.cend"
      rw [hk1] at hq
      simp only [Int.toNat_natCast] at hq
      rw [e1, List.range_succ, List.map_append, e3.2 (fun q => hq (e4.mpr q))]
      exact kct_snoc hS
  · rintro ys hy hS D h2 tk2 F2 N2 off
    have hS4 : StrsAre ys [sp1 s0 n0 0, sp1 s0 n0 1, sp1 s0 n0 2, sp1 s0 n0 3] := hS
    (try dsimp only)
    k_steps
    refine join_list (items := ys.toArray) ⟨_, (N2 _ List.mem_cons_self).1, rfl, _, rfl⟩ hS4 (by exact Nat.le_of_ble_eq_true rfl) ?_
    intro t9 k9
    exact hret _ _ _ (fun b o e _ => Fr.keep (by assumption) b o e) (IsS.of (join_spell s0 n0))
end Spd
theorem c_spelled {w : World} {h : Heap} (W : Wd w h) (s0 n0 : Nat) (tL : Tok) (tn : Tok) (hs : s0 < 20) (hn : n0 < 16) : MCall w 312 [.str (spell s0 0) tL, .int (n0 : Int) tn] [] 2 h [] (fun v h' => IsS (spell s0 n0) v) := by
  intro dp9 un9 fr9 gd9 s9 Q9 E9 e9 hdp9 hun9 hret9
  subst e9
  exact Spd.all w s0 n0 tL tn dp9 un9 fr9 gd9 s9 Q9 E9 Spd.walk W hs hn hdp9 hun9 hret9
end
section

namespace Unl
example : True := by
  k_with_none
  (k_with "my.enter" => ((case k1 => first | exact List.forall_mem_nil _ | assumption); (case k6 => k_is); (case k7 => k_is); (case k8 => omega); (case k9 => first | exact BindsTo.of_eq rfl | exact binds_K (by k_in) rfl (by k_is) rfl rfl rfl); (case kB => exact locs rfl); (case c5 => decide); (case c2 => exact rfl); (case c3 => exact rfl); (case c4 => exact rfl)))
  (k_with "my.enterC" => ((case k1 => first | exact List.forall_mem_nil _ | assumption); (case k6 => k_is); (case k7 => k_is); (case k8 => omega); (case k9 => first | exact BindsTo.of_eq rfl | exact binds_K (by k_in) rfl (by k_is) rfl rfl rfl); (case kB => exact rfl); (case kD => decide +kernel); (case c2 => exact rfl); (case c3 => exact rfl); (case c4 => exact rfl)))
  (k_with "my.room" => first | omega | ((simp only [depth_under_make, depth_under_kw, depth_in1, depth_deeper, depth_caller]); omega))
  (k_with "my.units" => first | omega | ((simp only [units_in1, units_deeper, Around.mark_units, units_caller]); omega))
  (k_with "my.wd" => exact Wd.keeps (by assumption) (Fr.keep (by k_asm)))
  (k_with "call builtin:list.append" => (k_here; k_dflt (refine' append_K (by k_asm) (by k_asm) (by k_upd) ?_ (by (simp only [List.size_toArray, Array.size_push, List.length_append, List.length_cons, List.length_nil, sizeLine_eq]; omega)); k_whole); intro h' F' N'; (try simp only [List.push_toArray] at N'); (try k_sweep)))
  (k_with "my.end" => ((try dsimp only); (try k_unfold); (try dsimp only [retOf])))
  (k_with "my.keep" => exact (fun b o e hb => Fr.keep (by assumption) b o (hideAll_get _ e hb)))
  (k_with "my.cend" => (unfold Hold; refine LCg.CompEnd.intro (by k_asm) (by assumption) _ (fun p hp => hp) (by assumption) (by first | trivial | exact .inr ⟨_, by k_memK, rfl, _, rfl⟩ | exact .inl (by assumption)) ⟨rfl, ?_⟩))
  (k_with "my.m" => with_reducible ((repeat (first | exact List.Mem.head _ | refine List.Mem.tail _ ?_ | assumption | (refine List.mem_append_left _ ?_; walk_at "my.m") | (refine List.mem_append_right _ ?_; walk_at "my.m"))); done))
  (k_with "my.mg" => first | walk_at "my.m" | ((try dsimp only [hdO, PyProof.Rows.LCg.lst, PySem.W.listOf, PySem.W.instObj, PySem.W.dictOf, List.cons_append, List.nil_append]); walk_at "my.m") | ((simp only [List.mem_cons, List.mem_append]); grind))
  (k_with "my.inc" => with_reducible ((repeat' (first | exact inc_refl | exact inc_nil | refine inc_same ?_ | refine inc_app ?_ ?_ | refine inc_one (by walk_at "my.m") ?_ | assumption | refine inc_skip ?_ | (refine inc_left ?_; walk_at "my.inc") | (refine inc_right ?_; walk_at "my.inc"))); done))
  (k_with "my.ne" => with_reducible first | assumption | exact neS1 | exact neS1.symm | exact neS2 | exact neS2.symm | (refine Ne.symm ?_; assumption) | (refine Nat.ne_of_lt ?_; assumption) | (refine Nat.ne_of_gt ?_; assumption))
  (k_with "my.pin" => first | ((try dsimp only [hdO, List.cons_append, List.nil_append] at hp ⊢); exact (show ∀ p ∈ _, p ∈ _ from by walk_at "my.inc") _ hp) | ((try dsimp only [hdO, PyProof.Rows.LCg.lst, PySem.W.listOf, PySem.W.instObj, PySem.W.dictOf, List.cons_append, List.nil_append] at hp ⊢); exact (show ∀ p ∈ _, p ∈ _ from by walk_at "my.inc") _ hp) | ((simp only [hdO, List.cons_append, List.nil_append, List.mem_append, List.mem_cons, List.not_mem_nil, or_false] at hp ⊢); grind))
  (k_with "my.mY" => ((repeat (first | exact List.Mem.head _ | refine List.Mem.tail _ ?_ | refine List.mem_append_right _ ?_)); done))
  (k_with "my.pinS" => ((try dsimp only [hdO, List.cons_append, List.nil_append] at hp ⊢); revert hp; revert p; (repeat (first | exact inc_snoc2 | exact inc_snoc1 | refine inc_under ?_ | refine inc_over ?_)); done))
  (k_with "my.pinY" => ((try dsimp only [hdO, List.cons_append, List.nil_append] at hp ⊢); revert hp; revert p; (repeat (refine inc_one (by walk_at "my.mY") ?_)); (with_reducible (repeat (first | exact inc_refl | exact inc_nil | refine inc_skip ?_ | refine inc_left ?_))); done))
  (k_with "my.in" => first | ((try dsimp only [hdO, List.cons_append, List.nil_append]); walk_at "my.inc") | ((try dsimp only [hdO, PyProof.Rows.LCg.lst, PySem.W.listOf, PySem.W.instObj, PySem.W.dictOf, List.cons_append, List.nil_append]); walk_at "my.inc") | (intro p hp; (try simp only [hdO, List.cons_append, List.nil_append, List.mem_cons, List.mem_append, List.not_mem_nil, or_false, false_or] at hp ⊢); first | exact hp | grind))
  (k_with "my.same" => (intro z h1 h2 h3; first
  | rfl
  | (simp only [List.forall_mem_cons, List.forall_mem_nil, List.not_mem_nil, false_implies, implies_true, and_true, ne_eq] at h2; simp only [List.contains_cons, List.contains_nil, Bool.or_false, Bool.or_eq_false_iff, beq_eq_false_iff_ne, ne_eq] at h3; simp [h1, h2, h3, kstB]; done)
  | (simp [h1, kstB]; done)
  | (simp_all [kstB]; done)))
  (k_with "my.csame" => (intro z h2 h3; first
  | rfl
  | exact kstB_stay z h2 h3
  | (simp only [List.forall_mem_cons, List.forall_mem_nil, List.not_mem_nil, false_implies, implies_true, and_true, ne_eq] at h2; (try simp only [List.contains_cons, List.contains_nil, Bool.or_false, Bool.or_eq_false_iff, beq_eq_false_iff_ne, ne_eq] at h3); simp [h2, h3, kstB]; done)
  | (simp_all [kstB]; done)))
  (k_with "my.all" => (repeat' (first | exact List.forall_mem_nil _ | (refine List.forall_mem_cons.mpr ⟨rfl, ?_⟩))))
  (k_with "execs cons" => first | (k_here; k_gentoks) | (k_here; k_made; walk_at "execs cons") | ((with_reducible refine wpAny_execs_cons ?_); (try dsimp only); k_fold))
  (k_with "my.sub" => (repeat' (first | exact List.forall_mem_nil _ | (refine List.forall_mem_cons.mpr ⟨?_, ?_⟩) | k_mem)))
  (k_with "eval ListComp" => (k_here; first
  | (lcp_look; k_dflt (refine LCp.ListComp_P (F₀ := by k_asm) (by with_unfolding_all rfl) (by decide) (by rfl) (by decide) (by rfl) (by rfl) (by decide) ?_); k_dflt lcp_toSrc)
  | (lct_look; k_dflt (refine LCt.ListComp_T (F₀ := by k_asm) (by with_unfolding_all rfl) (by decide) (by rfl) (by decide) (by rfl) ?_); k_dflt lct_toSrc)
  | (k_dflt (refine LCg.ListComp_U (F₀ := by k_asm) (by with_unfolding_all rfl) (by decide) (by rfl) (by decide) (by rfl) ?_); k_dflt lcg_toSrc)))
  (k_with "exec Assign cons ListComp" => (k_here; first
  | (lcp_look; k_dflt (refine LCp.Assign_ListComp_P (F₀ := by k_asm) (by rfl) (by with_unfolding_all rfl) (by with_unfolding_all rfl) (by decide) (by rfl) (by decide) (by rfl) (by rfl) (by decide) (by rfl) (by rfl) ?_); k_dflt lcp_toSrc)
  | (lct_look; k_dflt (refine LCt.Assign_ListComp_T (F₀ := by k_asm) (by rfl) (by with_unfolding_all rfl) (by with_unfolding_all rfl) (by decide) (by rfl) (by decide) (by rfl) (by rfl) (by rfl) ?_); k_dflt lct_toSrc)
  | (k_dflt (refine LCg.Assign_ListComp_U (F₀ := by k_asm) (by rfl) (by with_unfolding_all rfl) (by with_unfolding_all rfl) (by decide) (by rfl) (by decide) (by rfl) (by rfl) (by rfl) ?_); k_dflt lcg_toSrc)))
  (k_with "CompSrc" => (refine Hold.out ?_))
  (k_with "CompSrcT" => (refine Hold.out ?_))
  (k_with "SrcLP" => (refine Hold.out ?_))
  (k_with "CompEnd" => (refine Hold.out ?_))
  exact trivial
noncomputable def Body (w : World) (a : Str) (ta : Tok) (b : Str) (tb : Tok) (dp : Nat) (un : Nat) (fr : Option (List Env)) (gd : Option (List Code)) (s : Shared) (Q : Value → Shared → Prop) (E : Value → Shared → Prop) : Prop :=
    Wd w s.heap → a.length = 4 → b.length = 4 →
    MB w 317 [.str a ta, .str b tb] [] 2 [] (fun v h' => IsI (unl a b) v) dp un fr gd s Q E
noncomputable def Ok (v : World × Str × Tok × Str × Tok × Nat × Nat × (Option (List Env)) × (Option (List Code)) × Shared × (Value → Shared → Prop) × (Value → Shared → Prop)) : Prop := Body v.1 v.2.1 v.2.2.1 v.2.2.2.1 v.2.2.2.2.1 v.2.2.2.2.2.1 v.2.2.2.2.2.2.1 v.2.2.2.2.2.2.2.1 v.2.2.2.2.2.2.2.2.1 v.2.2.2.2.2.2.2.2.2.1 v.2.2.2.2.2.2.2.2.2.2.1 v.2.2.2.2.2.2.2.2.2.2.2
theorem ne : Nonempty (World × Str × Tok × Str × Tok × Nat × Nat × (Option (List Env)) × (Option (List Code)) × Shared × (Value → Shared → Prop) × (Value → Shared → Prop)) := ⟨(aWorld 1, ⟨#[]⟩, 0, ⟨#[]⟩, 0, 0, 0, none, none, {}, fun _ _ => True, fun _ _ => True)⟩
noncomputable def v0 : World × Str × Tok × Str × Tok × Nat × Nat × (Option (List Env)) × (Option (List Code)) × Shared × (Value → Shared → Prop) × (Value → Shared → Prop) := Classical.choose (one_for_all ne Ok)
@[irreducible] noncomputable def w : World := v0.1
@[irreducible] noncomputable def a : Str := v0.2.1
@[irreducible] noncomputable def ta : Tok := v0.2.2.1
@[irreducible] noncomputable def b : Str := v0.2.2.2.1
@[irreducible] noncomputable def tb : Tok := v0.2.2.2.2.1
@[irreducible] noncomputable def dp : Nat := v0.2.2.2.2.2.1
@[irreducible] noncomputable def un : Nat := v0.2.2.2.2.2.2.1
@[irreducible] noncomputable def fr : Option (List Env) := v0.2.2.2.2.2.2.2.1
@[irreducible] noncomputable def gd : Option (List Code) := v0.2.2.2.2.2.2.2.2.1
@[irreducible] noncomputable def s : Shared := v0.2.2.2.2.2.2.2.2.2.1
@[irreducible] noncomputable def Q : Value → Shared → Prop := v0.2.2.2.2.2.2.2.2.2.2.1
@[irreducible] noncomputable def E : Value → Shared → Prop := v0.2.2.2.2.2.2.2.2.2.2.2
theorem all (w : World) (a : Str) (ta : Tok) (b : Str) (tb : Tok) (dp : Nat) (un : Nat) (fr : Option (List Env)) (gd : Option (List Code)) (s : Shared) (Q : Value → Shared → Prop) (E : Value → Shared → Prop) (h : Body Unl.w Unl.a Unl.ta Unl.b Unl.tb Unl.dp Unl.un Unl.fr Unl.gd Unl.s Unl.Q Unl.E) : Body w a ta b tb dp un fr gd s Q E := by
  delta Unl.w Unl.a Unl.ta Unl.b Unl.tb Unl.dp Unl.un Unl.fr Unl.gd Unl.s Unl.Q Unl.E at h
  exact Classical.choose_spec (one_for_all ne Ok) h (w, a, ta, b, tb, dp, un, fr, gd, s, Q, E)
noncomputable def L' : Addr := s.heap.objs.size
set_option maxRecDepth 100000 in
set_option maxHeartbeats 2000000 in
theorem walk : Body w a ta b tb dp un fr gd s Q E := by
  (k_with "execs cons" => first | (k_here; k_gentoks) | (k_here; k_made; walk_at "execs cons") | ((with_reducible refine wpAny_execs_cons ?_); (try dsimp only)))
  intro W ha hb hdp hun hret
  obtain ⟨X, loose, mean, mg, mb, T⟩ := id W
  k_dflt (refine' enterCV (L' := L') [(Str.ofString "one", .str a ta), (Str.ofString "other", .str b tb)] [] ?k1 W ?k6 ?k7 ?k8 ?k9 ?kB ?kD ?_ rfl ?c2 ?c3 ?c4; walk_at "my.enterC")
  intro h₁ tkE cells F N Y hLow
  k_cells Y
  (try dsimp only [hdO, List.cons_append, List.nil_append] at *)
  (try simp only [List.cons_append, List.nil_append] at N)
  (try k_lt hLow)
  (try dsimp only [addrs, List.map, hideAll] at F N)
  k_steps
  unfold Hold
  (rename News _ _ _ _ => N8)
  k_dflt (refine LCt.CompSrcT.range (by rfl) (by k_asm) (by k_asm) (by assumption) (by first | decide | rfl) (by first | rfl | decide) (by exact Nat.le_of_ble_eq_true rfl) ?_)
  intro g'
  refine crt_fix (fun i ys => ys.length = ((List.range i).filter fun (k : Nat) => Txt.item a (k : Int) != Txt.item b (k : Int)).length) rfl ?_ ?_
  · rintro i ys v I oI C oC D m₂ h2 tk2 E' hi hS ⟨t, rfl⟩ hC hx F2 N2 off ne
    have hi4 : i < 4 := hi
    obtain ⟨k, hk, hk0, hk4⟩ : ∃ k : Int, k = 0 + (i:Int) ∧ 0 ≤ k ∧ k < 4 := ⟨_, rfl, by omega, by omega⟩
    rw [← hk] at hx
    have hk1 : k = (i : Int) := by omega
    k_steps
    all_goals (rename_i hq; walk_at "my.cend"; rw [hk1] at hq; rw [List.range_succ, List.filter_append])
    · simp [hS, hq]
    · simp [hS, hq]
  · rintro ys hS D h2 tk2 F2 N2 off
    (try dsimp only)
    k_steps
    have hz : ys.length ≤ 4 := by rw [hS]; exact Nat.le_trans (List.length_filter_le _ _) (by simp)
    refine len_list (items := ys.toArray) ⟨_, (N2 _ List.mem_cons_self).1, rfl, _, rfl⟩ (by rw [List.size_toArray]; omega) ?_
    exact hret _ _ _ (fun b o e _ => Fr.keep (by assumption) b o e) (IsI.of (by rw [List.size_toArray, hS]; rfl))
end Unl
theorem c_unlike {w : World} {h : Heap} (W : Wd w h) (a : Str) (ta : Tok) (b : Str) (tb : Tok) (ha : a.length = 4) (hb : b.length = 4) : MCall w 317 [.str a ta, .str b tb] [] 2 h [] (fun v h' => IsI (unl a b) v) := by
  intro dp9 un9 fr9 gd9 s9 Q9 E9 e9 hdp9 hun9 hret9
  subst e9
  exact Unl.all w a ta b tb dp9 un9 fr9 gd9 s9 Q9 E9 Unl.walk W ha hb hdp9 hun9 hret9
end

end Mine
-- W2
example : True := by
  w_top off
  exact trivial
namespace Mine
example (P : Params) : hd.heap_1 P = hd.heap_1 P ∧ PySem.Challenge.rw_wo0076_01 = PySem.Challenge.rw_wo0076_01 := by
  k_fill
  exact ⟨rfl, rfl⟩



theorem sub_led {α : Type} {a b c d e f g t i : α} {ts : List α} : ∀ p ∈ a :: b :: c :: d :: e :: f :: g :: (ts ++ [t]), p ∈ ([a, b, c] ++ [t]) ++ (i :: d :: e :: f :: g :: ts) :=
  List.forall_mem_cons.mpr ⟨.head _, List.forall_mem_cons.mpr ⟨.tail _ (.head _), List.forall_mem_cons.mpr ⟨.tail _ (.tail _ (.head _)), List.forall_mem_cons.mpr ⟨.tail _ (.tail _ (.tail _ (.tail _ (.tail _ (.head _))))), List.forall_mem_cons.mpr ⟨.tail _ (.tail _ (.tail _ (.tail _ (.tail _ (.tail _ (.head _)))))), List.forall_mem_cons.mpr ⟨.tail _ (.tail _ (.tail _ (.tail _ (.tail _ (.tail _ (.tail _ (.head _))))))), List.forall_mem_cons.mpr ⟨.tail _ (.tail _ (.tail _ (.tail _ (.tail _ (.tail _ (.tail _ (.tail _ (.head _)))))))), fun p hp => (List.mem_append.mp hp).elim (fun q => .tail _ (.tail _ (.tail _ (.tail _ (.tail _ (.tail _ (.tail _ (.tail _ (.tail _ (q)))))))))) fun q => by rw [List.mem_singleton.mp q]; exact .tail _ (.tail _ (.tail _ (.head _)))⟩⟩⟩⟩⟩⟩⟩
theorem nine {L x d l : Nat} (h : l < d ∧ L + 1 + 1 + 1 < d ∧ L + 1 + 1 < d ∧ L + 1 < d) (hx : d < x) (hl : L + 1 + 1 + 1 < l ∧ L + 1 + 1 < l ∧ L + 1 < l) :
    (L + 1 + 1 + 1 ≠ x ∧ L + 1 + 1 + 1 ≠ d ∧ L + 1 + 1 + 1 ≠ l) ∧ (L + 1 + 1 ≠ x ∧ L + 1 + 1 ≠ d ∧ L + 1 + 1 ≠ l) ∧ L + 1 ≠ x ∧ L + 1 ≠ d ∧ L + 1 ≠ l :=
  ⟨⟨Nat.ne_of_lt (Nat.lt_trans h.2.1 hx), Nat.ne_of_lt h.2.1, Nat.ne_of_lt hl.1⟩, ⟨Nat.ne_of_lt (Nat.lt_trans h.2.2.1 hx), Nat.ne_of_lt h.2.2.1, Nat.ne_of_lt hl.2.1⟩, Nat.ne_of_lt (Nat.lt_trans h.2.2.2 hx), Nat.ne_of_lt h.2.2.2, Nat.ne_of_lt hl.2.2⟩
theorem two9 {i : Nat} (h : i < 2) : i = 0 ∨ i = 1 := by omega
theorem up9 {i : Nat} {k : Int} (h : k = 0 + ((i + 1 : Nat) : Int)) : (k - 1).toNat = i := by omega
theorem turnS_len0 : ∀ n : Fin 16, (turnS 0 n.val).length = 4 ∧ (dupS 0 n.val).length = 4 := by decide +kernel
theorem turnS_len (s : Fin 20) (n : Fin 16) : (turnS s.val n.val).length = 4 ∧ (dupS s.val n.val).length = 4 := by
  rw [turnS_map, dupS_map, len_mapF, len_mapF]
  exact turnS_len0 n
noncomputable def namePre (s n i : Nat) : Str := ⟨((List.range i).map (sg s n)).toArray⟩
theorem namePre_step (s : Fin 20) (n : Fin 16) (i : Fin 4) : namePre s.val n.val i.val ++ sp1 s.val n.val i.val = namePre s.val n.val (i.val + 1) := by
  unfold namePre
  rw [List.range_succ, List.map_append]
  exact congrArg Str.mk (by simp; rfl)
noncomputable def stW : List Str := [Str.ofString "name", Str.ofString "worth", Str.ofString "k", Str.ofString "turned", Str.ofString "great", Str.ofString "reply"]
/-- the name that the last turn has left -/
noncomputable def PlW (j i : Nat) (pl : List (Str × Value)) : Prop := (i = 0 ∧ pl = []) ∨ ∃ t, pl = [(Str.ofString "reply", .str (rp j (wn (i - 1))) t)]
theorem PlW.keys {j i : Nat} {pl : List (Str × Value)} (h : PlW j i pl) : ∀ p ∈ pl, stW.contains p.1 = true := by
  rcases h with ⟨_, rfl⟩ | ⟨t, rfl⟩
  · exact fun _ h => nomatch h
  · exact List.forall_mem_singleton.mpr rfl
theorem c_levT {w : World} {h : Heap} (W : Wd w h) (a : Str) (ta : Tok) (b : Str) (tb : Tok) (m : Int) (tm : Tok) (r : Int) (he : lev a b m = r) (ha : a.length ≤ 40) (hb : b.length ≤ 40) (hm0 : 0 ≤ m) (hm1 : m ≤ 10) : MCall w 152 [.str a ta, .str b tb, .int m tm] [] 2 h [] (fun v h' => IsI r v) := by
  subst he
  exact c_lev W a ta b tb m tm ha hb hm0 hm1
theorem c_unlT {w : World} {h : Heap} (W : Wd w h) (a : Str) (ta : Tok) (b : Str) (tb : Tok) (r : Int) (he : unl a b = r) (ha : a.length = 4) (hb : b.length = 4) : MCall w 317 [.str a ta, .str b tb] [] 2 h [] (fun v h' => IsI r v) := by
  subst he
  exact c_unlike W a ta b tb ha hb
section

namespace Wor
example : True := by
  k_with_none
  (k_with "my.enter" => ((case k1 => first | exact List.forall_mem_nil _ | assumption); (case k6 => k_is); (case k7 => k_is); (case k8 => omega); (case k9 => first | exact BindsTo.of_eq rfl | exact binds_K (by k_in) rfl (by k_is) rfl rfl rfl); (case kB => exact locs rfl); (case c5 => decide); (case c2 => exact rfl); (case c3 => exact rfl); (case c4 => exact rfl)))
  (k_with "my.enterC" => ((case k1 => first | exact List.forall_mem_nil _ | assumption); (case k6 => k_is); (case k7 => k_is); (case k8 => omega); (case k9 => first | exact BindsTo.of_eq rfl | exact binds_K (by k_in) rfl (by k_is) rfl rfl rfl); (case kB => exact rfl); (case kD => decide +kernel); (case c2 => exact rfl); (case c3 => exact rfl); (case c4 => exact rfl)))
  (k_with "my.room" => first | omega | ((simp only [depth_under_make, depth_under_kw, depth_in1, depth_deeper, depth_caller]); omega))
  (k_with "my.units" => first | omega | ((simp only [units_in1, units_deeper, Around.mark_units, units_caller]); omega))
  (k_with "my.wd" => exact Wd.keeps (by assumption) (Fr.keep (by k_asm)))
  (k_with "call builtin:list.append" => (k_here; k_dflt (refine' append_K (by k_asm) (by k_asm) (by k_upd) ?_ (by (simp only [List.size_toArray, Array.size_push, List.length_append, List.length_cons, List.length_nil, sizeLine_eq]; omega)); k_whole); intro h' F' N'; (try simp only [List.push_toArray] at N'); (try k_sweep)))
  (k_with "my.end" => ((try dsimp only); (try k_unfold); (try dsimp only [retOf])))
  (k_with "my.keep" => exact (fun b o e hb => Fr.keep (by assumption) b o (hideAll_get _ e hb)))
  (k_with "my.cend" => (unfold Hold; refine LCg.CompEnd.intro (by k_asm) (by assumption) _ (fun p hp => hp) (by assumption) (by first | trivial | exact .inr ⟨_, by k_memK, rfl, _, rfl⟩ | exact .inl (by assumption)) ⟨rfl, ?_⟩))
  (k_with "my.m" => with_reducible ((repeat (first | exact List.Mem.head _ | refine List.Mem.tail _ ?_ | assumption | (refine List.mem_append_left _ ?_; walk_at "my.m") | (refine List.mem_append_right _ ?_; walk_at "my.m"))); done))
  (k_with "my.mg" => first | walk_at "my.m" | ((try dsimp only [hdO, PyProof.Rows.LCg.lst, PySem.W.listOf, PySem.W.instObj, PySem.W.dictOf, List.cons_append, List.nil_append]); walk_at "my.m") | ((simp only [List.mem_cons, List.mem_append]); grind))
  (k_with "my.inc" => with_reducible ((repeat' (first | exact inc_refl | exact inc_nil | refine inc_same ?_ | refine inc_app ?_ ?_ | refine inc_one (by walk_at "my.m") ?_ | assumption | refine inc_skip ?_ | (refine inc_left ?_; walk_at "my.inc") | (refine inc_right ?_; walk_at "my.inc"))); done))
  (k_with "my.ne" => with_reducible first | assumption | exact neS1 | exact neS1.symm | exact neS2 | exact neS2.symm | (refine Ne.symm ?_; assumption) | (refine Nat.ne_of_lt ?_; assumption) | (refine Nat.ne_of_gt ?_; assumption))
  (k_with "my.pin" => first | ((try dsimp only [hdO, List.cons_append, List.nil_append] at hp ⊢); exact (show ∀ p ∈ _, p ∈ _ from by walk_at "my.inc") _ hp) | ((try dsimp only [hdO, PyProof.Rows.LCg.lst, PySem.W.listOf, PySem.W.instObj, PySem.W.dictOf, List.cons_append, List.nil_append] at hp ⊢); exact (show ∀ p ∈ _, p ∈ _ from by walk_at "my.inc") _ hp) | ((simp only [hdO, List.cons_append, List.nil_append, List.mem_append, List.mem_cons, List.not_mem_nil, or_false] at hp ⊢); grind))
  (k_with "my.mY" => ((repeat (first | exact List.Mem.head _ | refine List.Mem.tail _ ?_ | refine List.mem_append_right _ ?_)); done))
  (k_with "my.pinS" => ((try dsimp only [hdO, List.cons_append, List.nil_append] at hp ⊢); revert hp; revert p; (repeat (first | exact inc_snoc2 | exact inc_snoc1 | refine inc_under ?_ | refine inc_over ?_)); done))
  (k_with "my.pinY" => ((try dsimp only [hdO, List.cons_append, List.nil_append] at hp ⊢); revert hp; revert p; (repeat (refine inc_one (by walk_at "my.mY") ?_)); (with_reducible (repeat (first | exact inc_refl | exact inc_nil | refine inc_skip ?_ | refine inc_left ?_))); done))
  (k_with "my.in" => first | ((try dsimp only [hdO, List.cons_append, List.nil_append]); walk_at "my.inc") | ((try dsimp only [hdO, PyProof.Rows.LCg.lst, PySem.W.listOf, PySem.W.instObj, PySem.W.dictOf, List.cons_append, List.nil_append]); walk_at "my.inc") | (intro p hp; (try simp only [hdO, List.cons_append, List.nil_append, List.mem_cons, List.mem_append, List.not_mem_nil, or_false, false_or] at hp ⊢); first | exact hp | grind))
  (k_with "my.same" => (intro z h1 h2 h3; first
  | rfl
  | (simp only [List.forall_mem_cons, List.forall_mem_nil, List.not_mem_nil, false_implies, implies_true, and_true, ne_eq] at h2; simp only [List.contains_cons, List.contains_nil, Bool.or_false, Bool.or_eq_false_iff, beq_eq_false_iff_ne, ne_eq] at h3; simp [h1, h2, h3, kstB]; done)
  | (simp [h1, kstB]; done)
  | (simp_all [kstB]; done)))
  (k_with "my.csame" => (intro z h2 h3; first
  | rfl
  | exact kstB_stay z h2 h3
  | (simp only [List.forall_mem_cons, List.forall_mem_nil, List.not_mem_nil, false_implies, implies_true, and_true, ne_eq] at h2; (try simp only [List.contains_cons, List.contains_nil, Bool.or_false, Bool.or_eq_false_iff, beq_eq_false_iff_ne, ne_eq] at h3); simp [h2, h3, kstB]; done)
  | (simp_all [kstB]; done)))
  (k_with "my.all" => (repeat' (first | exact List.forall_mem_nil _ | (refine List.forall_mem_cons.mpr ⟨rfl, ?_⟩))))
  (k_with "execs cons" => first | (k_here; k_gentoks) | (k_here; k_made; walk_at "execs cons") | ((with_reducible refine wpAny_execs_cons ?_); (try dsimp only); k_fold))
  (k_with "my.sub" => (repeat' (first | exact List.forall_mem_nil _ | (refine List.forall_mem_cons.mpr ⟨?_, ?_⟩) | k_mem)))
  (k_with "eval ListComp" => (k_here; first
  | (lcp_look; k_dflt (refine LCp.ListComp_P (F₀ := by k_asm) (by with_unfolding_all rfl) (by decide) (by rfl) (by decide) (by rfl) (by rfl) (by decide) ?_); k_dflt lcp_toSrc)
  | (lct_look; k_dflt (refine LCt.ListComp_T (F₀ := by k_asm) (by with_unfolding_all rfl) (by decide) (by rfl) (by decide) (by rfl) ?_); k_dflt lct_toSrc)
  | (k_dflt (refine LCg.ListComp_U (F₀ := by k_asm) (by with_unfolding_all rfl) (by decide) (by rfl) (by decide) (by rfl) ?_); k_dflt lcg_toSrc)))
  (k_with "exec Assign cons ListComp" => (k_here; first
  | (lcp_look; k_dflt (refine LCp.Assign_ListComp_P (F₀ := by k_asm) (by rfl) (by with_unfolding_all rfl) (by with_unfolding_all rfl) (by decide) (by rfl) (by decide) (by rfl) (by rfl) (by decide) (by rfl) (by rfl) ?_); k_dflt lcp_toSrc)
  | (lct_look; k_dflt (refine LCt.Assign_ListComp_T (F₀ := by k_asm) (by rfl) (by with_unfolding_all rfl) (by with_unfolding_all rfl) (by decide) (by rfl) (by decide) (by rfl) (by rfl) (by rfl) ?_); k_dflt lct_toSrc)
  | (k_dflt (refine LCg.Assign_ListComp_U (F₀ := by k_asm) (by rfl) (by with_unfolding_all rfl) (by with_unfolding_all rfl) (by decide) (by rfl) (by decide) (by rfl) (by rfl) (by rfl) ?_); k_dflt lcg_toSrc)))
  (k_with "CompSrc" => (refine Hold.out ?_))
  (k_with "CompSrcT" => (refine Hold.out ?_))
  (k_with "SrcLP" => (refine Hold.out ?_))
  (k_with "CompEnd" => (refine Hold.out ?_))
  (k_with "call ref" => ((with_reducible rename Gd 2 => g9); (refine Hold.out ?_)))
  (k_with "exec For Name Call cons nil" => (k_here; (rename Fr _ _ _ _ => lF'); (with_unfolding_all refine' For_invVF lF' (by exact rfl) (by exact rfl) ?_; k_whole)))
  (k_with "pyIter ref" => (refine Hold.out ?_))
  (k_with "RngPost" => (dsimp only [RngPost]))
  (k_with "CutX" => (refine Hold.out ?_))
  (k_with "RngEnd" => (refine Hold.out ?_))
  (k_with "call ref" => (k_here; (with_reducible show wpAny _ _ (call (Value.ref 296) _ _) _ _ _); (refine Hold.out ?_)))
  (k_with "compareOp Eq int int" => (k_here; (refine eq_br ?_ ?_) <;> intro hq9))
  (k_with "exec If" => ((with_reducible rename Gd 3 => g9); (refine Hold.out ?_)))
  (k_with "subscriptTail Name BinOp ref int" => (k_here; k_dflt (refine' item_str_said (by exact News.isList (by k_asm) (by k_mem)) (by with_reducible assumption) (by omega) (by omega) (by with_reducible assumption) ?_ ); intro t9))
  (k_with "compareOp NotEq int int" => (k_here; refine ne_same ?_))
  (k_with "call ref" => (k_here; (with_reducible show wpAny _ _ (call (Value.ref 152) _ _) _ _ _); k_dflt (refine' MCall.pure (c_levT (by walk_at "my.wd") _ _ _ _ _ _ _ (by with_reducible assumption) (by omega) (by omega) (by omega) (by omega)) (by walk_at "my.room") (by walk_at "my.units") (by k_asm) (by k_asm) ?_); intro v9 h9 tk9 hR9 hk9 F9 N9; (try k_sweep); (obtain ⟨t9, e9⟩ := hR9); subst e9; (try dsimp only)))
  (k_with "call ref" => (k_here; (with_reducible show wpAny _ _ (call (Value.ref 317) _ _) _ _ _); k_dflt (refine' MCall.pure (c_unlT (by walk_at "my.wd") _ _ _ _ _ (by with_reducible assumption) (by with_reducible assumption) (by with_reducible assumption)) (by walk_at "my.room") (by walk_at "my.units") (by k_asm) (by k_asm) ?_); intro v9 h9 tk9 hR9 hk9 F9 N9; (try k_sweep); (obtain ⟨t9, e9⟩ := hR9); subst e9; (try dsimp only)))
  (k_with "call ref" => (k_here; (with_reducible show wpAny _ _ (call (Value.ref 293) _ _) _ _ _); (refine Hold.out ?_)))
  (k_with "exec Assign cons ListComp" => (k_here; (with_reducible rename Gd 5 => g9); k_dflt (refine AssignLC_tupU (F₀ := by k_asm) (by rfl) (by with_unfolding_all rfl) (by with_unfolding_all rfl) (by decide) (by rfl) (by decide) (by rfl) (by rfl) (by rfl) ?_)))
  (k_with "exec Assign cons ListComp" => ((with_reducible rename Gd 7 => g9); (refine Hold.out ?_)))
  (k_with "SrcTU" => (refine Hold.out ?_))
  (k_with "eval Name" => (k_here; (with_reducible show wpAny _ _ (eval (Expr.Name _ _) (compEnvC _ _ _ _)) _ _ _); k_dflt (refine LCgL.ld_global (by k_asm) (by k_asm) (by k_asm) (by k_is) ?_)))
  (k_with "call ref" => (k_here; (with_reducible show wpAny _ _ (call (Value.ref 248) _ _) _ _ _); (refine Hold.out ?_)))
  (k_with "call ref" => (k_here; (with_reducible show wpAny _ _ (call (Value.ref 235) _ _) _ _ _); (refine Hold.out ?_)))
  (k_with "compareOp NotEq ref ref" => (refine Hold.out ?_))
  (k_with "binaryOp Add ref ref" => (refine Hold.out ?_))
  (k_with "call ref" => (k_here; (with_reducible show wpAny _ _ (call (Value.ref 82) _ _) _ _ _); k_dflt (refine' MCall2.pure (c_p229v (by walk_at "my.wd") _ _ _ _ _ _ _ _ (by exact News.isTup (by k_asm) (by k_mem)) (by with_reducible assumption) (by with_reducible assumption)) (by walk_at "my.room") (by walk_at "my.units") (by k_asm) (by k_asm) ?_); intro v9 own9 h9 tk9 hR9 F9 N9 hA9; (try k_sweep); (obtain ⟨d9, tv9, k9, e9, e10⟩ := hR9); subst e9; subst e10; (try dsimp only)))
  (k_with "eval Name" => (k_here; (with_reducible show wpAny _ _ (eval (Expr.Name _ _) (compEnvC _ _ _ _)) _ _ _); k_dflt (refine' LCgL.ld_own (by k_asm) (by k_mem) (by with_reducible assumption) (by with_reducible assumption) ?_)))
  (k_with "subscriptTail Name Constant ref int" => (k_here; k_dflt (refine' item_tupleT (by exact News.isTup (by k_asm) (by k_mem)) (by decide) (by decide) (by rfl) (by rfl) ?_; k_whole)))
  (k_with "compareOp Eq ref ref" => (k_here; k_dflt (refine' eq_dat_same (by k_asm) (by exact .tuple (vs := [_, _]) (by k_mem) (.cons (.str _ _) (.cons (.int _ _) .nil))) (by exact .tuple (vs := [_, _]) (by k_mem) (.cons (.str _ _) (.cons (.int _ _) .nil))) (by with_reducible assumption) (by walk_at "my.units") ?_)))
  (k_with "ite" => (k_here; (with_reducible show ite (decide (_ < (_ : Int)) = true) _ _); first | (refine ite_pos (by (rw [decide_eq_true_eq]; omega)) ?_) | (refine ite_neg (by (rw [decide_eq_true_eq]; omega)) ?_)))
  (k_with "call ref" => (k_here; (with_reducible show wpAny _ _ (call (Value.ref 96) _ _) _ _ _); k_dflt (refine' MCall.pure (c_and (by walk_at "my.wd") _ _ _ _) (by walk_at "my.room") (by walk_at "my.units") (by k_asm) (by k_asm) ?_); skip; intro v9 h9 tk9 hR9 hk9 F9 N9; (try k_sweep); (obtain ⟨t9, e9⟩ := hR9); subst e9; (try dsimp only)))
  (k_with "call ref" => (k_here; (with_reducible show wpAny _ _ (call (Value.ref 103) _ _) _ _ _); k_dflt (refine' MCall.pure (c_rshift (by walk_at "my.wd") _ _ _ _ (by omega)) (by walk_at "my.room") (by walk_at "my.units") (by k_asm) (by k_asm) ?_); intro v9 h9 tk9 hR9 hk9 F9 N9; (try k_sweep); (obtain ⟨t9, e9⟩ := hR9); subst e9; (try dsimp only)))
  (k_with "call ref" => (k_here; (with_reducible show wpAny _ _ (call (Value.ref 312) _ _) _ _ _); k_dflt (refine' MCall.pure (c_spelled (by walk_at "my.wd") _ _ _ _ (by assumption) (by assumption)) (by walk_at "my.room") (by walk_at "my.units") (by k_asm) (by k_asm) ?_); intro v9 h9 tk9 hR9 hk9 F9 N9; (try k_sweep); (obtain ⟨t9, e9⟩ := hR9); subst e9; (try dsimp only)))
  exact trivial
noncomputable def Body (w : World) (s0 : Nat) (n0 : Nat) (j : Nat) (M : Nat) (bd : Int) (tL : Tok) (tj : Tok) (tT : Tok) (tb : Tok) (ta : Tok) (dp : Nat) (un : Nat) (fr : Option (List Env)) (gd : Option (List Code)) (s : Shared) (Q : Value → Shared → Prop) (E : Value → Shared → Prop) : Prop :=
    Wd w s.heap → s0 < 20 → n0 < 16 → j < 23 → 8 ≤ M → M ≤ 15 → 4 ≤ bd → bd ≤ 6 →
    MB w 322 [.str (spell s0 0) tL, .str (ch j) tj, .int (M : Int) tT, .int bd tb, .str (spell s0 n0) ta] [] 12 [] (fun v h' => ∃ own', (∃ (r : Addr) (us : List Value) (m : Nat), v = .ref r ∧ own' = [(r, listOf us.toArray m)] ∧ IntsAre us ((List.range (M + 1)).map wn)) ∧ Held s.heap [] h' own') dp un fr gd s Q E
noncomputable def Ok (v : World × Nat × Nat × Nat × Nat × Int × Tok × Tok × Tok × Tok × Tok × Nat × Nat × (Option (List Env)) × (Option (List Code)) × Shared × (Value → Shared → Prop) × (Value → Shared → Prop)) : Prop := Body v.1 v.2.1 v.2.2.1 v.2.2.2.1 v.2.2.2.2.1 v.2.2.2.2.2.1 v.2.2.2.2.2.2.1 v.2.2.2.2.2.2.2.1 v.2.2.2.2.2.2.2.2.1 v.2.2.2.2.2.2.2.2.2.1 v.2.2.2.2.2.2.2.2.2.2.1 v.2.2.2.2.2.2.2.2.2.2.2.1 v.2.2.2.2.2.2.2.2.2.2.2.2.1 v.2.2.2.2.2.2.2.2.2.2.2.2.2.1 v.2.2.2.2.2.2.2.2.2.2.2.2.2.2.1 v.2.2.2.2.2.2.2.2.2.2.2.2.2.2.2.1 v.2.2.2.2.2.2.2.2.2.2.2.2.2.2.2.2.1 v.2.2.2.2.2.2.2.2.2.2.2.2.2.2.2.2.2
theorem ne : Nonempty (World × Nat × Nat × Nat × Nat × Int × Tok × Tok × Tok × Tok × Tok × Nat × Nat × (Option (List Env)) × (Option (List Code)) × Shared × (Value → Shared → Prop) × (Value → Shared → Prop)) := ⟨(aWorld 1, 0, 0, 0, 0, 0, 0, 0, 0, 0, 0, 0, 0, none, none, {}, fun _ _ => True, fun _ _ => True)⟩
noncomputable def v0 : World × Nat × Nat × Nat × Nat × Int × Tok × Tok × Tok × Tok × Tok × Nat × Nat × (Option (List Env)) × (Option (List Code)) × Shared × (Value → Shared → Prop) × (Value → Shared → Prop) := Classical.choose (one_for_all ne Ok)
@[irreducible] noncomputable def w : World := v0.1
@[irreducible] noncomputable def s0 : Nat := v0.2.1
@[irreducible] noncomputable def n0 : Nat := v0.2.2.1
@[irreducible] noncomputable def j : Nat := v0.2.2.2.1
@[irreducible] noncomputable def M : Nat := v0.2.2.2.2.1
@[irreducible] noncomputable def bd : Int := v0.2.2.2.2.2.1
@[irreducible] noncomputable def tL : Tok := v0.2.2.2.2.2.2.1
@[irreducible] noncomputable def tj : Tok := v0.2.2.2.2.2.2.2.1
@[irreducible] noncomputable def tT : Tok := v0.2.2.2.2.2.2.2.2.1
@[irreducible] noncomputable def tb : Tok := v0.2.2.2.2.2.2.2.2.2.1
@[irreducible] noncomputable def ta : Tok := v0.2.2.2.2.2.2.2.2.2.2.1
@[irreducible] noncomputable def dp : Nat := v0.2.2.2.2.2.2.2.2.2.2.2.1
@[irreducible] noncomputable def un : Nat := v0.2.2.2.2.2.2.2.2.2.2.2.2.1
@[irreducible] noncomputable def fr : Option (List Env) := v0.2.2.2.2.2.2.2.2.2.2.2.2.2.1
@[irreducible] noncomputable def gd : Option (List Code) := v0.2.2.2.2.2.2.2.2.2.2.2.2.2.2.1
@[irreducible] noncomputable def s : Shared := v0.2.2.2.2.2.2.2.2.2.2.2.2.2.2.2.1
@[irreducible] noncomputable def Q : Value → Shared → Prop := v0.2.2.2.2.2.2.2.2.2.2.2.2.2.2.2.2.1
@[irreducible] noncomputable def E : Value → Shared → Prop := v0.2.2.2.2.2.2.2.2.2.2.2.2.2.2.2.2.2
theorem all (w : World) (s0 : Nat) (n0 : Nat) (j : Nat) (M : Nat) (bd : Int) (tL : Tok) (tj : Tok) (tT : Tok) (tb : Tok) (ta : Tok) (dp : Nat) (un : Nat) (fr : Option (List Env)) (gd : Option (List Code)) (s : Shared) (Q : Value → Shared → Prop) (E : Value → Shared → Prop) (h : Body Wor.w Wor.s0 Wor.n0 Wor.j Wor.M Wor.bd Wor.tL Wor.tj Wor.tT Wor.tb Wor.ta Wor.dp Wor.un Wor.fr Wor.gd Wor.s Wor.Q Wor.E) : Body w s0 n0 j M bd tL tj tT tb ta dp un fr gd s Q E := by
  delta Wor.w Wor.s0 Wor.n0 Wor.j Wor.M Wor.bd Wor.tL Wor.tj Wor.tT Wor.tb Wor.ta Wor.dp Wor.un Wor.fr Wor.gd Wor.s Wor.Q Wor.E at h
  exact Classical.choose_spec (one_for_all ne Ok) h (w, s0, n0, j, M, bd, tL, tj, tT, tb, ta, dp, un, fr, gd, s, Q, E)
noncomputable def L' : Addr := s.heap.objs.size
set_option maxRecDepth 100000 in
set_option maxHeartbeats 2000000 in
noncomputable def worC : (P : (Addr) → (Addr) → (Addr) → (Addr) → (Obj) → (Obj) → (Obj) → (Tok) → (List Value) → (List Value) → (Nat) → (List (Addr × Obj)) → (Nat) → (Int) → (Tok) → (Str → Option Value) → (Heap) → (Nat) → (Addr) → (Obj) → (Heap) → (Heap) → (Nat) → (Nat) → Prop) ×' (P2 : (Addr) → (Addr) → (Addr) → (Addr) → (Obj) → (Obj) → (Obj) → (Tok) → (List Value) → (List Value) → (Nat) → (List (Addr × Obj)) → (Tok) → (Str → Option Value) → (Heap) → (Nat) → (Heap) → (Heap) → (Nat) → (Nat) → Prop) ×' ((∀ (l9 : Addr) (dx9 : Addr) (x9 : Addr) (D : Addr) (oA : Obj) (oB : Obj) (oL : Obj) (th9 : Tok) (ys : List Value) (vs : List Value) (cap : Nat) (ts : List (Addr × Obj)) (i : Nat) (k : Int) (t : Tok) (u6 : Str → Option Value) (h5 : Heap) (tk5 : Nat) (I : Addr) (oI : Obj) (h4 : Heap) (hB : Heap) (tk4 : Nat) (tkA : Nat), P l9 dx9 x9 D oA oB oL th9 ys vs cap ts i k t u6 h5 tk5 I oI h4 hB tk4 tkA) → (∀ (l9 : Addr) (dx9 : Addr) (x9 : Addr) (D : Addr) (oA : Obj) (oB : Obj) (oL : Obj) (th9 : Tok) (ys : List Value) (vs : List Value) (cap : Nat) (ts : List (Addr × Obj)) (tr : Tok) (u : Str → Option Value) (h5 : Heap) (tk5 : Nat) (h4 : Heap) (hB : Heap) (tk4 : Nat) (tkA : Nat), P2 l9 dx9 x9 D oA oB oL th9 ys vs cap ts tr u h5 tk5 h4 hB tk4 tkA) → Body w s0 n0 j M bd tL tj tT tb ta dp un fr gd s Q E) := ⟨_, _, fun hcut hcut2 => by
  (k_with "execs cons" => first | (k_here; k_gentoks) | (k_here; k_made; walk_at "execs cons") | ((with_reducible refine wpAny_execs_cons ?_); (try dsimp only)))
  intro W hs hn hj hT1 hT2 hb1 hb2 hdp hun hret
  obtain ⟨X, loose, mean, mg, mb, T⟩ := id W
  k_dflt (refine' enterCV (L' := L') [(Str.ofString "letters", .str (spell s0 0) tL), (Str.ofString "mark", .str (ch j) tj), (Str.ofString "top", .int (M : Int) tT), (Str.ofString "bound", .int bd tb), (Str.ofString "asked", .str (spell s0 n0) ta)] [] ?k1 W ?k6 ?k7 ?k8 ?k9 ?kB ?kD ?_ rfl ?c2 ?c3 ?c4; walk_at "my.enterC")
  intro h₁ tkE cells F N Y hLow
  k_cells Y
  (try dsimp only [hdO, List.cons_append, List.nil_append] at *)
  (try simp only [List.cons_append, List.nil_append] at N)
  (try k_lt hLow)
  (try dsimp only [addrs, List.map, hideAll] at F N)
  have g1 := gdAt 1
  k_steps
  unfold Hold
  (rename News _ _ _ _ => N8)
  (rename Fr _ _ _ _ => F8)
  obtain ⟨l9, oA, oB, oL, e9, e10, e11, e12⟩ := nmo3 N8
  subst e9 e10 e11 e12
  have dA9 : oA.data = Data.cell (some (.str (spell s0 n0) ta)) := by assumption
  have dB9 : oB.data = Data.cell (some (.int bd tb)) := by assumption
  have dL9 : oL.data = Data.cell (some (.str (spell s0 0) tL)) := by assumption
  (rename (_ ∧ _ ∧ _) => l1)
  refine make0 (rest := [(L' + 1 + 1 + 1, oA), (L' + 1 + 1, oB), (L' + 1, oL)]) W F8 N8 (by k_mem) (fun p hp => .tail _ hp) (List.forall_mem_cons.mpr ⟨?r1, List.forall_mem_cons.mpr ⟨?r2, List.forall_mem_singleton.mpr ?r3⟩⟩) ?rd ?ru ?_
  case r1 => exact Nat.ne_of_lt l1.1
  case r2 => exact Nat.ne_of_lt l1.2.1
  case r3 => exact Nat.ne_of_lt l1.2.2
  case rd => walk_at "my.room"
  case ru => walk_at "my.units"
  clear F8 N8
  intro x9 dx9 th9 h2 tk2 F2 N2 lo9 lx9
  (try dsimp only [hdO, List.cons_append, List.nil_append] at N2)
  k_lt lo9
  k_lt2 lx9
  have n9 := nine (L := L') (x := x9) (d := dx9) (l := l9) (by assumption) (by assumption) l1
  have hM16 : M + 1 ≤ 16 := Nat.succ_le_succ hT2

  k_steps
  unfold Hold
  (rename News _ _ _ _ => N3)
  (rename Fr _ _ _ _ => F3)
  k_dflt (refine LCg.CompSrc.range (n := M + 1) (by rfl) F3 N3 (by assumption) (small_one (by omega) (by omega) (by omega) (by omega)) (by rw [rangeSize_nat]; omega) (by rw [sizeLine_eq]; omega) ?_)
  intro g'
  refine cr_fix (fun i ys => StrsAre ys ((List.range i).map (spell s0))) .nil ?_ ?_
  · rintro i ys v I oI C oC D m₂ h4 tk4 E' hi hy hS ⟨t, rfl⟩ hC hx F4 N4 off ne
    have hi16 : i < 16 := Nat.lt_of_lt_of_le hi hM16
    have hyb : ys.length ≤ 16 := by rw [hy]; exact Nat.le_of_lt hi16
    replace hy : Hid (ys.length = i) := ⟨hy⟩
    rw [Int.zero_add] at hx
    k_steps
    unfold Hold
    (rename News _ _ _ _ => N5)
    (rename Fr _ _ _ _ => F5)
    refine LCg.CompEnd.intro F5 N5 _ (fun p hp => hp) off trivial ⟨rfl, ?_⟩
    rw [List.range_succ, List.map_append]
    exact kct_snoc hS
  · intro ys hy hS D h4 tk4 F4 N4 off4
    have hyb : ys.length ≤ 16 := by rw [hy]; exact hM16
    replace hy : Hid (ys.length = M + 1) := ⟨hy⟩
    (try dsimp only)
    simp only [LCg.Off1, and_true] at off4
    k_steps
    unfold Hold
    (rename News _ _ _ _ => N5)
    (rename Fr _ _ _ _ => F5)
    k_dflt (refine rng (σ := List Value × Nat × List (Addr × Obj) × List (Str × Value)) (n := M + 1) (fun c => (x9, instObj 296 dx9) :: (dx9, dictOf [⟨PyData.keyHash w.params (Str.ofString "_headers"), .str (Str.ofString "_headers") th9, .ref l9⟩] 1) :: (l9, listOf c.1.toArray c.2.1) :: (D, LCg.lst ys) :: (L' + 1 + 1 + 1, oA) :: (L' + 1 + 1, oB) :: (L' + 1, oL) :: c.2.2.1) (fun c => c.2.2.2) stW (fun i c => Prs c.1 c.2.2.1 ((List.range i).map fun k => (spell s0 k, rp j (wn k))) ∧ PlW j i c.2.2.2) ([], 0, [], []) (by rfl) (by assumption) (small_one (by omega) (by omega) (by omega) (by omega)) (by rw [rangeSize_nat]; omega) F5 (by refine fun p hp => N5 p ?_; walk_at "my.pinY") (fun _ h => nomatch h) ⟨.nil, .inl ⟨rfl, rfl⟩⟩ ?_ ?_)
    · rename_i hB tkA q1 q2 q3 q4 q5
      rintro ⟨vs, cap, ts, pl⟩ i k t u h5 tk5 I oI hk hi off ⟨hP, hpl⟩ F6 N6
      dsimp only at hP hpl F6 N6 off
      rw [kst_forget hpl.keys] at F6
      generalize kstB u pl = u6 at F6
      clear hpl
      replace F6 : Fr s.heap L' h5 _ := F6
      replace N6 : News s.heap L' h5 _ := N6
      revert N6; revert F6; revert hP; revert off; revert hi; revert hk; revert off4; revert hy; revert hyb; revert hS; revert hM16; revert n9; revert lx9; revert lo9; revert dL9; revert dB9; revert dA9; revert l1; revert hret; revert hun; revert hdp; revert hb2; revert hb1; revert hT2; revert hT1; revert hj; revert hn; revert hs; revert W
      exact hcut l9 dx9 x9 D oA oB oL th9 ys vs cap ts i k t u6 h5 tk5 I oI h4 hB tk4 tkA
    · rename_i hB tkA q1 q2 q3 q4 q5
      rintro ⟨vs, cap, ts, pl⟩ u h5 tk5 ⟨hP, hpl⟩ F6 N6
      dsimp only at hP hpl F6 N6
      rcases hpl with ⟨h0, _⟩ | ⟨tr, rfl⟩
      · omega
      rw [show M + 1 - 1 = M from rfl] at F6
      replace F6 : Fr s.heap L' h5 _ := F6
      replace N6 : News s.heap L' h5 _ := N6
      revert N6; revert F6; revert hP; revert off4; revert hy; revert hyb; revert hS; revert hM16; revert n9; revert lx9; revert lo9; revert dL9; revert dB9; revert dA9; revert l1; revert hret; revert hun; revert hdp; revert hb2; revert hb1; revert hT2; revert hT1; revert hj; revert hn; revert hs; revert W
      exact hcut2 l9 dx9 x9 D oA oB oL th9 ys vs cap ts tr u h5 tk5 h4 hB tk4 tkA
  ⟩
namespace Lop
noncomputable def Body (l9 : Addr) (dx9 : Addr) (x9 : Addr) (D : Addr) (oA : Obj) (oB : Obj) (oL : Obj) (th9 : Tok) (ys : List Value) (vs : List Value) (cap : Nat) (ts : List (Addr × Obj)) (i : Nat) (k : Int) (t : Tok) (u6 : Str → Option Value) (h5 : Heap) (tk5 : Nat) (I : Addr) (oI : Obj) (h4 : Heap) (hB : Heap) (tk4 : Nat) (tkA : Nat) : Prop :=
    worC.1 l9 dx9 x9 D oA oB oL th9 ys vs cap ts i k t u6 h5 tk5 I oI h4 hB tk4 tkA
noncomputable def Ok (v : Addr × Addr × Addr × Addr × Obj × Obj × Obj × Tok × (List Value) × (List Value) × Nat × (List (Addr × Obj)) × Nat × Int × Tok × (Str → Option Value) × Heap × Nat × Addr × Obj × Heap × Heap × Nat × Nat) : Prop := Body v.1 v.2.1 v.2.2.1 v.2.2.2.1 v.2.2.2.2.1 v.2.2.2.2.2.1 v.2.2.2.2.2.2.1 v.2.2.2.2.2.2.2.1 v.2.2.2.2.2.2.2.2.1 v.2.2.2.2.2.2.2.2.2.1 v.2.2.2.2.2.2.2.2.2.2.1 v.2.2.2.2.2.2.2.2.2.2.2.1 v.2.2.2.2.2.2.2.2.2.2.2.2.1 v.2.2.2.2.2.2.2.2.2.2.2.2.2.1 v.2.2.2.2.2.2.2.2.2.2.2.2.2.2.1 v.2.2.2.2.2.2.2.2.2.2.2.2.2.2.2.1 v.2.2.2.2.2.2.2.2.2.2.2.2.2.2.2.2.1 v.2.2.2.2.2.2.2.2.2.2.2.2.2.2.2.2.2.1 v.2.2.2.2.2.2.2.2.2.2.2.2.2.2.2.2.2.2.1 v.2.2.2.2.2.2.2.2.2.2.2.2.2.2.2.2.2.2.2.1 v.2.2.2.2.2.2.2.2.2.2.2.2.2.2.2.2.2.2.2.2.1 v.2.2.2.2.2.2.2.2.2.2.2.2.2.2.2.2.2.2.2.2.2.1 v.2.2.2.2.2.2.2.2.2.2.2.2.2.2.2.2.2.2.2.2.2.2.1 v.2.2.2.2.2.2.2.2.2.2.2.2.2.2.2.2.2.2.2.2.2.2.2
theorem ne : Nonempty (Addr × Addr × Addr × Addr × Obj × Obj × Obj × Tok × (List Value) × (List Value) × Nat × (List (Addr × Obj)) × Nat × Int × Tok × (Str → Option Value) × Heap × Nat × Addr × Obj × Heap × Heap × Nat × Nat) := ⟨((0 : Nat), (0 : Nat), (0 : Nat), (0 : Nat), default, default, default, 0, [], [], 0, [], 0, 0, 0, fun _ => none, {}, 0, (0 : Nat), default, {}, {}, 0, 0)⟩
noncomputable def v0 : Addr × Addr × Addr × Addr × Obj × Obj × Obj × Tok × (List Value) × (List Value) × Nat × (List (Addr × Obj)) × Nat × Int × Tok × (Str → Option Value) × Heap × Nat × Addr × Obj × Heap × Heap × Nat × Nat := Classical.choose (one_for_all ne Ok)
@[irreducible] noncomputable def l9 : Addr := v0.1
@[irreducible] noncomputable def dx9 : Addr := v0.2.1
@[irreducible] noncomputable def x9 : Addr := v0.2.2.1
@[irreducible] noncomputable def D : Addr := v0.2.2.2.1
@[irreducible] noncomputable def oA : Obj := v0.2.2.2.2.1
@[irreducible] noncomputable def oB : Obj := v0.2.2.2.2.2.1
@[irreducible] noncomputable def oL : Obj := v0.2.2.2.2.2.2.1
@[irreducible] noncomputable def th9 : Tok := v0.2.2.2.2.2.2.2.1
@[irreducible] noncomputable def ys : List Value := v0.2.2.2.2.2.2.2.2.1
@[irreducible] noncomputable def vs : List Value := v0.2.2.2.2.2.2.2.2.2.1
@[irreducible] noncomputable def cap : Nat := v0.2.2.2.2.2.2.2.2.2.2.1
@[irreducible] noncomputable def ts : List (Addr × Obj) := v0.2.2.2.2.2.2.2.2.2.2.2.1
@[irreducible] noncomputable def i : Nat := v0.2.2.2.2.2.2.2.2.2.2.2.2.1
@[irreducible] noncomputable def k : Int := v0.2.2.2.2.2.2.2.2.2.2.2.2.2.1
@[irreducible] noncomputable def t : Tok := v0.2.2.2.2.2.2.2.2.2.2.2.2.2.2.1
@[irreducible] noncomputable def u6 : Str → Option Value := v0.2.2.2.2.2.2.2.2.2.2.2.2.2.2.2.1
@[irreducible] noncomputable def h5 : Heap := v0.2.2.2.2.2.2.2.2.2.2.2.2.2.2.2.2.1
@[irreducible] noncomputable def tk5 : Nat := v0.2.2.2.2.2.2.2.2.2.2.2.2.2.2.2.2.2.1
@[irreducible] noncomputable def I : Addr := v0.2.2.2.2.2.2.2.2.2.2.2.2.2.2.2.2.2.2.1
@[irreducible] noncomputable def oI : Obj := v0.2.2.2.2.2.2.2.2.2.2.2.2.2.2.2.2.2.2.2.1
@[irreducible] noncomputable def h4 : Heap := v0.2.2.2.2.2.2.2.2.2.2.2.2.2.2.2.2.2.2.2.2.1
@[irreducible] noncomputable def hB : Heap := v0.2.2.2.2.2.2.2.2.2.2.2.2.2.2.2.2.2.2.2.2.2.1
@[irreducible] noncomputable def tk4 : Nat := v0.2.2.2.2.2.2.2.2.2.2.2.2.2.2.2.2.2.2.2.2.2.2.1
@[irreducible] noncomputable def tkA : Nat := v0.2.2.2.2.2.2.2.2.2.2.2.2.2.2.2.2.2.2.2.2.2.2.2
theorem all (l9 : Addr) (dx9 : Addr) (x9 : Addr) (D : Addr) (oA : Obj) (oB : Obj) (oL : Obj) (th9 : Tok) (ys : List Value) (vs : List Value) (cap : Nat) (ts : List (Addr × Obj)) (i : Nat) (k : Int) (t : Tok) (u6 : Str → Option Value) (h5 : Heap) (tk5 : Nat) (I : Addr) (oI : Obj) (h4 : Heap) (hB : Heap) (tk4 : Nat) (tkA : Nat) (h : Body Lop.l9 Lop.dx9 Lop.x9 Lop.D Lop.oA Lop.oB Lop.oL Lop.th9 Lop.ys Lop.vs Lop.cap Lop.ts Lop.i Lop.k Lop.t Lop.u6 Lop.h5 Lop.tk5 Lop.I Lop.oI Lop.h4 Lop.hB Lop.tk4 Lop.tkA) : Body l9 dx9 x9 D oA oB oL th9 ys vs cap ts i k t u6 h5 tk5 I oI h4 hB tk4 tkA := by
  delta Lop.l9 Lop.dx9 Lop.x9 Lop.D Lop.oA Lop.oB Lop.oL Lop.th9 Lop.ys Lop.vs Lop.cap Lop.ts Lop.i Lop.k Lop.t Lop.u6 Lop.h5 Lop.tk5 Lop.I Lop.oI Lop.h4 Lop.hB Lop.tk4 Lop.tkA at h
  exact Classical.choose_spec (one_for_all ne Ok) h (l9, dx9, x9, D, oA, oB, oL, th9, ys, vs, cap, ts, i, k, t, u6, h5, tk5, I, oI, h4, hB, tk4, tkA)
set_option maxRecDepth 100000 in
set_option maxHeartbeats 2000000 in
theorem walk : Body l9 dx9 x9 D oA oB oL th9 ys vs cap ts i k t u6 h5 tk5 I oI h4 hB tk4 tkA := by
  intro W hs hn hj hT1 hT2 hb1 hb2 hdp hun hret l1 dA9 dB9 dL9 lo9 lx9 n9 hM16 hS hyb hy off4 hk hi off hP F6 N6
  obtain ⟨X, loose, mean, mg, mb, T⟩ := id W
  have g1 := gdAt 1
  skip
  skip
  skip
  skip
  simp only [LCg.Off1] at off
  have hk1 : k = (i : Int) := by omega
  have hi16 : i < 16 := Nat.lt_of_lt_of_le hi hM16
  have hkY : k < (ys.length : Int) := by rw [hk1, hy.out]; exact Int.ofNat_lt.mpr hi
  have hkY1 : k - 1 < (ys.length : Int) := Int.lt_trans (Int.sub_lt_self k (by decide)) hkY
  have mk9 := kstMark
  k_steps
  unfold Hold
  (rename News _ _ _ _ => N7)
  (rename Fr _ _ _ _ => F7)
  k_dflt (refine rng (σ := Str × Tok) (n := 4) (fun _ => _) (fun c => [(Str.ofString "name", .str c.1 c.2)]) [] (fun i2 c => c.1 = namePre s0 i i2) (Str.ofString "", _) (by rfl) (by assumption) (small_one (by decide) (by decide) (by decide) (by decide)) (by rfl) F7 N7 (List.forall_mem_singleton.mpr rfl) rfl ?_ ?_)
  · rintro ⟨nm, tn⟩ i2 k2 t2 u7 h8 tk8 I2 oI2 hk2 hi2 off2 hnm F8 N8
    dsimp only at hnm F8 N8 off2
    have hk3 : k2 = (i2 : Int) := by omega
    have hk4 : 0 ≤ k2 := by omega
    have hk5 : k2 < 4 := by omega
    have hL9 : (spell s0 0).length = 4 := rfl
    have e1 : Txt.item (spell s0 0) k2 = sp1 s0 0 i2 := by rw [hk3]; exact item_spell ⟨s0, hs⟩ 0 ⟨i2, hi2⟩
    have e2 : Txt.upper (sp1 s0 0 i2) = sp1 s0 15 i2 := upper_sp1 ⟨s0, hs⟩ ⟨i2, hi2⟩
    have e3 := sp1_15 ⟨s0, hs⟩ ⟨i, hi16⟩ ⟨i2, hi2⟩
    have e4 := bit_told ⟨i, hi16⟩ ⟨i2, hi2⟩
    have e5 := namePre_step ⟨s0, hs⟩ ⟨i, hi16⟩ ⟨i2, hi2⟩
    have hnl : nm.length ≤ 10 := by
      rw [hnm]
      show ((List.range i2).map (sg s0 i)).toArray.size ≤ 10
      simp
      omega
    dsimp only at e3 e4 e5
    k_steps
    all_goals (unfold Hold; (rename News _ _ _ _ => N9); (rename Fr _ _ _ _ => F9); (first | (rename (_ = 1) => hq9) | (rename (_ ≠ 1) => hq9)); rw [hk1, hk3, Int.toNat_natCast] at hq9)
    · exact rng_end (_, _) F9 N9 (by k_mem) (fun p hp => .tail _ hp) (off1_mem off2) (List.forall_mem_singleton.mpr rfl) (by walk_at "my.same") (by show _ ++ Txt.upper _ = _; rw [e1, e2, e3.1 (e4.mp hq9), hnm]; exact e5)
    · exact rng_end (_, _) F9 N9 (by k_mem) (fun p hp => .tail _ hp) (off1_mem off2) (List.forall_mem_singleton.mpr rfl) (by walk_at "my.same") (by show _ ++ _ = _; rw [e1, e3.2 (fun q => hq9 (e4.mpr q)), hnm]; exact e5)
  · rintro ⟨nm, tn⟩ u7 h8 tk8 hnm F8 N8
    dsimp only at hnm F8 N8
    have hnm4 : nm = spell s0 i := hnm
    subst hnm4
    clear hnm F7 N7
    have g3 := gdAt 3
    k_steps
    unfold Hold
    (rename Gd 3 => g9; clear g9)
    refine cut_st (σ := Tok) (fun t => [(Str.ofString "worth", .int (wn i) t)]) [Str.ofString "turned", Str.ofString "great"] (fun _ => True) F8 N8 ?_ ?_
    · refine wpAny_If ?_
      rcases ((fun n => by cases n with | zero => exact .inl rfl | succ n => exact .inr ⟨n, rfl⟩ : ∀ n : Nat, n = 0 ∨ ∃ i', n = i' + 1) i) with hz | ⟨i', hz⟩
      · k_steps
        all_goals (try (exfalso; omega))
        unfold Hold
        (rename News _ _ _ _ => N9)
        (rename Fr _ _ _ _ => F9)
        exact cut_end _ F9 N9 (List.forall_mem_singleton.mpr (congrArg (fun z => some (Value.int z _)) (show (0 : Int) = wn i by rw [hz]; rfl))) (by walk_at "my.csame") trivial
      · have hlv1 : lev (spell s0 i') (spell s0 i) bd = unl (spell s0 i') (spell s0 i) := by rw [hz]; exact lev_next hs (n := i') (by omega) hb1
        have hlv2 := lev_great hs hi16 hb1
        have hw9 : wn i = if (unl (spell s0 i') (spell s0 i)).fmod 2 = 1 then 2 - (unl (spell s0 0) (spell s0 i)).fmod 2 else 0 := by rw [hz]; exact wn_told ⟨s0, hs⟩ ⟨i', by omega⟩
        have hnv : ((List.range (M + 1)).map (spell s0))[(k - 1).toNat]? = some (spell s0 i') := by
          rw [up9 (hz ▸ hk), List.getElem?_map, List.getElem?_range (by omega)]
          rfl
        (try dsimp only at hlv1 hlv2 hw9)
        have hsl1 : (spell s0 i').length = 4 := rfl
        have hsl2 : (spell s0 i).length = 4 := rfl
        have hsl3 : (spell s0 0).length = 4 := rfl
        generalize hu1 : unl (spell s0 i') (spell s0 i) = u1 at hlv1 hw9
        generalize hu2 : unl (spell s0 0) (spell s0 i) = u2 at hlv2 hw9
        k_steps
        all_goals (unfold Hold; (rename News _ _ _ _ => N9); (rename Fr _ _ _ _ => F9); (try dsimp only))
        · (rename (_ = 1) => hq9)
          exact cut_end _ F9 N9 (List.forall_mem_singleton.mpr (congrArg (fun z => some (Value.int z _)) (by rw [hw9, if_pos hq9]))) (by walk_at "my.csame") trivial
        · (rename (_ ≠ 1) => hq9)
          exact cut_end _ F9 N9 (List.forall_mem_singleton.mpr (congrArg (fun z => some (Value.int z _)) (by rw [hw9, if_neg hq9]))) (by walk_at "my.csame") trivial
    · rintro tw u9 h9 tk9 _ F9 N9
      dsimp only at F9 N9 ⊢
      have hwv := wn_fin ⟨i, hi16⟩
      dsimp only at hwv
      generalize hwn : wn i = wv at F9 hwv
      have g3 := gdAt 3
      have hcl : (ch j).length = 1 := rfl
      have hcl2 : (Txt.mul (ch j) 2).length = 2 := rfl
      have hcl3 : (Str.ofString "229 (").length = 5 := rfl
      have hcl4 : (Str.ofString "1").length = 1 := rfl
      have hcl5 : (Str.ofString ")").length = 1 := rfl
      have hcl6 : (Str.ofString (toString wv)).length = 1 := by rcases hwv with rfl | rfl | rfl <;> rfl
      k_steps
      unfold Hold
      (rename Gd 3 => g9; clear g9)
      (rename News _ _ _ _ => N10)
      (rename Fr _ _ _ _ => F10)
      clear N9 F9 N8 F8
      rw [show Str.ofString "229 (" ++ ch j ++ Str.ofString "1" ++ Txt.mul (ch j) 2 ++ Str.ofString (toString wv) ++ ch j ++ Str.ofString ")" = rp j wv from rfl] at F10
      have crp : Clean (rp j wv) := by
        rcases hwv with rfl | rfl | rfl
        · exact Clean.of (rp_ok ⟨j, hj⟩ 0).2.2
        · exact Clean.of (rp_ok ⟨j, hj⟩ 1).2.2
        · exact Clean.of (rp_ok ⟨j, hj⟩ 2).2.2
      have csp : Clean (spell s0 i) := Clean.of (spell_clean ⟨s0, hs⟩ ⟨i, hi16⟩).1
      refine wpAny_If ?_
      k_steps
      unfold Hold
      (rename News _ _ _ _ => N11)
      (rename Fr _ _ _ _ => F11)
      obtain ⟨rs9, hrs⟩ : ∃ rs, rs = (D, LCg.lst ys) :: (L' + 1 + 1 + 1, oA) :: (L' + 1 + 1, oB) :: (L' + 1, oL) :: ts := ⟨_, rfl⟩
      have N12 : News s.heap L' _ ((I, oI) :: (hdO w x9 dx9 l9 th9 vs cap ++ ((D, LCg.lst ys) :: (L' + 1 + 1 + 1, oA) :: (L' + 1 + 1, oB) :: (L' + 1, oL) :: ts))) := fun p hp => N11 p (.tail _ hp)
      clear N11
      have hvl : vs.length ≤ 1000 := by rw [hP.length]; simp; omega
      have hof : OwnOff ts [x9, dx9, l9] := hP.off (ws := vs) N12 (fun p hp => .tail _ (List.mem_append_left _ hp)) (fun p hp => .tail _ (List.mem_append_right _ (.tail _ (.tail _ (.tail _ (.tail _ hp))))))
      k_dflt (refine MCall2.use (own := hdO w x9 dx9 l9 th9 vs cap) (rest := (I, oI) :: (D, LCg.lst ys) :: (L' + 1 + 1 + 1, oA) :: (L' + 1 + 1, oB) :: (L' + 1, oL) :: ts) (c_addheader (W.under F11 N12 (fun p hp => .tail _ (List.mem_append_left _ hp))) (fun p hp => (N12 p (.tail _ (List.mem_append_left _ hp))).1) (by omega) (by omega) (by omega) hvl _ _ _ _ csp crp) ?d9 ?u9 F11 N12 (fun p hp => .tail _ (List.mem_append_left _ hp)) ?n9 ?r9 ?_)
      case d9 => walk_at "my.room"
      case u9 => walk_at "my.units"
      case n9 => exact fun p hp => (List.mem_cons.mp hp).elim (fun e => e ▸ .head _) fun q => .tail _ (List.mem_append_right _ q)
      case r9 =>
        have hm : ∀ a : Addr, @Ne Nat a x9 → @Ne Nat a dx9 → @Ne Nat a l9 → a ∉ addrs (hdO w x9 dx9 l9 th9 vs cap) := fun a q1 q2 q3 z => by
          simp only [hdO, addrs, List.map_cons, List.map_nil, List.mem_cons, List.not_mem_nil, or_false] at z
          rcases z with z | z | z
          · exact q1 z
          · exact q2 z
          · exact q3 z
        refine List.forall_mem_cons.mpr ⟨hm _ (Ne.symm off.1) (Ne.symm off.2.1) (Ne.symm off.2.2.1), List.forall_mem_cons.mpr ⟨hm _ (Ne.symm off4.1) (Ne.symm off4.2.1) (Ne.symm off4.2.2.1), List.forall_mem_cons.mpr ⟨hm _ n9.1.1 n9.1.2.1 n9.1.2.2, List.forall_mem_cons.mpr ⟨hm _ n9.2.1.1 n9.2.1.2.1 n9.2.1.2.2, List.forall_mem_cons.mpr ⟨hm _ n9.2.2.1 n9.2.2.2.1 n9.2.2.2.2, fun p hp => ?_⟩⟩⟩⟩⟩
        exact hm _ (hof p hp _ (.head _)) (hof p hp _ (.tail _ (.head _))) (hof p hp _ (.tail _ (.tail _ (.head _))))
      rintro v9 own9 h12 tk12 ⟨rfl, t9, ta9, tb9, nt9, rfl⟩ F13 N13 hA
      dsimp only
      k_steps
      unfold Hold
      (rename News _ _ _ _ => N14)
      (rename Fr _ _ _ _ => F14)
      have htI : @Ne Nat t9 I := by
        rcases hA _ (List.mem_append_right _ (.head _)) with z | z
        · simp only [hdO, addrs, List.map_cons, List.map_nil, List.mem_cons, List.not_mem_nil, or_false] at z
          rcases z with z | z | z
          · exact fun q => off.1 (z.symm.trans q)
          · exact fun q => off.2.1 (z.symm.trans q)
          · exact fun q => off.2.2.1 (z.symm.trans q)
        · exact z (I, oI) (List.mem_append_right _ (.head _))
      refine rng_end (vs ++ [.ref t9], cap + 1, ts ++ [(t9, _)], [(Str.ofString "reply", .str (rp j wv) _)]) F14 N14 (List.mem_append_right _ (.head _)) sub_led ?_ (List.forall_mem_singleton.mpr rfl) (by unfold stW; walk_at "my.same") ⟨?_, ?_⟩
      · have offT := off1_mem off.2.2.2.2.2.2.2
        refine List.forall_mem_cons.mpr ⟨off.1, List.forall_mem_cons.mpr ⟨off.2.1, List.forall_mem_cons.mpr ⟨off.2.2.1, List.forall_mem_cons.mpr ⟨off.2.2.2.1, List.forall_mem_cons.mpr ⟨off.2.2.2.2.1, List.forall_mem_cons.mpr ⟨off.2.2.2.2.2.1, List.forall_mem_cons.mpr ⟨off.2.2.2.2.2.2.1, fun p hp => ?_⟩⟩⟩⟩⟩⟩⟩
        rcases List.mem_append.mp hp with q | q
        · exact offT p q
        · rw [List.mem_singleton.mp q]; exact htI
      · rw [List.range_succ, List.map_append]
        show Prs _ _ (_ ++ [(spell s0 i, rp j (wn i))])
        rw [hwn]
        exact hP.append (.cons t9 _ _ ta9 tb9 nt9 .nil)
      · exact .inr ⟨_, by rw [show wn (i + 1 - 1) = wv from hwn]⟩
end Lop
namespace Tai
noncomputable def Body (l9 : Addr) (dx9 : Addr) (x9 : Addr) (D : Addr) (oA : Obj) (oB : Obj) (oL : Obj) (th9 : Tok) (ys : List Value) (vs : List Value) (cap : Nat) (ts : List (Addr × Obj)) (tr : Tok) (u : Str → Option Value) (h5 : Heap) (tk5 : Nat) (h4 : Heap) (hB : Heap) (tk4 : Nat) (tkA : Nat) : Prop :=
    worC.2.1 l9 dx9 x9 D oA oB oL th9 ys vs cap ts tr u h5 tk5 h4 hB tk4 tkA
noncomputable def Ok (v : Addr × Addr × Addr × Addr × Obj × Obj × Obj × Tok × (List Value) × (List Value) × Nat × (List (Addr × Obj)) × Tok × (Str → Option Value) × Heap × Nat × Heap × Heap × Nat × Nat) : Prop := Body v.1 v.2.1 v.2.2.1 v.2.2.2.1 v.2.2.2.2.1 v.2.2.2.2.2.1 v.2.2.2.2.2.2.1 v.2.2.2.2.2.2.2.1 v.2.2.2.2.2.2.2.2.1 v.2.2.2.2.2.2.2.2.2.1 v.2.2.2.2.2.2.2.2.2.2.1 v.2.2.2.2.2.2.2.2.2.2.2.1 v.2.2.2.2.2.2.2.2.2.2.2.2.1 v.2.2.2.2.2.2.2.2.2.2.2.2.2.1 v.2.2.2.2.2.2.2.2.2.2.2.2.2.2.1 v.2.2.2.2.2.2.2.2.2.2.2.2.2.2.2.1 v.2.2.2.2.2.2.2.2.2.2.2.2.2.2.2.2.1 v.2.2.2.2.2.2.2.2.2.2.2.2.2.2.2.2.2.1 v.2.2.2.2.2.2.2.2.2.2.2.2.2.2.2.2.2.2.1 v.2.2.2.2.2.2.2.2.2.2.2.2.2.2.2.2.2.2.2
theorem ne : Nonempty (Addr × Addr × Addr × Addr × Obj × Obj × Obj × Tok × (List Value) × (List Value) × Nat × (List (Addr × Obj)) × Tok × (Str → Option Value) × Heap × Nat × Heap × Heap × Nat × Nat) := ⟨((0 : Nat), (0 : Nat), (0 : Nat), (0 : Nat), default, default, default, 0, [], [], 0, [], 0, fun _ => none, {}, 0, {}, {}, 0, 0)⟩
noncomputable def v0 : Addr × Addr × Addr × Addr × Obj × Obj × Obj × Tok × (List Value) × (List Value) × Nat × (List (Addr × Obj)) × Tok × (Str → Option Value) × Heap × Nat × Heap × Heap × Nat × Nat := Classical.choose (one_for_all ne Ok)
@[irreducible] noncomputable def l9 : Addr := v0.1
@[irreducible] noncomputable def dx9 : Addr := v0.2.1
@[irreducible] noncomputable def x9 : Addr := v0.2.2.1
@[irreducible] noncomputable def D : Addr := v0.2.2.2.1
@[irreducible] noncomputable def oA : Obj := v0.2.2.2.2.1
@[irreducible] noncomputable def oB : Obj := v0.2.2.2.2.2.1
@[irreducible] noncomputable def oL : Obj := v0.2.2.2.2.2.2.1
@[irreducible] noncomputable def th9 : Tok := v0.2.2.2.2.2.2.2.1
@[irreducible] noncomputable def ys : List Value := v0.2.2.2.2.2.2.2.2.1
@[irreducible] noncomputable def vs : List Value := v0.2.2.2.2.2.2.2.2.2.1
@[irreducible] noncomputable def cap : Nat := v0.2.2.2.2.2.2.2.2.2.2.1
@[irreducible] noncomputable def ts : List (Addr × Obj) := v0.2.2.2.2.2.2.2.2.2.2.2.1
@[irreducible] noncomputable def tr : Tok := v0.2.2.2.2.2.2.2.2.2.2.2.2.1
@[irreducible] noncomputable def u : Str → Option Value := v0.2.2.2.2.2.2.2.2.2.2.2.2.2.1
@[irreducible] noncomputable def h5 : Heap := v0.2.2.2.2.2.2.2.2.2.2.2.2.2.2.1
@[irreducible] noncomputable def tk5 : Nat := v0.2.2.2.2.2.2.2.2.2.2.2.2.2.2.2.1
@[irreducible] noncomputable def h4 : Heap := v0.2.2.2.2.2.2.2.2.2.2.2.2.2.2.2.2.1
@[irreducible] noncomputable def hB : Heap := v0.2.2.2.2.2.2.2.2.2.2.2.2.2.2.2.2.2.1
@[irreducible] noncomputable def tk4 : Nat := v0.2.2.2.2.2.2.2.2.2.2.2.2.2.2.2.2.2.2.1
@[irreducible] noncomputable def tkA : Nat := v0.2.2.2.2.2.2.2.2.2.2.2.2.2.2.2.2.2.2.2
theorem all (l9 : Addr) (dx9 : Addr) (x9 : Addr) (D : Addr) (oA : Obj) (oB : Obj) (oL : Obj) (th9 : Tok) (ys : List Value) (vs : List Value) (cap : Nat) (ts : List (Addr × Obj)) (tr : Tok) (u : Str → Option Value) (h5 : Heap) (tk5 : Nat) (h4 : Heap) (hB : Heap) (tk4 : Nat) (tkA : Nat) (h : Body Tai.l9 Tai.dx9 Tai.x9 Tai.D Tai.oA Tai.oB Tai.oL Tai.th9 Tai.ys Tai.vs Tai.cap Tai.ts Tai.tr Tai.u Tai.h5 Tai.tk5 Tai.h4 Tai.hB Tai.tk4 Tai.tkA) : Body l9 dx9 x9 D oA oB oL th9 ys vs cap ts tr u h5 tk5 h4 hB tk4 tkA := by
  delta Tai.l9 Tai.dx9 Tai.x9 Tai.D Tai.oA Tai.oB Tai.oL Tai.th9 Tai.ys Tai.vs Tai.cap Tai.ts Tai.tr Tai.u Tai.h5 Tai.tk5 Tai.h4 Tai.hB Tai.tk4 Tai.tkA at h
  exact Classical.choose_spec (one_for_all ne Ok) h (l9, dx9, x9, D, oA, oB, oL, th9, ys, vs, cap, ts, tr, u, h5, tk5, h4, hB, tk4, tkA)
set_option maxRecDepth 100000 in
set_option maxHeartbeats 2000000 in
theorem walk : Body l9 dx9 x9 D oA oB oL th9 ys vs cap ts tr u h5 tk5 h4 hB tk4 tkA := by
  intro W hs hn hj hT1 hT2 hb1 hb2 hdp hun hret l1 dA9 dB9 dL9 lo9 lx9 n9 hM16 hS hyb hy off4 hP F6 N6
  obtain ⟨X, loose, mean, mg, mb, T⟩ := id W
  have g1 := gdAt 1
  skip
  skip
  skip
  skip
  skip
  have mk9 := kstMark
  have hla : (spell s0 n0).length = 4 := rfl
  have g5 := gdAt 5
  k_steps
  unfold Hold
  (rename Gd 5 => g9; clear g9)
  (rename News _ _ _ _ => N7)
  (rename Fr _ _ _ _ => F7)
  rw [show Txt.slice (spell s0 n0) (some 1) none ++ Txt.item (spell s0 n0) 0 = turnS s0 n0 from rfl] at F7 N7 ⊢
  rw [show Txt.item (spell s0 n0) 1 ++ Txt.slice (spell s0 n0) (some 1) none = dupS s0 n0 from rfl] at N7
  have hlv := lev_turn hs hn hb1
  have hlv1 := hlv.1
  have hlv2 := hlv.2
  have hln := turnS_len ⟨s0, hs⟩ ⟨n0, hn⟩
  dsimp only at hlv1 hlv2 hln
  obtain ⟨hln1, hln2⟩ := hln
  refine ⟨_, _, _, rfl, by rfl, F7, N7, ⟨_, List.mem_cons_self⟩, by exact Nat.le_of_ble_eq_true rfl, fun g => ?_⟩
  refine cr_fix (fun i ys => IntsAre ys (([4, 2] : List Int).take i)) .nil ?_ ?_
  · rintro i2 ys2 v I2 oI2 C oC D2 m₂ h8 tk8 E' hi2 hy2 hS2 hv hC hx F8 N8 off8 ne8
    have hi3 : i2 < 2 := hi2
    rcases two9 hi3 with rfl | rfl
    · cases hv
      k_steps
      unfold Hold
      (rename News _ _ _ _ => N9)
      (rename Fr _ _ _ _ => F9)
      exact LCg.CompEnd.intro F9 N9 _ (fun p hp => hp) off8 ⟨_, List.mem_cons_self⟩ ⟨rfl, hS2.append (.cons _ _ .nil)⟩
    · cases hv
      k_steps
      unfold Hold
      (rename News _ _ _ _ => N9)
      (rename Fr _ _ _ _ => F9)
      exact LCg.CompEnd.intro F9 N9 _ (fun p hp => hp) off8 ⟨_, List.mem_cons_self⟩ ⟨rfl, hS2.append (.cons _ _ .nil)⟩
  · intro ys2 hy2 hS2 D2 h8 tk8 F8 N8 off8
    (try dsimp only)
    have hS3 : IntsAre ys2 [4, 2] := hS2
    simp only [LCg.Off1] at off8
    k_steps
    unfold Hold
    (rename News _ _ _ _ => N9)
    (rename Fr _ _ _ _ => F9)
    have N10 := News_sub (hdO w x9 dx9 l9 th9 vs cap ++ ((D2, LCg.lst ys2) :: (D, LCg.lst ys) :: (L' + 1 + 1 + 1, oA) :: (L' + 1 + 1, oB) :: (L' + 1, oL) :: ts)) N9 (List.forall_mem_cons.mpr ⟨.tail _ (.tail _ (.head _)), List.forall_mem_cons.mpr ⟨.tail _ (.tail _ (.tail _ (.head _))), List.forall_mem_cons.mpr ⟨.tail _ (.tail _ (.tail _ (.tail _ (.head _)))), List.forall_mem_cons.mpr ⟨.head _, List.forall_mem_cons.mpr ⟨.tail _ (.tail _ (.tail _ (.tail _ (.tail _ (.head _))))), List.forall_mem_cons.mpr ⟨.tail _ (.tail _ (.tail _ (.tail _ (.tail _ (.tail _ (.head _)))))), List.forall_mem_cons.mpr ⟨.tail _ (.tail _ (.tail _ (.tail _ (.tail _ (.tail _ (.tail _ (.head _))))))), List.forall_mem_cons.mpr ⟨.tail _ (.tail _ (.tail _ (.tail _ (.tail _ (.tail _ (.tail _ (.tail _ (.head _)))))))), fun p hp => .tail _ (.tail _ (.tail _ (.tail _ (.tail _ (.tail _ (.tail _ (.tail _ (.tail _ (hp)))))))))⟩⟩⟩⟩⟩⟩⟩⟩)
    clear N9
    have hvl : Hid (vs.length = M + 1) := ⟨by rw [hP.length]; simp⟩
    have hvb : vs.length ≤ 1000 := by rw [hvl.out]; exact Nat.le_trans hM16 (by decide)
    have hof : OwnOff ts [x9, dx9, l9] := hP.off (ws := vs) N10 (fun p hp => List.mem_append_left _ hp) (fun p hp => List.mem_append_right _ (.tail _ (.tail _ (.tail _ (.tail _ (.tail _ hp))))))
    have crp : Clean (rp j (wn M)) := by
      rcases wn_fin ⟨M, hM16⟩ with e | e | e
      · rw [e]; exact Clean.of (rp_ok ⟨j, hj⟩ 0).2.2
      · rw [e]; exact Clean.of (rp_ok ⟨j, hj⟩ 1).2.2
      · rw [e]; exact Clean.of (rp_ok ⟨j, hj⟩ 2).2.2
    have ctu : Clean (turnS s0 n0) := Clean.of (turnS_clean ⟨s0, hs⟩ ⟨n0, hn⟩).1
    have hmO : ∀ (vs : List Value) (cap : Nat) (a : Addr), @Ne Nat a x9 → @Ne Nat a dx9 → @Ne Nat a l9 → a ∉ addrs (hdO w x9 dx9 l9 th9 vs cap) := fun vs cap a q1 q2 q3 z => by
      simp only [hdO, addrs, List.map_cons, List.map_nil, List.mem_cons, List.not_mem_nil, or_false] at z
      rcases z with z | z | z
      · exact q1 z
      · exact q2 z
      · exact q3 z
    k_dflt (refine MCall2.use (own := hdO w x9 dx9 l9 th9 vs cap) (rest := (D2, LCg.lst ys2) :: (D, LCg.lst ys) :: (L' + 1 + 1 + 1, oA) :: (L' + 1 + 1, oB) :: (L' + 1, oL) :: ts) (c_addheader (W.under F9 N10 (fun p hp => List.mem_append_left _ hp)) (fun p hp => (N10 p (List.mem_append_left _ hp)).1) (by omega) (by omega) (by omega) (by omega) _ _ _ _ ctu crp) ?d8 ?u8 F9 N10 (fun p hp => List.mem_append_left _ hp) (fun p hp => List.mem_append_right _ hp) ?r8 ?_)
    case d8 => walk_at "my.room"
    case u8 => walk_at "my.units"
    case r8 =>
      refine List.forall_mem_cons.mpr ⟨hmO _ _ _ (Ne.symm off8.2.1) (Ne.symm off8.2.2.1) (Ne.symm off8.2.2.2.1), List.forall_mem_cons.mpr ⟨hmO _ _ _ (Ne.symm off4.1) (Ne.symm off4.2.1) (Ne.symm off4.2.2.1), List.forall_mem_cons.mpr ⟨hmO _ _ _ n9.1.1 n9.1.2.1 n9.1.2.2, List.forall_mem_cons.mpr ⟨hmO _ _ _ n9.2.1.1 n9.2.1.2.1 n9.2.1.2.2, List.forall_mem_cons.mpr ⟨hmO _ _ _ n9.2.2.1 n9.2.2.2.1 n9.2.2.2.2, fun p hp => ?_⟩⟩⟩⟩⟩
      exact hmO _ _ _ (hof p hp _ (.head _)) (hof p hp _ (.tail _ (.head _))) (hof p hp _ (.tail _ (.tail _ (.head _))))
    rintro v9 own9 h12 tk12 ⟨rfl, t9, ta9, tb9, nt9, rfl⟩ F13 N13 hA
    dsimp only
    k_steps
    unfold Hold
    (rename News _ _ _ _ => N14)
    (rename Fr _ _ _ _ => F14)
    have hP2 := hP.append (.cons t9 (turnS s0 n0) (rp j (wn M)) ta9 tb9 nt9 .nil)
    obtain ⟨vs2, hvs2⟩ : ∃ z, z = vs ++ [.ref t9] := ⟨_, rfl⟩
    obtain ⟨ts2, hts2⟩ : ∃ z, z = ts ++ [(t9, ({ cls := .type "tuple", data := .seq #[.str (turnS s0 n0) ta9, .str (rp j (wn M)) tb9] nt9 } : Obj))] := ⟨_, rfl⟩
    have hvl2 : vs2.length ≤ 17 := by rw [hvs2, List.length_append, hvl.out]; exact Nat.succ_le_succ hM16
    have N15 := News_sub (hdO w x9 dx9 l9 th9 vs2 (cap + 1) ++ ts2 ++ [(D2, LCg.lst ys2), (D, LCg.lst ys), (L' + 1 + 1 + 1, oA), (L' + 1 + 1, oB), (L' + 1, oL)]) N14 (by
      intro p hp
      rw [hts2, hvs2] at hp
      walk_at "my.pin")
    rw [← hvs2, ← hts2] at hP2
    clear N14 hA hts2 hvs2
    have hT9 : ∀ p ∈ ts2, p ∈ hdO w x9 dx9 l9 th9 vs2 (cap + 1) ++ ts2 ++ [(D2, LCg.lst ys2), (D, LCg.lst ys), (L' + 1 + 1 + 1, oA), (L' + 1 + 1, oB), (L' + 1, oL)] := fun p hp => List.mem_append_left _ (List.mem_append_right _ hp)
    have hoff9 : ∀ p ∈ [(D2, LCg.lst ys2), (D, LCg.lst ys), (L' + 1 + 1 + 1, oA), (L' + 1 + 1, oB), (L' + 1, oL)], p.1 ∉ addrs (hdO w x9 dx9 l9 th9 vs2 (cap + 1) ++ ts2) := by
      have both : ∀ a : Addr, a ∉ addrs (hdO w x9 dx9 l9 th9 vs2 (cap + 1)) → a ∉ addrs ts2 → a ∉ addrs (hdO w x9 dx9 l9 th9 vs2 (cap + 1) ++ ts2) := fun a h1 h2 h3 => by
        rw [addrs, List.map_append] at h3
        exact (List.mem_append.mp h3).elim h1 h2
      refine List.forall_mem_cons.mpr ⟨both _ (hmO _ _ _ (Ne.symm off8.2.1) (Ne.symm off8.2.2.1) (Ne.symm off8.2.2.2.1)) (hP2.off_list N15 (List.mem_append_right _ (.head _)) rfl hT9), List.forall_mem_cons.mpr ⟨both _ (hmO _ _ _ (Ne.symm off4.1) (Ne.symm off4.2.1) (Ne.symm off4.2.2.1)) (hP2.off_list N15 (List.mem_append_right _ (.tail _ (.head _))) rfl hT9), List.forall_mem_cons.mpr ⟨both _ (hmO _ _ _ n9.1.1 n9.1.2.1 n9.1.2.2) (hP2.off_cell N15 (List.mem_append_right _ (.tail _ (.tail _ (.head _)))) dA9 hT9), List.forall_mem_cons.mpr ⟨both _ (hmO _ _ _ n9.2.1.1 n9.2.1.2.1 n9.2.1.2.2) (hP2.off_cell N15 (List.mem_append_right _ (.tail _ (.tail _ (.tail _ (.head _))))) dB9 hT9), List.forall_mem_singleton.mpr (both _ (hmO _ _ _ n9.2.2.1 n9.2.2.2.1 n9.2.2.2.2) (hP2.off_cell N15 (List.mem_append_right _ (.tail _ (.tail _ (.tail _ (.tail _ (.head _)))))) dL9 hT9))⟩⟩⟩⟩
    k_dflt (refine MCall2.use (own := hdO w x9 dx9 l9 th9 vs2 (cap + 1) ++ ts2) (rest := [(D2, LCg.lst ys2), (D, LCg.lst ys), (L' + 1 + 1 + 1, oA), (L' + 1 + 1, oB), (L' + 1, oL)]) (c_keys (W.under F14 N15 (fun p hp => List.mem_append_left _ hp)) (fun p hp => (N15 p (List.mem_append_left _ hp)).1) hP2 (by omega)) ?d7 ?u7 F14 N15 (fun p hp => List.mem_append_left _ hp) (fun p hp => List.mem_append_right _ hp) hoff9 ?_)
    case d7 => walk_at "my.room"
    case u7 => walk_at "my.units"
    rintro v9 own9 h15 tk15 ⟨r7, ks7, m7, rfl, rfl, hks⟩ F16 N16 hA
    dsimp only
    clear N15 F14
    have N17 := News_sub ((r7, listOf ks7.toArray m7) :: (x9, instObj 296 dx9) :: (dx9, dictOf [⟨PyData.keyHash w.params (Str.ofString "_headers"), .str (Str.ofString "_headers") th9, .ref l9⟩] 1) :: (l9, listOf vs2.toArray (cap + 1)) :: (D2, LCg.lst ys2) :: (D, LCg.lst ys) :: (L' + 1 + 1 + 1, oA) :: (L' + 1 + 1, oB) :: (L' + 1, oL) :: ts2) N16 (List.forall_mem_cons.mpr ⟨List.mem_append_left _ (.head _), List.forall_mem_cons.mpr ⟨List.mem_append_left _ (.tail _ (List.mem_append_left _ (.head _))), List.forall_mem_cons.mpr ⟨List.mem_append_left _ (.tail _ (List.mem_append_left _ (.tail _ (.head _)))), List.forall_mem_cons.mpr ⟨List.mem_append_left _ (.tail _ (List.mem_append_left _ (.tail _ (.tail _ (.head _))))), List.forall_mem_cons.mpr ⟨List.mem_append_right _ (.head _), List.forall_mem_cons.mpr ⟨List.mem_append_right _ (.tail _ (.head _)), List.forall_mem_cons.mpr ⟨List.mem_append_right _ (.tail _ (.tail _ (.head _))), List.forall_mem_cons.mpr ⟨List.mem_append_right _ (.tail _ (.tail _ (.tail _ (.head _)))), List.forall_mem_cons.mpr ⟨List.mem_append_right _ (.tail _ (.tail _ (.tail _ (.tail _ (.head _))))), fun p hp => List.mem_append_left _ (.tail _ (List.mem_append_right _ (hp)))⟩⟩⟩⟩⟩⟩⟩⟩⟩)
    clear N16
    k_steps
    unfold Hold
    (rename News _ _ _ _ => N18)
    (rename Fr _ _ _ _ => F18)
    have hyl : ys.length = M + 1 := hy.out
    refine add_lists (vs := ys) (ws := [.str (turnS s0 n0) _]) F18 N18 (News.isList N18 (.tail _ (.tail _ (.tail _ (.tail _ (.tail _ (.tail _ (.head _)))))))) (News.isList N18 (.head _)) ?_ (by rw [sizeLine_eq, hyl]; simp; omega)
    intro h19 F19 N19
    have hks2 : StrsAre ks7 ((List.range (M + 1)).map (spell s0) ++ [turnS s0 n0]) := by
      rw [List.map_append, List.map_map] at hks
      exact hks
    have hok : ∀ x ∈ (List.range (M + 1)).map (spell s0) ++ [turnS s0 n0], Clean x := by
      intro x hx
      rcases List.mem_append.mp hx with q | q
      · obtain ⟨k, hk, rfl⟩ := List.mem_map.mp q
        have := List.mem_range.mp hk
        exact Clean.of (spell_clean ⟨s0, hs⟩ ⟨k, Nat.lt_of_lt_of_le (by assumption) hM16⟩).1
      · rw [List.mem_singleton.mp q]; exact ctu
    k_steps
    unfold Hold
    (rename News _ _ _ _ => N20)
    (rename Fr _ _ _ _ => F20)
    k_dflt (refine ne_same_dat N20 (.tail _ (.tail _ (.head _))) rfl rfl (strs_dat hks2) (.head _) rfl rfl (strs_dat (kct_snoc hS)) (ok_strs hok) ?u6 ?_)
    case u6 => walk_at "my.units"
    k_steps
    unfold Hold
    (rename News _ _ _ _ => N21)
    (rename Fr _ _ _ _ => F21)
    k_dflt (refine ne_same_dat N21 (.tail _ (.tail _ (.tail _ (.tail _ (.tail _ (.tail _ (.tail _ (.head _)))))))) rfl rfl (ints_dat hS3) (.head _) rfl rfl (ints_dat (.cons 4 _ (.cons 2 _ .nil))) ok_ints ?u5 ?_)
    case u5 => walk_at "my.units"
    have g7 := gdAt 7
    k_steps
    unfold Hold
    (rename Gd 7 => g9; clear g9)
    (rename News _ _ _ _ => N22)
    (rename Fr _ _ _ _ => F22)
    have N23 := News_sub ((x9, instObj 296 dx9) :: (dx9, dictOf [⟨PyData.keyHash w.params (Str.ofString "_headers"), .str (Str.ofString "_headers") th9, .ref l9⟩] 1) :: (l9, listOf vs2.toArray (cap + 1)) :: (L' + 1 + 1 + 1, oA) :: (L' + 1 + 1, oB) :: (L' + 1, oL) :: ts2) N22 (by
      intro p hp
      walk_at "my.pin")
    clear N22; (try clear N21); (try clear N20); (try clear N19); (try clear N18); (try clear N17); (try clear F21); (try clear F20); (try clear F19); (try clear F18)
    k_dflt (refine LCg.Assign_ListComp_U (F₀ := F22) (by rfl) (by with_unfolding_all rfl) (by with_unfolding_all rfl) (by decide) (by rfl) (by decide) (by rfl) (by rfl) (by rfl) ?_)
    k_steps
    unfold Hold
    (rename News _ _ _ _ => N24)
    (rename Fr _ _ _ _ => F24)
    have csp : Clean (Txt.lower (spell s0 n0)) := by
      rw [(spell_clean ⟨s0, hs⟩ ⟨n0, hn⟩).2]
      exact Clean.of (spell_clean ⟨s0, hs⟩ 0).1
    have hpl : ∀ p ∈ (List.range (M + 1)).map (fun k => (spell s0 k, rp j (wn k))) ++ [(turnS s0 n0, rp j (wn M))], p.1.length ≤ 100 := by
      intro p hp
      rcases List.mem_append.mp hp with q | q
      · obtain ⟨k, hk, rfl⟩ := List.mem_map.mp q
        exact (by decide : 4 ≤ 100)
      · rw [List.mem_singleton.mp q]; exact cleanB_len (turnS_clean ⟨s0, hs⟩ ⟨n0, hn⟩).1
    have N25 := News_sub (hdO w x9 dx9 l9 th9 vs2 (cap + 1) ++ ts2 ++ [(L' + 1 + 1 + 1, oA), (L' + 1 + 1, oB), (L' + 1, oL)]) N24 (by
      intro p hp
      walk_at "my.pin")
    clear N24
    k_dflt (refine MCall2.use (own := hdO w x9 dx9 l9 th9 vs2 (cap + 1) ++ ts2) (rest := [(L' + 1 + 1 + 1, oA), (L' + 1 + 1, oB), (L' + 1, oL)]) (c_getall (W.under F24 N25 (fun p hp => List.mem_append_left _ hp)) (fun p hp => (N25 p (List.mem_append_left _ hp)).1) hP2 (by omega) hpl _ _ csp (by omega)) ?d4 ?u4 F24 N25 (fun p hp => List.mem_append_left _ hp) (fun p hp => List.mem_append_right _ hp) (fun p hp => hoff9 p (.tail _ (.tail _ hp))) ?_)
    case d4 => walk_at "my.room"
    case u4 => walk_at "my.units"
    rintro v9 own9 h26 tk26 ⟨r8, us8, m8, rfl, rfl, hus⟩ F26 N26 hA
    dsimp only
    have hus2 : StrsAre us8 ((List.range (M + 1)).map fun k => rp j (wn k)) := by
      have e1 : Txt.lower (spell s0 n0) = spell s0 0 := (spell_clean ⟨s0, hs⟩ ⟨n0, hn⟩).2
      rw [e1, List.filter_append, List.map_append] at hus
      have e2 : ((List.range (M + 1)).map fun k => (spell s0 k, rp j (wn k))).filter (fun p => Txt.lower p.1 == spell s0 0) = (List.range (M + 1)).map fun k => (spell s0 k, rp j (wn k)) := by
        refine List.filter_eq_self.mpr fun p hp => ?_
        obtain ⟨k, hk, rfl⟩ := List.mem_map.mp hp
        have := List.mem_range.mp hk
        rw [(spell_clean ⟨s0, hs⟩ ⟨k, Nat.lt_of_lt_of_le (by assumption) hM16⟩).2]
        simp
      have e3 : [(turnS s0 n0, rp j (wn M))].filter (fun p => Txt.lower p.1 == spell s0 0) = [] := by
        simp only [List.filter_cons, List.filter_nil]
        rw [(turnS_clean ⟨s0, hs⟩ ⟨n0, hn⟩).2]
        rfl
      rw [e2, e3, List.map_map] at hus
      rw [List.map_nil, List.append_nil] at hus
      exact hus
    have hul8 : Hid (us8.length = M + 1) := ⟨by rw [hus2.length]; simp⟩
    have hu8b : us8.length ≤ 16 := by rw [hul8.out]; exact hM16
    have N27 := News_sub [(r8, listOf us8.toArray m8), (L' + 1 + 1 + 1, oA), (L' + 1 + 1, oB), (L' + 1, oL)] N26 (by
      intro p hp
      walk_at "my.pin")
    clear N26 hA hus hP2 hT9 hoff9
    refine LCg.CompSrc.ledger (its := us8.toArray) (by rfl) F26 N27 (.head _) (by rw [List.size_toArray, sizeLine_eq]; omega) fun g => ?_
    refine cr_inv (fun i ys news => ∃ ts3, news = (r8, listOf us8.toArray m8) :: (L' + 1 + 1 + 1, oA) :: (L' + 1 + 1, oB) :: (L' + 1, oL) :: ts3 ∧ Pis (spell s0 n0) ys ts3 ((List.range i).map wn)) ⟨[], rfl, .nil⟩ ?_ ?_
    · rintro i3 ys3 news3 v I3 oI3 C oC D3 m₂ h27 tk27 E' hi3 hy3 ⟨ts3, rfl, hP3⟩ hv hC hx F28 N28 off9 ne9
      rw [List.size_toArray, hul8.out] at hi3
      have hi16 : i3 < 16 := Nat.lt_of_lt_of_le hi3 hM16
      have hy3b : ys3.length ≤ 16 := by rw [hy3]; exact Nat.le_of_lt hi16
      clear hy3
      obtain ⟨tv, hv2⟩ := hus2.get i3 (rp j (wn i3)) (by rw [List.getElem?_map, List.getElem?_range hi3]; rfl)
      have hv3 : v = .str (rp j (wn i3)) tv := by
        have e : us8.toArray[i3]? = some v := hv
        rw [List.getElem?_toArray, hv2] at e
        exact (Option.some.inj e).symm
      subst hv3
      have hgr : good229 (rp j (wn i3)) (wn i3) = true ∧ out229 (rp j (wn i3)) = 2 := by
        rcases wn_fin ⟨i3, hi16⟩ with e | e | e
        · rw [e]; exact ⟨(rp_ok ⟨j, hj⟩ 0).1, (rp_ok ⟨j, hj⟩ 0).2.1⟩
        · rw [e]; exact ⟨(rp_ok ⟨j, hj⟩ 1).1, (rp_ok ⟨j, hj⟩ 1).2.1⟩
        · rw [e]; exact ⟨(rp_ok ⟨j, hj⟩ 2).1, (rp_ok ⟨j, hj⟩ 2).2.1⟩
      obtain ⟨hg9, ho9⟩ := hgr
      have mk9 := kstMark
      k_steps
      unfold Hold
      (rename News _ _ _ _ => N29)
      (rename Fr _ _ _ _ => F29)
      (rename (∀ p ∈ _, ∀ q ∈ _, _) => hA9)
      obtain ⟨d9, tb9, n9, e9, e10, e11⟩ := nmT N29
      subst e9 e10 e11
      refine LCg.CompEnd.intro F29 N29 ((r8, listOf us8.toArray m8) :: (L' + 1 + 1 + 1, oA) :: (L' + 1 + 1, oB) :: (L' + 1, oL) :: (ts3 ++ [(d9, { cls := .type "tuple", data := .seq #[.str (spell s0 n0) ta, .int (wn i3) tb9] n9 })])) ?_ (off3_of fun p hp => ?_) (.inr ⟨_, .head _, rfl, _, rfl⟩) ⟨ts3 ++ [(d9, { cls := .type "tuple", data := .seq #[.str (spell s0 n0) ta, .int (wn i3) tb9] n9 })], rfl, ?_⟩
      · intro p hp
        walk_at "my.pinS"
      · have hd := hA9 _ (.head _)
        simp only [List.mem_append, List.mem_cons, List.not_mem_nil, or_false] at hp
        rcases hp with q | q | q | q | q | q
        · exact off9.mem p (q ▸ .head _)
        · exact off9.mem p (q ▸ .tail _ (.head _))
        · exact off9.mem p (q ▸ .tail _ (.tail _ (.head _)))
        · exact off9.mem p (q ▸ .tail _ (.tail _ (.tail _ (.head _))))
        · exact off9.mem p (.tail _ (.tail _ (.tail _ (.tail _ q))))
        · rw [q]
          exact ⟨hd _ (.tail _ (.head _)), hd _ (.tail _ (.tail _ (.head _))), hd _ (.tail _ (.tail _ (.tail _ (.head _))))⟩
      · rw [List.range_succ, List.map_append]
        exact hP3.append (.cons d9 _ _ _ _ .nil)
    · rintro ys3 news3 hy3 ⟨ts3, rfl, hP3⟩ D3 h27 tk27 F28 N28 off9
      rw [List.size_toArray, hul8.out] at hy3 hP3
      have hy3b : ys3.length ≤ 16 := by rw [hy3]; exact hM16
      replace hy3 : Hid (ys3.length = M + 1) := ⟨hy3⟩
      (try dsimp only)
      have mk9 := kstMark
      k_steps
      unfold Hold
      refine LCt.CompSrcT.ledger (its := ys3.toArray) (by rfl) F28 N28 (.head _) (by rw [List.size_toArray, sizeLine_eq]; omega) fun g => ?_
      refine crt_fix (fun i ys => IntsAre ys ((List.range i).map wn)) .nil ?_ ?_
      · rintro i4 ys4 v I4 oI4 C oC D4 m₂ h29 tk29 E' hi4 hS4 hv hC hx F30 N30 off10 ne10
        rw [List.size_toArray, hy3.out] at hi4
        obtain ⟨t4, x4, ta4, tb4, n4, rfl, hx4, hm4⟩ := hP3.at (by rw [← List.getElem?_toArray]; exact hv)
        have hx5 : x4 = wn i4 := by
          rw [List.getElem?_map, List.getElem?_range hi4] at hx4
          exact (Option.some.inj hx4).symm
        have hok9 : kqdOk 8 (.tuple [.str (spell s0 n0), .int x4]) = true := by
          show ([Dat.str (spell s0 n0), Dat.int x4].all (kqdOk 7)) = true
          simp only [List.all_cons, List.all_nil, Bool.and_true, Bool.and_eq_true]
          exact ⟨strOk_clean (Clean.of (spell_clean ⟨s0, hs⟩ ⟨n0, hn⟩).1), rfl⟩
        have N31 := News_sub ((t4, { cls := .type "tuple", data := .seq #[.str (spell s0 n0) ta4, .int x4 tb4] n4 }) :: (I4, oI4) :: (C, oC) :: (D4, LCg.lst ys4) :: (D3, LCg.lst ys3) :: (r8, listOf us8.toArray m8) :: (L' + 1 + 1 + 1, oA) :: (L' + 1 + 1, oB) :: (L' + 1, oL) :: ts3) N30 (fun p hp => by
          rcases List.mem_cons.mp hp with rfl | q
          · exact .tail _ (.tail _ (.tail _ (.tail _ (.tail _ (.tail _ (.tail _ (.tail _ hm4)))))))
          · exact q)
        clear N30
        k_steps
        unfold Hold
        (rename News _ _ _ _ => N32)
        (rename Fr _ _ _ _ => F32)
        refine LCg.CompEnd.intro F32 N32 _ (fun p hp => .tail _ (.tail _ hp)) off10 (.inr ⟨_, .head _, rfl, _, rfl⟩) ⟨rfl, ?_⟩
        rw [List.range_succ, List.map_append, hx5]
        exact hS4.append (.cons _ _ .nil)
      · intro ys4 hS4 D4 h29 tk29 F30 N30 off10
        rw [List.size_toArray, hy3.out] at hS4
        (try dsimp only)
        k_steps
        walk_at "my.end"
        exact hret _ _ _ (fun b o e _ => Fr.keep (by assumption) b o e) ⟨_, ⟨D4, ys4, _, rfl, rfl, hS4⟩, Held.of (own := []) N30 (List.forall_mem_singleton.mpr (.head _))⟩
end Tai
theorem walk : Body w s0 n0 j M bd tL tj tT tb ta dp un fr gd s Q E := worC.2.2 (fun l9' dx9' x9' D' oA' oB' oL' th9' ys' vs' cap' ts' i' k' t' u6' h5' tk5' I' oI' h4' hB' tk4' tkA' => Lop.all l9' dx9' x9' D' oA' oB' oL' th9' ys' vs' cap' ts' i' k' t' u6' h5' tk5' I' oI' h4' hB' tk4' tkA' Lop.walk) (fun l9' dx9' x9' D' oA' oB' oL' th9' ys' vs' cap' ts' tr' u' h5' tk5' h4' hB' tk4' tkA' => Tai.all l9' dx9' x9' D' oA' oB' oL' th9' ys' vs' cap' ts' tr' u' h5' tk5' h4' hB' tk4' tkA' Tai.walk)
end Wor
theorem c_worths {w : World} {h : Heap} (W : Wd w h) (s0 n0 j M : Nat) (bd : Int) (tL tj tT tb ta : Tok) (hs : s0 < 20) (hn : n0 < 16) (hj : j < 23) (hT1 : 8 ≤ M) (hT2 : M ≤ 15) (hb1 : 4 ≤ bd) (hb2 : bd ≤ 6) :
    MCall2 w 322 [.str (spell s0 0) tL, .str (ch j) tj, .int (M : Int) tT, .int bd tb, .str (spell s0 n0) ta] [] 12 h [] (fun v own' => ∃ (r : Addr) (us : List Value) (m : Nat), v = .ref r ∧ own' = [(r, listOf us.toArray m)] ∧ IntsAre us ((List.range (M + 1)).map wn)) := by
  intro dp un fr gd s Q E e hdp hun hret
  subst e
  exact Wor.all w s0 n0 j M bd tL tj tT tb ta dp un fr gd s Q E Wor.walk W hs hn hj hT1 hT2 hb1 hb2 hdp hun hret
end

end Mine
-- P1
example : True := by
  w_top off
  exact trivial
namespace Mine
example (P : Params) : hd.heap_1 P = hd.heap_1 P ∧ PySem.Challenge.rw_wo0076_01 = PySem.Challenge.rw_wo0076_01 := by
  k_fill
  exact ⟨rfl, rfl⟩



set_option genInjectivity false in
structure PSt where
  vs : List Value
  n : Nat
  ts : List (Addr × Obj)
  tt : List (Addr × Obj)
  lz : Addr
  us : List Value
  nz : Nat
  ns : List Value
  nn : Nat
  ol : Addr
  os : List Value
  no : Nat
  oS : Obj
  oN : Obj
  oW : Obj
  fst : Int
  tf : Tok
  pk : Int
  tp : Tok
  mv : Int
  tm : Tok
  fs : Nat → Bool
  sz : Nat → Nat
  ord : List Nat
noncomputable def ledP (w : World) (x dx l : Addr) (tk : Tok) (L' nl lz0 : Addr) (us0 : List Value) (nz0 : Nat) (c : PSt) : List (Addr × Obj) :=
  (nl, listOf c.ns.toArray c.nn) :: (c.ol, listOf c.os.toArray c.no) :: (c.lz, listOf c.us.toArray c.nz) :: (L' + 1 + 1 + 1, c.oW) :: (L' + 1 + 1, c.oN) :: (L' + 1, c.oS) ::
  (x, instObj 296 dx) :: (dx, dictOf [⟨PyData.keyHash w.params (Str.ofString "_headers"), .str (Str.ofString "_headers") tk, .ref l⟩] 1) :: (l, listOf c.vs.toArray c.n) :: (lz0, listOf us0.toArray nz0) :: c.tt
noncomputable def psP (c : PSt) : List (Str × Value) := [(Str.ofString "order", .ref c.ol), (Str.ofString "first", .int c.fst c.tf), (Str.ofString "moves", .int c.mv c.tm), (Str.ofString "picks", .int c.pk c.tp)]
noncomputable def stP : List Str := [Str.ofString "k", Str.ofString "key", Str.ofString "ways", Str.ofString "row", Str.ofString "lesser", Str.ofString "left", Str.ofString "lost"]
structure InvP (nl : Addr) (ts0 : List (Addr × Obj)) (i : Nat) (c : PSt) : Prop where
  rows : Prs c.vs c.ts (rowsP c.fs c.sz c.ord)
  sub : ∀ p ∈ c.ts, p ∈ c.tt
  old : ∀ p ∈ ts0, p ∈ c.tt
  tup : ∀ p ∈ c.tt, p.2.cls = .type "tuple" ∧ ∃ its n, p.2.data = .seq its n
  szs : IntsAre c.us ((List.range 3).map fun k => (c.sz k : Int))
  nms : StrsAre c.ns ((List.range 3).map fun k => nmS k (c.fs k))
  ords : IntsAre c.os (c.ord.map fun (k : Nat) => (k : Int))
  perm : c.ord ∈ perms6
  lt8 : ∀ k, k < 3 → c.sz k < 8
  sum : c.sz 0 + c.sz 1 + c.sz 2 + i ≤ 21
  cS : c.oS.data = .cell (some (.ref c.lz))
  cN : c.oN.data = .cell (some (.ref nl))
  cW : ∃ v, c.oW.data = .cell v
  mv : c.mv = (i : Int)
  win : i = 0 ∨ Jg i (kx c.sz) c.fst
  ne1 : @Ne Nat c.ol nl
  ne2 : @Ne Nat c.lz nl
  ne3 : @Ne Nat c.ol c.lz
theorem prs_tup {vs ts ps} (h : Prs vs ts ps) : ∀ p ∈ ts, p.2.cls = .type "tuple" ∧ ∃ its n, p.2.data = .seq its n := fun p hp => ⟨h.cls p hp, h.seq p hp⟩
theorem nmP {h₀ h : Heap} {L a b c D ol nl : Addr} {oD o1 o2 ow on os : Obj} {rest : List (Addr × Obj)} (_ : News h₀ L h ((D, oD) :: (ol, o1) :: (nl, o2) :: (a, ow) :: (b, on) :: (c, os) :: rest)) : ∃ p1 p2 p3 p4 p5, p1 = ol ∧ p2 = nl ∧ p3 = ow ∧ p4 = on ∧ p5 = os := ⟨ol, nl, ow, on, os, rfl, rfl, rfl, rfl, rfl⟩
theorem subP {α : Type} {D ol nl a b c x dx l lz : α} {ts : List α} {p : α} (h : p ∈ nl :: ol :: lz :: a :: b :: c :: x :: dx :: l :: lz :: ts) : p ∈ D :: ol :: nl :: a :: b :: c :: x :: dx :: l :: lz :: ts :=
  (show ∀ p ∈ nl :: ol :: lz :: a :: b :: c :: x :: dx :: l :: lz :: ts, p ∈ D :: ol :: nl :: a :: b :: c :: x :: dx :: l :: lz :: ts from List.forall_mem_cons.mpr ⟨.tail _ (.tail _ (.head _)), List.forall_mem_cons.mpr ⟨.tail _ (.head _), List.forall_mem_cons.mpr ⟨.tail _ (.tail _ (.tail _ (.tail _ (.tail _ (.tail _ (.tail _ (.tail _ (.tail _ (.head _))))))))), List.forall_mem_cons.mpr ⟨.tail _ (.tail _ (.tail _ (.head _))), List.forall_mem_cons.mpr ⟨.tail _ (.tail _ (.tail _ (.tail _ (.head _)))), List.forall_mem_cons.mpr ⟨.tail _ (.tail _ (.tail _ (.tail _ (.tail _ (.head _))))), List.forall_mem_cons.mpr ⟨.tail _ (.tail _ (.tail _ (.tail _ (.tail _ (.tail _ (.head _)))))), List.forall_mem_cons.mpr ⟨.tail _ (.tail _ (.tail _ (.tail _ (.tail _ (.tail _ (.tail _ (.head _))))))), List.forall_mem_cons.mpr ⟨.tail _ (.tail _ (.tail _ (.tail _ (.tail _ (.tail _ (.tail _ (.tail _ (.head _)))))))), List.forall_mem_cons.mpr ⟨.tail _ (.tail _ (.tail _ (.tail _ (.tail _ (.tail _ (.tail _ (.tail _ (.tail _ (.head _))))))))), fun p hp => .tail _ (.tail _ (.tail _ (.tail _ (.tail _ (.tail _ (.tail _ (.tail _ (.tail _ (.tail _ (hp))))))))))⟩⟩⟩⟩⟩⟩⟩⟩⟩⟩) p h
section

namespace Play
example : True := by
  k_with_none
  (k_with "my.enter" => ((case k1 => first | exact List.forall_mem_nil _ | assumption); (case k6 => k_is); (case k7 => k_is); (case k8 => omega); (case k9 => first | exact BindsTo.of_eq rfl | exact binds_K (by k_in) rfl (by k_is) rfl rfl rfl); (case kB => exact locs rfl); (case c5 => decide); (case c2 => exact rfl); (case c3 => exact rfl); (case c4 => exact rfl)))
  (k_with "my.enterC" => ((case k1 => first | exact List.forall_mem_nil _ | assumption); (case k6 => k_is); (case k7 => k_is); (case k8 => omega); (case k9 => first | exact BindsTo.of_eq rfl | exact binds_K (by k_in) rfl (by k_is) rfl rfl rfl); (case kB => exact rfl); (case kD => decide +kernel); (case c2 => exact rfl); (case c3 => exact rfl); (case c4 => exact rfl)))
  (k_with "my.room" => first | omega | ((simp only [depth_under_make, depth_under_kw, depth_in1, depth_deeper, depth_caller]); omega))
  (k_with "my.units" => first | omega | ((simp only [units_in1, units_deeper, Around.mark_units, units_caller]); omega))
  (k_with "my.wd" => exact Wd.keeps (by assumption) (Fr.keep (by k_asm)))
  (k_with "call builtin:list.append" => (k_here; k_dflt (refine' append_K (by k_asm) (by k_asm) (by k_upd) ?_ (by (simp only [List.size_toArray, Array.size_push, List.length_append, List.length_cons, List.length_nil, sizeLine_eq]; omega)); k_whole); intro h' F' N'; (try simp only [List.push_toArray] at N'); (try k_sweep)))
  (k_with "my.end" => ((try dsimp only); (try k_unfold); (try dsimp only [retOf])))
  (k_with "my.keep" => exact (fun b o e hb => Fr.keep (by assumption) b o (hideAll_get _ e hb)))
  (k_with "my.cend" => (unfold Hold; refine LCg.CompEnd.intro (by k_asm) (by assumption) _ (fun p hp => hp) (by assumption) (by first | trivial | exact .inr ⟨_, by k_memK, rfl, _, rfl⟩ | exact .inl (by assumption)) ⟨rfl, ?_⟩))
  (k_with "my.m" => with_reducible ((repeat (first | exact List.Mem.head _ | refine List.Mem.tail _ ?_ | assumption | (refine List.mem_append_left _ ?_; walk_at "my.m") | (refine List.mem_append_right _ ?_; walk_at "my.m"))); done))
  (k_with "my.mg" => first | walk_at "my.m" | ((try dsimp only [hdO, PyProof.Rows.LCg.lst, PySem.W.listOf, PySem.W.instObj, PySem.W.dictOf, List.cons_append, List.nil_append]); walk_at "my.m") | ((simp only [List.mem_cons, List.mem_append]); grind))
  (k_with "my.inc" => with_reducible ((repeat' (first | exact inc_refl | exact inc_nil | refine inc_same ?_ | refine inc_app ?_ ?_ | refine inc_one (by walk_at "my.m") ?_ | assumption | refine inc_skip ?_ | (refine inc_left ?_; walk_at "my.inc") | (refine inc_right ?_; walk_at "my.inc"))); done))
  (k_with "my.ne" => with_reducible first | assumption | exact neS1 | exact neS1.symm | exact neS2 | exact neS2.symm | (refine Ne.symm ?_; assumption) | (refine Nat.ne_of_lt ?_; assumption) | (refine Nat.ne_of_gt ?_; assumption))
  (k_with "my.pin" => first | ((try dsimp only [hdO, List.cons_append, List.nil_append] at hp ⊢); exact (show ∀ p ∈ _, p ∈ _ from by walk_at "my.inc") _ hp) | ((try dsimp only [hdO, PyProof.Rows.LCg.lst, PySem.W.listOf, PySem.W.instObj, PySem.W.dictOf, List.cons_append, List.nil_append] at hp ⊢); exact (show ∀ p ∈ _, p ∈ _ from by walk_at "my.inc") _ hp) | ((simp only [hdO, List.cons_append, List.nil_append, List.mem_append, List.mem_cons, List.not_mem_nil, or_false] at hp ⊢); grind))
  (k_with "my.mY" => ((repeat (first | exact List.Mem.head _ | refine List.Mem.tail _ ?_ | refine List.mem_append_right _ ?_)); done))
  (k_with "my.pinS" => ((try dsimp only [hdO, List.cons_append, List.nil_append] at hp ⊢); revert hp; revert p; (repeat (first | exact inc_snoc2 | exact inc_snoc1 | refine inc_under ?_ | refine inc_over ?_)); done))
  (k_with "my.pinY" => ((try dsimp only [hdO, List.cons_append, List.nil_append] at hp ⊢); revert hp; revert p; (repeat (refine inc_one (by walk_at "my.mY") ?_)); (with_reducible (repeat (first | exact inc_refl | exact inc_nil | refine inc_skip ?_ | refine inc_left ?_))); done))
  (k_with "my.in" => first | ((try dsimp only [hdO, List.cons_append, List.nil_append]); walk_at "my.inc") | ((try dsimp only [hdO, PyProof.Rows.LCg.lst, PySem.W.listOf, PySem.W.instObj, PySem.W.dictOf, List.cons_append, List.nil_append]); walk_at "my.inc") | (intro p hp; (try simp only [hdO, List.cons_append, List.nil_append, List.mem_cons, List.mem_append, List.not_mem_nil, or_false, false_or] at hp ⊢); first | exact hp | grind))
  (k_with "my.same" => (intro z h1 h2 h3; first
  | rfl
  | (simp only [List.forall_mem_cons, List.forall_mem_nil, List.not_mem_nil, false_implies, implies_true, and_true, ne_eq] at h2; simp only [List.contains_cons, List.contains_nil, Bool.or_false, Bool.or_eq_false_iff, beq_eq_false_iff_ne, ne_eq] at h3; simp [h1, h2, h3, kstB]; done)
  | (simp [h1, kstB]; done)
  | (simp_all [kstB]; done)))
  (k_with "my.csame" => (intro z h2 h3; first
  | rfl
  | exact kstB_stay z h2 h3
  | (simp only [List.forall_mem_cons, List.forall_mem_nil, List.not_mem_nil, false_implies, implies_true, and_true, ne_eq] at h2; (try simp only [List.contains_cons, List.contains_nil, Bool.or_false, Bool.or_eq_false_iff, beq_eq_false_iff_ne, ne_eq] at h3); simp [h2, h3, kstB]; done)
  | (simp_all [kstB]; done)))
  (k_with "my.all" => (repeat' (first | exact List.forall_mem_nil _ | (refine List.forall_mem_cons.mpr ⟨rfl, ?_⟩))))
  (k_with "execs cons" => first | (k_here; k_gentoks) | (k_here; k_made; walk_at "execs cons") | ((with_reducible refine wpAny_execs_cons ?_); (try dsimp only); k_fold))
  (k_with "my.sub" => (repeat' (first | exact List.forall_mem_nil _ | (refine List.forall_mem_cons.mpr ⟨?_, ?_⟩) | k_mem)))
  (k_with "eval ListComp" => (k_here; first
  | (lcp_look; k_dflt (refine LCp.ListComp_P (F₀ := by k_asm) (by with_unfolding_all rfl) (by decide) (by rfl) (by decide) (by rfl) (by rfl) (by decide) ?_); k_dflt lcp_toSrc)
  | (lct_look; k_dflt (refine LCt.ListComp_T (F₀ := by k_asm) (by with_unfolding_all rfl) (by decide) (by rfl) (by decide) (by rfl) ?_); k_dflt lct_toSrc)
  | (k_dflt (refine LCg.ListComp_U (F₀ := by k_asm) (by with_unfolding_all rfl) (by decide) (by rfl) (by decide) (by rfl) ?_); k_dflt lcg_toSrc)))
  (k_with "exec Assign cons ListComp" => (k_here; first
  | (lcp_look; k_dflt (refine LCp.Assign_ListComp_P (F₀ := by k_asm) (by rfl) (by with_unfolding_all rfl) (by with_unfolding_all rfl) (by decide) (by rfl) (by decide) (by rfl) (by rfl) (by decide) (by rfl) (by rfl) ?_); k_dflt lcp_toSrc)
  | (lct_look; k_dflt (refine LCt.Assign_ListComp_T (F₀ := by k_asm) (by rfl) (by with_unfolding_all rfl) (by with_unfolding_all rfl) (by decide) (by rfl) (by decide) (by rfl) (by rfl) (by rfl) ?_); k_dflt lct_toSrc)
  | (k_dflt (refine LCg.Assign_ListComp_U (F₀ := by k_asm) (by rfl) (by with_unfolding_all rfl) (by with_unfolding_all rfl) (by decide) (by rfl) (by decide) (by rfl) (by rfl) (by rfl) ?_); k_dflt lcg_toSrc)))
  (k_with "CompSrc" => (refine Hold.out ?_))
  (k_with "CompSrcT" => (refine Hold.out ?_))
  (k_with "SrcLP" => (refine Hold.out ?_))
  (k_with "CompEnd" => (refine Hold.out ?_))
  (k_with "exec For Name Call cons nil" => (k_here; (rename Fr _ _ _ _ => lF'); (with_unfolding_all refine' For_invVF lF' (by exact rfl) (by exact rfl) ?_; k_whole)))
  (k_with "pyIter ref" => ((with_reducible rename Gd 1 => g9); (refine Hold.out ?_)))
  (k_with "RngPost" => (dsimp only [RngPost]))
  (k_with "CutX" => (refine Hold.out ?_))
  (k_with "RngEnd" => (refine Hold.out ?_))
  (k_with "call ref" => (k_here; (with_reducible show wpAny _ _ (call (Value.ref 260) _ _) _ _ _); (refine Hold.out ?_)))
  (k_with "call ref" => (k_here; (with_reducible show wpAny _ _ (call (Value.ref 131) _ _) _ _ _); (refine Hold.out ?_)))
  (k_with "call ref" => (k_here; (with_reducible show wpAny _ _ (call (Value.ref 138) _ _) _ _ _); (refine Hold.out ?_)))
  (k_with "compareOp NotEq ref ref" => (refine Hold.out ?_))
  (k_with "compareOp Eq ref ref" => (refine Hold.out ?_))
  (k_with "eval Name" => (k_here; (with_reducible show wpAny _ _ (eval (Expr.Name _ _) (compEnvC _ _ _ _)) _ _ _); k_dflt (refine LCgL.ld_global (by k_asm) (by k_asm) (by k_asm) (by k_is) ?_)))
  (k_with "eval Name" => (k_here; (with_reducible show wpAny _ _ (eval (Expr.Name _ _) (compEnvC _ _ _ _)) _ _ _); k_dflt (refine' LCgL.ld_own (by k_asm) (by k_mem) (by with_reducible assumption) (by with_reducible assumption) ?_)))
  (k_with "subscriptTail Name Name ref int" => (k_here; k_dflt (refine' item_said (by first | exact News.isList (by k_asm) (by k_mem) | is_list) (by with_reducible assumption) (by omega) (by (simp only [List.length_map, List.length_range]; omega)) (by omega) (by with_reducible assumption) ?_ ); intro t9))
  (k_with "subscriptTail Name Name ref int" => (k_here; k_dflt (refine' item_str_said (by first | exact News.isList (by k_asm) (by k_mem) | is_list) (by with_reducible assumption) (by omega) (by omega) (by with_reducible assumption) ?_ ); intro t9))
  (k_with "subscriptTail Name Constant ref int" => (k_here; k_dflt (refine' item_said (by first | exact News.isList (by k_asm) (by k_mem) | is_list) (by with_reducible assumption) (by omega) (by (simp only [List.length_map, List.length_range]; omega)) (by omega) (by with_reducible assumption) ?_ ); intro t9))
  (k_with "subscriptTail Name Subscript ref int" => (k_here; k_dflt (refine' item_said (by first | exact News.isList (by k_asm) (by k_mem) | is_list) (by with_reducible assumption) (by omega) (by (simp only [List.length_map, List.length_range]; omega)) (by omega) (by with_reducible assumption) ?_ ); intro t9))
  (k_with "call ref" => (k_here; (with_reducible show wpAny _ _ (call (Value.ref 110) _ _) _ _ _); k_dflt (refine' MCall.pure (c_xor (by walk_at "my.wd") _ _ _ _) (by walk_at "my.room") (by walk_at "my.units") (by k_asm) (by k_asm) ?_); skip; intro v9 h9 tk9 hR9 hk9 F9 N9; (try k_sweep); (obtain ⟨t9, e9⟩ := hR9); subst e9; (try dsimp only)))
  (k_with "exec Assign" => ((with_reducible rename Gd 4 => g9); (refine Hold.out ?_)))
  (k_with "compareOp NotEq str str" => (k_here; k_dflt (refine' ne_str_said (by with_reducible assumption) ?_)))
  (k_with "exec For Name Name cons nil" => (k_here; (rename Fr _ _ _ _ => lF'); (with_unfolding_all refine' For_invVF lF' (by exact rfl) (by exact rfl) ?_; k_whole)))
  (k_with "subscriptTail Name Subscript ref int" => (k_here; k_dflt (refine' item_str_said (by first | exact News.isList (by k_asm) (by k_mem) | is_list) (by with_reducible assumption) (by omega) (by omega) (by with_reducible assumption) ?_ ); intro t9))
  (k_with "subscriptTail Name Call ref int" => (k_here; k_dflt (refine' item_said (by first | exact News.isList (by k_asm) (by k_mem) | is_list) (by with_reducible assumption) (by omega) (by (simp only [List.length_map, List.length_range]; omega)) (by omega) (by with_reducible assumption) ?_ ); intro t9))
  (k_with "compareOp NotEq int int" => (k_here; k_dflt (refine' ne_said (by omega) ?_)))
  (k_with "call ref" => (k_here; (with_reducible show wpAny _ _ (call (Value.ref 152) _ _) _ _ _); k_dflt (refine' MCall.pure (c_levT (by walk_at "my.wd") _ _ _ _ _ _ _ (by with_reducible assumption) (by omega) (by omega) (by omega) (by omega)) (by walk_at "my.room") (by walk_at "my.units") (by k_asm) (by k_asm) ?_); intro v9 h9 tk9 hR9 hk9 F9 N9; (try k_sweep); (obtain ⟨t9, e9⟩ := hR9); subst e9; (try dsimp only)))
  (k_with "call builtin:list.append" => ((with_reducible rename Gd 6 => g9); (refine Hold.out ?_)))
  (k_with "subscriptTail Name Constant ref int" => (k_here; k_dflt (refine' item_tupleT (by exact News.isTup (by k_asm) (by k_mem)) (by decide) (by decide) (by rfl) (by rfl) ?_; k_whole)))
  (k_with "compareOp Eq int int" => (k_here; (refine eq_br ?_ ?_) <;> intro hq9))
  (k_with "compareOp Eq int int" => (k_here; k_dflt (refine' eq_said (by with_reducible assumption) ?_)))
  (k_with "compareOp NotEq bool bool" => (k_here; refine ne_bool_same ?_))
  (k_with "compareOp NotEq int int" => (k_here; k_dflt (refine' ne_said2 (by with_reducible assumption) ?_)))
  (k_with "HoldP" => (refine Hold.out ?_))
  (k_with "exec If" => ((with_reducible rename Gd 3 => g9); (refine Hold.out ?_)))
  (k_with "subscriptTail Name BinOp ref int" => (k_here; k_dflt (refine' item_listL (by exact News.isList (by k_asm) (by k_mem)) (by omega) (by omega) (by with_reducible assumption) ?_ )))
  (k_with "subscriptTail Name Constant ref int" => ((with_reducible rename Gd 7 => g9); k_here; k_dflt (refine' item_first (by exact News.isList (by k_asm) (by k_mem)) ?_)))
  (k_with "call builtin:len" => (k_here; k_dflt (refine' len_list9 (by exact News.isList (by k_asm) (by k_mem)) (by omega) ?_)))
  (k_with "storeName" => ((with_reducible rename Gd 5 => g9); (refine Hold.out ?_)))
  (k_with "setItem ref int str" => (refine Hold.out ?_))
  (k_with "binaryOp Add ref ref" => (refine Hold.out ?_))
  exact trivial
noncomputable def Body (w : World) (x : Addr) (dx : Addr) (l : Addr) (lz : Addr) (lw : Addr) (lr : Addr) (tkh : Tok) (n0 : Nat) (nz0 : Nat) (nn0 : Nat) (sz0 : Nat → Nat) (vs0 : List Value) (us0 : List Value) (ws : List Value) (rs : List Value) (ts0 : List (Addr × Obj)) (pk : Int) (tp : Tok) (dp : Nat) (un : Nat) (fr : Option (List Env)) (gd : Option (List Code)) (s : Shared) (Q : Value → Shared → Prop) (E : Value → Shared → Prop) : Prop :=
    Wd w (hideAll s.heap (addrs (hdO w x dx l tkh vs0 n0 ++ (lz, listOf us0.toArray nz0) :: ts0))) → (∀ p ∈ (hdO w x dx l tkh vs0 n0 ++ (lz, listOf us0.toArray nz0) :: ts0), s.heap.get? p.1 = some p.2) → Prs vs0 ts0 (rowsP (fun _ => false) sz0 [0, 1, 2]) → (∀ k, k < 3 → sz0 k < 8) → IntsAre us0 ((List.range 3).map fun k => (sz0 k : Int)) → @Ne Nat x dx → @Ne Nat x l → @Ne Nat dx l → @Ne Nat lz l → @Ne Nat lz x → @Ne Nat lz dx → 9 ≤ nn0 → nn0 ≤ 16 → (hideAll s.heap (addrs (hdO w x dx l tkh vs0 n0 ++ (lz, listOf us0.toArray nz0) :: ts0))).IsList lw ws.toArray → IntsAre ws ((List.range nn0).map wn) → (hideAll s.heap (addrs (hdO w x dx l tkh vs0 n0 ++ (lz, listOf us0.toArray nz0) :: ts0))).IsList lr rs.toArray → StrsAre rs ((List.range nn0).map fun k => dq (k / 2)) → dp + 12 < recursionLimit → un + 8 * 12 < cLine → (∀ v h' tk', (∀ b o, s.heap.get? b = some o → b ∉ addrs (hdO w x dx l tkh vs0 n0 ++ (lz, listOf us0.toArray nz0) :: ts0) → h'.get? b = some o) → (∃ own', (v = .bool true ∧ own' = (lz, listOf us0.toArray nz0) :: ts0) ∧ Held s.heap (hdO w x dx l tkh vs0 n0 ++ (lz, listOf us0.toArray nz0) :: ts0) h' own') → Q v { s with heap := h', toks := tk' }) →
    wpAny (model PySem.Challenge.rw_wo0076_01.row.prog w) ⟨none, dp, fr, gd, un⟩ (call (.ref 332) [.ref x, .ref lz, .ref lw, .ref lr, .int pk tp] []) Q E s
noncomputable def Ok (v : World × Addr × Addr × Addr × Addr × Addr × Addr × Tok × Nat × Nat × Nat × (Nat → Nat) × (List Value) × (List Value) × (List Value) × (List Value) × (List (Addr × Obj)) × Int × Tok × Nat × Nat × (Option (List Env)) × (Option (List Code)) × Shared × (Value → Shared → Prop) × (Value → Shared → Prop)) : Prop := Body v.1 v.2.1 v.2.2.1 v.2.2.2.1 v.2.2.2.2.1 v.2.2.2.2.2.1 v.2.2.2.2.2.2.1 v.2.2.2.2.2.2.2.1 v.2.2.2.2.2.2.2.2.1 v.2.2.2.2.2.2.2.2.2.1 v.2.2.2.2.2.2.2.2.2.2.1 v.2.2.2.2.2.2.2.2.2.2.2.1 v.2.2.2.2.2.2.2.2.2.2.2.2.1 v.2.2.2.2.2.2.2.2.2.2.2.2.2.1 v.2.2.2.2.2.2.2.2.2.2.2.2.2.2.1 v.2.2.2.2.2.2.2.2.2.2.2.2.2.2.2.1 v.2.2.2.2.2.2.2.2.2.2.2.2.2.2.2.2.1 v.2.2.2.2.2.2.2.2.2.2.2.2.2.2.2.2.2.1 v.2.2.2.2.2.2.2.2.2.2.2.2.2.2.2.2.2.2.1 v.2.2.2.2.2.2.2.2.2.2.2.2.2.2.2.2.2.2.2.1 v.2.2.2.2.2.2.2.2.2.2.2.2.2.2.2.2.2.2.2.2.1 v.2.2.2.2.2.2.2.2.2.2.2.2.2.2.2.2.2.2.2.2.2.1 v.2.2.2.2.2.2.2.2.2.2.2.2.2.2.2.2.2.2.2.2.2.2.1 v.2.2.2.2.2.2.2.2.2.2.2.2.2.2.2.2.2.2.2.2.2.2.2.1 v.2.2.2.2.2.2.2.2.2.2.2.2.2.2.2.2.2.2.2.2.2.2.2.2.1 v.2.2.2.2.2.2.2.2.2.2.2.2.2.2.2.2.2.2.2.2.2.2.2.2.2
theorem ne : Nonempty (World × Addr × Addr × Addr × Addr × Addr × Addr × Tok × Nat × Nat × Nat × (Nat → Nat) × (List Value) × (List Value) × (List Value) × (List Value) × (List (Addr × Obj)) × Int × Tok × Nat × Nat × (Option (List Env)) × (Option (List Code)) × Shared × (Value → Shared → Prop) × (Value → Shared → Prop)) := ⟨(aWorld 1, (0 : Nat), (0 : Nat), (0 : Nat), (0 : Nat), (0 : Nat), (0 : Nat), 0, 0, 0, 0, fun _ => 0, [], [], [], [], [], 0, 0, 0, 0, none, none, {}, fun _ _ => True, fun _ _ => True)⟩
noncomputable def v0 : World × Addr × Addr × Addr × Addr × Addr × Addr × Tok × Nat × Nat × Nat × (Nat → Nat) × (List Value) × (List Value) × (List Value) × (List Value) × (List (Addr × Obj)) × Int × Tok × Nat × Nat × (Option (List Env)) × (Option (List Code)) × Shared × (Value → Shared → Prop) × (Value → Shared → Prop) := Classical.choose (one_for_all ne Ok)
@[irreducible] noncomputable def w : World := v0.1
@[irreducible] noncomputable def x : Addr := v0.2.1
@[irreducible] noncomputable def dx : Addr := v0.2.2.1
@[irreducible] noncomputable def l : Addr := v0.2.2.2.1
@[irreducible] noncomputable def lz : Addr := v0.2.2.2.2.1
@[irreducible] noncomputable def lw : Addr := v0.2.2.2.2.2.1
@[irreducible] noncomputable def lr : Addr := v0.2.2.2.2.2.2.1
@[irreducible] noncomputable def tkh : Tok := v0.2.2.2.2.2.2.2.1
@[irreducible] noncomputable def n0 : Nat := v0.2.2.2.2.2.2.2.2.1
@[irreducible] noncomputable def nz0 : Nat := v0.2.2.2.2.2.2.2.2.2.1
@[irreducible] noncomputable def nn0 : Nat := v0.2.2.2.2.2.2.2.2.2.2.1
@[irreducible] noncomputable def sz0 : Nat → Nat := v0.2.2.2.2.2.2.2.2.2.2.2.1
@[irreducible] noncomputable def vs0 : List Value := v0.2.2.2.2.2.2.2.2.2.2.2.2.1
@[irreducible] noncomputable def us0 : List Value := v0.2.2.2.2.2.2.2.2.2.2.2.2.2.1
@[irreducible] noncomputable def ws : List Value := v0.2.2.2.2.2.2.2.2.2.2.2.2.2.2.1
@[irreducible] noncomputable def rs : List Value := v0.2.2.2.2.2.2.2.2.2.2.2.2.2.2.2.1
@[irreducible] noncomputable def ts0 : List (Addr × Obj) := v0.2.2.2.2.2.2.2.2.2.2.2.2.2.2.2.2.1
@[irreducible] noncomputable def pk : Int := v0.2.2.2.2.2.2.2.2.2.2.2.2.2.2.2.2.2.1
@[irreducible] noncomputable def tp : Tok := v0.2.2.2.2.2.2.2.2.2.2.2.2.2.2.2.2.2.2.1
@[irreducible] noncomputable def dp : Nat := v0.2.2.2.2.2.2.2.2.2.2.2.2.2.2.2.2.2.2.2.1
@[irreducible] noncomputable def un : Nat := v0.2.2.2.2.2.2.2.2.2.2.2.2.2.2.2.2.2.2.2.2.1
@[irreducible] noncomputable def fr : Option (List Env) := v0.2.2.2.2.2.2.2.2.2.2.2.2.2.2.2.2.2.2.2.2.2.1
@[irreducible] noncomputable def gd : Option (List Code) := v0.2.2.2.2.2.2.2.2.2.2.2.2.2.2.2.2.2.2.2.2.2.2.1
@[irreducible] noncomputable def s : Shared := v0.2.2.2.2.2.2.2.2.2.2.2.2.2.2.2.2.2.2.2.2.2.2.2.1
@[irreducible] noncomputable def Q : Value → Shared → Prop := v0.2.2.2.2.2.2.2.2.2.2.2.2.2.2.2.2.2.2.2.2.2.2.2.2.1
@[irreducible] noncomputable def E : Value → Shared → Prop := v0.2.2.2.2.2.2.2.2.2.2.2.2.2.2.2.2.2.2.2.2.2.2.2.2.2
theorem all (w : World) (x : Addr) (dx : Addr) (l : Addr) (lz : Addr) (lw : Addr) (lr : Addr) (tkh : Tok) (n0 : Nat) (nz0 : Nat) (nn0 : Nat) (sz0 : Nat → Nat) (vs0 : List Value) (us0 : List Value) (ws : List Value) (rs : List Value) (ts0 : List (Addr × Obj)) (pk : Int) (tp : Tok) (dp : Nat) (un : Nat) (fr : Option (List Env)) (gd : Option (List Code)) (s : Shared) (Q : Value → Shared → Prop) (E : Value → Shared → Prop) (h : Body Play.w Play.x Play.dx Play.l Play.lz Play.lw Play.lr Play.tkh Play.n0 Play.nz0 Play.nn0 Play.sz0 Play.vs0 Play.us0 Play.ws Play.rs Play.ts0 Play.pk Play.tp Play.dp Play.un Play.fr Play.gd Play.s Play.Q Play.E) : Body w x dx l lz lw lr tkh n0 nz0 nn0 sz0 vs0 us0 ws rs ts0 pk tp dp un fr gd s Q E := by
  delta Play.w Play.x Play.dx Play.l Play.lz Play.lw Play.lr Play.tkh Play.n0 Play.nz0 Play.nn0 Play.sz0 Play.vs0 Play.us0 Play.ws Play.rs Play.ts0 Play.pk Play.tp Play.dp Play.un Play.fr Play.gd Play.s Play.Q Play.E at h
  exact Classical.choose_spec (one_for_all ne Ok) h (w, x, dx, l, lz, lw, lr, tkh, n0, nz0, nn0, sz0, vs0, us0, ws, rs, ts0, pk, tp, dp, un, fr, gd, s, Q, E)
noncomputable def L' : Addr := s.heap.objs.size
noncomputable def g0 : Heap := hideAll s.heap (addrs (hdO w x dx l tkh vs0 n0 ++ (lz, listOf us0.toArray nz0) :: ts0))
set_option maxRecDepth 100000 in
set_option maxHeartbeats 2000000 in
noncomputable def turnC : (P : (Addr) → (List Value) → (Nat) → (List (Addr × Obj)) → (List (Addr × Obj)) → (Addr) → (List Value) → (Nat) → (List Value) → (Nat) → (Addr) → (List Value) → (Nat) → (Obj) → (Obj) → (Obj) → (Int) → (Tok) → (Int) → (Tok) → (Int) → (Tok) → (Nat → Bool) → (Nat → Nat) → (List Nat) → (Nat) → (Int) → (Tok) → (Str → Option Value) → (Heap) → (Nat) → (Addr) → (Obj) → (Heap) → (Heap) → (Nat) → (Nat) → (Addr) → (Nat) → Prop) ×' ((∀ (nl : Addr) (vs : List Value) (n : Nat) (ts : List (Addr × Obj)) (tt : List (Addr × Obj)) (lzz : Addr) (us : List Value) (nz : Nat) (ns : List Value) (nn : Nat) (ol : Addr) (os : List Value) (no : Nat) (oS : Obj) (oN : Obj) (oW : Obj) (fst : Int) (tf : Tok) (pk : Int) (tp : Tok) (mv : Int) (tm : Tok) (fs : Nat → Bool) (sz : Nat → Nat) (ord : List Nat) (i : Nat) (k : Int) (t : Tok) (u : Str → Option Value) (h5 : Heap) (tk5 : Nat) (I : Addr) (oI : Obj) (hA : Heap) (hB : Heap) (tkA : Nat) (tk : Nat) (ol0 : Addr) (tkE : Nat), P nl vs n ts tt lzz us nz ns nn ol os no oS oN oW fst tf pk tp mv tm fs sz ord i k t u h5 tk5 I oI hA hB tkA tk ol0 tkE) → Body w x dx l lz lw lr tkh n0 nz0 nn0 sz0 vs0 us0 ws rs ts0 pk tp dp un fr gd s Q E) := ⟨_, fun hcut => by
  (k_with "execs cons" => first | (k_here; k_gentoks) | (k_here; k_made; walk_at "execs cons") | ((with_reducible refine wpAny_execs_cons ?_); (try dsimp only)))
  intro W hO hP hsz hus h1 h2 h3 h4 hzx hzd hnn1 hnn2 hwl hwi hrl hri hdp hun hret
  replace W : Wd w g0 := W
  replace hwl : g0.IsList lw ws.toArray := hwl
  replace hrl : g0.IsList lr rs.toArray := hrl
  obtain ⟨X, loose, mean, mg, mb, T⟩ := id W
  k_dflt (refine' enterCV (L' := L') [(Str.ofString "rows", .ref x), (Str.ofString "sizes", .ref lz), (Str.ofString "worths", .ref lw), (Str.ofString "reads", .ref lr), (Str.ofString "picks", .int pk tp)] (hdO w x dx l tkh vs0 n0 ++ (lz, listOf us0.toArray nz0) :: ts0) ?k1 W ?k6 ?k7 ?k8 ?k9 ?kB ?kD ?_ rfl ?c2 ?c3 ?c4; walk_at "my.enterC")
  intro h₁ tkE cells F N Y hLow
  k_cells Y
  (try dsimp only [hdO, List.cons_append, List.nil_append] at *)
  (try simp only [List.cons_append, List.nil_append] at N)
  (try k_lt hLow)
  skip
  replace F : Fr g0 L' h₁ _ := F
  replace N : News g0 L' h₁ _ := N
  have g1 := gdAt 1
  have mk9 := kstMark
  have hT3 : AllLt (L' + 1 + 1 + 1) ts0 := allLt_up (by omega) hLow.2.2.2.2
  have hT2 : AllLt (L' + 1 + 1) ts0 := allLt_up (by omega) hLow.2.2.2.2
  have hT1 : AllLt (L' + 1) ts0 := allLt_up (by omega) hLow.2.2.2.2
  k_steps
  unfold Hold
  (rename Gd 1 => g9; clear g9)
  (rename News _ _ _ _ => N3)
  (rename Fr _ _ _ _ => F3)
  obtain ⟨ol0, nl, oW0, oN0, oS0, e1, e2, e3, e4, e5⟩ := nmP N3
  subst e1 e2 e3 e4 e5
  have dW0 : oW0.data = Data.cell none := by assumption
  have hn1 : @Ne Nat x nl := by omega
  have hn2 : @Ne Nat dx nl := by omega
  have hn3 : @Ne Nat l nl := by omega
  have hn4 : @Ne Nat lz nl := by omega
  have hn5 : @Ne Nat (L' + 1 + 1) nl := by omega
  have dN0 : oN0.data = Data.cell (some (.ref nl)) := by assumption
  have dS0 : oS0.data = Data.cell (some (.ref lz)) := by assumption
  k_dflt (refine rng (σ := PSt) (n := 22) (ledP w x dx l tkh L' nl lz us0 nz0) psP stP (InvP nl ts0) ⟨vs0, n0, ts0, ts0, lz, us0, nz0, _, 0, ol0, _, 0, oS0, oN0, oW0, 0, _, pk, tp, 0, _, fun _ => false, sz0, [0, 1, 2]⟩ (by rfl) (by assumption) (small_one (by decide) (by decide) (by decide) (by decide)) (by rfl) F3 (fun p hp => N3 p (subP hp)) (by walk_at "my.all") ?inv ?_ ?_)
  case inv =>
    refine ⟨hP, fun p hp => hp, fun p hp => hp, prs_tup hP, hus, .cons _ _ (.cons _ _ (.cons _ _ .nil)), .cons _ _ (.cons _ _ (.cons _ _ .nil)), .head _, hsz, ?_, dS0, dN0, ⟨_, dW0⟩, rfl, .inl rfl, ?_, ?_, ?_⟩
    · have a0 := hsz 0 (by decide)
      have a1 := hsz 1 (by decide)
      have a2 := hsz 2 (by decide)
      show sz0 0 + sz0 1 + sz0 2 + 0 ≤ 21
      omega
    · dsimp only; omega
    · dsimp only; omega
    · dsimp only; omega
  rename_i hA hB tkA tq1 uq1 vq1 irA keepA FA lA lB lC dA dB dC NA
  · rintro ⟨vs, n, ts, tt, lzz, us, nz, ns, nn, ol, os, no, oS, oN, oW, fst, tf, pk, tp, mv, tm, fs, sz, ord⟩ i k t u h5 tk5 I oI hk hi off hI F6 N6
    revert N6; revert F6; revert hI; revert off; revert hi; revert hk; revert hn5; revert hn4; revert hn3; revert hn2; revert hn1; revert lB; revert lA; revert hT3; revert hT2; revert hT1; revert mk9; revert hLow; revert hret; revert hun; revert hdp; revert hri; revert hrl; revert hwi; revert hwl; revert hnn2; revert hnn1; revert hzd; revert hzx; revert h4; revert h3; revert h2; revert h1; revert hus; revert hsz; revert hP; revert hO; revert W
    exact hcut nl vs n ts tt lzz us nz ns nn ol os no oS oN oW fst tf pk tp mv tm fs sz ord i k t u h5 tk5 I oI hA hB tkA tk ol0 tkE
  · rintro ⟨vs, n, ts, tt, lzz, us, nz, ns, nn, ol, os, no, oS, oN, oW, fst, tf, pk, tp, mv, tm, fs, sz, ord⟩ u h5 tk5 hI F6 N6
    exact absurd hI.sum (by omega)
  ⟩
namespace Turn
noncomputable def Body (nl : Addr) (vs : List Value) (n : Nat) (ts : List (Addr × Obj)) (tt : List (Addr × Obj)) (lzz : Addr) (us : List Value) (nz : Nat) (ns : List Value) (nn : Nat) (ol : Addr) (os : List Value) (no : Nat) (oS : Obj) (oN : Obj) (oW : Obj) (fst : Int) (tf : Tok) (pk : Int) (tp : Tok) (mv : Int) (tm : Tok) (fs : Nat → Bool) (sz : Nat → Nat) (ord : List Nat) (i : Nat) (k : Int) (t : Tok) (u : Str → Option Value) (h5 : Heap) (tk5 : Nat) (I : Addr) (oI : Obj) (hA : Heap) (hB : Heap) (tkA : Nat) (tk : Nat) (ol0 : Addr) (tkE : Nat) : Prop :=
    turnC.1 nl vs n ts tt lzz us nz ns nn ol os no oS oN oW fst tf pk tp mv tm fs sz ord i k t u h5 tk5 I oI hA hB tkA tk ol0 tkE
noncomputable def Ok (v : Addr × (List Value) × Nat × (List (Addr × Obj)) × (List (Addr × Obj)) × Addr × (List Value) × Nat × (List Value) × Nat × Addr × (List Value) × Nat × Obj × Obj × Obj × Int × Tok × Int × Tok × Int × Tok × (Nat → Bool) × (Nat → Nat) × (List Nat) × Nat × Int × Tok × (Str → Option Value) × Heap × Nat × Addr × Obj × Heap × Heap × Nat × Nat × Addr × Nat) : Prop := Body v.1 v.2.1 v.2.2.1 v.2.2.2.1 v.2.2.2.2.1 v.2.2.2.2.2.1 v.2.2.2.2.2.2.1 v.2.2.2.2.2.2.2.1 v.2.2.2.2.2.2.2.2.1 v.2.2.2.2.2.2.2.2.2.1 v.2.2.2.2.2.2.2.2.2.2.1 v.2.2.2.2.2.2.2.2.2.2.2.1 v.2.2.2.2.2.2.2.2.2.2.2.2.1 v.2.2.2.2.2.2.2.2.2.2.2.2.2.1 v.2.2.2.2.2.2.2.2.2.2.2.2.2.2.1 v.2.2.2.2.2.2.2.2.2.2.2.2.2.2.2.1 v.2.2.2.2.2.2.2.2.2.2.2.2.2.2.2.2.1 v.2.2.2.2.2.2.2.2.2.2.2.2.2.2.2.2.2.1 v.2.2.2.2.2.2.2.2.2.2.2.2.2.2.2.2.2.2.1 v.2.2.2.2.2.2.2.2.2.2.2.2.2.2.2.2.2.2.2.1 v.2.2.2.2.2.2.2.2.2.2.2.2.2.2.2.2.2.2.2.2.1 v.2.2.2.2.2.2.2.2.2.2.2.2.2.2.2.2.2.2.2.2.2.1 v.2.2.2.2.2.2.2.2.2.2.2.2.2.2.2.2.2.2.2.2.2.2.1 v.2.2.2.2.2.2.2.2.2.2.2.2.2.2.2.2.2.2.2.2.2.2.2.1 v.2.2.2.2.2.2.2.2.2.2.2.2.2.2.2.2.2.2.2.2.2.2.2.2.1 v.2.2.2.2.2.2.2.2.2.2.2.2.2.2.2.2.2.2.2.2.2.2.2.2.2.1 v.2.2.2.2.2.2.2.2.2.2.2.2.2.2.2.2.2.2.2.2.2.2.2.2.2.2.1 v.2.2.2.2.2.2.2.2.2.2.2.2.2.2.2.2.2.2.2.2.2.2.2.2.2.2.2.1 v.2.2.2.2.2.2.2.2.2.2.2.2.2.2.2.2.2.2.2.2.2.2.2.2.2.2.2.2.1 v.2.2.2.2.2.2.2.2.2.2.2.2.2.2.2.2.2.2.2.2.2.2.2.2.2.2.2.2.2.1 v.2.2.2.2.2.2.2.2.2.2.2.2.2.2.2.2.2.2.2.2.2.2.2.2.2.2.2.2.2.2.1 v.2.2.2.2.2.2.2.2.2.2.2.2.2.2.2.2.2.2.2.2.2.2.2.2.2.2.2.2.2.2.2.1 v.2.2.2.2.2.2.2.2.2.2.2.2.2.2.2.2.2.2.2.2.2.2.2.2.2.2.2.2.2.2.2.2.1 v.2.2.2.2.2.2.2.2.2.2.2.2.2.2.2.2.2.2.2.2.2.2.2.2.2.2.2.2.2.2.2.2.2.1 v.2.2.2.2.2.2.2.2.2.2.2.2.2.2.2.2.2.2.2.2.2.2.2.2.2.2.2.2.2.2.2.2.2.2.1 v.2.2.2.2.2.2.2.2.2.2.2.2.2.2.2.2.2.2.2.2.2.2.2.2.2.2.2.2.2.2.2.2.2.2.2.1 v.2.2.2.2.2.2.2.2.2.2.2.2.2.2.2.2.2.2.2.2.2.2.2.2.2.2.2.2.2.2.2.2.2.2.2.2.1 v.2.2.2.2.2.2.2.2.2.2.2.2.2.2.2.2.2.2.2.2.2.2.2.2.2.2.2.2.2.2.2.2.2.2.2.2.2.1 v.2.2.2.2.2.2.2.2.2.2.2.2.2.2.2.2.2.2.2.2.2.2.2.2.2.2.2.2.2.2.2.2.2.2.2.2.2.2
theorem ne : Nonempty (Addr × (List Value) × Nat × (List (Addr × Obj)) × (List (Addr × Obj)) × Addr × (List Value) × Nat × (List Value) × Nat × Addr × (List Value) × Nat × Obj × Obj × Obj × Int × Tok × Int × Tok × Int × Tok × (Nat → Bool) × (Nat → Nat) × (List Nat) × Nat × Int × Tok × (Str → Option Value) × Heap × Nat × Addr × Obj × Heap × Heap × Nat × Nat × Addr × Nat) := ⟨((0 : Nat), [], 0, [], [], (0 : Nat), [], 0, [], 0, (0 : Nat), [], 0, default, default, default, 0, 0, 0, 0, 0, 0, fun _ => false, fun _ => 0, [], 0, 0, 0, fun _ => none, {}, 0, (0 : Nat), default, {}, {}, 0, 0, (0 : Nat), 0)⟩
noncomputable def v0 : Addr × (List Value) × Nat × (List (Addr × Obj)) × (List (Addr × Obj)) × Addr × (List Value) × Nat × (List Value) × Nat × Addr × (List Value) × Nat × Obj × Obj × Obj × Int × Tok × Int × Tok × Int × Tok × (Nat → Bool) × (Nat → Nat) × (List Nat) × Nat × Int × Tok × (Str → Option Value) × Heap × Nat × Addr × Obj × Heap × Heap × Nat × Nat × Addr × Nat := Classical.choose (one_for_all ne Ok)
@[irreducible] noncomputable def nl : Addr := v0.1
@[irreducible] noncomputable def vs : List Value := v0.2.1
@[irreducible] noncomputable def n : Nat := v0.2.2.1
@[irreducible] noncomputable def ts : List (Addr × Obj) := v0.2.2.2.1
@[irreducible] noncomputable def tt : List (Addr × Obj) := v0.2.2.2.2.1
@[irreducible] noncomputable def lzz : Addr := v0.2.2.2.2.2.1
@[irreducible] noncomputable def us : List Value := v0.2.2.2.2.2.2.1
@[irreducible] noncomputable def nz : Nat := v0.2.2.2.2.2.2.2.1
@[irreducible] noncomputable def ns : List Value := v0.2.2.2.2.2.2.2.2.1
@[irreducible] noncomputable def nn : Nat := v0.2.2.2.2.2.2.2.2.2.1
@[irreducible] noncomputable def ol : Addr := v0.2.2.2.2.2.2.2.2.2.2.1
@[irreducible] noncomputable def os : List Value := v0.2.2.2.2.2.2.2.2.2.2.2.1
@[irreducible] noncomputable def no : Nat := v0.2.2.2.2.2.2.2.2.2.2.2.2.1
@[irreducible] noncomputable def oS : Obj := v0.2.2.2.2.2.2.2.2.2.2.2.2.2.1
@[irreducible] noncomputable def oN : Obj := v0.2.2.2.2.2.2.2.2.2.2.2.2.2.2.1
@[irreducible] noncomputable def oW : Obj := v0.2.2.2.2.2.2.2.2.2.2.2.2.2.2.2.1
@[irreducible] noncomputable def fst : Int := v0.2.2.2.2.2.2.2.2.2.2.2.2.2.2.2.2.1
@[irreducible] noncomputable def tf : Tok := v0.2.2.2.2.2.2.2.2.2.2.2.2.2.2.2.2.2.1
@[irreducible] noncomputable def pk : Int := v0.2.2.2.2.2.2.2.2.2.2.2.2.2.2.2.2.2.2.1
@[irreducible] noncomputable def tp : Tok := v0.2.2.2.2.2.2.2.2.2.2.2.2.2.2.2.2.2.2.2.1
@[irreducible] noncomputable def mv : Int := v0.2.2.2.2.2.2.2.2.2.2.2.2.2.2.2.2.2.2.2.2.1
@[irreducible] noncomputable def tm : Tok := v0.2.2.2.2.2.2.2.2.2.2.2.2.2.2.2.2.2.2.2.2.2.1
@[irreducible] noncomputable def fs : Nat → Bool := v0.2.2.2.2.2.2.2.2.2.2.2.2.2.2.2.2.2.2.2.2.2.2.1
@[irreducible] noncomputable def sz : Nat → Nat := v0.2.2.2.2.2.2.2.2.2.2.2.2.2.2.2.2.2.2.2.2.2.2.2.1
@[irreducible] noncomputable def ord : List Nat := v0.2.2.2.2.2.2.2.2.2.2.2.2.2.2.2.2.2.2.2.2.2.2.2.2.1
@[irreducible] noncomputable def i : Nat := v0.2.2.2.2.2.2.2.2.2.2.2.2.2.2.2.2.2.2.2.2.2.2.2.2.2.1
@[irreducible] noncomputable def k : Int := v0.2.2.2.2.2.2.2.2.2.2.2.2.2.2.2.2.2.2.2.2.2.2.2.2.2.2.1
@[irreducible] noncomputable def t : Tok := v0.2.2.2.2.2.2.2.2.2.2.2.2.2.2.2.2.2.2.2.2.2.2.2.2.2.2.2.1
@[irreducible] noncomputable def u : Str → Option Value := v0.2.2.2.2.2.2.2.2.2.2.2.2.2.2.2.2.2.2.2.2.2.2.2.2.2.2.2.2.1
@[irreducible] noncomputable def h5 : Heap := v0.2.2.2.2.2.2.2.2.2.2.2.2.2.2.2.2.2.2.2.2.2.2.2.2.2.2.2.2.2.1
@[irreducible] noncomputable def tk5 : Nat := v0.2.2.2.2.2.2.2.2.2.2.2.2.2.2.2.2.2.2.2.2.2.2.2.2.2.2.2.2.2.2.1
@[irreducible] noncomputable def I : Addr := v0.2.2.2.2.2.2.2.2.2.2.2.2.2.2.2.2.2.2.2.2.2.2.2.2.2.2.2.2.2.2.2.1
@[irreducible] noncomputable def oI : Obj := v0.2.2.2.2.2.2.2.2.2.2.2.2.2.2.2.2.2.2.2.2.2.2.2.2.2.2.2.2.2.2.2.2.1
@[irreducible] noncomputable def hA : Heap := v0.2.2.2.2.2.2.2.2.2.2.2.2.2.2.2.2.2.2.2.2.2.2.2.2.2.2.2.2.2.2.2.2.2.1
@[irreducible] noncomputable def hB : Heap := v0.2.2.2.2.2.2.2.2.2.2.2.2.2.2.2.2.2.2.2.2.2.2.2.2.2.2.2.2.2.2.2.2.2.2.1
@[irreducible] noncomputable def tkA : Nat := v0.2.2.2.2.2.2.2.2.2.2.2.2.2.2.2.2.2.2.2.2.2.2.2.2.2.2.2.2.2.2.2.2.2.2.2.1
@[irreducible] noncomputable def tk : Nat := v0.2.2.2.2.2.2.2.2.2.2.2.2.2.2.2.2.2.2.2.2.2.2.2.2.2.2.2.2.2.2.2.2.2.2.2.2.1
@[irreducible] noncomputable def ol0 : Addr := v0.2.2.2.2.2.2.2.2.2.2.2.2.2.2.2.2.2.2.2.2.2.2.2.2.2.2.2.2.2.2.2.2.2.2.2.2.2.1
@[irreducible] noncomputable def tkE : Nat := v0.2.2.2.2.2.2.2.2.2.2.2.2.2.2.2.2.2.2.2.2.2.2.2.2.2.2.2.2.2.2.2.2.2.2.2.2.2.2
theorem all (nl : Addr) (vs : List Value) (n : Nat) (ts : List (Addr × Obj)) (tt : List (Addr × Obj)) (lzz : Addr) (us : List Value) (nz : Nat) (ns : List Value) (nn : Nat) (ol : Addr) (os : List Value) (no : Nat) (oS : Obj) (oN : Obj) (oW : Obj) (fst : Int) (tf : Tok) (pk : Int) (tp : Tok) (mv : Int) (tm : Tok) (fs : Nat → Bool) (sz : Nat → Nat) (ord : List Nat) (i : Nat) (k : Int) (t : Tok) (u : Str → Option Value) (h5 : Heap) (tk5 : Nat) (I : Addr) (oI : Obj) (hA : Heap) (hB : Heap) (tkA : Nat) (tk : Nat) (ol0 : Addr) (tkE : Nat) (h : Body Turn.nl Turn.vs Turn.n Turn.ts Turn.tt Turn.lzz Turn.us Turn.nz Turn.ns Turn.nn Turn.ol Turn.os Turn.no Turn.oS Turn.oN Turn.oW Turn.fst Turn.tf Turn.pk Turn.tp Turn.mv Turn.tm Turn.fs Turn.sz Turn.ord Turn.i Turn.k Turn.t Turn.u Turn.h5 Turn.tk5 Turn.I Turn.oI Turn.hA Turn.hB Turn.tkA Turn.tk Turn.ol0 Turn.tkE) : Body nl vs n ts tt lzz us nz ns nn ol os no oS oN oW fst tf pk tp mv tm fs sz ord i k t u h5 tk5 I oI hA hB tkA tk ol0 tkE := by
  delta Turn.nl Turn.vs Turn.n Turn.ts Turn.tt Turn.lzz Turn.us Turn.nz Turn.ns Turn.nn Turn.ol Turn.os Turn.no Turn.oS Turn.oN Turn.oW Turn.fst Turn.tf Turn.pk Turn.tp Turn.mv Turn.tm Turn.fs Turn.sz Turn.ord Turn.i Turn.k Turn.t Turn.u Turn.h5 Turn.tk5 Turn.I Turn.oI Turn.hA Turn.hB Turn.tkA Turn.tk Turn.ol0 Turn.tkE at h
  exact Classical.choose_spec (one_for_all ne Ok) h (nl, vs, n, ts, tt, lzz, us, nz, ns, nn, ol, os, no, oS, oN, oW, fst, tf, pk, tp, mv, tm, fs, sz, ord, i, k, t, u, h5, tk5, I, oI, hA, hB, tkA, tk, ol0, tkE)
set_option maxRecDepth 100000 in
set_option maxHeartbeats 2000000 in
noncomputable def loopC : (P : (Addr) → (List Value) → (Nat) → (List (Addr × Obj)) → (Nat) → (Int) → (Tok) → (Str → Option Value) → (Heap) → (Nat) → (Addr) → (Obj) → (Tok) → (Option Value) → (Heap) → (Heap) → (Nat) → (Nat) → Prop) ×' (P2 : (Addr) → (List Value) → (Nat) → (List (Addr × Obj)) → (Str → Option Value) → (Heap) → (Nat) → (Tok) → (Option Value) → Prop) ×' ((∀ (wl : Addr) (wv : List Value) (wc : Nat) (wts : List (Addr × Obj)) (i2 : Nat) (k2 : Int) (t2 : Tok) (u7 : Str → Option Value) (h8 : Heap) (tk8 : Nat) (I2 : Addr) (oI2 : Obj) (t9 : Tok) (vW : Option Value) (hA2 : Heap) (hB2 : Heap) (tkA2 : Nat) (tkB2 : Nat), P wl wv wc wts i2 k2 t2 u7 h8 tk8 I2 oI2 t9 vW hA2 hB2 tkA2 tkB2) → (∀ (wl : Addr) (wv : List Value) (wc : Nat) (wts : List (Addr × Obj)) (u7 : Str → Option Value) (h8 : Heap) (tk8 : Nat) (t9 : Tok) (vW : Option Value), P2 wl wv wc wts u7 h8 tk8 t9 vW) → Body nl vs n ts tt lzz us nz ns nn ol os no oS oN oW fst tf pk tp mv tm fs sz ord i k t u h5 tk5 I oI hA hB tkA tk ol0 tkE) := ⟨_, _, fun hcut hcut2 => by
  intro W hO hP hsz hus h1 h2 h3 h4 hzx hzd hnn1 hnn2 hwl hwi hrl hri hdp hun hret hLow mk9 hT1 hT2 hT3 lA lB hn1 hn2 hn3 hn4 hn5 hk hi off hI F6 N6
  replace F6 : Fr g0 L' h5 _ := F6
  replace N6 : News g0 L' h5 _ := N6
  obtain ⟨X, loose, mean, mg, mb, T⟩ := id W
  obtain ⟨hrows, hsub, hold, htup, hszs, hnms, hords, hperm, hlt8, hsum, hcS, hcN, ⟨vW, hcW⟩, hmv, hwin, hne1, hne2, hne3⟩ := hI
  dsimp only [ledP, psP] at *
  have offI := off
  simp only [LCg.Off1] at offI
  have hc1 : @Ne Nat ol (L' + 1 + 1 + 1) := cell_list_ne N6 (.tail _ (.tail _ (.head _))) (.tail _ (.tail _ (.tail _ (.tail _ (.head _))))) hcW
  have hc2 : @Ne Nat ol (L' + 1) := cell_list_ne N6 (.tail _ (.tail _ (.head _))) (.tail _ (.tail _ (.tail _ (.tail _ (.tail _ (.tail _ (.head _))))))) hcS
  have hc3 : @Ne Nat lzz (L' + 1 + 1 + 1) := cell_list_ne N6 (.tail _ (.tail _ (.tail _ (.head _)))) (.tail _ (.tail _ (.tail _ (.tail _ (.head _))))) hcW
  have hc4 : @Ne Nat lzz (L' + 1) := cell_list_ne N6 (.tail _ (.tail _ (.tail _ (.head _)))) (.tail _ (.tail _ (.tail _ (.tail _ (.tail _ (.tail _ (.head _))))))) hcS
  have hc5 : @Ne Nat nl (L' + 1 + 1 + 1) := cell_list_ne N6 (.tail _ (.head _)) (.tail _ (.tail _ (.tail _ (.tail _ (.head _))))) hcW
  have hc6 : @Ne Nat nl (L' + 1) := cell_list_ne N6 (.tail _ (.head _)) (.tail _ (.tail _ (.tail _ (.tail _ (.tail _ (.tail _ (.head _))))))) hcS
  have hvl : vs.length = 3 := by rw [hrows.length]; exact (List.length_map ..).trans (perms6_len ord hperm).1
  k_steps
  unfold Hold
  (rename News _ _ _ _ => N7)
  (rename Fr _ _ _ _ => F7)
  have hown : ∀ p ∈ hdO w x dx l tkh vs n ++ ts, p ∈ (I, oI) :: (nl, listOf ns.toArray nn) :: (ol, listOf os.toArray no) :: (lzz, listOf us.toArray nz) :: (L' + 1 + 1 + 1, oW) :: (L' + 1 + 1, oN) :: (L' + 1, oS) ::
  (x, instObj 296 dx) :: (dx, dictOf [⟨PyData.keyHash w.params (Str.ofString "_headers"), .str (Str.ofString "_headers") tkh, .ref l⟩] 1) :: (l, listOf vs.toArray n) :: (lz, listOf us0.toArray nz0) :: tt := by
    intro p hp
    walk_at "my.pin"
  k_dflt (refine MCall2.more (own := hdO w x dx l tkh vs n ++ ts) (P := fun v ex => ∃ (r : Addr) (m : Nat), v = .ref r ∧ ex = [(r, listOf vs.toArray m)]) (MCall2.imp (c_items (W.under F7 N7 hown) (fun p hp => (N7 p (hown p hp)).1) hrows (by omega)) (fun v o ⟨r, m, a, b⟩ => ⟨[(r, listOf vs.toArray m)], b, r, m, a, rfl⟩)) ?d8 ?u8 F7 N7 hown ?_)
  case d8 => walk_at "my.room"
  case u8 => walk_at "my.units"
  rintro v9 ex9 h9 tk9 ⟨r9, m9, rfl, rfl⟩ F9 N9 hA9
  dsimp only at hA9 ⊢
  simp only [List.cons_append, List.nil_append] at N9
  k_steps
  unfold Hold
  (rename News _ _ _ _ => N10)
  (rename Fr _ _ _ _ => F10)
  have hos : os.length = 3 := by rw [hords.length, List.length_map]; exact (perms6_len ord hperm).1
  refine LCg.CompSrc.ledger (its := os.toArray) (by rfl) F10 N10 (.tail _ (.tail _ (.tail _ (.head _)))) (by rw [List.size_toArray, sizeLine_eq]; omega) fun g => ?_
  refine cr_inv (fun i ys news => ∃ ts3, news = (r9, listOf vs.toArray m9) :: (I, oI) :: (nl, listOf ns.toArray nn) :: (ol, listOf os.toArray no) :: (lzz, listOf us.toArray nz) :: (L' + 1 + 1 + 1, oW) :: (L' + 1 + 1, oN) :: (L' + 1, oS) ::
  (x, instObj 296 dx) :: (dx, dictOf [⟨PyData.keyHash w.params (Str.ofString "_headers"), .str (Str.ofString "_headers") tkh, .ref l⟩] 1) :: (l, listOf vs.toArray n) :: (lz, listOf us0.toArray nz0) :: (tt ++ ts3) ∧ Prs ys ts3 (rowsP fs sz (ord.take i))) ⟨[], by rw [List.append_nil], .nil⟩ ?_ ?_
  · rintro i3 ys3 news3 v I3 oI3 C oC D3 m₂ h27 tk27 E' hi3 hy3 ⟨ts3, rfl, hP3⟩ hv hC hx F28 N28 off9 ne9
    rw [List.size_toArray, hos] at hi3
    obtain ⟨j, hj⟩ : ∃ j, ord[i3]? = some j := ⟨_, List.getElem?_eq_getElem (by rw [(perms6_len ord hperm).1]; exact hi3)⟩
    have hj3 : j < 3 := (perms6_len ord hperm).2 j (List.mem_of_getElem? hj)
    obtain ⟨tv, hv2⟩ := hords.get i3 (j : Int) (by rw [List.getElem?_map, hj]; rfl)
    have hv3 : v = .int (j : Int) tv := by
      have e : os.toArray[i3]? = some v := hv
      rw [List.getElem?_toArray, hv2] at e
      exact (Option.some.inj e).symm
    subst hv3
    have hnk : ((List.range 3).map fun k => nmS k (fs k))[(j : Int).toNat]? = some (nmS j (fs j)) := by
      rw [Int.toNat_natCast, List.getElem?_map, List.getElem?_range hj3]; rfl
    have hsk : ((List.range 3).map fun k => (sz k : Int)).getD (j : Int).toNat 0 = (sz j : Int) := by
      rw [Int.toNat_natCast, List.getD, List.getElem?_map, List.getElem?_range hj3]; rfl
    have hs8 := hlt8 j hj3
    k_steps
    unfold Hold
    (rename News _ _ _ _ => N29)
    (rename Fr _ _ _ _ => F29)
    rw [show Txt.mul (Str.ofString "\"") (sz j : Int) = dq (sz j) from mul_dq ⟨sz j, by omega⟩] at N29
    obtain ⟨d9, ta9, tb9, n9, N30, e9⟩ := tupNm N29
    subst e9
    have hd9 : @Ne Nat d9 I3 ∧ @Ne Nat d9 C ∧ @Ne Nat d9 D3 := ⟨by omega, by omega, by omega⟩
    refine LCg.CompEnd.intro F29 N30 ((r9, listOf vs.toArray m9) :: (I, oI) :: (nl, listOf ns.toArray nn) :: (ol, listOf os.toArray no) :: (lzz, listOf us.toArray nz) :: (L' + 1 + 1 + 1, oW) :: (L' + 1 + 1, oN) :: (L' + 1, oS) :: (x, instObj 296 dx) :: (dx, dictOf [⟨PyData.keyHash w.params (Str.ofString "_headers"), .str (Str.ofString "_headers") tkh, .ref l⟩] 1) :: (l, listOf vs.toArray n) :: (lz, listOf us0.toArray nz0) :: (tt ++ (ts3 ++ [(d9, { cls := .type "tuple", data := .seq #[.str (nmS j (fs j)) ta9, .str (dq (sz j)) tb9] n9 })]))) ?_ (off3_of fun p hp => ?_) (.inr ⟨_, .tail _ (.tail _ (.tail _ (.head _))), rfl, _, rfl⟩) ⟨ts3 ++ [(d9, { cls := .type "tuple", data := .seq #[.str (nmS j (fs j)) ta9, .str (dq (sz j)) tb9] n9 })], rfl, ?_⟩
    · intro p hp
      walk_at "my.pinS"
    · rcases (show p ∈ (r9, listOf vs.toArray m9) :: (I, oI) :: (nl, listOf ns.toArray nn) :: (ol, listOf os.toArray no) :: (lzz, listOf us.toArray nz) :: (L' + 1 + 1 + 1, oW) :: (L' + 1 + 1, oN) :: (L' + 1, oS) :: (x, instObj 296 dx) :: (dx, dictOf [⟨PyData.keyHash w.params (Str.ofString "_headers"), .str (Str.ofString "_headers") tkh, .ref l⟩] 1) :: (l, listOf vs.toArray n) :: (lz, listOf us0.toArray nz0) :: (tt ++ ts3) ∨ p.1 = d9 by
        simp only [List.mem_append, List.mem_cons, List.not_mem_nil, or_false] at hp ⊢
        grind) with q | q
      · exact off9.mem p q
      · rw [q]; exact hd9
    · rw [List.take_add_one, hj]
      show Prs _ _ ((ord.take i3 ++ [j]).map _)
      rw [List.map_append]
      exact hP3.append (.cons d9 _ _ _ _ _ .nil)
  · rintro ys3 news3 hy3 ⟨ts3, rfl, hP3⟩ D3 h27 tk27 F28 N28 off9
    rw [List.size_toArray, hos] at hP3
    rw [List.take_of_length_le (by rw [(perms6_len ord hperm).1]; exact Nat.le_refl _)] at hP3
    (try dsimp only)
    k_steps
    unfold Hold
    (rename News _ _ _ _ => N29)
    (rename Fr _ _ _ _ => F29)
    k_dflt (refine ne_same_dat N29 (.tail _ (.head _)) rfl rfl (prs_dat hrows (fun p hp => ?mm)) (.head _) rfl rfl (prs_dat hP3 (fun p hp => ?mn)) (ok_prs (rowsP_clean hperm hlt8)) ?u6 ?_)
    case mm =>
      walk_at "my.pin"
    case mn =>
      walk_at "my.pin"
    case u6 => walk_at "my.units"
    have N30 := News_sub ((I, oI) :: (nl, listOf ns.toArray nn) :: (ol, listOf os.toArray no) :: (lzz, listOf us.toArray nz) :: (L' + 1 + 1 + 1, oW) :: (L' + 1 + 1, oN) :: (L' + 1, oS) :: (x, instObj 296 dx) :: (dx, dictOf [⟨PyData.keyHash w.params (Str.ofString "_headers"), .str (Str.ofString "_headers") tkh, .ref l⟩] 1) :: (l, listOf vs.toArray n) :: (lz, listOf us0.toArray nz0) :: tt) N29 (fun p hp => by
      walk_at "my.pin")
    clear N29 off9; (try clear N28); (try clear N10)
    clear hP3
    have hsd : ∀ k, k < 3 → ((List.range 3).map fun k => (sz k : Int)).getD k 0 = (sz k : Int) := fun k hk => by
      rw [List.getD, List.getElem?_map, List.getElem?_range hk]; rfl
    have hwd : ∀ k, k < 3 → ((List.range nn0).map wn).getD (sz k : Int).toNat 0 = wn (sz k) := fun k hk => by
      have := hlt8 k hk
      rw [Int.toNat_natCast]
      exact getD_wn (by omega)
    have hsd0 : ((List.range 3).map fun k => (sz k : Int)).getD (0 : Int).toNat 0 = (sz 0 : Int) := hsd 0 (by decide)
    have hsd1 : ((List.range 3).map fun k => (sz k : Int)).getD (1 : Int).toNat 0 = (sz 1 : Int) := hsd 1 (by decide)
    have hsd2 : ((List.range 3).map fun k => (sz k : Int)).getD (2 : Int).toNat 0 = (sz 2 : Int) := hsd 2 (by decide)
    have hwd0 := hwd 0 (by decide)
    have hwd1 := hwd 1 (by decide)
    have hwd2 := hwd 2 (by decide)
    have h80 := hlt8 0 (by decide)
    have h81 := hlt8 1 (by decide)
    have h82 := hlt8 2 (by decide)
    have g1 := gdAt 1
    k_steps
    unfold Hold
    (rename Gd 1 => g9; clear g9)
    (rename News _ _ _ _ => N31)
    (rename Fr _ _ _ _ => F31)
    rw [show Builtin.bitXor (wn (sz 0)) (Builtin.bitXor (wn (sz 1)) (wn (sz 2))) = kx sz from rfl] at F31
    obtain ⟨wl, e9⟩ := nm1 N31
    subst e9
    (rename (@LT.lt Nat _ I wl ∧ _) => lW)
    have lW9 := lW
    k_dflt (refine rng (σ := List Value × Nat × List (Addr × Obj)) (n := 3) (fun c => (wl, listOf c.1.toArray c.2.1) :: (I, oI) :: (nl, listOf ns.toArray nn) :: (ol, listOf os.toArray no) :: (lzz, listOf us.toArray nz) :: (L' + 1 + 1 + 1, oW) :: (L' + 1 + 1, oN) :: (L' + 1, oS) :: (x, instObj 296 dx) :: (dx, dictOf [⟨PyData.keyHash w.params (Str.ofString "_headers"), .str (Str.ofString "_headers") tkh, .ref l⟩] 1) :: (l, listOf vs.toArray n) :: (lz, listOf us0.toArray nz0) :: (tt ++ c.2.2)) (fun _ => []) [Str.ofString "row", Str.ofString "lesser", Str.ofString "left"] (fun i2 c => Wys c.1 c.2.2 (waysU sz i2)) ([], 0, []) (by rfl) (by assumption) (small_one (by decide) (by decide) (by decide) (by decide)) (by rfl) F31 (by rw [List.append_nil]; exact N31) (fun _ h => nomatch h) .nil ?_ ?_)
    · rename_i hB2 hA2 tkA2 q1 q2 q3 q4 q5 FA2 NA2
      rintro ⟨wv, wc, wts⟩ i2 k2 t2 u7 h8 tk8 I2 oI2 hk2 hi2 off2 hwy F8 N8
      dsimp only at hwy F8 N8 off2
      replace F8 : Fr g0 L' h8 _ := F8
      replace N8 : News g0 L' h8 _ := N8
      revert N8; revert F8; revert hwy; revert off2; revert hi2; revert hk2; revert lW9; revert hwd; revert hsd; revert hos; revert hvl; revert hc6; revert hc5; revert hc4; revert hc3; revert hc2; revert hc1; revert hne3; revert hne2; revert hne1; revert hwin; revert hmv; revert hcW; revert hcN; revert hcS; revert hsum; revert hlt8; revert hperm; revert hords; revert hnms; revert hszs; revert htup; revert hold; revert hsub; revert hrows; revert off; revert hi; revert hk; revert hn5; revert hn4; revert hn3; revert hn2; revert hn1; revert lB; revert lA; revert hT3; revert hT2; revert hT1; revert mk9; revert hLow; revert hret; revert hun; revert hdp; revert hri; revert hrl; revert hwi; revert hwl; revert hnn2; revert hnn1; revert hzd; revert hzx; revert h4; revert h3; revert h2; revert h1; revert hus; revert hsz; revert hP; revert hO; revert W
      exact hcut wl wv wc wts i2 k2 t2 u7 h8 tk8 I2 oI2 t9 vW hA2 hB2 tkA2 tk
    · rintro ⟨wv, wc, wts⟩ u7 h8 tk8 hwy F8 N8
      dsimp only at hwy F8 N8
      (try dsimp only)
      replace F8 : Fr g0 L' h8 _ := F8
      replace N8 : News g0 L' h8 _ := N8
      revert N8; revert F8; revert hwy; revert lW9; revert hwd; revert hsd; revert hos; revert hvl; revert hc6; revert hc5; revert hc4; revert hc3; revert hc2; revert hc1; revert hne3; revert hne2; revert hne1; revert hwin; revert hmv; revert hcW; revert hcN; revert hcS; revert hsum; revert hlt8; revert hperm; revert hords; revert hnms; revert hszs; revert htup; revert hold; revert hsub; revert hrows; revert off; revert hi; revert hk; revert hn5; revert hn4; revert hn3; revert hn2; revert hn1; revert lB; revert lA; revert hT3; revert hT2; revert hT1; revert mk9; revert hLow; revert hret; revert hun; revert hdp; revert hri; revert hrl; revert hwi; revert hwl; revert hnn2; revert hnn1; revert hzd; revert hzx; revert h4; revert h3; revert h2; revert h1; revert hus; revert hsz; revert hP; revert hO; revert W
      exact hcut2 wl wv wc wts u7 h8 tk8 t9 vW
  ⟩
namespace Lop
noncomputable def Body (wl : Addr) (wv : List Value) (wc : Nat) (wts : List (Addr × Obj)) (i2 : Nat) (k2 : Int) (t2 : Tok) (u7 : Str → Option Value) (h8 : Heap) (tk8 : Nat) (I2 : Addr) (oI2 : Obj) (t9 : Tok) (vW : Option Value) (hA2 : Heap) (hB2 : Heap) (tkA2 : Nat) (tkB2 : Nat) : Prop :=
    loopC.1 wl wv wc wts i2 k2 t2 u7 h8 tk8 I2 oI2 t9 vW hA2 hB2 tkA2 tkB2
noncomputable def Ok (v : Addr × (List Value) × Nat × (List (Addr × Obj)) × Nat × Int × Tok × (Str → Option Value) × Heap × Nat × Addr × Obj × Tok × (Option Value) × Heap × Heap × Nat × Nat) : Prop := Body v.1 v.2.1 v.2.2.1 v.2.2.2.1 v.2.2.2.2.1 v.2.2.2.2.2.1 v.2.2.2.2.2.2.1 v.2.2.2.2.2.2.2.1 v.2.2.2.2.2.2.2.2.1 v.2.2.2.2.2.2.2.2.2.1 v.2.2.2.2.2.2.2.2.2.2.1 v.2.2.2.2.2.2.2.2.2.2.2.1 v.2.2.2.2.2.2.2.2.2.2.2.2.1 v.2.2.2.2.2.2.2.2.2.2.2.2.2.1 v.2.2.2.2.2.2.2.2.2.2.2.2.2.2.1 v.2.2.2.2.2.2.2.2.2.2.2.2.2.2.2.1 v.2.2.2.2.2.2.2.2.2.2.2.2.2.2.2.2.1 v.2.2.2.2.2.2.2.2.2.2.2.2.2.2.2.2.2
theorem ne : Nonempty (Addr × (List Value) × Nat × (List (Addr × Obj)) × Nat × Int × Tok × (Str → Option Value) × Heap × Nat × Addr × Obj × Tok × (Option Value) × Heap × Heap × Nat × Nat) := ⟨((0 : Nat), [], 0, [], 0, 0, 0, fun _ => none, {}, 0, (0 : Nat), default, 0, none, {}, {}, 0, 0)⟩
noncomputable def v0 : Addr × (List Value) × Nat × (List (Addr × Obj)) × Nat × Int × Tok × (Str → Option Value) × Heap × Nat × Addr × Obj × Tok × (Option Value) × Heap × Heap × Nat × Nat := Classical.choose (one_for_all ne Ok)
@[irreducible] noncomputable def wl : Addr := v0.1
@[irreducible] noncomputable def wv : List Value := v0.2.1
@[irreducible] noncomputable def wc : Nat := v0.2.2.1
@[irreducible] noncomputable def wts : List (Addr × Obj) := v0.2.2.2.1
@[irreducible] noncomputable def i2 : Nat := v0.2.2.2.2.1
@[irreducible] noncomputable def k2 : Int := v0.2.2.2.2.2.1
@[irreducible] noncomputable def t2 : Tok := v0.2.2.2.2.2.2.1
@[irreducible] noncomputable def u7 : Str → Option Value := v0.2.2.2.2.2.2.2.1
@[irreducible] noncomputable def h8 : Heap := v0.2.2.2.2.2.2.2.2.1
@[irreducible] noncomputable def tk8 : Nat := v0.2.2.2.2.2.2.2.2.2.1
@[irreducible] noncomputable def I2 : Addr := v0.2.2.2.2.2.2.2.2.2.2.1
@[irreducible] noncomputable def oI2 : Obj := v0.2.2.2.2.2.2.2.2.2.2.2.1
@[irreducible] noncomputable def t9 : Tok := v0.2.2.2.2.2.2.2.2.2.2.2.2.1
@[irreducible] noncomputable def vW : Option Value := v0.2.2.2.2.2.2.2.2.2.2.2.2.2.1
@[irreducible] noncomputable def hA2 : Heap := v0.2.2.2.2.2.2.2.2.2.2.2.2.2.2.1
@[irreducible] noncomputable def hB2 : Heap := v0.2.2.2.2.2.2.2.2.2.2.2.2.2.2.2.1
@[irreducible] noncomputable def tkA2 : Nat := v0.2.2.2.2.2.2.2.2.2.2.2.2.2.2.2.2.1
@[irreducible] noncomputable def tkB2 : Nat := v0.2.2.2.2.2.2.2.2.2.2.2.2.2.2.2.2.2
theorem all (wl : Addr) (wv : List Value) (wc : Nat) (wts : List (Addr × Obj)) (i2 : Nat) (k2 : Int) (t2 : Tok) (u7 : Str → Option Value) (h8 : Heap) (tk8 : Nat) (I2 : Addr) (oI2 : Obj) (t9 : Tok) (vW : Option Value) (hA2 : Heap) (hB2 : Heap) (tkA2 : Nat) (tkB2 : Nat) (h : Body Lop.wl Lop.wv Lop.wc Lop.wts Lop.i2 Lop.k2 Lop.t2 Lop.u7 Lop.h8 Lop.tk8 Lop.I2 Lop.oI2 Lop.t9 Lop.vW Lop.hA2 Lop.hB2 Lop.tkA2 Lop.tkB2) : Body wl wv wc wts i2 k2 t2 u7 h8 tk8 I2 oI2 t9 vW hA2 hB2 tkA2 tkB2 := by
  delta Lop.wl Lop.wv Lop.wc Lop.wts Lop.i2 Lop.k2 Lop.t2 Lop.u7 Lop.h8 Lop.tk8 Lop.I2 Lop.oI2 Lop.t9 Lop.vW Lop.hA2 Lop.hB2 Lop.tkA2 Lop.tkB2 at h
  exact Classical.choose_spec (one_for_all ne Ok) h (wl, wv, wc, wts, i2, k2, t2, u7, h8, tk8, I2, oI2, t9, vW, hA2, hB2, tkA2, tkB2)
set_option maxRecDepth 100000 in
set_option maxHeartbeats 2000000 in
theorem walk : Body wl wv wc wts i2 k2 t2 u7 h8 tk8 I2 oI2 t9 vW hA2 hB2 tkA2 tkB2 := by
  intro W hO hP hsz hus h1 h2 h3 h4 hzx hzd hnn1 hnn2 hwl hwi hrl hri hdp hun hret hLow mk9 hT1 hT2 hT3 lA lB hn1 hn2 hn3 hn4 hn5 hk hi off hrows hsub hold htup hszs hnms hords hperm hlt8 hsum hcS hcN hcW hmv hwin hne1 hne2 hne3 hc1 hc2 hc3 hc4 hc5 hc6 hvl hos hsd hwd lW9 hk2 hi2 off2 hwy F8 N8
  obtain ⟨X, loose, mean, mg, mb, T⟩ := id W
  have offI := off
  simp only [LCg.Off1] at offI
  have lW := lW9
  obtain ⟨h80, h81, h82⟩ : sz 0 < 8 ∧ sz 1 < 8 ∧ sz 2 < 8 := ⟨hlt8 0 (by decide), hlt8 1 (by decide), hlt8 2 (by decide)⟩
  have hwd0 := hwd 0 (by decide)
  have hwd1 := hwd 1 (by decide)
  have hwd2 := hwd 2 (by decide)
  have off2' := off2
  simp only [LCg.Off1] at off2'
  have hk3 : k2 = (i2 : Int) := by omega
  have e1 : Txt.item (Str.ofString "xyz") k2 = nmS i2 false := by rw [hk3]; exact (nmS_item ⟨i2, hi2⟩).1
  have e2 : Txt.item (Str.ofString "XYZ") k2 = nmS i2 true := by rw [hk3]; exact (nmS_item ⟨i2, hi2⟩).2
  have hk4 : 0 ≤ k2 := by omega
  have hk5 : k2 < 3 := by omega
  have g4 := gdAt 4
  k_steps
  unfold Hold
  (rename Gd 4 => g9; clear g9)
  (rename News _ _ _ _ => N9)
  (rename Fr _ _ _ _ => F9)
  refine cut_st (σ := Tok) (fun t => [(Str.ofString "row", .str (dq (sz i2)) t)]) [] (fun _ => True) F9 N9 ?_ ?_
  · refine wpAny_Assign_Name ?_
    k_steps
    all_goals (unfold Hold; (rename News _ _ _ _ => N10); (rename Fr _ _ _ _ => F10); (first | rw [e1] | rw [e2]))
    all_goals (have hown : ∀ p ∈ hdO w x dx l tkh vs n ++ ts, p ∈ (I2, oI2) :: (wl, listOf wv.toArray wc) :: (I, oI) :: (nl, listOf ns.toArray nn) :: (ol, listOf os.toArray no) :: (lzz, listOf us.toArray nz) :: (L' + 1 + 1 + 1, oW) :: (L' + 1 + 1, oN) :: (L' + 1, oS) :: (x, instObj 296 dx) :: (dx, dictOf [⟨PyData.keyHash w.params (Str.ofString "_headers"), .str (Str.ofString "_headers") tkh, .ref l⟩] 1) :: (l, listOf vs.toArray n) :: (lz, listOf us0.toArray nz0) :: (tt ++ wts) := (by
      intro p hp
      walk_at "my.pin"))
    all_goals (k_dflt (refine MCall2.same (own := hdO w x dx l tkh vs n ++ ts) (c_row (W.under F10 N10 hown) (fun p hp => (N10 p (hown p hp)).1) hrows hperm hi2 _ _) (by walk_at "my.room") (by walk_at "my.units") F10 N10 hown ?_))
    all_goals (rintro v9 h11 tk11 ⟨t9, rfl⟩ F11 N11; dsimp only; k_steps; (try unfold Hold); (rename News _ _ _ _ => N12); (rename Fr _ _ _ _ => F12); (try dsimp only))
    all_goals exact cut_end _ F12 N12 (List.forall_mem_singleton.mpr rfl) (by walk_at "my.csame") trivial
  · rintro tr u9 h9 tk9 _ F10 N10
    dsimp only at F10 ⊢
    have g1 := gdAt 1
    have hs8 := hlt8 i2 hi2
    have hrk : ((List.range nn0).map fun k => dq (k / 2))[((sz i2 : Nat) : Int).toNat]? = some (dq (sz i2 / 2)) := by
      rw [Int.toNat_natCast, List.getElem?_map, List.getElem?_range (by omega)]; rfl
    have hsk : ((List.range 3).map fun k => (sz k : Int)).getD k2.toNat 0 = (sz i2 : Int) := by
      rw [hk3, Int.toNat_natCast]; exact hsd i2 hi2
    have hwy6 : wv.length ≤ 6 := by
      rw [hwy.length]
      exact Nat.le_trans (waysU_len sz i2) (by omega)
    have hrd : ((List.range nn0).map wn).getD ((sz i2 : Nat) : Int).toNat 0 = wn (sz i2) := by
      rw [Int.toNat_natCast]; exact getD_wn (by omega)
    rcases (show sz i2 = 0 ∨ ∃ s', sz i2 = s' + 1 from by cases sz i2 with | zero => exact .inl rfl | succ n => exact .inr ⟨n, rfl⟩) with hs0 | ⟨s', hs1⟩
    · have hq0 : (dq (sz i2) != Str.ofString "") = false := by rw [hs0]; rfl
      k_steps
      unfold Hold
      (rename News _ _ _ _ => N13)
      (rename Fr _ _ _ _ => F13)
      obtain ⟨ll, e9⟩ := nm1 N13
      subst e9
      k_dflt (refine lst_loop (σ := Unit) (its := #[]) (kc := 0) (ax := ll) (fun _ => _) (fun _ => []) [] (fun _ _ => True) () (by rfl) (fun _ => .head _) F13 N13 (fun _ h => nomatch h) trivial (fun c i v u h tk I oI hv hi => absurd hi (Nat.not_lt_zero _)) ?_)
      rintro _ u14 h14 tk14 _ F14 N14
      (try dsimp only)
      k_steps
      unfold Hold
      (rename News _ _ _ _ => N15)
      (rename Fr _ _ _ _ => F15)
      exact rng_end (wv, wc, wts) F15 N15 (.tail _ (.head _)) (fun p hp => .tail _ (.tail _ hp)) (off1_mem off2) (fun _ h => nomatch h) (by walk_at "my.same") (by show Wys _ _ (waysU sz i2 ++ wayK (kx sz) i2 (sz i2)); rw [hs0]; rw [show wayK (kx sz) i2 0 = [] from rfl, List.append_nil]; exact hwy)
    · have hll := (dq_fin ⟨sz i2, by omega⟩).1
      have hd9 := dq_fin ⟨s', by omega⟩
      dsimp only at hd9 hll
      have hq1 : (dq (sz i2) != Str.ofString "") = true := by rw [hs1]; exact hd9.2.2.2
      have hsl : Txt.slice (dq (sz i2)) (some 1) none = dq (sz i2 - 1) := by rw [hs1]; exact hd9.2.2.1
      clear hd9
      k_steps
      unfold Hold
      (rename News _ _ _ _ => N13)
      (rename Fr _ _ _ _ => F13)
      rw [hsl] at N13
      obtain ⟨ll, e9⟩ := nm1 N13
      subst e9
      have hllW : @LT.lt Nat _ wl ll := by omega
      k_dflt (refine lst_loop (σ := List Value × Nat × List (Addr × Obj)) (its := #[.str (dq (sz i2 - 1)) _, .str (dq (sz i2 / 2)) _]) (kc := 0) (ax := ll) (fun c => (ll, listOf #[.str (dq (sz i2 - 1)) _, .str (dq (sz i2 / 2)) _] 0) :: (I2, oI2) :: (wl, listOf c.1.toArray c.2.1) :: (I, oI) :: (nl, listOf ns.toArray nn) :: (ol, listOf os.toArray no) :: (lzz, listOf us.toArray nz) :: (L' + 1 + 1 + 1, oW) :: (L' + 1 + 1, oN) :: (L' + 1, oS) :: (x, instObj 296 dx) :: (dx, dictOf [⟨PyData.keyHash w.params (Str.ofString "_headers"), .str (Str.ofString "_headers") tkh, .ref l⟩] 1) :: (l, listOf vs.toArray n) :: (lz, listOf us0.toArray nz0) :: (tt ++ c.2.2)) (fun _ => []) [] (fun i4 c => Wys c.1 c.2.2 (waysU sz i2 ++ (wayK (kx sz) i2 (sz i2)).take i4) ∧ ∀ p ∈ c.2.2, @Ne Nat p.1 I2) (wv, wc, wts) (by rfl) (fun _ => .head _) F13 N13 (fun _ h => nomatch h) ⟨by rw [List.take_zero, List.append_nil]; exact hwy, fun p hp => off1_mem (off2'.2.2.2.2.2.2.2.2.2.2.2.2) p (List.mem_append_right _ hp)⟩ ?_ ?_)
      · rintro ⟨wv2, wc2, wts2⟩ i4 v u14 h14 tk14 I4 oI4 hv hi4 off4 ⟨hwy4, hI24⟩ F14 N14
        dsimp only at hwy4 hI24 F14 N14 off4
        obtain ⟨mm, tv, rfl, hm8, hml, hlev, hway⟩ := left_told hs1 hs8 hi4 hv
        have hmd : ((List.range nn0).map wn).getD ((dq mm).length : Int).toNat 0 = wn mm := by
          rw [hml, Int.toNat_natCast]; exact getD_wn (by omega)
        have off4' := off4
        simp only [LCg.Off1] at off4'
        have hwv2 : wv2.length ≤ 20 := by
          rw [hwy4.length, List.length_append]
          have := waysU_len sz i2
          have := wayK_len (kx sz) i2 (sz i2)
          rw [List.length_take]
          omega
        have hoW : OwnOff (tt ++ wts2) [wl] := tups_list (tups_app htup hwy4.cls) N14 (.tail _ (.tail _ (.tail _ (.head _)))) rfl (fun p hp => by walk_at "my.pin")
        have g6 := gdAt 6
        k_steps
        unfold Hold
        (rename Gd 6 => g9; clear g9)
        (rename News _ _ _ _ => N15)
        (rename Fr _ _ _ _ => F15)
        obtain ⟨T9, e9⟩ := nm1 N15
        subst e9
        have hTW : @Ne Nat T9 wl := by omega
        have hBW : ∀ p ∈ (I, oI) :: (nl, listOf ns.toArray nn) :: (ol, listOf os.toArray no) :: (lzz, listOf us.toArray nz) :: (L' + 1 + 1 + 1, oW) :: (L' + 1 + 1, oN) :: (L' + 1, oS) :: (x, instObj 296 dx) :: (dx, dictOf [⟨PyData.keyHash w.params (Str.ofString "_headers"), .str (Str.ofString "_headers") tkh, .ref l⟩] 1) :: (l, listOf vs.toArray n) :: (lz, listOf us0.toArray nz0) :: (tt ++ wts2), @Ne Nat p.1 wl := by
          obtain ⟨q1, q2, q3, q4, q5, q6, q7, q8, q9, q10, q11, _⟩ := lW9
          refine List.forall_mem_cons.mpr ⟨Nat.ne_of_lt q1, List.forall_mem_cons.mpr ⟨Nat.ne_of_lt q2, List.forall_mem_cons.mpr ⟨Nat.ne_of_lt q3, List.forall_mem_cons.mpr ⟨Nat.ne_of_lt q4, List.forall_mem_cons.mpr ⟨Nat.ne_of_lt q5, List.forall_mem_cons.mpr ⟨Nat.ne_of_lt q6, List.forall_mem_cons.mpr ⟨Nat.ne_of_lt q7, List.forall_mem_cons.mpr ⟨Nat.ne_of_lt q8, List.forall_mem_cons.mpr ⟨Nat.ne_of_lt q9, List.forall_mem_cons.mpr ⟨Nat.ne_of_lt q10, List.forall_mem_cons.mpr ⟨Nat.ne_of_lt q11, fun p hp => hoW p hp wl (.head _)⟩⟩⟩⟩⟩⟩⟩⟩⟩⟩⟩
        refine append_K F15 N15 (.tail hTW (.tail (Ne.symm off4'.2.2.1) (.tail (Nat.ne_of_gt hllW) (.tail (Ne.symm off2'.1) (.head hBW))))) (fun h16 F16 N16 => ?_) (by rw [sizeLine_eq, List.size_toArray]; omega)
        rw [List.push_toArray] at N16
        dsimp only
        k_steps
        unfold Hold
        (rename News _ _ _ _ => N17)
        (rename Fr _ _ _ _ => F17)
        rw [show Builtin.bitXor (kx sz) (Builtin.bitXor (wn (sz i2)) (wn mm)) = wy (kx sz) (sz i2) mm from rfl, hk3] at N17
        obtain ⟨ta9, tb9, tc9, n9, N18⟩ := wyNm N17
        have hTI : @Ne Nat T9 I4 := by omega
        have hTI2 : @Ne Nat T9 I2 := by omega
        refine rng_end (wv2 ++ [.ref T9], wc2 + 1, wts2 ++ [(T9, { cls := .type "tuple", data := .seq #[.int (wy (kx sz) (sz i2) mm) ta9, .int (i2 : Int) tb9, .str (dq mm) tc9] n9 })]) F17 N18 (.tail _ (.head _)) ?_ ?_ (fun _ h => nomatch h) (by walk_at "my.same") ?_
        · intro p hp
          walk_at "my.pinS"
        · have offT := off1_mem (off4'.2.2.2.2.2.2.2.2.2.2.2.2.2.2)
          refine List.forall_mem_cons.mpr ⟨off4'.1, List.forall_mem_cons.mpr ⟨off4'.2.1, List.forall_mem_cons.mpr ⟨off4'.2.2.1, List.forall_mem_cons.mpr ⟨off4'.2.2.2.1, List.forall_mem_cons.mpr ⟨off4'.2.2.2.2.1, List.forall_mem_cons.mpr ⟨off4'.2.2.2.2.2.1, List.forall_mem_cons.mpr ⟨off4'.2.2.2.2.2.2.1, List.forall_mem_cons.mpr ⟨off4'.2.2.2.2.2.2.2.1, List.forall_mem_cons.mpr ⟨off4'.2.2.2.2.2.2.2.2.1, List.forall_mem_cons.mpr ⟨off4'.2.2.2.2.2.2.2.2.2.1, List.forall_mem_cons.mpr ⟨off4'.2.2.2.2.2.2.2.2.2.2.1, List.forall_mem_cons.mpr ⟨off4'.2.2.2.2.2.2.2.2.2.2.2.1, List.forall_mem_cons.mpr ⟨off4'.2.2.2.2.2.2.2.2.2.2.2.2.1, List.forall_mem_cons.mpr ⟨off4'.2.2.2.2.2.2.2.2.2.2.2.2.2.1, fun p hp => ?_⟩⟩⟩⟩⟩⟩⟩⟩⟩⟩⟩⟩⟩⟩
          rcases List.mem_append.mp hp with q | q
          · exact offT p (List.mem_append_left _ q)
          · rcases List.mem_append.mp q with q | q
            · exact offT p (List.mem_append_right _ q)
            · rw [List.mem_singleton.mp q]; exact hTI
        · refine ⟨?_, fun p hp => (List.mem_append.mp hp).elim (hI24 p) fun q => by rw [List.mem_singleton.mp q]; exact hTI2⟩
          show Wys _ _ (waysU sz i2 ++ (wayK (kx sz) i2 (sz i2)).take (i4 + 1))
          rw [List.take_add_one, hway, ← List.append_assoc]
          exact hwy4.append (.cons T9 _ i2 mm ta9 tb9 tc9 n9 .nil)
      · rintro ⟨wv2, wc2, wts2⟩ u14 h14 tk14 ⟨hwy4, hI24⟩ F14 N14
        dsimp only at hwy4 hI24 F14 N14
        (try dsimp only)
        k_steps
        unfold Hold
        (rename News _ _ _ _ => N15)
        (rename Fr _ _ _ _ => F15)
        refine rng_end (wv2, wc2, wts2) F15 N15 (.tail _ (.head _)) (fun p hp => .tail _ (.tail _ hp)) ?_ (fun _ h => nomatch h) (by walk_at "my.same") ?_
        · have offT : ∀ p ∈ tt ++ wts2, @Ne Nat p.1 I2 := by
            exact fun p hp => (List.mem_append.mp hp).elim (fun q => off1_mem (off2'.2.2.2.2.2.2.2.2.2.2.2.2) p (List.mem_append_left _ q)) (hI24 p)
          exact List.forall_mem_cons.mpr ⟨off2'.1, List.forall_mem_cons.mpr ⟨off2'.2.1, List.forall_mem_cons.mpr ⟨off2'.2.2.1, List.forall_mem_cons.mpr ⟨off2'.2.2.2.1, List.forall_mem_cons.mpr ⟨off2'.2.2.2.2.1, List.forall_mem_cons.mpr ⟨off2'.2.2.2.2.2.1, List.forall_mem_cons.mpr ⟨off2'.2.2.2.2.2.2.1, List.forall_mem_cons.mpr ⟨off2'.2.2.2.2.2.2.2.1, List.forall_mem_cons.mpr ⟨off2'.2.2.2.2.2.2.2.2.1, List.forall_mem_cons.mpr ⟨off2'.2.2.2.2.2.2.2.2.2.1, List.forall_mem_cons.mpr ⟨off2'.2.2.2.2.2.2.2.2.2.2.1, List.forall_mem_cons.mpr ⟨off2'.2.2.2.2.2.2.2.2.2.2.2.1, offT⟩⟩⟩⟩⟩⟩⟩⟩⟩⟩⟩⟩
        · show Wys _ _ (waysU sz i2 ++ wayK (kx sz) i2 (sz i2))
          have e : (wayK (kx sz) i2 (sz i2)).take 2 = wayK (kx sz) i2 (sz i2) := List.take_of_length_le (wayK_len (kx sz) i2 (sz i2))
          rw [← e]
          exact hwy4
end Lop
namespace Tai
noncomputable def Body (wl : Addr) (wv : List Value) (wc : Nat) (wts : List (Addr × Obj)) (u7 : Str → Option Value) (h8 : Heap) (tk8 : Nat) (t9 : Tok) (vW : Option Value) : Prop :=
    loopC.2.1 wl wv wc wts u7 h8 tk8 t9 vW
noncomputable def Ok (v : Addr × (List Value) × Nat × (List (Addr × Obj)) × (Str → Option Value) × Heap × Nat × Tok × (Option Value)) : Prop := Body v.1 v.2.1 v.2.2.1 v.2.2.2.1 v.2.2.2.2.1 v.2.2.2.2.2.1 v.2.2.2.2.2.2.1 v.2.2.2.2.2.2.2.1 v.2.2.2.2.2.2.2.2
theorem ne : Nonempty (Addr × (List Value) × Nat × (List (Addr × Obj)) × (Str → Option Value) × Heap × Nat × Tok × (Option Value)) := ⟨((0 : Nat), [], 0, [], fun _ => none, {}, 0, 0, none)⟩
noncomputable def v0 : Addr × (List Value) × Nat × (List (Addr × Obj)) × (Str → Option Value) × Heap × Nat × Tok × (Option Value) := Classical.choose (one_for_all ne Ok)
@[irreducible] noncomputable def wl : Addr := v0.1
@[irreducible] noncomputable def wv : List Value := v0.2.1
@[irreducible] noncomputable def wc : Nat := v0.2.2.1
@[irreducible] noncomputable def wts : List (Addr × Obj) := v0.2.2.2.1
@[irreducible] noncomputable def u7 : Str → Option Value := v0.2.2.2.2.1
@[irreducible] noncomputable def h8 : Heap := v0.2.2.2.2.2.1
@[irreducible] noncomputable def tk8 : Nat := v0.2.2.2.2.2.2.1
@[irreducible] noncomputable def t9 : Tok := v0.2.2.2.2.2.2.2.1
@[irreducible] noncomputable def vW : Option Value := v0.2.2.2.2.2.2.2.2
theorem all (wl : Addr) (wv : List Value) (wc : Nat) (wts : List (Addr × Obj)) (u7 : Str → Option Value) (h8 : Heap) (tk8 : Nat) (t9 : Tok) (vW : Option Value) (h : Body Tai.wl Tai.wv Tai.wc Tai.wts Tai.u7 Tai.h8 Tai.tk8 Tai.t9 Tai.vW) : Body wl wv wc wts u7 h8 tk8 t9 vW := by
  delta Tai.wl Tai.wv Tai.wc Tai.wts Tai.u7 Tai.h8 Tai.tk8 Tai.t9 Tai.vW at h
  exact Classical.choose_spec (one_for_all ne Ok) h (wl, wv, wc, wts, u7, h8, tk8, t9, vW)
set_option maxRecDepth 100000 in
set_option maxHeartbeats 2000000 in
theorem walk : Body wl wv wc wts u7 h8 tk8 t9 vW := by
  intro W hO hP hsz hus h1 h2 h3 h4 hzx hzd hnn1 hnn2 hwl hwi hrl hri hdp hun hret hLow mk9 hT1 hT2 hT3 lA lB hn1 hn2 hn3 hn4 hn5 hk hi off hrows hsub hold htup hszs hnms hords hperm hlt8 hsum hcS hcN hcW hmv hwin hne1 hne2 hne3 hc1 hc2 hc3 hc4 hc5 hc6 hvl hos hsd hwd lW9 hwy F8 N8
  obtain ⟨X, loose, mean, mg, mb, T⟩ := id W
  have offI := off
  simp only [LCg.Off1] at offI
  have lW := lW9
  obtain ⟨h80, h81, h82⟩ : sz 0 < 8 ∧ sz 1 < 8 ∧ sz 2 < 8 := ⟨hlt8 0 (by decide), hlt8 1 (by decide), hlt8 2 (by decide)⟩
  have hwd0 := hwd 0 (by decide)
  have hwd1 := hwd 1 (by decide)
  have hwd2 := hwd 2 (by decide)
  (try dsimp only)
  have hwv6 : wv.length ≤ 6 := by
    rw [hwy.length]
    exact waysU_len sz 3
  have g2 := gdAt 2
  k_steps
  unfold Hold
  (rename News _ _ _ _ => N9)
  (rename Fr _ _ _ _ => F9)
  refine LCt.CompSrcT.ledger (its := wv.toArray) (by rfl) F9 N9 (.head _) (by rw [List.size_toArray, sizeLine_eq]; omega) fun g => ?_
  refine crt_fix (fun i ys => ∃ wts', (∀ p ∈ wts', p ∈ wts) ∧ Wys ys wts' (((waysU sz 3).take i).filter (fun y => y.1 == 0))) ⟨[], (fun _ h => nomatch h), .nil⟩ ?_ ?_
  · rintro i4 ys4 v I4 oI4 C oC D4 m₂ h29 tk29 E' hi4 ⟨wts', hsb, hS4⟩ hv hC hx F30 N30 off10 ne10
    rw [List.size_toArray] at hi4
    obtain ⟨t4, x4, k4, m4, ta4, tb4, tc4, n4, rfl, hx4, hm4⟩ := hwy.at (by rw [← List.getElem?_toArray]; exact hv)
    have N31 := News_sub ((t4, { cls := .type "tuple", data := .seq #[.int x4 ta4, .int (k4 : Int) tb4, .str (dq m4) tc4] n4 }) :: (I4, oI4) :: (C, oC) :: (D4, LCg.lst ys4) :: (wl, listOf wv.toArray wc) :: (I, oI) :: (nl, listOf ns.toArray nn) :: (ol, listOf os.toArray no) :: (lzz, listOf us.toArray nz) :: (L' + 1 + 1 + 1, oW) :: (L' + 1 + 1, oN) :: (L' + 1, oS) :: (x, instObj 296 dx) :: (dx, dictOf [⟨PyData.keyHash w.params (Str.ofString "_headers"), .str (Str.ofString "_headers") tkh, .ref l⟩] 1) :: (l, listOf vs.toArray n) :: (lz, listOf us0.toArray nz0) :: (tt ++ wts)) N30 (fun p hp => by
      rcases List.mem_cons.mp hp with rfl | q
      · simp only [List.mem_cons, List.mem_append]; grind
      · exact q)
    clear N30
    k_steps
    all_goals (unfold Hold; (rename News _ _ _ _ => N32); (rename Fr _ _ _ _ => F32))
    · (rename (x4 = 0) => hq9)
      refine LCg.CompEnd.intro F32 N32 _ (fun p hp => .tail _ hp) off10 (.inr ⟨_, .head _, rfl, _, rfl⟩) ⟨rfl, wts' ++ [(t4, { cls := .type "tuple", data := .seq #[.int x4 ta4, .int (k4 : Int) tb4, .str (dq m4) tc4] n4 })], (fun p hp => (List.mem_append.mp hp).elim (hsb p) fun q => by rw [List.mem_singleton.mp q]; exact hm4), ?_⟩
      rw [List.take_add_one, hx4, List.filter_append]
      have e : ((some (x4, k4, m4)).toList.filter fun y : Int × Nat × Nat => y.1 == 0) = [(x4, k4, m4)] := by
        rw [hq9]; rfl
      rw [e]
      exact hS4.append (.cons t4 x4 k4 m4 ta4 tb4 tc4 n4 .nil)
    · (rename (x4 ≠ 0) => hq9)
      refine LCg.CompEnd.intro F32 N32 _ (fun p hp => .tail _ hp) off10 (.inr ⟨_, .head _, rfl, _, rfl⟩) ⟨rfl, wts', hsb, ?_⟩
      rw [List.take_add_one, hx4, List.filter_append]
      have e : ((some (x4, k4, m4)).toList.filter fun y : Int × Nat × Nat => y.1 == 0) = [] := by
        have : (x4 == 0) = false := by simpa using hq9
        simp [this]
      rw [e, List.append_nil]
      exact hS4
  · rintro ys4 ⟨wts', hsb, hS4⟩ D4 h29 tk29 F30 N30 off10
    rw [List.size_toArray, List.take_of_length_le (by rw [hwy.length]; exact Nat.le_refl _)] at hS4
    (try dsimp only)
    obtain ⟨gm1, gm2, gm3⟩ := game hlt8
    obtain ⟨z0, hz0⟩ : ∃ z : Bool, z = true ↔ kx sz = 0 := ⟨decide (kx sz = 0), by simp⟩
    obtain ⟨z1, hz1⟩ : ∃ z : Bool, z = true ↔ waysU sz 3 = [] := ⟨decide (waysU sz 3 = []), by simp⟩
    have hokw : ∀ y ∈ waysU sz 3, Clean (dq y.2.2) := fun y hy => by
      obtain ⟨a, b, _⟩ := gm3 y hy
      have := hlt8 _ a
      exact Clean.of (dq_fin ⟨y.2.2, by omega⟩).2.1
    have hokl : ∀ y ∈ (waysU sz 3).filter (fun y => y.1 == 0), Clean (dq y.2.2) := fun y hy => hokw y (List.mem_filter.mp hy).1
    k_steps
    unfold Hold
    (rename News _ _ _ _ => N33)
    (rename Fr _ _ _ _ => F33)
    k_dflt (refine eq_nil_dat (z := z0) N33 (.tail _ (.head _)) rfl rfl (wys_dat hS4 (fun p hp => ?ma)) (.head _) rfl rfl (ok_wys hokl) ?uu1 (by rw [List.map_eq_nil_iff, gm1]; exact hz0) ?_)
    case ma =>
      walk_at "my.pin"
    case uu1 => walk_at "my.units"
    have g4 := gdAt 4
    k_steps
    unfold Hold
    (rename Gd 4 => g9; clear g9)
    (rename News _ _ _ _ => N34)
    (rename Fr _ _ _ _ => F34)
    refine cut_st (σ := Tok) (fun t => [(Str.ofString "first", .int (if i = 0 then kx sz else fst) t)]) [] (fun _ => True) F34 N34 ?_ ?_
    · refine wpAny_Assign_Name ?_
      k_steps
      all_goals (unfold Hold; (rename News _ _ _ _ => N35); (rename Fr _ _ _ _ => F35); (try dsimp only))
      · (rename (k = 0) => hq9)
        exact cut_end _ F35 N35 (List.forall_mem_singleton.mpr (congrArg (fun z => some (Value.int z _)) (if_pos (show i = 0 by omega)).symm)) (by walk_at "my.csame") trivial
      · (rename (k ≠ 0) => hq9)
        exact cut_end _ F35 N35 (List.forall_mem_singleton.mpr (congrArg (fun z => some (Value.int z _)) (if_neg (show ¬ i = 0 by omega)).symm)) (by walk_at "my.csame") trivial
    · rintro tf2 u9 h9 tk9 _ F35 N35
      dsimp only at F35 ⊢
      generalize hfst : (if i = 0 then kx sz else fst) = fst2 at F35
      have hJ : Jg i (kx sz) fst2 := by
        rw [← hfst]
        split
        · rename_i e
          unfold Jg
          rw [e]
          simp
        · rename_i e
          exact hwin.resolve_left e
      clear hwin
      have N36 := News_sub ((D4, LCg.lst ys4) :: (wl, listOf wv.toArray wc) :: (I, oI) :: (nl, listOf ns.toArray nn) :: (ol, listOf os.toArray no) :: (lzz, listOf us.toArray nz) :: (L' + 1 + 1 + 1, oW) :: (L' + 1 + 1, oN) :: (L' + 1, oS) :: (x, instObj 296 dx) :: (dx, dictOf [⟨PyData.keyHash w.params (Str.ofString "_headers"), .str (Str.ofString "_headers") tkh, .ref l⟩] 1) :: (l, listOf vs.toArray n) :: (lz, listOf us0.toArray nz0) :: (tt ++ wts)) N35 (fun p hp => by
        walk_at "my.pin")
      clear N35; (try clear N34); (try clear N33); (try clear F34); (try clear F33); (try clear N30)
      k_steps
      unfold Hold
      (rename News _ _ _ _ => N37)
      (rename Fr _ _ _ _ => F37)
      k_dflt (refine eq_nil_dat (z := z1) N37 (.tail _ (.tail _ (.head _))) rfl rfl (wys_dat hwy (fun p hp => ?mb)) (.head _) rfl rfl (ok_wys hokw) ?uu2 (by rw [List.map_eq_nil_iff]; exact hz1) ?_)
      case mb =>
        walk_at "my.pin"
      case uu2 => walk_at "my.units"
      have N38 := News_sub ((D4, LCg.lst ys4) :: (wl, listOf wv.toArray wc) :: (I, oI) :: (nl, listOf ns.toArray nn) :: (ol, listOf os.toArray no) :: (lzz, listOf us.toArray nz) :: (L' + 1 + 1 + 1, oW) :: (L' + 1 + 1, oN) :: (L' + 1, oS) :: (x, instObj 296 dx) :: (dx, dictOf [⟨PyData.keyHash w.params (Str.ofString "_headers"), .str (Str.ofString "_headers") tkh, .ref l⟩] 1) :: (l, listOf vs.toArray n) :: (lz, listOf us0.toArray nz0) :: (tt ++ wts)) N37 (fun p hp => .tail _ hp)
      clear N37
      cases z1 with
      | true =>
        have hke := gm2 (hz1.mp rfl)
        obtain ⟨zm, hzm⟩ : ∃ z : Bool, z = true ↔ mv.fmod 2 = 1 := ⟨decide (mv.fmod 2 = 1), by simp⟩
        obtain ⟨zf, hzf⟩ : ∃ z : Bool, z = true ↔ fst2 ≠ 0 := ⟨decide (fst2 ≠ 0), by simp⟩
        k_steps
        walk_at "my.end"
        (rename News _ _ _ _ => N39)
        have hzz : (zm == zf) = true := by
          have e1 : zm = true ↔ i % 2 = 1 := by
            rw [hzm, hmv, Int.fmod_eq_emod_of_nonneg _ (by decide)]
            omega
          unfold Jg at hJ
          have e2 : zf = true ↔ i % 2 = 1 := by
            rw [hzf]
            have := (not_congr hJ).mp (by simpa using hke)
            by_cases q : fst2 = 0
            · simp [q] at this ⊢
              omega
            · simp [q] at this ⊢
              omega
          have e3 : zm = zf := Bool.eq_iff_iff.mpr (e1.trans e2.symm)
          rw [e3]
          exact beq_self_eq_true _
        rw [hzz]
        refine hret _ _ _ (by walk_at "my.keep") ⟨_, ⟨rfl, rfl⟩, Held.of N39 (fun p hp => ?_)⟩
        rcases List.mem_cons.mp hp with q | q
        · rw [q]; walk_at "my.mY"
        · have hp := hold p q
          walk_at "my.pin"
      | false =>
        have g4 := gdAt 4
        k_steps
        unfold Hold
        (rename Gd 4 => g9; clear g9)
        (rename News _ _ _ _ => N39)
        (rename Fr _ _ _ _ => F39)
        have hwne : waysU sz 3 ≠ [] := fun e => Bool.false_ne_true (hz1.mpr e)
        have N40 := News_sub ((D4, LCg.lst ys4) :: (wl, listOf wv.toArray wc) :: (I, oI) :: (nl, listOf ns.toArray nn) :: (ol, listOf os.toArray no) :: (lzz, listOf us.toArray nz) :: (L' + 1 + 1 + 1, oW) :: (L' + 1 + 1, oN) :: (L' + 1, oS) :: (x, instObj 296 dx) :: (dx, dictOf [⟨PyData.keyHash w.params (Str.ofString "_headers"), .str (Str.ofString "_headers") tkh, .ref l⟩] 1) :: (l, listOf vs.toArray n) :: (lz, listOf us0.toArray nz0) :: (tt ++ wts)) N39 (fun p hp => by
          walk_at "my.pin")
        clear N39
        have hoA : OwnOff (tt ++ wts) [L' + 1 + 1 + 1] := tups_cell (tups_app htup hwy.cls) N40 (.tail _ (.tail _ (.tail _ (.tail _ (.tail _ (.tail _ (.head _))))))) hcW (fun p hp => by walk_at "my.pin")
        have off10' := off10
        simp only [LCg.Off1] at off10'
        refine cut_anyF F39 (fun m s' => ∃ (h' : Heap) (tk' : Nat) (oW' : Obj) (t4 : Addr) (x4 : Int) (kk mm : Nat) (ta4 tb4 tc4 : Tok) (n4 : Nat), s' = { heap := h', gens := s.gens, drawn := s.drawn, toks := tk', os := s.os } ∧ Fr g0 L' h' m ∧ News g0 L' h' ((D4, LCg.lst ys4) :: (wl, listOf wv.toArray wc) :: (I, oI) :: (nl, listOf ns.toArray nn) :: (ol, listOf os.toArray no) :: (lzz, listOf us.toArray nz) :: (L' + 1 + 1 + 1, oW') :: (L' + 1 + 1, oN) :: (L' + 1, oS) :: (x, instObj 296 dx) :: (dx, dictOf [⟨PyData.keyHash w.params (Str.ofString "_headers"), .str (Str.ofString "_headers") tkh, .ref l⟩] 1) :: (l, listOf vs.toArray n) :: (lz, listOf us0.toArray nz0) :: (tt ++ wts)) ∧ oW'.data = .cell (some (.ref t4)) ∧ (x4, kk, mm) ∈ waysU sz 3 ∧ (kx sz ≠ 0 → x4 = 0) ∧ (t4, ({ cls := .type "tuple", data := .seq #[.int x4 ta4, .int (kk : Int) tb4, .str (dq mm) tc4] n4 } : Obj)) ∈ wts) ?_ ?_
        · refine wpAny_Assign_Name ?_
          by_cases hk0 : kx sz = 0
          · k_steps
            unfold Hold
            (rename News _ _ _ _ => N41)
            (rename Fr _ _ _ _ => F41)
            k_dflt (refine ne_nil_dat (z := false) N41 (.tail _ (.head _)) rfl rfl (wys_dat hS4 (fun p hp => ?mc)) (.head _) rfl rfl (ok_wys hokl) ?uu3 (by rw [ne_eq, List.map_eq_nil_iff, gm1]; simp [hk0]) ?_)
            case mc =>
              walk_at "my.pin"
            case uu3 => walk_at "my.units"
            have hwl2 : 0 < wv.length := by
              rw [hwy.length]
              exact List.length_pos_iff.mpr hwne
            have hix0 : 0 ≤ pk.fmod (wv.length : Int) := by
              rw [Int.fmod_eq_emod_of_nonneg _ (by omega)]
              exact Int.emod_nonneg _ (by omega)
            have hix1 : pk.fmod (wv.length : Int) < wv.length := by
              rw [Int.fmod_eq_emod_of_nonneg _ (by omega)]
              exact Int.emod_lt_of_pos _ (by omega)
            obtain ⟨v4, hv4⟩ : ∃ v, wv[(pk.fmod (wv.length : Int)).toNat]? = some v := ⟨_, List.getElem?_eq_getElem (by omega)⟩
            obtain ⟨t4, x4, kk, mm, ta4, tb4, tc4, n4, rfl, hps, hm4⟩ := hwy.at hv4
            have hmem := List.mem_of_getElem? hps
            have g5 := gdAt 5
            k_steps
            unfold Hold
            (rename Gd 5 => g9; clear g9)
            (rename News _ _ _ _ => N42)
            (rename Fr _ _ _ _ => F42)
            have N43 := News_sub ((D4, LCg.lst ys4) :: (wl, listOf wv.toArray wc) :: (I, oI) :: (nl, listOf ns.toArray nn) :: (ol, listOf os.toArray no) :: (lzz, listOf us.toArray nz) :: (L' + 1 + 1 + 1, oW) :: (L' + 1 + 1, oN) :: (L' + 1, oS) :: (x, instObj 296 dx) :: (dx, dictOf [⟨PyData.keyHash w.params (Str.ofString "_headers"), .str (Str.ofString "_headers") tkh, .ref l⟩] 1) :: (l, listOf vs.toArray n) :: (lz, listOf us0.toArray nz0) :: (tt ++ wts)) N42 (fun p hp => by
              walk_at "my.pin")
            clear N42
            have hcell9 : (L' + 1 + 1 + 1, oW) ∈ (D4, LCg.lst ys4) :: (wl, listOf wv.toArray wc) :: (I, oI) :: (nl, listOf ns.toArray nn) :: (ol, listOf os.toArray no) :: (lzz, listOf us.toArray nz) :: (L' + 1 + 1 + 1, oW) :: (L' + 1 + 1, oN) :: (L' + 1, oS) :: (x, instObj 296 dx) :: (dx, dictOf [⟨PyData.keyHash w.params (Str.ofString "_headers"), .str (Str.ofString "_headers") tkh, .ref l⟩] 1) :: (l, listOf vs.toArray n) :: (lz, listOf us0.toArray nz0) :: (tt ++ wts) := .tail _ (.tail _ (.tail _ (.tail _ (.tail _ (.tail _ (.head _))))))
            k_dflt (refine storeX_C F42 N43 rfl (.tail (cell_list_ne N43 (.head _) hcell9 hcW) (.tail (cell_list_ne N43 (.tail _ (.head _)) hcell9 hcW) (.tail (Ne.symm offI.2.2.2.1) (.tail hc5 (.tail hc1 (.tail hc3 (.head (List.forall_mem_cons.mpr ⟨c23, List.forall_mem_cons.mpr ⟨c13, List.forall_mem_cons.mpr ⟨ltc3 hLow.1, List.forall_mem_cons.mpr ⟨ltc3 hLow.2.1, List.forall_mem_cons.mpr ⟨ltc3 hLow.2.2.1, List.forall_mem_cons.mpr ⟨ltc3 hLow.2.2.2.1, fun p hp => hoA p hp _ (.head _)⟩⟩⟩⟩⟩⟩)))))))) hcW (fun h44 o44 F44 N44 d44 => ?_) rfl rfl)
            dsimp only
            exact ⟨_, _, o44, t4, x4, kk, mm, ta4, tb4, tc4, n4, rfl, F44, N44, d44, hmem, (fun e => absurd hk0 e), hm4⟩
          · obtain ⟨t4, x4, kk, mm, ta4, tb4, tc4, n4, ysr, rfl, hmem, hm4⟩ := hS4.head (fun e => hk0 (gm1.mp e))
            k_steps
            unfold Hold
            (rename News _ _ _ _ => N41)
            (rename Fr _ _ _ _ => F41)
            k_dflt (refine ne_nil_dat (z := true) N41 (.tail _ (.head _)) rfl rfl (wys_dat hS4 (fun p hp => ?md)) (.head _) rfl rfl (ok_wys hokl) ?uu4 (by rw [ne_eq, List.map_eq_nil_iff, gm1]; simp [hk0]) ?_)
            case md =>
              walk_at "my.pin"
            case uu4 => walk_at "my.units"
            have g7 := gdAt 7
            have g5 := gdAt 5
            k_steps
            unfold Hold
            (rename Gd 5 => g9; clear g9)
            (rename News _ _ _ _ => N42)
            (rename Fr _ _ _ _ => F42)
            have N43 := News_sub ((D4, LCg.lst (.ref t4 :: ysr)) :: (wl, listOf wv.toArray wc) :: (I, oI) :: (nl, listOf ns.toArray nn) :: (ol, listOf os.toArray no) :: (lzz, listOf us.toArray nz) :: (L' + 1 + 1 + 1, oW) :: (L' + 1 + 1, oN) :: (L' + 1, oS) :: (x, instObj 296 dx) :: (dx, dictOf [⟨PyData.keyHash w.params (Str.ofString "_headers"), .str (Str.ofString "_headers") tkh, .ref l⟩] 1) :: (l, listOf vs.toArray n) :: (lz, listOf us0.toArray nz0) :: (tt ++ wts)) N42 (fun p hp => by
              walk_at "my.pin")
            clear N42
            have hcell9 : (L' + 1 + 1 + 1, oW) ∈ (D4, LCg.lst (.ref t4 :: ysr)) :: (wl, listOf wv.toArray wc) :: (I, oI) :: (nl, listOf ns.toArray nn) :: (ol, listOf os.toArray no) :: (lzz, listOf us.toArray nz) :: (L' + 1 + 1 + 1, oW) :: (L' + 1 + 1, oN) :: (L' + 1, oS) :: (x, instObj 296 dx) :: (dx, dictOf [⟨PyData.keyHash w.params (Str.ofString "_headers"), .str (Str.ofString "_headers") tkh, .ref l⟩] 1) :: (l, listOf vs.toArray n) :: (lz, listOf us0.toArray nz0) :: (tt ++ wts) := .tail _ (.tail _ (.tail _ (.tail _ (.tail _ (.tail _ (.head _))))))
            k_dflt (refine storeX_C F42 N43 rfl (.tail (cell_list_ne N43 (.head _) hcell9 hcW) (.tail (cell_list_ne N43 (.tail _ (.head _)) hcell9 hcW) (.tail (Ne.symm offI.2.2.2.1) (.tail hc5 (.tail hc1 (.tail hc3 (.head (List.forall_mem_cons.mpr ⟨c23, List.forall_mem_cons.mpr ⟨c13, List.forall_mem_cons.mpr ⟨ltc3 hLow.1, List.forall_mem_cons.mpr ⟨ltc3 hLow.2.1, List.forall_mem_cons.mpr ⟨ltc3 hLow.2.2.1, List.forall_mem_cons.mpr ⟨ltc3 hLow.2.2.2.1, fun p hp => hoA p hp _ (.head _)⟩⟩⟩⟩⟩⟩)))))))) hcW (fun h44 o44 F44 N44 d44 => ?_) rfl rfl)
            dsimp only
            exact ⟨_, _, o44, t4, x4, kk, mm, ta4, tb4, tc4, n4, rfl, F44, N44, d44, (List.mem_filter.mp hmem).1, (fun _ => by simpa using (List.mem_filter.mp hmem).2), (hsb _ hm4)⟩
        · rintro s' ⟨h', tk', oW', t4, x4, kk, mm, ta4, tb4, tc4, n4, rfl, F41, N41, hcW', hmem, hx4, hm4⟩
          (try dsimp only)
          have g3 := gdAt 3
          k_steps
          unfold Hold
          (rename Gd 3 => g9; clear g9)
          (rename News _ _ _ _ => N42)
          (rename Fr _ _ _ _ => F42)
          refine cut_st (σ := Int × Tok) (fun c => [(Str.ofString "picks", .int c.1 c.2)]) [] (fun _ => True) F42 N42 ?_ ?_
          · refine wpAny_If ?_
            k_steps
            unfold Hold
            (rename News _ _ _ _ => N43)
            (rename Fr _ _ _ _ => F43)
            k_dflt (refine eq_nil_dat (z := z0) N43 (.tail _ (.head _)) rfl rfl (wys_dat hS4 (fun p hp => ?me)) (.head _) rfl rfl (ok_wys hokl) ?uu5 (by rw [List.map_eq_nil_iff, gm1]; exact hz0) ?_)
            case me =>
              walk_at "my.pin"
            case uu5 => walk_at "my.units"
            have N44 := News_sub _ N43 (fun p hp => .tail _ hp)
            clear N43
            cases z0 with
            | true =>
              k_steps
              unfold Hold
              (rename News _ _ _ _ => N45)
              (rename Fr _ _ _ _ => F45)
              (try dsimp only)
              exact cut_end (_, _) F45 N45 (List.forall_mem_singleton.mpr rfl) (by walk_at "my.csame") trivial
            | false =>
              k_steps
              unfold Hold
              (rename News _ _ _ _ => N45)
              (rename Fr _ _ _ _ => F45)
              (try dsimp only)
              exact cut_end (pk, tp) F45 N45 (List.forall_mem_singleton.mpr rfl) (by walk_at "my.csame") trivial
          · rintro ⟨pk2, tp2⟩ u10 h10 tk10 _ F43 N43
            dsimp only at F43 ⊢
            obtain ⟨hkk3, hmm, hnew⟩ := gm3 _ hmem
            dsimp only at hkk3 hmm hnew
            have hnk : ((List.range 3).map fun k => nmS k (fs k))[((kk : Nat) : Int).toNat]? = some (nmS kk (fs kk)) := by
              rw [Int.toNat_natCast, List.getElem?_map, List.getElem?_range hkk3]; rfl
            have hnm1 : (nmS kk (fs kk)).length = 1 := rfl
            have hnl3 : ns.length = 3 := by rw [hnms.length]; rfl
            have N44 := News_sub ((t4, { cls := .type "tuple", data := .seq #[.int x4 ta4, .int (kk : Int) tb4, .str (dq mm) tc4] n4 }) :: (I, oI) :: (nl, listOf ns.toArray nn) :: (ol, listOf os.toArray no) :: (lzz, listOf us.toArray nz) :: (L' + 1 + 1 + 1, oW') :: (L' + 1 + 1, oN) :: (L' + 1, oS) :: (x, instObj 296 dx) :: (dx, dictOf [⟨PyData.keyHash w.params (Str.ofString "_headers"), .str (Str.ofString "_headers") tkh, .ref l⟩] 1) :: (l, listOf vs.toArray n) :: (lz, listOf us0.toArray nz0) :: (tt ++ wts)) N43 (fun p hp => by
              rcases List.mem_cons.mp hp with q | q
              · rw [q]; ((repeat (refine List.Mem.tail _ ?_)); exact List.mem_append_right _ hm4)
              · exact .tail _ (.tail _ q))
            clear N43
            have hoNL : OwnOff (tt ++ wts) [nl] := tups_list (tups_app htup hwy.cls) N44 (.tail _ (.tail _ (.head _))) rfl (fun p hp => by walk_at "my.pin")
            k_steps
            unfold Hold
            (rename News _ _ _ _ => N45)
            (rename Fr _ _ _ _ => F45)
            rw [(nmS_fin ⟨kk, hkk3⟩ (fs kk)).1]
            k_dflt (refine set_any F45 N45 (.tail (hoNL _ (List.mem_append_right _ hm4) _ (.head _)) (.tail (Ne.symm offI.1) (.head (List.forall_mem_cons.mpr ⟨hne1, List.forall_mem_cons.mpr ⟨hne2, List.forall_mem_cons.mpr ⟨Ne.symm hc5, List.forall_mem_cons.mpr ⟨hn5, List.forall_mem_cons.mpr ⟨Ne.symm hc6, List.forall_mem_cons.mpr ⟨hn1, List.forall_mem_cons.mpr ⟨hn2, List.forall_mem_cons.mpr ⟨hn3, List.forall_mem_cons.mpr ⟨hn4, fun p hp => hoNL p hp _ (.head _)⟩⟩⟩⟩⟩⟩⟩⟩⟩)))) (by omega) (by omega) (by omega) (fun h46 F46 N46 => ?_))
            rw [Int.toNat_natCast] at N46
            obtain ⟨ns2, N47, hnms2⟩ := nsNm N46 hnms
            clear N46
            rw [names_upd hkk3] at hnms2
            have hnl4 : ns2.length = 3 := by rw [hnms2.length]; rfl
            (try dsimp only)
            k_steps
            unfold Hold
            (rename News _ _ _ _ => N48)
            (rename Fr _ _ _ _ => F48)
            have hmm8 : mm < 8 := by have := hlt8 kk hkk3; omega
            have hml : (dq mm).length = mm := (dq_fin ⟨mm, by have := hlt8 kk hkk3; omega⟩).1
            k_dflt (refine LCg.CompSrc.range (n := 3) (by rfl) F48 N48 (by assumption) (small_one (by decide) (by decide) (by decide) (by decide)) (by rfl) (by exact Nat.le_of_ble_eq_true rfl) ?_)
            intro g'
            refine cr_fix (fun i ys => IntsAre ys ((List.range i).map fun k => ((upd sz kk mm k : Nat) : Int))) .nil ?_ ?_
            · rintro i3 ys3 v I3 oI3 C oC D3 m₂ h47 tk47 E' hi3 hy3 hS3 ⟨t, rfl⟩ hC hx F49 N49 off9 ne9
              rw [Int.zero_add] at hx
              have hsk : ((List.range 3).map fun k => (sz k : Int)).getD ((i3 : Nat) : Int).toNat 0 = (sz i3 : Int) := by
                rw [Int.toNat_natCast]; exact hsd i3 hi3
              k_steps
              all_goals (unfold Hold; (rename News _ _ _ _ => N50); (rename Fr _ _ _ _ => F50))
              · (rename ((i3 : Int) = (kk : Int)) => hq9)
                refine LCg.CompEnd.intro F50 N50 _ (fun p hp => hp) off9 trivial ⟨rfl, ?_⟩
                rw [List.range_succ, List.map_append]
                have e : ((upd sz kk mm i3 : Nat) : Int) = ((dq mm).length : Int) := by
                  rw [hml, show i3 = kk by omega]; simp [upd]
                show IntsAre _ (_ ++ [((upd sz kk mm i3 : Nat) : Int)])
                rw [e]
                exact hS3.append (.cons _ _ .nil)
              · (rename ((i3 : Int) ≠ (kk : Int)) => hq9)
                refine LCg.CompEnd.intro F50 N50 _ (fun p hp => hp) off9 trivial ⟨rfl, ?_⟩
                rw [List.range_succ, List.map_append]
                have e : ((upd sz kk mm i3 : Nat) : Int) = (sz i3 : Int) := by
                  have : i3 ≠ kk := by omega
                  simp [upd, this]
                show IntsAre _ (_ ++ [((upd sz kk mm i3 : Nat) : Int)])
                rw [e]
                exact hS3.append (.cons _ _ .nil)
            · rintro ys3 hy3 hS3 D3 h47 tk47 F49 N49 off9
              (try dsimp only)
              have g5 := gdAt 5
              k_steps
              unfold Hold
              (rename Gd 5 => g9; clear g9)
              (rename News _ _ _ _ => N50)
              (rename Fr _ _ _ _ => F50)
              have hcell8 := N50 (L' + 1, oS) (.tail _ (.tail _ (.tail _ (.tail _ (.tail _ (.tail _ (.tail _ (.tail _ (.head _)))))))))
              clear hcell8
              have hoS : OwnOff (tt ++ wts) [L' + 1] := tups_cell (tups_app htup hwy.cls) N50 (.tail _ (.tail _ (.tail _ (.tail _ (.tail _ (.tail _ (.tail _ (.tail _ (.head _))))))))) hcS (fun p hp => by walk_at "my.pin")
              k_dflt (refine storeX_C F50 N50 rfl (.tail (cell_list_ne N50 (.head _) (.tail _ (.tail _ (.tail _ (.tail _ (.tail _ (.tail _ (.tail _ (.tail _ (.head _))))))))) hcS) (.tail (hoS _ (List.mem_append_right _ hm4) _ (.head _)) (.tail (Ne.symm offI.2.2.2.2.2.1) (.tail hc6 (.tail hc2 (.tail hc4 (.tail c31 (.tail c21 (.head (List.forall_mem_cons.mpr ⟨ltc1 hLow.1, List.forall_mem_cons.mpr ⟨ltc1 hLow.2.1, List.forall_mem_cons.mpr ⟨ltc1 hLow.2.2.1, List.forall_mem_cons.mpr ⟨ltc1 hLow.2.2.2.1, fun p hp => hoS p hp _ (.head _)⟩⟩⟩⟩)))))))))) hcS (fun h51 oS2 F51 N51 dS51 => ?_) rfl rfl)
              dsimp only
              clear N50 F50
              k_steps
              unfold Hold
              (rename News _ _ _ _ => N52)
              (rename Fr _ _ _ _ => F52)
              refine LCt.CompSrcT.ledger (its := os.toArray) (by rfl) F52 N52 (.tail _ (.tail _ (.tail _ (.tail _ (.head _))))) (by rw [List.size_toArray, sizeLine_eq]; omega) fun g => ?_
              refine crt_fix (fun i ys => IntsAre ys (((ord.take i).filter (fun j => j != kk)).map fun (k : Nat) => (k : Int))) .nil ?_ ?_
              · rintro i4 ys4 v I4 oI4 C oC D5 m₂ h29 tk29 E' hi4 hS5 hv hC hx F30 N30 off11 ne10
                rw [List.size_toArray, hos] at hi4
                obtain ⟨j, hj⟩ : ∃ j, ord[i4]? = some j := ⟨_, List.getElem?_eq_getElem (by rw [(perms6_len ord hperm).1]; exact hi4)⟩
                obtain ⟨tv, hv2⟩ := hords.get i4 (j : Int) (by rw [List.getElem?_map, hj]; rfl)
                have hv3 : v = .int (j : Int) tv := by
                  have e : os.toArray[i4]? = some v := hv
                  rw [List.getElem?_toArray, hv2] at e
                  exact (Option.some.inj e).symm
                subst hv3
                by_cases hjk : j = kk
                · have hzj : false = true ↔ (j : Int) ≠ (kk : Int) := by simp [hjk]
                  k_steps
                  unfold Hold
                  (rename News _ _ _ _ => N53)
                  (rename Fr _ _ _ _ => F53)
                  refine LCg.CompEnd.intro F53 N53 _ (fun p hp => hp) off11 (.inr ⟨_, .tail _ (.tail _ (.tail _ (.tail _ (.head _)))), rfl, _, rfl⟩) ⟨rfl, ?_⟩
                  rw [List.take_add_one, hj, List.filter_append]
                  have e : ((some j).toList.filter fun j => j != kk) = [] := by simp [hjk]
                  rw [e, List.append_nil]
                  exact hS5
                · have hzj : true = true ↔ (j : Int) ≠ (kk : Int) := by simp; omega
                  k_steps
                  unfold Hold
                  (rename News _ _ _ _ => N53)
                  (rename Fr _ _ _ _ => F53)
                  refine LCg.CompEnd.intro F53 N53 _ (fun p hp => hp) off11 (.inr ⟨_, .tail _ (.tail _ (.tail _ (.tail _ (.head _)))), rfl, _, rfl⟩) ⟨rfl, ?_⟩
                  rw [List.take_add_one, hj, List.filter_append]
                  have e : ((some j).toList.filter fun j => j != kk) = [j] := by simp [hjk]
                  rw [e, List.map_append]
                  exact hS5.append (.cons _ _ .nil)
              · rintro ys5 hS5 D5 h29 tk29 F54 N54 off11
                rw [List.size_toArray, hos, List.take_of_length_le (by rw [(perms6_len ord hperm).1]; exact Nat.le_refl _)] at hS5
                (try dsimp only)
                k_steps
                unfold Hold
                (rename News _ _ _ _ => N55)
                (rename Fr _ _ _ _ => F55)
                have hy5 : ys5.length ≤ 3 := by
                  rw [hS5.length, List.length_map]
                  exact Nat.le_trans (List.length_filter_le _ _) (by rw [(perms6_len ord hperm).1]; exact Nat.le_refl _)
                refine add_lists9 (vs := ys5) (ws := [.int (kk : Int) tb4]) F55 N55 (News.isList N55 (.tail _ (.head _))) (News.isList N55 (.head _)) (by rw [sizeLine_eq]; simp; omega) (fun D6 h56 F56 N56 l6 => ?_)
                have hS6 : IntsAre (ys5 ++ [Value.int (kk : Int) tb4]) ((ord.filter (fun j => j != kk) ++ [kk]).map fun (k : Nat) => (k : Int)) := by
                  rw [List.map_append]
                  exact hS5.append (.cons _ _ .nil)
                have l61 : @LT.lt Nat _ D3 D6 := l6 _ (.tail _ (.tail _ (.head _)))
                have l62 : @LT.lt Nat _ I D6 := l6 _ (.tail _ (.tail _ (.tail _ (.tail _ (.head _)))))
                have l63 : @LT.lt Nat _ nl D6 := l6 _ (.tail _ (.tail _ (.tail _ (.tail _ (.tail _ (.head _))))))
                have l64 : @LT.lt Nat _ x D6 := l6 _ (.tail _ (.tail _ (.tail _ (.tail _ (.tail _ (.tail _ (.tail _ (.tail _ (.tail _ (.tail _ (.tail _ (.head _))))))))))))
                have l65 : @LT.lt Nat _ dx D6 := l6 _ (.tail _ (.tail _ (.tail _ (.tail _ (.tail _ (.tail _ (.tail _ (.tail _ (.tail _ (.tail _ (.tail _ (.tail _ (.head _)))))))))))))
                have l66 : @LT.lt Nat _ l D6 := l6 _ (.tail _ (.tail _ (.tail _ (.tail _ (.tail _ (.tail _ (.tail _ (.tail _ (.tail _ (.tail _ (.tail _ (.tail _ (.tail _ (.head _))))))))))))))
                clear l6
                have N57 := News_sub ((t4, { cls := .type "tuple", data := .seq #[.int x4 ta4, .int (kk : Int) tb4, .str (dq mm) tc4] n4 }) :: (D6, listOf (ys5 ++ [Value.int (kk : Int) tb4]).toArray 0) :: (D3, LCg.lst ys3) :: (I, oI) :: (nl, listOf ns2.toArray nn) :: (L' + 1 + 1 + 1, oW') :: (L' + 1 + 1, oN) :: (L' + 1, oS2) :: (lz, listOf us0.toArray nz0) :: (x, instObj 296 dx) :: (dx, dictOf [⟨PyData.keyHash w.params (Str.ofString "_headers"), .str (Str.ofString "_headers") tkh, .ref l⟩] 1) :: (l, listOf vs.toArray n) :: (tt ++ wts)) N56 (List.forall_mem_cons.mpr ⟨.tail _ (.tail _ (.tail _ (.tail _ (.head _)))), List.forall_mem_cons.mpr ⟨.head _, List.forall_mem_cons.mpr ⟨.tail _ (.tail _ (.tail _ (.head _))), List.forall_mem_cons.mpr ⟨.tail _ (.tail _ (.tail _ (.tail _ (.tail _ (.head _))))), List.forall_mem_cons.mpr ⟨.tail _ (.tail _ (.tail _ (.tail _ (.tail _ (.tail _ (.head _)))))), List.forall_mem_cons.mpr ⟨.tail _ (.tail _ (.tail _ (.tail _ (.tail _ (.tail _ (.tail _ (.tail _ (.tail _ (.head _))))))))), List.forall_mem_cons.mpr ⟨.tail _ (.tail _ (.tail _ (.tail _ (.tail _ (.tail _ (.tail _ (.tail _ (.tail _ (.tail _ (.head _)))))))))), List.forall_mem_cons.mpr ⟨.tail _ (.tail _ (.tail _ (.tail _ (.tail _ (.tail _ (.tail _ (.tail _ (.tail _ (.tail _ (.tail _ (.head _))))))))))), List.forall_mem_cons.mpr ⟨.tail _ (.tail _ (.tail _ (.tail _ (.tail _ (.tail _ (.tail _ (.tail _ (.tail _ (.tail _ (.tail _ (.tail _ (.tail _ (.tail _ (.tail _ (.head _))))))))))))))), List.forall_mem_cons.mpr ⟨.tail _ (.tail _ (.tail _ (.tail _ (.tail _ (.tail _ (.tail _ (.tail _ (.tail _ (.tail _ (.tail _ (.tail _ (.head _)))))))))))), List.forall_mem_cons.mpr ⟨.tail _ (.tail _ (.tail _ (.tail _ (.tail _ (.tail _ (.tail _ (.tail _ (.tail _ (.tail _ (.tail _ (.tail _ (.tail _ (.head _))))))))))))), List.forall_mem_cons.mpr ⟨.tail _ (.tail _ (.tail _ (.tail _ (.tail _ (.tail _ (.tail _ (.tail _ (.tail _ (.tail _ (.tail _ (.tail _ (.tail _ (.tail _ (.head _)))))))))))))), fun p hp => .tail _ (.tail _ (.tail _ (.tail _ (.tail _ (.tail _ (.tail _ (.tail _ (.tail _ (.tail _ (.tail _ (.tail _ (.tail _ (.tail _ (.tail _ (.tail _ (hp))))))))))))))))⟩⟩⟩⟩⟩⟩⟩⟩⟩⟩⟩⟩)
                clear N56 N55
                have hnk2 : ((List.range 3).map fun k => nmS k (upd fs kk (!fs kk) k))[((kk : Nat) : Int).toNat]? = some (nmS kk (!fs kk)) := by
                  rw [Int.toNat_natCast, List.getElem?_map, List.getElem?_range hkk3]
                  show some (nmS kk (upd fs kk (!fs kk) kk)) = _
                  simp [upd]
                dsimp only
                k_steps
                unfold Hold
                (rename News _ _ _ _ => N58)
                (rename Fr _ _ _ _ => F58)
                have hhd : ∀ p ∈ hdO w x dx l tkh vs n, p ∈ (t4, ({ cls := .type "tuple", data := .seq #[.int x4 ta4, .int (kk : Int) tb4, .str (dq mm) tc4] n4 } : Obj)) :: (D6, listOf (ys5 ++ [Value.int (kk : Int) tb4]).toArray 0) :: (D3, LCg.lst ys3) :: (I, oI) :: (nl, listOf ns2.toArray nn) :: (L' + 1 + 1 + 1, oW') :: (L' + 1 + 1, oN) :: (L' + 1, oS2) :: (lz, listOf us0.toArray nz0) :: (x, instObj 296 dx) :: (dx, dictOf [⟨PyData.keyHash w.params (Str.ofString "_headers"), .str (Str.ofString "_headers") tkh, .ref l⟩] 1) :: (l, listOf vs.toArray n) :: (tt ++ wts) := by
                  intro p hp
                  walk_at "my.pin"
                have htt : ∀ p ∈ tt, p ∈ (t4, ({ cls := .type "tuple", data := .seq #[.int x4 ta4, .int (kk : Int) tb4, .str (dq mm) tc4] n4 } : Obj)) :: (D6, listOf (ys5 ++ [Value.int (kk : Int) tb4]).toArray 0) :: (D3, LCg.lst ys3) :: (I, oI) :: (nl, listOf ns2.toArray nn) :: (L' + 1 + 1 + 1, oW') :: (L' + 1 + 1, oN) :: (L' + 1, oS2) :: (lz, listOf us0.toArray nz0) :: (x, instObj 296 dx) :: (dx, dictOf [⟨PyData.keyHash w.params (Str.ofString "_headers"), .str (Str.ofString "_headers") tkh, .ref l⟩] 1) :: (l, listOf vs.toArray n) :: (tt ++ wts) := by
                  intro p hp
                  walk_at "my.pin"
                have hown : ∀ p ∈ hdO w x dx l tkh vs n ++ ts, p ∈ (t4, ({ cls := .type "tuple", data := .seq #[.int x4 ta4, .int (kk : Int) tb4, .str (dq mm) tc4] n4 } : Obj)) :: (D6, listOf (ys5 ++ [Value.int (kk : Int) tb4]).toArray 0) :: (D3, LCg.lst ys3) :: (I, oI) :: (nl, listOf ns2.toArray nn) :: (L' + 1 + 1 + 1, oW') :: (L' + 1 + 1, oN) :: (L' + 1, oS2) :: (lz, listOf us0.toArray nz0) :: (x, instObj 296 dx) :: (dx, dictOf [⟨PyData.keyHash w.params (Str.ofString "_headers"), .str (Str.ofString "_headers") tkh, .ref l⟩] 1) :: (l, listOf vs.toArray n) :: (tt ++ wts) := fun p hp => (List.mem_append.mp hp).elim (hhd p) fun q => htt p (hsub p q)
                have hoHD := tups_hd htup N58 hhd htt
                have off9' := off9
                simp only [LCg.Off1] at off9'
                have hnmF := nmS_fin ⟨kk, hkk3⟩ (!fs kk)
                have hnmF0 := nmS_fin ⟨kk, hkk3⟩ false
                have hdm := dq_fin ⟨mm, hmm8⟩
                have hrl100 : ∀ p ∈ rowsP fs sz ord, p.1.length ≤ 100 := fun p hp => by
                  obtain ⟨k, hk, rfl⟩ := List.mem_map.mp hp
                  exact (by decide : 1 ≤ 100)
                dsimp only at hnmF hnmF0 hdm
                k_dflt (refine MCall2.rows (hd := hdO w x dx l tkh vs n) (ts := ts) (P := fun v hd' t8 => v = .none ∧ ∃ (vs' : List Value) (ts' : List (Addr × Obj)) (n' : Nat), hd' = hdO w x dx l tkh vs' n' ∧ Prs vs' ts' (((rowsP fs sz ord).filter fun p => Txt.lower p.1 != Txt.lower (nmS kk (!fs kk))) ++ [(nmS kk (!fs kk), dq mm)]) ∧ ∀ p ∈ ts', p ∈ t8 :: ts) ((D6, listOf (ys5 ++ [Value.int (kk : Int) tb4]).toArray 0) :: (D3, LCg.lst ys3) :: (I, oI) :: (nl, listOf ns2.toArray nn) :: (L' + 1 + 1 + 1, oW') :: (L' + 1 + 1, oN) :: (L' + 1, oS2) :: (lz, listOf us0.toArray nz0) :: tt) (MCall2.imp (c_setitemf (W.under F58 N58 hown) (fun p hp => (N58 p (hown p hp)).1) hrows (by omega) hrl100 h1 h2 h3 (fun p hp => hoHD p (hsub p hp)) (nmS kk (!fs kk)) _ (dq mm) _ (by rw [hnmF.2.1]; exact Clean.of hnmF0.2.2) (Clean.of hnmF.2.2) (Clean.of hdm.2.1) (by decide : 1 ≤ 100)) (fun v o ⟨e, vs', ts', n', t8, a, b, c⟩ => ⟨hdO w x dx l tkh vs' n', t8, a, e, vs', ts', n', rfl, b, c⟩)) ?dd9 ?uu9 F58 N58 hown ?kk9 (List.forall_mem_cons.mpr ⟨not_hd (Nat.ne_of_gt l64) (Nat.ne_of_gt l65) (Nat.ne_of_gt l66), List.forall_mem_cons.mpr ⟨not_hd (Ne.symm (off9'.2.2.2.2.2.2.2.2.1)) (Ne.symm (off9'.2.2.2.2.2.2.2.2.2.1)) (Ne.symm (off9'.2.2.2.2.2.2.2.2.2.2.1)), List.forall_mem_cons.mpr ⟨not_hd (Ne.symm (offI.2.2.2.2.2.2.1)) (Ne.symm (offI.2.2.2.2.2.2.2.1)) (Ne.symm (offI.2.2.2.2.2.2.2.2.1)), List.forall_mem_cons.mpr ⟨not_hd (Ne.symm hn1) (Ne.symm hn2) (Ne.symm hn3), List.forall_mem_cons.mpr ⟨not_hd (Ne.symm (ltc3 hLow.1)) (Ne.symm (ltc3 hLow.2.1)) (Ne.symm (ltc3 hLow.2.2.1)), List.forall_mem_cons.mpr ⟨not_hd (Ne.symm (ltc2 hLow.1)) (Ne.symm (ltc2 hLow.2.1)) (Ne.symm (ltc2 hLow.2.2.1)), List.forall_mem_cons.mpr ⟨not_hd (Ne.symm (ltc1 hLow.1)) (Ne.symm (ltc1 hLow.2.1)) (Ne.symm (ltc1 hLow.2.2.1)), List.forall_mem_cons.mpr ⟨not_hd hzx hzd h4, fun p hp => not_hd (hoHD p hp _ (.head _)) (hoHD p hp _ (.tail _ (.head _))) (hoHD p hp _ (.tail _ (.tail _ (.head _))))⟩⟩⟩⟩⟩⟩⟩⟩) ?_)
                case dd9 => walk_at "my.room"
                case uu9 => walk_at "my.units"
                case kk9 =>
                  intro p hp
                  walk_at "my.pin"
                rintro v9 hd9 t8 h59 tk59 ⟨rfl, vs9, ts9, nx9, rfl, hP9, hsb9⟩ F59 N59 hA59
                rw [rowsP_go hperm hkk3] at hP9
                dsimp only
                clear N58 F58
                k_steps
                unfold Hold
                (rename News _ _ _ _ => N60)
                (rename Fr _ _ _ _ => F60)
                have hD3I : @Ne Nat D3 I := Ne.symm (off9'.2.1)
                have httI : ∀ p ∈ tt, @Ne Nat p.1 I := off1_mem (offI.2.2.2.2.2.2.2.2.2.2)
                have hown8 : ∀ a : Addr, a ∈ addrs (hdO w x dx l tkh vs n ++ ts) → @Ne Nat a I := fun a ha => by
                  rw [addrs, List.map_append] at ha
                  rcases List.mem_append.mp ha with q | q
                  · simp only [hdO, List.map_cons, List.map_nil, List.mem_cons, List.not_mem_nil, or_false] at q
                    rcases q with q | q | q
                    · rw [q]; exact offI.2.2.2.2.2.2.1
                    · rw [q]; exact offI.2.2.2.2.2.2.2.1
                    · rw [q]; exact offI.2.2.2.2.2.2.2.2.1
                  · obtain ⟨p, hp, e⟩ := List.mem_map.mp q
                    rw [← e]; exact httI p (hsub p hp)
                have ht8I : @Ne Nat t8.1 I := by
                  rcases hA59 with q | q
                  · exact hown8 _ q
                  · exact q (I, oI) (.tail _ (.tail _ (.head _))) (fun z => hown8 _ z rfl)
                refine rng_end ⟨vs9, nx9, ts9, ts9 ++ tt, D3, ys3, ys3.length, ns2, nn, D6, ys5 ++ [Value.int (kk : Int) tb4], 0, oS2, oN, oW', fst2, tf2, pk2, tp2, mv + 1, _, upd fs kk (!fs kk), upd sz kk mm, ord.filter (fun j => j != kk) ++ [kk]⟩ F60 N60 ?eI ?eS ?eO (by walk_at "my.all") (by unfold stP psP; walk_at "my.same") ?eP
                case eI => walk_at "my.mY"
                case eS =>
                  refine List.forall_mem_cons.mpr ⟨List.mem_append_right _ (.tail _ (List.mem_append_right _ (.tail _ (.tail _ (.tail _ (.head _)))))), List.forall_mem_cons.mpr ⟨List.mem_append_right _ (.tail _ (List.mem_append_right _ (.head _))), List.forall_mem_cons.mpr ⟨List.mem_append_right _ (.tail _ (List.mem_append_right _ (.tail _ (.head _)))), List.forall_mem_cons.mpr ⟨List.mem_append_right _ (.tail _ (List.mem_append_right _ (.tail _ (.tail _ (.tail _ (.tail _ (.head _))))))), List.forall_mem_cons.mpr ⟨List.mem_append_right _ (.tail _ (List.mem_append_right _ (.tail _ (.tail _ (.tail _ (.tail _ (.tail _ (.head _)))))))), List.forall_mem_cons.mpr ⟨List.mem_append_right _ (.tail _ (List.mem_append_right _ (.tail _ (.tail _ (.tail _ (.tail _ (.tail _ (.tail _ (.head _))))))))), List.forall_mem_cons.mpr ⟨List.mem_append_left _ (.head _), List.forall_mem_cons.mpr ⟨List.mem_append_left _ (.tail _ (.head _)), List.forall_mem_cons.mpr ⟨List.mem_append_left _ (.tail _ (.tail _ (.head _))), List.forall_mem_cons.mpr ⟨List.mem_append_right _ (.tail _ (List.mem_append_right _ (.tail _ (.tail _ (.tail _ (.tail _ (.tail _ (.tail _ (.tail _ (.head _)))))))))), fun p hp => ?_⟩⟩⟩⟩⟩⟩⟩⟩⟩⟩
                  rcases List.mem_append.mp hp with q | q
                  · rcases List.mem_cons.mp (hsb9 p q) with z | z
                    · exact List.mem_append_right _ (z ▸ .head _)
                    · exact List.mem_append_right _ (.tail _ (List.mem_append_left _ z))
                  · exact List.mem_append_right _ (.tail _ (List.mem_append_right _ (.tail _ (.tail _ (.tail _ (.tail _ (.tail _ (.tail _ (.tail _ (.tail _ (q)))))))))))
                case eO =>
                  refine List.forall_mem_cons.mpr ⟨offI.1, List.forall_mem_cons.mpr ⟨Nat.ne_of_gt l62, List.forall_mem_cons.mpr ⟨hD3I, List.forall_mem_cons.mpr ⟨offI.2.2.2.1, List.forall_mem_cons.mpr ⟨offI.2.2.2.2.1, List.forall_mem_cons.mpr ⟨offI.2.2.2.2.2.1, List.forall_mem_cons.mpr ⟨offI.2.2.2.2.2.2.1, List.forall_mem_cons.mpr ⟨offI.2.2.2.2.2.2.2.1, List.forall_mem_cons.mpr ⟨offI.2.2.2.2.2.2.2.2.1, List.forall_mem_cons.mpr ⟨offI.2.2.2.2.2.2.2.2.2.1, fun p hp => ?_⟩⟩⟩⟩⟩⟩⟩⟩⟩⟩
                  rcases List.mem_append.mp hp with q | q
                  · rcases List.mem_cons.mp (hsb9 p q) with z | z
                    · rw [z]; exact ht8I
                    · exact httI p (hsub p z)
                  · exact httI p q
                case eP =>
                  refine ⟨hP9, fun p hp => List.mem_append_left _ hp, fun p hp => List.mem_append_right _ (hold p hp), tups_app (prs_tup hP9) htup, hS3, hnms2, hS6, perms6_go ord hperm ⟨kk, hkk3⟩, ?_, sum_upd hkk3 hmm hsum, dS51, hcN, ⟨_, hcW'⟩, ?_, .inr ?_, Nat.ne_of_gt l63, ?_, Nat.ne_of_gt l61⟩
                  · intro k hk
                    show upd sz kk mm k < 8
                    unfold upd
                    split
                    · exact hmm8
                    · exact hlt8 k hk
                  · show mv + 1 = ((i + 1 : Nat) : Int)
                    rw [hmv]
                    rfl
                  · refine Jg_go hJ ?_
                    rw [← hnew]
                    constructor
                    · intro a
                      by_cases b : kx sz = 0
                      · exact b
                      · exact absurd (hx4 b) a
                    · intro a b
                      have : (x4, kk, mm) ∈ (waysU sz 3).filter (fun y => y.1 == 0) := List.mem_filter.mpr ⟨hmem, by simp [b]⟩
                      rw [gm1.mpr a] at this
                      exact absurd this List.not_mem_nil
                  · exact Ne.symm (off9'.2.2.1)
end Tai
theorem walk : Body nl vs n ts tt lzz us nz ns nn ol os no oS oN oW fst tf pk tp mv tm fs sz ord i k t u h5 tk5 I oI hA hB tkA tk ol0 tkE := loopC.2.2 (fun wl' wv' wc' wts' i2' k2' t2' u7' h8' tk8' I2' oI2' t9' vW' hA2' hB2' tkA2' tkB2' => Lop.all wl' wv' wc' wts' i2' k2' t2' u7' h8' tk8' I2' oI2' t9' vW' hA2' hB2' tkA2' tkB2' Lop.walk) (fun wl' wv' wc' wts' u7' h8' tk8' t9' vW' => Tai.all wl' wv' wc' wts' u7' h8' tk8' t9' vW' Tai.walk)
end Turn
theorem walk : Body w x dx l lz lw lr tkh n0 nz0 nn0 sz0 vs0 us0 ws rs ts0 pk tp dp un fr gd s Q E := turnC.2 fun nl' vs' n' ts' tt' lzz' us' nz' ns' nn' ol' os' no' oS' oN' oW' fst' tf' pk' tp' mv' tm' fs' sz' ord' i' k' t' u' h5' tk5' I' oI' hA' hB' tkA' tk' ol0' tkE' => Turn.all nl' vs' n' ts' tt' lzz' us' nz' ns' nn' ol' os' no' oS' oN' oW' fst' tf' pk' tp' mv' tm' fs' sz' ord' i' k' t' u' h5' tk5' I' oI' hA' hB' tkA' tk' ol0' tkE' Turn.walk
end Play
theorem c_play {w : World} {h : Heap} {x dx l lz lw lr : Addr} {tkh : Tok} {n0 nz0 nn0 : Nat} {sz0 : Nat → Nat} {vs0 us0 ws rs : List Value} {ts0 : List (Addr × Obj)} {pk : Int} {tp : Tok}
    (W : Wd w (hideAll h (addrs (hdO w x dx l tkh vs0 n0 ++ (lz, listOf us0.toArray nz0) :: ts0)))) (hO : ∀ p ∈ hdO w x dx l tkh vs0 n0 ++ (lz, listOf us0.toArray nz0) :: ts0, h.get? p.1 = some p.2)
    (hP : Prs vs0 ts0 (rowsP (fun _ => false) sz0 [0, 1, 2])) (hsz : ∀ k, k < 3 → sz0 k < 8) (hus : IntsAre us0 ((List.range 3).map fun k => (sz0 k : Int)))
    (h1 : @Ne Nat x dx) (h2 : @Ne Nat x l) (h3 : @Ne Nat dx l) (h4 : @Ne Nat lz l) (hzx : @Ne Nat lz x) (hzd : @Ne Nat lz dx)
    (hnn1 : 9 ≤ nn0) (hnn2 : nn0 ≤ 16) (hwl : (hideAll h (addrs (hdO w x dx l tkh vs0 n0 ++ (lz, listOf us0.toArray nz0) :: ts0))).IsList lw ws.toArray) (hwi : IntsAre ws ((List.range nn0).map wn))
    (hrl : (hideAll h (addrs (hdO w x dx l tkh vs0 n0 ++ (lz, listOf us0.toArray nz0) :: ts0))).IsList lr rs.toArray) (hri : StrsAre rs ((List.range nn0).map fun k => dq (k / 2))) :
    MCall2 w 332 [.ref x, .ref lz, .ref lw, .ref lr, .int pk tp] [] 12 h (hdO w x dx l tkh vs0 n0 ++ (lz, listOf us0.toArray nz0) :: ts0) (fun v own' => v = .bool true ∧ own' = (lz, listOf us0.toArray nz0) :: ts0) := by
  intro dp un fr gd s Q E hs hdp hun hret
  subst hs
  exact Play.all w x dx l lz lw lr tkh n0 nz0 nn0 sz0 vs0 us0 ws rs ts0 pk tp dp un fr gd s Q E Play.walk W hO hP hsz hus h1 h2 h3 h4 hzx hzd hnn1 hnn2 hwl hwi hrl hri hdp hun hret
end

end Mine
-- S2
example : True := by
  w_top off
  exact trivial
namespace Mine
example (P : Params) : hd.heap_1 P = hd.heap_1 P ∧ PySem.Challenge.rw_wo0076_01 = PySem.Challenge.rw_wo0076_01 := by
  k_fill
  exact ⟨rfl, rfl⟩



section
namespace Cel
example : True := by
  k_with_none
  (k_with "my.enter" => ((case k1 => first | exact List.forall_mem_nil _ | assumption); (case k6 => k_is); (case k7 => k_is); (case k8 => omega); (case k9 => first | exact BindsTo.of_eq rfl | exact binds_K (by k_in) rfl (by k_is) rfl rfl rfl); (case kB => exact locs rfl); (case c5 => decide); (case c2 => exact rfl); (case c3 => exact rfl); (case c4 => exact rfl)))
  (k_with "my.enterC" => ((case k1 => first | exact List.forall_mem_nil _ | assumption); (case k6 => k_is); (case k7 => k_is); (case k8 => omega); (case k9 => first | exact BindsTo.of_eq rfl | exact binds_K (by k_in) rfl (by k_is) rfl rfl rfl); (case kB => exact rfl); (case kD => decide +kernel); (case c2 => exact rfl); (case c3 => exact rfl); (case c4 => exact rfl)))
  (k_with "my.room" => first | omega | ((simp only [depth_under_make, depth_under_kw, depth_in1, depth_deeper, depth_caller]); omega))
  (k_with "my.units" => first | omega | ((simp only [units_in1, units_deeper, Around.mark_units, units_caller]); omega))
  (k_with "my.wd" => exact Wd.keeps (by assumption) (Fr.keep (by k_asm)))
  (k_with "call builtin:list.append" => (k_here; k_dflt (refine' append_K (by k_asm) (by k_asm) (by k_upd) ?_ (by (simp only [List.size_toArray, Array.size_push, List.length_append, List.length_cons, List.length_nil, sizeLine_eq]; omega)); k_whole); intro h' F' N'; (try simp only [List.push_toArray] at N'); (try k_sweep)))
  (k_with "my.end" => ((try dsimp only); (try k_unfold); (try dsimp only [retOf])))
  (k_with "my.keep" => exact (fun b o e hb => Fr.keep (by assumption) b o (hideAll_get _ e hb)))
  (k_with "my.cend" => (unfold Hold; refine LCg.CompEnd.intro (by k_asm) (by assumption) _ (fun p hp => hp) (by assumption) (by first | trivial | exact .inr ⟨_, by k_memK, rfl, _, rfl⟩ | exact .inl (by assumption)) ⟨rfl, ?_⟩))
  (k_with "my.m" => with_reducible ((repeat (first | exact List.Mem.head _ | refine List.Mem.tail _ ?_ | assumption | (refine List.mem_append_left _ ?_; walk_at "my.m") | (refine List.mem_append_right _ ?_; walk_at "my.m"))); done))
  (k_with "my.mg" => first | walk_at "my.m" | ((try dsimp only [hdO, PyProof.Rows.LCg.lst, PySem.W.listOf, PySem.W.instObj, PySem.W.dictOf, List.cons_append, List.nil_append]); walk_at "my.m") | ((simp only [List.mem_cons, List.mem_append]); grind))
  (k_with "my.inc" => with_reducible ((repeat' (first | exact inc_refl | exact inc_nil | refine inc_same ?_ | refine inc_app ?_ ?_ | refine inc_one (by walk_at "my.m") ?_ | assumption | refine inc_skip ?_ | (refine inc_left ?_; walk_at "my.inc") | (refine inc_right ?_; walk_at "my.inc"))); done))
  (k_with "my.ne" => with_reducible first | assumption | exact neS1 | exact neS1.symm | exact neS2 | exact neS2.symm | (refine Ne.symm ?_; assumption) | (refine Nat.ne_of_lt ?_; assumption) | (refine Nat.ne_of_gt ?_; assumption))
  (k_with "my.pin" => first | ((try dsimp only [hdO, List.cons_append, List.nil_append] at hp ⊢); exact (show ∀ p ∈ _, p ∈ _ from by walk_at "my.inc") _ hp) | ((try dsimp only [hdO, PyProof.Rows.LCg.lst, PySem.W.listOf, PySem.W.instObj, PySem.W.dictOf, List.cons_append, List.nil_append] at hp ⊢); exact (show ∀ p ∈ _, p ∈ _ from by walk_at "my.inc") _ hp) | ((simp only [hdO, List.cons_append, List.nil_append, List.mem_append, List.mem_cons, List.not_mem_nil, or_false] at hp ⊢); grind))
  (k_with "my.mY" => ((repeat (first | exact List.Mem.head _ | refine List.Mem.tail _ ?_ | refine List.mem_append_right _ ?_)); done))
  (k_with "my.pinS" => ((try dsimp only [hdO, List.cons_append, List.nil_append] at hp ⊢); revert hp; revert p; (repeat (first | exact inc_snoc2 | exact inc_snoc1 | refine inc_under ?_ | refine inc_over ?_)); done))
  (k_with "my.pinY" => ((try dsimp only [hdO, List.cons_append, List.nil_append] at hp ⊢); revert hp; revert p; (repeat (refine inc_one (by walk_at "my.mY") ?_)); (with_reducible (repeat (first | exact inc_refl | exact inc_nil | refine inc_skip ?_ | refine inc_left ?_))); done))
  (k_with "my.in" => first | ((try dsimp only [hdO, List.cons_append, List.nil_append]); walk_at "my.inc") | ((try dsimp only [hdO, PyProof.Rows.LCg.lst, PySem.W.listOf, PySem.W.instObj, PySem.W.dictOf, List.cons_append, List.nil_append]); walk_at "my.inc") | (intro p hp; (try simp only [hdO, List.cons_append, List.nil_append, List.mem_cons, List.mem_append, List.not_mem_nil, or_false, false_or] at hp ⊢); first | exact hp | grind))
  (k_with "my.same" => (intro z h1 h2 h3; first
  | rfl
  | (simp only [List.forall_mem_cons, List.forall_mem_nil, List.not_mem_nil, false_implies, implies_true, and_true, ne_eq] at h2; simp only [List.contains_cons, List.contains_nil, Bool.or_false, Bool.or_eq_false_iff, beq_eq_false_iff_ne, ne_eq] at h3; simp [h1, h2, h3, kstB]; done)
  | (simp [h1, kstB]; done)
  | (simp_all [kstB]; done)))
  (k_with "my.csame" => (intro z h2 h3; first
  | rfl
  | exact kstB_stay z h2 h3
  | (simp only [List.forall_mem_cons, List.forall_mem_nil, List.not_mem_nil, false_implies, implies_true, and_true, ne_eq] at h2; (try simp only [List.contains_cons, List.contains_nil, Bool.or_false, Bool.or_eq_false_iff, beq_eq_false_iff_ne, ne_eq] at h3); simp [h2, h3, kstB]; done)
  | (simp_all [kstB]; done)))
  (k_with "my.all" => (repeat' (first | exact List.forall_mem_nil _ | (refine List.forall_mem_cons.mpr ⟨rfl, ?_⟩))))
  (k_with "execs cons" => first | (k_here; k_gentoks) | (k_here; k_made; walk_at "execs cons") | ((with_reducible refine wpAny_execs_cons ?_); (try dsimp only); k_fold))
  (k_with "my.sub" => (repeat' (first | exact List.forall_mem_nil _ | (refine List.forall_mem_cons.mpr ⟨?_, ?_⟩) | k_mem)))
  (k_with "exec For Name Call cons nil" => (k_here; (rename Fr _ _ _ _ => lF'); (with_unfolding_all refine' For_invVF lF' (by exact rfl) (by exact rfl) ?_; k_whole)))
  (k_with "pyIter ref" => (refine Hold.out ?_))
  (k_with "RngPost" => (dsimp only [RngPost]))
  (k_with "RngEnd" => (refine Hold.out ?_))
  exact trivial
noncomputable def Body (w : World) (l : Addr) (vs : List Value) (ns : List Int) (dp : Nat) (un : Nat) (fr : Option (List Env)) (gd : Option (List Code)) (s : Shared) (Q : Value → Shared → Prop) (E : Value → Shared → Prop) : Prop :=
    Wd w s.heap → s.heap.IsList l vs.toArray → IntsAre vs ns → ns.length ≤ 63 →
    MB w 307 [.ref l] [] 1 [] (fun v h' => ∃ own', (fun v own' => ∃ (r : Addr) (us : List Value) (cs : List Int) (m : Nat), v = .ref r ∧ own' = [(r, listOf us.toArray m)] ∧ IntsAre us cs ∧ cs.length = 6) v own' ∧ Held s.heap [] h' own') dp un fr gd s Q E
noncomputable def Ok (v : World × Addr × (List Value) × (List Int) × Nat × Nat × (Option (List Env)) × (Option (List Code)) × Shared × (Value → Shared → Prop) × (Value → Shared → Prop)) : Prop := Body v.1 v.2.1 v.2.2.1 v.2.2.2.1 v.2.2.2.2.1 v.2.2.2.2.2.1 v.2.2.2.2.2.2.1 v.2.2.2.2.2.2.2.1 v.2.2.2.2.2.2.2.2.1 v.2.2.2.2.2.2.2.2.2.1 v.2.2.2.2.2.2.2.2.2.2
theorem ne : Nonempty (World × Addr × (List Value) × (List Int) × Nat × Nat × (Option (List Env)) × (Option (List Code)) × Shared × (Value → Shared → Prop) × (Value → Shared → Prop)) := ⟨(aWorld 1, (0 : Nat), [], [], 0, 0, none, none, {}, fun _ _ => True, fun _ _ => True)⟩
noncomputable def v0 : World × Addr × (List Value) × (List Int) × Nat × Nat × (Option (List Env)) × (Option (List Code)) × Shared × (Value → Shared → Prop) × (Value → Shared → Prop) := Classical.choose (one_for_all ne Ok)
@[irreducible] noncomputable def w : World := v0.1
@[irreducible] noncomputable def l : Addr := v0.2.1
@[irreducible] noncomputable def vs : List Value := v0.2.2.1
@[irreducible] noncomputable def ns : List Int := v0.2.2.2.1
@[irreducible] noncomputable def dp : Nat := v0.2.2.2.2.1
@[irreducible] noncomputable def un : Nat := v0.2.2.2.2.2.1
@[irreducible] noncomputable def fr : Option (List Env) := v0.2.2.2.2.2.2.1
@[irreducible] noncomputable def gd : Option (List Code) := v0.2.2.2.2.2.2.2.1
@[irreducible] noncomputable def s : Shared := v0.2.2.2.2.2.2.2.2.1
@[irreducible] noncomputable def Q : Value → Shared → Prop := v0.2.2.2.2.2.2.2.2.2.1
@[irreducible] noncomputable def E : Value → Shared → Prop := v0.2.2.2.2.2.2.2.2.2.2
theorem all (w : World) (l : Addr) (vs : List Value) (ns : List Int) (dp : Nat) (un : Nat) (fr : Option (List Env)) (gd : Option (List Code)) (s : Shared) (Q : Value → Shared → Prop) (E : Value → Shared → Prop) (h : Body Cel.w Cel.l Cel.vs Cel.ns Cel.dp Cel.un Cel.fr Cel.gd Cel.s Cel.Q Cel.E) : Body w l vs ns dp un fr gd s Q E := by
  delta Cel.w Cel.l Cel.vs Cel.ns Cel.dp Cel.un Cel.fr Cel.gd Cel.s Cel.Q Cel.E at h
  exact Classical.choose_spec (one_for_all ne Ok) h (w, l, vs, ns, dp, un, fr, gd, s, Q, E)
noncomputable def L' : Addr := s.heap.objs.size
set_option maxRecDepth 100000 in
set_option maxHeartbeats 2000000 in
theorem walk : Body w l vs ns dp un fr gd s Q E := by
  (k_with "execs cons" => first | (k_here; k_gentoks) | (k_here; k_made; walk_at "execs cons") | ((with_reducible refine wpAny_execs_cons ?_); (try dsimp only)))
  intro W hl hi hlen hdp hun hret
  obtain ⟨X, loose, mean, mg, mb, T⟩ := id W
  k_dflt (refine' enterV (L' := L') [(Str.ofString "script", .ref l)] [] ?k1 W ?k6 ?k7 ?k8 ?k9 ?kB ?_ rfl ?c5 ?c2 ?c3 ?c4; walk_at "my.enter")
  intro h₁ F N hLow
  (try dsimp only [hdO, List.cons_append, List.nil_append] at *)
  (try k_lt hLow)
  (try dsimp only [addrs, List.map, hideAll] at F N)
  k_steps
  unfold Hold
  (rename News _ _ _ _ => N8)
  (rename Fr _ _ _ _ => F8)
  obtain ⟨r9, e9⟩ := nm1 N8
  subst e9
  k_dflt (refine rng (σ := List Value × List Int × Nat) (n := ns.length) (fun c => [(r9, listOf c.1.toArray c.2.2)]) (fun c => []) [] (fun _ c => IntsAre c.1 c.2.1 ∧ c.2.1.length = 6) (_, [3, 2, 1, 40, 6, 2], 0) (by rfl) (by assumption) (by exact small_one (by omega) (by omega) (by omega) (by omega)) (by rw [rangeSize_nat]; omega) F8 N8 (fun _ h => nomatch h) ⟨?hp, rfl⟩ ?_ ?_)
  case hp => exact .cons _ _ (.cons _ _ (.cons _ _ (.cons _ _ (.cons _ _ (.cons _ _ .nil)))))
  · rintro ⟨us, cs, m⟩ i k t u h2 tk2 I oI hk hi2 off ⟨hu, hc⟩ F2 N2
    dsimp only at F2 N2 off hu hc
    simp only [LCg.Off1, and_true] at off
    k_steps
    (try dsimp only)
    (try unfold Hold)
    (rename News _ _ _ _ => N3)
    (rename Fr _ _ _ _ => F3)
    (rename IntsAre _ _ => hu9)
    exact rng_end ⟨_, _, m⟩ F3 N3 (by k_mem) (by walk_at "my.in") (List.forall_mem_singleton.mpr off) (fun _ h => nomatch h) (by walk_at "my.same") ⟨hu9, by rw [List.length_set]; exact hc⟩
  · rintro ⟨us, cs, m⟩ u h2 tk2 ⟨hu, hc⟩ F2 N2
    dsimp only at F2 N2 hu hc
    k_steps
    walk_at "my.end"
    exact hret _ _ _ (fun b o e _ => Fr.keep (by assumption) b o e) ⟨_, ⟨r9, us, cs, m, rfl, rfl, hu, hc⟩, Held.of (own := []) N2 fun p hp => hp⟩
end Cel
theorem c_cells {w : World} {h : Heap} (W : Wd w h) (l : Addr) (vs : List Value) (ns : List Int) (hl : h.IsList l vs.toArray) (hi : IntsAre vs ns) (hlen : ns.length ≤ 63) :
   MCall2 w 307 [.ref l] [] 1 h [] (fun v own' => ∃ (r : Addr) (us : List Value) (cs : List Int) (m : Nat), v = .ref r ∧ own' = [(r, listOf us.toArray m)] ∧ IntsAre us cs ∧ cs.length = 6) := by
  intro dp9 un9 fr9 gd9 s9 Q9 E9 e9 hdp9 hun9 hret9
  subst e9
  exact Cel.all w l vs ns dp9 un9 fr9 gd9 s9 Q9 E9 Cel.walk W hl hi hlen hdp9 hun9 hret9
end

end Mine
-- Lw
example : True := by
  w_top off
  exact trivial
namespace Mine
example (P : Params) : hd.heap_1 P = hd.heap_1 P ∧ PySem.Challenge.rw_wo0076_01 = PySem.Challenge.rw_wo0076_01 := by
  k_fill
  exact ⟨rfl, rfl⟩



theorem law_post (ns : List Int) : PySem.Challenge.rw_wo0076_01.row.claim.post [ofPy (PyData.list (ns.map PyData.int))] (WData.bool true) [ofPy (PyData.list (ns.map PyData.int))] = true := by wrow_post
theorem nmLaw {h₀ h g : Heap} {L a b l : Addr} {p q : Obj} {its : Array Value} (_ : News h₀ L h [(a, p), (b, q)]) (_ : g.IsList l its) : ∃ p' q' l', p' = p ∧ q' = q ∧ l' = l := ⟨p, q, l, rfl, rfl, rfl⟩
theorem nmC {h₀ h : Heap} {L a b c : Addr} {x o1 o2 : Obj} {r : List (Addr × Obj)} (_ : News h₀ L h ((a, x) :: (b, o1) :: (c, o2) :: r)) : ∃ p, p = o2 := ⟨o2, rfl⟩
theorem sp1_0 (s i : Nat) : sp1 s 0 i = ⟨#[97 + s + i]⟩ := by simp [sp1, sg]
theorem sp1_ch (s i : Nat) : sp1 s 0 i = ch (s + i) := by rw [sp1_0, ch, Nat.add_assoc]
theorem ne_eq2 {prog : Program} {w : World} {A : Around} {E : Value → Shared → Prop} {s : Shared} {a b : Int} {t u : Tok} {Q : Value → Shared → Prop} (e : a = b) (h : Q (.bool false) s) : wpAny (model prog w) A (compareOp .NotEq (.int a t) (.int b u)) Q E s := by
  subst e
  exact ne_same h
theorem make3P {w : World} {dp un : Nat} {fr : Option (List Env)} {gd : Option (List Code)} {s : Shared} {Q E : Value → Shared → Prop} {h₀ : Heap} {L l : Addr} {m : Str → Option Value} {news rest : List (Addr × Obj)} {n : Nat} {vs : List Value} {ts : List (Addr × Obj)} {p0 p1 p2 : Str × Str} (hP : Prs vs ts [p0, p1, p2]) (W : Wd w h₀) (F : Fr h₀ L s.heap m) (N : News h₀ L s.heap news) (hl : ∀ p ∈ (l, listOf vs.toArray n) :: ts, p ∈ news) (hn : ∀ p ∈ rest, p ∈ news) (hr : ∀ p ∈ rest, @Ne Nat p.1 l ∧ p.1 ∉ addrs ts) (hd : dp + 3 < recursionLimit) (hu : un + 24 < cLine)
    (hc : ∀ p ∈ [p0, p1, p2], Clean p.1 ∧ Clean p.2)
    (h : ∀ x dx tk h' tk', Fr h₀ L h' m → News h₀ L h' ((hdO w x dx l tk vs n ++ ts) ++ rest) → (∀ p ∈ news, p.1 < dx) → dx < x → Q (.ref x) { s with heap := h', toks := tk' }) :
    wpAny (model PySem.Challenge.rw_wo0076_01.row.prog w) ⟨none, dp, fr, gd, un⟩ (call (.ref 296) [.ref l] []) Q E s := by
  obtain ⟨t0, t1, t2, k0, k1, k2, j0, j1, j2, n0, n1, n2, rfl, rfl⟩ := hP.three
  refine make3 W F N hl hn (fun p hp hm => ?_) hd hu (hc p0 (.head _)).1 (hc p1 (.tail _ (.head _))).1 (hc p2 (.tail _ (.tail _ (.head _)))).1 (hc p0 (.head _)).2 (hc p1 (.tail _ (.head _))).2 (hc p2 (.tail _ (.tail _ (.head _)))).2 h
  obtain ⟨q1, q2⟩ := hr p hp
  simp only [addrs, List.map_cons, List.map_nil, List.mem_cons, List.not_mem_nil, or_false, not_or] at q2 hm
  rcases hm with e | e | e | e
  · exact q1 e
  · exact q2.1 e
  · exact q2.2.1 e
  · exact q2.2.2 e
theorem fm_nat (a q : Int) (hn : 0 < q) : ∃ s : Nat, Int.fmod a q = (s : Int) ∧ (s : Int) < q := by
  have h1 := Int.fmod_nonneg_of_pos a hn
  have h2 := Int.fmod_lt_of_pos a hn
  exact ⟨(Int.fmod a q).toNat, by omega, by omega⟩
theorem Fr_one {g h : Heap} {L : Addr} {m : Str → Option Value} {x : Str} {v : Value} (F : Fr g L h m) (e : m = fun y => if y = x then some v else none) : Fr g L h (fun y => if y = x then some v else none) := e ▸ F
section

set_option maxRecDepth 100000 in
set_option maxHeartbeats 2000000 in
noncomputable def lawC : (P : (World) → (Shared) → (Addr) → (Value) → (Heap) → (Nat) → (Obj) → (Obj) → (Addr) → (List Value) → (List Int) → (Flow → Shared → Prop) → (Value → Shared → Prop) → Prop) ×' ((∀ (w : World) (s1 : Shared) (fa : Addr) (cd : Value) (h₁ : Heap) (tk₁ : Nat) (o1 : Obj) (o2 : Obj) (l0 : Addr) (vs : List Value) (ns : List Int) (Q : Flow → Shared → Prop) (E : Value → Shared → Prop), P w s1 fa cd h₁ tk₁ o1 o2 l0 vs ns Q E) → hd.T) := ⟨_, fun hcut => by
  dsimp only [hd]
  k_fill
  intro w s₀ s1 mg mb G Y fa o pm cd doc dV kV ho hfd hcd hD hmg hg args vals as hpre hlay hrd hwl hlo
  have KX := kIn_of Y
  have T := G.T
  wrow_args hpre hlay hrd hwl hlo
  refine enter_call ?_
  w_top on
  refine codeAny_mono ?_ (fun _ _ g => GoodW.toG g)
  have K0 := below_caller (Top.heap T)
  w_call any ho hfd hcd hD T F
  (all_goals try k_fold)
  (rename Frag.In _ _ => X)
  (rename Below _ _ _ _ => K0)
  (rename Top _ _ _ _ _ _ => T)
  (rename IntsAre _ _ => hI)
  (rename Fr _ _ _ _ => F)
  (rename News _ _ _ _ => N)
  (rename Heap.IsList _ _ _ => hL)
  (rename (¬ ((63 : Nat) : Int) < _) => h63)
  have W : Wd _ _ := ⟨X, _, _, _, _, T⟩
  obtain ⟨o1, o2, l0, e1, e2, e3⟩ := nmLaw N hL
  subst e1 e2 e3
  have d1 : o1.data = Data.cell none := by assumption
  have d2 : o2.data = Data.cell none := by assumption
  have F0 := Fr_one (x := Str.ofString "script") (v := .ref l0) F rfl
  clear F
  (try dsimp only at F0)
  have hpost : ∀ h' tk' m, Fr s1.heap s1.heap.objs.size h' m → qk (.ret (.bool true)) { s1 with heap := h', toks := tk' } := by
    intro h' tk' m F42
    (try k_unfold)
    (try dsimp only)
    refine goodW_bool F42 (by assumption) (raisesW_false ?_) ?_
    · wrow_none_raised
    · exact law_post _
  replace K0 : Below callerA s1.heap [] s1.heap := K0
  clear_value qk ek
  rename_i ns9 i2 i3 i4 i5 i6 i7 i8 vs9 i10 i11 i12 i13 h9 tk9 i16 i17 i18 i19 i20
  replace h63 : ns9.length ≤ 63 := by omega
  clear T X
  revert hpost; revert F0; revert N; revert d2; revert d1; revert hL; revert h63; revert hI; revert K0; revert W
  exact hcut w s1 fa cd h9 tk9 o1 o2 l0 vs9 ns9 qk ek
  ⟩
namespace Law
example : True := by
  k_with_none
  (k_with "my.enter" => ((case k1 => first | exact List.forall_mem_nil _ | assumption); (case k6 => k_is); (case k7 => k_is); (case k8 => omega); (case k9 => first | exact BindsTo.of_eq rfl | exact binds_K (by k_in) rfl (by k_is) rfl rfl rfl); (case kB => exact locs rfl); (case c5 => decide); (case c2 => exact rfl); (case c3 => exact rfl); (case c4 => exact rfl)))
  (k_with "my.enterC" => ((case k1 => first | exact List.forall_mem_nil _ | assumption); (case k6 => k_is); (case k7 => k_is); (case k8 => omega); (case k9 => first | exact BindsTo.of_eq rfl | exact binds_K (by k_in) rfl (by k_is) rfl rfl rfl); (case kB => exact rfl); (case kD => decide +kernel); (case c2 => exact rfl); (case c3 => exact rfl); (case c4 => exact rfl)))
  (k_with "my.room" => first | omega | ((simp only [depth_under_make, depth_under_kw, depth_in1, depth_deeper, depth_caller]); omega))
  (k_with "my.units" => first | omega | ((simp only [units_in1, units_deeper, Around.mark_units, units_caller]); omega))
  (k_with "my.wd" => exact Wd.keeps (by assumption) (Fr.keep (by k_asm)))
  (k_with "call builtin:list.append" => (k_here; k_dflt (refine' append_K (by k_asm) (by k_asm) (by k_upd) ?_ (by (simp only [List.size_toArray, Array.size_push, List.length_append, List.length_cons, List.length_nil, sizeLine_eq]; omega)); k_whole); intro h' F' N'; (try simp only [List.push_toArray] at N'); (try k_sweep)))
  (k_with "my.end" => ((try dsimp only); (try k_unfold); (try dsimp only [retOf])))
  (k_with "my.keep" => exact (fun b o e hb => Fr.keep (by assumption) b o (hideAll_get _ e hb)))
  (k_with "my.cend" => (unfold Hold; refine LCg.CompEnd.intro (by k_asm) (by assumption) _ (fun p hp => hp) (by assumption) (by first | trivial | exact .inr ⟨_, by k_memK, rfl, _, rfl⟩ | exact .inl (by assumption)) ⟨rfl, ?_⟩))
  (k_with "my.m" => with_reducible ((repeat (first | exact List.Mem.head _ | refine List.Mem.tail _ ?_ | assumption | (refine List.mem_append_left _ ?_; walk_at "my.m") | (refine List.mem_append_right _ ?_; walk_at "my.m"))); done))
  (k_with "my.mg" => first | walk_at "my.m" | ((try dsimp only [hdO, PyProof.Rows.LCg.lst, PySem.W.listOf, PySem.W.instObj, PySem.W.dictOf, List.cons_append, List.nil_append]); walk_at "my.m") | ((simp only [List.mem_cons, List.mem_append]); grind))
  (k_with "my.inc" => with_reducible ((repeat' (first | exact inc_refl | exact inc_nil | refine inc_same ?_ | refine inc_app ?_ ?_ | refine inc_one (by walk_at "my.m") ?_ | assumption | refine inc_skip ?_ | (refine inc_left ?_; walk_at "my.inc") | (refine inc_right ?_; walk_at "my.inc"))); done))
  (k_with "my.ne" => with_reducible first | assumption | exact neS1 | exact neS1.symm | exact neS2 | exact neS2.symm | (refine Ne.symm ?_; assumption) | (refine Nat.ne_of_lt ?_; assumption) | (refine Nat.ne_of_gt ?_; assumption))
  (k_with "my.pin" => first | ((try dsimp only [hdO, List.cons_append, List.nil_append] at hp ⊢); exact (show ∀ p ∈ _, p ∈ _ from by walk_at "my.inc") _ hp) | ((try dsimp only [hdO, PyProof.Rows.LCg.lst, PySem.W.listOf, PySem.W.instObj, PySem.W.dictOf, List.cons_append, List.nil_append] at hp ⊢); exact (show ∀ p ∈ _, p ∈ _ from by walk_at "my.inc") _ hp) | ((simp only [hdO, List.cons_append, List.nil_append, List.mem_append, List.mem_cons, List.not_mem_nil, or_false] at hp ⊢); grind))
  (k_with "my.mY" => ((repeat (first | exact List.Mem.head _ | refine List.Mem.tail _ ?_ | refine List.mem_append_right _ ?_)); done))
  (k_with "my.pinS" => ((try dsimp only [hdO, List.cons_append, List.nil_append] at hp ⊢); revert hp; revert p; (repeat (first | exact inc_snoc2 | exact inc_snoc1 | refine inc_under ?_ | refine inc_over ?_)); done))
  (k_with "my.pinY" => ((try dsimp only [hdO, List.cons_append, List.nil_append] at hp ⊢); revert hp; revert p; (repeat (refine inc_one (by walk_at "my.mY") ?_)); (with_reducible (repeat (first | exact inc_refl | exact inc_nil | refine inc_skip ?_ | refine inc_left ?_))); done))
  (k_with "my.in" => first | ((try dsimp only [hdO, List.cons_append, List.nil_append]); walk_at "my.inc") | ((try dsimp only [hdO, PyProof.Rows.LCg.lst, PySem.W.listOf, PySem.W.instObj, PySem.W.dictOf, List.cons_append, List.nil_append]); walk_at "my.inc") | (intro p hp; (try simp only [hdO, List.cons_append, List.nil_append, List.mem_cons, List.mem_append, List.not_mem_nil, or_false, false_or] at hp ⊢); first | exact hp | grind))
  (k_with "my.same" => (intro z h1 h2 h3; first
  | rfl
  | (simp only [List.forall_mem_cons, List.forall_mem_nil, List.not_mem_nil, false_implies, implies_true, and_true, ne_eq] at h2; simp only [List.contains_cons, List.contains_nil, Bool.or_false, Bool.or_eq_false_iff, beq_eq_false_iff_ne, ne_eq] at h3; simp [h1, h2, h3, kstB]; done)
  | (simp [h1, kstB]; done)
  | (simp_all [kstB]; done)))
  (k_with "my.csame" => (intro z h2 h3; first
  | rfl
  | exact kstB_stay z h2 h3
  | (simp only [List.forall_mem_cons, List.forall_mem_nil, List.not_mem_nil, false_implies, implies_true, and_true, ne_eq] at h2; (try simp only [List.contains_cons, List.contains_nil, Bool.or_false, Bool.or_eq_false_iff, beq_eq_false_iff_ne, ne_eq] at h3); simp [h2, h3, kstB]; done)
  | (simp_all [kstB]; done)))
  (k_with "my.all" => (repeat' (first | exact List.forall_mem_nil _ | (refine List.forall_mem_cons.mpr ⟨rfl, ?_⟩))))
  (k_with "execs cons" => first | (k_here; k_gentoks) | (k_here; k_made; walk_at "execs cons") | ((with_reducible refine wpAny_execs_cons ?_); (try dsimp only); k_fold))
  (k_with "my.sub" => (repeat' (first | exact List.forall_mem_nil _ | (refine List.forall_mem_cons.mpr ⟨?_, ?_⟩) | k_mem)))
  (k_with "eval ListComp" => (k_here; first
  | (lcp_look; k_dflt (refine LCp.ListComp_P (F₀ := by k_asm) (by with_unfolding_all rfl) (by decide) (by rfl) (by decide) (by rfl) (by rfl) (by decide) ?_); k_dflt lcp_toSrc)
  | (lct_look; k_dflt (refine LCt.ListComp_T (F₀ := by k_asm) (by with_unfolding_all rfl) (by decide) (by rfl) (by decide) (by rfl) ?_); k_dflt lct_toSrc)
  | (k_dflt (refine LCg.ListComp_U (F₀ := by k_asm) (by with_unfolding_all rfl) (by decide) (by rfl) (by decide) (by rfl) ?_); k_dflt lcg_toSrc)))
  (k_with "exec Assign cons ListComp" => (k_here; first
  | (lcp_look; k_dflt (refine LCp.Assign_ListComp_P (F₀ := by k_asm) (by rfl) (by with_unfolding_all rfl) (by with_unfolding_all rfl) (by decide) (by rfl) (by decide) (by rfl) (by rfl) (by decide) (by rfl) (by rfl) ?_); k_dflt lcp_toSrc)
  | (lct_look; k_dflt (refine LCt.Assign_ListComp_T (F₀ := by k_asm) (by rfl) (by with_unfolding_all rfl) (by with_unfolding_all rfl) (by decide) (by rfl) (by decide) (by rfl) (by rfl) (by rfl) ?_); k_dflt lct_toSrc)
  | (k_dflt (refine LCg.Assign_ListComp_U (F₀ := by k_asm) (by rfl) (by with_unfolding_all rfl) (by with_unfolding_all rfl) (by decide) (by rfl) (by decide) (by rfl) (by rfl) (by rfl) ?_); k_dflt lcg_toSrc)))
  (k_with "CompSrc" => (refine Hold.out ?_))
  (k_with "CompSrcT" => (refine Hold.out ?_))
  (k_with "SrcLP" => (refine Hold.out ?_))
  (k_with "CompEnd" => (refine Hold.out ?_))
  (k_with "call ref" => (k_here; (with_reducible show wpAny _ _ (call (Value.ref 307) _ _) _ _ _); (refine Hold.out ?_)))
  (k_with "call ref" => (k_here; (with_reducible show wpAny _ _ (call (Value.ref 312) _ _) _ _ _); (refine Hold.out ?_)))
  (k_with "call ref" => (k_here; (with_reducible show wpAny _ _ (call (Value.ref 322) _ _) _ _ _); (refine Hold.out ?_)))
  (k_with "call ref" => (k_here; (with_reducible show wpAny _ _ (call (Value.ref 327) _ _) _ _ _); (refine Hold.out ?_)))
  (k_with "call ref" => (k_here; (with_reducible show wpAny _ _ (call (Value.ref 296) _ _) _ _ _); (refine Hold.out ?_)))
  (k_with "call ref" => (k_here; (with_reducible show wpAny _ _ (call (Value.ref 260) _ _) _ _ _); (refine Hold.out ?_)))
  (k_with "call ref" => (k_here; (with_reducible show wpAny _ _ (call (Value.ref 332) _ _) _ _ _); (refine Hold.out ?_)))
  (k_with "call ref" => (k_here; (with_reducible show wpAny _ _ (call (Value.ref 337) _ _) _ _ _); (refine Hold.out ?_)))
  (k_with "subscriptTail Name Constant ref int" => (k_here; k_dflt (refine' item_said (by exact News.isList (by k_asm) (by k_mem)) (by with_reducible assumption) (by decide) (by (rename (_ = 6) => h6; rw [h6]; decide)) (by decide) (by with_reducible assumption) ?_ ); intro t9))
  (k_with "eval Name" => (k_here; (with_reducible show wpAny _ _ (eval (Expr.Name _ _) (compEnvC _ _ _ _)) _ _ _); k_dflt (refine LCgL.ld_global (by k_asm) (by k_asm) (by k_asm) (by k_is) ?_)))
  (k_with "eval Name" => (k_here; (with_reducible show wpAny _ _ (eval (Expr.Name _ _) (compEnvC _ _ _ _)) _ _ _); k_dflt (refine' LCgL.ld_own (by k_asm) (by k_mem) (by with_reducible assumption) (by with_reducible assumption) ?_)))
  (k_with "subscriptTail Name Name ref int" => (k_here; k_dflt (refine' item_said (by is_list) (by with_reducible assumption) (by omega) (by (simp only [List.length_map, List.length_range]; omega)) (by omega) (by with_reducible assumption) ?_ ); intro t9))
  (k_with "call builtin:len" => (k_here; k_dflt (refine' len_list9 (by exact News.isList (by k_asm) (by k_mem)) (by omega) ?_)))
  (k_with "compareOp NotEq int int" => (k_here; (refine ne_eq2 (by omega) ?_)))
  (k_with "storeName" => ((with_reducible rename Gd 5 => g9); (refine Hold.out ?_)))
  (k_with "compareOp Eq ref ref" => (refine Hold.out ?_))
  exact trivial
noncomputable def Body (w : World) (s1 : Shared) (fa : Addr) (cd : Value) (h₁ : Heap) (tk₁ : Nat) (o1 : Obj) (o2 : Obj) (l0 : Addr) (vs : List Value) (ns : List Int) (Q : Flow → Shared → Prop) (E : Value → Shared → Prop) : Prop :=
    lawC.1 w s1 fa cd h₁ tk₁ o1 o2 l0 vs ns Q E
noncomputable def Ok (v : World × Shared × Addr × Value × Heap × Nat × Obj × Obj × Addr × (List Value) × (List Int) × (Flow → Shared → Prop) × (Value → Shared → Prop)) : Prop := Body v.1 v.2.1 v.2.2.1 v.2.2.2.1 v.2.2.2.2.1 v.2.2.2.2.2.1 v.2.2.2.2.2.2.1 v.2.2.2.2.2.2.2.1 v.2.2.2.2.2.2.2.2.1 v.2.2.2.2.2.2.2.2.2.1 v.2.2.2.2.2.2.2.2.2.2.1 v.2.2.2.2.2.2.2.2.2.2.2.1 v.2.2.2.2.2.2.2.2.2.2.2.2
theorem ne : Nonempty (World × Shared × Addr × Value × Heap × Nat × Obj × Obj × Addr × (List Value) × (List Int) × (Flow → Shared → Prop) × (Value → Shared → Prop)) := ⟨(aWorld 1, {}, (0 : Nat), .none, {}, 0, default, default, (0 : Nat), [], [], fun _ _ => True, fun _ _ => True)⟩
noncomputable def v0 : World × Shared × Addr × Value × Heap × Nat × Obj × Obj × Addr × (List Value) × (List Int) × (Flow → Shared → Prop) × (Value → Shared → Prop) := Classical.choose (one_for_all ne Ok)
@[irreducible] noncomputable def w : World := v0.1
@[irreducible] noncomputable def s1 : Shared := v0.2.1
@[irreducible] noncomputable def fa : Addr := v0.2.2.1
@[irreducible] noncomputable def cd : Value := v0.2.2.2.1
@[irreducible] noncomputable def h₁ : Heap := v0.2.2.2.2.1
@[irreducible] noncomputable def tk₁ : Nat := v0.2.2.2.2.2.1
@[irreducible] noncomputable def o1 : Obj := v0.2.2.2.2.2.2.1
@[irreducible] noncomputable def o2 : Obj := v0.2.2.2.2.2.2.2.1
@[irreducible] noncomputable def l0 : Addr := v0.2.2.2.2.2.2.2.2.1
@[irreducible] noncomputable def vs : List Value := v0.2.2.2.2.2.2.2.2.2.1
@[irreducible] noncomputable def ns : List Int := v0.2.2.2.2.2.2.2.2.2.2.1
@[irreducible] noncomputable def Q : Flow → Shared → Prop := v0.2.2.2.2.2.2.2.2.2.2.2.1
@[irreducible] noncomputable def E : Value → Shared → Prop := v0.2.2.2.2.2.2.2.2.2.2.2.2
theorem all (w : World) (s1 : Shared) (fa : Addr) (cd : Value) (h₁ : Heap) (tk₁ : Nat) (o1 : Obj) (o2 : Obj) (l0 : Addr) (vs : List Value) (ns : List Int) (Q : Flow → Shared → Prop) (E : Value → Shared → Prop) (h : Body Law.w Law.s1 Law.fa Law.cd Law.h₁ Law.tk₁ Law.o1 Law.o2 Law.l0 Law.vs Law.ns Law.Q Law.E) : Body w s1 fa cd h₁ tk₁ o1 o2 l0 vs ns Q E := by
  delta Law.w Law.s1 Law.fa Law.cd Law.h₁ Law.tk₁ Law.o1 Law.o2 Law.l0 Law.vs Law.ns Law.Q Law.E at h
  exact Classical.choose_spec (one_for_all ne Ok) h (w, s1, fa, cd, h₁, tk₁, o1, o2, l0, vs, ns, Q, E)
set_option maxRecDepth 100000 in
set_option maxHeartbeats 2000000 in
theorem walk : Body w s1 fa cd h₁ tk₁ o1 o2 l0 vs ns Q E := by
  intro W K0 hI h63 hL d1 d2 N F0 hpost
  replace F0 : Fr s1.heap s1.heap.objs.size h₁ _ := F0
  obtain ⟨X, loose, mean, mg, mb, T⟩ := id W
  k_steps
  unfold Hold
  (rename News _ _ _ _ => N1)
  (rename Fr _ _ _ _ => F1)
  refine MCall2.pure (c_cells (W.keeps F1.keep) _ _ _ (hL.at fun o e => F1.keep _ _ e) hI (by omega)) ?d ?u F1 N1 ?_
  case d => decide
  case u => decide
  clear F1 N1
  rintro v9 own9 h9 tk9 ⟨r9, us, cs, m9, rfl, rfl, hcs, hc6⟩ F2 N2 hA9
  have hul : us.length = 6 := by rw [hcs.length, hc6]
  dsimp only at hA9 ⊢
  simp only [List.cons_append, List.nil_append] at N2
  obtain ⟨s0, hs0, hs20'⟩ := fm_nat (cs.getD (4 : Int).toNat 0) 20 (by decide)
  have hs20 : s0 < 20 := by omega
  obtain ⟨i4, hi4, hi44⟩ := fm_nat (Int.fdiv (cs.getD (4 : Int).toNat 0) 20) 4 (by decide)
  obtain ⟨n0, hn0, hn16⟩ := fm_nat (Int.fdiv (cs.getD (3 : Int).toNat 0) 8) 16 (by decide)
  obtain ⟨m3, hm3, hm38⟩ := fm_nat (cs.getD (3 : Int).toNat 0) 8 (by decide)
  obtain ⟨b4, hb4, hb43⟩ := fm_nat (Int.fdiv (cs.getD (4 : Int).toNat 0) 80) 3 (by decide)
  k_steps
  unfold Hold
  (rename News _ _ _ _ => N3)
  (rename Fr _ _ _ _ => F3)
  simp only [List.cons_append, List.nil_append] at N3
  obtain ⟨oC, eC⟩ := nmC N3
  subst eC
  have dC : oC.data = Data.cell (some (.ref r9)) := by assumption
  k_dflt (refine LCg.CompSrc.range (n := 4) (by rfl) F3 N3 (by assumption) (small_one (by decide) (by decide) (by decide) (by decide)) (by first | rfl | decide) (by exact Nat.le_of_ble_eq_true rfl) ?_)
  intro g'
  refine cr_fix (fun i ys => StrsAre ys ((List.range i).map (sp1 s0 0))) .nil ?_ ?_
  · rintro i ys v I oI C oC2 D m₂ h2 tk2 E' hi hy hS ⟨t, rfl⟩ hC hx F4 N4 off ne
    obtain ⟨k, hk, hk0, hk4⟩ : ∃ k : Int, k = 0 + (i:Int) ∧ 0 ≤ k ∧ k < 4 := ⟨_, rfl, by omega, by omega⟩
    rw [← hk] at hx
    k_steps
    unfold Hold
    (rename News _ _ _ _ => N5)
    (rename Fr _ _ _ _ => F5)
    refine LCg.CompEnd.intro F5 N5 _ (fun p hp => hp) off trivial ⟨rfl, ?_⟩
    rw [List.range_succ, List.map_append, hs0, show (97 + (s0 : Int) + k).toNat = 97 + s0 + i by omega, ← sp1_0 s0 i]
    exact kct_snoc hS
  · intro ys hy hS D h4 tk4 F4 N4 off4
    have hS4 : StrsAre ys [sp1 s0 0 0, sp1 s0 0 1, sp1 s0 0 2, sp1 s0 0 3] := hS
    (try dsimp only)
    k_steps
    refine join_list (items := ys.toArray) ⟨_, (N4 _ List.mem_cons_self).1, rfl, _, rfl⟩ hS4 (by exact Nat.le_of_ble_eq_true rfl) ?_
    intro t5 k5
    rw [join_spell]
    have N5 := News_sub [(r9, listOf us.toArray m9), (_, o1), (_, oC)] N4 (fun p hp => .tail _ hp)
    clear N4 off4 hS4 hS
    have hL9 : (spell s0 0).length = 4 := rfl
    have hi40 : 0 ≤ Int.fmod (Int.fdiv (cs.getD (4 : Int).toNat 0) 20) 4 := by rw [hi4]; omega
    have hi41 : Int.fmod (Int.fdiv (cs.getD (4 : Int).toNat 0) 20) 4 < 4 := by rw [hi4]; omega
    k_steps
    unfold Hold
    (rename News _ _ _ _ => N6)
    (rename Fr _ _ _ _ => F6)
    have hmk : Txt.item (spell s0 0) (i4 : Int) = ch (s0 + i4) := (item_spell ⟨s0, hs20⟩ 0 ⟨i4, by omega⟩).trans (sp1_ch s0 i4)
    have hj : s0 + i4 < 23 := by omega
    generalize s0 + i4 = j at hmk hj
    rw [hn0]
    rw [hi4, hmk] at F6
    refine MCall.pure (c_spelled (W.keeps F6.keep) s0 n0 _ _ hs20 (by omega)) ?d2 ?u2 F6 N6 ?_
    case d2 => decide
    case u2 => decide
    clear F6 N6
    rintro v9 h9 tk9 ⟨ta, rfl⟩ hk9 F7 N7
    k_steps
    unfold Hold
    (rename News _ _ _ _ => N8)
    (rename Fr _ _ _ _ => F8)
    rw [hm3, hb4, show (8 : Int) + (m3 : Int) = ((8 + m3 : Nat) : Int) by omega]
    refine MCall2.pure (c_worths (W.keeps F8.keep) s0 n0 j (8 + m3) (4 + (b4 : Int)) _ _ _ _ _ hs20 (by omega) hj (by omega) (by omega) (by omega) (by omega)) ?d3 ?u3 F8 N8 ?_
    case d3 => decide
    case u3 => decide
    clear F8 N8
    rintro v9 own9 h9 tk9 ⟨lw, ws, nw, rfl, rfl, hws⟩ F9 N9 hA2
    have hwl : ws.length = 9 + m3 := by rw [hws.length]; simp; omega
    simp only [List.cons_append, List.nil_append] at N9
    (try dsimp only)
    k_steps
    unfold Hold
    (rename News _ _ _ _ => N10)
    (rename Fr _ _ _ _ => F10)
    refine MCall2.pure (c_reads (W.keeps F10.keep) lw ws _ (9 + m3) (News.isList N10 (.head _)) hws (by rw [show 8 + m3 + 1 = 9 + m3 by omega]) (by omega) (by omega) j _ hj) ?d4 ?u4 F10 N10 ?_
    case d4 => decide
    case u4 => decide
    clear F10 N10
    rintro v9 own9 h9 tk9 ⟨lr, rs, nr, rfl, rfl, hrs⟩ F11 N11 hA3
    have hrl : rs.length = 9 + m3 := by rw [hrs.length]; simp
    simp only [List.cons_append, List.nil_append] at N11
    (try dsimp only)
    k_steps
    unfold Hold
    (rename News _ _ _ _ => N12)
    (rename Fr _ _ _ _ => F12)
    obtain ⟨sz, hsz⟩ : ∃ sz : Nat → Nat, ∀ k : Nat, Int.fmod (cs.getD k 0) 8 = (sz k : Int) ∧ sz k < 8 := ⟨fun k => (Int.fmod (cs.getD k 0) 8).toNat, fun k => by
      obtain ⟨s, e, q⟩ := fm_nat (cs.getD k 0) 8 (by decide)
      dsimp only
      omega⟩
    k_dflt (refine LCg.CompSrc.range (n := 3) (by rfl) F12 N12 (by assumption) (small_one (by decide) (by decide) (by decide) (by decide)) (by first | rfl | decide) (by exact Nat.le_of_ble_eq_true rfl) ?_)
    intro g'
    refine cr_fix (fun i ys => IntsAre ys ((List.range i).map fun k => (sz k : Int))) .nil ?_ ?_
    · rintro i ys v I oI C oC2 D m₂ h2 tk2 E' hi hy hS ⟨t, rfl⟩ hC hx F4 N4 off ne
      obtain ⟨k, hk, hk0, hk4⟩ : ∃ k : Int, k = 0 + (i:Int) ∧ 0 ≤ k ∧ k < 3 := ⟨_, rfl, by omega, by omega⟩
      rw [← hk] at hx
      k_steps
      unfold Hold
      (rename News _ _ _ _ => N5)
      (rename Fr _ _ _ _ => F5)
      refine LCg.CompEnd.intro F5 N5 _ (fun p hp => hp) off trivial ⟨rfl, ?_⟩
      rw [List.range_succ, List.map_append, show k.toNat = i by omega, (hsz i).1]
      exact hS.append (.cons _ _ .nil)
    · intro ys hy hS D h4 tk4 F4 N4 off4
      (try dsimp only)
      have g5 := gdAt 5
      k_steps
      unfold Hold
      (rename Gd 5 => g9; clear g9)
      (rename News _ _ _ _ => N13)
      (rename Fr _ _ _ _ => F13)
      have hcell : (s1.heap.objs.size + 1 + 1, o1) ∈ [(D, LCg.lst ys), (lr, listOf rs.toArray nr), (lw, listOf ws.toArray nw), (r9, listOf us.toArray m9), (s1.heap.objs.size + 1 + 1, o1), (s1.heap.objs.size + 1, oC)] := .tail _ (.tail _ (.tail _ (.tail _ (.head _))))
      k_dflt (refine storeX_C F13 N13 rfl (.tail (cell_list_ne N13 (.head _) hcell d1) (.tail (cell_list_ne N13 (.tail _ (.head _)) hcell d1) (.tail (cell_list_ne N13 (.tail _ (.tail _ (.head _))) hcell d1) (.tail (cell_list_ne N13 (.tail _ (.tail _ (.tail _ (.head _)))) hcell d1) (.head (List.forall_mem_singleton.mpr (Nat.ne_of_lt (Nat.lt_succ_self _)))))))) d1 (fun h14 oZ F14 N14 dZ => ?_) rfl rfl)
      clear F13 N13 hcell
      have hDo : ∀ a ∈ [lr, lw, r9, s1.heap.objs.size + 1 + 1, s1.heap.objs.size + 1], @Ne Nat a D := fun a ha => by
        obtain ⟨q1, q2, q3, q4, q5, -⟩ := off4
        simp only [List.mem_cons, List.not_mem_nil, or_false] at ha
        rcases ha with e | e | e | e | e <;> rw [e] <;> assumption
      clear off4
      have hyl3 : ys.length = 3 := hy
      have hys : IntsAre ys ((List.range 3).map fun k => (sz k : Int)) := hS
      clear hS hy
      have hx3 : (Str.ofString "xyz").length = 3 := rfl
      k_steps
      unfold Hold
      (rename News _ _ _ _ => N15)
      (rename Fr _ _ _ _ => F15)
      k_dflt (refine LCg.CompSrc.range (n := 3) (by rfl) F15 N15 (by assumption) (small_one (by decide) (by decide) (by decide) (by decide)) (by first | rfl | decide) (by exact Nat.le_of_ble_eq_true rfl) ?_)
      intro g'
      refine cr_inv (fun i ys3 news => ∃ ts3, news = (D, LCg.lst ys) :: (lr, listOf rs.toArray nr) :: (lw, listOf ws.toArray nw) :: (r9, listOf us.toArray m9) :: (s1.heap.objs.size + 1 + 1, oZ) :: (s1.heap.objs.size + 1, oC) :: ts3 ∧ Prs ys3 ts3 (rowsP (fun _ => false) sz ([0, 1, 2].take i))) ⟨[], rfl, .nil⟩ ?_ ?_
      · rintro i3 ys3 news3 v I3 oI3 C oC3 D3 m₂ h27 tk27 E' hi3 hy3 ⟨ts3, rfl, hP3⟩ ⟨t, rfl⟩ hC hx F28 N28 off9 ne9
        obtain ⟨k, hk, hk0, hk4⟩ : ∃ k : Int, k = 0 + (i3:Int) ∧ 0 ≤ k ∧ k < 3 := ⟨_, rfl, by omega, by omega⟩
        rw [← hk] at hx
        have hki : k.toNat = i3 := by omega
        have hsk : ((List.range 3).map fun k => (sz k : Int)).getD k.toNat 0 = (sz i3 : Int) := by
          rw [hki, List.getD, List.getElem?_map, List.getElem?_range hi3]; rfl
        have hs8 := (hsz i3).2
        k_steps
        unfold Hold
        (rename News _ _ _ _ => N29)
        (rename Fr _ _ _ _ => F29)
        rw [show Txt.mul (Str.ofString "\"") (sz i3 : Int) = dq (sz i3) from mul_dq ⟨sz i3, by omega⟩, show k = ((i3 : Nat) : Int) by omega, (nmS_item ⟨i3, hi3⟩).1] at N29
        obtain ⟨d9, ta9, tb9, n9, N30, e9⟩ := tupNm N29
        subst e9
        have hd9 : @Ne Nat d9 I3 ∧ @Ne Nat d9 C ∧ @Ne Nat d9 D3 := ⟨by omega, by omega, by omega⟩
        refine LCg.CompEnd.intro F29 N30 ((D, LCg.lst ys) :: (lr, listOf rs.toArray nr) :: (lw, listOf ws.toArray nw) :: (r9, listOf us.toArray m9) :: (s1.heap.objs.size + 1 + 1, oZ) :: (s1.heap.objs.size + 1, oC) :: (ts3 ++ [(d9, { cls := .type "tuple", data := .seq #[.str (nmS i3 false) ta9, .str (dq (sz i3)) tb9] n9 })])) ?_ (off3_of fun p hp => ?_) trivial ⟨ts3 ++ [(d9, { cls := .type "tuple", data := .seq #[.str (nmS i3 false) ta9, .str (dq (sz i3)) tb9] n9 })], rfl, ?_⟩
        · intro p hp
          walk_at "my.pinS"
        · rcases (show p ∈ (D, LCg.lst ys) :: (lr, listOf rs.toArray nr) :: (lw, listOf ws.toArray nw) :: (r9, listOf us.toArray m9) :: (s1.heap.objs.size + 1 + 1, oZ) :: (s1.heap.objs.size + 1, oC) :: ts3 ∨ p.1 = d9 by
            simp only [List.mem_append, List.mem_cons, List.not_mem_nil, or_false] at hp ⊢
            grind) with q | q
          · exact off9.mem p q
          · rw [q]; exact hd9
        · have e3 : [0, 1, 2][i3]? = some i3 := by rcases lt3 hi3 with rfl | rfl | rfl <;> rfl
          rw [List.take_add_one, e3]
          show Prs _ _ (([0, 1, 2].take i3 ++ [i3]).map _)
          rw [List.map_append]
          exact hP3.append (.cons d9 _ _ _ _ _ .nil)
      · rintro ys3 news3 hy3 ⟨ts3, rfl, hP3⟩ D3 h27 tk27 F28 N28 off9
        (try dsimp only)
        k_steps
        unfold Hold
        (rename News _ _ _ _ => N30)
        (rename Fr _ _ _ _ => F30)
        have hP4 : Prs ys3 ts3 [(nmS 0 false, dq (sz 0)), (nmS 1 false, dq (sz 1)), (nmS 2 false, dq (sz 2))] := hP3
        have hvl : ys3.length = 3 := hy3
        have hts : ∀ p ∈ ts3, p ∈ (D3, LCg.lst ys3) :: (D, LCg.lst ys) :: (lr, listOf rs.toArray nr) :: (lw, listOf ws.toArray nw) :: (r9, listOf us.toArray m9) :: (s1.heap.objs.size + 1 + 1, oZ) :: (s1.heap.objs.size + 1, oC) :: ts3 := fun p hp => .tail _ (.tail _ (.tail _ (.tail _ (.tail _ (.tail _ (.tail _ hp))))))
        have hE : ∀ a ∈ [D, lr, lw, r9, s1.heap.objs.size + 1 + 1, s1.heap.objs.size + 1], @Ne Nat a D3 ∧ a ∉ addrs ts3 := by
          obtain ⟨q1, q2, q3, q4, q5, q6, -⟩ := off9
          intro a ha
          simp only [List.mem_cons, List.not_mem_nil, or_false] at ha
          rcases ha with e | e | e | e | e | e
          · rw [e]; exact ⟨q1, hP4.off_list N30 (.tail _ (.head _)) rfl hts⟩
          · rw [e]; exact ⟨q2, hP4.off_list N30 (.tail _ (.tail _ (.head _))) rfl hts⟩
          · rw [e]; exact ⟨q3, hP4.off_list N30 (.tail _ (.tail _ (.tail _ (.head _)))) rfl hts⟩
          · rw [e]; exact ⟨q4, hP4.off_list N30 (.tail _ (.tail _ (.tail _ (.tail _ (.head _))))) rfl hts⟩
          · rw [e]; exact ⟨q5, hP4.off_cell N30 (.tail _ (.tail _ (.tail _ (.tail _ (.tail _ (.head _)))))) dZ hts⟩
          · rw [e]; exact ⟨q6, hP4.off_cell N30 (.tail _ (.tail _ (.tail _ (.tail _ (.tail _ (.tail _ (.head _))))))) dC hts⟩
        have hcl : ∀ p ∈ rowsP (fun _ => false) sz [0, 1, 2], Clean p.1 ∧ Clean p.2 := rowsP_clean (by decide) (fun k _ => (hsz k).2)
        refine make3P (n := ys3.length) (rest := [(D, LCg.lst ys), (lr, listOf rs.toArray nr), (lw, listOf ws.toArray nw), (r9, listOf us.toArray m9), (s1.heap.objs.size + 1 + 1, oZ), (s1.heap.objs.size + 1, oC)]) hP4 W F30 N30 (fun p hp => ?_) (by walk_at "my.in") (fun p hp => hE p.1 (List.mem_map_of_mem hp)) (by decide) (by decide) hcl ?_
        · rcases List.mem_cons.mp hp with e | q
          · rw [e]; exact .head _
          · exact hts p q
        intro x dx tkh h31 tk31 F31 N31' hlo hxd
        have hlt : ∀ p ∈ (D3, LCg.lst ys3) :: (D, LCg.lst ys) :: (lr, listOf rs.toArray nr) :: (lw, listOf ws.toArray nw) :: (r9, listOf us.toArray m9) :: (s1.heap.objs.size + 1 + 1, oZ) :: (s1.heap.objs.size + 1, oC) :: ts3, p.1 < dx := hlo
        have N31 := News_sub ((x, instObj 296 dx) :: (dx, dictOf [⟨PyData.keyHash w.params (Str.ofString "_headers"), .str (Str.ofString "_headers") tkh, .ref D3⟩] 1) :: (D3, listOf ys3.toArray ys3.length) :: (D, LCg.lst ys) :: (lr, listOf rs.toArray nr) :: (lw, listOf ws.toArray nw) :: (r9, listOf us.toArray m9) :: (s1.heap.objs.size + 1 + 1, oZ) :: (s1.heap.objs.size + 1, oC) :: ts3) N31' (List.forall_mem_cons.mpr ⟨.head _, List.forall_mem_cons.mpr ⟨.tail _ (.head _), List.forall_mem_cons.mpr ⟨.tail _ (.tail _ (.head _)), List.forall_mem_cons.mpr ⟨List.mem_append_right _ (.head _), List.forall_mem_cons.mpr ⟨List.mem_append_right _ (.tail _ (.head _)), List.forall_mem_cons.mpr ⟨List.mem_append_right _ (.tail _ (.tail _ (.head _))), List.forall_mem_cons.mpr ⟨List.mem_append_right _ (.tail _ (.tail _ (.tail _ (.head _)))), List.forall_mem_cons.mpr ⟨List.mem_append_right _ (.tail _ (.tail _ (.tail _ (.tail _ (.head _))))), List.forall_mem_cons.mpr ⟨List.mem_append_right _ (.tail _ (.tail _ (.tail _ (.tail _ (.tail _ (.head _)))))), fun p hp => List.mem_append_left _ (.tail _ (.tail _ (.tail _ hp)))⟩⟩⟩⟩⟩⟩⟩⟩⟩)
        clear F30 N30 hP3 hy3 N31' hlo off9
        have l1 : @LT.lt Nat _ D3 dx := hlt _ (.head _)
        have l2 : @LT.lt Nat _ D dx := hlt _ (.tail _ (.head _))
        have l3 : @LT.lt Nat _ lr dx := hlt _ (.tail _ (.tail _ (.head _)))
        have l4 : @LT.lt Nat _ lw dx := hlt _ (.tail _ (.tail _ (.tail _ (.head _))))
        have l5 : @LT.lt Nat _ r9 dx := hlt _ (.tail _ (.tail _ (.tail _ (.tail _ (.head _)))))
        have l6 : @LT.lt Nat _ (s1.heap.objs.size + 1 + 1) dx := hlt _ (.tail _ (.tail _ (.tail _ (.tail _ (.tail _ (.head _))))))
        have l7 : @LT.lt Nat _ (s1.heap.objs.size + 1) dx := hlt _ (.tail _ (.tail _ (.tail _ (.tail _ (.tail _ (.tail _ (.head _)))))))
        have lxd : @LT.lt Nat _ dx x := hxd
        have hlts : ∀ p ∈ ts3, @LT.lt Nat _ p.1 dx := fun p hp => hlt p (.tail _ (.tail _ (.tail _ (.tail _ (.tail _ (.tail _ (.tail _ hp)))))))
        have hv1 : ys3.length ≤ 1000 := by rw [hvl]; decide
        clear hlt hxd hts hvl
        k_steps
        unfold Hold
        (rename News _ _ _ _ => N32)
        (rename Fr _ _ _ _ => F32)
        have hown : ∀ p ∈ hdO w x dx D3 tkh ys3 ys3.length ++ ts3, p ∈ (x, instObj 296 dx) :: (dx, dictOf [⟨PyData.keyHash w.params (Str.ofString "_headers"), .str (Str.ofString "_headers") tkh, .ref D3⟩] 1) :: (D3, listOf ys3.toArray ys3.length) :: (D, LCg.lst ys) :: (lr, listOf rs.toArray nr) :: (lw, listOf ws.toArray nw) :: (r9, listOf us.toArray m9) :: (s1.heap.objs.size + 1 + 1, oZ) :: (s1.heap.objs.size + 1, oC) :: ts3 :=
          List.forall_mem_append.mpr ⟨List.forall_mem_cons.mpr ⟨.head _, List.forall_mem_cons.mpr ⟨.tail _ (.head _), List.forall_mem_cons.mpr ⟨.tail _ (.tail _ (.head _)), fun _ h => nomatch h⟩⟩⟩, fun p hp => .tail _ (.tail _ (.tail _ (.tail _ (.tail _ (.tail _ (.tail _ (.tail _ (.tail _ hp))))))))⟩
        k_dflt (refine MCall2.more (own := hdO w x dx D3 tkh ys3 ys3.length ++ ts3) (P := fun v ex => ∃ (r : Addr) (m : Nat), (v = .ref r ∧ ex = [(r, listOf ys3.toArray m)]) ∧ ∀ p ∈ hdO w x dx D3 tkh ys3 ys3.length ++ ts3, @Ne Nat p.1 r) (MCall2.imp (c_itemsF (W.under F32 N32 hown) (fun p hp => (N32 p (hown p hp)).1) hP4 hv1) (fun v o ⟨r, m, a, b, c⟩ => ⟨[(r, listOf ys3.toArray m)], b, r, m, ⟨a, rfl⟩, c⟩)) ?d8 ?u8 F32 N32 hown ?_)
        case d8 => decide
        case u8 => decide
        rintro v9 ex9 h9 tk9 ⟨r5, m5, ⟨rfl, rfl⟩, hr5⟩ F33 N33 hA5
        dsimp only at hA5 ⊢
        simp only [List.cons_append, List.nil_append] at N33
        k_steps
        unfold Hold
        (rename News _ _ _ _ => N34)
        (rename Fr _ _ _ _ => F34)
        have h5r : ∀ p ∈ [(x, instObj 296 dx), (dx, dictOf [⟨PyData.keyHash w.params (Str.ofString "_headers"), .str (Str.ofString "_headers") tkh, .ref D3⟩] 1), (D3, listOf ys3.toArray ys3.length)], @Ne Nat p.1 r5 := fun p hp => hr5 p (List.mem_append_left _ hp)
        have h5t : ∀ p ∈ ts3, @Ne Nat p.1 r5 := fun p hp => hr5 p (List.mem_append_right _ hp)
        have h5D : @Ne Nat D r5 := by
          rcases hA5 _ (.head _) with q | q
          · obtain ⟨p, hp, e⟩ := List.mem_map.mp q
            exact absurd e (hr5 p hp)
          · exact Ne.symm (q _ (.tail _ (.tail _ (.tail _ (.head _)))))
        clear hA5 hr5
        have hown2 : ∀ p ∈ hdO w x dx D3 tkh ys3 ys3.length ++ (D, listOf ys.toArray ys.length) :: ts3, p ∈ (r5, listOf ys3.toArray m5) :: (x, instObj 296 dx) :: (dx, dictOf [⟨PyData.keyHash w.params (Str.ofString "_headers"), .str (Str.ofString "_headers") tkh, .ref D3⟩] 1) :: (D3, listOf ys3.toArray ys3.length) :: (D, LCg.lst ys) :: (lr, listOf rs.toArray nr) :: (lw, listOf ws.toArray nw) :: (r9, listOf us.toArray m9) :: (s1.heap.objs.size + 1 + 1, oZ) :: (s1.heap.objs.size + 1, oC) :: ts3 :=
          List.forall_mem_append.mpr ⟨List.forall_mem_cons.mpr ⟨.tail _ (.head _), List.forall_mem_cons.mpr ⟨.tail _ (.tail _ (.head _)), List.forall_mem_cons.mpr ⟨.tail _ (.tail _ (.tail _ (.head _))), fun _ h => nomatch h⟩⟩⟩, List.forall_mem_cons.mpr ⟨.tail _ (.tail _ (.tail _ (.tail _ (.head _)))), fun p hp => .tail _ (.tail _ (.tail _ (.tail _ (.tail _ (.tail _ (.tail _ (.tail _ (.tail _ (.tail _ hp)))))))))⟩⟩
        have off : ∀ a : Nat, a < dx → @Ne Nat a D3 → @Ne Nat a D → a ∉ addrs ts3 → a ∉ addrs (hdO w x dx D3 tkh ys3 ys3.length ++ (D, listOf ys.toArray ys.length) :: ts3) := fun a q1 q2 q3 q4 hm => by
          obtain ⟨p, hp, e⟩ := List.mem_map.mp hm
          have e' : @Eq Nat p.1 a := e
          rcases List.mem_append.mp hp with z | z
          · rcases List.mem_cons.mp z with z | z
            · rw [z] at e'; have q5 : @Eq Nat x a := e'; rw [← q5] at q1; exact absurd (Nat.lt_trans q1 lxd) (Nat.lt_irrefl _)
            · rcases List.mem_cons.mp z with z | z
              · rw [z] at e'; have q5 : @Eq Nat dx a := e'; rw [← q5] at q1; exact absurd q1 (Nat.lt_irrefl _)
              · rw [List.mem_singleton.mp z] at e'; exact q2 e'.symm
          · rcases List.mem_cons.mp z with z | z
            · rw [z] at e'; exact q3 e'.symm
            · exact q4 (List.mem_map.mpr ⟨p, z, e⟩)
        have oR := off lr l3 (hE lr (.tail _ (.head _))).1 (hDo lr (.head _)) (hE lr (.tail _ (.head _))).2
        have oW := off lw l4 (hE lw (.tail _ (.tail _ (.head _)))).1 (hDo lw (.tail _ (.head _))) (hE lw (.tail _ (.tail _ (.head _)))).2
        have o9 := off r9 l5 (hE r9 (.tail _ (.tail _ (.tail _ (.head _))))).1 (hDo r9 (.tail _ (.tail _ (.head _)))) (hE r9 (.tail _ (.tail _ (.tail _ (.head _))))).2
        have oz := off (s1.heap.objs.size + 1 + 1) l6 (hE _ (.tail _ (.tail _ (.tail _ (.tail _ (.head _)))))).1 (hDo _ (.tail _ (.tail _ (.tail _ (.head _))))) (hE _ (.tail _ (.tail _ (.tail _ (.tail _ (.head _)))))).2
        have oc := off (s1.heap.objs.size + 1) l7 (hE _ (.tail _ (.tail _ (.tail _ (.tail _ (.tail _ (.head _))))))).1 (hDo _ (.tail _ (.tail _ (.tail _ (.tail _ (.head _)))))) (hE _ (.tail _ (.tail _ (.tail _ (.tail _ (.tail _ (.head _))))))).2
        have o5 : r5 ∉ addrs (hdO w x dx D3 tkh ys3 ys3.length ++ (D, listOf ys.toArray ys.length) :: ts3) := fun hm => by
          obtain ⟨p, hp, e⟩ := List.mem_map.mp hm
          rcases List.mem_append.mp hp with z | z
          · exact h5r p z e
          · rcases List.mem_cons.mp z with z | z
            · rw [z] at e; exact h5D e
            · exact h5t p z e
        clear off h5r h5t h5D
        (try (rename IntsAre ys _ => hys))
        (try (rename IntsAre ws _ => hws))
        k_dflt (refine MCall2.use (own := hdO w x dx D3 tkh ys3 ys3.length ++ (D, listOf ys.toArray ys.length) :: ts3) (rest := [(r5, listOf ys3.toArray m5), (lr, listOf rs.toArray nr), (lw, listOf ws.toArray nw), (r9, listOf us.toArray m9), (s1.heap.objs.size + 1 + 1, oZ), (s1.heap.objs.size + 1, oC)]) (c_play (nn0 := 9 + m3) (W.under F34 N34 hown2) (fun p hp => (N34 p (hown2 p hp)).1) hP4 (fun k _ => (hsz k).2) hys (Nat.ne_of_gt lxd) (Nat.ne_of_gt (Nat.lt_trans l1 lxd)) (Nat.ne_of_gt l1) (hE D (.head _)).1 (Nat.ne_of_lt (Nat.lt_trans l2 lxd)) (Nat.ne_of_lt l2) (by omega) (by omega) ((News.isList N34 (.tail _ (.tail _ (.tail _ (.tail _ (.tail _ (.tail _ (.head _)))))))).at fun o e => hideAll_get _ e oW) ?hw9 ((News.isList N34 (.tail _ (.tail _ (.tail _ (.tail _ (.tail _ (.head _))))))).at fun o e => hideAll_get _ e oR) hrs) ?d9 ?u9 F34 N34 hown2 ?hn9 ?hr9 ?_)
        case hw9 => rw [show 9 + m3 = 8 + m3 + 1 by omega]; exact hws
        case d9 => decide
        case u9 => decide
        case hn9 => exact List.forall_mem_cons.mpr ⟨.head _, List.forall_mem_cons.mpr ⟨.tail _ (.tail _ (.tail _ (.tail _ (.tail _ (.head _))))), List.forall_mem_cons.mpr ⟨.tail _ (.tail _ (.tail _ (.tail _ (.tail _ (.tail _ (.head _)))))), List.forall_mem_cons.mpr ⟨.tail _ (.tail _ (.tail _ (.tail _ (.tail _ (.tail _ (.tail _ (.head _))))))), List.forall_mem_cons.mpr ⟨.tail _ (.tail _ (.tail _ (.tail _ (.tail _ (.tail _ (.tail _ (.tail _ (.head _)))))))), List.forall_mem_cons.mpr ⟨.tail _ (.tail _ (.tail _ (.tail _ (.tail _ (.tail _ (.tail _ (.tail _ (.tail _ (.head _))))))))), fun _ h => nomatch h⟩⟩⟩⟩⟩⟩
        case hr9 => exact List.forall_mem_cons.mpr ⟨o5, List.forall_mem_cons.mpr ⟨oR, List.forall_mem_cons.mpr ⟨oW, List.forall_mem_cons.mpr ⟨o9, List.forall_mem_cons.mpr ⟨oz, List.forall_mem_cons.mpr ⟨oc, fun _ h => nomatch h⟩⟩⟩⟩⟩⟩
        rintro v9 own9 h9 tk9 ⟨rfl, rfl⟩ F35 N35 hA9
        clear hA9 oR oW o9 oz oc o5 F34 N34
        dsimp only
        have N36 := News_sub ((r5, listOf ys3.toArray m5) :: (D, LCg.lst ys) :: (lr, listOf rs.toArray nr) :: (lw, listOf ws.toArray nw) :: (r9, listOf us.toArray m9) :: (s1.heap.objs.size + 1 + 1, oZ) :: (s1.heap.objs.size + 1, oC) :: ts3) N35 (List.forall_mem_cons.mpr ⟨List.mem_append_right _ (.head _), List.forall_mem_cons.mpr ⟨.head _, List.forall_mem_cons.mpr ⟨List.mem_append_right _ (.tail _ (.head _)), List.forall_mem_cons.mpr ⟨List.mem_append_right _ (.tail _ (.tail _ (.head _))), List.forall_mem_cons.mpr ⟨List.mem_append_right _ (.tail _ (.tail _ (.tail _ (.head _)))), List.forall_mem_cons.mpr ⟨List.mem_append_right _ (.tail _ (.tail _ (.tail _ (.tail _ (.head _))))), List.forall_mem_cons.mpr ⟨List.mem_append_right _ (.tail _ (.tail _ (.tail _ (.tail _ (.tail _ (.head _)))))), fun p hp => .tail _ (List.mem_append_left _ hp)⟩⟩⟩⟩⟩⟩⟩)
        clear N35
        k_steps
        unfold Hold
        (rename News _ _ _ _ => N37)
        (rename Fr _ _ _ _ => F37)
        k_dflt (refine LCg.CompSrc.range (n := 3) (by rfl) F37 N37 (by assumption) (small_one (by decide) (by decide) (by decide) (by decide)) (by first | rfl | decide) (by exact Nat.le_of_ble_eq_true rfl) ?_)
        intro g'
        refine cr_inv (fun i ys4 news => ∃ ts4, news = (r5, listOf ys3.toArray m5) :: (D, LCg.lst ys) :: (lr, listOf rs.toArray nr) :: (lw, listOf ws.toArray nw) :: (r9, listOf us.toArray m9) :: (s1.heap.objs.size + 1 + 1, oZ) :: (s1.heap.objs.size + 1, oC) :: (ts3 ++ ts4) ∧ Prs ys4 ts4 (rowsP (fun _ => false) sz ([0, 1, 2].take i))) ⟨[], by rw [List.append_nil], .nil⟩ ?_ ?_
        · rintro i3 ys4 news4 v I3 oI3 C oC3 D4 m₂ h27 tk27 E' hi3 hy4 ⟨ts4, rfl, hP5⟩ ⟨t, rfl⟩ hC hx F38 N38 off9 ne9
          obtain ⟨k, hk, hk0, hk4⟩ : ∃ k : Int, k = 0 + (i3:Int) ∧ 0 ≤ k ∧ k < 3 := ⟨_, rfl, by omega, by omega⟩
          rw [← hk] at hx
          have hki : k.toNat = i3 := by omega
          have hsk : ((List.range 3).map fun k => (sz k : Int)).getD k.toNat 0 = (sz i3 : Int) := by
            rw [hki, List.getD, List.getElem?_map, List.getElem?_range hi3]; rfl
          have hs8 := (hsz i3).2
          k_steps
          unfold Hold
          (rename News _ _ _ _ => N39)
          (rename Fr _ _ _ _ => F39)
          rw [show Txt.mul (Str.ofString "\"") (sz i3 : Int) = dq (sz i3) from mul_dq ⟨sz i3, by omega⟩, show k = ((i3 : Nat) : Int) by omega, (nmS_item ⟨i3, hi3⟩).1] at N39
          obtain ⟨d9, ta9, tb9, n9, N40, e9⟩ := tupNm N39
          subst e9
          have hd9 : @Ne Nat d9 I3 ∧ @Ne Nat d9 C ∧ @Ne Nat d9 D4 := ⟨by omega, by omega, by omega⟩
          refine LCg.CompEnd.intro F39 N40 ((r5, listOf ys3.toArray m5) :: (D, LCg.lst ys) :: (lr, listOf rs.toArray nr) :: (lw, listOf ws.toArray nw) :: (r9, listOf us.toArray m9) :: (s1.heap.objs.size + 1 + 1, oZ) :: (s1.heap.objs.size + 1, oC) :: (ts3 ++ (ts4 ++ [(d9, { cls := .type "tuple", data := .seq #[.str (nmS i3 false) ta9, .str (dq (sz i3)) tb9] n9 })]))) ?_ (off3_of fun p hp => ?_) trivial ⟨ts4 ++ [(d9, { cls := .type "tuple", data := .seq #[.str (nmS i3 false) ta9, .str (dq (sz i3)) tb9] n9 })], rfl, ?_⟩
          · intro p hp
            walk_at "my.pinS"
          · rcases (show p ∈ (r5, listOf ys3.toArray m5) :: (D, LCg.lst ys) :: (lr, listOf rs.toArray nr) :: (lw, listOf ws.toArray nw) :: (r9, listOf us.toArray m9) :: (s1.heap.objs.size + 1 + 1, oZ) :: (s1.heap.objs.size + 1, oC) :: (ts3 ++ ts4) ∨ p.1 = d9 by
              simp only [List.mem_append, List.mem_cons, List.not_mem_nil, or_false] at hp ⊢
              grind) with q | q
            · exact off9.mem p q
            · rw [q]; exact hd9
          · have e3 : [0, 1, 2][i3]? = some i3 := by rcases lt3 hi3 with rfl | rfl | rfl <;> rfl
            rw [List.take_add_one, e3]
            show Prs _ _ (([0, 1, 2].take i3 ++ [i3]).map _)
            rw [List.map_append]
            exact hP5.append (.cons d9 _ _ _ _ _ .nil)
        · rintro ys4 news4 hy4 ⟨ts4, rfl, hP5⟩ D4 h27 tk27 F38 N38 off9
          (try dsimp only)
          k_steps
          unfold Hold
          (rename News _ _ _ _ => N39)
          (rename Fr _ _ _ _ => F39)
          k_dflt (refine eq_same_dat N39 (.tail _ (.head _)) rfl rfl (prs_dat hP4 (fun p hp => ?mm)) (.head _) rfl rfl (prs_dat hP5 (fun p hp => ?mn)) (ok_prs hcl) ?u6 ?_)
          case mm => exact .tail _ (.tail _ (.tail _ (.tail _ (.tail _ (.tail _ (.tail _ (.tail _ (List.mem_append_left _ hp))))))))
          case mn => exact .tail _ (.tail _ (.tail _ (.tail _ (.tail _ (.tail _ (.tail _ (.tail _ (List.mem_append_right _ hp))))))))
          case u6 => exact Nat.le_of_ble_eq_true rfl
          k_steps
          unfold Hold
          (rename News _ _ _ _ => N41)
          (rename Fr _ _ _ _ => F41)
          obtain ⟨oL, es, ep, hoL, hoLd, hoLk, hoLf⟩ := F41.ns
          k_dflt (refine' c_refused ⟨X, _, _, _, _, T⟩ j _ hj _ _ _ _ ?Lf oL _ _ _ ?K ?h1 ?hG ?hD ?hd ?hu ?_)
          case K => exact pushX (A := callerA) K0 F41 rfl rfl
          case h1 => rfl
          case hG => exact hoL
          case hD => exact ⟨es, ep, hoLd⟩
          case hd => decide
          case hu => decide
          rintro h42 tk42 hk42 ⟨sl', hsl⟩
          have F42 := Fr.mk (h₀ := s1.heap) (h := h42) ⟨_, es, ep, hsl, hoLd, hoLk, hoLf⟩ (fun b o e => hk42 b o (F41.keep b o e) (fun q => absurd (Nat.lt_of_lt_of_le (Heap.lt_size (q ▸ e)) F41.above) (Nat.lt_irrefl _))) F41.above
          clear F41 N41
          exact hpost _ _ _ F42
end Law
end
theorem law_walk : hd.T := lawC.2 fun w' s1' fa' cd' h₁' tk₁' o1' o2' l0' vs' ns' Q' E' => Law.all w' s1' fa' cd' h₁' tk₁' o1' o2' l0' vs' ns' Q' E' Law.walk
theorem law_holds : PySem.Challenge.rw_wo0076_01.Holds := hd_use law_walk

end Mine

theorem PySem.Challenge.cw_wo0076_01_holds : PySem.Challenge.rw_wo0076_01.Holds :=
  Mine.law_holds
