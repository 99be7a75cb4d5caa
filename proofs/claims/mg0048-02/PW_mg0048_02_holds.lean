import PyProof.Rows.All
import Wide.All
import OpenK.AllK
import Wide.FinOn
import KE.KStar
import KE.KBoundM
import KE.KEqDat
import KE.KRevSl
import PyProof.SeqInW
import KE.KSorted
import KE.KUnpack
import PyProof.RulesSmallArms
import KE.KSortTup
import KE.KPar
import Lean
import PySem.Challenge.RW_mg0048_02
open PySem PySem.W PyProof.Rows
set_option Elab.async false
set_option linter.unusedVariables false
set_option linter.unusedSimpArgs false
set_option maxRecDepth 100000
set_option maxHeartbeats 8000000
set_option genInjectivity false
set_option genSizeOf false
set_option compiler.extract_closed false
namespace Mine
open PySem PySem.W PyProof.Rows PySem.Calls PySem.MeetsSeq
noncomputable def vw : Program := view PySem.Challenge.pw_mg0048_02 [0, 2, 4, 5, 6, 7, 8, 10, 11, 12, 13, 14, 15, 16, 17]
theorem well2 : PySem.Challenge.rw_mg0048_02.wellSaid = true := by
  rw [PySem.W.Fast.te9446332074065402090]
  kernel_rfl
local macro_rules | `(tactic| o_law) => `(tactic| (refine holds_law well2 fun said => ?_))
local macro_rules | `(tactic| o_head $H) => `(tactic| (
  refine holds_open (q := vw) (loose := [Str.ofString "_NodeInfo"]) (Xt := fun s => xlAt vw [] s && recOk [] s) (XP := XL vw []) (Yf := Hook.obs $H) (Ya := Hook.val $H) (YP := Hook.says $H) (N := 2812) ?hl (Hook.of $H) (Hook.keeps $H) (fun s e => xl_of s (Bool.and_eq_true_iff.mp e).1) XL.keeps (by rfl) (by rfl) (by rfl) (fun s e => recFacts_of (Bool.and_eq_true_iff.mp e).2) (by kernel_rfl) (by assumption) (by decide +kernel) ⟨rfl, rfl, rfl, rfl, rfl, by decide +kernel⟩ ?hw ?hc
  case hl =>
    intro w
    unfold openEnds fencedOpening topFrom
    rw [PySem.W.Fast.te14082659384304107361, PySem.W.Fast.te10274390034422433532, PySem.W.Fast.te14289696077712309145, PySem.W.Fast.te14364793385576792824, PySem.W.Fast.te1435165496053646825, PySem.W.Fast.te4187177175401517315]
    kernel_rfl))
open_top hd for PySem.Challenge.rw_mg0048_02
inductive MV where
  | none | bool (b : Bool) | int (i : Int) | ref (a : Addr) | str (x : Str) | ty (n : String) | bi (id : String)
noncomputable def MV.val : MV → Tok → Value
  | .none, _ => .none
  | .bool b, _ => .bool b
  | .int i, t => .int i t
  | .ref a, _ => .ref a
  | .str x, t => .str x t
  | .ty n, _ => .type n
  | .bi id, _ => .builtin id
noncomputable def Is (v : Value) (m : MV) : Prop := ∃ t, v = m.val t
theorem Is.none : Is .none .none := ⟨0, rfl⟩
theorem Is.bool (b : Bool) : Is (.bool b) (.bool b) := ⟨0, rfl⟩
theorem Is.int (i : Int) (t : Tok) : Is (.int i t) (.int i) := ⟨t, rfl⟩
theorem Is.ref (a : Addr) : Is (.ref a) (.ref a) := ⟨0, rfl⟩
theorem Is.of_ref {v : Value} {a : Addr} (h : Is v (.ref a)) : v = .ref a := h.choose_spec
theorem Is.of_none {v : Value} (h : Is v .none) : v = .none := h.choose_spec
theorem Is.of_bool {v : Value} {b : Bool} (h : Is v (.bool b)) : v = .bool b := h.choose_spec
theorem Is.of_bi {v : Value} {i : String} (h : Is v (.bi i)) : v = .builtin i := h.choose_spec
theorem Is.of_ty {v : Value} {i : String} (h : Is v (.ty i)) : v = .type i := h.choose_spec
inductive Are : List Value → List MV → Prop where
  | nil : Are [] []
  | cons {v m vs ms} : Is v m → Are vs ms → Are (v :: vs) (m :: ms)
theorem Are.length {vs ms} (h : Are vs ms) : vs.length = ms.length := by
  induction h with
  | nil => rfl
  | cons _ _ ih => simp [ih]
theorem Are.append {vs ms vs' ms'} (h : Are vs ms) (h' : Are vs' ms') : Are (vs ++ vs') (ms ++ ms') := by
  induction h with
  | nil => exact h'
  | cons a _ ih => exact .cons a ih
theorem Are.get {vs ms} (h : Are vs ms) : ∀ {i : Nat} {m : MV}, ms[i]? = some m → ∃ v, vs[i]? = some v ∧ Is v m := by
  induction h with
  | nil => intro i m e; simp at e
  | cons a _ ih =>
    intro i m e
    cases i with
    | zero => simp at e; subst e; exact ⟨_, rfl, a⟩
    | succ i => simpa using ih (by simpa using e)
theorem Are.get_none {vs ms} (h : Are vs ms) {i : Nat} (e : ms[i]? = none) : vs[i]? = none := by
  have := h.length
  rw [List.getElem?_eq_none_iff] at e ⊢; omega
theorem Are.drop {vs ms} (h : Are vs ms) : ∀ n, Are (vs.drop n) (ms.drop n) := by
  induction h with
  | nil => intro n; simp; exact .nil
  | cons a b ih => intro n; cases n with
    | zero => exact .cons a b
    | succ n => exact ih n
theorem Are.take {vs ms} (h : Are vs ms) : ∀ n, Are (vs.take n) (ms.take n) := by
  induction h with
  | nil => intro n; simp; exact .nil
  | cons a b ih => intro n; cases n with
    | zero => exact .nil
    | succ n => exact .cons a (ih n)
theorem Are.ints {vs : List Value} {ns : List Int} (h : Are vs (ns.map .int)) : IntsAre vs ns := by
  induction ns generalizing vs with
  | nil => cases h; exact .nil
  | cons n r ih => cases h with
    | cons a b => obtain ⟨t, rfl⟩ := a; exact .cons n t (ih b)
theorem Are.of_ints {vs : List Value} {ns : List Int} (h : IntsAre vs ns) : Are vs (ns.map .int) := by
  induction h with
  | nil => exact .nil
  | cons n t _ ih => exact .cons ⟨t, rfl⟩ ih
noncomputable abbrev Loc := List (Str × Option MV)
noncomputable def LocIs : Option Value → Option MV → Prop
  | none, none => True
  | some v, some m => Is v m
  | _, _ => False
theorem LocIs.some {o : Option Value} {m : MV} (h : LocIs o (some m)) : ∃ v, o = some v ∧ Is v m := by
  cases o with
  | none => cases h
  | some v => exact ⟨v, rfl, h⟩
inductive SlotsAre : List (Option Value) → List (Option MV) → Prop where
  | nil : SlotsAre [] []
  | cons {v m vs ms} : LocIs v m → SlotsAre vs ms → SlotsAre (v :: vs) (m :: ms)
inductive AttrsAre : List DictEntry → List (Str × MV) → Prop where
  | nil : AttrsAre [] []
  | cons {e x t v es fs} : e.key = .str x t → Is e.val v → AttrsAre es fs → AttrsAre (e :: es) ((x, v) :: fs)
inductive MO where
  | list (xs : List MV)
  | tup (xs : List MV)
  | cell (v : Option MV)
  | obj (o : Obj)
  | inst (C d : Addr) (sl : List (Option MV))
  | attrs (fs : List (Str × MV))
  | gen (P : Obj → Prop)
noncomputable def MO.ok : MO → Obj → Prop
  | .list xs, ob => ∃ vs n, Are vs xs ∧ ob = { cls := .type "list", data := .seq vs.toArray n }
  | .tup xs, ob => ∃ vs n, Are vs xs ∧ ob = { cls := .type "tuple", data := .seq vs.toArray n }
  | .cell v, ob => ∃ x, ob.data = .cell x ∧ LocIs x v
  | .obj o, ob => ob = o
  | .inst C d sl, ob => ∃ vs, SlotsAre vs sl ∧ ob = { cls := .ref C, dict := some d, slots := vs.toArray }
  | .attrs fs, ob => ∃ es n, AttrsAre es fs ∧ (fs.map (·.1)).Nodup ∧ ob = dictOf es n
  | .gen P, ob => P ob
structure MS where
  loc : Loc
  led : List (Addr × MO)
structure Cx where
  prog : Program
  w : World
  K : Frag
  A : Around
  env : Env
  hb : Heap
  L : Addr
  outs : List (Addr × Loc)
  os : OsState
  lv : Nat
noncomputable def NsIs (h : Heap) (L : Addr) (loc : Loc) : Prop := ∃ m, h.Ns L m ∧ ∀ p ∈ loc, LocIs (m p.1) p.2
structure Rel (C : Cx) (σ : MS) (s : Shared) : Prop where
  keep : ∀ b o, C.hb.get? b = some o → s.heap.get? b = some o
  here : NsIs s.heap C.L σ.loc
  hereNew : C.hb.get? C.L = none
  lnd : (σ.loc.map (·.1)).Nodup
  outs : ∀ p ∈ C.outs, NsIs s.heap p.1 p.2 ∧ C.hb.get? p.1 = none ∧ p.1 ≠ C.L
  led : ∀ p ∈ σ.led, (∃ ob, s.heap.get? p.1 = some ob ∧ p.2.ok ob) ∧ C.hb.get? p.1 = none ∧ p.1 ≠ C.L ∧ ∀ q ∈ C.outs, q.1 ≠ p.1
  nd : (σ.led.map (·.1)).Nodup
  gens : s.gens = #[]
  os : s.os = C.os
theorem NsIs.keeps {h h' : Heap} {L : Addr} {loc : Loc} (x : NsIs h L loc) (k : ∀ o, h.get? L = some o → h'.get? L = some o) : NsIs h' L loc := by
  obtain ⟨m, ⟨o, es, ep, h1, r⟩, hm⟩ := x
  exact ⟨m, ⟨o, es, ep, k o h1, r⟩, hm⟩
theorem NsIs.there {h : Heap} {L : Addr} {loc : Loc} (x : NsIs h L loc) : ∃ o, h.get? L = some o := by
  obtain ⟨m, ⟨o, es, ep, h1, r⟩, hm⟩ := x
  exact ⟨o, h1⟩
section
variable {C : Cx} {σ : MS} {s : Shared}
theorem Rel.toks (R : Rel C σ s) (t : Nat) : Rel C σ { s with toks := t } := ⟨R.keep, R.here, R.hereNew, R.lnd, R.outs, R.led, R.nd, R.gens, R.os⟩
theorem Rel.ext (R : Rel C σ s) {h' : Heap} (k : ∀ b o, s.heap.get? b = some o → h'.get? b = some o) (t : Nat := s.toks) : Rel C σ { s with heap := h', toks := t } where
  keep b o e := k _ _ (R.keep b o e)
  here := R.here.keeps fun o => k _ o
  hereNew := R.hereNew
  lnd := R.lnd
  outs p hp := ⟨(R.outs p hp).1.keeps fun o => k _ o, (R.outs p hp).2⟩
  led p hp := ⟨let ⟨ob, a, b⟩ := (R.led p hp).1; ⟨ob, k _ _ a, b⟩, (R.led p hp).2⟩
  nd := R.nd
  gens := R.gens
  os := R.os
theorem Rel.fresh (R : Rel C σ s) : C.hb.get? s.heap.objs.size = none := by
  cases hq : C.hb.get? s.heap.objs.size with
  | none => rfl
  | some o => exact absurd (Heap.lt_size (R.keep _ o hq)) (Nat.lt_irrefl _)
theorem Rel.lt (R : Rel C σ s) : ∀ p ∈ σ.led, p.1 < s.heap.objs.size := fun p hp => let ⟨_, a, _⟩ := (R.led p hp).1; Heap.lt_size a
theorem Rel.alloc (R : Rel C σ s) {o : Obj} (m : MO) (hm : m.ok o) (hf : o.isFreed = false) : Rel C ⟨σ.loc, (s.heap.objs.size, m) :: σ.led⟩ { s with heap := s.heap.push o } := by
  have k : ∀ b x, s.heap.get? b = some x → (s.heap.push o).get? b = some x := fun b x e => Heap.get?_push_of_some _ e
  have R' := R.ext k
  obtain ⟨oL, hL⟩ := R.here.there
  refine ⟨R'.keep, R'.here, R'.hereNew, R'.lnd, R'.outs, fun p hp => ?_, ?_, R'.gens, R'.os⟩
  · rcases List.mem_cons.mp hp with rfl | hp
    · refine ⟨⟨o, Heap.get?_push_size _ hf, hm⟩, R.fresh, Nat.ne_of_gt (Heap.lt_size hL), fun q hq => ?_⟩
      obtain ⟨oq, hq'⟩ := (R.outs q hq).1.there
      exact Nat.ne_of_lt (Heap.lt_size hq')
    · exact R'.led p hp
  · show ((s.heap.objs.size, m).1 :: σ.led.map (·.1)).Nodup
    refine List.nodup_cons.mpr ⟨fun hm => ?_, R.nd⟩
    obtain ⟨p, hp, e⟩ := List.mem_map.mp hm
    exact absurd (R.lt p hp) (by rw [e]; exact Nat.lt_irrefl _)
inductive Upd (a : Addr) (o o' : MO) : List (Addr × MO) → List (Addr × MO) → Prop where
  | head {r} : Upd a o o' ((a, o) :: r) ((a, o') :: r)
  | tail {p r r'} : Upd a o o' r r' → Upd a o o' (p :: r) (p :: r')
theorem Upd.mem {a o o' l l'} (u : Upd a o o' l l') : (a, o) ∈ l := by
  induction u with
  | head => exact .head _
  | tail _ ih => exact .tail _ ih
theorem Upd.keys {a o o' l l'} (u : Upd a o o' l l') : l'.map (·.1) = l.map (·.1) := by
  induction u with
  | head => rfl
  | tail _ ih => simp [ih]
theorem Upd.of_mem {a o o' l l'} (u : Upd a o o' l l') (nd : (l.map (·.1)).Nodup) : ∀ p ∈ l', p = (a, o') ∨ (p ∈ l ∧ p.1 ≠ a) := by
  induction u with
  | head =>
    intro p hp
    rcases List.mem_cons.mp hp with rfl | hp
    · exact .inl rfl
    · refine .inr ⟨.tail _ hp, fun e => ?_⟩
      exact (List.nodup_cons.mp nd).1 (List.mem_map.mpr ⟨p, hp, e⟩)
  | tail u ih =>
    intro p hp
    have n2 := List.nodup_cons.mp nd
    rcases List.mem_cons.mp hp with rfl | hp
    · refine .inr ⟨.head _, fun e => n2.1 ?_⟩
      exact List.mem_map.mpr ⟨_, u.mem, e.symm⟩
    · rcases ih n2.2 p hp with e | ⟨e, f⟩
      · exact .inl e
      · exact .inr ⟨.tail _ e, f⟩
theorem Rel.upd (R : Rel C σ s) {a : Addr} {o o' : MO} {l' : List (Addr × MO)} (U : Upd a o o' σ.led l') {h' : Heap} {ob' : Obj} (hs : Heap.SameBut a s.heap h') (hg : h'.get? a = some ob') (ho : o'.ok ob') (t : Nat := s.toks) :
    Rel C ⟨σ.loc, l'⟩ { s with heap := h', toks := t } := by
  have ha := (R.led _ U.mem).2
  refine ⟨fun b x e => ?_, R.here.keeps fun x e => ?_, R.hereNew, R.lnd, fun p hp => ⟨(R.outs p hp).1.keeps fun x e => ?_, (R.outs p hp).2⟩, fun p hp => ?_, ?_, R.gens, R.os⟩
  · refine (hs.2 b fun e' => ?_).trans (R.keep b x e)
    rw [e', ha.1] at e; cases e
  · exact (hs.2 _ (Ne.symm ha.2.1)).trans e
  · exact (hs.2 _ (ha.2.2 p hp)).trans e
  · rcases U.of_mem R.nd p hp with rfl | ⟨hp, ne⟩
    · exact ⟨⟨ob', hg, ho⟩, ha⟩
    · exact ⟨let ⟨ob, x, y⟩ := (R.led p hp).1; ⟨ob, (hs.2 _ ne).trans x, y⟩, (R.led p hp).2⟩
  · show (l'.map (·.1)).Nodup
    rw [U.keys]; exact R.nd
inductive Put (x : Str) (v : Option MV) : Loc → Loc → Prop where
  | head {v₀ r} : Put x v ((x, v₀) :: r) ((x, v) :: r)
  | tail {p r r'} : Put x v r r' → Put x v (p :: r) (p :: r')
theorem Put.keys {x v l l'} (u : Put x v l l') : l'.map (·.1) = l.map (·.1) := by
  induction u with
  | head => rfl
  | tail _ ih => simp [ih]
theorem Put.mem {x v l l'} (u : Put x v l l') : ∃ v₀, (x, v₀) ∈ l := by
  induction u with
  | head => exact ⟨_, .head _⟩
  | tail _ ih => obtain ⟨v₀, h⟩ := ih; exact ⟨v₀, .tail _ h⟩
theorem Put.of_mem {x v l l'} (u : Put x v l l') (nd : (l.map (·.1)).Nodup) : ∀ p ∈ l', p = (x, v) ∨ (p ∈ l ∧ p.1 ≠ x) := by
  induction u with
  | head =>
    intro p hp
    rcases List.mem_cons.mp hp with rfl | hp
    · exact .inl rfl
    · refine .inr ⟨.tail _ hp, fun e => ?_⟩
      exact (List.nodup_cons.mp nd).1 (List.mem_map.mpr ⟨p, hp, e⟩)
  | tail u ih =>
    intro p hp
    have n2 := List.nodup_cons.mp nd
    rcases List.mem_cons.mp hp with rfl | hp
    · refine .inr ⟨.head _, fun e => n2.1 ?_⟩
      obtain ⟨v₀, h⟩ := u.mem
      exact List.mem_map.mpr ⟨_, h, e.symm⟩
    · rcases ih n2.2 p hp with e | ⟨e, f⟩
      · exact .inl e
      · exact .inr ⟨.tail _ e, f⟩
inductive Has {α β : Type} (x : α) (v : β) : List (α × β) → Prop where
  | head {r} : Has x v ((x, v) :: r)
  | tail {p r} : Has x v r → Has x v (p :: r)
theorem Has.mem {α β : Type} {x : α} {v : β} {l : List (α × β)} (h : Has x v l) : (x, v) ∈ l := by
  induction h with
  | head => exact .head _
  | tail _ ih => exact .tail _ ih
theorem Rel.at (R : Rel C σ s) {a : Addr} {o : MO} (h : Has a o σ.led) : ∃ ob, s.heap.get? a = some ob ∧ o.ok ob := (R.led _ h.mem).1
theorem Rel.loc (R : Rel C σ s) {x : Str} {v : MV} (h : Has x (some v) σ.loc) : ∃ m v', s.heap.Ns C.L m ∧ m x = some v' ∧ Is v' v := by
  obtain ⟨m, hn, hm⟩ := R.here
  obtain ⟨v', e, i⟩ := (hm _ h.mem).some
  exact ⟨m, v', hn, e, i⟩
theorem Rel.drop (R : Rel C σ s) {l' : List (Addr × MO)} (h : l'.Sublist σ.led) : Rel C ⟨σ.loc, l'⟩ s :=
  ⟨R.keep, R.here, R.hereNew, R.lnd, R.outs, fun p hp => R.led p (h.subset hp), (h.map _).nodup R.nd, R.gens, R.os⟩
theorem Rel.perm (R : Rel C σ s) {l' : List (Addr × MO)} (h : σ.led.Perm l') : Rel C ⟨σ.loc, l'⟩ s :=
  ⟨R.keep, R.here, R.hereNew, R.lnd, R.outs, fun p hp => R.led p (h.mem_iff.mpr hp), ((h.map _).nodup_iff).mp R.nd, R.gens, R.os⟩
end
inductive Ex2 {α β : Type} (P : α → β → Prop) : Prop where
  | mk (a : α) (b : β) (h : P a b) : Ex2 P
inductive Ex3 {α β γ : Type} (P : α → β → γ → Prop) : Prop where
  | mk (a : α) (b : β) (c : γ) (h : P a b c) : Ex3 P
inductive Ex4 {α β γ δ : Type} (P : α → β → γ → δ → Prop) : Prop where
  | mk (a : α) (b : β) (c : γ) (d : δ) (h : P a b c d) : Ex4 P
inductive Ex5 {α β γ δ ε : Type} (P : α → β → γ → δ → ε → Prop) : Prop where
  | mk (a : α) (b : β) (c : γ) (d : δ) (e : ε) (h : P a b c d e) : Ex5 P
inductive Ex6 {α β γ δ ε ζ : Type} (P : α → β → γ → δ → ε → ζ → Prop) : Prop where
  | mk (a : α) (b : β) (c : γ) (d : δ) (e : ε) (f : ζ) (h : P a b c d e f) : Ex6 P
inductive All2 (p0 p1 : Prop) : Prop where
  | mk (h0 : p0) (h1 : p1)
inductive All3 (p0 p1 p2 : Prop) : Prop where
  | mk (h0 : p0) (h1 : p1) (h2 : p2)
inductive All4 (p0 p1 p2 p3 : Prop) : Prop where
  | mk (h0 : p0) (h1 : p1) (h2 : p2) (h3 : p3)
inductive All5 (p0 p1 p2 p3 p4 : Prop) : Prop where
  | mk (h0 : p0) (h1 : p1) (h2 : p2) (h3 : p3) (h4 : p4)
inductive All6 (p0 p1 p2 p3 p4 p5 : Prop) : Prop where
  | mk (h0 : p0) (h1 : p1) (h2 : p2) (h3 : p3) (h4 : p4) (h5 : p5)
inductive All7 (p0 p1 p2 p3 p4 p5 p6 : Prop) : Prop where
  | mk (h0 : p0) (h1 : p1) (h2 : p2) (h3 : p3) (h4 : p4) (h5 : p5) (h6 : p6)
inductive All8 (p0 p1 p2 p3 p4 p5 p6 p7 : Prop) : Prop where
  | mk (h0 : p0) (h1 : p1) (h2 : p2) (h3 : p3) (h4 : p4) (h5 : p5) (h6 : p6) (h7 : p7)
inductive Post {α β : Type} (C : Cx) (rep : β → α → Prop) (Q : β → MS → Prop) (a : α) (s' : Shared) : Prop where
  | mk (b : β) (σ' : MS) (i : rep b a) (R : Rel C σ' s') (k : Q b σ')
theorem Post.out {α β : Type} {C : Cx} {rep : β → α → Prop} {Q : β → MS → Prop} {a : α} {s' : Shared} {P : Prop} (h : Post C rep Q a s') (f : ∀ b σ', rep b a → Rel C σ' s' → Q b σ' → P) : P := by
  cases h with
  | mk b σ' i R k => exact f b σ' i R k
noncomputable def AW (C : Cx) {α β : Type} (rep : β → α → Prop) (t : Sem α) (Q : β → MS → Prop) (E : Value → Shared → Prop) (σ : MS) : Prop :=
  ∀ s, Rel C σ s → wpAny (model C.prog C.w) C.A t (Post C rep Q) E s
theorem AW.hideQ {C : Cx} {α β : Type} {rep : β → α → Prop} {t : Sem α} {Q : β → MS → Prop} {E : Value → Shared → Prop} {σ : MS} (h : ∀ QQ : β → MS → Prop, (∀ b σ', Q b σ' → QQ b σ') → AW C rep t QQ E σ) : AW C rep t Q E σ := h Q fun _ _ q => q
theorem AW.hide {C : Cx} {α β : Type} {rep : β → α → Prop} {t : Sem α} {Q : β → MS → Prop} {E : Value → Shared → Prop} {σ : MS} (h : ∀ QQ : β → MS → Prop, (∀ b σ', Q b σ' → QQ b σ') → ∀ EE : Value → Shared → Prop, (∀ e s, E e s → EE e s) → AW C rep t QQ EE σ) : AW C rep t Q E σ := h Q (fun _ _ q => q) E fun _ _ q => q
theorem AW.wk {C : Cx} {α β : Type} {rep : β → α → Prop} {t : Sem α} {Q Q' : β → MS → Prop} {E E' : Value → Shared → Prop} {σ : MS} (q : ∀ b σ', Q b σ' → Q' b σ') (e : ∀ x s, E x s → E' x s) (h : AW C rep t Q E σ) : AW C rep t Q' E' σ :=
  fun s R => wpAny_mono (h s R) (fun _ _ p => by cases p with | mk b σ' i R k => exact ⟨b, σ', i, R, q _ _ k⟩) e
theorem if_t {c : Prop} [Decidable c] {a b : Prop} (hc : c) (h : a) : if c then a else b := by rw [if_pos hc]; exact h
theorem if_f {c : Prop} [Decidable c] {a b : Prop} (hc : ¬ c) (h : b) : if c then a else b := by rw [if_neg hc]; exact h
inductive MF where
  | next | brk | cont | ret (v : MV)
noncomputable def FlowIs : MF → Flow → Prop
  | .next, f => f = .next
  | .brk, f => f = .brk
  | .cont, f => f = .cont
  | .ret v, f => ∃ x, f = .ret x ∧ Is x v
noncomputable abbrev IsV (m : MV) (v : Value) : Prop := Is v m
noncomputable abbrev UnitIs (_ _ : Unit) : Prop := True
noncomputable abbrev EV (C : Cx) (e : PySem.Expr) (Q : MV → MS → Prop) (E : Value → Shared → Prop) (σ : MS) : Prop := AW C IsV (eval e C.env) Q E σ
noncomputable abbrev TR (C : Cx) (e : PySem.Expr) (Q : Bool → MS → Prop) (E : Value → Shared → Prop) (σ : MS) : Prop := AW C Eq (PySem.isTrue e C.env (eval e C.env)) Q E σ
noncomputable abbrev EX (C : Cx) (st : Stmt) (Q : MF → MS → Prop) (E : Value → Shared → Prop) (σ : MS) : Prop := AW C FlowIs (exec st C.env) Q E σ
noncomputable abbrev EXS (C : Cx) (sts : List Stmt) (Q : MF → MS → Prop) (E : Value → Shared → Prop) (σ : MS) : Prop := AW C FlowIs (execs sts C.env) Q E σ
noncomputable abbrev ASG (C : Cx) (t : PySem.Expr) (v : MV) (Q : Unit → MS → Prop) (E : Value → Shared → Prop) (σ : MS) : Prop := ∀ v', Is v' v → AW C UnitIs (assign t C.env v') Q E σ
theorem AW.mono {C : Cx} {α β : Type} {rep : β → α → Prop} {t : Sem α} {Q Q' : β → MS → Prop} {E : Value → Shared → Prop} {σ : MS} (h : AW C rep t Q E σ) (q : ∀ b σ', Q b σ' → Q' b σ') : AW C rep t Q' E σ :=
  fun s R => wpAny_mono (h s R) (fun _ _ post_ => post_.out fun b σ' x y z => ⟨b, σ', x, y, q _ _ z⟩) fun _ _ e => e
structure Cx.Ok (C : Cx) (gl : List (Str × MV)) (names : List (Str × NameKind)) (cells : List (Str × Addr)) : Prop where
  kin : C.K.In C.hb
  nolimit : C.hb.NoLimit
  glob : ∃ mg mb, C.hb.Ns mainGlobals mg ∧ C.hb.Ns builtinsNs mb ∧ ∀ p ∈ gl, ∃ v, Is v p.2 ∧ (mg p.1 = some v ∨ (mg p.1 = none ∧ mb p.1 = some v))
  kind : C.env.scope.kind = .function
  nm : C.env.scope.names = names
  nnd : (names.map (·.1)).Nodup
  dbg : (names.all fun p => !(p.1 == ("__debug__" : Str))) = true
  cl : ∀ p ∈ cells, C.env.cells.lookup p.1 = some p.2
  locals : C.env.locals = C.L
  globals : C.env.globals = mainGlobals
  builtins : C.env.builtins = builtinsNs
  frames : ∃ e fs, C.A.frames = some (e :: fs) ∧ e.frame = C.env.frame ∧ ∀ e' ∈ e :: fs, e'.scope.kind ≠ .module ∧ ∃ f, e'.frame = some f ∧ (f = C.L ∨ ∃ p ∈ C.outs, p.1 = f)
  depth : C.A.depth + 10 * C.lv ≤ 900
  units : C.A.units + 100 * C.lv ≤ 9000
theorem lookup_of_mem {α β : Type} [BEq α] [LawfulBEq α] {x : α} {v : β} : ∀ {l : List (α × β)}, (x, v) ∈ l → (l.map (·.1)).Nodup → l.lookup x = some v
  | (y, w) :: r, h, nd => by
    rw [List.lookup_cons]
    rcases List.mem_cons.mp h with e | h'
    · cases e; simp
    · have n2 := List.nodup_cons.mp nd
      have : (x == y) = false := by
        rw [beq_eq_false_iff_ne]
        rintro rfl
        exact n2.1 (List.mem_map.mpr ⟨_, h', rfl⟩)
      rw [this]
      exact lookup_of_mem h' n2.2
section
variable {C : Cx} {σ : MS} {E : Value → Shared → Prop} {gl : List (Str × MV)} {names : List (Str × NameKind)} {cells : List (Str × Addr)}
theorem Cx.Ok.kindOf (O : C.Ok gl names cells) {x : Str} {k : NameKind} (h : Has x k names) : C.env.kindOf x = some k := by
  show C.env.scope.names.lookup x = some k
  rw [O.nm]; exact lookup_of_mem h.mem O.nnd
theorem Cx.Ok.nodbg (O : C.Ok gl names cells) {x : Str} {k : NameKind} (h : Has x k names) : (x == ("__debug__" : Str)) = false := by
  have := List.all_eq_true.mp O.dbg _ h.mem
  simpa using this
theorem r_local {x : Str} {pos : Pos} {v : MV} {Q : MV → MS → Prop} (O : C.Ok gl names cells) (hk : Has x .local names) (hv : Has x (some v) σ.loc) (h : Q v σ) :
    EV C (.Name x pos) Q E σ := fun s R => by
  obtain ⟨m, v', hn, e, i⟩ := R.loc hv
  exact wpAny_Name (wpAny_loadName_local O.kind (O.kindOf hk) (by rw [O.locals]; exact hn) e ⟨v, σ, i, R, h⟩) (O.nodbg hk)
theorem r_global {x : Str} {pos : Pos} {v : MV} {Q : MV → MS → Prop} (O : C.Ok gl names cells) (hk : Has x .globalImplicit names) (hv : Has x v gl) (h : Q v σ) :
    EV C (.Name x pos) Q E σ := fun s R => by
  obtain ⟨mg, mb, hg, hb, ha⟩ := O.glob
  obtain ⟨v', i, e⟩ := ha _ hv.mem
  have keepNs : ∀ {a : Addr} {m : Str → Option Value}, C.hb.Ns a m → s.heap.Ns a m := fun {a m} q => let ⟨o, es, ep, x, r⟩ := q; ⟨o, es, ep, R.keep _ _ x, r⟩
  refine Name_function_global O.kind (O.kindOf hk) ?_ (O.nodbg hk)
  rcases e with e | ⟨e1, e2⟩
  · exact loadGlobal_global (by rw [O.globals]; exact keepNs hg) e ⟨v, σ, i, R, h⟩
  · exact loadGlobal_builtin (by rw [O.globals]; exact keepNs hg) e1 (by rw [O.builtins]; exact keepNs hb) e2 ⟨v, σ, i, R, h⟩
theorem r_cell {x : Str} {pos : Pos} {c : Addr} {v : MV} {Q : MV → MS → Prop} (O : C.Ok gl names cells) (hk : Has x .cell names) (hc : Has x c cells) (hv : Has c (MO.cell (some v)) σ.led) (h : Q v σ) :
    EV C (.Name x pos) Q E σ := fun s R => by
  obtain ⟨ob, ho, y, hy, hl⟩ := R.at hv
  obtain ⟨v', rfl, i⟩ := hl.some
  exact wpAny_Name (wpAny_loadName_cell O.kind (O.kindOf hk) (O.cl _ hc.mem) ⟨ob, ho, hy⟩ ⟨v, σ, i, R, h⟩) (O.nodbg hk)
noncomputable abbrev STN (C : Cx) (x : Str) (v : MV) (Q : Unit → MS → Prop) (E : Value → Shared → Prop) (σ : MS) : Prop := ∀ v', Is v' v → AW C UnitIs (storeName C.env x v') Q E σ
theorem r_store {x : Str} {v : MV} {loc' : Loc} {Q : Unit → MS → Prop} (O : C.Ok gl names cells) (hk : Has x .local names) (hv : Put x (some v) σ.loc loc') (h : Q () ⟨loc', σ.led⟩) : STN C x v Q E σ := fun v' i s R => by
  obtain ⟨m, hn, hm⟩ := R.here
  refine wpAny_storeName_local (O.kindOf hk) (by rw [O.locals]; exact hn) (fun h' hn' hs => ?_) (by rw [O.kind]; rfl)
  rw [O.locals] at hn' hs
  refine ⟨(), ⟨loc', σ.led⟩, trivial, ⟨fun b o e => ?_, ⟨_, hn', fun p hp => ?_⟩, R.hereNew, ?_, fun p hp => ⟨(R.outs p hp).1.keeps fun o e => ?_, (R.outs p hp).2⟩, fun p hp => ?_, R.nd, R.gens, R.os⟩, h⟩
  · refine (hs.2 b fun e' => ?_).trans (R.keep b o e)
    rw [e', R.hereNew] at e; cases e
  · rcases hv.of_mem R.lnd p hp with rfl | ⟨hp', ne⟩
    · show LocIs (if x = x then some v' else m x) (some v)
      rw [if_pos rfl]; exact i
    · rw [if_neg ne]; exact hm p hp'
  · show (loc'.map (·.1)).Nodup
    rw [hv.keys]; exact R.lnd
  · exact (hs.2 _ (R.outs p hp).2.2).trans e
  · exact ⟨let ⟨ob, a, b⟩ := (R.led p hp).1; ⟨ob, (hs.2 _ (R.led p hp).2.2.1).trans a, b⟩, (R.led p hp).2⟩
theorem r_store_cell {x : Str} {v : MV} {c : Addr} {v₀ : Option MV} {led' : List (Addr × MO)} {Q : Unit → MS → Prop} (O : C.Ok gl names cells) (hk : Has x .cell names) (hc : Has x c cells) (U : Upd c (.cell v₀) (.cell (some v)) σ.led led')
    (h : Q () ⟨σ.loc, led'⟩) : STN C x v Q E σ := fun v' i s R => by
  obtain ⟨⟨ob, ho, y, hy, hl⟩, _⟩ := R.led _ U.mem
  refine wpAny_storeName_cell O.kind (O.kindOf hk) (O.cl _ hc.mem) ⟨ob, ho, hy⟩ fun h' hc' hs => ?_
  obtain ⟨ob', ho', hd'⟩ := hc'
  exact ⟨(), _, trivial, R.upd U hs ho' ⟨_, hd', i⟩, h⟩
/- statements -/
theorem r_cons {st : Stmt} {rest : List Stmt} {Q : MF → MS → Prop} (h : EX C st (fun f σ' => match f with | .next => EXS C rest Q E σ' | f => Q f σ') E σ) : EXS C (st :: rest) Q E σ := fun s R => by
  refine wpAny_execs_cons (wpAny_mono (h s R) (fun f s' x => ?_) fun _ _ e => e)
  obtain ⟨b, σ', i, R', q⟩ := x
  cases b with
  | next => cases i; exact q s' R'
  | brk => cases i; exact ⟨.brk, σ', rfl, R', q⟩
  | cont => cases i; exact ⟨.cont, σ', rfl, R', q⟩
  | ret v => obtain ⟨y, rfl, i⟩ := i; exact ⟨.ret v, σ', ⟨y, rfl, i⟩, R', q⟩
theorem r_nil {Q : MF → MS → Prop} (h : Q .next σ) : EXS C [] Q E σ := fun _ R => wpAny_execs_nil ⟨.next, σ, rfl, R, h⟩
theorem r_break {pos : Pos} {Q : MF → MS → Prop} (h : Q .brk σ) : EX C (.Break pos) Q E σ := fun _ R => wpAny_Break ⟨.brk, σ, rfl, R, h⟩
theorem r_continue {pos : Pos} {Q : MF → MS → Prop} (h : Q .cont σ) : EX C (.Continue pos) Q E σ := fun _ R => wpAny_Continue ⟨.cont, σ, rfl, R, h⟩
theorem r_return {e : PySem.Expr} {pos : Pos} {Q : MF → MS → Prop} (h : EV C e (fun v σ' => Q (.ret v) σ') E σ) : EX C (.Return (some e) pos) Q E σ := fun s R =>
  wpAny_Return_some (wpAny_mono (h s R) (fun v s' post_ => post_.out fun m σ' i R' q => ⟨.ret m, σ', ⟨v, rfl, i⟩, R', q⟩) fun _ _ e => e)
theorem r_if {test : PySem.Expr} {body orelse : List Stmt} {pos : Pos} {Q : MF → MS → Prop} (h : TR C test (fun b σ' => if b = true then EXS C body Q E σ' else EXS C orelse Q E σ') E σ) : EX C (.If test body orelse pos) Q E σ := fun s R =>
  wpAny_If (wpAny_mono (h s R) (fun b s' post_ => post_.out fun m σ' i R' q => by
    cases i
    cases b with
    | true => exact q s' R'
    | false => exact q s' R') fun _ _ e => e)
theorem r_assign {x : Str} {pos' pos : Pos} {value : PySem.Expr} {Q : MF → MS → Prop} (h : EV C value (fun v σ' => STN C x v (fun _ σ'' => Q .next σ'') E σ') E σ)
    (hs : swapsWith value (some (.Name x pos')) pos.line C.env = pure false) : EX C (.Assign [.Name x pos'] value pos) Q E σ := fun s R =>
  wpAny_Assign_Name (wpAny_mono (h s R) (fun v s' post_ => post_.out fun m σ' i R' q => wpAny_mono (q v i s' R') (fun _ s'' post_ => post_.out fun _ σ'' _ R'' q' => ⟨.next, σ'', rfl, R'', q'⟩) fun _ _ e => e) fun _ _ e => e) hs
theorem r_expr {e : PySem.Expr} {pos : Pos} {Q : MF → MS → Prop} (O : C.Ok gl names cells) (h : EV C e (fun _ σ' => Q .next σ') E σ) (hs : swapsWith e none pos.line C.env = pure false) : EX C (.Expr e pos) Q E σ := fun s R =>
  wpAny_Expr_any (wpAny_mono (h s R) (fun v s' post_ => post_.out fun m σ' i R' q => ⟨.next, σ', rfl, R', q⟩) fun _ _ e => e) (by unfold interactive; rw [O.kind]; rfl) hs
/- values -/
theorem r_int {i : Int} {k : Nat} {pos : Pos} {Q : MV → MS → Prop} (h : Q (.int i) σ) : EV C (.Constant (.int i) k pos) Q E σ := fun _ R => wpAny_Constant_int ⟨.int i, σ, ⟨_, rfl⟩, R.toks _, h⟩
theorem r_none {k : Nat} {pos : Pos} {Q : MV → MS → Prop} (h : Q .none σ) : EV C (.Constant .none k pos) Q E σ := fun _ R => wpAny_Constant_none ⟨.none, σ, Is.none, R, h⟩
theorem r_bool {b : Bool} {k : Nat} {pos : Pos} {Q : MV → MS → Prop} (h : Q (.bool b) σ) : EV C (.Constant (.bool b) k pos) Q E σ := fun _ R => wpAny_Constant_bool ⟨.bool b, σ, Is.bool b, R, h⟩
noncomputable abbrev BIN (C : Cx) (op : Operator) (a b : MV) (Q : MV → MS → Prop) (E : Value → Shared → Prop) (σ : MS) : Prop := ∀ a' b', Is a' a → Is b' b → AW C IsV (binaryOp op a' b') Q E σ
noncomputable abbrev CMP (C : Cx) (op : CmpOp) (a b : MV) (Q : MV → MS → Prop) (E : Value → Shared → Prop) (σ : MS) : Prop := ∀ a' b', Is a' a → Is b' b → AW C IsV (compareOp op a' b') Q E σ
noncomputable abbrev TRU (C : Cx) (a : MV) (Q : Bool → MS → Prop) (E : Value → Shared → Prop) (σ : MS) : Prop := ∀ a', Is a' a → AW C Eq (truthy a') Q E σ
theorem r_binop {l r : PySem.Expr} {op : Operator} {pos : Pos} {Q : MV → MS → Prop} (h : EV C l (fun a σ₁ => EV C r (fun b σ₂ => BIN C op a b Q E σ₂) E σ₁) E σ) : EV C (.BinOp l op r pos) Q E σ := fun s R =>
  wpAny_BinOp (wpAny_mono (h s R) (fun a s₁ post_ => post_.out fun _ _ ia R₁ k => wpAny_mono (k s₁ R₁) (fun b s₂ post_ => post_.out fun _ _ ib R₂ k₂ => k₂ a b ia ib s₂ R₂) fun _ _ e => e) fun _ _ e => e)
theorem r_compare {l r : PySem.Expr} {op : CmpOp} {pos : Pos} {Q : MV → MS → Prop} (h : EV C l (fun a σ₁ => EV C r (fun b σ₂ => CMP C op a b Q E σ₂) E σ₁) E σ) (hb : behindInMarks op r = false := by rfl) : EV C (.Compare l [op] [r] pos) Q E σ := fun s R =>
  wpAny_Compare1 (wpAny_mono (h s R) (fun a s₁ post_ => post_.out fun _ _ ia R₁ k => wpAny_mono (k s₁ R₁) (fun b s₂ post_ => post_.out fun _ _ ib R₂ k₂ => k₂ a b ia ib s₂ R₂) fun _ _ e => e) fun _ _ e => e) hb
theorem t_compare {l r : PySem.Expr} {op : CmpOp} {pos : Pos} {Q : Bool → MS → Prop} (h : EV C l (fun a σ₁ => EV C r (fun b σ₂ => CMP C op a b (fun c σ₃ => TRU C c Q E σ₃) E σ₂) E σ₁) E σ) (hb : behindInMarks op r = false := by rfl) :
    TR C (.Compare l [op] [r] pos) Q E σ := fun s R =>
  wpAny_isTrue_Compare1 (wpAny_mono (h s R) (fun a s₁ post_ => post_.out fun _ _ ia R₁ k => wpAny_mono (k s₁ R₁) (fun b s₂ post_ => post_.out fun _ _ ib R₂ k₂ => wpAny_mono (k₂ a b ia ib s₂ R₂) (fun c s₃ post_ => post_.out fun _ _ ic R₃ k₃ => k₃ c ic s₃ R₃) fun _ _ e => e) fun _ _ e => e) fun _ _ e => e) hb
theorem t_value {e : PySem.Expr} {Q : Bool → MS → Prop} (h : EV C e (fun v σ' => TRU C v Q E σ') E σ)
    (he : PySem.isTrue e C.env (eval e C.env) = (do let v ← eval e C.env; standAt e.pos; holding [v] (truthy v)) := by rfl) : TR C e Q E σ := fun s R =>
  wpAny_isTrue_value (wpAny_mono (h s R) (fun v s₁ post_ => post_.out fun _ _ i R₁ k => k v i s₁ R₁) fun _ _ e => e) he
theorem u_bool {b : Bool} {Q : Bool → MS → Prop} (h : Q b σ) : TRU C (.bool b) Q E σ := fun _ i _ R => by
  cases i.of_bool; exact wpAny_truthy_bool ⟨b, σ, rfl, R, h⟩
theorem u_list {a : Addr} {xs : List MV} {Q : Bool → MS → Prop} (hx : Has a (.list xs) σ.led) (hz : xs.length ≤ 1000000) (h : Q (!xs.isEmpty) σ) : TRU C (.ref a) Q E σ := fun _ i s R => by
  cases i.of_ref
  obtain ⟨ob, ho, vs, n, ha, rfl⟩ := R.at hx
  have hl := ha.length
  refine wpAny_truthy_list (items := vs.toArray) ⟨_, ho, rfl, n, rfl⟩ (by simp; omega) ⟨!xs.isEmpty, σ, ?_, R.toks _, h⟩
  cases ha with
  | nil => rfl
  | cons => simp
theorem b_add {a b : Int} {Q : MV → MS → Prop} (h : Q (.int (a + b)) σ) : BIN C .Add (.int a) (.int b) Q E σ := fun _ _ ⟨_, e1⟩ ⟨_, e2⟩ _ R => by cases e1; cases e2; exact add_int ⟨_, σ, Is.int _ _, R.toks _, h⟩
theorem b_mod {a b : Int} {Q : MV → MS → Prop} (hb : b ≠ 0) (h : Q (.int (a.fmod b)) σ) : BIN C .Mod (.int a) (.int b) Q E σ := fun _ _ ⟨_, e1⟩ ⟨_, e2⟩ _ R => by cases e1; cases e2; exact mod_int' hb ⟨_, σ, Is.int _ _, R.toks _, h⟩
theorem c_eq {a b : Int} {Q : MV → MS → Prop} (h : Q (.bool (a == b)) σ) : CMP C .Eq (.int a) (.int b) Q E σ := fun _ _ ⟨_, e1⟩ ⟨_, e2⟩ _ R => by cases e1; cases e2; exact eq_int ⟨_, σ, Is.bool _, R, h⟩
theorem c_ne {a b : Int} {Q : MV → MS → Prop} (h : Q (.bool (a != b)) σ) : CMP C .NotEq (.int a) (.int b) Q E σ := fun _ _ ⟨_, e1⟩ ⟨_, e2⟩ _ R => by cases e1; cases e2; exact ne_int ⟨_, σ, Is.bool _, R, h⟩
theorem c_lt {a b : Int} {Q : MV → MS → Prop} (h : Q (.bool (decide (a < b))) σ) : CMP C .Lt (.int a) (.int b) Q E σ := fun _ _ ⟨_, e1⟩ ⟨_, e2⟩ _ R => by cases e1; cases e2; exact lt_int ⟨_, σ, Is.bool _, R, h⟩
theorem c_gt {a b : Int} {Q : MV → MS → Prop} (h : Q (.bool (decide (b < a))) σ) : CMP C .Gt (.int a) (.int b) Q E σ := fun _ _ ⟨_, e1⟩ ⟨_, e2⟩ _ R => by cases e1; cases e2; exact gt_int ⟨_, σ, Is.bool _, R, h⟩
theorem c_ge {a b : Int} {Q : MV → MS → Prop} (h : Q (.bool (decide (b ≤ a))) σ) : CMP C .GtE (.int a) (.int b) Q E σ := fun _ _ ⟨_, e1⟩ ⟨_, e2⟩ _ R => by cases e1; cases e2; exact ge_int ⟨_, σ, Is.bool _, R, h⟩
/- displays and arguments -/
noncomputable abbrev SPL (C : Cx) (pos : Pos) (es : List PySem.Expr) (Q : List MV → MS → Prop) (E : Value → Shared → Prop) (σ : MS) : Prop := AW C (fun ms vs => Are vs ms) (spliced (backTo pos (starEach es C.env))) Q E σ
theorem p_nil {pos : Pos} {Q : List MV → MS → Prop} (h : Q [] σ) : SPL C pos [] Q E σ := fun _ R => wpAny_items_nil ⟨[], σ, .nil, R, h⟩
theorem p_cons {pos : Pos} {e : PySem.Expr} {rest : List PySem.Expr} {Q : List MV → MS → Prop} (h : EV C e (fun v σ₁ => SPL C pos rest (fun vs σ₂ => Q (v :: vs) σ₂) E σ₁) E σ)
    (he : starEach (e :: rest) C.env = (false, eval e C.env) :: starEach rest C.env := by rfl) : SPL C pos (e :: rest) Q E σ := fun s R =>
  wpAny_items_cons (wpAny_mono (h s R) (fun v s₁ post_ => post_.out fun m _ i R₁ k => wpAny_mono (k s₁ R₁) (fun vs s₂ post_ => post_.out fun ms σ₂ is R₂ k₂ => ⟨m :: ms, σ₂, .cons i is, R₂, k₂⟩) fun _ _ e => e) fun _ _ e => e) he
theorem r_tuple {elts : List PySem.Expr} {k : Nat} {pos : Pos} {Q : MV → MS → Prop} (h : SPL C pos elts (fun vs σ₁ => vs.length ≤ 1000000 ∧ ∀ a, Q (.ref a) ⟨σ₁.loc, (a, .tup vs) :: σ₁.led⟩) E σ) : EV C (.Tuple elts k pos) Q E σ := fun s R =>
  wpAny_Tuple (wpAny_mono (h s R) (fun vs s₁ ⟨ms, σ₁, i, R₁, hz, q⟩ => ⟨by have := i.length; simp only [sizeLine]; omega, .ref s₁.heap.objs.size, _, Is.ref _, R₁.alloc (.tup ms) ⟨vs, 0, i, rfl⟩ rfl, q _⟩) fun _ _ e => e)
theorem r_list {elts : List PySem.Expr} {pos : Pos} {Q : MV → MS → Prop} (h : SPL C pos elts (fun vs σ₁ => vs.length ≤ 1000000 ∧ ∀ a, Q (.ref a) ⟨σ₁.loc, (a, .list vs) :: σ₁.led⟩) E σ) : EV C (.List elts pos) Q E σ := fun s R =>
  wpAny_List (wpAny_mono (h s R) (fun vs s₁ ⟨ms, σ₁, i, R₁, hz, q⟩ => ⟨by have := i.length; simp only [sizeLine]; omega, .ref s₁.heap.objs.size, _, Is.ref _, R₁.alloc (.list ms) ⟨vs, 0, i, rfl⟩ rfl, q _⟩) fun _ _ e => e)
end
section
variable {C : Cx} {σ : MS} {E : Value → Shared → Prop} {gl : List (Str × MV)} {names : List (Str × NameKind)} {cells : List (Str × Addr)}
noncomputable abbrev CALLB (C : Cx) (id : String) (vs : List MV) (Q : MV → MS → Prop) (E : Value → Shared → Prop) (σ : MS) : Prop := ∀ vs', Are vs' vs → AW C IsV (call (.builtin id) vs') Q E σ
noncomputable def OfT (C : Cx) (σ : MS) (v : MV) (T : String) : Prop := ∀ s, Rel C σ s → ∀ v', Is v' v → s.TypeIs v' T ∧ ∀ a, v' = .ref a → ∃ ob, s.heap.get? a = some ob ∧ ob.dict = none
theorem OfT.list {a : Addr} {xs : List MV} (h : Has a (.list xs) σ.led) : OfT C σ (.ref a) "list" := fun s R v' i => by
  cases i.of_ref
  obtain ⟨ob, ho, vs, n, _, rfl⟩ := R.at h
  exact ⟨⟨_, ho, rfl⟩, fun a e => by cases e; exact ⟨_, ho, rfl⟩⟩
theorem evalArgs_spl {M : Model} {A : Around} {E : Value → Shared → Prop} {s : Shared} {f : Value} {pos : Pos} {args : List PySem.Expr} {env : Env} {Q : Args → Shared → Prop} (hn : (starEach args env).any (·.1) = false)
    (h : wpAny M A (spliced (backTo pos (starEach args env))) (fun vs s' => Q ⟨vs, []⟩ s') E s) : wpAny M A (evalArgs f true (backTo pos (starEach args env)) []) Q E s := by
  cases hh : starEach args env with
  | nil =>
    rw [hh] at h
    exact fun Γ p hΓ => PyProof.Rows.evalArgs_none (Q := Q) (s := s) (h Γ p hΓ) Γ p hΓ
  | cons p r =>
    obtain ⟨b, x⟩ := p
    rw [hh] at h hn
    cases b with
    | true => simp at hn
    | false => exact Calls.evalArgs_plain h
theorem backTo_any {pos : Pos} {l : List (Bool × Sem Value)} : (backTo pos l).any (·.1) = l.any (·.1) := by
  unfold backTo
  induction l with
  | nil => rfl
  | cons p r ih => simp only [List.map_cons, List.any_cons, ih]
theorem r_meth {T : String} {o : PySem.Expr} {name : Str} {id : String} {apos pos : Pos} {args : List PySem.Expr} {Q : MV → MS → Prop} (pa : PlainAttrs T) (sl : Slot T name id) (ty : typeOf (.builtin id) = pure (.type "method_descriptor"))
    (h : EV C o (fun ov σ₁ => OfT C σ₁ ov T ∧ SPL C pos args (fun vs σ₂ => CALLB C id (ov :: vs) Q E σ₂) E σ₁) E σ)
    (ha : attributeBase o name C.env (eval o C.env) = eval o C.env := by rfl)
    (hf : methodCallForm args.length (backTo pos (starEach args C.env)) [] = true := by rfl)
    (hp : (apos.endLine == pos.line) = true := by rfl) (hn : (starEach args C.env).any (·.1) = false := by rfl) :
    EV C (.Call (.Attribute o name apos) args [] pos) Q E σ := fun s R => by
  refine wpAny_Call_method ha (by exact hf) hp pa sl ty (wpAny_mono (h s R) (fun ov s₁ ⟨m, σ₁, i, R₁, ht, k⟩ => ?_) fun _ _ e => e)
  refine ⟨(ht s₁ R₁ ov i).1, (ht s₁ R₁ ov i).2, ?_⟩
  refine Calls.callWith_builtin (by rw [backTo_any]; exact hn) (evalArgs_spl hn ?_)
  exact wpAny_mono (k s₁ R₁) (fun vs s₂ post_ => post_.out fun ms σ₂ is R₂ k₂ => k₂ _ (.cons i is) s₂ R₂) fun _ _ e => e
theorem IsL_of (s : Shared) {a : Addr} {vs : List Value} {n : Nat} (h : s.heap.get? a = some { cls := .type "list", data := .seq vs.toArray n }) : s.TypeIs (.ref a) "list" := ⟨_, h, rfl⟩
theorem list_upd {h : Heap} {a : Addr} {vs vs' : List Value} {n : Nat} {f : Array Value → Array Value} (ho : h.get? a = some { cls := .type "list", data := .seq vs.toArray n }) (hf : f vs.toArray = vs'.toArray) :
    ∃ n', (h.update a (Obj.mapSeq f)).get? a = some { cls := .type "list", data := .seq vs'.toArray n' } ∧ Heap.SameBut a h (h.update a (Obj.mapSeq f)) := by
  have e : Obj.mapSeq f { cls := .type "list", data := .seq vs.toArray n } = { cls := .type "list", data := .seq vs'.toArray (if vs'.toArray.size == vs.toArray.size then n else n + 1) } := by
    simp only [Obj.mapSeq, hf]
  exact ⟨(if vs'.toArray.size == vs.toArray.size then n else n + 1), by rw [Heap.get?_update_self _ ho (by rw [e]; rfl), e], Heap.SameBut.update ..⟩
theorem k_append {a : Addr} {xs : List MV} {v : MV} {led' : List (Addr × MO)} {Q : MV → MS → Prop} (U : Upd a (.list xs) (.list (xs ++ [v])) σ.led led') (hz : xs.length ≤ 1000000) (h : Q .none ⟨σ.loc, led'⟩) :
    CALLB C "list.append" [.ref a, v] Q E σ := fun vs' i s R => by
  cases i with
  | cons i0 i1 => cases i0.of_ref; cases i1 with
    | cons i1 i2 => cases i2; rename_i v'; exact (by
        obtain ⟨⟨ob, ho, vs, n, ha, rfl⟩, _⟩ := R.led _ U.mem
        have hl := ha.length
        refine call_meets F.slot_list_append (IsL_of s ho) F.entry_list_append (F.args_list_append_2 _ _) (list_append a vs.toArray n v' (by simp [sizeLine]; omega)) ⟨ho, ?_⟩
        obtain ⟨n', hg, hs⟩ := list_upd (f := fun xs => xs.push v') (vs' := vs ++ [v']) ho (by simp)
        exact ⟨.none, _, Is.none, R.upd U hs hg ⟨_, n', ha.append (.cons i1 .nil), rfl⟩, h⟩)
theorem k_pop {a : Addr} {xs : List MV} {v : MV} {led' : List (Addr × MO)} {Q : MV → MS → Prop} (U : Upd a (.list (xs ++ [v])) (.list xs) σ.led led') (hz : xs.length ≤ 1000000) (h : Q v ⟨σ.loc, led'⟩) :
    CALLB C "list.pop" [.ref a] Q E σ := fun vs' i s R => by
  cases i with
  | cons i0 i1 => cases i0.of_ref; cases i1; exact (by
        obtain ⟨⟨ob, ho, vs, n, ha, rfl⟩, _⟩ := R.led _ U.mem
        have hl := ha.length
        simp at hl
        obtain ⟨y, hy, iy⟩ := ha.get (i := xs.length) (m := v) (by simp)
        have hsz : vs.toArray.size - 1 = xs.length := by simp; omega
        refine call_meets F.slot_list_pop (IsL_of s ho) F.entry_list_pop (F.args_list_pop_1 _) (list_pop_last a vs.toArray n y (by rw [hsz]; simpa using hy) (by simp [sizeLine]; omega)) ⟨ho, ?_⟩
        have e : (vs.toArray.eraseIdxIfInBounds (vs.toArray.size - 1)) = (vs.take xs.length).toArray := by
          rw [hsz]
          rw [List.eraseIdxIfInBounds_toArray]
          congr 1
          rw [List.eraseIdx_eq_take_drop_succ, List.drop_eq_nil_of_le (by omega), List.append_nil]
        obtain ⟨n', hg, hs⟩ := list_upd (f := fun xs => xs.eraseIdxIfInBounds (vs.toArray.size - 1)) (vs' := vs.take xs.length) ho e
        have ht := ha.take xs.length
        rw [List.take_left] at ht
        exact ⟨v, _, iy, R.upd U hs hg ⟨_, n', ht, rfl⟩, h⟩)
end
section
variable {C : Cx} {σ : MS} {s : Shared} {E : Value → Shared → Prop} {gl : List (Str × MV)} {names : List (Str × NameKind)} {cells : List (Str × Addr)}
structure Off (C : Cx) (σ : MS) (a : Addr) : Prop where
  new : C.hb.get? a = none
  here : a ≠ C.L
  outs : ∀ p ∈ C.outs, p.1 ≠ a
  led : ∀ p ∈ σ.led, p.1 ≠ a
theorem Off.of_none (R : Rel C σ s) {a : Addr} (h : s.heap.get? a = none) : Off C σ a := by
  refine ⟨?_, fun e => ?_, fun p hp e => ?_, fun p hp e => ?_⟩
  · cases q : C.hb.get? a with
    | none => rfl
    | some o => rw [R.keep _ _ q] at h; cases h
  · obtain ⟨o, ho⟩ := R.here.there
    rw [← e, h] at ho; cases ho
  · obtain ⟨o, ho⟩ := (R.outs p hp).1.there
    rw [e, h] at ho; cases ho
  · obtain ⟨o, ho, _⟩ := (R.led p hp).1
    rw [e, h] at ho; cases ho
theorem Rel.off (R : Rel C σ s) {h' : Heap} (k : ∀ b o, ¬ Off C σ b → s.heap.get? b = some o → h'.get? b = some o) (t : Nat := s.toks) : Rel C σ { s with heap := h', toks := t } where
  keep b o e := k b o (fun x => by rw [x.new] at e; cases e) (R.keep b o e)
  here := R.here.keeps fun o => k _ o fun x => x.here rfl
  hereNew := R.hereNew
  lnd := R.lnd
  outs p hp := ⟨(R.outs p hp).1.keeps fun o => k _ o fun x => x.outs p hp rfl, (R.outs p hp).2⟩
  led p hp := ⟨let ⟨ob, a, b⟩ := (R.led p hp).1; ⟨ob, k _ _ (fun x => x.led p hp rfl) a, b⟩, (R.led p hp).2⟩
  nd := R.nd
  gens := R.gens
  os := R.os
theorem Rel.same_off (R : Rel C σ s) {a : Addr} (o : Off C σ a) {h' : Heap} (hs : ∀ b, b ≠ a → h'.get? b = s.heap.get? b) (t : Nat := s.toks) : Rel C σ { s with heap := h', toks := t } :=
  R.off (fun b x nb e => (hs b fun q => nb (q ▸ o)).trans e) t
theorem NsIs.slots {h h' : Heap} {L : Addr} {loc : Loc} (x : NsIs h L loc) (k : ∀ o, h.get? L = some o → ∃ sl, h'.get? L = some { o with slots := sl }) : NsIs h' L loc := by
  obtain ⟨m, ⟨o, es, ep, h1, h2, r⟩, hm⟩ := x
  obtain ⟨sl, e⟩ := k o h1
  exact ⟨m, ⟨_, es, ep, e, h2, r⟩, hm⟩
theorem Rel.slots (R : Rel C σ s) {S : List Addr} {h' : Heap} (hs : Heap.SlotsOnly S s.heap h') (hS : ∀ f ∈ S, f = C.L ∨ ∃ p ∈ C.outs, p.1 = f) : Rel C σ { s with heap := h' } where
  keep b o e := by
    refine (hs.2.1 b fun hm => ?_).trans (R.keep b o e)
    rcases hS b hm with rfl | ⟨p, hp, rfl⟩
    · rw [R.hereNew] at e; cases e
    · rw [(R.outs p hp).2.1] at e; cases e
  here := R.here.slots fun o e => hs.2.2 _ _ e
  hereNew := R.hereNew
  lnd := R.lnd
  outs p hp := ⟨(R.outs p hp).1.slots fun o e => hs.2.2 _ _ e, (R.outs p hp).2⟩
  led p hp := by
    obtain ⟨⟨ob, a, b⟩, c1, c2, c3⟩ := R.led p hp
    refine ⟨⟨ob, (hs.2.1 p.1 fun hm => ?_).trans a, b⟩, c1, c2, c3⟩
    rcases hS _ hm with e | ⟨q, hq, e⟩
    · exact c2 e
    · exact c3 q hq e
  nd := R.nd
  gens := R.gens
  os := R.os
theorem Rel.funFrames (R : Rel C σ s) : ∀ {fs : List Env}, (∀ e' ∈ fs, e'.scope.kind ≠ .module ∧ ∃ f, e'.frame = some f ∧ (f = C.L ∨ ∃ p ∈ C.outs, p.1 = f)) → s.heap.FunFrames C.hb fs
  | [], _ => trivial
  | e :: fs, h => by
    obtain ⟨k, f, hf, w⟩ := h e (.head _)
    have nd : ∀ {L : Addr} {loc : Loc}, NsIs s.heap L loc → ∃ o, s.heap.get? L = some o ∧ ∀ vs, o.data ≠ .fields vs := fun x => by
      obtain ⟨m, ⟨o, es, ep, h1, h2, r⟩, hm⟩ := x
      exact ⟨o, h1, fun vs e => by rw [h2] at e; cases e⟩
    refine ⟨k, ?_, R.funFrames fun e' he => h e' (.tail _ he)⟩
    rcases w with rfl | ⟨p, hp, rfl⟩
    · obtain ⟨o, h1, h2⟩ := nd R.here
      exact ⟨_, o, hf, R.hereNew, h1, h2⟩
    · obtain ⟨o, h1, h2⟩ := nd (R.outs p hp).1
      exact ⟨_, o, hf, (R.outs p hp).2.1, h1, h2⟩
structure ExcAt (C : Cx) (σ : MS) (a : Addr) (cls : Value) (traced : Bool) (s : Shared) : Prop where
  rel : Rel C σ s
  off : Off C σ a
  at_ : ∃ oe vs, s.heap.get? a = some oe ∧ oe.cls = cls ∧ oe.data = .fields vs ∧
    ((traced = false ∧ vs[1]? = some .none) ∨ ∃ T oT ts, vs[1]? = some (.ref T) ∧ T ≠ a ∧ Off C σ T ∧ s.heap.get? T = some oT ∧ oT.data = .fields ts ∧ 3 < ts.size)
theorem setAt_data {h : Heap} {a : Addr} {o : Obj} {vs : Array Value} {i : Nat} {x : Value} (ho : h.get? a = some o) (hd : o.data = .fields vs) :
    (h.update a (Obj.mapFields fun v => v.setIfInBounds i x)).get? a = some (Obj.mapFields (fun v => v.setIfInBounds i x) o) ∧ (Obj.mapFields (fun v => v.setIfInBounds i x) o).data = .fields (vs.setIfInBounds i x) := by
  have hd' := Obj.data_mapFields hd (fun v => v.setIfInBounds i x)
  exact ⟨Heap.get?_update_self _ ho (Obj.isFreed_of_fields hd'), hd'⟩
theorem x_flight {tr : Bool} {a : Addr} {cls : Value} {fr : Option Addr} {M : Model} {A : Around} {Q : Unit → Shared → Prop} (X : ExcAt C σ a cls tr s) (h : ∀ s', ExcAt C σ a cls tr s' → Q () s') : wpAny M A (setFlight (.ref a) fr) Q E s := by
  obtain ⟨R, off, oe, vs, he, hc, hd, ht⟩ := X
  unfold setFlight
  rcases ht with ⟨ht, h1⟩ | ⟨T, oT, ts, h1, ne, offT, hT, hdT, h3⟩
  · refine wpAny_bind (wpAny_field he hd h1 ?_)
    rw [if_neg (by decide)]
    exact wpAny_pure (h s ⟨R, off, oe, vs, he, hc, hd, .inl ⟨ht, h1⟩⟩)
  · refine wpAny_bind (wpAny_field he hd h1 ?_)
    rw [if_pos (show (Value.ref T != Value.none) = true from by simp)]
    refine wpAny_setField hT hdT h3 (h _ ?_)
    have hs : ∀ b, b ≠ T → (s.heap.update T (Obj.mapFields fun v => v.setIfInBounds 3 (fr.elim Value.none fun f => rawInt f))).get? b = s.heap.get? b := fun b hb => Heap.get?_update_other _ _ (Ne.symm hb)
    obtain ⟨g1, g2⟩ := setAt_data (i := 3) (x := fr.elim Value.none fun f => rawInt f) hT hdT
    exact ⟨R.same_off offT hs, off, oe, vs, (hs a (Ne.symm ne)).trans he, hc, hd, .inr ⟨T, _, _, h1, ne, offT, g1, g2, by simpa using h3⟩⟩
theorem x_note {tr : Bool} {a : Addr} {cls : Value} {A : Around} {Q : Unit → Shared → Prop} (O : C.Ok gl names cells) (hA : A.frames = C.A.frames) (X : ExcAt C σ a cls tr s) (h : ∀ s', ExcAt C σ a cls true s' → Q () s') :
    wpAny (model C.prog C.w) A (noteFrame (.ref a) C.env) Q E s := by
  obtain ⟨R, off, oe, vs, he, hc, hd, ht⟩ := X
  obtain ⟨e₀, fs, hfr, hef, hall⟩ := O.frames
  obtain ⟨_, f₀, hf₀, _⟩ := hall e₀ (.head _)
  have hf : C.env.frame = some f₀ := hef ▸ hf₀
  -- from the entry on
  have entry : ∀ (head : Value) (s₁ : Shared) (oe : Obj) (vs : Array Value), Rel C σ s₁ → s₁.heap.get? a = some oe → oe.cls = cls → oe.data = .fields vs → 1 < vs.size →
      wpAny (model C.prog C.w) A (do let fr ← PySem.frameOf C.env; let pl ← entryPlaceOf f₀ (head != .none); let t ← EntryCells.newEntry head fr .none (rawInt f₀) .none pl; setField (.ref a) 1 t) Q E s₁ := by
    intro head s₁ oe vs R₁ he₁ hc hd hsz
    have key : ∀ {Q' : Value → Shared → Prop}, (∀ h', Heap.SlotsOnly ((e₀ :: fs).filterMap (·.frame)) s₁.heap h' → Q' (.ref f₀) { s₁ with heap := h' }) → wpAny (model C.prog C.w) A (PySem.frameOf C.env) Q' E s₁ := by
      intro Q' hq
      unfold PySem.frameOf
      refine wpAny_bind (wpAny_frameEnvs (hA.trans hfr) ?_)
      have hdw : ((e₀ :: fs).dropWhile fun x => x.frame != C.env.frame) = e₀ :: fs := by simp [List.dropWhile, hef]
      rw [hdw]
      unfold frameObject
      refine wpAny_bind (wpAny_bind (wpAny_readyFrames_fun (R₁.funFrames hall) fun h₁ hs₁ => wpAny_pure ?_))
      rw [hf₀]
      exact wpAny_pure (hq h₁ hs₁)
    refine wpAny_bind (key fun h₁ hs₁ => ?_)
    have hS : ∀ f ∈ (e₀ :: fs).filterMap (·.frame), f = C.L ∨ ∃ p ∈ C.outs, p.1 = f := fun f hm => by
      obtain ⟨e', he', hf'⟩ := List.mem_filterMap.mp hm
      obtain ⟨_, f'', h2, h3⟩ := hall e' he'
      rw [hf'] at h2; cases h2; exact h3
    have R₂ := R₁.slots hs₁ hS
    have he₂ : h₁.get? a = some oe := (hs₁.2.1 a fun hm => by
      rcases hS a hm with e | ⟨p, hp, e⟩
      · exact off.here e
      · exact off.outs p hp e).trans he₁
    refine wpAny_bind (wpAny_entryPlaceOf fun pl hpl => ?_)
    unfold EntryCells.newEntry newFields
    refine wpAny_bind (wpAny_newObj_type ?_ (hpl.sizeOk5 _ _ _ _ _))
    generalize hob : ({ cls := .type "traceback", dict := none, data := .fields ([head, .ref f₀, .none, rawInt f₀, .none] ++ (if pl.isEmpty then List.replicate 6 Value.none else pl)).toArray } : Obj) = ob
    have hobd : ob.data = .fields ([head, .ref f₀, .none, rawInt f₀, .none] ++ (if pl.isEmpty then List.replicate 6 Value.none else pl)).toArray := by rw [← hob]
    have he₃ := Heap.get?_push_of_some (h := h₁) ob he₂
    have hT : (h₁.push ob).get? h₁.objs.size = some ob := Heap.get?_push_size _ (by rw [← hob]; rfl)
    have hTn : h₁.get? h₁.objs.size = none := by
      cases q : h₁.get? h₁.objs.size with
      | none => rfl
      | some o => exact absurd (Heap.lt_size q) (Nat.lt_irrefl _)
    have offT : Off C σ h₁.objs.size := Off.of_none (s := { s₁ with heap := h₁ }) R₂ hTn
    have neT : h₁.objs.size ≠ a := Nat.ne_of_gt (Heap.lt_size he₂)
    have R₃ : Rel C σ { s₁ with heap := h₁.push ob } := Rel.ext (s := { s₁ with heap := h₁ }) R₂ (h' := h₁.push ob) (fun b x e => Heap.get?_push_of_some _ e) s₁.toks
    refine wpAny_setField he₃ hd hsz (h _ ?_)
    have hs : ∀ b, b ≠ a → ((h₁.push ob).update a (Obj.mapFields fun v => v.setIfInBounds 1 (Value.ref h₁.objs.size))).get? b = (h₁.push ob).get? b := fun b hb => Heap.get?_update_other _ _ (Ne.symm hb)
    obtain ⟨g1, g2⟩ := setAt_data (i := 1) (x := Value.ref h₁.objs.size) he₃ hd
    refine ⟨Rel.same_off (s := { s₁ with heap := h₁.push ob }) R₃ off hs, off, _, _, g1, ?_, g2, .inr ⟨h₁.objs.size, ob, _, ?_, neT, offT, (hs _ neT).trans hT, hobd, ?_⟩⟩
    · rw [← hc]; exact Obj.cls_mapFields _ _
    · simp [hsz]
    · simp only [List.size_toArray, List.length_append, List.length_cons, List.length_nil]; omega
  unfold noteFrame
  simp only [hf]
  rcases ht with ⟨ht, h1⟩ | ⟨T, oT, ts, h1, ne, offT, hT, hdT, h3⟩
  · refine wpAny_bind (wpAny_field he hd h1 ?_)
    rw [if_neg (by decide)]
    exact entry .none s oe vs R he hc hd (Array.getElem?_eq_some_iff.mp h1).1
  · refine wpAny_bind (wpAny_field he hd h1 ?_)
    rw [if_pos (show (Value.ref T != Value.none) = true from by simp)]
    obtain ⟨x3, hx3⟩ : ∃ x, ts[3]? = some x := ⟨ts[3], by simp [h3]⟩
    refine wpAny_bind (wpAny_field hT hdT hx3 ?_)
    by_cases hq : (x3 == rawInt f₀) = true
    · rw [if_pos hq]
      exact wpAny_pure (h s ⟨R, off, oe, vs, he, hc, hd, .inr ⟨T, oT, ts, h1, ne, offT, hT, hdT, h3⟩⟩)
    · rw [if_neg hq]
      refine wpAny_bind (wpAny_setField hT hdT h3 ?_)
      have hs : ∀ b, b ≠ T → (s.heap.update T (Obj.mapFields fun v => v.setIfInBounds 3 Value.none)).get? b = s.heap.get? b := fun b hb => Heap.get?_update_other _ _ (Ne.symm hb)
      exact entry (.ref T) _ oe vs (R.same_off offT hs) ((hs a (Ne.symm ne)).trans he) hc hd (Array.getElem?_eq_some_iff.mp h1).1
end
section
variable {C : Cx} {σ : MS} {s : Shared} {E : Value → Shared → Prop} {gl : List (Str × MV)} {names : List (Str × NameKind)} {cells : List (Str × Addr)}
inductive EXC (C : Cx) (X : Addr → Value → MS → Prop) (e : Value) (s : Shared) : Prop where
  | mk (a : Addr) (cls : Value) (tr : Bool) (σ' : MS) (he : e = .ref a) (x : ExcAt C σ' a cls tr s) (hx : X a cls σ')
theorem EXC.out {C : Cx} {X : Addr → Value → MS → Prop} {e : Value} {s : Shared} {P : Prop} (h : EXC C X e s) (f : ∀ a cls tr σ', e = .ref a → ExcAt C σ' a cls tr s → X a cls σ' → P) : P := by
  cases h with
  | mk a cls tr σ' he x hx => exact f a cls tr σ' he x hx
theorem x_came {a : Addr} {cls : Value} {Q : Value → Shared → Prop} (X : ExcAt C σ a cls true s) (h : ∀ s', ExcAt C σ a cls true s' → Q (.ref a) s') : cameBackBy (model C.prog C.w) C.A C.env Q (.ref a) s := by
  have X' := X
  obtain ⟨R, off, oe, vs, he, hc, hd, ht⟩ := X
  rcases ht with ⟨q, _⟩ | ⟨T, oT, ts, h1, r⟩
  · cases q
  · unfold cameBackBy
    refine wpAny_bind (wpAny_field he hd h1 ?_)
    rw [if_neg (by simp)]
    exact x_flight X' fun s' x => h s' x
noncomputable def loopE (C : Cx) (E : Value → Shared → Prop) : Value → Shared → Prop := notedBy (model C.prog C.w) C.A C.env fun e s' => cameBackBy (model C.prog C.w) C.A C.env E e s'
theorem exc_loop (O : C.Ok gl names cells) {X : Addr → Value → MS → Prop} {e : Value} (h : EXC C X e s) : loopE C (EXC C X) e s := by
  obtain ⟨a, cls, tr, σ', rfl, x, hx⟩ := h
  refine x_note O rfl x fun s' x' => ?_
  exact x_came x' fun s'' x'' => ⟨a, cls, true, σ', rfl, x'', hx⟩
theorem r_while0 {test : PySem.Expr} {body orelse : List Stmt} {pos : Pos} {Q : MF → MS → Prop} (I : Nat → MS → Prop)
    (hI : ∀ n σ, I n σ → TR C test (fun b σ₁ => if b = true then EXS C body (fun f σ₂ => match f with | .next => ∃ m, m < n ∧ I m σ₂ | .cont => ∃ m, m < n ∧ I m σ₂ | .brk => Q .next σ₂ | .ret v => Q (.ret v) σ₂) (loopE C E) σ₁ else EXS C orelse Q (loopE C E) σ₁) (loopE C E) σ)
    (n : Nat) (h : I n σ) : EX C (.While test body orelse pos) Q E σ := fun s R => by
  refine wpAny_While (codeAny_whileLoop (fun n s => ∃ σ, I n σ ∧ Rel C σ s) (fun n s hn => ?_) n ⟨σ, h, R⟩)
  obtain ⟨σ, hi, R⟩ := hn
  refine wpAny_mono (hI n σ hi s R) (fun b s₁ post_ => post_.out fun b' σ₁ e R₁ k => ?_) fun _ _ e => e
  cases e
  cases b with
  | true =>
    refine wpAny_mono (k s₁ R₁) (fun f s₂ post_ => post_.out fun f' σ₂ i R₂ k₂ => ?_) fun _ _ e => e
    cases f' with
    | next => cases i; obtain ⟨m, hm, q⟩ := k₂; exact ⟨m, hm, σ₂, q, R₂⟩
    | cont => cases i; obtain ⟨m, hm, q⟩ := k₂; exact ⟨m, hm, σ₂, q, R₂⟩
    | brk => cases i; exact ⟨.next, σ₂, rfl, R₂, k₂⟩
    | ret v => obtain ⟨y, rfl, i⟩ := i; exact ⟨.ret v, σ₂, ⟨y, rfl, i⟩, R₂, k₂⟩
  | false =>
    refine wpAny_mono (k s₁ R₁) (fun f s₂ post_ => post_.out fun f' σ₂ i R₂ k₂ => ?_) fun _ _ e => e
    exact ⟨f', σ₂, i, R₂, k₂⟩
theorem r_while {test : PySem.Expr} {body orelse : List Stmt} {pos : Pos} {Q : MF → MS → Prop} (I : Nat → MS → Prop)
    (hI : ∀ n σ, I n σ → ∀ (QQ : MF → MS → Prop) (EE : Value → Shared → Prop), (∀ σ₂, (∃ m, m < n ∧ I m σ₂) → QQ .next σ₂ ∧ QQ .cont σ₂) → (∀ σ₂, Q .next σ₂ → QQ .brk σ₂) → (∀ r σ₂, Q (.ret r) σ₂ → QQ (.ret r) σ₂) → (∀ e s, loopE C E e s → EE e s) → TR C test (fun b σ₁ => if b = true then EXS C body QQ EE σ₁ else EXS C orelse Q EE σ₁) EE σ)
    (n : Nat) (h : I n σ) : EX C (.While test body orelse pos) Q E σ :=
  r_while0 I (fun n σ h => hI n σ h _ _ (fun _ h => ⟨h, h⟩) (fun _ h => h) (fun _ _ h => h) fun _ _ h => h) n h
noncomputable def Cx.mark (C : Cx) (a : Addr) : Cx := { C with A := C.A.mark (some (.ref a)) }
theorem Rel.mark {a : Addr} (R : Rel C σ s) : Rel (C.mark a) σ s := ⟨R.keep, R.here, R.hereNew, R.lnd, R.outs, R.led, R.nd, R.gens, R.os⟩
theorem Rel.unmark {a : Addr} (R : Rel (C.mark a) σ s) : Rel C σ s := ⟨R.keep, R.here, R.hereNew, R.lnd, R.outs, R.led, R.nd, R.gens, R.os⟩
theorem Cx.Ok.mark (O : C.Ok gl names cells) (a : Addr) : (C.mark a).Ok gl names cells := ⟨O.kin, O.nolimit, O.glob, O.kind, O.nm, O.nnd, O.dbg, O.cl, O.locals, O.globals, O.builtins, O.frames, O.depth, O.units⟩
noncomputable def Matches (C : Cx) (cls tv : Value) : Prop := ∀ {A : Around} {Q : Bool → Shared → Prop} {E : Value → Shared → Prop} {s : Shared} {a : Addr} {oe : Obj}, (∀ b o, C.hb.get? b = some o → s.heap.get? b = some o) → s.heap.get? a = some oe → oe.cls = cls → Q true s →
  wpAny (model C.prog C.w) A (excMatches (.ref a) tv) Q E s
theorem Matches.builtin {X T : String} (h1 : isSubtype (.type T) (.type "BaseException") = pure true) (h2 : isSubtype (.type ((Manifest.find? T).elim "type" fun x => x.metatype)) (.type "tuple") = pure false) (h3 : isSubtype (.type X) (.type T) = pure true) :
    Matches C (.type X) (.type T) := fun _ ho hc q => wpAny_excMatches_type ⟨_, ho, hc⟩ h1 h2 h3 q
theorem loadGlobal_ok (O : C.Ok gl names cells) {A : Around} {x : Str} {v : MV} {Q : Value → Shared → Prop} (R : Rel C σ s) (hv : Has x v gl) (h : ∀ v', Is v' v → Q v' s) : wpAny (model C.prog C.w) A (loadGlobal C.env x) Q E s := by
  obtain ⟨mg, mb, hg, hb, ha⟩ := O.glob
  obtain ⟨v', i, e⟩ := ha _ hv.mem
  have keepNs : ∀ {a : Addr} {m : Str → Option Value}, C.hb.Ns a m → s.heap.Ns a m := fun {a m} q => let ⟨o, es, ep, x, r⟩ := q; ⟨o, es, ep, R.keep _ _ x, r⟩
  rcases e with e | ⟨e1, e2⟩
  · exact loadGlobal_global (by rw [O.globals]; exact keepNs hg) e (h _ i)
  · exact loadGlobal_builtin (by rw [O.globals]; exact keepNs hg) e1 (by rw [O.builtins]; exact keepNs hb) e2 (h _ i)
theorem r_try (O : C.Ok gl names cells) {x : Str} {np hp pos : Pos} {b₀ : Stmt} {suite body orelse : List Stmt} {tv : MV} {cls : Value} {Q : MF → MS → Prop} (hk : Has x .globalImplicit names) (hv : Has x tv gl) (hm : ∀ tv', Is tv' tv → Matches C cls tv')
    (h : EXS C body (fun f σ₁ => match f with | .next => EXS C orelse Q E σ₁ | f => Q f σ₁) (EXC C fun a c σ₁ => c = cls ∧ ∀ E', EXS (C.mark a) (b₀ :: suite) Q E' σ₁) σ) :
    EX C (.Try body [.ExceptHandler (some (.Name x np)) none (b₀ :: suite) hp] orelse [] pos) Q E σ := fun s R => by
  refine wpAny_Try_except (wpAny_mono (h s R) (fun f s₁ post_ => post_.out fun f' σ₁ i R₁ k => ?_) fun e s₁ ⟨a, c, tr, σ₁, he, X, hc, hb⟩ => ?_)
  · cases f' with
    | next => cases i; exact k s₁ R₁
    | cont => cases i; exact ⟨.cont, σ₁, rfl, R₁, k⟩
    | brk => cases i; exact ⟨.brk, σ₁, rfl, R₁, k⟩
    | ret v => obtain ⟨y, rfl, i⟩ := i; exact ⟨.ret v, σ₁, ⟨y, rfl, i⟩, R₁, k⟩
  · subst he hc
    refine x_note O rfl X fun s₂ X₂ => x_flight X₂ fun s₃ X₃ => ?_
    refine wpAny_handleBy_cons (codeAny_handlers_test ?_) (by intro q; cases q)
    refine Name_function_global O.kind (O.kindOf hk) (loadGlobal_ok O X₃.rel hv fun v' i => ?_) (O.nodbg hk)
    obtain ⟨oe, vs, ho, hcl, _⟩ := X₃.at_
    refine hm v' i X₃.rel.keep ho hcl ?_
    refine codeAny_handlers_suite (x_flight X₃ fun s₄ X₄ => ?_)
    exact wpAny_mono (hb _ s₄ X₄.rel.mark) (fun f s₅ post_ => post_.out fun f' σ₅ i R₅ k => ⟨f', σ₅, i, R₅.unmark, k⟩) fun _ _ e => e
/- what a builtin raises -/
theorem exc_new {a : Addr} {cls : String} {s' : Shared} (R : Rel C σ s) (hn : s.heap.NewExc s'.heap a cls) (hg : s'.gens = s.gens) (ho : s'.os = s.os) : ExcAt C σ a (.type cls) false s' := by
  obtain ⟨ob, t, h1, h2, h3⟩ := hn.there
  refine ⟨?_, Off.of_none R hn.new, ob, _, h1, h2, h3, .inl ⟨rfl, rfl⟩⟩
  have := R.ext (h' := s'.heap) hn.keeps s'.toks
  obtain ⟨hh, g, d, t, o⟩ := s'
  exact ⟨this.keep, this.here, this.hereNew, this.lnd, this.outs, this.led, this.nd, hg.trans R.gens, ho.trans R.os⟩
end
section
variable {C : Cx} {σ : MS} {s : Shared} {E : Value → Shared → Prop} {gl : List (Str × MV)} {names : List (Str × NameKind)} {cells : List (Str × Addr)}
noncomputable def Cx.callee (C : Cx) (env : Env) (L : Addr) (loc : Loc) : Cx := { C with A := C.A.deeper env, env := env, L := L, outs := (C.L, loc) :: C.outs, lv := C.lv - 1 }
theorem Rel.enter (R : Rel C σ s) {env : Env} {h₁ : Heap} {m : Str → Option Value} {t : Nat} {loc : Loc} (hn : h₁.Ns s.heap.objs.size m) (hk : ∀ b o, s.heap.get? b = some o → h₁.get? b = some o) (hl : ∀ p ∈ loc, LocIs (m p.1) p.2) (hnd : (loc.map (·.1)).Nodup) :
    Rel (C.callee env s.heap.objs.size σ.loc) ⟨loc, σ.led⟩ { s with heap := h₁, toks := t } := by
  have R' := R.ext hk t
  refine ⟨R'.keep, ⟨m, hn, hl⟩, R.fresh, hnd, fun p hp => ?_, fun p hp => ?_, R.nd, R.gens, R.os⟩
  · rcases List.mem_cons.mp hp with rfl | hp
    · obtain ⟨o, ho⟩ := R.here.there
      exact ⟨R'.here, R.hereNew, Nat.ne_of_lt (Heap.lt_size ho)⟩
    · obtain ⟨o, ho⟩ := (R.outs p hp).1.there
      exact ⟨(R'.outs p hp).1, (R.outs p hp).2.1, Nat.ne_of_lt (Heap.lt_size ho)⟩
  · refine ⟨(R'.led p hp).1, (R.led p hp).2.1, Nat.ne_of_lt (R.lt p hp), fun q hq => ?_⟩
    rcases List.mem_cons.mp hq with rfl | hq
    · exact Ne.symm (R.led p hp).2.2.1
    · exact (R.led p hp).2.2.2 q hq
theorem Rel.leave {env : Env} {L : Addr} {σ' : MS} {s' : Shared} (R : Rel C σ s) (R' : Rel (C.callee env L σ.loc) σ' s') : Rel C ⟨σ.loc, σ'.led⟩ s' := by
  have h0 := R'.outs (C.L, σ.loc) (.head _)
  refine ⟨R'.keep, h0.1, R.hereNew, R.lnd, fun p hp => ⟨(R'.outs p (.tail _ hp)).1, (R.outs p hp).2⟩, fun p hp => ?_, R'.nd, R'.gens, R'.os⟩
  have := R'.led p hp
  exact ⟨this.1, this.2.1, Ne.symm (this.2.2.2 (C.L, σ.loc) (.head _)), fun q hq => this.2.2.2 q (.tail _ hq)⟩
noncomputable def retOf : MF → MV
  | .ret v => v
  | _ => .none
theorem erase_idx : ∀ (ns : List Int) (x : Int), ns.erase x = ns.eraseIdx (ns.idxOf x)
  | [], _ => rfl
  | y :: r, x => by
    rw [List.erase_cons, List.idxOf_cons]
    by_cases h : (y == x) = true
    · simp [h]
    · simp [h, erase_idx r x]
theorem k_remove {a : Addr} {ns : List Int} {x : Int} {led' : List (Addr × MO)} {X : Addr → Value → MS → Prop} {Q : MV → MS → Prop} (hh : C.A.handled = none) (hx : Has a (.list (ns.map .int)) σ.led)
    (U : x ∈ ns → Upd a (.list (ns.map .int)) (.list ((ns.erase x).map .int)) σ.led led') (hz : ns.length ≤ 1000000) (h1 : x ∈ ns → Q .none ⟨σ.loc, led'⟩) (h2 : x ∉ ns → ∀ e, X e (.type "ValueError") σ) :
    CALLB C "list.remove" [.ref a, .int x] Q (EXC C X) σ := fun vs' i s R => by
  cases i with
  | cons i0 i1 => cases i0.of_ref; cases i1 with
    | cons i1 i2 =>
      cases i2
      obtain ⟨t, rfl⟩ := i1
      obtain ⟨ob, ho, vs, n, ha, rfl⟩ := R.at hx
      have hi := ha.ints
      have hl := hi.length
      have eqg : ∀ y, y ∈ vs.toArray → EqGives y (MV.val (.int x) t) (match y with | .int j _ => j == x | _ => false) := by
        intro y hy
        have : ∀ {vs : List Value} {ns : List Int}, IntsAre vs ns → y ∈ vs → ∃ j u, y = .int j u := fun h hm => by
          induction h with
          | nil => cases hm
          | cons n t _ ih => rcases List.mem_cons.mp hm with rfl | hm
                             · exact ⟨n, t, rfl⟩
                             · exact ih hm
        obtain ⟨j, u, rfl⟩ := this hi (by simpa using hy)
        exact EqGives.int j x u t
      have at_ : ∀ (m : Nat) (hm : m < vs.toArray.size), (match vs.toArray[m] with | .int j _ => j == x | _ => false) = (ns[m]'(by simp at hm; omega) == x) := by
        intro m hm
        have : ∀ {vs : List Value} {ns : List Int}, IntsAre vs ns → ∀ m (h1 : m < vs.length) (h2 : m < ns.length), ∃ u, vs[m] = .int ns[m] u := fun h => by
          induction h with
          | nil => intro m h1; simp at h1
          | cons n t _ ih => intro m h1 h2; cases m with
            | zero => exact ⟨t, rfl⟩
            | succ m => simpa using ih m (by simpa using h1) (by simpa using h2)
        obtain ⟨u, e⟩ := this hi m (by simpa using hm) (by simp at hm; omega)
        simp only [List.getElem_toArray, e]
      by_cases hm : x ∈ ns
      · have hj : ns.idxOf x < ns.length := List.idxOf_lt_length_iff.mpr hm
        refine call_meets F.slot_list_remove (IsL_of s ho) F.entry_list_remove (F.args_list_remove_2 _ _) (list_remove a vs.toArray n _ _ eqg (ns.idxOf x) (by simp; omega) ?_ ?_ (by simp [sizeLine]; omega)) ⟨ho, ?_⟩
        · rw [at_]; simp
        · intro m hm' hlt
          rw [at_ m hm']
          have := List.not_of_lt_findIdx (p := fun y => y == x) (xs := ns) (i := m) hlt
          simpa using this
        · obtain ⟨n', hg, hs⟩ := list_upd (f := fun xs => xs.eraseIdxIfInBounds (ns.idxOf x)) (vs' := vs.eraseIdx (ns.idxOf x)) ho (by rw [List.eraseIdxIfInBounds_toArray])
          have he : Are (vs.eraseIdx (ns.idxOf x)) ((ns.erase x).map .int) := by
            have : ns.erase x = ns.eraseIdx (ns.idxOf x) := erase_idx ns x
            rw [this, List.eraseIdx_eq_take_drop_succ, List.eraseIdx_eq_take_drop_succ, List.map_append, List.map_take, List.map_drop]
            exact (ha.take _).append (ha.drop _)
          exact ⟨.none, _, Is.none, R.upd (U hm) hs hg ⟨_, n', he, rfl⟩, h1 hm⟩
      · refine call_meets F.slot_list_remove (IsL_of s ho) F.entry_list_remove (F.args_list_remove_2 _ _) (list_remove_none a vs.toArray n _ _ eqg ?_) ⟨ho, hh, fun h' tk e hn => ?_⟩
        · intro m hm'
          rw [at_ m hm', beq_eq_false_iff_ne]
          intro e
          exact hm (e ▸ List.getElem_mem _)
        · exact ⟨e, _, false, σ, rfl, exc_new (s' := { s with heap := h', toks := tk }) R hn rfl rfl, h2 hm e⟩
end
/- the library's stores of attributes speak of a ledger of exact objects: hand it the whole heap -/
noncomputable def others (h : Heap) (L d : Addr) : List (Addr × Obj) := (List.range h.objs.size).filterMap fun b => if b = L ∨ b = d then none else (h.get? b).map fun o => (b, o)
theorem mem_others {h : Heap} {L d b : Addr} {o : Obj} : (b, o) ∈ others h L d ↔ b ≠ L ∧ b ≠ d ∧ h.get? b = some o := by
  unfold others
  rw [List.mem_filterMap]
  constructor
  · rintro ⟨c, hc, e⟩
    split at e
    · cases e
    · rename_i hn
      obtain ⟨o', h1, h2⟩ := Option.map_eq_some_iff.mp e
      cases h2
      exact ⟨fun q => hn (.inl q), fun q => hn (.inr q), h1⟩
  · rintro ⟨h1, h2, h3⟩
    refine ⟨b, List.mem_range.mpr (Heap.lt_size h3), ?_⟩
    rw [if_neg (fun q => q.elim h1 h2), h3]; rfl
noncomputable def noHeap : Heap := { objs := #[] }
theorem noHeap_get (b : Addr) : noHeap.get? b = none := by
  cases q : noHeap.get? b with
  | none => rfl
  | some o => exact absurd (Heap.lt_size q) (Nat.not_lt_zero _)
section
variable {C : Cx} {σ : MS} {s : Shared} {E : Value → Shared → Prop} {gl : List (Str × MV)} {names : List (Str × NameKind)} {cells : List (Str × Addr)}
theorem Rel.fr (R : Rel C σ s) : ∃ m, Fr noHeap C.L s.heap m ∧ ∀ p ∈ σ.loc, LocIs (m p.1) p.2 := by
  obtain ⟨m, hn, hm⟩ := R.here
  exact ⟨m, ⟨hn, fun b o e => (by rw [noHeap_get] at e; cases e), Nat.zero_le _⟩, hm⟩
theorem Rel.news (R : Rel C σ s) {a : Addr} {ob : Obj} (ha : a ≠ C.L) (ho : s.heap.get? a = some ob) : News noHeap C.L s.heap ([] ++ (a, ob) :: others s.heap C.L a) := by
  intro p hp
  rcases List.mem_cons.mp hp with rfl | hp
  · exact ⟨ho, ha, noHeap_get _⟩
  · obtain ⟨b, o⟩ := p
    have := mem_others.mp hp
    exact ⟨this.2.2, this.1, noHeap_get _⟩
theorem others_ne {h : Heap} {L d : Addr} : ∀ p ∈ others h L d, p.1 ≠ d := fun p hp => by
  obtain ⟨b, o⟩ := p
  exact (mem_others.mp hp).2.1
theorem Rel.upd_news (R : Rel C σ s) {a : Addr} {o o' : MO} {l' : List (Addr × MO)} (U : Upd a o o' σ.led l') {h' : Heap} {ob' : Obj} {m : Str → Option Value} (hm : ∀ p ∈ σ.loc, LocIs (m p.1) p.2)
    (F : Fr noHeap C.L h' m) (N : News noHeap C.L h' ([] ++ (a, ob') :: others s.heap C.L a)) (ho : o'.ok ob') (t : Nat := s.toks) : Rel C ⟨σ.loc, l'⟩ { s with heap := h', toks := t } := by
  have k : ∀ b x, b ≠ C.L → b ≠ a → s.heap.get? b = some x → h'.get? b = some x := fun b x h1 h2 h3 => (N (b, x) (.tail _ (mem_others.mpr ⟨h1, h2, h3⟩))).1
  have ha := (R.led _ U.mem).2
  refine ⟨fun b x e => k b x (fun q => ?_) (fun q => ?_) (R.keep b x e), ⟨m, F.ns, hm⟩, R.hereNew, R.lnd, fun p hp => ⟨(R.outs p hp).1.keeps fun x e => k _ x (R.outs p hp).2.2 (ha.2.2 p hp) e, (R.outs p hp).2⟩, fun p hp => ?_, ?_, R.gens, R.os⟩
  · rw [q, R.hereNew] at e; cases e
  · rw [q, ha.1] at e; cases e
  · rcases U.of_mem R.nd p hp with rfl | ⟨hp, ne⟩
    · exact ⟨⟨ob', (N (a, ob') (.head _)).1, ho⟩, ha⟩
    · exact ⟨let ⟨ob, x, y⟩ := (R.led p hp).1; ⟨ob, k _ _ (R.led p hp).2.2.1 ne x, y⟩, (R.led p hp).2⟩
  · show (l'.map (·.1)).Nodup
    rw [U.keys]; exact R.nd
end
theorem AttrsAre.get {es : List DictEntry} {fs : List (Str × MV)} (h : AttrsAre es fs) : (fs.map (·.1)).Nodup → ∀ {x : Str} {v : MV}, (x, v) ∈ fs → ∃ v', getL x es = some (some v') ∧ Is v' v := by
  induction h with
  | nil => intro _ x v hm; cases hm
  | @cons e x t v es fs hk hv _ ih =>
    intro nd y w hm
    have n2 := List.nodup_cons.mp nd
    unfold getL
    rw [List.find?_cons, hk]
    by_cases q : (x == y) = true
    · have : x = y := by simpa using q
      subst this
      rcases List.mem_cons.mp hm with e' | hm
      · cases e'
        refine ⟨e.val, ?_, hv⟩
        show (match (match (x == x) with | true => some e | false => _) with | some e => _ | none => _) = _
        rw [beq_self_eq_true]
      · exact absurd (List.mem_map.mpr ⟨_, hm, rfl⟩) n2.1
    · have q' : (x == y) = false := by simpa using q
      rcases List.mem_cons.mp hm with e' | hm
      · cases e'; simp at q
      · obtain ⟨v', h1, h2⟩ := ih n2.2 hm
        refine ⟨v', ?_, h2⟩
        show (match (match (x == y) with | true => some e | false => _) with | some e => _ | none => _) = _
        rw [q']
        unfold getL at h1
        have : (e :: es).any (·.refKey) = es.any (·.refKey) := by
          rw [List.any_cons]
          have : e.refKey = false := by unfold DictEntry.refKey; rw [hk]
          rw [this]; rfl
        rw [this]; exact h1
theorem AttrsAre.miss {es : List DictEntry} {fs : List (Str × MV)} (h : AttrsAre es fs) {x : Str} (hx : ∀ p ∈ fs, p.1 ≠ x) : getL x es = some none := by
  have h1 : es.find? (·.key.isStr x) = none := by
    induction h with
    | nil => rfl
    | @cons e y t v es fs hk hv _ ih =>
      rw [List.find?_cons, hk]
      have : (Value.str y t).isStr x = false := by
        show (y == x) = false
        rw [beq_eq_false_iff_ne]; exact hx _ (.head _)
      rw [this]
      exact ih fun p hp => hx p (.tail _ hp)
  have h2 : es.any (·.refKey) = false := by
    clear h1 hx
    induction h with
    | nil => rfl
    | @cons e y t v es fs hk hv _ ih =>
      rw [List.any_cons, ih]
      have : e.refKey = false := by unfold DictEntry.refKey; rw [hk]
      rw [this]; rfl
  unfold getL
  rw [h1, h2]; rfl
inductive FPut (x : Str) (v : MV) : List (Str × MV) → List (Str × MV) → Prop where
  | head {v₀ r} : FPut x v ((x, v₀) :: r) ((x, v) :: r)
  | tail {p r r'} : FPut x v r r' → FPut x v (p :: r) (p :: r')
theorem FPut.keys {x v l l'} (u : FPut x v l l') : l'.map (·.1) = l.map (·.1) := by
  induction u with
  | head => rfl
  | tail _ ih => simp [ih]
theorem FPut.mem {x v l l'} (u : FPut x v l l') : x ∈ l.map (·.1) := by
  induction u with
  | head => exact .head _
  | tail _ ih => exact .tail _ ih
theorem AttrsAre.put {es : List DictEntry} {fs fs' : List (Str × MV)} {x : Str} {v : MV} {v' key : Value} {hsh : Int} (u : FPut x v fs fs') (hv : Is v' v) : AttrsAre es fs → (fs.map (·.1)).Nodup → AttrsAre (putL x hsh key v' es) fs' := by
  induction u generalizing es with
  | head =>
    intro h nd
    cases h with
    | cons hk hv0 r =>
      unfold putL
      rw [hk, if_pos (by show (x == x) = true; simp)]
      exact .cons rfl hv r
  | @tail p r r' u ih =>
    intro h nd
    have n2 := List.nodup_cons.mp nd
    cases h with
    | @cons e y t v0 es fs hk hv0 r =>
      unfold putL
      have : (y == x) = false := by
        rw [beq_eq_false_iff_ne]
        rintro rfl
        exact n2.1 u.mem
      rw [hk, if_neg (by show ¬ (y == x) = true; rw [this]; decide)]
      exact .cons hk hv0 (ih r n2.2)
theorem AttrsAre.length {es : List DictEntry} {fs : List (Str × MV)} (h : AttrsAre es fs) : es.length = fs.length := by
  induction h with
  | nil => rfl
  | cons _ _ _ ih => simp [ih]
section
variable {C : Cx} {σ : MS} {s : Shared} {E : Value → Shared → Prop} {gl : List (Str × MV)} {names : List (Str × NameKind)} {cells : List (Str × Addr)}
theorem Rel.kin (R : Rel C σ s) (O : C.Ok gl names cells) : C.K.In s.heap := fun a o e => R.keep _ _ (O.kin a o e)
theorem Rel.inst (R : Rel C σ s) {x K d : Addr} {sl : List (Option MV)} {fs : List (Str × MV)} (hx : Has x (.inst K d sl) σ.led) (hd : Has d (.attrs fs) σ.led) :
    ∃ vs es n, SlotsAre vs sl ∧ AttrsAre es fs ∧ (fs.map (·.1)).Nodup ∧ s.heap.get? d = some (dictOf es n) ∧ InstAt s.heap x { cls := .ref K, dict := some d, slots := vs.toArray } K (some (dictOf es n)) := by
  obtain ⟨ob, ho, vs, hs, rfl⟩ := R.at hx
  obtain ⟨od, hod, es, n, ha, nd, rfl⟩ := R.at hd
  exact ⟨vs, es, n, hs, ha, nd, hod, ⟨ho, rfl, rfl, hod⟩⟩
end
inductive Pick {α : Type} (p : α) : List α → List α → Prop where
  | head {r} : Pick p (p :: r) r
  | tail {q r r'} : Pick p r r' → Pick p (q :: r) (q :: r')
  | app {l r r'} : Pick p r r' → Pick p (l ++ r) (l ++ r')
theorem Pick.perm {α : Type} {p : α} {l r : List α} (h : Pick p l r) : l.Perm (p :: r) := by
  induction h with
  | head => exact .refl _
  | tail _ ih => exact (List.Perm.cons _ ih).trans (List.Perm.swap ..)
  | app _ ih => exact (List.Perm.append_left _ ih).trans List.perm_middle
inductive PickS {α : Type} (p : List α) : List α → List α → Prop where
  | head {r} : PickS p (p ++ r) r
  | tail {q r r'} : PickS p r r' → PickS p (q :: r) (q :: r')
  | app {l r r'} : PickS p r r' → PickS p (l ++ r) (l ++ r')
theorem PickS.perm {α : Type} {p : List α} {l r : List α} (h : PickS p l r) : l.Perm (p ++ r) := by
  induction h with
  | head => exact .refl _
  | tail _ ih => exact (List.Perm.cons _ ih).trans List.perm_middle.symm
  | @app l r r' _ ih =>
    refine (List.Perm.append_left _ ih).trans ?_
    rw [← List.append_assoc, ← List.append_assoc]
    exact List.Perm.append_right _ List.perm_append_comm
inductive Take {α : Type} : List α → List α → Prop where
  | nil {l} : Take [] l
  | all {l} : Take l l
  | cons {p l l' r} : Pick p l r → Take l' r → Take (p :: l') l
  | app {p l l' r} : PickS p l r → Take l' r → Take (p ++ l') l
theorem Take.sub {α : Type} {l' l : List α} (h : Take l' l) : ∃ r, l.Perm (l' ++ r) := by
  induction h with
  | @nil l => exact ⟨l, .refl _⟩
  | all => exact ⟨[], by simp⟩
  | cons a _ ih => obtain ⟨r, h⟩ := ih; exact ⟨r, a.perm.trans (List.Perm.cons _ h)⟩
  | app a _ ih => obtain ⟨r, h⟩ := ih; exact ⟨r, a.perm.trans (by rw [List.append_assoc]; exact List.Perm.append_left _ h)⟩
theorem Has.right {α β : Type} {x : α} {v : β} {l r : List (α × β)} (h : Has x v r) : Has x v (l ++ r) := by
  induction l with
  | nil => exact h
  | cons p l ih => exact .tail ih
theorem Has.left {α β : Type} {x : α} {v : β} {l r : List (α × β)} (h : Has x v l) : Has x v (l ++ r) := by
  induction h with
  | head => exact .head
  | tail _ ih => exact .tail ih
theorem Has.of_mem {α β : Type} {x : α} {v : β} {l : List (α × β)} (h : (x, v) ∈ l) : Has x v l := by
  induction l with
  | nil => cases h
  | cons p l ih =>
    rcases List.mem_cons.mp h with e | h
    · rw [← e]; exact .head
    · exact .tail (ih h)
theorem Upd.right {a : Addr} {o o' : MO} {l r r' : List (Addr × MO)} (h : Upd a o o' r r') : Upd a o o' (l ++ r) (l ++ r') := by
  induction l with
  | nil => exact h
  | cons p l ih => exact .tail ih
theorem Upd.left {a : Addr} {o o' : MO} {l l' r : List (Addr × MO)} (h : Upd a o o' l l') : Upd a o o' (l ++ r) (l' ++ r) := by
  induction h with
  | head => exact .head
  | tail _ ih => exact .tail ih
section
variable {C : Cx} {σ : MS} {s : Shared} {E : Value → Shared → Prop} {gl : List (Str × MV)} {names : List (Str × NameKind)} {cells : List (Str × Addr)}
theorem Rel.take (R : Rel C σ s) {l' : List (Addr × MO)} (h : Take l' σ.led) : Rel C ⟨σ.loc, l'⟩ s := by
  obtain ⟨r, p⟩ := h.sub
  exact (R.perm p).drop (List.sublist_append_left _ _)
theorem AW.pre {α β : Type} {rep : β → α → Prop} {t : Sem α} {Q : β → MS → Prop} {l' : List (Addr × MO)} (h : Take l' σ.led) (k : AW C rep t Q E ⟨σ.loc, l'⟩) : AW C rep t Q E σ := fun s R => k s (R.take h)
theorem AW.post {α β : Type} {rep : β → α → Prop} {t : Sem α} {Q Q' : β → MS → Prop} (k : AW C rep t Q E σ) (h : ∀ b σ', Q b σ' → ∃ l', Take l' σ'.led ∧ Q' b ⟨σ'.loc, l'⟩) : AW C rep t Q' E σ := fun s R =>
  wpAny_mono (k s R) (fun a s' post_ => post_.out fun b σ' i R' q => let ⟨l', t, q'⟩ := h b σ' q; ⟨b, ⟨σ'.loc, l'⟩, i, R'.take t, q'⟩) fun _ _ e => e
structure Src where
  at_ : Nat → MO
  items : List MV
  need : List (Addr × MO) → Prop
noncomputable def OptIs : Option MV → Option Value → Prop
  | none, o => o = none
  | some m, o => ∃ v, o = some v ∧ Is v m
noncomputable def notOwner (n : String) : Bool := !["enumerate", "zip", "dict_itemiterator", "dict_reverseitemiterator", "odict_iterator", "itertools.zip_longest", "itertools.pairwise"].contains n
structure Src.Ok (S : Src) (it : Addr) : Prop where
  item : ∀ (C : Cx) {i : Nat} {σ : MS} {led' : List (Addr × MO)} {v : MV} {E : Value → Shared → Prop}, C.A.handled = none → S.need σ.led → Upd it (S.at_ i) (S.at_ (i + 1)) σ.led led' → S.items[i]? = some v →
    AW C OptIs (pyNext (.ref it)) (fun r σ' => r = some v ∧ σ' = ⟨σ.loc, led'⟩) E σ
  done : ∀ (C : Cx) {i : Nat} {σ : MS} {led' : List (Addr × MO)} {E : Value → Shared → Prop}, C.A.handled = none → S.need σ.led → σ.led = (it, S.at_ i) :: led' → S.items[i]? = none →
    AW C OptIs (pyNext (.ref it)) (fun r σ' => r = none ∧ σ' = ⟨σ.loc, led'⟩) E σ
  self : ∀ (C : Cx) {i : Nat} {σ : MS} {E : Value → Shared → Prop}, Has it (S.at_ i) σ.led → AW C IsV (pyIter (.ref it)) (fun r σ' => r = .ref it ∧ σ' = σ) E σ
  own : ∀ i ob, (S.at_ i).ok ob → ∃ n, ob.cls = .type n ∧ notOwner n = true
theorem Src.Ok.owned {S : Src} {it : Addr} (O : S.Ok it) {i : Nat} (h : Has it (S.at_ i) σ.led) {target : PySem.Expr} {v : Value} {Q : Unit → MS → Prop} (hq : Q () σ) : AW C UnitIs (letOwnedTupleGo target (.ref it) v) Q E σ := fun s R => by
  obtain ⟨ob, ho, hok⟩ := R.at h
  obtain ⟨n, hc, hn⟩ := O.own i ob hok
  have fin : wpAny (model C.prog C.w) C.A (pure ()) (Post C UnitIs Q) E s := wpAny_pure ⟨(), σ, trivial, R, hq⟩
  have key : wpAny (model C.prog C.w) C.A (do
      let (.ref r, .ref a) := ((Value.ref it, v) : Value × Value) | return
      let o ← load r
      match o.cls, o.data with
      | .type n, .fields vs =>
        if ["enumerate", "zip", "dict_itemiterator", "dict_reverseitemiterator", "odict_iterator", "itertools.zip_longest", "itertools.pairwise"].contains n && vs[0]? == some (rawInt a) then
          rule "for.unpacks-the-owned-tuple"
          updateField r 0 .none
      | _, _ => pure ()) (Post C UnitIs Q) E s := by
    cases v <;> try exact fin
    refine wpAny_bind (wpAny_load ho ?_)
    rw [hc]
    split
    · rename_i n' vs e1 e2
      cases e1
      unfold notOwner at hn
      rw [Bool.not_eq_true'] at hn
      rw [hn, Bool.false_and, if_neg (by decide)]
      exact fin
    · exact fin
  unfold letOwnedTupleGo
  split
  · exact key
  · exact key
  · exact fin
noncomputable abbrev ITER (C : Cx) (v : MV) (S : Src) (σ : MS) : Prop := ∀ (v' : Value) (E : Value → Shared → Prop), Is v' v → AW C IsV (pyIter v') (fun r σ' => ∃ it, r = .ref it ∧ S.Ok it ∧ σ' = ⟨σ.loc, (it, S.at_ 0) :: σ.led⟩) E σ
noncomputable abbrev FORL (C : Cx) (target : PySem.Expr) (v : MV) (body orelse : List Stmt) (Q : MF → MS → Prop) (E : Value → Shared → Prop) (σ : MS) : Prop := ∀ (x : Value), Is x v → ∀ s, Rel C σ s →
  wpAny (model C.prog C.w) C.A (pyIter x) (fun it s₂ => codeAny (model C.prog C.w) C.A (.forLoop target it body orelse C.env)
    (fun r s' => match r with | .ok f => Post C FlowIs Q f s' | .error e => cameBackBy (model C.prog C.w) C.A C.env E e s') s₂) E s
theorem r_for {target iter : PySem.Expr} {body orelse : List Stmt} {pos : Pos} {Q : MF → MS → Prop} (h : EV C iter (fun v σ₁ => FORL C target v body orelse Q E σ₁) E σ)
    (hs : ∀ x, foldedSetIterable iter C.env x = pure x := by intro _; rfl) : EX C (.For target iter body orelse pos) Q E σ := fun s R =>
  wpAny_For (wpAny_mono (h s R) (fun x s₁ post_ => post_.out fun _ _ i R₁ k => k x i s₁ R₁) fun _ _ e => e) hs
theorem f_loop0 {target : PySem.Expr} {v : MV} {body orelse : List Stmt} {Q : MF → MS → Prop} {S : Src} (hh : C.A.handled = none) (hit : ITER C v S σ) (I : Nat → Loc → List (Addr × MO) → Prop)
    (h0 : I 0 σ.loc σ.led) (hneed : ∀ i loc led it o, I i loc led → S.need ((it, o) :: led))
    (turn : ∀ i x it o loc led, I i loc led → S.items[i]? = some x → ASG C target x (fun _ σ₁ => EXS C body (fun f σ₂ => match f with
      | .next => ∃ led', Take ((it, o) :: led') σ₂.led ∧ I (i + 1) σ₂.loc led'
      | .cont => ∃ led', Take ((it, o) :: led') σ₂.led ∧ I (i + 1) σ₂.loc led'
      | .brk => Q .next σ₂
      | .ret r => Q (.ret r) σ₂) (loopE C E) σ₁) (loopE C E) ⟨loc, (it, o) :: led⟩)
    (done : ∀ loc led, I S.items.length loc led → EXS C orelse Q (loopE C E) ⟨loc, led⟩) : FORL C target v body orelse Q E σ := by
  intro x ix s R
  refine wpAny_mono (hit x E ix s R) (fun itv s₂ h₂ => ?_) fun _ _ e => e
  obtain ⟨r, σ', ir, R₂, it, rfl, So, rfl⟩ := h₂
  cases ir.of_ref
  refine codeAny_forLoop_any (fun n s => ∃ i loc led, n + i = S.items.length ∧ I i loc led ∧ Rel C ⟨loc, (it, S.at_ i) :: led⟩ s) (fun n s hn => ?_) S.items.length ⟨0, _, _, rfl, h0, R₂⟩
  obtain ⟨i, loc, led, hi, hI, R⟩ := hn
  cases hx : S.items[i]? with
  | none =>
    have hlen : i = S.items.length := by
      have := List.getElem?_eq_none_iff.mp hx; omega
    subst hlen
    refine wpAny_mono (So.done C hh (hneed _ _ _ it _ hI) rfl hx s R) (fun o s₁ h₁ => ?_) fun _ _ e => e
    obtain ⟨o', σ₁, io, R₁, rfl, rfl⟩ := h₁
    cases io
    exact wpAny_mono (done loc led hI s₁ R₁) (fun f s₃ post_ => post_.out fun b σ₃ ib R₃ q => ⟨b, σ₃, ib, R₃, q⟩) fun _ _ e => e
  | some y =>
    refine wpAny_mono (So.item C hh (hneed _ _ _ it _ hI) .head hx s R) (fun o s₁ h₁ => ?_) fun _ _ e => e
    obtain ⟨o', σ₁, io, R₁, rfl, rfl⟩ := h₁
    obtain ⟨yv, rfl, iy⟩ := io
    refine wpAny_mono (So.owned (i := i + 1) (C := C) (σ := ⟨loc, (it, S.at_ (i + 1)) :: led⟩) (target := target) (Q := fun _ σ' => σ' = ⟨loc, (it, S.at_ (i + 1)) :: led⟩) .head rfl s₁ R₁) (fun _ s₁' h₁' => ?_) fun _ _ e => e
    obtain ⟨_, _, _, R₁', rfl⟩ := h₁'
    refine wpAny_mono (turn i y it _ loc led hI hx yv iy s₁' R₁') (fun _ s₂ h₂ => ?_) fun _ _ e => e
    obtain ⟨_, σ₂, _, R₂, k⟩ := h₂
    refine wpAny_mono (k s₂ R₂) (fun f s₃ h₃ => ?_) fun _ _ e => e
    obtain ⟨b, σ₃, ib, R₃, q⟩ := h₃
    have hlt := (List.getElem?_eq_some_iff.mp hx).1
    cases b with
    | next => cases ib; obtain ⟨led', t, q⟩ := q; exact ⟨n - 1, by omega, i + 1, _, led', by omega, q, R₃.take t⟩
    | cont => cases ib; obtain ⟨led', t, q⟩ := q; exact ⟨n - 1, by omega, i + 1, _, led', by omega, q, R₃.take t⟩
    | brk => cases ib; exact ⟨.next, σ₃, rfl, R₃, q⟩
    | ret v => obtain ⟨y, rfl, iy⟩ := ib; exact ⟨.ret v, σ₃, ⟨y, rfl, iy⟩, R₃, q⟩
theorem f_loop {target : PySem.Expr} {v : MV} {body orelse : List Stmt} {Q : MF → MS → Prop} {S : Src} (hh : C.A.handled = none) (hit : ITER C v S σ) (I : Nat → Loc → List (Addr × MO) → Prop)
    (h0 : I 0 σ.loc σ.led) (hneed : ∀ i loc led it o, I i loc led → S.need ((it, o) :: led))
    (turn : ∀ i x it o loc led, I i loc led → S.items[i]? = some x → ∀ (QQ : MF → MS → Prop) (EE : Value → Shared → Prop), (∀ σ₂, (∃ led', Take ((it, o) :: led') σ₂.led ∧ I (i + 1) σ₂.loc led') → QQ .next σ₂ ∧ QQ .cont σ₂) → (∀ σ₂, Q .next σ₂ → QQ .brk σ₂) → (∀ r σ₂, Q (.ret r) σ₂ → QQ (.ret r) σ₂) → (∀ e s, loopE C E e s → EE e s) → ASG C target x (fun _ σ₁ => EXS C body QQ EE σ₁) EE ⟨loc, (it, o) :: led⟩)
    (done : ∀ loc led, I S.items.length loc led → EXS C orelse Q (loopE C E) ⟨loc, led⟩) : FORL C target v body orelse Q E σ :=
  f_loop0 hh hit I h0 hneed (fun i x it o loc led h hx => turn i x it o loc led h hx _ _ (fun σ₂ h => ⟨h, h⟩) (fun _ h => h) (fun _ _ h => h) (fun _ _ h => h)) done
end
/- objects of further kinds -/
noncomputable def recP (cls : String) (vs : Array Value) : Obj → Prop := fun ob => ob.cls = .type cls ∧ ob.data = .fields vs
noncomputable def MO.lit (l : Addr) (i : Nat) : MO := .gen (recP "list_iterator" #[.ref l, .int i 0])
noncomputable def MO.tit (l : Addr) (i : Nat) : MO := .gen (recP "tuple_iterator" #[.ref l, .int i 0])
noncomputable def MO.range (a b c : Int) : MO := .gen fun ob => ∃ t u v, ob = { cls := .type "range", dict := none, data := .fields #[.int a t, .int b u, .int c v], slots := #[] }
noncomputable def MO.rit (x left step : Int) : MO := .gen fun ob => ob = { cls := .type "range_iterator", dict := none, data := .fields #[rawInt x, rawInt left, rawInt step], slots := #[] }
inductive IPairs : List DictEntry → List (Int × Value) → Prop where
  | nil : IPairs [] []
  | cons {e kv es kvs} : Value.isInt kv.1 e.key = true → e.val = kv.2 → IPairs es kvs → IPairs (e :: es) (kv :: kvs)
inductive KVAre : List (Int × Value) → List (Int × MV) → Prop where
  | nil : KVAre [] []
  | cons {k v m kvs ms} : Is v m → KVAre kvs ms → KVAre ((k, v) :: kvs) ((k, m) :: ms)
theorem IPairs.of {prog : Program} {w : World} {es : List DictEntry} {kvs : List (Int × Value)} (h : Pairs (intKind prog w) es kvs) : IPairs es kvs := by
  induction h with
  | nil => exact .nil
  | cons a b _ ih => exact .cons a b ih
theorem IPairs.to {prog : Program} {w : World} {es : List DictEntry} {kvs : List (Int × Value)} (h : IPairs es kvs) : Pairs (intKind prog w) es kvs := by
  induction h with
  | nil => exact .nil
  | cons a b _ ih => exact .cons a b ih
theorem KVAre.length {kvs ms} (h : KVAre kvs ms) : kvs.length = ms.length := by
  induction h with
  | nil => rfl
  | cons _ _ ih => simp [ih]
theorem KVAre.get {kvs ms} (h : KVAre kvs ms) : ∀ {i : Nat} {k : Int} {m : MV}, ms[i]? = some (k, m) → ∃ v, kvs[i]? = some (k, v) ∧ Is v m := by
  induction h with
  | nil => intro i k m e; simp at e
  | cons a _ ih =>
    intro i k m e
    cases i with
    | zero => simp at e; obtain ⟨rfl, rfl⟩ := e; exact ⟨_, rfl, a⟩
    | succ i => simpa using ih (by simpa using e)
theorem KVAre.get_none {kvs ms} (h : KVAre kvs ms) {i : Nat} (e : ms[i]? = none) : kvs[i]? = none := by
  have := h.length
  rw [List.getElem?_eq_none_iff] at e ⊢; omega
noncomputable def dictP (ms : List (Int × MV)) (ep : Nat) : Obj → Prop := fun ob => ∃ es kvs, ob.ExactDict ∧ ob.data = .dict es ep ∧ (∀ e ∈ es, ∃ k, Value.isInt k e.key = true ∧ e.hash = hashInt k) ∧ IPairs es.toList kvs ∧ (kvs.map (·.1)).Nodup ∧ KVAre kvs ms
noncomputable def MO.dict (ms : List (Int × MV)) (ep : Nat) : MO := .gen (dictP ms ep)
noncomputable def MO.vals (d : Addr) : MO := .gen (recP "dict_values" #[.ref d])
noncomputable def MO.kit (d : Addr) (i n ep : Nat) : MO := .gen (recP "dict_keyiterator" #[.ref d, .int i 0, .int n 0, .int ep 0])
noncomputable def MO.vit (d : Addr) (i n ep : Nat) : MO := .gen (recP "dict_valueiterator" #[.ref d, .int i 0, .int n 0, .int ep 0])
section
variable {C : Cx} {σ : MS} {s : Shared} {E : Value → Shared → Prop} {gl : List (Str × MV)} {names : List (Str × NameKind)} {cells : List (Str × Addr)}
theorem Rel.dictAt (R : Rel C σ s) {d : Addr} {ms : List (Int × MV)} {ep : Nat} (h : Has d (.dict ms ep) σ.led) : ∃ kvs, s.heap.DictAt (intKind C.prog C.w) d kvs ep ∧ KVAre kvs ms := by
  obtain ⟨ob, ho, es, kvs, h1, h2, h3, h4, h5, h6⟩ := R.at h
  exact ⟨kvs, ⟨ob, es, ho, h1, h2, h3, h4.to, h5⟩, h6⟩
theorem dictP_of {prog : Program} {w : World} {h : Heap} {d : Addr} {kvs : List (Int × Value)} {ms : List (Int × MV)} (x : h.DictOf (intKind prog w) d kvs) (k : KVAre kvs ms) : ∃ ob ep, h.get? d = some ob ∧ (MO.dict ms ep).ok ob := by
  obtain ⟨ob, es, ep, ho, h1, h2, h3, h4, h5⟩ := x
  exact ⟨ob, ep, ho, es, kvs, h1, h2, h3, IPairs.of h4, h5, k⟩
theorem Rel.gone (R : Rel C σ s) {a : Addr} {o : MO} {l' : List (Addr × MO)} (e : σ.led = (a, o) :: l') {h' : Heap} (hs : Heap.ExtBut a s.heap h') (t : Nat := s.toks) : Rel C ⟨σ.loc, l'⟩ { s with heap := h', toks := t } := by
  have ha := R.led (a, o) (by rw [e]; exact .head _)
  have nd := R.nd
  rw [e] at nd
  have n2 := List.nodup_cons.mp nd
  refine ⟨fun b x q => hs b x (fun q' => ?_) (R.keep b x q), R.here.keeps fun x q => hs _ x (Ne.symm ha.2.2.1) q, R.hereNew, R.lnd, fun p hp => ⟨(R.outs p hp).1.keeps fun x q => hs _ x (ha.2.2.2 p hp) q, (R.outs p hp).2⟩, fun p hp => ?_, n2.2, R.gens, R.os⟩
  · rw [q', ha.2.1] at q; cases q
  · have hp' : p ∈ σ.led := by rw [e]; exact .tail _ hp
    exact ⟨let ⟨ob, x, y⟩ := (R.led p hp').1; ⟨ob, hs _ _ (fun q => n2.1 (List.mem_map.mpr ⟨p, hp, q⟩)) x, y⟩, (R.led p hp').2⟩
noncomputable def listSrc (l : Addr) (xs : List MV) : Src := ⟨MO.lit l, xs, fun led => Has l (.list xs) led⟩
theorem listSrc_ok (l : Addr) (xs : List MV) (it : Addr) : (listSrc l xs).Ok it where
  item C i σ led' v E hh need U hx := fun s R => by
    obtain ⟨ob, ho, hc, hd⟩ := (R.led _ U.mem).1
    obtain ⟨ol, hol, vs, n, ha, rfl⟩ := R.at need
    obtain ⟨y, hy, iy⟩ := ha.get hx
    refine wpAny_pyNext_list_item (items := vs.toArray) ⟨ob, ho, hc, hd⟩ ⟨_, hol, rfl, n, rfl⟩ (by simpa using hy) fun h' hit hs => ?_
    obtain ⟨ob', ho', hc', hd'⟩ := hit
    exact ⟨some v, _, ⟨y, rfl, iy⟩, R.upd U hs ho' ⟨hc', hd'⟩, rfl, rfl⟩
  done C i σ led' E hh need e hx := fun s R => by
    obtain ⟨ob, ho, hc, hd⟩ := (R.led (it, MO.lit l i) (by rw [e]; exact .head _)).1
    obtain ⟨ol, hol, vs, n, ha, rfl⟩ := R.at need
    refine wpAny_pyNext_list_end (items := vs.toArray) hh ⟨ob, ho, hc, hd⟩ ⟨_, hol, rfl, n, rfl⟩ (by simpa using ha.get_none hx) fun h' hs => ?_
    exact ⟨none, _, rfl, R.gone e hs, rfl, rfl⟩
  self C i σ E h := fun s R => by
    obtain ⟨ob, ho, hc, hd⟩ := R.at h
    exact wpAny_pyIter_listiter ⟨ob, ho, hc, hd⟩ ⟨_, _, Is.ref _, R, rfl, rfl⟩
  own i ob h := ⟨_, h.1, by decide +kernel⟩
theorem iter_list {l : Addr} {xs : List MV} (h : Has l (.list xs) σ.led) : ITER C (.ref l) (listSrc l xs) σ := fun v' E i s R => by
  cases i.of_ref
  obtain ⟨ol, hol, vs, n, ha, rfl⟩ := R.at h
  refine wpAny_pyIter_list (items := vs.toArray) ⟨_, hol, rfl, n, rfl⟩ ?_
  exact ⟨_, _, Is.ref _, R.alloc (.lit l 0) ⟨rfl, rfl⟩ rfl, _, rfl, listSrc_ok l xs _, rfl⟩
theorem wpAny_pyIter_tupleiter {M : Program} {w : World} {A : Around} {it l : Addr} {i : Nat} {Q : Value → Shared → Prop} (hit : s.heap.IsTupleIter it l i) (h : Q (.ref it) s) :
    wpAny (model M w) A (pyIter (.ref it)) Q E s := by
  have hT : s.TypeIs (.ref it) "tuple_iterator" := let ⟨o, ho, hc, _⟩ := hit; ⟨o, ho, hc⟩
  refine wpAny_pyIter_slot hT F.slot_tuple_iterator_iter (wpAny_call_entry F.slot_tuple_iterator_iter hT F.entry_tuple_iterator_iter ?_ (F.args_tuple_iterator_iter_1 _))
  show wpAny _ _ (ret (.ref it)) _ _ s
  exact wpAny_pure ⟨_, rfl, "tuple_iterator", _, hT, F.slot_tuple_iterator_next.lookup, h⟩
noncomputable def tupSrc (l : Addr) (xs : List MV) : Src := ⟨MO.tit l, xs, fun led => Has l (.tup xs) led⟩
theorem tupSrc_ok (l : Addr) (xs : List MV) (it : Addr) : (tupSrc l xs).Ok it where
  item C i σ led' v E hh need U hx := fun s R => by
    obtain ⟨ob, ho, hc, hd⟩ := (R.led _ U.mem).1
    obtain ⟨ol, hol, vs, n, ha, rfl⟩ := R.at need
    obtain ⟨y, hy, iy⟩ := ha.get hx
    refine wpAny_pyNext_tuple_item (items := vs.toArray) ⟨ob, ho, hc, hd⟩ ⟨_, hol, rfl, n, rfl⟩ (by simpa using hy) fun h' hit hs => ?_
    obtain ⟨ob', ho', hc', hd'⟩ := hit
    exact ⟨some v, _, ⟨y, rfl, iy⟩, R.upd U hs ho' ⟨hc', hd'⟩, rfl, rfl⟩
  done C i σ led' E hh need e hx := fun s R => by
    obtain ⟨ob, ho, hc, hd⟩ := (R.led (it, MO.tit l i) (by rw [e]; exact .head _)).1
    obtain ⟨ol, hol, vs, n, ha, rfl⟩ := R.at need
    refine wpAny_pyNext_tuple_end (items := vs.toArray) hh ⟨ob, ho, hc, hd⟩ ⟨_, hol, rfl, n, rfl⟩ (by simpa using ha.get_none hx) fun h' hs => ?_
    exact ⟨none, _, rfl, R.gone e hs, rfl, rfl⟩
  self C i σ E h := fun s R => by
    obtain ⟨ob, ho, hc, hd⟩ := R.at h
    exact wpAny_pyIter_tupleiter ⟨ob, ho, hc, hd⟩ ⟨_, _, Is.ref _, R, rfl, rfl⟩
  own i ob h := ⟨_, h.1, by decide +kernel⟩
theorem iter_tup {l : Addr} {xs : List MV} (h : Has l (.tup xs) σ.led) : ITER C (.ref l) (tupSrc l xs) σ := fun v' E i s R => by
  cases i.of_ref
  obtain ⟨ol, hol, vs, n, ha, rfl⟩ := R.at h
  refine wpAny_pyIter_tuple (items := vs.toArray) ⟨_, hol, rfl, n, rfl⟩ ?_
  exact ⟨_, _, Is.ref _, R.alloc (.tit l 0) ⟨rfl, rfl⟩ rfl, _, rfl, tupSrc_ok l xs _, rfl⟩
noncomputable def rangeL (a c : Int) (n : Nat) : List Int := (List.range n).map fun (i : Nat) => a + (i : Int) * c
noncomputable def rangeSrc (a c : Int) (n : Nat) : Src := ⟨fun i => MO.rit (a + (i : Int) * c) ((n : Int) - (i : Int)) c, (rangeL a c n).map .int, fun _ => True⟩
theorem rangeSrc_ok (a c : Int) (n : Nat) (it : Addr) : (rangeSrc a c n).Ok it where
  item C i σ led' v E hh need U hx := fun s R => by
    obtain ⟨ob, ho, hd⟩ := (R.led _ U.mem).1
    simp only [rangeSrc, rangeL, List.getElem?_map, List.map_map] at hx
    by_cases hlt : i < n
    · rw [List.getElem?_range hlt] at hx
      simp only [Option.map_some, Function.comp, Option.some.injEq] at hx
      subst hx
      have hd' : ob = { cls := .type "range_iterator", dict := none, data := .fields #[rawInt (a + (i : Int) * c), rawInt ((n : Int) - (i : Int)), rawInt c], slots := #[] } := hd
      subst hd'
      refine wpAny_pyNext_range_item ho (by omega) fun h' hit hs => ?_
      refine ⟨some (.int (a + (i : Int) * c)), _, ⟨_, rfl, Is.int _ _⟩, R.upd U hs hit ?_ _, rfl, rfl⟩
      have e1 : a + ((i + 1 : Nat) : Int) * c = a + (i : Int) * c + c := by rw [Int.natCast_succ, Int.add_mul]; omega
      have e2 : (n : Int) - ((i + 1 : Nat) : Int) = (n : Int) - (i : Int) - 1 := by omega
      show _ = ({ cls := .type "range_iterator", dict := none, data := .fields #[rawInt (a + ((i + 1 : Nat) : Int) * c), rawInt ((n : Int) - ((i + 1 : Nat) : Int)), rawInt c], slots := #[] } : Obj)
      rw [e1, e2]
    · rw [List.getElem?_eq_none (by simpa using hlt)] at hx; simp at hx
  done C i σ led' E hh need e hx := fun s R => by
    obtain ⟨ob, ho, hd⟩ := (R.led (it, (rangeSrc a c n).at_ i) (by rw [e]; exact .head _)).1
    have hd' : ob = { cls := .type "range_iterator", dict := none, data := .fields #[rawInt (a + (i : Int) * c), rawInt ((n : Int) - (i : Int)), rawInt c], slots := #[] } := hd
    subst hd'
    have : n ≤ i := by
      have := List.getElem?_eq_none_iff.mp hx
      simpa [rangeSrc, rangeL] using this
    refine wpAny_pyNext_range_end hh ho (by omega) fun h' hs => ?_
    exact ⟨none, _, rfl, R.gone e hs, rfl, rfl⟩
  self C i σ E h := fun s R => by
    obtain ⟨ob, ho, hd⟩ := R.at h
    have hd' : ob = { cls := .type "range_iterator", dict := none, data := .fields #[rawInt (a + (i : Int) * c), rawInt ((n : Int) - (i : Int)), rawInt c], slots := #[] } := hd
    subst hd'
    exact wpAny_pyIter_rangeiter ho ⟨_, _, Is.ref _, R, rfl, rfl⟩
  own i ob h := ⟨"range_iterator", by rw [show ob = _ from h], by decide +kernel⟩
theorem iter_range {r : Addr} {a b c : Int} (n : Nat) (h : Has r (.range a b c) σ.led) (hs : Builtin.Range.small a b c = true := by rfl) (hn : Builtin.Range.rangeSize a b c = n := by rfl) : ITER C (.ref r) (rangeSrc a c n) σ := fun v' E i s R => by
  cases i.of_ref
  obtain ⟨ol, hol, t, u, v, rfl⟩ := R.at h
  refine wpAny_pyIter_range hol hs ?_
  refine ⟨_, _, Is.ref _, R.alloc ((rangeSrc a c n).at_ 0) ?_ rfl, _, rfl, rangeSrc_ok a c n _, rfl⟩
  show _ = _
  rw [hn]; simp
noncomputable def keySrc (d : Addr) (ms : List (Int × MV)) (ep : Nat) : Src := ⟨fun i => MO.kit d i ms.length ep, ms.map fun p => .int p.1, fun led => Has d (.dict ms ep) led⟩
theorem keySrc_ok (d : Addr) (ms : List (Int × MV)) (ep : Nat) (it : Addr) : (keySrc d ms ep).Ok it where
  item C i σ led' v E hh need U hx := fun s R => by
    obtain ⟨ob, ho, hc, hd⟩ := (R.led _ U.mem).1
    obtain ⟨kvs, hm, hk⟩ := R.dictAt need
    simp only [keySrc, List.getElem?_map] at hx
    obtain ⟨⟨k, m⟩, hx', rfl⟩ := Option.map_eq_some_iff.mp hx
    obtain ⟨y, hy, iy⟩ := hk.get hx'
    rw [← hk.length] at hd
    refine wpAny_pyNext_dict_item (knd := intKind C.prog C.w) ⟨ob, ho, hc, hd⟩ hm hy fun key h' hkey hit hs => ?_
    obtain ⟨ob', ho', hc', hd'⟩ := hit
    rw [hk.length] at hd'
    obtain ⟨t, rfl⟩ := Value.isInt_shape hkey
    exact ⟨some (.int k), _, ⟨_, rfl, Is.int _ _⟩, R.upd U hs ho' ⟨hc', hd'⟩, rfl, rfl⟩
  done C i σ led' E hh need e hx := fun s R => by
    obtain ⟨ob, ho, hc, hd⟩ := (R.led (it, MO.kit d i ms.length ep) (by rw [e]; exact .head _)).1
    obtain ⟨kvs, hm, hk⟩ := R.dictAt need
    rw [← hk.length] at hd
    refine wpAny_pyNext_dict_end (knd := intKind C.prog C.w) hh ⟨ob, ho, hc, hd⟩ hm (hk.get_none (by simpa [keySrc] using hx)) fun h' hs => ?_
    exact ⟨none, _, rfl, R.gone e hs, rfl, rfl⟩
  self C i σ E h := fun s R => by
    obtain ⟨ob, ho, hc, hd⟩ := R.at h
    exact wpAny_pyIter_keyiter ⟨ob, ho, hc, hd⟩ ⟨_, _, Is.ref _, R, rfl, rfl⟩
  own i ob h := ⟨_, h.1, by decide +kernel⟩
noncomputable def valSrc (d : Addr) (ms : List (Int × MV)) (ep : Nat) : Src := ⟨fun i => MO.vit d i ms.length ep, ms.map fun p => p.2, fun led => Has d (.dict ms ep) led⟩
theorem valSrc_ok (d : Addr) (ms : List (Int × MV)) (ep : Nat) (it : Addr) : (valSrc d ms ep).Ok it where
  item C i σ led' v E hh need U hx := fun s R => by
    obtain ⟨ob, ho, hc, hd⟩ := (R.led _ U.mem).1
    obtain ⟨kvs, hm, hk⟩ := R.dictAt need
    simp only [valSrc, List.getElem?_map] at hx
    obtain ⟨⟨k, m⟩, hx', rfl⟩ := Option.map_eq_some_iff.mp hx
    obtain ⟨y, hy, iy⟩ := hk.get hx'
    rw [← hk.length] at hd
    refine wpAny_pyNext_values_item (knd := intKind C.prog C.w) ⟨ob, ho, hc, hd⟩ hm hy fun h' hit hs => ?_
    obtain ⟨ob', ho', hc', hd'⟩ := hit
    rw [hk.length] at hd'
    exact ⟨some m, _, ⟨y, rfl, iy⟩, R.upd U hs ho' ⟨hc', hd'⟩, rfl, rfl⟩
  done C i σ led' E hh need e hx := fun s R => by
    obtain ⟨ob, ho, hc, hd⟩ := (R.led (it, MO.vit d i ms.length ep) (by rw [e]; exact .head _)).1
    obtain ⟨kvs, hm, hk⟩ := R.dictAt need
    rw [← hk.length] at hd
    refine wpAny_pyNext_values_end (knd := intKind C.prog C.w) hh ⟨ob, ho, hc, hd⟩ hm (hk.get_none (by simpa [valSrc] using hx)) fun h' hs => ?_
    exact ⟨none, _, rfl, R.gone e hs, rfl, rfl⟩
  self C i σ E h := fun s R => by
    obtain ⟨ob, ho, hc, hd⟩ := R.at h
    exact wpAny_pyIter_valiter ⟨ob, ho, hc, hd⟩ ⟨_, _, Is.ref _, R, rfl, rfl⟩
  own i ob h := ⟨_, h.1, by decide +kernel⟩
theorem iter_keys {d : Addr} {ms : List (Int × MV)} {ep : Nat} (hS : (d == sysModules) = false) (h : Has d (.dict ms ep) σ.led) : ITER C (.ref d) (keySrc d ms ep) σ := fun v' E i s R => by
  cases i.of_ref
  obtain ⟨kvs, hm, hk⟩ := R.dictAt h
  refine wpAny_pyIter_dict (knd := intKind C.prog C.w) hS hm ?_
  rw [hk.length]
  exact ⟨_, _, Is.ref _, R.alloc ((keySrc d ms ep).at_ 0) ⟨rfl, rfl⟩ rfl, _, rfl, keySrc_ok d ms ep _, rfl⟩
theorem iter_vals {v d : Addr} {ms : List (Int × MV)} {ep : Nat} (hv : Has v (.vals d) σ.led) (h : Has d (.dict ms ep) σ.led) : ITER C (.ref v) (valSrc d ms ep) σ := fun v' E i s R => by
  cases i.of_ref
  obtain ⟨kvs, hm, hk⟩ := R.dictAt h
  obtain ⟨ob, ho, hc, hd⟩ := R.at hv
  refine wpAny_pyIter_values (knd := intKind C.prog C.w) ⟨ob, ho, hc, hd⟩ hm ?_
  rw [hk.length]
  exact ⟨_, _, Is.ref _, R.alloc ((valSrc d ms ep).at_ 0) ⟨rfl, rfl⟩ rfl, _, rfl, valSrc_ok d ms ep _, rfl⟩
end
theorem compTurn_at {elt t iter : PySem.Expr} {ifs : List PySem.Expr} {gens : List Comprehension} {sc : Scope} {pos : Pos} {d : Nat} (hg : gens[d]? = some ⟨t, iter, ifs, 0⟩) (it acc : Value) (env : Env) :
    compTurn (.ListComp elt gens sc pos) d it acc env = (do
      standAt iter.pos
      match ← pyNext it with
      | none => pure (.done .next)
      | some v =>
        letOwnedTupleGo t it v
        assign t env v
        let mut ok := true
        for c in ifs do
          if ok then ok ← PySem.isTrue c env (eval c env)
        if ok then
          match gens[d + 1]? with
          | some g' =>
            let x ← eval g'.iter env
            standAt g'.iter.pos
            let x ← if g'.is_async != 0 then foldedIterable g'.iter x else foldedSetIterable g'.iter env x
            let _ ← runOwn (.compStart (.ListComp elt gens sc pos) (d + 1) (← holding [x] (if g'.is_async != 0 then asyncIter x else pyIter x)) acc env) env
          | none => (do let _ ← call (.builtin "list.append") [acc, ← eval elt env])
        again (.compLoop (.ListComp elt gens sc pos) d it acc env)) := by
  unfold compTurn
  simp only [hg]
  rfl
section
variable {C : Cx} {σ : MS} {s : Shared} {E : Value → Shared → Prop} {gl : List (Str × MV)} {names : List (Str × NameKind)} {cells : List (Str × Addr)}
noncomputable abbrev NoE : Value → Shared → Prop := fun _ _ => False
noncomputable abbrev CLP (C : Cx) (e : PySem.Expr) (d : Nat) (it acc : Addr) (Q : MS → Prop) (σ : MS) : Prop := ∀ s, Rel C σ s → codeAny (model C.prog C.w) C.A (.compLoop e d (.ref it) (.ref acc) C.env) (fun r s' => r = .ok .next ∧ ∃ σ', Rel C σ' s' ∧ Q σ') s
noncomputable abbrev TESTS (C : Cx) (ifs : List PySem.Expr) (Q : Bool → MS → Prop) (σ : MS) : Prop := AW C Eq (forIn ifs true fun c r => if r = true then do let ok ← PySem.isTrue c C.env (eval c C.env); pure (ForInStep.yield ok) else pure (ForInStep.yield r)) Q NoE σ
theorem s_nil {Q : Bool → MS → Prop} (h : Q true σ) : TESTS C [] Q σ := fun s R => wpAny_pure ⟨true, σ, rfl, R, h⟩
theorem s_one {c : PySem.Expr} {Q : Bool → MS → Prop} (h : TR C c Q NoE σ) : TESTS C [c] Q σ := fun s R => wpAny_tests_one (h s R)
noncomputable def EMIT (C : Cx) (elt : PySem.Expr) (gens : List Comprehension) (sc : Scope) (pos : Pos) (d : Nat) (acc : Addr) (Q : MS → Prop) (σ : MS) : Prop :=
  match gens[d + 1]? with
  | none => EV C elt (fun v σ₁ => CALLB C "list.append" [.ref acc, v] (fun _ σ₂ => Q σ₂) NoE σ₁) NoE σ
  | some g' => g'.is_async = 0 ∧ (∀ x, foldedSetIterable g'.iter C.env x = pure x) ∧ EV C g'.iter (fun v σ₁ => ∃ S, ITER C v S σ₁ ∧ ∀ it, S.Ok it → CLP C (.ListComp elt gens sc pos) (d + 1) it acc Q ⟨σ₁.loc, (it, S.at_ 0) :: σ₁.led⟩) NoE σ
theorem c_start {elt t iter : PySem.Expr} {ifs : List PySem.Expr} {gens : List Comprehension} {sc : Scope} {pos : Pos} {d : Nat} {it acc : Addr} {Q : MS → Prop} {S : Src} {i : Nat} (hg : gens[d]? = some ⟨t, iter, ifs, 0⟩) (So : S.Ok it) (hi : Has it (S.at_ i) σ.led)
    (h : CLP C (.ListComp elt gens sc pos) d it acc Q σ) : ∀ s, Rel C σ s → codeAny (model C.prog C.w) C.A (.compStart (.ListComp elt gens sc pos) d (.ref it) (.ref acc) C.env) (fun r s' => r = .ok .next ∧ ∃ σ', Rel C σ' s' ∧ Q σ') s := fun s R => by
  refine codeAny_of_tree ?_
  show wpAny _ _ ((compStart (.ListComp elt gens sc pos) d (.ref it) (.ref acc) C.env).onRaise (fun x => do noteFrame x C.env; standAt theWindowsPlace)) _ _ s
  refine wpAny_notedAt ?_
  unfold compStart
  have hc : clausesOf (.ListComp elt gens sc pos) = gens := rfl
  rw [hc, hg]
  show wpAny _ _ (ask >>= _) _ _ s
  refine wpAny_bind (wpAny_askSetting (wpAny_ite ?_))
  have h0 := h s R
  have h1 : wpAny (model C.prog C.w) C.A (pyIter (.ref it)) (fun it' s' => codeAny (model C.prog C.w) C.A (.compLoop (.ListComp elt gens sc pos) d it' (.ref acc) C.env) (fun r s' => r = .ok .next ∧ ∃ σ', Rel C σ' s' ∧ Q σ') s') (notedBy (model C.prog C.w) C.A C.env fun x s' => False) s :=
    wpAny_mono (So.self C (E := NoE) hi s R) (fun r s' ⟨b, σ', ib, R', e1, e2⟩ => by subst e1 e2; cases ib.of_ref; exact h s' R') fun _ _ e => e.elim
  split
  · first
      | exact wpAny_bind (wpAny_pure (wpAny_pure (And.intro rfl h0)))
      | exact wpAny_pure (And.intro rfl h0)
  · refine wpAny_bind (wpAny_rule ?_)
    show wpAny _ _ (standAt iter.pos >>= _) _ _ s
    exact wpAny_bind (wpAny_standAt (wpAny_bind (wpAny_mono h1 (fun it' s' h' => wpAny_pure (And.intro rfl h')) fun _ _ x => by
      unfold notedBy at x ⊢
      exact wpAny_mono x (fun _ _ f => f.elim) fun _ _ f => f.elim)))
theorem c_loop0 {elt t iter : PySem.Expr} {ifs : List PySem.Expr} {gens : List Comprehension} {sc : Scope} {pos : Pos} {d : Nat} {it acc : Addr} {Q : MS → Prop} {S : Src} (hg : gens[d]? = some ⟨t, iter, ifs, 0⟩) (hh : C.A.handled = none) (So : S.Ok it)
    (I : Nat → Loc → List (Addr × MO) → Prop) {loc : Loc} {led : List (Addr × MO)} (h0 : I 0 loc led) (hneed : ∀ i loc led it o, I i loc led → S.need ((it, o) :: led))
    (turn : ∀ i x o loc led, I i loc led → S.items[i]? = some x → ASG C t x (fun _ σ₁ => TESTS C ifs (fun ok σ₂ => if ok = true then EMIT C elt gens sc pos d acc (fun σ₃ => ∃ led', Take ((it, o) :: led') σ₃.led ∧ I (i + 1) σ₃.loc led') σ₂
      else ∃ led', Take ((it, o) :: led') σ₂.led ∧ I (i + 1) σ₂.loc led') σ₁) NoE ⟨loc, (it, o) :: led⟩)
    (done : ∀ loc led, I S.items.length loc led → Q ⟨loc, led⟩) : CLP C (.ListComp elt gens sc pos) d it acc Q ⟨loc, (it, S.at_ 0) :: led⟩ := fun s R => by
  refine codeAny_loop rfl (fun n s => ∃ i loc led, n + i = S.items.length ∧ I i loc led ∧ Rel C ⟨loc, (it, S.at_ i) :: led⟩ s) (fun n s hn => ?_) S.items.length ⟨0, loc, led, rfl, h0, R⟩
  obtain ⟨i, loc, led, hi, hI, R⟩ := hn
  show wpAny _ C.A ((compTurn (.ListComp elt gens sc pos) d (.ref it) (.ref acc) C.env).onRaise (fun x => do noteFrame x C.env; theTreesLotGoes x)) _ _ s
  refine wpAny_noted ?_
  rw [compTurn_at hg]
  refine wpAny_bind (wpAny_standAt (wpAny_bind ?_))
  cases hx : S.items[i]? with
  | none =>
    have hlen : i = S.items.length := by
      have := List.getElem?_eq_none_iff.mp hx; omega
    subst hlen
    refine wpAny_mono (So.done C (E := NoE) hh (hneed _ _ _ it _ hI) rfl hx s R) (fun o s₁ h₁ => ?_) fun _ _ e => e.elim
    obtain ⟨o', σ₁, io, R₁, rfl, rfl⟩ := h₁
    cases io
    exact wpAny_pure ⟨rfl, _, R₁, done loc led hI⟩
  | some y =>
    have hlt := (List.getElem?_eq_some_iff.mp hx).1
    refine wpAny_mono (So.item C (E := NoE) hh (hneed _ _ _ it _ hI) .head hx s R) (fun o s₁ h₁ => ?_) fun _ _ e => e.elim
    obtain ⟨o', σ₁, io, R₁, rfl, rfl⟩ := h₁
    obtain ⟨yv, rfl, iy⟩ := io
    refine wpAny_bind (wpAny_mono (So.owned (i := i + 1) (C := C) (E := NoE) (σ := ⟨loc, (it, S.at_ (i + 1)) :: led⟩) (target := t) (Q := fun _ σ' => σ' = ⟨loc, (it, S.at_ (i + 1)) :: led⟩) .head rfl s₁ R₁) (fun _ s₁' h₁' => ?_) fun _ _ e => e.elim)
    obtain ⟨_, _, _, R₁', rfl⟩ := h₁'
    refine wpAny_bind (wpAny_mono (turn i y _ loc led hI hx yv iy s₁' R₁') (fun _ s₂ h₂ => ?_) fun _ _ e => e.elim)
    obtain ⟨_, σ₂, _, R₂, k⟩ := h₂
    refine wpAny_bind (wpAny_mono (k s₂ R₂) (fun ok s₃ h₃ => ?_) fun _ _ e => e.elim)
    obtain ⟨ok', σ₃, rfl, R₃, q⟩ := h₃
    have fin : ∀ {σ₄ : MS} {s₄ : Shared}, Rel C σ₄ s₄ → (∃ led', Take ((it, S.at_ (i + 1)) :: led') σ₄.led ∧ I (i + 1) σ₄.loc led') → ∃ m, m < n ∧ ∃ i loc led, m + i = S.items.length ∧ I i loc led ∧ Rel C ⟨loc, (it, S.at_ i) :: led⟩ s₄ := fun R₄ ⟨led', t, q⟩ =>
      ⟨n - 1, by omega, i + 1, _, led', by omega, q, R₄.take t⟩
    cases ok' with
    | false => exact wpAny_pure ⟨rfl, fin R₃ q⟩
    | true =>
      rw [if_pos rfl] at q ⊢
      unfold EMIT at q
      cases hg' : gens[d + 1]? with
      | none =>
        rw [hg'] at q
        refine wpAny_bind (wpAny_bind (wpAny_mono (q s₃ R₃) (fun v s₄ h₄ => ?_) fun _ _ e => e.elim))
        obtain ⟨m, σ₄, iv, R₄, q₄⟩ := h₄
        refine wpAny_bind (wpAny_mono (q₄ _ (.cons (Is.ref _) (.cons iv .nil)) s₄ R₄) (fun r s₅ h₅ => ?_) fun _ _ e => e.elim)
        obtain ⟨_, σ₅, _, R₅, q₅⟩ := h₅
        exact wpAny_pure (wpAny_pure ⟨rfl, fin R₅ q₅⟩)
      | some g' =>
        rw [hg'] at q
        obtain ⟨ha, hs, q⟩ := q
        refine wpAny_bind (wpAny_mono (q s₃ R₃) (fun v s₄ h₄ => ?_) fun _ _ e => e.elim)
        obtain ⟨m, σ₄, iv, R₄, S', hit, q₄⟩ := h₄
        have hz : (g'.is_async != 0) = false := by rw [ha]; rfl
        rw [hz]
        refine wpAny_bind (wpAny_standAt ?_)
        rw [if_neg (by decide)]
        refine wpAny_bind (wpAny_of_eq (hs v) ?_)
        dsimp only
        rw [if_neg (by decide)]
        refine wpAny_bind (wpAny_holding (wpAny_mono (hit v NoE iv s₄ R₄) (fun itv s₅ h₅ => ?_) fun _ _ e => e.elim))
        obtain ⟨r, σ₅, ir, R₅, it', rfl, So', rfl⟩ := h₅
        cases ir.of_ref
        obtain ⟨t', iter', ifs', as'⟩ := g'
        cases ha
        refine wpAny_bind (wpAny_runOwn (codeAny_mono (c_start hg' So' (i := 0) .head (q₄ it' So') s₅ R₅) fun r s₆ h₆ => ?_))
        obtain ⟨rfl, σ₆, R₆, q₆⟩ := h₆
        exact wpAny_pure ⟨rfl, fin R₆ q₆⟩
theorem c_loop {elt t iter : PySem.Expr} {ifs : List PySem.Expr} {gens : List Comprehension} {sc : Scope} {pos : Pos} {d : Nat} {it acc : Addr} {Q : MS → Prop} {S : Src} (hg : gens[d]? = some ⟨t, iter, ifs, 0⟩) (hh : C.A.handled = none) (So : S.Ok it)
    (I : Nat → Loc → List (Addr × MO) → Prop) {loc : Loc} {led : List (Addr × MO)} (h0 : I 0 loc led) (hneed : ∀ i loc led it o, I i loc led → S.need ((it, o) :: led))
    (turn : ∀ i x o loc led, I i loc led → S.items[i]? = some x → ∀ QQ : MS → Prop, (∀ σ₃, (∃ led', Take ((it, o) :: led') σ₃.led ∧ I (i + 1) σ₃.loc led') → QQ σ₃) → ASG C t x (fun _ σ₁ => TESTS C ifs (fun ok σ₂ => if ok = true then EMIT C elt gens sc pos d acc QQ σ₂ else QQ σ₂) σ₁) NoE ⟨loc, (it, o) :: led⟩)
    (done : ∀ loc led, I S.items.length loc led → Q ⟨loc, led⟩) : CLP C (.ListComp elt gens sc pos) d it acc Q ⟨loc, (it, S.at_ 0) :: led⟩ :=
  c_loop0 hg hh So I h0 hneed (fun i x o loc led h hx => turn i x o loc led h hx _ fun _ h => h) done
end
inductive Relab (names : List (Str × NameKind)) (cells : List (Str × Addr)) : List (Str × NameKind) → List (Str × NameKind) → List (Str × Addr) → Loc → Prop where
  | nil : Relab names cells [] [] [] []
  | loc {x r n c l} : Relab names cells r n c l → Relab names cells ((x, .local) :: r) ((x, .local) :: n) c ((x, none) :: l)
  | glob {x r n c l} : Relab names cells r n c l → Relab names cells ((x, .globalImplicit) :: r) ((x, .globalImplicit) :: n) c l
  | free {x a r n c l} : Has x .cell names → Has x a cells → Relab names cells r n c l → Relab names cells ((x, .free) :: r) ((x, .cell) :: n) ((x, a) :: c) l
section
variable {C : Cx} {σ : MS} {s : Shared} {E : Value → Shared → Prop} {gl : List (Str × MV)} {names : List (Str × NameKind)} {cells : List (Str × Addr)}
theorem Relab.keys {sn n c l} (h : Relab names cells sn n c l) : n.map (·.1) = sn.map (·.1) := by
  induction h with
  | nil => rfl
  | loc _ ih => simp [ih]
  | glob _ ih => simp [ih]
  | free _ _ _ ih => simp [ih]
theorem Relab.loc_keys {sn n c l} (h : Relab names cells sn n c l) : (l.map (·.1)).Sublist (sn.map (·.1)) := by
  induction h with
  | nil => exact .slnil
  | loc _ ih => exact ih.cons_cons _
  | glob _ ih => exact ih.cons _
  | free _ _ _ ih => exact ih.cons _
theorem Relab.cell_keys {sn n c l} (h : Relab names cells sn n c l) : (c.map (·.1)).Sublist (sn.map (·.1)) := by
  induction h with
  | nil => exact .slnil
  | loc _ ih => exact ih.cons _
  | glob _ ih => exact ih.cons _
  | free _ _ _ ih => exact ih.cons_cons _
theorem Relab.loc_none {sn n c l} (h : Relab names cells sn n c l) : ∀ p ∈ l, p.2 = none := by
  induction h with
  | nil => intro p hp; cases hp
  | loc _ ih => intro p hp; exact (List.mem_cons.mp hp).elim (fun e => by subst e; exact rfl) (ih p)
  | glob _ ih => exact ih
  | free _ _ _ ih => exact ih
theorem Relab.nocell {sn n c l} (h : Relab names cells sn n c l) : ∀ y ∈ sn, y.2 ≠ .cell := by
  induction h with
  | nil => intro p hp; cases hp
  | loc _ ih => intro p hp; exact (List.mem_cons.mp hp).elim (fun e => by subst e; intro h; cases h) (ih p)
  | glob _ ih => intro p hp; exact (List.mem_cons.mp hp).elim (fun e => by subst e; intro h; cases h) (ih p)
  | free _ _ _ ih => intro p hp; exact (List.mem_cons.mp hp).elim (fun e => by subst e; intro h; cases h) (ih p)
theorem Relab.relabel (O : C.Ok gl names cells) {sn n c l} (h : Relab names cells sn n c l) :
    (sn.map fun (x : Str × NameKind) => if (x.2 == NameKind.free && C.env.scope.kind == .function && C.env.kindOf x.1 == some .cell) = true then (x.1, NameKind.cell) else (x.1, x.2)) = n := by
  induction h with
  | nil => rfl
  | loc _ ih => rw [List.map_cons, ih, if_neg (by intro h; cases h)]
  | glob _ ih => rw [List.map_cons, ih, if_neg (by intro h; cases h)]
  | free a b _ ih => rw [List.map_cons, ih, if_pos (by rw [O.kindOf a, O.kind]; rfl)]
theorem Relab.clos (O : C.Ok gl names cells) {sn n c l} (h : Relab names cells sn n c l) : ∀ acc : List (Str × Addr),
    (forIn sn acc (fun (x : Str × NameKind) (cs : List (Str × Addr)) => if (x.2 == NameKind.free) = true then (do let a ← cellOf C.env x.1; pure (ForInStep.yield ((x.1, a) :: cs))) else pure (ForInStep.yield cs) : Str × NameKind → List (Str × Addr) → Sem (ForInStep (List (Str × Addr))))) = pure (c.reverse ++ acc) := by
  induction h with
  | nil => intro acc; rfl
  | loc _ ih => intro acc; rw [List.forIn_cons, if_neg (by intro h; cases h)]; exact ih acc
  | glob _ ih => intro acc; rw [List.forIn_cons, if_neg (by intro h; cases h)]; exact ih acc
  | @free x a r n c l _ b _ ih =>
    intro acc
    rw [List.forIn_cons, if_pos (show ((x, NameKind.free).2 == NameKind.free) = true from rfl)]
    have e : cellOf C.env x = pure a := by unfold cellOf; rw [O.cl _ b.mem]
    simp only [e]
    have := ih ((x, a) :: acc)
    simp only [List.reverse_cons, List.append_assoc, List.singleton_append]
    exact this
theorem Relab.closure (O : C.Ok gl names cells) {sc : Scope} {n c l} (h : Relab names cells sc.names n c l) : closureFor sc C.env = pure c.reverse := by
  have := h.clos O []
  rw [List.append_nil] at this
  unfold closureFor
  simp only
  have e : (forIn sc.names ([] : List (Str × Addr)) fun x cs => (match x with | (name, kind) => if (kind == NameKind.free) = true then (do let __do_lift ← cellOf C.env name; pure (ForInStep.yield ((name, __do_lift) :: cs))) else pure (ForInStep.yield cs) : Sem (ForInStep (List (Str × Addr))))) = pure c.reverse := this
  first
    | (rw [e]; rfl)
    | (simp only [e]; rfl)
    | exact this
noncomputable def Cx.comp (C : Cx) (env : Env) (L : Addr) (loc : Loc) : Cx := { C with env := env, L := L, outs := (C.L, loc) :: C.outs }
theorem Rel.enterC (R : Rel C σ s) {env : Env} {L : Addr} {h₁ : Heap} {m : Str → Option Value} {t : Nat} {loc : Loc} (hL : s.heap.objs.size = L) (hn : h₁.Ns L m) (hk : ∀ b o, s.heap.get? b = some o → h₁.get? b = some o) (hl : ∀ p ∈ loc, LocIs (m p.1) p.2) (hnd : (loc.map (·.1)).Nodup) :
    Rel (C.comp env L σ.loc) ⟨loc, σ.led⟩ { s with heap := h₁, toks := t } := by
  subst hL
  have := R.enter (env := env) (t := t) hn hk hl hnd
  exact ⟨this.keep, this.here, this.hereNew, this.lnd, this.outs, this.led, this.nd, this.gens, this.os⟩
theorem Rel.leaveC {env : Env} {L : Addr} {σ' : MS} {s' : Shared} (R : Rel C σ s) (R' : Rel (C.comp env L σ.loc) σ' s') : Rel C ⟨σ.loc, σ'.led⟩ s' ∧ Off C ⟨σ.loc, σ'.led⟩ L := by
  have h0 := R'.outs (C.L, σ.loc) (.head _)
  refine ⟨⟨R'.keep, h0.1, R.hereNew, R.lnd, fun p hp => ⟨(R'.outs p (.tail _ hp)).1, (R.outs p hp).2⟩, fun p hp => ?_, R'.nd, R'.gens, R'.os⟩, ⟨R'.hereNew, Ne.symm h0.2.2, fun p hp => (R'.outs p (.tail _ hp)).2.2, fun p hp => (R'.led p hp).2.2.1⟩⟩
  have := R'.led p hp
  exact ⟨this.1, this.2.1, Ne.symm (this.2.2.2 (C.L, σ.loc) (.head _)), fun q hq => this.2.2.2 q (.tail _ hq)⟩
theorem Cx.Ok.comp (O : C.Ok gl names cells) {sc : Scope} {L : Addr} {loc : Loc} {n c l} (h : Relab names cells sc.names n c l) (hk : sc.kind = .function) (hnd : (sc.names.map (·.1)).Nodup) (hdb : (n.all fun p => !(p.1 == ("__debug__" : Str))) = true) :
    (C.comp (compEnvC sc c.reverse L C.env) L loc).Ok gl n c := by
  obtain ⟨e, fs, h1, h2, h3⟩ := O.frames
  have hcn : ((c.reverse).map (·.1)).Nodup := by
    rw [List.map_reverse]; exact (List.reverse_perm _).nodup_iff.mpr (h.cell_keys.nodup hnd)
  refine ⟨O.kin, O.nolimit, O.glob, hk, h.relabel O, by rw [h.keys]; exact hnd, hdb, fun p hp => lookup_of_mem (List.mem_reverse.mpr hp) hcn, rfl, O.globals, O.builtins, ⟨e, fs, h1, h2, fun e' he => ?_⟩, O.depth, O.units⟩
  obtain ⟨x, f, y, z⟩ := h3 e' he
  refine ⟨x, f, y, .inr ?_⟩
  rcases z with rfl | ⟨p, hp, rfl⟩
  · exact ⟨_, .head _, rfl⟩
  · exact ⟨p, .tail _ hp, rfl⟩
noncomputable abbrev COMP (C : Cx) (gl : List (Str × MV)) (elt : PySem.Expr) (gens : List Comprehension) (sc : Scope) (pos : Pos) (n : List (Str × NameKind)) (c : List (Str × Addr)) (l : Loc) (v : MV) (K : Addr → List (Addr × MO) → Prop) (σ : MS) : Prop :=
  ∃ S, ITER C v S σ ∧ ∀ (C' : Cx) (it D : Addr), C'.Ok gl n c → C'.prog = C.prog → C'.w = C.w → C'.K = C.K → C'.lv = C.lv → C'.A = C.A → C'.hb = C.hb → S.Ok it →
    CLP C' (.ListComp elt gens sc pos) 0 it D (fun σ' => K D σ'.led) ⟨l, (it, S.at_ 0) :: (D, .list []) :: σ.led⟩
theorem comp_core (O : C.Ok gl names cells) {elt t iter : PySem.Expr} {ifs : List PySem.Expr} {rest : List Comprehension} {sc : Scope} {pos : Pos} {n c l} (hR : Relab names cells sc.names n c l) (hk : sc.kind = .function) (hnd : (sc.names.map (·.1)).Nodup) (hdb : (n.all fun p => !(p.1 == ("__debug__" : Str))) = true)
    {v : MV} {K : Addr → List (Addr × MO) → Prop} {RR : Value → Addr → Result → Shared → Prop} (h : COMP C gl elt (⟨t, iter, ifs, 0⟩ :: rest) sc pos n c l v K σ)
    (hRR : ∀ D L s' σ', Rel (C.comp (compEnvC sc c.reverse L C.env) L σ.loc) σ' s' → K D σ'.led → RR (.ref D) L (.ok .next) s') :
    ∀ x, Is x v → ∀ s, Rel C σ s → wpAny (model C.prog C.w) C.A (pyIter x) (fun it s₂ => wpAny (model C.prog C.w) C.A (newList []) (fun acc s₃ => wpAny (model C.prog C.w) C.A (newFunctionEnv sc C.env.globals c.reverse [] C.env.qual none .none (some C.env)) (fun cenv s₄ =>
      codeAny (model C.prog C.w) C.A (.compStart (.ListComp elt (⟨t, iter, ifs, 0⟩ :: rest) sc pos) 0 it acc { cenv with scope := relabel sc C.env }) (RR acc cenv.locals) s₄) E s₃) E s₂) E s := by
  intro x ix s R
  obtain ⟨S, hit, h⟩ := h
  refine wpAny_mono (hit x E ix s R) (fun itv s₂ h₂ => ?_) fun _ _ e => e
  obtain ⟨r, σ₂, ir, R₂, it, rfl, So, rfl⟩ := h₂
  cases ir.of_ref
  refine wpAny_newObj_type ?_
  have R₃ := R₂.alloc (.list []) ⟨[], 0, .nil, rfl⟩ (o := { cls := .type "list", dict := none, data := .seq ([] : List Value).toArray }) rfl
  have R₃' : Rel C ⟨σ.loc, (it, S.at_ 0) :: (s₂.heap.objs.size, .list []) :: σ.led⟩ _ := R₃.perm (.swap ..)
  refine wpAny_newFunctionEnv hR.nocell (by intro y hy; simp at hy) (fun h₁ hns₁ hsb₁ => ?_) hk
  have hkeep : ∀ b o, (s₂.heap.push { cls := .type "list", dict := none, data := .seq ([] : List Value).toArray }).get? b = some o → h₁.get? b = some o := fun b o e =>
    hsb₁.extBut b o (Nat.ne_of_lt (Heap.lt_size e)) (Heap.get?_push_of_some _ e)
  have R₄ := R₃'.enterC (env := compEnvC sc c.reverse (s₂.heap.push { cls := .type "list", dict := none, data := .seq ([] : List Value).toArray }).objs.size C.env) (t := s₂.toks + ([] : List (Str × Value)).length) (loc := l) rfl hns₁ hkeep
    (fun p hp => by rw [hR.loc_none p hp]; trivial) (hR.loc_keys.nodup hnd)
  have O' := O.comp (L := (s₂.heap.push { cls := .type "list", dict := none, data := .seq ([] : List Value).toArray }).objs.size) (loc := σ.loc) hR hk hnd hdb
  refine codeAny_mono (c_start (d := 0) rfl So (i := 0) .head (h _ it s₂.heap.objs.size O' rfl rfl rfl rfl rfl rfl So) _ R₄) fun r s' hr => ?_
  obtain ⟨rfl, σ', R', q⟩ := hr
  exact hRR _ _ s' σ' R' q
theorem r_comp (O : C.Ok gl names cells) {elt t iter : PySem.Expr} {ifs : List PySem.Expr} {rest : List Comprehension} {sc : Scope} {pos : Pos} {n c l} {Q : MV → MS → Prop} (hR : Relab names cells sc.names n c l) (hk : sc.kind = .function) (hnd : (sc.names.map (·.1)).Nodup) (hdb : (n.all fun p => !(p.1 == ("__debug__" : Str))) = true)
    (h : EV C iter (fun v σ₁ => COMP C gl elt (⟨t, iter, ifs, 0⟩ :: rest) sc pos n c l v (fun D led => Q (.ref D) ⟨σ₁.loc, led⟩) σ₁) E σ) (hs : ∀ x, foldedSetIterable iter C.env x = pure x := by intro _; rfl) :
    EV C (.ListComp elt (⟨t, iter, ifs, 0⟩ :: rest) sc pos) Q E σ := fun s R => by
  rw [eval_ListComp]
  refine wpAny_comprehension_free (use := none) rfl hs (hR.closure O) hk (fun x hx e => by rw [← e]; exact lookup_of_mem hx hnd) (wpAny_mono (h s R) (fun xv s₁ h₁ => ?_) fun _ _ e => e)
  obtain ⟨v, σ₁, iv, R₁, h₁⟩ := h₁
  refine comp_core O hR hk hnd hdb h₁ (RR := fun acc L => compPost (model C.prog C.w) C.A E none _ acc L) (fun D L s' σ' R' q => ?_) xv iv s₁ R₁
  obtain ⟨m, hn, _⟩ := R'.here
  obtain ⟨R₂, off⟩ := R₁.leaveC R'
  exact ⟨m, hn, fun h' hs' => ⟨.ref D, _, Is.ref _, R₂.same_off off (fun b hb => hs'.2 b hb), q⟩⟩
theorem swaps_local (O : C.Ok gl names cells) {elt : PySem.Expr} {gens : List Comprehension} {sc : Scope} {pos py : Pos} {y : Str} {line : Nat} (hy : Has y .local names) (hl : (py.line == pos.line) = true) (ho : (sc.names.any fun x => x.1 == y && (x.2 == .local || x.2 == .cell)) = false) :
    swapsWith (.ListComp elt gens sc pos) (some (.Name y py)) line C.env = pure true := by
  unfold swapsWith
  show (pure (C.env.blockKind == .function && C.env.kindOf y == some .local && py.line == pos.line && !(sc.names.any fun x => x.1 == y && (x.2 == .local || x.2 == .cell))) : Sem Bool) = _
  have : C.env.blockKind = .function := by unfold Env.blockKind; rw [O.kind]; rfl
  rw [this, O.kindOf hy, hl, ho]; rfl
theorem swaps_cell (O : C.Ok gl names cells) {elt : PySem.Expr} {gens : List Comprehension} {sc : Scope} {pos py : Pos} {y : Str} {line : Nat} (hy : Has y .cell names) :
    swapsWith (.ListComp elt gens sc pos) (some (.Name y py)) line C.env = pure false := by
  unfold swapsWith
  show (pure (C.env.blockKind == .function && C.env.kindOf y == some .local && py.line == pos.line && !(sc.names.any fun x => x.1 == y && (x.2 == .local || x.2 == .cell))) : Sem Bool) = _
  rw [O.kindOf hy]
  have : (some NameKind.cell == some NameKind.local) = false := by decide
  rw [this, Bool.and_false, Bool.false_and, Bool.false_and]
theorem r_comp_assign (O : C.Ok gl names cells) {elt t iter : PySem.Expr} {ifs : List PySem.Expr} {rest : List Comprehension} {sc : Scope} {pos spos py : Pos} {y : Str} {n c l} {Q : MF → MS → Prop} (hR : Relab names cells sc.names n c l) (hk : sc.kind = .function) (hnd : (sc.names.map (·.1)).Nodup) (hdb : (n.all fun p => !(p.1 == ("__debug__" : Str))) = true)
    (hy : Has y .local names) (hl : (py.line == pos.line) = true) (ho : (sc.names.any fun x => x.1 == y && (x.2 == .local || x.2 == .cell)) = false)
    (h : EV C iter (fun v σ₁ => COMP C gl elt (⟨t, iter, ifs, 0⟩ :: rest) sc pos n c l v (fun D led => ∃ loc', Put y (some (.ref D)) σ₁.loc loc' ∧ Q .next ⟨loc', led⟩) σ₁) E σ) (hs : ∀ x, foldedSetIterable iter C.env x = pure x := by intro _; rfl) :
    EX C (.Assign [.Name y py] (.ListComp elt (⟨t, iter, ifs, 0⟩ :: rest) sc pos) spos) Q E σ := fun s R => by
  rw [exec_Assign_Name_used _ _ _ _ (swaps_local O hy hl ho)]
  refine wpAny_bind (wpAny_standAt (wpAny_bind ?_))
  show wpAny _ C.A (do let _ ← comprehension (.ListComp elt (⟨t, iter, ifs, 0⟩ :: rest) sc pos) sc C.env _ (newList []) false (eval iter C.env) (some (assign (.Name y py) C.env))) _ _ s
  refine wpAny_bind (wpAny_mono (wpAny_comprehension_free (use := some (assign (.Name y py) C.env)) (Q := fun _ s' => Post C FlowIs Q Flow.next s') rfl hs (hR.closure O) hk (fun x hx e => by rw [← e]; exact lookup_of_mem hx hnd)
    (wpAny_mono (h s R) (fun xv s₁ h₁ => ?_) fun _ _ e => e)) (fun _ s' hq => wpAny_pure (wpAny_pure hq)) fun _ _ e => e)
  obtain ⟨v, σ₁, iv, R₁, h₁⟩ := h₁
  refine comp_core O hR hk hnd hdb h₁ (RR := fun acc L => compPost (model C.prog C.w) C.A E (some (assign (.Name y py) C.env)) _ acc L) (fun D L s' σ' R' q => ?_) xv iv s₁ R₁
  obtain ⟨m, hn, _⟩ := R'.here
  obtain ⟨R₂, off⟩ := R₁.leaveC R'
  obtain ⟨loc', hp, q⟩ := q
  show wpAny _ C.A (assign (.Name y py) C.env (.ref D)) _ _ _
  refine wpAny_assign_Name ?_
  obtain ⟨m₂, hn₂, hm₂⟩ := R₂.here
  -- the store, with the comprehension's own names kept
  have key : ∀ s'' , (∃ (h'' : Heap) (t'' : Nat), s'' = { s' with heap := h'', toks := t'' } ∧ Heap.SameBut C.L s'.heap h'') → Rel C ⟨loc', σ'.led⟩ s'' → ∃ m, s''.heap.Ns L m ∧ ∀ h', Heap.SameBut L s''.heap h' → Post C FlowIs Q Flow.next { s'' with heap := h' } := by
    rintro s'' ⟨h'', t'', rfl, hs''⟩ R₃
    obtain ⟨o, es, ep, ho, r⟩ := hn
    refine ⟨m, ⟨o, es, ep, (hs''.2 _ off.here).trans ho, r⟩, fun h' hs' => ⟨.next, _, rfl, R₃.same_off ⟨off.new, off.here, off.outs, off.led⟩ (fun b hb => hs'.2 b hb), q⟩⟩
  have st := r_store (C := C) (σ := ⟨σ₁.loc, σ'.led⟩) (E := E) (Q := fun _ σ'' => σ'' = ⟨loc', σ'.led⟩) O hy hp rfl (.ref D) (Is.ref D) s' R₂
  refine wpAny_storeName_local (O.kindOf hy) (by rw [O.locals]; exact hn₂) (fun h'' hn'' hs'' => key _ ⟨h'', _, rfl, by rw [O.locals] at hs''; exact hs''⟩ ?_) (by rw [O.kind]; rfl)
  rw [O.locals] at hn'' hs''
  refine ⟨fun b o e => ?_, ⟨_, hn'', fun p hp' => ?_⟩, R₂.hereNew, ?_, fun p hp' => ⟨(R₂.outs p hp').1.keeps fun o e => ?_, (R₂.outs p hp').2⟩, fun p hp' => ?_, R₂.nd, R₂.gens, R₂.os⟩
  · refine (hs''.2 b fun e' => ?_).trans (R₂.keep b o e)
    rw [e', R₂.hereNew] at e; cases e
  · rcases hp.of_mem R₂.lnd p hp' with rfl | ⟨hp', ne⟩
    · show LocIs (if y = y then some (Value.ref D) else m₂ y) (some (.ref D))
      rw [if_pos rfl]; exact Is.ref D
    · rw [if_neg ne]; exact hm₂ p hp'
  · show (loc'.map (·.1)).Nodup
    rw [hp.keys]; exact R₂.lnd
  · exact (hs''.2 _ (R₂.outs p hp').2.2).trans e
  · exact ⟨let ⟨ob, a, b⟩ := (R₂.led p hp').1; ⟨ob, (hs''.2 _ (R₂.led p hp').2.2.1).trans a, b⟩, (R₂.led p hp').2⟩
end
inductive Bd (nm : List (Str × NameKind)) : List Str → List MV → Loc → List (Str × Option MV) → Prop where
  | nil : Bd nm [] [] [] []
  | loc {x a ps as l c} : nm.lookup x = some .local → Bd nm ps as l c → Bd nm (x :: ps) (a :: as) ((x, some a) :: l) c
  | cell {x a ps as l c} : nm.lookup x = some .cell → Bd nm ps as l c → Bd nm (x :: ps) (a :: as) l ((x, some a) :: c)
theorem bind_off {kindOf : Str → Option NameKind} : ∀ (ps : List Str) (vs : List Value) (m : Str → Option Value) (x : Str), x ∉ ps → bindL kindOf (ps.zip vs) m x = m x ∧ bindC kindOf (ps.zip vs) m x = m x
  | [], _, m, x, _ => by simp [bindL, bindC]
  | p :: ps, [], m, x, _ => by simp [bindL, bindC]
  | p :: ps, v :: vs, m, x, h => by
    have h1 : x ≠ p := fun e => h (by rw [e]; exact .head _)
    have h2 : x ∉ ps := fun e => h (.tail _ e)
    rw [List.zip_cons_cons, bindL, bindC, (bind_off ps vs _ x h2).1, (bind_off ps vs _ x h2).2]
    constructor <;> split <;> simp [h1]
theorem Bd.binds {nm : List (Str × NameKind)} {kindOf : Str → Option NameKind} (hk : ∀ x, kindOf x = nm.lookup x) {ps as l c} (h : Bd nm ps as l c) : ps.Nodup → ∀ {vs : List Value}, Are vs as → ∀ m mc : Str → Option Value,
    (∀ p ∈ l, LocIs (bindL kindOf (ps.zip vs) m p.1) p.2) ∧ (∀ p ∈ c, LocIs (bindC kindOf (ps.zip vs) mc p.1) p.2) := by
  induction h with
  | nil => intro _ vs _ m mc; exact ⟨fun p hp => (nomatch hp), fun p hp => (nomatch hp)⟩
  | @loc x a ps as l c hx _ ih =>
    intro nd vs hv m mc
    have n2 := List.nodup_cons.mp nd
    cases hv with
    | cons i is =>
      have hx' : kindOf x = some .local := (hk x).trans hx
      have := ih n2.2 is
      rw [List.zip_cons_cons, bindL, bindC, if_pos hx', if_pos hx']
      refine ⟨fun p hp => ?_, (this m mc).2⟩
      rcases List.mem_cons.mp hp with rfl | hp
      · rw [(bind_off ps _ _ _ n2.1).1, if_pos rfl]; exact i
      · exact (this _ mc).1 p hp
  | @cell x a ps as l c hx _ ih =>
    intro nd vs hv m mc
    have n2 := List.nodup_cons.mp nd
    cases hv with
    | cons i is =>
      have hx' : ¬ kindOf x = some .local := by rw [hk x, hx]; intro h; cases h
      have := ih n2.2 is
      rw [List.zip_cons_cons, bindL, bindC, if_neg hx', if_neg hx']
      refine ⟨(this m mc).1, fun p hp => ?_⟩
      rcases List.mem_cons.mp hp with rfl | hp
      · rw [(bind_off ps _ _ _ n2.1).2, if_pos rfl]; exact i
      · exact (this m _).2 p hp
theorem Bd.names {nm : List (Str × NameKind)} {ps as l c} (h : Bd nm ps as l c) : (∀ p ∈ l, p.1 ∈ ps) ∧ (∀ p ∈ c, p.1 ∈ ps ∧ nm.lookup p.1 = some .cell) ∧ (∀ x ∈ ps, nm.lookup x = some .local ∨ nm.lookup x = some .cell) := by
  induction h with
  | nil => exact ⟨fun p hp => (nomatch hp), fun p hp => (nomatch hp), fun p hp => (nomatch hp)⟩
  | loc hx _ ih =>
    refine ⟨fun p hp => ?_, fun p hp => ⟨.tail _ (ih.2.1 p hp).1, (ih.2.1 p hp).2⟩, fun x hp => ?_⟩
    · rcases List.mem_cons.mp hp with rfl | hp
      · exact .head _
      · exact .tail _ (ih.1 p hp)
    · rcases List.mem_cons.mp hp with rfl | hp
      · exact .inl hx
      · exact ih.2.2 x hp
  | cell hx _ ih =>
    refine ⟨fun p hp => .tail _ (ih.1 p hp), fun p hp => ?_, fun x hp => ?_⟩
    · rcases List.mem_cons.mp hp with rfl | hp
      · exact ⟨.head _, hx⟩
      · exact ⟨.tail _ (ih.2.1 p hp).1, (ih.2.1 p hp).2⟩
    · rcases List.mem_cons.mp hp with rfl | hp
      · exact .inr hx
      · exact ih.2.2 x hp
theorem Bd.keys {nm : List (Str × NameKind)} {ps as l c} (h : Bd nm ps as l c) : (l.map (·.1)).Sublist ps ∧ (c.map (·.1)).Sublist ps := by
  induction h with
  | nil => exact ⟨.slnil, .slnil⟩
  | loc _ _ ih => exact ⟨ih.1.cons_cons _, ih.2.cons _⟩
  | cell _ _ ih => exact ⟨ih.1.cons _, ih.2.cons_cons _⟩
theorem cells_acc {x : Str} : ∀ (names : List (Str × NameKind)) (n : Nat) (acc : List (Str × Addr)), (acc.lookup x).isSome = true → ((cellsFrom n names acc).lookup x).isSome = true
  | [], _, _, h => h
  | (y, k) :: r, n, acc, h => by
    unfold cellsFrom
    split
    · refine cells_acc r _ _ ?_
      rw [List.lookup_cons]
      cases x == y with
      | true => rfl
      | false => exact h
    · exact cells_acc r _ _ h
theorem cells_some {x : Str} : ∀ (names : List (Str × NameKind)) (n : Nat) (acc : List (Str × Addr)), names.lookup x = some .cell → ((cellsFrom n names acc).lookup x).isSome = true
  | (y, k) :: r, n, acc, h => by
    rw [List.lookup_cons] at h
    unfold cellsFrom
    cases hxy : x == y with
    | true =>
      rw [hxy] at h
      cases h
      rw [if_pos (show (NameKind.cell == NameKind.cell) = true from rfl)]
      refine cells_acc r _ _ ?_
      rw [List.lookup_cons, hxy]; rfl
    | false =>
      rw [hxy] at h
      split
      · exact cells_some r _ _ h
      · exact cells_some r _ _ h
noncomputable def cellLed : List Addr → List (Str × Option MV) → List (Addr × MO)
  | a :: as, p :: cs => (a, .cell p.2) :: cellLed as cs
  | _, _ => []
noncomputable def cellTab : List Addr → List (Str × Option MV) → List (Str × Addr)
  | a :: as, p :: cs => (p.1, a) :: cellTab as cs
  | _, _ => []
theorem cellLed_map (f : Str → Addr) : ∀ cs : List (Str × Option MV), cellLed (cs.map fun p => f p.1) cs = cs.map fun p => (f p.1, .cell p.2)
  | [] => rfl
  | p :: cs => by simp [cellLed, cellLed_map f cs]
theorem cellTab_map (f : Str → Addr) : ∀ cs : List (Str × Option MV), cellTab (cs.map fun p => f p.1) cs = cs.map fun p => (p.1, f p.1)
  | [] => rfl
  | p :: cs => by simp [cellTab, cellTab_map f cs]
section
variable {C : Cx} {σ : MS} {s : Shared} {E : Value → Shared → Prop} {gl : List (Str × MV)} {names : List (Str × NameKind)} {cells : List (Str × Addr)}
noncomputable def Cx.withA (C : Cx) (A : Around) : Cx := { C with A := A }
theorem code_call (O : C.Ok gl names cells) {A : Around} (hA1 : A.frames = C.A.frames) (hA3 : A.depth ≤ C.A.depth + 1) (hA4 : A.units ≤ C.A.units + 20) {f : Addr} {name qual : Str} {params : Arguments} {body : List Stmt} {scope : Scope} {dV kV doc pm cdv ct oc : Value} {an od : Option Addr} {osl : Array (Option Value)}
    {ps more morec : List Str} {args : List MV} {l : Loc} {cs : List (Str × Option MV)} {led₁ : List (Addr × MO)} {args' : List Value}
    {X : Addr → Value → MS → Prop} {Q : MV → MS → Prop} (hlv : 1 ≤ C.lv) (ho : C.K.lookup f = some ⟨oc, od, .func (fnOf name qual params body scope dV kV doc pm an cdv ct), osl⟩) (hcd : codeIn C.K cdv qual = true) {s : Shared} (R : Rel C σ s)
    (hbind : wpAny (model C.prog C.w) A.in1 (bindArgs (fnOf name qual params body scope dV kV doc pm an cdv ct) ⟨args', []⟩) (fun binds s₁ => ∃ vs, binds = ps.zip vs ∧ Are vs args ∧ Rel C ⟨σ.loc, led₁⟩ s₁) NoE s)
    (hB : Bd scope.names ps args l cs) (hnd : (ps ++ more ++ morec).Nodup) (hmc : (morec.all fun x => scope.names.lookup x == some .cell) = true)
    (hnn : (scope.names.map (·.1)).Nodup) (hdb : (scope.names.all fun p => !(p.1 == ("__debug__" : Str))) = true)
    (hco : scope.isCoroutine = false) (hgen : scope.isGenerator = false) (hk : scope.kind = .function)
    (h : ∀ (C' : Cx) (as : List Addr), as.length = (cs ++ morec.map fun x => (x, none)).length → C'.Ok gl scope.names (cellTab as (cs ++ morec.map fun x => (x, none))) → C'.prog = C.prog → C'.w = C.w → C'.K = C.K → C'.lv = C.lv - 1 → C'.A.handled = A.handled → C'.hb = C.hb →
      EXS C' body (fun fl σ' => Q (retOf fl) ⟨σ.loc, σ'.led⟩) (EXC C' fun a cls σ' => X a cls ⟨σ.loc, σ'.led⟩) ⟨l ++ more.map fun x => (x, none), cellLed as (cs ++ morec.map fun x => (x, none)) ++ led₁⟩) :
    codeAny (model C.prog C.w) A (.call (.ref f) ⟨args', []⟩) (fun r s' => match r with | .ok (.ret v) => Post C IsV Q v s' | .ok _ => False | .error e => EXC C X e s') s := by
  have hd := O.depth
  have hu := O.units
  refine codeAny_call_function (fd := fnOf name qual params body scope dV kV doc pm an cdv ct) (body := body) (by show A.depth < 1000; omega) (R.keep _ _ (O.kin _ _ ho)) rfl hco hgen rfl (codeRec_of (fun a o e => R.keep _ _ (O.kin a o e)) hcd) ?_
  refine wpAny_mono hbind (fun binds s₁ hb => ?_) fun _ _ e => e.elim
  obtain ⟨vs, rfl, hv, R₁⟩ := hb
  have nd1 := List.nodup_append.mp hnd
  have nd2 := List.nodup_append.mp nd1.1
  have hcellname : ∀ p ∈ cs ++ morec.map fun x => ((x, none) : Str × Option MV), scope.names.lookup p.1 = some .cell := fun p hp => by
    rcases List.mem_append.mp hp with hp | hp
    · exact (hB.names.2.1 p hp).2
    · obtain ⟨x, hx, rfl⟩ := List.mem_map.mp hp
      simpa using List.all_eq_true.mp hmc x hx
  refine wpAny_newFunctionEnv_cells hk (fun x hx => ?_) fun env he s' x => ?_
  · rcases hB.names.2.2 x.1 (List.of_mem_zip hx).1 with e | e
    · exact .inl e
    · exact .inr ⟨e, cells_some _ _ _ e⟩
  · have hkind : ∀ x, env.kindOf x = scope.names.lookup x := fun x => by rw [he]; rfl
    obtain ⟨hmap1, hmap2⟩ := hB.binds hkind nd2.1 hv (fun _ => none) (fun _ => none)
    obtain ⟨⟨⟨h₁, tk, rfl⟩, hns, hkeep, hfresh⟩, hcell, hapart, habove⟩ := x
    have hL : env.locals = s₁.heap.objs.size := by rw [he]; rfl
    have hcl : env.cells = cellsFrom (s₁.heap.objs.size + 1) scope.names [] := by rw [he]; rfl
    refine ⟨(O.nolimit.keeps R₁.keep).keeps hkeep, codeAny_func ?_⟩
    -- the locals
    have hloc : ∀ p ∈ l ++ more.map fun x => ((x, none) : Str × Option MV), LocIs (bindL env.kindOf (ps.zip vs) (fun _ => none) p.1) p.2 := fun p hp => by
      rcases List.mem_append.mp hp with hp | hp
      · exact hmap1 p hp
      · obtain ⟨x, hx, rfl⟩ := List.mem_map.mp hp
        rw [(bind_off ps vs _ x fun hx' => nd2.2.2 x hx' x hx rfl).1]; trivial
    have hlnd : ((l ++ more.map fun x => ((x, none) : Str × Option MV)).map (·.1)).Nodup := by
      rw [List.map_append, List.map_map, show (more.map ((·.1) ∘ fun x => ((x, none) : Str × Option MV))) = more from List.map_id _]
      exact List.Sublist.nodup (List.Sublist.append hB.keys.1 (List.Sublist.refl _)) nd1.1
    have E₁ : Rel (C.callee env s₁.heap.objs.size σ.loc) ⟨l ++ more.map fun x => (x, none), led₁⟩ { s₁ with heap := h₁, toks := tk } := R₁.enter (env := env) (by rw [← hL]; exact hns) hkeep hloc hlnd
    -- the cells
    let ad : Str → Addr := fun x => (env.cells.lookup x).getD 0
    have had : ∀ p ∈ cs ++ morec.map fun x => ((x, none) : Str × Option MV), env.cells.lookup p.1 = some (ad p.1) := fun p hp => by
      have := cells_some scope.names (s₁.heap.objs.size + 1) [] (hcellname p hp)
      rw [← hcl] at this
      obtain ⟨a, ha⟩ := Option.isSome_iff_exists.mp this
      show _ = some ((env.cells.lookup p.1).getD 0)
      rw [ha]; rfl
    have hcsnd : ((cs ++ morec.map fun x => ((x, none) : Str × Option MV)).map (·.1)).Nodup := by
      rw [List.map_append, List.map_map, show (morec.map ((·.1) ∘ fun x => ((x, none) : Str × Option MV))) = morec from List.map_id _]
      refine List.Sublist.nodup (List.Sublist.append (hB.keys.2.trans (List.sublist_append_left ps more)) (List.Sublist.refl _)) hnd
    have hcval : ∀ p ∈ cs ++ morec.map fun x => ((x, none) : Str × Option MV), LocIs (bindC env.kindOf (ps.zip vs) (fun _ => none) p.1) p.2 := fun p hp => by
      rcases List.mem_append.mp hp with hp | hp
      · exact hmap2 p hp
      · obtain ⟨x, hx, rfl⟩ := List.mem_map.mp hp
        rw [(bind_off ps vs _ x fun hx' => nd1.2.2 x (List.mem_append_left _ hx') x hx rfl).2]; trivial
    have hbig : ∀ p ∈ cs ++ morec.map fun x => ((x, none) : Str × Option MV), s₁.heap.objs.size < ad p.1 := fun p hp => by
      have := habove p.1 (ad p.1) (mem_of_lookup (had p hp))
      rw [hL] at this; exact this
    have E₂ : Rel (C.callee env s₁.heap.objs.size σ.loc) ⟨l ++ more.map fun x => (x, none), (cs ++ morec.map fun x => (x, none)).map (fun (p : Str × Option MV) => (ad p.1, MO.cell p.2)) ++ led₁⟩ { s₁ with heap := h₁, toks := tk } := by
      refine ⟨E₁.keep, E₁.here, E₁.hereNew, E₁.lnd, E₁.outs, fun p hp => ?_, ?_, E₁.gens, E₁.os⟩
      · rcases List.mem_append.mp hp with hp | hp
        · obtain ⟨q, hq, rfl⟩ := List.mem_map.mp hp
          obtain ⟨ob, ho', hdat⟩ := hcell q.1 (ad q.1) (had q hq)
          have hb := hbig q hq
          refine ⟨⟨ob, ho', _, hdat, hcval q hq⟩, ?_, ?_, ?_⟩
          · cases e : C.hb.get? (ad q.1) with
            | none => exact e
            | some o => exact absurd (Heap.lt_size (R₁.keep _ _ e)) (Nat.not_lt.mpr (Nat.le_of_lt hb))
          · exact Nat.ne_of_gt hb
          · intro r hr e
            rcases List.mem_cons.mp hr with rfl | hr
            · obtain ⟨o, ho⟩ := R₁.here.there
              have := Heap.lt_size ho
              have e' : C.L = ad q.1 := e
              rw [e'] at this
              exact absurd this (Nat.not_lt.mpr (Nat.le_of_lt hb))
            · obtain ⟨o, ho⟩ := (R₁.outs r hr).1.there
              have := Heap.lt_size ho
              have e' : r.1 = ad q.1 := e
              rw [e'] at this
              exact absurd this (Nat.not_lt.mpr (Nat.le_of_lt hb))
        · exact E₁.led p hp
      · rw [List.map_append, List.map_map]
        refine List.nodup_append.mpr ⟨?_, E₁.nd, ?_⟩
        · have aux : ∀ qs : List (Str × Option MV), (qs.map (·.1)).Nodup → (∀ p ∈ qs, p ∈ cs ++ morec.map fun x => ((x, none) : Str × Option MV)) → (qs.map ((·.1) ∘ fun p => (ad p.1, MO.cell p.2))).Nodup := by
            intro qs
            induction qs with
            | nil => intro _ _; exact .nil
            | cons q qs ih =>
              intro nd hm
              have n2 := List.nodup_cons.mp nd
              refine List.nodup_cons.mpr ⟨fun hmem => ?_, ih n2.2 fun p hp => hm p (.tail _ hp)⟩
              obtain ⟨r, hr, e⟩ := List.mem_map.mp hmem
              have e' : ad r.1 = ad q.1 := e
              have h1 := mem_of_lookup (had r (hm r (.tail _ hr)))
              have h2 := mem_of_lookup (had q (hm q (.head _)))
              rw [e'] at h1
              exact n2.1 (List.mem_map.mpr ⟨r, hr, name_of_addr hapart h1 h2⟩)
          exact aux _ hcsnd fun p hp => hp
        · intro a ha b hb e
          obtain ⟨q, hq, rfl⟩ := List.mem_map.mp ha
          obtain ⟨r, hr, rfl⟩ := List.mem_map.mp hb
          have hlt := R₁.lt r hr
          have hb := hbig q hq
          have e' : ad q.1 = r.1 := e
          rw [← e'] at hlt
          exact absurd hlt (Nat.not_lt.mpr (Nat.le_of_lt hb))
    have O' : (C.withA A |>.callee env s₁.heap.objs.size σ.loc).Ok gl scope.names (cellTab ((cs ++ morec.map fun x => (x, none)).map fun (p : Str × Option MV) => ad p.1) (cs ++ morec.map fun x => (x, none))) := by
      obtain ⟨e, fs, h1, h2, h3⟩ := O.frames
      have hfr : env.frame = some s₁.heap.objs.size := by rw [he]; rfl
      refine ⟨O.kin, O.nolimit, O.glob, by rw [show (C.withA A |>.callee env s₁.heap.objs.size σ.loc).env = env from rfl, he]; exact hk, by rw [show (C.withA A |>.callee env s₁.heap.objs.size σ.loc).env = env from rfl, he]; rfl, hnn, hdb, fun p hp => ?_, hL, by rw [show (C.withA A |>.callee env s₁.heap.objs.size σ.loc).env = env from rfl, he]; rfl, by rw [show (C.withA A |>.callee env s₁.heap.objs.size σ.loc).env = env from rfl, he]; rfl, ⟨env, e :: fs, ?_, rfl, fun e' he' => ?_⟩, ?_, ?_⟩
      · rw [cellTab_map ad] at hp
        obtain ⟨q, hq, rfl⟩ := List.mem_map.mp hp
        exact had q hq
      · show A.frames.map (env :: ·) = _
        rw [hA1, h1]; rfl
      · rcases List.mem_cons.mp he' with rfl | he'
        · exact ⟨by rw [he]; show scope.kind ≠ _; rw [hk]; decide, _, hfr, .inl rfl⟩
        · obtain ⟨x, f', y, z⟩ := h3 e' he'
          refine ⟨x, f', y, .inr ?_⟩
          rcases z with rfl | ⟨p, hp, rfl⟩
          · exact ⟨_, .head _, rfl⟩
          · exact ⟨p, .tail _ hp, rfl⟩
      · show A.depth + 1 + 10 * (C.lv - 1) ≤ 900
        omega
      · show A.units + 3 + 100 * (C.lv - 1) ≤ 9000
        omega
    have E₃ : Rel (C.withA A |>.callee env s₁.heap.objs.size σ.loc) ⟨l ++ more.map fun x => (x, none), cellLed ((cs ++ morec.map fun x => (x, none)).map fun (p : Str × Option MV) => ad p.1) (cs ++ morec.map fun x => (x, none)) ++ led₁⟩ { s₁ with heap := h₁, toks := tk } := by
      rw [cellLed_map ad]
      exact ⟨E₂.keep, E₂.here, E₂.hereNew, E₂.lnd, E₂.outs, E₂.led, E₂.nd, E₂.gens, E₂.os⟩
    have Rw : ∀ {σ' : MS} {s' : Shared}, Rel (C.withA A |>.callee env s₁.heap.objs.size σ.loc) σ' s' → Rel C ⟨σ.loc, σ'.led⟩ s' := fun R' => R.leave (env := env) (L := s₁.heap.objs.size) ⟨R'.keep, R'.here, R'.hereNew, R'.lnd, R'.outs, R'.led, R'.nd, R'.gens, R'.os⟩
    have Xw : ∀ {σ' : MS} {s' : Shared} {a : Addr} {cls : Value} {tr : Bool}, ExcAt (C.withA A |>.callee env s₁.heap.objs.size σ.loc) σ' a cls tr s' → ExcAt C ⟨σ.loc, σ'.led⟩ a cls tr s' := fun {σ' s' a cls tr} X' => by
      have off : ∀ {a : Addr}, Off (C.withA A |>.callee env s₁.heap.objs.size σ.loc) σ' a → Off C ⟨σ.loc, σ'.led⟩ a := fun o => ⟨o.new, Ne.symm (o.outs (C.L, σ.loc) (.head _)), fun p hp => o.outs p (.tail _ hp), o.led⟩
      obtain ⟨r, o, oe, vs, h1, h2, h3, h4⟩ := X'
      refine ⟨Rw r, off o, oe, vs, h1, h2, h3, ?_⟩
      rcases h4 with h4 | ⟨T, oT, ts, x1, x2, x3, x4⟩
      · exact .inl h4
      · exact .inr ⟨T, oT, ts, x1, x2, off x3, x4⟩
    refine wpAny_mono (h _ _ (by simp) O' rfl rfl rfl rfl rfl rfl _ E₃) (fun fl s' post_ => post_.out fun b σ' i R' q => ?_) fun e s' post_ => post_.out fun a cls tr σ' hee X' hx => ?_
    · have L := Rw R'
      cases b with
      | next => cases i; exact ⟨_, _, Is.none, L, q⟩
      | cont => cases i; exact ⟨_, _, Is.none, L, q⟩
      | brk => cases i; exact ⟨_, _, Is.none, L, q⟩
      | ret v => obtain ⟨y, rfl, i⟩ := i; exact ⟨_, _, i, L, q⟩
    · subst hee
      unfold leaving
      refine wpAny_bind (x_note O' rfl X' fun s₂ X₂ => x_flight X₂ fun s₃ X₃ => ?_)
      exact ⟨a, cls, true, _, rfl, Xw X₃, hx⟩
end
section
variable {C : Cx} {σ : MS} {s : Shared} {E : Value → Shared → Prop} {gl : List (Str × MV)} {names : List (Str × NameKind)} {cells : List (Str × Addr)}
noncomputable abbrev CALLR (C : Cx) (f : Addr) (vs : List MV) (Q : MV → MS → Prop) (E : Value → Shared → Prop) (σ : MS) : Prop := ∀ vs', Are vs' vs → ∀ s, Rel C σ s →
  codeAny (model C.prog C.w) C.A (.call (.ref f) ⟨vs', []⟩) (fun r s' => match r with | .ok (.ret v) => Post C IsV Q v s' | .ok _ => False | .error e => E e s') s
theorem CALLR.mono {f : Addr} {vs : List MV} {Q Q' : MV → MS → Prop} {E' : Value → Shared → Prop} (h : CALLR C f vs Q E σ) (hq : ∀ b σ', Q b σ' → ∃ l', Take l' σ'.led ∧ Q' b ⟨σ'.loc, l'⟩) (he : ∀ e s, E e s → E' e s) : CALLR C f vs Q' E' σ := fun vs' i s R =>
  codeAny_mono (h vs' i s R) fun r s' hr => by
    rcases r with e | (v | _ | _ | _)
    · exact he _ _ hr
    · exact hr.elim
    · exact hr.elim
    · exact hr.elim
    · obtain ⟨b, σ', ib, R', q⟩ := hr
      obtain ⟨l', t, q'⟩ := hq b σ' q
      exact ⟨b, ⟨σ'.loc, l'⟩, ib, R'.take t, q'⟩
theorem CALLR.pre {f : Addr} {vs : List MV} {Q : MV → MS → Prop} {l' : List (Addr × MO)} (t : Take l' σ.led) (h : CALLR C f vs Q E ⟨σ.loc, l'⟩) : CALLR C f vs Q E σ := fun vs' i s R => h vs' i s (R.take t)
theorem CALLR.noexc {f : Addr} {vs : List MV} {Q : MV → MS → Prop} (h : CALLR C f vs Q (EXC C fun _ _ _ => False) σ) : CALLR C f vs Q E σ :=
  h.mono (fun b σ' q => ⟨_, .all, q⟩) fun _ _ post_ => post_.out fun _ _ _ _ _ _ x => x.elim
noncomputable abbrev ARGS (C : Cx) (f : Value) (pos : Pos) (args : List PySem.Expr) (Q : List MV → MS → Prop) (E : Value → Shared → Prop) (σ : MS) : Prop :=
  AW C (fun ms (a : Args) => a.kw = [] ∧ Are a.pos ms) (evalArgs f true (backTo pos (starEach args C.env)) []) Q E σ
theorem a_spl {f : Value} {pos : Pos} {args : List PySem.Expr} {Q : List MV → MS → Prop} (h : SPL C pos args Q E σ) (hn : (starEach args C.env).any (·.1) = false := by rfl) : ARGS C f pos args Q E σ := fun s R =>
  evalArgs_spl hn (wpAny_mono (h s R) (fun vs s' post_ => post_.out fun ms σ' i R' q => ⟨ms, σ', ⟨rfl, i⟩, R', q⟩) fun _ _ e => e)
theorem callWith_both {M : Model} {A : Around} {f : Value} {first : List Value} {pos : Pos} {Q : Value → Shared → Prop} {P : Heap → Prop} {args : List (Bool × Sem Value)}
    (hk : ∀ h, P h → ∃ k, (k = Keeper.frame ∨ k = Keeper.machine ∨ k = Keeper.boundFrame) ∧ Looks M h (keeperOf f) k)
    (h : wpAny M A (evalArgs f true args []) (fun a s₁ => P s₁.heap ∧ wpAny M A (call f (first ++ a.pos) a.kw) Q E s₁) E s) : wpAny M A (callWith pos f first args []) Q E s := by
  cases hst : args.any (·.1) with
  | true => exact ks_call hst hk h
  | false => exact callWith_of (by rw [hst]; rfl) hk h
theorem r_call (O : C.Ok gl names cells) {x : Str} {np pos : Pos} {args : List PySem.Expr} {f : Addr} {Q : MV → MS → Prop} (hx : Has x .globalImplicit names) (hg : Has x (.ref f) gl) (hk : keepIn C.K (.ref f) = true)
    (h : ARGS C (.ref f) pos args (fun vs σ₁ => CALLR C f vs Q E σ₁) E σ) : EV C (.Call (.Name x np) args [] pos) Q E σ := fun s R => by
  refine wpAny_Call_NameR (wpAny_mono (r_global (E := E) O hx hg (Q := fun v σ' => v = .ref f ∧ σ' = σ) ⟨rfl, rfl⟩ s R) (fun fv s₁ h₁ => ?_) fun _ _ e => e)
  obtain ⟨m, σ₁, i, R₁, rfl, rfl⟩ := h₁
  cases i.of_ref
  refine callWith_both (P := fun h => C.K.In h) (keeps_K hk) (wpAny_mono (h s₁ R₁) (fun a s₂ h₂ => ?_) fun _ _ e => e)
  obtain ⟨ms, σ₂, ⟨hkw, ia⟩, R₂, q⟩ := h₂
  refine ⟨R₂.kin O, ?_⟩
  rw [hkw]
  exact wpAny_call (q _ ia s₂ R₂)
theorem r_call_bi (O : C.Ok gl names cells) {x : Str} {np pos : Pos} {args : List PySem.Expr} {id : String} {Q : MV → MS → Prop} (hx : Has x .globalImplicit names) (hg : Has x (.bi id) gl)
    (h : SPL C pos args (fun vs σ₁ => CALLB C id vs Q E σ₁) E σ) (hn : (starEach args C.env).any (·.1) = false := by rfl) : EV C (.Call (.Name x np) args [] pos) Q E σ := fun s R => by
  refine wpAny_Call_NameR (wpAny_mono (r_global (E := E) O hx hg (Q := fun v σ' => v = .bi id ∧ σ' = σ) ⟨rfl, rfl⟩ s R) (fun fv s₁ h₁ => ?_) fun _ _ e => e)
  obtain ⟨m, σ₁, i, R₁, rfl, rfl⟩ := h₁
  cases i.of_bi
  refine Calls.callWith_builtin (by rw [backTo_any]; exact hn) (evalArgs_spl hn ?_)
  exact wpAny_mono (h s₁ R₁) (fun vs s₂ post_ => post_.out fun ms σ₂ is R₂ k₂ => k₂ _ is s₂ R₂) fun _ _ e => e
noncomputable abbrev CALLT (C : Cx) (T : String) (vs : List MV) (Q : MV → MS → Prop) (E : Value → Shared → Prop) (σ : MS) : Prop := ∀ vs', Are vs' vs → AW C IsV (call (.type T) vs') Q E σ
theorem r_call_ty (O : C.Ok gl names cells) {x : Str} {np pos : Pos} {args : List PySem.Expr} {T : String} {Q : MV → MS → Prop} (hx : Has x .globalImplicit names) (hg : Has x (.ty T) gl)
    (h : SPL C pos args (fun vs σ₁ => CALLT C T vs Q E σ₁) E σ) (hn : (starEach args C.env).any (·.1) = false := by rfl) : EV C (.Call (.Name x np) args [] pos) Q E σ := fun s R => by
  refine wpAny_Call_NameR (wpAny_mono (r_global (E := E) O hx hg (Q := fun v σ' => v = .ty T ∧ σ' = σ) ⟨rfl, rfl⟩ s R) (fun fv s₁ h₁ => ?_) fun _ _ e => e)
  obtain ⟨m, σ₁, i, R₁, rfl, rfl⟩ := h₁
  cases i.of_ty
  refine PySem.callWith_type (by rw [backTo_any]; exact hn) (evalArgs_spl hn ?_)
  exact wpAny_mono (h s₁ R₁) (fun vs s₂ post_ => post_.out fun ms σ₂ is R₂ k₂ => k₂ _ is s₂ R₂) fun _ _ e => e
/- instances -/
structure ClsOk (K : Frag) (c : Addr) : Prop where
  get : plainGet K c Str.empty = true
  cls : isClsIn K c = true
  set : findIn K (.ref c) "__setattr__" = some (some (.builtin "object.__setattr__"))
  over : plainOver K c = true
noncomputable abbrev GETA (C : Cx) (ov : MV) (name : Str) (Q : MV → MS → Prop) (E : Value → Shared → Prop) (σ : MS) : Prop := ∀ v', Is v' ov → AW C IsV (getAttr v' name true) Q E σ
noncomputable abbrev SETA (C : Cx) (ov : MV) (name : Str) (v : MV) (Q : Unit → MS → Prop) (E : Value → Shared → Prop) (σ : MS) : Prop := ∀ o' v', Is o' ov → Is v' v → AW C UnitIs (setAttr o' name v') Q E σ
theorem r_attr {o : PySem.Expr} {name : Str} {pos : Pos} {Q : MV → MS → Prop} (h : EV C o (fun ov σ₁ => GETA C ov name Q E σ₁) E σ)
    (he : eval (.Attribute o name pos) C.env = (do
      let ov ← eval o C.env
      standAt pos.atName
      let r ← holding [ov] (getAttr ov name true)
      letTemporaryGo o ov r
      pure r) := by with_unfolding_all rfl) : EV C (.Attribute o name pos) Q E σ := fun s R =>
  Attribute_any_ (wpAny_mono (h s R) (fun ov s₁ post_ => post_.out fun _ _ i R₁ k => k ov i s₁ R₁) fun _ _ e => e) he
theorem handed {m : MV} {v : Value} (i : Is v m) (hm : ∀ id, m ≠ .bi id) : handedIn v = true := by
  obtain ⟨t, rfl⟩ := i
  cases m <;> first | rfl | exact absurd rfl (hm _)
theorem g_own (O : C.Ok gl names cells) {x c d : Addr} {sl : List (Option MV)} {fs : List (Str × MV)} {name : Str} {v : MV} {Q : MV → MS → Prop} (hc : ClsOk C.K c) (hd : hasDictIn C.K c = true) (ha : findIn C.K (.ref c) name = some none) (hx : Has x (.inst c d sl) σ.led) (hdd : Has d (.attrs fs) σ.led) (hv : Has name v fs) (hm : ∀ id, v ≠ .bi id) (h : Q v σ) :
    GETA C (.ref x) name Q E σ := fun _ i s R => by
  cases i.of_ref
  obtain ⟨vs, es, n, hs, hat, nd, hod, I⟩ := R.inst hx hdd
  obtain ⟨v', h1, h2⟩ := hat.get nd hv.mem
  exact get_value (R.kin O) I (plainGet_of hc.get).1 (findObj_own hd ha (by rfl) h1) (handed h2 hm) ⟨v, σ, h2, R.toks _, h⟩
theorem SlotsAre.get {vs : List (Option Value)} {ms : List (Option MV)} (h : SlotsAre vs ms) : ∀ {i : Nat} {m : MV}, ms[i]? = some (some m) → ∃ v, vs[i]? = some (some v) ∧ Is v m := by
  induction h with
  | nil => intro i m e; simp at e
  | @cons v m vs ms a _ ih =>
    intro i m' e
    cases i with
    | zero =>
      simp at e; subst e
      obtain ⟨w, rfl, i⟩ := a.some
      exact ⟨w, rfl, i⟩
    | succ i => simpa using ih (by simpa using e)
theorem SlotsAre.length {vs : List (Option Value)} {ms : List (Option MV)} (h : SlotsAre vs ms) : vs.length = ms.length := by
  induction h with
  | nil => rfl
  | cons _ _ ih => simp [ih]
theorem SlotsAre.append {vs : List (Option Value)} {ms : List (Option MV)} {vs' : List (Option Value)} {ms' : List (Option MV)} (h : SlotsAre vs ms) (h' : SlotsAre vs' ms') : SlotsAre (vs ++ vs') (ms ++ ms') := by
  induction h with
  | nil => exact h'
  | cons a _ ih => exact .cons a ih
theorem SlotsAre.rep (n : Nat) : SlotsAre (List.replicate n none) (List.replicate n none) := by
  induction n with
  | zero => exact .nil
  | succ n ih => exact .cons trivial ih
theorem SlotsAre.set {vs : List (Option Value)} {ms : List (Option MV)} (h : SlotsAre vs ms) {v : Value} {m : MV} (hv : Is v m) : ∀ i, SlotsAre (vs.set i (some v)) (ms.set i (some m)) := by
  induction h with
  | nil => intro i; exact .nil
  | cons a r ih =>
    intro i
    cases i with
    | zero => exact .cons hv r
    | succ i => exact .cons a (ih i)
structure SlotOk (K : Frag) (c : Addr) (name : Str) (p : Addr) (i : Nat) : Prop where
  find : findIn K (.ref c) name = some (some (.ref p))
  get : specialIn K (.ref p) "__get__" = some (some (.builtin "member_descriptor.__get__"))
  takes : takesIn K (.ref p) = some true
  slot : slotIn K p c = some i
  taker : takerIn K c name = some (some (.ref p))
  type : typeIn K (.ref p) = some (.type "member_descriptor")
theorem g_slot (O : C.Ok gl names cells) {x c d p : Addr} {i : Nat} {sl : List (Option MV)} {fs : List (Str × MV)} {name : Str} {v : MV} {Q : MV → MS → Prop} (hc : ClsOk C.K c) (hs : SlotOk C.K c name p i) (hx : Has x (.inst c d sl) σ.led) (hdd : Has d (.attrs fs) σ.led) (hv : sl[i]? = some (some v)) (hm : ∀ id, v ≠ .bi id) (h : Q v σ) :
    GETA C (.ref x) name Q E σ := fun _ i s R => by
  cases i.of_ref
  obtain ⟨vs, es, n, hsl, hat, nd, hod, I⟩ := R.inst hx hdd
  obtain ⟨v', h1, h2⟩ := hsl.get hv
  refine get_bind (R.kin O) I (plainGet_of hc.get).1 (findObj_data hc.cls hs.find hs.get hs.takes) (plainGet_of hc.get).2 (wpAny_call (slot_get (s := { s with toks := s.toks + 1 }) (R.kin O) I hs.slot (v := v') (by simp [h1]) (handed_on (handed h2 hm) ⟨v, σ, h2, R.toks _, h⟩)))
theorem s_own (O : C.Ok gl names cells) {x c d : Addr} {sl : List (Option MV)} {fs fs' : List (Str × MV)} {name : Str} {v : MV} {led' : List (Addr × MO)} {Q : Unit → MS → Prop} (hc : ClsOk C.K c) (hd : hasDictIn C.K c = true) (ht : takerIn C.K c name = some none) (hx : Has x (.inst c d sl) σ.led)
    (U : Upd d (.attrs fs) (.attrs fs') σ.led led') (hf : FPut name v fs fs') (hz : fs.length ≤ 100) (h : Q () ⟨σ.loc, led'⟩) : SETA C (.ref x) name v Q E σ := fun _ v' i iv s R => by
  cases i.of_ref
  obtain ⟨vs, es, n, hs, hat, nd, hod, I⟩ := R.inst hx (.of_mem U.mem)
  obtain ⟨m, F, hm⟩ := R.fr
  have ha := R.led _ U.mem
  refine set_plain (R.kin O) I hc.set (osa_dict (s := { s with toks := s.toks + 1 }) (pre := []) (post := others s.heap C.L d) F (R.news ha.2.2.1 hod) (R.kin O) I rfl hc.over ht hd ?_ (fun p hp => nomatch hp) others_ne (od' := dictOf (putL name (PyData.keyHash C.w.params name) (.str name (s.toks + 1)) v' es) (putN name es n)) (es := putL name (PyData.keyHash C.w.params name) (.str name (s.toks + 1)) v' es) (n := putN name es n) (putName_dict ..) rfl ?_ fun h' F' N' => ?_)
  · have : (fs.map (·.1)).Nodup := nd
    obtain ⟨v₀, hv₀⟩ : ∃ v₀, (name, v₀) ∈ fs := by
      obtain ⟨p, hp, e⟩ := List.mem_map.mp hf.mem
      exact ⟨p.2, by rw [← e]; exact hp⟩
    obtain ⟨w, h1, _⟩ := hat.get nd hv₀
    rw [lookIn_dict, h1]; rfl
  · have := (AttrsAre.put (key := .str name (s.toks + 1)) (hsh := PyData.keyHash C.w.params name) hf iv hat nd).length
    have k := congrArg List.length hf.keys
    simp only [List.length_map] at k
    omega
  · exact ⟨(), _, trivial, R.upd_news U hm F' N' ⟨_, _, AttrsAre.put hf iv hat nd, by rw [hf.keys]; exact nd, rfl⟩ _, h⟩
theorem AttrsAre.add {es : List DictEntry} {fs : List (Str × MV)} {x : Str} {v : MV} {v' : Value} {t : Tok} {hsh : Int} (hv : Is v' v) (h : AttrsAre es fs) : (∀ p ∈ fs, p.1 ≠ x) → AttrsAre (putL x hsh (.str x t) v' es) (fs ++ [(x, v)]) := by
  induction h with
  | nil => intro _; exact .cons rfl hv .nil
  | @cons e y t v0 es fs hk hv0 _ ih =>
    intro hx
    unfold putL
    have : (y == x) = false := by
      rw [beq_eq_false_iff_ne]; exact hx _ (.head _)
    rw [hk, if_neg (by show ¬ (y == x) = true; rw [this]; decide)]
    exact .cons hk hv0 (ih fun p hp => hx p (.tail _ hp))
theorem s_new (O : C.Ok gl names cells) {x c d : Addr} {sl : List (Option MV)} {fs : List (Str × MV)} {name : Str} {v : MV} {led' : List (Addr × MO)} {Q : Unit → MS → Prop} (hc : ClsOk C.K c) (hd : hasDictIn C.K c = true) (ht : takerIn C.K c name = some none) (hx : Has x (.inst c d sl) σ.led)
    (U : Upd d (.attrs fs) (.attrs (fs ++ [(name, v)])) σ.led led') (hf : (fs.all fun p => !(p.1 == name)) = true) (hz : fs.length ≤ 100) (h : Q () ⟨σ.loc, led'⟩) : SETA C (.ref x) name v Q E σ := fun _ v' i iv s R => by
  cases i.of_ref
  have hf' : ∀ p ∈ fs, p.1 ≠ name := fun p hp => by simpa using List.all_eq_true.mp hf p hp
  obtain ⟨vs, es, n, hs, hat, nd, hod, I⟩ := R.inst hx (.of_mem U.mem)
  obtain ⟨m, F, hm⟩ := R.fr
  have ha := R.led _ U.mem
  refine set_plain (R.kin O) I hc.set (osa_dict (s := { s with toks := s.toks + 1 }) (pre := []) (post := others s.heap C.L d) F (R.news ha.2.2.1 hod) (R.kin O) I rfl hc.over ht hd ?_ (fun p hp => nomatch hp) others_ne (od' := dictOf (putL name (PyData.keyHash C.w.params name) (.str name (s.toks + 1)) v' es) (putN name es n)) (es := putL name (PyData.keyHash C.w.params name) (.str name (s.toks + 1)) v' es) (n := putN name es n) (putName_dict ..) rfl ?_ fun h' F' N' => ?_)
  · rw [lookIn_dict, hat.miss hf']; rfl
  · have := (AttrsAre.add (t := s.toks + 1) (hsh := PyData.keyHash C.w.params name) iv hat hf').length
    simp only [List.length_append, List.length_cons, List.length_nil] at this
    omega
  · refine ⟨(), _, trivial, R.upd_news U hm F' N' ⟨_, _, AttrsAre.add iv hat hf', ?_, rfl⟩ _, h⟩
    rw [List.map_append]
    refine List.nodup_append.mpr ⟨nd, by simp, ?_⟩
    intro a ha' b hb e
    obtain ⟨p, hp, rfl⟩ := List.mem_map.mp ha'
    simp at hb; subst hb
    exact hf' p hp e
noncomputable def slotPut (sl : List (Option MV)) (i : Nat) (v : MV) : List (Option MV) := (sl ++ List.replicate (i + 1 - sl.length) none).set i (some v)
theorem s_slot (O : C.Ok gl names cells) {x c d p : Addr} {i : Nat} {sl : List (Option MV)} {fs : List (Str × MV)} {name : Str} {v : MV} {led' : List (Addr × MO)} {Q : Unit → MS → Prop} (hc : ClsOk C.K c) (hs : SlotOk C.K c name p i) (hi : i < 1000)
    (U : Upd x (.inst c d sl) (.inst c d (slotPut sl i v)) σ.led led') (hdd : Has d (.attrs fs) σ.led) (h : Q () ⟨σ.loc, led'⟩) : SETA C (.ref x) name v Q E σ := fun _ v' iu iv s R => by
  cases iu.of_ref
  obtain ⟨vs, es, n, hsl, hat, nd, hod, I⟩ := R.inst (.of_mem U.mem) hdd
  obtain ⟨m, F, hm⟩ := R.fr
  have ha := R.led _ U.mem
  refine set_plain (R.kin O) I hc.set (osa_descr (s := { s with toks := s.toks + 1 }) KF.slot_mset (R.kin O) I hc.over hs.taker hs.type
    (slot_set (s := { s with toks := s.toks + 1 }) (pre := []) (post := others s.heap C.L x) F (R.news ha.2.2.1 I.at_) (R.kin O) I hs.slot hi (fun p hp => nomatch hp) others_ne rfl rfl fun h' F' N' => ?_))
  refine ⟨(), _, trivial, R.upd_news U hm F' N' ⟨(vs ++ List.replicate (i + 1 - sl.length) none).set i (some v'), (hsl.append (.rep _)).set iv i, ?_⟩ _, h⟩
  have hl := hsl.length
  show ({ cls := .ref c, dict := some d, slots := (vs.toArray ++ Array.replicate (i + 1 - vs.toArray.size) none).setIfInBounds i (some v') } : Obj) = _
  congr 1
  rw [← List.toArray_replicate, List.append_toArray, List.setIfInBounds_toArray]
  simp [hl]
end
section
variable {C : Cx} {σ : MS} {s : Shared} {E : Value → Shared → Prop} {gl : List (Str × MV)} {names : List (Str × NameKind)} {cells : List (Str × Addr)}
theorem call_K (O : C.Ok gl names cells) {f : Addr} {name qual : Str} {params : Arguments} {body : List Stmt} {scope : Scope} {dV kV doc pm cdv ct oc : Value} {an od : Option Addr} {osl : Array (Option Value)}
    {ps more morec : List Str} {args : List MV} {l : Loc} {cs : List (Str × Option MV)}
    {X : Addr → Value → MS → Prop} {Q : MV → MS → Prop} (hlv : 1 ≤ C.lv) (ho : C.K.lookup f = some ⟨oc, od, .func (fnOf name qual params body scope dV kV doc pm an cdv ct), osl⟩) (hcd : codeIn C.K cdv qual = true)
    (hbind : ∀ args' s, Are args' args → C.K.In s.heap → BindsTo s (fnOf name qual params body scope dV kV doc pm an cdv ct) ⟨args', []⟩ (ps.zip args'))
    (hB : Bd scope.names ps args l cs) (hnd : (ps ++ more ++ morec).Nodup) (hmc : (morec.all fun x => scope.names.lookup x == some .cell) = true)
    (hnn : (scope.names.map (·.1)).Nodup) (hdb : (scope.names.all fun p => !(p.1 == ("__debug__" : Str))) = true)
    (hco : scope.isCoroutine = false) (hgen : scope.isGenerator = false) (hk : scope.kind = .function)
    (h : ∀ (C' : Cx) (as : List Addr), as.length = (cs ++ morec.map fun x => (x, none)).length → C'.Ok gl scope.names (cellTab as (cs ++ morec.map fun x => (x, none))) → C'.prog = C.prog → C'.w = C.w → C'.K = C.K → C'.lv = C.lv - 1 → C'.A.handled = C.A.handled →
      EXS C' body (fun fl σ' => Q (retOf fl) ⟨σ.loc, σ'.led⟩) (EXC C' fun a cls σ' => X a cls ⟨σ.loc, σ'.led⟩) ⟨l ++ more.map fun x => (x, none), cellLed as (cs ++ morec.map fun x => (x, none)) ++ σ.led⟩) :
    CALLR C f args Q (EXC C X) σ := fun args' ia s R =>
  code_call O rfl (Nat.le_succ _) (Nat.le_add_right _ _) hlv ho hcd R (led₁ := σ.led) (hbind args' s ia (R.kin O) _ _ _ _ ⟨args', rfl, ia, R⟩) hB hnd hmc hnn hdb hco hgen hk (fun C' as h1 h2 h3 h4 h5 h6 h7 _ => h C' as h1 h2 h3 h4 h5 h6 h7)
theorem call_Kb (O : C.Ok gl names cells) {f : Addr} {name qual : Str} {params : Arguments} {body : List Stmt} {scope : Scope} {dV kV doc pm cdv ct oc : Value} {an od : Option Addr} {osl : Array (Option Value)}
    {ps more morec : List Str} {args : List MV} {l : Loc} {cs : List (Str × Option MV)}
    {X : Addr → Value → MS → Prop} {Q : MV → MS → Prop} (hlv : 1 ≤ C.lv) (ho : C.K.lookup f = some ⟨oc, od, .func (fnOf name qual params body scope dV kV doc pm an cdv ct), osl⟩) (hcd : codeIn C.K cdv qual = true)
    (hbind : ∀ args' s, Are args' args → C.K.In s.heap → BindsTo s (fnOf name qual params body scope dV kV doc pm an cdv ct) ⟨args', []⟩ (ps.zip args'))
    (hB : Bd scope.names ps args l cs) (hnd : (ps ++ more ++ morec).Nodup) (hmc : (morec.all fun x => scope.names.lookup x == some .cell) = true)
    (hnn : (scope.names.map (·.1)).Nodup) (hdb : (scope.names.all fun p => !(p.1 == ("__debug__" : Str))) = true)
    (hco : scope.isCoroutine = false) (hgen : scope.isGenerator = false) (hk : scope.kind = .function)
    (h : ∀ (C' : Cx) (as : List Addr), as.length = (cs ++ morec.map fun x => (x, none)).length → C'.Ok gl scope.names (cellTab as (cs ++ morec.map fun x => (x, none))) → C'.prog = C.prog → C'.w = C.w → C'.K = C.K → C'.lv = C.lv - 1 → C'.A.handled = C.A.handled → C'.hb = C.hb →
      EXS C' body (fun fl σ' => Q (retOf fl) ⟨σ.loc, σ'.led⟩) (EXC C' fun a cls σ' => X a cls ⟨σ.loc, σ'.led⟩) ⟨l ++ more.map fun x => (x, none), cellLed as (cs ++ morec.map fun x => (x, none)) ++ σ.led⟩) :
    CALLR C f args Q (EXC C X) σ := fun args' ia s R =>
  code_call O rfl (Nat.le_succ _) (Nat.le_add_right _ _) hlv ho hcd R (led₁ := σ.led) (hbind args' s ia (R.kin O) _ _ _ _ ⟨args', rfl, ia, R⟩) hB hnd hmc hnn hdb hco hgen hk h
theorem call_V (O : C.Ok gl names cells) {f : Addr} {name qual : Str} {params : Arguments} {body : List Stmt} {scope : Scope} {dV kV doc pm cdv ct oc : Value} {an od : Option Addr} {osl : Array (Option Value)}
    {ps more morec : List Str} {pv : Str} {args rest : List MV} (l : Addr → Loc) {cs : List (Str × Option MV)}
    {X : Addr → Value → MS → Prop} {Q : MV → MS → Prop} (hlv : 1 ≤ C.lv) (ho : C.K.lookup f = some ⟨oc, od, .func (fnOf name qual params body scope dV kV doc pm an cdv ct), osl⟩) (hcd : codeIn C.K cdv qual = true)
    (hlen : args.length = ps.length) (hz : rest.length ≤ 1000)
    (hbind : ∀ args' rest', Are args' args → Are rest' rest → bindArgs (fnOf name qual params body scope dV kV doc pm an cdv ct) ⟨args' ++ rest', []⟩ = (newTuple rest' >>= fun t => pure ((ps ++ [pv]).zip (args' ++ [t]))))
    (hB : ∀ t, Bd scope.names (ps ++ [pv]) (args ++ [.ref t]) (l t) cs) (hnd : ((ps ++ [pv]) ++ more ++ morec).Nodup) (hmc : (morec.all fun x => scope.names.lookup x == some .cell) = true)
    (hnn : (scope.names.map (·.1)).Nodup) (hdb : (scope.names.all fun p => !(p.1 == ("__debug__" : Str))) = true)
    (hco : scope.isCoroutine = false) (hgen : scope.isGenerator = false) (hk : scope.kind = .function)
    (h : ∀ (t : Addr) (C' : Cx) (as : List Addr), as.length = (cs ++ morec.map fun x => (x, none)).length → C'.Ok gl scope.names (cellTab as (cs ++ morec.map fun x => (x, none))) → C'.prog = C.prog → C'.w = C.w → C'.K = C.K → C'.lv = C.lv - 1 → C'.A.handled = C.A.handled →
      EXS C' body (fun fl σ' => Q (retOf fl) ⟨σ.loc, σ'.led⟩) (EXC C' fun a cls σ' => X a cls ⟨σ.loc, σ'.led⟩) ⟨l t ++ more.map fun x => (x, none), cellLed as (cs ++ morec.map fun x => (x, none)) ++ (t, .tup rest) :: σ.led⟩) :
    CALLR C f (args ++ rest) Q (EXC C X) σ := fun vs' ia s R => by
  have key : ∀ (a r : List MV) {vs : List Value}, Are vs (a ++ r) → ∃ v1 v2, vs = v1 ++ v2 ∧ Are v1 a ∧ Are v2 r := by
    intro a
    induction a with
    | nil => intro r vs h; exact ⟨[], vs, rfl, .nil, h⟩
    | cons m a ih =>
      intro r vs h
      cases h with
      | cons i is =>
        obtain ⟨v1, v2, rfl, h1, h2⟩ := ih r is
        exact ⟨_ :: v1, v2, rfl, .cons i h1, h2⟩
  obtain ⟨args', rest', rfl, i1, i2⟩ := key args rest ia
  refine code_call O rfl (Nat.le_succ _) (Nat.le_add_right _ _) hlv ho hcd R (args := args ++ [.ref s.heap.objs.size]) (led₁ := (s.heap.objs.size, .tup rest) :: σ.led) ?_ (hB s.heap.objs.size) hnd hmc hnn hdb hco hgen hk (fun C' as h1 h2 h3 h4 h5 h6 h7 _ => h s.heap.objs.size C' as h1 h2 h3 h4 h5 h6 h7)
  rw [hbind args' rest' i1 i2]
  have hl := i2.length
  refine wpAny_bind (wpAny_newObj_type ?_ (by show rest'.length ≤ _; rw [sizeLine_eq]; omega))
  refine wpAny_pure ⟨args' ++ [.ref s.heap.objs.size], rfl, i1.append (.cons (Is.ref _) .nil), ?_⟩
  exact R.alloc (.tup rest) ⟨rest', 0, i2, rfl⟩ rfl
theorem call_new (O : C.Ok gl names cells) {c fI : Addr} {vs : List MV} {X : Addr → Value → MS → Prop} {Q : MV → MS → Prop} (hm : makesIn C.K c = true) (hi : findIn C.K (.ref c) "__init__" = some (some (.ref fI))) (hf : typeIn C.K (.ref fI) = some (.type "function"))
    (h : ∀ (x d : Addr) (A : Around) (vs' : List Value) (s : Shared), Are vs' vs → A.frames = C.A.frames → A.depth ≤ C.A.depth + 1 → A.units ≤ C.A.units + 20 → A.handled = C.A.handled → Rel C ⟨σ.loc, (x, .inst c d []) :: (d, .attrs []) :: σ.led⟩ s →
      codeAny (model C.prog C.w) A (.call (.ref fI) ⟨.ref x :: vs', []⟩) (fun r s' => match r with | .ok (.ret v) => Post C IsV (fun b σ' => b = .none ∧ Q (.ref x) σ') v s' | .ok _ => False | .error e => EXC C X e s') s) :
    CALLR C c vs Q (EXC C X) σ := fun vs' ia s R => by
  have R1 := R.alloc (o := emptyDict) (.attrs []) ⟨[], 0, .nil, .nil, rfl⟩ rfl
  have R2 := R1.alloc (o := instObj c s.heap.objs.size) (.inst c s.heap.objs.size []) ⟨[], .nil, rfl⟩ rfl
  obtain ⟨hh, g, d, t, os⟩ := s
  refine make_core (makes_of (R.kin O) hm) (looks_findIn (R.kin O) hi) (fun self => bind_fn (R.kin O) self hf) (.inl rfl) ?_
  have e : (hh.push emptyDict).objs.size = hh.objs.size + 1 := Heap.size_push ..
  rw [← e]
  refine codeAny_mono (h _ hh.objs.size _ vs' _ ia rfl (Nat.le_refl _) (by show C.A.units + _ ≤ C.A.units + 20; exact Nat.add_le_add_left (show (Code.builtin "type.__call__" ⟨.ref c :: vs', []⟩).cUnits ≤ 20 from (by decide : 1 + 3 * 0 ≤ 20)) _) rfl R2) fun r s' hr => ?_
  rcases r with e | (v | _ | _ | _)
  · exact hr
  · exact hr
  · exact hr
  · exact hr
  · obtain ⟨b, σ', i, R', rfl, q⟩ := hr
    exact ⟨i.of_none, _, _, Is.ref _, R', q⟩
theorem r_mcall (O : C.Ok gl names cells) {o : PySem.Expr} {name : Str} {apos pos : Pos} {args : List PySem.Expr} {c f : Addr} {Q : MV → MS → Prop} (hc : ClsOk C.K c) (hf : findIn C.K (.ref c) name = some (some (.ref f))) (ht : isFn C.K (.ref f) = true) (hk : keepIn C.K (.ref f) = true)
    (h : EV C o (fun ov σ₁ => ∃ x d sl fs, ov = .ref x ∧ Has x (.inst c d sl) σ₁.led ∧ Has d (.attrs fs) σ₁.led ∧ (fs.all fun p => !(p.1 == name)) = true ∧ SPL C pos args (fun vs σ₂ => CALLR C f (.ref x :: vs) Q E σ₂) E σ₁) E σ)
    (ha : attributeBase o name C.env (eval o C.env) = eval o C.env := by rfl) (hfo : methodCallForm (args.length + ([] : List Keyword).length) (backTo pos (starEach args C.env)) (backToKw pos (keywordEach [] C.env)) = true := by rfl)
    (hp : (apos.endLine == pos.line) = true := by rfl) (hn : (starEach args C.env).any (·.1) = false := by rfl) : EV C (.Call (.Attribute o name apos) args [] pos) Q E σ := fun s R => by
  rw [arm_eval_Call, ha]
  refine wpAny_bind (wpAny_mono (h s R) (fun ov s₁ h₁ => ?_) fun _ _ e => e)
  obtain ⟨m, σ₁, i, R₁, x, d, sl, fs, rfl, hx, hd, hnm, k⟩ := h₁
  cases i.of_ref
  obtain ⟨vs, es, n, hs, hat, nd, hod, I⟩ := R₁.inst hx hd
  refine wpAny_bind (wpAny_standAt ?_)
  have hpos : methodCallPos true o C.env apos pos = pure pos := by unfold methodCallPos; simp [hp]
  unfold methodCall
  rw [hfo]
  have hmiss : getL name es = some none := hat.miss fun p hp => by simpa using List.all_eq_true.mp hnm p hp
  refine wpAny_bind (wpAny_holding (method_fn (R₁.kin O) I (plainGet_of hc.get).1 (plainGet_of hc.get).2 hf (beq_iff_eq.mp ht) (by show (lookIn name (dictOf es n)).map _ = _; rw [lookIn_dict, hmiss]; rfl) ?_))
  refine wpAny_bind (wpAny_of_eq hpos ?_)
  refine callWith_both (P := fun h => C.K.In h) (keeps_K hk) (wpAny_mono (a_spl (f := .ref f) k hn s₁ R₁) (fun a s₂ h₂ => ?_) fun _ _ e => e)
  obtain ⟨ms, σ₂, ⟨hkw, ia⟩, R₂, q⟩ := h₂
  refine ⟨R₂.kin O, ?_⟩
  rw [hkw]
  exact wpAny_call (q _ (.cons (Is.ref x) ia) s₂ R₂)
end
/- data as the ledger holds it -/
mutual
inductive MRead (led : List (Addr × MO)) : MV → PyData → Prop where
  | none : MRead led .none .none
  | bool (b) : MRead led (.bool b) (.bool b)
  | int (i) : MRead led (.int i) (.int i)
  | list {a xs ds} : Has a (.list xs) led → MReads led xs ds → MRead led (.ref a) (.list ds)
  | tup {a xs ds} : Has a (.tup xs) led → MReads led xs ds → MRead led (.ref a) (.tuple ds)
inductive MReads (led : List (Addr × MO)) : List MV → List PyData → Prop where
  | nil : MReads led [] []
  | cons {m d ms ds} : MRead led m d → MReads led ms ds → MReads led (m :: ms) (d :: ds)
end
theorem MReads.ints (led : List (Addr × MO)) : ∀ ns : List Int, MReads led (ns.map .int) (ns.map .int)
  | [] => .nil
  | n :: ns => .cons (.int n) (MReads.ints led ns)
theorem MReads.bools (led : List (Addr × MO)) : ∀ ns : List Bool, MReads led (ns.map .bool) (ns.map .bool)
  | [] => .nil
  | n :: ns => .cons (.bool n) (MReads.bools led ns)
section
variable {C : Cx} {σ : MS} {s : Shared} {E : Value → Shared → Prop} {gl : List (Str × MV)} {names : List (Str × NameKind)} {cells : List (Str × Addr)}
mutual
theorem MRead.reads (R : Rel C σ s) : ∀ {m : MV} {d : PyData}, MRead σ.led m d → ∀ {v : Value}, Is v m → ∃ as, Reads s.heap v d as
  | _, _, .none, v, i => by rw [i.of_none]; exact ⟨_, .none⟩
  | _, _, .bool b, v, i => by rw [i.of_bool]; exact ⟨_, .bool b⟩
  | _, _, .int n, v, i => by obtain ⟨t, rfl⟩ := i; exact ⟨_, .int n t⟩
  | _, _, .list h r, v, i => by
    obtain rfl := i.of_ref
    obtain ⟨ob, ho, vs, n, ha, rfl⟩ := R.at h
    obtain ⟨as, q⟩ := MReads.reads R r ha
    exact ⟨_, reads_list_at ho rfl rfl (by simpa using q)⟩
  | _, _, .tup h r, v, i => by
    obtain rfl := i.of_ref
    obtain ⟨ob, ho, vs, n, ha, rfl⟩ := R.at h
    obtain ⟨as, q⟩ := MReads.reads R r ha
    exact ⟨_, reads_tuple_at ho rfl rfl (by simpa using q)⟩
theorem MReads.reads (R : Rel C σ s) : ∀ {ms : List MV} {ds : List PyData}, MReads σ.led ms ds → ∀ {vs : List Value}, Are vs ms → ∃ as, ReadsAll s.heap vs ds as
  | _, _, .nil, _, h => by cases h; exact ⟨_, .nil⟩
  | _, _, .cons a r, _, h => by
    cases h with
    | cons i is =>
      obtain ⟨as, q⟩ := MRead.reads R a i
      obtain ⟨bs, p⟩ := MReads.reads R r is
      exact ⟨_, .cons q p⟩
end
theorem Cx.Ok.room (O : C.Ok gl names cells) : C.A.units + 64 < cLine := by
  have := O.units
  have : cLine = 9900 := rfl
  omega
theorem c_eqd (O : C.Ok gl names cells) {a b : MV} {da db : PyData} {Q : MV → MS → Prop} (ha : MRead σ.led a da) (hb : MRead σ.led b db) (sa : SeqAt.shaped da = true) (sb : SeqAt.shaped db = true) (h : Q (.bool (PyData.eqv da db)) σ) : CMP C .Eq a b Q E σ := fun a' b' ia ib s R => by
  obtain ⟨as, ra⟩ := ha.reads R ia
  obtain ⟨bs, rb⟩ := hb.reads R ib
  exact eq_dataH ra rb sa sb O.room ⟨_, σ, Is.bool _, R, h⟩
theorem c_ned (O : C.Ok gl names cells) {a b : MV} {da db : PyData} {Q : MV → MS → Prop} (ha : MRead σ.led a da) (hb : MRead σ.led b db) (sa : SeqAt.shaped da = true) (sb : SeqAt.shaped db = true) (h : Q (.bool (!PyData.eqv da db)) σ) : CMP C .NotEq a b Q E σ := fun a' b' ia ib s R => by
  obtain ⟨as, ra⟩ := ha.reads R ia
  obtain ⟨bs, rb⟩ := hb.reads R ib
  exact ne_dataH ra rb sa sb O.room ⟨_, σ, Is.bool _, R, h⟩
theorem canLay_ints : ∀ ns : List Int, PyData.canLayAll0 (ns.map .int) = true
  | [] => rfl
  | n :: ns => by rw [List.map_cons, PyData.canLayAll0, canLay_ints ns]; rfl
theorem depth_ints : ∀ ns : List Int, PyData.depthAll (ns.map .int) = 0
  | [] => rfl
  | n :: ns => by rw [List.map_cons, PyData.depthAll, depth_ints ns]; rfl
theorem shaped_ints (ns : List Int) : SeqAt.shaped (.list (ns.map .int)) = true := by
  unfold SeqAt.shaped
  rw [PyData.canLay0, canLay_ints, PyData.depth, depth_ints]; rfl
theorem shaped_pair (ns ms : List Int) : SeqAt.shaped (.tuple [.list (ns.map .int), .list (ms.map .int)]) = true := by
  unfold SeqAt.shaped
  simp [PyData.canLay0, PyData.canLayAll0, canLay_ints, PyData.depth, PyData.depthAll, depth_ints]
theorem eqv_ints : ∀ ns ms : List Int, PyData.eqvAll (ns.map .int) (ms.map .int) = decide (ns = ms)
  | [], [] => by simp [PyData.eqvAll]
  | [], _ :: _ => by simp [PyData.eqvAll]
  | _ :: _, [] => by simp [PyData.eqvAll]
  | n :: ns, m :: ms => by
    rw [List.map_cons, List.map_cons, PyData.eqvAll, eqv_ints ns ms]
    by_cases h : n = m <;> by_cases h' : ns = ms <;> simp [PyData.eqv, h, h']
theorem c_ne_ints (O : C.Ok gl names cells) {a b : Addr} {ns ms : List Int} {Q : MV → MS → Prop} (ha : Has a (.list (ns.map .int)) σ.led) (hb : Has b (.list (ms.map .int)) σ.led) (h : Q (.bool (!decide (ns = ms))) σ) : CMP C .NotEq (.ref a) (.ref b) Q E σ :=
  c_ned O (.list ha (.ints _ ns)) (.list hb (.ints _ ms)) (shaped_ints ns) (shaped_ints ms) (by rw [PyData.eqv, eqv_ints]; exact h)
theorem c_ne_pairs (O : C.Ok gl names cells) {a b a1 a2 b1 b2 : Addr} {ns ms ns' ms' : List Int} {Q : MV → MS → Prop} (ha : Has a (.tup [.ref a1, .ref a2]) σ.led) (hb : Has b (.tup [.ref b1, .ref b2]) σ.led) (ha1 : Has a1 (.list (ns.map .int)) σ.led) (ha2 : Has a2 (.list (ms.map .int)) σ.led) (hb1 : Has b1 (.list (ns'.map .int)) σ.led) (hb2 : Has b2 (.list (ms'.map .int)) σ.led)
    (h : Q (.bool (!decide ((ns, ms) = (ns', ms')))) σ) : CMP C .NotEq (.ref a) (.ref b) Q E σ := by
  refine c_ned O (.tup ha (.cons (.list ha1 (.ints _ ns)) (.cons (.list ha2 (.ints _ ms)) .nil))) (.tup hb (.cons (.list hb1 (.ints _ ns')) (.cons (.list hb2 (.ints _ ms')) .nil))) (shaped_pair ns ms) (shaped_pair ns' ms') ?_
  have e : PyData.eqv (.tuple [.list (ns.map .int), .list (ms.map .int)]) (.tuple [.list (ns'.map .int), .list (ms'.map .int)]) = decide ((ns, ms) = (ns', ms')) := by
    simp only [PyData.eqv, PyData.eqvAll, eqv_ints]
    by_cases h1 : ns = ns' <;> by_cases h2 : ms = ms' <;> simp [h1, h2]
  rw [e]; exact h
/- is, in -/
theorem c_is_none {a : MV} {Q : MV → MS → Prop} (b : Bool) (hb : (match a with | .none => true | _ => false) = b) (h : Q (.bool b) σ) : CMP C .Is a .none Q E σ := fun a' b' ia ib s R => by
  cases ib.of_none
  refine is_none ⟨.bool b, σ, ?_, R, h⟩
  obtain ⟨t, rfl⟩ := ia
  subst hb
  cases a <;> exact Is.bool _
theorem c_isnot_none {a : MV} {Q : MV → MS → Prop} (b : Bool) (hb : (match a with | .none => false | _ => true) = b) (h : Q (.bool b) σ) : CMP C .IsNot a .none Q E σ := fun a' b' ia ib s R => by
  cases ib.of_none
  refine isNot_none ⟨.bool b, σ, ?_, R, h⟩
  obtain ⟨t, rfl⟩ := ia
  subst hb
  cases a <;> exact Is.bool _
theorem IntsAre.mem_int : ∀ {vs : List Value} {ns : List Int}, IntsAre vs ns → ∀ y ∈ vs, ∃ j u, y = .int j u := fun h => by
  induction h with
  | nil => intro y hm; cases hm
  | cons n t _ ih =>
    intro y hm
    rcases List.mem_cons.mp hm with rfl | hm
    · exact ⟨n, t, rfl⟩
    · exact ih y hm
theorem IntsAre.any_eq {k : Int} : ∀ {vs : List Value} {ns : List Int}, IntsAre vs ns → (vs.any fun y => match y with | .int j _ => j == k | _ => false) = decide (k ∈ ns) := fun h => by
  induction h with
  | nil => rfl
  | cons n t _ ih =>
    rw [List.any_cons, ih]
    by_cases h1 : n = k
    · subst h1; simp
    · have h2 : ¬ k = n := fun e => h1 e.symm
      simp [h1, h2]
theorem c_notin {a : Addr} {ns : List Int} {k : Int} {Q : MV → MS → Prop} (ha : Has a (.list (ns.map .int)) σ.led) (h : Q (.bool (!decide (k ∈ ns))) σ) : CMP C .NotIn (.int k) (.ref a) Q E σ := fun a' b' ⟨t, e⟩ ib s R => by
  cases e; cases ib.of_ref
  obtain ⟨ob, ho, vs, n, hv, rfl⟩ := R.at ha
  have hi := hv.ints
  refine PySem.SeqInW.notIn_listW (fun y => match y with | .int j _ => j == k | _ => false) (fun y hy => ?_) ⟨_, ho, rfl, n, rfl⟩ ⟨.bool (!decide (k ∈ ns)), σ, ?_, R, h⟩
  · obtain ⟨j, u, rfl⟩ := IntsAre.mem_int hi y (by simpa using hy)
    exact EqGives.int j k u t
  · rw [← IntsAre.any_eq hi, List.any_toArray]; exact Is.bool _
/- items -/
noncomputable abbrev SUBT (C : Cx) (value slice : PySem.Expr) (o i : MV) (Q : MV → MS → Prop) (E : Value → Shared → Prop) (σ : MS) : Prop := ∀ o' i', Is o' o → Is i' i → AW C IsV (subscriptTail value slice o' i') Q E σ
theorem r_subs {value slice : PySem.Expr} {pos : Pos} {Q : MV → MS → Prop} (h : EV C value (fun o σ₁ => EV C slice (fun i σ₂ => SUBT C value slice o i Q E σ₂) E σ₁) E σ) : EV C (.Subscript value slice pos) Q E σ := fun s R =>
  Subscript_ (wpAny_mono (h s R) (fun o s₁ post_ => post_.out fun _ _ io R₁ k => wpAny_mono (k s₁ R₁) (fun i s₂ post_ => post_.out fun _ _ ii R₂ k₂ => k₂ o i io ii s₂ R₂) fun _ _ e => e) fun _ _ e => e)
theorem subscripted_false (slice : PySem.Expr) (o i : Value) : ∃ ops, subscripted slice false o i = operate ops (getItem o i) := by
  unfold subscripted
  split
  · exact ⟨_, rfl⟩
  · rename_i h; cases h
  · exact ⟨_, rfl⟩
theorem i_list {value slice : PySem.Expr} {a : Addr} {xs : List MV} {k : Int} {v : MV} {Q : MV → MS → Prop} (ha : Has a (.list xs) σ.led) (h0 : 0 ≤ k) (h1 : k < 1000000) (hx : xs[k.toNat]? = some v) (h : Q v σ) : SUBT C value slice (.ref a) (.int k) Q E σ := fun o' i' io ⟨t, e⟩ s R => by
  cases io.of_ref; cases e
  obtain ⟨ob, ho, vs, n, hv, rfl⟩ := R.at ha
  obtain ⟨y, hy, iy⟩ := hv.get hx
  obtain ⟨ops, hs⟩ := subscripted_false slice (.ref a) (.int k t)
  refine tail_any (IsL_of s ho) slot_list_getitem.lookup (wpAny_getItem_list (items := vs.toArray) ⟨_, ho, rfl, n, rfl⟩ h0 (by omega) (by simpa using hy) ⟨v, σ, iy, R, h⟩) hs
theorem i_list_neg {value slice : PySem.Expr} {a : Addr} {xs : List MV} {k : Int} {v : MV} {Q : MV → MS → Prop} (ha : Has a (.list xs) σ.led) (h0 : k < 0) (h1 : -(xs.length : Int) ≤ k) (hz : xs.length ≤ 1000000) (hx : xs[(k + xs.length).toNat]? = some v) (h : Q v σ) : SUBT C value slice (.ref a) (.int k) Q E σ := fun o' i' io ⟨t, e⟩ s R => by
  cases io.of_ref; cases e
  obtain ⟨ob, ho, vs, n, hv, rfl⟩ := R.at ha
  obtain ⟨y, hy, iy⟩ := hv.get hx
  have hl := hv.length
  obtain ⟨ops, hs⟩ := subscripted_false slice (.ref a) (.int k t)
  refine tail_any (IsL_of s ho) slot_list_getitem.lookup (wpAny_getItem_list_neg (items := vs.toArray) ⟨_, ho, rfl, n, rfl⟩ h0 (by simp; omega) (by omega) (by simpa [hl] using hy) ⟨v, σ, iy, R, h⟩) hs
theorem i_tup {value slice : PySem.Expr} {a : Addr} {xs : List MV} {k : Int} {v : MV} {Q : MV → MS → Prop} (ha : Has a (.tup xs) σ.led) (h0 : 0 ≤ k) (h1 : k < 1000000) (hx : xs[k.toNat]? = some v) (h : Q v σ) : SUBT C value slice (.ref a) (.int k) Q E σ := fun o' i' io ⟨t, e⟩ s R => by
  cases io.of_ref; cases e
  obtain ⟨ob, ho, vs, n, hv, rfl⟩ := R.at ha
  obtain ⟨y, hy, iy⟩ := hv.get hx
  obtain ⟨ops, hs⟩ := subscripted_false slice (.ref a) (.int k t)
  have hlt : k.toNat < vs.length := (List.getElem?_eq_some_iff.mp hy).1
  refine tail_any ⟨_, ho, rfl⟩ F.slot_tuple_getitem.lookup (PyProof.Rows.getItem_tuple (items := vs.toArray) (j := k.toNat) ⟨_, ho, rfl, n, rfl⟩ (by omega) (by omega) ?_ (by simpa using hy) ⟨v, σ, iy, R, h⟩) hs
  unfold seqIndex?
  have e1 : ¬ k < 0 := by omega
  simp only [List.size_toArray, if_neg e1]
  rw [if_pos (by simp; omega)]
/- cuts -/
noncomputable def MO.slice (lo hi st : Option Int) : MO := .gen fun ob => ∃ vl vu vs, ob.cls = .type "slice" ∧ ob.data = .fields #[vl, vu, vs] ∧ IsPart vl lo ∧ IsPart vu hi ∧ IsPart vs st
noncomputable abbrev PART (C : Cx) (e : Option PySem.Expr) (Q : Option Int → MS → Prop) (E : Value → Shared → Prop) (σ : MS) : Prop := AW C (fun o v => IsPart v o) (evalPart e C.env) Q E σ
theorem pt_none {Q : Option Int → MS → Prop} (h : Q none σ) : PART C none Q E σ := fun s R => by
  rw [evalPart_none]; exact wpAny_pure ⟨none, σ, .none, R, h⟩
theorem pt_some {e : PySem.Expr} {Q : Option Int → MS → Prop} (h : EV C e (fun v σ₁ => ∃ k, v = .int k ∧ Q (some k) σ₁) E σ) : PART C (some e) Q E σ := fun s R =>
  evalPart_some_step (wpAny_mono (h s R) (fun v s₁ ⟨m, σ₁, i, R₁, k, e, q⟩ => by subst e; obtain ⟨t, rfl⟩ := i; exact ⟨some k, σ₁, .int k t, R₁, q⟩) fun _ _ e => e)
theorem r_slice {lower upper step : Option PySem.Expr} {p : Pos} {Q : MV → MS → Prop} (h : PART C lower (fun lo σ₁ => PART C upper (fun hi σ₂ => PART C step (fun st σ₃ => ∀ a, Q (.ref a) ⟨σ₃.loc, (a, .slice lo hi st) :: σ₃.led⟩) E σ₂) E σ₁) E σ) : EV C (.Slice lower upper step p) Q E σ := fun s R =>
  wpAny_Slice (wpAny_mono (h s R) (fun vl s₁ post_ => post_.out fun lo σ₁ il R₁ k => wpAny_mono (k s₁ R₁) (fun vu s₂ post_ => post_.out fun hi σ₂ iu R₂ k₂ => wpAny_mono (k₂ s₂ R₂) (fun vs s₃ post_ => post_.out fun st σ₃ is R₃ k₃ =>
    ⟨_, _, Is.ref _, R₃.alloc (.slice lo hi st) ⟨vl, vu, vs, rfl, rfl, il, iu, is⟩ rfl, k₃ _⟩) fun _ _ e => e) fun _ _ e => e) fun _ _ e => e)
noncomputable def mpick {α : Type} (xs : List α) (lo hi st : Option Int) : List α := (sliceRange (sliceBounds lo hi st xs.length).1 (sliceBounds lo hi st xs.length).2.1 (sliceBounds lo hi st xs.length).2.2).filterMap (xs[·]?)
theorem Are.pick {vs : List Value} {xs : List MV} (h : Are vs xs) (lo hi st : Option Int) : Are (mpick vs lo hi st) (mpick xs lo hi st) := by
  unfold mpick
  rw [h.length]
  generalize sliceRange _ _ _ = is
  induction is with
  | nil => exact .nil
  | cons i is ih =>
    rw [List.filterMap_cons, List.filterMap_cons]
    cases hx : xs[i]? with
    | none => rw [h.get_none hx]; exact ih
    | some m =>
      obtain ⟨v, hv, iv⟩ := h.get hx
      rw [hv]; exact .cons iv ih
theorem mpick_map {α β : Type} (f : α → β) (xs : List α) (lo hi st : Option Int) : mpick (xs.map f) lo hi st = (mpick xs lo hi st).map f := by
  unfold mpick
  rw [List.length_map, List.map_filterMap]
  congr 1
  funext i
  simp
theorem i_slice {value slice : PySem.Expr} {a b : Addr} {xs : List MV} {lo hi st : Option Int} {Q : MV → MS → Prop} (ha : Has a (.list xs) σ.led) (hb : Has b (.slice lo hi st) σ.led) (h0 : st ≠ some 0) (hz : xs.length ≤ 1000000) (h : ∀ D, Q (.ref D) ⟨σ.loc, (D, .list (mpick xs lo hi st)) :: σ.led⟩) : SUBT C value slice (.ref a) (.ref b) Q E σ := fun o' i' io ii s R => by
  cases io.of_ref; cases ii.of_ref
  obtain ⟨ob, ho, vs, n, hv, rfl⟩ := R.at ha
  obtain ⟨os, hos, vl, vu, vst, hc, hd, il, iu, is⟩ := R.at hb
  obtain ⟨ops, hs⟩ := subscripted_false slice (.ref a) (.ref b)
  have hl := hv.length
  refine tail_any (IsL_of s ho) slot_list_getitem.lookup (wpAny_getItem_list_slice (items := vs.toArray) ⟨_, ho, rfl, n, rfl⟩ ⟨os, hos, hc, hd⟩ il iu is h0 ?_ (by show vs.length ≤ _; rw [sizeLine_eq]; omega)) hs
  refine ⟨_, _, Is.ref _, R.alloc (.list (mpick xs lo hi st)) ⟨mpick vs lo hi st, 0, hv.pick lo hi st, ?_⟩ rfl, h _⟩
  unfold slicePick mpick
  simp
end
theorem Are.one {vs : List Value} {m : MV} (h : Are vs [m]) : ∃ v, vs = [v] ∧ Is v m := by
  cases h with | cons i r => cases r; exact ⟨_, rfl, i⟩
theorem Are.two {vs : List Value} {m n : MV} (h : Are vs [m, n]) : ∃ v w, vs = [v, w] ∧ Is v m ∧ Is w n := by
  cases h with | cons i r => obtain ⟨w, rfl, j⟩ := r.one; exact ⟨_, w, rfl, i, j⟩
theorem Are.three {vs : List Value} {m n k : MV} (h : Are vs [m, n, k]) : ∃ v w x, vs = [v, w, x] ∧ Is v m ∧ Is w n ∧ Is x k := by
  cases h with | cons i r => obtain ⟨w, x, rfl, j, l⟩ := r.two; exact ⟨_, w, x, rfl, i, j, l⟩
section
variable {C : Cx} {σ : MS} {s : Shared} {E : Value → Shared → Prop} {gl : List (Str × MV)} {names : List (Str × NameKind)} {cells : List (Str × Addr)}
theorem news_all (h : Heap) (L : Addr) : News noHeap L h (others h L L) := fun p hp => by
  obtain ⟨b, o⟩ := p
  have := mem_others.mp hp
  exact ⟨this.2.2, this.1, noHeap_get _⟩
theorem Rel.kept (R : Rel C σ s) {m : Str → Option Value} {h' : Heap} (hm : ∀ p ∈ σ.loc, LocIs (m p.1) p.2) (F : Fr noHeap C.L h' m) (N : News noHeap C.L h' (others s.heap C.L C.L)) (t : Nat := s.toks) : Rel C σ { s with heap := h', toks := t } := by
  have k : ∀ b x, b ≠ C.L → s.heap.get? b = some x → h'.get? b = some x := fun b x h1 h3 => (N (b, x) (mem_others.mpr ⟨h1, h1, h3⟩)).1
  refine ⟨fun b x e => k b x (fun q => ?_) (R.keep b x e), ⟨m, F.ns, hm⟩, R.hereNew, R.lnd, fun p hp => ⟨(R.outs p hp).1.keeps fun x e => k _ x (R.outs p hp).2.2 e, (R.outs p hp).2⟩, fun p hp => ?_, R.nd, R.gens, R.os⟩
  · rw [q, R.hereNew] at e; cases e
  · exact ⟨let ⟨ob, x, y⟩ := (R.led p hp).1; ⟨ob, k _ _ (R.led p hp).2.2.1 x, y⟩, (R.led p hp).2⟩
theorem Rel.more (R : Rel C σ s) {h' : Heap} {D : Addr} {ob : Obj} (m : MO) (hk : ∀ b o, s.heap.get? b = some o → h'.get? b = some o) (hD : s.heap.get? D = none) (ho : h'.get? D = some ob) (hm : m.ok ob) (t : Nat := s.toks) : Rel C ⟨σ.loc, (D, m) :: σ.led⟩ { s with heap := h', toks := t } := by
  have R' := R.ext hk t
  have off := Off.of_none R hD
  refine ⟨R'.keep, R'.here, R'.hereNew, R'.lnd, R'.outs, fun p hp => ?_, ?_, R'.gens, R'.os⟩
  · rcases List.mem_cons.mp hp with rfl | hp
    · exact ⟨⟨ob, ho, hm⟩, off.new, off.here, off.outs⟩
    · exact R'.led p hp
  · refine List.nodup_cons.mpr ⟨fun hmem => ?_, R.nd⟩
    obtain ⟨p, hp, e⟩ := List.mem_map.mp hmem
    exact off.led p hp e
/- len, range -/
theorem k_len_list {a : Addr} {xs : List MV} {Q : MV → MS → Prop} (ha : Has a (.list xs) σ.led) (hz : xs.length ≤ 1000000) (h : Q (.int xs.length) σ) : CALLB C "len" [.ref a] Q E σ := fun vs' ia s R => by
  obtain ⟨v, rfl, i⟩ := ia.one
  cases i.of_ref
  obtain ⟨ob, ho, vs, n, hv, rfl⟩ := R.at ha
  have hl := hv.length
  refine Calls.call_len_list (items := vs.toArray) ⟨_, ho, rfl, n, rfl⟩ (by simp; omega) ?_
  exact ⟨.int xs.length, σ, by simp only [List.size_toArray, hl]; exact Is.int _ _, R.toks _, h⟩
theorem k_len_tup {a : Addr} {xs : List MV} {Q : MV → MS → Prop} (ha : Has a (.tup xs) σ.led) (hz : xs.length ≤ 1000000) (h : Q (.int xs.length) σ) : CALLB C "len" [.ref a] Q E σ := fun vs' ia s R => by
  obtain ⟨v, rfl, i⟩ := ia.one
  cases i.of_ref
  obtain ⟨ob, ho, vs, n, hv, rfl⟩ := R.at ha
  have hl := hv.length
  refine PyProof.Rows.len_tuple (items := vs.toArray) ⟨_, ho, rfl, n, rfl⟩ (by simp; omega) ?_
  exact ⟨.int xs.length, σ, by simp only [List.size_toArray, hl]; exact Is.int _ _, R.toks _, h⟩
theorem k_range1 {n : Int} {Q : MV → MS → Prop} (h : ∀ a, Q (.ref a) ⟨σ.loc, (a, .range 0 n 1) :: σ.led⟩) : CALLT C "range" [.int n] Q E σ := fun vs' ia s R => by
  obtain ⟨v, rfl, t, rfl⟩ := ia.one
  refine call_range_1 ?_
  have R' := R.alloc (o := { cls := .type "range", data := .fields #[.int 0 s.toks, .int n t, .int 1 (s.toks + 1)] }) (.range 0 n 1) ⟨_, _, _, rfl⟩ rfl
  exact ⟨_, _, Is.ref _, R'.toks _, h _⟩
/- list(..), tuple(..), set() -/
theorem k_list_list {a : Addr} {xs : List MV} {Q : MV → MS → Prop} (ha : Has a (.list xs) σ.led) (hz : xs.length ≤ 1000000) (h : ∀ D, Q (.ref D) ⟨σ.loc, (D, .list xs) :: σ.led⟩) : CALLT C "list" [.ref a] Q E σ := fun vs' ia s R => by
  obtain ⟨v, rfl, i⟩ := ia.one
  cases i.of_ref
  obtain ⟨ob, ho, vs, n, hv, rfl⟩ := R.at ha
  have hl := hv.length
  refine call_list_seq a (.inl rfl) ho rfl rfl (fun h' c' hk hD => ?_) (by show vs.length ≤ _; rw [sizeLine_eq]; omega)
  exact ⟨_, _, Is.ref _, R.more (.list xs) hk (Heap.get?_none_of_le (Nat.le_refl _)) hD ⟨vs, c', hv, rfl⟩, h _⟩
theorem k_list_tup {a : Addr} {xs : List MV} {Q : MV → MS → Prop} (ha : Has a (.tup xs) σ.led) (hz : xs.length ≤ 1000000) (h : ∀ D, Q (.ref D) ⟨σ.loc, (D, .list xs) :: σ.led⟩) : CALLT C "list" [.ref a] Q E σ := fun vs' ia s R => by
  obtain ⟨v, rfl, i⟩ := ia.one
  cases i.of_ref
  obtain ⟨ob, ho, vs, n, hv, rfl⟩ := R.at ha
  have hl := hv.length
  refine call_list_seq a (.inr rfl) ho rfl rfl (fun h' c' hk hD => ?_) (by show vs.length ≤ _; rw [sizeLine_eq]; omega)
  exact ⟨_, _, Is.ref _, R.more (.list xs) hk (Heap.get?_none_of_le (Nat.le_refl _)) hD ⟨vs, c', hv, rfl⟩, h _⟩
theorem k_tuple_list {a : Addr} {xs : List MV} {Q : MV → MS → Prop} (ha : Has a (.list xs) σ.led) (hz : xs.length ≤ 1000000) (h : ∀ D, Q (.ref D) ⟨σ.loc, (D, .tup xs) :: σ.led⟩) : CALLT C "tuple" [.ref a] Q E σ := fun vs' ia s R => by
  obtain ⟨v, rfl, i⟩ := ia.one
  cases i.of_ref
  obtain ⟨ob, ho, vs, n, hv, rfl⟩ := R.at ha
  have hl := hv.length
  refine call_tuple_list (items := vs.toArray) ⟨_, ho, rfl, n, rfl⟩ (fun h' hk => ?_) (by show vs.length ≤ _; rw [sizeLine_eq]; omega)
  have R' := (R.ext (h' := h') hk).alloc (o := { cls := .type "tuple", data := .seq vs.toArray }) (.tup xs) ⟨vs, 0, hv, rfl⟩ rfl
  exact ⟨_, _, Is.ref _, R', h _⟩
noncomputable def MO.set (xs : List Int) : MO := .gen fun ob => ∃ es ep t, ob.ExactSet ∧ ob.data = .set es ep t ∧ (∀ e ∈ es.toList, (∃ k, Value.isInt k e.2 = true ∧ e.1 = hashInt k) ∧ e.2.scannable = true) ∧ (∀ k, k ∈ xs ↔ ∃ e ∈ es.toList, Value.isInt k e.2 = true) ∧ es.size < scanBound ∧ t.fits es.size = true ∧ es.size = xs.length
theorem Rel.setOf (R : Rel C σ s) {a : Addr} {xs : List Int} (h : Has a (.set xs) σ.led) : s.heap.SetOf (intKind C.prog C.w) a (fun k => decide (k ∈ xs)) xs.length := by
  obtain ⟨ob, ho, es, ep, t, h1, h2, h3, h4, h5, h6, h7⟩ := R.at h
  exact ⟨ob, es, ep, t, ho, h1, h2, h3, fun k => by rw [decide_eq_true_iff]; exact h4 k, h5, h6, h7⟩
theorem setP_of {prog : Program} {w : World} {h : Heap} {a : Addr} {S : Int → Bool} {n : Nat} {xs : List Int} (x : h.SetOf (intKind prog w) a S n) (hS : ∀ k, S k = true ↔ k ∈ xs) (hn : n = xs.length) : ∃ ob, h.get? a = some ob ∧ (MO.set xs).ok ob := by
  obtain ⟨ob, es, ep, t, ho, h1, h2, h3, h4, h5, h6, h7⟩ := x
  exact ⟨ob, ho, es, ep, t, h1, h2, h3, fun k => (hS k).symm.trans (h4 k), h5, h6, h7.trans hn⟩
theorem k_set0 {Q : MV → MS → Prop} (h : ∀ D, Q (.ref D) ⟨σ.loc, (D, .set []) :: σ.led⟩) : CALLT C "set" [] Q E σ := fun vs' ia s R => by
  cases ia
  refine call_set_0 fun led => ?_
  exact ⟨_, _, Is.ref _, R.alloc (.set []) ⟨#[], 0, .fresh 0 0 led, ⟨rfl, rfl, rfl⟩, rfl, by simp, by simp, by show 0 < scanBound; decide +kernel, by cases led <;> rfl, rfl⟩ rfl, h _⟩
theorem k_set_add {a : Addr} {xs : List Int} {k : Int} {led' : List (Addr × MO)} {Q : MV → MS → Prop} (hk : k ∉ xs) (U : Upd a (.set xs) (.set (xs ++ [k])) σ.led led') (hz : xs.length ≤ 1000) (h : Q .none ⟨σ.loc, led'⟩) : CALLB C "set.add" [.ref a, .int k] Q E σ := fun vs' ia s R => by
  obtain ⟨v, w, rfl, i, t, rfl⟩ := ia.two
  cases i.of_ref
  have hS := R.setOf (.of_mem U.mem)
  have hsb : (1002 : Nat) < scanBound := by decide +kernel
  refine call_set_add (knd := intKind C.prog C.w) (k := k) (intKind_is _ _ k t) rfl hS (by omega) fun h' hs hS' => ?_
  obtain ⟨ob, ho, hok⟩ := setP_of (xs := xs ++ [k]) hS' (fun k' => by simp) (by simp [hk])
  exact ⟨.none, _, Is.none, R.upd U hs ho hok _, h⟩
theorem c_inset {a : Addr} {xs : List Int} {k : Int} {Q : MV → MS → Prop} (ha : Has a (.set xs) σ.led) (h : Q (.bool (decide (k ∈ xs))) σ) : CMP C .In (.int k) (.ref a) Q E σ := fun a' b' ⟨t, e⟩ ib s R => by
  cases e; cases ib.of_ref
  exact wpAny_inSet_of (knd := intKind C.prog C.w) (k := k) (intKind_is _ _ k t) rfl (R.setOf ha) ⟨_, σ, Is.bool _, R.toks _, h⟩
theorem OfT.set {a : Addr} {xs : List Int} (h : Has a (.set xs) σ.led) : OfT C σ (.ref a) "set" := fun s R v' i => by
  cases i.of_ref
  have hS := R.setOf h
  exact ⟨hS.typeIs, fun b e => hS.noDict b e⟩
theorem k_extend_tup {a b : Addr} {xs ys : List MV} {led' : List (Addr × MO)} {Q : MV → MS → Prop} (hb : Has b (.tup ys) σ.led) (U : Upd a (.list xs) (.list (xs ++ ys)) σ.led led') (hz : xs.length + ys.length ≤ 1000000) (h : Q .none ⟨σ.loc, led'⟩) : CALLB C "list.extend" [.ref a, .ref b] Q E σ := fun vs' ia s R => by
  obtain ⟨v, w, rfl, i, j⟩ := ia.two
  cases i.of_ref; cases j.of_ref
  obtain ⟨⟨ob, ho, vs, n, hv, rfl⟩, _⟩ := R.led _ U.mem
  obtain ⟨ob2, ho2, ws, n2, hw, rfl⟩ := R.at hb
  have hl := hv.length
  have hl2 := hw.length
  have hsz : vs.toArray.size + ws.toArray.size ≤ sizeLine := by show vs.length + ws.length ≤ _; rw [sizeLine_eq]; omega
  refine call_meets F.slot_list_extend (IsL_of s ho) F.entry_list_extend (F.args_list_extend_2 _ _) (PySem.AutoSeq1.list_extend_list_tuple_0 a vs.toArray n b ws.toArray n2 (extend_door hsz) (by omega) (by omega)) ⟨ho, ho2, ?_⟩
  obtain ⟨n', hg, hs⟩ := list_upd (f := fun xs => xs ++ ws.toArray) (vs' := vs ++ ws) ho (by simp)
  exact ⟨.none, _, Is.none, R.upd U hs hg ⟨_, n', hv.append hw, rfl⟩ _, h⟩
theorem k_clear {a : Addr} {xs : List MV} {led' : List (Addr × MO)} {Q : MV → MS → Prop} (U : Upd a (.list xs) (.list []) σ.led led') (hz : xs.length ≤ 1000000) (h : Q .none ⟨σ.loc, led'⟩) : CALLB C "list.clear" [.ref a] Q E σ := fun vs' ia s R => by
  obtain ⟨v, rfl, i⟩ := ia.one
  cases i.of_ref
  obtain ⟨⟨ob, ho, vs, n, hv, rfl⟩, _⟩ := R.led _ U.mem
  have hl := hv.length
  refine call_meets F.slot_list_clear (IsL_of s ho) F.entry_list_clear (F.args_list_clear_1 _) (PySem.AutoSeq1.list_clear_list_0 a vs.toArray n (by show vs.length ≤ _; rw [sizeLine_eq]; omega)) ⟨ho, ?_⟩
  obtain ⟨n', hg, hs⟩ := list_upd (f := fun _ => #[]) (vs' := []) ho rfl
  exact ⟨.none, _, Is.none, R.upd U hs hg ⟨_, n', .nil, rfl⟩ _, h⟩
theorem k_count {a : Addr} {ns : List Int} {k : Int} {Q : MV → MS → Prop} (ha : Has a (.list (ns.map .int)) σ.led) (h : Q (.int (ns.count k)) σ) : CALLB C "list.count" [.ref a, .int k] Q E σ := fun vs' ia s R => by
  obtain ⟨v, w, rfl, i, t, rfl⟩ := ia.two
  cases i.of_ref
  obtain ⟨ob, ho, vs, n, hv, rfl⟩ := R.at ha
  exact count_list_ints ⟨_, ho, rfl, n, rfl⟩ hv.ints ⟨.int (ns.count k), σ, Is.int _ _, R.toks _, h⟩
/- + and * on lists, numbers -/
theorem b_add_lists {a b : Addr} {xs ys : List MV} {Q : MV → MS → Prop} (ha : Has a (.list xs) σ.led) (hb : Has b (.list ys) σ.led) (hz : xs.length + ys.length ≤ 1000000) (h : ∀ D, Q (.ref D) ⟨σ.loc, (D, .list (xs ++ ys)) :: σ.led⟩) : BIN C .Add (.ref a) (.ref b) Q E σ := fun a' b' ia ib s R => by
  cases ia.of_ref; cases ib.of_ref
  obtain ⟨ob, ho, vs, n, hv, rfl⟩ := R.at ha
  obtain ⟨ob2, ho2, ws, n2, hw, rfl⟩ := R.at hb
  have hl := hv.length
  have hl2 := hw.length
  refine PySem.P.add_list (items := vs.toArray) (items2 := ws.toArray) ho ho2 ?_ (by show vs.length + ws.length ≤ _; rw [sizeLine_eq]; omega)
  exact ⟨_, _, Is.ref _, R.alloc (.list (xs ++ ys)) ⟨vs ++ ws, 0, hv.append hw, by simp⟩ rfl, h _⟩
theorem b_fdiv {a b : Int} {Q : MV → MS → Prop} (hb : b ≠ 0) (hz : b.natAbs < 1073741824) (h : Q (.int (a.fdiv b)) σ) : BIN C .FloorDiv (.int a) (.int b) Q E σ := fun _ _ ⟨_, e1⟩ ⟨_, e2⟩ _ R => by cases e1; cases e2; exact floordiv_int hb ⟨_, σ, Is.int _ _, R.toks _, h⟩ (Or.inl (PyProof.noPylong_small hz))
noncomputable abbrev INP (C : Cx) (op : Operator) (a b : MV) (Q : MV → MS → Prop) (E : Value → Shared → Prop) (σ : MS) : Prop := ∀ a' b', Is a' a → Is b' b → AW C IsV (inplaceOp op a' b') Q E σ
theorem n_add {a b : Int} {Q : MV → MS → Prop} (h : Q (.int (a + b)) σ) : INP C .Add (.int a) (.int b) Q E σ := fun _ _ ⟨_, e1⟩ ⟨_, e2⟩ _ R => by cases e1; cases e2; exact PyProof.Rows.iadd_int ⟨_, σ, Is.int _ _, R.toks _, h⟩
theorem n_sub {a b : Int} {Q : MV → MS → Prop} (h : Q (.int (a - b)) σ) : INP C .Sub (.int a) (.int b) Q E σ := fun _ _ ⟨_, e1⟩ ⟨_, e2⟩ _ R => by cases e1; cases e2; exact PyProof.Rows.isub_int ⟨_, σ, Is.int _ _, R.toks _, h⟩
noncomputable abbrev UNA (C : Cx) (op : UnaryOp) (a : MV) (Q : MV → MS → Prop) (E : Value → Shared → Prop) (σ : MS) : Prop := ∀ a', Is a' a → AW C IsV (unaryOp op a') Q E σ
theorem r_unary {x : PySem.Expr} {op : UnaryOp} {pos : Pos} {Q : MV → MS → Prop} (h : EV C x (fun a σ₁ => UNA C op a Q E σ₁) E σ) : EV C (.UnaryOp op x pos) Q E σ := fun s R =>
  UnaryOp_ (wpAny_mono (h s R) (fun a s₁ post_ => post_.out fun _ _ ia R₁ k => k a ia s₁ R₁) fun _ _ e => e)
theorem una_neg {a : Int} {Q : MV → MS → Prop} (h : Q (.int (-a)) σ) : UNA C .USub (.int a) Q E σ := fun _ ⟨_, e1⟩ _ R => by cases e1; exact PyProof.Rows.neg_int ⟨_, σ, Is.int _ _, R.toks _, h⟩
theorem k_max2 (hh : C.A.handled = none) {a b : Int} {Q : MV → MS → Prop} (h : Q (.int (max a b)) σ) : CALLB C "max" [.int a, .int b] Q E σ := fun vs' ia s R => by
  obtain ⟨v, w, rfl, ⟨t, rfl⟩, u, rfl⟩ := ia.two
  refine max_two_ints hh fun h' tk hk => ⟨.int (max a b), σ, ?_, R.ext hk tk, h⟩
  by_cases hab : b > a
  · rw [if_pos hab, Int.max_eq_right (by omega)]; exact Is.int _ _
  · rw [if_neg hab, Int.max_eq_left (by omega)]; exact Is.int _ _
theorem k_min2 (hh : C.A.handled = none) {a b : Int} {Q : MV → MS → Prop} (h : Q (.int (min a b)) σ) : CALLB C "min" [.int a, .int b] Q E σ := fun vs' ia s R => by
  obtain ⟨v, w, rfl, ⟨t, rfl⟩, u, rfl⟩ := ia.two
  refine min_two_ints hh fun h' tk hk => ⟨.int (min a b), σ, ?_, R.ext hk tk, h⟩
  by_cases hab : b < a
  · rw [if_pos hab, Int.min_eq_right (by omega)]; exact Is.int _ _
  · rw [if_neg hab, Int.min_eq_left (by omega)]; exact Is.int _ _
theorem k_sorted_ints {a : Addr} {ns : List Int} {Q : MV → MS → Prop} (ha : Has a (.list (ns.map .int)) σ.led) (h64 : ns.length < 64) (h : ∀ (D : Addr) (ns' : List Int), ns'.Perm ns → ns'.Pairwise (· ≤ ·) → Q (.ref D) ⟨σ.loc, (D, .list (ns'.map .int)) :: σ.led⟩) : CALLB C "sorted" [.ref a] Q E σ := fun vs' ia s R => by
  obtain ⟨v, rfl, i⟩ := ia.one
  cases i.of_ref
  obtain ⟨ob, ho, vs, n, hv, rfl⟩ := R.at ha
  obtain ⟨m, F, hm⟩ := R.fr
  refine kso_sorted F (news_all s.heap C.L) ⟨_, ho, rfl, n, rfl⟩ hv.ints h64 fun D vs' ns' c h' F' N' hlt hi' _ hp hs _ => ?_
  have R' := R.kept hm F' (fun p hp => N' p (.tail _ hp))
  have hD : s.heap.get? D = none := by
    cases e : s.heap.get? D with
    | none => rfl
    | some o =>
      by_cases hL : D = C.L
      · exact absurd hL (N' _ (.head _)).2.1
      · exact absurd (hlt (D, o) (mem_others.mpr ⟨hL, hL, e⟩)) (Nat.lt_irrefl _)
  have off := Off.of_none R hD
  refine ⟨_, ⟨σ.loc, (D, .list (ns'.map .int)) :: σ.led⟩, Is.ref D, ⟨R'.keep, R'.here, R'.hereNew, R'.lnd, R'.outs, fun p hp => ?_, ?_, R'.gens, R'.os⟩, h D ns' hp hs⟩
  · rcases List.mem_cons.mp hp with rfl | hp
    · exact ⟨⟨_, (N' _ (.head _)).1, vs', c, Are.of_ints hi', rfl⟩, off.new, off.here, off.outs⟩
    · exact R'.led p hp
  · refine List.nodup_cons.mpr ⟨fun hmem => ?_, R.nd⟩
    obtain ⟨p, hp, e⟩ := List.mem_map.mp hmem
    exact off.led p hp e
theorem k_sum (hh : C.A.handled = none) {a : Addr} {ns : List Int} {Q : MV → MS → Prop} (ha : Has a (.list (ns.map .int)) σ.led) (h : ∀ n, Q (.int n) σ) : CALLB C "sum" [.ref a] Q E σ := fun vs' ia s R => by
  obtain ⟨v, rfl, i⟩ := ia.one
  cases i.of_ref
  obtain ⟨ob, ho, vs, n, hv, rfl⟩ := R.at ha
  have hi := hv.ints
  refine call_sum_walkAnyS (wpAny_pyIter_list (items := vs.toArray) ⟨_, ho, rfl, n, rfl⟩ ?_)
  have hlt : a < s.heap.objs.size := Heap.lt_size ho
  have hne : a ≠ s.heap.objs.size := Nat.ne_of_lt hlt
  refine ⟨s.heap.objs.size, _, _, _, _, _, _, fun j => match vs.toArray[j]? with | some (.int n _) => n | _ => 0, rfl, (Walks.list (A := C.A.in1) hh s.heap.objs.size a hne vs.toArray).toS, ?_, ?_, ?_, ?_⟩
  · exact ⟨⟨_, Heap.get?_push_size _ rfl, rfl, rfl⟩, ⟨_, Heap.get?_push_of_some _ ho, rfl, n, rfl⟩⟩
  · intro b hb
    show b < (s.heap.push _).objs.size
    rw [Heap.size_push]
    rcases List.mem_cons.mp hb with rfl | hb
    · exact Nat.lt_succ_self _
    · rcases List.mem_cons.mp hb with rfl | hb
      · exact Nat.lt_succ_of_lt hlt
      · cases hb
  · intro j v hjv
    have hjv' : vs.toArray[j]? = some v := hjv
    have hmem : v ∈ vs := by
      have := Array.mem_of_getElem? hjv'
      simpa using this
    obtain ⟨m, u, rfl⟩ := IntsAre.mem_int hi v hmem
    exact ⟨u, by simp only [hjv']⟩
  · intro s' t' mv
    refine ⟨.int _, σ, Is.int _ _, ?_, h _⟩
    have hk : ∀ b o, s.heap.get? b = some o → s'.heap.get? b = some o := fun b o e =>
      mv.heap b o (fun hb => absurd (List.mem_singleton.mp hb) (Nat.ne_of_lt (Heap.lt_size e))) (Heap.get?_push_of_some _ e)
    have R' := R.ext hk s'.toks
    obtain ⟨hp', gs', dr', tk', os'⟩ := s'
    have e1 : gs' = s.gens := mv.gens
    have e2 : dr' = s.drawn := mv.drawn
    have e3 : os' = s.os := mv.os
    subst e1 e2 e3
    exact R'
end
section
variable {C : Cx} {σ : MS} {s : Shared} {E : Value → Shared → Prop} {gl : List (Str × MV)} {names : List (Str × NameKind)} {cells : List (Str × Addr)}
/- stores -/
theorem r_set_attr {o value : PySem.Expr} {name : Str} {pos' pos : Pos} {Q : MF → MS → Prop} (h : EV C value (fun v σ₁ => EV C o (fun ov σ₂ => SETA C ov name v (fun _ σ₃ => Q .next σ₃) E σ₂) E σ₁) E σ)
    (hs : swapsWith value (some (.Attribute o name pos')) pos.line C.env = pure false := by rfl) : EX C (.Assign [.Attribute o name pos'] value pos) Q E σ := fun s R =>
  plainObj_wpAny_Assign_Attribute (wpAny_mono (h s R) (fun v s₁ post_ => post_.out fun _ _ iv R₁ k => wpAny_mono (k s₁ R₁) (fun ov s₂ post_ => post_.out fun _ _ io R₂ k₂ => wpAny_mono (k₂ ov v io iv s₂ R₂) (fun _ s₃ post_ => post_.out fun _ σ₃ _ R₃ q => ⟨.next, σ₃, rfl, R₃, q⟩) fun _ _ e => e) fun _ _ e => e) fun _ _ e => e) hs
theorem r_aug_attr {o value : PySem.Expr} {name : Str} {tpos pos : Pos} {op : Operator} {Q : MF → MS → Prop}
    (h : EV C o (fun ov σ₁ => GETA C ov name (fun old σ₂ => EV C value (fun v σ₃ => INP C op old v (fun new σ₄ => SETA C ov name new (fun _ σ₅ => Q .next σ₅) E σ₄) E σ₃) E σ₂) E σ₁) E σ) :
    EX C (.AugAssign (.Attribute o name tpos) op value pos) Q E σ := fun s R =>
  wpAny_AugAssign_AttributeAny (wpAny_mono (h s R) (fun ov s₁ post_ => post_.out fun _ _ io R₁ k₁ => wpAny_mono (k₁ ov io s₁ R₁) (fun old s₂ post_ => post_.out fun _ _ iold R₂ k₂ => wpAny_mono (k₂ s₂ R₂) (fun v s₃ post_ => post_.out fun _ _ iv R₃ k₃ => wpAny_mono (k₃ old v iold iv s₃ R₃)
    (fun new s₄ post_ => post_.out fun _ _ inew R₄ k₄ => wpAny_mono (k₄ ov new io inew s₄ R₄) (fun _ s₅ post_ => post_.out fun _ σ₅ _ R₅ q => ⟨.next, σ₅, rfl, R₅, q⟩) fun _ _ e => e) fun _ _ e => e) fun _ _ e => e) fun _ _ e => e) fun _ _ e => e)
noncomputable abbrev SETI (C : Cx) (o i v : MV) (Q : Unit → MS → Prop) (E : Value → Shared → Prop) (σ : MS) : Prop := ∀ o' i' v', Is o' o → Is i' i → Is v' v → AW C UnitIs (setItem o' i' v') Q E σ
theorem r_set_item {o i value : PySem.Expr} {pos' pos : Pos} {Q : MF → MS → Prop} (h : EV C value (fun v σ₁ => EV C o (fun ov σ₂ => EV C i (fun iv σ₃ => SETI C ov iv v (fun _ σ₄ => Q .next σ₄) E σ₃) E σ₂) E σ₁) E σ)
    (hs : swapsWith value (some (.Subscript o i pos')) pos.line C.env = pure false := by rfl) : EX C (.Assign [.Subscript o i pos'] value pos) Q E σ := fun s R =>
  wpAny_Assign_Subscript (wpAny_mono (h s R) (fun v s₁ post_ => post_.out fun _ _ jv R₁ k => wpAny_mono (k s₁ R₁) (fun ov s₂ post_ => post_.out fun _ _ jo R₂ k₂ => wpAny_mono (k₂ s₂ R₂) (fun iv s₃ post_ => post_.out fun _ _ ji R₃ k₃ => wpAny_mono (k₃ ov iv v jo ji jv s₃ R₃) (fun _ s₄ post_ => post_.out fun _ σ₄ _ R₄ q => ⟨.next, σ₄, rfl, R₄, q⟩) fun _ _ e => e) fun _ _ e => e) fun _ _ e => e) fun _ _ e => e) hs
theorem r_set_two {o i value : PySem.Expr} {x : Str} {pos' px pos : Pos} {Q : MF → MS → Prop} (h : EV C value (fun v σ₁ => EV C o (fun ov σ₂ => EV C i (fun iv σ₃ => SETI C ov iv v (fun _ σ₄ => STN C x v (fun _ σ₅ => Q .next σ₅) E σ₄) E σ₃) E σ₂) E σ₁) E σ)
    (he : (assignEach [.Subscript o i pos', .Name x px] C.env).map (·.2) = [assign (.Subscript o i pos') C.env, assign (.Name x px) C.env] := by rfl) (hw : swappedStores [.Subscript o i pos', .Name x px] value C.env = pure none := by rfl) :
    EX C (.Assign [.Subscript o i pos', .Name x px] value pos) Q E σ := fun s R => by
  refine wpAny_Assign_two (wpAny_mono (h s R) (fun v s₁ post_ => post_.out fun m _ jv R₁ k => ?_) fun _ _ e => e) he hw
  rw [assign_Subscript]
  refine wpAny_bind (wpAny_holding (wpAny_mono (k s₁ R₁) (fun ov s₂ post_ => post_.out fun _ _ jo R₂ k₂ => ?_) fun _ _ e => e))
  refine wpAny_bind (wpAny_holding (wpAny_mono (k₂ s₂ R₂) (fun iv s₃ post_ => post_.out fun _ _ ji R₃ k₃ => ?_) fun _ _ e => e))
  refine wpAny_bind (wpAny_standAt (wpAny_bind (wpAny_holding (wpAny_mono (k₃ ov iv v jo ji jv s₃ R₃) (fun _ s₄ post_ => post_.out fun _ _ _ R₄ k₄ => ?_) fun _ _ e => e))))
  refine wpAny_release (wpAny_assign_Name (wpAny_mono (k₄ v jv s₄ R₄) (fun _ s₅ post_ => post_.out fun _ σ₅ _ R₅ q => ⟨.next, σ₅, rfl, R₅, q⟩) fun _ _ e => e))
/- targets -/
theorem a_name {x : Str} {px : Pos} {v : MV} {Q : Unit → MS → Prop} (h : STN C x v Q E σ) : ASG C (.Name x px) v Q E σ := fun v' i s R => wpAny_assign_Name (h v' i s R)
noncomputable def STNS (C : Cx) (Q : MS → Prop) (E : Value → Shared → Prop) : List Str → List MV → MS → Prop
  | x :: xs, v :: vs, σ => STN C x v (fun _ σ' => STNS C Q E xs vs σ') E σ
  | [], [], σ => Q σ
  | _, _, _ => False
theorem stns_run {Q : MS → Prop} : ∀ {xs : List Str} {px : List Pos} {vs : List MV} {vs' : List Value} {σ : MS}, xs.length = px.length → Are vs' vs → STNS C Q E xs vs σ → AW C UnitIs (assignInOrder ((xs.zip px).map fun p => assign (.Name p.1 p.2) C.env) vs') (fun _ σ' => Q σ') E σ
  | [], _, [], _, σ, hl, h, q => by cases h; intro s R; exact wpAny_pure ⟨(), σ, trivial, R, q⟩
  | x :: xs, p :: px, v :: vs, _, σ, hl, h, q => by
    cases h with
    | cons i is =>
      intro s R
      rw [List.zip_cons_cons, List.map_cons, assignInOrder]
      refine wpAny_bind (wpAny_holding (wpAny_assign_Name (wpAny_mono (q _ i s R) (fun _ s₁ post_ => post_.out fun _ σ₁ _ R₁ q₁ => ?_) fun _ _ e => e)))
      exact stns_run (by simpa using hl) is q₁ s₁ R₁
  | [], _, _ :: _, _, _, _, _, q => q.elim
  | _ :: _, _, [], _, _, _, _, q => q.elim
theorem a_tuple (hh : C.A.handled = none) {xs : List Str} {px : List Pos} {k : Nat} {pos : Pos} {a : Addr} {vs : List MV} {Q : MS → Prop} (hl : xs.length = px.length) (hn : xs.length = vs.length) (ha : Has a (.tup vs) σ.led) (h : STNS C Q E xs vs σ) :
    ASG C (.Tuple ((xs.zip px).map fun p => .Name p.1 p.2) k pos) (.ref a) (fun _ σ' => Q σ') E σ := fun v' i s R => by
  cases i.of_ref
  obtain ⟨ob, ho, ws, n, hv, rfl⟩ := R.at ha
  have hlw := hv.length
  have he : ∀ l : List (Str × Pos), assignEach (l.map fun p => PySem.Expr.Name p.1 p.2) C.env = l.map fun p => (false, assign (.Name p.1 p.2) C.env) := by
    intro l
    induction l with
    | nil => rfl
    | cons p l ih => rw [List.map_cons, List.map_cons, ← ih]; rfl
  refine wpAny_assign_Tuple hh (items := ws.toArray) ⟨_, ho, rfl, n, rfl⟩ ?_ ?_ fun h' hk => ?_
  · rw [he]; simp; omega
  · rw [he, List.findIdx?_eq_none_iff]
    intro x hx
    obtain ⟨p, _, rfl⟩ := List.mem_map.mp hx
    rfl
  · rw [he, List.map_map]
    have R' : Rel C σ { s with heap := h' } := R.ext fun b o e => hk b o (Nat.ne_of_lt (Heap.lt_size e)) e
    exact stns_run hl (by simpa using hv) h _ R'
theorem a_list (hh : C.A.handled = none) {xs : List Str} {px : List Pos} {k : Nat} {pos : Pos} {a : Addr} {vs : List MV} {Q : MS → Prop} (hl : xs.length = px.length) (hn : xs.length = vs.length) (ha : Has a (.list vs) σ.led) (h : STNS C Q E xs vs σ) :
    ASG C (.Tuple ((xs.zip px).map fun p => .Name p.1 p.2) k pos) (.ref a) (fun _ σ' => Q σ') E σ := fun v' i s R => by
  cases i.of_ref
  obtain ⟨ob, ho, ws, n, hv, rfl⟩ := R.at ha
  have hlw := hv.length
  have he : ∀ l : List (Str × Pos), assignEach (l.map fun p => PySem.Expr.Name p.1 p.2) C.env = l.map fun p => (false, assign (.Name p.1 p.2) C.env) := by
    intro l
    induction l with
    | nil => rfl
    | cons p l ih => rw [List.map_cons, List.map_cons, ← ih]; rfl
  show wpAny _ _ (do standAt pos; unpack (.ref a) (assignEach _ C.env)) _ _ _
  refine wpAny_bind (wpAny_standAt ?_)
  unfold unpack
  have hstar : (assignEach ((xs.zip px).map fun p => PySem.Expr.Name p.1 p.2) C.env).findIdx? (·.1) = none := by
    rw [he, List.findIdx?_eq_none_iff]
    intro x hx
    obtain ⟨p, _, rfl⟩ := List.mem_map.mp hx
    rfl
  have hlen : (assignEach ((xs.zip px).map fun p => PySem.Expr.Name p.1 p.2) C.env).length = ws.toArray.size := by rw [he]; simp; omega
  rw [hstar, hlen]
  refine wpAny_bind (wpAny_holding (kun_itemsOf hh ⟨_, ho, rfl, n, rfl⟩ fun h' hk => ?_))
  rw [he, List.map_map]
  have R' : Rel C σ { s with heap := h' } := R.ext fun b o e => hk b o (Nat.ne_of_lt (Heap.lt_size e)) e
  exact stns_run hl (by simpa using hv) h _ R'
theorem r_assign_tuple {elts : List PySem.Expr} {k : Nat} {tpos pos : Pos} {value : PySem.Expr} {Q : MF → MS → Prop} (h : EV C value (fun v σ₁ => ASG C (.Tuple elts k tpos) v (fun _ σ₂ => Q .next σ₂) E σ₁) E σ)
    (hs : swapsWithSole [.Tuple elts k tpos] value pos.line C.env = pure false := by rfl) (hw : swappedStores [.Tuple elts k tpos] value C.env = pure none := by rfl) : EX C (.Assign [.Tuple elts k tpos] value pos) Q E σ := fun s R =>
  Assign_Tuple (wpAny_mono (h s R) (fun v s₁ post_ => post_.out fun _ _ iv R₁ k => wpAny_mono (k v iv s₁ R₁) (fun _ s₂ post_ => post_.out fun _ σ₂ _ R₂ q => ⟨.next, σ₂, rfl, R₂, q⟩) fun _ _ e => e) fun _ _ e => e) hs hw
theorem r_assign_pair (O : C.Ok gl names cells) (hh : C.A.handled = none) {x y : Str} {px py tpos vpos pos : Pos} {k k' : Nat} {e1 e2 : PySem.Expr} {Q : MF → MS → Prop} (hx : Has x .local names) (hy : Has y .local names) (hxy : (x == y) = false) (hpx : (py.line == px.line) = true)
    (hst : ([e1, e2].any fun | .Starred .. => true | _ => false) = false) (hf : [e1, e2].all (foldedForSure 8) = false) (hcn : [e1, e2].all (constantsAlone 8) = false)
    (h : SPL C vpos [e1, e2] (fun vs σ₁ => ∃ v w, vs = [v, w] ∧ ∀ t, STN C y w (fun _ σ₂ => STN C x v (fun _ σ₃ => Q .next σ₃) E σ₂) E ⟨σ₁.loc, (t, .tup [v, w]) :: σ₁.led⟩) E σ) :
    EX C (.Assign [.Tuple [.Name x px, .Name y py] k tpos] (.Tuple [e1, e2] k' vpos) pos) Q E σ := fun s R => by
  have hw : swappedStores [.Tuple [.Name x px, .Name y py] k tpos] (.Tuple [e1, e2] k' vpos) C.env = pure (some [x, y]) := by
    have hb : C.env.blockKind = .function := by unfold Env.blockKind; rw [O.kind]; rfl
    have hl : (PySem.Expr.Name x px).pos.line = px.line := rfl
    have hd : ([x, y] : List Str).eraseDups.length = 2 := by
      have : (y == x) = false := by rw [beq_eq_false_iff_ne] at hxy ⊢; exact fun e => hxy e.symm
      simp [List.eraseDups_cons, this]
    show (if !([PySem.Expr.Name x px, PySem.Expr.Name y py].length == 2 || [PySem.Expr.Name x px, PySem.Expr.Name y py].length == 3) || [e1, e2].length != [PySem.Expr.Name x px, PySem.Expr.Name y py].length || C.env.blockKind != .function then return none else _) = _
    rw [hb]
    refine (if_neg (fun h => absurd (show false = true from h) (by decide))).trans ?_
    refine (if_neg (fun h => absurd (hst.symm.trans h) (by decide))).trans ?_
    simp only [hf, hcn, hl, List.head?_cons, Option.map_some, Option.getD_some, List.filterMap_cons, O.kindOf hx, O.kindOf hy, hpx, List.filterMap_nil, beq_self_eq_true, Bool.and_self, if_true]
    rw [hd, if_neg (by simp), if_neg (by decide), if_neg (by decide)]
  refine Assign_Tuple_swapped (names := [x, y]) (wpAny_mono (r_tuple (E := E) (Q := fun v σ₁ => ∃ t w1 w2, v = .ref t ∧ Has t (.tup [w1, w2]) σ₁.led ∧ STN C y w2 (fun _ σ₂ => STN C x w1 (fun _ σ₃ => Q .next σ₃) E σ₂) E σ₁) (AW.mono h fun vs σ₁ ⟨v, w, e, q⟩ => ?_) s R) (fun tv s₁ h₁ => ?_) fun _ _ e => e) rfl hw
  · subst e
    exact ⟨by simp, fun a => ⟨a, v, w, rfl, .head, q a⟩⟩
  · obtain ⟨m, σ₁, i, R₁, t, w1, w2, rfl, ht, q⟩ := h₁
    cases i.of_ref
    obtain ⟨ob, ho, ws, n, hv, rfl⟩ := R₁.at ht
    obtain ⟨v1, v2, rfl, i1, i2⟩ := hv.two
    refine wpAny_unpackItems_tuple hh (items := #[v1, v2]) ⟨_, ho, rfl, n, rfl⟩ fun h' hk => ?_
    have R' : Rel C σ₁ { s₁ with heap := h' } := R₁.ext fun b o e => hk b o (Nat.ne_of_lt (Heap.lt_size e)) e
    show wpAny _ _ (assignInOrder [bindName C.env y, bindName C.env x] [v2, v1]) _ _ _
    rw [assignInOrder]
    refine wpAny_bind (wpAny_holding (wpAny_bindName (wpAny_mono (q v2 i2 _ R') (fun _ s₂ post_ => post_.out fun _ σ₂ _ R₂ q₂ => ?_) fun _ _ e => e)))
    rw [assignInOrder]
    refine wpAny_bind (wpAny_holding (wpAny_bindName (wpAny_mono (q₂ v1 i1 s₂ R₂) (fun _ s₃ post_ => post_.out fun _ σ₃ _ R₃ q₃ => ?_) fun _ _ e => e)))
    rw [assignInOrder]
    exact wpAny_pure ⟨.next, σ₃, rfl, R₃, q₃⟩
    all_goals simp
/- values -/
theorem r_named {x : Str} {px pos : Pos} {value : PySem.Expr} {Q : MV → MS → Prop} (h : EV C value (fun v σ₁ => STN C x v (fun _ σ₂ => Q v σ₂) E σ₁) E σ) : EV C (.NamedExpr (.Name x px) value pos) Q E σ := fun s R =>
  wpAny_NamedExpr (wpAny_mono (h s R) (fun v s₁ post_ => post_.out fun m _ i R₁ k => wpAny_assign_Name (wpAny_mono (k v i s₁ R₁) (fun _ s₂ post_ => post_.out fun _ σ₂ _ R₂ q => ⟨m, σ₂, i, R₂, q⟩) fun _ _ e => e)) fun _ _ e => e)
theorem t_and {e1 e2 : PySem.Expr} {pos : Pos} {Q : Bool → MS → Prop} (h : TR C e1 (fun b σ₁ => if b = true then TR C e2 Q E σ₁ else Q false σ₁) E σ) : TR C (.BoolOp .And [e1, e2] pos) Q E σ := fun s R =>
  isTrue_and (wpAny_mono (h s R) (fun b s₁ post_ => post_.out fun b' σ₁ e R₁ q => by
    cases e
    cases b with
    | true =>
      refine isTrue_and (wpAny_mono (q s₁ R₁) (fun c s₂ post_ => post_.out fun c' σ₂ e R₂ q₂ => ?_) fun _ _ e => e)
      cases e
      cases c with
      | true => exact isTrue_and_nil ⟨true, σ₂, rfl, R₂, q₂⟩
      | false => exact ⟨false, σ₂, rfl, R₂, q₂⟩
    | false => exact ⟨false, σ₁, rfl, R₁, q⟩) fun _ _ e => e)
theorem t_or {e1 e2 : PySem.Expr} {pos : Pos} {Q : Bool → MS → Prop} (h : TR C e1 (fun b σ₁ => if b = true then Q true σ₁ else TR C e2 Q E σ₁) E σ) : TR C (.BoolOp .Or [e1, e2] pos) Q E σ := fun s R =>
  isTrue_or (wpAny_mono (h s R) (fun b s₁ post_ => post_.out fun b' σ₁ e R₁ q => by
    cases e
    cases b with
    | false =>
      refine isTrue_or (wpAny_mono (q s₁ R₁) (fun c s₂ post_ => post_.out fun c' σ₂ e R₂ q₂ => ?_) fun _ _ e => e)
      cases e
      cases c with
      | false => exact isTrue_or_nil ⟨false, σ₂, rfl, R₂, q₂⟩
      | true => exact ⟨true, σ₂, rfl, R₂, q₂⟩
    | true => exact ⟨true, σ₁, rfl, R₁, q⟩) fun _ _ e => e)
theorem u_none {Q : Bool → MS → Prop} (h : Q false σ) : TRU C .none Q E σ := fun _ i s R => by
  cases i.of_none; exact wpAny_pure ⟨false, σ, rfl, R, h⟩
/- dicts -/
theorem r_dict0 {pos : Pos} {Q : MV → MS → Prop} (h : ∀ d, (d == sysModules) = false → Q (.ref d) ⟨σ.loc, (d, .dict [] 0) :: σ.led⟩) (hsys : ∀ s, Rel C σ s → (s.heap.objs.size == sysModules) = false) : EV C (.Dict [] [] pos) Q E σ := fun s R =>
  wpAny_Dict_empty ⟨_, _, Is.ref _, R.alloc (.dict [] 0) ⟨#[], [], ⟨rfl, rfl, rfl⟩, rfl, by simp, .nil, .nil, .nil⟩ rfl, h _ (hsys s R)⟩
noncomputable def mval (ms : List (Int × MV)) (k : Int) : Option MV := (ms.find? fun kv => kv.1 = k).map (·.2)
theorem KVAre.value {kvs : List (Int × Value)} {ms : List (Int × MV)} (h : KVAre kvs ms) (k : Int) : LocIs (valueAt kvs k) (mval ms k) := by
  induction h with
  | nil => trivial
  | @cons k' v m kvs ms i _ ih =>
    unfold valueAt mval
    rw [List.find?_cons, List.find?_cons]
    by_cases e : k' = k
    · simp only [e, decide_true]; exact i
    · simp only [e, decide_false]; exact ih
theorem k_dget {d : Addr} {ms : List (Int × MV)} {ep : Nat} {k : Int} {Q : MV → MS → Prop} (hS : (d == sysModules) = false) (hd : Has d (.dict ms ep) σ.led) (h : Q ((mval ms k).getD .none) σ) : CALLB C "dict.get" [.ref d, .int k] Q E σ := fun vs' ia s R => by
  obtain ⟨v, w, rfl, i, t, rfl⟩ := ia.two
  cases i.of_ref
  obtain ⟨kvs, hm, hk⟩ := R.dictAt hd
  refine call_meetsIn F.slot_dict_get hm.dictOf.typeIs F.entry_dict_get (F.args_dict_get_2 _ _) (meets_dict_get (intKind C.prog C.w) d (intKind_is _ _ k t) hS) ⟨_, hm.dictOf.mapOf, ?_⟩
  refine ⟨(mval ms k).getD .none, σ, ?_, R.toks _, h⟩
  have := hk.value k
  cases e : mval ms k with
  | none =>
    rw [e] at this
    cases e' : valueAt kvs k with
    | none => exact Is.none
    | some _ => rw [e'] at this; cases this
  | some m =>
    rw [e] at this
    obtain ⟨v, e', i⟩ := this.some
    rw [e']; exact i
theorem i_dict {value slice : PySem.Expr} {d : Addr} {ms : List (Int × MV)} {ep : Nat} {k : Int} {v : MV} {Q : MV → MS → Prop} (hd : Has d (.dict ms ep) σ.led) (hx : mval ms k = some v) (h : Q v σ) : SUBT C value slice (.ref d) (.int k) Q E σ := fun o' i' io ⟨t, e⟩ s R => by
  cases io.of_ref; cases e
  obtain ⟨kvs, hm, hk⟩ := R.dictAt hd
  have := hk.value k
  rw [hx] at this
  obtain ⟨y, hy, iy⟩ := this.some
  obtain ⟨ops, hs⟩ := subscripted_false slice (.ref d) (.int k t)
  exact tail_any hm.dictOf.typeIs F.slot_dict_getitem.lookup (wpAny_getItem_of (knd := intKind C.prog C.w) (intKind_is _ _ k t) hm.dictOf.mapOf hy ⟨v, σ, iy, R.toks _, h⟩) hs
noncomputable def mstored (ms : List (Int × MV)) (k : Int) (v : MV) : List (Int × MV) := if ms.any (fun kv => kv.1 = k) then ms.map (fun kv => if kv.1 = k then (kv.1, v) else kv) else ms ++ [(k, v)]
theorem KVAre.stored {kvs : List (Int × Value)} {ms : List (Int × MV)} (h : KVAre kvs ms) {k : Int} {v' : Value} {v : MV} (iv : Is v' v) : KVAre (PySem.stored kvs k v') (mstored ms k v) := by
  have e : (kvs.any fun kv => decide (kv.1 = k)) = ms.any fun kv => decide (kv.1 = k) := by
    clear iv
    induction h with
    | nil => rfl
    | cons _ _ ih => simp only [List.any_cons, ih]
  unfold PySem.stored mstored
  rw [e]
  split
  · rename_i hq
    clear e hq
    induction h with
    | nil => exact .nil
    | @cons k' v0 m kvs ms i _ ih =>
      simp only [List.map_cons]
      by_cases ek : k' = k
      · rw [if_pos ek, if_pos ek]; exact .cons iv ih
      · rw [if_neg ek, if_neg ek]; exact .cons i ih
  · rename_i hq
    clear e hq
    induction h with
    | nil => exact .cons iv .nil
    | cons i _ ih => exact .cons i ih
theorem s_dict {d : Addr} {ms : List (Int × MV)} {ep : Nat} {k : Int} {v : MV} {Q : Unit → MS → Prop} (hz : ms.length ≤ 1000) (h : ∃ led' : Nat → List (Addr × MO), (∀ ep', Upd d (.dict ms ep) (.dict (mstored ms k v) ep') σ.led (led' ep')) ∧ ∀ ep', Q () ⟨σ.loc, led' ep'⟩) : SETI C (.ref d) (.int k) v Q E σ := fun o' i' v' io ⟨t, e⟩ iv s R => by
  cases io.of_ref; cases e
  obtain ⟨led', U, q⟩ := h
  obtain ⟨kvs, hm, hk⟩ := R.dictAt (.of_mem (U 0).mem)
  have hl := hk.length
  refine wpAny_setItem_pairs (knd := intKind C.prog C.w) (intKind_is _ _ k t) hm.dictOf (fun h' hd' hs => ?_) (by rw [sizeLine_eq]; omega)
  obtain ⟨ob, ep', ho, hok⟩ := dictP_of hd' (hk.stored iv)
  exact ⟨(), _, trivial, R.upd (U ep') hs ho hok _, q ep'⟩
noncomputable def mwithout (ms : List (Int × MV)) (k : Int) : List (Int × MV) := ms.filter fun kv => decide (kv.1 ≠ k)
theorem KVAre.without {kvs : List (Int × Value)} {ms : List (Int × MV)} (h : KVAre kvs ms) {k : Int} : KVAre (PySem.without kvs k) (mwithout ms k) := by
  unfold PySem.without mwithout
  induction h with
  | nil => exact .nil
  | @cons k' v0 m kvs ms i _ ih =>
    simp only [List.filter_cons]
    by_cases ek : k' = k
    · simp only [ek, ne_eq, not_true, decide_false, Bool.false_eq_true, if_false]; exact ih
    · simp only [ek, ne_eq, not_false_eq_true, decide_true, if_true]; exact .cons i ih
theorem r_del {o i : PySem.Expr} {p pos : Pos} {Q : MF → MS → Prop} (h : EV C o (fun ov σ₁ => EV C i (fun iv σ₂ => ∃ d ms ep k v, ov = .ref d ∧ iv = .int k ∧ ms.length ≤ 1000 ∧ mval ms k = some v ∧ ∃ led' : Nat → List (Addr × MO), (∀ ep', Upd d (.dict ms ep) (.dict (mwithout ms k) ep') σ₂.led (led' ep')) ∧ ∀ ep', Q .next ⟨σ₂.loc, led' ep'⟩) E σ₁) E σ) :
    EX C (.Delete [.Subscript o i p] pos) Q E σ := fun s R => by
  refine wpAny_Delete (wpAny_deleteEach_cons (wpAny_delete_Subscript (wpAny_mono (h s R) (fun ov s₁ post_ => post_.out fun _ _ jo R₁ k => wpAny_mono (k s₁ R₁) (fun iv s₂ hp => ?_) fun _ _ e => e) fun _ _ e => e)))
  obtain ⟨_, σ₂, ji, R₂, d, ms, ep, n, v, e1, e2, hz, hv, led', U, q⟩ := hp
  subst e1 e2
  cases jo.of_ref
  obtain ⟨t, rfl⟩ := ji
  obtain ⟨kvs, hm, hk⟩ := R₂.dictAt (.of_mem (U 0).mem)
  have hl := hk.length
  have hval := hk.value n
  rw [hv] at hval
  obtain ⟨y, hy, iy⟩ := hval.some
  refine wpAny_delItem_slot hm.dictOf.typeIs (by decide +kernel) F.slot_dict_delitem (call_meetsIn F.slot_dict_delitem hm.dictOf.typeIs F.entry_dict_delitem (F.args_dict_delitem_2 _ _) (meets_dict_delitem_pairs (intKind C.prog C.w) d (intKind_is _ _ n t)) ⟨kvs, hm.dictOf, by rw [sizeLine_eq]; omega, by rw [hy]; rfl, fun h' hd' hs => ?_⟩)
  obtain ⟨ob, ep', ho, hok⟩ := dictP_of hd' (hk.without (k := n))
  exact wpAny_deleteEach_nil ⟨.next, _, rfl, R₂.upd (U ep') hs ho hok _, q ep'⟩
theorem c_indict {d : Addr} {ms : List (Int × MV)} {ep : Nat} {k : Int} {Q : MV → MS → Prop} (hS : (d == sysModules) = false) (hd : Has d (.dict ms ep) σ.led) (h : Q (.bool (mval ms k).isSome) σ) : CMP C .In (.int k) (.ref d) Q E σ := fun a' b' ⟨t, e⟩ ib s R => by
  cases e; cases ib.of_ref
  obtain ⟨kvs, hm, hk⟩ := R.dictAt hd
  refine wpAny_in_of (knd := intKind C.prog C.w) (intKind_is _ _ k t) hS hm.dictOf.mapOf ⟨.bool (mval ms k).isSome, σ, ?_, R.toks _, h⟩
  have := hk.value k
  cases e : mval ms k with
  | none =>
    rw [e] at this
    cases e' : valueAt kvs k with
    | none => exact Is.bool _
    | some _ => rw [e'] at this; cases this
  | some m =>
    rw [e] at this
    obtain ⟨v, e', i⟩ := this.some
    rw [e']; exact Is.bool _
theorem OfT.dict {a : Addr} {ms : List (Int × MV)} {ep : Nat} (h : Has a (.dict ms ep) σ.led) : OfT C σ (.ref a) "dict" := fun s R v' i => by
  cases i.of_ref
  obtain ⟨kvs, hm, hk⟩ := R.dictAt h
  exact ⟨hm.dictOf.typeIs, fun b e => hm.dictOf.mapOf.noDict b e⟩
theorem k_values {d : Addr} {ms : List (Int × MV)} {ep : Nat} {Q : MV → MS → Prop} (hS : (d == sysModules) = false) (hd : Has d (.dict ms ep) σ.led) (h : ∀ v, Q (.ref v) ⟨σ.loc, (v, .vals d) :: σ.led⟩) : CALLB C "dict.values" [.ref d] Q E σ := fun vs' ia s R => by
  obtain ⟨v, rfl, i⟩ := ia.one
  cases i.of_ref
  obtain ⟨kvs, hm, hk⟩ := R.dictAt hd
  refine call_meetsIn F.slot_dict_values hm.dictOf.typeIs F.entry_dict_values (F.args_dict_values_1 _) (meets_dict_values (intKind C.prog C.w) d hS) ⟨⟨kvs, hm.dictOf⟩, ?_⟩
  exact ⟨_, _, Is.ref _, R.alloc (.vals d) ⟨rfl, rfl⟩ rfl, h _⟩
end
theorem li_ga : typeLookup (.type "list_iterator") "__getattribute__" = pure (some (.builtin "object.__getattribute__")) := by rw [typeLookup_type, builtinLookup_eq_fast]; kernel_rfl
theorem li_next : typeLookup (.type "list_iterator") "__next__" = pure (some (.builtin "list_iterator.__next__")) := by rw [typeLookup_type, builtinLookup_eq_fast]; kernel_rfl
theorem li_next_type : typeOf (.builtin "list_iterator.__next__") = pure (.type "wrapper_descriptor") := by show builtinType _ = _; rw [builtinType_eq_fast]; kernel_rfl
theorem wd_get : typeLookup (.type "wrapper_descriptor") "__get__" = pure (some (.builtin "wrapper_descriptor.__get__")) := by rw [typeLookup_type, builtinLookup_eq_fast]; kernel_rfl
theorem li_bound (it : Addr) : checkBoundCall "list_iterator.__next__" ⟨[.ref it], []⟩ = pure () := by kernel_rfl
theorem ga_bind (v : Value) : bindSpecial (.builtin "object.__getattribute__") v = pure (.builtin "object.__getattribute__", [v]) := by
  first | rfl | kernel_rfl
theorem ga_entry : entryFor table "object.__getattribute__" = some Builtin.«object.__getattribute__» := entryFor_of_tree (by kernel_rfl)
theorem ga_plain : plainId "object.__getattribute__" = true := by decide +kernel
theorem ga_kind : builtinKind "object.__getattribute__" = some .slot := by decide +kernel
theorem ga_split : splitId "object.__getattribute__" = some ("object", "__getattribute__") := by decide +kernel
theorem ga_args (a b : Value) : argsOk "object.__getattribute__" ⟨[a, b], []⟩ := by unfold argsOk; kernel_rfl
theorem li_obj : isSubtype (.type "list_iterator") (.type "object") = pure true := by rw [isSubtype_type]; kernel_rfl
theorem wd_set : typeLookup (.type "wrapper_descriptor") "__set__" = pure none := by rw [typeLookup_type, builtinLookup_eq_fast]; kernel_rfl
theorem wd_del : typeLookup (.type "wrapper_descriptor") "__delete__" = pure none := by rw [typeLookup_type, builtinLookup_eq_fast]; kernel_rfl
theorem nx_get : specialOf (.builtin "list_iterator.__next__") "__get__" = pure (some (.builtin "wrapper_descriptor.__get__")) := by
  unfold specialOf; rw [li_next_type]; exact wd_get
theorem nx_set : specialOf (.builtin "list_iterator.__next__") "__set__" = pure none := by
  unfold specialOf; rw [li_next_type]; exact wd_set
theorem nx_del : specialOf (.builtin "list_iterator.__next__") "__delete__" = pure none := by
  unfold specialOf; rw [li_next_type]; exact wd_del
theorem wd_entry : entryFor table "wrapper_descriptor.__get__" = some Builtin.«wrapper_descriptor.__get__» := entryFor_of_tree (by kernel_rfl)
theorem wd_plain : plainId "wrapper_descriptor.__get__" = true := by decide +kernel
theorem wd_kind : builtinKind "wrapper_descriptor.__get__" = some .slot := by decide +kernel
theorem wd_split : splitId "wrapper_descriptor.__get__" = some ("wrapper_descriptor", "__get__") := by decide +kernel
theorem wd_args (a b c : Value) : argsOk "wrapper_descriptor.__get__" ⟨[a, b, c], []⟩ := by unfold argsOk; kernel_rfl
theorem wd_sub : isSubtype (.type "wrapper_descriptor") (.type "wrapper_descriptor") = pure true := by rw [isSubtype_type]; kernel_rfl
theorem li_sub : isSubtype (.type "list_iterator") (.type "list_iterator") = pure true := by rw [isSubtype_type]; kernel_rfl
theorem next_attr {prog : Program} {w : World} {A : Around} {E : Value → Shared → Prop} {s : Shared} {it : Addr} {o : Obj} {Q : Value → Shared → Prop} (ho : s.heap.get? it = some o) (hc : o.cls = .type "list_iterator") (hd : o.dict = none) {fs : Array Value} (hdat : o.data = .fields fs)
    (h : Q (.ref s.heap.objs.size) { s with heap := s.heap.push { cls := .type "method-wrapper", data := .fields #[.builtin "list_iterator.__next__", .ref it] }, toks := s.toks + 1 }) : wpAny (model prog w) A (getAttr (.ref it) "__next__" true) Q E s := by
  obtain ⟨hh, g, d, t, os⟩ := s
  have L0 : Looks (model prog w) hh (typeOf (.ref it)) (.type "list_iterator") := hc ▸ (Looks.ld ho).andThen .now
  unfold getAttr getAttrBy
  refine wpAny_bind (wpAny_mkText (wpAny_holding (wpAny_bind (L0.at (wpAny_bind (wpAny_of_eq li_ga ?_))))))
  show wpAny _ _ (getAttrByItsOwn _ _ _ _ _ _) _ _ _
  unfold getAttrByItsOwn
  refine wpAny_bind (wpAny_pure (wpAny_bind (wpAny_attempt (wpAny_holding ?_))))
  show wpAny _ _ (boundAndCalled _ _ _) _ _ _
  unfold boundAndCalled
  refine wpAny_bind (wpAny_of_eq (ga_bind _) ?_)
  have sub : Looks (model prog w) hh (isInstance (.ref it) (.type "object")) true := L0.andThen (Looks.of_pure li_obj)
  refine wpAny_call (codeAny_call_builtin ga_plain ga_entry (@check_slot (model prog w) _ _ ⟨hh, g, d, t + 1, os⟩ "object.__getattribute__" "object" "__getattribute__" (.ref it) [.str "__next__" t] [] _ ga_kind ga_split sub (ga_args _ _) ?_))
  unfold Builtin.«object.__getattribute__»
  refine wpAny_bind (wpAny_pure (wpAny_bind (wpAny_pure (wpAny_bind (L0.at ?_)))))
  unfold Builtin.ObjectAttr.find
  refine wpAny_bind (wpAny_bind (wpAny_of_eq li_next (wpAny_bind (wpAny_of_eq nx_get (wpAny_bind ?_)))))
  unfold Builtin.ObjectAttr.dataDescriptor? Builtin.ObjectAttr.takesStores
  refine wpAny_bind (wpAny_bind (wpAny_of_eq nx_set ?_))
  refine wpAny_bind (wpAny_of_eq nx_del (wpAny_pure (wpAny_pure ?_)))
  unfold Builtin.ObjectAttr.ownThenClass Builtin.ObjectAttr.inOwnDict Builtin.ObjectAttr.ownDict
  dsimp only
  refine wpAny_bind (wpAny_bind (wpAny_bind (wpAny_loadPart ho ?_)))
  rw [hdat]
  dsimp only
  unfold instanceDict
  refine wpAny_bind (wpAny_loadPart ho ?_)
  rw [hc, hd]
  refine wpAny_pure (wpAny_pure ?_)
  dsimp only
  have hcopy : Builtin.ObjectAttr.copiedAttributeGuard "__next__" (.ref it) = pure () := by
    unfold Builtin.ObjectAttr.copiedAttributeGuard
    dsimp only
    rw [if_neg (by decide +kernel)]
  refine wpAny_bind (wpAny_of_eq hcopy ?_)
  refine wpAny_bind (wpAny_rule (wpAny_pure ?_))
  dsimp only
  unfold Builtin.ObjectAttr.bindTo
  dsimp only
  have Lb : Looks (model prog w) hh (isInstance (.builtin "list_iterator.__next__") (.type "wrapper_descriptor")) true := (Looks.of_pure li_next_type).andThen (Looks.of_pure wd_sub)
  refine wpAny_bind (wpAny_holding (wpAny_call (codeAny_call_builtin wd_plain wd_entry (@check_slot (model prog w) _ _ ⟨hh, g, d, t + 1, os⟩ "wrapper_descriptor.__get__" "wrapper_descriptor" "__get__" (.builtin "list_iterator.__next__") [.ref it, .type "list_iterator"] [] _ wd_kind wd_split Lb (wd_args _ _ _) ?_))))
  have Li : Looks (model prog w) hh (isInstance (.ref it) (.type "list_iterator")) true := L0.andThen (Looks.of_pure li_sub)
  have hL : ∀ {Q' : Bool → Shared → Prop} {E' : Value → Shared → Prop} {A' : Around}, Q' true ⟨hh, g, d, t + 1, os⟩ → wpAny (model prog w) A' (isInstance (.ref it) (.type "list_iterator")) Q' E' ⟨hh, g, d, t + 1, os⟩ := fun q => Li.at q
  repeat k_node
  have hs : isSubtype o.cls (.type (".".intercalate ("list_iterator.__next__".cutAt '.').dropLast)) = pure true := by
    have e : ".".intercalate ("list_iterator.__next__".cutAt '.').dropLast = "list_iterator" := by decide +kernel
    rw [e, hc]; exact li_sub
  refine wpAny_bind (wpAny_bind (wpAny_bind (wpAny_bind (wpAny_pure (wpAny_pure ?_)))))
  refine wpAny_of_eq hs ?_
  rw [if_neg (by decide)]
  refine wpAny_pure ?_
  refine wpAny_bind (wpAny_newObj_type (wpAny_pure ?_))
  exact wpAny_pure (wpAny_pure h)
noncomputable def wrapObj (it : Addr) : Obj := { cls := .type "method-wrapper", data := .fields #[.builtin "list_iterator.__next__", .ref it] }
theorem wrap_call {prog : Program} {w : World} {A : Around} {R : Result → Shared → Prop} {s : Shared} {wr it : Addr} (ho : s.heap.get? wr = some (wrapObj it))
    (h : wpAny (model prog w) A.in1 (Builtin.«list_iterator.__next__» ⟨[.ref it], []⟩) (fun fin s' => match fin with | .done f => R (.ok f) s' | .again c' => c'.quiet = true ∧ codeAny (model prog w) A c' R s') (fun e s' => R (.error e) s') s) :
    codeAny (model prog w) A (.call (.ref wr) ⟨[], []⟩) R s := by
  obtain ⟨hh, g, dr, t, os⟩ := s
  refine codeAny_of_tree ?_
  show wpAny _ _ (callAny (.ref wr) _) _ _ _
  dsimp only at ho
  refine nd_load ho ?_
  show wpAny _ _ (checkBoundCall "list_iterator.__next__" ⟨[.ref it], []⟩ >>= fun _ => again (.builtin "list_iterator.__next__" ⟨[.ref it], []⟩) >>= fun r => pure r) _ _ _
  refine wpAny_bind (wpAny_of_eq (li_bound it) (wpAny_bind (wpAny_pure (wpAny_pure ⟨?_, ?_⟩))))
  · exact Code.quiet_builtin _ (by decide +kernel)
  · refine codeAny_builtin entry_listiter_next ?_
    rw [Around.under_plainId slot_listiter_next.plain]
    exact h
theorem next_item {prog : Program} {w : World} {A : Around} {E : Value → Shared → Prop} {s : Shared} {it l : Addr} {i : Nat} {items : Array Value} {x : Value} {P : PySem.Fin → Shared → Prop} (hit : s.heap.IsListIter it l i) (hl : s.heap.IsList l items) (hx : items[i]? = some x)
    (hQ : ∀ h', h'.IsListIter it l (i + 1) → Heap.SameBut it s.heap h' → P (.done (.ret x)) { s with heap := h' }) : wpAny (model prog w) A (Builtin.«list_iterator.__next__» ⟨[.ref it], []⟩) P E s := by
  obtain ⟨o, ho, hc, hd⟩ := id hit
  obtain ⟨ol, hol, _, nl, hdl⟩ := hl
  show wpAny _ _ (field (.ref it) 0 >>= _) _ _ s
  refine wpAny_bind (wpAny_field ho hd (x := .ref l) rfl ?_)
  show wpAny _ _ (if (Value.ref l == Value.none) = true then _ else _) _ _ s
  rw [if_neg (show ¬ ((Value.ref l == Value.none) = true) from Bool.false_ne_true)]
  show wpAny _ _ (field (.ref it) 1 >>= _) _ _ s
  refine wpAny_bind (wpAny_field ho hd (x := .int i 0) rfl ?_)
  show wpAny _ _ (seqItems? (.ref l) >>= _) _ _ s
  refine wpAny_bind (wpAny_seqItems hol hdl ?_)
  simp only [Int.toNat_natCast, hx]
  refine wpAny_bind (wpAny_setField ho hd (by simp) (wpAny_pure (hQ _ ?_ (Heap.SameBut.update ..))))
  exact ⟨_, Heap.get?_update_self _ ho (Obj.isFreed_of_fields (Obj.data_mapFields hd _)), (Obj.cls_mapFields ..).trans hc, by
    rw [Obj.data_mapFields hd]; simp [rawInt]⟩
theorem next_end {prog : Program} {w : World} {A : Around} {E : Value → Shared → Prop} {s : Shared} {it l : Addr} {i : Nat} {items : Array Value} {P : PySem.Fin → Shared → Prop} (hh : A.handled = none) (hit : s.heap.IsListIter it l i) (hl : s.heap.IsList l items) (hx : items[i]? = none)
    (hE : ∀ h' e oe vs, (∀ b o, b ≠ it → s.heap.get? b = some o → h'.get? b = some o) → s.heap.get? e = none → h'.get? e = some oe → oe.cls = .type "StopIteration" → oe.data = .fields vs → vs[1]? = some .none → E (.ref e) { s with heap := h' }) : wpAny (model prog w) A (Builtin.«list_iterator.__next__» ⟨[.ref it], []⟩) P E s := by
  obtain ⟨o, ho, hc, hd⟩ := id hit
  obtain ⟨ol, hol, _, nl, hdl⟩ := hl
  show wpAny _ _ (field (.ref it) 0 >>= _) _ _ s
  refine wpAny_bind (wpAny_field ho hd (x := .ref l) rfl ?_)
  show wpAny _ _ (if (Value.ref l == Value.none) = true then _ else _) _ _ s
  rw [if_neg (show ¬ ((Value.ref l == Value.none) = true) from Bool.false_ne_true)]
  show wpAny _ _ (field (.ref it) 1 >>= _) _ _ s
  refine wpAny_bind (wpAny_field ho hd (x := .int i 0) rfl ?_)
  show wpAny _ _ (seqItems? (.ref l) >>= _) _ _ s
  refine wpAny_bind (wpAny_seqItems hol hdl ?_)
  simp only [Int.toNat_natCast, hx]
  refine wpAny_bind (wpAny_rule (wpAny_bind (wpAny_setField ho hd (by simp) ?_)))
  show wpAny _ _ (newExc (.type "StopIteration") [] >>= _) _ _ _
  refine wpAny_bind ?_
  simp only [newExc, newTuple]
  refine wpAny_bind (wpAny_newObj_type ?_ (by size_fits))
  refine wpAny_bind (m := firstArgMember _ _) (wpAny_of_eq (a := Value.none) (by first | rfl | (simp only [firstArgMember]; rfl)) ?_)
  refine wpAny_newObj_type ?_ (by size_fits)
  simp only [raiseNew]
  refine wpAny_bind (wpAny_handled ?_)
  rw [hh]
  refine wpAny_bind (wpAny_pure (wpAny_throw ?_))
  refine hE _ _ _ _ (fun b o' hb e => ?_) ?_ (Heap.get?_push_size _ rfl) rfl rfl rfl
  · exact Heap.get?_push_of_some _ (Heap.get?_push_of_some _ ((Heap.get?_update_other _ _ (Ne.symm hb)).trans e))
  · refine Heap.get?_none_of_le ?_
    rw [Heap.size_push, Heap.size_update]; exact Nat.le_succ _
section
variable {C : Cx} {σ : MS} {s : Shared} {E : Value → Shared → Prop} {gl : List (Str × MV)} {names : List (Str × NameKind)} {cells : List (Str × Addr)}
theorem g_next {it l : Addr} {i : Nat} {Q : MV → MS → Prop} (hit : Has it (.obj { cls := .type "list_iterator", data := .fields #[.ref l, .int i 0] }) σ.led) (h : ∀ wr, Q (.ref wr) ⟨σ.loc, (wr, .obj (wrapObj it)) :: σ.led⟩) : GETA C (.ref it) "__next__" Q E σ := fun _ j s R => by
  cases j.of_ref
  obtain ⟨ob, ho, hob⟩ := R.at hit
  have hob' : ob = { cls := .type "list_iterator", data := .fields #[.ref l, .int i 0] } := hob
  subst hob'
  refine next_attr ho rfl rfl rfl ?_
  have R' := (R.toks (s.toks + 1)).alloc (o := wrapObj it) (.obj (wrapObj it)) rfl rfl
  exact ⟨_, _, Is.ref _, R', h _⟩
theorem lit_of_obj (it l : Addr) (i : Nat) {ob : Obj} (h : (MO.obj { cls := .type "list_iterator", data := .fields #[.ref l, .int i 0] }).ok ob) : (MO.lit l i).ok ob := by
  have h' : ob = { cls := .type "list_iterator", data := .fields #[.ref l, .int i 0] } := h
  subst h'; exact ⟨rfl, rfl⟩
theorem k_iter {a : Addr} {xs : List MV} {Q : MV → MS → Prop} (ha : Has a (.list xs) σ.led) (h : ∀ it, Q (.ref it) ⟨σ.loc, (it, .obj { cls := .type "list_iterator", data := .fields #[.ref a, .int 0 0] }) :: σ.led⟩) : CALLB C "iter" [.ref a] Q E σ := fun vs' ia s R => by
  obtain ⟨v, rfl, i⟩ := ia.one
  cases i.of_ref
  obtain ⟨ob, ho, vs, n, hv, rfl⟩ := R.at ha
  refine call_function_entry (by decide +kernel) (by decide +kernel) (show entryFor table "iter" = some Builtin.«iter» from entryFor_of_tree (by kernel_rfl)) (show argsOk "iter" ⟨[Value.ref a], []⟩ from by unfold argsOk; kernel_rfl) ?_
  unfold Builtin.«iter»
  refine wpAny_bind (m := someArgs "iter" 1 2 _) (wpAny_of_eq (a := [Value.ref a]) (by first | rfl | kernel_rfl!) ?_)
  show wpAny _ _ (pyIter (.ref a) >>= _) _ _ _
  refine wpAny_bind (wpAny_pyIter_list (items := vs.toArray) ⟨_, ho, rfl, n, rfl⟩ ?_)
  refine wpAny_pure ⟨_, rfl, ?_⟩
  exact ⟨_, _, Is.ref _, R.alloc (.obj { cls := .type "list_iterator", data := .fields #[.ref a, .int 0 0] }) rfl rfl, h _⟩
theorem r_call_next (O : C.Ok gl names cells) (hh : C.A.handled = none) {func : PySem.Expr} {pos : Pos} {Q : MV → MS → Prop}
    (h : EV C func (fun fv σ₁ => ∃ wr it l i xs, fv = .ref wr ∧ Has wr (.obj (wrapObj it)) σ₁.led ∧ Has it (.lit l i) σ₁.led ∧ Has l (.list xs) σ₁.led ∧ (∀ v, xs[i]? = some v → ∃ led', Upd it (.lit l i) (.lit l (i + 1)) σ₁.led led' ∧ Q v ⟨σ₁.loc, led'⟩) ∧
      (xs[i]? = none → ∃ led', Pick (it, .lit l i) σ₁.led led' ∧ ∀ a s', ExcAt C ⟨σ₁.loc, led'⟩ a (.type "StopIteration") false s' → E (.ref a) s')) E σ)
    (he : eval (.Call func [] [] pos) C.env = (do callWith pos (← eval func C.env) [] (backTo pos (starEach [] C.env)) (backToKw pos (keywordEach [] C.env))) := by rfl) : EV C (.Call func [] [] pos) Q E σ := fun s R => by
  refine Call_ (wpAny_mono (h s R) (fun fv s₁ h₁ => ?_) fun _ _ e => e) he
  obtain ⟨m, σ₁, im, R₁, wr, it, l, i, xs, rfl, hw, hit, hl, h1, h2⟩ := h₁
  cases im.of_ref
  obtain ⟨ow, how, hwo⟩ := R₁.at hw
  have hwo' : ow = wrapObj it := hwo
  subst hwo'
  obtain ⟨oi, hoi, hci, hdi⟩ := R₁.at hit
  obtain ⟨ol, hol, vs, n, hv, rfl⟩ := R₁.at hl
  refine callWith_of (P := fun hp => hp.get? wr = some (wrapObj it)) rfl (fun hp hq => ⟨.machine, .inr (.inl rfl), (Looks.ld (part := none) hq).andThen .now⟩) (evalArgs_nil3 ⟨how, wpAny_call (wrap_call how ?_)⟩)
  cases hx : xs[i]? with
  | some v =>
    obtain ⟨y, hy, iy⟩ := hv.get hx
    obtain ⟨led', U, q⟩ := h1 v hx
    refine next_item (items := vs.toArray) ⟨oi, hoi, hci, hdi⟩ ⟨_, hol, rfl, n, rfl⟩ (by simpa using hy) fun h' hi' hs => ?_
    obtain ⟨ob', ho', hc', hd'⟩ := hi'
    exact ⟨v, _, iy, R₁.upd U hs ho' ⟨hc', hd'⟩, q⟩
  | none =>
    obtain ⟨led', P, q⟩ := h2 hx
    refine next_end (items := vs.toArray) hh ⟨oi, hoi, hci, hdi⟩ ⟨_, hol, rfl, n, rfl⟩ (by simpa using hv.get_none hx) fun h' e oe fs hk hne hoe hce hde h1e => ?_
    have Rp := R₁.perm P.perm
    have Rg := Rp.gone rfl (h' := h') fun b o hb e => hk b o hb e
    have off : Off C ⟨σ₁.loc, led'⟩ e := by
      have := Off.of_none R₁ hne
      exact ⟨this.new, this.here, this.outs, fun p hp => this.led p (P.perm.mem_iff.mpr (.tail _ hp))⟩
    exact q e _ ⟨Rg, off, oe, fs, hoe, hce, hde, .inl ⟨rfl, h1e⟩⟩
end
noncomputable abbrev bmVE : List Value := [.type "ValueError", .type "Exception", .type "BaseException", .type "object"]
inductive OwnExc (K : Frag) (C : Addr) : Prop where
  | mk (bm) (N) (nm) (qn) (bs) (hdct) (sn) (sub) (ab) (col) (dd) (k0) (k1) (k2) (k3) (k5) (e : K.lookup C = some (excClassObj nm qn C N bs bm hdct sn sub ab col dd k0 k1 k2 k3 k5 "ValueError.__new__")) (ok : nsOkIn K N = true) (ni : nsIn K N "__init__" = some none) (tl : tailIn K bmVE bm = true)
inductive ExcObj (h : Heap) (C : Addr) : Prop where
  | mk (bm) (N) (nm) (qn) (bs) (hdct) (sn) (sub) (ab) (col) (dd) (k0) (k1) (k2) (k3) (k5) (mN) (hC : h.get? C = some (excClassObj nm qn C N bs bm hdct sn sub ab col dd k0 k1 k2 k3 k5 "ValueError.__new__")) (hN : h.Ns N mN) (ni : mN "__init__" = none) (tl : OwnTail h bmVE bm)
theorem excObj_of {K : Frag} {h : Heap} {C : Addr} (X : K.In h) (q : OwnExc K C) : ExcObj h C := by
  cases q with
  | mk bm N nm qn bs hdct sn sub ab col dd k0 k1 k2 k3 k5 e ok ni tl => exact .mk bm N nm qn bs hdct sn sub ab col dd k0 k1 k2 k3 k5 (h.nsMap N) (X _ _ e) (.of_isNs (isNs_of_in X ok)) (nsMap_none_of_in X ok ni) (tail_of_in X tl)
theorem OwnTail.keeps {h h' : Heap} {bmB l : List Value} (k : ∀ b o, h.get? b = some o → h'.get? b = some o) (t : OwnTail h bmB l) : OwnTail h' bmB l := by
  induction t with
  | base => exact .base
  | own a b c _ ih =>
    obtain ⟨o, es, ep, e1, r⟩ := b
    exact .own (k _ _ a) ⟨o, es, ep, k _ _ e1, r⟩ c ih
section
variable {C : Cx} {σ : MS} {s : Shared} {E : Value → Shared → Prop} {gl : List (Str × MV)} {names : List (Str × NameKind)} {cells : List (Str × Addr)}
/- raise -/
theorem r_raise {x : Str} {np cpos pos : Pos} {args : List PySem.Expr} {cls newId initId : String} {Q : MF → MS → Prop} (O : C.Ok gl names cells) (hh : C.A.handled = none) (Fc : ExcCallFacts cls newId initId) (G : ExcRaiseFacts cls) (hx : Has x .globalImplicit names) (hg : Has x (.ty cls) gl)
    (h : SPL C cpos args (fun vs σ₁ => vs.length ≤ 10 ∧ ∀ a s', ExcAt C σ₁ a (.type cls) false s' → E (.ref a) s') E σ) (hn : (starEach args C.env).any (·.1) = false := by rfl) :
    EX C (.Raise (some (.Call (.Name x np) args [] cpos)) none pos) Q E σ := fun s R => by
  refine wpAny_Raise_call Fc G hh (by rw [backTo_any]; exact hn) (wpAny_mono (r_global (E := E) O hx hg (Q := fun v σ' => v = .ty cls ∧ σ' = σ) ⟨rfl, rfl⟩ s R) (fun fv s₁ h₁ => ?_) fun _ _ e => e)
  obtain ⟨m, σ₁, i, R₁, rfl, rfl⟩ := h₁
  refine ⟨i.of_ty, ?_⟩
  refine evalArgs_spl hn (wpAny_mono (h s₁ R₁) (fun vs s₂ ⟨ms, σ₂, is, R₂, hz, k⟩ => ?_) fun _ _ e => e)
  have hl := is.length
  refine ⟨rfl, by show vs.length ≤ _; rw [sizeLine_eq]; omega, fun h' e hm => k e _ ?_⟩
  exact exc_new R₂ hm.newExc rfl rfl
theorem exc_made {a c : Addr} {vs : List Value} {h' : Heap} (R : Rel C σ s) (hm : Heap.MadeExcOf s.heap h' a (.ref c) vs) : ExcAt C σ a (.ref c) false { s with heap := h' } := by
  obtain ⟨t, h1, _⟩ := hm.there
  exact ⟨R.ext hm.keeps, Off.of_none R hm.new, _, _, h1, rfl, rfl, .inl ⟨rfl, rfl⟩⟩
theorem r_raise_own {x : Str} {np cpos pos : Pos} {args : List PySem.Expr} {c : Addr} {Q : MF → MS → Prop} (O : C.Ok gl names cells) (hh : C.A.handled = none) (hq : OwnExc C.K c) (hx : Has x .globalImplicit names) (hg : Has x (.ref c) gl)
    (h : SPL C cpos args (fun vs σ₁ => vs.length ≤ 10 ∧ ∀ a s', ExcAt C σ₁ a (.ref c) false s' → E (.ref a) s') E σ) (hn : (starEach args C.env).any (·.1) = false := by rfl) :
    EX C (.Raise (some (.Call (.Name x np) args [] cpos)) none pos) Q E σ := fun s R => by
  obtain ⟨bm', N', nm', qn', bs', hdct', sn', sub', ab', col', dd', k0', k1', k2', k3', k5', mN', hC', hN', hni', TL'⟩ := excObj_of O.kin hq
  refine wpAny_Raise_call_subT (C := c) (nm := nm') (q := qn') (N := N') (bs := bs') (bm := bm') (hdct := hdct') (sn := sn') (sub := sub') (ab := ab') (col := col') (dd := dd') (k0 := k0') (k1 := k1') (k2 := k2') (k3 := k3') (k5 := k5') PySem.F.excBase_ValueError (mN := mN') (TL'.hasType (by decide +kernel)) hh (by rw [backTo_any]; exact hn) hni' (wpAny_mono (r_global (E := E) O hx hg (Q := fun v σ' => v = .ref c ∧ σ' = σ) ⟨rfl, rfl⟩ s R) (fun fv s₁ h₁ => ?_) fun _ _ e => e)
  obtain ⟨m, σ₁, i, R₁, rfl, rfl⟩ := h₁
  refine ⟨i.of_ref, ?_⟩
  refine evalArgs_spl hn (wpAny_mono (h s₁ R₁) (fun vs s₂ ⟨ms, σ₂, is, R₂, hz, k⟩ => ?_) fun _ _ e => e)
  have hl := is.length
  refine ⟨rfl, by show vs.length ≤ _; rw [sizeLine_eq]; omega, R₂.keep _ _ hC', ?_, ?_, fun h' e hm => k e _ (exc_made R₂ hm)⟩
  · obtain ⟨o, es, ep, e1, r⟩ := hN'
    exact ⟨o, es, ep, R₂.keep _ _ e1, r⟩
  · exact OwnTail.keeps R₂.keep TL'
theorem Matches.own {c : Addr} (hq : OwnExc C.K c) (hk : C.K.In C.hb) : Matches C (.ref c) (.ref c) := fun {A Q E s a oe} keep ho hc q => by
  obtain ⟨bm, N, nm, qn, bs, hdct, sn, sub, ab, col, dd, k0, k1, k2, k3, k5, mN, hC, hN, hni, TL⟩ := excObj_of hk hq
  obtain ⟨hh, g, d, t, os⟩ := s
  exact wpAny_excMatches_sub_self (keep _ _ hC) ho hc (TL.hasType (by decide +kernel)) q
/- texts -/
theorem r_str {x : Str} {k : Nat} {pos : Pos} {Q : MV → MS → Prop} (h : Q (.str x) σ) : EV C (.Constant (.str x) k pos) Q E σ := fun s R => wpAny_Constant_str ⟨.str x, σ, ⟨_, rfl⟩, R.toks _, h⟩
theorem r_fstr1 {v : PySem.Expr} {pos : Pos} {Q : MV → MS → Prop} (h : EV C v Q E σ) : EV C (.JoinedStr [v] pos) Q E σ := fun s R => wpAny_JoinedStr_one (h s R)
theorem dig_len : ∀ k : Nat, k < 10 → (Str.ofString (toString (k : Int))).length ≤ 10 := by decide +kernel
theorem r_fstr3 {a b : Str} {k1 k2 : Nat} {p1 p2 p3 pos : Pos} {e : PySem.Expr} {Q : MV → MS → Prop} (ha : a.length ≤ 1000) (hb : b.length ≤ 1000) (h : EV C e (fun v σ₁ => ∃ n : Int, v = .int n ∧ 0 ≤ n ∧ n < 10 ∧ ∀ x, Q (.str x) σ₁) E σ) :
    EV C (.JoinedStr [.Constant (.str a) k1 p1, .FormattedValue e 114 none p2, .Constant (.str b) k2 p3] pos) Q E σ := fun s R => by
  have hsl : sizeLine = 16777216 := sizeLine_eq
  have lenA : ∀ x y : Str, (x ++ y).length = x.length + y.length := fun x y => by show (x.cps ++ y.cps).size = x.cps.size + y.cps.size; exact Array.size_append ..
  have lenE : Str.empty.length = 0 := rfl
  refine wpAny_JoinedStr ?_
  show wpAny _ _ (eval (.Constant (.str a) k1 p1) C.env) _ _ _
  refine wpAny_Constant_str ⟨a, _, rfl, by rw [lenA, lenE, hsl]; omega, ?_⟩
  show wpAny _ _ (eval (.FormattedValue e 114 none p2) C.env) _ _ _
  refine wpAny_FormattedValue_repr (wpAny_mono (h _ (R.toks _)) (fun v s₁ ⟨m, σ₁, i, R₁, n, e, h0, h10, q⟩ => ?_) fun _ _ e => e)
  subst e
  obtain ⟨t, rfl⟩ := i
  have hlog : n.natAbs.log2 < 1920 := by
    have : n.natAbs < 10 := by omega
    exact Nat.lt_of_le_of_lt (Nat.log2_le_self _) (by omega)
  have hlen : (Str.ofString (toString n)).length ≤ 10 := by
    obtain ⟨k, rfl⟩ := Int.eq_ofNat_of_zero_le h0
    exact dig_len k (Int.ofNat_lt.mp h10)
  have fin : ∀ (t' : Tok) (tk : Nat), ∃ y t'', Value.str (Str.ofString (toString n)) t' = .str y t'' ∧ (Str.empty ++ a ++ y).length ≤ sizeLine ∧ Joins (model C.prog C.w) C.A E (evalEach [.Constant (.str b) k2 p3] C.env) (Str.empty ++ a ++ y) (fun out s₁ => out.length ≤ sizeLine ∧ Post C IsV Q (Value.str out s₁.toks) { s₁ with toks := s₁.toks + 1 }) { s₁ with toks := tk } := fun t' tk => by
    refine ⟨_, _, rfl, by rw [lenA, lenA, lenE, hsl]; omega, ?_⟩
    show wpAny _ _ (eval (.Constant (.str b) k2 p3) C.env) _ _ _
    refine wpAny_Constant_str ⟨b, _, rfl, by rw [lenA, lenA, lenA, lenE, hsl]; omega, ?_⟩
    exact ⟨by rw [lenA, lenA, lenA, lenE, hsl]; omega, _, _, ⟨_, rfl⟩, R₁.toks _, q _⟩
  refine wpAny_pyReprObj_gives (typeIs_int _ _ _) F.slot_int_repr F.entry_int_repr (F.args_int_repr_1 _) (gives_int_repr n t hlog) ?_ rfl (by rw [hsl]; exact Nat.le_trans hlen (by decide))
  exact wpAny_formatField_str (fin _ _) (fin _ _) (by rw [hsl]; exact Nat.le_trans hlen (by decide))
end
noncomputable abbrev KK (w : World) : Frag := hd.heap_1 w.params
theorem cls_T (w : World) : ClsOk (KK w) 144 where
  get := by kernel_rfl
  cls := by kernel_rfl
  set := by kernel_rfl
  over := by kernel_rfl
theorem dict_T (w : World) : hasDictIn (KK w) 144 = true := by kernel_rfl
theorem cls_N (w : World) : ClsOk (KK w) 47 where
  get := by kernel_rfl
  cls := by kernel_rfl
  set := by kernel_rfl
  over := by kernel_rfl
theorem find_T1 (w : World) : findIn (KK w) (.ref 144) "_node2info" = some none := by kernel_rfl
theorem find_T2 (w : World) : findIn (KK w) (.ref 144) "_ready_nodes" = some none := by kernel_rfl
theorem find_T3 (w : World) : findIn (KK w) (.ref 144) "_npassedout" = some none := by kernel_rfl
theorem find_T4 (w : World) : findIn (KK w) (.ref 144) "_nfinished" = some none := by kernel_rfl
theorem take_T1 (w : World) : takerIn (KK w) 144 "_node2info" = some none := by kernel_rfl
theorem take_T2 (w : World) : takerIn (KK w) 144 "_ready_nodes" = some none := by kernel_rfl
theorem take_T3 (w : World) : takerIn (KK w) 144 "_npassedout" = some none := by kernel_rfl
theorem take_T4 (w : World) : takerIn (KK w) 144 "_nfinished" = some none := by kernel_rfl
theorem makes_T (w : World) : makesIn (KK w) 144 = true := by kernel_rfl
theorem makes_N (w : World) : makesIn (KK w) 47 = true := by kernel_rfl
theorem init_T (w : World) : findIn (KK w) (.ref 144) "__init__" = some (some (.ref 80)) := by kernel_rfl
theorem init_N (w : World) : findIn (KK w) (.ref 47) "__init__" = some (some (.ref 43)) := by kernel_rfl
theorem fn_80 (w : World) : typeIn (KK w) (.ref 80) = some (.type "function") := by kernel_rfl
theorem fn_43 (w : World) : typeIn (KK w) (.ref 43) = some (.type "function") := by kernel_rfl
theorem m_info (w : World) : findIn (KK w) (.ref 144) "_get_nodeinfo" = some (some (.ref 87)) := by kernel_rfl
theorem m_add (w : World) : findIn (KK w) (.ref 144) "add" = some (some (.ref 94)) := by kernel_rfl
theorem m_prepare (w : World) : findIn (KK w) (.ref 144) "prepare" = some (some (.ref 99)) := by kernel_rfl
theorem m_ready (w : World) : findIn (KK w) (.ref 144) "get_ready" = some (some (.ref 106)) := by kernel_rfl
theorem m_done (w : World) : findIn (KK w) (.ref 144) "done" = some (some (.ref 127)) := by kernel_rfl
theorem m_cycle (w : World) : findIn (KK w) (.ref 144) "_find_cycle" = some (some (.ref 134)) := by kernel_rfl
theorem exc_C (w : World) : OwnExc (KK w) 62 := .mk _ _ _ _ _ _ _ _ _ _ _ _ _ _ _ _ (by exact rfl) (by kernel_rfl) (by kernel_rfl) (by kernel_rfl)
theorem isf_87 (w : World) : isFn (KK w) (.ref 87) = true := by kernel_rfl
theorem kp_87 (w : World) : keepIn (KK w) (.ref 87) = true := by kernel_rfl
theorem kp_47 (w : World) : keepIn (KK w) (.ref 47) = true := by kernel_rfl
example (w : World) : findIn (KK w) (.ref 47) "node" = some (some (.ref 48)) := by kernel_rfl
theorem slot_node (w : World) : SlotOk (KK w) 47 "node" 48 0 where
  find := by kernel_rfl
  get := by kernel_rfl
  takes := by kernel_rfl
  slot := by kernel_rfl
  taker := by kernel_rfl
  type := by kernel_rfl
theorem slot_np (w : World) : SlotOk (KK w) 47 "npredecessors" 49 1 where
  find := by kernel_rfl
  get := by kernel_rfl
  takes := by kernel_rfl
  slot := by kernel_rfl
  taker := by kernel_rfl
  type := by kernel_rfl
theorem slot_succ (w : World) : SlotOk (KK w) 47 "successors" 50 2 where
  find := by kernel_rfl
  get := by kernel_rfl
  takes := by kernel_rfl
  slot := by kernel_rfl
  taker := by kernel_rfl
  type := by kernel_rfl
noncomputable abbrev GL : List (Str × MV) := [(Str.ofString "unorderable_list_difference", .ref 28), (Str.ofString "_NODE_OUT", .int (-1)), (Str.ofString "_NODE_DONE", .int (-2)), (Str.ofString "_NodeInfo", .ref 47), (Str.ofString "CycleError", .ref 62), (Str.ofString "TopologicalSorter", .ref 144),
  (Str.ofString "_law_numbers", .ref 153), (Str.ofString "_law_steps", .ref 160), (Str.ofString "_law_due", .ref 165), (Str.ofString "_law_tokens", .ref 170), (Str.ofString "_law_free", .ref 175), (Str.ofString "_law_do", .ref 182), (Str.ofString "_law_work", .ref 189), (Str.ofString "ValueError", .ty "ValueError"), (Str.ofString "StopIteration", .ty "StopIteration"), (Str.ofString "len", .bi "len"), (Str.ofString "sum", .bi "sum"), (Str.ofString "min", .bi "min"), (Str.ofString "max", .bi "max"),
  (Str.ofString "sorted", .bi "sorted"), (Str.ofString "iter", .bi "iter"), (Str.ofString "range", .ty "range"), (Str.ofString "list", .ty "list"), (Str.ofString "tuple", .ty "tuple"), (Str.ofString "bool", .ty "bool"), (Str.ofString "set", .ty "set")]
theorem kp_28 (w : World) : keepIn (KK w) (.ref 28) = true := by kernel_rfl
theorem kp_144 (w : World) : keepIn (KK w) (.ref 144) = true := by kernel_rfl
theorem kp_153 (w : World) : keepIn (KK w) (.ref 153) = true := by kernel_rfl
theorem kp_160 (w : World) : keepIn (KK w) (.ref 160) = true := by kernel_rfl
theorem kp_165 (w : World) : keepIn (KK w) (.ref 165) = true := by kernel_rfl
theorem kp_170 (w : World) : keepIn (KK w) (.ref 170) = true := by kernel_rfl
theorem kp_175 (w : World) : keepIn (KK w) (.ref 175) = true := by kernel_rfl
theorem kp_182 (w : World) : keepIn (KK w) (.ref 182) = true := by kernel_rfl
theorem kp_189 (w : World) : keepIn (KK w) (.ref 189) = true := by kernel_rfl
theorem kp_94 (w : World) : keepIn (KK w) (.ref 94) = true := by kernel_rfl
theorem kp_99 (w : World) : keepIn (KK w) (.ref 99) = true := by kernel_rfl
theorem kp_106 (w : World) : keepIn (KK w) (.ref 106) = true := by kernel_rfl
theorem kp_127 (w : World) : keepIn (KK w) (.ref 127) = true := by kernel_rfl
theorem kp_134 (w : World) : keepIn (KK w) (.ref 134) = true := by kernel_rfl
theorem isf_94 (w : World) : isFn (KK w) (.ref 94) = true := by kernel_rfl
theorem isf_99 (w : World) : isFn (KK w) (.ref 99) = true := by kernel_rfl
theorem isf_106 (w : World) : isFn (KK w) (.ref 106) = true := by kernel_rfl
theorem isf_127 (w : World) : isFn (KK w) (.ref 127) = true := by kernel_rfl
theorem isf_134 (w : World) : isFn (KK w) (.ref 134) = true := by kernel_rfl
theorem c_is_ref {C : Cx} {σ : MS} {E : Value → Shared → Prop} {a : Addr} {Q : MV → MS → Prop} (h : Q (.bool false) σ) : CMP C .Is (.ref a) .none Q E σ := c_is_none false rfl h
theorem c_is_nn {C : Cx} {σ : MS} {E : Value → Shared → Prop} {Q : MV → MS → Prop} (h : Q (.bool true) σ) : CMP C .Is .none .none Q E σ := c_is_none true rfl h
theorem c_isnot_nn {C : Cx} {σ : MS} {E : Value → Shared → Prop} {Q : MV → MS → Prop} (h : Q (.bool false) σ) : CMP C .IsNot .none .none Q E σ := c_isnot_none false rfl h
theorem Take.skip {α : Type} {l' l : List α} {q : α} (h : Take l' l) : Take l' (q :: l) := by
  induction h with
  | nil => exact .nil
  | @all l =>
    have : Take (l ++ []) (q :: (l ++ [])) := .app (.tail .head) .nil
    rwa [List.append_nil] at this
  | cons a _ ih => exact .cons (.tail a) ih
  | app a _ ih => exact .app (.tail a) ih
theorem Take.skips {α : Type} {l' l m : List α} (h : Take l' l) : Take l' (m ++ l) := by
  induction m with
  | nil => exact h
  | cons q m ih => exact ih.skip
local macro_rules | `(tactic| walk_at "has") => `(tactic| first | assumption | with_reducible exact Has.head | ((with_reducible refine' Has.tail ?kp); (case kp => walk_at "has")) | (with_reducible exact Has.left (by assumption)) | ((with_reducible refine' Has.right ?kp); (case kp => walk_at "has")))
local macro_rules | `(tactic| walk_at "put") => `(tactic| first | with_reducible exact Put.head | ((with_reducible refine' Put.tail ?kp); (case kp => walk_at "put")))
local macro_rules | `(tactic| walk_at "fput") => `(tactic| first | with_reducible exact FPut.head | ((with_reducible refine' FPut.tail ?kp); (case kp => walk_at "fput")))
local macro_rules | `(tactic| walk_at "upd") => `(tactic| first | with_reducible assumption | exact Upd.head | ((with_reducible refine' Upd.tail ?kp); (case kp => walk_at "upd")) | (with_reducible exact Upd.left (by assumption)) | ((with_reducible refine' Upd.right ?kp); (case kp => walk_at "upd")))
local macro_rules | `(tactic| walk_at "pick") => `(tactic| first | with_reducible exact Pick.head | ((with_reducible refine' Pick.tail ?kp); (case kp => walk_at "pick")) | ((with_reducible refine' Pick.app ?kp); (case kp => walk_at "pick")))
local macro_rules | `(tactic| walk_at "picks") => `(tactic| first | with_reducible exact PickS.head | ((with_reducible refine' PickS.tail ?kp); (case kp => walk_at "picks")) | ((with_reducible refine' PickS.app ?kp); (case kp => walk_at "picks")))
local macro_rules | `(tactic| walk_at "take") => `(tactic| first
  | (with_reducible exact Take.all)
  | (with_reducible exact Take.nil)
  | ((with_reducible refine' Take.cons ?kp ?kt); (case kp => walk_at "pick"); walk_at "take")
  | ((with_reducible refine' Take.app ?kp ?kt); (case kp => walk_at "picks"); walk_at "take")
  | ((with_reducible refine' Take.skip ?kt); walk_at "take")
  | ((with_reducible refine' Take.skips ?kt); walk_at "take"))
local macro_rules | `(tactic| walk_at "len") => `(tactic| first | decide | assumption | ((try simp only [List.length_map, List.length_append, List.length_cons, List.length_nil, List.length_reverse] at *); omega))
section
variable {C : Cx} {σ : MS} {s : Shared} {E : Value → Shared → Prop} {gl : List (Str × MV)} {names : List (Str × NameKind)} {cells : List (Str × Addr)}
variable {x d : Addr} {sl : List (Option MV)} {fs fs' : List (Str × MV)} {name : Str} {v : MV} {led' : List (Addr × MO)}
theorem gT (O : C.Ok gl names cells) (hK : C.K = KK C.w) {Q : MV → MS → Prop} (ha : ∀ w, findIn (KK w) (.ref 144) name = some none) (hx : Has x (.inst 144 d sl) σ.led) (hd : Has d (.attrs fs) σ.led) (hv : Has name v fs) (hm : ∀ id, v ≠ .bi id) (h : Q v σ) : GETA C (.ref x) name Q E σ :=
  g_own O (by rw [hK]; exact cls_T _) (by rw [hK]; exact dict_T _) (by rw [hK]; exact ha _) hx hd hv hm h
theorem sT (O : C.Ok gl names cells) (hK : C.K = KK C.w) {Q : Unit → MS → Prop} (ha : ∀ w, takerIn (KK w) 144 name = some none) (hx : Has x (.inst 144 d sl) σ.led) (U : Upd d (.attrs fs) (.attrs fs') σ.led led') (hf : FPut name v fs fs') (hz : fs.length ≤ 100) (h : Q () ⟨σ.loc, led'⟩) : SETA C (.ref x) name v Q E σ :=
  s_own O (by rw [hK]; exact cls_T _) (by rw [hK]; exact dict_T _) (by rw [hK]; exact ha _) hx U hf hz h
theorem nT (O : C.Ok gl names cells) (hK : C.K = KK C.w) {Q : Unit → MS → Prop} (ha : ∀ w, takerIn (KK w) 144 name = some none) (hx : Has x (.inst 144 d sl) σ.led) (U : Upd d (.attrs fs) (.attrs (fs ++ [(name, v)])) σ.led led') (hf : (fs.all fun p => !(p.1 == name)) = true) (hz : fs.length ≤ 100) (h : Q () ⟨σ.loc, led'⟩) : SETA C (.ref x) name v Q E σ :=
  s_new O (by rw [hK]; exact cls_T _) (by rw [hK]; exact dict_T _) (by rw [hK]; exact ha _) hx U hf hz h
theorem gN (O : C.Ok gl names cells) (hK : C.K = KK C.w) {p : Addr} {i : Nat} {Q : MV → MS → Prop} (hs : ∀ w, SlotOk (KK w) 47 name p i) (hx : Has x (.inst 47 d sl) σ.led) (hd : Has d (.attrs fs) σ.led) (hv : sl[i]? = some (some v)) (hm : ∀ id, v ≠ .bi id) (h : Q v σ) : GETA C (.ref x) name Q E σ :=
  g_slot O (by rw [hK]; exact cls_N _) (by rw [hK]; exact hs _) hx hd hv hm h
theorem sN (O : C.Ok gl names cells) (hK : C.K = KK C.w) {p : Addr} {i : Nat} {sl' : List (Option MV)} {Q : Unit → MS → Prop} (hs : ∀ w, SlotOk (KK w) 47 name p i) (hi : i < 1000) (he : slotPut sl i v = sl') (U : Upd x (.inst 47 d sl) (.inst 47 d sl') σ.led led') (hd : Has d (.attrs fs) σ.led) (h : Q () ⟨σ.loc, led'⟩) : SETA C (.ref x) name v Q E σ := by
  subst he
  exact s_slot O (by rw [hK]; exact cls_N _) (by rw [hK]; exact hs _) hi U hd h
end
section
variable {C : Cx} {σ : MS} {s : Shared} {E : Value → Shared → Prop} {gl : List (Str × MV)} {names : List (Str × NameKind)} {cells : List (Str × Addr)}
theorem new_info (O : C.Ok gl names cells) (hK : C.K = KK C.w) (hlv : 1 ≤ C.lv) {n : Int} {Q : MV → MS → Prop}
    (h : ∀ x d sa, Q (.ref x) ⟨σ.loc, (sa, .list []) :: (x, .inst 47 d [some (.int n), some (.int 0), some (.ref sa)]) :: (d, .attrs []) :: σ.led⟩) : CALLR C 47 [.int n] Q E σ := by
  refine CALLR.noexc (call_new O (by rw [hK]; exact makes_N _) (by rw [hK]; exact init_N _) (by rw [hK]; exact fn_43 _) ?_)
  intro x d A vs' s ia hfr hd hu hh R
  refine code_call O hfr hd hu hlv (ps := [Str.ofString "self", Str.ofString "node"]) (more := []) (morec := []) (args := [.ref x, .int n]) (led₁ := (x, .inst 47 d []) :: (d, .attrs []) :: σ.led) (by rw [hK]; exact rfl) (by rw [hK]; exact rfl) R ?hb (.loc (by decide +kernel) (.loc (by decide +kernel) .nil)) (by decide +kernel) (by decide +kernel) (by decide +kernel) (by decide +kernel) rfl rfl rfl ?_
  case hb =>
    obtain ⟨v, rfl, i⟩ := ia.one
    exact BindsTo.of_eq rfl _ _ _ _ ⟨[.ref x, v], rfl, .cons (Is.ref x) (.cons i .nil), R⟩
  intro C' as has O' hp hw hK' hlv' hh' _
  rw [hK, ← hw] at hK'
  cases as with
  | cons _ _ => cases has
  | nil =>
    dsimp only [cellLed, List.map, List.append, List.nil_append, List.cons_append] at O' ⊢
    refine AW.hide fun QF hQF EF _ => ?_
    ((with_reducible refine r_cons ?_); (with_reducible refine r_set_attr ?_ ?hs); (case hs => exact rfl); (with_reducible refine' r_local (by assumption) ?k1 ?k2 ?_); (case k1 => walk_at "has"); (case k2 => ((try dsimp only); walk_at "has")); (with_reducible refine' r_local (by assumption) ?k1 ?k2 ?_); (case k1 => walk_at "has"); (case k2 => ((try dsimp only); walk_at "has")); (with_reducible refine' sN (by assumption) (by assumption) slot_node ?k0 ?k1 ?k2 ?k3 ?_); (case k0 => decide); (case k2 => ((try dsimp only); walk_at "upd")); (case k1 => exact rfl); (case k3 => ((try dsimp only); walk_at "has")); (try dsimp only [slotPut, List.replicate, List.set, List.append, List.length, List.nil_append, List.cons_append, Nat.reduceAdd, Nat.reduceSub]); (with_reducible refine r_cons ?_); (with_reducible refine r_set_attr ?_ ?hs); (case hs => exact rfl); (with_reducible refine r_int ?_); (with_reducible refine' r_local (by assumption) ?k1 ?k2 ?_); (case k1 => walk_at "has"); (case k2 => ((try dsimp only); walk_at "has")); (with_reducible refine' sN (by assumption) (by assumption) slot_np ?k0 ?k1 ?k2 ?k3 ?_); (case k0 => decide); (case k2 => ((try dsimp only); walk_at "upd")); (case k1 => exact rfl); (case k3 => ((try dsimp only); walk_at "has")); (try dsimp only [slotPut, List.replicate, List.set, List.append, List.length, List.nil_append, List.cons_append, Nat.reduceAdd, Nat.reduceSub]); (with_reducible refine r_cons ?_); (with_reducible refine r_set_attr ?_ ?hs); (case hs => exact rfl); (with_reducible refine r_list ?_); (with_reducible refine p_nil ?_); (with_reducible show _ ≤ 1000000 ∧ _); refine And.intro ?k1 ?_; (case k1 => walk_at "len"); intro _; (try dsimp only); (with_reducible refine' r_local (by assumption) ?k1 ?k2 ?_); (case k1 => walk_at "has"); (case k2 => ((try dsimp only); walk_at "has")); (with_reducible refine' sN (by assumption) (by assumption) slot_succ ?k0 ?k1 ?k2 ?k3 ?_); (case k0 => decide); (case k2 => ((try dsimp only); walk_at "upd")); (case k1 => exact rfl); (case k3 => ((try dsimp only); walk_at "has")); (try dsimp only [slotPut, List.replicate, List.set, List.append, List.length, List.nil_append, List.cons_append, Nat.reduceAdd, Nat.reduceSub]); (with_reducible refine r_nil ?_))
    exact hQF _ _ ⟨rfl, h _ _ _⟩
end
structure Nd where
  a : Addr
  d : Addr
  sa : Addr
  key : Int
  np : Int
  su : List Int
noncomputable abbrev Nd.inst (r : Nd) : MO := .inst 47 r.d [some (.int r.key), some (.int r.np), some (.ref r.sa)]
noncomputable def nodesLed : List Nd → List (Addr × MO)
  | [] => []
  | r :: ns => (r.a, r.inst) :: (r.d, .attrs []) :: (r.sa, .list (r.su.map .int)) :: nodesLed ns
noncomputable def getN (ns : List Nd) (k : Int) : Option Nd := ns.find? fun r => r.key = k
noncomputable def upN (ns : List Nd) (k : Int) (f : Nd → Nd) : List Nd := ns.map fun r => if r.key = k then f r else r
noncomputable def kvsN (ns : List Nd) : List (Int × MV) := ns.map fun r => (r.key, .ref r.a)
noncomputable def keysN (ns : List Nd) : List Int := ns.map (·.key)
theorem nodesLed_append (ns ms : List Nd) : nodesLed (ns ++ ms) = nodesLed ns ++ nodesLed ms := by
  induction ns with
  | nil => rfl
  | cons r ns ih => simp [nodesLed, ih]
theorem nodesLed_one (ns : List Nd) (r : Nd) (rest : List (Addr × MO)) : nodesLed (ns ++ [r]) ++ rest = nodesLed ns ++ ((r.a, r.inst) :: (r.d, .attrs []) :: (r.sa, .list (r.su.map .int)) :: rest) := by
  rw [nodesLed_append, List.append_assoc]; rfl
theorem CALLR.keep {C : Cx} {σ : MS} {E : Value → Shared → Prop} {f : Addr} {vs : List MV} {Q : MV → MS → Prop} (h : CALLR C f vs (fun b σ' => ∃ l', Take l' σ'.led ∧ Q b ⟨σ'.loc, l'⟩) E σ) : CALLR C f vs Q E σ := h.mono (fun _ _ h => h) (fun _ _ e => e)
theorem AW.keep {C : Cx} {σ : MS} {E : Value → Shared → Prop} {α β : Type} {rep : β → α → Prop} {t : Sem α} {Q : β → MS → Prop} (h : AW C rep t (fun b σ' => ∃ l', Take l' σ'.led ∧ Q b ⟨σ'.loc, l'⟩) E σ) : AW C rep t Q E σ := h.post fun _ _ h => h
theorem kvs_one (ns : List Nd) (r : Nd) : kvsN (ns ++ [r]) = kvsN ns ++ [(r.key, .ref r.a)] := by unfold kvsN; rw [List.map_append]; rfl
theorem mval_kvs (ns : List Nd) (k : Int) : mval (kvsN ns) k = (getN ns k).map fun r => .ref r.a := by
  unfold mval kvsN getN
  induction ns with
  | nil => rfl
  | cons r ns ih =>
    rw [List.map_cons, List.find?_cons, List.find?_cons]
    by_cases h : r.key = k
    · simp [h]
    · simp only [h, decide_false]; exact ih
theorem getN_key {ns : List Nd} {k : Int} {r : Nd} (h : getN ns k = some r) : r.key = k := by
  have := List.find?_some h
  simpa using this
theorem getN_mem {ns : List Nd} {k : Int} {r : Nd} (h : getN ns k = some r) : r ∈ ns := List.mem_of_find?_eq_some h
theorem getN_none {ns : List Nd} {k : Int} : getN ns k = none ↔ k ∉ keysN ns := by
  unfold getN keysN
  rw [List.find?_eq_none]
  simp
theorem getN_some {ns : List Nd} {k : Int} (h : k ∈ keysN ns) : ∃ r, getN ns k = some r := by
  cases e : getN ns k with
  | none => exact absurd h (getN_none.mp e)
  | some r => exact ⟨r, rfl⟩
theorem has_inst {ns : List Nd} {r : Nd} (h : r ∈ ns) : Has r.a r.inst (nodesLed ns) := by
  induction ns with
  | nil => cases h
  | cons q ns ih =>
    rcases List.mem_cons.mp h with rfl | h
    · exact .head
    · exact .tail (.tail (.tail (ih h)))
theorem has_attrs {ns : List Nd} {r : Nd} (h : r ∈ ns) : Has r.d (.attrs []) (nodesLed ns) := by
  induction ns with
  | nil => cases h
  | cons q ns ih =>
    rcases List.mem_cons.mp h with rfl | h
    · exact .tail .head
    · exact .tail (.tail (.tail (ih h)))
theorem has_su {ns : List Nd} {r : Nd} (h : r ∈ ns) : Has r.sa (.list (r.su.map .int)) (nodesLed ns) := by
  induction ns with
  | nil => cases h
  | cons q ns ih =>
    rcases List.mem_cons.mp h with rfl | h
    · exact .tail (.tail .head)
    · exact .tail (.tail (.tail (ih h)))
theorem upN_off {ns : List Nd} {k : Int} {f : Nd → Nd} (h : k ∉ keysN ns) : upN ns k f = ns := by
  unfold upN
  induction ns with
  | nil => rfl
  | cons r ns ih =>
    have h1 : r.key ≠ k := fun e => h (by simp [keysN, e])
    have h2 : k ∉ keysN ns := fun e => h (by simp only [keysN, List.map_cons]; exact .tail _ e)
    rw [List.map_cons, if_neg h1, ih h2]
theorem upd_np {ns : List Nd} {k : Int} {r : Nd} (h : getN ns k = some r) (nd : (keysN ns).Nodup) (g : Int → Int) : Upd r.a r.inst ({ r with np := g r.np } : Nd).inst (nodesLed ns) (nodesLed (upN ns k fun r => { r with np := g r.np })) := by
  induction ns with
  | nil => cases h
  | cons q ns ih =>
    have n2 := List.nodup_cons.mp nd
    unfold getN at h
    rw [List.find?_cons] at h
    by_cases hq : q.key = k
    · simp only [hq, decide_true] at h
      cases h
      have : upN (r :: ns) k (fun r => { r with np := g r.np }) = { r with np := g r.np } :: ns := by
        have h3 : upN ns k (fun r => { r with np := g r.np }) = ns := upN_off (by rw [← hq]; exact n2.1)
        unfold upN at h3 ⊢
        rw [List.map_cons, if_pos hq, h3]
      rw [this]
      exact .head
    · simp only [hq, decide_false] at h
      have : upN (q :: ns) k (fun r => { r with np := g r.np }) = q :: upN ns k (fun r => { r with np := g r.np }) := by
        unfold upN
        rw [List.map_cons, if_neg hq]
      rw [this]
      exact .tail (.tail (.tail (ih h n2.2)))
theorem upd_su {ns : List Nd} {k : Int} {r : Nd} (h : getN ns k = some r) (nd : (keysN ns).Nodup) (y : Int) : Upd r.sa (.list (r.su.map .int)) (.list (r.su.map .int ++ [.int y])) (nodesLed ns) (nodesLed (upN ns k fun r => { r with su := r.su ++ [y] })) := by
  induction ns with
  | nil => cases h
  | cons q ns ih =>
    have n2 := List.nodup_cons.mp nd
    unfold getN at h
    rw [List.find?_cons] at h
    by_cases hq : q.key = k
    · simp only [hq, decide_true] at h
      cases h
      have : upN (r :: ns) k (fun r => { r with su := r.su ++ [y] }) = { r with su := r.su ++ [y] } :: ns := by
        have h3 : upN ns k (fun r => { r with su := r.su ++ [y] }) = ns := upN_off (by rw [← hq]; exact n2.1)
        unfold upN at h3 ⊢
        rw [List.map_cons, if_pos hq, h3]
      rw [this]
      simp only [nodesLed, List.map_append, List.map_cons, List.map_nil]
      exact .tail (.tail .head)
    · simp only [hq, decide_false] at h
      have : upN (q :: ns) k (fun r => { r with su := r.su ++ [y] }) = q :: upN ns k (fun r => { r with su := r.su ++ [y] }) := by
        unfold upN
        rw [List.map_cons, if_neg hq]
      rw [this]
      exact .tail (.tail (.tail (ih h n2.2)))
theorem kvs_np (ns : List Nd) (k : Int) (g : Int → Int) : kvsN (upN ns k fun r => { r with np := g r.np }) = kvsN ns := by
  unfold kvsN upN
  rw [List.map_map]
  apply List.map_congr_left
  intro r _
  show (_, _) = _
  simp only [Function.comp]
  split <;> rfl
theorem kvs_su (ns : List Nd) (k : Int) (y : Int) : kvsN (upN ns k fun r => { r with su := r.su ++ [y] }) = kvsN ns := by
  unfold kvsN upN
  rw [List.map_map]
  apply List.map_congr_left
  intro r _
  show (_, _) = _
  simp only [Function.comp]
  split <;> rfl
theorem keys_np (ns : List Nd) (k : Int) (g : Int → Int) : keysN (upN ns k fun r => { r with np := g r.np }) = keysN ns := by
  unfold keysN upN
  rw [List.map_map]
  apply List.map_congr_left
  intro r _
  simp only [Function.comp]
  split <;> rfl
theorem keys_su (ns : List Nd) (k : Int) (y : Int) : keysN (upN ns k fun r => { r with su := r.su ++ [y] }) = keysN ns := by
  unfold keysN upN
  rw [List.map_map]
  apply List.map_congr_left
  intro r _
  simp only [Function.comp]
  split <;> rfl
theorem kvs_length (ns : List Nd) : (kvsN ns).length = ns.length := by simp [kvsN]
theorem mstored_new {ns : List Nd} {k : Int} {v : MV} (h : getN ns k = none) : mstored (kvsN ns) k v = kvsN ns ++ [(k, v)] := by
  unfold mstored
  rw [if_neg]
  intro hc
  obtain ⟨p, hp, e⟩ := List.any_eq_true.mp hc
  obtain ⟨r, hr, rfl⟩ := List.mem_map.mp hp
  have e' : r.key = k := by simpa using e
  exact getN_none.mp h (List.mem_map.mpr ⟨r, hr, e'⟩)
noncomputable abbrev fsT (D : Addr) (rd : MV) (p f : Int) : List (Str × MV) := [(Str.ofString "_node2info", .ref D), (Str.ofString "_ready_nodes", rd), (Str.ofString "_npassedout", .int p), (Str.ofString "_nfinished", .int f)]
noncomputable abbrev ledT (x d D : Addr) (ep : Nat) (rd : MV) (p f : Int) (ns : List Nd) (rest : List (Addr × MO)) : List (Addr × MO) := (x, .inst 144 d []) :: (d, .attrs (fsT D rd p f)) :: (D, .dict (kvsN ns) ep) :: (nodesLed ns ++ rest)
section
variable {C : Cx} {σ : MS} {s : Shared} {E : Value → Shared → Prop} {names : List (Str × NameKind)} {cells : List (Str × Addr)}
  {x d D : Addr} {ep : Nat} {rd : MV} {p f : Int} {ns : List Nd} {rest : List (Addr × MO)} {loc : Loc}
theorem info_old (O : C.Ok GL names cells) (hK : C.K = KK C.w) (hlv : 1 ≤ C.lv) (hS : (D == sysModules) = false) {k : Int} {r : Nd} (hr : getN ns k = some r) {Q : MV → MS → Prop}
    (h : Q (.ref r.a) ⟨loc, ledT x d D ep rd p f ns rest⟩) : CALLR C 87 [.ref x, .int k] Q E ⟨loc, ledT x d D ep rd p f ns rest⟩ := by
  refine CALLR.noexc (call_K O (ps := [Str.ofString "self", Str.ofString "node"]) (more := [Str.ofString "result"]) (morec := []) hlv (by rw [hK]; exact rfl) (by rw [hK]; exact rfl) (fun args' s ia _ => by obtain ⟨v, w, rfl, i, j⟩ := ia.two; exact BindsTo.of_eq rfl)
    (.loc (by decide +kernel) (.loc (by decide +kernel) .nil)) (by decide +kernel) (by decide +kernel) (by decide +kernel) (by decide +kernel) rfl rfl rfl ?_)
  intro C' as has O' hp hw hK' hlv' hh'
  rw [hK, ← hw] at hK'
  cases as with
  | cons _ _ => cases has
  | nil =>
    dsimp only [cellLed, List.map, List.append, List.nil_append, List.cons_append] at O' ⊢
    refine AW.hide fun QF hQF EF _ => ?_
    have hv := mval_kvs ns k
    rw [hr] at hv
    ((with_reducible refine r_cons ?_); (with_reducible refine r_if ?_); (with_reducible refine t_compare ?_ ?hs); (case hs => exact rfl); (with_reducible refine r_named ?_); (with_reducible refine r_meth PySem.F.plainAttrs_dict PySem.F.slot_dict_get PySem.F.type_dict_get ?_ ?h1 ?h2 ?h3 ?h4); (case h1 => exact rfl); (case h2 => exact rfl); (case h3 => exact rfl); (case h4 => exact rfl); (with_reducible refine r_attr ?_ ?hs); (case hs => with_unfolding_all rfl); (with_reducible refine' r_local (by assumption) ?k1 ?k2 ?_); (case k1 => walk_at "has"); (case k2 => ((try dsimp only); walk_at "has")); (with_reducible refine' gT (by assumption) (by assumption) find_T1 ?k1 ?k2 ?k3 ?k4 ?_); (case k1 => ((try dsimp only); walk_at "has")); (case k2 => ((try dsimp only); walk_at "has")); (case k3 => walk_at "has"); (case k4 => exact fun _ h => nomatch h); (with_reducible refine' And.intro (OfT.dict ?k1) ?_); (case k1 => ((try dsimp only); walk_at "has")); (with_reducible refine p_cons ?_ ?hs); (case hs => exact rfl); (with_reducible refine' r_local (by assumption) ?k1 ?k2 ?_); (case k1 => walk_at "has"); (case k2 => ((try dsimp only); walk_at "has")); (with_reducible refine p_nil ?_); (with_reducible refine' k_dget ?k1 ?k2 ?_); (case k1 => assumption); (case k2 => ((try dsimp only); walk_at "has")); (with_reducible refine' r_store (by assumption) ?k1 ?k2 ?_); (case k1 => walk_at "has"); (case k2 => ((try dsimp only); walk_at "put")); (try dsimp only); (with_reducible refine r_none ?_))
    rw [hv]
    dsimp only [Option.map, Option.getD]
    ((with_reducible refine c_is_ref ?_); (with_reducible refine u_bool ?_); (with_reducible refine ite_ff ?_); (with_reducible refine r_nil ?_); (with_reducible refine r_cons ?_); (with_reducible refine r_return ?_); (with_reducible refine' r_local (by assumption) ?k1 ?k2 ?_); (case k1 => walk_at "has"); (case k2 => ((try dsimp only); walk_at "has")))
    exact hQF _ _ h
theorem info_new (O : C.Ok GL names cells) (hK : C.K = KK C.w) (hlv : 2 ≤ C.lv) (hS : (D == sysModules) = false) {k : Int} (hr : getN ns k = none) (hz : ns.length ≤ 100) {Q : MV → MS → Prop}
    (h : ∀ r : Nd, r.key = k → r.np = 0 → r.su = [] → ∀ ep', Q (.ref r.a) ⟨loc, ledT x d D ep' rd p f (ns ++ [r]) rest⟩) : CALLR C 87 [.ref x, .int k] Q E ⟨loc, ledT x d D ep rd p f ns rest⟩ := by
  refine CALLR.keep (CALLR.noexc (call_K O (ps := [Str.ofString "self", Str.ofString "node"]) (more := [Str.ofString "result"]) (morec := []) (by omega) (by rw [hK]; exact rfl) (by rw [hK]; exact rfl) (fun args' s ia _ => by obtain ⟨v, w, rfl, i, j⟩ := ia.two; exact BindsTo.of_eq rfl)
    (.loc (by decide +kernel) (.loc (by decide +kernel) .nil)) (by decide +kernel) (by decide +kernel) (by decide +kernel) (by decide +kernel) rfl rfl rfl ?_))
  intro C' as has O' hp hw hK' hlv' hh'
  rw [hK, ← hw] at hK'
  cases as with
  | cons _ _ => cases has
  | nil =>
    dsimp only [cellLed, List.map, List.append, List.nil_append, List.cons_append] at O' ⊢
    refine AW.hide fun QF hQF EF _ => ?_
    have hv := mval_kvs ns k
    rw [hr] at hv
    ((with_reducible refine r_cons ?_); (with_reducible refine r_if ?_); (with_reducible refine t_compare ?_ ?hs); (case hs => exact rfl); (with_reducible refine r_named ?_); (with_reducible refine r_meth PySem.F.plainAttrs_dict PySem.F.slot_dict_get PySem.F.type_dict_get ?_ ?h1 ?h2 ?h3 ?h4); (case h1 => exact rfl); (case h2 => exact rfl); (case h3 => exact rfl); (case h4 => exact rfl); (with_reducible refine r_attr ?_ ?hs); (case hs => with_unfolding_all rfl); (with_reducible refine' r_local (by assumption) ?k1 ?k2 ?_); (case k1 => walk_at "has"); (case k2 => ((try dsimp only); walk_at "has")); (with_reducible refine' gT (by assumption) (by assumption) find_T1 ?k1 ?k2 ?k3 ?k4 ?_); (case k1 => ((try dsimp only); walk_at "has")); (case k2 => ((try dsimp only); walk_at "has")); (case k3 => walk_at "has"); (case k4 => exact fun _ h => nomatch h); (with_reducible refine' And.intro (OfT.dict ?k1) ?_); (case k1 => ((try dsimp only); walk_at "has")); (with_reducible refine p_cons ?_ ?hs); (case hs => exact rfl); (with_reducible refine' r_local (by assumption) ?k1 ?k2 ?_); (case k1 => walk_at "has"); (case k2 => ((try dsimp only); walk_at "has")); (with_reducible refine p_nil ?_); (with_reducible refine' k_dget ?k1 ?k2 ?_); (case k1 => assumption); (case k2 => ((try dsimp only); walk_at "has")); (with_reducible refine' r_store (by assumption) ?k1 ?k2 ?_); (case k1 => walk_at "has"); (case k2 => ((try dsimp only); walk_at "put")); (try dsimp only); (with_reducible refine r_none ?_))
    rw [hv]
    dsimp only [Option.map, Option.getD]
    ((with_reducible refine c_is_nn ?_); (with_reducible refine u_bool ?_); (with_reducible refine ite_tt ?_); (with_reducible refine r_cons ?_); (with_reducible refine r_set_two ?_ ?hs ?hw); (case hs => exact rfl); (case hw => exact rfl))
    refine r_call O' (f := 47) (by walk_at "has") (by walk_at "has") (by rw [hK']; exact kp_47 _) (a_spl ?_)
    ((with_reducible refine p_cons ?_ ?hs); (case hs => exact rfl); (with_reducible refine' r_local (by assumption) ?k1 ?k2 ?_); (case k1 => walk_at "has"); (case k2 => ((try dsimp only); walk_at "has")); (with_reducible refine p_nil ?_))
    refine new_info O' hK' (by omega) fun a d' sa => ?_
    ((with_reducible refine r_attr ?_ ?hs); (case hs => with_unfolding_all rfl); (with_reducible refine' r_local (by assumption) ?k1 ?k2 ?_); (case k1 => walk_at "has"); (case k2 => ((try dsimp only); walk_at "has")); (with_reducible refine' gT (by assumption) (by assumption) find_T1 ?k1 ?k2 ?k3 ?k4 ?_); (case k1 => ((try dsimp only); walk_at "has")); (case k2 => ((try dsimp only); walk_at "has")); (case k3 => walk_at "has"); (case k4 => exact fun _ h => nomatch h); (with_reducible refine' r_local (by assumption) ?k1 ?k2 ?_); (case k1 => walk_at "has"); (case k2 => ((try dsimp only); walk_at "has")))
    refine s_dict (by rw [kvs_length]; omega) ⟨_, fun ep' => .tail (.tail (.tail (.tail (.tail .head)))), fun ep' => ?_⟩
    rw [mstored_new hr]
    ((with_reducible refine' r_store (by assumption) ?k1 ?k2 ?_); (case k1 => walk_at "has"); (case k2 => ((try dsimp only); walk_at "put")); (try dsimp only); (with_reducible refine r_nil ?_); (with_reducible refine r_cons ?_); (with_reducible refine r_return ?_); (with_reducible refine' r_local (by assumption) ?k1 ?k2 ?_); (case k1 => walk_at "has"); (case k2 => ((try dsimp only); walk_at "has")))
    refine hQF _ _ ⟨_, ?_, h ⟨a, d', sa, k, 0, []⟩ rfl rfl rfl ep'⟩
    unfold ledT
    rw [nodesLed_one]
    rw [kvs_one]
    dsimp only [List.map, Nd.inst]
    walk_at "take"
end
theorem off_T {D : Addr} {rd : MV} {p f : Int} {name : Str} (h : ([Str.ofString "_node2info", Str.ofString "_ready_nodes", Str.ofString "_npassedout", Str.ofString "_nfinished"].all fun x => !(x == name)) = true) : ((fsT D rd p f).all fun p => !(p.1 == name)) = true := h
noncomputable def Ins (ns : List Nd) (k : Int) (ns' : List Nd) : Prop := ((∃ r, getN ns k = some r) ∧ ns' = ns) ∨ (getN ns k = none ∧ ∃ r : Nd, r.key = k ∧ r.np = 0 ∧ r.su = [] ∧ ns' = ns ++ [r])
theorem Ins.nodup {ns ns' : List Nd} {k : Int} (h : Ins ns k ns') (nd : (keysN ns).Nodup) : (keysN ns').Nodup := by
  rcases h with ⟨h, rfl⟩ | ⟨h, r, h1, h2, h3, rfl⟩
  · exact nd
  · unfold keysN
    rw [List.map_append, List.nodup_append]
    refine ⟨nd, by simp, ?_⟩
    intro a ha b hb e
    simp at hb
    exact getN_none.mp h (by rw [← h1, ← hb, ← e]; exact ha)
theorem Ins.keys {ns ns' : List Nd} {k q : Int} (h : Ins ns k ns') (hq : q ∈ keysN ns) : q ∈ keysN ns' := by
  rcases h with ⟨h, rfl⟩ | ⟨h, r, h1, h2, h3, rfl⟩
  · exact hq
  · unfold keysN at hq ⊢
    rw [List.map_append]
    exact List.mem_append_left _ hq
noncomputable def bndN (ns : List Nd) (m : Nat) : Prop := ∀ r ∈ ns, r.su.length ≤ m
theorem Ins.bnd {ns ns' : List Nd} {k : Int} {m : Nat} (h : Ins ns k ns') (hb : bndN ns m) : bndN ns' m := by
  rcases h with ⟨h, rfl⟩ | ⟨h, r, h1, h2, h3, rfl⟩
  · exact hb
  · intro q hq
    rcases List.mem_append.mp hq with hq | hq
    · exact hb q hq
    · simp at hq; subst hq; rw [h3]; exact Nat.zero_le _
theorem bnd_np {ns : List Nd} {m : Nat} (hb : bndN ns m) (k : Int) (g : Int → Int) : bndN (upN ns k fun r => { r with np := g r.np }) m := by
  intro q hq
  obtain ⟨r, hr, rfl⟩ := List.mem_map.mp hq
  have := hb r hr
  split <;> exact this
theorem bnd_su {ns : List Nd} {m : Nat} (hb : bndN ns m) (k y : Int) : bndN (upN ns k fun r => { r with su := r.su ++ [y] }) (m + 1) := by
  intro q hq
  obtain ⟨r, hr, rfl⟩ := List.mem_map.mp hq
  have := hb r hr
  split
  · show (r.su ++ [y]).length ≤ _; rw [List.length_append]; simp; exact this
  · omega
noncomputable def addP (ns : List Nd) (k : Int) (ps : List Int) : List Nd := ps.foldl (fun ns q => upN ns q fun r => { r with su := r.su ++ [k] }) ns
theorem addP_succ (ns : List Nd) (k : Int) (ps : List Int) (q : Int) : addP ns k (ps ++ [q]) = upN (addP ns k ps) q fun r => { r with su := r.su ++ [k] } := by
  unfold addP; rw [List.foldl_append]; rfl
theorem addP_keys (k : Int) : ∀ (ps : List Int) (ns : List Nd), keysN (addP ns k ps) = keysN ns
  | [], ns => rfl
  | q :: ps, ns => by
    show keysN (addP (upN ns q _) k ps) = _
    rw [addP_keys k ps, keys_su]
theorem addP_bnd (k : Int) : ∀ (ps : List Int) {ns : List Nd} {m : Nat}, bndN ns m → bndN (addP ns k ps) (m + ps.length)
  | [], ns, m, h => h
  | q :: ps, ns, m, h => by
    have := addP_bnd k ps (bnd_su h q k)
    rw [List.length_cons]
    rw [show m + (ps.length + 1) = m + 1 + ps.length by omega]
    exact this
theorem upN_some {ns : List Nd} {k : Int} {r : Nd} (h : getN ns k = some r) (k' : Int) (f : Nd → Nd) (hf : ∀ r, (f r).key = r.key) : getN (upN ns k' f) k = some (if r.key = k' then f r else r) := by
  unfold getN upN at *
  induction ns with
  | nil => cases h
  | cons q ns ih =>
    rw [List.map_cons, List.find?_cons]
    rw [List.find?_cons] at h
    have e : (if q.key = k' then f q else q).key = q.key := by split; exact hf q; rfl
    rw [e]
    by_cases hq : q.key = k
    · simp only [hq, decide_true] at h ⊢
      cases h
      rw [hq]
    · simp only [hq, decide_false] at h ⊢
      exact ih h
theorem get_ints {ps : List Int} {i : Nat} {y : MV} (h : (ps.map MV.int)[i]? = some y) : ∃ q, ps[i]? = some q ∧ y = .int q := by
  rw [List.getElem?_map] at h
  cases e : ps[i]? with
  | none => rw [e] at h; cases h
  | some q => rw [e] at h; cases h; exact ⟨q, rfl, rfl⟩
section
variable {C : Cx} {σ : MS} {s : Shared} {E : Value → Shared → Prop} {names : List (Str × NameKind)} {cells : List (Str × Addr)}
  {x d D : Addr} {ep : Nat} {rd : MV} {p f : Int} {ns : List Nd} {rest : List (Addr × MO)} {loc : Loc}
theorem info_any (O : C.Ok GL names cells) (hK : C.K = KK C.w) (hlv : 2 ≤ C.lv) (hS : (D == sysModules) = false) {k : Int} (hz : ns.length ≤ 100) {Q : MV → MS → Prop}
    (h : ∀ ns' r, Ins ns k ns' → getN ns' k = some r → ∀ ep', Q (.ref r.a) ⟨loc, ledT x d D ep' rd p f ns' rest⟩) : CALLR C 87 [.ref x, .int k] Q E ⟨loc, ledT x d D ep rd p f ns rest⟩ := by
  cases e : getN ns k with
  | some r => exact info_old O hK (by omega) hS e (h ns r (.inl ⟨⟨r, e⟩, rfl⟩) e ep)
  | none =>
    refine info_new O hK hlv hS e hz fun r h1 h2 h3 ep' => ?_
    have hi : Ins ns k (ns ++ [r]) := .inr ⟨e, r, h1, h2, h3, rfl⟩
    refine h _ r hi ?_ ep'
    unfold getN at e ⊢
    rw [List.find?_append, e]
    simp [h1]
theorem add_any (O : C.Ok GL names cells) (hh : C.A.handled = none) (hK : C.K = KK C.w) (hlv : 3 ≤ C.lv) (hS : (D == sysModules) = false) {k : Int} {ps : List Int} (hz : ns.length ≤ 100) (hps : ps.length ≤ 3) (hk : ∀ q ∈ ps, q ∈ keysN ns) (nd : (keysN ns).Nodup) (hb : bndN ns 1000) {Q : MV → MS → Prop}
    (h : ∀ ns', Ins ns k ns' → ∀ ep' t, Q .none ⟨loc, ledT x d D ep' .none p f (addP (upN ns' k fun r => { r with np := r.np + ps.length }) k ps) ((t, .tup (ps.map .int)) :: rest)⟩) : CALLR C 94 ([.ref x, .int k] ++ ps.map .int) Q E ⟨loc, ledT x d D ep .none p f ns rest⟩ := by
  refine CALLR.keep (CALLR.noexc (call_V O (ps := [Str.ofString "self", Str.ofString "node"]) (pv := Str.ofString "predecessors") (args := [.ref x, .int k]) (rest := ps.map .int) (more := [Str.ofString "nodeinfo", Str.ofString "pred", Str.ofString "pred_info"]) (morec := []) (fun t => [(Str.ofString "self", some (.ref x)), (Str.ofString "node", some (.int k)), (Str.ofString "predecessors", some (.ref t))])
    (by omega) (by rw [hK]; exact rfl) (by rw [hK]; exact rfl) rfl (by rw [List.length_map]; omega) (fun args' rest' ia ir => by obtain ⟨v, w, rfl, i, j⟩ := ia.two; have hl : rest'.length ≤ 3 := (by rw [ir.length, List.length_map]; exact hps); rcases rest' with _ | ⟨a, _ | ⟨b, _ | ⟨c, _ | ⟨e, r⟩⟩⟩⟩ <;> first | exact rfl | exact absurd hl (by simp only [List.length_cons]; omega))
    (fun t => .loc (by decide +kernel) (.loc (by decide +kernel) (.loc (by decide +kernel) .nil))) (by decide +kernel) (by decide +kernel) (by decide +kernel) (by decide +kernel) rfl rfl rfl ?_))
  intro t C' as has O' hp hw hK' hlv' hh'
  rw [hK, ← hw] at hK'
  rw [hh] at hh'
  cases as with
  | cons _ _ => cases has
  | nil =>
    dsimp only [cellLed, List.map, List.append, List.nil_append, List.cons_append] at O' ⊢
    refine AW.hide fun QF hQF EF _ => ?_
    ((with_reducible refine r_cons ?_); (with_reducible refine r_if ?_); (with_reducible refine t_compare ?_ ?hs); (case hs => exact rfl); (with_reducible refine r_attr ?_ ?hs); (case hs => with_unfolding_all rfl); (with_reducible refine' r_local (by assumption) ?k1 ?k2 ?_); (case k1 => walk_at "has"); (case k2 => ((try dsimp only); walk_at "has")); (with_reducible refine' gT (by assumption) (by assumption) find_T2 ?k1 ?k2 ?k3 ?k4 ?_); (case k1 => ((try dsimp only); walk_at "has")); (case k2 => ((try dsimp only); walk_at "has")); (case k3 => walk_at "has"); (case k4 => exact fun _ h => nomatch h); (with_reducible refine r_none ?_); (with_reducible refine c_isnot_nn ?_); (with_reducible refine u_bool ?_); (with_reducible refine ite_ff ?_); (with_reducible refine r_nil ?_); (with_reducible refine r_cons ?_); (with_reducible refine r_assign ?_ ?hs); (case hs => exact rfl); (with_reducible refine r_mcall (c := 144) (f := 87) (by assumption) ?h1 ?h2 ?h3 ?h4 ?_ ?h5 ?h6 ?h7 ?h8); (case h1 => (rw [‹Cx.K _ = _›]; exact cls_T _)); (case h2 => (rw [‹Cx.K _ = _›]; exact m_info _)); (case h3 => (rw [‹Cx.K _ = _›]; exact isf_87 _)); (case h4 => (rw [‹Cx.K _ = _›]; exact kp_87 _)); (case h5 => exact rfl); (case h6 => exact rfl); (case h7 => exact rfl); (case h8 => exact rfl); (with_reducible refine' r_local (by assumption) ?k1 ?k2 ?_); (case k1 => walk_at "has"); (case k2 => ((try dsimp only); walk_at "has")); (with_reducible refine' ⟨_, _, _, _, rfl, ?k1, ?k2, ?k3, ?_⟩); (case k1 => ((try dsimp only); walk_at "has")); (case k2 => ((try dsimp only); walk_at "has")); (case k3 => exact off_T (by decide +kernel)); (with_reducible refine p_cons ?_ ?hs); (case hs => exact rfl); (with_reducible refine' r_local (by assumption) ?k1 ?k2 ?_); (case k1 => walk_at "has"); (case k2 => ((try dsimp only); walk_at "has")); (with_reducible refine p_nil ?_))
    refine CALLR.pre (l' := ledT x d D ep .none p f ns ((t, .tup (ps.map .int)) :: rest)) (by walk_at "take") (info_any O' hK' (by omega) hS hz fun ns' r hi hr ep' => ?_)
    have hm := getN_mem hr
    have h1 := has_inst hm
    have h2 := has_attrs hm
    have h3 := upd_np hr (hi.nodup nd) (fun n => n + ((ps.map MV.int).length : Nat))
    ((with_reducible refine' r_store (by assumption) ?k1 ?k2 ?_); (case k1 => walk_at "has"); (case k2 => ((try dsimp only); walk_at "put")); (try dsimp only); (with_reducible refine r_cons ?_); (with_reducible refine r_aug_attr ?_); (with_reducible refine' r_local (by assumption) ?k1 ?k2 ?_); (case k1 => walk_at "has"); (case k2 => ((try dsimp only); walk_at "has")); (with_reducible refine' gN (by assumption) (by assumption) slot_np ?k1 ?k2 ?k3 ?k4 ?_); (case k1 => ((try dsimp only); walk_at "has")); (case k2 => ((try dsimp only); walk_at "has")); (case k3 => exact rfl); (case k4 => exact fun _ h => nomatch h); (with_reducible refine' r_call_bi (by assumption) ?k1 ?k2 ?_ ?hn); (case k1 => walk_at "has"); (case k2 => walk_at "has"); (case hn => exact rfl); (with_reducible refine p_cons ?_ ?hs); (case hs => exact rfl); (with_reducible refine' r_local (by assumption) ?k1 ?k2 ?_); (case k1 => walk_at "has"); (case k2 => ((try dsimp only); walk_at "has")); (with_reducible refine p_nil ?_); (with_reducible refine' k_len_tup ?k1 ?k2 ?_); (case k1 => ((try dsimp only); walk_at "has")); (case k2 => walk_at "len"); (with_reducible refine n_add ?_); (with_reducible refine' sN (by assumption) (by assumption) slot_np ?k0 ?k1 ?k2 ?k3 ?_); (case k0 => decide); (case k2 => ((try dsimp only); walk_at "upd")); (case k1 => exact rfl); (case k3 => ((try dsimp only); walk_at "has")); (try dsimp only [slotPut, List.replicate, List.set, List.append, List.length, List.nil_append, List.cons_append, Nat.reduceAdd, Nat.reduceSub]); (with_reducible refine r_cons ?_); (with_reducible refine r_for ?_ ?hs); (case hs => exact fun _ => rfl); (with_reducible refine' r_local (by assumption) ?k1 ?k2 ?_); (case k1 => walk_at "has"); (case k2 => ((try dsimp only); walk_at "has")))
    rw [← kvs_np ns' k (fun n => n + ((ps.map MV.int).length : Nat))]
    rw [List.length_map] at *
    generalize e1 : (upN ns' k fun r => { r with np := r.np + (ps.length : Int) }) = n1 at *
    have k1 : keysN n1 = keysN ns' := by rw [← e1]; exact keys_np ns' k (fun n => n + ps.length)
    refine f_loop hh' (iter_tup (xs := ps.map .int) (by walk_at "has")) (fun i lo led => ∃ a b, lo = [(Str.ofString "self", some (.ref x)), (Str.ofString "node", some (.int k)), (Str.ofString "predecessors", some (.ref t)), (Str.ofString "nodeinfo", some (.ref r.a)), (Str.ofString "pred", a), (Str.ofString "pred_info", b)] ∧ led = ledT x d D ep' .none p f (addP n1 k (ps.take i)) ((t, .tup (ps.map .int)) :: rest)) ⟨_, _, rfl, rfl⟩ ?_ ?_ ?_
    · rintro i lo led it o ⟨a, b, rfl, rfl⟩
      show Has t (MO.tup (ps.map MV.int)) _
      walk_at "has"
    · rintro i y it o lo led ⟨a, b, rfl, rfl⟩ hy QQ EE hn _ _ _
      obtain ⟨q, hq, rfl⟩ := get_ints hy
      have hqm : q ∈ ps := List.mem_of_getElem? hq
      obtain ⟨u, hu⟩ := getN_some (ns := addP n1 k (ps.take i)) (k := q) (by rw [addP_keys, k1]; exact hi.keys (hk q hqm))
      have nd' : (keysN (addP n1 k (ps.take i))).Nodup := by rw [addP_keys, k1]; exact hi.nodup nd
      have g1 := has_inst (getN_mem hu)
      have g2 := has_attrs (getN_mem hu)
      have g3 := upd_su hu nd' k
      have g4 := has_su (getN_mem hu)
      have hlen : u.su.length ≤ 1003 := by
        have := addP_bnd k (ps.take i) (m := 1000) (ns := n1) (by rw [← e1]; exact bnd_np (hi.bnd hb) k (fun n => n + ps.length)) u (getN_mem hu)
        rw [List.length_take] at this
        omega
      ((with_reducible refine a_name ?_); (with_reducible refine' r_store (by assumption) ?k1 ?k2 ?_); (case k1 => walk_at "has"); (case k2 => ((try dsimp only); walk_at "put")); (try dsimp only); (with_reducible refine r_cons ?_); (with_reducible refine r_assign ?_ ?hs); (case hs => exact rfl); (with_reducible refine r_mcall (c := 144) (f := 87) (by assumption) ?h1 ?h2 ?h3 ?h4 ?_ ?h5 ?h6 ?h7 ?h8); (case h1 => (rw [‹Cx.K _ = _›]; exact cls_T _)); (case h2 => (rw [‹Cx.K _ = _›]; exact m_info _)); (case h3 => (rw [‹Cx.K _ = _›]; exact isf_87 _)); (case h4 => (rw [‹Cx.K _ = _›]; exact kp_87 _)); (case h5 => exact rfl); (case h6 => exact rfl); (case h7 => exact rfl); (case h8 => exact rfl); (with_reducible refine' r_local (by assumption) ?k1 ?k2 ?_); (case k1 => walk_at "has"); (case k2 => ((try dsimp only); walk_at "has")); (with_reducible refine' ⟨_, _, _, _, rfl, ?k1, ?k2, ?k3, ?_⟩); (case k1 => ((try dsimp only); walk_at "has")); (case k2 => ((try dsimp only); walk_at "has")); (case k3 => exact off_T (by decide +kernel)); (with_reducible refine p_cons ?_ ?hs); (case hs => exact rfl); (with_reducible refine' r_local (by assumption) ?k1 ?k2 ?_); (case k1 => walk_at "has"); (case k2 => ((try dsimp only); walk_at "has")); (with_reducible refine p_nil ?_))
      refine CALLR.pre (l' := ledT x d D ep' .none p f (addP n1 k (ps.take i)) ((it, o) :: (t, .tup (ps.map .int)) :: rest)) (by walk_at "take") (info_old O' hK' (by omega) hS hu ?_)
      ((with_reducible refine' r_store (by assumption) ?k1 ?k2 ?_); (case k1 => walk_at "has"); (case k2 => ((try dsimp only); walk_at "put")); (try dsimp only); (with_reducible refine r_cons ?_); (with_reducible refine r_expr (by assumption) ?_ ?hs); (case hs => exact rfl); (with_reducible refine r_meth PySem.F.plainAttrs_list PySem.F.slot_list_append PySem.F.type_list_append ?_ ?h1 ?h2 ?h3 ?h4); (case h1 => exact rfl); (case h2 => exact rfl); (case h3 => exact rfl); (case h4 => exact rfl); (with_reducible refine r_attr ?_ ?hs); (case hs => with_unfolding_all rfl); (with_reducible refine' r_local (by assumption) ?k1 ?k2 ?_); (case k1 => walk_at "has"); (case k2 => ((try dsimp only); walk_at "has")); (with_reducible refine' gN (by assumption) (by assumption) slot_succ ?k1 ?k2 ?k3 ?k4 ?_); (case k1 => ((try dsimp only); walk_at "has")); (case k2 => ((try dsimp only); walk_at "has")); (case k3 => exact rfl); (case k4 => exact fun _ h => nomatch h); (with_reducible refine' And.intro (OfT.list ?k1) ?_); (case k1 => ((try dsimp only); walk_at "has")); (with_reducible refine p_cons ?_ ?hs); (case hs => exact rfl); (with_reducible refine' r_local (by assumption) ?k1 ?k2 ?_); (case k1 => walk_at "has"); (case k2 => ((try dsimp only); walk_at "has")); (with_reducible refine p_nil ?_); (with_reducible refine' k_append ?k1 ?k2 ?_); (case k1 => ((try dsimp only); walk_at "upd")); (case k2 => walk_at "len"); (try dsimp only); (with_reducible refine r_nil ?_))
      have e2 : addP n1 k (ps.take (i + 1)) = upN (addP n1 k (ps.take i)) q fun r => { r with su := r.su ++ [k] } := by
        rw [List.take_add_one, hq]; exact addP_succ n1 k (ps.take i) q
      refine (hn _ ⟨_, ?_, _, _, rfl, rfl⟩).1
      unfold ledT
      rw [e2, kvs_su]
      dsimp only
      walk_at "take"
    · rintro lo led ⟨a, b, rfl, rfl⟩
      have e3 : (tupSrc t (ps.map .int)).items.length = ps.length := List.length_map ..
      rw [e3, List.take_length]
      ((with_reducible refine r_nil ?_); (with_reducible refine r_nil ?_))
      exact hQF _ _ ⟨_, .all, e1 ▸ h ns' hi ep' t⟩
end
theorem all_fst {fs : List (Str × MV)} {name : Str} (h : ((fs.map (·.1)).all fun x => !(x == name)) = true) : (fs.all fun p => !(p.1 == name)) = true := by rw [List.all_map] at h; exact h
section
variable {C : Cx} {σ : MS} {s : Shared} {E : Value → Shared → Prop} {gl : List (Str × MV)} {names : List (Str × NameKind)} {cells : List (Str × Addr)}
theorem Cx.Ok.sys (O : C.Ok gl names cells) : ∀ s, Rel C σ s → (s.heap.objs.size == sysModules) = false := fun s R => by
  obtain ⟨mg, mb, ⟨o, es, ep, h1, r⟩, _⟩ := O.glob
  have := Heap.lt_size (R.keep _ _ h1)
  rw [beq_eq_false_iff_ne]
  intro e
  rw [e] at this
  exact absurd this (by decide)
theorem new_sorter (O : C.Ok GL names cells) (hK : C.K = KK C.w) (hlv : 1 ≤ C.lv) {Q : MV → MS → Prop}
    (h : ∀ x d D, (D == sysModules) = false → Q (.ref x) ⟨σ.loc, ledT x d D 0 .none 0 0 [] σ.led⟩) : CALLR C 144 [] Q E σ := by
  refine CALLR.keep (CALLR.noexc (call_new O (by rw [hK]; exact makes_T _) (by rw [hK]; exact init_T _) (by rw [hK]; exact fn_80 _) ?_))
  intro x d A vs' s ia hfr hd hu hh R
  refine code_call O hfr hd hu hlv (ps := [Str.ofString "self", Str.ofString "graph"]) (more := [Str.ofString "node", Str.ofString "predecessors"]) (morec := []) (args := [.ref x, .none]) (led₁ := (x, .inst 144 d []) :: (d, .attrs []) :: σ.led) (by rw [hK]; exact rfl) (by rw [hK]; exact rfl) R ?hb (.loc (by decide +kernel) (.loc (by decide +kernel) .nil)) (by decide +kernel) (by decide +kernel) (by decide +kernel) (by decide +kernel) rfl rfl rfl ?_
  case hb =>
    cases ia
    exact kp_binds (binds := [(Str.ofString "self", .ref x), (Str.ofString "graph", .none)]) (R.kin O) (fun S => by rw [hK]; rfl) _ _ _ _ ⟨[.ref x, .none], rfl, .cons (Is.ref x) (.cons Is.none .nil), R⟩
  intro C' as has O' hp hw hK' hlv' hh' _
  rw [hK, ← hw] at hK'
  cases as with
  | cons _ _ => cases has
  | nil =>
    dsimp only [cellLed, List.map, List.append, List.nil_append, List.cons_append] at O' ⊢
    refine AW.hide fun QF hQF EF _ => ?_
    ((with_reducible refine r_cons ?_); (with_reducible refine r_set_attr ?_ ?hs); (case hs => exact rfl))
    refine r_dict0 (fun D hD => ?_) O'.sys
    ((with_reducible refine' r_local (by assumption) ?k1 ?k2 ?_); (case k1 => walk_at "has"); (case k2 => ((try dsimp only); walk_at "has")))
    ((with_reducible refine' nT (by assumption) (by assumption) take_T1 ?k1 ?k2 ?k3 ?k4 ?_); (case k1 => ((try dsimp only); walk_at "has")); (case k2 => ((try dsimp only); walk_at "upd")); (case k3 => exact all_fst (by dsimp only [List.map]; decide +kernel)); (case k4 => exact Nat.le_of_ble_eq_true rfl); (try dsimp only [List.nil_append, List.cons_append]))
    ((with_reducible refine r_cons ?_); (with_reducible refine r_set_attr ?_ ?hs); (case hs => exact rfl); (with_reducible refine r_none ?_); (with_reducible refine' r_local (by assumption) ?k1 ?k2 ?_); (case k1 => walk_at "has"); (case k2 => ((try dsimp only); walk_at "has")))
    ((with_reducible refine' nT (by assumption) (by assumption) take_T2 ?k1 ?k2 ?k3 ?k4 ?_); (case k1 => ((try dsimp only); walk_at "has")); (case k2 => ((try dsimp only); walk_at "upd")); (case k3 => exact all_fst (by dsimp only [List.map]; decide +kernel)); (case k4 => exact Nat.le_of_ble_eq_true rfl); (try dsimp only [List.nil_append, List.cons_append]))
    ((with_reducible refine r_cons ?_); (with_reducible refine r_set_attr ?_ ?hs); (case hs => exact rfl); (with_reducible refine r_int ?_); (with_reducible refine' r_local (by assumption) ?k1 ?k2 ?_); (case k1 => walk_at "has"); (case k2 => ((try dsimp only); walk_at "has")))
    ((with_reducible refine' nT (by assumption) (by assumption) take_T3 ?k1 ?k2 ?k3 ?k4 ?_); (case k1 => ((try dsimp only); walk_at "has")); (case k2 => ((try dsimp only); walk_at "upd")); (case k3 => exact all_fst (by dsimp only [List.map]; decide +kernel)); (case k4 => exact Nat.le_of_ble_eq_true rfl); (try dsimp only [List.nil_append, List.cons_append]))
    ((with_reducible refine r_cons ?_); (with_reducible refine r_set_attr ?_ ?hs); (case hs => exact rfl); (with_reducible refine r_int ?_); (with_reducible refine' r_local (by assumption) ?k1 ?k2 ?_); (case k1 => walk_at "has"); (case k2 => ((try dsimp only); walk_at "has")))
    ((with_reducible refine' nT (by assumption) (by assumption) take_T4 ?k1 ?k2 ?k3 ?k4 ?_); (case k1 => ((try dsimp only); walk_at "has")); (case k2 => ((try dsimp only); walk_at "upd")); (case k3 => exact all_fst (by dsimp only [List.map]; decide +kernel)); (case k4 => exact Nat.le_of_ble_eq_true rfl); (try dsimp only [List.nil_append, List.cons_append]))
    ((with_reducible refine r_cons ?_); (with_reducible refine r_if ?_); (with_reducible refine t_compare ?_ ?hs); (case hs => exact rfl); (with_reducible refine' r_local (by assumption) ?k1 ?k2 ?_); (case k1 => walk_at "has"); (case k2 => ((try dsimp only); walk_at "has")); (with_reducible refine r_none ?_); (with_reducible refine c_isnot_nn ?_); (with_reducible refine u_bool ?_); (with_reducible refine ite_ff ?_); (with_reducible refine r_nil ?_); (with_reducible refine r_nil ?_))
    refine hQF _ _ ⟨rfl, _, ?_, h x d D hD⟩
    dsimp only [ledT, kvsN, nodesLed, List.map_nil, List.nil_append]
    change Take ((x, MO.inst 144 d []) :: (d, .attrs (fsT D .none 0 0)) :: (D, MO.dict [] 0) :: σ.led) _
    walk_at "take"
end
noncomputable abbrev ledR (x d D rl : Addr) (ep : Nat) (rdy : List Int) (p f : Int) (ns : List Nd) (rest : List (Addr × MO)) : List (Addr × MO) := (rl, .list (rdy.map .int)) :: ledT x d D ep (.ref rl) p f ns rest
noncomputable def outN (ns : List Nd) (ks : List Int) : List Nd := ks.foldl (fun ns q => upN ns q fun r => { r with np := -1 }) ns
theorem outN_succ (ns : List Nd) (ks : List Int) (q : Int) : outN ns (ks ++ [q]) = upN (outN ns ks) q fun r => { r with np := -1 } := by
  unfold outN; rw [List.foldl_append]; rfl
theorem outN_keys : ∀ (ks : List Int) (ns : List Nd), keysN (outN ns ks) = keysN ns
  | [], ns => rfl
  | q :: ks, ns => by
    show keysN (outN (upN ns q _) ks) = _
    rw [outN_keys ks]; exact keys_np ns q (fun _ => -1)
theorem mval_get {ns : List Nd} {k : Int} {r : Nd} (h : getN ns k = some r) : mval (kvsN ns) k = some (.ref r.a) := by rw [mval_kvs, h]; rfl
section
variable {C : Cx} {σ : MS} {s : Shared} {E : Value → Shared → Prop} {names : List (Str × NameKind)} {cells : List (Str × Addr)}
  {x d D rl : Addr} {ep : Nat} {rdy : List Int} {p f : Int} {ns : List Nd} {rest : List (Addr × MO)} {loc : Loc}
theorem ready (O : C.Ok GL names cells) (hh : C.A.handled = none) (hK : C.K = KK C.w) (hlv : 1 ≤ C.lv) (hz : rdy.length ≤ 1000) (hk : ∀ q ∈ rdy, q ∈ keysN ns) (nd : (keysN ns).Nodup) {Q : MV → MS → Prop}
    (h : ∀ t, Q (.ref t) ⟨loc, ledR x d D rl ep [] (p + rdy.length) f (outN ns rdy) ((t, .tup (rdy.map .int)) :: rest)⟩) : CALLR C 106 [.ref x] Q E ⟨loc, ledR x d D rl ep rdy p f ns rest⟩ := by
  refine CALLR.keep (CALLR.noexc (call_K O (ps := [Str.ofString "self"]) (more := [Str.ofString "result", Str.ofString "n2i", Str.ofString "node"]) (morec := []) (by omega) (by rw [hK]; exact rfl) (by rw [hK]; exact rfl) (fun args' s ia _ => by obtain ⟨v, rfl, i⟩ := ia.one; exact BindsTo.of_eq rfl)
    (.loc (by decide +kernel) .nil) (by decide +kernel) (by decide +kernel) (by decide +kernel) (by decide +kernel) rfl rfl rfl ?_))
  intro C' as has O' hp hw hK' hlv' hh'
  rw [hK, ← hw] at hK'
  rw [hh] at hh'
  cases as with
  | cons _ _ => cases has
  | nil =>
    dsimp only [cellLed, List.map, List.append, List.nil_append, List.cons_append] at O' ⊢
    refine AW.hide fun QF hQF EF _ => ?_
    ((with_reducible refine r_cons ?_); (with_reducible refine r_if ?_); (with_reducible refine t_compare ?_ ?hs); (case hs => exact rfl); (with_reducible refine r_attr ?_ ?hs); (case hs => with_unfolding_all rfl); (with_reducible refine' r_local (by assumption) ?k1 ?k2 ?_); (case k1 => walk_at "has"); (case k2 => ((try dsimp only); walk_at "has")); (with_reducible refine' gT (by assumption) (by assumption) find_T2 ?k1 ?k2 ?k3 ?k4 ?_); (case k1 => ((try dsimp only); walk_at "has")); (case k2 => ((try dsimp only); walk_at "has")); (case k3 => walk_at "has"); (case k4 => exact fun _ h => nomatch h); (with_reducible refine r_none ?_); (with_reducible refine c_is_ref ?_); (with_reducible refine u_bool ?_); (with_reducible refine ite_ff ?_); (with_reducible refine r_nil ?_); (with_reducible refine r_cons ?_); (with_reducible refine r_assign ?_ ?hs); (case hs => exact rfl); (with_reducible refine' r_call_ty (by assumption) ?k1 ?k2 ?_ ?hn); (case k1 => walk_at "has"); (case k2 => walk_at "has"); (case hn => exact rfl); (with_reducible refine p_cons ?_ ?hs); (case hs => exact rfl); (with_reducible refine r_attr ?_ ?hs); (case hs => with_unfolding_all rfl); (with_reducible refine' r_local (by assumption) ?k1 ?k2 ?_); (case k1 => walk_at "has"); (case k2 => ((try dsimp only); walk_at "has")); (with_reducible refine' gT (by assumption) (by assumption) find_T2 ?k1 ?k2 ?k3 ?k4 ?_); (case k1 => ((try dsimp only); walk_at "has")); (case k2 => ((try dsimp only); walk_at "has")); (case k3 => walk_at "has"); (case k4 => exact fun _ h => nomatch h); (with_reducible refine p_nil ?_); (with_reducible refine' k_tuple_list ?k1 ?k2 ?_); (case k1 => ((try dsimp only); walk_at "has")); (case k2 => walk_at "len"); intro _; (try dsimp only); (with_reducible refine' r_store (by assumption) ?k1 ?k2 ?_); (case k1 => walk_at "has"); (case k2 => ((try dsimp only); walk_at "put")); (try dsimp only); (with_reducible refine r_cons ?_); (with_reducible refine r_assign ?_ ?hs); (case hs => exact rfl); (with_reducible refine r_attr ?_ ?hs); (case hs => with_unfolding_all rfl); (with_reducible refine' r_local (by assumption) ?k1 ?k2 ?_); (case k1 => walk_at "has"); (case k2 => ((try dsimp only); walk_at "has")); (with_reducible refine' gT (by assumption) (by assumption) find_T1 ?k1 ?k2 ?k3 ?k4 ?_); (case k1 => ((try dsimp only); walk_at "has")); (case k2 => ((try dsimp only); walk_at "has")); (case k3 => walk_at "has"); (case k4 => exact fun _ h => nomatch h); (with_reducible refine' r_store (by assumption) ?k1 ?k2 ?_); (case k1 => walk_at "has"); (case k2 => ((try dsimp only); walk_at "put")); (try dsimp only); (with_reducible refine r_cons ?_); (with_reducible refine r_for ?_ ?hs); (case hs => exact fun _ => rfl); (with_reducible refine' r_local (by assumption) ?k1 ?k2 ?_); (case k1 => walk_at "has"); (case k2 => ((try dsimp only); walk_at "has")))
    rename_i t
    refine f_loop hh' (iter_tup (xs := rdy.map .int) (by walk_at "has")) (fun i lo led => ∃ a, lo = [(Str.ofString "self", some (.ref x)), (Str.ofString "result", some (.ref t)), (Str.ofString "n2i", some (.ref D)), (Str.ofString "node", a)] ∧ led = (t, .tup (rdy.map .int)) :: ledR x d D rl ep rdy p f (outN ns (rdy.take i)) rest) ⟨_, rfl, rfl⟩ ?_ ?_ ?_
    · rintro i lo led it o ⟨a, rfl, rfl⟩
      show Has t (MO.tup (rdy.map MV.int)) _
      walk_at "has"
    · rintro i y it o lo led ⟨a, rfl, rfl⟩ hy QQ EE hn _ _ _
      obtain ⟨q, hq, rfl⟩ := get_ints hy
      have hqm : q ∈ rdy := List.mem_of_getElem? hq
      obtain ⟨u, hu⟩ := getN_some (ns := outN ns (rdy.take i)) (k := q) (by rw [outN_keys]; exact hk q hqm)
      have nd' : (keysN (outN ns (rdy.take i))).Nodup := by rw [outN_keys]; exact nd
      have g1 := has_inst (getN_mem hu)
      have g2 := has_attrs (getN_mem hu)
      have g3 := upd_np hu nd' (fun _ => -1)
      have g4 := mval_get hu
      ((with_reducible refine a_name ?_); (with_reducible refine' r_store (by assumption) ?k1 ?k2 ?_); (case k1 => walk_at "has"); (case k2 => ((try dsimp only); walk_at "put")); (try dsimp only); (with_reducible refine r_cons ?_); (with_reducible refine r_set_attr ?_ ?hs); (case hs => exact rfl); (with_reducible refine' r_global (by assumption) ?k1 ?k2 ?_); (case k1 => walk_at "has"); (case k2 => walk_at "has"); (with_reducible refine r_subs ?_); (with_reducible refine' r_local (by assumption) ?k1 ?k2 ?_); (case k1 => walk_at "has"); (case k2 => ((try dsimp only); walk_at "has")); (with_reducible refine' r_local (by assumption) ?k1 ?k2 ?_); (case k1 => walk_at "has"); (case k2 => ((try dsimp only); walk_at "has")); (with_reducible refine' i_dict ?k0 ?k1 ?_); (case k0 => ((try dsimp only); walk_at "has")); (case k1 => assumption); (with_reducible refine' sN (by assumption) (by assumption) slot_np ?k0 ?k1 ?k2 ?k3 ?_); (case k0 => decide); (case k2 => ((try dsimp only); walk_at "upd")); (case k1 => exact rfl); (case k3 => ((try dsimp only); walk_at "has")); (try dsimp only [slotPut, List.replicate, List.set, List.append, List.length, List.nil_append, List.cons_append, Nat.reduceAdd, Nat.reduceSub]); (with_reducible refine r_nil ?_))
      have e2 : outN ns (rdy.take (i + 1)) = upN (outN ns (rdy.take i)) q fun r => { r with np := -1 } := by
        rw [List.take_add_one, hq]; exact outN_succ ns (rdy.take i) q
      refine (hn _ ⟨_, ?_, _, rfl, rfl⟩).1
      unfold ledR ledT
      rw [e2]
      rw [kvs_np (outN ns (rdy.take i)) q (fun _ => -1)]
      dsimp only
      walk_at "take"
    · rintro lo led ⟨a, rfl, rfl⟩
      have e3 : (tupSrc t (rdy.map .int)).items.length = rdy.length := List.length_map ..
      rw [e3, List.take_length]
      ((with_reducible refine r_nil ?_); (with_reducible refine r_cons ?_); (with_reducible refine r_expr (by assumption) ?_ ?hs); (case hs => exact rfl); (with_reducible refine r_meth PySem.F.plainAttrs_list PySem.F.slot_list_clear PySem.F.type_list_clear ?_ ?h1 ?h2 ?h3 ?h4); (case h1 => exact rfl); (case h2 => exact rfl); (case h3 => exact rfl); (case h4 => exact rfl); (with_reducible refine r_attr ?_ ?hs); (case hs => with_unfolding_all rfl); (with_reducible refine' r_local (by assumption) ?k1 ?k2 ?_); (case k1 => walk_at "has"); (case k2 => ((try dsimp only); walk_at "has")); (with_reducible refine' gT (by assumption) (by assumption) find_T2 ?k1 ?k2 ?k3 ?k4 ?_); (case k1 => ((try dsimp only); walk_at "has")); (case k2 => ((try dsimp only); walk_at "has")); (case k3 => walk_at "has"); (case k4 => exact fun _ h => nomatch h); (with_reducible refine' And.intro (OfT.list ?k1) ?_); (case k1 => ((try dsimp only); walk_at "has")); (with_reducible refine p_nil ?_); (with_reducible refine' k_clear ?k1 ?k2 ?_); (case k1 => ((try dsimp only); walk_at "upd")); (case k2 => walk_at "len"); (try dsimp only); (with_reducible refine r_cons ?_); (with_reducible refine r_aug_attr ?_); (with_reducible refine' r_local (by assumption) ?k1 ?k2 ?_); (case k1 => walk_at "has"); (case k2 => ((try dsimp only); walk_at "has")); (with_reducible refine' gT (by assumption) (by assumption) find_T3 ?k1 ?k2 ?k3 ?k4 ?_); (case k1 => ((try dsimp only); walk_at "has")); (case k2 => ((try dsimp only); walk_at "has")); (case k3 => walk_at "has"); (case k4 => exact fun _ h => nomatch h); (with_reducible refine' r_call_bi (by assumption) ?k1 ?k2 ?_ ?hn); (case k1 => walk_at "has"); (case k2 => walk_at "has"); (case hn => exact rfl); (with_reducible refine p_cons ?_ ?hs); (case hs => exact rfl); (with_reducible refine' r_local (by assumption) ?k1 ?k2 ?_); (case k1 => walk_at "has"); (case k2 => ((try dsimp only); walk_at "has")); (with_reducible refine p_nil ?_); (with_reducible refine' k_len_tup ?k1 ?k2 ?_); (case k1 => ((try dsimp only); walk_at "has")); (case k2 => walk_at "len"); (with_reducible refine n_add ?_); (with_reducible refine' sT (by assumption) (by assumption) take_T3 ?k1 ?k2 ?k3 ?k4 ?_); (case k1 => ((try dsimp only); walk_at "has")); (case k2 => ((try dsimp only); walk_at "upd")); (case k3 => walk_at "fput"); (case k4 => exact Nat.le_of_ble_eq_true rfl); (try dsimp only); (with_reducible refine r_cons ?_); (with_reducible refine r_return ?_); (with_reducible refine' r_local (by assumption) ?k1 ?k2 ?_); (case k1 => walk_at "has"); (case k2 => ((try dsimp only); walk_at "has")))
      rw [List.length_map]
      refine hQF _ _ ⟨_, ?_, h t⟩
      unfold ledR ledT
      rw [List.map_nil]
      dsimp only
      walk_at "take"
end
section
variable {C : Cx} {σ : MS} {s : Shared} {a : Addr}
theorem Off.take {l' : List (Addr × MO)} (h : Off C σ a) (t : Take l' σ.led) : Off C ⟨σ.loc, l'⟩ a := by
  obtain ⟨r, e⟩ := t.sub
  exact ⟨h.new, h.here, h.outs, fun p hp => h.led p (e.mem_iff.mpr (List.mem_append_left _ hp))⟩
theorem ExcAt.take {cls : Value} {tr : Bool} {l' : List (Addr × MO)} (h : ExcAt C σ a cls tr s) (t : Take l' σ.led) : ExcAt C ⟨σ.loc, l'⟩ a cls tr s := by
  refine ⟨h.rel.take t, h.off.take t, ?_⟩
  obtain ⟨oe, vs, h1, h2, h3, h4⟩ := h.at_
  refine ⟨oe, vs, h1, h2, h3, ?_⟩
  rcases h4 with h4 | ⟨T, oT, ts, x1, x2, x3, x4⟩
  · exact .inl h4
  · exact .inr ⟨T, oT, ts, x1, x2, x3.take t, x4⟩
theorem EXC.keep {X : Addr → Value → MS → Prop} {e : Value} (h : EXC C (fun a cls σ' => ∃ l', Take l' σ'.led ∧ X a cls ⟨σ'.loc, l'⟩) e s) : EXC C X e s := by
  obtain ⟨a, cls, tr, σ', rfl, x, l', t, hx⟩ := h
  exact ⟨a, cls, tr, _, rfl, x.take t, hx⟩
theorem CALLR.keepX {f : Addr} {vs : List MV} {Q : MV → MS → Prop} {X : Addr → Value → MS → Prop} (h : CALLR C f vs (fun b σ' => ∃ l', Take l' σ'.led ∧ Q b ⟨σ'.loc, l'⟩) (EXC C fun a cls σ' => ∃ l', Take l' σ'.led ∧ X a cls ⟨σ'.loc, l'⟩) σ) : CALLR C f vs Q (EXC C X) σ := h.mono (fun _ _ h => h) (fun _ _ e => e.keep)
end
noncomputable def Nd.skel (r : Nd) : Nd := { r with np := 0 }
noncomputable def skelN (ns : List Nd) : List Nd := ns.map Nd.skel
theorem skel_up (ns : List Nd) (k : Int) (g : Int → Int) : skelN (upN ns k fun r => { r with np := g r.np }) = skelN ns := by
  unfold skelN upN
  rw [List.map_map]
  apply List.map_congr_left
  intro r _
  show Nd.skel (if _ then _ else _) = _
  split <;> rfl
theorem keys_skel (ns : List Nd) : keysN (skelN ns) = keysN ns := by unfold keysN skelN; rw [List.map_map]; rfl
theorem kvs_skel (ns : List Nd) : kvsN (skelN ns) = kvsN ns := by unfold kvsN skelN; rw [List.map_map]; rfl
theorem get_skel (ns : List Nd) (k : Int) : getN (skelN ns) k = (getN ns k).map Nd.skel := by
  unfold getN skelN
  rw [List.find?_map]
  rfl
theorem skel_keys {ns ns' : List Nd} (h : skelN ns' = skelN ns) : keysN ns' = keysN ns := by rw [← keys_skel, h, keys_skel]
theorem skel_kvs {ns ns' : List Nd} (h : skelN ns' = skelN ns) : kvsN ns' = kvsN ns := by rw [← kvs_skel, h, kvs_skel]
theorem skel_get {ns ns' : List Nd} (h : skelN ns' = skelN ns) {k : Int} {r : Nd} (hr : getN ns k = some r) : ∃ r', getN ns' k = some r' ∧ r'.skel = r.skel := by
  have e := get_skel ns' k
  rw [h, get_skel, hr] at e
  cases e' : getN ns' k with
  | none => rw [e'] at e; cases e
  | some r' => rw [e'] at e; refine ⟨r', rfl, ?_⟩; simpa using e.symm
structure St where
  ns : List Nd
  rdy : List Int
  f : Int
noncomputable def decN (st : List Nd × List Int) (q : Int) : List Nd × List Int :=
  (upN st.1 q fun r => { r with np := r.np - 1 }, match getN st.1 q with | some r => if r.np - 1 = 0 then st.2 ++ [q] else st.2 | none => st.2)
noncomputable def decS (st : List Nd × List Int) (ss : List Int) : List Nd × List Int := ss.foldl decN st
noncomputable def doneOne (st : St) (q : Int) : Nat × St :=
  match getN st.ns q with
  | none => (1, st)
  | some r => if r.np = -1 then (0, ⟨(decS (upN st.ns q fun r => { r with np := -2 }, st.rdy) r.su).1, (decS (upN st.ns q fun r => { r with np := -2 }, st.rdy) r.su).2, st.f + 1⟩) else if 0 ≤ r.np ∨ r.np = -2 then (1, st) else (2, st)
noncomputable def doneGo : List Int → St → Nat × St
  | [], st => (0, st)
  | q :: qs, st => if (doneOne st q).1 = 0 then doneGo qs (doneOne st q).2 else doneOne st q
theorem doneGo_cons (q : Int) (qs : List Int) (st : St) : doneGo (q :: qs) st = if (doneOne st q).1 = 0 then doneGo qs (doneOne st q).2 else doneOne st q := rfl
theorem decS_succ (st : List Nd × List Int) (ss : List Int) (q : Int) : decS st (ss ++ [q]) = decN (decS st ss) q := by
  unfold decS; rw [List.foldl_append]; rfl
theorem decS_skel : ∀ (ss : List Int) (st : List Nd × List Int), skelN (decS st ss).1 = skelN st.1
  | [], st => rfl
  | q :: ss, st => by
    show skelN (decS (decN st q) ss).1 = _
    rw [decS_skel ss]
    exact skel_up st.1 q (fun n => n - 1)
theorem decS_len : ∀ (ss : List Int) (st : List Nd × List Int), (decS st ss).2.length ≤ st.2.length + ss.length
  | [], st => Nat.le_refl _
  | q :: ss, st => by
    have h1 : (decS st (q :: ss)).2.length ≤ (decN st q).2.length + ss.length := decS_len ss (decN st q)
    have h2 : (decN st q).2.length ≤ st.2.length + 1 := by
      unfold decN
      dsimp only
      split
      · split
        · rw [List.length_append]; exact Nat.le_refl _
        · omega
      · omega
    rw [List.length_cons]
    omega
section
variable {C : Cx} {σ : MS} {s : Shared} {E : Value → Shared → Prop} {names : List (Str × NameKind)} {cells : List (Str × Addr)}
  {x d D rl : Addr} {ep : Nat} {rdy : List Int} {p f : Int} {ns : List Nd} {rest : List (Addr × MO)} {loc : Loc}
theorem done_spec (O : C.Ok GL names cells) (hh : C.A.handled = none) (hK : C.K = KK C.w) (hlv : 1 ≤ C.lv) (hS : (D == sysModules) = false) {qs : List Int} (hz : rdy.length ≤ 1000) (hq : qs.length ≤ 3) (h10 : ∀ q ∈ qs, 0 ≤ q ∧ q < 10) (nd : (keysN ns).Nodup) (hb : bndN ns 1000) (hcl : ∀ r ∈ ns, ∀ y ∈ r.su, y ∈ keysN ns)
    (hbad : (doneGo qs ⟨ns, rdy, f⟩).1 ≠ 2) {Q : MV → MS → Prop} {X : Addr → Value → MS → Prop}
    (hok : ∀ t st, doneGo qs ⟨ns, rdy, f⟩ = (0, st) → Q .none ⟨loc, ledR x d D rl ep st.rdy p st.f st.ns ((t, .tup (qs.map .int)) :: rest)⟩)
    (hno : ∀ t st a, doneGo qs ⟨ns, rdy, f⟩ = (1, st) → X a (.type "ValueError") ⟨loc, ledR x d D rl ep st.rdy p st.f st.ns ((t, .tup (qs.map .int)) :: rest)⟩) :
    CALLR C 127 ([.ref x] ++ qs.map .int) Q (EXC C X) ⟨loc, ledR x d D rl ep rdy p f ns rest⟩ := by
  refine CALLR.keepX (call_V O (ps := [Str.ofString "self"]) (pv := Str.ofString "nodes") (args := [.ref x]) (rest := qs.map .int) (more := [Str.ofString "n2i", Str.ofString "node", Str.ofString "nodeinfo", Str.ofString "stat", Str.ofString "successor", Str.ofString "successor_info"]) (morec := []) (fun t => [(Str.ofString "self", some (.ref x)), (Str.ofString "nodes", some (.ref t))])
    (by omega) (by rw [hK]; exact rfl) (by rw [hK]; exact rfl) rfl (by rw [List.length_map]; omega) (fun args' rest' ia ir => by obtain ⟨v, rfl, i⟩ := ia.one; have hl : rest'.length ≤ 3 := (by rw [ir.length, List.length_map]; exact hq); rcases rest' with _ | ⟨a, _ | ⟨b, _ | ⟨c, _ | ⟨e, r⟩⟩⟩⟩ <;> first | exact rfl | exact absurd hl (by simp only [List.length_cons]; omega))
    (fun t => .loc (by decide +kernel) (.loc (by decide +kernel) .nil)) (by decide +kernel) (by decide +kernel) (by decide +kernel) (by decide +kernel) rfl rfl rfl ?_)
  intro t C' as has O' hp hw hK' hlv' hh'
  rw [hK, ← hw] at hK'
  rw [hh] at hh'
  cases as with
  | cons _ _ => cases has
  | nil =>
    dsimp only [cellLed, List.map, List.append, List.nil_append, List.cons_append] at O' ⊢
    refine AW.hideQ fun QF hQF => ?_
    ((with_reducible refine r_cons ?_); (with_reducible refine r_if ?_); (with_reducible refine t_compare ?_ ?hs); (case hs => exact rfl); (with_reducible refine r_attr ?_ ?hs); (case hs => with_unfolding_all rfl); (with_reducible refine' r_local (by assumption) ?k1 ?k2 ?_); (case k1 => walk_at "has"); (case k2 => ((try dsimp only); walk_at "has")); (with_reducible refine' gT (by assumption) (by assumption) find_T2 ?k1 ?k2 ?k3 ?k4 ?_); (case k1 => ((try dsimp only); walk_at "has")); (case k2 => ((try dsimp only); walk_at "has")); (case k3 => walk_at "has"); (case k4 => exact fun _ h => nomatch h); (with_reducible refine r_none ?_); (with_reducible refine c_is_ref ?_); (with_reducible refine u_bool ?_); (with_reducible refine ite_ff ?_); (with_reducible refine r_nil ?_); (with_reducible refine r_cons ?_); (with_reducible refine r_assign ?_ ?hs); (case hs => exact rfl); (with_reducible refine r_attr ?_ ?hs); (case hs => with_unfolding_all rfl); (with_reducible refine' r_local (by assumption) ?k1 ?k2 ?_); (case k1 => walk_at "has"); (case k2 => ((try dsimp only); walk_at "has")); (with_reducible refine' gT (by assumption) (by assumption) find_T1 ?k1 ?k2 ?k3 ?k4 ?_); (case k1 => ((try dsimp only); walk_at "has")); (case k2 => ((try dsimp only); walk_at "has")); (case k3 => walk_at "has"); (case k4 => exact fun _ h => nomatch h); (with_reducible refine' r_store (by assumption) ?k1 ?k2 ?_); (case k1 => walk_at "has"); (case k2 => ((try dsimp only); walk_at "put")); (try dsimp only); (with_reducible refine r_cons ?_); (with_reducible refine r_for ?_ ?hs); (case hs => exact fun _ => rfl); (with_reducible refine' r_local (by assumption) ?k1 ?k2 ?_); (case k1 => walk_at "has"); (case k2 => ((try dsimp only); walk_at "has")))
    refine f_loop hh' (iter_tup (xs := qs.map .int) (by walk_at "has")) (fun i lo led => Ex6 fun (a b c g e : Option MV) (st : St) => All5 (lo = [(Str.ofString "self", some (.ref x)), (Str.ofString "nodes", some (.ref t)), (Str.ofString "n2i", some (.ref D)), (Str.ofString "node", a), (Str.ofString "nodeinfo", b), (Str.ofString "stat", c), (Str.ofString "successor", g), (Str.ofString "successor_info", e)]) (led = (t, .tup (qs.map .int)) :: ledR x d D rl ep st.rdy p st.f st.ns rest) (doneGo qs ⟨ns, rdy, f⟩ = doneGo (qs.drop i) st) (skelN st.ns = skelN ns) (st.rdy.length ≤ 1000 + 1000 * i)) ⟨_, _, _, _, _, ⟨ns, rdy, f⟩, rfl, rfl, rfl, rfl, by dsimp only; omega⟩ ?_ ?_ ?_
    · rintro i lo led it o ⟨a, b, c, g, e, st, rfl, rfl, hg, hs, hl⟩
      show Has t (MO.tup (qs.map MV.int)) _
      walk_at "has"
    · rintro i y it o lo led ⟨a, b, c, g, e, st, rfl, rfl, hg, hs, hl⟩ hy QQ EE hn _ _ hE
      obtain ⟨q, hq, rfl⟩ := get_ints hy
      have hqm : q ∈ qs := List.mem_of_getElem? hq
      have h10q := h10 q hqm
      have nd' : (keysN st.ns).Nodup := by rw [skel_keys hs]; exact nd
      obtain ⟨sn, sr, sf⟩ := st
      dsimp only at hs hl hg nd' ⊢
      have hv := mval_kvs sn q
      rw [List.drop_eq_getElem_cons (List.getElem?_eq_some_iff.mp hq).1, (List.getElem?_eq_some_iff.mp hq).2] at hg
      rw [doneGo_cons] at hg
      ((with_reducible refine a_name ?_); (with_reducible refine' r_store (by assumption) ?k1 ?k2 ?_); (case k1 => walk_at "has"); (case k2 => ((try dsimp only); walk_at "put")); (try dsimp only); (with_reducible refine r_cons ?_); (with_reducible refine r_if ?_); (with_reducible refine t_compare ?_ ?hs); (case hs => exact rfl); (with_reducible refine r_named ?_); (with_reducible refine r_meth PySem.F.plainAttrs_dict PySem.F.slot_dict_get PySem.F.type_dict_get ?_ ?h1 ?h2 ?h3 ?h4); (case h1 => exact rfl); (case h2 => exact rfl); (case h3 => exact rfl); (case h4 => exact rfl); (with_reducible refine' r_local (by assumption) ?k1 ?k2 ?_); (case k1 => walk_at "has"); (case k2 => ((try dsimp only); walk_at "has")); (with_reducible refine' And.intro (OfT.dict ?k1) ?_); (case k1 => ((try dsimp only); walk_at "has")); (with_reducible refine p_cons ?_ ?hs); (case hs => exact rfl); (with_reducible refine' r_local (by assumption) ?k1 ?k2 ?_); (case k1 => walk_at "has"); (case k2 => ((try dsimp only); walk_at "has")); (with_reducible refine p_nil ?_); (with_reducible refine' k_dget ?k1 ?k2 ?_); (case k1 => assumption); (case k2 => ((try dsimp only); walk_at "has")); (with_reducible refine' r_store (by assumption) ?k1 ?k2 ?_); (case k1 => walk_at "has"); (case k2 => ((try dsimp only); walk_at "put")); (try dsimp only); (with_reducible refine r_none ?_))
      rw [hv]
      cases hr : getN sn q with
      | none =>
        have hd1 : doneOne ⟨sn, sr, sf⟩ q = (1, ⟨sn, sr, sf⟩) := by unfold doneOne; dsimp only; rw [hr]
        rw [hd1, if_neg Nat.one_ne_zero] at hg
        dsimp only [Option.map, Option.getD]
        ((with_reducible refine c_is_nn ?_); (with_reducible refine u_bool ?_); (with_reducible refine ite_tt ?_); (with_reducible refine r_cons ?_))
        refine r_raise O' hh' F.excCall_ValueError F.excRaise_ValueError (by walk_at "has") (by walk_at "has") ?_
        ((with_reducible refine p_cons ?_ ?hs); (case hs => exact rfl))
        refine r_fstr3 (by decide +kernel) (by decide +kernel) ?_
        ((with_reducible refine' r_local (by assumption) ?k1 ?k2 ?_); (case k1 => walk_at "has"); (case k2 => ((try dsimp only); walk_at "has")))
        refine ⟨q, rfl, h10q.1, h10q.2, fun z => ?_⟩
        (with_reducible refine p_nil ?_)
        refine ⟨Nat.le_of_ble_eq_true rfl, fun a s' xa => hE _ _ (exc_loop O' ⟨a, _, false, _, rfl, xa, _, ?_, hno t _ a hg⟩)⟩
        unfold ledR ledT
        dsimp only
        walk_at "take"
      | some r =>
        dsimp only [Option.map, Option.getD]
        have g1 := has_inst (getN_mem hr)
        have g2 := has_attrs (getN_mem hr)
        have g4 := has_su (getN_mem hr)
        ((with_reducible refine c_is_ref ?_); (with_reducible refine u_bool ?_); (with_reducible refine ite_ff ?_); (with_reducible refine r_nil ?_); (with_reducible refine r_cons ?_); (with_reducible refine r_assign ?_ ?hs); (case hs => exact rfl); (with_reducible refine r_attr ?_ ?hs); (case hs => with_unfolding_all rfl); (with_reducible refine' r_local (by assumption) ?k1 ?k2 ?_); (case k1 => walk_at "has"); (case k2 => ((try dsimp only); walk_at "has")); (with_reducible refine' gN (by assumption) (by assumption) slot_np ?k1 ?k2 ?k3 ?k4 ?_); (case k1 => ((try dsimp only); walk_at "has")); (case k2 => ((try dsimp only); walk_at "has")); (case k3 => exact rfl); (case k4 => exact fun _ h => nomatch h); (with_reducible refine' r_store (by assumption) ?k1 ?k2 ?_); (case k1 => walk_at "has"); (case k2 => ((try dsimp only); walk_at "put")); (try dsimp only); (with_reducible refine r_cons ?_); (with_reducible refine r_if ?_); (with_reducible refine t_compare ?_ ?hs); (case hs => exact rfl); (with_reducible refine' r_local (by assumption) ?k1 ?k2 ?_); (case k1 => walk_at "has"); (case k2 => ((try dsimp only); walk_at "has")); (with_reducible refine' r_global (by assumption) ?k1 ?k2 ?_); (case k1 => walk_at "has"); (case k2 => walk_at "has"); (with_reducible refine c_ne ?_); (with_reducible refine u_bool ?_))
        by_cases hnp : r.np = -1
        · refine if_f (by simp [hnp]) ?_
          have g3 := upd_np hr nd' (fun _ => -2)
          ((with_reducible refine r_nil ?_); (with_reducible refine r_cons ?_); (with_reducible refine r_set_attr ?_ ?hs); (case hs => exact rfl); (with_reducible refine' r_global (by assumption) ?k1 ?k2 ?_); (case k1 => walk_at "has"); (case k2 => walk_at "has"); (with_reducible refine' r_local (by assumption) ?k1 ?k2 ?_); (case k1 => walk_at "has"); (case k2 => ((try dsimp only); walk_at "has")); (with_reducible refine' sN (by assumption) (by assumption) slot_np ?k0 ?k1 ?k2 ?k3 ?_); (case k0 => decide); (case k2 => ((try dsimp only); walk_at "upd")); (case k1 => exact rfl); (case k3 => ((try dsimp only); walk_at "has")); (try dsimp only [slotPut, List.replicate, List.set, List.append, List.length, List.nil_append, List.cons_append, Nat.reduceAdd, Nat.reduceSub]); (with_reducible refine r_cons ?_); (with_reducible refine r_for ?_ ?hs); (case hs => exact fun _ => rfl); (with_reducible refine r_attr ?_ ?hs); (case hs => with_unfolding_all rfl); (with_reducible refine' r_local (by assumption) ?k1 ?k2 ?_); (case k1 => walk_at "has"); (case k2 => ((try dsimp only); walk_at "has")))
          generalize en : (upN sn q fun r => { r with np := -2 }) = n2 at *
          have hs2 : skelN n2 = skelN ns := by rw [← en]; exact (skel_up sn q (fun _ => -2)).trans hs
          have ek2 : kvsN sn = kvsN n2 := skel_kvs (hs.trans hs2.symm)
          obtain ⟨r2, hr2, er2⟩ := skel_get (hs2.trans hs.symm) hr
          have ea : r2.a = r.a := (congrArg Nd.a er2 : r2.skel.a = r.skel.a)
          have ed : r2.d = r.d := (congrArg Nd.d er2 : r2.skel.d = r.skel.d)
          have es : r2.sa = r.sa := (congrArg Nd.sa er2 : r2.skel.sa = r.skel.sa)
          have eu : r2.su = r.su := (congrArg Nd.su er2 : r2.skel.su = r.skel.su)
          have k1 := has_inst (getN_mem hr2)
          have k2 := has_attrs (getN_mem hr2)
          have k3 := has_su (getN_mem hr2)
          rw [ea] at k1
          rw [ek2]
          ((with_reducible refine' gN (by assumption) (by assumption) slot_succ ?k1 ?k2 ?k3 ?k4 ?_); (case k1 => ((try dsimp only); walk_at "has")); (case k2 => ((try dsimp only); walk_at "has")); (case k3 => exact rfl); (case k4 => exact fun _ h => nomatch h))
          have hcl2 : ∀ y ∈ r2.su, y ∈ keysN ns := fun y hy => by
            obtain ⟨r0, h1, h2⟩ := skel_get hs.symm hr
            have e0 : r0.su = r.su := (congrArg Nd.su h2 : r0.skel.su = r.skel.su)
            exact hcl r0 (getN_mem h1) y (by rw [e0, ← eu]; exact hy)
          have hbd : r2.su.length ≤ 1000 := by
            obtain ⟨r0, h1, h2⟩ := skel_get hs.symm hr
            have e0 : r0.su = r.su := (congrArg Nd.su h2 : r0.skel.su = r.skel.su)
            rw [eu, ← e0]; exact hb r0 (getN_mem h1)
          refine f_loop hh' (iter_list (xs := r2.su.map .int) (by walk_at "has")) (fun j lo led => Ex2 fun (g e : Option MV) => All2 (lo = [(Str.ofString "self", some (.ref x)), (Str.ofString "nodes", some (.ref t)), (Str.ofString "n2i", some (.ref D)), (Str.ofString "node", some (.int q)), (Str.ofString "nodeinfo", some (.ref r.a)), (Str.ofString "stat", some (.int r.np)), (Str.ofString "successor", g), (Str.ofString "successor_info", e)]) (led = (it, o) :: (t, .tup (qs.map .int)) :: ledR x d D rl ep (decS (n2, sr) (r2.su.take j)).2 p sf (decS (n2, sr) (r2.su.take j)).1 rest)) ⟨_, _, rfl, rfl⟩ ?_ ?_ ?_
          · rintro j lo led it' o' ⟨g, e, rfl, rfl⟩
            show Has r2.sa (MO.list (r2.su.map MV.int)) _
            obtain ⟨r3, h1, h2⟩ := skel_get (decS_skel (r2.su.take j) (n2, sr)) hr2
            have w1 := has_su (getN_mem h1)
            have w3 : r3.su = r2.su := (congrArg Nd.su h2 : r3.skel.su = r2.skel.su)
            have w4 : r3.sa = r2.sa := (congrArg Nd.sa h2 : r3.skel.sa = r2.skel.sa)
            rw [w3, w4] at w1
            walk_at "has"
          · rintro j y it' o' lo led ⟨g, e, rfl, rfl⟩ hy Q2 E2 hn2 _ _ _
            obtain ⟨y, hy', rfl⟩ := get_ints hy
            have hd : decS (n2, sr) (r2.su.take (j + 1)) = decN (decS (n2, sr) (r2.su.take j)) y := by
              rw [List.take_add_one, hy']; exact decS_succ _ _ y
            have hsk := (decS_skel (r2.su.take j) (n2, sr)).trans hs2
            have hln := decS_len (r2.su.take j) (n2, sr)
            rw [List.length_take] at hln
            have hln2 : (decS (n2, sr) (r2.su.take j)).2.length ≤ 10000 := by
              have := (List.getElem?_eq_some_iff.mp hq).1
              dsimp only at hln
              omega
            generalize decS (n2, sr) (r2.su.take j) = mm at *
            obtain ⟨m, rr⟩ := mm
            dsimp only at hsk hln2 ⊢
            have ndm : (keysN m).Nodup := by rw [skel_keys hsk]; exact nd
            obtain ⟨u, hu⟩ := getN_some (ns := m) (k := y) (by rw [skel_keys hsk]; exact hcl2 y (List.mem_of_getElem? hy'))
            have w1 := has_inst (getN_mem hu)
            have w2 := has_attrs (getN_mem hu)
            have w3 := upd_np hu ndm (fun n => n - 1)
            have w4 := mval_get hu
            have hu2 := upN_some hu y (fun r => { r with np := r.np - 1 }) (fun _ => rfl)
            rw [if_pos (getN_key hu)] at hu2
            have w5 := has_inst (getN_mem hu2)
            have w6 := has_attrs (getN_mem hu2)
            dsimp only [Nd.inst] at w5 w6
            ((with_reducible refine a_name ?_); (with_reducible refine' r_store (by assumption) ?k1 ?k2 ?_); (case k1 => walk_at "has"); (case k2 => ((try dsimp only); walk_at "put")); (try dsimp only); (with_reducible refine r_cons ?_); (with_reducible refine r_assign ?_ ?hs); (case hs => exact rfl); (with_reducible refine r_subs ?_); (with_reducible refine' r_local (by assumption) ?k1 ?k2 ?_); (case k1 => walk_at "has"); (case k2 => ((try dsimp only); walk_at "has")); (with_reducible refine' r_local (by assumption) ?k1 ?k2 ?_); (case k1 => walk_at "has"); (case k2 => ((try dsimp only); walk_at "has")); (with_reducible refine' i_dict ?k0 ?k1 ?_); (case k0 => ((try dsimp only); walk_at "has")); (case k1 => assumption); (with_reducible refine' r_store (by assumption) ?k1 ?k2 ?_); (case k1 => walk_at "has"); (case k2 => ((try dsimp only); walk_at "put")); (try dsimp only); (with_reducible refine r_cons ?_); (with_reducible refine r_aug_attr ?_); (with_reducible refine' r_local (by assumption) ?k1 ?k2 ?_); (case k1 => walk_at "has"); (case k2 => ((try dsimp only); walk_at "has")); (with_reducible refine' gN (by assumption) (by assumption) slot_np ?k1 ?k2 ?k3 ?k4 ?_); (case k1 => ((try dsimp only); walk_at "has")); (case k2 => ((try dsimp only); walk_at "has")); (case k3 => exact rfl); (case k4 => exact fun _ h => nomatch h); (with_reducible refine r_int ?_); (with_reducible refine n_sub ?_); (with_reducible refine' sN (by assumption) (by assumption) slot_np ?k0 ?k1 ?k2 ?k3 ?_); (case k0 => decide); (case k2 => ((try dsimp only); walk_at "upd")); (case k1 => exact rfl); (case k3 => ((try dsimp only); walk_at "has")); (try dsimp only [slotPut, List.replicate, List.set, List.append, List.length, List.nil_append, List.cons_append, Nat.reduceAdd, Nat.reduceSub]); (with_reducible refine r_cons ?_); (with_reducible refine r_if ?_); (with_reducible refine t_compare ?_ ?hs); (case hs => exact rfl); (with_reducible refine r_attr ?_ ?hs); (case hs => with_unfolding_all rfl); (with_reducible refine' r_local (by assumption) ?k1 ?k2 ?_); (case k1 => walk_at "has"); (case k2 => ((try dsimp only); walk_at "has")); (with_reducible refine' gN (by assumption) (by assumption) slot_np ?k1 ?k2 ?k3 ?k4 ?_); (case k1 => ((try dsimp only); walk_at "has")); (case k2 => ((try dsimp only); walk_at "has")); (case k3 => exact rfl); (case k4 => exact fun _ h => nomatch h); (with_reducible refine r_int ?_); (with_reducible refine c_eq ?_); (with_reducible refine u_bool ?_))
            by_cases hz0 : u.np - 1 = 0
            · refine if_t (by simpa using hz0) ?_
              ((with_reducible refine r_cons ?_); (with_reducible refine r_expr (by assumption) ?_ ?hs); (case hs => exact rfl); (with_reducible refine r_meth PySem.F.plainAttrs_list PySem.F.slot_list_append PySem.F.type_list_append ?_ ?h1 ?h2 ?h3 ?h4); (case h1 => exact rfl); (case h2 => exact rfl); (case h3 => exact rfl); (case h4 => exact rfl); (with_reducible refine r_attr ?_ ?hs); (case hs => with_unfolding_all rfl); (with_reducible refine' r_local (by assumption) ?k1 ?k2 ?_); (case k1 => walk_at "has"); (case k2 => ((try dsimp only); walk_at "has")); (with_reducible refine' gT (by assumption) (by assumption) find_T2 ?k1 ?k2 ?k3 ?k4 ?_); (case k1 => ((try dsimp only); walk_at "has")); (case k2 => ((try dsimp only); walk_at "has")); (case k3 => walk_at "has"); (case k4 => exact fun _ h => nomatch h); (with_reducible refine' And.intro (OfT.list ?k1) ?_); (case k1 => ((try dsimp only); walk_at "has")); (with_reducible refine p_cons ?_ ?hs); (case hs => exact rfl); (with_reducible refine' r_local (by assumption) ?k1 ?k2 ?_); (case k1 => walk_at "has"); (case k2 => ((try dsimp only); walk_at "has")); (with_reducible refine p_nil ?_); (with_reducible refine' k_append ?k1 ?k2 ?_); (case k1 => ((try dsimp only); walk_at "upd")); (case k2 => walk_at "len"); (try dsimp only); (with_reducible refine r_nil ?_); (with_reducible refine r_nil ?_))
              refine (hn2 _ ⟨_, ?_, _, _, rfl, rfl⟩).1
              rw [hd]
              unfold decN
              dsimp only
              rw [hu]
              dsimp only
              rw [if_pos hz0]
              unfold ledR ledT
              rw [kvs_np m y (fun n => n - 1), List.map_append]
              dsimp only [List.map]
              walk_at "take"
            · refine if_f (by simpa using hz0) ?_
              ((with_reducible refine r_nil ?_); (with_reducible refine r_nil ?_))
              refine (hn2 _ ⟨_, ?_, _, _, rfl, rfl⟩).1
              rw [hd]
              unfold decN
              dsimp only
              rw [hu]
              dsimp only
              rw [if_neg hz0]
              unfold ledR ledT
              rw [kvs_np m y (fun n => n - 1)]
              try dsimp only
              walk_at "take"
          · rintro lo led ⟨g, e, rfl, rfl⟩
            have e3 : (listSrc r2.sa (r2.su.map .int)).items.length = r2.su.length := List.length_map ..
            rw [e3, List.take_length]
            ((with_reducible refine r_nil ?_); (with_reducible refine r_cons ?_); (with_reducible refine r_aug_attr ?_); (with_reducible refine' r_local (by assumption) ?k1 ?k2 ?_); (case k1 => walk_at "has"); (case k2 => ((try dsimp only); walk_at "has")); (with_reducible refine' gT (by assumption) (by assumption) find_T4 ?k1 ?k2 ?k3 ?k4 ?_); (case k1 => ((try dsimp only); walk_at "has")); (case k2 => ((try dsimp only); walk_at "has")); (case k3 => walk_at "has"); (case k4 => exact fun _ h => nomatch h); (with_reducible refine r_int ?_); (with_reducible refine n_add ?_); (with_reducible refine' sT (by assumption) (by assumption) take_T4 ?k1 ?k2 ?k3 ?k4 ?_); (case k1 => ((try dsimp only); walk_at "has")); (case k2 => ((try dsimp only); walk_at "upd")); (case k3 => walk_at "fput"); (case k4 => exact Nat.le_of_ble_eq_true rfl); (try dsimp only); (with_reducible refine r_nil ?_))
            refine (hn _ ⟨_, .all, _, _, _, _, _, ⟨(decS (n2, sr) r2.su).1, (decS (n2, sr) r2.su).2, sf + 1⟩, rfl, rfl, ?_, ?_, ?_⟩).1
            · have hd1 : doneOne ⟨sn, sr, sf⟩ q = (0, ⟨(decS (n2, sr) r2.su).1, (decS (n2, sr) r2.su).2, sf + 1⟩) := by unfold doneOne; dsimp only; rw [hr]; dsimp only; rw [if_pos hnp, en, eu]
              rw [hd1, if_pos rfl] at hg
              exact hg
            · exact (decS_skel r2.su (n2, sr)).trans hs2
            · have := decS_len r2.su (n2, sr)
              dsimp only at this ⊢
              omega
        · refine if_t (by simpa using hnp) ?_
          by_cases h0 : 0 ≤ r.np
          · have hd1 : doneOne ⟨sn, sr, sf⟩ q = (1, ⟨sn, sr, sf⟩) := by unfold doneOne; dsimp only; rw [hr]; dsimp only; rw [if_neg hnp, if_pos (.inl h0)]
            rw [hd1, if_neg Nat.one_ne_zero] at hg
            ((with_reducible refine r_cons ?_); (with_reducible refine r_if ?_); (with_reducible refine t_compare ?_ ?hs); (case hs => exact rfl); (with_reducible refine' r_local (by assumption) ?k1 ?k2 ?_); (case k1 => walk_at "has"); (case k2 => ((try dsimp only); walk_at "has")); (with_reducible refine r_int ?_); (with_reducible refine c_ge ?_); (with_reducible refine u_bool ?_))
            refine if_t (by simpa using h0) ?_
            (with_reducible refine r_cons ?_)
            refine r_raise O' hh' F.excCall_ValueError F.excRaise_ValueError (by walk_at "has") (by walk_at "has") ?_
            ((with_reducible refine p_cons ?_ ?hs); (case hs => exact rfl))
            refine r_fstr3 (by decide +kernel) (by decide +kernel) ?_
            ((with_reducible refine' r_local (by assumption) ?k1 ?k2 ?_); (case k1 => walk_at "has"); (case k2 => ((try dsimp only); walk_at "has")))
            refine ⟨q, rfl, h10q.1, h10q.2, fun z => ?_⟩
            (with_reducible refine p_nil ?_)
            refine ⟨Nat.le_of_ble_eq_true rfl, fun a s' xa => hE _ _ (exc_loop O' ⟨a, _, false, _, rfl, xa, _, ?_, hno t _ a hg⟩)⟩
            unfold ledR ledT
            dsimp only
            walk_at "take"
          · by_cases h2 : r.np = -2
            · have hd1 : doneOne ⟨sn, sr, sf⟩ q = (1, ⟨sn, sr, sf⟩) := by unfold doneOne; dsimp only; rw [hr]; dsimp only; rw [if_neg hnp, if_pos (.inr h2)]
              rw [hd1, if_neg Nat.one_ne_zero] at hg
              ((with_reducible refine r_cons ?_); (with_reducible refine r_if ?_); (with_reducible refine t_compare ?_ ?hs); (case hs => exact rfl); (with_reducible refine' r_local (by assumption) ?k1 ?k2 ?_); (case k1 => walk_at "has"); (case k2 => ((try dsimp only); walk_at "has")); (with_reducible refine r_int ?_); (with_reducible refine c_ge ?_); (with_reducible refine u_bool ?_))
              refine if_f (by simpa using h0) ?_
              ((with_reducible refine r_cons ?_); (with_reducible refine r_if ?_); (with_reducible refine t_compare ?_ ?hs); (case hs => exact rfl); (with_reducible refine' r_local (by assumption) ?k1 ?k2 ?_); (case k1 => walk_at "has"); (case k2 => ((try dsimp only); walk_at "has")); (with_reducible refine' r_global (by assumption) ?k1 ?k2 ?_); (case k1 => walk_at "has"); (case k2 => walk_at "has"); (with_reducible refine c_eq ?_); (with_reducible refine u_bool ?_))
              refine if_t (by simpa using h2) ?_
              (with_reducible refine r_cons ?_)
              refine r_raise O' hh' F.excCall_ValueError F.excRaise_ValueError (by walk_at "has") (by walk_at "has") ?_
              ((with_reducible refine p_cons ?_ ?hs); (case hs => exact rfl))
              refine r_fstr3 (by decide +kernel) (by decide +kernel) ?_
              ((with_reducible refine' r_local (by assumption) ?k1 ?k2 ?_); (case k1 => walk_at "has"); (case k2 => ((try dsimp only); walk_at "has")))
              refine ⟨q, rfl, h10q.1, h10q.2, fun z => ?_⟩
              (with_reducible refine p_nil ?_)
              refine ⟨Nat.le_of_ble_eq_true rfl, fun a s' xa => hE _ _ (exc_loop O' ⟨a, _, false, _, rfl, xa, _, ?_, hno t _ a hg⟩)⟩
              unfold ledR ledT
              dsimp only
              walk_at "take"
            · have hd1 : doneOne ⟨sn, sr, sf⟩ q = (2, ⟨sn, sr, sf⟩) := by unfold doneOne; dsimp only; rw [hr]; dsimp only; rw [if_neg hnp, if_neg (fun h => h.elim h0 h2)]
              rw [hd1, if_neg (by simp)] at hg
              exact absurd (by rw [hg]) hbad
    · rintro lo led ⟨a, b, c, g, e, st, rfl, rfl, hg, hs, hl⟩
      have e3 : (tupSrc t (qs.map .int)).items.length = qs.length := List.length_map ..
      rw [e3, List.drop_length] at hg
      ((with_reducible refine r_nil ?_); (with_reducible refine r_nil ?_))
      refine hQF _ _ ⟨_, ?_, hok t st hg⟩
      unfold ledR ledT
      dsimp only
      walk_at "take"
end
structure Fm where
  v : Int
  wr : Addr
  it : Addr
  sa : Addr
  i : Nat
noncomputable def vsF (rf : List Fm) : List Int := rf.map (·.v)
noncomputable def Topo (su : Int → List Int) (B : List Int) : Prop := ∀ B1 b B2, B = B1 ++ b :: B2 → ∀ y ∈ su b, y ∈ B1
theorem Topo.snoc {su : Int → List Int} {B : List Int} {v : Int} (h : Topo su B) (hv : ∀ y ∈ su v, y ∈ B) : Topo su (B ++ [v]) := by
  intro B1 b B2 e y hy
  rcases List.eq_nil_or_concat B2 with rfl | ⟨B3, w, rfl⟩
  · have := List.append_inj_right' e rfl
    have h2 := List.append_inj_left' e rfl
    cases this
    rw [← h2]; exact hv y hy
  · rw [List.concat_eq_append, show B1 ++ b :: (B3 ++ [w]) = (B1 ++ b :: B3) ++ [w] by simp] at e
    have h2 := List.append_inj_left' e rfl
    exact h B1 b B3 h2 y hy
noncomputable def Chain (su : Int → List Int) (B : List Int) : List Fm → Int → Prop
  | [], _ => True
  | t :: fs, x => ∃ j, t.i = j + 1 ∧ (su t.v)[j]? = some x ∧ (∀ y ∈ (su t.v).take j, y ∈ B) ∧ Chain su B fs t.v
noncomputable def Chain' (su : Int → List Int) (B : List Int) : List Fm → Prop
  | [] => True
  | t :: fs => (∀ y ∈ (su t.v).take t.i, y ∈ B) ∧ Chain su B fs t.v
theorem Chain.mono {su : Int → List Int} {B B' : List Int} (h : ∀ y ∈ B, y ∈ B') : ∀ {rf : List Fm} {x : Int}, Chain su B rf x → Chain su B' rf x
  | [], _, _ => trivial
  | t :: fs, x, ⟨j, h1, h2, h3, h4⟩ => ⟨j, h1, h2, fun y hy => h y (h3 y hy), Chain.mono h h4⟩
theorem Chain.told {su : Int → List Int} {B : List Int} : ∀ {rf : List Fm} {x : Int}, Chain su B rf x → x ∈ B → Chain' su B rf
  | [], _, _, _ => trivial
  | t :: fs, x, ⟨j, h1, h2, h3, h4⟩, hx => by
    refine ⟨?_, h4⟩
    rw [h1, List.take_add_one, h2]
    intro y hy
    rcases List.mem_append.mp hy with hy | hy
    · exact h3 y hy
    · simp at hy; rw [hy]; exact hx
noncomputable def Ring (su : Int → List Int) (S : List Int) : Prop := S ≠ [] ∧ ∀ v ∈ S, ∃ u ∈ S, v ∈ su u
theorem Chain.ring {su : Int → List Int} {B : List Int} : ∀ {rf : List Fm} {x : Int}, Chain su B rf x → x ∈ vsF rf → ∃ S, Ring su S := by
  intro rf x h hx
  have key : ∀ {rf : List Fm} {y : Int}, Chain su B rf y → x ∈ vsF rf → ∃ S : List Int, x ∈ S ∧ (∃ u ∈ S, y ∈ su u) ∧ ∀ v ∈ S, v = x ∨ ∃ u ∈ S, v ∈ su u := by
    intro rf
    induction rf with
    | nil => intro y _ h; cases h
    | cons t fs ih =>
      rintro y ⟨j, h1, h2, h3, h4⟩ hx
      by_cases e : x = t.v
      · subst e
        refine ⟨[t.v], .head _, ⟨t.v, .head _, List.mem_of_getElem? h2⟩, fun v hv => .inl (by simpa using hv)⟩
      · have hx' : x ∈ vsF fs := by
          rcases List.mem_cons.mp hx with hx | hx
          · exact absurd hx e
          · exact hx
        obtain ⟨S, s1, ⟨u, s2, s3⟩, s4⟩ := ih h4 hx'
        refine ⟨t.v :: S, .tail _ s1, ⟨t.v, .head _, List.mem_of_getElem? h2⟩, fun v hv => ?_⟩
        rcases List.mem_cons.mp hv with rfl | hv
        · exact .inr ⟨u, .tail _ s2, s3⟩
        · rcases s4 v hv with h | ⟨w, h5, h6⟩
          · exact .inl h
          · exact .inr ⟨w, .tail _ h5, h6⟩
  obtain ⟨S, s1, s2, s3⟩ := key h hx
  refine ⟨S, List.ne_nil_of_mem s1, fun v hv => ?_⟩
  rcases s3 v hv with rfl | h
  · exact s2
  · exact h
noncomputable def dkF : List Fm → List (Int × MV)
  | [] => []
  | t :: fs => dkF fs ++ [(t.v, .int fs.length)]
theorem dkF_keys : ∀ rf : List Fm, (dkF rf).map (·.1) = (vsF rf).reverse
  | [] => rfl
  | t :: fs => by
    show (dkF fs ++ [(t.v, MV.int fs.length)]).map (·.1) = (t.v :: vsF fs).reverse
    rw [List.map_append, dkF_keys fs, List.reverse_cons]; rfl
theorem dkF_int : ∀ (rf : List Fm), ∀ p ∈ dkF rf, ∃ n : Int, p.2 = .int n
  | [], p, h => by cases h
  | t :: fs, p, h => by
    rcases List.mem_append.mp h with h | h
    · exact dkF_int fs p h
    · simp at h; subst h; exact ⟨_, rfl⟩
theorem dkF_length (rf : List Fm) : (dkF rf).length = rf.length := by
  have := congrArg List.length (dkF_keys rf)
  simpa [vsF] using this
theorem mval_mem {ms : List (Int × MV)} {k : Int} : (mval ms k).isSome = decide (k ∈ ms.map (·.1)) := by
  unfold mval
  induction ms with
  | nil => simp
  | cons p ms ih =>
    rw [List.find?_cons]
    by_cases h : p.1 = k
    · simp [h]
    · have h' : ¬ k = p.1 := fun e => h e.symm
      simp only [h, decide_false, ih, List.map_cons, List.mem_cons, h', false_or]
theorem mval_dk {rf : List Fm} {x : Int} (h : x ∈ vsF rf) : ∃ n : Int, mval (dkF rf) x = some (.int n) := by
  have h1 : (mval (dkF rf) x).isSome = true := by
    rw [mval_mem, dkF_keys]; simpa using h
  obtain ⟨v, hv⟩ := Option.isSome_iff_exists.mp h1
  unfold mval at hv
  cases e : (dkF rf).find? (fun kv => decide (kv.1 = x)) with
  | none => rw [e] at hv; cases hv
  | some p =>
    obtain ⟨n, hn⟩ := dkF_int rf p (List.mem_of_find?_eq_some e)
    refine ⟨n, ?_⟩
    unfold mval
    rw [e]
    show some p.2 = _
    rw [hn]
theorem mval_off {rf : List Fm} {x : Int} (h : x ∉ vsF rf) : (mval (dkF rf) x).isSome = false := by
  rw [mval_mem, dkF_keys]; simpa using h
theorem mstored_dk {rf : List Fm} {x : Int} {v : MV} (h : x ∉ vsF rf) : mstored (dkF rf) x v = dkF rf ++ [(x, v)] := by
  unfold mstored
  rw [if_neg]
  intro hc
  obtain ⟨p, hp, e⟩ := List.any_eq_true.mp hc
  apply h
  have : p.1 ∈ (vsF rf).reverse := by rw [← dkF_keys]; exact List.mem_map.mpr ⟨p, hp, rfl⟩
  rw [← (by simpa using e : p.1 = x)]
  simpa using this
theorem mwithout_dk {t : Fm} {fs : List Fm} (h : t.v ∉ vsF fs) : mwithout (dkF (t :: fs)) t.v = dkF fs := by
  unfold mwithout
  show (dkF fs ++ [(t.v, MV.int fs.length)]).filter _ = _
  rw [List.filter_append]
  have h1 : (dkF fs).filter (fun kv => decide (kv.1 ≠ t.v)) = dkF fs := by
    rw [List.filter_eq_self]
    intro p hp
    have : p.1 ∈ (vsF fs).reverse := by rw [← dkF_keys]; exact List.mem_map.mpr ⟨p, hp, rfl⟩
    simp only [ne_eq, decide_not, Bool.not_eq_true', decide_eq_false_iff_not]
    intro e
    exact h (by rw [← e]; simpa using this)
  rw [h1]
  simp
noncomputable def leftU (su : Int → List Int) (keys seen : List Int) : Nat := ((keys.filter fun k => decide (k ∉ seen)).map fun k => (su k).length + 1).sum
noncomputable def leftF (su : Int → List Int) : List Fm → Nat
  | [] => 0
  | t :: fs => ((su t.v).length - t.i) + leftF su fs
theorem leftU_add {su : Int → List Int} {keys seen : List Int} {x : Int} (nd : keys.Nodup) (hx : x ∈ keys) (hn : x ∉ seen) : leftU su keys (seen ++ [x]) + ((su x).length + 1) = leftU su keys seen := by
  unfold leftU
  induction keys with
  | nil => cases hx
  | cons k ks ih =>
    have n2 := List.nodup_cons.mp nd
    by_cases e : x = k
    · subst e
      have h1 : (ks.filter fun k => decide (k ∉ seen ++ [x])) = ks.filter fun k => decide (k ∉ seen) := by
        apply List.filter_congr
        intro y hy
        have : y ≠ x := fun e => n2.1 (e ▸ hy)
        simp [this]
      rw [List.filter_cons, List.filter_cons, if_neg (by simp), if_pos (by simpa using hn), h1]
      simp only [List.map_cons, List.sum_cons]
      omega
    · have hx' : x ∈ ks := by
        rcases List.mem_cons.mp hx with h | h
        · exact absurd h e
        · exact h
      have ih := ih n2.2 hx'
      have e' : ¬ k = x := fun h => e h.symm
      rw [List.filter_cons, List.filter_cons]
      by_cases hk : k ∈ seen
      · rw [if_neg (by simp [hk]), if_neg (by simp [hk])]; exact ih
      · rw [if_pos (by simp [hk, e']), if_pos (by simp [hk])]
        simp only [List.map_cons, List.sum_cons]
        omega
theorem range_pick {α : Type} (xs : List α) (a : Nat) : ∀ m, ((List.range m).map (a + ·)).filterMap (xs[·]?) = (xs.drop a).take m
  | 0 => by simp
  | m + 1 => by
    rw [List.range_succ, List.map_append, List.filterMap_append, range_pick xs a m, List.take_add_one, List.getElem?_drop]
    congr 1
theorem mpick_plain {α : Type} (xs : List α) (lo hi : Option Int) : mpick xs lo hi none = (xs.drop (lo.elim 0 (clipAt xs.length))).take (hi.elim xs.length (clipAt xs.length) - lo.elim 0 (clipAt xs.length)) := by
  unfold mpick
  rw [sliceBounds_plain]
  dsimp only
  rw [sliceRange_one, range_pick]
theorem mpick_len {α : Type} (xs : List α) (lo hi : Option Int) : (mpick xs lo hi none).length ≤ xs.length := by
  rw [mpick_plain, List.length_take, List.length_drop]; omega
theorem mpick_rev {α : Type} (xs : List α) : mpick xs none none (some (-1)) = xs.reverse := by
  unfold mpick
  rw [krv_bounds]
  dsimp only
  rw [krv_sliceRange]
  have key : ∀ m, m ≤ xs.length → ((List.range m).map fun k => xs.length - 1 - k).filterMap (xs[·]?) = xs.reverse.take m := by
    intro m
    induction m with
    | zero => intro _; simp
    | succ m ih =>
      intro hm
      rw [List.range_succ, List.map_append, List.filterMap_append, ih (by omega), List.take_add_one, List.getElem?_reverse (by omega)]
      congr 1
  rw [key _ (Nat.le_refl _)]
  rw [← List.length_reverse, List.take_length]
theorem mpick_from {α : Type} (xs : List α) (k : Nat) : mpick xs (some (k : Int)) none none = xs.drop k := by
  rw [mpick_plain]
  show (xs.drop (clipAt xs.length (k : Int))).take (xs.length - clipAt xs.length (k : Int)) = _
  have : clipAt xs.length (k : Int) = min k xs.length := by
    unfold clipAt
    simp only [Int.not_lt.mpr (Int.natCast_nonneg k), if_false]
    omega
  rw [this, List.take_of_length_le (by rw [List.length_drop]; exact Nat.le_refl _)]
  by_cases h : k ≤ xs.length
  · rw [Nat.min_eq_left h]
  · rw [Nat.min_eq_right (by omega), List.drop_length, List.drop_of_length_le (by omega)]
theorem mpick_to {α : Type} (xs : List α) (k : Nat) : mpick xs none (some (k : Int)) none = xs.take k := by
  rw [mpick_plain]
  show (xs.drop 0).take (clipAt xs.length (k : Int) - 0) = _
  have : clipAt xs.length (k : Int) = min k xs.length := by
    unfold clipAt
    simp only [Int.not_lt.mpr (Int.natCast_nonneg k), if_false]
    omega
  rw [this, List.drop_zero, Nat.sub_zero]
  by_cases h : k ≤ xs.length
  · rw [Nat.min_eq_left h]
  · rw [Nat.min_eq_right (by omega), List.take_length, List.take_of_length_le (by omega)]
theorem nodup_len : ∀ {l m : List Int}, l.Nodup → (∀ x ∈ l, x ∈ m) → l.length ≤ m.length
  | [], m, _, _ => Nat.zero_le _
  | a :: l, m, nd, h => by
    have n2 := List.nodup_cons.mp nd
    have ha : a ∈ m := h a (.head _)
    have := nodup_len (l := l) (m := m.erase a) n2.2 fun x hx => (List.mem_erase_of_ne (fun (e : x = a) => n2.1 (e ▸ hx))).mpr (h x (.tail _ hx))
    rw [List.length_erase_of_mem ha] at this
    have hp := List.length_pos_of_mem ha
    rw [List.length_cons]
    omega
noncomputable def suN (ns : List Nd) (v : Int) : List Int := match getN ns v with | some r => r.su | none => []
theorem suN_get {ns : List Nd} {v : Int} {r : Nd} (h : getN ns v = some r) : suN ns v = r.su := by unfold suN; rw [h]
noncomputable def fmLed : List Fm → List (Addr × MO)
  | [] => []
  | t :: fs => (t.wr, .obj (wrapObj t.it)) :: (t.it, .lit t.sa t.i) :: fmLed fs
noncomputable abbrev ledC (sk ik se nk : Addr) (ep2 : Nat) (seen : List Int) (rf : List Fm) (rest : List (Addr × MO)) : List (Addr × MO) :=
  (nk, .dict (dkF rf) ep2) :: (se, .set seen) :: (ik, .list ((rf.map fun t => MV.ref t.wr).reverse)) :: (sk, .list ((vsF rf).reverse.map .int)) :: (fmLed rf ++ rest)
theorem ledC_cons (sk ik se nk : Addr) (ep2 : Nat) (seen : List Int) (t : Fm) (rf : List Fm) (rest : List (Addr × MO)) : ledC sk ik se nk ep2 seen (t :: rf) rest =
    (nk, .dict (dkF rf ++ [(t.v, .int rf.length)]) ep2) :: (se, .set seen) :: (ik, .list ((rf.map fun t => MV.ref t.wr).reverse ++ [.ref t.wr])) :: (sk, .list ((vsF rf).reverse.map .int ++ [.int t.v])) :: (t.wr, .obj (wrapObj t.it)) :: (t.it, .lit t.sa t.i) :: (fmLed rf ++ rest) := by
  simp [ledC, vsF, dkF, fmLed]
theorem last_le {α : Type} (L : List α) (a : α) : -((L ++ [a]).length : Int) ≤ -1 := by
  rw [List.length_append]; simp only [List.length_cons, List.length_nil]; omega
theorem last_get {α : Type} (L : List α) (a : α) : (L ++ [a])[((-1 : Int) + ((L ++ [a]).length : Nat)).toNat]? = some a := by
  have : ((-1 : Int) + ((L ++ [a]).length : Nat)).toNat = L.length := by
    rw [List.length_append]; simp only [List.length_cons, List.length_nil]; omega
  rw [this, List.getElem?_append_right (Nat.le_refl _)]
  simp
theorem mval_top {v : Int} {fs : List Fm} {m : MV} (h : v ∉ vsF fs) : mval (dkF fs ++ [(v, m)]) v = some m := by
  have h1 := mval_off h
  unfold mval at h1 ⊢
  rw [List.find?_append]
  cases e : (dkF fs).find? (fun kv => decide (kv.1 = v)) with
  | none => simp
  | some q => rw [e] at h1; cases h1
structure DI (ns : List Nd) (seen B : List Int) (rf : List Fm) : Prop where
  pm : seen.Perm (B ++ vsF rf)
  nd : (B ++ vsF rf).Nodup
  sub : ∀ k ∈ B ++ vsF rf, k ∈ keysN ns
  topo : Topo (suN ns) B
  fr : ∀ t ∈ rf, ∃ r, getN ns t.v = some r ∧ t.sa = r.sa
theorem DI.len {ns : List Nd} {seen B : List Int} {rf : List Fm} (h : DI ns seen B rf) : seen.length ≤ ns.length ∧ rf.length ≤ ns.length := by
  have h1 := nodup_len h.nd h.sub
  have h2 := h.pm.length_eq
  have h3 : (keysN ns).length = ns.length := List.length_map ..
  have h4 : (vsF rf).length = rf.length := List.length_map ..
  rw [List.length_append] at h1 h2
  omega
theorem DI.mem {ns : List Nd} {seen B : List Int} {rf : List Fm} (h : DI ns seen B rf) {x : Int} : x ∈ seen ↔ x ∈ B ∨ x ∈ vsF rf := by
  rw [h.pm.mem_iff, List.mem_append]
theorem DI.push {ns : List Nd} {seen B : List Int} {rf : List Fm} (h : DI ns seen B rf) {t : Fm} {r : Nd} (hr : getN ns t.v = some r) (hs : t.sa = r.sa) (hx : t.v ∉ seen) : DI ns (seen ++ [t.v]) B (t :: rf) where
  pm := by
    refine (List.Perm.append_right [t.v] h.pm).trans ?_
    rw [List.append_assoc]
    exact List.Perm.append_left _ (List.perm_append_comm)
  nd := by
    have hn : t.v ∉ B ++ vsF rf := fun e => hx (h.pm.mem_iff.mpr e)
    show (B ++ t.v :: vsF rf).Nodup
    exact (List.perm_middle.nodup_iff).mpr (List.nodup_cons.mpr ⟨hn, h.nd⟩)
  sub := fun k hk => by
    rcases List.mem_append.mp hk with hk | hk
    · exact h.sub k (List.mem_append_left _ hk)
    · rcases List.mem_cons.mp hk with rfl | hk
      · show t.v ∈ _
        rw [← getN_key hr]; exact List.mem_map.mpr ⟨r, getN_mem hr, rfl⟩
      · exact h.sub k (List.mem_append_right _ hk)
  topo := h.topo
  fr := fun u hu => by
    rcases List.mem_cons.mp hu with rfl | hu
    · exact ⟨r, hr, hs⟩
    · exact h.fr u hu
theorem DI.pop {ns : List Nd} {seen B : List Int} {t : Fm} {fs : List Fm} (h : DI ns seen B (t :: fs)) (ht : ∀ y ∈ suN ns t.v, y ∈ B) : DI ns seen (B ++ [t.v]) fs where
  pm := by
    refine h.pm.trans ?_
    rw [List.append_assoc]
    exact .refl _
  nd := by
    rw [List.append_assoc]; exact h.nd
  sub := by
    rw [List.append_assoc]; exact h.sub
  topo := h.topo.snoc ht
  fr := fun u hu => h.fr u (.tail _ hu)
theorem Rel.weak {C : Cx} {σ : MS} {s : Shared} (R : Rel C σ s) {a : Addr} {o o' : MO} {led' : List (Addr × MO)} (U : Upd a o o' σ.led led') (hi : ∀ ob, o.ok ob → o'.ok ob) : Rel C ⟨σ.loc, led'⟩ s := by
  have nd' : (led'.map (·.1)).Nodup := by rw [U.keys]; exact R.nd
  refine ⟨R.keep, R.here, R.hereNew, R.lnd, R.outs, fun p hp => ?_, nd', R.gens, R.os⟩
  rcases U.of_mem R.nd p hp with rfl | ⟨hp, ne⟩
  · have := R.led _ U.mem
    exact ⟨let ⟨ob, x, y⟩ := this.1; ⟨ob, x, hi ob y⟩, this.2⟩
  · exact R.led p hp
theorem AW.weak {C : Cx} {σ : MS} {E : Value → Shared → Prop} {α β : Type} {rep : β → α → Prop} {t : Sem α} {Q : β → MS → Prop} {a : Addr} {o o' : MO} {led' : List (Addr × MO)} (U : Upd a o o' σ.led led') (hi : ∀ ob, o.ok ob → o'.ok ob) (k : AW C rep t Q E ⟨σ.loc, led'⟩) : AW C rep t Q E σ := fun s R => k s (R.weak U hi)
section
variable {C : Cx} {σ : MS} {s : Shared} {E : Value → Shared → Prop} {names : List (Str × NameKind)} {cells : List (Str × Addr)}
  {x d D : Addr} {ep : Nat} {rd : MV} {p f : Int} {ns : List Nd} {rest : List (Addr × MO)} {loc : Loc}
theorem cycle_spec (O : C.Ok GL names cells) (hh : C.A.handled = none) (hK : C.K = KK C.w) (hlv : 1 ≤ C.lv) (hS : (D == sysModules) = false) (hz : ns.length ≤ 100) (nd : (keysN ns).Nodup) (hb : bndN ns 1000) (hcl : ∀ r ∈ ns, ∀ y ∈ r.su, y ∈ keysN ns) {Q : MV → MS → Prop}
    (hnone : ∀ B, Topo (suN ns) B → (∀ k ∈ keysN ns, k ∈ B) → Q .none ⟨loc, ledT x d D ep rd p f ns rest⟩)
    (hsome : ∀ a ys, ys ≠ [] → ys.length ≤ 1000 → (∃ S, Ring (suN ns) S) → Q (.ref a) ⟨loc, (a, .list ys) :: ledT x d D ep rd p f ns rest⟩) :
    CALLR C 134 [.ref x] Q E ⟨loc, ledT x d D ep rd p f ns rest⟩ := by
  refine CALLR.keep (CALLR.noexc (call_K O (ps := [Str.ofString "self"]) (more := [Str.ofString "n2i", Str.ofString "stack", Str.ofString "itstack", Str.ofString "seen", Str.ofString "node2stacki", Str.ofString "node"]) (morec := []) (by omega) (by rw [hK]; exact rfl) (by rw [hK]; exact rfl) (fun args' s ia _ => by obtain ⟨v, rfl, i⟩ := ia.one; exact BindsTo.of_eq rfl)
    (.loc (by decide +kernel) .nil) (by decide +kernel) (by decide +kernel) (by decide +kernel) (by decide +kernel) rfl rfl rfl ?_))
  intro C' as has O' hp hw hK' hlv' hh'
  rw [hK, ← hw] at hK'
  rw [hh] at hh'
  cases as with
  | cons _ _ => cases has
  | nil =>
    dsimp only [cellLed, List.map, List.append, List.nil_append, List.cons_append] at O' ⊢
    refine AW.hide fun QF hQF EF _ => ?_
    ((with_reducible refine r_cons ?_); (with_reducible refine r_assign ?_ ?hs); (case hs => exact rfl); (with_reducible refine r_attr ?_ ?hs); (case hs => with_unfolding_all rfl); (with_reducible refine' r_local (by assumption) ?k1 ?k2 ?_); (case k1 => walk_at "has"); (case k2 => ((try dsimp only); walk_at "has")); (with_reducible refine' gT (by assumption) (by assumption) find_T1 ?k1 ?k2 ?k3 ?k4 ?_); (case k1 => ((try dsimp only); walk_at "has")); (case k2 => ((try dsimp only); walk_at "has")); (case k3 => walk_at "has"); (case k4 => exact fun _ h => nomatch h); (with_reducible refine' r_store (by assumption) ?k1 ?k2 ?_); (case k1 => walk_at "has"); (case k2 => ((try dsimp only); walk_at "put")); (try dsimp only); (with_reducible refine r_cons ?_); (with_reducible refine r_assign ?_ ?hs); (case hs => exact rfl); (with_reducible refine r_list ?_); (with_reducible refine p_nil ?_); (with_reducible show _ ≤ 1000000 ∧ _); refine And.intro ?k1 ?_; (case k1 => walk_at "len"); intro _; (try dsimp only); (with_reducible refine' r_store (by assumption) ?k1 ?k2 ?_); (case k1 => walk_at "has"); (case k2 => ((try dsimp only); walk_at "put")); (try dsimp only); (with_reducible refine r_cons ?_); (with_reducible refine r_assign ?_ ?hs); (case hs => exact rfl); (with_reducible refine r_list ?_); (with_reducible refine p_nil ?_); (with_reducible show _ ≤ 1000000 ∧ _); refine And.intro ?k1 ?_; (case k1 => walk_at "len"); intro _; (try dsimp only); (with_reducible refine' r_store (by assumption) ?k1 ?k2 ?_); (case k1 => walk_at "has"); (case k2 => ((try dsimp only); walk_at "put")); (try dsimp only); (with_reducible refine r_cons ?_); (with_reducible refine r_assign ?_ ?hs); (case hs => exact rfl); (with_reducible refine' r_call_ty (by assumption) ?k1 ?k2 ?_ ?hn); (case k1 => walk_at "has"); (case k2 => walk_at "has"); (case hn => exact rfl); (with_reducible refine p_nil ?_); (with_reducible refine k_set0 ?_); intro _; (try dsimp only); (with_reducible refine' r_store (by assumption) ?k1 ?k2 ?_); (case k1 => walk_at "has"); (case k2 => ((try dsimp only); walk_at "put")); (try dsimp only); (with_reducible refine r_cons ?_); (with_reducible refine r_assign ?_ ?hs); (case hs => exact rfl))
    refine r_dict0 (fun nk hnk => ?_) O'.sys
    ((with_reducible refine' r_store (by assumption) ?k1 ?k2 ?_); (case k1 => walk_at "has"); (case k2 => ((try dsimp only); walk_at "put")); (try dsimp only); (with_reducible refine r_cons ?_); (with_reducible refine r_for ?_ ?hs); (case hs => exact fun _ => rfl); (with_reducible refine' r_local (by assumption) ?k1 ?k2 ?_); (case k1 => walk_at "has"); (case k2 => ((try dsimp only); walk_at "has")))
    rename_i sk ik se
    refine f_loop hh' (iter_keys (ms := kvsN ns) (ep := ep) hS (by walk_at "has")) (fun i lo led => Ex4 fun (no : Option MV) (ep2 : Nat) (seen B : List Int) => All4 (lo = [(Str.ofString "self", some (.ref x)), (Str.ofString "n2i", some (.ref D)), (Str.ofString "stack", some (.ref sk)), (Str.ofString "itstack", some (.ref ik)), (Str.ofString "seen", some (.ref se)), (Str.ofString "node2stacki", some (.ref nk)), (Str.ofString "node", no)]) (led = ledC sk ik se nk ep2 seen [] (ledT x d D ep rd p f ns rest)) (DI ns seen B []) (∀ k ∈ (keysN ns).take i, k ∈ B)) ⟨_, 0, [], [], rfl, rfl, ⟨.refl _, .nil, fun _ h => (nomatch h), fun B1 b B2 e => (by simp at e), fun _ h => (nomatch h)⟩, fun _ h => (by simp at h)⟩ ?_ ?_ ?_
    · rintro i lo led it o ⟨no, ep2, seen, B, rfl, rfl, dI, hB⟩
      show Has D (MO.dict (kvsN ns) ep) _
      walk_at "has"
    · rintro i y it o lo led ⟨no, ep2, seen, B, rfl, rfl, dI, hB⟩ hy QQ EE hnx _ hrt _
      have hy2 : ∃ v, (keysN ns)[i]? = some v ∧ y = .int v := by
        have hy' : ((kvsN ns).map fun p => MV.int p.1)[i]? = some y := hy
        have e1 : ((kvsN ns).map fun p => MV.int p.1) = (keysN ns).map MV.int := by unfold kvsN keysN; rw [List.map_map, List.map_map]; rfl
        rw [e1] at hy'
        exact get_ints hy'
      obtain ⟨v, hv, rfl⟩ := hy2
      have hvk := List.mem_of_getElem? hv
      ((with_reducible refine a_name ?_); (with_reducible refine' r_store (by assumption) ?k1 ?k2 ?_); (case k1 => walk_at "has"); (case k2 => ((try dsimp only); walk_at "put")); (try dsimp only); (with_reducible refine r_cons ?_); (with_reducible refine r_if ?_); (with_reducible refine t_compare ?_ ?hs); (case hs => exact rfl); (with_reducible refine' r_local (by assumption) ?k1 ?k2 ?_); (case k1 => walk_at "has"); (case k2 => ((try dsimp only); walk_at "has")); (with_reducible refine' r_local (by assumption) ?k1 ?k2 ?_); (case k1 => walk_at "has"); (case k2 => ((try dsimp only); walk_at "has")); (with_reducible refine' c_inset ?k1 ?_); (case k1 => ((try dsimp only); walk_at "has")); (with_reducible refine u_bool ?_))
      have htk : ∀ {B : List Int}, (∀ k ∈ (keysN ns).take i, k ∈ B) → v ∈ B → ∀ k ∈ (keysN ns).take (i + 1), k ∈ B := fun h1 h2 k hk => by
        rw [List.take_add_one, hv] at hk
        rcases List.mem_append.mp hk with hk | hk
        · exact h1 k hk
        · simp at hk; rw [hk]; exact h2
      by_cases hvs : v ∈ seen
      · refine if_t (by simpa using hvs) ?_
        ((with_reducible refine r_cons ?_); (with_reducible refine r_continue ?_))
        refine (hnx _ ⟨_, .all, _, _, _, _, rfl, rfl, dI, htk hB ?_⟩).2
        rcases dI.mem.mp hvs with h | h
        · exact h
        · cases h
      · refine if_f (by simpa using hvs) ?_
        ((with_reducible refine r_nil ?_); (with_reducible refine r_cons ?_))
        refine r_while (fun n σ => Ex5 fun (w : Int) (ep2 : Nat) (seen B : List Int) (rf : List Fm) => All7 (σ = ⟨[(Str.ofString "self", some (.ref x)), (Str.ofString "n2i", some (.ref D)), (Str.ofString "stack", some (.ref sk)), (Str.ofString "itstack", some (.ref ik)), (Str.ofString "seen", some (.ref se)), (Str.ofString "node2stacki", some (.ref nk)), (Str.ofString "node", some (.int w))], (it, o) :: ledC sk ik se nk ep2 seen rf (ledT x d D ep rd p f ns rest)⟩) (DI ns seen B rf) (Chain (suN ns) B rf w) (w ∈ keysN ns) (leftU (suN ns) (keysN ns) seen + leftF (suN ns) rf ≤ n) (w = v ∨ v ∈ seen) (∀ k ∈ (keysN ns).take i, k ∈ B)) ?_ _ ⟨v, _, _, B, [], rfl, dI, trivial, hvk, Nat.le_refl _, .inl rfl, hB⟩
        rintro n σ ⟨w, ep2, seen, B, rf, rfl, dI, ch, hw, hn, hwv, hB⟩ Q2 E2 hn2 hb2 hr2 _
        ((with_reducible refine t_value ?_ ?hs); (case hs => exact rfl))
        (with_reducible refine r_bool ?_)
        (with_reducible refine u_bool ?_)
        (with_reducible refine ite_tt ?_)
        (with_reducible refine r_cons ?_)
        refine AW.mono (Q := fun f_1 σ' => (f_1 = .next ∧ Ex4 fun (ep2 : Nat) (seen B : List Int) (rf : List Fm) => All6 (σ' = ⟨[(Str.ofString "self", some (.ref x)), (Str.ofString "n2i", some (.ref D)), (Str.ofString "stack", some (.ref sk)), (Str.ofString "itstack", some (.ref ik)), (Str.ofString "seen", some (.ref se)), (Str.ofString "node2stacki", some (.ref nk)), (Str.ofString "node", some (.int w))], (it, o) :: ledC sk ik se nk ep2 seen rf (ledT x d D ep rd p f ns rest)⟩) (DI ns seen B rf) (Chain' (suN ns) B rf) (leftU (suN ns) (keysN ns) seen + leftF (suN ns) rf ≤ n) (v ∈ seen) (∀ k ∈ (keysN ns).take i, k ∈ B)) ∨ ∃ a, f_1 = .ret (.ref a) ∧ ∃ l', Take l' σ'.led ∧ Q (.ref a) ⟨loc, l'⟩) ?_ ?_
        · refine AW.keep ?_
          refine AW.hide fun Q3 hQ3 E3 _ => ?_
          ((with_reducible refine r_if ?_); (with_reducible refine t_compare ?_ ?hs); (case hs => exact rfl); (with_reducible refine' r_local (by assumption) ?k1 ?k2 ?_); (case k1 => walk_at "has"); (case k2 => ((try dsimp only); walk_at "has")); (with_reducible refine' r_local (by assumption) ?k1 ?k2 ?_); (case k1 => walk_at "has"); (case k2 => ((try dsimp only); walk_at "has")); (with_reducible refine' c_inset ?k1 ?_); (case k1 => ((try dsimp only); walk_at "has")); (with_reducible refine u_bool ?_))
          by_cases hws : w ∈ seen
          · refine if_t (by simpa using hws) ?_
            ((with_reducible refine r_cons ?_); (with_reducible refine r_if ?_); (with_reducible refine t_compare ?_ ?hs); (case hs => exact rfl); (with_reducible refine' r_local (by assumption) ?k1 ?k2 ?_); (case k1 => walk_at "has"); (case k2 => ((try dsimp only); walk_at "has")); (with_reducible refine' r_local (by assumption) ?k1 ?k2 ?_); (case k1 => walk_at "has"); (case k2 => ((try dsimp only); walk_at "has")); (with_reducible refine' c_indict ?k1 ?k2 ?_); (case k1 => assumption); (case k2 => ((try dsimp only); walk_at "has")); (with_reducible refine u_bool ?_))
            by_cases hwr : w ∈ vsF rf
            · obtain ⟨nn, hnn⟩ := mval_dk hwr
              rw [hnn, if_pos (show (some (MV.int nn)).isSome = true from rfl)]
              ((with_reducible refine r_cons ?_); (with_reducible refine r_return ?_); (with_reducible refine r_binop ?_); (with_reducible refine r_subs ?_); (with_reducible refine' r_local (by assumption) ?k1 ?k2 ?_); (case k1 => walk_at "has"); (case k2 => ((try dsimp only); walk_at "has")); (with_reducible refine r_slice ?_); (with_reducible refine pt_some ?_); (with_reducible refine r_subs ?_); (with_reducible refine' r_local (by assumption) ?k1 ?k2 ?_); (case k1 => walk_at "has"); (case k2 => ((try dsimp only); walk_at "has")); (with_reducible refine' r_local (by assumption) ?k1 ?k2 ?_); (case k1 => walk_at "has"); (case k2 => ((try dsimp only); walk_at "has")); (with_reducible refine' i_dict ?k0 ?k1 ?_); (case k0 => ((try dsimp only); walk_at "has")); (case k1 => assumption))
              refine ⟨_, rfl, ?_⟩
              ((with_reducible refine pt_none ?_); (with_reducible refine pt_none ?_))
              intro sl
              skip
              have hlen := dI.len.2
              have hvl : (vsF rf).length = rf.length := List.length_map ..
              refine i_slice (xs := (vsF rf).reverse.map .int) (by walk_at "has") (by walk_at "has") (by simp) (by rw [List.length_map, List.length_reverse]; omega) fun D' => ?_
              have hpk := mpick_len ((vsF rf).reverse.map MV.int) (some nn) none
              rw [List.length_map, List.length_reverse, hvl] at hpk
              ((with_reducible refine r_list ?_); (with_reducible refine p_cons ?_ ?hs); (case hs => exact rfl); (with_reducible refine' r_local (by assumption) ?k1 ?k2 ?_); (case k1 => walk_at "has"); (case k2 => ((try dsimp only); walk_at "has")); (with_reducible refine p_nil ?_); (with_reducible show _ ≤ 1000000 ∧ _); refine And.intro ?k1 ?_; (case k1 => walk_at "len"); intro _; (try dsimp only); (with_reducible refine' b_add_lists ?k1 ?k2 ?k3 ?_); (case k1 => ((try dsimp only); walk_at "has")); (case k2 => ((try dsimp only); walk_at "has")); (case k3 => walk_at "len"); intro _; (try dsimp only))
              refine hQ3 _ _ ⟨_, .all, .inr ⟨_, rfl, _, ?_, hsome _ (mpick ((vsF rf).reverse.map MV.int) (some nn) none none ++ [.int w]) (by simp) (by rw [List.length_append]; simp only [List.length_cons, List.length_nil]; omega) (ch.ring hwr)⟩⟩
              unfold ledT
              walk_at "take"
            · rw [mval_off hwr, if_neg (by decide)]
              ((with_reducible refine r_nil ?_); (with_reducible refine r_nil ?_))
              have hwB : w ∈ B := by
                rcases dI.mem.mp hws with h | h
                · exact h
                · exact absurd h hwr
              refine hQ3 _ _ ⟨_, .all, .inl ⟨rfl, _, _, B, rf, rfl, dI, ch.told hwB, hn, ?_, hB⟩⟩
              rcases hwv with rfl | h
              · exact hws
              · exact h
          · refine if_f (by simpa using hws) ?_
            obtain ⟨r, hr⟩ := getN_some hw
            have g1 := has_inst (getN_mem hr)
            have g2 := has_attrs (getN_mem hr)
            have g4 := has_su (getN_mem hr)
            have g5 := mval_get hr
            have hl := dI.len
            have hvl : (vsF rf).length = rf.length := List.length_map ..
            ((with_reducible refine r_cons ?_); (with_reducible refine r_expr (by assumption) ?_ ?hs); (case hs => exact rfl); (with_reducible refine r_meth PySem.F.plainAttrs_set PySem.F.slot_set_add PySem.F.type_set_add ?_ ?h1 ?h2 ?h3 ?h4); (case h1 => exact rfl); (case h2 => exact rfl); (case h3 => exact rfl); (case h4 => exact rfl); (with_reducible refine' r_local (by assumption) ?k1 ?k2 ?_); (case k1 => walk_at "has"); (case k2 => ((try dsimp only); walk_at "has")); (with_reducible refine' And.intro (OfT.set ?k1) ?_); (case k1 => ((try dsimp only); walk_at "has")); (with_reducible refine p_cons ?_ ?hs); (case hs => exact rfl); (with_reducible refine' r_local (by assumption) ?k1 ?k2 ?_); (case k1 => walk_at "has"); (case k2 => ((try dsimp only); walk_at "has")); (with_reducible refine p_nil ?_))
            refine' k_set_add hws ?k1 (by omega) ?_
            case k1 => dsimp only; walk_at "upd"
            dsimp only
            ((with_reducible refine r_cons ?_); (with_reducible refine r_expr (by assumption) ?_ ?hs); (case hs => exact rfl); (with_reducible refine r_meth PySem.F.plainAttrs_list PySem.F.slot_list_append PySem.F.type_list_append ?_ ?h1 ?h2 ?h3 ?h4); (case h1 => exact rfl); (case h2 => exact rfl); (case h3 => exact rfl); (case h4 => exact rfl); (with_reducible refine' r_local (by assumption) ?k1 ?k2 ?_); (case k1 => walk_at "has"); (case k2 => ((try dsimp only); walk_at "has")); (with_reducible refine' And.intro (OfT.list ?k1) ?_); (case k1 => ((try dsimp only); walk_at "has")); (with_reducible refine p_cons ?_ ?hs); (case hs => exact rfl); (with_reducible refine r_attr ?_ ?hs); (case hs => with_unfolding_all rfl); (with_reducible refine' r_call_bi (by assumption) ?k1 ?k2 ?_ ?hn); (case k1 => walk_at "has"); (case k2 => walk_at "has"); (case hn => exact rfl); (with_reducible refine p_cons ?_ ?hs); (case hs => exact rfl); (with_reducible refine r_attr ?_ ?hs); (case hs => with_unfolding_all rfl); (with_reducible refine r_subs ?_); (with_reducible refine' r_local (by assumption) ?k1 ?k2 ?_); (case k1 => walk_at "has"); (case k2 => ((try dsimp only); walk_at "has")); (with_reducible refine' r_local (by assumption) ?k1 ?k2 ?_); (case k1 => walk_at "has"); (case k2 => ((try dsimp only); walk_at "has")); (with_reducible refine' i_dict ?k0 ?k1 ?_); (case k0 => ((try dsimp only); walk_at "has")); (case k1 => assumption); (with_reducible refine' gN (by assumption) (by assumption) slot_succ ?k1 ?k2 ?k3 ?k4 ?_); (case k1 => ((try dsimp only); walk_at "has")); (case k2 => ((try dsimp only); walk_at "has")); (case k3 => exact rfl); (case k4 => exact fun _ h => nomatch h); (with_reducible refine p_nil ?_))
            refine k_iter (xs := r.su.map .int) (by walk_at "has") fun ita => ?_
            skip
            refine g_next (l := r.sa) (i := 0) .head fun wra => ?_
            refine AW.weak (σ := ⟨_, (wra, _) :: (ita, _) :: _⟩) (o' := .lit r.sa 0) (.tail .head) (fun ob => lit_of_obj ita r.sa 0) ?_
            dsimp only
            ((with_reducible refine p_nil ?_); (with_reducible refine' k_append ?k1 ?k2 ?_); (case k1 => ((try dsimp only); walk_at "upd")); (case k2 => walk_at "len"); (try dsimp only); (with_reducible refine r_cons ?_); (with_reducible refine r_set_item ?_ ?hs); (case hs => exact rfl); (with_reducible refine' r_call_bi (by assumption) ?k1 ?k2 ?_ ?hn); (case k1 => walk_at "has"); (case k2 => walk_at "has"); (case hn => exact rfl); (with_reducible refine p_cons ?_ ?hs); (case hs => exact rfl); (with_reducible refine' r_local (by assumption) ?k1 ?k2 ?_); (case k1 => walk_at "has"); (case k2 => ((try dsimp only); walk_at "has")); (with_reducible refine p_nil ?_); (with_reducible refine' k_len_list ?k1 ?k2 ?_); (case k1 => ((try dsimp only); walk_at "has")); (case k2 => walk_at "len"); (with_reducible refine' r_local (by assumption) ?k1 ?k2 ?_); (case k1 => walk_at "has"); (case k2 => ((try dsimp only); walk_at "has")); (with_reducible refine' r_local (by assumption) ?k1 ?k2 ?_); (case k1 => walk_at "has"); (case k2 => ((try dsimp only); walk_at "has")))
            have hL : (List.map MV.int (vsF rf).reverse).length = rf.length := by rw [List.length_map, List.length_reverse, hvl]
            have hwr : w ∉ vsF rf := fun h => hws (dI.mem.mpr (.inr h))
            rw [hL]
            refine s_dict (by rw [dkF_length]; omega) ⟨_, fun ep' => .tail (.tail (.tail .head)), fun ep' => ?_⟩
            rw [mstored_dk hwr]
            dsimp only
            ((with_reducible refine r_cons ?_); (with_reducible refine r_expr (by assumption) ?_ ?hs); (case hs => exact rfl); (with_reducible refine r_meth PySem.F.plainAttrs_list PySem.F.slot_list_append PySem.F.type_list_append ?_ ?h1 ?h2 ?h3 ?h4); (case h1 => exact rfl); (case h2 => exact rfl); (case h3 => exact rfl); (case h4 => exact rfl); (with_reducible refine' r_local (by assumption) ?k1 ?k2 ?_); (case k1 => walk_at "has"); (case k2 => ((try dsimp only); walk_at "has")); (with_reducible refine' And.intro (OfT.list ?k1) ?_); (case k1 => ((try dsimp only); walk_at "has")); (with_reducible refine p_cons ?_ ?hs); (case hs => exact rfl); (with_reducible refine' r_local (by assumption) ?k1 ?k2 ?_); (case k1 => walk_at "has"); (case k2 => ((try dsimp only); walk_at "has")); (with_reducible refine p_nil ?_); (with_reducible refine' k_append ?k1 ?k2 ?_); (case k1 => ((try dsimp only); walk_at "upd")); (case k2 => walk_at "len"); (try dsimp only); (with_reducible refine r_nil ?_))
            refine hQ3 _ _ ⟨(it, o) :: ledC sk ik se nk ep' (seen ++ [w]) (⟨w, wra, ita, r.sa, 0⟩ :: rf) (ledT x d D ep rd p f ns rest), ?_, .inl ⟨rfl, _, _, B, _, rfl, dI.push (t := ⟨w, wra, ita, r.sa, 0⟩) hr rfl hws, ⟨fun y hy => ?_, ch⟩, ?_, ?_, hB⟩⟩
            · rw [ledC_cons]
              dsimp only
              walk_at "take"
            · cases hy
            · have := leftU_add (su := suN ns) nd hw hws
              show _ + (((suN ns w).length - 0) + leftF (suN ns) rf) ≤ n
              omega
            · rcases hwv with rfl | h
              · simp
              · exact List.mem_append_left _ h
        · rintro f_1 σ' (⟨rfl, ep2, seen, B, rf, rfl, dI, ch, hn, hvs, hB⟩ | ⟨a, rfl, l', t, q⟩)
          · dsimp only
            (with_reducible refine r_cons ?_)
            refine r_while (fun m σ => Ex4 fun (ep2 : Nat) (seen B : List Int) (rf : List Fm) => All8 (σ.loc = [(Str.ofString "self", some (.ref x)), (Str.ofString "n2i", some (.ref D)), (Str.ofString "stack", some (.ref sk)), (Str.ofString "itstack", some (.ref ik)), (Str.ofString "seen", some (.ref se)), (Str.ofString "node2stacki", some (.ref nk)), (Str.ofString "node", some (.int w))]) (Take ((it, o) :: ledC sk ik se nk ep2 seen rf (ledT x d D ep rd p f ns rest)) σ.led) (DI ns seen B rf) (Chain' (suN ns) B rf) (leftU (suN ns) (keysN ns) seen + leftF (suN ns) rf ≤ n) (v ∈ seen) (∀ k ∈ (keysN ns).take i, k ∈ B) (rf.length ≤ m)) ?_ _ ⟨_, _, B, rf, rfl, .all, dI, ch, hn, hvs, hB, Nat.le_refl _⟩
            clear ch dI hn hB hvs
            rintro m ⟨lo, le⟩ ⟨ep2, seen, B, rf, hlo, htk0, dI, ch, hn, hvs, hB, hm⟩ Q4 E4 hn4 hb4 hr4 _
            dsimp only at hlo htk0
            subst hlo
            refine AW.pre htk0 ?_
            have hl := dI.len
            have hvl : (vsF rf).length = rf.length := List.length_map ..
            ((with_reducible refine t_value ?_ ?hs); (case hs => exact rfl); (with_reducible refine' r_local (by assumption) ?k1 ?k2 ?_); (case k1 => walk_at "has"); (case k2 => ((try dsimp only); walk_at "has")); (with_reducible refine' u_list ?k1 ?k2 ?_); (case k1 => ((try dsimp only); walk_at "has")); (case k2 => walk_at "len"))
            cases rf with
            | nil =>
              refine if_f (by decide) ?_
              ((with_reducible refine r_cons ?_); (with_reducible refine r_break ?_))
              refine hb2 _ ?_
              (with_reducible refine r_nil ?_)
              refine (hnx _ ⟨_, .all, _, _, _, _, rfl, rfl, dI, htk hB ?_⟩).1
              rcases dI.mem.mp hvs with h | h
              · exact h
              · cases h
            | cons t fs =>
              obtain ⟨r, hr, hsa⟩ := dI.fr t (.head _)
              have g4 := has_su (getN_mem hr)
              rw [← hsa] at g4
              have esu := suN_get hr
              have hvf : t.v ∉ vsF fs := by
                have := (List.nodup_append.mp dI.nd).2.1
                exact (List.nodup_cons.mp this).1
              rw [List.length_cons] at hl hm
              have hvl2 : (vsF fs).length = fs.length := List.length_map ..
              refine if_t (by simp [vsF]) ?_
              rw [ledC_cons]
              (with_reducible refine r_cons ?_)
              refine r_try O' (tv := .ty "StopIteration") (cls := .type "StopIteration") (by walk_at "has") (by walk_at "has") (fun tv' i => by cases i.of_ty; exact Matches.builtin (by kernel_rfl) (by kernel_rfl) (by kernel_rfl)) ?_
              ((with_reducible refine r_cons ?_); (with_reducible refine r_assign ?_ ?hs); (case hs => exact rfl))
              refine r_call_next O' hh' ?_ rfl
              ((with_reducible refine r_subs ?_); (with_reducible refine' r_local (by assumption) ?k1 ?k2 ?_); (case k1 => walk_at "has"); (case k2 => ((try dsimp only); walk_at "has")); (with_reducible refine r_unary ?_); (with_reducible refine r_int ?_); (with_reducible refine una_neg ?_))
              refine i_list_neg (xs := (fs.map fun t => MV.ref t.wr).reverse ++ [.ref t.wr]) (v := .ref t.wr) (by walk_at "has") (by decide) (last_le _ _) (by rw [List.length_append, List.length_reverse, List.length_map]; simp only [List.length_cons, List.length_nil]; omega) (last_get _ _) ?_
              refine ⟨t.wr, t.it, t.sa, t.i, r.su.map .int, rfl, by walk_at "has", by walk_at "has", by walk_at "has", fun y hy => ?_, fun hy => ?_⟩
              · obtain ⟨y, hy', rfl⟩ := get_ints hy
                refine ⟨_, .tail (.tail (.tail (.tail (.tail (.tail .head))))), ?_⟩
                dsimp only
                ((with_reducible refine' r_store (by assumption) ?k1 ?k2 ?_); (case k1 => walk_at "has"); (case k2 => ((try dsimp only); walk_at "put")); (try dsimp only); (with_reducible refine r_cons ?_); (with_reducible refine r_break ?_))
                have hlt := (List.getElem?_eq_some_iff.mp hy').1
                have hn' : leftU (suN ns) (keysN ns) seen + (((suN ns t.v).length - t.i) + leftF (suN ns) fs) ≤ n := hn
                rw [esu] at hn'
                refine hb4 _ ?_
                (with_reducible refine r_nil ?_)
                refine (hn2 _ ⟨n - 1, by omega, y, ep2, seen, B, ⟨t.v, t.wr, t.it, t.sa, t.i + 1⟩ :: fs, ?_, ⟨dI.pm, dI.nd, dI.sub, dI.topo, ?_⟩, ⟨t.i, rfl, by rw [esu]; exact hy', ch.1, ch.2⟩, hcl r (getN_mem hr) y (List.mem_of_getElem? hy'), ?_, .inr hvs, hB⟩).1
                · rw [ledC_cons]
                · intro u hu
                  rcases List.mem_cons.mp hu with rfl | hu
                  · exact ⟨r, hr, hsa⟩
                  · exact dI.fr u (.tail _ hu)
                · show _ + (((suN ns t.v).length - (t.i + 1)) + leftF (suN ns) fs) ≤ n - 1
                  rw [esu]
                  omega
              · refine ⟨_, .tail (.tail (.tail (.tail (.tail (.tail .head))))), fun a s' xa => ⟨a, _, false, _, rfl, xa, rfl, fun E' => ?_⟩⟩
                have Om := O'.mark a
                dsimp only
                (with_reducible refine r_cons ?_)
                refine r_del ?_
                ((with_reducible refine' r_local (by assumption) ?k1 ?k2 ?_); (case k1 => walk_at "has"); (case k2 => ((try dsimp only); walk_at "has")); (with_reducible refine r_meth PySem.F.plainAttrs_list PySem.F.slot_list_pop PySem.F.type_list_pop ?_ ?h1 ?h2 ?h3 ?h4); (case h1 => exact rfl); (case h2 => exact rfl); (case h3 => exact rfl); (case h4 => exact rfl); (with_reducible refine' r_local (by assumption) ?k1 ?k2 ?_); (case k1 => walk_at "has"); (case k2 => ((try dsimp only); walk_at "has")); (with_reducible refine' And.intro (OfT.list ?k1) ?_); (case k1 => ((try dsimp only); walk_at "has")); (with_reducible refine p_nil ?_); (with_reducible refine' k_pop ?k1 ?k2 ?_); (case k1 => ((try dsimp only); walk_at "upd")); (case k2 => walk_at "len"); (try dsimp only))
                refine ⟨nk, dkF fs ++ [(t.v, .int fs.length)], ep2, t.v, .int fs.length, rfl, rfl, ?_, ?_, _, fun ep' => .tail .head, fun ep' => ?_⟩
                · rw [List.length_append, dkF_length]; simp only [List.length_cons, List.length_nil]; omega
                · exact mval_top hvf
                · have := mwithout_dk (t := t) hvf
                  rw [show dkF (t :: fs) = dkF fs ++ [(t.v, .int fs.length)] from rfl] at this
                  rw [this]
                  ((with_reducible refine r_cons ?_); (with_reducible refine r_expr (by assumption) ?_ ?hs); (case hs => exact rfl); (with_reducible refine r_meth PySem.F.plainAttrs_list PySem.F.slot_list_pop PySem.F.type_list_pop ?_ ?h1 ?h2 ?h3 ?h4); (case h1 => exact rfl); (case h2 => exact rfl); (case h3 => exact rfl); (case h4 => exact rfl); (with_reducible refine' r_local (by assumption) ?k1 ?k2 ?_); (case k1 => walk_at "has"); (case k2 => ((try dsimp only); walk_at "has")); (with_reducible refine' And.intro (OfT.list ?k1) ?_); (case k1 => ((try dsimp only); walk_at "has")); (with_reducible refine p_nil ?_); (with_reducible refine' k_pop ?k1 ?k2 ?_); (case k1 => ((try dsimp only); walk_at "upd")); (case k2 => walk_at "len"); (try dsimp only); (with_reducible refine r_nil ?_); (with_reducible refine r_nil ?_))
                  have hlen : r.su.length ≤ t.i := by simpa using hy
                  have hall : ∀ y ∈ suN ns t.v, y ∈ B := fun y hy => ch.1 y (by rw [List.take_of_length_le (by rw [esu]; exact hlen)]; exact hy)
                  have hn' : leftU (suN ns) (keysN ns) seen + (((suN ns t.v).length - t.i) + leftF (suN ns) fs) ≤ n := hn
                  refine (hn4 _ ⟨m - 1, by omega, ep', seen, B ++ [t.v], fs, rfl, ?_, dI.pop hall, (ch.2.mono fun y hy => List.mem_append_left _ hy).told (by simp), by omega, hvs, fun k hk => List.mem_append_left _ (hB k hk), by omega⟩).1
                  dsimp only
                  walk_at "take"
          · exact hr2 _ _ (hrt _ _ (hQF _ _ ⟨l', t, q⟩))
    · rintro lo led ⟨no, ep2, seen, B, rfl, rfl, dI, hB⟩
      have e3 : (keySrc D (kvsN ns) ep).items.length = (keysN ns).length := by show ((kvsN ns).map _).length = _; unfold kvsN keysN; simp
      rw [e3, List.take_length] at hB
      ((with_reducible refine r_nil ?_); (with_reducible refine r_cons ?_); (with_reducible refine r_return ?_); (with_reducible refine r_none ?_))
      refine hQF _ _ ⟨_, ?_, hnone B dI.topo hB⟩
      exact .skip (.skip (.skip (.skip .all)))
end
section
variable {C : Cx} {σ : MS}
theorem e_last {elt : PySem.Expr} {gens : List Comprehension} {sc : Scope} {pos : Pos} {d : Nat} {acc : Addr} {Q : MS → Prop} (hg : gens[d + 1]? = none) (h : EV C elt (fun v σ₁ => CALLB C "list.append" [.ref acc, v] (fun _ σ₂ => Q σ₂) NoE σ₁) NoE σ) : EMIT C elt gens sc pos d acc Q σ := by
  unfold EMIT; rw [hg]; exact h
theorem e_more {elt : PySem.Expr} {gens : List Comprehension} {sc : Scope} {pos : Pos} {d : Nat} {acc : Addr} {Q : MS → Prop} {g' : Comprehension} (hg : gens[d + 1]? = some g') (ha : g'.is_async = 0) (hf : ∀ x, foldedSetIterable g'.iter C.env x = pure x)
    (h : EV C g'.iter (fun v σ₁ => ∃ S, ITER C v S σ₁ ∧ ∀ it, S.Ok it → CLP C (.ListComp elt gens sc pos) (d + 1) it acc Q ⟨σ₁.loc, (it, S.at_ 0) :: σ₁.led⟩) NoE σ) : EMIT C elt gens sc pos d acc Q σ := by
  unfold EMIT; rw [hg]; exact ⟨ha, hf, h⟩
end
noncomputable def rdyN (ns : List Nd) : List Int := (ns.filter fun r => decide (r.np = 0)).map (·.key)
theorem rdyN_snoc (ns : List Nd) (r : Nd) : rdyN (ns ++ [r]) = if r.np = 0 then rdyN ns ++ [r.key] else rdyN ns := by
  unfold rdyN
  rw [List.filter_append, List.map_append]
  by_cases h : r.np = 0
  · simp [h]
  · simp [h]
section
variable {C : Cx} {σ : MS} {s : Shared} {E : Value → Shared → Prop} {names : List (Str × NameKind)} {cells : List (Str × Addr)}
  {x d D : Addr} {ep : Nat} {rd : MV} {p f : Int} {ns : List Nd} {rest : List (Addr × MO)} {loc : Loc}
theorem prepare_spec (O : C.Ok GL names cells) (hh : C.A.handled = none) (hK : C.K = KK C.w) (hlv : 3 ≤ C.lv) (hS : (D == sysModules) = false) (hz : ns.length ≤ 100) (nd : (keysN ns).Nodup) (hb : bndN ns 1000) (hcl : ∀ r ∈ ns, ∀ y ∈ r.su, y ∈ keysN ns) {Q : MV → MS → Prop} {X : Addr → Value → MS → Prop}
    (hnone : ∀ rl B, Topo (suN ns) B → (∀ k ∈ keysN ns, k ∈ B) → Q .none ⟨loc, ledR x d D rl ep (rdyN ns) p f ns rest⟩)
    (hsome : ∀ rl a, (∃ S, Ring (suN ns) S) → X a (.ref 62) ⟨loc, ledR x d D rl ep (rdyN ns) p f ns rest⟩) :
    CALLR C 99 [.ref x] Q (EXC C X) ⟨loc, ledT x d D ep .none p f ns rest⟩ := by
  refine CALLR.keepX (call_K O (ps := [Str.ofString "self"]) (more := [Str.ofString "cycle"]) (morec := []) (by omega) (by rw [hK]; exact rfl) (by rw [hK]; exact rfl) (fun args' s ia _ => by obtain ⟨v, rfl, i⟩ := ia.one; exact BindsTo.of_eq rfl)
    (.loc (by decide +kernel) .nil) (by decide +kernel) (by decide +kernel) (by decide +kernel) (by decide +kernel) rfl rfl rfl ?_)
  intro C' as has O' hp hw hK' hlv' hh'
  rw [hK, ← hw] at hK'
  rw [hh] at hh'
  cases as with
  | cons _ _ => cases has
  | nil =>
    dsimp only [cellLed, List.map, List.append, List.nil_append, List.cons_append] at O' ⊢
    refine AW.hideQ fun QF hQF => ?_
    ((with_reducible refine r_cons ?_); (with_reducible refine r_if ?_); (with_reducible refine t_compare ?_ ?hs); (case hs => exact rfl); (with_reducible refine r_attr ?_ ?hs); (case hs => with_unfolding_all rfl); (with_reducible refine' r_local (by assumption) ?k1 ?k2 ?_); (case k1 => walk_at "has"); (case k2 => ((try dsimp only); walk_at "has")); (with_reducible refine' gT (by assumption) (by assumption) find_T2 ?k1 ?k2 ?k3 ?k4 ?_); (case k1 => ((try dsimp only); walk_at "has")); (case k2 => ((try dsimp only); walk_at "has")); (case k3 => walk_at "has"); (case k4 => exact fun _ h => nomatch h); (with_reducible refine r_none ?_); (with_reducible refine c_isnot_nn ?_); (with_reducible refine u_bool ?_); (with_reducible refine ite_ff ?_); (with_reducible refine r_nil ?_); (with_reducible refine r_cons ?_); (with_reducible refine r_set_attr ?_ ?hs); (case hs => exact rfl))
    refine r_comp O' (n := [(Str.ofString ".0", .local), (Str.ofString "i", .local)]) (c := []) (l := [(Str.ofString ".0", none), (Str.ofString "i", none)]) (.loc (.loc .nil)) rfl (by decide +kernel) (by decide +kernel) ?_ (fun _ => rfl)
    ((with_reducible refine r_meth PySem.F.plainAttrs_dict PySem.F.slot_dict_values PySem.F.type_dict_values ?_ ?h1 ?h2 ?h3 ?h4); (case h1 => exact rfl); (case h2 => exact rfl); (case h3 => exact rfl); (case h4 => exact rfl); (with_reducible refine r_attr ?_ ?hs); (case hs => with_unfolding_all rfl); (with_reducible refine' r_local (by assumption) ?k1 ?k2 ?_); (case k1 => walk_at "has"); (case k2 => ((try dsimp only); walk_at "has")); (with_reducible refine' gT (by assumption) (by assumption) find_T1 ?k1 ?k2 ?k3 ?k4 ?_); (case k1 => ((try dsimp only); walk_at "has")); (case k2 => ((try dsimp only); walk_at "has")); (case k3 => walk_at "has"); (case k4 => exact fun _ h => nomatch h); (with_reducible refine' And.intro (OfT.dict ?k1) ?_); (case k1 => ((try dsimp only); walk_at "has")); (with_reducible refine p_nil ?_); (with_reducible refine' k_values ?k1 ?k2 ?_); (case k1 => assumption); (case k2 => ((try dsimp only); walk_at "has")); intro _; (try dsimp only))
    rename_i vw
    refine ⟨_, iter_vals (ms := kvsN ns) (ep := ep) (by walk_at "has") (by walk_at "has"), fun C2 it rl O2 hp2 hw2 hK2 hlv2 hA2 _ So => ?_⟩
    rw [hK', ← hw2] at hK2
    refine c_loop rfl (by rw [hA2]; exact hh') So (fun j lo led => ∃ a, lo = [(Str.ofString ".0", none), (Str.ofString "i", a)] ∧ led = (rl, .list ((rdyN (ns.take j)).map .int)) :: (vw, .vals D) :: ledT x d D ep .none p f ns rest) ⟨_, rfl, rfl⟩ ?_ ?_ ?_
    · rintro j lo led it o ⟨a, rfl, rfl⟩
      show Has D (MO.dict (kvsN ns) ep) _
      walk_at "has"
    · rintro j y o lo led ⟨a, rfl, rfl⟩ hy QQ hn
      have hy2 : ∃ r, ns[j]? = some r ∧ y = .ref r.a := by
        have hy' : ((kvsN ns).map fun p => p.2)[j]? = some y := hy
        unfold kvsN at hy'
        rw [List.map_map, List.getElem?_map] at hy'
        cases e : ns[j]? with
        | none => rw [e] at hy'; cases hy'
        | some r => rw [e] at hy'; cases hy'; exact ⟨r, rfl, rfl⟩
      obtain ⟨r, hr, rfl⟩ := hy2
      have hlt := (List.getElem?_eq_some_iff.mp hr).1
      have g1 := has_inst (List.mem_of_getElem? hr)
      have g2 := has_attrs (List.mem_of_getElem? hr)
      have hlen : (rdyN (ns.take j)).length ≤ 100 := by
        unfold rdyN
        rw [List.length_map]
        refine Nat.le_trans (List.length_filter_le ..) ?_
        rw [List.length_take]; omega
      have htk : rdyN (ns.take (j + 1)) = if r.np = 0 then rdyN (ns.take j) ++ [r.key] else rdyN (ns.take j) := by
        rw [List.take_add_one, hr]; exact rdyN_snoc _ r
      ((with_reducible refine a_name ?_); (with_reducible refine' r_store (by assumption) ?k1 ?k2 ?_); (case k1 => walk_at "has"); (case k2 => ((try dsimp only); walk_at "put")); (try dsimp only); (with_reducible refine s_one ?_); (with_reducible refine t_compare ?_ ?hs); (case hs => exact rfl); (with_reducible refine r_attr ?_ ?hs); (case hs => with_unfolding_all rfl); (with_reducible refine' r_local (by assumption) ?k1 ?k2 ?_); (case k1 => walk_at "has"); (case k2 => ((try dsimp only); walk_at "has")); (with_reducible refine' gN (by assumption) (by assumption) slot_np ?k1 ?k2 ?k3 ?k4 ?_); (case k1 => ((try dsimp only); walk_at "has")); (case k2 => ((try dsimp only); walk_at "has")); (case k3 => exact rfl); (case k4 => exact fun _ h => nomatch h); (with_reducible refine r_int ?_); (with_reducible refine c_eq ?_); (with_reducible refine u_bool ?_))
      by_cases hnp : r.np = 0
      · refine if_t (by simpa using hnp) ?_
        refine e_last rfl ?_
        ((with_reducible refine r_attr ?_ ?hs); (case hs => with_unfolding_all rfl); (with_reducible refine' r_local (by assumption) ?k1 ?k2 ?_); (case k1 => walk_at "has"); (case k2 => ((try dsimp only); walk_at "has")); (with_reducible refine' gN (by assumption) (by assumption) slot_node ?k1 ?k2 ?k3 ?k4 ?_); (case k1 => ((try dsimp only); walk_at "has")); (case k2 => ((try dsimp only); walk_at "has")); (case k3 => exact rfl); (case k4 => exact fun _ h => nomatch h); (with_reducible refine' k_append ?k1 ?k2 ?_); (case k1 => ((try dsimp only); walk_at "upd")); (case k2 => walk_at "len"); (try dsimp only))
        rw [if_pos hnp] at htk
        refine hn _ ⟨_, ?_, _, rfl, rfl⟩
        rw [htk, List.map_append]
        dsimp only [List.map]
        walk_at "take"
      · refine if_f (by simpa using hnp) ?_
        rw [if_neg hnp] at htk
        refine hn _ ⟨_, ?_, _, rfl, rfl⟩
        rw [htk]
        dsimp only
        walk_at "take"
    · rintro lo led ⟨a, rfl, rfl⟩
      have e3 : (valSrc D (kvsN ns) ep).items.length = ns.length := by show ((kvsN ns).map _).length = _; unfold kvsN; simp
      rw [e3, List.take_length]
      ((with_reducible refine' r_local (by assumption) ?k1 ?k2 ?_); (case k1 => walk_at "has"); (case k2 => ((try dsimp only); walk_at "has")); (with_reducible refine' sT (by assumption) (by assumption) take_T2 ?k1 ?k2 ?k3 ?k4 ?_); (case k1 => ((try dsimp only); walk_at "has")); (case k2 => ((try dsimp only); walk_at "upd")); (case k3 => walk_at "fput"); (case k4 => exact Nat.le_of_ble_eq_true rfl); (try dsimp only); (with_reducible refine r_cons ?_); (with_reducible refine r_assign ?_ ?hs); (case hs => exact rfl); (with_reducible refine r_mcall (c := 144) (f := 134) (by assumption) ?h1 ?h2 ?h3 ?h4 ?_ ?h5 ?h6 ?h7 ?h8); (case h1 => (rw [‹Cx.K _ = _›]; exact cls_T _)); (case h2 => (rw [‹Cx.K _ = _›]; exact m_cycle _)); (case h3 => (rw [‹Cx.K _ = _›]; exact isf_134 _)); (case h4 => (rw [‹Cx.K _ = _›]; exact kp_134 _)); (case h5 => exact rfl); (case h6 => exact rfl); (case h7 => exact rfl); (case h8 => exact rfl); (with_reducible refine' r_local (by assumption) ?k1 ?k2 ?_); (case k1 => walk_at "has"); (case k2 => ((try dsimp only); walk_at "has")); (with_reducible refine' ⟨_, _, _, _, rfl, ?k1, ?k2, ?k3, ?_⟩); (case k1 => ((try dsimp only); walk_at "has")); (case k2 => ((try dsimp only); walk_at "has")); (case k3 => exact off_T (by decide +kernel)); (with_reducible refine p_nil ?_))
      refine CALLR.pre (l' := ledT x d D ep (.ref rl) p f ns ((rl, .list ((rdyN ns).map .int)) :: rest)) ?_ (cycle_spec O' hh' hK' (by omega) hS hz nd hb hcl (fun B hB hk => ?_) (fun a ys hne hyl hr => ?_))
      · dsimp only [ledT]
        walk_at "take"
      · ((with_reducible refine' r_store (by assumption) ?k1 ?k2 ?_); (case k1 => walk_at "has"); (case k2 => ((try dsimp only); walk_at "put")); (try dsimp only); (with_reducible refine r_cons ?_); (with_reducible refine r_if ?_); (with_reducible refine t_value ?_ ?hs); (case hs => exact rfl); (with_reducible refine' r_local (by assumption) ?k1 ?k2 ?_); (case k1 => walk_at "has"); (case k2 => ((try dsimp only); walk_at "has")); (with_reducible refine u_none ?_); (with_reducible refine ite_ff ?_); (with_reducible refine r_nil ?_); (with_reducible refine r_nil ?_))
        refine hQF _ _ ⟨_, ?_, hnone rl B hB hk⟩
        unfold ledR ledT
        dsimp only
        walk_at "take"
      · ((with_reducible refine' r_store (by assumption) ?k1 ?k2 ?_); (case k1 => walk_at "has"); (case k2 => ((try dsimp only); walk_at "put")); (try dsimp only); (with_reducible refine r_cons ?_); (with_reducible refine r_if ?_); (with_reducible refine t_value ?_ ?hs); (case hs => exact rfl); (with_reducible refine' r_local (by assumption) ?k1 ?k2 ?_); (case k1 => walk_at "has"); (case k2 => ((try dsimp only); walk_at "has")); (with_reducible refine' u_list ?k1 ?k2 ?_); (case k1 => ((try dsimp only); walk_at "has")); (case k2 => walk_at "len"))
        refine if_t (by cases ys with | nil => exact absurd rfl hne | cons _ _ => rfl) ?_
        (with_reducible refine r_cons ?_)
        refine r_raise_own O' hh' (by rw [hK']; exact exc_C _) (by walk_at "has") (by walk_at "has") ?_
        ((with_reducible refine p_cons ?_ ?hs); (case hs => exact rfl))
        refine r_fstr1 ?_
        ((with_reducible refine r_str ?_); (with_reducible refine p_cons ?_ ?hs); (case hs => exact rfl); (with_reducible refine' r_local (by assumption) ?k1 ?k2 ?_); (case k1 => walk_at "has"); (case k2 => ((try dsimp only); walk_at "has")); (with_reducible refine p_nil ?_))
        refine ⟨Nat.le_of_ble_eq_true rfl, fun e s' xa => ⟨e, _, false, _, rfl, xa, _, ?_, hsome rl e hr⟩⟩
        unfold ledR ledT
        dsimp only
        walk_at "take"
end
noncomputable def uldGo : List Int → List Int → List Int → List Int × List Int
  | [], m, ys => (m, ys)
  | x :: r, m, ys => if x ∈ ys then uldGo r m (ys.erase x) else uldGo r (m ++ [x]) ys
noncomputable def uld (xs ys : List Int) : List Int × List Int := uldGo xs.reverse [] ys
theorem matches_VE {C : Cx} {tv' : Value} (i : Is tv' (.ty "ValueError")) : Matches C (.type "ValueError") tv' := by
  cases i.of_ty; exact Matches.builtin (by kernel_rfl) (by kernel_rfl) (by kernel_rfl)
section
variable {C : Cx} {σ : MS} {s : Shared} {E : Value → Shared → Prop} {names : List (Str × NameKind)} {cells : List (Str × Addr)}
  {a b : Addr} {xs ys : List Int} {rest : List (Addr × MO)} {loc : Loc}
theorem uld_spec (O : C.Ok GL names cells) (hh : C.A.handled = none) (hK : C.K = KK C.w) (hlv : 2 ≤ C.lv) {Q : MV → MS → Prop} (hx : xs.length ≤ 1000) (hy : ys.length ≤ 1000)
    (h : ∀ c t, Q (.ref t) ⟨loc, (t, .tup [.ref c, .ref b]) :: (c, .list ((uld xs ys).1.map .int)) :: (a, .list []) :: (b, .list ((uld xs ys).2.map .int)) :: rest⟩) :
    CALLR C 28 [.ref a, .ref b] Q E ⟨loc, (a, .list (xs.map .int)) :: (b, .list (ys.map .int)) :: rest⟩ := by
  refine CALLR.noexc (call_K O (ps := [Str.ofString "expected", Str.ofString "actual"]) (more := [Str.ofString "missing", Str.ofString "item"]) (morec := []) (by omega) (by rw [hK]; exact rfl) (by rw [hK]; exact rfl) (fun args' s ia _ => by obtain ⟨v, w, rfl, i, j⟩ := ia.two; exact BindsTo.of_eq rfl)
    (.loc (by decide +kernel) (.loc (by decide +kernel) .nil)) (by decide +kernel) (by decide +kernel) (by decide +kernel) (by decide +kernel) rfl rfl rfl ?_)
  intro C' as has O' hp hw hK' hlv' hh'
  rw [hK, ← hw] at hK'
  rw [hh] at hh'
  cases as with
  | cons _ _ => cases has
  | nil =>
    dsimp only [cellLed, List.map, List.append, List.nil_append, List.cons_append] at O' ⊢
    refine AW.hide fun QF hQF EF _ => ?_
    ((with_reducible refine r_cons ?_); (with_reducible refine r_assign ?_ ?hs); (case hs => exact rfl); (with_reducible refine r_list ?_); (with_reducible refine p_nil ?_); (with_reducible show _ ≤ 1000000 ∧ _); refine And.intro ?k1 ?_; (case k1 => walk_at "len"); intro _; (try dsimp only); (with_reducible refine' r_store (by assumption) ?k1 ?k2 ?_); (case k1 => walk_at "has"); (case k2 => ((try dsimp only); walk_at "put")); (try dsimp only); (with_reducible refine r_cons ?_))
    rename_i c
    refine r_while (fun n σ => ∃ xs' ys' m' it, n = xs'.length ∧ xs'.length + m'.length ≤ 1000 ∧ ys'.length ≤ 1000 ∧ uldGo xs'.reverse m' ys' = uld xs ys ∧
      σ = ⟨[(Str.ofString "expected", some (.ref a)), (Str.ofString "actual", some (.ref b)), (Str.ofString "missing", some (.ref c)), (Str.ofString "item", it)],
        (c, .list (m'.map .int)) :: (a, .list (xs'.map .int)) :: (b, .list (ys'.map .int)) :: rest⟩) ?_ xs.length ⟨xs, ys, [], none, rfl, by simpa using hx, hy, rfl, rfl⟩
    rintro n σ ⟨xs', ys', m', it, rfl, hl, hy', hu, rfl⟩ QQ EE hn _ _ _
    ((with_reducible refine t_value ?_ ?hs); (case hs => exact rfl); (with_reducible refine' r_local (by assumption) ?k1 ?k2 ?_); (case k1 => walk_at "has"); (case k2 => ((try dsimp only); walk_at "has")); (with_reducible refine' u_list ?k1 ?k2 ?_); (case k1 => ((try dsimp only); walk_at "has")); (case k2 => walk_at "len"))
    rcases List.eq_nil_or_concat xs' with rfl | ⟨xs', x, rfl⟩
    · refine if_f (by simp) ?_
      ((with_reducible refine r_nil ?_); (with_reducible refine r_cons ?_); (with_reducible refine r_return ?_); (with_reducible refine r_tuple ?_); (with_reducible refine p_cons ?_ ?hs); (case hs => exact rfl); (with_reducible refine' r_local (by assumption) ?k1 ?k2 ?_); (case k1 => walk_at "has"); (case k2 => ((try dsimp only); walk_at "has")); (with_reducible refine p_cons ?_ ?hs); (case hs => exact rfl); (with_reducible refine' r_local (by assumption) ?k1 ?k2 ?_); (case k1 => walk_at "has"); (case k2 => ((try dsimp only); walk_at "has")); (with_reducible refine p_nil ?_); (with_reducible show _ ≤ 1000000 ∧ _); refine And.intro ?k1 ?_; (case k1 => walk_at "len"); intro _; (try dsimp only))
      rename_i t
      have e : uld xs ys = (m', ys') := hu.symm
      have := h c t
      rw [e] at this
      exact hQF _ _ this
    · refine if_t (by simp) ?_
      rw [List.concat_eq_append] at *
      rw [List.map_append]
      try dsimp only [List.map_cons, List.map_nil]
      have hl' : xs'.length + 1 + m'.length ≤ 1000 := by simpa using hl
      have hu' : (if x ∈ ys' then uldGo xs'.reverse m' (ys'.erase x) else uldGo xs'.reverse (m' ++ [x]) ys') = uld xs ys := by
        rw [← hu, List.reverse_append]; rfl
      ((with_reducible refine r_cons ?_); (with_reducible refine r_assign ?_ ?hs); (case hs => exact rfl); (with_reducible refine r_meth PySem.F.plainAttrs_list PySem.F.slot_list_pop PySem.F.type_list_pop ?_ ?h1 ?h2 ?h3 ?h4); (case h1 => exact rfl); (case h2 => exact rfl); (case h3 => exact rfl); (case h4 => exact rfl); (with_reducible refine' r_local (by assumption) ?k1 ?k2 ?_); (case k1 => walk_at "has"); (case k2 => ((try dsimp only); walk_at "has")); (with_reducible refine' And.intro (OfT.list ?k1) ?_); (case k1 => ((try dsimp only); walk_at "has")); (with_reducible refine p_nil ?_); (with_reducible refine' k_pop ?k1 ?k2 ?_); (case k1 => ((try dsimp only); walk_at "upd")); (case k2 => walk_at "len"); (try dsimp only); (with_reducible refine' r_store (by assumption) ?k1 ?k2 ?_); (case k1 => walk_at "has"); (case k2 => ((try dsimp only); walk_at "put")); (try dsimp only); (with_reducible refine r_cons ?_))
      refine r_try O' (tv := .ty "ValueError") (cls := .type "ValueError") (by walk_at "has") (by walk_at "has") (fun tv' i => matches_VE i) ?_
      ((with_reducible refine r_cons ?_); (with_reducible refine r_expr (by assumption) ?_ ?hs); (case hs => exact rfl); (with_reducible refine r_meth PySem.F.plainAttrs_list PySem.F.slot_list_remove PySem.F.type_list_remove ?_ ?h1 ?h2 ?h3 ?h4); (case h1 => exact rfl); (case h2 => exact rfl); (case h3 => exact rfl); (case h4 => exact rfl); (with_reducible refine' r_local (by assumption) ?k1 ?k2 ?_); (case k1 => walk_at "has"); (case k2 => ((try dsimp only); walk_at "has")); (with_reducible refine' And.intro (OfT.list ?k1) ?_); (case k1 => ((try dsimp only); walk_at "has")); (with_reducible refine p_cons ?_ ?hs); (case hs => exact rfl); (with_reducible refine' r_local (by assumption) ?k1 ?k2 ?_); (case k1 => walk_at "has"); (case k2 => ((try dsimp only); walk_at "has")); (with_reducible refine p_nil ?_))
      refine' k_remove hh' ?k1 ?k2 ?k3 ?k4 ?k5
      case k1 => walk_at "has"
      case k2 => intro _; walk_at "upd"
      case k3 => walk_at "len"
      case k4 =>
        intro hm
        rw [if_pos hm] at hu'
        ((with_reducible refine r_nil ?_); (with_reducible refine r_nil ?_); (with_reducible refine r_nil ?_))
        refine (hn _ ?_).1
        exact ⟨xs'.length, by simp, xs', ys'.erase x, m', _, rfl, by omega, by have := List.length_erase_le (a := x) (l := ys'); omega, hu', rfl⟩
      case k5 =>
        intro hm e
        rw [if_neg hm] at hu'
        refine ⟨rfl, fun E' => ?_⟩
        have Om := O'.mark e
        ((with_reducible refine r_cons ?_); (with_reducible refine r_expr (by assumption) ?_ ?hs); (case hs => exact rfl); (with_reducible refine r_meth PySem.F.plainAttrs_list PySem.F.slot_list_append PySem.F.type_list_append ?_ ?h1 ?h2 ?h3 ?h4); (case h1 => exact rfl); (case h2 => exact rfl); (case h3 => exact rfl); (case h4 => exact rfl); (with_reducible refine' r_local (by assumption) ?k1 ?k2 ?_); (case k1 => walk_at "has"); (case k2 => ((try dsimp only); walk_at "has")); (with_reducible refine' And.intro (OfT.list ?k1) ?_); (case k1 => ((try dsimp only); walk_at "has")); (with_reducible refine p_cons ?_ ?hs); (case hs => exact rfl); (with_reducible refine' r_local (by assumption) ?k1 ?k2 ?_); (case k1 => walk_at "has"); (case k2 => ((try dsimp only); walk_at "has")); (with_reducible refine p_nil ?_); (with_reducible refine' k_append ?k1 ?k2 ?_); (case k1 => ((try dsimp only); walk_at "upd")); (case k2 => walk_at "len"); (try dsimp only); (with_reducible refine r_nil ?_); (with_reducible refine r_nil ?_))
        refine (hn _ ?_).1
        exact ⟨xs'.length, by simp, xs', ys', m' ++ [x], some (.int x), rfl, by simp; omega, hy', hu', by simp⟩
end
local macro_rules | `(tactic| walk_at "relab") => `(tactic| first
  | (with_reducible exact Relab.nil)
  | ((with_reducible refine' Relab.loc ?kr); (case kr => walk_at "relab"))
  | ((with_reducible refine' Relab.glob ?kr); (case kr => walk_at "relab"))
  | ((with_reducible refine' Relab.free ?ka ?kb ?kr); (case ka => walk_at "has"); (case kb => walk_at "has"); (case kr => walk_at "relab")))
theorem range_get {a c : Int} {n i : Nat} {y : MV} (h : ((rangeL a c n).map MV.int)[i]? = some y) : i < n ∧ y = .int (a + (i : Int) * c) := by
  obtain ⟨q, hq, rfl⟩ := get_ints h
  unfold rangeL at hq
  rw [List.getElem?_map] at hq
  cases e : (List.range n)[i]? with
  | none => rw [e] at hq; cases hq
  | some j =>
    rw [e] at hq
    cases hq
    obtain ⟨h1, h2⟩ := List.getElem?_eq_some_iff.mp e
    rw [List.length_range] at h1
    rw [List.getElem_range] at h2
    exact ⟨h1, by rw [h2]⟩
section
variable {C : Cx} {σ : MS} {s : Shared} {E : Value → Shared → Prop} {names : List (Str × NameKind)} {cells : List (Str × Addr)} {loc : Loc} {led : List (Addr × MO)}
theorem i_slice_base {value slice : PySem.Expr} {a b : Addr} {xs : List MV} {lo hi st : Option Int} {Q : MV → MS → Prop} (ha : ∃ ob, C.hb.get? a = some ob ∧ (MO.list xs).ok ob) (hb : Has b (.slice lo hi st) σ.led) (h0 : st ≠ some 0) (hz : xs.length ≤ 1000000) (h : ∀ D, Q (.ref D) ⟨σ.loc, (D, .list (mpick xs lo hi st)) :: σ.led⟩) : SUBT C value slice (.ref a) (.ref b) Q E σ := fun o' i' io ii s R => by
  cases io.of_ref; cases ii.of_ref
  obtain ⟨ob, ho, vs, n, hv, rfl⟩ := ha
  have ho := R.keep _ _ ho
  obtain ⟨os, hos, vl, vu, vst, hc, hd, il, iu, is⟩ := R.at hb
  obtain ⟨ops, hs⟩ := subscripted_false slice (.ref a) (.ref b)
  have hl := hv.length
  refine tail_any (IsL_of s ho) slot_list_getitem.lookup (wpAny_getItem_list_slice (items := vs.toArray) ⟨_, ho, rfl, n, rfl⟩ ⟨os, hos, hc, hd⟩ il iu is h0 ?_ (by show vs.length ≤ _; rw [sizeLine_eq]; omega)) hs
  refine ⟨_, _, Is.ref _, R.alloc (.list (mpick xs lo hi st)) ⟨mpick vs lo hi st, 0, hv.pick lo hi st, ?_⟩ rfl, h _⟩
  unfold slicePick mpick
  simp
theorem numbers2 (O : C.Ok GL names cells) (hh : C.A.handled = none) (hK : C.K = KK C.w) (hlv : 3 ≤ C.lv) {sc : Addr} {ns : List Int} (hsc : ∃ ob, C.hb.get? sc = some ob ∧ (MO.list (ns.map .int)).ok ob) (hz : ns.length ≤ 1000) {Q : MV → MS → Prop}
    (h : ∀ D (xs : List Int), xs.length = 8 → (∀ x ∈ xs, 0 ≤ x ∧ x < 403368) → Q (.ref D) ⟨loc, (D, .list (xs.map .int)) :: led⟩) : CALLR C 153 [.ref sc] Q E ⟨loc, led⟩ := by
  refine CALLR.keep (CALLR.noexc (call_Kb O (ps := [Str.ofString "script"]) (more := []) (morec := [Str.ofString "start"]) (by omega) (by rw [hK]; exact rfl) (by rw [hK]; exact rfl) (fun args' s ia _ => by obtain ⟨v, rfl, i⟩ := ia.one; exact BindsTo.of_eq rfl)
    (.cell (by decide +kernel) .nil) (by decide +kernel) (by decide +kernel) (by decide +kernel) (by decide +kernel) rfl rfl rfl ?_))
  intro C' as has O' hp hw hK' hlv' hh' hb'
  rw [hK, ← hw] at hK'
  rw [hh] at hh'
  obtain ⟨a1, a2, rfl⟩ : ∃ a1 a2, as = [a1, a2] := by
    match as, has with
    | [a1, a2], _ => exact ⟨a1, a2, rfl⟩
  dsimp only [cellLed, cellTab, List.map, List.append, List.nil_append, List.cons_append] at O' ⊢
  refine AW.hide fun QF hQF EF _ => ?_
  ((with_reducible refine r_cons ?_); (with_reducible refine r_assign ?_ ?hs); (case hs => exact rfl); (with_reducible refine r_list ?_); (with_reducible refine p_cons ?_ ?hs); (case hs => exact rfl); (with_reducible refine r_int ?_); (with_reducible refine p_cons ?_ ?hs); (case hs => exact rfl); (with_reducible refine r_int ?_); (with_reducible refine p_cons ?_ ?hs); (case hs => exact rfl); (with_reducible refine r_int ?_); (with_reducible refine p_cons ?_ ?hs); (case hs => exact rfl); (with_reducible refine r_int ?_); (with_reducible refine p_cons ?_ ?hs); (case hs => exact rfl); (with_reducible refine r_int ?_); (with_reducible refine p_cons ?_ ?hs); (case hs => exact rfl); (with_reducible refine r_int ?_); (with_reducible refine p_cons ?_ ?hs); (case hs => exact rfl); (with_reducible refine r_int ?_); (with_reducible refine p_cons ?_ ?hs); (case hs => exact rfl); (with_reducible refine r_int ?_); (with_reducible refine p_nil ?_); (with_reducible show _ ≤ 1000000 ∧ _); refine And.intro ?k1 ?_; (case k1 => walk_at "len"); intro _; (try dsimp only); (with_reducible refine' r_store_cell (by assumption) ?k1 ?k2 ?k3 ?_); (case k1 => walk_at "has"); (case k2 => walk_at "has"); (case k3 => ((try dsimp only); walk_at "upd")); (try dsimp only); (with_reducible refine r_cons ?_); (with_reducible refine r_return ?_))
  ((with_reducible refine' r_comp (by assumption) ?kr ?k1 ?k2 ?k3 ?_ ?k4); (case kr => (dsimp only; walk_at "relab")); (case k1 => exact rfl); (case k2 => decide +kernel); (case k3 => decide +kernel); (case k4 => exact fun _ => rfl))
  ((with_reducible refine' r_call_ty (by assumption) ?k1 ?k2 ?_ ?hn); (case k1 => walk_at "has"); (case k2 => walk_at "has"); (case hn => exact rfl); (with_reducible refine p_cons ?_ ?hs); (case hs => exact rfl); (with_reducible refine r_int ?_); (with_reducible refine p_nil ?_); (with_reducible refine k_range1 ?_); intro _; (try dsimp only))
  rename_i st rg
  refine ⟨_, iter_range 8 (a := 0) (b := 8) (c := 1) (by walk_at "has") (by decide +kernel) (by decide +kernel), fun C2 it D O2 hp2 hw2 hK2 hlv2 hA2 hb2 So => ?_⟩
  rw [hK', ← hw2] at hK2
  have hh2 : C2.A.handled = none := by rw [hA2]; exact hh'
  refine c_loop rfl hh2 So (fun j lo led' => Ex2 fun (a : Option MV) (xs : List Int) => All4 (lo = [(Str.ofString ".0", none), (Str.ofString "k", a)]) (xs.length = j) (∀ x ∈ xs, 0 ≤ x ∧ x < 403368) (led' = (D, .list (xs.map .int)) :: (rg, .range 0 8 1) :: (st, MO.list [MV.int 74991, MV.int 19463, MV.int 1598, MV.int 9005, MV.int 523, MV.int 117594, MV.int 27, MV.int 16]) :: (a1, .cell (some (.ref sc))) :: (a2, .cell (some (.ref st))) :: led)) ⟨_, [], rfl, rfl, fun _ h => (nomatch h), rfl⟩ (fun _ _ _ _ _ _ => trivial) ?_ ?_
  · rintro j y o lo led' ⟨a, xs, rfl, hxl, hxb, rfl⟩ hy QQ hn
    obtain ⟨hj, rfl⟩ := range_get hy
    have hlt : (0 + (j : Int) * 1).toNat = j := by rw [Int.zero_add, Int.mul_one]; rfl
    obtain ⟨v, hv⟩ : ∃ v : Int, [MV.int 74991, MV.int 19463, MV.int 1598, MV.int 9005, MV.int 523, MV.int 117594, MV.int 27, MV.int 16][(0 + (j : Int) * 1).toNat]? = some (.int v) := by
      rw [hlt]
      exact ⟨_, (List.getElem?_map (f := MV.int) (l := [74991, 19463, 1598, 9005, 523, 117594, 27, 16])).trans (by rw [List.getElem?_eq_getElem (by exact hj)]; rfl)⟩
    ((with_reducible refine a_name ?_); (with_reducible refine' r_store (by assumption) ?k1 ?k2 ?_); (case k1 => walk_at "has"); (case k2 => ((try dsimp only); walk_at "put")); (try dsimp only); (with_reducible refine s_nil ?_); (with_reducible refine ite_tt ?_))
    refine e_last rfl ?_
    ((with_reducible refine r_binop ?_); (with_reducible refine r_binop ?_); (with_reducible refine r_subs ?_); (with_reducible refine' r_cell (by assumption) ?k1 ?k2 ?k3 ?_); (case k1 => walk_at "has"); (case k2 => walk_at "has"); (case k3 => ((try dsimp only); walk_at "has")); (with_reducible refine' r_local (by assumption) ?k1 ?k2 ?_); (case k1 => walk_at "has"); (case k2 => ((try dsimp only); walk_at "has")))
    refine i_list (by walk_at "has") (by omega) (by omega) hv ?_
    ((with_reducible refine' r_call_bi (by assumption) ?k1 ?k2 ?_ ?hn); (case k1 => walk_at "has"); (case k2 => walk_at "has"); (case hn => exact rfl); (with_reducible refine p_cons ?_ ?hs); (case hs => exact rfl); (with_reducible refine r_subs ?_); (with_reducible refine r_subs ?_); (with_reducible refine' r_cell (by assumption) ?k1 ?k2 ?k3 ?_); (case k1 => walk_at "has"); (case k2 => walk_at "has"); (case k3 => ((try dsimp only); walk_at "has")); (with_reducible refine r_slice ?_); (with_reducible refine pt_none ?_); (with_reducible refine pt_some ?_); (with_reducible refine r_int ?_))
    refine ⟨_, rfl, ?_⟩
    (with_reducible refine pt_none ?_)
    intro sl
    skip
    refine i_slice_base (xs := ns.map .int) (by rw [hb2, hb']; exact hsc) (by walk_at "has") (by simp) (by rw [List.length_map]; omega) fun D2 => ?_
    rw [mpick_map]
    have hpl := mpick_len ns none (some 63)
    ((with_reducible refine r_slice ?_); (with_reducible refine pt_some ?_); (with_reducible refine' r_local (by assumption) ?k1 ?k2 ?_); (case k1 => walk_at "has"); (case k2 => ((try dsimp only); walk_at "has")))
    refine ⟨_, rfl, ?_⟩
    ((with_reducible refine pt_none ?_); (with_reducible refine pt_some ?_); (with_reducible refine r_int ?_))
    refine ⟨_, rfl, ?_⟩
    intro sl2
    skip
    refine i_slice (xs := (mpick ns none (some 63) none).map .int) (by walk_at "has") (by walk_at "has") (by simp) (by rw [List.length_map]; exact Nat.le_trans hpl (by omega)) fun D3 => ?_
    rw [mpick_map]
    (with_reducible refine p_nil ?_)
    refine k_sum hh2 (by walk_at "has") fun sm => ?_
    ((with_reducible refine b_add ?_); (with_reducible refine r_int ?_); (with_reducible refine b_mod ?k1 ?_); (case k1 => decide); (with_reducible refine' k_append ?k1 ?k2 ?_); (case k1 => ((try dsimp only); walk_at "upd")); (case k2 => walk_at "len"); (try dsimp only))
    refine hn _ ⟨_, ?_, _, xs ++ [(v + sm).fmod 403368], rfl, by rw [List.length_append, hxl]; rfl, fun x hx => ?_, rfl⟩
    · rw [List.map_append]
      dsimp only [List.map]
      walk_at "take"
    · rcases List.mem_append.mp hx with hx | hx
      · exact hxb x hx
      · simp only [List.mem_singleton] at hx
        rw [hx]
        exact ⟨Int.fmod_nonneg_of_pos _ (by decide), Int.fmod_lt_of_pos _ (by decide)⟩
  · rintro lo led' ⟨a, xs, rfl, hxl, hxb, rfl⟩
    refine hQF _ _ ⟨_, ?_, h D xs hxl hxb⟩
    dsimp only
    walk_at "take"
end
structure Stp where
  a : Addr
  e : Int
  l : Int
noncomputable def Stp.Ok (p : Stp) : Prop := (0 ≤ p.e ∧ p.e < 7) ∧ (0 ≤ p.l ∧ p.l < 7)
noncomputable def stpLed : List Stp → List (Addr × MO)
  | [] => []
  | p :: r => (p.a, .tup [.int p.e, .int p.l]) :: stpLed r
theorem stpLed_append (a b : List Stp) : stpLed (a ++ b) = stpLed a ++ stpLed b := by
  induction a with
  | nil => rfl
  | cons p a ih => simp [stpLed, ih]
noncomputable abbrev stpRefs (ps : List Stp) : List MV := ps.map fun p => .ref p.a
theorem has_stp {ps : List Stp} {p : Stp} (h : p ∈ ps) : Has p.a (.tup [.int p.e, .int p.l]) (stpLed ps) := by
  induction ps with
  | nil => cases h
  | cons q ps ih =>
    rcases List.mem_cons.mp h with rfl | h
    · exact .head
    · exact .tail (ih h)
theorem stpLed_one (ps : List Stp) (p : Stp) (rest : List (Addr × MO)) : stpLed (ps ++ [p]) ++ rest = stpLed ps ++ ((p.a, .tup [.int p.e, .int p.l]) :: rest) := by
  rw [stpLed_append, List.append_assoc]; rfl
theorem stpRefs_one (ps : List Stp) (p : Stp) : stpRefs (ps ++ [p]) = stpRefs ps ++ [.ref p.a] := by unfold stpRefs; rw [List.map_append]; rfl
theorem stp_ok_one {ps : List Stp} {p : Stp} (h : ∀ p ∈ ps, Stp.Ok p) (hp : p.Ok) : ∀ q ∈ ps ++ [p], Stp.Ok q := fun q hq => by
  rcases List.mem_append.mp hq with hq | hq
  · exact h q hq
  · simp only [List.mem_singleton] at hq; rw [hq]; exact hp
section
variable {C : Cx} {σ : MS} {s : Shared} {E : Value → Shared → Prop} {names : List (Str × NameKind)} {cells : List (Str × Addr)} {loc : Loc} {rest : List (Addr × MO)}
theorem steps2 (O : C.Ok GL names cells) (hh : C.A.handled = none) (hK : C.K = KK C.w) (hlv : 3 ≤ C.lv) {nu : Addr} {xs : List Int} (hz : xs.length ≤ 100) {Q : MV → MS → Prop}
    (h : ∀ S ps, ps.length ≤ xs.length → (∀ p ∈ ps, Stp.Ok p) → Q (.ref S) ⟨loc, (S, .list (stpRefs ps)) :: (stpLed ps ++ (nu, .list (xs.map .int)) :: rest)⟩) : CALLR C 160 [.ref nu] Q E ⟨loc, (nu, .list (xs.map .int)) :: rest⟩ := by
  refine CALLR.keep (CALLR.noexc (call_K O (ps := [Str.ofString "numbers"]) (more := [Str.ofString "steps", Str.ofString "x", Str.ofString "one", Str.ofString "two"]) (morec := []) (by omega) (by rw [hK]; exact rfl) (by rw [hK]; exact rfl) (fun args' s ia _ => by obtain ⟨v, rfl, i⟩ := ia.one; exact BindsTo.of_eq rfl)
    (.loc (by decide +kernel) .nil) (by decide +kernel) (by decide +kernel) (by decide +kernel) (by decide +kernel) rfl rfl rfl ?_))
  intro C' as has O' hp hw hK' hlv' hh'
  rw [hK, ← hw] at hK'
  rw [hh] at hh'
  cases as with
  | cons _ _ => cases has
  | nil =>
    dsimp only [cellLed, cellTab, List.map, List.append, List.nil_append, List.cons_append] at O' ⊢
    refine AW.hide fun QF hQF EF _ => ?_
    ((with_reducible refine r_cons ?_); (with_reducible refine r_assign ?_ ?hs); (case hs => exact rfl); (with_reducible refine r_list ?_); (with_reducible refine p_nil ?_); (with_reducible show _ ≤ 1000000 ∧ _); refine And.intro ?k1 ?_; (case k1 => walk_at "len"); intro _; (try dsimp only); (with_reducible refine' r_store (by assumption) ?k1 ?k2 ?_); (case k1 => walk_at "has"); (case k2 => ((try dsimp only); walk_at "put")); (try dsimp only); (with_reducible refine r_cons ?_); (with_reducible refine r_for ?_ ?hs); (case hs => exact fun _ => rfl); (with_reducible refine' r_local (by assumption) ?k1 ?k2 ?_); (case k1 => walk_at "has"); (case k2 => ((try dsimp only); walk_at "has")))
    rename_i S
    refine f_loop hh' (iter_list (xs := xs.map .int) (by walk_at "has")) (fun i lo led => Ex4 fun (b c e : Option MV) (ps : List Stp) => All4 (lo = [(Str.ofString "numbers", some (.ref nu)), (Str.ofString "steps", some (.ref S)), (Str.ofString "x", b), (Str.ofString "one", c), (Str.ofString "two", e)]) (ps.length ≤ i) (∀ p ∈ ps, Stp.Ok p) (led = (S, .list (stpRefs ps)) :: (stpLed ps ++ (nu, .list (xs.map .int)) :: rest))) ⟨_, _, _, [], rfl, Nat.le_refl _, fun _ h => (nomatch h), rfl⟩ ?_ ?_ ?_
    · rintro i lo led it o ⟨b, c, e, ps, rfl, hl, hps, rfl⟩
      show Has nu (MO.list (xs.map MV.int)) _
      walk_at "has"
    · rintro i y it o lo led ⟨b, c, e, ps, rfl, hl, hps, rfl⟩ hy QQ EE hn _ _ _
      obtain ⟨x, hx, rfl⟩ := get_ints hy
      have hi := (List.getElem?_eq_some_iff.mp hx).1
      ((with_reducible refine a_name ?_); (with_reducible refine' r_store (by assumption) ?k1 ?k2 ?_); (case k1 => walk_at "has"); (case k2 => ((try dsimp only); walk_at "put")); (try dsimp only); (with_reducible refine r_cons ?_))
      refine r_assign_pair O' hh' (by walk_at "has") (by walk_at "has") (by decide +kernel) rfl rfl rfl rfl ?_
      ((with_reducible refine p_cons ?_ ?hs); (case hs => exact rfl); (with_reducible refine r_binop ?_); (with_reducible refine' r_local (by assumption) ?k1 ?k2 ?_); (case k1 => walk_at "has"); (case k2 => ((try dsimp only); walk_at "has")); (with_reducible refine r_int ?_); (with_reducible refine b_mod ?k1 ?_); (case k1 => decide); (with_reducible refine p_cons ?_ ?hs); (case hs => exact rfl); (with_reducible refine r_binop ?_); (with_reducible refine r_binop ?_); (with_reducible refine' r_local (by assumption) ?k1 ?k2 ?_); (case k1 => walk_at "has"); (case k2 => ((try dsimp only); walk_at "has")); (with_reducible refine r_int ?_); (with_reducible refine b_fdiv ?k1 ?k2 ?_); (case k1 => decide); (case k2 => decide); (with_reducible refine r_int ?_); (with_reducible refine b_mod ?k1 ?_); (case k1 => decide); (with_reducible refine p_nil ?_))
      refine ⟨_, _, rfl, fun t0 => ?_⟩
      ((with_reducible refine' r_store (by assumption) ?k1 ?k2 ?_); (case k1 => walk_at "has"); (case k2 => ((try dsimp only); walk_at "put")); (try dsimp only); (with_reducible refine' r_store (by assumption) ?k1 ?k2 ?_); (case k1 => walk_at "has"); (case k2 => ((try dsimp only); walk_at "put")); (try dsimp only); (with_reducible refine r_cons ?_); (with_reducible refine r_if ?_); (with_reducible refine t_compare ?_ ?hs); (case hs => exact rfl); (with_reducible refine r_binop ?_); (with_reducible refine r_binop ?_); (with_reducible refine' r_local (by assumption) ?k1 ?k2 ?_); (case k1 => walk_at "has"); (case k2 => ((try dsimp only); walk_at "has")); (with_reducible refine r_int ?_); (with_reducible refine b_fdiv ?k1 ?k2 ?_); (case k1 => decide); (case k2 => decide); (with_reducible refine r_int ?_); (with_reducible refine b_mod ?k1 ?_); (case k1 => decide); (with_reducible refine r_int ?_); (with_reducible refine c_eq ?_); (with_reducible refine u_bool ?_))
      have b1 : 0 ≤ x.fmod 7 ∧ x.fmod 7 < 7 := ⟨Int.fmod_nonneg_of_pos _ (by decide), Int.fmod_lt_of_pos _ (by decide)⟩
      have b2 : 0 ≤ (x.fdiv 7).fmod 7 ∧ (x.fdiv 7).fmod 7 < 7 := ⟨Int.fmod_nonneg_of_pos _ (by decide), Int.fmod_lt_of_pos _ (by decide)⟩
      split
      · ((with_reducible refine r_cons ?_); (with_reducible refine r_expr (by assumption) ?_ ?hs); (case hs => exact rfl); (with_reducible refine r_meth PySem.F.plainAttrs_list PySem.F.slot_list_append PySem.F.type_list_append ?_ ?h1 ?h2 ?h3 ?h4); (case h1 => exact rfl); (case h2 => exact rfl); (case h3 => exact rfl); (case h4 => exact rfl); (with_reducible refine' r_local (by assumption) ?k1 ?k2 ?_); (case k1 => walk_at "has"); (case k2 => ((try dsimp only); walk_at "has")); (with_reducible refine' And.intro (OfT.list ?k1) ?_); (case k1 => ((try dsimp only); walk_at "has")); (with_reducible refine p_cons ?_ ?hs); (case hs => exact rfl); (with_reducible refine r_tuple ?_); (with_reducible refine p_cons ?_ ?hs); (case hs => exact rfl); (with_reducible refine' r_local (by assumption) ?k1 ?k2 ?_); (case k1 => walk_at "has"); (case k2 => ((try dsimp only); walk_at "has")); (with_reducible refine p_cons ?_ ?hs); (case hs => exact rfl); (with_reducible refine' r_local (by assumption) ?k1 ?k2 ?_); (case k1 => walk_at "has"); (case k2 => ((try dsimp only); walk_at "has")); (with_reducible refine p_nil ?_); (with_reducible show _ ≤ 1000000 ∧ _); refine And.intro ?k1 ?_; (case k1 => walk_at "len"); intro _; (try dsimp only); (with_reducible refine p_nil ?_); (with_reducible refine' k_append ?k1 ?k2 ?_); (case k1 => ((try dsimp only); walk_at "upd")); (case k2 => walk_at "len"); (try dsimp only); (with_reducible refine r_nil ?_); (with_reducible refine r_nil ?_))
        rename_i ta
        refine (hn _ ⟨_, ?_, _, _, _, ps ++ [⟨ta, x.fmod 7, (x.fdiv 7).fmod 7⟩], rfl, by rw [List.length_append]; exact Nat.succ_le_succ hl, stp_ok_one hps ⟨b1, b2⟩, rfl⟩).1
        rw [stpLed_one, stpRefs_one]
        dsimp only
        walk_at "take"
      · ((with_reducible refine r_cons ?_); (with_reducible refine r_if ?_); (with_reducible refine t_compare ?_ ?hs); (case hs => exact rfl); (with_reducible refine' r_local (by assumption) ?k1 ?k2 ?_); (case k1 => walk_at "has"); (case k2 => ((try dsimp only); walk_at "has")); (with_reducible refine' r_local (by assumption) ?k1 ?k2 ?_); (case k1 => walk_at "has"); (case k2 => ((try dsimp only); walk_at "has")); (with_reducible refine c_ne ?_); (with_reducible refine u_bool ?_))
        split
        · ((with_reducible refine r_cons ?_); (with_reducible refine r_expr (by assumption) ?_ ?hs); (case hs => exact rfl); (with_reducible refine r_meth PySem.F.plainAttrs_list PySem.F.slot_list_append PySem.F.type_list_append ?_ ?h1 ?h2 ?h3 ?h4); (case h1 => exact rfl); (case h2 => exact rfl); (case h3 => exact rfl); (case h4 => exact rfl); (with_reducible refine' r_local (by assumption) ?k1 ?k2 ?_); (case k1 => walk_at "has"); (case k2 => ((try dsimp only); walk_at "has")); (with_reducible refine' And.intro (OfT.list ?k1) ?_); (case k1 => ((try dsimp only); walk_at "has")); (with_reducible refine p_cons ?_ ?hs); (case hs => exact rfl); (with_reducible refine r_tuple ?_); (with_reducible refine p_cons ?_ ?hs); (case hs => exact rfl); (with_reducible refine' r_call_bi (by assumption) ?k1 ?k2 ?_ ?hn); (case k1 => walk_at "has"); (case k2 => walk_at "has"); (case hn => exact rfl); (with_reducible refine p_cons ?_ ?hs); (case hs => exact rfl); (with_reducible refine' r_local (by assumption) ?k1 ?k2 ?_); (case k1 => walk_at "has"); (case k2 => ((try dsimp only); walk_at "has")); (with_reducible refine p_cons ?_ ?hs); (case hs => exact rfl); (with_reducible refine' r_local (by assumption) ?k1 ?k2 ?_); (case k1 => walk_at "has"); (case k2 => ((try dsimp only); walk_at "has")); (with_reducible refine p_nil ?_))
          refine k_min2 hh' ?_
          ((with_reducible refine p_cons ?_ ?hs); (case hs => exact rfl); (with_reducible refine' r_call_bi (by assumption) ?k1 ?k2 ?_ ?hn); (case k1 => walk_at "has"); (case k2 => walk_at "has"); (case hn => exact rfl); (with_reducible refine p_cons ?_ ?hs); (case hs => exact rfl); (with_reducible refine' r_local (by assumption) ?k1 ?k2 ?_); (case k1 => walk_at "has"); (case k2 => ((try dsimp only); walk_at "has")); (with_reducible refine p_cons ?_ ?hs); (case hs => exact rfl); (with_reducible refine' r_local (by assumption) ?k1 ?k2 ?_); (case k1 => walk_at "has"); (case k2 => ((try dsimp only); walk_at "has")); (with_reducible refine p_nil ?_))
          refine k_max2 hh' ?_
          ((with_reducible refine p_nil ?_); (with_reducible show _ ≤ 1000000 ∧ _); refine And.intro ?k1 ?_; (case k1 => walk_at "len"); intro _; (try dsimp only); (with_reducible refine p_nil ?_); (with_reducible refine' k_append ?k1 ?k2 ?_); (case k1 => ((try dsimp only); walk_at "upd")); (case k2 => walk_at "len"); (try dsimp only); (with_reducible refine r_nil ?_); (with_reducible refine r_nil ?_); (with_reducible refine r_nil ?_))
          rename_i ta
          refine (hn _ ⟨_, ?_, _, _, _, ps ++ [⟨ta, min (x.fmod 7) ((x.fdiv 7).fmod 7), max (x.fmod 7) ((x.fdiv 7).fmod 7)⟩], rfl, by rw [List.length_append]; exact Nat.succ_le_succ hl, stp_ok_one hps ⟨by dsimp only; omega, by dsimp only; omega⟩, rfl⟩).1
          rw [stpLed_one, stpRefs_one]
          dsimp only
          walk_at "take"
        · ((with_reducible refine r_nil ?_); (with_reducible refine r_nil ?_); (with_reducible refine r_nil ?_))
          exact (hn _ ⟨_, .skip .all, _, _, _, ps, rfl, Nat.le_succ_of_le hl, hps, rfl⟩).1
    · rintro lo led ⟨b, c, e, ps, rfl, hl, hps, rfl⟩
      have e3 : (listSrc nu (xs.map .int)).items.length = xs.length := List.length_map ..
      rw [e3] at hl
      ((with_reducible refine r_nil ?_); (with_reducible refine r_cons ?_); (with_reducible refine r_return ?_); (with_reducible refine' r_local (by assumption) ?k1 ?k2 ?_); (case k1 => walk_at "has"); (case k2 => ((try dsimp only); walk_at "has")))
      exact hQF _ _ ⟨_, .all, h S ps hl hps⟩
end
noncomputable def due1To (dm tk : List Int) (j : Nat) : List Int := (List.range j).flatMap fun k => match dm[k]? with | some x => if tk.count x < (dm.drop k).count x then [x] else [] | none => []
noncomputable def due2To (dm tk : List Int) (j : Nat) : List Int := (List.range j).flatMap fun k => match dm[k]? with | some x => if tk.count x < (dm.take (k + 1)).count x then [x] else [] | none => []
theorem due1_succ {dm tk : List Int} {j : Nat} {x : Int} (h : dm[j]? = some x) : due1To dm tk (j + 1) = if tk.count x < (dm.drop j).count x then due1To dm tk j ++ [x] else due1To dm tk j := by
  unfold due1To
  rw [List.range_succ, List.flatMap_append]
  by_cases c : tk.count x < (dm.drop j).count x <;> simp [h, c]
theorem due2_succ {dm tk : List Int} {j : Nat} {x : Int} (h : dm[j]? = some x) : due2To dm tk (j + 1) = if tk.count x < (dm.take (j + 1)).count x then due2To dm tk j ++ [x] else due2To dm tk j := by
  unfold due2To
  rw [List.range_succ, List.flatMap_append]
  by_cases c : tk.count x < (dm.take (j + 1)).count x <;> simp [h, c]
theorem due1_len (dm tk : List Int) : ∀ j, (due1To dm tk j).length ≤ j
  | 0 => Nat.le_refl _
  | j + 1 => by
    have ih := due1_len dm tk j
    unfold due1To at ih ⊢
    rw [List.range_succ, List.flatMap_append, List.length_append]
    have : (List.flatMap (fun k => match dm[k]? with | some x => if tk.count x < (dm.drop k).count x then [x] else [] | none => []) [j]).length ≤ 1 := by
      simp only [List.flatMap_cons, List.flatMap_nil, List.append_nil]
      split
      · split <;> simp
      · simp
    omega
theorem due2_len (dm tk : List Int) : ∀ j, (due2To dm tk j).length ≤ j
  | 0 => Nat.le_refl _
  | j + 1 => by
    have ih := due2_len dm tk j
    unfold due2To at ih ⊢
    rw [List.range_succ, List.flatMap_append, List.length_append]
    have : (List.flatMap (fun k => match dm[k]? with | some x => if tk.count x < (dm.take (k + 1)).count x then [x] else [] | none => []) [j]).length ≤ 1 := by
      simp only [List.flatMap_cons, List.flatMap_nil, List.append_nil]
      split
      · split <;> simp
      · simp
    omega
theorem uldGo_acc : ∀ (r m ys : List Int), uldGo r m ys = (m ++ (uldGo r [] ys).1, (uldGo r [] ys).2)
  | [], m, ys => by simp [uldGo]
  | x :: r, m, ys => by
    unfold uldGo
    split
    · exact uldGo_acc r m _
    · rw [uldGo_acc r (m ++ [x]) ys, uldGo_acc r ([] ++ [x]) ys]
      simp
theorem uld_snoc (xs ys : List Int) (x : Int) : uld (xs ++ [x]) ys = if x ∈ ys then uld xs (ys.erase x) else (x :: (uld xs ys).1, (uld xs ys).2) := by
  unfold uld
  rw [List.reverse_append]
  show uldGo (x :: xs.reverse) [] ys = _
  rw [uldGo]
  split
  · rfl
  · rw [uldGo_acc]; rfl
noncomputable def lft : List Int → List Int → List Int
  | [], _ => []
  | y :: r, xs => if y ∈ xs then lft r (xs.erase y) else y :: lft r xs
theorem lft_in : ∀ (ys xs : List Int) (x : Int), x ∈ ys → lft ys (x :: xs) = lft (ys.erase x) xs
  | [], _, _, h => by cases h
  | y :: r, xs, x, h => by
    by_cases e : y = x
    · subst e; simp [lft]
    · have h' : x ∈ r := by
        rcases List.mem_cons.mp h with h | h
        · exact absurd h.symm e
        · exact h
      rw [List.erase_cons_tail (by simpa using e)]
      unfold lft
      by_cases hy : y ∈ xs
      · rw [if_pos (.tail _ hy), if_pos hy, List.erase_cons_tail (by simpa using fun h => e h.symm), lft_in r _ x h']
      · rw [if_neg (by simp [e, hy]), if_neg hy, lft_in r _ x h']
theorem lft_out : ∀ (ys xs : List Int) (x : Int), x ∉ ys → lft ys (x :: xs) = lft ys xs
  | [], _, _, _ => rfl
  | y :: r, xs, x, h => by
    have e : y ≠ x := fun e => h (by simp [e])
    have h' : x ∉ r := fun q => h (.tail _ q)
    unfold lft
    by_cases hy : y ∈ xs
    · rw [if_pos (.tail _ hy), if_pos hy, List.erase_cons_tail (by simpa using fun h => e h.symm), lft_out r _ x h']
    · rw [if_neg (by simp [e, hy]), if_neg hy, lft_out r _ x h']
theorem lft_perm : ∀ (ys : List Int) {xs xs' : List Int}, xs.Perm xs' → lft ys xs = lft ys xs'
  | [], _, _, _ => rfl
  | y :: r, xs, xs', h => by
    unfold lft
    by_cases hy : y ∈ xs
    · rw [if_pos hy, if_pos (h.mem_iff.mp hy)]; exact lft_perm r (h.erase y)
    · rw [if_neg hy, if_neg (fun q => hy (h.mem_iff.mpr q)), lft_perm r h]
noncomputable def remL (xs : List Int) : List Int → List Int
  | [] => xs
  | y :: r => remL (xs.erase y) r
theorem remL_count (y : Int) : ∀ (ys xs : List Int), (remL xs ys).count y = xs.count y - ys.count y
  | [], xs => by simp [remL]
  | z :: r, xs => by
    rw [remL, remL_count y r, List.count_erase, List.count_cons]
    by_cases e : y = z
    · subst e; simp; omega
    · have e' : ¬ z = y := fun h => e h.symm
      simp [e, e']
theorem lft_app : ∀ (ys zs xs : List Int), lft (ys ++ zs) xs = lft ys xs ++ lft zs (remL xs ys)
  | [], zs, xs => rfl
  | y :: r, zs, xs => by
    rw [List.cons_append, lft, lft]
    by_cases hy : y ∈ xs
    · rw [if_pos hy, if_pos hy, lft_app r]; rfl
    · rw [if_neg hy, if_neg hy, lft_app r, remL, List.erase_of_not_mem hy]; rfl
theorem due2_lft (dm tk : List Int) : ∀ j, j ≤ dm.length → due2To dm tk j = lft (dm.take j) tk
  | 0, _ => rfl
  | j + 1, h => by
    have hq : dm[j]? = some dm[j] := List.getElem?_eq_getElem (by omega)
    have ht : dm.take (j + 1) = dm.take j ++ [dm[j]] := by rw [List.take_add_one, hq]; rfl
    rw [due2_succ hq, due2_lft dm tk j (by omega), ht, lft_app]
    have hm : dm[j] ∈ remL tk (dm.take j) ↔ (dm.take j).count dm[j] < tk.count dm[j] := by
      rw [← List.count_pos_iff, remL_count]; omega
    rw [List.count_append, List.count_singleton_self]
    by_cases c : dm[j] ∈ remL tk (dm.take j)
    · have c2 := hm.mp c
      rw [if_neg (by omega)]
      simp [lft, c]
    · have c2 : ¬ _ := fun q => c (hm.mpr q)
      rw [if_pos (by omega)]
      simp [lft, c]
theorem due1_app (x : Int) (xs ys ys' : List Int) (h : ∀ k y, xs[k]? = some y → (ys.count y < ((xs ++ [x]).drop k).count y ↔ ys'.count y < (xs.drop k).count y)) : ∀ j, j ≤ xs.length → due1To (xs ++ [x]) ys j = due1To xs ys' j
  | 0, _ => rfl
  | j + 1, hj => by
    have hq : xs[j]? = some xs[j] := List.getElem?_eq_getElem (by omega)
    have hq' : (xs ++ [x])[j]? = some xs[j] := by rw [List.getElem?_append_left (by omega)]; exact hq
    rw [due1_succ hq, due1_succ hq', due1_app x xs ys ys' h j (by omega)]
    have := h j _ hq
    by_cases c : ys'.count xs[j] < (xs.drop j).count xs[j]
    · rw [if_pos c, if_pos (this.mpr c)]
    · rw [if_neg c, if_neg (fun q => c (this.mp q))]
theorem uld_rev : ∀ (n : Nat) (xs ys : List Int), xs.length = n → uld xs ys = ((due1To xs ys xs.length).reverse, lft ys xs)
  | 0, xs, ys, h => by
    cases xs with
    | cons _ _ => cases h
    | nil =>
      have : lft ys [] = ys := by
        induction ys with
        | nil => rfl
        | cons y r ih => simp [lft, ih]
      rw [this]; rfl
  | n + 1, xs, ys, h => by
    rcases List.eq_nil_or_concat xs with rfl | ⟨xs, x, rfl⟩
    · cases h
    · rw [List.concat_eq_append] at *
      have hl : xs.length = n := by simpa using h
      have hq' : (xs ++ [x])[xs.length]? = some x := by simp
      have hp : (xs ++ [x]).Perm (x :: xs) := List.perm_append_comm
      rw [uld_snoc, lft_perm ys hp, List.length_append, List.length_singleton, due1_succ hq', List.drop_left, List.count_singleton_self]
      by_cases hm : x ∈ ys
      · rw [if_pos hm, uld_rev n xs _ hl, lft_in ys xs x hm, if_neg (by have := List.count_pos_iff.mpr hm; omega)]
        congr 2
        refine (due1_app x xs ys (ys.erase x) (fun k y hk => ?_) xs.length (Nat.le_refl _)).symm
        have hkl : k ≤ xs.length := by have := (List.getElem?_eq_some_iff.mp hk).1; omega
        rw [List.drop_append_of_le_length hkl, List.count_append, List.count_erase, List.count_singleton]
        by_cases e : y = x
        · subst e
          have := List.count_pos_iff.mpr hm
          simp; omega
        · have e' : ¬ x = y := fun h => e h.symm
          simp [e, e']
      · rw [if_neg hm, uld_rev n xs _ hl, lft_out ys xs x hm, if_pos (by rw [List.count_eq_zero.mpr hm]; exact Nat.one_pos)]
        rw [due1_app x xs ys ys (fun k y hk => ?_) xs.length (Nat.le_refl _)]
        · simp
        · have hkl : k ≤ xs.length := by have := (List.getElem?_eq_some_iff.mp hk).1; omega
          rw [List.drop_append_of_le_length hkl, List.count_append, List.count_singleton]
          by_cases e : y = x
          · subst e
            have h0 := List.count_eq_zero.mpr hm
            have h1 : 0 < (xs.drop k).count y := List.count_pos_iff.mpr (by
              have : (xs.drop k)[0]? = some y := by rw [List.getElem?_drop]; exact hk
              exact List.mem_of_getElem? this)
            simp; omega
          · have e' : ¬ x = y := fun h => e h.symm
            simp [e']
theorem uld_due (xs ys : List Int) : uld xs ys = ((due1To xs ys xs.length).reverse, due2To ys xs ys.length) := by
  rw [uld_rev _ xs ys rfl, due2_lft ys xs _ (Nat.le_refl _), List.take_length]
noncomputable def dms (es : List (Int × Int)) : List Int := es.map (·.2)
noncomputable def sus (es : List (Int × Int)) (v : Int) : List Int := (es.filter fun e => decide (e.1 = v)).map (·.2)
noncomputable def npN (ns : List Nd) (v : Int) : Int := match getN ns v with | some r => r.np | none => 0
theorem sus_cons (e : Int × Int) (es : List (Int × Int)) (v : Int) : sus (e :: es) v = if e.1 = v then e.2 :: sus es v else sus es v := by
  unfold sus
  by_cases h : e.1 = v <;> simp [h]
theorem mem_sus {es : List (Int × Int)} {u v : Int} : v ∈ sus es u ↔ (u, v) ∈ es := by
  unfold sus
  rw [List.mem_map]
  constructor
  · rintro ⟨e, he, rfl⟩
    obtain ⟨h1, h2⟩ := List.mem_filter.mp he
    have : e.1 = u := by simpa using h2
    rw [← this]; exact h1
  · intro h
    exact ⟨_, List.mem_filter.mpr ⟨h, by simp⟩, rfl⟩
theorem npN_up {ns : List Nd} {v : Int} (hv : v ∈ keysN ns) (k : Int) (g : Int → Int) : npN (upN ns k fun r => { r with np := g r.np }) v = if v = k then g (npN ns v) else npN ns v := by
  obtain ⟨r, hr⟩ := getN_some hv
  have hk := getN_key hr
  unfold npN
  rw [upN_some hr k (fun r => { r with np := g r.np }) (fun _ => rfl), hr, hk]
  dsimp only
  split <;> rfl
theorem suN_up {ns : List Nd} {v : Int} (hv : v ∈ keysN ns) (k : Int) (g : Int → Int) : suN (upN ns k fun r => { r with np := g r.np }) v = suN ns v := by
  obtain ⟨r, hr⟩ := getN_some hv
  rw [suN_get hr, suN_get (upN_some hr k (fun r => { r with np := g r.np }) (fun _ => rfl))]
  split <;> rfl
theorem npN_su {ns : List Nd} {v : Int} (hv : v ∈ keysN ns) (k y : Int) : npN (upN ns k fun r => { r with su := r.su ++ [y] }) v = npN ns v := by
  obtain ⟨r, hr⟩ := getN_some hv
  unfold npN
  rw [upN_some hr k (fun r => { r with su := r.su ++ [y] }) (fun _ => rfl), hr]
  dsimp only
  split <;> rfl
theorem suN_su {ns : List Nd} {v : Int} (hv : v ∈ keysN ns) (k y : Int) : suN (upN ns k fun r => { r with su := r.su ++ [y] }) v = if v = k then suN ns v ++ [y] else suN ns v := by
  obtain ⟨r, hr⟩ := getN_some hv
  rw [suN_get hr, suN_get (upN_some hr k (fun r => { r with su := r.su ++ [y] }) (fun _ => rfl)), getN_key hr]
  split <;> rfl
theorem get_of_mem {ns : List Nd} {r : Nd} (nd : (keysN ns).Nodup) (h : r ∈ ns) : getN ns r.key = some r := by
  obtain ⟨q, hq⟩ := getN_some (ns := ns) (k := r.key) (List.mem_map.mpr ⟨r, h, rfl⟩)
  rw [hq]
  unfold getN at hq
  induction ns with
  | nil => cases h
  | cons u ns ih =>
    have n2 := List.nodup_cons.mp nd
    rw [List.find?_cons] at hq
    by_cases hu : u.key = r.key
    · simp only [hu, decide_true] at hq
      cases hq
      rcases List.mem_cons.mp h with rfl | h
      · rfl
      · exact absurd (List.mem_map.mpr ⟨r, h, hu.symm⟩) n2.1
    · simp only [hu, decide_false] at hq
      rcases List.mem_cons.mp h with rfl | h
      · exact absurd rfl hu
      · exact ih n2.2 h hq
structure Blt (K : List Int) (ns : List Nd) (es : List (Int × Int)) : Prop where
  knd : K.Nodup
  esk : ∀ e ∈ es, e.1 ∈ K ∧ e.2 ∈ K
  keys : keysN ns = K
  np : ∀ v ∈ K, npN ns v = ((dms es).count v : Nat)
  su : ∀ v ∈ K, suN ns v = sus es v
structure Blt0 (K : List Int) (ns : List Nd) (n : Nat) : Prop where
  keys : keysN ns = K.take n
  all : ∀ r ∈ ns, r.np = 0 ∧ r.su = []
theorem Blt0.step {K : List Int} (hK : K.Nodup) {ns ns' : List Nd} {n : Nat} {k : Int} (h : Blt0 K ns n) (hn : K[n]? = some k) (hi : Ins ns k ns') : Blt0 K (addP (upN ns' k fun r => { r with np := r.np + (([] : List Int).length : Nat) }) k []) (n + 1) := by
  show Blt0 K (upN ns' k fun r => { r with np := r.np + (([] : List Int).length : Nat) }) (n + 1)
  have hk : k ∉ keysN ns := by
    rw [h.keys]
    intro hm
    obtain ⟨i, hi, e⟩ := List.mem_iff_getElem.mp hm
    rw [List.length_take] at hi
    rw [List.getElem_take] at e
    obtain ⟨hn1, hn2⟩ := List.getElem?_eq_some_iff.mp hn
    have := (List.getElem_inj (h₀ := by omega) (h₁ := hn1) hK).mp (e.trans hn2.symm)
    omega
  rcases hi with ⟨⟨r, hr⟩, rfl⟩ | ⟨_, r, h1, h2, h3, rfl⟩
  · exact absurd (List.mem_map.mpr ⟨r, getN_mem hr, getN_key hr⟩) hk
  · have ke : keysN (ns ++ [r]) = K.take (n + 1) := by
      unfold keysN
      rw [List.map_append, List.take_add_one, hn]
      have := h.keys
      unfold keysN at this
      rw [this]; simp [h1]
    refine ⟨(keys_np (ns ++ [r]) k (fun m => m + (([] : List Int).length : Nat))).trans ke, fun q hq => ?_⟩
    obtain ⟨u, hu, rfl⟩ := List.mem_map.mp hq
    have hu2 : u.np = 0 ∧ u.su = [] := by
      rcases List.mem_append.mp hu with hu | hu
      · exact h.all u hu
      · simp only [List.mem_singleton] at hu; subst hu; exact ⟨h2, h3⟩
    split
    · exact ⟨by show u.np + _ = 0; rw [hu2.1]; rfl, hu2.2⟩
    · exact hu2
theorem Blt0.done {K : List Int} (hK : K.Nodup) {ns : List Nd} {n : Nat} (hn : K.length = n) (h : Blt0 K ns n) : Blt K ns [] := by
  have ke : keysN ns = K := by rw [h.keys, ← hn, List.take_length]
  refine ⟨hK, fun _ h => (nomatch h), ke, fun v hv => ?_, fun v hv => ?_⟩
  · rw [← ke] at hv
    obtain ⟨r, hr⟩ := getN_some hv
    unfold npN
    rw [hr]
    exact (h.all r (getN_mem hr)).1
  · rw [← ke] at hv
    obtain ⟨r, hr⟩ := getN_some hv
    rw [suN_get hr]
    exact (h.all r (getN_mem hr)).2
theorem addP_np (l e : Int) : ∀ (t : Nat) {ns : List Nd} {v : Int}, v ∈ keysN ns → npN (addP ns l (List.replicate t e)) v = npN ns v
  | 0, _, _, _ => rfl
  | t + 1, ns, v, hv => by
    show npN (addP (upN ns e _) l (List.replicate t e)) v = _
    rw [addP_np l e t (by rw [keys_su]; exact hv), npN_su hv]
theorem addP_su (l e : Int) : ∀ (t : Nat) {ns : List Nd} {v : Int}, v ∈ keysN ns → suN (addP ns l (List.replicate t e)) v = suN ns v ++ if v = e then List.replicate t l else []
  | 0, _, _, _ => by simp [addP]
  | t + 1, ns, v, hv => by
    show suN (addP (upN ns e _) l (List.replicate t e)) v = _
    rw [addP_su l e t (by rw [keys_su]; exact hv), suN_su hv]
    by_cases c : v = e
    · simp [c, List.replicate_succ]
    · simp [c]
theorem sus_app (es : List (Int × Int)) (t : Nat) (e l v : Int) : sus (es ++ List.replicate t (e, l)) v = sus es v ++ if v = e then List.replicate t l else [] := by
  unfold sus
  rw [List.filter_append, List.map_append, List.filter_replicate]
  by_cases c : v = e
  · simp [c]
  · have c' : ¬ e = v := fun h => c h.symm
    simp [c, c']
theorem Blt.step {K : List Int} {ns ns' : List Nd} {es : List (Int × Int)} {e l : Int} {t : Nat} (h : Blt K ns es) (he : e ∈ K) (hl : l ∈ K) (hi : Ins ns l ns') : Blt K (addP (upN ns' l fun r => { r with np := r.np + ((List.replicate t e).length : Nat) }) l (List.replicate t e)) (es ++ List.replicate t (e, l)) := by
  rcases hi with ⟨_, rfl⟩ | ⟨hn, _⟩
  · have k1 := keys_np ns' l (fun m => m + ((List.replicate t e).length : Nat))
    refine ⟨h.knd, fun q hq => ?_, by rw [addP_keys]; exact k1.trans h.keys, fun v hv => ?_, fun v hv => ?_⟩
    · rcases List.mem_append.mp hq with hq | hq
      · exact h.esk q hq
      · rw [(List.mem_replicate.mp hq).2]; exact ⟨he, hl⟩
    · have hv' : v ∈ keysN ns' := by rw [h.keys]; exact hv
      rw [addP_np l e t (by rw [k1]; exact hv'), npN_up hv' l (fun m => m + ((List.replicate t e).length : Nat)), h.np v hv]
      unfold dms
      rw [List.map_append, List.map_replicate, List.count_append, List.count_replicate, List.length_replicate]
      by_cases c : v = l
      · subst c; simp
      · have c' : ¬ l = v := fun h => c h.symm
        simp [c, c']
    · have hv' : v ∈ keysN ns' := by rw [h.keys]; exact hv
      rw [addP_su l e t (by rw [k1]; exact hv'), suN_up hv' l (fun m => m + ((List.replicate t e).length : Nat)), h.su v hv, sus_app]
  · exact absurd (by rw [h.keys]; exact hl) (getN_none.mp hn)
theorem Blt.nodup {K : List Int} {ns : List Nd} {es : List (Int × Int)} (h : Blt K ns es) : (keysN ns).Nodup := by rw [h.keys]; exact h.knd
theorem Blt.len {K : List Int} {ns : List Nd} {es : List (Int × Int)} (h : Blt K ns es) : ns.length = K.length := by
  have : (keysN ns).length = K.length := by rw [h.keys]
  rwa [keysN, List.length_map] at this
theorem closed_of {K : List Int} {ns : List Nd} {es : List (Int × Int)} (knd : K.Nodup) (esk : ∀ e ∈ es, e.1 ∈ K ∧ e.2 ∈ K) (keys : keysN ns = K) (su : ∀ v ∈ K, suN ns v = sus es v) : ∀ r ∈ ns, ∀ y ∈ r.su, y ∈ keysN ns := fun r hr y hy => by
  have h1 := suN_get (get_of_mem (by rw [keys]; exact knd) hr)
  have hk : r.key ∈ K := by rw [← keys]; exact List.mem_map.mpr ⟨r, hr, rfl⟩
  rw [← h1, su _ hk] at hy
  rw [keys]
  exact (esk _ (mem_sus.mp hy)).2
theorem bnd_of {K : List Int} {ns : List Nd} {es : List (Int × Int)} (knd : K.Nodup) (keys : keysN ns = K) (su : ∀ v ∈ K, suN ns v = sus es v) : bndN ns es.length := fun r hr => by
  have h1 := suN_get (get_of_mem (by rw [keys]; exact knd) hr)
  have hk : r.key ∈ K := by rw [← keys]; exact List.mem_map.mpr ⟨r, hr, rfl⟩
  rw [← h1, su _ hk]
  unfold sus
  rw [List.length_map]
  exact List.length_filter_le ..
theorem Blt.closed {K : List Int} {ns : List Nd} {es : List (Int × Int)} (h : Blt K ns es) : ∀ r ∈ ns, ∀ y ∈ r.su, y ∈ keysN ns := closed_of h.knd h.esk h.keys h.su
theorem Blt.bnd {K : List Int} {ns : List Nd} {es : List (Int × Int)} (h : Blt K ns es) : bndN ns es.length := bnd_of h.knd h.keys h.su
noncomputable def lastR : List Int → Int → Int
  | [], _ => -1
  | y :: r, n => if y = n then (r.length : Int) else lastR r n
noncomputable def lastF (b : List Int) (n : Int) : Int := lastR b.reverse n
theorem lastF_snoc (b : List Int) (y n : Int) : lastF (b ++ [y]) n = if y = n then (b.length : Int) else lastF b n := by
  unfold lastF
  rw [List.reverse_append]
  show lastR (y :: b.reverse) n = _
  rw [lastR, List.length_reverse]
theorem lastR_lt : ∀ (b : List Int) (n : Int), lastR b n < b.length
  | [], n => by show (-1 : Int) < 0; decide
  | y :: r, n => by
    have := lastR_lt r n
    unfold lastR
    rw [List.length_cons]
    split <;> omega
theorem lastF_lt (b : List Int) (n : Int) : lastF b n < b.length := by
  have := lastR_lt b.reverse n
  rwa [List.length_reverse] at this
structure LM (lt : Int → Int → Prop) (K : List Int) (es : List (Int × Int)) (ns : List Nd) (rdy gv en tk : List Int) : Prop where
  knd : K.Nodup
  esk : ∀ e ∈ es, e.1 ∈ K ∧ e.2 ∈ K
  keys : keysN ns = K
  su : ∀ v ∈ K, suN ns v = sus es v
  gvk : ∀ v ∈ gv, v ∈ K
  gnd : gv.Nodup
  ens : ∀ v ∈ en, v ∈ gv
  endn : en.Nodup
  full : ∀ v ∈ gv, (dms es).count v = tk.count v
  np2 : ∀ v ∈ en, npN ns v = -2
  np1 : ∀ v ∈ gv, v ∉ en → npN ns v = -1
  np0 : ∀ v ∈ K, v ∉ gv → npN ns v = ((dms es).count v : Int) - (tk.count v : Int)
  rnd : rdy.Nodup
  rmem : ∀ v, v ∈ rdy ↔ v ∈ K ∧ v ∉ gv ∧ (dms es).count v = tk.count v
  rsort : rdy.Pairwise fun a b => lastF tk a < lastF tk b ∨ (lastF tk a = lastF tk b ∧ lt a b)
  nor : ∀ v ∈ gv, ∀ S, Ring (sus es) S → v ∉ S
structure LI (lt : Int → Int → Prop) (K : List Int) (es : List (Int × Int)) (ns : List Nd) (rdy gv en tk : List Int) : Prop extends LM lt K es ns rdy gv en tk where
  tke : tk = en.flatMap (sus es)
theorem LI.start {lt : Int → Int → Prop} {K : List Int} {ns : List Nd} {es : List (Int × Int)} (h : Blt K ns es) (hlt : K.Pairwise lt) : LI lt K es ns (rdyN ns) [] [] [] := by
  have hm : ∀ v, v ∈ rdyN ns ↔ v ∈ K ∧ npN ns v = 0 := fun v => by
    unfold rdyN
    rw [List.mem_map]
    constructor
    · rintro ⟨r, hr, rfl⟩
      obtain ⟨h1, h2⟩ := List.mem_filter.mp hr
      refine ⟨by rw [← h.keys]; exact List.mem_map.mpr ⟨r, h1, rfl⟩, ?_⟩
      unfold npN
      rw [get_of_mem h.nodup h1]
      simpa using h2
    · rintro ⟨h1, h2⟩
      rw [← h.keys] at h1
      obtain ⟨r, hr⟩ := getN_some h1
      unfold npN at h2
      rw [hr] at h2
      exact ⟨r, List.mem_filter.mpr ⟨getN_mem hr, by simpa using h2⟩, getN_key hr⟩
  have hsub : (rdyN ns).Sublist K := by
    rw [← h.keys]
    unfold rdyN keysN
    exact List.filter_sublist.map _
  refine { knd := h.knd, esk := h.esk, keys := h.keys, su := h.su, gvk := fun _ h => (nomatch h), gnd := .nil, ens := fun _ h => (nomatch h), endn := .nil, full := fun _ h => (nomatch h), np2 := fun _ h => (nomatch h), np1 := fun _ h => (nomatch h), np0 := fun v hv _ => ?_, rnd := hsub.nodup h.knd, rmem := fun v => ?_, rsort := ?_, nor := fun _ h => (nomatch h), tke := rfl }
  · rw [h.np v hv]; simp
  · rw [hm]
    constructor
    · rintro ⟨h1, h2⟩
      rw [h.np v h1] at h2
      exact ⟨h1, by simp, by simp; omega⟩
    · rintro ⟨h1, _, h2⟩
      refine ⟨h1, ?_⟩
      rw [h.np v h1]
      simp at h2; omega
  · exact (hlt.sublist hsub).imp fun h => .inr ⟨rfl, h⟩
theorem cnt_cons (e : Int × Int) (es : List (Int × Int)) (v : Int) : ∀ {en : List Int}, en.Nodup → (en.flatMap (sus (e :: es))).count v = (en.flatMap (sus es)).count v + if e.1 ∈ en ∧ e.2 = v then 1 else 0
  | [], _ => by simp
  | u :: en, nd => by
    have n2 := List.nodup_cons.mp nd
    have ih := cnt_cons e es v n2.2
    rw [List.flatMap_cons, List.flatMap_cons, List.count_append, List.count_append, ih, sus_cons]
    by_cases c : e.1 = u
    · have c1 : ¬ e.1 ∈ en := fun h => n2.1 (c ▸ h)
      rw [if_pos c, List.count_cons]
      by_cases c2 : e.2 = v
      · have d1 : (e.1 ∈ u :: en ∧ e.2 = v) := ⟨by rw [c]; exact .head _, c2⟩
        have d2 : ¬ (e.1 ∈ en ∧ e.2 = v) := fun h => c1 h.1
        have d3 : (e.2 == v) = true := by simpa using c2
        rw [if_pos d1, if_neg d2, if_pos d3]; omega
      · have d1 : ¬ (e.1 ∈ u :: en ∧ e.2 = v) := fun h => c2 h.2
        have d2 : ¬ (e.1 ∈ en ∧ e.2 = v) := fun h => c2 h.2
        have d3 : ¬ (e.2 == v) = true := by simpa using c2
        rw [if_neg d1, if_neg d2, if_neg d3]; omega
    · rw [if_neg c]
      by_cases c2 : e.1 ∈ en ∧ e.2 = v
      · rw [if_pos c2, if_pos ⟨.tail _ c2.1, c2.2⟩]; omega
      · rw [if_neg c2, if_neg (fun h => c2 ⟨by rcases List.mem_cons.mp h.1 with h | h; exact absurd h c; exact h, h.2⟩)]; omega
theorem cnt_le {en : List Int} (nd : en.Nodup) (v : Int) : ∀ es, (en.flatMap (sus es)).count v ≤ (dms es).count v
  | [] => by
    have : en.flatMap (sus []) = [] := by rw [List.flatMap_eq_nil_iff]; intro _ _; rfl
    rw [this]; exact Nat.le_refl _
  | e :: es => by
    have := cnt_le nd v es
    rw [cnt_cons e es v nd]
    unfold dms at this ⊢
    rw [List.map_cons, List.count_cons]
    by_cases c2 : e.2 = v
    · have d3 : (e.2 == v) = true := by simpa using c2
      rw [if_pos d3]; split <;> omega
    · have d2 : ¬ (e.1 ∈ en ∧ e.2 = v) := fun h => c2 h.2
      rw [if_neg d2]; omega
theorem cnt_eq {en : List Int} (nd : en.Nodup) (v : Int) : ∀ es, (dms es).count v = (en.flatMap (sus es)).count v → ∀ u, (u, v) ∈ es → u ∈ en
  | [], _, _, h => by cases h
  | e :: es, he, u, h => by
    have hle := cnt_le nd v es
    rw [cnt_cons e es v nd] at he
    unfold dms at he hle
    rw [List.map_cons, List.count_cons] at he
    rcases List.mem_cons.mp h with h | h
    · subst h
      by_cases c : u ∈ en
      · exact c
      · have d2 : ¬ ((u, v).1 ∈ en ∧ (u, v).2 = v) := fun h => c h.1
        have d3 : ((u, v).2 == v) = true := by simp
        rw [if_neg d2, if_pos d3] at he; omega
    · refine cnt_eq nd v es ?_ u h
      by_cases c2 : e.2 = v
      · have d3 : (e.2 == v) = true := by simpa using c2
        rw [if_pos d3] at he
        unfold dms
        split at he <;> omega
      · have d2 : ¬ (e.1 ∈ en ∧ e.2 = v) := fun h => c2 h.2
        have d3 : ¬ (e.2 == v) = true := by simpa using c2
        rw [if_neg d3, if_neg d2] at he
        exact he
theorem cnt_ge {en : List Int} (nd : en.Nodup) (v : Int) : ∀ es, (∀ u, (u, v) ∈ es → u ∈ en) → (dms es).count v ≤ (en.flatMap (sus es)).count v
  | [], _ => Nat.zero_le _
  | e :: es, h => by
    have ih := cnt_ge nd v es fun u hu => h u (.tail _ hu)
    rw [cnt_cons e es v nd]
    unfold dms at ih ⊢
    rw [List.map_cons, List.count_cons]
    by_cases c2 : e.2 = v
    · have d2 : (e.1 ∈ en ∧ e.2 = v) := ⟨h e.1 (by rw [← c2]; exact .head _), c2⟩
      rw [if_pos d2]; split <;> omega
    · have d3 : ¬ (e.2 == v) = true := by simpa using c2
      rw [if_neg d3]; omega
section
variable {lt : Int → Int → Prop} {K : List Int} {es : List (Int × Int)} {ns : List Nd} {rdy gv en tk : List Int}
theorem LM.get (h : LM lt K es ns rdy gv en tk) {v : Int} (hv : v ∈ K) : ∃ r, getN ns v = some r ∧ r.np = npN ns v ∧ r.su = sus es v := by
  obtain ⟨r, hr⟩ := getN_some (ns := ns) (k := v) (by rw [h.keys]; exact hv)
  refine ⟨r, hr, ?_, ?_⟩
  · unfold npN; rw [hr]
  · rw [← h.su v hv, suN_get hr]
theorem LM.nodup (h : LM lt K es ns rdy gv en tk) : (keysN ns).Nodup := by rw [h.keys]; exact h.knd
theorem LM.closed (h : LM lt K es ns rdy gv en tk) : ∀ r ∈ ns, ∀ y ∈ r.su, y ∈ keysN ns := closed_of h.knd h.esk h.keys h.su
theorem LM.bnd (h : LM lt K es ns rdy gv en tk) : bndN ns es.length := bnd_of h.knd h.keys h.su
theorem LM.rlen (h : LM lt K es ns rdy gv en tk) : rdy.length ≤ K.length := nodup_len h.rnd fun v hv => ((h.rmem v).mp hv).1
theorem LM.rk (h : LM lt K es ns rdy gv en tk) : ∀ q ∈ rdy, q ∈ keysN ns := fun v hv => by rw [h.keys]; exact ((h.rmem v).mp hv).1
theorem LI.le (h : LI lt K es ns rdy gv en tk) (v : Int) : tk.count v ≤ (dms es).count v := by rw [h.tke]; exact cnt_le h.endn v es
theorem LM.tok (h : LM lt K es ns rdy gv en tk) {y : Int} (hy : y ∈ K) (hc : tk.count y < (dms es).count y) : LM lt K es (decN (ns, rdy) y).1 (decN (ns, rdy) y).2 gv en (tk ++ [y]) := by
  have hgv : y ∉ gv := fun hm => by have := h.full y hm; omega
  have hne : ∀ v ∈ gv, v ≠ y := fun v hv e => hgv (e ▸ hv)
  have hrd : y ∉ rdy := fun hm => by have := ((h.rmem y).mp hm).2.2; omega
  obtain ⟨r, hr, hnp, hsu⟩ := h.get hy
  have e1 : (decN (ns, rdy) y).1 = upN ns y fun r => { r with np := r.np - 1 } := rfl
  have e2 : (decN (ns, rdy) y).2 = if (dms es).count y = tk.count y + 1 then rdy ++ [y] else rdy := by
    unfold decN
    dsimp only
    rw [hr]
    dsimp only
    rw [hnp, h.np0 y hy hgv]
    by_cases c : (dms es).count y = tk.count y + 1
    · rw [if_pos c, if_pos (by omega)]
    · rw [if_neg c, if_neg (by omega)]
  have hct : ∀ v, (tk ++ [y]).count v = tk.count v + if v = y then 1 else 0 := fun v => by
    rw [List.count_append, List.count_singleton]
    by_cases c : v = y
    · subst c; simp
    · have c' : ¬ y = v := fun h => c h.symm
      simp [c, c']
  have hnpu : ∀ v ∈ K, npN (upN ns y fun r => { r with np := r.np - 1 }) v = if v = y then npN ns v - 1 else npN ns v := fun v hv => npN_up (by rw [h.keys]; exact hv) y (fun m => m - 1)
  have hgk : ∀ v ∈ gv, npN (upN ns y fun r => { r with np := r.np - 1 }) v = npN ns v := fun v hv => by rw [hnpu v (h.gvk v hv), if_neg (hne v hv)]
  have hps : rdy.Pairwise fun a b => lastF (tk ++ [y]) a < lastF (tk ++ [y]) b ∨ (lastF (tk ++ [y]) a = lastF (tk ++ [y]) b ∧ lt a b) := by
    refine List.Pairwise.imp_of_mem ?_ h.rsort
    intro a b ha hb hab
    have d1 : ¬ y = a := fun e => hrd (e ▸ ha)
    have d2 : ¬ y = b := fun e => hrd (e ▸ hb)
    rw [lastF_snoc, lastF_snoc, if_neg d1, if_neg d2]
    exact hab
  rw [e1, e2]
  refine { h with keys := (keys_np ns y (fun m => m - 1)).trans h.keys, su := fun v hv => (suN_up (by rw [h.keys]; exact hv) y (fun m => m - 1)).trans (h.su v hv), full := fun v hv => ?_, np2 := fun v hv => (hgk v (h.ens v hv)).trans (h.np2 v hv), np1 := fun v hv hn => (hgk v hv).trans (h.np1 v hv hn), np0 := fun v hv hn => ?_, rnd := ?_, rmem := fun v => ?_, rsort := ?_ }
  · rw [hct, if_neg (hne v hv), h.full v hv]; rfl
  · rw [hnpu v hv, h.np0 v hv hn, hct]
    by_cases c : v = y
    · rw [if_pos c, if_pos c]; omega
    · rw [if_neg c, if_neg c]; omega
  · split
    · exact List.nodup_append.mpr ⟨h.rnd, by simp, fun a ha b hb e => hrd (by simp only [List.mem_singleton] at hb; rw [← hb, ← e]; exact ha)⟩
    · exact h.rnd
  · have hv := h.rmem v
    rw [hct]
    by_cases c : v = y
    · subst c
      rw [if_pos rfl]
      split
      · rename_i c2
        constructor
        · intro _; exact ⟨hy, hgv, c2⟩
        · intro _; simp
      · rename_i c2
        constructor
        · intro hm; exact absurd hm hrd
        · rintro ⟨_, _, h3⟩; exact absurd h3 c2
    · rw [if_neg c]
      have : (v ∈ if (dms es).count y = tk.count y + 1 then rdy ++ [y] else rdy) ↔ v ∈ rdy := by
        split
        · simp [c]
        · exact Iff.rfl
      rw [this, hv]; simp
  · split
    · refine List.pairwise_append.mpr ⟨hps, by simp, fun a ha b hb => ?_⟩
      simp only [List.mem_singleton] at hb
      subst hb
      have d1 : ¬ b = a := fun e => hrd (e ▸ ha)
      rw [lastF_snoc, lastF_snoc, if_neg d1, if_pos rfl]
      exact .inl (lastF_lt tk a)
    · exact hps
theorem LM.fin (h : LM lt K es ns rdy gv en tk) {q : Int} (hq : q ∈ gv) (hn : q ∉ en) : LM lt K es (upN ns q fun r => { r with np := -2 }) rdy gv (en ++ [q]) tk := by
  have hnpu : ∀ v ∈ K, npN (upN ns q fun r => { r with np := -2 }) v = if v = q then -2 else npN ns v := fun v hv => npN_up (by rw [h.keys]; exact hv) q (fun _ => -2)
  refine { h with keys := (keys_np ns q (fun m => -2)).trans h.keys, su := fun v hv => (suN_up (by rw [h.keys]; exact hv) q (fun m => -2)).trans (h.su v hv), ens := fun v hv => ?_, endn := ?_, np2 := fun v hv => ?_, np1 := fun v hv hne => ?_, np0 := fun v hv hg => ?_ }
  · rcases List.mem_append.mp hv with hv | hv
    · exact h.ens v hv
    · simp only [List.mem_singleton] at hv; rw [hv]; exact hq
  · exact List.nodup_append.mpr ⟨h.endn, by simp, fun a ha b hb e => hn (by simp only [List.mem_singleton] at hb; rw [← hb, ← e]; exact ha)⟩
  · rcases List.mem_append.mp hv with hv | hv
    · rw [hnpu v (h.gvk v (h.ens v hv))]
      split
      · rfl
      · exact h.np2 v hv
    · simp only [List.mem_singleton] at hv; rw [hv, hnpu q (h.gvk q hq), if_pos rfl]
  · rw [hnpu v (h.gvk v hv), if_neg (fun e => hne (by rw [e]; simp))]
    exact h.np1 v hv fun hm => hne (List.mem_append_left _ hm)
  · have d1 : ¬ v = q := fun e => hg (e ▸ hq)
    rw [hnpu v hv, if_neg d1]
    exact h.np0 v hv hg
theorem LM.toks : ∀ (ss : List Int) {ns : List Nd} {rdy tk : List Int}, LM lt K es ns rdy gv en tk → (∀ y ∈ ss, y ∈ K) → (∀ v, (tk ++ ss).count v ≤ (dms es).count v) → LM lt K es (decS (ns, rdy) ss).1 (decS (ns, rdy) ss).2 gv en (tk ++ ss)
  | [], ns, rdy, tk, h, _, _ => by rw [List.append_nil]; exact h
  | y :: ss, ns, rdy, tk, h, hk, hc => by
    have h1 := h.tok (hk y (.head _)) (by have := hc y; rw [List.count_append, List.count_cons_self] at this; omega)
    have h2 := LM.toks ss h1 (fun z hz => hk z (.tail _ hz)) (fun v => by rw [List.append_assoc]; exact hc v)
    rw [List.append_assoc] at h2
    exact h2
theorem LI.done1 (h : LI lt K es ns rdy gv en tk) {q : Int} (hq : q ∈ gv) (hn : q ∉ en) (f : Int) : ∃ ns' rdy', doneOne ⟨ns, rdy, f⟩ q = (0, ⟨ns', rdy', f + 1⟩) ∧ LI lt K es ns' rdy' gv (en ++ [q]) (tk ++ sus es q) := by
  obtain ⟨r, hr, hnp, hsu⟩ := h.get (h.gvk q hq)
  rw [h.np1 q hq hn] at hnp
  have htk : tk ++ sus es q = (en ++ [q]).flatMap (sus es) := by rw [List.flatMap_append, ← h.tke]; simp
  have hf := h.toLM.fin hq hn
  have h2 := LM.toks (sus es q) hf (fun y hy => (h.esk _ (mem_sus.mp hy)).2) (fun v => by rw [htk]; exact cnt_le hf.endn v es)
  refine ⟨_, _, ?_, ⟨h2, htk⟩⟩
  unfold doneOne
  dsimp only
  rw [hr]
  dsimp only
  rw [if_pos hnp, hsu]
theorem outN_np : ∀ (ks : List Int) {ns : List Nd} {v : Int}, v ∈ keysN ns → npN (outN ns ks) v = if v ∈ ks then -1 else npN ns v
  | [], _, _, _ => by simp [outN]
  | q :: ks, ns, v, hv => by
    show npN (outN (upN ns q fun r => { r with np := -1 }) ks) v = _
    rw [outN_np ks (by rw [keys_np ns q (fun _ => -1)]; exact hv), npN_up hv q (fun _ => -1)]
    by_cases c : v ∈ ks
    · simp [c]
    · by_cases c2 : v = q
      · simp [c2]
      · simp [c, c2]
theorem outN_su : ∀ (ks : List Int) {ns : List Nd} {v : Int}, v ∈ keysN ns → suN (outN ns ks) v = suN ns v
  | [], _, _, _ => rfl
  | q :: ks, ns, v, hv => by
    show suN (outN (upN ns q fun r => { r with np := -1 }) ks) v = _
    rw [outN_su ks (by rw [keys_np ns q (fun _ => -1)]; exact hv), suN_up hv q (fun _ => -1)]
theorem LI.ready (h : LI lt K es ns rdy gv en tk) : LI lt K es (outN ns rdy) [] (gv ++ rdy) en tk := by
  have hr := fun v hv => (h.rmem v).mp hv
  have hnp : ∀ v ∈ K, npN (outN ns rdy) v = if v ∈ rdy then -1 else npN ns v := fun v hv => outN_np rdy (by rw [h.keys]; exact hv)
  refine { h with keys := (outN_keys rdy ns).trans h.keys, su := fun v hv => (outN_su rdy (by rw [h.keys]; exact hv)).trans (h.su v hv), gvk := fun v hv => ?_, gnd := ?_, ens := fun v hv => List.mem_append_left _ (h.ens v hv), full := fun v hv => ?_, np2 := fun v hv => ?_, np1 := fun v hv hn => ?_, np0 := fun v hv hn => ?_, rnd := .nil, rmem := fun v => ?_, rsort := .nil, nor := fun v hv S hS hm => ?_ }
  · rcases List.mem_append.mp hv with hv | hv
    · exact h.gvk v hv
    · exact (hr v hv).1
  · exact List.nodup_append.mpr ⟨h.gnd, h.rnd, fun a ha b hb e => (hr b hb).2.1 (e ▸ ha)⟩
  · rcases List.mem_append.mp hv with hv | hv
    · exact h.full v hv
    · exact (hr v hv).2.2
  · have hg := h.ens v hv
    rw [hnp v (h.gvk v hg), if_neg (fun hm => (hr v hm).2.1 hg)]
    exact h.np2 v hv
  · rcases List.mem_append.mp hv with hv | hv
    · rw [hnp v (h.gvk v hv), if_neg (fun hm => (hr v hm).2.1 hv)]
      exact h.np1 v hv hn
    · rw [hnp v (hr v hv).1, if_pos hv]
  · rw [hnp v hv, if_neg (fun hm => hn (List.mem_append_right _ hm))]
    exact h.np0 v hv fun hm => hn (List.mem_append_left _ hm)
  · constructor
    · intro hv; cases hv
    · rintro ⟨h1, h2, h3⟩
      exact absurd (List.mem_append_right gv ((h.rmem v).mpr ⟨h1, fun hm => h2 (List.mem_append_left _ hm), h3⟩)) h2
  · rcases List.mem_append.mp hv with hv | hv
    · exact h.nor v hv S hS hm
    · obtain ⟨u, hu, hvu⟩ := hS.2 v hm
      have := cnt_eq h.endn v es (by rw [← h.tke]; exact (hr v hv).2.2) u (mem_sus.mp hvu)
      exact h.nor u (h.ens u this) S hS hu
end
structure RingsE (K : List Int) (rb : Bool) (es : List (Int × Int)) : Prop where
  yes : rb = true → ∃ S : List Int, Ring (sus es) S
  no : rb = false → ∃ B, Topo (sus es) B ∧ ∀ k ∈ K, k ∈ B
theorem RingsE.of {K : List Int} {rb : Bool} {ns : List Nd} {es : List (Int × Int)} (h : Blt K ns es) (hrt : rb = true → ∃ S, Ring (suN ns) S) (hrf : rb = false → ∃ B, Topo (suN ns) B ∧ ∀ k ∈ keysN ns, k ∈ B) : RingsE K rb es := by
  constructor
  · intro e
    obtain ⟨S, h1, h2⟩ := hrt e
    refine ⟨S, h1, fun v hv => ?_⟩
    obtain ⟨u, hu, hvu⟩ := h2 v hv
    refine ⟨u, hu, ?_⟩
    have hk : u ∈ K := by
      rw [← h.keys]
      cases e : getN ns u with
      | none => unfold suN at hvu; rw [e] at hvu; cases hvu
      | some r => exact List.mem_map.mpr ⟨r, getN_mem e, getN_key e⟩
    rw [← h.su u hk]; exact hvu
  · intro e
    obtain ⟨B, h1, h2⟩ := hrf e
    refine ⟨B, fun B1 b B2 e y hy => ?_, by rw [← h.keys]; exact h2⟩
    have hk := (h.esk _ (mem_sus.mp hy)).1
    exact h1 B1 b B2 e y (by rw [h.su b hk]; exact hy)
theorem topo_none {su : Int → List Int} {B : List Int} (hT : Topo su B) {U : Int → Prop} (hU : ∀ v, U v → v ∈ B) (hp : ∀ v, U v → ∃ u, U u ∧ v ∈ su u) : ∀ v, ¬ U v := by
  have key : ∀ (n : Nat) (B1 : List Int) (v : Int) (B2 : List Int), B = B1 ++ v :: B2 → v ∉ B1 → B2.length ≤ n → ¬ U v := by
    intro n
    induction n with
    | zero =>
      intro B1 v B2 e hv hl hu
      obtain ⟨u, hu', hvu⟩ := hp v hu
      obtain ⟨C1, C2, e2, hC⟩ := List.eq_append_cons_of_mem (hU u hu')
      have hm := hT C1 u C2 e2 v hvu
      have hlen := congrArg List.length (e.symm.trans e2)
      simp only [List.length_append, List.length_cons] at hlen
      have : C1.length ≤ B1.length := by omega
      have hpre : C1 = B1.take C1.length := by
        have := congrArg (List.take C1.length) (e.symm.trans e2)
        rw [List.take_left, List.take_append_of_le_length (by omega)] at this
        exact this.symm
      rw [hpre] at hm
      exact hv (List.mem_of_mem_take hm)
    | succ n ih =>
      intro B1 v B2 e hv hl hu
      obtain ⟨u, hu', hvu⟩ := hp v hu
      obtain ⟨C1, C2, e2, hC⟩ := List.eq_append_cons_of_mem (hU u hu')
      have hm := hT C1 u C2 e2 v hvu
      have hlen := congrArg List.length (e.symm.trans e2)
      simp only [List.length_append, List.length_cons] at hlen
      by_cases c : C1.length ≤ B1.length
      · have hpre : C1 = B1.take C1.length := by
          have := congrArg (List.take C1.length) (e.symm.trans e2)
          rw [List.take_left, List.take_append_of_le_length (by omega)] at this
          exact this.symm
        rw [hpre] at hm
        exact hv (List.mem_of_mem_take hm)
      · exact ih C1 u C2 e2 hC (by omega) hu'
  intro v hv
  obtain ⟨C1, C2, e2, hC⟩ := List.eq_append_cons_of_mem (hU v hv)
  exact key _ C1 v C2 e2 hC (Nat.le_refl _) hv
theorem LI.stuck {lt : Int → Int → Prop} {K : List Int} {es : List (Int × Int)} {ns : List Nd} {gv en tk : List Int} {rb : Bool} (h : LI lt K es ns [] gv en tk) (hw : ∀ v ∈ gv, v ∈ en) (hR : RingsE K rb es) : (rb = true ↔ ∃ v ∈ K, v ∉ en) ∧ ((∃ v ∈ K, v ∉ en) ↔ ∃ v, tk.count v < (dms es).count v) := by
  have hlt : ∀ v ∈ K, v ∉ en → tk.count v < (dms es).count v := fun v hv hn => by
    have hg : v ∉ gv := fun hm => hn (hw v hm)
    have h1 := h.le v
    have h2 : ¬ (dms es).count v = tk.count v := fun e => by
      have := (h.rmem v).mpr ⟨hv, hg, e⟩
      cases this
    omega
  have hU : (∃ v ∈ K, v ∉ en) ↔ ∃ v, tk.count v < (dms es).count v := by
    constructor
    · rintro ⟨v, hv, hn⟩; exact ⟨v, hlt v hv hn⟩
    · rintro ⟨v, hv⟩
      have hm : v ∈ dms es := List.count_pos_iff.mp (by omega)
      obtain ⟨e, he, rfl⟩ := List.mem_map.mp hm
      refine ⟨e.2, (h.esk e he).2, fun hn => ?_⟩
      have := h.full _ (h.ens _ hn)
      omega
  refine ⟨?_, hU⟩
  constructor
  · intro e
    obtain ⟨S, hS⟩ := hR.yes e
    obtain ⟨v, hv⟩ := List.exists_mem_of_ne_nil S hS.1
    obtain ⟨u, hu, hvu⟩ := hS.2 v hv
    exact ⟨v, (h.esk _ (mem_sus.mp hvu)).2, fun hm => h.nor v (h.ens v hm) S hS hv⟩
  · rintro ⟨v, hv, hn⟩
    cases hrb : rb with
    | true => rfl
    | false =>
      exfalso
      obtain ⟨B, hT, hB⟩ := hR.no hrb
      refine topo_none hT (U := fun v => v ∈ K ∧ v ∉ en) (fun v hv => hB v hv.1) (fun v hv => ?_) v ⟨hv, hn⟩
      have h1 := hlt v hv.1 hv.2
      by_cases hex : ∃ u, (u, v) ∈ es ∧ u ∉ en
      · obtain ⟨u, h2, h3⟩ := hex
        exact ⟨u, ⟨(h.esk _ h2).1, h3⟩, mem_sus.mpr h2⟩
      · exfalso
        have hall : ∀ u, (u, v) ∈ es → u ∈ en := fun u hu => Classical.byContradiction fun hn => hex ⟨u, hu, hn⟩
        have : (dms es).count v ≤ (en.flatMap (sus es)).count v := cnt_ge h.endn v es hall
        rw [← h.tke] at this
        omega
theorem law_enter {prog : Program} {w : World} {K : Frag} {gl : List (Str × MV)} {s₁ : Shared} (hKin : K.In s₁.heap) (hnl : s₁.heap.NoLimit)
    (hgl : ∃ mg mb, s₁.heap.Ns mainGlobals mg ∧ s₁.heap.Ns builtinsNs mb ∧ ∀ p ∈ gl, ∃ v, Is v p.2 ∧ (mg p.1 = some v ∨ (mg p.1 = none ∧ mb p.1 = some v))) (hgens : s₁.gens = #[])
    {f : Addr} {name qual : Str} {params : Arguments} {body : List Stmt} {scope : Scope} {dV kV doc pm cdv ct oc : Value} {an od : Option Addr} {osl : Array (Option Value)}
    {ps more morec : List Str} {args : List MV} {l : Loc} {cs : List (Str × Option MV)} {vs : List Value} (hv : Are vs args)
    (ho : K.lookup f = some ⟨oc, od, .func (fnOf name qual params body scope dV kV doc pm an cdv ct), osl⟩) (hcd : codeIn K cdv qual = true)
    (hbind : BindsTo s₁ (fnOf name qual params body scope dV kV doc pm an cdv ct) ⟨vs, []⟩ (ps.zip vs))
    (hB : Bd scope.names ps args l cs) (hnd : (ps ++ more ++ morec).Nodup) (hmc : (morec.all fun x => scope.names.lookup x == some .cell) = true)
    (hnn : (scope.names.map (·.1)).Nodup) (hdb : (scope.names.all fun p => !(p.1 == ("__debug__" : Str))) = true)
    (hco : scope.isCoroutine = false) (hgen : scope.isGenerator = false) (hk : scope.kind = .function) {Q : MV → Prop}
    (h : ∀ (C' : Cx) (as : List Addr), as.length = (cs ++ morec.map fun x => (x, none)).length → C'.Ok gl scope.names (cellTab as (cs ++ morec.map fun x => (x, none))) → C'.prog = prog → C'.w = w → C'.K = K → C'.lv = 20 → C'.A.handled = none → C'.hb = s₁.heap →
      EXS C' body (fun fl σ' => Q (retOf fl)) (EXC C' fun a cls σ' => False) ⟨l ++ more.map fun x => (x, none), cellLed as (cs ++ morec.map fun x => (x, none)) ++ []⟩) :
    codeAny (model prog w) callerA (.call (.ref f) ⟨vs, []⟩) (fun r s' => ∃ v b, r = .ok (.ret v) ∧ Is v b ∧ Q b ∧ (∀ b o, s₁.heap.get? b = some o → s'.heap.get? b = some o) ∧ s'.gens = #[] ∧ s'.os = s₁.os) s₁ := by
  refine codeAny_call_function (fd := fnOf name qual params body scope dV kV doc pm an cdv ct) (body := body) (by decide +kernel) (hKin _ _ ho) rfl hco hgen rfl (codeRec_of hKin hcd) ?_
  refine hbind _ _ _ _ ?_
  have nd1 := List.nodup_append.mp hnd
  have nd2 := List.nodup_append.mp nd1.1
  have hcellname : ∀ p ∈ cs ++ morec.map fun x => ((x, none) : Str × Option MV), scope.names.lookup p.1 = some .cell := fun p hp => by
    rcases List.mem_append.mp hp with hp | hp
    · exact (hB.names.2.1 p hp).2
    · obtain ⟨x, hx, rfl⟩ := List.mem_map.mp hp
      simpa using List.all_eq_true.mp hmc x hx
  refine wpAny_newFunctionEnv_cells hk (fun x hx => ?_) fun env he s' x => ?_
  · rcases hB.names.2.2 x.1 (List.of_mem_zip hx).1 with e | e
    · exact .inl e
    · exact .inr ⟨e, cells_some _ _ _ e⟩
  · have hkind : ∀ x, env.kindOf x = scope.names.lookup x := fun x => by rw [he]; rfl
    obtain ⟨hmap1, hmap2⟩ := hB.binds hkind nd2.1 hv (fun _ => none) (fun _ => none)
    obtain ⟨⟨⟨h₁, tk, rfl⟩, hns, hkeep, hfresh⟩, hcell, hapart, habove⟩ := x
    have hL : env.locals = s₁.heap.objs.size := by rw [he]; rfl
    have hcl : env.cells = cellsFrom (s₁.heap.objs.size + 1) scope.names [] := by rw [he]; rfl
    refine ⟨hnl.keeps hkeep, codeAny_func ?_⟩
    have hnone : s₁.heap.get? s₁.heap.objs.size = none := by
      cases e : s₁.heap.get? s₁.heap.objs.size with
      | none => rfl
      | some o => exact absurd (Heap.lt_size e) (Nat.lt_irrefl _)
    -- the locals
    have hloc : ∀ p ∈ l ++ more.map fun x => ((x, none) : Str × Option MV), LocIs (bindL env.kindOf (ps.zip vs) (fun _ => none) p.1) p.2 := fun p hp => by
      rcases List.mem_append.mp hp with hp | hp
      · exact hmap1 p hp
      · obtain ⟨x, hx, rfl⟩ := List.mem_map.mp hp
        rw [(bind_off ps vs _ x fun hx' => nd2.2.2 x hx' x hx rfl).1]; trivial
    have hlnd : ((l ++ more.map fun x => ((x, none) : Str × Option MV)).map (·.1)).Nodup := by
      rw [List.map_append, List.map_map, show (more.map ((·.1) ∘ fun x => ((x, none) : Str × Option MV))) = more from List.map_id _]
      exact List.Sublist.nodup (List.Sublist.append hB.keys.1 (List.Sublist.refl _)) nd1.1
    let C : Cx := ⟨prog, w, K, callerA.deeper env, env, s₁.heap, s₁.heap.objs.size, [], s₁.os, 20⟩
    let ad : Str → Addr := fun x => (env.cells.lookup x).getD 0
    have had : ∀ p ∈ cs ++ morec.map fun x => ((x, none) : Str × Option MV), env.cells.lookup p.1 = some (ad p.1) := fun p hp => by
      have := cells_some scope.names (s₁.heap.objs.size + 1) [] (hcellname p hp)
      rw [← hcl] at this
      obtain ⟨a, ha⟩ := Option.isSome_iff_exists.mp this
      show _ = some ((env.cells.lookup p.1).getD 0)
      rw [ha]; rfl
    have hcsnd : ((cs ++ morec.map fun x => ((x, none) : Str × Option MV)).map (·.1)).Nodup := by
      rw [List.map_append, List.map_map, show (morec.map ((·.1) ∘ fun x => ((x, none) : Str × Option MV))) = morec from List.map_id _]
      refine List.Sublist.nodup (List.Sublist.append (hB.keys.2.trans (List.sublist_append_left ps more)) (List.Sublist.refl _)) hnd
    have hcval : ∀ p ∈ cs ++ morec.map fun x => ((x, none) : Str × Option MV), LocIs (bindC env.kindOf (ps.zip vs) (fun _ => none) p.1) p.2 := fun p hp => by
      rcases List.mem_append.mp hp with hp | hp
      · exact hmap2 p hp
      · obtain ⟨x, hx, rfl⟩ := List.mem_map.mp hp
        rw [(bind_off ps vs _ x fun hx' => nd1.2.2 x (List.mem_append_left _ hx') x hx rfl).2]; trivial
    have hbig : ∀ p ∈ cs ++ morec.map fun x => ((x, none) : Str × Option MV), s₁.heap.objs.size < ad p.1 := fun p hp => by
      have := habove p.1 (ad p.1) (mem_of_lookup (had p hp))
      rw [hL] at this; exact this
    have E₂ : Rel C ⟨l ++ more.map fun x => (x, none), (cs ++ morec.map fun x => (x, none)).map (fun (p : Str × Option MV) => (ad p.1, MO.cell p.2)) ++ []⟩ { s₁ with heap := h₁, toks := tk } := by
      refine ⟨hkeep, ⟨_, by rw [hL] at hns; exact hns, hloc⟩, hnone, hlnd, fun p hp => (nomatch hp), fun p hp => ?_, ?_, hgens, rfl⟩
      · rw [List.append_nil] at hp
        obtain ⟨q, hq, rfl⟩ := List.mem_map.mp hp
        obtain ⟨ob, ho', hdat⟩ := hcell q.1 (ad q.1) (had q hq)
        have hb := hbig q hq
        refine ⟨⟨ob, ho', _, hdat, hcval q hq⟩, ?_, ?_, ?_⟩
        · show s₁.heap.get? (ad q.1) = none
          cases e : s₁.heap.get? (ad q.1) with
          | none => rfl
          | some o => exact absurd (Heap.lt_size e) (Nat.not_lt.mpr (Nat.le_of_lt hb))
        · exact Nat.ne_of_gt hb
        · intro r hr; exact nomatch hr
      · rw [List.append_nil, List.map_map]
        have aux : ∀ qs : List (Str × Option MV), (qs.map (·.1)).Nodup → (∀ p ∈ qs, p ∈ cs ++ morec.map fun x => ((x, none) : Str × Option MV)) → (qs.map ((·.1) ∘ fun p => (ad p.1, MO.cell p.2))).Nodup := by
          intro qs
          induction qs with
          | nil => intro _ _; exact .nil
          | cons q qs ih =>
            intro nd hm
            have n2 := List.nodup_cons.mp nd
            refine List.nodup_cons.mpr ⟨fun hmem => ?_, ih n2.2 fun p hp => hm p (.tail _ hp)⟩
            obtain ⟨r, hr, e⟩ := List.mem_map.mp hmem
            have e' : ad r.1 = ad q.1 := e
            have h1 := mem_of_lookup (had r (hm r (.tail _ hr)))
            have h2 := mem_of_lookup (had q (hm q (.head _)))
            rw [e'] at h1
            exact n2.1 (List.mem_map.mpr ⟨r, hr, name_of_addr hapart h1 h2⟩)
        exact aux _ hcsnd fun p hp => hp
    have O' : C.Ok gl scope.names (cellTab ((cs ++ morec.map fun x => (x, none)).map fun (p : Str × Option MV) => ad p.1) (cs ++ morec.map fun x => (x, none))) := by
      have hfr : env.frame = some s₁.heap.objs.size := by rw [he]; rfl
      refine ⟨hKin, hnl, hgl, by rw [show C.env = env from rfl, he]; exact hk, by rw [show C.env = env from rfl, he]; rfl, hnn, hdb, fun p hp => ?_, hL, by rw [show C.env = env from rfl, he]; rfl, by rw [show C.env = env from rfl, he]; rfl, ⟨env, [], ?_, rfl, fun e' he' => ?_⟩, ?_, ?_⟩
      · rw [cellTab_map ad] at hp
        obtain ⟨q, hq, rfl⟩ := List.mem_map.mp hp
        exact had q hq
      · show callerA.frames.map (env :: ·) = _
        rfl
      · rcases List.mem_cons.mp he' with rfl | he'
        · exact ⟨by rw [he]; show scope.kind ≠ _; rw [hk]; decide, _, hfr, .inl rfl⟩
        · exact nomatch he'
      · show callerA.depth + 1 + 10 * 20 ≤ 900
        decide +kernel
      · show callerA.units + 3 + 100 * 20 ≤ 9000
        decide +kernel
    have E₃ : Rel C ⟨l ++ more.map fun x => (x, none), cellLed ((cs ++ morec.map fun x => (x, none)).map fun (p : Str × Option MV) => ad p.1) (cs ++ morec.map fun x => (x, none)) ++ []⟩ { s₁ with heap := h₁, toks := tk } := by
      rw [cellLed_map ad]
      exact E₂
    refine wpAny_mono (h C _ (by simp) O' rfl rfl rfl rfl rfl rfl _ E₃) (fun fl s' post_ => post_.out fun b σ' i R' q => ?_) fun e s' post_ => post_.out fun a cls tr σ' hee X' hx => hx.elim
    cases b with
    | next => cases i; exact ⟨_, _, rfl, Is.none, q, R'.keep, R'.gens, R'.os⟩
    | cont => cases i; exact ⟨_, _, rfl, Is.none, q, R'.keep, R'.gens, R'.os⟩
    | brk => cases i; exact ⟨_, _, rfl, Is.none, q, R'.keep, R'.gens, R'.os⟩
    | ret v => obtain ⟨y, rfl, i⟩ := i; exact ⟨_, _, rfl, i, q, R'.keep, R'.gens, R'.os⟩
theorem rng_size (n : Nat) : Builtin.Range.rangeSize 0 (n : Int) 1 = n := by
  unfold Builtin.Range.rangeSize
  rw [if_pos (by decide)]
  by_cases h : (0 : Int) < n
  · rw [if_pos h]; rw [Int.ediv_one]; omega
  · rw [if_neg h]; omega
theorem rng_small {n : Nat} (h : n ≤ 1000000) : Builtin.Range.small 0 (n : Int) 1 = true := by
  unfold Builtin.Range.small
  rw [rng_size, if_pos (by decide)]
  have f : ∀ k : Int, 0 ≤ k → k ≤ 1000000 → Builtin.Range.rangeFitsLong k = true := fun k h1 h2 => by
    unfold Builtin.Range.rangeFitsLong
    simp only [Bool.and_eq_true, decide_eq_true_eq]
    omega
  rw [f 0 (by omega) (by omega), f n (by omega) (by omega), f 1 (by omega) (by omega), f (n + (1 - 1)) (by omega) (by omega)]
  simp
theorem range_get01 {n i : Nat} {y : MV} (h : ((rangeL 0 1 n).map MV.int)[i]? = some y) : i < n ∧ y = .int (i : Int) := by
  obtain ⟨h1, h2⟩ := range_get h
  exact ⟨h1, by rw [h2]; congr 1; omega⟩
theorem rangeL_len (a c : Int) (n : Nat) : ((rangeL a c n).map MV.int).length = n := by unfold rangeL; simp
theorem c_acc {C : Cx} {elt t iter : PySem.Expr} {ifs : List PySem.Expr} {gens : List Comprehension} {sc : Scope} {pos : Pos} {d : Nat} {it D : Addr} {Q : MS → Prop} {S : Src} (hg : gens[d]? = some ⟨t, iter, ifs, 0⟩) (hh : C.A.handled = none) (So : S.Ok it) (A : Nat → List Int) (LL : Nat → Loc → Prop) {loc : Loc} {R : List (Addr × MO)} (hA : A 0 = []) (h0 : LL 0 loc) (hneed : ∀ it o l, S.need ((it, o) :: (D, .list l) :: R))
    (turn : ∀ i x o lo, LL i lo → S.items[i]? = some x → ∀ QQ : MS → Prop, (∀ σ₃, (Take ((it, o) :: (D, .list ((A (i + 1)).map .int)) :: R) σ₃.led ∧ LL (i + 1) σ₃.loc) → QQ σ₃) → ASG C t x (fun _ σ₁ => TESTS C ifs (fun ok σ₂ => if ok = true then EMIT C elt gens sc pos d D QQ σ₂ else QQ σ₂) σ₁) NoE ⟨lo, (it, o) :: (D, .list ((A i).map .int)) :: R⟩)
    (done : ∀ lo, LL S.items.length lo → Q ⟨lo, (D, .list ((A S.items.length).map .int)) :: R⟩) : CLP C (.ListComp elt gens sc pos) d it D Q ⟨loc, (it, S.at_ 0) :: (D, .list []) :: R⟩ := by
  refine c_loop hg hh So (fun j lo led' => LL j lo ∧ led' = (D, .list ((A j).map .int)) :: R) ⟨h0, by rw [hA]; rfl⟩ (fun i lo led it o h => by obtain ⟨_, rfl⟩ := h; exact hneed it o _) ?_ ?_
  · rintro i x o lo led ⟨hl, rfl⟩ hx QQ hn
    exact turn i x o lo hl hx QQ fun σ₃ h => hn σ₃ ⟨_, h.1, h.2, rfl⟩
  · rintro lo led ⟨hl, rfl⟩
    exact done lo hl
theorem CALLR.pre2 {C : Cx} {σ : MS} {E : Value → Shared → Prop} {f : Addr} {vs : List MV} {Q : MV → MS → Prop} {p q : Addr × MO} {l1 l2 : List (Addr × MO)} (h1 : Pick p σ.led l1) (h2 : Pick q l1 l2) (k : CALLR C f vs Q E ⟨σ.loc, p :: q :: l2⟩) : CALLR C f vs Q E σ := .pre (.cons h1 (.cons h2 .all)) k
theorem iter_rangeT {C : Cx} {σ : MS} {r : Addr} {b : Int} (h0 : 0 ≤ b) (hb : b ≤ 1000000) (h : Has r (.range 0 b 1) σ.led) : ITER C (.ref r) (rangeSrc 0 1 b.toNat) σ := by
  have e : b = (b.toNat : Int) := by omega
  rw [e] at h
  exact iter_range b.toNat h (rng_small (by omega)) (rng_size _)
theorem EXS.hide {C : Cx} {sts : List Stmt} {Q : MF → MS → Prop} {E : Value → Shared → Prop} {σ : MS} (h : ∀ QQ : MF → MS → Prop, (∀ b σ', Q b σ' → QQ b σ') → ∀ EE : Value → Shared → Prop, (∀ e s, E e s → EE e s) → EXS C sts QQ EE σ) : EXS C sts Q E σ := AW.hide h
section
variable {C : Cx} {σ : MS} {s : Shared} {E : Value → Shared → Prop} {names : List (Str × NameKind)} {cells : List (Str × Addr)} {loc : Loc} {led : List (Addr × MO)}
theorem due_spec (O : C.Ok GL names cells) (hh : C.A.handled = none) (hK : C.K = KK C.w) (hlv : 3 ≤ C.lv) {fa sa : Addr} {f g : List Int} (hfa : Has fa (.list (f.map .int)) led) (hsa : Has sa (.list (g.map .int)) led) (hz : f.length ≤ 1000) (hz2 : g.length ≤ 1000) {Q : MV → MS → Prop}
    (h : ∀ t m l, Q (.ref t) ⟨loc, (t, .tup [.ref m, .ref l]) :: (m, .list ((due1To f g f.length).reverse.map .int)) :: (l, .list ((due2To g f g.length).map .int)) :: led⟩) : CALLR C 165 [.ref fa, .ref sa] Q E ⟨loc, led⟩ := by
  refine CALLR.keep (CALLR.noexc (call_K O (ps := [Str.ofString "first", Str.ofString "second"]) (more := [Str.ofString "missing", Str.ofString "left"]) (morec := []) (by omega) (by rw [hK]; exact rfl) (by rw [hK]; exact rfl) (fun args' s ia _ => by obtain ⟨v, w, rfl, i, j⟩ := ia.two; exact BindsTo.of_eq rfl)
    (.cell (by decide +kernel) (.cell (by decide +kernel) .nil)) (by decide +kernel) (by decide +kernel) (by decide +kernel) (by decide +kernel) rfl rfl rfl ?_))
  intro C' as has O' hp hw hK' hlv' hh'
  rw [hK, ← hw] at hK'
  rw [hh] at hh'
  obtain ⟨a1, a2, rfl⟩ : ∃ a1 a2, as = [a1, a2] := by
    match as, has with
    | [a1, a2], _ => exact ⟨a1, a2, rfl⟩
  dsimp only [cellLed, cellTab, List.map, List.append, List.nil_append, List.cons_append] at O' ⊢
  refine AW.hide fun QF hQF EF _ => ?_
  have hd1 := due1_len f g f.length
  have hd2 := due2_len g f g.length
  (with_reducible refine r_cons ?_)
  ((with_reducible refine' r_comp_assign (by assumption) ?kr ?k1 ?k2 ?k3 ?k5 ?k6 ?k7 ?_ ?k4); (case kr => (dsimp only; walk_at "relab")); (case k1 => exact rfl); (case k2 => decide +kernel); (case k3 => decide +kernel); (case k5 => walk_at "has"); (case k6 => exact rfl); (case k7 => exact rfl); (case k4 => exact fun _ => rfl))
  ((with_reducible refine' r_call_ty (by assumption) ?k1 ?k2 ?_ ?hn); (case k1 => walk_at "has"); (case k2 => walk_at "has"); (case hn => exact rfl); (with_reducible refine p_cons ?_ ?hs); (case hs => exact rfl); (with_reducible refine' r_call_bi (by assumption) ?k1 ?k2 ?_ ?hn); (case k1 => walk_at "has"); (case k2 => walk_at "has"); (case hn => exact rfl); (with_reducible refine p_cons ?_ ?hs); (case hs => exact rfl); (with_reducible refine' r_cell (by assumption) ?k1 ?k2 ?k3 ?_); (case k1 => walk_at "has"); (case k2 => walk_at "has"); (case k3 => ((try dsimp only); walk_at "has")); (with_reducible refine p_nil ?_); (with_reducible refine' k_len_list ?k1 ?k2 ?_); (case k1 => ((try dsimp only); walk_at "has")); (case k2 => walk_at "len"); (with_reducible refine p_nil ?_); (with_reducible refine k_range1 ?_); intro _; (try dsimp only))
  rename_i rg
  rw [List.length_map]
  refine ⟨_, iter_range f.length (a := 0) (b := f.length) (c := 1) .head (rng_small (by omega)) (rng_size _), fun C2 it2 Dd O2 hp2 hw2 hK2 hlv2 hA2 hb2 So => ?_⟩
  have hh2 : C2.A.handled = none := by rw [hA2]; exact hh'
  refine c_acc rfl hh2 So (due1To f g) (fun j lo => j ≤ f.length ∧ ∃ (a : Option MV), lo = [(Str.ofString ".0", none), (Str.ofString "k", a)]) rfl ⟨Nat.zero_le _, _, rfl⟩ (fun _ _ _ => trivial) ?_ ?_
  · rintro j y o2 lo ⟨hjl, a, rfl⟩ hy QQ hn
    obtain ⟨hj, rfl⟩ := range_get01 hy
    have hx1 : (f.map MV.int)[((j : Nat) : Int).toNat]? = some (.int f[j]) := by
      rw [Int.toNat_natCast, List.getElem?_map, List.getElem?_eq_getElem hj]; rfl
    have hq : f[j]? = some f[j] := List.getElem?_eq_getElem hj
    have hst := due1_succ (tk := g) hq
    have hlen := due1_len f g j
    ((with_reducible refine a_name ?_); (with_reducible refine' r_store (by assumption) ?k1 ?k2 ?_); (case k1 => walk_at "has"); (case k2 => ((try dsimp only); walk_at "put")); (try dsimp only); (with_reducible refine s_one ?_); (with_reducible refine t_compare ?_ ?hs); (case hs => exact rfl); (with_reducible refine r_meth PySem.F.plainAttrs_list PySem.F.slot_list_count PySem.F.type_list_count ?_ ?h1 ?h2 ?h3 ?h4); (case h1 => exact rfl); (case h2 => exact rfl); (case h3 => exact rfl); (case h4 => exact rfl); (with_reducible refine r_subs ?_); (with_reducible refine' r_cell (by assumption) ?k1 ?k2 ?k3 ?_); (case k1 => walk_at "has"); (case k2 => walk_at "has"); (case k3 => ((try dsimp only); walk_at "has")); (with_reducible refine r_slice ?_); (with_reducible refine pt_some ?_); (with_reducible refine' r_local (by assumption) ?k1 ?k2 ?_); (case k1 => walk_at "has"); (case k2 => ((try dsimp only); walk_at "has")))
    refine ⟨_, rfl, ?_⟩
    ((with_reducible refine pt_none ?_); (with_reducible refine pt_none ?_))
    intro sl
    skip
    refine i_slice (xs := f.map .int) (by walk_at "has") (by walk_at "has") (by simp) (by rw [List.length_map]; omega) fun D2 => ?_
    rw [mpick_map, mpick_from]
    ((with_reducible refine' And.intro (OfT.list ?k1) ?_); (case k1 => ((try dsimp only); walk_at "has")); (with_reducible refine p_cons ?_ ?hs); (case hs => exact rfl); (with_reducible refine r_subs ?_); (with_reducible refine' r_cell (by assumption) ?k1 ?k2 ?k3 ?_); (case k1 => walk_at "has"); (case k2 => walk_at "has"); (case k3 => ((try dsimp only); walk_at "has")); (with_reducible refine' r_local (by assumption) ?k1 ?k2 ?_); (case k1 => walk_at "has"); (case k2 => ((try dsimp only); walk_at "has")))
    refine i_list (by walk_at "has") (by omega) (by omega) hx1 ?_
    ((with_reducible refine p_nil ?_); (with_reducible refine' k_count ?k1 ?_); (case k1 => ((try dsimp only); walk_at "has")); (with_reducible refine r_meth PySem.F.plainAttrs_list PySem.F.slot_list_count PySem.F.type_list_count ?_ ?h1 ?h2 ?h3 ?h4); (case h1 => exact rfl); (case h2 => exact rfl); (case h3 => exact rfl); (case h4 => exact rfl); (with_reducible refine' r_cell (by assumption) ?k1 ?k2 ?k3 ?_); (case k1 => walk_at "has"); (case k2 => walk_at "has"); (case k3 => ((try dsimp only); walk_at "has")); (with_reducible refine' And.intro (OfT.list ?k1) ?_); (case k1 => ((try dsimp only); walk_at "has")); (with_reducible refine p_cons ?_ ?hs); (case hs => exact rfl); (with_reducible refine r_subs ?_); (with_reducible refine' r_cell (by assumption) ?k1 ?k2 ?k3 ?_); (case k1 => walk_at "has"); (case k2 => walk_at "has"); (case k3 => ((try dsimp only); walk_at "has")); (with_reducible refine' r_local (by assumption) ?k1 ?k2 ?_); (case k1 => walk_at "has"); (case k2 => ((try dsimp only); walk_at "has")))
    refine i_list (by walk_at "has") (by omega) (by omega) hx1 ?_
    ((with_reducible refine p_nil ?_); (with_reducible refine' k_count ?k1 ?_); (case k1 => ((try dsimp only); walk_at "has")); (with_reducible refine c_gt ?_); (with_reducible refine u_bool ?_))
    by_cases hc : g.count f[j] < (f.drop j).count f[j]
    · rw [if_pos hc] at hst
      refine if_t (by simp only [decide_eq_true_eq]; omega) ?_
      refine e_last rfl ?_
      ((with_reducible refine r_subs ?_); (with_reducible refine' r_cell (by assumption) ?k1 ?k2 ?k3 ?_); (case k1 => walk_at "has"); (case k2 => walk_at "has"); (case k3 => ((try dsimp only); walk_at "has")); (with_reducible refine' r_local (by assumption) ?k1 ?k2 ?_); (case k1 => walk_at "has"); (case k2 => ((try dsimp only); walk_at "has")))
      refine i_list (by walk_at "has") (by omega) (by omega) hx1 ?_
      ((with_reducible refine' k_append ?k1 ?k2 ?_); (case k1 => ((try dsimp only); walk_at "upd")); (case k2 => walk_at "len"); (try dsimp only))
      refine hn _ ⟨?_, hj, _, rfl⟩
      rw [hst, List.map_append]
      dsimp only [List.map]
      walk_at "take"
    · rw [if_neg hc] at hst
      refine if_f (by simp only [decide_eq_true_eq]; omega) ?_
      refine hn _ ⟨?_, hj, _, rfl⟩
      rw [hst]
      dsimp only
      walk_at "take"
  · rintro lo ⟨_, a, rfl⟩
    rw [show (rangeSrc 0 1 f.length).items.length = f.length from rangeL_len 0 1 _]
    dsimp only
    refine ⟨_, by walk_at "put", ?_⟩
    (with_reducible refine r_cons ?_)
    ((with_reducible refine' r_comp_assign (by assumption) ?kr ?k1 ?k2 ?k3 ?k5 ?k6 ?k7 ?_ ?k4); (case kr => (dsimp only; walk_at "relab")); (case k1 => exact rfl); (case k2 => decide +kernel); (case k3 => decide +kernel); (case k5 => walk_at "has"); (case k6 => exact rfl); (case k7 => exact rfl); (case k4 => exact fun _ => rfl))
    ((with_reducible refine' r_call_ty (by assumption) ?k1 ?k2 ?_ ?hn); (case k1 => walk_at "has"); (case k2 => walk_at "has"); (case hn => exact rfl); (with_reducible refine p_cons ?_ ?hs); (case hs => exact rfl); (with_reducible refine' r_call_bi (by assumption) ?k1 ?k2 ?_ ?hn); (case k1 => walk_at "has"); (case k2 => walk_at "has"); (case hn => exact rfl); (with_reducible refine p_cons ?_ ?hs); (case hs => exact rfl); (with_reducible refine' r_cell (by assumption) ?k1 ?k2 ?k3 ?_); (case k1 => walk_at "has"); (case k2 => walk_at "has"); (case k3 => ((try dsimp only); walk_at "has")); (with_reducible refine p_nil ?_); (with_reducible refine' k_len_list ?k1 ?k2 ?_); (case k1 => ((try dsimp only); walk_at "has")); (case k2 => walk_at "len"); (with_reducible refine p_nil ?_); (with_reducible refine k_range1 ?_); intro _; (try dsimp only))
    rename_i rg2
    rw [List.length_map]
    refine ⟨_, iter_range g.length (a := 0) (b := g.length) (c := 1) .head (rng_small (by omega)) (rng_size _), fun C3 it3 De O3 hp3 hw3 hK3 hlv3 hA3 hb3 So3 => ?_⟩
    have hh3 : C3.A.handled = none := by rw [hA3]; exact hh'
    refine c_acc rfl hh3 So3 (due2To g f) (fun j lo => j ≤ g.length ∧ ∃ (a : Option MV), lo = [(Str.ofString ".0", none), (Str.ofString "k", a)]) rfl ⟨Nat.zero_le _, _, rfl⟩ (fun _ _ _ => trivial) ?_ ?_
    · rintro j y o2 lo ⟨hjl, a, rfl⟩ hy QQ hn
      obtain ⟨hj, rfl⟩ := range_get01 hy
      have hx1 : (g.map MV.int)[((j : Nat) : Int).toNat]? = some (.int g[j]) := by
        rw [Int.toNat_natCast, List.getElem?_map, List.getElem?_eq_getElem hj]; rfl
      have hq : g[j]? = some g[j] := List.getElem?_eq_getElem hj
      have hst := due2_succ (tk := f) hq
      have hlen := due2_len g f j
      ((with_reducible refine a_name ?_); (with_reducible refine' r_store (by assumption) ?k1 ?k2 ?_); (case k1 => walk_at "has"); (case k2 => ((try dsimp only); walk_at "put")); (try dsimp only); (with_reducible refine s_one ?_); (with_reducible refine t_compare ?_ ?hs); (case hs => exact rfl); (with_reducible refine r_meth PySem.F.plainAttrs_list PySem.F.slot_list_count PySem.F.type_list_count ?_ ?h1 ?h2 ?h3 ?h4); (case h1 => exact rfl); (case h2 => exact rfl); (case h3 => exact rfl); (case h4 => exact rfl); (with_reducible refine r_subs ?_); (with_reducible refine' r_cell (by assumption) ?k1 ?k2 ?k3 ?_); (case k1 => walk_at "has"); (case k2 => walk_at "has"); (case k3 => ((try dsimp only); walk_at "has")); (with_reducible refine r_slice ?_); (with_reducible refine pt_none ?_); (with_reducible refine pt_some ?_); (with_reducible refine r_binop ?_); (with_reducible refine' r_local (by assumption) ?k1 ?k2 ?_); (case k1 => walk_at "has"); (case k2 => ((try dsimp only); walk_at "has")); (with_reducible refine r_int ?_); (with_reducible refine b_add ?_))
      refine ⟨_, rfl, ?_⟩
      (with_reducible refine pt_none ?_)
      intro sl
      skip
      refine i_slice (xs := g.map .int) (by walk_at "has") (by walk_at "has") (by simp) (by rw [List.length_map]; omega) fun D2 => ?_
      rw [mpick_map, show ((j : Nat) : Int) + 1 = ((j + 1 : Nat) : Int) from rfl, mpick_to]
      ((with_reducible refine' And.intro (OfT.list ?k1) ?_); (case k1 => ((try dsimp only); walk_at "has")); (with_reducible refine p_cons ?_ ?hs); (case hs => exact rfl); (with_reducible refine r_subs ?_); (with_reducible refine' r_cell (by assumption) ?k1 ?k2 ?k3 ?_); (case k1 => walk_at "has"); (case k2 => walk_at "has"); (case k3 => ((try dsimp only); walk_at "has")); (with_reducible refine' r_local (by assumption) ?k1 ?k2 ?_); (case k1 => walk_at "has"); (case k2 => ((try dsimp only); walk_at "has")))
      refine i_list (by walk_at "has") (by omega) (by omega) hx1 ?_
      ((with_reducible refine p_nil ?_); (with_reducible refine' k_count ?k1 ?_); (case k1 => ((try dsimp only); walk_at "has")); (with_reducible refine r_meth PySem.F.plainAttrs_list PySem.F.slot_list_count PySem.F.type_list_count ?_ ?h1 ?h2 ?h3 ?h4); (case h1 => exact rfl); (case h2 => exact rfl); (case h3 => exact rfl); (case h4 => exact rfl); (with_reducible refine' r_cell (by assumption) ?k1 ?k2 ?k3 ?_); (case k1 => walk_at "has"); (case k2 => walk_at "has"); (case k3 => ((try dsimp only); walk_at "has")); (with_reducible refine' And.intro (OfT.list ?k1) ?_); (case k1 => ((try dsimp only); walk_at "has")); (with_reducible refine p_cons ?_ ?hs); (case hs => exact rfl); (with_reducible refine r_subs ?_); (with_reducible refine' r_cell (by assumption) ?k1 ?k2 ?k3 ?_); (case k1 => walk_at "has"); (case k2 => walk_at "has"); (case k3 => ((try dsimp only); walk_at "has")); (with_reducible refine' r_local (by assumption) ?k1 ?k2 ?_); (case k1 => walk_at "has"); (case k2 => ((try dsimp only); walk_at "has")))
      refine i_list (by walk_at "has") (by omega) (by omega) hx1 ?_
      ((with_reducible refine p_nil ?_); (with_reducible refine' k_count ?k1 ?_); (case k1 => ((try dsimp only); walk_at "has")); (with_reducible refine c_gt ?_); (with_reducible refine u_bool ?_))
      by_cases hc : f.count g[j] < (g.take (j + 1)).count g[j]
      · rw [if_pos hc] at hst
        refine if_t (by simp only [decide_eq_true_eq]; omega) ?_
        refine e_last rfl ?_
        ((with_reducible refine r_subs ?_); (with_reducible refine' r_cell (by assumption) ?k1 ?k2 ?k3 ?_); (case k1 => walk_at "has"); (case k2 => walk_at "has"); (case k3 => ((try dsimp only); walk_at "has")); (with_reducible refine' r_local (by assumption) ?k1 ?k2 ?_); (case k1 => walk_at "has"); (case k2 => ((try dsimp only); walk_at "has")))
        refine i_list (by walk_at "has") (by omega) (by omega) hx1 ?_
        ((with_reducible refine' k_append ?k1 ?k2 ?_); (case k1 => ((try dsimp only); walk_at "upd")); (case k2 => walk_at "len"); (try dsimp only))
        refine hn _ ⟨?_, hj, _, rfl⟩
        rw [hst, List.map_append]
        dsimp only [List.map]
        walk_at "take"
      · rw [if_neg hc] at hst
        refine if_f (by simp only [decide_eq_true_eq]; omega) ?_
        refine hn _ ⟨?_, hj, _, rfl⟩
        rw [hst]
        dsimp only
        walk_at "take"
    · rintro lo ⟨_, a, rfl⟩
      rw [show (rangeSrc 0 1 g.length).items.length = g.length from rangeL_len 0 1 _]
      dsimp only
      refine ⟨_, by walk_at "put", ?_⟩
      ((with_reducible refine r_cons ?_); (with_reducible refine r_return ?_); (with_reducible refine r_tuple ?_); (with_reducible refine p_cons ?_ ?hs); (case hs => exact rfl); (with_reducible refine r_subs ?_); (with_reducible refine' r_local (by assumption) ?k1 ?k2 ?_); (case k1 => walk_at "has"); (case k2 => ((try dsimp only); walk_at "has")); (with_reducible refine r_slice ?_); (with_reducible refine pt_none ?_); (with_reducible refine pt_none ?_); (with_reducible refine pt_some ?_); (with_reducible refine r_unary ?_); (with_reducible refine r_int ?_); (with_reducible refine una_neg ?_))
      refine ⟨_, rfl, ?_⟩
      intro sl
      skip
      refine i_slice (xs := (due1To f g f.length).map .int) (by walk_at "has") (by walk_at "has") (by simp) (by rw [List.length_map]; omega) fun D2 => ?_
      rw [mpick_map, mpick_rev]
      ((with_reducible refine p_cons ?_ ?hs); (case hs => exact rfl); (with_reducible refine' r_local (by assumption) ?k1 ?k2 ?_); (case k1 => walk_at "has"); (case k2 => ((try dsimp only); walk_at "has")); (with_reducible refine p_nil ?_); (with_reducible show _ ≤ 1000000 ∧ _); refine And.intro ?k1 ?_; (case k1 => walk_at "len"); intro _; (try dsimp only))
      rename_i t
      refine hQF _ _ ⟨_, ?_, h t D2 De⟩
      dsimp only
      walk_at "take"
end
theorem get_stps {ps : List Stp} {j : Nat} {y : MV} (h : (stpRefs ps)[j]? = some y) : ∃ q, ps[j]? = some q ∧ y = .ref q.a := by
  unfold stpRefs at h
  rw [List.getElem?_map] at h
  cases e : ps[j]? with
  | none => rw [e] at h; cases h
  | some q => rw [e] at h; cases h; exact ⟨q, rfl, rfl⟩
noncomputable def edg (ps : List Stp) : List (Int × Int) := ps.map fun p => (p.e, p.l)
theorem edg_succ {ps : List Stp} {i : Nat} {q : Stp} (h : ps[i]? = some q) : edg (ps.take (i + 1)) = edg (ps.take i) ++ [(q.e, q.l)] := by
  rw [List.take_add_one, h]; unfold edg; rw [List.map_append]; rfl
theorem edg_len (ps : List Stp) : (edg ps).length = ps.length := List.length_map ..
theorem sus_len (es : List (Int × Int)) (v : Int) : (sus es v).length ≤ es.length := by
  unfold sus
  rw [List.length_map]
  exact List.length_filter_le ..
theorem sus_snoc (es : List (Int × Int)) (e : Int × Int) (v : Int) : sus (es ++ [e]) v = sus es v ++ if e.1 = v then [e.2] else [] := by
  unfold sus
  rw [List.filter_append, List.map_append]
  by_cases h : e.1 = v <;> simp [h]
section
variable {C : Cx} {σ : MS} {s : Shared} {E : Value → Shared → Prop} {names : List (Str × NameKind)} {cells : List (Str × Addr)} {loc : Loc} {led : List (Addr × MO)}
theorem tokens_spec (O : C.Ok GL names cells) (hh : C.A.handled = none) (hK : C.K = KK C.w) (hlv : 3 ≤ C.lv) {S En : Addr} {ps : List Stp} {en : List Int} (hS : Has S (.list (stpRefs ps)) led) (hSt : ∀ q ∈ ps, Has q.a (.tup [.int q.e, .int q.l]) led) (hE : Has En (.list (en.map .int)) led)
    (hz : (en.flatMap (sus (edg ps))).length ≤ 1000) (hz2 : ps.length ≤ 1000) {Q : MV → MS → Prop}
    (h : ∀ D, Q (.ref D) ⟨loc, (D, .list ((en.flatMap (sus (edg ps))).map .int)) :: led⟩) : CALLR C 170 [.ref S, .ref En] Q E ⟨loc, led⟩ := by
  refine CALLR.keep (CALLR.noexc (call_K O (ps := [Str.ofString "steps", Str.ofString "ended"]) (more := []) (morec := []) (by omega) (by rw [hK]; exact rfl) (by rw [hK]; exact rfl) (fun args' s ia _ => by obtain ⟨v, w, rfl, i, j⟩ := ia.two; exact BindsTo.of_eq rfl)
    (.cell (by decide +kernel) (.loc (by decide +kernel) .nil)) (by decide +kernel) (by decide +kernel) (by decide +kernel) (by decide +kernel) rfl rfl rfl ?_))
  intro C' as has O' hp hw hK' hlv' hh'
  rw [hK, ← hw] at hK'
  rw [hh] at hh'
  obtain ⟨a1, rfl⟩ : ∃ a1, as = [a1] := by
    match as, has with
    | [a1], _ => exact ⟨a1, rfl⟩
  dsimp only [cellLed, cellTab, List.map, List.append, List.nil_append, List.cons_append] at O' ⊢
  refine AW.hide fun QF hQF EF _ => ?_
  ((with_reducible refine r_cons ?_); (with_reducible refine r_return ?_))
  ((with_reducible refine' r_comp (by assumption) ?kr ?k1 ?k2 ?k3 ?_ ?k4); (case kr => (dsimp only; walk_at "relab")); (case k1 => exact rfl); (case k2 => decide +kernel); (case k3 => decide +kernel); (case k4 => exact fun _ => rfl))
  ((with_reducible refine' r_local (by assumption) ?k1 ?k2 ?_); (case k1 => walk_at "has"); (case k2 => ((try dsimp only); walk_at "has")))
  refine ⟨_, iter_list (xs := en.map .int) (by walk_at "has"), fun C2 it2 D2 O2 hp2 hw2 hK2 hlv2 hA2 hb2 So => ?_⟩
  have hh2 : C2.A.handled = none := by rw [hA2]; exact hh'
  dsimp only
  refine c_loop rfl hh2 So (fun j lo led' => Ex3 fun (n e l : Option MV) => All2 (lo = [(Str.ofString ".0", none), (Str.ofString "name", n), (Str.ofString "early", e), (Str.ofString "late", l)])
      (led' = (D2, MO.list (((en.take j).flatMap (sus (edg ps))).map .int)) :: (a1, .cell (some (.ref S))) :: led)) ⟨_, _, _, rfl, rfl⟩ ?_ ?_ ?_
  · rintro j lo led i2 o2 ⟨n, e, l, rfl, rfl⟩
    exact .tail (.tail (.tail hE))
  · rintro j y o2 lo led' ⟨n, e, l, rfl, rfl⟩ hy Q2 hn2
    obtain ⟨v, hv, rfl⟩ := get_ints hy
    have hst : (en.take (j + 1)).flatMap (sus (edg ps)) = (en.take j).flatMap (sus (edg ps)) ++ sus (edg ps) v := by
      rw [List.take_add_one, hv, List.flatMap_append]; simp
    have hacc : ((en.take j).flatMap (sus (edg ps))).length ≤ 1000 := by
      have e := congrArg List.length (congrArg (List.flatMap (sus (edg ps))) (List.take_append_drop j en))
      rw [List.flatMap_append, List.length_append] at e
      omega
    rw [hst] at hn2
    generalize (en.take j).flatMap (sus (edg ps)) = acc at *
    ((with_reducible refine a_name ?_); (with_reducible refine' r_store (by assumption) ?k1 ?k2 ?_); (case k1 => walk_at "has"); (case k2 => ((try dsimp only); walk_at "put")); (try dsimp only); (with_reducible refine s_nil ?_); (with_reducible refine ite_tt ?_))
    refine e_more rfl rfl (fun _ => rfl) ?_
    ((with_reducible refine' r_cell (by assumption) ?k1 ?k2 ?k3 ?_); (case k1 => walk_at "has"); (case k2 => walk_at "has"); (case k3 => ((try dsimp only); walk_at "has")))
    refine ⟨_, iter_list (xs := stpRefs ps) (by walk_at "has"), fun it3 So3 => ?_⟩
    refine c_loop rfl hh2 So3 (fun j3 lo led' => Ex2 fun (e l : Option MV) => All2 (lo = [(Str.ofString ".0", none), (Str.ofString "name", some (.int v)), (Str.ofString "early", e), (Str.ofString "late", l)])
      (led' = (it2, o2) :: (D2, MO.list ((acc ++ sus (edg (ps.take j3)) v).map .int)) :: (a1, .cell (some (.ref S))) :: led)) ⟨_, _, rfl, by show _ = (it2, o2) :: (D2, MO.list ((acc ++ []).map .int)) :: _; rw [List.append_nil]⟩ ?_ ?_ ?_
    · rintro j3 lo led i3 o3 ⟨e, l, rfl, rfl⟩
      exact .tail (.tail (.tail (.tail hS)))
    · rintro j3 y3 o3 lo led' ⟨e, l, rfl, rfl⟩ hy3 Q3 hn3
      obtain ⟨q, hq, rfl⟩ := get_stps hy3
      have hst3 := hSt q (List.mem_of_getElem? hq)
      have hsu := sus_snoc (edg (ps.take j3)) (q.e, q.l) v
      rw [← edg_succ hq] at hsu
      have hsl : (sus (edg (ps.take j3)) v).length ≤ 1000 := by
        have h1 := sus_len (edg (ps.take j3)) v
        rw [edg_len, List.length_take] at h1
        omega
      refine a_tuple hh2 (xs := [Str.ofString "early", Str.ofString "late"]) (px := [_, _]) rfl rfl (by walk_at "has") ?_
      dsimp only [STNS]
      ((with_reducible refine' r_store (by assumption) ?k1 ?k2 ?_); (case k1 => walk_at "has"); (case k2 => ((try dsimp only); walk_at "put")); (try dsimp only); (with_reducible refine' r_store (by assumption) ?k1 ?k2 ?_); (case k1 => walk_at "has"); (case k2 => ((try dsimp only); walk_at "put")); (try dsimp only); (with_reducible refine s_one ?_); (with_reducible refine t_compare ?_ ?hs); (case hs => exact rfl); (with_reducible refine' r_local (by assumption) ?k1 ?k2 ?_); (case k1 => walk_at "has"); (case k2 => ((try dsimp only); walk_at "has")); (with_reducible refine' r_local (by assumption) ?k1 ?k2 ?_); (case k1 => walk_at "has"); (case k2 => ((try dsimp only); walk_at "has")); (with_reducible refine c_eq ?_); (with_reducible refine u_bool ?_))
      by_cases hc : q.e = v
      · rw [if_pos hc] at hsu
        refine if_t (by simpa using hc) ?_
        refine e_last rfl ?_
        ((with_reducible refine' r_local (by assumption) ?k1 ?k2 ?_); (case k1 => walk_at "has"); (case k2 => ((try dsimp only); walk_at "has")); (with_reducible refine' k_append ?k1 ?k2 ?_); (case k1 => ((try dsimp only); walk_at "upd")); (case k2 => walk_at "len"); (try dsimp only))
        refine hn3 _ ⟨_, ?_, _, _, rfl, rfl⟩
        rw [hsu, ← List.append_assoc, List.map_append (l₂ := [_])]
        dsimp only [List.map]
        walk_at "take"
      · rw [if_neg hc, List.append_nil] at hsu
        refine if_f (by simpa using hc) ?_
        refine hn3 _ ⟨_, .all, _, _, rfl, ?_⟩
        rw [hsu]
    · rintro lo led' ⟨e, l, rfl, rfl⟩
      rw [show (listSrc S (stpRefs ps)).items.length = ps.length from List.length_map .., List.take_length]
      exact hn2 _ ⟨_, .all, _, _, _, rfl, rfl⟩
  · rintro lo led' ⟨n, e, l, rfl, rfl⟩
    rw [show (listSrc En (en.map .int)).items.length = en.length from List.length_map .., List.take_length]
    refine hQF _ _ ⟨_, ?_, h D2⟩
    dsimp only
    walk_at "take"
end
noncomputable def heldL (es : List (Int × Int)) (en : List Int) : List Int := (es.filter fun e => decide (e.1 ∉ en)).map (·.2)
theorem held_snoc (es : List (Int × Int)) (e : Int × Int) (en : List Int) : heldL (es ++ [e]) en = heldL es en ++ if e.1 ∉ en then [e.2] else [] := by
  unfold heldL
  rw [List.filter_append, List.map_append]
  by_cases h : e.1 ∈ en <;> simp [h]
theorem held_len (es : List (Int × Int)) (en : List Int) : (heldL es en).length ≤ es.length := by
  unfold heldL
  rw [List.length_map]
  exact List.length_filter_le ..
noncomputable def K7 : List Int := [0, 1, 2, 3, 4, 5, 6]
theorem K7_get {i : Nat} (h : i < 7) : K7[i]? = some (i : Int) := by
  match i, h with
  | 0, _ | 1, _ | 2, _ | 3, _ | 4, _ | 5, _ | 6, _ => rfl
noncomputable def freeTo (hd en : List Int) (j : Nat) : List Int := (K7.take j).filter fun v => decide (v ∉ en ∧ v ∉ hd)
theorem freeTo_succ {hd en : List Int} {j : Nat} (h : j < 7) : freeTo hd en (j + 1) = if (j : Int) ∉ en ∧ (j : Int) ∉ hd then freeTo hd en j ++ [(j : Int)] else freeTo hd en j := by
  unfold freeTo
  rw [List.take_add_one, K7_get h, List.filter_append]
  by_cases c : (j : Int) ∉ en ∧ (j : Int) ∉ hd <;> simp [c]
theorem freeTo_len (hd en : List Int) (j : Nat) : (freeTo hd en j).length ≤ 7 := by
  unfold freeTo
  refine Nat.le_trans (List.length_filter_le ..) ?_
  rw [List.length_take]
  exact Nat.min_le_right ..
section
variable {C : Cx} {σ : MS} {s : Shared} {E : Value → Shared → Prop} {names : List (Str × NameKind)} {cells : List (Str × Addr)} {loc : Loc} {led : List (Addr × MO)}
theorem free_spec (O : C.Ok GL names cells) (hh : C.A.handled = none) (hK : C.K = KK C.w) (hlv : 3 ≤ C.lv) {S En : Addr} {ps : List Stp} {en : List Int} (hS : Has S (.list (stpRefs ps)) led) (hSt : ∀ q ∈ ps, Has q.a (.tup [.int q.e, .int q.l]) led) (hE : Has En (.list (en.map .int)) led)
    (hz : en.length ≤ 1000) (hz2 : ps.length ≤ 1000) {Q : MV → MS → Prop}
    (h : ∀ D, Q (.ref D) ⟨loc, (D, .list ((freeTo (heldL (edg ps) en) en 7).map .int)) :: led⟩) : CALLR C 175 [.ref S, .ref En] Q E ⟨loc, led⟩ := by
  refine CALLR.keep (CALLR.noexc (call_Kb O (ps := [Str.ofString "steps", Str.ofString "ended"]) (more := []) (morec := [Str.ofString "held"]) (by omega) (by rw [hK]; exact rfl) (by rw [hK]; exact rfl) (fun args' s ia _ => by obtain ⟨v, w, rfl, i, j⟩ := ia.two; exact BindsTo.of_eq rfl)
    (.loc (by decide +kernel) (.cell (by decide +kernel) .nil)) (by decide +kernel) (by decide +kernel) (by decide +kernel) (by decide +kernel) rfl rfl rfl ?_))
  intro C' as has O' hp hw hK' hlv' hh' hb'
  rw [hK, ← hw] at hK'
  rw [hh] at hh'
  obtain ⟨a1, a2, rfl⟩ : ∃ a1 a2, as = [a1, a2] := by
    match as, has with
    | [a1, a2], _ => exact ⟨a1, a2, rfl⟩
  dsimp only [cellLed, cellTab, List.map, List.append, List.nil_append, List.cons_append] at O' ⊢
  refine AW.hide fun QF hQF EF _ => ?_
  refine r_cons ?_
  refine r_assign ?_ (swaps_cell O' (by walk_at "has"))
  ((with_reducible refine' r_comp (by assumption) ?kr ?k1 ?k2 ?k3 ?_ ?k4); (case kr => (dsimp only; walk_at "relab")); (case k1 => exact rfl); (case k2 => decide +kernel); (case k3 => decide +kernel); (case k4 => exact fun _ => rfl))
  ((with_reducible refine' r_local (by assumption) ?k1 ?k2 ?_); (case k1 => walk_at "has"); (case k2 => ((try dsimp only); walk_at "has")))
  refine ⟨_, iter_list (xs := stpRefs ps) (by walk_at "has"), fun C2 it D O2 hp2 hw2 hK2 hlv2 hA2 hb2 So => ?_⟩
  have hh2 : C2.A.handled = none := by rw [hA2]; exact hh'
  refine c_loop rfl hh2 So (fun i lo led' => Ex2 fun (e l : Option MV) => All2 (lo = [(Str.ofString ".0", none), (Str.ofString "early", e), (Str.ofString "late", l)]) (led' = (D, .list ((heldL (edg (ps.take i)) en).map .int)) :: (a1, .cell (some (.ref En))) :: (a2, .cell none) :: led)) ⟨_, _, rfl, rfl⟩ ?_ ?_ ?_
  · rintro i lo led' it o ⟨e, l, rfl, rfl⟩
    exact .tail (.tail (.tail (.tail hS)))
  · rintro i y o lo led' ⟨e, l, rfl, rfl⟩ hy Q2 hn2
    obtain ⟨q, hq, rfl⟩ := get_stps hy
    have hst := hSt q (List.mem_of_getElem? hq)
    have hsu := held_snoc (edg (ps.take i)) (q.e, q.l) en
    rw [← edg_succ hq] at hsu
    have hsl : (heldL (edg (ps.take i)) en).length ≤ 1000 := by
      have h1 := held_len (edg (ps.take i)) en
      rw [edg_len, List.length_take] at h1
      omega
    refine a_tuple hh2 (xs := [Str.ofString "early", Str.ofString "late"]) (px := [_, _]) rfl rfl (by walk_at "has") ?_
    dsimp only [STNS]
    ((with_reducible refine' r_store (by assumption) ?k1 ?k2 ?_); (case k1 => walk_at "has"); (case k2 => ((try dsimp only); walk_at "put")); (try dsimp only); (with_reducible refine' r_store (by assumption) ?k1 ?k2 ?_); (case k1 => walk_at "has"); (case k2 => ((try dsimp only); walk_at "put")); (try dsimp only); (with_reducible refine s_one ?_); (with_reducible refine t_compare ?_ ?hs); (case hs => exact rfl); (with_reducible refine' r_local (by assumption) ?k1 ?k2 ?_); (case k1 => walk_at "has"); (case k2 => ((try dsimp only); walk_at "has")); (with_reducible refine' r_cell (by assumption) ?k1 ?k2 ?k3 ?_); (case k1 => walk_at "has"); (case k2 => walk_at "has"); (case k3 => ((try dsimp only); walk_at "has")); (with_reducible refine' c_notin ?k1 ?_); (case k1 => ((try dsimp only); walk_at "has")); (with_reducible refine u_bool ?_))
    by_cases hc : q.e ∈ en
    · rw [if_neg (by simp [hc]), List.append_nil] at hsu
      refine if_f (by simp [hc]) ?_
      refine hn2 _ ⟨_, .all, _, _, rfl, ?_⟩
      rw [hsu]
    · rw [if_pos hc] at hsu
      refine if_t (by simp [hc]) ?_
      refine e_last rfl ?_
      ((with_reducible refine' r_local (by assumption) ?k1 ?k2 ?_); (case k1 => walk_at "has"); (case k2 => ((try dsimp only); walk_at "has")); (with_reducible refine' k_append ?k1 ?k2 ?_); (case k1 => ((try dsimp only); walk_at "upd")); (case k2 => walk_at "len"); (try dsimp only))
      refine hn2 _ ⟨_, ?_, _, _, rfl, rfl⟩
      rw [hsu, List.map_append (l₂ := [_])]
      dsimp only [List.map]
      walk_at "take"
  · rintro lo led' ⟨e, l, rfl, rfl⟩
    rw [show (listSrc S (stpRefs ps)).items.length = ps.length from List.length_map .., List.take_length]
    generalize heldL (edg ps) en = hd at *
    ((with_reducible refine' r_store_cell (by assumption) ?k1 ?k2 ?k3 ?_); (case k1 => walk_at "has"); (case k2 => walk_at "has"); (case k3 => ((try dsimp only); walk_at "upd")); (try dsimp only); (with_reducible refine r_cons ?_); (with_reducible refine r_return ?_))
    ((with_reducible refine' r_comp (by assumption) ?kr ?k1 ?k2 ?k3 ?_ ?k4); (case kr => (dsimp only; walk_at "relab")); (case k1 => exact rfl); (case k2 => decide +kernel); (case k3 => decide +kernel); (case k4 => exact fun _ => rfl))
    ((with_reducible refine' r_call_ty (by assumption) ?k1 ?k2 ?_ ?hn); (case k1 => walk_at "has"); (case k2 => walk_at "has"); (case hn => exact rfl); (with_reducible refine p_cons ?_ ?hs); (case hs => exact rfl); (with_reducible refine r_int ?_); (with_reducible refine p_nil ?_); (with_reducible refine k_range1 ?_); intro _; (try dsimp only))
    rename_i rg
    refine ⟨_, iter_range 7 (a := 0) (b := 7) (c := 1) .head (by decide +kernel) (by decide +kernel), fun C3 it3 D3 O3 hp3 hw3 hK3 hlv3 hA3 hb3 So3 => ?_⟩
    have hh3 : C3.A.handled = none := by rw [hA3]; exact hh'
    refine c_acc rfl hh3 So3 (freeTo hd en) (fun j lo => ∃ (a : Option MV), lo = [(Str.ofString ".0", none), (Str.ofString "name", a)]) rfl ⟨_, rfl⟩ (fun _ _ _ => trivial) ?_ ?_
    · rintro j y o2 lo ⟨a, rfl⟩ hy QQ hn
      obtain ⟨hj, rfl⟩ := range_get01 hy
      have hst := freeTo_succ (hd := hd) (en := en) hj
      have hlen := freeTo_len hd en j
      ((with_reducible refine a_name ?_); (with_reducible refine' r_store (by assumption) ?k1 ?k2 ?_); (case k1 => walk_at "has"); (case k2 => ((try dsimp only); walk_at "put")); (try dsimp only); (with_reducible refine s_one ?_); (with_reducible refine t_and ?_); (with_reducible refine t_compare ?_ ?hs); (case hs => exact rfl); (with_reducible refine' r_local (by assumption) ?k1 ?k2 ?_); (case k1 => walk_at "has"); (case k2 => ((try dsimp only); walk_at "has")); (with_reducible refine' r_cell (by assumption) ?k1 ?k2 ?k3 ?_); (case k1 => walk_at "has"); (case k2 => walk_at "has"); (case k3 => ((try dsimp only); walk_at "has")); (with_reducible refine' c_notin ?k1 ?_); (case k1 => ((try dsimp only); walk_at "has")); (with_reducible refine u_bool ?_))
      by_cases h1 : (j : Int) ∈ en
      · rw [if_neg (by simp [h1])] at hst
        refine if_f (by simp [h1]) ?_
        refine if_f (by decide) ?_
        refine hn _ ⟨?_, _, rfl⟩
        rw [hst]
        exact .all
      · refine if_t (by simp [h1]) ?_
        ((with_reducible refine t_compare ?_ ?hs); (case hs => exact rfl); (with_reducible refine' r_local (by assumption) ?k1 ?k2 ?_); (case k1 => walk_at "has"); (case k2 => ((try dsimp only); walk_at "has")); (with_reducible refine' r_cell (by assumption) ?k1 ?k2 ?k3 ?_); (case k1 => walk_at "has"); (case k2 => walk_at "has"); (case k3 => ((try dsimp only); walk_at "has")); (with_reducible refine' c_notin ?k1 ?_); (case k1 => ((try dsimp only); walk_at "has")); (with_reducible refine u_bool ?_))
        by_cases h2 : (j : Int) ∈ hd
        · rw [if_neg (by simp [h2])] at hst
          refine if_f (by simp [h2]) ?_
          refine hn _ ⟨?_, _, rfl⟩
          rw [hst]
          exact .all
        · rw [if_pos ⟨h1, h2⟩] at hst
          refine if_t (by simp [h2]) ?_
          refine e_last rfl ?_
          ((with_reducible refine' r_local (by assumption) ?k1 ?k2 ?_); (case k1 => walk_at "has"); (case k2 => ((try dsimp only); walk_at "has")); (with_reducible refine' k_append ?k1 ?k2 ?_); (case k1 => ((try dsimp only); walk_at "upd")); (case k2 => walk_at "len"); (try dsimp only))
          refine hn _ ⟨?_, _, rfl⟩
          rw [hst, List.map_append (l₂ := [_])]
          dsimp only [List.map]
          walk_at "take"
    · rintro lo ⟨a, rfl⟩
      rw [show (rangeSrc 0 1 7).items.length = 7 from rangeL_len 0 1 7]
      refine hQF _ _ ⟨_, ?_, h _⟩
      dsimp only
      walk_at "take"
end
theorem count_len : ∀ {tk dm : List Int}, (∀ v, tk.count v ≤ dm.count v) → tk.length ≤ dm.length
  | [], _, _ => Nat.zero_le _
  | x :: t, dm, h => by
    have hm : x ∈ dm := List.count_pos_iff.mp (by have := h x; rw [List.count_cons_self] at this; omega)
    have hl := List.length_erase_of_mem hm
    have hp := List.length_pos_of_mem hm
    have ih := count_len (tk := t) (dm := dm.erase x) fun v => by
      have := h v
      rw [List.count_erase]
      rw [List.count_cons] at this
      by_cases c : x = v
      · subst c; simp at this ⊢; omega
      · have c' : ¬ v = x := fun h => c h.symm
        simp [c] at this
        simp [c, c']; omega
    rw [List.length_cons]; omega
noncomputable def wtF (gv en : List Int) : List Int := gv.filter fun v => decide (v ∉ en)
theorem mem_wtF {gv en : List Int} {v : Int} : v ∈ wtF gv en ↔ v ∈ gv ∧ v ∉ en := by unfold wtF; rw [List.mem_filter]; simp
noncomputable def Ord (es : List (Int × Int)) (en : List Int) : Prop := ∀ A q B, en = A ++ q :: B → ∀ u, (u, q) ∈ es → u ∈ A
theorem Ord.snoc {es : List (Int × Int)} {en : List Int} {q : Int} (h : Ord es en) (hq : ∀ u, (u, q) ∈ es → u ∈ en) : Ord es (en ++ [q]) := fun A x B e u hu => by
  rcases List.eq_nil_or_concat B with rfl | ⟨B', y, rfl⟩
  · obtain ⟨rfl, e2⟩ := List.append_inj' e rfl
    cases e2
    exact hq u hu
  · rw [List.concat_eq_append] at e
    rw [show A ++ x :: (B' ++ [y]) = (A ++ x :: B') ++ [y] by simp] at e
    obtain ⟨e1, _⟩ := List.append_inj' e rfl
    exact h A x B' e1 u hu
structure Run (K : List Int) (es : List (Int × Int)) (ns : List Nd) (gv en wt : List Int) : Prop where
  li : LI (fun _ _ => True) K es ns [] gv en (en.flatMap (sus es))
  wt : wt.Perm (wtF gv en)
  ord : Ord es en
theorem true_pw : ∀ l : List Int, l.Pairwise fun _ _ => True
  | [] => .nil
  | _ :: l => .cons (fun _ _ => trivial) (true_pw l)
theorem Run.start {K : List Int} {es : List (Int × Int)} {ns : List Nd} (h : Blt K ns es) : Run K es (outN ns (rdyN ns)) (rdyN ns) [] (rdyN ns) where
  li := (LI.start h (true_pw K)).ready
  wt := by
    have : wtF (rdyN ns) [] = rdyN ns := by unfold wtF; rw [List.filter_eq_self]; intro a _; simp
    rw [this]
  ord A q B e := by simp at e
section
variable {K : List Int} {es : List (Int × Int)} {ns : List Nd} {gv en wt : List Int}
theorem Run.mem (h : Run K es ns gv en wt) {v : Int} : v ∈ wt ↔ v ∈ gv ∧ v ∉ en := by rw [h.wt.mem_iff, mem_wtF]
theorem Run.wnd (h : Run K es ns gv en wt) : wt.Nodup := h.wt.nodup_iff.mpr (h.li.gnd.sublist List.filter_sublist)
theorem Run.needs (h : Run K es ns gv en wt) {v : Int} (hv : v ∈ gv) : ∀ u, (u, v) ∈ es → u ∈ en := cnt_eq h.li.endn v es (h.li.full v hv)
theorem Run.avail (h : Run K es ns gv en wt) {v : Int} (hk : v ∈ K) (hn : v ∉ en) (hu : ∀ u, (u, v) ∈ es → u ∈ en) : v ∈ wt := by
  refine h.mem.mpr ⟨Classical.byContradiction fun hg => ?_, hn⟩
  have h1 := cnt_ge h.li.endn v es hu
  have h2 := cnt_le h.li.endn v es
  have := (h.li.rmem v).mpr ⟨hk, hg, by omega⟩
  cases this
theorem Run.wt_iff (h : Run K es ns gv en wt) {v : Int} : v ∈ wt ↔ v ∈ K ∧ v ∉ en ∧ ∀ u, (u, v) ∈ es → u ∈ en :=
  ⟨fun hm => ⟨h.li.gvk v (h.mem.mp hm).1, (h.mem.mp hm).2, h.needs (h.mem.mp hm).1⟩, fun ⟨a, b, c⟩ => h.avail a b c⟩
theorem Run.step (h : Run K es ns gv en wt) {q : Int} (hq : q ∈ wt) (f : Int) : ∃ ns' rdy', doneGo [q] ⟨ns, [], f⟩ = (0, ⟨ns', rdy', f + 1⟩) ∧ LI (fun _ _ => True) K es ns' rdy' gv (en ++ [q]) ((en ++ [q]).flatMap (sus es)) ∧ Run K es (outN ns' rdy') (gv ++ rdy') (en ++ [q]) (wt.erase q ++ rdy') := by
  obtain ⟨hg, hn⟩ := h.mem.mp hq
  obtain ⟨ns', rdy', h1, h2⟩ := h.li.done1 hg hn f
  have e : en.flatMap (sus es) ++ sus es q = (en ++ [q]).flatMap (sus es) := by rw [List.flatMap_append]; simp
  rw [e] at h2
  refine ⟨ns', rdy', ?_, h2, h2.ready, ?_, h.ord.snoc (h.needs hg)⟩
  · rw [doneGo_cons, h1, if_pos rfl]; rfl
  · have e2 : wtF (gv ++ rdy') (en ++ [q]) = wtF gv (en ++ [q]) ++ rdy' := by
      unfold wtF
      rw [List.filter_append]
      congr 1
      rw [List.filter_eq_self]
      intro a ha
      have := (h2.rmem a).mp ha
      simp only [decide_eq_true_eq]
      exact fun hm => this.2.1 (h2.ens a hm)
    have e3 : wtF gv (en ++ [q]) = (wtF gv en).filter fun v => v != q := by
      unfold wtF
      rw [List.filter_filter]
      apply List.filter_congr
      intro a _
      by_cases c1 : a ∈ en <;> by_cases c2 : a = q <;> simp [c1, c2]
    rw [e2, e3]
    refine List.Perm.append_right _ ?_
    rw [h.wnd.erase_eq_filter]
    exact h.wt.filter _
theorem Run.ende (h : Run K es ns gv en wt) : ∀ v ∈ en, v ∈ K := fun v hv => h.li.gvk v (h.li.ens v hv)
theorem Run.elen (h : Run K es ns gv en wt) : en.length ≤ K.length := nodup_len h.li.endn h.ende
theorem Run.wlen (h : Run K es ns gv en wt) : wt.length ≤ K.length := nodup_len h.wnd fun v hv => (h.wt_iff.mp hv).1
theorem Run.full (h : Run K es ns gv en wt) (hl : K.length ≤ en.length) : wt = [] := by
  refine List.eq_nil_iff_forall_not_mem.mpr fun v hv => ?_
  obtain ⟨h1, h2, _⟩ := h.wt_iff.mp hv
  have := nodup_len (l := v :: en) (m := K) (List.nodup_cons.mpr ⟨h2, h.li.endn⟩) (fun x hx => by
    rcases List.mem_cons.mp hx with rfl | hx
    · exact h1
    · exact h.ende x hx)
  rw [List.length_cons] at this
  omega
theorem Run.ringed (h : Run K es ns gv en wt) (hw : wt = []) {rb : Bool} (hR : RingsE K rb es) : rb = decide ((en.length : Int) < K.length) := by
  have h1 := (h.li.stuck (fun v hv => Classical.byContradiction fun hn => by
    have := h.mem.mpr ⟨hv, hn⟩
    rw [hw] at this; cases this) hR).1
  have h2 : (∃ v ∈ K, v ∉ en) ↔ en.length < K.length := by
    constructor
    · rintro ⟨v, hv, hn⟩
      have := nodup_len (l := v :: en) (m := K) (List.nodup_cons.mpr ⟨hn, h.li.endn⟩) (fun x hx => by
        rcases List.mem_cons.mp hx with rfl | hx
        · exact hv
        · exact h.ende x hx)
      rw [List.length_cons] at this
      omega
    · intro hl
      refine Classical.byContradiction fun hc => ?_
      have := nodup_len (l := K) (m := en) h.li.knd fun v hv => Classical.byContradiction fun hn => hc ⟨v, hv, hn⟩
      omega
  rw [h2] at h1
  cases rb with
  | true => exact (decide_eq_true (by have := h1.mp rfl; omega)).symm
  | false =>
    refine (decide_eq_false fun hl => ?_).symm
    have := h1.mpr (by omega)
    cases this
theorem Run.tlen {es' : List (Int × Int)} (h : Run K es ns gv en wt) : (en.flatMap (sus es')).length ≤ es'.length := by
  have := count_len fun v => cnt_le h.li.endn v es'
  unfold dms at this
  rwa [List.length_map] at this
end
theorem due1_nodup {f g : List Int} (nd : f.Nodup) : ∀ j, j ≤ f.length → due1To f g j = (f.take j).filter fun v => decide (v ∉ g)
  | 0, _ => rfl
  | j + 1, h => by
    have hj : f[j]? = some f[j] := List.getElem?_eq_getElem h
    rw [due1_succ hj, due1_nodup nd j (by omega), List.take_add_one, hj, List.filter_append]
    have hd : f.drop j = f[j] :: f.drop (j + 1) := List.drop_eq_getElem_cons h
    have hc : (f.drop j).count f[j] = 1 := by
      have h1 : 0 < (f.drop j).count f[j] := List.count_pos_iff.mpr (by rw [hd]; exact .head _)
      have h2 := List.nodup_iff_count.mp (nd.sublist (List.drop_sublist j f)) f[j]
      omega
    rw [hc]
    by_cases c : f[j] ∈ g
    · rw [if_neg (by have := List.count_pos_iff.mpr c; omega)]; simp [c]
    · rw [if_pos (by rw [List.count_eq_zero.mpr c]; decide)]; simp [c]
theorem due2_nodup {f g : List Int} (nd : f.Nodup) : ∀ j, j ≤ f.length → due2To f g j = (f.take j).filter fun v => decide (v ∉ g)
  | 0, _ => rfl
  | j + 1, h => by
    have hj : f[j]? = some f[j] := List.getElem?_eq_getElem h
    have e : f.take j ++ [f[j]] = f.take (j + 1) := by rw [List.take_add_one, hj]; rfl
    rw [due2_succ hj, due2_nodup nd j (by omega)]
    have hc : (f.take (j + 1)).count f[j] = 1 := by
      have h1 : 0 < (f.take (j + 1)).count f[j] := List.count_pos_iff.mpr (by rw [← e]; exact List.mem_append_right _ (.head _))
      have h2 := List.nodup_iff_count.mp (nd.sublist (List.take_sublist (j + 1) f)) f[j]
      omega
    rw [hc, ← e, List.filter_append]
    by_cases c : f[j] ∈ g
    · rw [if_neg (by have := List.count_pos_iff.mpr c; omega)]; simp [c]
    · rw [if_pos (by rw [List.count_eq_zero.mpr c]; decide)]; simp [c]
theorem due1_all {f g : List Int} (nd : f.Nodup) : due1To f g f.length = wtF f g := by
  rw [due1_nodup nd _ (Nat.le_refl _), List.take_length]; rfl
theorem due2_all {f g : List Int} (nd : f.Nodup) : due2To f g f.length = wtF f g := by
  rw [due2_nodup nd _ (Nat.le_refl _), List.take_length]; rfl
theorem Run.next {K : List Int} {es es2 : List (Int × Int)} {ns : List Nd} {gv wt en1 en2 : List Int} {i : Nat} {q : Int} (hm : ∀ e, e ∈ es → e ∈ es2) (nd2 : en2.Nodup) (o2 : Ord es2 en2) (hk : ∀ v ∈ en2, v ∈ K)
    (hi : (wtF en2 en1)[i]? = some q) (h : Run K es ns gv (en1 ++ (wtF en2 en1).take i) wt) : q ∈ wt := by
  have hnd : (wtF en2 en1).Nodup := nd2.sublist List.filter_sublist
  have hq := mem_wtF.mp (List.mem_of_getElem? hi)
  obtain ⟨A, B, eA⟩ := List.append_of_mem hq.1
  have hsplit : wtF en2 en1 = wtF A en1 ++ q :: wtF B en1 := by
    rw [eA]
    unfold wtF
    rw [List.filter_append, List.filter_cons_of_pos (by simpa using hq.2)]
  have hlt := (List.getElem?_eq_some_iff.mp hi).1
  have htk : (wtF en2 en1).take i = wtF A en1 := by
    have hget : (wtF en2 en1)[(wtF A en1).length]? = some q := by rw [hsplit]; simp
    have hl2 := (List.getElem?_eq_some_iff.mp hget).1
    have : i = (wtF A en1).length := by
      exact (List.getElem?_inj hlt hnd).mp (hi.trans hget.symm)
    rw [this, hsplit, List.take_left]
  have hqA : q ∉ A := by
    have := nd2
    rw [eA] at this
    have := (List.nodup_append.mp this).2.2
    exact fun hA => this q hA q (.head _) rfl
  rw [htk] at h
  refine h.avail (hk q hq.1) (fun hm' => ?_) fun u hu => ?_
  · rcases List.mem_append.mp hm' with hm' | hm'
    · exact hq.2 hm'
    · exact hqA (mem_wtF.mp hm').1
  · have huA := o2 A q B eA u (hm _ hu)
    by_cases c : u ∈ en1
    · exact List.mem_append_left _ c
    · exact List.mem_append_right _ (mem_wtF.mpr ⟨huA, c⟩)
theorem same_mem {a b : List Int} {v : Int} : v ∈ a ++ wtF b a ↔ v ∈ a ∨ v ∈ b := by
  rw [List.mem_append, mem_wtF]
  by_cases c : v ∈ a <;> simp [c]
theorem Run.free {K : List Int} {es es2 : List (Int × Int)} {ns : List Nd} {gv en wt s : List Int} (h : Run K es ns gv en wt) (hm : ∀ e, e ∈ es ↔ e ∈ es2) (hK : ∀ v, v ∈ K ↔ v ∈ K7) (hp : s.Perm wt) (hs : s.Pairwise (· ≤ ·)) : s = freeTo (heldL es2 en) en 7 := by
  have hf : freeTo (heldL es2 en) en 7 = K7.filter fun v => decide (v ∉ en ∧ v ∉ heldL es2 en) := rfl
  have hfn : (freeTo (heldL es2 en) en 7).Nodup := by
    rw [hf]
    exact (show K7.Nodup by decide).sublist List.filter_sublist
  have hmem : ∀ v, v ∈ s ↔ v ∈ freeTo (heldL es2 en) en 7 := fun v => by
    rw [hp.mem_iff, h.wt_iff, hf, List.mem_filter, hK]
    simp only [decide_eq_true_eq]
    have : v ∉ heldL es2 en ↔ ∀ u, (u, v) ∈ es → u ∈ en := by
      unfold heldL
      rw [List.mem_map]
      constructor
      · intro hn u hu
        refine Classical.byContradiction fun c => hn ⟨(u, v), List.mem_filter.mpr ⟨(hm _).mp hu, by simpa using c⟩, rfl⟩
      · rintro hu ⟨⟨u, v'⟩, he, rfl⟩
        obtain ⟨h1, h2⟩ := List.mem_filter.mp he
        have := hu u ((hm _).mpr h1)
        simp [this] at h2
    rw [this]
  have hsn : s.Nodup := hp.nodup_iff.mpr h.wnd
  refine List.Perm.eq_of_pairwise (le := fun a b : Int => a ≤ b) (fun a b _ _ h1 h2 => Int.le_antisymm h1 h2) hs ?_ ((List.perm_ext_iff_of_nodup hsn hfn).mpr hmem)
  rw [hf]
  exact (show K7.Pairwise (· ≤ ·) by decide).sublist List.filter_sublist
theorem Run.congr {K : List Int} {es : List (Int × Int)} {ns ns2 : List Nd} {K2 : List Int} {es2 : List (Int × Int)} {gv gv2 en en2 wt wt2 : List Int} (h : Run K es ns gv en wt) (h2 : Run K2 es2 ns2 gv2 en2 wt2) (hm : ∀ e, e ∈ es ↔ e ∈ es2) (hK : ∀ v, v ∈ K ↔ v ∈ K2) (he : ∀ v, v ∈ en ↔ v ∈ en2) (hw : wt = []) : wt2 = [] := by
  refine List.eq_nil_iff_forall_not_mem.mpr fun v hv => ?_
  obtain ⟨a, b, c⟩ := h2.wt_iff.mp hv
  have : v ∈ wt := h.wt_iff.mpr ⟨(hK v).mpr a, fun hn => b ((he v).mp hn), fun u hu => (he u).mpr (c u ((hm _).mp hu))⟩
  rw [hw] at this; cases this
noncomputable abbrev runLed (T so sd sD rl W En : Addr) (ep : Nat) (ns : List Nd) (gv en wt : List Int) (rest : List (Addr × MO)) : List (Addr × MO) :=
  (T, .tup [.ref so, .ref W, .ref En]) :: (W, .list (wt.map .int)) :: (En, .list (en.map .int)) :: ledR so sd sD rl ep [] gv.length en.length ns rest
section
variable {C : Cx} {E : Value → Shared → Prop} {names : List (Str × NameKind)} {cells : List (Str × Addr)} {loc : Loc}
  {T so sd sD rl W En : Addr} {ep : Nat} {ns : List Nd} {gv en wt : List Int} {rest : List (Addr × MO)} {K : List Int} {es : List (Int × Int)}
theorem do_spec (O : C.Ok GL names cells) (hh : C.A.handled = none) (hK : C.K = KK C.w) (hlv : 3 ≤ C.lv) (hS : (sD == sysModules) = false) (hk7 : K.length = 7) (hkb : ∀ v ∈ K, 0 ≤ v ∧ v < 7) (hel : es.length ≤ 8)
    (hR : Run K es ns gv en wt) {q : Int} (hq : q ∈ wt) {Q : MV → MS → Prop}
    (h : ∀ ns' gv' wt', Run K es ns' gv' (en ++ [q]) wt' → Q .none ⟨loc, runLed T so sd sD rl W En ep ns' gv' (en ++ [q]) wt' rest⟩) : CALLR C 182 [.ref T, .int q] Q E ⟨loc, runLed T so sd sD rl W En ep ns gv en wt rest⟩ := by
  refine CALLR.keep (CALLR.noexc (call_K O (ps := [Str.ofString "run", Str.ofString "name"]) (more := [Str.ofString "sorter", Str.ofString "waiting", Str.ofString "ended"]) (morec := []) (by omega) (by rw [hK]; exact rfl) (by rw [hK]; exact rfl) (fun args' s ia _ => by obtain ⟨v, w, rfl, i, j⟩ := ia.two; exact BindsTo.of_eq rfl)
    (.loc (by decide +kernel) (.loc (by decide +kernel) .nil)) (by decide +kernel) (by decide +kernel) (by decide +kernel) (by decide +kernel) rfl rfl rfl ?_))
  intro C' as has O' hp hw hK' hlv' hh'
  rw [hK, ← hw] at hK'
  rw [hh] at hh'
  cases as with
  | cons _ _ => cases has
  | nil =>
    dsimp only [cellLed, cellTab, List.map, List.append, List.nil_append, List.cons_append] at O' ⊢
    refine AW.hide fun QF hQF EF hEF => ?_
    have hL := hR.li
    have hwl := hR.wlen
    have hel2 := hR.elen
    have hq7 := hkb q (hR.wt_iff.mp hq).1
    obtain ⟨ns', rdy', hgo, hL', hR'⟩ := hR.step hq en.length
    have hrl : rdy'.length ≤ K.length := hL'.rlen
    have hwe := List.length_erase_le (a := q) (l := wt)
    refine r_cons ?_
    refine r_assign_tuple ?_ rfl rfl
    ((with_reducible refine' r_local (by assumption) ?k1 ?k2 ?_); (case k1 => walk_at "has"); (case k2 => ((try dsimp only); walk_at "has")))
    refine a_tuple hh' (xs := [Str.ofString "sorter", Str.ofString "waiting", Str.ofString "ended"]) (px := [_, _, _]) rfl rfl (by walk_at "has") ?_
    dsimp only [STNS]
    ((with_reducible refine' r_store (by assumption) ?k1 ?k2 ?_); (case k1 => walk_at "has"); (case k2 => ((try dsimp only); walk_at "put")); (try dsimp only); (with_reducible refine' r_store (by assumption) ?k1 ?k2 ?_); (case k1 => walk_at "has"); (case k2 => ((try dsimp only); walk_at "put")); (try dsimp only); (with_reducible refine' r_store (by assumption) ?k1 ?k2 ?_); (case k1 => walk_at "has"); (case k2 => ((try dsimp only); walk_at "put")); (try dsimp only); (with_reducible refine r_cons ?_); (with_reducible refine r_expr (by assumption) ?_ ?hs); (case hs => exact rfl); (with_reducible refine r_mcall (c := 144) (f := 127) (by assumption) ?h1 ?h2 ?h3 ?h4 ?_ ?h5 ?h6 ?h7 ?h8); (case h2 => (rw [‹Cx.K _ = _›]; exact m_done _)); (case h1 => (rw [‹Cx.K _ = _›]; exact cls_T _)); (case h3 => (rw [‹Cx.K _ = _›]; exact isf_127 _)); (case h4 => (rw [‹Cx.K _ = _›]; exact kp_127 _)); (case h5 => exact rfl); (case h6 => exact rfl); (case h7 => exact rfl); (case h8 => exact rfl); (with_reducible refine' r_local (by assumption) ?k1 ?k2 ?_); (case k1 => walk_at "has"); (case k2 => ((try dsimp only); walk_at "has")); (with_reducible refine' ⟨_, _, _, _, rfl, ?k1, ?k2, ?k3, ?_⟩); (case k1 => ((try dsimp only); walk_at "has")); (case k2 => ((try dsimp only); walk_at "has")); (case k3 => exact off_T (by decide +kernel)); (with_reducible refine p_cons ?_ ?hs); (case hs => exact rfl); (with_reducible refine' r_local (by assumption) ?k1 ?k2 ?_); (case k1 => walk_at "has"); (case k2 => ((try dsimp only); walk_at "has")); (with_reducible refine p_nil ?_))
    refine CALLR.pre (l' := ledR so sd sD rl ep [] gv.length en.length ns ((T, .tup [.ref so, .ref W, .ref En]) :: (W, .list (wt.map .int)) :: (En, .list (en.map .int)) :: rest)) (by walk_at "take") ?_
    refine (CALLR.mono (done_spec O' hh' hK' (by omega) hS (qs := [q]) (X := fun a cls σ' => False) (by simp) (by simp) (fun v hv => by simp only [List.mem_singleton] at hv; rw [hv]; omega) hL.nodup (fun r hr => Nat.le_trans (hL.bnd r hr) (by omega)) hL.closed (by rw [hgo]; show (0 : Nat) ≠ 2; decide) ?_ ?_) (fun b σ' hb => ⟨_, .all, hb⟩) hEF)
    · intro t st e
      rw [hgo] at e
      cases e
      ((with_reducible refine r_cons ?_); (with_reducible refine r_expr (by assumption) ?_ ?hs); (case hs => exact rfl); (with_reducible refine r_meth PySem.F.plainAttrs_list PySem.F.slot_list_remove PySem.F.type_list_remove ?_ ?h1 ?h2 ?h3 ?h4); (case h1 => exact rfl); (case h2 => exact rfl); (case h3 => exact rfl); (case h4 => exact rfl); (with_reducible refine' r_local (by assumption) ?k1 ?k2 ?_); (case k1 => walk_at "has"); (case k2 => ((try dsimp only); walk_at "has")); (with_reducible refine' And.intro (OfT.list ?k1) ?_); (case k1 => ((try dsimp only); walk_at "has")); (with_reducible refine p_cons ?_ ?hs); (case hs => exact rfl); (with_reducible refine' r_local (by assumption) ?k1 ?k2 ?_); (case k1 => walk_at "has"); (case k2 => ((try dsimp only); walk_at "has")); (with_reducible refine p_nil ?_))
      intro vs' ia
      refine' AW.wk (fun _ _ h => h) hEF (k_remove (X := fun a cls σ' => False) hh' (ns := wt) ?k1 ?k2 ?k3 ?k4 ?k5 vs' ia)
      case k1 => walk_at "has"
      case k2 => intro _; walk_at "upd"
      case k3 => omega
      case k5 => intro hm; exact absurd hq hm
      case k4 =>
        intro _
        ((with_reducible refine r_cons ?_); (with_reducible refine r_expr (by assumption) ?_ ?hs); (case hs => exact rfl); (with_reducible refine r_meth PySem.F.plainAttrs_list PySem.F.slot_list_append PySem.F.type_list_append ?_ ?h1 ?h2 ?h3 ?h4); (case h1 => exact rfl); (case h2 => exact rfl); (case h3 => exact rfl); (case h4 => exact rfl); (with_reducible refine' r_local (by assumption) ?k1 ?k2 ?_); (case k1 => walk_at "has"); (case k2 => ((try dsimp only); walk_at "has")); (with_reducible refine' And.intro (OfT.list ?k1) ?_); (case k1 => ((try dsimp only); walk_at "has")); (with_reducible refine p_cons ?_ ?hs); (case hs => exact rfl); (with_reducible refine' r_local (by assumption) ?k1 ?k2 ?_); (case k1 => walk_at "has"); (case k2 => ((try dsimp only); walk_at "has")); (with_reducible refine p_nil ?_); (with_reducible refine' k_append ?k1 ?k2 ?_); (case k1 => ((try dsimp only); walk_at "upd")); (case k2 => walk_at "len"); (try dsimp only); (with_reducible refine r_cons ?_); (with_reducible refine r_expr (by assumption) ?_ ?hs); (case hs => exact rfl); (with_reducible refine r_meth PySem.F.plainAttrs_list PySem.F.slot_list_extend PySem.F.type_list_extend ?_ ?h1 ?h2 ?h3 ?h4); (case h1 => exact rfl); (case h2 => exact rfl); (case h3 => exact rfl); (case h4 => exact rfl); (with_reducible refine' r_local (by assumption) ?k1 ?k2 ?_); (case k1 => walk_at "has"); (case k2 => ((try dsimp only); walk_at "has")); (with_reducible refine' And.intro (OfT.list ?k1) ?_); (case k1 => ((try dsimp only); walk_at "has")); (with_reducible refine p_cons ?_ ?hs); (case hs => exact rfl); (with_reducible refine r_mcall (c := 144) (f := 106) (by assumption) ?h1 ?h2 ?h3 ?h4 ?_ ?h5 ?h6 ?h7 ?h8); (case h2 => (rw [‹Cx.K _ = _›]; exact m_ready _)); (case h1 => (rw [‹Cx.K _ = _›]; exact cls_T _)); (case h3 => (rw [‹Cx.K _ = _›]; exact isf_106 _)); (case h4 => (rw [‹Cx.K _ = _›]; exact kp_106 _)); (case h5 => exact rfl); (case h6 => exact rfl); (case h7 => exact rfl); (case h8 => exact rfl); (with_reducible refine' r_local (by assumption) ?k1 ?k2 ?_); (case k1 => walk_at "has"); (case k2 => ((try dsimp only); walk_at "has")); (with_reducible refine' ⟨_, _, _, _, rfl, ?k1, ?k2, ?k3, ?_⟩); (case k1 => ((try dsimp only); walk_at "has")); (case k2 => ((try dsimp only); walk_at "has")); (case k3 => exact off_T (by decide +kernel)); (with_reducible refine p_nil ?_))
        refine CALLR.pre (l' := ledR so sd sD rl ep rdy' gv.length ((en.length : Int) + 1) ns' ((T, .tup [.ref so, .ref W, .ref En]) :: (W, .list ((wt.erase q).map .int)) :: (En, .list (en.map .int ++ [.int q])) :: rest)) (by walk_at "take") ?_
        refine ready O' hh' hK' (by omega) (by omega) hL'.rk hL'.nodup fun t2 => ?_
        ((with_reducible refine p_nil ?_); (with_reducible refine' k_extend_tup ?k0 ?k1 ?k2 ?_); (case k0 => ((try dsimp only); walk_at "has")); (case k1 => ((try dsimp only); walk_at "upd")); (case k2 => walk_at "len"); (try dsimp only); (with_reducible refine r_nil ?_))
        have e1 : (gv.length : Int) + (rdy'.length : Nat) = ((gv ++ rdy').length : Nat) := by rw [List.length_append]; omega
        have e2 : (en.length : Int) + 1 = ((en ++ [q]).length : Nat) := by rw [List.length_append]; rfl
        rw [e1, e2]
        have e3 : en.map MV.int ++ [MV.int q] = (en ++ [q]).map MV.int := by rw [List.map_append]; rfl
        have e4 : (wt.erase q).map MV.int ++ rdy'.map MV.int = (wt.erase q ++ rdy').map MV.int := by rw [List.map_append]
        rw [e3, e4]
        refine hQF _ _ ⟨_, ?_, h _ _ _ hR'⟩
        dsimp only
        walk_at "take"
    · intro t st a e
      rw [hgo] at e
      cases e
end
inductive WI (T so sd sD rl W En : Addr) (ep : Nat) (rest : List (Addr × MO)) (K : List Int) (es : List (Int × Int)) (rg : Addr) (cnt : Int) (n0 : Nat) (i : Nat) (lo : Loc) (led : List (Addr × MO)) : Prop where
  | mk (t : Option MV) (ch : Int) (ns : List Nd) (gv en wt : List Int) (h1 : lo = [(Str.ofString "run", some (.ref T)), (Str.ofString "count", some (.int cnt)), (Str.ofString "choice", some (.int ch)), (Str.ofString "turn", t)])
    (h2 : led = (rg, .range 0 cnt 1) :: runLed T so sd sD rl W En ep ns gv en wt rest) (h3 : Run K es ns gv en wt) (h4 : wt = [] ∨ en.length = n0 + i)
section
variable {C : Cx} {E : Value → Shared → Prop} {names : List (Str × NameKind)} {cells : List (Str × Addr)} {loc : Loc}
  {T so sd sD rl W En : Addr} {ep : Nat} {ns : List Nd} {gv en wt : List Int} {rest : List (Addr × MO)} {K : List Int} {es : List (Int × Int)}
theorem work_spec (O : C.Ok GL names cells) (hh : C.A.handled = none) (hK : C.K = KK C.w) (hlv : 5 ≤ C.lv) (hS : (sD == sysModules) = false) (hk7 : K.length = 7) (hkb : ∀ v ∈ K, 0 ≤ v ∧ v < 7) (hel : es.length ≤ 8)
    (hR : Run K es ns gv en wt) {cnt ch : Int} (hc0 : 0 ≤ cnt) (hc1 : cnt ≤ 1000) {Q : MV → MS → Prop}
    (h : ∀ ns' gv' en' wt', Run K es ns' gv' en' wt' → (wt' = [] ∨ en'.length = en.length + cnt.toNat) → Q .none ⟨loc, runLed T so sd sD rl W En ep ns' gv' en' wt' rest⟩) : CALLR C 189 [.ref T, .int cnt, .int ch] Q E ⟨loc, runLed T so sd sD rl W En ep ns gv en wt rest⟩ := by
  refine CALLR.keep (CALLR.noexc (call_K O (ps := [Str.ofString "run", Str.ofString "count", Str.ofString "choice"]) (more := [Str.ofString "turn"]) (morec := []) (by omega) (by rw [hK]; exact rfl) (by rw [hK]; exact rfl) (fun args' s ia _ => by obtain ⟨v, w, x, rfl, i, j, k⟩ := ia.three; exact BindsTo.of_eq rfl)
    (.loc (by decide +kernel) (.loc (by decide +kernel) (.loc (by decide +kernel) .nil))) (by decide +kernel) (by decide +kernel) (by decide +kernel) (by decide +kernel) rfl rfl rfl ?_))
  intro C' as has O' hp hw hK' hlv' hh'
  rw [hK, ← hw] at hK'
  rw [hh] at hh'
  cases as with
  | cons _ _ => cases has
  | nil =>
    dsimp only [cellLed, cellTab, List.map, List.append, List.nil_append, List.cons_append] at O' ⊢
    refine AW.hide fun QF hQF EF hEF => ?_
    ((with_reducible refine r_cons ?_); (with_reducible refine r_for ?_ ?hs); (case hs => exact fun _ => rfl); (with_reducible refine' r_call_ty (by assumption) ?k1 ?k2 ?_ ?hn); (case k1 => walk_at "has"); (case k2 => walk_at "has"); (case hn => exact rfl); (with_reducible refine p_cons ?_ ?hs); (case hs => exact rfl); (with_reducible refine' r_local (by assumption) ?k1 ?k2 ?_); (case k1 => walk_at "has"); (case k2 => ((try dsimp only); walk_at "has")); (with_reducible refine p_nil ?_); (with_reducible refine k_range1 ?_); intro _; (try dsimp only))
    rename_i rg
    refine f_loop hh' (iter_rangeT hc0 (by omega) .head) (WI T so sd sD rl W En ep rest K es rg cnt en.length) ⟨_, ch, ns, gv, en, wt, rfl, rfl, hR, .inr rfl⟩ (fun _ _ _ _ _ _ => trivial) ?_ ?_
    · rintro i y it o lo led ⟨t, ch, ns, gv, en1, wt, rfl, rfl, hR, h4⟩ hy QQ EE hn _ _ _
      obtain ⟨hi, rfl⟩ := range_get01 hy
      have hwl := hR.wlen
      ((with_reducible refine a_name ?_); (with_reducible refine' r_store (by assumption) ?k1 ?k2 ?_); (case k1 => walk_at "has"); (case k2 => ((try dsimp only); walk_at "put")); (try dsimp only); (with_reducible refine r_cons ?_); (with_reducible refine r_if ?_); (with_reducible refine t_compare ?_ ?hs); (case hs => exact rfl); (with_reducible refine r_subs ?_); (with_reducible refine' r_local (by assumption) ?k1 ?k2 ?_); (case k1 => walk_at "has"); (case k2 => ((try dsimp only); walk_at "has")); (with_reducible refine r_int ?_))
      refine i_tup (by walk_at "has") (by omega) (by omega) rfl ?_
      ((with_reducible refine r_list ?_); (with_reducible refine p_nil ?_); (with_reducible show _ ≤ 1000000 ∧ _); refine And.intro ?k1 ?_; (case k1 => walk_at "len"); intro _; (try dsimp only))
      refine c_ne_ints O' (ns := wt) (ms := []) (by walk_at "has") .head ?_
      refine u_bool ?_
      by_cases hw0 : wt = []
      · refine if_f (by simp [hw0]) ?_
        ((with_reducible refine r_nil ?_); (with_reducible refine r_nil ?_))
        refine (hn _ ⟨_, ?_, _, ch, ns, gv, en1, wt, rfl, rfl, hR, .inl hw0⟩).1
        dsimp only
        walk_at "take"
      · have hw1 : 0 < wt.length := List.length_pos_iff.mpr hw0
        refine if_t (by simp [hw0]) ?_
        ((with_reducible refine r_cons ?_); (with_reducible refine r_expr (by assumption) ?_ ?hs); (case hs => exact rfl))
        ((with_reducible refine' r_call (by assumption) ?k1 ?k2 ?k3 ?_); (case k1 => walk_at "has"); (case k2 => walk_at "has"); (case k3 => (rw [‹Cx.K _ = _›]; first | exact kp_153 _ | exact kp_160 _ | exact kp_144 _ | exact kp_28 _ | exact kp_165 _ | exact kp_170 _ | exact kp_175 _ | exact kp_182 _ | exact kp_189 _)); refine a_spl ?_ rfl)
        ((with_reducible refine p_cons ?_ ?hs); (case hs => exact rfl); (with_reducible refine' r_local (by assumption) ?k1 ?k2 ?_); (case k1 => walk_at "has"); (case k2 => ((try dsimp only); walk_at "has")); (with_reducible refine p_cons ?_ ?hs); (case hs => exact rfl); (with_reducible refine r_subs ?_); (with_reducible refine r_subs ?_); (with_reducible refine' r_local (by assumption) ?k1 ?k2 ?_); (case k1 => walk_at "has"); (case k2 => ((try dsimp only); walk_at "has")); (with_reducible refine r_int ?_))
        refine i_tup (by walk_at "has") (by omega) (by omega) rfl ?_
        ((with_reducible refine r_binop ?_); (with_reducible refine r_binop ?_); (with_reducible refine' r_local (by assumption) ?k1 ?k2 ?_); (case k1 => walk_at "has"); (case k2 => ((try dsimp only); walk_at "has")); (with_reducible refine r_int ?_); (with_reducible refine b_mod ?k1 ?_); (case k1 => decide); (with_reducible refine' r_call_bi (by assumption) ?k1 ?k2 ?_ ?hn); (case k1 => walk_at "has"); (case k2 => walk_at "has"); (case hn => exact rfl); (with_reducible refine p_cons ?_ ?hs); (case hs => exact rfl); (with_reducible refine r_subs ?_); (with_reducible refine' r_local (by assumption) ?k1 ?k2 ?_); (case k1 => walk_at "has"); (case k2 => ((try dsimp only); walk_at "has")); (with_reducible refine r_int ?_))
        refine i_tup (by walk_at "has") (by omega) (by omega) rfl ?_
        ((with_reducible refine p_nil ?_); (with_reducible refine' k_len_list ?k1 ?k2 ?_); (case k1 => ((try dsimp only); walk_at "has")); (case k2 => walk_at "len"))
        refine b_mod (by rw [List.length_map]; omega) ?_
        obtain ⟨k, hk⟩ : ∃ k : Nat, (ch.fmod 7).fmod ((wt.map MV.int).length : Int) = (k : Int) := ⟨_, (Int.toNat_of_nonneg (Int.fmod_nonneg_of_pos _ (by rw [List.length_map]; omega))).symm⟩
        have hkl : k < wt.length := by
          have := Int.fmod_lt_of_pos (ch.fmod 7) (b := ((wt.map MV.int).length : Int)) (by rw [List.length_map]; omega)
          rw [hk, List.length_map] at this; omega
        rw [hk]
        have hx : (wt.map MV.int)[((k : Nat) : Int).toNat]? = some (.int wt[k]) := by
          rw [Int.toNat_natCast, List.getElem?_map, List.getElem?_eq_getElem hkl]; rfl
        refine i_list (by walk_at "has") (by omega) (by omega) hx ?_
        (with_reducible refine p_nil ?_)
        rename_i l0
        refine CALLR.pre (l' := runLed T so sd sD rl W En ep ns gv en1 wt ((it, o) :: (rg, .range 0 cnt 1) :: rest)) (by walk_at "take") ?_
        refine do_spec O' hh' hK' (by omega) hS hk7 hkb hel hR (List.getElem_mem hkl) fun ns' gv' wt' hR' => ?_
        ((with_reducible refine r_cons ?_); (with_reducible refine r_assign ?_ ?hs); (case hs => exact rfl); (with_reducible refine r_binop ?_); (with_reducible refine' r_local (by assumption) ?k1 ?k2 ?_); (case k1 => walk_at "has"); (case k2 => ((try dsimp only); walk_at "has")); (with_reducible refine r_int ?_); (with_reducible refine b_fdiv ?k1 ?k2 ?_); (case k1 => decide); (case k2 => decide); (with_reducible refine' r_store (by assumption) ?k1 ?k2 ?_); (case k1 => walk_at "has"); (case k2 => ((try dsimp only); walk_at "put")); (try dsimp only); (with_reducible refine r_nil ?_); (with_reducible refine r_nil ?_))
        refine (hn _ ⟨_, ?_, _, _, ns', gv', en1 ++ [wt[k]], wt', rfl, rfl, hR', .inr ?_⟩).1
        · dsimp only
          walk_at "take"
        · rcases h4 with h4 | h4
          · exact absurd h4 hw0
          · rw [List.length_append, h4]; rfl
    · rintro lo led ⟨t, ch, ns, gv, en1, wt, rfl, rfl, hR, h4⟩
      rw [show (rangeSrc 0 1 cnt.toNat).items.length = cnt.toNat from rangeL_len 0 1 _] at h4
      ((with_reducible refine r_nil ?_); (with_reducible refine r_nil ?_))
      refine hQF _ _ ⟨_, ?_, h ns gv en1 wt hR h4⟩
      dsimp only
      walk_at "take"
end
noncomputable def lawB : List Stmt := match PySem.Challenge.pw_mg0048_02.main.body.getLast? with | some (.FunctionDef _ _ body _ _ _ _ _ _ _) => body | _ => []
noncomputable def forB : List Stmt := match lawB.drop 4 with | .For _ _ body _ _ :: _ => body | _ => []
noncomputable def turnB : List Stmt := match lawB.drop 6 with | .For _ _ body _ _ :: _ => body | _ => []
noncomputable abbrev lawNm : List (Str × NameKind) := [(Str.ofString "script", .local), (Str.ofString "numbers", .local), (Str.ofString "steps", .local), (Str.ofString "runs", .local), (Str.ofString "ringed", .local), (Str.ofString "names", .local), (Str.ofString "rows", .local), (Str.ofString "sorter", .local), (Str.ofString "name", .local), (Str.ofString "early", .local), (Str.ofString "late", .local),
  (Str.ofString "one", .local), (Str.ofString "two", .local), (Str.ofString "turn", .local), (Str.ofString "bag", .local), (Str.ofString "other", .local), (Str.ofString "missing", .local), (Str.ofString "left", .local), (Str.ofString "first", .local), (Str.ofString "second", .local), (Str.ofString "told", .local),
  (Str.ofString "_law_numbers", .globalImplicit), (Str.ofString "_law_steps", .globalImplicit), (Str.ofString "range", .globalImplicit), (Str.ofString "TopologicalSorter", .globalImplicit), (Str.ofString "CycleError", .globalImplicit), (Str.ofString "list", .globalImplicit), (Str.ofString "_law_work", .globalImplicit), (Str.ofString "_law_tokens", .globalImplicit),
  (Str.ofString "unorderable_list_difference", .globalImplicit), (Str.ofString "_law_due", .globalImplicit), (Str.ofString "_law_do", .globalImplicit), (Str.ofString "sorted", .globalImplicit), (Str.ofString "_law_free", .globalImplicit), (Str.ofString "len", .globalImplicit)]
noncomputable abbrev locA (sc nu S Ru Ri : Addr) (nm rw so na ea la : Option MV) : Loc :=
  [(Str.ofString "script", some (.ref sc)), (Str.ofString "numbers", some (.ref nu)), (Str.ofString "steps", some (.ref S)), (Str.ofString "runs", some (.ref Ru)), (Str.ofString "ringed", some (.ref Ri)), (Str.ofString "names", nm), (Str.ofString "rows", rw), (Str.ofString "sorter", so), (Str.ofString "name", na), (Str.ofString "early", ea), (Str.ofString "late", la),
   (Str.ofString "one", none), (Str.ofString "two", none), (Str.ofString "turn", none), (Str.ofString "bag", none), (Str.ofString "other", none), (Str.ofString "missing", none), (Str.ofString "left", none), (Str.ofString "first", none), (Str.ofString "second", none), (Str.ofString "told", none)]
inductive Built (Ru Ri : Addr) (rus : List MV) (rbs : List Bool) (rest : List (Addr × MO)) (K : List Int) (es : List (Int × Int)) (led : List (Addr × MO)) : Prop where
  | mk (T so sd sD rl W En : Addr) (ep : Nat) (ns : List Nd) (gv : List Int) (rb : Bool) (hS : (sD == sysModules) = false)
    (ht : Take (runLed T so sd sD rl W En ep ns gv [] gv ((Ru, .list (rus ++ [.ref T])) :: (Ri, .list ((rbs ++ [rb]).map .bool)) :: rest)) led) (hR : Run K es ns gv [] gv) (hE : RingsE K rb es)
noncomputable abbrev PostB (sc nu S Ru Ri : Addr) (nm rw : Option MV) (rus : List MV) (rbs : List Bool) (rest : List (Addr × MO)) (K : List Int) (es : List (Int × Int)) : MF → MS → Prop := fun f σ => f = .next ∧ Ex4 fun (so na ea la : Option MV) => All2 (σ.loc = locA sc nu S Ru Ri nm rw so na ea la) (Built Ru Ri rus rbs rest K es σ.led)
section
variable {C : Cx} {cells : List (Str × Addr)} {sc nu S Ru Ri : Addr} {rus : List MV} {rbs : List Bool} {rest : List (Addr × MO)} {K : List Int} {es : List (Int × Int)}
theorem stageB2 (O : C.Ok GL lawNm cells) (hh : C.A.handled = none) (hKC : C.K = KK C.w) (hlv : 10 ≤ C.lv) (hk7 : K.length = 7) (hel : es.length ≤ 8) (hru : rus.length ≤ 2) (hrb : rbs.length ≤ 2) {so sd sD : Addr} (hsD : (sD == sysModules) = false) {nm rw na ea la : Option MV} {ep : Nat} {nds : List Nd} (hB : Blt K nds es) :
    EXS C (forB.drop 3) (PostB sc nu S Ru Ri nm rw rus rbs rest K es) (loopE C (EXC C fun a cls σ' => False)) ⟨locA sc nu S Ru Ri nm rw (some (.ref so)) na ea la, ledT so sd sD ep .none 0 0 nds ((Ru, .list rus) :: (Ri, .list (rbs.map .bool)) :: rest)⟩ := by
  refine EXS.hide fun QF hQF EF hEF => ?_
  conv => arg 2; whnf
  refine r_cons ?_
  refine AW.keep (AW.mono (Q := fun f σ' => f = .next ∧ Ex2 fun (rl : Addr) (rb : Bool) => All4 (σ'.loc = locA sc nu S Ru Ri nm rw (some (.ref so)) na ea la) (Take (ledR so sd sD rl ep (rdyN nds) 0 0 nds ((Ru, .list rus) :: (Ri, .list ((rbs ++ [rb]).map .bool)) :: rest)) σ'.led) (rb = true → ∃ S, Ring (suN nds) S) (rb = false → ∃ B, Topo (suN nds) B ∧ ∀ k ∈ keysN nds, k ∈ B)) ?_ ?_)
  · refine AW.hideQ fun Q1 hQ1 => ?_
    refine r_try O (tv := .ref 62) (cls := .ref 62) (by walk_at "has") (by walk_at "has") (fun tv' i => by cases i.of_ref; exact Matches.own (by rw [hKC]; exact exc_C _) O.kin) ?_
    ((with_reducible refine r_cons ?_); (with_reducible refine r_expr (by assumption) ?_ ?hs); (case hs => exact rfl); (with_reducible refine r_meth PySem.F.plainAttrs_list PySem.F.slot_list_append PySem.F.type_list_append ?_ ?h1 ?h2 ?h3 ?h4); (case h1 => exact rfl); (case h2 => exact rfl); (case h3 => exact rfl); (case h4 => exact rfl); (with_reducible refine' r_local (by assumption) ?k1 ?k2 ?_); (case k1 => walk_at "has"); (case k2 => ((try dsimp only); walk_at "has")); (with_reducible refine' And.intro (OfT.list ?k1) ?_); (case k1 => ((try dsimp only); walk_at "has")); (with_reducible refine p_cons ?_ ?hs); (case hs => exact rfl); (with_reducible refine r_compare ?_ ?hs); (case hs => exact rfl); (with_reducible refine r_mcall (c := 144) (f := 99) (by assumption) ?h1 ?h2 ?h3 ?h4 ?_ ?h5 ?h6 ?h7 ?h8); (case h2 => (rw [‹Cx.K _ = _›]; exact m_prepare _)); (case h1 => (rw [‹Cx.K _ = _›]; exact cls_T _)); (case h3 => (rw [‹Cx.K _ = _›]; exact isf_99 _)); (case h4 => (rw [‹Cx.K _ = _›]; exact kp_99 _)); (case h5 => exact rfl); (case h6 => exact rfl); (case h7 => exact rfl); (case h8 => exact rfl); (with_reducible refine' r_local (by assumption) ?k1 ?k2 ?_); (case k1 => walk_at "has"); (case k2 => ((try dsimp only); walk_at "has")); (with_reducible refine' ⟨_, _, _, _, rfl, ?k1, ?k2, ?k3, ?_⟩); (case k1 => ((try dsimp only); walk_at "has")); (case k2 => ((try dsimp only); walk_at "has")); (case k3 => exact off_T (by decide +kernel)); (with_reducible refine p_nil ?_))
    refine prepare_spec O hh hKC (by omega) hsD (by rw [hB.len]; omega) hB.nodup (fun r hr => Nat.le_trans (hB.bnd r hr) (by omega)) hB.closed ?_ ?_
    · intro rl B hT hk
      ((with_reducible refine r_none ?_); (with_reducible refine c_isnot_nn ?_); (with_reducible refine p_nil ?_); (with_reducible refine' k_append ?k1 ?k2 ?_); (case k1 => ((try dsimp only); walk_at "upd")); (case k2 => walk_at "len"); (try dsimp only); (with_reducible refine r_nil ?_); (with_reducible refine r_nil ?_))
      refine hQ1 _ _ ⟨rfl, rl, false, rfl, ?_, fun h => (nomatch h), fun _ => ⟨B, hT, hk⟩⟩
      rw [List.map_append]
      dsimp only [List.map]
      walk_at "take"
    · intro rl a hR
      refine ⟨rfl, fun E' => ?_⟩
      have Om := O.mark a
      ((with_reducible refine r_cons ?_); (with_reducible refine r_expr (by assumption) ?_ ?hs); (case hs => exact rfl); (with_reducible refine r_meth PySem.F.plainAttrs_list PySem.F.slot_list_append PySem.F.type_list_append ?_ ?h1 ?h2 ?h3 ?h4); (case h1 => exact rfl); (case h2 => exact rfl); (case h3 => exact rfl); (case h4 => exact rfl); (with_reducible refine' r_local (by assumption) ?k1 ?k2 ?_); (case k1 => walk_at "has"); (case k2 => ((try dsimp only); walk_at "has")); (with_reducible refine' And.intro (OfT.list ?k1) ?_); (case k1 => ((try dsimp only); walk_at "has")); (with_reducible refine p_cons ?_ ?hs); (case hs => exact rfl); (with_reducible refine r_bool ?_); (with_reducible refine p_nil ?_); (with_reducible refine' k_append ?k1 ?k2 ?_); (case k1 => ((try dsimp only); walk_at "upd")); (case k2 => walk_at "len"); (try dsimp only); (with_reducible refine r_nil ?_))
      refine hQ1 _ _ ⟨rfl, rl, true, rfl, ?_, fun _ => hR, fun h => (nomatch h)⟩
      rw [List.map_append]
      dsimp only [List.map]
      walk_at "take"
  · rintro f ⟨lo, le⟩ ⟨rfl, rl, rb, hlo, ht, h1, h2⟩
    dsimp only at hlo ht
    subst hlo
    refine ⟨_, ht, ?_⟩
    dsimp only
    have hR0 := Run.start hB
    have hst := LI.start hB (true_pw K)
    have hrl : (rdyN nds).length ≤ K.length := hst.rlen
    ((with_reducible refine r_cons ?_); (with_reducible refine r_expr (by assumption) ?_ ?hs); (case hs => exact rfl); (with_reducible refine r_meth PySem.F.plainAttrs_list PySem.F.slot_list_append PySem.F.type_list_append ?_ ?h1 ?h2 ?h3 ?h4); (case h1 => exact rfl); (case h2 => exact rfl); (case h3 => exact rfl); (case h4 => exact rfl); (with_reducible refine' r_local (by assumption) ?k1 ?k2 ?_); (case k1 => walk_at "has"); (case k2 => ((try dsimp only); walk_at "has")); (with_reducible refine' And.intro (OfT.list ?k1) ?_); (case k1 => ((try dsimp only); walk_at "has")); (with_reducible refine p_cons ?_ ?hs); (case hs => exact rfl); (with_reducible refine r_tuple ?_); (with_reducible refine p_cons ?_ ?hs); (case hs => exact rfl); (with_reducible refine' r_local (by assumption) ?k1 ?k2 ?_); (case k1 => walk_at "has"); (case k2 => ((try dsimp only); walk_at "has")); (with_reducible refine p_cons ?_ ?hs); (case hs => exact rfl); (with_reducible refine' r_call_ty (by assumption) ?k1 ?k2 ?_ ?hn); (case k1 => walk_at "has"); (case k2 => walk_at "has"); (case hn => exact rfl); (with_reducible refine p_cons ?_ ?hs); (case hs => exact rfl); (with_reducible refine r_mcall (c := 144) (f := 106) (by assumption) ?h1 ?h2 ?h3 ?h4 ?_ ?h5 ?h6 ?h7 ?h8); (case h2 => (rw [‹Cx.K _ = _›]; exact m_ready _)); (case h1 => (rw [‹Cx.K _ = _›]; exact cls_T _)); (case h3 => (rw [‹Cx.K _ = _›]; exact isf_106 _)); (case h4 => (rw [‹Cx.K _ = _›]; exact kp_106 _)); (case h5 => exact rfl); (case h6 => exact rfl); (case h7 => exact rfl); (case h8 => exact rfl); (with_reducible refine' r_local (by assumption) ?k1 ?k2 ?_); (case k1 => walk_at "has"); (case k2 => ((try dsimp only); walk_at "has")); (with_reducible refine' ⟨_, _, _, _, rfl, ?k1, ?k2, ?k3, ?_⟩); (case k1 => ((try dsimp only); walk_at "has")); (case k2 => ((try dsimp only); walk_at "has")); (case k3 => exact off_T (by decide +kernel)); (with_reducible refine p_nil ?_))
    refine CALLR.pre (l' := ledR so sd sD rl ep (rdyN nds) 0 0 nds ((Ru, .list rus) :: (Ri, .list ((rbs ++ [rb]).map .bool)) :: rest)) (by walk_at "take") ?_
    refine ready O hh hKC (by omega) (by omega) hst.rk hst.nodup fun t => ?_
    ((with_reducible refine p_nil ?_); (with_reducible refine' k_list_tup ?k1 ?k2 ?_); (case k1 => ((try dsimp only); walk_at "has")); (case k2 => walk_at "len"); intro _; (try dsimp only); (with_reducible refine p_cons ?_ ?hs); (case hs => exact rfl); (with_reducible refine r_list ?_); (with_reducible refine p_nil ?_); (with_reducible show _ ≤ 1000000 ∧ _); refine And.intro ?k1 ?_; (case k1 => walk_at "len"); intro _; (try dsimp only); (with_reducible refine p_nil ?_); (with_reducible show _ ≤ 1000000 ∧ _); refine And.intro ?k1 ?_; (case k1 => walk_at "len"); intro _; (try dsimp only); (with_reducible refine p_nil ?_); (with_reducible refine' k_append ?k1 ?k2 ?_); (case k1 => ((try dsimp only); walk_at "upd")); (case k2 => walk_at "len"); (try dsimp only); (with_reducible refine r_nil ?_))
    rename_i W En T
    refine hQF _ _ ⟨rfl, _, _, _, _, rfl, T, so, sd, sD, rl, W, En, ep, outN nds (rdyN nds), rdyN nds, rb, hsD, ?_, hR0, .of hB h1 h2⟩
    rw [Int.zero_add]
    dsimp only [runLed, ledR]
    rw [show ((([] : List Int).length : Nat) : Int) = 0 from rfl]
    dsimp only [List.map]
    walk_at "take"
theorem stageB1 (O : C.Ok GL lawNm cells) (hh : C.A.handled = none) (hKC : C.K = KK C.w) (hlv : 10 ≤ C.lv) (hk7 : K.length = 7) (hkn : K.Nodup) (hkb : ∀ v, v ∈ K ↔ 0 ≤ v ∧ v < 7) {qs : List Stp} (hql : qs.length ≤ 8) (hqo : ∀ q ∈ qs, Stp.Ok q) (hru : rus.length ≤ 2) (hrb : rbs.length ≤ 2) {rg R : Addr} {a b c : Int}
    (hrg : Has rg (.range a b c) rest) (hsm : Builtin.Range.small a b c = true) (hsz : Builtin.Range.rangeSize a b c = 7) (hrl : rangeL a c 7 = K) (hRr : Has R (.list (stpRefs qs)) rest) (hst : ∀ q ∈ qs, Has q.a (.tup [.int q.e, .int q.l]) rest) {so na ea la : Option MV} :
    EXS C forB (PostB sc nu S Ru Ri (some (.ref rg)) (some (.ref R)) rus rbs rest K (edg qs)) (loopE C (EXC C fun a cls σ' => False)) ⟨locA sc nu S Ru Ri (some (.ref rg)) (some (.ref R)) so na ea la, (Ru, .list rus) :: (Ri, .list (rbs.map .bool)) :: rest⟩ := by
  refine EXS.hide fun QF hQF EF hEF => ?_
  conv => arg 2; whnf
  ((with_reducible refine r_cons ?_); (with_reducible refine r_assign ?_ ?hs); (case hs => exact rfl))
  ((with_reducible refine' r_call (by assumption) ?k1 ?k2 ?k3 ?_); (case k1 => walk_at "has"); (case k2 => walk_at "has"); (case k3 => (rw [‹Cx.K _ = _›]; first | exact kp_153 _ | exact kp_160 _ | exact kp_144 _ | exact kp_28 _ | exact kp_165 _ | exact kp_170 _ | exact kp_175 _ | exact kp_182 _ | exact kp_189 _)); refine a_spl ?_ rfl)
  (with_reducible refine p_nil ?_)
  refine new_sorter O hKC (by omega) fun so sd sD hsD => ?_
  ((with_reducible refine' r_store (by assumption) ?k1 ?k2 ?_); (case k1 => walk_at "has"); (case k2 => ((try dsimp only); walk_at "put")); (try dsimp only); (with_reducible refine r_cons ?_); (with_reducible refine r_for ?_ ?hs); (case hs => exact fun _ => rfl); (with_reducible refine' r_local (by assumption) ?k1 ?k2 ?_); (case k1 => walk_at "has"); (case k2 => ((try dsimp only); walk_at "has")))
  refine f_loop hh (iter_range 7 (a := a) (b := b) (c := c) (by walk_at "has") hsm hsz) (fun i lo led => Ex3 fun (na : Option MV) (ep : Nat) (nds : List Nd) => All3 (lo = locA sc nu S Ru Ri (some (.ref rg)) (some (.ref R)) (some (.ref so)) na ea la) (led = ledT so sd sD ep .none 0 0 nds ((Ru, .list rus) :: (Ri, .list (rbs.map .bool)) :: rest)) (Blt0 K nds i)) ⟨_, _, [], rfl, rfl, ⟨rfl, fun _ h => (nomatch h)⟩⟩ (fun _ _ _ _ _ _ => trivial) ?_ ?_
  · rintro i y it o lo led ⟨na, ep, nds, rfl, rfl, hB⟩ hy QQ EE hn _ _ _
    obtain ⟨x, hx, rfl⟩ := get_ints hy
    rw [hrl] at hx
    ((with_reducible refine a_name ?_); (with_reducible refine' r_store (by assumption) ?k1 ?k2 ?_); (case k1 => walk_at "has"); (case k2 => ((try dsimp only); walk_at "put")); (try dsimp only); (with_reducible refine r_cons ?_); (with_reducible refine r_expr (by assumption) ?_ ?hs); (case hs => exact rfl); (with_reducible refine r_mcall (c := 144) (f := 94) (by assumption) ?h1 ?h2 ?h3 ?h4 ?_ ?h5 ?h6 ?h7 ?h8); (case h2 => (rw [‹Cx.K _ = _›]; exact m_add _)); (case h1 => (rw [‹Cx.K _ = _›]; exact cls_T _)); (case h3 => (rw [‹Cx.K _ = _›]; exact isf_94 _)); (case h4 => (rw [‹Cx.K _ = _›]; exact kp_94 _)); (case h5 => exact rfl); (case h6 => exact rfl); (case h7 => exact rfl); (case h8 => exact rfl); (with_reducible refine' r_local (by assumption) ?k1 ?k2 ?_); (case k1 => walk_at "has"); (case k2 => ((try dsimp only); walk_at "has")); (with_reducible refine' ⟨_, _, _, _, rfl, ?k1, ?k2, ?k3, ?_⟩); (case k1 => ((try dsimp only); walk_at "has")); (case k2 => ((try dsimp only); walk_at "has")); (case k3 => exact off_T (by decide +kernel)); (with_reducible refine p_cons ?_ ?hs); (case hs => exact rfl); (with_reducible refine' r_local (by assumption) ?k1 ?k2 ?_); (case k1 => walk_at "has"); (case k2 => ((try dsimp only); walk_at "has")); (with_reducible refine p_nil ?_))
    have hkn2 : keysN nds = K.take i := hB.keys
    have hln : nds.length ≤ 7 := by
      have : (keysN nds).length ≤ 7 := by rw [hkn2, List.length_take, hk7]; exact Nat.min_le_right ..
      rwa [keysN, List.length_map] at this
    refine CALLR.pre (l' := ledT so sd sD ep .none 0 0 nds ((it, o) :: (Ru, .list rus) :: (Ri, .list (rbs.map .bool)) :: rest)) (by walk_at "take") ?_
    refine add_any (ps := []) O hh hKC (by omega) hsD (by omega) (by decide) (fun _ h => (nomatch h)) ?_ ?_ fun ns' hI ep' t => ?_
    · rw [hkn2]
      exact (List.take_sublist i K).nodup hkn
    · intro r hr
      rw [(hB.all r hr).2]; exact Nat.zero_le _
    · (with_reducible refine r_nil ?_)
      refine (hn _ ⟨_, ?_, _, ep', _, rfl, rfl, hB.step hkn hx hI⟩).1
      dsimp only [ledT]
      walk_at "take"
  · rintro lo led ⟨na, ep, nds, rfl, rfl, hB⟩
    rw [show (rangeSrc a c 7).items.length = 7 from rangeL_len a c 7] at hB
    have hB1 := hB.done hkn hk7
    clear hB
    ((with_reducible refine r_nil ?_); (with_reducible refine r_cons ?_); (with_reducible refine r_for ?_ ?hs); (case hs => exact fun _ => rfl); (with_reducible refine' r_local (by assumption) ?k1 ?k2 ?_); (case k1 => walk_at "has"); (case k2 => ((try dsimp only); walk_at "has")))
    refine f_loop hh (iter_list (xs := stpRefs qs) (by walk_at "has")) (fun i lo led => Ex4 fun (ea la : Option MV) (ep : Nat) (nds : List Nd) => All3 (lo = locA sc nu S Ru Ri (some (.ref rg)) (some (.ref R)) (some (.ref so)) na ea la) (led = ledT so sd sD ep .none 0 0 nds ((Ru, .list rus) :: (Ri, .list (rbs.map .bool)) :: rest)) (Blt K nds (edg (qs.take i)))) ⟨_, _, ep, nds, rfl, rfl, hB1⟩ ?_ ?_ ?_
    · rintro i lo led it o ⟨ea, la, ep, nds, rfl, rfl, hB⟩
      show Has R (MO.list (stpRefs qs)) _
      walk_at "has"
    · rintro i y it o lo led ⟨ea, la, ep, nds, rfl, rfl, hB⟩ hy QQ EE hn _ _ _
      obtain ⟨q, hq, rfl⟩ := get_stps hy
      have hqm := List.mem_of_getElem? hq
      have hqok := hqo q hqm
      have hstq := hst q hqm
      refine a_tuple hh (xs := [Str.ofString "early", Str.ofString "late"]) (px := [_, _]) rfl rfl (by walk_at "has") ?_
      dsimp only [STNS]
      ((with_reducible refine' r_store (by assumption) ?k1 ?k2 ?_); (case k1 => walk_at "has"); (case k2 => ((try dsimp only); walk_at "put")); (try dsimp only); (with_reducible refine' r_store (by assumption) ?k1 ?k2 ?_); (case k1 => walk_at "has"); (case k2 => ((try dsimp only); walk_at "put")); (try dsimp only); (with_reducible refine r_cons ?_); (with_reducible refine r_expr (by assumption) ?_ ?hs); (case hs => exact rfl); (with_reducible refine r_mcall (c := 144) (f := 94) (by assumption) ?h1 ?h2 ?h3 ?h4 ?_ ?h5 ?h6 ?h7 ?h8); (case h2 => (rw [‹Cx.K _ = _›]; exact m_add _)); (case h1 => (rw [‹Cx.K _ = _›]; exact cls_T _)); (case h3 => (rw [‹Cx.K _ = _›]; exact isf_94 _)); (case h4 => (rw [‹Cx.K _ = _›]; exact kp_94 _)); (case h5 => exact rfl); (case h6 => exact rfl); (case h7 => exact rfl); (case h8 => exact rfl); (with_reducible refine' r_local (by assumption) ?k1 ?k2 ?_); (case k1 => walk_at "has"); (case k2 => ((try dsimp only); walk_at "has")); (with_reducible refine' ⟨_, _, _, _, rfl, ?k1, ?k2, ?k3, ?_⟩); (case k1 => ((try dsimp only); walk_at "has")); (case k2 => ((try dsimp only); walk_at "has")); (case k3 => exact off_T (by decide +kernel)); (with_reducible refine p_cons ?_ ?hs); (case hs => exact rfl); (with_reducible refine' r_local (by assumption) ?k1 ?k2 ?_); (case k1 => walk_at "has"); (case k2 => ((try dsimp only); walk_at "has")); (with_reducible refine p_cons ?_ ?hs); (case hs => exact rfl); (with_reducible refine' r_local (by assumption) ?k1 ?k2 ?_); (case k1 => walk_at "has"); (case k2 => ((try dsimp only); walk_at "has")); (with_reducible refine p_nil ?_))
      refine CALLR.pre (l' := ledT so sd sD ep .none 0 0 nds ((it, o) :: (Ru, .list rus) :: (Ri, .list (rbs.map .bool)) :: rest)) (by walk_at "take") ?_
      have hel := edg_len (qs.take i)
      rw [List.length_take] at hel
      refine add_any (ps := [q.e]) O hh hKC (by omega) hsD (by rw [hB.len]; omega) (by simp) ?_ hB.nodup (fun r hr => Nat.le_trans (hB.bnd r hr) (by omega)) fun ns' hI ep' t => ?_
      · intro v hv
        simp only [List.mem_singleton] at hv
        rw [hv, hB.keys]
        exact (hkb _).mpr hqok.1
      · (with_reducible refine r_nil ?_)
        have hB' := hB.step (t := 1) ((hkb _).mpr hqok.1) ((hkb _).mpr hqok.2) hI
        rw [show List.replicate 1 (q.e, q.l) = [(q.e, q.l)] from rfl, show List.replicate 1 q.e = [q.e] from rfl, ← edg_succ hq] at hB'
        refine (hn _ ⟨_, ?_, _, _, ep', _, rfl, rfl, hB'⟩).1
        dsimp only [ledT]
        walk_at "take"
    · rintro lo led ⟨ea, la, ep, nds, rfl, rfl, hB⟩
      rw [show (listSrc R (stpRefs qs)).items.length = qs.length from List.length_map .., List.take_length] at hB
      refine r_nil ?_
      refine AW.wk hQF hEF ?_
      exact stageB2 O hh hKC hlv hk7 (by rw [edg_len]; exact hql) hru hrb hsD hB
end
structure RA where
  T : Addr
  so : Addr
  sd : Addr
  sD : Addr
  rl : Addr
  W : Addr
  En : Addr
  ep : Nat
  hS : (sD == sysModules) = false
noncomputable abbrev RA.led (r : RA) (ns : List Nd) (gv en wt : List Int) (rest : List (Addr × MO)) : List (Addr × MO) := runLed r.T r.so r.sd r.sD r.rl r.W r.En r.ep ns gv en wt rest
noncomputable def K7r : List Int := [6, 5, 4, 3, 2, 1, 0]
theorem K7_mem {v : Int} : v ∈ K7 ↔ 0 ≤ v ∧ v < 7 := by
  unfold K7
  simp only [List.mem_cons, List.not_mem_nil, or_false]
  omega
theorem K7r_mem {v : Int} : v ∈ K7r ↔ 0 ≤ v ∧ v < 7 := by
  unfold K7r
  simp only [List.mem_cons, List.not_mem_nil, or_false]
  omega
noncomputable abbrev locB (sc nu S Ru Ri : Addr) (nm rw so ea la : Option MV) (T1 T2 : Addr) (na tu ba ot mi le fi se to : Option MV) : Loc :=
  [(Str.ofString "script", some (.ref sc)), (Str.ofString "numbers", some (.ref nu)), (Str.ofString "steps", some (.ref S)), (Str.ofString "runs", some (.ref Ru)), (Str.ofString "ringed", some (.ref Ri)), (Str.ofString "names", nm), (Str.ofString "rows", rw), (Str.ofString "sorter", so), (Str.ofString "name", na), (Str.ofString "early", ea), (Str.ofString "late", la),
   (Str.ofString "one", some (.ref T1)), (Str.ofString "two", some (.ref T2)), (Str.ofString "turn", tu), (Str.ofString "bag", ba), (Str.ofString "other", ot), (Str.ofString "missing", mi), (Str.ofString "left", le), (Str.ofString "first", fi), (Str.ofString "second", se), (Str.ofString "told", to)]
inductive TI (sc nu S Ru Ri : Addr) (nm rw so ea la : Option MV) (r1 r2 : RA) (es : List (Int × Int)) (rest : List (Addr × MO)) (i : Nat) (lo : Loc) (led : List (Addr × MO)) : Prop where
  | mk (na tu ba ot mi le fi se to : Option MV) (ns1 ns2 : List Nd) (gv1 en1 wt1 gv2 en2 wt2 : List Int) (h1 : lo = locB sc nu S Ru Ri nm rw so ea la r1.T r2.T na tu ba ot mi le fi se to)
    (h2 : led = r1.led ns1 gv1 en1 wt1 (r2.led ns2 gv2 en2 wt2 rest)) (h3 : Run K7 es ns1 gv1 en1 wt1) (h4 : Run K7r es.reverse ns2 gv2 en2 wt2) (h5 : i = 4 → wt1 = [] ∧ ∀ v, v ∈ en1 ↔ v ∈ en2)
noncomputable abbrev PostT (sc nu S Ru Ri : Addr) (nm rw so ea la : Option MV) (r1 r2 : RA) (es : List (Int × Int)) (rest : List (Addr × MO)) (it : Addr) (o : MO) (i : Nat) : MF → MS → Prop := fun f σ => f = .next ∧ ∃ led', Take ((it, o) :: led') σ.led ∧ TI sc nu S Ru Ri nm rw so ea la r1 r2 es rest (i + 1) σ.loc led'
theorem mpick_init {α : Type} (xs : List α) (a : α) : mpick (xs ++ [a]) none (some (-1)) none = xs := by
  rw [mpick_plain]
  have e : clipAt (xs ++ [a]).length (-1) = xs.length := by
    unfold clipAt
    rw [List.length_append, if_pos (by decide)]
    show (max 0 (min ((-1 : Int) + ((xs.length + 1 : Nat) : Int)) ((xs.length + 1 : Nat) : Int))).toNat = _
    omega
  show ((xs ++ [a]).drop 0).take (clipAt (xs ++ [a]).length (-1) - 0) = xs
  rw [e, List.drop_zero, Nat.sub_zero, List.take_left]
section
variable {C : Cx} {σ : MS} {E : Value → Shared → Prop}
theorem b_mul {a b : Int} {Q : MV → MS → Prop} (ha : Builtin.Int.intBits a ≤ 64) (h : Q (.int (a * b)) σ) : BIN C .Mult (.int a) (.int b) Q E σ := fun _ _ ⟨_, e1⟩ ⟨_, e2⟩ _ R => by cases e1; cases e2; exact mul_int ⟨_, σ, Is.int _ _, R.toks _, h⟩ (IntMulOk.of_left ha)
end
section
variable {C : Cx} {cells : List (Str × Addr)} {sc nu S Ru Ri it : Addr} {nm rw so ea la : Option MV} {r1 r2 : RA} {rest : List (Addr × MO)} {o : MO} {i : Nat} {ps : List Stp}
  {na tu ba ot mi le fi se to : Option MV} {ns1 ns2 : List Nd} {gv1 en1 wt1 gv2 en2 wt2 : List Int}
theorem stageT5 (O : C.Ok GL lawNm cells) (hh : C.A.handled = none) (hKC : C.K = KK C.w) (hlv : 10 ≤ C.lv) (hpl : ps.length ≤ 8) (hS : Has S (.list (stpRefs ps)) rest) (hst : ∀ q ∈ ps, Has q.a (.tup [.int q.e, .int q.l]) rest)
    (h3 : Run K7 (edg ps) ns1 gv1 en1 wt1) (h4 : Run K7r (edg ps).reverse ns2 gv2 en2 wt2) (h5 : i + 1 = 4 → wt1 = [] ∧ ∀ v, v ∈ en1 ↔ v ∈ en2) :
    EXS C (turnB.drop 10) (PostT sc nu S Ru Ri nm rw so ea la r1 r2 (edg ps) rest it o i) (loopE C (EXC C fun a cls σ' => False)) ⟨locB sc nu S Ru Ri nm rw so ea la r1.T r2.T na tu ba ot mi le fi se to, (it, o) :: r1.led ns1 gv1 en1 wt1 (r2.led ns2 gv2 en2 wt2 rest)⟩ := by
  refine EXS.hide fun QF hQF EF hEF => ?_
  have hw1 := h3.wlen
  have hw2 := h4.wlen
  have he1 := h3.elen
  have he2 := h4.elen
  rw [show K7.length = 7 from rfl] at hw1 he1
  rw [show K7r.length = 7 from rfl] at hw2 he2
  conv => arg 2; whnf
  ((with_reducible refine r_cons ?_); (with_reducible refine r_if ?_); (with_reducible refine t_or ?_); (with_reducible refine t_compare ?_ ?hs); (case hs => exact rfl); (with_reducible refine' r_call_bi (by assumption) ?k1 ?k2 ?_ ?hn); (case k1 => walk_at "has"); (case k2 => walk_at "has"); (case hn => exact rfl); (with_reducible refine p_cons ?_ ?hs); (case hs => exact rfl); (with_reducible refine r_subs ?_); (with_reducible refine' r_local (by assumption) ?k1 ?k2 ?_); (case k1 => walk_at "has"); (case k2 => ((try dsimp only); walk_at "has")); (with_reducible refine r_int ?_))
  refine i_tup (by walk_at "has") (by omega) (by omega) rfl ?_
  (with_reducible refine p_nil ?_)
  refine k_sorted_ints (ns := wt1) (by walk_at "has") (by omega) fun D1 s1 hp1 hs1 => ?_
  skip
  ((with_reducible refine' r_call (by assumption) ?k1 ?k2 ?k3 ?_); (case k1 => walk_at "has"); (case k2 => walk_at "has"); (case k3 => (rw [‹Cx.K _ = _›]; first | exact kp_153 _ | exact kp_160 _ | exact kp_144 _ | exact kp_28 _ | exact kp_165 _ | exact kp_170 _ | exact kp_175 _ | exact kp_182 _ | exact kp_189 _)); refine a_spl ?_ rfl)
  ((with_reducible refine p_cons ?_ ?hs); (case hs => exact rfl); (with_reducible refine' r_local (by assumption) ?k1 ?k2 ?_); (case k1 => walk_at "has"); (case k2 => ((try dsimp only); walk_at "has")); (with_reducible refine p_cons ?_ ?hs); (case hs => exact rfl); (with_reducible refine r_subs ?_); (with_reducible refine' r_local (by assumption) ?k1 ?k2 ?_); (case k1 => walk_at "has"); (case k2 => ((try dsimp only); walk_at "has")); (with_reducible refine r_int ?_))
  refine i_tup (by walk_at "has") (by omega) (by omega) rfl ?_
  (with_reducible refine p_nil ?_)
  refine free_spec O hh hKC (by omega) (ps := ps) (en := en1) (by walk_at "has") (fun q hq => by have := hst q hq; walk_at "has") (by walk_at "has") (by omega) (by omega) fun F1 => ?_
  rw [← h3.free (fun _ => Iff.rfl) (fun _ => Iff.rfl) hp1 hs1]
  refine c_ne_ints O (ns := s1) (ms := s1) (by walk_at "has") (by walk_at "has") ?_
  refine u_bool ?_
  refine if_f (by simp) ?_
  ((with_reducible refine t_compare ?_ ?hs); (case hs => exact rfl); (with_reducible refine' r_call_bi (by assumption) ?k1 ?k2 ?_ ?hn); (case k1 => walk_at "has"); (case k2 => walk_at "has"); (case hn => exact rfl); (with_reducible refine p_cons ?_ ?hs); (case hs => exact rfl); (with_reducible refine r_subs ?_); (with_reducible refine' r_local (by assumption) ?k1 ?k2 ?_); (case k1 => walk_at "has"); (case k2 => ((try dsimp only); walk_at "has")); (with_reducible refine r_int ?_))
  refine i_tup (by walk_at "has") (by omega) (by omega) rfl ?_
  (with_reducible refine p_nil ?_)
  refine k_sorted_ints (ns := wt2) (by walk_at "has") (by omega) fun D2 s2 hp2 hs2 => ?_
  skip
  ((with_reducible refine' r_call (by assumption) ?k1 ?k2 ?k3 ?_); (case k1 => walk_at "has"); (case k2 => walk_at "has"); (case k3 => (rw [‹Cx.K _ = _›]; first | exact kp_153 _ | exact kp_160 _ | exact kp_144 _ | exact kp_28 _ | exact kp_165 _ | exact kp_170 _ | exact kp_175 _ | exact kp_182 _ | exact kp_189 _)); refine a_spl ?_ rfl)
  ((with_reducible refine p_cons ?_ ?hs); (case hs => exact rfl); (with_reducible refine' r_local (by assumption) ?k1 ?k2 ?_); (case k1 => walk_at "has"); (case k2 => ((try dsimp only); walk_at "has")); (with_reducible refine p_cons ?_ ?hs); (case hs => exact rfl); (with_reducible refine r_subs ?_); (with_reducible refine' r_local (by assumption) ?k1 ?k2 ?_); (case k1 => walk_at "has"); (case k2 => ((try dsimp only); walk_at "has")); (with_reducible refine r_int ?_))
  refine i_tup (by walk_at "has") (by omega) (by omega) rfl ?_
  (with_reducible refine p_nil ?_)
  refine free_spec O hh hKC (by omega) (ps := ps) (en := en2) (by walk_at "has") (fun q hq => by have := hst q hq; walk_at "has") (by walk_at "has") (by omega) (by omega) fun F2 => ?_
  rw [← h4.free (fun _ => List.mem_reverse) (fun _ => K7r_mem.trans K7_mem.symm) hp2 hs2]
  refine c_ne_ints O (ns := s2) (ms := s2) (by walk_at "has") (by walk_at "has") ?_
  refine u_bool ?_
  refine if_f (by simp) ?_
  ((with_reducible refine r_nil ?_); (with_reducible refine r_nil ?_))
  refine hQF _ _ ⟨rfl, _, ?_, na, tu, ba, ot, mi, le, fi, se, to, ns1, ns2, gv1, en1, wt1, gv2, en2, wt2, rfl, rfl, h3, h4, h5⟩
  dsimp only
  walk_at "take"
end
section
variable {C : Cx} {cells : List (Str × Addr)} {sc nu S Ru Ri it : Addr} {nm rw so ea la : Option MV} {r1 r2 : RA} {rest : List (Addr × MO)} {o : MO} {i : Nat} {ps : List Stp}
  {na tu ba ot mi le fi se : Option MV} {ns1 ns2 : List Nd} {gv1 en1 wt1 gv2 en2 wt2 : List Int}
theorem stageT4b (O : C.Ok GL lawNm cells) (hh : C.A.handled = none) (hKC : C.K = KK C.w) (hlv : 10 ≤ C.lv) (hpl : ps.length ≤ 8) (hS : Has S (.list (stpRefs ps)) rest) (hst : ∀ q ∈ ps, Has q.a (.tup [.int q.e, .int q.l]) rest)
    (h3 : Run K7 (edg ps) ns1 gv1 (en1 ++ wtF en2 en1) wt1) (h30 : en1.Nodup ∧ Ord (edg ps) en1 ∧ ∀ v ∈ en1, v ∈ K7) (h4 : Run K7r (edg ps).reverse ns2 gv2 en2 wt2) (hw : i + 1 = 4 → wt1 = []) {t c sa : Addr} :
    EXS C (turnB.drop 9) (PostT sc nu S Ru Ri nm rw so ea la r1 r2 (edg ps) rest it o i) (loopE C (EXC C fun a cls σ' => False)) ⟨locB sc nu S Ru Ri nm rw so ea la r1.T r2.T na tu ba ot mi le fi se (some (.ref t)),
      (t, .tup [.ref c, .ref sa]) :: (c, .list ((wtF en1 en2).reverse.map .int)) :: (it, o) :: r1.led ns1 gv1 (en1 ++ wtF en2 en1) wt1 (r2.led ns2 gv2 en2 wt2 rest)⟩ := by
  refine EXS.hide fun QF hQF EF hEF => ?_
  have hel : (edg ps).reverse.length ≤ 8 := by rw [List.length_reverse, edg_len]; exact hpl
  have hl7 : (wtF en1 en2).length ≤ 7 := Nat.le_trans (List.length_filter_le ..) (nodup_len h30.1 h30.2.2)
  conv => arg 2; whnf
  ((with_reducible refine r_cons ?_); (with_reducible refine r_for ?_ ?hs); (case hs => exact fun _ => rfl); (with_reducible refine r_subs ?_); (with_reducible refine r_subs ?_); (with_reducible refine' r_local (by assumption) ?k1 ?k2 ?_); (case k1 => walk_at "has"); (case k2 => ((try dsimp only); walk_at "has")); (with_reducible refine r_int ?_))
  refine i_tup (by walk_at "has") (by omega) (by omega) rfl ?_
  ((with_reducible refine r_slice ?_); (with_reducible refine pt_none ?_); (with_reducible refine pt_none ?_); (with_reducible refine pt_some ?_); (with_reducible refine r_unary ?_); (with_reducible refine r_int ?_); (with_reducible refine una_neg ?_))
  refine ⟨_, rfl, ?_⟩
  intro sl
  skip
  refine i_slice (xs := (wtF en1 en2).reverse.map .int) (by walk_at "has") (by walk_at "has") (by simp) (by rw [List.length_map, List.length_reverse]; omega) fun D => ?_
  rw [mpick_map, mpick_rev, List.reverse_reverse]
  refine f_loop hh (iter_list (xs := (wtF en1 en2).map .int) .head) (fun j lo led => Ex4 fun (na : Option MV) (ns : List Nd) (gv wt : List Int) => All3 (lo = locB sc nu S Ru Ri nm rw so ea la r1.T r2.T na tu ba ot mi le fi se (some (.ref t)))
    (led = (D, .list ((wtF en1 en2).map .int)) :: (sl, .slice none none (some (-1))) :: (t, .tup [.ref c, .ref sa]) :: (c, .list ((wtF en1 en2).reverse.map .int)) :: (it, o) :: r1.led ns1 gv1 (en1 ++ wtF en2 en1) wt1 (r2.led ns gv (en2 ++ (wtF en1 en2).take j) wt rest))
    (Run K7r (edg ps).reverse ns gv (en2 ++ (wtF en1 en2).take j) wt)) ⟨_, ns2, gv2, wt2, rfl, by rw [List.take_zero, List.append_nil], by rw [List.take_zero, List.append_nil]; exact h4⟩ ?_ ?_ ?_
  · rintro j lo led it2 o2 ⟨na, ns, gv, wt, rfl, rfl, hR⟩
    show Has D (MO.list ((wtF en1 en2).map MV.int)) _
    walk_at "has"
  · rintro j y it2 o2 lo led ⟨na, ns, gv, wt, rfl, rfl, hR⟩ hy QQ EE hn _ _ _
    obtain ⟨q, hq, rfl⟩ := get_ints hy
    have hqw := Run.next (es2 := edg ps) (fun e he => List.mem_reverse.mp he) h30.1 h30.2.1 (fun v hv => K7r_mem.mpr (K7_mem.mp (h30.2.2 v hv))) hq hR
    ((with_reducible refine a_name ?_); (with_reducible refine' r_store (by assumption) ?k1 ?k2 ?_); (case k1 => walk_at "has"); (case k2 => ((try dsimp only); walk_at "put")); (try dsimp only); (with_reducible refine r_cons ?_); (with_reducible refine r_expr (by assumption) ?_ ?hs); (case hs => exact rfl))
    ((with_reducible refine' r_call (by assumption) ?k1 ?k2 ?k3 ?_); (case k1 => walk_at "has"); (case k2 => walk_at "has"); (case k3 => (rw [‹Cx.K _ = _›]; first | exact kp_153 _ | exact kp_160 _ | exact kp_144 _ | exact kp_28 _ | exact kp_165 _ | exact kp_170 _ | exact kp_175 _ | exact kp_182 _ | exact kp_189 _)); refine a_spl ?_ rfl)
    ((with_reducible refine p_cons ?_ ?hs); (case hs => exact rfl); (with_reducible refine' r_local (by assumption) ?k1 ?k2 ?_); (case k1 => walk_at "has"); (case k2 => ((try dsimp only); walk_at "has")); (with_reducible refine p_cons ?_ ?hs); (case hs => exact rfl); (with_reducible refine' r_local (by assumption) ?k1 ?k2 ?_); (case k1 => walk_at "has"); (case k2 => ((try dsimp only); walk_at "has")); (with_reducible refine p_nil ?_))
    refine CALLR.pre (l' := r2.led ns gv (en2 ++ (wtF en1 en2).take j) wt ((it2, o2) :: (D, .list ((wtF en1 en2).map .int)) :: (sl, .slice none none (some (-1))) :: (t, .tup [.ref c, .ref sa]) :: (c, .list ((wtF en1 en2).reverse.map .int)) :: (it, o) :: r1.led ns1 gv1 (en1 ++ wtF en2 en1) wt1 rest)) (by walk_at "take") ?_
    refine do_spec O hh hKC (by omega) r2.hS rfl (fun v hv => K7r_mem.mp hv) hel hR hqw fun ns' gv' wt' hR' => ?_
    (with_reducible refine r_nil ?_)
    have e : en2 ++ (wtF en1 en2).take j ++ [q] = en2 ++ (wtF en1 en2).take (j + 1) := by rw [List.take_add_one, hq, List.append_assoc]; rfl
    rw [e] at hR' ⊢
    refine (hn _ ⟨_, ?_, _, ns', gv', wt', rfl, rfl, hR'⟩).1
    dsimp only
    walk_at "take"
  · rintro lo led ⟨na, ns, gv, wt, rfl, rfl, hR⟩
    rw [show (listSrc D ((wtF en1 en2).map MV.int)).items.length = (wtF en1 en2).length from List.length_map .., List.take_length] at *
    refine r_nil ?_
    dsimp only
    refine AW.wk hQF hEF (AW.pre ?_ (stageT5 O hh hKC hlv hpl hS hst h3 hR fun e => ⟨hw e, fun v => ?_⟩))
    · walk_at "take"
    · rw [same_mem, same_mem, or_comm]
end
section
variable {C : Cx} {cells : List (Str × Addr)} {sc nu S Ru Ri it : Addr} {nm rw so ea la : Option MV} {r1 r2 : RA} {rest : List (Addr × MO)} {o : MO} {i : Nat} {ps : List Stp}
  {na tu ba ot mi le fi se to : Option MV} {ns1 ns2 : List Nd} {gv1 en1 wt1 gv2 en2 wt2 : List Int}
theorem stageT4 (O : C.Ok GL lawNm cells) (hh : C.A.handled = none) (hKC : C.K = KK C.w) (hlv : 10 ≤ C.lv) (hpl : ps.length ≤ 8) (hS : Has S (.list (stpRefs ps)) rest) (hst : ∀ q ∈ ps, Has q.a (.tup [.int q.e, .int q.l]) rest)
    (h3 : Run K7 (edg ps) ns1 gv1 en1 wt1) (h4 : Run K7r (edg ps).reverse ns2 gv2 en2 wt2) (hw : i + 1 = 4 → wt1 = []) {t c sa : Addr} :
    EXS C (turnB.drop 8) (PostT sc nu S Ru Ri nm rw so ea la r1 r2 (edg ps) rest it o i) (loopE C (EXC C fun a cls σ' => False)) ⟨locB sc nu S Ru Ri nm rw so ea la r1.T r2.T na tu ba ot mi le fi se (some (.ref t)),
      (t, .tup [.ref c, .ref sa]) :: (c, .list ((wtF en1 en2).reverse.map .int)) :: (sa, .list ((wtF en2 en1 ++ [7]).map .int)) :: (it, o) :: r1.led ns1 gv1 en1 wt1 (r2.led ns2 gv2 en2 wt2 rest)⟩ := by
  refine EXS.hide fun QF hQF EF hEF => ?_
  have hel : (edg ps).length ≤ 8 := by rw [edg_len]; exact hpl
  have hl7 : (wtF en2 en1).length ≤ 7 := Nat.le_trans (List.length_filter_le ..) h4.elen
  conv => arg 2; whnf
  ((with_reducible refine r_cons ?_); (with_reducible refine r_for ?_ ?hs); (case hs => exact fun _ => rfl); (with_reducible refine r_subs ?_); (with_reducible refine r_subs ?_); (with_reducible refine' r_local (by assumption) ?k1 ?k2 ?_); (case k1 => walk_at "has"); (case k2 => ((try dsimp only); walk_at "has")); (with_reducible refine r_int ?_))
  refine i_tup (by walk_at "has") (by omega) (by omega) rfl ?_
  ((with_reducible refine r_slice ?_); (with_reducible refine pt_none ?_); (with_reducible refine pt_some ?_); (with_reducible refine r_unary ?_); (with_reducible refine r_int ?_); (with_reducible refine una_neg ?_))
  refine ⟨_, rfl, ?_⟩
  (with_reducible refine pt_none ?_)
  intro sl
  skip
  refine i_slice (xs := (wtF en2 en1 ++ [7]).map .int) (by walk_at "has") (by walk_at "has") (by simp) (by rw [List.length_map, List.length_append]; show _ + 1 ≤ _; omega) fun D => ?_
  rw [mpick_map, mpick_init]
  refine f_loop hh (iter_list (xs := (wtF en2 en1).map .int) .head) (fun j lo led => Ex4 fun (na : Option MV) (ns : List Nd) (gv wt : List Int) => All4 (lo = locB sc nu S Ru Ri nm rw so ea la r1.T r2.T na tu ba ot mi le fi se (some (.ref t)))
    (led = (D, .list ((wtF en2 en1).map .int)) :: (sl, .slice none (some (-1)) none) :: (t, .tup [.ref c, .ref sa]) :: (c, .list ((wtF en1 en2).reverse.map .int)) :: (sa, .list ((wtF en2 en1 ++ [7]).map .int)) :: (it, o) :: r1.led ns gv (en1 ++ (wtF en2 en1).take j) wt (r2.led ns2 gv2 en2 wt2 rest))
    (Run K7 (edg ps) ns gv (en1 ++ (wtF en2 en1).take j) wt) (wt1 = [] → wt = [])) ⟨_, ns1, gv1, wt1, rfl, by rw [List.take_zero, List.append_nil], by rw [List.take_zero, List.append_nil]; exact h3, id⟩ ?_ ?_ ?_
  · rintro j lo led it2 o2 ⟨na, ns, gv, wt, rfl, rfl, hR, hz⟩
    show Has D (MO.list ((wtF en2 en1).map MV.int)) _
    walk_at "has"
  · rintro j y it2 o2 lo led ⟨na, ns, gv, wt, rfl, rfl, hR, hz⟩ hy QQ EE hn _ _ _
    obtain ⟨q, hq, rfl⟩ := get_ints hy
    have hqw := Run.next (es2 := (edg ps).reverse) (fun e he => List.mem_reverse.mpr he) h4.li.endn h4.ord (fun v hv => K7_mem.mpr (K7r_mem.mp (h4.ende v hv))) hq hR
    ((with_reducible refine a_name ?_); (with_reducible refine' r_store (by assumption) ?k1 ?k2 ?_); (case k1 => walk_at "has"); (case k2 => ((try dsimp only); walk_at "put")); (try dsimp only); (with_reducible refine r_cons ?_); (with_reducible refine r_expr (by assumption) ?_ ?hs); (case hs => exact rfl))
    ((with_reducible refine' r_call (by assumption) ?k1 ?k2 ?k3 ?_); (case k1 => walk_at "has"); (case k2 => walk_at "has"); (case k3 => (rw [‹Cx.K _ = _›]; first | exact kp_153 _ | exact kp_160 _ | exact kp_144 _ | exact kp_28 _ | exact kp_165 _ | exact kp_170 _ | exact kp_175 _ | exact kp_182 _ | exact kp_189 _)); refine a_spl ?_ rfl)
    ((with_reducible refine p_cons ?_ ?hs); (case hs => exact rfl); (with_reducible refine' r_local (by assumption) ?k1 ?k2 ?_); (case k1 => walk_at "has"); (case k2 => ((try dsimp only); walk_at "has")); (with_reducible refine p_cons ?_ ?hs); (case hs => exact rfl); (with_reducible refine' r_local (by assumption) ?k1 ?k2 ?_); (case k1 => walk_at "has"); (case k2 => ((try dsimp only); walk_at "has")); (with_reducible refine p_nil ?_))
    refine CALLR.pre (l' := r1.led ns gv (en1 ++ (wtF en2 en1).take j) wt ((it2, o2) :: (D, .list ((wtF en2 en1).map .int)) :: (sl, .slice none (some (-1)) none) :: (t, .tup [.ref c, .ref sa]) :: (c, .list ((wtF en1 en2).reverse.map .int)) :: (sa, .list ((wtF en2 en1 ++ [7]).map .int)) :: (it, o) :: r2.led ns2 gv2 en2 wt2 rest)) (by walk_at "take") ?_
    refine do_spec O hh hKC (by omega) r1.hS rfl (fun v hv => K7_mem.mp hv) hel hR hqw fun ns' gv' wt' hR' => ?_
    (with_reducible refine r_nil ?_)
    have e : en1 ++ (wtF en2 en1).take j ++ [q] = en1 ++ (wtF en2 en1).take (j + 1) := by rw [List.take_add_one, hq, List.append_assoc]; rfl
    rw [e] at hR' ⊢
    refine (hn _ ⟨_, ?_, _, ns', gv', wt', rfl, rfl, hR', fun e => ?_⟩).1
    · dsimp only
      walk_at "take"
    · rw [hz e] at hqw; cases hqw
  · rintro lo led ⟨na, ns, gv, wt, rfl, rfl, hR, hz⟩
    rw [show (listSrc D ((wtF en2 en1).map MV.int)).items.length = (wtF en2 en1).length from List.length_map .., List.take_length] at *
    refine r_nil ?_
    dsimp only
    refine AW.wk hQF hEF (AW.pre ?_ (stageT4b (c := c) (sa := sa) (t := t) O hh hKC hlv hpl hS hst hR ⟨h3.li.endn, h3.ord, h3.ende⟩ h4 fun e => hz (hw e)))
    walk_at "take"
theorem stageT3 (O : C.Ok GL lawNm cells) (hh : C.A.handled = none) (hKC : C.K = KK C.w) (hlv : 10 ≤ C.lv) (hpl : ps.length ≤ 8) (hS : Has S (.list (stpRefs ps)) rest) (hst : ∀ q ∈ ps, Has q.a (.tup [.int q.e, .int q.l]) rest)
    (h3 : Run K7 (edg ps) ns1 gv1 en1 wt1) (h4 : Run K7r (edg ps).reverse ns2 gv2 en2 wt2) (hw : i + 1 = 4 → wt1 = []) :
    EXS C (turnB.drop 3) (PostT sc nu S Ru Ri nm rw so ea la r1 r2 (edg ps) rest it o i) (loopE C (EXC C fun a cls σ' => False)) ⟨locB sc nu S Ru Ri nm rw so ea la r1.T r2.T na tu ba ot mi le fi se to,
      (it, o) :: r1.led ns1 gv1 en1 wt1 (r2.led ns2 gv2 en2 wt2 rest)⟩ := by
  refine EXS.hide fun QF hQF EF hEF => ?_
  have he1 := h3.elen
  have he2 := h4.elen
  rw [show K7.length = 7 from rfl] at he1
  rw [show K7r.length = 7 from rfl] at he2
  have hl1 : (wtF en2 en1).length ≤ 7 := Nat.le_trans (List.length_filter_le ..) he2
  have hl2 : (wtF en1 en2).length ≤ 7 := Nat.le_trans (List.length_filter_le ..) he1
  have hd1 := due1_all (g := en2) h3.li.endn
  have hd2 := due2_all (g := en1) h4.li.endn
  have hu := uld_due en1 en2
  rw [hd1, hd2] at hu
  conv => arg 2; whnf
  refine r_cons ?_
  refine r_assign_tuple ?_ rfl rfl
  ((with_reducible refine' r_call (by assumption) ?k1 ?k2 ?k3 ?_); (case k1 => walk_at "has"); (case k2 => walk_at "has"); (case k3 => (rw [‹Cx.K _ = _›]; first | exact kp_153 _ | exact kp_160 _ | exact kp_144 _ | exact kp_28 _ | exact kp_165 _ | exact kp_170 _ | exact kp_175 _ | exact kp_182 _ | exact kp_189 _)); refine a_spl ?_ rfl)
  ((with_reducible refine p_cons ?_ ?hs); (case hs => exact rfl); (with_reducible refine r_subs ?_); (with_reducible refine' r_local (by assumption) ?k1 ?k2 ?_); (case k1 => walk_at "has"); (case k2 => ((try dsimp only); walk_at "has")); (with_reducible refine r_int ?_))
  refine i_tup (by walk_at "has") (by omega) (by omega) rfl ?_
  ((with_reducible refine p_cons ?_ ?hs); (case hs => exact rfl); (with_reducible refine r_subs ?_); (with_reducible refine' r_local (by assumption) ?k1 ?k2 ?_); (case k1 => walk_at "has"); (case k2 => ((try dsimp only); walk_at "has")); (with_reducible refine r_int ?_))
  refine i_tup (by walk_at "has") (by omega) (by omega) rfl ?_
  (with_reducible refine p_nil ?_)
  refine due_spec O hh hKC (by omega) (f := en1) (g := en2) (by walk_at "has") (by walk_at "has") (by omega) (by omega) fun t m l => ?_
  rw [hd1, hd2]
  refine a_tuple hh (xs := [Str.ofString "missing", Str.ofString "left"]) (px := [_, _]) rfl rfl .head ?_
  dsimp only [STNS]
  ((with_reducible refine' r_store (by assumption) ?k1 ?k2 ?_); (case k1 => walk_at "has"); (case k2 => ((try dsimp only); walk_at "put")); (try dsimp only); (with_reducible refine' r_store (by assumption) ?k1 ?k2 ?_); (case k1 => walk_at "has"); (case k2 => ((try dsimp only); walk_at "put")); (try dsimp only); (with_reducible refine r_cons ?_))
  refine r_assign_pair O hh (by walk_at "has") (by walk_at "has") (by decide +kernel) rfl rfl rfl rfl ?_
  ((with_reducible refine p_cons ?_ ?hs); (case hs => exact rfl); (with_reducible refine' r_call_ty (by assumption) ?k1 ?k2 ?_ ?hn); (case k1 => walk_at "has"); (case k2 => walk_at "has"); (case hn => exact rfl); (with_reducible refine p_cons ?_ ?hs); (case hs => exact rfl); (with_reducible refine r_subs ?_); (with_reducible refine' r_local (by assumption) ?k1 ?k2 ?_); (case k1 => walk_at "has"); (case k2 => ((try dsimp only); walk_at "has")); (with_reducible refine r_int ?_))
  refine i_tup (by walk_at "has") (by omega) (by omega) rfl ?_
  ((with_reducible refine p_nil ?_); (with_reducible refine' k_list_list ?k1 ?k2 ?_); (case k1 => ((try dsimp only); walk_at "has")); (case k2 => walk_at "len"); intro _; (try dsimp only); (with_reducible refine p_cons ?_ ?hs); (case hs => exact rfl); (with_reducible refine' r_call_ty (by assumption) ?k1 ?k2 ?_ ?hn); (case k1 => walk_at "has"); (case k2 => walk_at "has"); (case hn => exact rfl); (with_reducible refine p_cons ?_ ?hs); (case hs => exact rfl); (with_reducible refine r_subs ?_); (with_reducible refine' r_local (by assumption) ?k1 ?k2 ?_); (case k1 => walk_at "has"); (case k2 => ((try dsimp only); walk_at "has")); (with_reducible refine r_int ?_))
  refine i_tup (by walk_at "has") (by omega) (by omega) rfl ?_
  ((with_reducible refine p_nil ?_); (with_reducible refine' k_list_list ?k1 ?k2 ?_); (case k1 => ((try dsimp only); walk_at "has")); (case k2 => walk_at "len"); intro _; (try dsimp only); (with_reducible refine p_nil ?_))
  refine ⟨_, _, rfl, fun t0 => ?_⟩
  ((with_reducible refine' r_store (by assumption) ?k1 ?k2 ?_); (case k1 => walk_at "has"); (case k2 => ((try dsimp only); walk_at "put")); (try dsimp only); (with_reducible refine' r_store (by assumption) ?k1 ?k2 ?_); (case k1 => walk_at "has"); (case k2 => ((try dsimp only); walk_at "put")); (try dsimp only); (with_reducible refine r_cons ?_); (with_reducible refine r_assign ?_ ?hs); (case hs => exact rfl))
  ((with_reducible refine' r_call (by assumption) ?k1 ?k2 ?k3 ?_); (case k1 => walk_at "has"); (case k2 => walk_at "has"); (case k3 => (rw [‹Cx.K _ = _›]; first | exact kp_153 _ | exact kp_160 _ | exact kp_144 _ | exact kp_28 _ | exact kp_165 _ | exact kp_170 _ | exact kp_175 _ | exact kp_182 _ | exact kp_189 _)); refine a_spl ?_ rfl)
  ((with_reducible refine p_cons ?_ ?hs); (case hs => exact rfl); (with_reducible refine' r_local (by assumption) ?k1 ?k2 ?_); (case k1 => walk_at "has"); (case k2 => ((try dsimp only); walk_at "has")); (with_reducible refine p_cons ?_ ?hs); (case hs => exact rfl); (with_reducible refine' r_local (by assumption) ?k1 ?k2 ?_); (case k1 => walk_at "has"); (case k2 => ((try dsimp only); walk_at "has")); (with_reducible refine p_nil ?_))
  rename_i D1 D2
  refine' CALLR.pre2 (p := (D1, .list (en1.map .int))) (q := (D2, .list (en2.map .int))) ?k1 ?k2 ?_
  case k1 => dsimp only; walk_at "pick"
  case k2 => walk_at "pick"
  refine uld_spec O hh hKC (by omega) (by omega) (by omega) fun c2 t2 => ?_
  rw [hu]
  dsimp only
  ((with_reducible refine' r_store (by assumption) ?k1 ?k2 ?_); (case k1 => walk_at "has"); (case k2 => ((try dsimp only); walk_at "put")); (try dsimp only); (with_reducible refine r_cons ?_); (with_reducible refine r_expr (by assumption) ?_ ?hs); (case hs => exact rfl); (with_reducible refine r_meth PySem.F.plainAttrs_list PySem.F.slot_list_append PySem.F.type_list_append ?_ ?h1 ?h2 ?h3 ?h4); (case h1 => exact rfl); (case h2 => exact rfl); (case h3 => exact rfl); (case h4 => exact rfl); (with_reducible refine' r_local (by assumption) ?k1 ?k2 ?_); (case k1 => walk_at "has"); (case k2 => ((try dsimp only); walk_at "has")); (with_reducible refine' And.intro (OfT.list ?k1) ?_); (case k1 => ((try dsimp only); walk_at "has")); (with_reducible refine p_cons ?_ ?hs); (case hs => exact rfl); (with_reducible refine r_int ?_); (with_reducible refine p_nil ?_); (with_reducible refine' k_append ?k1 ?k2 ?_); (case k1 => ((try dsimp only); walk_at "upd")); (case k2 => walk_at "len"); (try dsimp only); (with_reducible refine r_cons ?_); (with_reducible refine r_if ?_); (with_reducible refine t_or ?_); (with_reducible refine t_compare ?_ ?hs); (case hs => exact rfl); (with_reducible refine' r_local (by assumption) ?k1 ?k2 ?_); (case k1 => walk_at "has"); (case k2 => ((try dsimp only); walk_at "has")); (with_reducible refine r_tuple ?_); (with_reducible refine p_cons ?_ ?hs); (case hs => exact rfl); (with_reducible refine' r_local (by assumption) ?k1 ?k2 ?_); (case k1 => walk_at "has"); (case k2 => ((try dsimp only); walk_at "has")); (with_reducible refine p_cons ?_ ?hs); (case hs => exact rfl); (with_reducible refine r_binop ?_); (with_reducible refine' r_local (by assumption) ?k1 ?k2 ?_); (case k1 => walk_at "has"); (case k2 => ((try dsimp only); walk_at "has")); (with_reducible refine r_list ?_); (with_reducible refine p_cons ?_ ?hs); (case hs => exact rfl); (with_reducible refine r_int ?_); (with_reducible refine p_nil ?_); (with_reducible show _ ≤ 1000000 ∧ _); refine And.intro ?k1 ?_; (case k1 => walk_at "len"); intro _; (try dsimp only); (with_reducible refine' b_add_lists ?k1 ?k2 ?k3 ?_); (case k1 => ((try dsimp only); walk_at "has")); (case k2 => ((try dsimp only); walk_at "has")); (case k3 => walk_at "len"); intro _; (try dsimp only); (with_reducible refine p_nil ?_); (with_reducible show _ ≤ 1000000 ∧ _); refine And.intro ?k1 ?_; (case k1 => walk_at "len"); intro _; (try dsimp only))
  rename_i l5 l6 t6
  have e7 : (wtF en2 en1).map MV.int ++ [MV.int 7] = (wtF en2 en1 ++ [7]).map MV.int := by rw [List.map_append]; rfl
  rw [e7]
  refine c_ne_pairs O (a := t2) (b := t6) (a1 := c2) (a2 := D2) (b1 := m) (b2 := l6) (ns := (wtF en1 en2).reverse) (ms := wtF en2 en1 ++ [7]) (ns' := (wtF en1 en2).reverse) (ms' := wtF en2 en1 ++ [7]) (by walk_at "has") (by walk_at "has") (by walk_at "has") (by walk_at "has") (by walk_at "has") (by walk_at "has") ?_
  refine u_bool ?_
  refine if_f (by simp) ?_
  ((with_reducible refine t_compare ?_ ?hs); (case hs => exact rfl); (with_reducible refine' r_local (by assumption) ?k1 ?k2 ?_); (case k1 => walk_at "has"); (case k2 => ((try dsimp only); walk_at "has")); (with_reducible refine r_list ?_); (with_reducible refine p_nil ?_); (with_reducible show _ ≤ 1000000 ∧ _); refine And.intro ?k1 ?_; (case k1 => walk_at "len"); intro _; (try dsimp only))
  refine c_ne_ints O (ns := []) (ms := []) (by show Has D1 (MO.list []) _; walk_at "has") .head ?_
  refine u_bool ?_
  refine if_f (by simp) ?_
  (with_reducible refine r_nil ?_)
  refine AW.wk hQF hEF (AW.pre ?_ (stageT4 (c := c2) (sa := D2) (t := t2) O hh hKC hlv hpl hS hst h3 h4 hw))
  dsimp only
  walk_at "take"
end
section
variable {C : Cx} {cells : List (Str × Addr)} {sc nu S Ru Ri it : Addr} {nm rw so ea la : Option MV} {r1 r2 : RA} {rest : List (Addr × MO)} {o : MO} {i : Nat} {ps : List Stp}
  {na tu ba ot mi le fi se to : Option MV} {ns1 ns2 : List Nd} {gv1 en1 wt1 gv2 en2 wt2 : List Int}
theorem stageT1 (O : C.Ok GL lawNm cells) (hh : C.A.handled = none) (hKC : C.K = KK C.w) (hlv : 10 ≤ C.lv) (hpl : ps.length ≤ 8) (hS : Has S (.list (stpRefs ps)) rest) (hst : ∀ q ∈ ps, Has q.a (.tup [.int q.e, .int q.l]) rest)
    (h3 : Run K7 (edg ps) ns1 gv1 en1 wt1) (h4 : Run K7r (edg ps).reverse ns2 gv2 en2 wt2) (hw : i + 1 = 4 → wt1 = []) :
    EXS C (turnB.drop 1) (PostT sc nu S Ru Ri nm rw so ea la r1 r2 (edg ps) rest it o i) (loopE C (EXC C fun a cls σ' => False)) ⟨locB sc nu S Ru Ri nm rw so ea la r1.T r2.T na tu ba ot mi le fi se to,
      (it, o) :: r1.led ns1 gv1 en1 wt1 (r2.led ns2 gv2 en2 wt2 rest)⟩ := by
  refine EXS.hide fun QF hQF EF hEF => ?_
  have hk1 := h3.tlen (es' := edg ps)
  have hk2 := h4.tlen (es' := edg ps)
  rw [edg_len] at hk1 hk2
  conv => arg 2; whnf
  refine r_cons ?_
  refine r_assign_pair O hh (by walk_at "has") (by walk_at "has") (by decide +kernel) rfl rfl rfl rfl ?_
  ((with_reducible refine p_cons ?_ ?hs); (case hs => exact rfl))
  ((with_reducible refine' r_call (by assumption) ?k1 ?k2 ?k3 ?_); (case k1 => walk_at "has"); (case k2 => walk_at "has"); (case k3 => (rw [‹Cx.K _ = _›]; first | exact kp_153 _ | exact kp_160 _ | exact kp_144 _ | exact kp_28 _ | exact kp_165 _ | exact kp_170 _ | exact kp_175 _ | exact kp_182 _ | exact kp_189 _)); refine a_spl ?_ rfl)
  ((with_reducible refine p_cons ?_ ?hs); (case hs => exact rfl); (with_reducible refine' r_local (by assumption) ?k1 ?k2 ?_); (case k1 => walk_at "has"); (case k2 => ((try dsimp only); walk_at "has")); (with_reducible refine p_cons ?_ ?hs); (case hs => exact rfl); (with_reducible refine r_subs ?_); (with_reducible refine' r_local (by assumption) ?k1 ?k2 ?_); (case k1 => walk_at "has"); (case k2 => ((try dsimp only); walk_at "has")); (with_reducible refine r_int ?_))
  refine i_tup (by walk_at "has") (by omega) (by omega) rfl ?_
  (with_reducible refine p_nil ?_)
  refine tokens_spec O hh hKC (by omega) (ps := ps) (en := en1) (by walk_at "has") (fun q hq => by have := hst q hq; walk_at "has") (by walk_at "has") (by omega) (by omega) fun B1 => ?_
  ((with_reducible refine p_cons ?_ ?hs); (case hs => exact rfl))
  ((with_reducible refine' r_call (by assumption) ?k1 ?k2 ?k3 ?_); (case k1 => walk_at "has"); (case k2 => walk_at "has"); (case k3 => (rw [‹Cx.K _ = _›]; first | exact kp_153 _ | exact kp_160 _ | exact kp_144 _ | exact kp_28 _ | exact kp_165 _ | exact kp_170 _ | exact kp_175 _ | exact kp_182 _ | exact kp_189 _)); refine a_spl ?_ rfl)
  ((with_reducible refine p_cons ?_ ?hs); (case hs => exact rfl); (with_reducible refine' r_local (by assumption) ?k1 ?k2 ?_); (case k1 => walk_at "has"); (case k2 => ((try dsimp only); walk_at "has")); (with_reducible refine p_cons ?_ ?hs); (case hs => exact rfl); (with_reducible refine r_subs ?_); (with_reducible refine' r_local (by assumption) ?k1 ?k2 ?_); (case k1 => walk_at "has"); (case k2 => ((try dsimp only); walk_at "has")); (with_reducible refine r_int ?_))
  refine i_tup (by walk_at "has") (by omega) (by omega) rfl ?_
  (with_reducible refine p_nil ?_)
  refine tokens_spec O hh hKC (by omega) (ps := ps) (en := en2) (by walk_at "has") (fun q hq => by have := hst q hq; walk_at "has") (by walk_at "has") (by omega) (by omega) fun B2 => ?_
  generalize en1.flatMap (sus (edg ps)) = k1 at *
  generalize en2.flatMap (sus (edg ps)) = k2 at *
  (with_reducible refine p_nil ?_)
  refine ⟨_, _, rfl, fun t0 => ?_⟩
  ((with_reducible refine' r_store (by assumption) ?k1 ?k2 ?_); (case k1 => walk_at "has"); (case k2 => ((try dsimp only); walk_at "put")); (try dsimp only); (with_reducible refine' r_store (by assumption) ?k1 ?k2 ?_); (case k1 => walk_at "has"); (case k2 => ((try dsimp only); walk_at "put")); (try dsimp only); (with_reducible refine r_cons ?_); (with_reducible refine r_if ?_); (with_reducible refine t_compare ?_ ?hs); (case hs => exact rfl))
  ((with_reducible refine' r_call (by assumption) ?k1 ?k2 ?k3 ?_); (case k1 => walk_at "has"); (case k2 => walk_at "has"); (case k3 => (rw [‹Cx.K _ = _›]; first | exact kp_153 _ | exact kp_160 _ | exact kp_144 _ | exact kp_28 _ | exact kp_165 _ | exact kp_170 _ | exact kp_175 _ | exact kp_182 _ | exact kp_189 _)); refine a_spl ?_ rfl)
  ((with_reducible refine p_cons ?_ ?hs); (case hs => exact rfl); (with_reducible refine' r_call_ty (by assumption) ?k1 ?k2 ?_ ?hn); (case k1 => walk_at "has"); (case k2 => walk_at "has"); (case hn => exact rfl); (with_reducible refine p_cons ?_ ?hs); (case hs => exact rfl); (with_reducible refine' r_local (by assumption) ?k1 ?k2 ?_); (case k1 => walk_at "has"); (case k2 => ((try dsimp only); walk_at "has")); (with_reducible refine p_nil ?_); (with_reducible refine' k_list_list ?k1 ?k2 ?_); (case k1 => ((try dsimp only); walk_at "has")); (case k2 => walk_at "len"); intro _; (try dsimp only); (with_reducible refine p_cons ?_ ?hs); (case hs => exact rfl); (with_reducible refine' r_call_ty (by assumption) ?k1 ?k2 ?_ ?hn); (case k1 => walk_at "has"); (case k2 => walk_at "has"); (case hn => exact rfl); (with_reducible refine p_cons ?_ ?hs); (case hs => exact rfl); (with_reducible refine' r_local (by assumption) ?k1 ?k2 ?_); (case k1 => walk_at "has"); (case k2 => ((try dsimp only); walk_at "has")); (with_reducible refine p_nil ?_); (with_reducible refine' k_list_list ?k1 ?k2 ?_); (case k1 => ((try dsimp only); walk_at "has")); (case k2 => walk_at "len"); intro _; (try dsimp only); (with_reducible refine p_nil ?_))
  rename_i D1 D2
  refine' CALLR.pre2 (p := (D1, .list (k1.map .int))) (q := (D2, .list (k2.map .int))) ?k1 ?k2 ?_
  case k1 => dsimp only; walk_at "pick"
  case k2 => walk_at "pick"
  refine uld_spec O hh hKC (by omega) (by omega) (by omega) fun c2 t2 => ?_
  rw [uld_due]
  dsimp only
  skip
  ((with_reducible refine' r_call (by assumption) ?k1 ?k2 ?k3 ?_); (case k1 => walk_at "has"); (case k2 => walk_at "has"); (case k3 => (rw [‹Cx.K _ = _›]; first | exact kp_153 _ | exact kp_160 _ | exact kp_144 _ | exact kp_28 _ | exact kp_165 _ | exact kp_170 _ | exact kp_175 _ | exact kp_182 _ | exact kp_189 _)); refine a_spl ?_ rfl)
  ((with_reducible refine p_cons ?_ ?hs); (case hs => exact rfl); (with_reducible refine' r_local (by assumption) ?k1 ?k2 ?_); (case k1 => walk_at "has"); (case k2 => ((try dsimp only); walk_at "has")); (with_reducible refine p_cons ?_ ?hs); (case hs => exact rfl); (with_reducible refine' r_local (by assumption) ?k1 ?k2 ?_); (case k1 => walk_at "has"); (case k2 => ((try dsimp only); walk_at "has")); (with_reducible refine p_nil ?_))
  refine due_spec O hh hKC (by omega) (f := k1) (g := k2) (by walk_at "has") (by walk_at "has") (by omega) (by omega) fun t m l => ?_
  refine c_ne_pairs O (a := t2) (b := t) (a1 := c2) (a2 := D2) (b1 := m) (b2 := l) (ns := (due1To k1 k2 k1.length).reverse) (ms := due2To k2 k1 k2.length) (ns' := (due1To k1 k2 k1.length).reverse) (ms' := due2To k2 k1 k2.length) (by walk_at "has") .head (by walk_at "has") (by walk_at "has") (by walk_at "has") (by walk_at "has") ?_
  refine u_bool ?_
  refine if_f (by simp) ?_
  (with_reducible refine r_nil ?_)
  refine AW.wk hQF hEF (AW.pre ?_ (stageT3 O hh hKC hlv hpl hS hst h3 h4 hw))
  dsimp only
  walk_at "take"
theorem stageT (O : C.Ok GL lawNm cells) (hh : C.A.handled = none) (hKC : C.K = KK C.w) (hlv : 10 ≤ C.lv) (hpl : ps.length ≤ 8) {xs : List Int} (hxl : xs.length = 8) (hnu : Has nu (.list (xs.map .int)) rest) (hS : Has S (.list (stpRefs ps)) rest) (hst : ∀ q ∈ ps, Has q.a (.tup [.int q.e, .int q.l]) rest)
    (h3 : Run K7 (edg ps) ns1 gv1 en1 wt1) (h4 : Run K7r (edg ps).reverse ns2 gv2 en2 wt2) (hi : i < 4) :
    EXS C turnB (PostT sc nu S Ru Ri nm rw so ea la r1 r2 (edg ps) rest it o i) (loopE C (EXC C fun a cls σ' => False)) ⟨locB sc nu S Ru Ri nm rw so ea la r1.T r2.T na (some (.int i)) ba ot mi le fi se to,
      (it, o) :: r1.led ns1 gv1 en1 wt1 (r2.led ns2 gv2 en2 wt2 rest)⟩ := by
  refine EXS.hide fun QF hQF EF hEF => ?_
  have hel : (edg ps).length ≤ 8 := by rw [edg_len]; exact hpl
  have hel2 : (edg ps).reverse.length ≤ 8 := by rw [List.length_reverse]; exact hel
  conv => arg 2; whnf
  ((with_reducible refine r_cons ?_); (with_reducible refine r_if ?_); (with_reducible refine t_compare ?_ ?hs); (case hs => exact rfl); (with_reducible refine' r_local (by assumption) ?k1 ?k2 ?_); (case k1 => walk_at "has"); (case k2 => ((try dsimp only); walk_at "has")); (with_reducible refine r_int ?_); (with_reducible refine c_lt ?_); (with_reducible refine u_bool ?_))
  by_cases h3i : i < 3
  · refine if_t (by simp only [decide_eq_true_eq]; omega) ?_
    have g0 : (xs.map MV.int)[((2 : Int) * (i : Int)).toNat]? = some (.int xs[2 * i]) := by
      rw [show ((2 : Int) * (i : Int)).toNat = 2 * i by omega, List.getElem?_map, List.getElem?_eq_getElem (by omega)]; rfl
    have g1 : (xs.map MV.int)[((2 : Int) * (i : Int) + 1).toNat]? = some (.int xs[2 * i + 1]) := by
      rw [show ((2 : Int) * (i : Int) + 1).toNat = 2 * i + 1 by omega, List.getElem?_map, List.getElem?_eq_getElem (by omega)]; rfl
    generalize xs[2 * i] = x0 at *
    generalize xs[2 * i + 1] = x1 at *
    ((with_reducible refine r_cons ?_); (with_reducible refine r_expr (by assumption) ?_ ?hs); (case hs => exact rfl))
    ((with_reducible refine' r_call (by assumption) ?k1 ?k2 ?k3 ?_); (case k1 => walk_at "has"); (case k2 => walk_at "has"); (case k3 => (rw [‹Cx.K _ = _›]; first | exact kp_153 _ | exact kp_160 _ | exact kp_144 _ | exact kp_28 _ | exact kp_165 _ | exact kp_170 _ | exact kp_175 _ | exact kp_182 _ | exact kp_189 _)); refine a_spl ?_ rfl)
    ((with_reducible refine p_cons ?_ ?hs); (case hs => exact rfl); (with_reducible refine' r_local (by assumption) ?k1 ?k2 ?_); (case k1 => walk_at "has"); (case k2 => ((try dsimp only); walk_at "has")); (with_reducible refine p_cons ?_ ?hs); (case hs => exact rfl); (with_reducible refine r_binop ?_); (with_reducible refine r_binop ?_); (with_reducible refine r_subs ?_); (with_reducible refine' r_local (by assumption) ?k1 ?k2 ?_); (case k1 => walk_at "has"); (case k2 => ((try dsimp only); walk_at "has")); (with_reducible refine r_binop ?_); (with_reducible refine r_int ?_); (with_reducible refine' r_local (by assumption) ?k1 ?k2 ?_); (case k1 => walk_at "has"); (case k2 => ((try dsimp only); walk_at "has")))
    refine b_mul (by decide) ?_
    refine i_list (by walk_at "has") (by omega) (by omega) g0 ?_
    ((with_reducible refine r_int ?_); (with_reducible refine b_fdiv ?k1 ?k2 ?_); (case k1 => decide); (case k2 => decide); (with_reducible refine r_int ?_); (with_reducible refine b_mod ?k1 ?_); (case k1 => decide); (with_reducible refine p_cons ?_ ?hs); (case hs => exact rfl); (with_reducible refine r_binop ?_); (with_reducible refine r_subs ?_); (with_reducible refine' r_local (by assumption) ?k1 ?k2 ?_); (case k1 => walk_at "has"); (case k2 => ((try dsimp only); walk_at "has")); (with_reducible refine r_binop ?_); (with_reducible refine r_int ?_); (with_reducible refine' r_local (by assumption) ?k1 ?k2 ?_); (case k1 => walk_at "has"); (case k2 => ((try dsimp only); walk_at "has")))
    refine b_mul (by decide) ?_
    refine i_list (by walk_at "has") (by omega) (by omega) g0 ?_
    ((with_reducible refine r_int ?_); (with_reducible refine b_fdiv ?k1 ?k2 ?_); (case k1 => decide); (case k2 => decide); (with_reducible refine p_nil ?_))
    refine CALLR.pre (l' := r1.led ns1 gv1 en1 wt1 ((it, o) :: r2.led ns2 gv2 en2 wt2 rest)) (by walk_at "take") ?_
    refine work_spec O hh hKC (by omega) r1.hS rfl (fun v hv => K7_mem.mp hv) hel h3 (Int.fmod_nonneg_of_pos _ (by decide)) (by have := Int.fmod_lt_of_pos (x0.fdiv 294) (b := 4) (by decide); omega) fun ns1 gv1 en1 wt1 h3 _ => ?_
    ((with_reducible refine r_cons ?_); (with_reducible refine r_expr (by assumption) ?_ ?hs); (case hs => exact rfl))
    ((with_reducible refine' r_call (by assumption) ?k1 ?k2 ?k3 ?_); (case k1 => walk_at "has"); (case k2 => walk_at "has"); (case k3 => (rw [‹Cx.K _ = _›]; first | exact kp_153 _ | exact kp_160 _ | exact kp_144 _ | exact kp_28 _ | exact kp_165 _ | exact kp_170 _ | exact kp_175 _ | exact kp_182 _ | exact kp_189 _)); refine a_spl ?_ rfl)
    ((with_reducible refine p_cons ?_ ?hs); (case hs => exact rfl); (with_reducible refine' r_local (by assumption) ?k1 ?k2 ?_); (case k1 => walk_at "has"); (case k2 => ((try dsimp only); walk_at "has")); (with_reducible refine p_cons ?_ ?hs); (case hs => exact rfl); (with_reducible refine r_binop ?_); (with_reducible refine r_binop ?_); (with_reducible refine r_subs ?_); (with_reducible refine' r_local (by assumption) ?k1 ?k2 ?_); (case k1 => walk_at "has"); (case k2 => ((try dsimp only); walk_at "has")); (with_reducible refine r_binop ?_); (with_reducible refine r_binop ?_); (with_reducible refine r_int ?_); (with_reducible refine' r_local (by assumption) ?k1 ?k2 ?_); (case k1 => walk_at "has"); (case k2 => ((try dsimp only); walk_at "has")))
    refine b_mul (by decide) ?_
    ((with_reducible refine r_int ?_); (with_reducible refine b_add ?_))
    refine i_list (by walk_at "has") (by omega) (by omega) g1 ?_
    ((with_reducible refine r_int ?_); (with_reducible refine b_fdiv ?k1 ?k2 ?_); (case k1 => decide); (case k2 => decide); (with_reducible refine r_int ?_); (with_reducible refine b_mod ?k1 ?_); (case k1 => decide); (with_reducible refine p_cons ?_ ?hs); (case hs => exact rfl); (with_reducible refine r_binop ?_); (with_reducible refine r_subs ?_); (with_reducible refine' r_local (by assumption) ?k1 ?k2 ?_); (case k1 => walk_at "has"); (case k2 => ((try dsimp only); walk_at "has")); (with_reducible refine r_binop ?_); (with_reducible refine r_binop ?_); (with_reducible refine r_int ?_); (with_reducible refine' r_local (by assumption) ?k1 ?k2 ?_); (case k1 => walk_at "has"); (case k2 => ((try dsimp only); walk_at "has")))
    refine b_mul (by decide) ?_
    ((with_reducible refine r_int ?_); (with_reducible refine b_add ?_))
    refine i_list (by walk_at "has") (by omega) (by omega) g1 ?_
    ((with_reducible refine r_int ?_); (with_reducible refine b_fdiv ?k1 ?k2 ?_); (case k1 => decide); (case k2 => decide); (with_reducible refine p_nil ?_))
    refine CALLR.pre (l' := r2.led ns2 gv2 en2 wt2 ((it, o) :: r1.led ns1 gv1 en1 wt1 rest)) (by walk_at "take") ?_
    refine work_spec O hh hKC (by omega) r2.hS rfl (fun v hv => K7r_mem.mp hv) hel2 h4 (Int.fmod_nonneg_of_pos _ (by decide)) (by have := Int.fmod_lt_of_pos (x1.fdiv 294) (b := 4) (by decide); omega) fun ns2 gv2 en2 wt2 h4 _ => ?_
    refine r_nil ?_
    refine AW.wk hQF hEF (AW.pre ?_ (stageT1 O hh hKC hlv hpl hS hst h3 h4 fun e => absurd e (by omega)))
    dsimp only
    walk_at "take"
  · refine if_f (by simp only [decide_eq_true_eq]; omega) ?_
    ((with_reducible refine r_cons ?_); (with_reducible refine r_expr (by assumption) ?_ ?hs); (case hs => exact rfl))
    ((with_reducible refine' r_call (by assumption) ?k1 ?k2 ?k3 ?_); (case k1 => walk_at "has"); (case k2 => walk_at "has"); (case k3 => (rw [‹Cx.K _ = _›]; first | exact kp_153 _ | exact kp_160 _ | exact kp_144 _ | exact kp_28 _ | exact kp_165 _ | exact kp_170 _ | exact kp_175 _ | exact kp_182 _ | exact kp_189 _)); refine a_spl ?_ rfl)
    ((with_reducible refine p_cons ?_ ?hs); (case hs => exact rfl); (with_reducible refine' r_local (by assumption) ?k1 ?k2 ?_); (case k1 => walk_at "has"); (case k2 => ((try dsimp only); walk_at "has")); (with_reducible refine p_cons ?_ ?hs); (case hs => exact rfl); (with_reducible refine r_int ?_); (with_reducible refine p_cons ?_ ?hs); (case hs => exact rfl); (with_reducible refine r_int ?_); (with_reducible refine p_nil ?_))
    refine CALLR.pre (l' := r1.led ns1 gv1 en1 wt1 ((it, o) :: r2.led ns2 gv2 en2 wt2 rest)) (by walk_at "take") ?_
    refine work_spec O hh hKC (by omega) r1.hS rfl (fun v hv => K7_mem.mp hv) hel h3 (by decide) (by decide) fun ns1 gv1 en1' wt1 h3 hw => ?_
    refine r_nil ?_
    refine AW.wk hQF hEF (AW.pre ?_ (stageT1 O hh hKC hlv hpl hS hst h3 h4 fun _ => hw.elim id fun e => h3.full ?_))
    · dsimp only
      walk_at "take"
    · show 7 ≤ _
      have : (7 : Int).toNat = 7 := rfl
      omega
end
section
variable {C : Cx} {σ : MS} {E : Value → Shared → Prop}
theorem k_range3 {a b c : Int} {Q : MV → MS → Prop} (hc : c ≠ 0) (hp : Builtin.divisionGoesByPylong (b - a) c = false) (h : ∀ x, Q (.ref x) ⟨σ.loc, (x, .range a b c) :: σ.led⟩) : CALLT C "range" [.int a, .int b, .int c] Q E σ := fun vs' ia s R => by
  obtain ⟨v, w, x, rfl, ⟨t, rfl⟩, ⟨u, rfl⟩, ⟨y, rfl⟩⟩ := ia.three
  refine call_range_3 hc ?_ (.inl hp)
  have R' := R.alloc (o := { cls := .type "range", data := .fields #[.int a t, .int b u, .int c y] }) (.range a b c) ⟨_, _, _, rfl⟩ rfl
  exact ⟨_, _, Is.ref _, R'.toks _, h _⟩
theorem FORL.pre {target : PySem.Expr} {v : MV} {body orelse : List Stmt} {Q : MF → MS → Prop} {l' : List (Addr × MO)} (t : Take l' σ.led) (h : FORL C target v body orelse Q E ⟨σ.loc, l'⟩) : FORL C target v body orelse Q E σ := fun x i s R => h x i s (R.take t)
end
theorem eqv_two (a b : Bool) : PyData.eqv (.list [.bool a, .bool b]) (.list [.bool a, .bool b]) = true := by cases a <;> cases b <;> decide +kernel
theorem shaped_two (a b : Bool) : SeqAt.shaped (.list [.bool a, .bool b]) = true := by cases a <;> cases b <;> decide +kernel
section
variable {C : Cx} {cells : List (Str × Addr)} {sc nu S Ru Ri : Addr} {nm rw so na ea la : Option MV} {r1 r2 : RA} {rest : List (Addr × MO)} {ps : List Stp}
  {ns1 ns2 : List Nd} {gv1 gv2 : List Int} {rb1 rb2 : Bool}
theorem stageL (O : C.Ok GL lawNm cells) (hh : C.A.handled = none) (hKC : C.K = KK C.w) (hlv : 10 ≤ C.lv) (hpl : ps.length ≤ 8) {xs : List Int} (hxl : xs.length = 8) (hnu : Has nu (.list (xs.map .int)) rest) (hS : Has S (.list (stpRefs ps)) rest) (hst : ∀ q ∈ ps, Has q.a (.tup [.int q.e, .int q.l]) rest)
    (h3 : Run K7 (edg ps) ns1 gv1 [] gv1) (h4 : Run K7r (edg ps).reverse ns2 gv2 [] gv2) (g3 : RingsE K7 rb1 (edg ps)) (g4 : RingsE K7r rb2 (edg ps).reverse) :
    EXS C (lawB.drop 5) (fun fl σ' => retOf fl = .bool true) (EXC C fun a cls σ' => False) ⟨locA sc nu S Ru Ri nm rw so na ea la, r2.led ns2 gv2 [] gv2 ((Ru, .list [.ref r1.T, .ref r2.T]) :: (Ri, .list [.bool rb1, .bool rb2]) :: r1.led ns1 gv1 [] gv1 rest)⟩ := by
  conv => arg 2; whnf
  refine AW.hideQ fun QF hQF => ?_
  refine r_cons ?_
  refine r_assign_tuple ?_ rfl rfl
  ((with_reducible refine' r_local (by assumption) ?k1 ?k2 ?_); (case k1 => walk_at "has"); (case k2 => ((try dsimp only); walk_at "has")))
  refine a_list hh (xs := [Str.ofString "one", Str.ofString "two"]) (px := [_, _]) rfl rfl (by walk_at "has") ?_
  dsimp only [STNS]
  ((with_reducible refine' r_store (by assumption) ?k1 ?k2 ?_); (case k1 => walk_at "has"); (case k2 => ((try dsimp only); walk_at "put")); (try dsimp only); (with_reducible refine' r_store (by assumption) ?k1 ?k2 ?_); (case k1 => walk_at "has"); (case k2 => ((try dsimp only); walk_at "put")); (try dsimp only); (with_reducible refine r_cons ?_); (with_reducible refine r_for ?_ ?hs); (case hs => exact fun _ => rfl); (with_reducible refine' r_call_ty (by assumption) ?k1 ?k2 ?_ ?hn); (case k1 => walk_at "has"); (case k2 => walk_at "has"); (case hn => exact rfl); (with_reducible refine p_cons ?_ ?hs); (case hs => exact rfl); (with_reducible refine r_int ?_); (with_reducible refine p_nil ?_); (with_reducible refine k_range1 ?_); intro _; (try dsimp only))
  rename_i rg
  refine FORL.pre (l' := r1.led ns1 gv1 [] gv1 (r2.led ns2 gv2 [] gv2 ((rg, .range 0 4 1) :: (Ri, .list [.bool rb1, .bool rb2]) :: rest))) (by walk_at "take") ?_
  refine f_loop hh (iter_range 4 (a := 0) (b := 4) (c := 1) (by walk_at "has") (by decide +kernel) (by decide +kernel)) (TI sc nu S Ru Ri nm rw so ea la r1 r2 (edg ps) ((rg, .range 0 4 1) :: (Ri, .list [.bool rb1, .bool rb2]) :: rest)) ⟨na, none, none, none, none, none, none, none, none, ns1, ns2, gv1, [], gv1, gv2, [], gv2, rfl, rfl, h3, h4, fun e => absurd e (by decide)⟩ (fun _ _ _ _ _ _ => trivial) ?_ ?_
  · rintro i y it o lo led ⟨na, tu, ba, ot, mi, le, fi, se, to, ns1, ns2, gv1, en1, wt1, gv2, en2, wt2, rfl, rfl, h3, h4, h5⟩ hy QQ EE hn _ _ hE
    obtain ⟨hi, rfl⟩ := range_get01 hy
    refine a_name ?_
    refine' r_store O ?k1 ?k2 ?_
    case k1 => walk_at "has"
    case k2 => dsimp only; walk_at "put"
    dsimp only
    refine' AW.wk ?q hE ?h
    case h => exact stageT (xs := xs) O hh hKC hlv hpl hxl (.tail (.tail hnu)) (.tail (.tail hS)) (fun q hq => .tail (.tail (hst q hq))) h3 h4 hi
    case q =>
      rintro f σ' ⟨rfl, led', ht, hH⟩
      exact (hn _ ⟨led', ht, hH⟩).1
  · rintro lo led ⟨na, tu, ba, ot, mi, le, fi, se, to, ns1, ns2, gv1, en1, wt1, gv2, en2, wt2, rfl, rfl, h3, h4, h5⟩
    rw [show (rangeSrc 0 1 4).items.length = 4 from rangeL_len 0 1 4] at h5
    obtain ⟨hw, hm⟩ := h5 rfl
    have hw2 := h3.congr h4 (fun _ => List.mem_reverse.symm) (fun _ => K7_mem.trans K7r_mem.symm) hm hw
    have e1 := h3.ringed hw g3
    have e2 := h4.ringed hw2 g4
    have hlen : en2.length = en1.length := Nat.le_antisymm (nodup_len h4.li.endn fun v hv => (hm v).mpr hv) (nodup_len h3.li.endn fun v hv => (hm v).mp hv)
    rw [hlen] at e2
    have e1' : rb1 = decide ((en1.length : Int) < 7) := e1
    have e2' : rb2 = decide ((en1.length : Int) < 7) := e2
    have hel := h3.elen
    rw [show K7.length = 7 from rfl] at hel
    ((with_reducible refine r_nil ?_); (with_reducible refine r_cons ?_); (with_reducible refine r_return ?_); (with_reducible refine r_compare ?_ ?hs); (case hs => exact rfl); (with_reducible refine' r_local (by assumption) ?k1 ?k2 ?_); (case k1 => walk_at "has"); (case k2 => ((try dsimp only); walk_at "has")); (with_reducible refine r_list ?_); (with_reducible refine p_cons ?_ ?hs); (case hs => exact rfl); (with_reducible refine r_compare ?_ ?hs); (case hs => exact rfl); (with_reducible refine' r_call_bi (by assumption) ?k1 ?k2 ?_ ?hn); (case k1 => walk_at "has"); (case k2 => walk_at "has"); (case hn => exact rfl); (with_reducible refine p_cons ?_ ?hs); (case hs => exact rfl); (with_reducible refine r_subs ?_); (with_reducible refine' r_local (by assumption) ?k1 ?k2 ?_); (case k1 => walk_at "has"); (case k2 => ((try dsimp only); walk_at "has")); (with_reducible refine r_int ?_))
    refine i_tup (by walk_at "has") (by omega) (by omega) rfl ?_
    ((with_reducible refine p_nil ?_); (with_reducible refine' k_len_list ?k1 ?k2 ?_); (case k1 => ((try dsimp only); walk_at "has")); (case k2 => walk_at "len"); (with_reducible refine r_int ?_); (with_reducible refine c_lt ?_); (with_reducible refine p_cons ?_ ?hs); (case hs => exact rfl); (with_reducible refine r_compare ?_ ?hs); (case hs => exact rfl); (with_reducible refine' r_call_bi (by assumption) ?k1 ?k2 ?_ ?hn); (case k1 => walk_at "has"); (case k2 => walk_at "has"); (case hn => exact rfl); (with_reducible refine p_cons ?_ ?hs); (case hs => exact rfl); (with_reducible refine r_subs ?_); (with_reducible refine' r_local (by assumption) ?k1 ?k2 ?_); (case k1 => walk_at "has"); (case k2 => ((try dsimp only); walk_at "has")); (with_reducible refine r_int ?_))
    refine i_tup (by walk_at "has") (by omega) (by omega) rfl ?_
    ((with_reducible refine p_nil ?_); (with_reducible refine' k_len_list ?k1 ?k2 ?_); (case k1 => ((try dsimp only); walk_at "has")); (case k2 => walk_at "len"); (with_reducible refine r_int ?_); (with_reducible refine c_lt ?_); (with_reducible refine p_nil ?_); (with_reducible show _ ≤ 1000000 ∧ _); refine And.intro ?k1 ?_; (case k1 => walk_at "len"); intro _; (try dsimp only))
    rename_i D
    rw [List.length_map]
    rw [← e1']
    rw [e2', ← e1']
    refine c_eqd O (da := .list [.bool rb1, .bool rb1]) (db := .list [.bool rb1, .bool rb1]) (.list (xs := [.bool rb1, .bool rb1]) (by walk_at "has") (MReads.bools _ [rb1, rb1])) (.list (xs := [.bool rb1, .bool rb1]) (by walk_at "has") (MReads.bools _ [rb1, rb1])) (shaped_two _ _) (shaped_two _ _) ?_
    rw [eqv_two]
    exact hQF _ _ rfl
end
inductive FI (sc nu S Ru Ri : Addr) (rest : List (Addr × MO)) (es : List (Int × Int)) (i : Nat) (lo : Loc) (led : List (Addr × MO)) : Prop where
  | zero (h0 : i = 0) (h1 : lo = locA sc nu S Ru Ri none none none none none none) (h2 : led = (Ru, .list []) :: (Ri, .list []) :: rest)
  | one (nm rw so na ea la : Option MV) (r1 : RA) (ns1 : List Nd) (gv1 : List Int) (rb1 : Bool) (h0 : i = 1) (h1 : lo = locA sc nu S Ru Ri nm rw so na ea la)
    (h2 : led = r1.led ns1 gv1 [] gv1 ((Ru, .list [.ref r1.T]) :: (Ri, .list [.bool rb1]) :: rest)) (h3 : Run K7 es ns1 gv1 [] gv1) (g3 : RingsE K7 rb1 es)
  | two (nm rw so na ea la : Option MV) (r1 r2 : RA) (ns1 ns2 : List Nd) (gv1 gv2 : List Int) (rb1 rb2 : Bool) (h0 : i = 2) (h1 : lo = locA sc nu S Ru Ri nm rw so na ea la)
    (h2 : led = r2.led ns2 gv2 [] gv2 ((Ru, .list [.ref r1.T, .ref r2.T]) :: (Ri, .list [.bool rb1, .bool rb2]) :: r1.led ns1 gv1 [] gv1 rest)) (h3 : Run K7 es ns1 gv1 [] gv1) (g3 : RingsE K7 rb1 es) (h4 : Run K7r es.reverse ns2 gv2 [] gv2) (g4 : RingsE K7r rb2 es.reverse)
theorem edg_rev (ps : List Stp) : edg ps.reverse = (edg ps).reverse := List.map_reverse
section
variable {C : Cx} {cells : List (Str × Addr)} {sc nu S Ru Ri : Addr} {rest : List (Addr × MO)} {ps : List Stp}
theorem stageF (O : C.Ok GL lawNm cells) (hh : C.A.handled = none) (hKC : C.K = KK C.w) (hlv : 10 ≤ C.lv) (hpl : ps.length ≤ 8) (hps : ∀ p ∈ ps, Stp.Ok p) {xs : List Int} (hxl : xs.length = 8) (hnu : Has nu (.list (xs.map .int)) rest) (hS : Has S (.list (stpRefs ps)) rest) (hst : ∀ q ∈ ps, Has q.a (.tup [.int q.e, .int q.l]) rest) :
    EXS C (lawB.drop 4) (fun fl σ' => retOf fl = .bool true) (EXC C fun a cls σ' => False) ⟨locA sc nu S Ru Ri none none none none none none, (Ri, .list []) :: (Ru, .list []) :: rest⟩ := by
  conv => arg 2; whnf
  refine AW.hideQ fun QF hQF => ?_
  ((with_reducible refine r_cons ?_); (with_reducible refine r_for ?_ ?hs); (case hs => exact fun _ => rfl); (with_reducible refine r_list ?_); (with_reducible refine p_cons ?_ ?hs); (case hs => exact rfl); (with_reducible refine r_tuple ?_); (with_reducible refine p_cons ?_ ?hs); (case hs => exact rfl); (with_reducible refine' r_call_ty (by assumption) ?k1 ?k2 ?_ ?hn); (case k1 => walk_at "has"); (case k2 => walk_at "has"); (case hn => exact rfl); (with_reducible refine p_cons ?_ ?hs); (case hs => exact rfl); (with_reducible refine r_int ?_); (with_reducible refine p_nil ?_); (with_reducible refine k_range1 ?_); intro _; (try dsimp only); (with_reducible refine p_cons ?_ ?hs); (case hs => exact rfl); (with_reducible refine' r_local (by assumption) ?k1 ?k2 ?_); (case k1 => walk_at "has"); (case k2 => ((try dsimp only); walk_at "has")); (with_reducible refine p_nil ?_); (with_reducible show _ ≤ 1000000 ∧ _); refine And.intro ?k1 ?_; (case k1 => walk_at "len"); intro _; (try dsimp only); (with_reducible refine p_cons ?_ ?hs); (case hs => exact rfl); (with_reducible refine r_tuple ?_); (with_reducible refine p_cons ?_ ?hs); (case hs => exact rfl); (with_reducible refine' r_call_ty (by assumption) ?k1 ?k2 ?_ ?hn); (case k1 => walk_at "has"); (case k2 => walk_at "has"); (case hn => exact rfl); (with_reducible refine p_cons ?_ ?hs); (case hs => exact rfl); (with_reducible refine r_int ?_); (with_reducible refine p_cons ?_ ?hs); (case hs => exact rfl); (with_reducible refine r_unary ?_); (with_reducible refine r_int ?_); (with_reducible refine una_neg ?_); (with_reducible refine p_cons ?_ ?hs); (case hs => exact rfl); (with_reducible refine r_unary ?_); (with_reducible refine r_int ?_); (with_reducible refine una_neg ?_); (with_reducible refine p_nil ?_))
  refine k_range3 (a := 6) (b := -1) (c := -1) (by decide) (by decide +kernel) fun rg2 => ?_
  ((with_reducible refine p_cons ?_ ?hs); (case hs => exact rfl); (with_reducible refine r_subs ?_); (with_reducible refine' r_local (by assumption) ?k1 ?k2 ?_); (case k1 => walk_at "has"); (case k2 => ((try dsimp only); walk_at "has")); (with_reducible refine r_slice ?_); (with_reducible refine pt_none ?_); (with_reducible refine pt_none ?_); (with_reducible refine pt_some ?_); (with_reducible refine r_unary ?_); (with_reducible refine r_int ?_); (with_reducible refine una_neg ?_))
  refine ⟨_, rfl, ?_⟩
  intro sl
  skip
  refine i_slice (xs := stpRefs ps) (by walk_at "has") (by walk_at "has") (by simp) (by rw [List.length_map]; omega) fun R2 => ?_
  rw [mpick_rev, ← List.map_reverse]
  ((with_reducible refine p_nil ?_); (with_reducible show _ ≤ 1000000 ∧ _); refine And.intro ?k1 ?_; (case k1 => walk_at "len"); intro _; (try dsimp only); (with_reducible refine p_nil ?_); (with_reducible show _ ≤ 1000000 ∧ _); refine And.intro ?k1 ?_; (case k1 => walk_at "len"); intro _; (try dsimp only))
  rename_i rg1 t1 t2 Lst
  obtain ⟨rest1, hr1⟩ : ∃ rest1 : List (Addr × MO), rest1 = (Lst, MO.list [.ref t1, .ref t2]) :: (t2, .tup [.ref rg2, .ref R2]) :: (R2, .list (stpRefs ps.reverse)) :: (rg2, .range 6 (-1) (-1)) :: (t1, .tup [.ref rg1, .ref S]) :: (rg1, .range 0 7 1) :: rest := ⟨_, rfl⟩
  have q1 : Has Lst (MO.list [.ref t1, .ref t2]) rest1 := by rw [hr1]; walk_at "has"
  have q2 : Has t1 (MO.tup [.ref rg1, .ref S]) rest1 := by rw [hr1]; walk_at "has"
  have q3 : Has t2 (MO.tup [.ref rg2, .ref R2]) rest1 := by rw [hr1]; walk_at "has"
  have q4 : Has rg1 (MO.range 0 7 1) rest1 := by rw [hr1]; walk_at "has"
  have q5 : Has rg2 (MO.range 6 (-1) (-1)) rest1 := by rw [hr1]; walk_at "has"
  have q6 : Has S (MO.list (stpRefs ps)) rest1 := by rw [hr1]; walk_at "has"
  have q7 : Has R2 (MO.list (stpRefs ps.reverse)) rest1 := by rw [hr1]; walk_at "has"
  have q8 : Has nu (MO.list (xs.map .int)) rest1 := by rw [hr1]; walk_at "has"
  have q9 : ∀ q ∈ ps, Has q.a (MO.tup [.int q.e, .int q.l]) rest1 := fun q hq => by have := hst q hq; rw [hr1]; walk_at "has"
  refine FORL.pre (l' := (Ru, .list []) :: (Ri, .list []) :: rest1) (by rw [hr1]; dsimp only; walk_at "take") ?_
  clear hr1
  refine f_loop hh (iter_list (xs := [.ref t1, .ref t2]) (.tail (.tail q1))) (FI sc nu S Ru Ri rest1 (edg ps)) (.zero rfl rfl rfl) ?_ ?_ ?_
  · intro i lo led it o hI
    show Has Lst (MO.list [.ref t1, .ref t2]) _
    cases hI with
    | zero h0 h1 h2 => rw [h2]; walk_at "has"
    | one nm rw_ so na ea la r1 ns1 gv1 rb1 h0 h1 h2 h3 g3 => rw [h2]; walk_at "has"
    | two nm rw_ so na ea la r1 r2 ns1 ns2 gv1 gv2 rb1 rb2 h0 h1 h2 h3 g3 h4 g4 => rw [h2]; walk_at "has"
  · intro i y it o lo led hI hy QQ EE hn _ _ hE
    cases hI with
    | zero h0 h1 h2 =>
      subst h0 h1 h2
      have hy : some (MV.ref t1) = some y := hy
      cases hy
      refine a_tuple hh (xs := [Str.ofString "names", Str.ofString "rows"]) (px := [_, _]) rfl rfl (.tail (.tail (.tail q2))) ?_
      dsimp only [STNS]
      refine' r_store O ?k1 ?k2 ?_
      case k1 => walk_at "has"
      case k2 => dsimp only; walk_at "put"
      refine' r_store O ?k3 ?k4 ?_
      case k3 => walk_at "has"
      case k4 => dsimp only; walk_at "put"
      dsimp only
      refine AW.pre (l' := (Ru, .list []) :: (Ri, .list (([] : List Bool).map .bool)) :: (it, o) :: rest1) (by dsimp only [List.map]; walk_at "take") ?_
      refine AW.wk (fun _ _ h => h) hE (AW.post (stageB1 (rus := []) (rbs := []) (K := K7) O hh hKC hlv rfl (by decide) (fun _ => K7_mem) hpl hps (by simp) (by simp) (.tail q4) (by decide +kernel) (by decide +kernel) (by decide) (.tail q6) (fun q hq => .tail (q9 q hq))) ?_)
      rintro f ⟨lo, led⟩ ⟨rfl, so, na, ea, la, hlo, ⟨T, so', sd, sD, rl, W, En, ep, ns, gv, rb, hS', ht, hR, hE'⟩⟩
      dsimp only at hlo ht
      subst hlo
      refine ⟨_, ht, (hn _ ⟨_, ?_, .one _ _ so na ea la ⟨T, so', sd, sD, rl, W, En, ep, hS'⟩ ns gv rb rfl rfl rfl hR hE'⟩).1⟩
      dsimp only [RA.led, List.map, List.append, List.nil_append, List.cons_append]
      walk_at "take"
    | one nm rw_ so na ea la r1 ns1 gv1 rb1 h0 h1 h2 h3 g3 =>
      subst h0 h1 h2
      have hy : some (MV.ref t2) = some y := hy
      cases hy
      refine a_tuple hh (xs := [Str.ofString "names", Str.ofString "rows"]) (px := [_, _]) rfl rfl (by walk_at "has") ?_
      dsimp only [STNS]
      refine' r_store O ?k1 ?k2 ?_
      case k1 => walk_at "has"
      case k2 => dsimp only; walk_at "put"
      refine' r_store O ?k3 ?k4 ?_
      case k3 => walk_at "has"
      case k4 => dsimp only; walk_at "put"
      dsimp only
      refine AW.pre (l' := (Ru, .list [.ref r1.T]) :: (Ri, .list ([rb1].map .bool)) :: (it, o) :: r1.led ns1 gv1 [] gv1 rest1) (by dsimp only [List.map]; walk_at "take") ?_
      refine AW.wk (fun _ _ h => h) hE (AW.post (stageB1 (rus := [.ref r1.T]) (rbs := [rb1]) (K := K7r) (qs := ps.reverse) O hh hKC hlv rfl (by decide) (fun _ => K7r_mem) (by rw [List.length_reverse]; exact hpl) (fun q hq => hps q (List.mem_reverse.mp hq)) (by simp) (by simp) (rg := rg2) (a := 6) (b := -1) (c := -1) (by walk_at "has") (by decide +kernel) (by decide +kernel) (by decide) (R := R2) (by walk_at "has") (fun q hq => by have := q9 q (List.mem_reverse.mp hq); walk_at "has")) ?_)
      rintro f ⟨lo, led⟩ ⟨rfl, so, na, ea, la, hlo, ⟨T, so', sd, sD, rl, W, En, ep, ns, gv, rb, hS', ht, hR, hE'⟩⟩
      dsimp only at hlo ht
      subst hlo
      rw [edg_rev] at hR hE'
      refine ⟨_, ht, (hn _ ⟨_, ?_, .two _ _ so na ea la r1 ⟨T, so', sd, sD, rl, W, En, ep, hS'⟩ ns1 ns gv1 gv rb1 rb rfl rfl rfl h3 g3 hR hE'⟩).1⟩
      dsimp only [RA.led, List.map, List.append, List.nil_append, List.cons_append]
      walk_at "take"
    | two nm rw_ so na ea la r1 r2 ns1 ns2 gv1 gv2 rb1 rb2 h0 h1 h2 h3 g3 h4 g4 =>
      subst h0
      have hy : (none : Option MV) = some y := hy
      cases hy
  · intro lo led hI
    cases hI with
    | zero h0 h1 h2 => exact absurd h0 (by show ¬ (2 : Nat) = 0; decide)
    | one nm rw_ so na ea la r1 ns1 gv1 rb1 h0 h1 h2 h3 g3 => exact absurd h0 (by show ¬ (2 : Nat) = 1; decide)
    | two nm rw_ so na ea la r1 r2 ns1 ns2 gv1 gv2 rb1 rb2 h0 h1 h2 h3 g3 h4 g4 =>
      subst h1 h2
      refine r_nil ?_
      dsimp only
      exact AW.wk hQF (fun _ _ h => h) (stageL O hh hKC hlv hpl hxl q8 q6 q9 h3 h4 g3 g4)
end
noncomputable def es3 (w : World) : Array DictEntry := match (KK w).lookup 3 with | some o => (match o.data with | .dict es _ => es | _ => #[]) | none => #[]
noncomputable def tokOf : Option Value → Tok
  | some (.int _ t) => t
  | _ => 0
theorem es3_at (w : World) : ∃ o ep, (KK w).lookup 3 = some o ∧ o.data = .dict (es3 w) ep := ⟨_, _, rfl, rfl⟩
theorem mg_of {w : World} {h : Heap} {mg : Str → Option Value} (hK : (KK w).In h) (hg : h.Ns mainGlobals mg) (x : Str) : mg x = nsFind (es3 w) x := by
  obtain ⟨o, ep, e1, e2⟩ := es3_at w
  obtain ⟨o', es, ep', h1, h2, _, h3⟩ := hg
  have := hK _ _ e1
  rw [show (3 : Addr) = mainGlobals from rfl, h1] at this
  cases this
  rw [h2] at e2
  cases e2
  exact (h3 x).symm
theorem glob2 {w : World} {h : Heap} {mg mb : Str → Option Value} (hK : (KK w).In h) (hg : h.Ns mainGlobals mg) (hb : h.Ns builtinsNs mb) (hbb : ∀ x : Str, x ≠ "__name__" → mb x = bootBuiltins x) :
    ∃ mg mb, h.Ns mainGlobals mg ∧ h.Ns builtinsNs mb ∧ ∀ p ∈ GL, ∃ v, Is v p.2 ∧ (mg p.1 = some v ∨ (mg p.1 = none ∧ mb p.1 = some v)) := by
  refine ⟨mg, mb, hg, hb, ?_⟩
  have key : ∀ (x : Str) (m : MV) (t : Tok), nsFind (es3 w) x = some (m.val t) → ∃ v, Is v m ∧ (mg x = some v ∨ (mg x = none ∧ mb x = some v)) := fun x m t e => ⟨_, ⟨t, rfl⟩, .inl ((mg_of hK hg x).trans e)⟩
  have keyb : ∀ (x : Str) (m : MV), nsFind (es3 w) x = none → x ≠ "__name__" → bootBuiltins x = some (m.val 0) → ∃ v, Is v m ∧ (mg x = some v ∨ (mg x = none ∧ mb x = some v)) := fun x m e hn eb => ⟨_, ⟨0, rfl⟩, .inr ⟨(mg_of hK hg x).trans e, (hbb x hn).trans eb⟩⟩
  intro p hp
  simp only [List.mem_cons, List.not_mem_nil, or_false] at hp
  rcases hp with rfl | rfl | rfl | rfl | rfl | rfl | rfl | rfl | rfl | rfl | rfl | rfl | rfl | rfl | rfl | rfl | rfl | rfl | rfl | rfl | rfl | rfl | rfl | rfl | rfl | rfl
  · exact key _ _ 0 (by kernel_rfl)
  · exact key _ _ (tokOf (nsFind (es3 w) "_NODE_OUT")) (by kernel_rfl)
  · exact key _ _ (tokOf (nsFind (es3 w) "_NODE_DONE")) (by kernel_rfl)
  · exact key _ _ 0 (by kernel_rfl)
  · exact key _ _ 0 (by kernel_rfl)
  · exact key _ _ 0 (by kernel_rfl)
  · exact key _ _ 0 (by kernel_rfl)
  · exact key _ _ 0 (by kernel_rfl)
  · exact key _ _ 0 (by kernel_rfl)
  · exact key _ _ 0 (by kernel_rfl)
  · exact key _ _ 0 (by kernel_rfl)
  · exact key _ _ 0 (by kernel_rfl)
  · exact key _ _ 0 (by kernel_rfl)
  all_goals exact keyb _ _ (by kernel_rfl) (by decide +kernel) (by kernel_rfl)
theorem well_ints {P : Params} {h : Heap} : ∀ {ns : List Int} {vs : List Value}, WellAll P h vs (ns.map .int) → Are vs (ns.map .int)
  | [], vs, w => by cases w; exact .nil
  | n :: ns, vs, w => by
    cases w with
    | cons a b => cases a; exact .cons ⟨_, rfl⟩ (well_ints b)
theorem args_of {R : WRecords} {P : Params} {h : Heap} {args : List WData} {vals : List Value} (hs : WShape.hasAll R args [.list .int] = true) (hw : WellAll P h vals args) :
    ∃ (sc : Addr) (ns : List Int), vals = [.ref sc] ∧ args = [.list (ns.map .int)] ∧ ∃ ob, h.get? sc = some ob ∧ (MO.list (ns.map .int)).ok ob := by
  obtain ⟨d, r, rfl, h1, h2⟩ := hasAllW_cons hs
  cases hasAllW_nil h2
  obtain ⟨xs, rfl, h3⟩ := hasW_list h1
  obtain ⟨ns, rfl⟩ := items_int h3
  cases hw with
  | cons r1 r2 =>
    cases r2
    cases r1 with
    | list e1 e2 => exact ⟨_, ns, rfl, rfl, _, e1, _, 0, well_ints e2, rfl⟩
theorem pre_len {ns : List Int} (h : (PySem.Challenge.rw_mg0048_02.row.toRowW.pre).holds PySem.Challenge.rw_mg0048_02.row.toRowW.records { args := [.list (ns.map .int)] } = true) : ns.length ≤ 63 := by
  have : (OpenLaw.pre PySem.Challenge.rw_mg0048_02).holds [] { args := [.list (ns.map .int)] } = true := h
  unfold OpenLaw.pre at this
  simp only [PySem.Challenge.rw_mg0048_02] at this
  unfold WTm.holds at this
  simp [WTm.value] at this
  have e : less? (WData.int 63) (WData.int (ns.length : Int)) = some (decide ((63 : Int) < ns.length)) := rfl
  rw [e] at this
  by_cases h63 : (63 : Int) < ns.length
  · rw [decide_eq_true h63] at this
    simp at this
  · omega
theorem post2 (ns : List Int) : PySem.Challenge.rw_mg0048_02.row.claim.post [WData.list (ns.map WData.int)] (WData.bool true) [WData.list (ns.map WData.int)] = true := by
  simp [RowW.claim, OpenLaw.row, PySem.Challenge.rw_mg0048_02, WTm.holds, WTm.value, WShape.has, WShape.arms]
  decide +kernel
theorem law2_link : PySem.Challenge.rw_mg0048_02.Holds := by
  refine hd fun w s₀ s₁ mg mb G Y a o pm cd doc dV kV h1 h2 h3 h4 h5 hgens args vals as hpre hlay hrd hwell hlow => ?_
  have hK : (KK w).In s₁.heap := kIn_of Y
  obtain ⟨hs, hp⟩ := pre_splitW hpre
  obtain ⟨sc, ns, rfl, rfl, hsc⟩ := args_of hs hwell
  have hlen := pre_len hp
  have ha : a = 196 := by
    have e : nsFind (es3 w) (Str.ofString "law") = some (.ref 196) := by kernel_rfl
    have e2 := (mg_of hK G.T.g (Str.ofString "law")).trans e
    have h5' : mg (Str.ofString "law") = some (.ref a) := h5
    rw [h5'] at e2
    cases e2; rfl
  subst ha
  have good : ∀ s', (∀ b o, s₁.heap.get? b = some o → s'.heap.get? b = some o) → s'.gens = #[] → s'.os = s₁.os → GoodWG PySem.Challenge.rw_mg0048_02.row.claim (classAt s₀.heap) (ExcName.means s₀.heap) [WData.list (List.map WData.int ns)] s₁ (Except.ok (Flow.ret (.bool true))) s' := fun s' k g ho =>
    ⟨.inl ⟨.bool true, .bool true, [], rfl, fun cls => rfl, .bool true, post2 ns, fun _ => ⟨.nil, fun _ h => (nomatch h)⟩⟩, .of_keep k, ho, .of_eq g⟩
  refine wpAny_call (codeAny_mono (law_enter (Q := fun v => v = .bool true) (vs := [.ref sc]) (args := [.ref sc]) hK G.T.nolimit (glob2 hK G.T.g G.T.b G.T.builtins) hgens (.cons (Is.ref sc) .nil) (ps := [Str.ofString "script"])
    (more := [Str.ofString "numbers", Str.ofString "steps", Str.ofString "runs", Str.ofString "ringed", Str.ofString "names", Str.ofString "rows", Str.ofString "sorter", Str.ofString "name", Str.ofString "early", Str.ofString "late", Str.ofString "one", Str.ofString "two", Str.ofString "turn", Str.ofString "bag", Str.ofString "other", Str.ofString "missing", Str.ofString "left", Str.ofString "first", Str.ofString "second", Str.ofString "told"])
    (morec := [])
    (by exact rfl) (by exact rfl) (BindsTo.of_eq rfl) (.loc (by decide +kernel) .nil) (by decide +kernel) (by decide +kernel) (by decide +kernel) (by decide +kernel) rfl rfl rfl ?_) ?_)
  · intro C as hal O hp' hw hKC hlv hh hb
    obtain rfl : as = [] := by
      match as, hal with
      | [], _ => rfl
    have hsc' : ∃ ob, C.hb.get? sc = some ob ∧ (MO.list (ns.map .int)).ok ob := by rw [hb]; exact hsc
    rw [← hw] at hKC
    clear good hp hs hpre hlay hrd hwell hlow h1 h2 h3 h4 h5 hgens hsc hb hw hp' hal hK Y G
    dsimp only [cellLed, cellTab, List.map, List.append, List.nil_append, List.cons_append, List.append_nil] at O ⊢
    ((with_reducible refine r_cons ?_); (with_reducible refine r_assign ?_ ?hs); (case hs => exact rfl))
    ((with_reducible refine' r_call (by assumption) ?k1 ?k2 ?k3 ?_); (case k1 => walk_at "has"); (case k2 => walk_at "has"); (case k3 => (rw [‹Cx.K _ = _›]; first | exact kp_153 _ | exact kp_160 _ | exact kp_144 _ | exact kp_28 _ | exact kp_165 _ | exact kp_170 _ | exact kp_175 _ | exact kp_182 _ | exact kp_189 _)); refine a_spl ?_ rfl)
    ((with_reducible refine p_cons ?_ ?hs); (case hs => exact rfl); (with_reducible refine' r_local (by assumption) ?k1 ?k2 ?_); (case k1 => walk_at "has"); (case k2 => ((try dsimp only); walk_at "has")); (with_reducible refine p_nil ?_))
    refine numbers2 O hh hKC (by omega) hsc' (by omega) fun nu xs hx8 hxb => ?_
    ((with_reducible refine' r_store (by assumption) ?k1 ?k2 ?_); (case k1 => walk_at "has"); (case k2 => ((try dsimp only); walk_at "put")); (try dsimp only); (with_reducible refine r_cons ?_); (with_reducible refine r_assign ?_ ?hs); (case hs => exact rfl))
    ((with_reducible refine' r_call (by assumption) ?k1 ?k2 ?k3 ?_); (case k1 => walk_at "has"); (case k2 => walk_at "has"); (case k3 => (rw [‹Cx.K _ = _›]; first | exact kp_153 _ | exact kp_160 _ | exact kp_144 _ | exact kp_28 _ | exact kp_165 _ | exact kp_170 _ | exact kp_175 _ | exact kp_182 _ | exact kp_189 _)); refine a_spl ?_ rfl)
    ((with_reducible refine p_cons ?_ ?hs); (case hs => exact rfl); (with_reducible refine' r_local (by assumption) ?k1 ?k2 ?_); (case k1 => walk_at "has"); (case k2 => ((try dsimp only); walk_at "has")); (with_reducible refine p_nil ?_))
    refine steps2 O hh hKC (by omega) (by omega) fun S ps hpl hps => ?_
    ((with_reducible refine' r_store (by assumption) ?k1 ?k2 ?_); (case k1 => walk_at "has"); (case k2 => ((try dsimp only); walk_at "put")); (try dsimp only))
    refine r_cons ?_
    refine r_assign ?_ rfl
    refine r_list ?_
    refine p_nil ?_
    refine ⟨by decide, fun Ru => ?_⟩
    refine' r_store O ?a1 ?a2 ?_
    case a1 => walk_at "has"
    case a2 => dsimp only; walk_at "put"
    dsimp only
    refine r_cons ?_
    refine r_assign ?_ rfl
    refine r_list ?_
    refine p_nil ?_
    refine ⟨by decide, fun Ri => ?_⟩
    refine' r_store O ?a3 ?a4 ?_
    case a3 => walk_at "has"
    case a4 => dsimp only; walk_at "put"
    dsimp only
    exact stageF (xs := xs) O hh hKC (by omega) (by omega) hps hx8 (by walk_at "has") .head (fun q hq => by have := has_stp hq; walk_at "has")
  · rintro r s' ⟨v, b, rfl, i, rfl, k, g, ho⟩
    cases i.of_bool
    exact good s' k g ho
end Mine
theorem PySem.Challenge.cw_mg0048_02_holds : PySem.Challenge.rw_mg0048_02.Holds := by
  exact Mine.law2_link
