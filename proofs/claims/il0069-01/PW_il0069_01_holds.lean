import PyProof.Rows.All
import Wide.All
import OpenK.AllK
import Wide.FinOn
import PySem.Challenge.RW_il0069_01
open PySem PySem.W PyProof.Rows PySem.Calls
set_option Elab.async false
set_option maxRecDepth 100000
set_option maxHeartbeats 8000000
set_option linter.all false
namespace Mine
/-! ## Hd -/
section
/-- the statements of the top that are kept for the view: all but those that store __name__ -/
def keep : List Nat := [0, 1, 3, 4, 5, 6, 8, 10, 12, 13, 15, 17, 19, 20, 21, 22, 23, 25, 26, 27, 28, 29, 30, 31, 32, 33, 34, 35, 36, 37, 38, 39, 40, 41, 42, 43, 44, 45, 46, 48, 49, 50, 51]
def vw : Program := PySem.W.view PySem.Challenge.pw_il0069_01 keep
def tw (l : List (Int × Nat)) : WData := .tuple (l.map fun p => .tuple [.int p.1, .str ⟨#[p.2]⟩])
def lv : List (Str × WData) := [(Str.ofString "_filemode_table", .tuple ([[(40960, 108), (49152, 115), (32768, 45), (24576, 98), (16384, 100), (8192, 99), (4096, 112)], [(256, 114)], [(128, 119)], [(2112, 115), (2048, 83), (64, 120)], [(32, 114)], [(16, 119)],
  [(1032, 115), (1024, 83), (8, 120)], [(4, 114)], [(2, 119)], [(513, 116), (512, 84), (1, 120)]].map tw))]
def lo : List Str := [Str.ofString "_twin_re_1", Str.ofString "_twin_re_2", Str.ofString "_filemode_table"]

/-! The library's quick twins of its own functions, by name, and their equations. -/
noncomputable abbrev qStepT := @PySem.W.Fast.tw10156331382660048174
noncomputable abbrev qDenote := @PySem.W.Fast.tw11892475500146522536
noncomputable abbrev qTable := @PySem.W.Fast.tw14364793385576792824
noncomputable abbrev qStepOk := @PySem.W.Fast.tw6613529449190102663
noncomputable abbrev qStart := @PySem.W.Fast.tw1435165496053646825
noncomputable abbrev qFence := @PySem.W.Fast.tw14289696077712309145
noncomputable abbrev qOpenSeen := @PySem.W.Fast.tw4187177175401517315
theorem eStepT : @stepT = qStepT := PySem.W.Fast.te10156331382660048174
theorem eDenote : @PySem.denote = qDenote := PySem.W.Fast.te11892475500146522536
theorem eTable : @treeTable = qTable := PySem.W.Fast.te14364793385576792824
theorem eStepOk : @stepOk = qStepOk := PySem.W.Fast.te6613529449190102663
theorem eStart : @PySem.start = qStart := PySem.W.Fast.te1435165496053646825
theorem eFence : @fenceModules? = qFence := PySem.W.Fast.te14289696077712309145
theorem eOpenSeen : @openSeen = qOpenSeen := PySem.W.Fast.te4187177175401517315

/-! The top's run over a heap that stands as a tree. -/
noncomputable def topRunQ (p : Program) (w : World) (n₀ : Nat) (ann : Option Value) : Nat → SharedT → Thread → Option SharedT
  | 0, _, _ => none
  | n + 1, s, t => match through t with
    | true => some s
    | false => match qStepOk n₀ ann t with
      | false => none
      | true => match qStepT (qDenote qTable) p w s t with
        | some (s', t') => topRunQ p w n₀ ann n s' t'
        | none => none
noncomputable def importEndsQ (p : Program) (w : World) : Nat → SharedT → Thread → Option SharedT
  | 0, _, _ => none
  | n + 1, s, t => match t.atExitBegin with
    | some [] => some s
    | some (_ :: _) => none
    | none => match qStepT (qDenote qTable) p w s t with
      | some (s', t') => importEndsQ p w n s' t'
      | none => none
noncomputable def treeOf : List Obj → Nat → BT → Option BT
  | [], _, t => some t
  | o :: r, n, t => match ((t.ins n o).get n).isSome with
    | true => treeOf r (n + 1) (t.ins n o)
    | false => none
noncomputable def toT (s : Shared) : Option SharedT := (treeOf s.heap.objs.toList 0 .nil).map fun t => ⟨t, s.heap.objs.toList.length, s.heap.life, s.gens, s.drawn, s.toks, s.os⟩
noncomputable def sT (p : Program) : SharedT := ⟨.nil, 0, (qStart p).1.heap.life, (qStart p).1.gens, (qStart p).1.drawn, (qStart p).1.toks, (qStart p).1.os⟩
noncomputable def topQ (p : Program) (w : World) (N : Nat) (s : Shared) : Option Shared := match s.heap.isNs mainGlobals && s.gens.size == 0 with
  | true => (toT s).bind fun T => (topRunQ p w s.heap.objs.size (s.heap.nsMap mainGlobals "__annotations__") N T (topStub p)).bind fun s₁ =>
    match staticsOk (importedModules p.main.body) s.heap s₁.abs.heap && namesBound p s₁.abs.heap && gensDone s₁.abs && laidKept s.heap s₁.abs.heap with
    | true => some s₁.abs
    | false => none
  | false => none
noncomputable def endsQ (p : Program) (w : World) (N : Nat) : Option Shared :=
  ((importEndsQ (opening p) w N (sT (opening p)) (qStart (opening p)).2).bind fun e => qFence p e.abs).bind (topQ p w N)

theorem topRunQ_of {p : Program} {w : World} {n₀ : Nat} {ann : Option Value} : ∀ {n : Nat} {s s' : SharedT} {t : Thread}, topRunQ p w n₀ ann n s t = some s' → topRun treeTable p w n₀ ann n s.abs t = some s'.abs
  | 0, _, _, _, h => by cases h
  | n + 1, s, s', t, h => by
    replace h : (match through t with | true => some s | false => match qStepOk n₀ ann t with | false => none | true => match qStepT (qDenote qTable) p w s t with | some (s', t') => topRunQ p w n₀ ann n s' t' | none => none) = some s' := h
    show (match through t with | true => some s.abs | false => match stepOk n₀ ann t with | false => none | true => match step (denote treeTable) p w s.abs t with | .go s' t' => topRun treeTable p w n₀ ann n s' t' | .halt _ _ => none) = _
    rw [← eStepOk, ← eStepT, ← eDenote, ← eTable] at h
    cases he : through t with
    | true => rw [he] at h; cases h; rfl
    | false =>
      rw [he] at h
      cases hk : stepOk n₀ ann t with
      | false => rw [hk] at h; cases h
      | true =>
        rw [hk] at h
        cases hs : stepT (denote treeTable) p w s t with
        | none => rw [hs] at h; cases h
        | some r => obtain ⟨s₂, t₂⟩ := r; rw [hs] at h; rw [stepT_spec hs]; exact topRunQ_of h
theorem importEndsQ_of {p : Program} {w : World} : ∀ {n : Nat} {s s' : SharedT} {t : Thread}, importEndsQ p w n s t = some s' → importEnds treeTable p w n s.abs t = some s'.abs
  | 0, _, _, _, h => by cases h
  | n + 1, s, s', t, h => by
    replace h : (match t.atExitBegin with | some [] => some s | some (_ :: _) => none | none => match qStepT (qDenote qTable) p w s t with | some (s', t') => importEndsQ p w n s' t' | none => none) = some s' := h
    show (match t.atExitBegin with | some [] => some s.abs | some (_ :: _) => none | none => match step (denote treeTable) p w s.abs t with | .go s' t' => importEnds treeTable p w n s' t' | .halt _ _ => none) = _
    rw [← eStepT, ← eDenote, ← eTable] at h
    cases he : t.atExitBegin with
    | some l => rw [he] at h; cases l <;> first | (cases h; rfl) | cases h
    | none =>
      rw [he] at h
      cases hs : stepT (denote treeTable) p w s t with
      | none => rw [hs] at h; cases h
      | some r => obtain ⟨s₂, t₂⟩ := r; rw [hs] at h; rw [stepT_spec hs]; exact importEndsQ_of h
theorem treeOf_of {life : Life} : ∀ (r : List Obj) (n : Nat) (t T : BT), treeOf r n t = some T → (absHeap T (n + r.length) life).objs.toList = (absHeap t n life).objs.toList ++ r
  | [], n, t, T, h => by
    cases h
    exact (List.append_nil _).symm
  | o :: r, n, t, T, h => by
    replace h : (match ((t.ins n o).get n).isSome with | true => treeOf r (n + 1) (t.ins n o) | false => none) = some T := h
    cases g : ((t.ins n o).get n).isSome with
    | false => rw [g] at h; cases h
    | true =>
      rw [g] at h
      have k := treeOf_of (life := life) r (n + 1) (t.ins n o) T h
      rw [absHeap_ins g] at k
      rw [List.length_cons, Nat.add_comm r.length 1, ← Nat.add_assoc, k, ← List.singleton_append, ← List.append_assoc]
      exact congrArg (· ++ r) Array.toList_push
theorem toT_of {s : Shared} {T : SharedT} (h : toT s = some T) : T.abs = s := by
  obtain ⟨⟨objs, life⟩, gens, drawn, toks, os⟩ := s
  obtain ⟨t, e, rfl⟩ := Option.map_eq_some_iff.mp h
  have k := treeOf_of (life := life) _ _ _ _ e
  rw [Nat.zero_add] at k
  show Shared.mk (Heap.mk (absHeap t _ life).objs life) _ _ _ _ = _
  rw [show (absHeap t objs.toList.length life).objs = objs from Array.ext' k]
theorem sT_abs (p : Program) : (sT p).abs = (start p).1 := by
  unfold sT
  rw [← eStart]
  rfl
theorem topQ_of {p : Program} {w : World} {N : Nat} {s r : Shared} (h : topQ p w N s = some r) : topFrom treeTable p w N s = some r := by
  unfold topQ at h
  unfold topFrom
  cases a : s.heap.isNs mainGlobals && s.gens.size == 0 with
  | false => rw [a] at h; cases h
  | true =>
    rw [a] at h
    obtain ⟨T, e, h⟩ := Option.bind_eq_some_iff.mp h
    obtain ⟨s₁, e₁, h⟩ := Option.bind_eq_some_iff.mp h
    have k := topRunQ_of e₁
    rw [toT_of e] at k
    dsimp only
    rw [k]
    exact h
theorem endsQ_of {p : Program} {w : World} {N : Nat} {r : Shared} (h : endsQ p w N = some r) : openEnds treeTable p w N = some r := by
  obtain ⟨s, e, h⟩ := Option.bind_eq_some_iff.mp h
  obtain ⟨i, e, f⟩ := Option.bind_eq_some_iff.mp e
  have k := importEndsQ_of e
  rw [sT_abs, ← eStart] at k
  rw [← eFence] at f
  unfold openEnds fencedOpening
  rw [k, Option.bind_some, f]
  exact topQ_of h
theorem left_of_quick {p q : Program} {loose : List Str} {Xt : Shared → Bool} {α : Type} {Yf : Shared → α} {Ya : World → α} {N : Nat} {g0 : Bool}
    (h : ∀ w : World, (endsQ p w N).map (fun s => (qOpenSeen q loose (importedModules p.main.body) Xt g0 s, Yf s)) = some (openGood q loose, Ya w)) : LeftO p q loose Xt Yf Ya N g0 := fun w => by
  have k := h w
  rw [← eOpenSeen] at k
  obtain ⟨s, e, e'⟩ := Option.map_eq_some_iff.mp k
  rw [endsQ_of e]
  exact congrArg some e'

/-! The looks at the law. -/
theorem row_said : PySem.W.Fast.tw17960256430627541270 PySem.Challenge.rw_il0069_01.row = true := by kernel_rfl
theorem said_well : PySem.Challenge.rw_il0069_01.wellSaid = true := by
  unfold OpenLaw.wellSaid
  rw [PySem.W.Fast.te17960256430627541270, row_said, PySem.W.Fast.te8326940854005059898, PySem.W.Fast.te17119622794617984870, PySem.W.Fast.te9558739934217749035, PySem.W.Fast.te16286561074155671207, PySem.W.Fast.te6984425678791042302, PySem.W.Fast.te482687673346738481, PySem.W.Fast.named_eq]
  kernel_rfl
local macro_rules | `(tactic| o_head $H) => `(tactic| (
  refine holds_open (q := vw) (loose := lo) (Xt := fun s => xlAt vw lv s && recOk (RowW.records PySem.Challenge.rw_il0069_01.row.toRowW) s) (XP := XL vw lv) (Yf := Hook.obs $H) (Ya := Hook.val $H) (YP := Hook.says $H) (N := 3358) ?hl (Hook.of $H) (Hook.keeps $H) (fun s e => xl_of s (Bool.and_eq_true_iff.mp e).1) XL.keeps (by rfl) (by rfl) (by rfl) (fun s e => recFacts_of (Bool.and_eq_true_iff.mp e).2) (by rfl) (by first | assumption | decide +kernel) (by decide +kernel) ⟨rfl, rfl, rfl, rfl, rfl, by decide +kernel⟩ ?hw ?hc
  case hl => (refine left_of_quick fun w => ?_; kernel_rfl)))
local macro_rules | `(tactic| o_law) => `(tactic| refine holds_law said_well fun said => ?_)
open_top hd for PySem.Challenge.rw_il0069_01
/-- sets the walk back: the head has put its top's lines in force -/
theorem quiet : True := by
  w_top off
  exact True.intro
end
/-! ## B1 -/
section
section
variable {prog : Program} {w : World} {A : Around} {E : Value → Shared → Prop} {s : Shared}

theorem plainMeta_str : typeOf (.type "str") = pure (.type "type") := by rfl
theorem nested_str {k : Value} {dep : Int} {tk : Tok} {Q : Fin → Shared → Prop} (hk : k = .int dep tk) (hq : Q (.done (.ret (.bool true))) s) :
    wpAny (model prog w) A (Builtin.«issubclass.nested» ⟨[.type "str", .type "str", k], []⟩) Q E s := by
  subst hk
  have hm := plainMeta_str
  have hself := isSubtype_str_str
  repeat (any_goals (first | assumption | (rw [if_pos hm]) | (rw [hself]) | wp_step))

theorem kind_nested : builtinKind "issubclass.nested" = none := by decide +kernel
theorem plain_nested : plainId "issubclass.nested" = true := by decide +kernel
theorem args_nested (a b c : Value) : argsOk "issubclass.nested" ⟨[a, b, c], []⟩ := by unfold argsOk; kernel_rfl
theorem call_nested {k : Value} {dep : Int} {tk : Tok} {Q : Value → Shared → Prop} (hk : k = .int dep tk) (h : Q (.bool true) s) :
    wpAny (model prog w) A (call (.builtin "issubclass.nested") [.type "str", .type "str", k]) Q E s :=
  call_function_meets kind_nested plain_nested F.entry_issubclass_nested (args_nested _ _ _)
    (S := fun _ R s => R (.ok (.ret (.bool true))) s) (fun _ _ _ _ _ hs => nested_str hk hs) h

theorem nested_tup {D : Addr} {v : Value} {Q : Fin → Shared → Prop} (hD : IsTup s.heap D #[.type "str", v]) (hq : Q (.done (.ret (.bool true))) s) :
    wpAny (model prog w) A (Builtin.«issubclass.nested» ⟨[.type "str", .ref D, rawInt 0], []⟩) Q E s := by
  obtain ⟨o, ho, hc, n, hd⟩ := hD
  have hT : s.TypeIs (.ref D) "tuple" := ⟨o, ho, hc⟩
  have hself := isSubtype_tuple_tuple
  repeat (any_goals (first | assumption | (rw [hself]) | wp_step))
  rw [hd]
  refine wpAny_pure ?_
  refine wpAny_bind ?_
  simp only [Option.getD_some, List.forIn_toArray, List.forIn_cons]
  refine wpAny_bind ?_
  refine wpAny_bind (call_nested rfl ?_)
  repeat (any_goals (first | assumption | wp_step))

theorem issub_meets {D : Addr} {v : Value} : Meets (Builtin.«issubclass» ⟨[.type "str", .ref D], []⟩) (fun _ R s => IsTup s.heap D #[.type "str", v] ∧ R (.ok (.ret (.bool true))) s) :=
  fun _ _ _ _ _ hs => issubclass_outer (nested_tup hs.1 hs.2)
theorem call_issub {D : Addr} {v : Value} {h₀ : Heap} {L : Addr} {news : List (Addr × Obj)} {Q : Value → Shared → Prop} (N : News h₀ L s.heap news)
    (hm : (D, ({ cls := .type "tuple", data := .seq #[.type "str", v] } : Obj)) ∈ news) (h : Q (.bool true) s) :
    wpAny (model prog w) A (call (.builtin "issubclass") [.type "str", .ref D]) Q E s :=
  call_issubclass issub_meets ⟨⟨_, (N _ hm).1, rfl, _, rfl⟩, h⟩
end
end
/-! ## B2 -/
section
section
variable {prog : Program} {w : World} {A : Around} {E : Value → Shared → Prop} {s : Shared} {env : Env} {h₀ : Heap} {x : Str} {body : List Stmt} {Q : Flow → Shared → Prop}

def StS {σ : Type} (Led : σ → List (Addr × Obj)) (ps : σ → List (Str × Value)) (x : Str) (stored : List Str) (m₀ : Str → Option Value) (P : σ → Prop) (m : Str → Option Value) (nx : List (Addr × Obj)) : Prop :=
  ∃ c : σ, nx = Led c ∧ (∀ p ∈ ps c, m p.1 = some p.2) ∧ (∀ z, z ≠ x → (∀ p ∈ ps c, z ≠ p.1) → stored.contains z = false → m z = m₀ z) ∧ P c

/-- a loop over a container of the ledger, any state -/
theorem loop_core {I l : Addr} {lo : Obj} {n : Nat} {Pv : Nat → Value → Prop} {St : Nat → Heap → Prop} {m₀ : Str → Option Value} {σ : Type} (Led : σ → List (Addr × Obj)) (ps : σ → List (Str × Value)) (stored : List Str) (P : Nat → σ → Prop) (c₀ : σ)
    (W : Walks prog w A I [I, l] [I] n Pv St) (hlive : ∀ i h, St i h → ∃ o, h.get? I = some o) (hI0 : h₀.get? I = none) (hIL : env.locals ≠ I) (hl : ∀ c, (l, lo) ∈ Led c) (hst : St 0 s.heap)
    (hIn : ∀ p ∈ Led c₀, p.1 ≠ I)
    (F : Fr h₀ env.locals s.heap m₀) (N : News h₀ env.locals s.heap (Led c₀)) (hk : ∀ p ∈ ps c₀, m₀ p.1 = some p.2) (hp : P 0 c₀)
    (turn : ∀ (c : σ) i v oI (u : Str → Option Value) h tk, i < n → Pv i v → (∀ p ∈ Led c, p.1 ≠ I) → P i c →
      Fr h₀ env.locals h (fun y => if y = x then some v else kstB (fun z => if stored.contains z then u z else m₀ z) (ps c) y) → News h₀ env.locals h ((I, oI) :: Led c) →
      wpAny (model prog w) A (execs body env) (InvPostG h₀ env.locals (StS Led ps x stored m₀ (P (i + 1))) [(I, oI)] { s with heap := h, toks := tk } Q) E { s with heap := h, toks := tk })
    (done : ∀ (c : σ) (u : Str → Option Value) h tk, P n c → Fr h₀ env.locals h (fun y => if y = x then u y else kstB (fun z => if stored.contains z then u z else m₀ z) (ps c) y) → News h₀ env.locals h (Led c) → Q .next { s with heap := h, toks := tk }) :
    LoopAtV prog w A h₀ env x body Q E (.ref I) s := by
  have hlL : l ≠ env.locals := (N _ (hl c₀)).2.1
  have hl0 : h₀.get? l = none := (N _ (hl c₀)).2.2
  refine ⟨I, [I, l], [I], n, Pv, St, m₀, Led c₀, (fun i m nx => StS Led ps x stored m₀ (P i) m nx), rfl, W, ?_, ?_, ?_, hst, F, N, ⟨c₀, rfl, hk, fun _ _ _ _ => rfl, hp⟩, ?_, ?_⟩
  · intro hm
    rcases List.mem_cons.mp hm with e | hm
    · exact hIL e
    · exact hlL ((List.mem_singleton.mp hm).symm)
  · intro b hb
    rw [List.mem_singleton.mp hb]
    exact hI0
  · intro p hp hI
    exact hIn p hp (List.mem_singleton.mp hI)
  · rintro i v m₁ news₁ s₁ own ⟨hh', tk', rfl⟩ hin hP ⟨c, rfl, h1, h2, hPc⟩ hoff hown hget hfp hst₁ F₁ N₁
    obtain ⟨oI, hoI⟩ := hlive _ _ hst₁
    have hIown : (I, oI) ∈ own := hfp _ (List.mem_cons.mpr (.inl rfl)) hI0 _ hoI
    have hne : ∀ p ∈ Led c, p.1 ≠ I := fun p hp e => hoff p hp (List.mem_singleton.mpr e)
    have hlo : hh'.get? l = some lo := (N₁ _ (List.mem_append.mpr (.inr (hl c)))).1
    have N₂ : News h₀ env.locals hh' ((I, oI) :: Led c) := fun p hp => N₁ p ((List.mem_cons.mp hp).elim (fun h => List.mem_append.mpr (.inl (h ▸ hIown))) fun h => List.mem_append.mpr (.inr h))
    refine wpAny_mono (turn c i v oI m₁ hh' tk' hin hP hne hPc (kst_fr h1 h2 F₁) N₂) (fun f s₂ p => ?_) fun _ _ e => e
    have fin : InvEndG h₀ env.locals (StS Led ps x stored m₀ (P (i + 1))) [(I, oI)] { s with heap := hh', toks := tk' } s₂ → LoopStepU h₀ env.locals [I] own (StS Led ps x stored m₀ (P (i + 1))) { s with heap := hh', toks := tk' } .next s₂ := by
      rintro ⟨h', tk, m', news', nx, e, F', N', hn, ho, ha, hm⟩
      refine ⟨rfl, h', tk, m', nx, e, F', fun p hp => ?_, fun p hp hq => ?_, hm⟩
      · rcases List.mem_append.mp hp with h | h
        · rcases List.mem_cons.mp (hown p h) with h3 | h3
          · have h4 : hh'.get? p.1 = some p.2 := hget p h
            have e4 : p = (I, oI) := Prod.ext h3 (by rw [h3, hoI] at h4; exact (Option.some.inj h4).symm)
            exact N' p (ho p (e4 ▸ .head _))
          · have h3 := List.mem_singleton.mp h3
            have h4 : hh'.get? p.1 = some p.2 := hget p h
            have e4 : p = (l, lo) := Prod.ext h3 (by rw [h3, hlo] at h4; exact (Option.some.inj h4).symm)
            obtain ⟨c', hc', _⟩ := hm
            exact N' p (hn p (by rw [e4, hc']; exact hl c'))
        · exact N' p (hn p h)
      · exact ha _ (.head _) p.1 (List.mem_map.mpr ⟨p, hp, rfl⟩) (List.mem_singleton.mp hq).symm
    cases f with
    | ret v => exact .ret p
    | brk => exact .brk p
    | next => exact .next (fin p)
    | cont => exact .cont (fin p)
  · rintro h' tk m' news' F' N' _ ⟨c, rfl, h1, h2, hPc⟩
    exact done c m' h' tk hPc (kst_frOut h1 h2 F') N'

theorem st_end {σ : Type} {Led : σ → List (Addr × Obj)} {ps : σ → List (Str × Value)} {stored : List Str} {m₀ : Str → Option Value} {P : σ → Prop} (c : σ) {L : Addr} {m' : Str → Option Value} {I : Addr} {oI : Obj} {news' : List (Addr × Obj)} {s₁ : Shared} {h' : Heap} {tk : Nat}
    (F : Fr h₀ L h' m') (N : News h₀ L h' news') (hn : ∀ p ∈ Led c, p ∈ news') (ho : (I, oI) ∈ news') (ha : ∀ p ∈ Led c, p.1 ≠ I) (hk : ∀ p ∈ ps c, m' p.1 = some p.2) (hr : ∀ z, z ≠ x → (∀ p ∈ ps c, z ≠ p.1) → stored.contains z = false → m' z = m₀ z) (hp : P c) :
    InvEndG h₀ L (StS Led ps x stored m₀ P) [(I, oI)] s₁ { s₁ with heap := h', toks := tk } :=
  InvEndG.intro F N ⟨c, rfl, hk, hr, hp⟩ (fun q hq b hb e => by
    obtain ⟨r, hr', rfl⟩ := List.mem_map.mp hb
    rw [List.mem_singleton.mp hq] at e
    exact ha r hr' e.symm) hn (fun p hp => by rw [List.mem_singleton.mp hp]; exact ho)

theorem list_loop {l : Addr} {vs : List Value} {nn : Nat} {m₀ : Str → Option Value} {σ : Type} (Led : σ → List (Addr × Obj)) (ps : σ → List (Str × Value)) (stored : List Str) (P : Nat → σ → Prop) (c₀ : σ)
    (hh : A.handled = none) (hl : ∀ c, (l, listOf vs.toArray nn) ∈ Led c)
    (F : Fr h₀ env.locals s.heap m₀) (N : News h₀ env.locals s.heap (Led c₀)) (hk : ∀ p ∈ ps c₀, m₀ p.1 = some p.2) (hp : P 0 c₀)
    (turn : ∀ (c : σ) i v I oI (u : Str → Option Value) h tk, i < vs.length → vs[i]? = some v → (∀ p ∈ Led c, p.1 ≠ I) → P i c →
      Fr h₀ env.locals h (fun y => if y = x then some v else kstB (fun z => if stored.contains z then u z else m₀ z) (ps c) y) → News h₀ env.locals h ((I, oI) :: Led c) →
      wpAny (model prog w) A (execs body env) (InvPostG h₀ env.locals (StS Led ps x stored m₀ (P (i + 1))) [(I, oI)] { s with heap := h, toks := tk } Q) E { s with heap := h, toks := tk })
    (done : ∀ (c : σ) (u : Str → Option Value) h tk, P vs.length c → Fr h₀ env.locals h (fun y => if y = x then u y else kstB (fun z => if stored.contains z then u z else m₀ z) (ps c) y) → News h₀ env.locals h (Led c) → Q .next { s with heap := h, toks := tk }) :
    wpAny (model prog w) A (pyIter (.ref l)) (fun it s₂ => LoopAtV prog w A h₀ env x body Q E it s₂) E s := by
  have hol : s.heap.get? l = some (listOf vs.toArray nn) := (N _ (hl c₀)).1
  have hls : s.heap.IsList l vs.toArray := ⟨_, hol, rfl, nn, rfl⟩
  have hne : l ≠ s.heap.objs.size := Nat.ne_of_lt (Heap.lt_size hol)
  refine wpAny_pyIter_list hls ?_
  have W := Walks.list (prog := prog) (w := w) hh s.heap.objs.size l hne vs.toArray
  have hlen : vs.toArray.size = vs.length := by simp
  rw [hlen] at W
  refine loop_core (lo := listOf vs.toArray nn) Led ps stored P c₀ W (fun i h st => by obtain ⟨⟨o, ho, _⟩, _⟩ := st; exact ⟨o, ho⟩) (next_is_new F) (fun e => absurd F.ns.lt (e ▸ Nat.lt_irrefl _)) hl
    ⟨⟨_, Heap.get?_push_size _ rfl, rfl, rfl⟩, hls.at fun o e => Heap.get?_push_of_some _ e⟩ (fun p hp e => absurd (Heap.lt_size (N p hp).1) (e ▸ Nat.lt_irrefl _)) (F.push _) (fun p hp => ⟨Heap.get?_push_of_some _ (N p hp).1, (N p hp).2⟩) hk hp ?_ ?_
  · intro c i v oI u h tk hi hv hoff hP F₁ N₁
    exact turn c i v _ oI u h tk hi (by simpa using hv) hoff hP F₁ N₁
  · exact done

theorem tuple_loop {l : Addr} {vs : List Value} {m₀ : Str → Option Value} {σ : Type} (Led : σ → List (Addr × Obj)) (ps : σ → List (Str × Value)) (stored : List Str) (P : Nat → σ → Prop) (c₀ : σ)
    (hh : A.handled = none) (hl : ∀ c, (l, ({ cls := .type "tuple", data := .seq vs.toArray } : Obj)) ∈ Led c)
    (F : Fr h₀ env.locals s.heap m₀) (N : News h₀ env.locals s.heap (Led c₀)) (hk : ∀ p ∈ ps c₀, m₀ p.1 = some p.2) (hp : P 0 c₀)
    (turn : ∀ (c : σ) i v I oI (u : Str → Option Value) h tk, i < vs.length → vs[i]? = some v → (∀ p ∈ Led c, p.1 ≠ I) → P i c →
      Fr h₀ env.locals h (fun y => if y = x then some v else kstB (fun z => if stored.contains z then u z else m₀ z) (ps c) y) → News h₀ env.locals h ((I, oI) :: Led c) →
      wpAny (model prog w) A (execs body env) (InvPostG h₀ env.locals (StS Led ps x stored m₀ (P (i + 1))) [(I, oI)] { s with heap := h, toks := tk } Q) E { s with heap := h, toks := tk })
    (done : ∀ (c : σ) (u : Str → Option Value) h tk, P vs.length c → Fr h₀ env.locals h (fun y => if y = x then u y else kstB (fun z => if stored.contains z then u z else m₀ z) (ps c) y) → News h₀ env.locals h (Led c) → Q .next { s with heap := h, toks := tk }) :
    wpAny (model prog w) A (pyIter (.ref l)) (fun it s₂ => LoopAtV prog w A h₀ env x body Q E it s₂) E s := by
  have hol : s.heap.get? l = some ({ cls := .type "tuple", data := .seq vs.toArray } : Obj) := (N _ (hl c₀)).1
  have hls : s.heap.IsTuple l vs.toArray := ⟨_, hol, rfl, _, rfl⟩
  have hne : l ≠ s.heap.objs.size := Nat.ne_of_lt (Heap.lt_size hol)
  refine wpAny_pyIter_tuple hls ?_
  have W := Walks.tuple (prog := prog) (w := w) hh s.heap.objs.size l hne vs.toArray
  have hlen : vs.toArray.size = vs.length := by simp
  rw [hlen] at W
  refine loop_core (lo := ({ cls := .type "tuple", data := .seq vs.toArray } : Obj)) Led ps stored P c₀ W (fun i h st => by obtain ⟨⟨o, ho, _⟩, _⟩ := st; exact ⟨o, ho⟩) (next_is_new F) (fun e => absurd F.ns.lt (e ▸ Nat.lt_irrefl _)) hl
    ⟨⟨_, Heap.get?_push_size _ rfl, rfl, rfl⟩, hls.at fun o e => Heap.get?_push_of_some _ e⟩ (fun p hp e => absurd (Heap.lt_size (N p hp).1) (e ▸ Nat.lt_irrefl _)) (F.push _) (fun p hp => ⟨Heap.get?_push_of_some _ (N p hp).1, (N p hp).2⟩) hk hp ?_ ?_
  · intro c i v oI u h tk hi hv hoff hP F₁ N₁
    exact turn c i v _ oI u h tk hi (by simpa using hv) hoff hP F₁ N₁
  · exact done
end
def Stop (P : Prop) : Prop := P
theorem Stop.intro {P : Prop} (h : Stop P) : P := h
theorem Stop.out {P : Prop} (h : P) : Stop P := h
theorem strs_rev : ∀ {vs : List Value} {xs : List Str}, StrsAre vs xs → StrsAre vs.reverse xs.reverse
  | _, _, .nil => .nil
  | _, _, .cons y t r => by
    rw [List.reverse_cons, List.reverse_cons]
    exact kct_snoc (strs_rev r)
theorem strs_at {vs : List Value} {xs : List Str} (h : StrsAre vs xs) {i : Nat} {v : Value} (e : vs[i]? = some v) : ∃ y t, v = .str y t ∧ xs[i]? = some y := StrsAre.item h i v e
end
/-! ## B3 -/
section
open PySem.Spec
theorem canLay_strs : ∀ ns : List Str, (∀ x ∈ ns, PyData.strOk x = true) → PyData.canLayAll0 (ns.map PyData.str) = true
  | [], _ => rfl
  | x :: r, h => by
    have h1 := h x (.head _)
    have h2 := canLay_strs r fun y hy => h y (.tail _ hy)
    simp [PyData.canLayAll0, PyData.canLay0, h1, h2]
theorem depth_strs : ∀ ns : List Str, PyData.depthAll (ns.map PyData.str) = 0
  | [] => rfl
  | _ :: r => by simp [PyData.depthAll, PyData.depth, depth_strs r]
theorem shaped_strs (ns : List Str) (h : ∀ x ∈ ns, PyData.strOk x = true) : SeqAt.shaped (.list (ns.map PyData.str)) = true := by
  simp [SeqAt.shaped, PyData.canLay0, PyData.depth, canLay_strs ns h, depth_strs]
theorem eqvAll_strs : ∀ ns ms : List Str, PyData.eqvAll (ns.map PyData.str) (ms.map PyData.str) = decide (ns = ms)
  | [], [] => by simp [PyData.eqvAll]
  | [], _ :: _ => by simp [PyData.eqvAll]
  | _ :: _, [] => by simp [PyData.eqvAll]
  | a :: r, b :: t => by
    simp only [List.map_cons, PyData.eqvAll, PyData.eqv, eqvAll_strs r t]
    by_cases h : a = b <;> by_cases h' : r = t <;> simp [h, h']
theorem carried_strs : ∀ {vs : List Value} {xs : List Str}, StrsAre vs xs → CarriedAll vs (xs.map PyData.str)
  | _, _, .nil => .nil
  | _, _, .cons y t r => .cons (.str y t) (carried_strs r)
theorem sum_le {ns : List Str} {k : Nat} (h : ∀ y ∈ ns, y.length ≤ k) : (ns.map (·.length)).sum ≤ k * ns.length := by
  induction ns with
  | nil => simp
  | cons a r ih =>
    have h1 := h a (.head _)
    have h2 := ih fun y hy => h y (.tail _ hy)
    simp only [List.map_cons, List.sum_cons, List.length_cons, Nat.mul_add, Nat.mul_one]
    omega
theorem sum_fits {ns : List Str} (h : ∀ y ∈ ns, y.length ≤ 1000) (hl : ns.length ≤ 1000) : (ns.map (·.length)).sum + ns.length ≤ 1048576 := by
  have h1 := sum_le h
  have h2 : 1000 * ns.length ≤ 1000 * 1000 := Nat.mul_le_mul_left _ hl
  omega
section
variable {prog : Program} {w : World} {A : Around} {E : Value → Shared → Prop} {s : Shared} {h₀ : Heap} {L : Addr} {m : Str → Option Value} {news news' : List (Addr × Obj)} {a b l : Addr} {vs xs ys : List Value} {n k : Nat} {ns ms : List Str} {Q : Value → Shared → Prop} {value slice : PySem.Expr} {u : Tok}
theorem isList_of {h : Heap} (N : News h₀ L h news) (hm : (l, listOf vs.toArray n) ∈ news) : h.IsList l vs.toArray := ⟨_, (N _ hm).1, rfl, n, rfl⟩
theorem reads_strs {h : Heap} (ha : h.IsList a xs.toArray) (hi : StrsAre xs ns) : Reads h (.ref a) (.list (ns.map PyData.str)) [a] := by
  obtain ⟨o, ho, hc, n, hd⟩ := ha
  exact reads_list_at ho hc hd (by simpa using strs_readAll h hi)
theorem eq_strsL (N : News h₀ L s.heap news) (ha : (a, listOf xs.toArray n) ∈ news) (hb : (b, listOf ys.toArray k) ∈ news) (hi : StrsAre xs ns) (hj : StrsAre ys ms) (oi : ∀ x ∈ ns, PyData.strOk x = true) (oj : ∀ x ∈ ms, PyData.strOk x = true) (hu : A.units + 64 < cLine) (h : Q (.bool (decide (ns = ms))) s) :
    wpAny (model prog w) A (compareOp .Eq (.ref a) (.ref b)) Q E s :=
  eq_dataH (reads_strs (isList_of N ha) hi) (reads_strs (isList_of N hb) hj) (shaped_strs _ oi) (shaped_strs _ oj) hu (by rw [PyData.eqv, eqvAll_strs]; exact h)
theorem ne_strsL (N : News h₀ L s.heap news) (ha : (a, listOf xs.toArray n) ∈ news) (hb : (b, listOf ys.toArray k) ∈ news) (hi : StrsAre xs ns) (hj : StrsAre ys ms) (oi : ∀ x ∈ ns, PyData.strOk x = true) (oj : ∀ x ∈ ms, PyData.strOk x = true) (hu : A.units + 64 < cLine) (h : Q (.bool (!decide (ns = ms))) s) :
    wpAny (model prog w) A (compareOp .NotEq (.ref a) (.ref b)) Q E s :=
  ne_dataH (reads_strs (isList_of N ha) hi) (reads_strs (isList_of N hb) hj) (shaped_strs _ oi) (shaped_strs _ oj) hu (by rw [PyData.eqv, eqvAll_strs]; exact h)
theorem truthy_strsL {Q : Bool → Shared → Prop} (N : News h₀ L s.heap news) (ha : (a, listOf xs.toArray n) ∈ news) (hi : StrsAre xs ns) (hb : ns.length ≤ 1048576) (h : Q (decide (0 < ns.length)) { s with toks := s.toks + 1 + 1 }) :
    wpAny (model prog w) A (truthy (.ref a)) Q E s := by
  refine truthy_list_made (isList_of N ha) (carried_strs hi) (by simpa using hb) ?_
  rw [List.length_map]
  exact h
theorem item_last {vi : List Value} {v : Value} (N : News h₀ L s.heap news) (ha : (a, listOf (vi ++ [v]).toArray n) ∈ news) (h : Q v s)
    (hs : subscripted slice false (.ref a) (.int (-1) u) = operate [.ref a, .int (-1) u] (getItem (.ref a) (.int (-1) u)) := by with_unfolding_all rfl) :
    wpAny (model prog w) A (subscriptTail value slice (.ref a) (.int (-1) u)) Q E s := by
  have hl := isList_of N ha
  have hsz : (vi ++ [v]).toArray.size = vi.length + 1 := by simp
  exact subscriptTail_builtinR hl.typeIs slot_list_getitem.lookup (wpAny_getItem_list_neg (Q := fun r s' => r = v ∧ Q r s') hl (by decide) (by rw [hsz]; omega) (by decide) (by
    rw [hsz]
    have e : (-1 + ((vi.length + 1 : Nat) : Int)).toNat = vi.length := by omega
    rw [e]; simp) ⟨rfl, h⟩) hs
theorem pick_butlast (vi : List Value) (v : Value) : kms_pick (vi ++ [v]) none (some (-1)) = vi := by
  have e1 : kms_lo none (vi ++ [v]).length = 0 := rfl
  have e2 : kms_hi (some (-1)) (vi ++ [v]).length = vi.length := by
    unfold kms_hi
    simp
  unfold kms_pick
  rw [e1, e2]
  simp
theorem pick_upto {vs : List Value} {j : Int} (h0 : 0 ≤ j) (h1 : j ≤ vs.length) : kms_pick vs none (some j) = vs.take j.toNat := by
  have e1 : kms_lo none vs.length = 0 := rfl
  have e2 : kms_hi (some j) vs.length = j.toNat := by
    show (if j < 0 then _ else min j.toNat vs.length) = _
    rw [if_neg (by omega)]
    omega
  unfold kms_pick
  rw [e1, e2]
  simp
theorem pick_run' {vs : List Value} {i j : Int} (h0 : 0 ≤ i) (h1 : i ≤ vs.length) (h2 : 0 ≤ j) (h3 : j ≤ vs.length) : kms_pick vs (some i) (some j) = (vs.drop i.toNat).take (j.toNat - i.toNat) := by
  have e1 : kms_lo (some i) vs.length = i.toNat := by
    show (if i < 0 then _ else min i.toNat vs.length) = _
    rw [if_neg (by omega)]
    omega
  have e2 : kms_hi (some j) vs.length = j.toNat := by
    show (if j < 0 then _ else min j.toNat vs.length) = _
    rw [if_neg (by omega)]
    omega
  unfold kms_pick
  rw [e1, e2]
theorem pick_from {vs : List Value} {i : Int} (h0 : 0 ≤ i) (h1 : i ≤ vs.length) : kms_pick vs (some i) none = vs.drop i.toNat := by
  have e1 : kms_lo (some i) vs.length = i.toNat := by
    show (if i < 0 then _ else min i.toNat vs.length) = _
    rw [if_neg (by omega)]
    omega
  have e2 : kms_hi none vs.length = vs.length := rfl
  unfold kms_pick
  rw [e1, e2]
  exact List.take_of_length_le (by simp)
end
end
/-! ## B4 -/
section
open PySem.Builtin PySem.Builtin.Str
/-- a text without a slash, not empty -/
def Plain (x : Str) : Prop := 0 < x.length ∧ ∀ c ∈ x.cps.toList, c ≠ 47
theorem sl_is : Str.ofString "/" = (⟨#[47]⟩ : Str) := by decide +kernel
theorem starts_sl {x : Str} (h : Plain x) : Txt.startswith x (Str.ofString "/") = false := by
  obtain ⟨h0, h1⟩ := h
  rw [sl_is]
  obtain ⟨⟨l⟩⟩ := x
  cases l with
  | nil => cases h0
  | cons c r =>
    have hc : c ≠ 47 := h1 c (by simp)
    unfold Txt.startswith subAt
    simp [Str.length, hc]
def EndOk (x : Str) : Prop := 0 < x.length ∧ x.cps.toList.getLast? ≠ some 47
theorem endOk_plain {x : Str} (h : Plain x) : EndOk x := ⟨h.1, fun e => h.2 47 (List.mem_of_getLast? e) rfl⟩
theorem endOk_app {p b : Str} (h : Plain b) : EndOk (p ++ (Str.ofString "/" ++ b)) := by
  have hb := (endOk_plain h).2
  obtain ⟨h0, _⟩ := h
  rw [sl_is]
  obtain ⟨⟨p⟩⟩ := p
  obtain ⟨⟨l⟩⟩ := b
  have e : ((⟨⟨p⟩⟩ : Str) ++ ((⟨#[47]⟩ : Str) ++ (⟨⟨l⟩⟩ : Str))) = (⟨⟨p ++ 47 :: l⟩⟩ : Str) := by
    show (⟨(⟨p⟩ : Array Nat) ++ ((#[47] : Array Nat) ++ (⟨l⟩ : Array Nat))⟩ : Str) = _
    simp
  rw [e]
  refine ⟨by simp only [Str.length, List.size_toArray, List.length_append, List.length_cons]; omega, ?_⟩
  have hl : l ≠ [] := by intro e; subst e; cases h0
  show (p ++ 47 :: l).getLast? ≠ some 47
  rcases List.eq_nil_or_concat l with rfl | ⟨r, c, rfl⟩
  · exact absurd rfl hl
  · rw [List.concat_eq_append] at hb ⊢
    have e2 : p ++ 47 :: (r ++ [c]) = (p ++ 47 :: r) ++ [c] := by simp
    have hb' : (r ++ [c]).getLast? ≠ some 47 := hb
    rw [List.getLast?_concat] at hb'
    rw [e2, List.getLast?_concat]
    exact hb'
theorem ends_sl {x : Str} (h : EndOk x) : Txt.endswith x (Str.ofString "/") = false := by
  obtain ⟨h0, h1⟩ := h
  rw [sl_is]
  obtain ⟨⟨l⟩⟩ := x
  rcases List.eq_nil_or_concat l with rfl | ⟨r, c, rfl⟩
  · cases h0
  · have hc : c ≠ 47 := by
      intro e; apply h1; subst e; simp
    unfold Txt.endswith subAt
    simp [Str.length, hc]
theorem len_sl (p b : Str) : (p ++ (Str.ofString "/" ++ b)).length = p.length + 1 + b.length := by
  rw [Str.length_append, Str.length_append, sl_is]
  show p.length + (1 + b.length) = _
  omega
end
/-! ## B5 -/
section
section
variable {prog : Program} {w : World} {A : Around} {E : Value → Shared → Prop} {s : Shared} {env : Env} {h₀ : Heap} {x : Str} {Q : Flow → Shared → Prop}

theorem st_endN {σ : Type} {Led : σ → List (Addr × Obj)} {ps : σ → List (Str × Value)} {stored : List Str} {m₀ : Str → Option Value} {P : σ → Prop} (c : σ) {L : Addr} {m' : Str → Option Value} {own news' : List (Addr × Obj)} {adr : List Addr} {s₁ : Shared} {h' : Heap} {tk : Nat}
    (F : Fr h₀ L h' m') (N : News h₀ L h' news') (hn : ∀ p ∈ Led c, p ∈ news') (ho : ∀ p ∈ own, p ∈ news') (ha : (Led c).map (·.1) = adr) (hk : ∀ p ∈ ps c, m' p.1 = some p.2) (hr : ∀ z, z ≠ x → (∀ p ∈ ps c, z ≠ p.1) → stored.contains z = false → m' z = m₀ z) (hp : P c) :
    InvEndN h₀ L (StS Led ps x stored m₀ P) own adr s₁ { s₁ with heap := h', toks := tk } :=
  InvEndN.intro F N ⟨c, rfl, hk, hr, hp⟩ ha hn ho

theorem st_fr {L : Addr} {h : Heap} {ps : List (Str × Value)} {stored : List Str} {m₀ m₁ : Str → Option Value} (h1 : ∀ p ∈ ps, m₁ p.1 = some p.2) (h2 : ∀ z, z ≠ x → (∀ p ∈ ps, z ≠ p.1) → stored.contains z = false → m₁ z = m₀ z)
    (F : Fr h₀ L h m₁) : Fr h₀ L h (fun y => if y = x then m₁ y else kstB (fun z => if stored.contains z then m₁ z else m₀ z) ps y) := kst_frOut h1 h2 F

theorem turns_law {target : Expr} {body orelse : List Stmt} {I : Addr} {fp wr : List Addr} {n : Nat} {P Md : Nat → Value → Heap → Prop} {St : Nat → Heap → Prop} {m₀ : Str → Option Value} {σ : Type} (x : Str)
    (Led : σ → List (Addr × Obj)) (ps : σ → List (Str × Value)) (stored : List Str) (Pc : Nat → σ → Prop) (c₀ : σ) (keep : List (Addr × Obj))
    (W : KTurns prog w A target I fp wr n P Md St) (hLf : env.locals ∉ fp) (hwr : ∀ b ∈ wr, h₀.get? b = none) (hkeep : ∀ c, ∀ p ∈ keep, p ∈ Led c) (hfp : ∀ b ∈ fp, b ∈ wr ∨ (∃ o, (b, o) ∈ keep) ∨ ∃ o, h₀.get? b = some o) (hnw : ∀ p ∈ Led c₀, p.1 ∉ wr)
    (hst : St 0 s.heap) (F : Fr h₀ env.locals s.heap m₀) (N : News h₀ env.locals s.heap (Led c₀)) (hk : ∀ p ∈ ps c₀, m₀ p.1 = some p.2) (hp : Pc 0 c₀)
    (turn : ∀ (c : σ) i v own (u : Str → Option Value) h tk, i < n → P i v h → OwnOff own ((Led c₀).map (·.1)) → Pc i c →
      Fr h₀ env.locals h (fun y => if y = x then u y else kstB (fun z => if stored.contains z then u z else m₀ z) (ps c) y) → News h₀ env.locals h (Led c ++ own) →
      wpAny (model prog w) A (assign target env v) (fun _ s₂ => wpAny (model prog w) A (execs body env)
        (InvPostN h₀ env.locals (StS Led ps x stored m₀ (Pc (i + 1))) own ((Led c₀).map (·.1)) { s with heap := h, toks := tk } Q) E s₂) E { s with heap := h, toks := tk })
    (done : ∀ (c : σ) (u : Str → Option Value) h tk, Pc n c → Fr h₀ env.locals h (fun y => if y = x then u y else kstB (fun z => if stored.contains z then u z else m₀ z) (ps c) y) → News h₀ env.locals h (Led c) →
      wpAny (model prog w) A (execs orelse env) Q E { s with heap := h, toks := tk })
    (hE : PassesOwn (model prog w) A env E) :
    codeAny (model prog w) A (.forLoop target (.ref I) body orelse env) (fun r s' => match r with | .ok f => Q f s' | .error e => cameBackBy (model prog w) A env E e s') s := by
  have hLw : env.locals ∉ wr := fun h => hLf (W.sub _ h)
  have old : ∀ b o, h₀.get? b = some o → b ∉ wr := fun b o e hb => by rw [hwr b hb] at e; cases e
  refine codeAny_forLoop_any
    (fun k s' => ∃ h' tk m' news' i, s' = { s with heap := h', toks := tk } ∧ St i h' ∧ Fr h₀ env.locals h' m' ∧ News h₀ env.locals h' news' ∧ (∀ p ∈ news', p.1 ∉ wr) ∧ (news'.map (·.1) = (Led c₀).map (·.1) ∧ StS Led ps x stored m₀ (Pc i) m' news') ∧ i ≤ n ∧ k = n + 1 - i) ?_ (n + 1)
    ⟨s.heap, s.toks, m₀, Led c₀, 0, rfl, hst, F, N, hnw, ⟨rfl, c₀, rfl, hk, fun _ _ _ _ => rfl, hp⟩, Nat.zero_le _, rfl⟩
  rintro k s' ⟨h', tk, m', news', i, rfl, hst', F', N', hnw', ⟨hadr, c, rfl, h1, h2, hPc⟩, hi, rfl⟩
  have next : ∀ h₁ : Heap, (∀ b o, b ∉ wr → h'.get? b = some o → h₁.get? b = some o) → Fr h₀ env.locals h₁ m' ∧ News h₀ env.locals h₁ (Led c) := fun h₁ hk₁ =>
    ⟨⟨F'.ns.at' fun o e => hk₁ _ o hLw e, fun b o e => hk₁ b o (old b o e) (F'.keep b o e), F'.above⟩, fun p hp => ⟨hk₁ _ _ (hnw' p hp) (N' p hp).1, (N' p hp).2⟩⟩
  by_cases hlt : i < n
  · refine W.item i _ _ _ hlt hst' fun v h₁ tk₁ hMd hk₁ => ?_
    refine W.go i v _ _ _ hMd fun h₂ hP hst₂ hk₂ => ?_
    obtain ⟨F₂, N₂⟩ := next h₂ fun b o hb x => hk₂ b o hb (hk₁ b o hb x)
    have Nown : News h₀ env.locals h₂ ((PyProof.Rows.ownOf h₀ fp h₂).filter fun p => decide (p.1 ∈ wr)) := fun p hp => news_ownOf hLf p (List.mem_filter.mp hp).1
    have hsep : OwnOff ((PyProof.Rows.ownOf h₀ fp h₂).filter fun p => decide (p.1 ∈ wr)) ((Led c₀).map (·.1)) := by
      intro p hp b hb e
      rw [← hadr] at hb
      obtain ⟨q, hq, rfl⟩ := List.mem_map.mp hb
      have h3 : p.1 ∈ wr := by simpa using (List.mem_filter.mp hp).2
      exact hnw' q hq (e ▸ h3)
    have N₃ : News h₀ env.locals h₂ (Led c ++ (PyProof.Rows.ownOf h₀ fp h₂).filter fun p => decide (p.1 ∈ wr)) := fun p hp => (List.mem_append.mp hp).elim (N₂ p) (Nown p)
    have fin : ∀ s₃, InvEndN h₀ env.locals (StS Led ps x stored m₀ (Pc (i + 1))) ((PyProof.Rows.ownOf h₀ fp h₂).filter fun p => decide (p.1 ∈ wr)) ((Led c₀).map (·.1)) { s with heap := h₂, toks := tk₁ } s₃ →
        ∃ m, m < n + 1 - i ∧ ∃ h' tk m' news' i, s₃ = { s with heap := h', toks := tk } ∧ St i h' ∧ Fr h₀ env.locals h' m' ∧ News h₀ env.locals h' news' ∧ (∀ p ∈ news', p.1 ∉ wr) ∧ (news'.map (·.1) = (Led c₀).map (·.1) ∧ StS Led ps x stored m₀ (Pc i) m' news') ∧ i ≤ n ∧ m = n + 1 - i := by
      rintro s₃ ⟨h₃', tk₃, m₂, news₂, nx, rfl, F₃, N₃', hn₃, ho₃, ha₃, hJ₃⟩
      refine ⟨n + 1 - (i + 1), by omega, h₃', tk₃, m₂, nx, i + 1, rfl, ?_, F₃, fun p hp => N₃' p (hn₃ p hp), fun p hp hb => ?_, ⟨ha₃, hJ₃⟩, hlt, rfl⟩
      · refine W.frame _ _ _ hst₂ fun b hb o e => ?_
        cases hn : h₀.get? b with
        | some o₀ =>
          have : o₀ = o := by have q := F₂.keep b o₀ hn; rw [e] at q; exact (Option.some.inj q).symm
          exact this ▸ F₃.keep b o₀ hn
        | none =>
          rcases hfp b hb with h5 | ⟨o', h5⟩ | ⟨o', h5⟩
          · exact (N₃' _ (ho₃ _ (List.mem_filter.mpr ⟨mem_ownOf hb hn e, by simpa using h5⟩))).1
          · have h6 : h₂.get? b = some o' := (N₂ _ (hkeep c _ h5)).1
            obtain ⟨c', hc', _⟩ := hJ₃
            have h7 := (N₃' _ (hn₃ _ (by rw [hc']; exact hkeep c' _ h5))).1
            rw [e] at h6
            rw [Option.some.inj h6]
            exact h7
          · rw [h5] at hn
            cases hn
      · have h4 : p.1 ∈ (Led c).map (·.1) := by rw [hadr, ← ha₃]; exact List.mem_map.mpr ⟨p, hp, rfl⟩
        obtain ⟨q, hq, hqe⟩ := List.mem_map.mp h4
        exact hnw' q hq (hqe ▸ hb)
    refine wpAny_passesOwn hE (wpAny_mono (turn c i v ((PyProof.Rows.ownOf h₀ fp h₂).filter fun p => decide (p.1 ∈ wr)) m' h₂ tk₁ hlt hP hsep hPc (st_fr h1 h2 F₂) N₃) (fun _ s₂ h₂' => wpAny_passesOwn hE (wpAny_mono h₂' (fun f s₃ h₃ => ?_) fun _ _ e => e)) fun _ _ e => e)
    cases f with
    | ret v => exact h₃
    | brk => exact h₃
    | cont => exact fin _ h₃
    | next => exact fin _ h₃
  · have hin : i = n := by omega
    subst hin
    refine W.done _ _ _ hst' fun h₁ tk₁ hk₁ => ?_
    obtain ⟨F₁, N₁⟩ := next h₁ hk₁
    exact wpAny_passesOwn hE (done c m' h₁ tk₁ hPc (st_fr h1 h2 F₁) N₁)
end
end
/-! ## B6 -/
section
open PySem.Builtin
section
variable {prog : Program} {w : World} {A : Around} {E : Value → Shared → Prop} {s : Shared}
theorem nextOf_tuple_item {it t : Addr} {i : Nat} {items : Array Value} {x : Value} {Q : Value → Shared → Prop} (hit : s.heap.IsTupleIter it t i)
    (ht : s.heap.IsTuple t items) (hx : items[i]? = some x)
    (hQ : ∀ h', h'.IsTupleIter it t (i + 1) → Heap.SameBut it s.heap h' → Q x { s with heap := h' }) :
    wpAny (model prog w) A (Builtin.SmallTypes.nextOf (.ref it)) Q E s := by
  obtain ⟨o, ho, hc, hd⟩ := id hit
  obtain ⟨ol, hol, _, nl, hdl⟩ := ht
  unfold Builtin.SmallTypes.nextOf
  refine wpAny_bind (wpAny_callSpecial?_slot (name := Str.ofString "__next__") hit.typeIs F.slot_tuple_iterator_next
    (wpAny_call_entry F.slot_tuple_iterator_next hit.typeIs F.entry_tuple_iterator_next ?_ (F.args_tuple_iterator_next_1 _)))
  show wpAny _ _ (field (.ref it) 0 >>= _) _ _ s
  refine wpAny_bind (wpAny_field ho hd (x := .ref t) rfl ?_)
  show wpAny _ _ (if (Value.ref t == Value.none) = true then _ else _) _ _ s
  rw [if_neg (show ¬ ((Value.ref t == Value.none) = true) from Bool.false_ne_true)]
  show wpAny _ _ (field (.ref it) 1 >>= _) _ _ s
  refine wpAny_bind (wpAny_field ho hd (x := .int i 0) rfl ?_)
  show wpAny _ _ (seqItems? (.ref t) >>= _) _ _ s
  refine wpAny_bind (wpAny_seqItems hol hdl ?_)
  simp only [Int.toNat_natCast, hx]
  refine wpAny_bind (wpAny_setField ho hd (by simp) (wpAny_pure ⟨x, rfl, wpAny_pure (hQ _ ?_ (Heap.SameBut.update ..))⟩))
  exact ⟨_, Heap.get?_update_self _ ho (Obj.isFreed_of_fields (Obj.data_mapFields hd _)), (Obj.cls_mapFields ..).trans hc, by
    rw [Obj.data_mapFields hd]; simp [rawInt]⟩
theorem nextOf_tuple_end {it t : Addr} {i : Nat} {items : Array Value} {Q : Value → Shared → Prop} (hh : A.handled = none)
    (hit : s.heap.IsTupleIter it t i) (ht : s.heap.IsTuple t items) (hx : items[i]? = none)
    (hE : ∀ h' e, Heap.ExtBut it s.heap h' → (∃ o, h'.get? e = some o ∧ o.cls = .type "StopIteration") → E (.ref e) { s with heap := h' }) :
    wpAny (model prog w) A (Builtin.SmallTypes.nextOf (.ref it)) Q E s := by
  obtain ⟨o, ho, hc, hd⟩ := id hit
  obtain ⟨ol, hol, _, nl, hdl⟩ := ht
  unfold Builtin.SmallTypes.nextOf
  refine wpAny_bind (wpAny_callSpecial?_slot (name := Str.ofString "__next__") hit.typeIs F.slot_tuple_iterator_next
    (wpAny_call_entry F.slot_tuple_iterator_next hit.typeIs F.entry_tuple_iterator_next ?_ (F.args_tuple_iterator_next_1 _)))
  show wpAny _ _ (field (.ref it) 0 >>= _) _ _ s
  refine wpAny_bind (wpAny_field ho hd (x := .ref t) rfl ?_)
  show wpAny _ _ (if (Value.ref t == Value.none) = true then _ else _) _ _ s
  rw [if_neg (show ¬ ((Value.ref t == Value.none) = true) from Bool.false_ne_true)]
  show wpAny _ _ (field (.ref it) 1 >>= _) _ _ s
  refine wpAny_bind (wpAny_field ho hd (x := .int i 0) rfl ?_)
  show wpAny _ _ (seqItems? (.ref t) >>= _) _ _ s
  refine wpAny_bind (wpAny_seqItems hol hdl ?_)
  simp only [Int.toNat_natCast, hx]
  refine wpAny_bind (wpAny_rule (wpAny_bind (wpAny_setField ho hd (by simp) ?_)))
  show wpAny _ _ (newExc (.type "StopIteration") [] >>= _) _ _ _
  refine wpAny_bind ?_
  simp only [newExc, newTuple]
  refine wpAny_bind (wpAny_newObj_type ?_ (by size_fits))
  refine wpAny_bind (m := firstArgMember _ _) (wpAny_of_eq (a := Value.none) (by first | rfl | (simp only [firstArgMember]; rfl)) ?_)
  refine wpAny_newObj_type ?_ (by size_fits)
  simp only [raiseNew]
  refine wpAny_bind (wpAny_handled ?_)
  first | rw [show A.in1.handled = none from hh] | rw [hh]
  refine wpAny_bind (wpAny_pure (wpAny_throw ?_))
  exact hE _ _ (((Heap.SameBut.update ..).extBut.push _).push _) ⟨_, Heap.get?_push_size _ rfl, rfl⟩
end
theorem drawsTuple {prog : Program} {w : World} {A : Around} (hh : A.handled = none) (it l : Addr) (hne : l ≠ it) (items : Array Value) :
    Draws prog w A it [it, l] items.size (fun i v => items[i]? = some v) (fun i h => h.IsTupleIter it l i ∧ h.IsTuple l items) where
  live := fun _ _ st => let ⟨o, ho, _⟩ := st.1; ⟨o, ho⟩
  frame := fun _ _ _ st hk => ⟨st.1.at fun o e => hk it (by simp) o e, st.2.at fun o e => hk l (by simp) o e⟩
  item := fun i s Q E hi st hQ => by
    refine nextOf_tuple_item st.1 st.2 (x := items[i]) (by simp [hi]) fun h' hit' hs' => ?_
    exact hQ _ h' s.toks (by simp [hi]) ⟨hit', st.2.extBut hs'.extBut hne⟩ hs'
  done := fun s Q E st hE => nextOf_tuple_end hh st.1 st.2 (by simp) hE

theorem meets_enumT (l : Addr) (items : Array Value) (n : Nat) :
    Meets (Builtin.«enumerate.__new__» ⟨[.type "enumerate", .ref l], []⟩) (fun _ R s => s.heap.get? l = some { cls := .type "tuple", data := .seq items n } ∧
      R (.ok (.ret (.ref (s.heap.push { cls := .type "tuple_iterator", data := .fields #[.ref l, .int 0 0] }).objs.size)))
        { s with heap := (s.heap.push { cls := .type "tuple_iterator", data := .fields #[.ref l, .int 0 0] }).push { cls := .type "enumerate", data := .fields #[.none, .bool false, .ref s.heap.objs.size, rawInt 0, .none, .none] } }) :=
  .of_wp fun prog w A R s h => by
    obtain ⟨hp, g, d, tk, os⟩ := s; obtain ⟨hl, h⟩ := h
    have hsub := sub_enumerate
    have hL : Heap.IsTuple (Shared.heap ⟨hp, g, d, tk, os⟩) l items := ⟨_, hl, rfl, n, rfl⟩
    wp_walk using AutoSeq1.wpAny_loadPart' hl
    refine wpAny_stack_any fun st => wpAny_pure ?_
    split
    · rename_i c _ _ _ _ _
      cases (c == Value.type "enumerate")
      · wp_walk using AutoSeq1.wpAny_loadPart' hl, wpAny_pyIter_tuple hL
        exact ⟨_, rfl, h⟩
      · wp_walk using AutoSeq1.wpAny_loadPart' hl, wpAny_pyIter_tuple hL
        exact ⟨_, rfl, h⟩
    · wp_walk using AutoSeq1.wpAny_loadPart' hl, wpAny_pyIter_tuple hL
      exact ⟨_, rfl, h⟩
section
variable {prog : Program} {w : World} {A : Around} {E : Value → Shared → Prop} {s : Shared}
theorem call_enumT {l : Addr} {items : Array Value} {n : Nat} {Q : Value → Shared → Prop} (hl : s.heap.get? l = some { cls := .type "tuple", data := .seq items n })
    (h : ∀ h', IsEnum h' (s.heap.objs.size + 1) s.heap.objs.size 0 .none → h'.IsTupleIter s.heap.objs.size l 0 → h'.objs.size = s.heap.objs.size + 2 →
      (∀ b o, s.heap.get? b = some o → h'.get? b = some o) → Q (.ref (s.heap.objs.size + 1)) { s with heap := h' }) :
    wpAny (model prog w) A (call (.type "enumerate") [.ref l]) Q E s := by
  refine callType_new F.called_enumerate (by decide) (F.typeCall_enumerate_1 _) (F.newCall_enumerate_1 _) (fun obj => F.args_object_init_2 obj _) F.entry_enumerate_new
    (meets_enumT l items n) ⟨hl, ?_⟩
  have hz : (s.heap.push { cls := .type "tuple_iterator", data := .fields #[.ref l, .int 0 0] }).objs.size = s.heap.objs.size + 1 := Heap.size_push ..
  show _ ∧ _
  rw [hz]
  have he : IsEnum ((s.heap.push { cls := .type "tuple_iterator", data := .fields #[.ref l, .int 0 0] }).push
      { cls := .type "enumerate", data := .fields #[.none, .bool false, .ref s.heap.objs.size, rawInt 0, .none, .none] }) (s.heap.objs.size + 1) s.heap.objs.size 0 .none := by
    have := Heap.get?_push_size (s.heap.push { cls := .type "tuple_iterator", data := .fields #[.ref l, .int 0 0] })
      (o := { cls := .type "enumerate", data := .fields #[.none, .bool false, .ref s.heap.objs.size, rawInt 0, .none, .none] }) rfl
    rw [hz] at this; exact this
  refine ⟨⟨_, he, rfl⟩, h _ he ⟨_, Heap.get?_push_of_some _ (Heap.get?_push_size _ rfl), rfl, rfl⟩ (by rw [Heap.size_push, hz]) fun b o x => Heap.get?_push_of_some _ (Heap.get?_push_of_some _ x)⟩
end
end
/-! ## B7 -/
section
section
variable {prog : Program} {w : World} {A : Around} {E : Value → Shared → Prop} {s : Shared} {env : Env} {h₀ : Heap} {Q : Flow → Shared → Prop} {body orelse : List Stmt}

theorem enumK {elts : List Expr} {ek : Nat} {epos : Pos} {l : Addr} {vs : List Value} {n₀ : Nat} {m₀ : Str → Option Value} {σ : Type} (x : Str)
    (Led : σ → List (Addr × Obj)) (ps : σ → List (Str × Value)) (stored : List Str) (Pc : Nat → σ → Prop) (c₀ : σ)
    (hh : A.handled = none) (hl : h₀.get? l = some { cls := .type "tuple", data := .seq vs.toArray n₀ })
    (F : Fr h₀ env.locals s.heap m₀) (N : News h₀ env.locals s.heap (Led c₀)) (hk : ∀ p ∈ ps c₀, m₀ p.1 = some p.2) (hp : Pc 0 c₀)
    (turn : ∀ (c : σ) i v T t own (u : Str → Option Value) h tk, vs[i]? = some v → h.IsTuple T #[.int (i : Int) t, v] → OwnOff own ((Led c₀).map (·.1)) → Pc i c →
      Fr h₀ env.locals h (fun y => if y = x then u y else kstB (fun z => if stored.contains z then u z else m₀ z) (ps c) y) → News h₀ env.locals h (Led c ++ own) →
      wpAny (model prog w) A (assign (.Tuple elts ek epos) env (.ref T)) (fun _ s₂ => wpAny (model prog w) A (execs body env)
        (InvPostN h₀ env.locals (StS Led ps x stored m₀ (Pc (i + 1))) own ((Led c₀).map (·.1)) { s with heap := h, toks := tk } Q) E s₂) E { s with heap := h, toks := tk })
    (done : ∀ (c : σ) (u : Str → Option Value) h tk, Pc vs.length c → Fr h₀ env.locals h (fun y => if y = x then u y else kstB (fun z => if stored.contains z then u z else m₀ z) (ps c) y) → News h₀ env.locals h (Led c) →
      wpAny (model prog w) A (execs orelse env) Q E { s with heap := h, toks := tk })
    (hE : PassesOwn (model prog w) A env E) :
    wpAny (model prog w) A (call (.type "enumerate") [.ref l]) (fun xv s₁ => wpAny (model prog w) A (pyIter xv) (fun it s₂ =>
      codeAny (model prog w) A (.forLoop (.Tuple elts ek epos) it body orelse env) (fun r s' => match r with | .ok f => Q f s' | .error e => cameBackBy (model prog w) A env E e s') s₂) E s₁) E s := by
  have hls := F.keep _ _ hl
  have hlt : l < s.heap.objs.size := Heap.lt_size hls
  refine call_enumT hls fun h' hE' hI hsz hk' => ?_
  refine wpAny_pyIter_enum hE' ?_
  have hLs := F.ns.lt
  have hl0 := Heap.lt_size hl
  have hLl : l < env.locals := Nat.lt_of_lt_of_le hl0 F.above
  have W := KTurns.ofWalksU (elts := elts) (k := ek) (pos := epos) (WalksT.enumerateD (drawsTuple (A := A.in1) hh s.heap.objs.size l (Nat.ne_of_lt hlt) vs.toArray) (prog := prog) (w := w) (s.heap.objs.size + 1) (Nat.succ_ne_self _)
    (by intro hm; rcases List.mem_cons.mp hm with e | hm; exact absurd e (Nat.succ_ne_self _); exact absurd (List.mem_singleton.mp hm) (Nat.ne_of_gt (Nat.lt_succ_of_lt hlt))) (.head _)).toU
  have hnI : h₀.get? s.heap.objs.size = none := next_is_new F
  have hnE : h₀.get? (s.heap.objs.size + 1) = none := by
    cases hq : h₀.get? (s.heap.objs.size + 1) with
    | none => rfl
    | some o =>
      have h1 := Heap.lt_size hq
      have h2 := F.above
      exact absurd (Nat.lt_trans (Nat.lt_of_lt_of_le h1 h2) hLs) (Nat.not_lt.mpr (Nat.le_succ _))
  refine turns_law (s := { s with heap := h' }) x Led ps stored Pc c₀ [] W ?_ ?_ (fun _ => List.forall_mem_nil _) ?_ ?_ ⟨⟨_, hE'⟩, hI, ⟨_, hk' _ _ hls, rfl, _, rfl⟩⟩ (F.keeps hk') (N.grown hk') hk hp ?_ ?_ hE
  · intro hm
    rcases List.mem_cons.mp hm with e | hm
    · exact Nat.ne_of_lt (Nat.lt_succ_of_lt hLs) e
    · rcases List.mem_cons.mp hm with e | hm
      · exact Nat.ne_of_lt hLs e
      · exact Nat.ne_of_gt hLl (List.mem_singleton.mp hm)
  · intro b hb
    rcases List.mem_cons.mp hb with e | hb
    · rw [e]; exact hnE
    · rw [List.mem_singleton.mp hb]; exact hnI
  · intro b hb
    rcases List.mem_cons.mp hb with e | hb
    · exact .inl (e ▸ .head _)
    · rcases List.mem_cons.mp hb with e | hb
      · exact .inl (e ▸ .tail _ (.head _))
      · exact .inr (.inr ⟨_, (List.mem_singleton.mp hb) ▸ hl⟩)
  · intro p hp hb
    have h1 := Heap.lt_size (N p hp).1
    rcases List.mem_cons.mp hb with e | hb
    · exact Nat.ne_of_lt (Nat.lt_succ_of_lt h1) e
    · exact Nat.ne_of_lt h1 (List.mem_singleton.mp hb)
  · rintro c i v own u h tk hi ⟨T, vals, rfl, ⟨t, y, hy, rfl⟩, hT⟩ hoff hP F₁ N₁
    exact turn c i y T t own u h tk (by simpa using hy) hT hoff hP F₁ N₁
  · intro c u h tk hP F₁ N₁
    exact done c u h tk (by simpa using hP) F₁ N₁

theorem tupK {target : Expr} {l : Addr} {vs : List Value} {n₀ : Nat} {m₀ : Str → Option Value} {σ : Type} (x : Str)
    (Led : σ → List (Addr × Obj)) (ps : σ → List (Str × Value)) (stored : List Str) (Pc : Nat → σ → Prop) (c₀ : σ)
    (hh : A.handled = none) (hl : h₀.get? l = some { cls := .type "tuple", data := .seq vs.toArray n₀ })
    (F : Fr h₀ env.locals s.heap m₀) (N : News h₀ env.locals s.heap (Led c₀)) (hk : ∀ p ∈ ps c₀, m₀ p.1 = some p.2) (hp : Pc 0 c₀)
    (turn : ∀ (c : σ) i v own (u : Str → Option Value) h tk, vs[i]? = some v → OwnOff own ((Led c₀).map (·.1)) → Pc i c →
      Fr h₀ env.locals h (fun y => if y = x then u y else kstB (fun z => if stored.contains z then u z else m₀ z) (ps c) y) → News h₀ env.locals h (Led c ++ own) →
      wpAny (model prog w) A (assign target env v) (fun _ s₂ => wpAny (model prog w) A (execs body env)
        (InvPostN h₀ env.locals (StS Led ps x stored m₀ (Pc (i + 1))) own ((Led c₀).map (·.1)) { s with heap := h, toks := tk } Q) E s₂) E { s with heap := h, toks := tk })
    (done : ∀ (c : σ) (u : Str → Option Value) h tk, Pc vs.length c → Fr h₀ env.locals h (fun y => if y = x then u y else kstB (fun z => if stored.contains z then u z else m₀ z) (ps c) y) → News h₀ env.locals h (Led c) →
      wpAny (model prog w) A (execs orelse env) Q E { s with heap := h, toks := tk })
    (hE : PassesOwn (model prog w) A env E) :
    wpAny (model prog w) A (pyIter (.ref l)) (fun it s₂ =>
      codeAny (model prog w) A (.forLoop target it body orelse env) (fun r s' => match r with | .ok f => Q f s' | .error e => cameBackBy (model prog w) A env E e s') s₂) E s := by
  have hls := F.keep _ _ hl
  have hlt : l < s.heap.objs.size := Heap.lt_size hls
  have hl0 := Heap.lt_size hl
  have hLs := F.ns.lt
  have hLl : l < env.locals := Nat.lt_of_lt_of_le hl0 F.above
  have hT : s.heap.IsTuple l vs.toArray := ⟨_, hls, rfl, _, rfl⟩
  refine wpAny_pyIter_tuple hT ?_
  have W := KTurns.ofWalks (target := target) (Walks.tuple (prog := prog) (w := w) hh s.heap.objs.size l (Nat.ne_of_lt hlt) vs.toArray) fun i v s Q E st q => letGo_tupleiter st.1 q
  refine turns_law (s := { s with heap := s.heap.push { cls := .type "tuple_iterator", data := .fields #[.ref l, .int 0 0] } }) x Led ps stored Pc c₀ [] W ?_ ?_ (fun _ => List.forall_mem_nil _) ?_ ?_ ⟨⟨_, Heap.get?_push_size _ rfl, rfl, rfl⟩, hT.at fun o e => Heap.get?_push_of_some _ e⟩ (F.push _) (fun p hp => ⟨Heap.get?_push_of_some _ (N p hp).1, (N p hp).2⟩) hk hp ?_ ?_ hE
  · intro hm
    rcases List.mem_cons.mp hm with e | hm
    · exact Nat.ne_of_lt hLs e
    · exact Nat.ne_of_gt hLl (List.mem_singleton.mp hm)
  · intro b hb
    rw [List.mem_singleton.mp hb]; exact next_is_new F
  · intro b hb
    rcases List.mem_cons.mp hb with e | hb
    · exact .inl (e ▸ .head _)
    · exact .inr (.inr ⟨_, (List.mem_singleton.mp hb) ▸ hl⟩)
  · intro p hp hb
    have h1 := Heap.lt_size (N p hp).1
    exact Nat.ne_of_lt h1 (List.mem_singleton.mp hb)
  · intro c i v own u h tk hi hv hoff hP F₁ N₁
    exact turn c i v own u h tk (by simpa using hv) hoff hP F₁ N₁
  · intro c u h tk hP F₁ N₁
    exact done c u h tk (by simpa using hP) F₁ N₁

theorem tupL {target : Expr} {l : Addr} {vs : List Value} {m₀ : Str → Option Value} {σ : Type} (x : Str)
    (Led : σ → List (Addr × Obj)) (ps : σ → List (Str × Value)) (stored : List Str) (Pc : Nat → σ → Prop) (c₀ : σ)
    (hh : A.handled = none) (hl : ∀ c, (l, ({ cls := .type "tuple", data := .seq vs.toArray } : Obj)) ∈ Led c)
    (F : Fr h₀ env.locals s.heap m₀) (N : News h₀ env.locals s.heap (Led c₀)) (hk : ∀ p ∈ ps c₀, m₀ p.1 = some p.2) (hp : Pc 0 c₀)
    (turn : ∀ (c : σ) i v own (u : Str → Option Value) h tk, vs[i]? = some v → OwnOff own ((Led c₀).map (·.1)) → Pc i c →
      Fr h₀ env.locals h (fun y => if y = x then u y else kstB (fun z => if stored.contains z then u z else m₀ z) (ps c) y) → News h₀ env.locals h (Led c ++ own) →
      wpAny (model prog w) A (assign target env v) (fun _ s₂ => wpAny (model prog w) A (execs body env)
        (InvPostN h₀ env.locals (StS Led ps x stored m₀ (Pc (i + 1))) own ((Led c₀).map (·.1)) { s with heap := h, toks := tk } Q) E s₂) E { s with heap := h, toks := tk })
    (done : ∀ (c : σ) (u : Str → Option Value) h tk, Pc vs.length c → Fr h₀ env.locals h (fun y => if y = x then u y else kstB (fun z => if stored.contains z then u z else m₀ z) (ps c) y) → News h₀ env.locals h (Led c) →
      wpAny (model prog w) A (execs orelse env) Q E { s with heap := h, toks := tk })
    (hE : PassesOwn (model prog w) A env E) :
    wpAny (model prog w) A (pyIter (.ref l)) (fun it s₂ =>
      codeAny (model prog w) A (.forLoop target it body orelse env) (fun r s' => match r with | .ok f => Q f s' | .error e => cameBackBy (model prog w) A env E e s') s₂) E s := by
  have hls := (N _ (hl c₀)).1
  have hlt : l < s.heap.objs.size := Heap.lt_size hls
  have hLs := F.ns.lt
  have hlL : l ≠ env.locals := (N _ (hl c₀)).2.1
  have hT : s.heap.IsTuple l vs.toArray := ⟨_, hls, rfl, _, rfl⟩
  refine wpAny_pyIter_tuple hT ?_
  have W := KTurns.ofWalks (target := target) (Walks.tuple (prog := prog) (w := w) hh s.heap.objs.size l (Nat.ne_of_lt hlt) vs.toArray) fun i v s Q E st q => letGo_tupleiter st.1 q
  refine turns_law (s := { s with heap := s.heap.push { cls := .type "tuple_iterator", data := .fields #[.ref l, .int 0 0] } }) x Led ps stored Pc c₀ [(l, ({ cls := .type "tuple", data := .seq vs.toArray } : Obj))] W ?_ ?_ (fun c p hp => (List.mem_singleton.mp hp) ▸ hl c) ?_ ?_ ⟨⟨_, Heap.get?_push_size _ rfl, rfl, rfl⟩, hT.at fun o e => Heap.get?_push_of_some _ e⟩ (F.push _) (fun p hp => ⟨Heap.get?_push_of_some _ (N p hp).1, (N p hp).2⟩) hk hp ?_ ?_ hE
  · intro hm
    rcases List.mem_cons.mp hm with e | hm
    · exact Nat.ne_of_lt hLs e
    · exact hlL (List.mem_singleton.mp hm).symm
  · intro b hb
    rw [List.mem_singleton.mp hb]; exact next_is_new F
  · intro b hb
    rcases List.mem_cons.mp hb with e | hb
    · exact .inl (e ▸ .head _)
    · have e := List.mem_singleton.mp hb
      subst e
      exact .inr (.inl ⟨_, .head _⟩)
  · intro p hp hb
    have h1 := Heap.lt_size (N p hp).1
    exact Nat.ne_of_lt h1 (List.mem_singleton.mp hb)
  · intro c i v own u h tk hi hv hoff hP F₁ N₁
    exact turn c i v own u h tk (by simpa using hv) hoff hP F₁ N₁
  · intro c u h tk hP F₁ N₁
    exact done c u h tk (by simpa using hP) F₁ N₁
end
end
/-! ## B8 -/
section
section
variable {prog : Program} {w : World} {A : Around} {E : Value → Shared → Prop} {s : Shared} {env : Env} {h₀ : Heap} {x : Str} {body : List Stmt} {Q : Flow → Shared → Prop}
/-- a loop over a range by ones, any state, the ledger may grow -/
theorem range_loop {r : Addr} {a₀ b₀ : Int} {t₀ u₀ v₀ : Tok} {n : Nat} {m₀ : Str → Option Value} {σ : Type} (Led : σ → List (Addr × Obj)) (ps : σ → List (Str × Value)) (stored : List Str) (P : Nat → σ → Prop) (c₀ : σ)
    (hh : A.handled = none) (hr : IsRange s.heap r a₀ b₀ 1 t₀ u₀ v₀) (hsmall : Builtin.Range.small a₀ b₀ 1 = true) (hn : Builtin.Range.rangeSize a₀ b₀ 1 = (n : Int))
    (F : Fr h₀ env.locals s.heap m₀) (N : News h₀ env.locals s.heap (Led c₀)) (hk : ∀ p ∈ ps c₀, m₀ p.1 = some p.2) (hp : P 0 c₀)
    (turn : ∀ (c : σ) (i : Nat) t I oI (u : Str → Option Value) h tk, i < n → (∀ p ∈ Led c, p.1 ≠ I) → P i c →
      Fr h₀ env.locals h (fun y => if y = x then some (.int (a₀ + i) t) else kstB (fun z => if stored.contains z then u z else m₀ z) (ps c) y) → News h₀ env.locals h ((I, oI) :: Led c) →
      wpAny (model prog w) A (execs body env) (InvPostG h₀ env.locals (StS Led ps x stored m₀ (P (i + 1))) [(I, oI)] { s with heap := h, toks := tk } Q) E { s with heap := h, toks := tk })
    (done : ∀ (c : σ) (u : Str → Option Value) h tk, P n c → Fr h₀ env.locals h (fun y => if y = x then u y else kstB (fun z => if stored.contains z then u z else m₀ z) (ps c) y) → News h₀ env.locals h (Led c) → Q .next { s with heap := h, toks := tk }) :
    wpAny (model prog w) A (pyIter (.ref r)) (fun it s₂ => LoopAtV prog w A h₀ env x body Q E it s₂) E s := by
  refine wpAny_pyIter_range hr hsmall ?_
  have W : Walks prog w A s.heap.objs.size [s.heap.objs.size] [s.heap.objs.size] n (fun i v => i < n ∧ ∃ t, v = .int (a₀ + i * 1) t)
      (fun i h => IsRangeIter h s.heap.objs.size (a₀ + (i : Nat) * 1) ((n : Int) - (i : Nat)) 1) := (Walks.range hh _ a₀ 1 n).bound
  have hIL : env.locals ≠ s.heap.objs.size := fun e => absurd F.ns.lt (e ▸ Nat.lt_irrefl _)
  have hI0 : h₀.get? s.heap.objs.size = none := next_is_new F
  refine ⟨s.heap.objs.size, [s.heap.objs.size], [s.heap.objs.size], n, _, _, m₀, Led c₀, (fun i m nx => StS Led ps x stored m₀ (P i) m nx), rfl, W, ?_, ?_, ?_, (by show IsRangeIter _ _ _ _ _; rw [hn]; simpa using Heap.get?_push_size _ rfl), F.push _, (fun p hp => ⟨Heap.get?_push_of_some _ (N p hp).1, (N p hp).2⟩), ⟨c₀, rfl, hk, fun _ _ _ _ => rfl, hp⟩, ?_, ?_⟩
  · intro hm
    exact hIL (List.mem_singleton.mp hm)
  · intro b hb
    rw [List.mem_singleton.mp hb]
    exact hI0
  · intro p hp hI
    exact absurd (Heap.lt_size (N p hp).1) ((List.mem_singleton.mp hI) ▸ Nat.lt_irrefl _)
  · rintro i v m₁ news₁ s₁ own ⟨hh', tk', rfl⟩ hin ⟨_, t, rfl⟩ ⟨c, rfl, h1, h2, hPc⟩ hoff hown hget hfp hst₁ F₁ N₁
    obtain ⟨oI, hoI⟩ : ∃ oI, hh'.get? s.heap.objs.size = some oI := ⟨_, hst₁⟩
    have hIown := hfp _ (List.mem_singleton.mpr rfl) hI0 _ hoI
    have hne : ∀ p ∈ Led c, p.1 ≠ s.heap.objs.size := fun p hp e => hoff p hp (List.mem_singleton.mpr e)
    have N₂ : News h₀ env.locals hh' ((s.heap.objs.size, oI) :: Led c) := fun p hp => N₁ p ((List.mem_cons.mp hp).elim (fun h => List.mem_append.mpr (.inl (h ▸ hIown))) fun h => List.mem_append.mpr (.inr h))
    have e1 : a₀ + (i : Int) * 1 = a₀ + (i : Int) := by omega
    rw [e1] at F₁
    refine wpAny_mono (turn c i t s.heap.objs.size oI m₁ hh' tk' hin hne hPc (kst_fr h1 h2 F₁) N₂) (fun f s₂ p => ?_) fun _ _ e => e
    have fin : ∀ s₂, InvEndG h₀ env.locals (StS Led ps x stored m₀ (P (i + 1))) [(s.heap.objs.size, oI)] { s with heap := hh', toks := tk' } s₂ → LoopStepU h₀ env.locals [s.heap.objs.size] own (StS Led ps x stored m₀ (P (i + 1))) { s with heap := hh', toks := tk' } .next s₂ := by
      rintro s₂ ⟨h', tk, m', news', nx, e, F', N', hn, ho, ha, hm⟩
      refine ⟨rfl, h', tk, m', nx, e, F', fun p hp => ?_, fun p hp hq => ?_, hm⟩
      · rcases List.mem_append.mp hp with h | h
        · have h3 : p.1 = s.heap.objs.size := by simpa using hown p h
          have h4 : hh'.get? p.1 = some p.2 := hget p h
          have e4 : p = (s.heap.objs.size, oI) := Prod.ext h3 (by rw [h3, hoI] at h4; exact (Option.some.inj h4).symm)
          exact N' p (ho p (e4 ▸ .head _))
        · exact N' p (hn p h)
      · exact ha _ (.head _) p.1 (List.mem_map.mpr ⟨p, hp, rfl⟩) (List.mem_singleton.mp hq).symm
    cases f with
    | ret v => exact .ret p
    | brk => exact .brk p
    | next => exact .next (fin _ p)
    | cont => exact .cont (fin _ p)
  · rintro h' tk m' news' F' N' _ ⟨c, rfl, h1, h2, hPc⟩
    exact done c m' h' tk hPc (kst_frOut h1 h2 F') N'
end
end
/-! ## C1 -/
section
local macro_rules | `(tactic| walk_at "call builtin:issubclass") => `(tactic| (k_here; (with_reducible show wpAny _ _ (call (Value.builtin _) [Value.type "str", Value.ref _]) _ _ _); k_dflt (refine' call_issub ?k1 ?k2 ?_; (case k1 => k_asm); (case k2 => k_mem); k_whole)))

theorem fspath_c {x : Str} {t : Tok} {w : World} {mean : ExcName → Option Value} {mg mb : Str → Option Value} {news : List (Addr × Obj)} {dp un : Nat} {gd : Option (List Code)} {cn : Str} {cs : Scope} {a : Addr} {ccd : Value} {cl : List (Str × Addr)} {outer : List Env} {A₀ : Around} {base h₀ : Heap} {L : Addr} {m : Str → Option Value} {s : Shared} {Q E : Value → Shared → Prop}
    (B : Below A₀ base outer h₀) (F : Fr h₀ L s.heap m) (X : (hd.heap_1 w.params).In h₀) (N : News h₀ L s.heap news)
    (T : Top vw (looseW vw lo) mean mg mb h₀)
    (hkf : cs.kind = .function) (hdp : dp + 2 < recursionLimit) (hun : un + 8 * 2 < cLine)
    (hret : ∀ h' tk', Fr h₀ L h' m → News h₀ L h' news → Q (.str x t) { s with heap := h', toks := tk' }) :
    wpAny (model PySem.Challenge.rw_il0069_01.row.prog w) (ktrTop dp un gd cn cs L a ccd cl outer) (call (.ref 128) [.str x t]) Q E s := by
  revert X; k_fill; intro X
  refine wpAny_call ?_
  k_dflt cell_enter
  k_steps
  all_goals ((rename Fr _ _ _ _ => F9); (rename News _ _ _ _ => N9); exact hret _ _ F9 (fun p hp => N9 p (.tail _ hp)))

theorem get_sep_c {x : Str} {t : Tok} {w : World} {mean : ExcName → Option Value} {mg mb : Str → Option Value} {news : List (Addr × Obj)} {dp un : Nat} {gd : Option (List Code)} {cn : Str} {cs : Scope} {a : Addr} {ccd : Value} {cl : List (Str × Addr)} {outer : List Env} {A₀ : Around} {base h₀ : Heap} {L : Addr} {m : Str → Option Value} {s : Shared} {Q E : Value → Shared → Prop}
    (B : Below A₀ base outer h₀) (F : Fr h₀ L s.heap m) (X : (hd.heap_1 w.params).In h₀) (N : News h₀ L s.heap news)
    (T : Top vw (looseW vw lo) mean mg mb h₀)
    (hkf : cs.kind = .function) (hdp : dp + 2 < recursionLimit) (hun : un + 8 * 2 < cLine)
    (hret : ∀ t' h' tk', Fr h₀ L h' m → News h₀ L h' news → Q (.str (Str.ofString "/") t') { s with heap := h', toks := tk' }) :
    wpAny (model PySem.Challenge.rw_il0069_01.row.prog w) (ktrTop dp un gd cn cs L a ccd cl outer) (call (.ref 142) [.str x t]) Q E s := by
  revert X; k_fill; intro X
  refine wpAny_call ?_
  k_dflt cell_enter
  k_steps
  all_goals ((rename Fr _ _ _ _ => F9); (rename News _ _ _ _ => N9); exact hret _ _ _ F9 N9)

theorem s_ifmt_c {x : Int} {t : Tok} {w : World} {mean : ExcName → Option Value} {mg mb : Str → Option Value} {news : List (Addr × Obj)} {dp un : Nat} {gd : Option (List Code)} {cn : Str} {cs : Scope} {a : Addr} {ccd : Value} {cl : List (Str × Addr)} {outer : List Env} {A₀ : Around} {base h₀ : Heap} {L : Addr} {m : Str → Option Value} {s : Shared} {Q E : Value → Shared → Prop}
    (B : Below A₀ base outer h₀) (F : Fr h₀ L s.heap m) (X : (hd.heap_1 w.params).In h₀) (N : News h₀ L s.heap news)
    (T : Top vw (looseW vw lo) mean mg mb h₀)
    (hkf : cs.kind = .function) (hdp : dp + 2 < recursionLimit) (hun : un + 8 * 2 < cLine)
    (hret : ∀ t' h' tk', Fr h₀ L h' m → News h₀ L h' news → Q (.int (Builtin.bitAnd x 61440) t') { s with heap := h', toks := tk' }) :
    wpAny (model PySem.Challenge.rw_il0069_01.row.prog w) (ktrTop dp un gd cn cs L a ccd cl outer) (call (.ref 177) [.int x t]) Q E s := by
  revert X; k_fill; intro X
  refine wpAny_call ?_
  k_dflt cell_enter
  k_steps
  all_goals ((rename Fr _ _ _ _ => F9); (rename News _ _ _ _ => N9); exact hret _ _ _ F9 N9)
end
local macro_rules | `(tactic| walk_at "call ref") => `(tactic| (
  k_here; (with_reducible show wpAny _ _ (call (Value.ref 128) [Value.str _ _] []) _ _ _); k_dflt (refine' fspath_c ?k1 ?k2 ?k3 ?k4 ?k5 ?k6 ?k7 ?k8 ?_; (case k1 => k_asm); (case k2 => k_asm); (case k3 => k_asm); (case k4 => k_asm); (case k5 => k_asm); (case k6 => first | exact rfl | assumption); (case k7 => ktr_room); (case k8 => ktr_units); k_whole); intro h9 tk9 F9 N9; (try dsimp only); (try k_fold)))
local macro_rules | `(tactic| walk_at "call ref") => `(tactic| (
  k_here; (with_reducible show wpAny _ _ (call (Value.ref 142) [Value.str _ _] []) _ _ _); k_dflt (refine' get_sep_c ?k1 ?k2 ?k3 ?k4 ?k5 ?k6 ?k7 ?k8 ?_; (case k1 => k_asm); (case k2 => k_asm); (case k3 => k_asm); (case k4 => k_asm); (case k5 => k_asm); (case k6 => first | exact rfl | assumption); (case k7 => ktr_room); (case k8 => ktr_units); k_whole); intro t9 h9 tk9 F9 N9; (try dsimp only); (try k_fold)))
local macro_rules | `(tactic| walk_at "call ref") => `(tactic| (
  k_here; (with_reducible show wpAny _ _ (call (Value.ref 177) [Value.int _ _] []) _ _ _); k_dflt (refine' s_ifmt_c ?k1 ?k2 ?k3 ?k4 ?k5 ?k6 ?k7 ?k8 ?_; (case k1 => k_asm); (case k2 => k_asm); (case k3 => k_asm); (case k4 => k_asm); (case k5 => k_asm); (case k6 => first | exact rfl | assumption); (case k7 => ktr_room); (case k8 => ktr_units); k_whole); intro t9 h9 tk9 F9 N9; (try dsimp only); (try k_fold)))
/-! ## C2 -/
section
local macro_rules | `(tactic| walk_at "call ref") => `(tactic| (
  k_here; (with_reducible show wpAny _ _ (call (Value.ref 128) [Value.str _ _] []) _ _ _); k_dflt (refine' fspath_c ?k1 ?k2 ?k3 ?k4 ?k5 ?k6 ?k7 ?k8 ?_; (case k1 => k_asm); (case k2 => k_asm); (case k3 => k_asm); (case k4 => k_asm); (case k5 => k_asm); (case k6 => first | exact rfl | assumption); (case k7 => ktr_room); (case k8 => ktr_units); k_whole); intro h9 tk9 F9 N9; (try dsimp only); (try k_fold)))
theorem slice1_ne {x : Str} (hx : 0 < x.length) (hx0 : x.cps[0]? ≠ some 47) : (Txt.slice x none (some 1) != Str.ofString "/") = true := by
  have h := slice_closes_toL (x := x) (j := 1) (by decide) (by omega)
  have h2 : Txt.slice x none (some 1) = ⟨((x.cps.toList.drop (0 : Int).toNat).take ((1 : Int) - 0).toNat).toArray⟩ := eq_of_beq h
  rw [h2]
  obtain ⟨⟨l⟩⟩ := x
  cases l with
  | nil => cases hx
  | cons c r =>
    have hc : c ≠ 47 := by intro e; apply hx0; simp [e]
    have e47 : Str.ofString "/" = (⟨#[47]⟩ : Str) := by decide +kernel
    rw [e47]
    simpa using hc

theorem splitroot_c {x : Str} {t : Tok} {w : World} {mean : ExcName → Option Value} {mg mb : Str → Option Value} {news : List (Addr × Obj)} {dp un : Nat} {gd : Option (List Code)} {cn : Str} {cs : Scope} {a : Addr} {ccd : Value} {cl : List (Str × Addr)} {outer : List Env} {A₀ : Around} {base h₀ : Heap} {L : Addr} {m : Str → Option Value} {s : Shared} {Q E : Value → Shared → Prop}
    (B : Below A₀ base outer h₀) (F : Fr h₀ L s.heap m) (X : (hd.heap_1 w.params).In h₀) (N : News h₀ L s.heap news)
    (T : Top vw (looseW vw lo) mean mg mb h₀)
    (hkf : cs.kind = .function) (hdp : dp + 4 < recursionLimit) (hun : un + 8 * 4 < cLine) (hx : 0 < x.length) (hxs : x.length ≤ 1048576) (hx0 : x.cps[0]? ≠ some 47)
    (hret : ∀ h' tk' l t1 t2 t3, Fr h₀ L h' m → News h₀ L h' ((l, ({ cls := .type "tuple", data := .seq #[.str Str.empty t1, .str Str.empty t2, .str x t3] } : Obj)) :: news) → (∀ p ∈ news, p.1 < l) → Q (.ref l) { s with heap := h', toks := tk' }) :
    wpAny (model PySem.Challenge.rw_il0069_01.row.prog w) (ktrTop dp un gd cn cs L a ccd cl outer) (call (.ref 163) [.str x t]) Q E s := by
  have hne := slice1_ne hx hx0
  revert X; k_fill; intro X
  refine wpAny_call ?_
  k_dflt cell_enter
  k_steps
  all_goals ((rename Fr _ _ _ _ => F9); (rename News _ _ _ _ => N9); exact hret _ _ _ _ _ _ F9 N9 (by assumption))
end
/-! ## C3 -/
section
def splitTop (x : Str) : Str := Txt.slice x none (some (Txt.rfind x (Str.ofString "/") + 1))
def splitHd (x : Str) : Str := if ((splitTop x).length : Int) ≠ 0 ∧ (splitTop x != Txt.mul (Str.ofString "/") (splitTop x).length) = true then Txt.rstripChars (splitTop x) (Str.ofString "/") else splitTop x
def splitTl (x : Str) : Str := Txt.slice x (some (Txt.rfind x (Str.ofString "/") + 1)) none
theorem split_c {x : Str} {t : Tok} {w : World} {mean : ExcName → Option Value} {mg mb : Str → Option Value} {news : List (Addr × Obj)} {dp un : Nat} {gd : Option (List Code)} {cn : Str} {cs : Scope} {a : Addr} {ccd : Value} {cl : List (Str × Addr)} {outer : List Env} {A₀ : Around} {base h₀ : Heap} {L : Addr} {m : Str → Option Value} {s : Shared} {Q E : Value → Shared → Prop}
    (B : Below A₀ base outer h₀) (F : Fr h₀ L s.heap m) (X : (hd.heap_1 w.params).In h₀) (N : News h₀ L s.heap news)
    (T : Top vw (looseW vw lo) mean mg mb h₀)
    (hkf : cs.kind = .function) (hdp : dp + 4 < recursionLimit) (hun : un + 8 * 4 < cLine) (hxs : x.length ≤ 1048576)
    (hret : ∀ h' tk' l t1 t2 hd, hd = splitHd x → Fr h₀ L h' m → News h₀ L h' ((l, ({ cls := .type "tuple", data := .seq #[.str hd t1, .str (splitTl x) t2] } : Obj)) :: news) → (∀ p ∈ news, p.1 < l) → Q (.ref l) { s with heap := h', toks := tk' }) :
    wpAny (model PySem.Challenge.rw_il0069_01.row.prog w) (ktrTop dp un gd cn cs L a ccd cl outer) (call (.ref 156) [.str x t]) Q E s := by
  revert X; k_fill; intro X
  refine wpAny_call ?_
  k_dflt cell_enter
  k_steps
  all_goals (
    (rename Fr _ _ _ _ => F9)
    (rename News _ _ _ _ => N9)
    (rename (_ < _) ∧ AllLt _ _ => l9)
    refine hret _ _ _ _ _ _ ?_ F9 (fun p hp => (List.mem_cons.mp hp).elim (fun e => N9 p (e ▸ .head _)) (fun e => N9 p (.tail _ (.tail _ e)))) (kst_ltOf l9.2)
    unfold splitHd splitTop
    first
    | exact (if_pos ⟨by assumption, by assumption⟩).symm
    | exact (if_neg (fun hh => hh.1 (by assumption))).symm
    | ((rename (_ != _) = false => hb9); exact (if_neg (fun hh => Bool.false_ne_true (hb9.symm.trans hh.2))).symm))
end
local macro_rules | `(tactic| walk_at "call ref") => `(tactic| (
  k_here; (with_reducible show wpAny _ _ (call (Value.ref 163) [Value.str _ _] []) _ _ _); k_dflt (refine' splitroot_c ?k1 ?k2 ?k3 ?k4 ?k5 ?k6 ?k7 ?k8 ?k9 ?k10 ?k11 ?_; (case k1 => k_asm); (case k2 => k_asm); (case k3 => k_asm); (case k4 => k_asm); (case k5 => k_asm); (case k6 => first | exact rfl | assumption); (case k7 => ktr_room); (case k8 => ktr_units); (case k9 => first | assumption | omega); (case k10 => first | assumption | omega); (case k11 => assumption); k_whole); intro h9 tk9 l9 ta9 tb9 tc9 F9 N9 lt9; (try k_lt lt9); (try dsimp only); (try k_fold)))
local macro_rules | `(tactic| walk_at "call ref") => `(tactic| (
  k_here; (with_reducible show wpAny _ _ (call (Value.ref 156) [Value.str _ _] []) _ _ _); k_dflt (refine' split_c ?k1 ?k2 ?k3 ?k4 ?k5 ?k6 ?k7 ?k8 ?k9 ?_; (case k1 => k_asm); (case k2 => k_asm); (case k3 => k_asm); (case k4 => k_asm); (case k5 => k_asm); (case k6 => first | exact rfl | assumption); (case k7 => ktr_room); (case k8 => ktr_units); (case k9 => first | assumption | omega); k_whole); intro h9 tk9 l9 ta9 tb9 hd9 he9 F9 N9 lt9; (try k_lt lt9); (try dsimp only); (try k_fold)))
/-! ## C7 -/
section
local macro_rules | `(tactic| walk_at "subscriptTail Name Slice ref ref") => `(tactic| (k_here; (with_reducible show wpAny _ _ (subscriptTail _ (PySem.Expr.Slice none none (some _) _) (Value.ref _) (Value.ref _)) _ _ _); k_dflt (refine' krv_lit ?F ?N ?l ?k ?e ?_ ?s ?t ?z; (case F => k_asm); (case N => k_asm); (case l => kmk_list); (case k => exact IsPart.int _ _); (case e => exact rfl); (case s => with_unfolding_all rfl); (case t => kmk_pure); (case z => size_fits)); intro D' h' F' N' l1; (try k_sweep)))
def apartN : Nat → Str → List Str → Str × List Str
  | 0, p, ns => (p, ns)
  | n + 1, p, ns => if (apartN n p ns).1 = Str.empty then apartN n p ns else (splitHd (apartN n p ns).1, (apartN n p ns).2 ++ [splitTl (apartN n p ns).1])
theorem splitHd_le (x : Str) : (splitHd x).length ≤ x.length := by
  unfold splitHd splitTop
  split
  · exact Nat.le_trans (len_rstripChars _ _) (Txt.slice_le _ _ _)
  · exact Txt.slice_le _ _ _
theorem apartN_go {n : Nat} {x p : Str} {xs : List Str} (h : apartN n x [] = (p, xs)) (hp : p ≠ Str.empty) : apartN (n + 1) x [] = (splitHd p, xs ++ [splitTl p]) := by
  show (if _ then _ else _) = _
  rw [h]
  exact if_neg hp
theorem apartN_stay {n : Nat} {x p : Str} {xs : List Str} (h : apartN n x [] = (p, xs)) (hp : p = Str.empty) : apartN (n + 1) x [] = (p, xs) := by
  show (if _ then _ else _) = _
  rw [h]
  exact if_pos hp
theorem apart_c {x : Str} {t : Tok} {w : World} {mean : ExcName → Option Value} {mg mb : Str → Option Value} {news : List (Addr × Obj)} {dp un : Nat} {gd : Option (List Code)} {cn : Str} {cs : Scope} {a : Addr} {ccd : Value} {cl : List (Str × Addr)} {outer : List Env} {A₀ : Around} {base h₀ : Heap} {L : Addr} {m : Str → Option Value} {s : Shared} {Q E : Value → Shared → Prop}
    (B : Below A₀ base outer h₀) (F : Fr h₀ L s.heap m) (X : (hd.heap_1 w.params).In h₀) (N : News h₀ L s.heap news)
    (T : Top vw (looseW vw lo) mean mg mb h₀)
    (hkf : cs.kind = .function) (hdp : dp + 8 < recursionLimit) (hun : un + 8 * 8 < cLine) (hxs : x.length ≤ 1048576)
    (hret : ∀ h' tk' l vals, StrsAre vals (apartN 12 x []).2.reverse → Fr h₀ L h' m → News h₀ L h' ((l, listOf vals.toArray 0) :: news) → (∀ p ∈ news, p.1 < l) → Q (.ref l) { s with heap := h', toks := tk' }) :
    wpAny (model PySem.Challenge.rw_il0069_01.row.prog w) (ktrTop dp un gd cn cs L a ccd cl outer) (call (.ref 238) [.str x t]) Q E s := by
  revert X; k_fill; intro X
  refine wpAny_call ?_
  k_dflt cell_enter
  (k_with "pyIter ref" => (refine Stop.intro ?_))
  k_steps
  refine Stop.out ?_
  (rename Fr _ _ _ _ => F9)
  (rename News _ _ _ _ => N9)
  (rename IsRange _ _ _ _ _ _ _ _ => R9)
  have mk9 := kstMark
  refine kst_range (σ := Str × Tok × List Value × Nat) (fun c => (_, listOf c.2.2.1.toArray c.2.2.2) :: news) (fun c => [(Str.ofString "path", .str c.1 c.2.1)]) (fun c => c.1.length ≤ 1048576) [Str.ofString "last"] (fun pre c => c.2.2.1.length ≤ pre.length ∧ ∃ xs, StrsAre c.2.2.1 xs ∧ apartN pre.length x [] = (c.1, xs)) (x, t, [], 0) (by rfl) R9 (by decide) (rangeSize_nat 0 12) F9 N9 ?gf ?gk ?gp ?gt ?gd
  case gf => exact hxs
  case gk => kst_all
  case gp => exact ⟨Nat.zero_le _, [], StrsAre.nil, rfl⟩
  case gt =>
    clear F9 N9
    rintro ⟨p, tp, vs, n⟩ pre k tk u h9 tk9 own hk hlt hoff hf1 ⟨hf2, xs, hxs1, hxs2⟩ F9 N9
    dsimp only at hf1 hf2 hxs1 hxs2 F9 N9
    (try simp only [List.cons_append, List.nil_append] at N9)
    (try k_fold)
    k_steps
    · (rename _ = splitHd _ => he9)
      (rename (_ != _) = true => hc9)
      (rename News _ _ _ _ => nE)
      (simp only [List.push_toArray] at nE)
      refine kst_end ⟨_, _, _, _⟩ (by assumption) nE (by first | kst_in | kst_inAny) (by first | (intro p hp; kst_mem) | kst_anyIn) (by rfl) ?gf (by kst_all) ?gr ?gp
      case gr =>
        intro z h1 h2 h3
        have h4 : z ≠ Str.ofString "path" := h2 _ (List.Mem.head _)
        have h5 : z ≠ Str.ofString "last" := by
          intro e; subst e; revert h3; decide +kernel
        simp [kstB, h1, h4, h5]
      case gf =>
        dsimp only
        rw [he9]
        exact Nat.le_trans (splitHd_le _) hf1
      case gp =>
        dsimp only
        rw [he9]
        refine ⟨by simp only [List.length_append, List.length_cons, List.length_nil]; omega, _, kct_snoc hxs1, ?_⟩
        rw [List.length_append]
        refine apartN_go hxs2 ?_
        rintro rfl
        revert hc9; decide +kernel
    · (rename (_ != _) = false => hc9)
      (rename News _ _ _ _ => nE)
      refine kst_end ⟨_, _, _, _⟩ (by assumption) nE (by first | kst_in | kst_inAny) (by first | (intro p hp; kst_mem) | kst_anyIn) (by rfl) ?gf (by kst_all) ?gr ?gp
      case gr =>
        intro z h1 h2 h3
        have h4 : z ≠ Str.ofString "path" := h2 _ (List.Mem.head _)
        have h5 : z ≠ Str.ofString "last" := by
          intro e; subst e; revert h3; decide +kernel
        simp [kstB, h1, h4, h5]
      case gf => exact hf1
      case gp =>
        dsimp only
        refine ⟨by simp only [List.length_append, List.length_cons, List.length_nil]; omega, _, hxs1, ?_⟩
        rw [List.length_append]
        refine apartN_stay hxs2 ?_
        have he : p = Str.ofString "" := by simpa using hc9
        rw [he]; decide +kernel
  case gd =>
    clear F9 N9
    rintro ⟨p, tp, vs, n⟩ u h9 tk9 hf1 ⟨hf2, xs, hxs1, hxs2⟩ F9 N9
    dsimp only at hf1 hf2 hxs1 hxs2 F9 N9
    (try k_fold)
    k_steps
    (rename Fr _ _ _ _ => F8)
    (rename News _ _ _ _ => N8)
    (rename (∀ p : Addr × Obj, p ∈ (_ : List (Addr × Obj)) → p.1 < _) => l8)
    have e12 : (rangeKs 0 (12 - 0 : Int).toNat).length = 12 := by decide
    rw [e12] at hxs2
    refine hret _ _ _ _ ?_ F8 (fun p hp => (List.mem_cons.mp hp).elim (fun e => N8 p (e ▸ .head _)) (fun e => N8 p (.tail _ (.tail _ e)))) (fun p hp => l8 p (.tail _ hp))
    rw [hxs2]
    exact strs_rev hxs1
end
section
local macro_rules | `(tactic| walk_at "MY strs") => `(tactic| first | exact StrsAre.nil | assumption | (refine StrsAre.cons _ _ ?_; walk_at "MY strs"))
local macro_rules | `(tactic| walk_at "MY oks") => `(tactic| first | exact List.forall_mem_nil _ | assumption | (refine List.forall_mem_cons.mpr ⟨by first | assumption | decide +kernel, ?_⟩; walk_at "MY oks"))
local macro_rules | `(tactic| walk_at "compareOp Eq ref ref") => `(tactic| (k_here; (with_reducible show wpAny _ _ (compareOp CmpOp.Eq (Value.ref _) (Value.ref _)) _ _ _); k_dflt (refine' eq_strsL ?N ?a ?b ?c ?d ?e ?f ?g ?_; (case N => k_asm); (case a => k_mem); (case b => k_mem); (case c => walk_at "MY strs"); (case d => walk_at "MY strs"); (case e => walk_at "MY oks"); (case f => walk_at "MY oks"); (case g => first | ktr_units | ke_room)); (try simp only [List.append_eq_nil_iff, reduceCtorEq, and_false, decide_true, decide_false, Bool.not_true, Bool.not_false])))
local macro_rules | `(tactic| walk_at "compareOp NotEq ref ref") => `(tactic| (k_here; (with_reducible show wpAny _ _ (compareOp CmpOp.NotEq (Value.ref _) (Value.ref _)) _ _ _); k_dflt (refine' ne_strsL ?N ?a ?b ?c ?d ?e ?f ?g ?_; (case N => k_asm); (case a => k_mem); (case b => k_mem); (case c => walk_at "MY strs"); (case d => walk_at "MY strs"); (case e => walk_at "MY oks"); (case f => walk_at "MY oks"); (case g => first | ktr_units | ke_room)); (try simp only [List.append_eq_nil_iff, reduceCtorEq, and_false, decide_true, decide_false, Bool.not_true, Bool.not_false])))
local macro_rules | `(tactic| walk_at "truthy ref") => `(tactic| (k_here; (with_reducible show wpAny _ _ (truthy (Value.ref _)) _ _ _); k_dflt (refine' truthy_strsL ?N ?a ?c ?b ?_; (case N => k_asm); (case a => k_mem); (case c => walk_at "MY strs"); (case b => first | omega | (simp only [List.length_append, List.length_cons, List.length_nil]; omega)))))
local macro_rules | `(tactic| walk_at "subscriptTail") => `(tactic| (k_here; (with_reducible show wpAny _ _ (subscriptTail _ _ (Value.ref _) (Value.int (-1) _)) _ _ _); k_dflt (refine' item_last ?N ?a ?_ ?s; (case N => k_asm); (case a => k_mem); (case s => with_unfolding_all rfl))))
local macro_rules | `(tactic| walk_at "subscriptTail Name Slice ref ref") => `(tactic| (k_here; (with_reducible show wpAny _ _ (subscriptTail _ (PySem.Expr.Slice _ _ none _) (Value.ref _) (Value.ref _)) _ _ _); k_dflt (refine' kms_slice_lit ?F ?N ?l ?p ?q ?e ?_ ?s ?t ?z; (case F => k_asm); (case N => k_asm); (case l => kmk_list); (case p => kmk_part); (case q => kmk_part); (case e => exact rfl); (case s => with_unfolding_all rfl); (case t => kmk_pure); (case z => size_fits)); intro D' h' F' N' l1; (try k_lt l1); (try k_sweep)))
/-! ## C4 -/
section
def joinStep (p b : Str) : Str := p ++ (Str.ofString "/" ++ b)
theorem join_c {x x1 x2 x3 x4 x5 x6 x7 x8 x9 : Str} {t t1 t2 t3 t4 t5 t6 t7 t8 t9 : Tok} {w : World} {mean : ExcName → Option Value} {mg mb : Str → Option Value} {news : List (Addr × Obj)} {dp un : Nat} {gd : Option (List Code)} {cn : Str} {cs : Scope} {a : Addr} {ccd : Value} {cl : List (Str × Addr)} {outer : List Env} {A₀ : Around} {base h₀ : Heap} {L : Addr} {m : Str → Option Value} {s : Shared} {Q E : Value → Shared → Prop}
    (B : Below A₀ base outer h₀) (F : Fr h₀ L s.heap m) (X : (hd.heap_1 w.params).In h₀) (N : News h₀ L s.heap news)
    (T : Top vw (looseW vw lo) mean mg mb h₀)
    (hkf : cs.kind = .function) (hdp : dp + 16 < recursionLimit) (hun : un + 8 * 16 < cLine) (hx : Plain x ∧ x.length ≤ 10)
    (hxr : ∀ r ∈ [x1, x2, x3, x4, x5, x6, x7, x8, x9], Plain r ∧ r.length ≤ 10)
    (hret : ∀ t' h' tk', Fr h₀ L h' m → News h₀ L h' news → Q (.str ([x1, x2, x3, x4, x5, x6, x7, x8, x9].foldl joinStep x) t') { s with heap := h', toks := tk' }) :
    wpAny (model PySem.Challenge.rw_il0069_01.row.prog w) (ktrTop dp un gd cn cs L a ccd cl outer) (call (.ref 149) [.str x t, .str x1 t1, .str x2 t2, .str x3 t3, .str x4 t4, .str x5 t5, .str x6 t6, .str x7 t7, .str x8 t8, .str x9 t9]) Q E s := by
  revert X; k_fill; intro X
  refine wpAny_call ?_
  k_dflt (refine' kp_rest ?k1 ?k2 ?k3 ?k4 ?k5 ?kA ?kF ?kK ?k6 ?k7 ?k8 ?kV ?kP ?kG ?kB ?_ ?c2 ?c3 ?c4 ?c5; (case kA => exact rfl); (case kF => exact rfl); (case kK => assumption); (case k1 => k_asm); (case k2 => k_asm); (case k3 => k_asm); (case k4 => k_asm); (case k5 => k_asm); (case k6 => k_is); (case k7 => k_is); (case k8 => ktr_room); (case kV => kl_lit); (case kP => exact rfl); (case kG => exact fun _ => rfl); (case kB => exact fun _ => locs rfl); (case c5 => decide); (case c2 => exact rfl); (case c3 => exact rfl); (case c4 => exact rfl); k_whole)
  intro D' g' L' h' l1 FG' F' N' B' X' T'
  (try k_lt l1); (try dsimp only); (try k_lift B'); (try k_fold)
  (k_with "pyIter ref" => (refine Stop.intro ?_))
  k_steps
  (rename Fr _ _ _ _ => F9)
  with_unfolding_all refine' For_invVF F9 ?k1 ?k2 ?_
  case k1 => exact rfl
  case k2 => exact rfl
  k_steps
  refine Stop.out ?_
  (rename Fr _ _ _ _ => F8)
  (rename News _ _ _ _ => N8)
  have mk9 := kstMark
  have hss0 : StrsAre [.str x1 t1, .str x2 t2, .str x3 t3, .str x4 t4, .str x5 t5, .str x6 t6, .str x7 t7, .str x8 t8, .str x9 t9] [x1, x2, x3, x4, x5, x6, x7, x8, x9] := by repeat constructor
  refine tuple_loop (l := D') (vs := [.str x1 t1, .str x2 t2, .str x3 t3, .str x4 t4, .str x5 t5, .str x6 t6, .str x7 t7, .str x8 t8, .str x9 t9]) (σ := Str × Tok) (fun c => (D', ({ cls := .type "tuple", data := .seq [.str x1 t1, .str x2 t2, .str x3 t3, .str x4 t4, .str x5 t5, .str x6 t6, .str x7 t7, .str x8 t8, .str x9 t9].toArray } : Obj)) :: news) (fun c => [(Str.ofString "path", .str c.1 c.2)]) []
    (fun i c => ([x1, x2, x3, x4, x5, x6, x7, x8, x9].take i).foldl joinStep x = c.1 ∧ EndOk c.1 ∧ c.1.length ≤ 10 + 11 * i) (x, t) (by rfl) (fun c => .head _) F8 N8 ?gk ?gp ?gt ?gd
  case gk => kst_all
  case gp => exact ⟨rfl, endOk_plain hx.1, hx.2⟩
  case gt =>
    clear F8 N8
    rintro ⟨p, tp⟩ i v I oI u h9 tk9 hi hv hoff ⟨hfo, hen, hpl⟩ F9 N9
    dsimp only at hfo hoff hen hpl F9 N9
    have hi9 : i < 9 := hi
    obtain ⟨r, tr, rfl, hr⟩ := strs_at hss0 hv
    have hrm := hxr r (List.mem_of_getElem? hr)
    have hs1 := starts_sl hrm.1
    have hs2 := ends_sl hen
    have hrl : r.length ≤ 10 := hrm.2
    have hp0 : 0 < p.length := hen.1
    have hpl' : p.length ≤ 1000 := by omega
    have hID := neN (hoff _ (.head _))
    have hIn : ∀ p ∈ news, p.1 ≠ I := fun p hp => hoff p (.tail _ hp)
    (try k_fold)
    k_steps
    all_goals (try (exfalso; omega))
    (rename News _ _ _ _ => nE)
    refine st_end ⟨p ++ (Str.ofString "/" ++ r), _⟩ (by assumption) nE (by first | kst_in | kst_inAny) (by first | k_mem | kst_mem) ?ga (by kst_all) ?gr ?gp
    case ga => exact List.forall_mem_cons.mpr ⟨hID, hIn⟩
    case gr => (intro z h1 h2 h3; have h4 : z ≠ Str.ofString "path" := h2 _ (List.Mem.head _); simp [kstB, h1, h4])
    case gp =>
      refine ⟨?_, endOk_app hrm.1, ?_⟩
      · rw [List.take_add_one, hr, Option.toList_some, List.foldl_append, hfo]
        rfl
      · show (p ++ (Str.ofString "/" ++ r)).length ≤ 10 + 11 * (i + 1)
        rw [len_sl]
        omega
  case gd =>
    clear F8 N8
    rintro ⟨p, tp⟩ u h9 tk9 ⟨hfo, hen, hpl⟩ F9 N9
    dsimp only at hfo hen hpl F9 N9
    (try k_fold)
    k_steps
    (rename Fr _ _ _ _ => F8)
    (rename News _ _ _ _ => N8)
    have e : [x1, x2, x3, x4, x5, x6, x7, x8, x9].foldl joinStep x = p := hfo
    rw [← e]
    exact hret _ _ _ F8 (fun p hp => N8 p (.tail _ hp))
end
/-! ## C6 -/
section
def walkStep (ns : List Str) (r : Str) : List Str :=
  if r ≠ Str.ofString ".." then ns ++ [r] else if ns ≠ [] ∧ ns.getLast? ≠ some (Str.ofString "..") then ns.dropLast else ns ++ [Str.ofString ".."]
def walked (rows : List Str) : List Str := if rows.foldl walkStep [] = [] then [Str.ofString "."] else rows.foldl walkStep []
theorem walk_take {rows ns : List Str} {i : Nat} {r : Str} (h : (rows.take i).foldl walkStep [] = ns) (hr : rows[i]? = some r) : (rows.take (i + 1)).foldl walkStep [] = walkStep ns r := by
  rw [List.take_add_one, hr, Option.toList_some, List.foldl_append, h]
  rfl
theorem walk_nil : walkStep [] (Str.ofString "..") = [Str.ofString ".."] := by decide +kernel
theorem walk_dd {yi : List Str} : walkStep (yi ++ [Str.ofString ".."]) (Str.ofString "..") = yi ++ [Str.ofString ".."] ++ [Str.ofString ".."] := by simp [walkStep]
theorem walk_pop {yi : List Str} {y : Str} (hy : y ≠ Str.ofString "..") : walkStep (yi ++ [y]) (Str.ofString "..") = yi := by simp [walkStep, hy]
theorem walk_name {ns : List Str} {r : Str} (hr : r ≠ Str.ofString "..") : walkStep ns r = ns ++ [r] := if_pos hr
theorem ok_dd : PyData.strOk (Str.ofString "..") = true := by decide +kernel
theorem oks_snoc {ns : List Str} {r : Str} (h : ∀ y ∈ ns, PyData.strOk y = true) (hr : PyData.strOk r = true) : ∀ y ∈ ns ++ [r], PyData.strOk y = true := fun y hy => (List.mem_append.mp hy).elim (h y) fun e => (List.mem_singleton.mp e) ▸ hr
theorem walked_c {l : Addr} {rvs : List Value} {rn : Nat} {rows : List Str} {w : World} {mean : ExcName → Option Value} {mg mb : Str → Option Value} {news : List (Addr × Obj)} {dp un : Nat} {gd : Option (List Code)} {cn : Str} {cs : Scope} {a : Addr} {ccd : Value} {cl : List (Str × Addr)} {outer : List Env} {A₀ : Around} {base h₀ : Heap} {L : Addr} {m : Str → Option Value} {s : Shared} {Q E : Value → Shared → Prop}
    (B : Below A₀ base outer h₀) (F : Fr h₀ L s.heap m) (X : (hd.heap_1 w.params).In h₀) (N : News h₀ L s.heap news)
    (T : Top vw (looseW vw lo) mean mg mb h₀)
    (hkf : cs.kind = .function) (hdp : dp + 16 < recursionLimit) (hun : un + 8 * 16 < cLine) (hl : (l, listOf rvs.toArray rn) ∈ news) (hrs : StrsAre rvs rows) (hrl : rows.length ≤ 1000) (hok : ∀ x ∈ rows, PyData.strOk x = true)
    (hret : ∀ h' tk' l' n' vals, StrsAre vals (walked rows) → Fr h₀ L h' m → News h₀ L h' ((l', listOf vals.toArray n') :: news) → (∀ p ∈ news, p.1 < l') → Q (.ref l') { s with heap := h', toks := tk' }) :
    wpAny (model PySem.Challenge.rw_il0069_01.row.prog w) (ktrTop dp un gd cn cs L a ccd cl outer) (call (.ref 231) [.ref l]) Q E s := by
  revert X; k_fill; intro X
  refine wpAny_call ?_
  k_dflt cell_enter
  (k_with "pyIter ref" => (refine Stop.intro ?_))
  k_steps
  refine Stop.out ?_
  (rename Fr _ _ _ _ => F9)
  (rename News _ _ _ _ => N9)
  (rename (∀ p : Addr × Obj, p ∈ (_ : List (Addr × Obj)) → p.1 < _) => l8)
  have mk9 := kstMark
  refine list_loop (vs := rvs) (nn := rn) (σ := Addr × List Value × Nat × List Str) (fun c => (c.1, listOf c.2.1.toArray c.2.2.1) :: news) (fun c => [(Str.ofString "names", .ref c.1)]) [] (fun i c => (∀ p ∈ news, p.1 < c.1) ∧ StrsAre c.2.1 c.2.2.2 ∧ (rows.take i).foldl walkStep [] = c.2.2.2 ∧ c.2.2.2.length ≤ i ∧ (∀ y ∈ c.2.2.2, PyData.strOk y = true)) (_, [], 0, []) (by rfl) (fun c => .tail _ hl) F9 N9 ?gk ?gp ?gt ?gd
  case gk => kst_all
  case gp => exact ⟨l8, StrsAre.nil, rfl, Nat.le_refl _, List.forall_mem_nil _⟩
  case gt =>
    clear F9 N9
    rintro ⟨D, vs, n, ns⟩ i v I oI u h9 tk9 hi hv hoff ⟨hlt, hss, hfo, hnl, hno⟩ F9 N9
    dsimp only at hlt hss hfo hoff hnl hno F9 N9
    obtain ⟨r, tr, rfl, hr⟩ := strs_at hrs hv
    have hvl : vs.length ≤ 1000 := by
      have h1 := hss.len_eq
      have h2 := hrs.len_eq
      omega
    have hID := neN (hoff _ (.head _))
    have hIn : ∀ p ∈ news, p.1 ≠ I := fun p hp => hoff p (.tail _ hp)
    (try k_fold)
    by_cases hrd : r = Str.ofString ".."
    · subst hrd
      rcases PyProof.Rows.strs_nil_or_snoc hss with ⟨rfl, rfl⟩ | ⟨vi, yi, y, t, rfl, rfl, hvi⟩
      · k_steps
        (rename News _ _ _ _ => nE)
        (simp only [List.push_toArray] at nE)
        refine st_end ⟨D, _, _, [Str.ofString ".."]⟩ (by assumption) nE (by first | kst_in | kst_inAny) (by first | k_mem | kst_mem) ?ga (by kst_all) ?gr ?gp
        case ga => exact List.forall_mem_cons.mpr ⟨hID, hIn⟩
        case gr => (intro z h1 h2 h3; have h4 : z ≠ Str.ofString "names" := h2 _ (List.Mem.head _); simp [kstB, h1, h4])
        case gp => exact ⟨hlt, kct_snoc hss, (walk_take hfo hr).trans walk_nil, by simp, oks_snoc hno ok_dd⟩
      · by_cases hy : y = Str.ofString ".."
        · subst hy
          k_steps
          (rename News _ _ _ _ => nE)
          (simp only [List.push_toArray] at nE)
          refine st_end ⟨D, _, _, yi ++ [Str.ofString ".."] ++ [Str.ofString ".."]⟩ (by assumption) nE (by first | kst_in | kst_inAny) (by first | k_mem | kst_mem) ?ga (by kst_all) ?gr ?gp
          case ga => exact List.forall_mem_cons.mpr ⟨hID, hIn⟩
          case gr => (intro z h1 h2 h3; have h4 : z ≠ Str.ofString "names" := h2 _ (List.Mem.head _); simp [kstB, h1, h4])
          case gp => exact ⟨hlt, kct_snoc hss, (walk_take hfo hr).trans walk_dd, by simp only [List.length_append, List.length_cons, List.length_nil] at hnl ⊢; omega, oks_snoc hno ok_dd⟩
        · have hy' : (y != Str.ofString "..") = true := by simpa using hy
          k_steps
          (rename News _ _ _ _ => nE)
          (simp only [pick_butlast] at nE)
          refine st_end ⟨_, _, _, yi⟩ (by assumption) nE (by first | kst_in | kst_inAny) (by first | k_mem | kst_mem) ?ga (by kst_all) ?gr ?gp
          case ga =>
            (rename (_ < _) ∧ _ < _ ∧ _ < _ ∧ AllLt _ _ => l7)
            exact List.forall_mem_cons.mpr ⟨neN (by omega), hIn⟩
          case gr => (intro z h1 h2 h3; have h4 : z ≠ Str.ofString "names" := h2 _ (List.Mem.head _); simp [kstB, h1, h4])
          case gp =>
            (rename (_ < _) ∧ _ < _ ∧ _ < _ ∧ AllLt _ _ => l7)
            exact ⟨kst_ltOf l7.2.2.2, hvi, (walk_take hfo hr).trans (walk_pop hy), by simp only [List.length_append, List.length_cons, List.length_nil] at hnl; show yi.length ≤ i + 1; omega, fun z hz => hno z (List.mem_append_left _ hz)⟩
    · have hr' : (r != Str.ofString "..") = true := by simpa using hrd
      k_steps
      (rename News _ _ _ _ => nE)
      (simp only [List.push_toArray] at nE)
      refine st_end ⟨D, _, _, ns ++ [r]⟩ (by assumption) nE (by first | kst_in | kst_inAny) (by first | k_mem | kst_mem) ?ga (by kst_all) ?gr ?gp
      case ga => exact List.forall_mem_cons.mpr ⟨hID, hIn⟩
      case gr => (intro z h1 h2 h3; have h4 : z ≠ Str.ofString "names" := h2 _ (List.Mem.head _); simp [kstB, h1, h4])
      case gp => exact ⟨hlt, kct_snoc hss, (walk_take hfo hr).trans (walk_name hrd), by simp only [List.length_append, List.length_cons, List.length_nil]; omega, oks_snoc hno (hok _ (List.mem_of_getElem? hr))⟩
  case gd =>
    clear F9 N9
    rintro ⟨D, vs, n, ns⟩ u h9 tk9 ⟨hlt, hss, hfo, hnl, hno⟩ F9 N9
    dsimp only at hlt hss hfo hnl hno F9 N9
    (try k_fold)
    have hlen := hrs.len_eq
    rw [List.take_of_length_le (by omega)] at hfo
    rcases PyProof.Rows.strs_nil_or_snoc hss with ⟨rfl, rfl⟩ | ⟨vi, yi, y, t, rfl, rfl, hvi⟩
    · k_steps
      (rename Fr _ _ _ _ => F8)
      (rename News _ _ _ _ => N8)
      (rename (_ < _) ∧ _ < _ ∧ AllLt _ _ => l7)
      have e : walked rows = [Str.ofString "."] := if_pos hfo
      refine hret _ _ _ 0 [.str (Str.ofString ".") _] ?_ F8 (fun p hp => (List.mem_cons.mp hp).elim (fun e => N8 p (e ▸ .head _)) (fun e => N8 p (.tail _ (.tail _ (.tail _ e))))) (kst_ltOf l7.2.2)
      rw [e]
      exact .cons _ _ .nil
    · k_steps
      (rename Fr _ _ _ _ => F8)
      (rename News _ _ _ _ => N8)
      have e : walked rows = yi ++ [y] := (if_neg (by rw [hfo]; simp)).trans hfo
      refine hret _ _ _ n (vi ++ [.str y t]) ?_ F8 (fun p hp => (List.mem_cons.mp hp).elim (fun e => N8 p (e ▸ .tail _ (.head _))) (fun e => N8 p (.tail _ (.tail _ e)))) hlt
      rw [e]
      exact hss
end
local macro_rules | `(tactic| walk_at "call builtin:list.pop") => `(tactic| (k_here; (with_reducible show wpAny _ _ (call (Value.builtin _) [Value.ref _]) _ _ _); k_dflt (refine' kl_pop ?F ?N (kpa_last _ _) ?U ?z ?_; (case F => k_asm); (case N => k_asm); (case U => k_upd); (case z => size_fits)); intro h' F' N'; (try dsimp only [List.nil_append, List.cons_append] at N')))
local macro_rules | `(tactic| walk_at "call builtin:str.join") => `(tactic| (k_here; (with_reducible show wpAny _ _ (call (Value.builtin _) [Value.str _ _, Value.ref _]) _ _ _); k_dflt (refine' join_listW (isList_of ?N ?a) ?b ?c ?d ?_; (case N => k_asm); (case a => k_mem); (case b => walk_at "MY strs"); (case c => decide +kernel); (case d => assumption)); intro _ _))
/-! ## C5 -/
section
def normp (x : Str) : Str :=
  if (Txt.join (Str.ofString "/") ((Txt.split x (Str.ofString "/")).foldl walkStep [])).length = 0 then Str.ofString "." else Txt.join (Str.ofString "/") ((Txt.split x (Str.ofString "/")).foldl walkStep [])
theorem normpath_c {x : Str} {t : Tok} {w : World} {mean : ExcName → Option Value} {mg mb : Str → Option Value} {news : List (Addr × Obj)} {dp un : Nat} {gd : Option (List Code)} {cn : Str} {cs : Scope} {a : Addr} {ccd : Value} {cl : List (Str × Addr)} {outer : List Env} {A₀ : Around} {base h₀ : Heap} {L : Addr} {m : Str → Option Value} {s : Shared} {Q E : Value → Shared → Prop}
    (B : Below A₀ base outer h₀) (F : Fr h₀ L s.heap m) (X : (hd.heap_1 w.params).In h₀) (N : News h₀ L s.heap news)
    (T : Top vw (looseW vw lo) mean mg mb h₀)
    (hkf : cs.kind = .function) (hdp : dp + 16 < recursionLimit) (hun : un + 8 * 16 < cLine) (hx : 0 < x.length) (hxs : x.length ≤ 1000) (hx0 : x.cps[0]? ≠ some 47)
    (hcl : (Txt.split x (Str.ofString "/")).length ≤ 1000) (hcs : ∀ c ∈ Txt.split x (Str.ofString "/"), c ≠ Str.ofString "" ∧ c ≠ Str.ofString ".")
    (hret : ∀ t' h' tk', Fr h₀ L h' m → News h₀ L h' news → Q (.str (normp x) t') { s with heap := h', toks := tk' }) :
    wpAny (model PySem.Challenge.rw_il0069_01.row.prog w) (ktrTop dp un gd cn cs L a ccd cl outer) (call (.ref 170) [.str x t]) Q E s := by
  revert X; k_fill; intro X
  refine wpAny_call ?_
  k_dflt cell_enter
  (k_with "pyIter ref" => (refine Stop.intro ?_))
  k_steps
  all_goals (try omega)
  refine Stop.out ?_
  (rename Fr _ _ _ _ => F9)
  (rename News _ _ _ ((_, _) :: (_, _) :: _) => N9)
  (rename List.map _ _ = Txt.split _ _ => hsp)
  (rename StrsAre (strValues _) _ => hss0)
  (rename List (Str × Tok) => ls)
  (rename (_ < _) ∧ _ < _ ∧ AllLt _ _ => l7)
  (rename (∀ a : Str, a ∈ (_ : List Str) → a.length ≤ _) => hle)
  rw [hsp] at hle
  have mk9 := kstMark
  rw [hsp] at hss0
  have hlen := hss0.len_eq
  refine list_loop (vs := strValues ls) (nn := 0) (σ := List Value × Nat × List Str) (fun c => (_, listOf c.1.toArray c.2.1) :: (_, listOf (strValues ls).toArray 0) :: news) (fun c => []) [] (fun i c => StrsAre c.1 c.2.2 ∧ ((Txt.split x (Str.ofString "/")).take i).foldl walkStep [] = c.2.2 ∧ c.2.2.length ≤ i ∧ (∀ y ∈ c.2.2, y.length ≤ 1000)) ([], 0, []) (by rfl) (fun c => .tail _ (.head _)) F9 (kst_newsOf N9 (List.forall_mem_cons.mpr ⟨.head _, List.forall_mem_cons.mpr ⟨.tail _ (.head _), fun p hp => .tail _ (.tail _ (.tail _ hp))⟩⟩)) ?gk ?gp ?gt ?gd
  case gk => exact List.forall_mem_nil _
  case gp => exact ⟨StrsAre.nil, rfl, Nat.le_refl _, List.forall_mem_nil _⟩
  case gt =>
    clear F9 N9
    rintro ⟨vs, n, ns⟩ i v I oI u h9 tk9 hi hv hoff ⟨hss, hfo, hnl, hno⟩ F9 N9
    dsimp only at hss hfo hoff hnl hno F9 N9
    obtain ⟨r, tr, rfl, hr⟩ := strs_at hss0 hv
    have hrm := List.mem_of_getElem? hr
    have hr0 : (r != Str.ofString "") = true := by simpa using (hcs r hrm).1
    have hr1 : (r == Str.ofString ".") = false := by simpa using (hcs r hrm).2
    have hrl : r.length ≤ 1000 := Nat.le_trans (hle r hrm) hxs
    have hrp : 0 < r.length := by
      refine Nat.pos_of_ne_zero fun e => (hcs r hrm).1 ?_
      obtain ⟨⟨l⟩⟩ := r
      have : l = [] := List.length_eq_zero_iff.mp e
      subst this
      decide +kernel
    have hvl : vs.length ≤ 1000 := by
      have h1 := hss.len_eq
      omega
    have hID := neN (hoff _ (.head _))
    have hIC := neN (hoff _ (.tail _ (.head _)))
    have hIn : ∀ p ∈ news, p.1 ≠ I := fun p hp => hoff p (.tail _ (.tail _ hp))
    (try k_fold)
    by_cases hrd : r = Str.ofString ".."
    · subst hrd
      rcases PyProof.Rows.strs_nil_or_snoc hss with ⟨rfl, rfl⟩ | ⟨vi, yi, y, t, rfl, rfl, hvi⟩
      · k_steps
        all_goals (try (exfalso; omega))
        (rename News _ _ _ _ => nE)
        (simp only [List.push_toArray] at nE)
        refine st_end ⟨_, _, [Str.ofString ".."]⟩ (by assumption) nE (by first | kst_in | kst_inAny) (by first | k_mem | kst_mem) ?ga (by exact List.forall_mem_nil _) ?gr ?gp
        case ga => exact List.forall_mem_cons.mpr ⟨hID, List.forall_mem_cons.mpr ⟨hIC, hIn⟩⟩
        case gr => (intro z h1 h2 h3; simp [kstB, h1])
        case gp => exact ⟨kct_snoc hss, (walk_take hfo hr).trans walk_nil, by simp, List.forall_mem_cons.mpr ⟨hrl, List.forall_mem_nil _⟩⟩
      · have hps : 0 < (yi ++ [y]).length := by simp
        by_cases hy : y = Str.ofString ".."
        · subst hy
          k_steps
          all_goals (try (exfalso; omega))
          (rename News _ _ _ _ => nE)
          (simp only [List.push_toArray] at nE)
          refine st_end ⟨_, _, yi ++ [Str.ofString ".."] ++ [Str.ofString ".."]⟩ (by assumption) nE (by first | kst_in | kst_inAny) (by first | k_mem | kst_mem) ?ga (by exact List.forall_mem_nil _) ?gr ?gp
          case ga => exact List.forall_mem_cons.mpr ⟨hID, List.forall_mem_cons.mpr ⟨hIC, hIn⟩⟩
          case gr => (intro z h1 h2 h3; simp [kstB, h1])
          case gp => exact ⟨kct_snoc hss, (walk_take hfo hr).trans walk_dd, by simp only [List.length_append, List.length_cons, List.length_nil] at hnl ⊢; omega, fun z hz => (List.mem_append.mp hz).elim (hno z) fun e => (List.mem_singleton.mp e) ▸ hrl⟩
        · have hy' : (y == Str.ofString "..") = false := by simpa using hy
          k_steps
          all_goals (try (exfalso; omega))
          (rename News _ _ _ _ => nE)
          refine st_end ⟨_, _, yi⟩ (by assumption) nE (by first | kst_in | kst_inAny) (by first | k_mem | kst_mem) ?ga (by exact List.forall_mem_nil _) ?gr ?gp
          case ga => exact List.forall_mem_cons.mpr ⟨hID, List.forall_mem_cons.mpr ⟨hIC, hIn⟩⟩
          case gr => (intro z h1 h2 h3; simp [kstB, h1])
          case gp => exact ⟨hvi, (walk_take hfo hr).trans (walk_pop hy), by simp only [List.length_append, List.length_cons, List.length_nil] at hnl; show yi.length ≤ i + 1; omega, fun z hz => hno z (List.mem_append_left _ hz)⟩
    · have hr' : (r != Str.ofString "..") = true := by simpa using hrd
      k_steps
      all_goals (try (exfalso; omega))
      (rename News _ _ _ _ => nE)
      (simp only [List.push_toArray] at nE)
      refine st_end ⟨_, _, ns ++ [r]⟩ (by assumption) nE (by first | kst_in | kst_inAny) (by first | k_mem | kst_mem) ?ga (by exact List.forall_mem_nil _) ?gr ?gp
      case ga => exact List.forall_mem_cons.mpr ⟨hID, List.forall_mem_cons.mpr ⟨hIC, hIn⟩⟩
      case gr => (intro z h1 h2 h3; simp [kstB, h1])
      case gp => exact ⟨kct_snoc hss, (walk_take hfo hr).trans (walk_name hrd), by simp only [List.length_append, List.length_cons, List.length_nil]; omega, fun z hz => (List.mem_append.mp hz).elim (hno z) fun e => (List.mem_singleton.mp e) ▸ hrl⟩
  case gd =>
    clear F9 N9
    rintro ⟨vs, n, ns⟩ u h9 tk9 ⟨hss, hfo, hnl, hno⟩ F9 N9
    dsimp only at hss hfo hnl hno F9 N9
    have hsum := sum_fits hno (by omega)
    have hjl : (Txt.join (Str.ofString "/") ns).length ≤ 4194304 := by
      have h1 := len_join_le (sep := Str.ofString "/") (ys := ns) (n := 1048575) hsum (by decide +kernel)
      omega
    have hjm : (Str.empty ++ Txt.join (Str.ofString "/") ns).length ≤ 1048576 := by
      have h1 := StrLaws.join_length_le (Str.ofString "/") ns
      have h2 : (Str.ofString "/").length = 1 := by decide +kernel
      rw [h2, Nat.mul_one] at h1
      rw [Str.length_append]
      have h3 : Txt.join (Str.ofString "/") ns = Str.join (Str.ofString "/") ns := StrLaws.glued_eq_join _ _
      rw [h3]
      have h4 : Str.empty.length = 0 := rfl
      omega
    rw [List.take_of_length_le (by omega)] at hfo
    have e0 : Str.empty ++ Txt.join (Str.ofString "/") ns = Txt.join (Str.ofString "/") ns := Str.empty_append _
    (try k_fold)
    k_steps
    · (rename Fr _ _ _ _ => F8)
      (rename News _ _ _ _ => N8)
      (rename ((_ : Nat) : Int) ≠ 0 => hz)
      rw [e0] at hz
      have e : Str.empty ++ Txt.join (Str.ofString "/") ns = normp x := by
        rw [e0]
        unfold normp
        rw [hfo]
        exact (if_neg (by omega)).symm
      rw [e]
      exact hret _ _ _ F8 (fun p hp => N8 p (.tail _ (.tail _ hp)))
    · (rename Fr _ _ _ _ => F8)
      (rename News _ _ _ _ => N8)
      (rename ((_ : Nat) : Int) = 0 => hz)
      rw [e0] at hz
      have e : Str.ofString "." = normp x := by
        unfold normp
        rw [hfo]
        exact (if_pos (by omega)).symm
      rw [e]
      exact hret _ _ _ F8 (fun p hp => N8 p (.tail _ (.tail _ hp)))
end
/-! ## C8 -/
section
local macro_rules | `(tactic| walk_at "exec For Tuple Call") => `(tactic| (k_here; (with_reducible show wpAny _ _ (exec _ _) _ _ _); refine Stop.intro ?_))
local macro_rules | `(tactic| walk_at "exec For Tuple Name") => `(tactic| (k_here; (with_reducible show wpAny _ _ (exec _ _) _ _ _); refine Stop.intro ?_))
local macro_rules | `(tactic| walk_at "call type:enumerate") => `(tactic| (k_here; (with_reducible show wpAny _ _ (call _ _) _ _ _); refine Stop.intro ?_))
def pick0 (mode : Int) : List (Int × Str) → Str
  | [] => Str.ofString "?"
  | (b, c) :: r => if Builtin.bitAnd mode 61440 = b then c else pick0 mode r
def pickN (mode : Int) : List (Int × Str) → Str
  | [] => Str.ofString "-"
  | (b, c) :: r => if Builtin.bitAnd mode b = b then c else pickN mode r
def tab0 : List (Int × Str) := [(40960, Str.ofString "l"), (49152, Str.ofString "s"), (32768, Str.ofString "-"), (24576, Str.ofString "b"), (16384, Str.ofString "d"), (8192, Str.ofString "c"), (4096, Str.ofString "p")]
def tabs : List (List (Int × Str)) := [
  [(256, Str.ofString "r")], [(128, Str.ofString "w")], [(2112, Str.ofString "s"), (2048, Str.ofString "S"), (64, Str.ofString "x")],
  [(32, Str.ofString "r")], [(16, Str.ofString "w")], [(1032, Str.ofString "s"), (1024, Str.ofString "S"), (8, Str.ofString "x")],
  [(4, Str.ofString "r")], [(2, Str.ofString "w")], [(513, Str.ofString "t"), (512, Str.ofString "T"), (1, Str.ofString "x")]]
def modeChars (mode : Int) : List Str := pick0 mode tab0 :: tabs.map (pickN mode)
theorem pick0_len {m : Int} : ∀ {l : List (Int × Str)}, (∀ e ∈ l, e.2.length = 1) → (pick0 m l).length = 1
  | [], _ => (by decide +kernel : (Str.ofString "?").length = 1)
  | (b, c) :: r, h => by
    unfold pick0
    split
    · exact h (b, c) (.head _)
    · exact pick0_len fun e he => h e (.tail _ he)
theorem pickN_len {m : Int} : ∀ {l : List (Int × Str)}, (∀ e ∈ l, e.2.length = 1) → (pickN m l).length = 1
  | [], _ => (by decide +kernel : (Str.ofString "-").length = 1)
  | (b, c) :: r, h => by
    unfold pickN
    split
    · exact h (b, c) (.head _)
    · exact pickN_len fun e he => h e (.tail _ he)
theorem modeChars_len (m : Int) : ∀ y ∈ modeChars m, y.length = 1 := by
  intro y hy
  rcases List.mem_cons.mp hy with rfl | hy
  · exact pick0_len (by decide +kernel)
  · obtain ⟨l, hl, rfl⟩ := List.mem_map.mp hy
    exact pickN_len ((by decide +kernel : ∀ l ∈ tabs, ∀ e ∈ l, e.2.length = 1) l hl)
theorem drop_cons {α : Type} {l : List α} {j : Nat} {a : α} (h : l[j]? = some a) : l.drop j = a :: l.drop (j + 1) := by
  obtain ⟨hj, e⟩ := List.getElem?_eq_some_iff.mp h
  rw [List.drop_eq_getElem_cons hj, e]
theorem take_snoc {α : Type} {l : List α} {i : Nat} {a : α} (h : l[i]? = some a) : l.take (i + 1) = l.take i ++ [a] := by
  rw [List.take_add_one, h]
  rfl
theorem mode_snoc {x : Int} {vs : List Value} {i : Nat} {p c : Str} {t : Tok} (hss : StrsAre vs ((modeChars x).take i)) (h : (modeChars x)[i]? = some p) (e : p = c) : StrsAre (vs ++ [.str c t]) ((modeChars x).take (i + 1)) := by
  rw [take_snoc h, e]
  exact kct_snoc hss
theorem tab_facts {w : World} {g : Heap} (XK : (hd.heap_1 w.params).In g) (x : Int) {i : Nat} {v : Value}
    (hv : ([.ref 185, .ref 187, .ref 189, .ref 193, .ref 195, .ref 197, .ref 201, .ref 203, .ref 205, .ref 209] : List Value)[i]? = some v) :
    ∃ (ta : Addr) (evs : List Value) (es : List (Int × Str)), v = Value.ref ta ∧ g.get? ta = some ({ cls := .type "tuple", data := .seq (List.toArray evs) } : Obj) ∧ (modeChars x)[i]? = some (if i = 0 then pick0 x es else pickN x es) ∧ evs.length = es.length ∧
        (∀ (j : Nat) (u : Value), evs[j]? = some u → ∃ (ea : Addr) (b : Int) (c : Str) (tb tc : Tok), u = Value.ref ea ∧ es[j]? = some (b, c) ∧ IsTup g ea #[.int b tb, .str c tc]) := by
  rcases i with _ | _ | _ | _ | _ | _ | _ | _ | _ | _ | i
  · obtain rfl : v = .ref 185 := (Option.some.inj hv).symm
    refine ⟨185, [.ref 178, .ref 179, .ref 180, .ref 181, .ref 182, .ref 183, .ref 184], [(40960, Str.ofString "l"), (49152, Str.ofString "s"), (32768, Str.ofString "-"), (24576, Str.ofString "b"), (16384, Str.ofString "d"), (8192, Str.ofString "c"), (4096, Str.ofString "p")], rfl, XK _ _ rfl, rfl, rfl, ?_⟩
    intro j u hu
    rcases j with _ | _ | _ | _ | _ | _ | _ | j
    · exact ⟨178, 40960, Str.ofString "l", _, _, (Option.some.inj hu).symm, rfl, _, XK _ _ rfl, rfl, _, rfl⟩
    · exact ⟨179, 49152, Str.ofString "s", _, _, (Option.some.inj hu).symm, rfl, _, XK _ _ rfl, rfl, _, rfl⟩
    · exact ⟨180, 32768, Str.ofString "-", _, _, (Option.some.inj hu).symm, rfl, _, XK _ _ rfl, rfl, _, rfl⟩
    · exact ⟨181, 24576, Str.ofString "b", _, _, (Option.some.inj hu).symm, rfl, _, XK _ _ rfl, rfl, _, rfl⟩
    · exact ⟨182, 16384, Str.ofString "d", _, _, (Option.some.inj hu).symm, rfl, _, XK _ _ rfl, rfl, _, rfl⟩
    · exact ⟨183, 8192, Str.ofString "c", _, _, (Option.some.inj hu).symm, rfl, _, XK _ _ rfl, rfl, _, rfl⟩
    · exact ⟨184, 4096, Str.ofString "p", _, _, (Option.some.inj hu).symm, rfl, _, XK _ _ rfl, rfl, _, rfl⟩
    · exact nomatch hu
  · obtain rfl : v = .ref 187 := (Option.some.inj hv).symm
    refine ⟨187, [.ref 186], [(256, Str.ofString "r")], rfl, XK _ _ rfl, rfl, rfl, ?_⟩
    intro j u hu
    rcases j with _ | j
    · exact ⟨186, 256, Str.ofString "r", _, _, (Option.some.inj hu).symm, rfl, _, XK _ _ rfl, rfl, _, rfl⟩
    · exact nomatch hu
  · obtain rfl : v = .ref 189 := (Option.some.inj hv).symm
    refine ⟨189, [.ref 188], [(128, Str.ofString "w")], rfl, XK _ _ rfl, rfl, rfl, ?_⟩
    intro j u hu
    rcases j with _ | j
    · exact ⟨188, 128, Str.ofString "w", _, _, (Option.some.inj hu).symm, rfl, _, XK _ _ rfl, rfl, _, rfl⟩
    · exact nomatch hu
  · obtain rfl : v = .ref 193 := (Option.some.inj hv).symm
    refine ⟨193, [.ref 190, .ref 191, .ref 192], [(2112, Str.ofString "s"), (2048, Str.ofString "S"), (64, Str.ofString "x")], rfl, XK _ _ rfl, rfl, rfl, ?_⟩
    intro j u hu
    rcases j with _ | _ | _ | j
    · exact ⟨190, 2112, Str.ofString "s", _, _, (Option.some.inj hu).symm, rfl, _, XK _ _ rfl, rfl, _, rfl⟩
    · exact ⟨191, 2048, Str.ofString "S", _, _, (Option.some.inj hu).symm, rfl, _, XK _ _ rfl, rfl, _, rfl⟩
    · exact ⟨192, 64, Str.ofString "x", _, _, (Option.some.inj hu).symm, rfl, _, XK _ _ rfl, rfl, _, rfl⟩
    · exact nomatch hu
  · obtain rfl : v = .ref 195 := (Option.some.inj hv).symm
    refine ⟨195, [.ref 194], [(32, Str.ofString "r")], rfl, XK _ _ rfl, rfl, rfl, ?_⟩
    intro j u hu
    rcases j with _ | j
    · exact ⟨194, 32, Str.ofString "r", _, _, (Option.some.inj hu).symm, rfl, _, XK _ _ rfl, rfl, _, rfl⟩
    · exact nomatch hu
  · obtain rfl : v = .ref 197 := (Option.some.inj hv).symm
    refine ⟨197, [.ref 196], [(16, Str.ofString "w")], rfl, XK _ _ rfl, rfl, rfl, ?_⟩
    intro j u hu
    rcases j with _ | j
    · exact ⟨196, 16, Str.ofString "w", _, _, (Option.some.inj hu).symm, rfl, _, XK _ _ rfl, rfl, _, rfl⟩
    · exact nomatch hu
  · obtain rfl : v = .ref 201 := (Option.some.inj hv).symm
    refine ⟨201, [.ref 198, .ref 199, .ref 200], [(1032, Str.ofString "s"), (1024, Str.ofString "S"), (8, Str.ofString "x")], rfl, XK _ _ rfl, rfl, rfl, ?_⟩
    intro j u hu
    rcases j with _ | _ | _ | j
    · exact ⟨198, 1032, Str.ofString "s", _, _, (Option.some.inj hu).symm, rfl, _, XK _ _ rfl, rfl, _, rfl⟩
    · exact ⟨199, 1024, Str.ofString "S", _, _, (Option.some.inj hu).symm, rfl, _, XK _ _ rfl, rfl, _, rfl⟩
    · exact ⟨200, 8, Str.ofString "x", _, _, (Option.some.inj hu).symm, rfl, _, XK _ _ rfl, rfl, _, rfl⟩
    · exact nomatch hu
  · obtain rfl : v = .ref 203 := (Option.some.inj hv).symm
    refine ⟨203, [.ref 202], [(4, Str.ofString "r")], rfl, XK _ _ rfl, rfl, rfl, ?_⟩
    intro j u hu
    rcases j with _ | j
    · exact ⟨202, 4, Str.ofString "r", _, _, (Option.some.inj hu).symm, rfl, _, XK _ _ rfl, rfl, _, rfl⟩
    · exact nomatch hu
  · obtain rfl : v = .ref 205 := (Option.some.inj hv).symm
    refine ⟨205, [.ref 204], [(2, Str.ofString "w")], rfl, XK _ _ rfl, rfl, rfl, ?_⟩
    intro j u hu
    rcases j with _ | j
    · exact ⟨204, 2, Str.ofString "w", _, _, (Option.some.inj hu).symm, rfl, _, XK _ _ rfl, rfl, _, rfl⟩
    · exact nomatch hu
  · obtain rfl : v = .ref 209 := (Option.some.inj hv).symm
    refine ⟨209, [.ref 206, .ref 207, .ref 208], [(513, Str.ofString "t"), (512, Str.ofString "T"), (1, Str.ofString "x")], rfl, XK _ _ rfl, rfl, rfl, ?_⟩
    intro j u hu
    rcases j with _ | _ | _ | j
    · exact ⟨206, 513, Str.ofString "t", _, _, (Option.some.inj hu).symm, rfl, _, XK _ _ rfl, rfl, _, rfl⟩
    · exact ⟨207, 512, Str.ofString "T", _, _, (Option.some.inj hu).symm, rfl, _, XK _ _ rfl, rfl, _, rfl⟩
    · exact ⟨208, 1, Str.ofString "x", _, _, (Option.some.inj hu).symm, rfl, _, XK _ _ rfl, rfl, _, rfl⟩
    · exact nomatch hu
  · exact nomatch hv
theorem filemode_c {x : Int} {t : Tok} {w : World} {mean : ExcName → Option Value} {mg mb : Str → Option Value} {news : List (Addr × Obj)} {dp un : Nat} {gd : Option (List Code)} {cn : Str} {cs : Scope} {a : Addr} {ccd : Value} {cl : List (Str × Addr)} {outer : List Env} {A₀ : Around} {base h₀ : Heap} {L : Addr} {m : Str → Option Value} {s : Shared} {Q E : Value → Shared → Prop}
    (B : Below A₀ base outer h₀) (F : Fr h₀ L s.heap m) (X : (hd.heap_1 w.params).In h₀) (N : News h₀ L s.heap news)
    (T : Top vw (looseW vw lo) mean mg mb h₀)
    (hkf : cs.kind = .function) (hdp : dp + 16 < recursionLimit) (hun : un + 8 * 16 < cLine)
    (hret : ∀ t' h' tk', Fr h₀ L h' m → News h₀ L h' news → Q (.str (Txt.join (Str.ofString "") (modeChars x)) t') { s with heap := h', toks := tk' }) :
    wpAny (model PySem.Challenge.rw_il0069_01.row.prog w) (ktrTop dp un gd cn cs L a ccd cl outer) (call (.ref 217) [.int x t]) Q E s := by
  revert X; k_fill; intro X
  refine wpAny_call ?_
  k_dflt cell_enter
  (k_with "pyIter ref" => (refine Stop.intro ?_))
  k_steps
  (rename Fr _ _ _ _ => F9)
  (rename News _ _ _ _ => N9)
  have mk9 := kstMark
  refine Stop.out ?_
  with_unfolding_all refine wpAny_For ?_ (by intro _; rfl)
  k_steps
  refine Stop.out ?_
  (rename Frag.In _ _ => XK)
  (rename Below _ _ _ _ => B9)

  with_unfolding_all refine enumK (vs := [.ref 185, .ref 187, .ref 189, .ref 193, .ref 195, .ref 197, .ref 201, .ref 203, .ref 205, .ref 209]) (n₀ := 0) (σ := List Value × Nat) (Str.ofString "index") (fun c => (_, listOf c.1.toArray c.2) :: news) (fun c => []) [Str.ofString "table", Str.ofString "bit", Str.ofString "char"] (fun i c => StrsAre c.1 ((modeChars x).take i)) ([], 0) (by rfl) ?gl F9 N9 ?gk ?gp ?gt ?gd ?gE
  case gl => exact XK _ _ (by k_is)
  case gk => exact List.forall_mem_nil _
  case gp => exact StrsAre.nil
  case gE => passes_own
  case gt =>
    clear F9 N9
    rintro ⟨vs, n⟩ i v T t own u h9 tk9 hv hT hoff hss F9 N9
    dsimp only at hss hoff F9 N9
    (try simp only [List.cons_append] at N9)
    have hvl : vs.length ≤ 1000 := by
      have h1 := hss.len_eq
      rw [List.length_take] at h1
      have h2 : (modeChars x).length = 10 := rfl
      omega
    obtain ⟨ta, evs, es, rfl, hget, hmc, hel, hent⟩ := tab_facts XK x hv
    have hT' : IsTup h9 T #[.int i t, .ref ta] := hT
    by_cases hi : i = 0
    · have hi' : (i : Int) = 0 := by omega
      have hx9 : (modeChars x)[i]? = some (pick0 x es) := by rw [hmc]; exact congrArg some (if_pos hi)
      (try k_fold)
      k_steps
      refine Stop.out ?_
      with_unfolding_all refine wpAny_For ?_ (by intro _; rfl)
      k_steps
      refine Stop.out ?_
      (rename Fr _ _ _ _ => F8)
      (rename News _ _ _ _ => N8)
      with_unfolding_all refine tupK (vs := evs) (n₀ := 0) (σ := Unit) (Str.ofString "bit") (fun _ => (_, listOf vs.toArray n) :: (news ++ own)) (fun _ => []) [Str.ofString "char"] (fun j _ => pick0 x (es.drop j) = pick0 x es) () (by rfl) hget F8 N8 (List.forall_mem_nil _) rfl ?gt2 ?gd2 ?gE2
      case gE2 => passes_own
      case gt2 =>
        clear F8 N8
        rintro ⟨⟩ j v2 own2 u2 h8 tk8 hv2 hoff2 hpk F8 N8
        (try simp only [List.cons_append, List.append_assoc] at N8)
        obtain ⟨ea, b, c, tb, tc, rfl, hes, hT2⟩ := hent j v2 hv2
        have hT3 : IsTup h8 ea #[.int b tb, .str c tc] := IsTup.keeps hT2 F8.keep
        rw [drop_cons hes] at hpk
        replace hpk : (if Builtin.bitAnd x 61440 = b then c else pick0 x (es.drop (j + 1))) = pick0 x es := hpk
        (try k_fold)
        k_steps
        · (rename Builtin.bitAnd x 61440 = b => hc9)
          (rename News _ _ _ _ => nE)
          (simp only [List.push_toArray] at nE)
          refine st_endN ⟨_, _⟩ (by assumption) nE (by first | kst_in | kst_inAny) (by first | (intro p hp; kst_mem) | kst_anyIn) (by rfl) (List.forall_mem_nil _) ?_ (mode_snoc hss hx9 (hpk.symm.trans (if_pos hc9)))
          (intro z h1 h2 h3; have h5 : z ≠ Str.ofString "table" := (fun e => absurd (e ▸ h3) (by decide +kernel)); have h6 : z ≠ Str.ofString "bit" := (fun e => absurd (e ▸ h3) (by decide +kernel)); have h7 : z ≠ Str.ofString "char" := (fun e => absurd (e ▸ h3) (by decide +kernel)); simp [kstB, h1, h5, h6, h7])
        · (rename Builtin.bitAnd x 61440 ≠ b => hc9)
          (rename News _ _ _ _ => nE)
          refine st_endN () (by assumption) nE (by first | kst_in | kst_inAny) (by first | (intro p hp; kst_mem) | kst_anyIn) (by rfl) (List.forall_mem_nil _) ?_ ((if_neg hc9).symm.trans hpk)
          (intro z h1 h2 h3; have h5 : z ≠ Str.ofString "char" := (fun e => absurd (e ▸ h3) (by decide +kernel)); simp [kstB, h1, h5])
      case gd2 =>
        clear F8 N8
        rintro ⟨⟩ u2 h8 tk8 hpk F8 N8
        replace hpk : pick0 x (es.drop evs.length) = pick0 x es := hpk
        rw [hel, List.drop_length] at hpk
        (try k_fold)
        k_steps
        (rename News _ _ _ _ => nE)
        (simp only [List.push_toArray] at nE)
        refine st_endN ⟨_, _⟩ (by assumption) nE (by first | kst_in | kst_inAny) (by first | (intro p hp; kst_mem) | kst_anyIn) (by rfl) (List.forall_mem_nil _) ?_ (mode_snoc hss hx9 hpk.symm)
        (intro z h1 h2 h3; have h5 : z ≠ Str.ofString "table" := (fun e => absurd (e ▸ h3) (by decide +kernel)); have h6 : z ≠ Str.ofString "bit" := (fun e => absurd (e ▸ h3) (by decide +kernel)); have h7 : z ≠ Str.ofString "char" := (fun e => absurd (e ▸ h3) (by decide +kernel)); simp [kstB, h1, h5, h6, h7])
    · have hi' : (i : Int) ≠ 0 := by omega
      have hx9 : (modeChars x)[i]? = some (pickN x es) := by rw [hmc]; exact congrArg some (if_neg hi)
      (try k_fold)
      k_steps
      refine Stop.out ?_
      with_unfolding_all refine wpAny_For ?_ (by intro _; rfl)
      k_steps
      refine Stop.out ?_
      (rename Fr _ _ _ _ => F8)
      (rename News _ _ _ _ => N8)
      with_unfolding_all refine tupK (vs := evs) (n₀ := 0) (σ := Unit) (Str.ofString "bit") (fun _ => (_, listOf vs.toArray n) :: (news ++ own)) (fun _ => []) [Str.ofString "char"] (fun j _ => pickN x (es.drop j) = pickN x es) () (by rfl) hget F8 N8 (List.forall_mem_nil _) rfl ?gt2 ?gd2 ?gE2
      case gE2 => passes_own
      case gt2 =>
        clear F8 N8
        rintro ⟨⟩ j v2 own2 u2 h8 tk8 hv2 hoff2 hpk F8 N8
        (try simp only [List.cons_append, List.append_assoc] at N8)
        obtain ⟨ea, b, c, tb, tc, rfl, hes, hT2⟩ := hent j v2 hv2
        have hT3 : IsTup h8 ea #[.int b tb, .str c tc] := IsTup.keeps hT2 F8.keep
        rw [drop_cons hes] at hpk
        replace hpk : (if Builtin.bitAnd x b = b then c else pickN x (es.drop (j + 1))) = pickN x es := hpk
        (try k_fold)
        k_steps
        · (rename Builtin.bitAnd x b = b => hc9)
          (rename News _ _ _ _ => nE)
          (simp only [List.push_toArray] at nE)
          refine st_endN ⟨_, _⟩ (by assumption) nE (by first | kst_in | kst_inAny) (by first | (intro p hp; kst_mem) | kst_anyIn) (by rfl) (List.forall_mem_nil _) ?_ (mode_snoc hss hx9 (hpk.symm.trans (if_pos hc9)))
          (intro z h1 h2 h3; have h5 : z ≠ Str.ofString "table" := (fun e => absurd (e ▸ h3) (by decide +kernel)); have h6 : z ≠ Str.ofString "bit" := (fun e => absurd (e ▸ h3) (by decide +kernel)); have h7 : z ≠ Str.ofString "char" := (fun e => absurd (e ▸ h3) (by decide +kernel)); simp [kstB, h1, h5, h6, h7])
        · (rename Builtin.bitAnd x b ≠ b => hc9)
          (rename News _ _ _ _ => nE)
          refine st_endN () (by assumption) nE (by first | kst_in | kst_inAny) (by first | (intro p hp; kst_mem) | kst_anyIn) (by rfl) (List.forall_mem_nil _) ?_ ((if_neg hc9).symm.trans hpk)
          (intro z h1 h2 h3; have h5 : z ≠ Str.ofString "char" := (fun e => absurd (e ▸ h3) (by decide +kernel)); simp [kstB, h1, h5])
      case gd2 =>
        clear F8 N8
        rintro ⟨⟩ u2 h8 tk8 hpk F8 N8
        replace hpk : pickN x (es.drop evs.length) = pickN x es := hpk
        rw [hel, List.drop_length] at hpk
        (try k_fold)
        k_steps
        (rename News _ _ _ _ => nE)
        (simp only [List.push_toArray] at nE)
        refine st_endN ⟨_, _⟩ (by assumption) nE (by first | kst_in | kst_inAny) (by first | (intro p hp; kst_mem) | kst_anyIn) (by rfl) (List.forall_mem_nil _) ?_ (mode_snoc hss hx9 hpk.symm)
        (intro z h1 h2 h3; have h5 : z ≠ Str.ofString "table" := (fun e => absurd (e ▸ h3) (by decide +kernel)); have h6 : z ≠ Str.ofString "bit" := (fun e => absurd (e ▸ h3) (by decide +kernel)); have h7 : z ≠ Str.ofString "char" := (fun e => absurd (e ▸ h3) (by decide +kernel)); simp [kstB, h1, h5, h6, h7])
  case gd =>
    clear F9 N9
    rintro ⟨vs, n⟩ u h9 tk9 hss F9 N9
    dsimp only at hss F9 N9
    have hss : StrsAre vs (modeChars x) := hss
    have hsum := sum_fits (ns := modeChars x) (fun y hy => by rw [modeChars_len x y hy]; decide) (by decide : (10 : Nat) ≤ 1000)
    (try k_fold)
    k_steps
    (rename Fr _ _ _ _ => F8)
    (rename News _ _ _ _ => N8)
    exact hret _ _ _ F8 (fun p hp => N8 p (.tail _ hp))
end
end
/-! ## C9 -/
section
theorem item_two {prog : Program} {w : World} {A : Around} {E : Value → Shared → Prop} {s : Shared} {Q : Value → Shared → Prop} {value slice : PySem.Expr} {e : Str} {t u : Tok} {k : Int} (he : e.length = 2)
    (h : (1 ≤ (Txt.item e (k.fmod 2)).length ∧ (Txt.item e (k.fmod 2)).length ≤ 1) → Q (.str (Txt.item e (k.fmod 2)) s.toks) { s with toks := s.toks + 1 })
    (hs : subscripted slice false (.str e t) (.int (k.fmod 2) u) = operate [.str e t, .int (k.fmod 2) u] (getItem (.str e t) (.int (k.fmod 2) u)))
    (ht : ∀ r, letTemporaryGo value (.str e t) r = pure ()) :
    wpAny (model prog w) A (subscriptTail value slice (.str e t) (.int (k.fmod 2) u)) Q E s := by
  have h1 := fmod_lo k (n := 2) (by decide)
  have h2 := fmod_hi k (n := 2) (by decide)
  exact item_str (fitsSsize_of (N := 9223372036854775808) (by omega) (by omega) (Int.le_refl _)) (by omega) (by omega) h hs ht
local macro_rules | `(tactic| walk_at "subscriptTail Name BinOp str int") => `(tactic| (k_here; (with_reducible show wpAny _ _ (subscriptTail _ _ (Value.str _ _) (Value.int (Int.fmod _ 2) _)) _ _ _); k_dflt (refine' item_two ?a ?_ ?s ?t; (case a => assumption); (case s => with_unfolding_all rfl); (case t => (intro _; with_unfolding_all rfl))); intro _))
local macro_rules | `(tactic| walk_at "exec For Tuple Tuple cons nil") => `(tactic| (k_here; (with_reducible show wpAny _ _ (exec _ _) _ _ _); refine Stop.intro ?_))
def rw2 (three : Int) : Str := if 4 ≤ three then (if 2 ≤ three.fmod 4 then Str.ofString "rw" else Str.ofString "r-") else (if 2 ≤ three.fmod 4 then Str.ofString "-w" else Str.ofString "--")
def rowStep (x : Int) (r : Str) (f a : Int) (ends : Str) : Str := (r ++ rw2 ((x.fdiv f).fmod 8)) ++
  (if (x.fdiv a).fmod 2 = 1 then Txt.item ends (((x.fdiv f).fmod 8).fmod 2) else Txt.item (Str.ofString "-x") (((x.fdiv f).fmod 8).fmod 2))
def row0 (x : Int) : Str := Txt.item (Str.ofString "?pc?d?b?-?l?s???") ((x.fdiv 4096).fmod 16)
def rowOf (x : Int) : Nat → Str
  | 0 => row0 x
  | 1 => rowStep x (row0 x) 64 2048 (Str.ofString "Ss")
  | 2 => rowStep x (rowStep x (row0 x) 64 2048 (Str.ofString "Ss")) 8 1024 (Str.ofString "Ss")
  | _ => rowStep x (rowStep x (rowStep x (row0 x) 64 2048 (Str.ofString "Ss")) 8 1024 (Str.ofString "Ss")) 1 512 (Str.ofString "Tt")
theorem rw2_of {t : Int} {a b : Str} (h1 : a = if decide (4 ≤ t) = true then Str.ofString "r" else Str.ofString "-") (h2 : b = if decide (2 ≤ t.fmod 4) = true then Str.ofString "w" else Str.ofString "-") : rw2 t = a ++ b := by
  subst h1 h2
  unfold rw2
  by_cases h4 : 4 ≤ t
  · rw [if_pos h4, if_pos (decide_eq_true h4)]
    by_cases h2 : 2 ≤ t.fmod 4
    · rw [if_pos h2, if_pos (decide_eq_true h2)]; decide +kernel
    · rw [if_neg h2, if_neg (fun e => h2 (of_decide_eq_true e))]; decide +kernel
  · rw [if_neg h4, if_neg (fun e => h4 (of_decide_eq_true e))]
    by_cases h2 : 2 ≤ t.fmod 4
    · rw [if_pos h2, if_pos (decide_eq_true h2)]; decide +kernel
    · rw [if_neg h2, if_neg (fun e => h2 (of_decide_eq_true e))]; decide +kernel
theorem rw2_len (t : Int) : (rw2 t).length = 2 := by
  unfold rw2
  (repeat' split) <;> decide +kernel
theorem rowStep_len (x : Int) (r : Str) (f a : Int) (e : Str) : (rowStep x r f a e).length = r.length + 3 := by
  unfold rowStep
  rw [Str.length_append, Str.length_append, rw2_len]
  split <;> rfl
theorem row_fin {x : Int} {p r2 it ends : Str} {f a : Int} {i : Nat} (hp : p = rowOf x i) (hpl : p.length = 1 + 3 * i) (hs : rowOf x (i + 1) = rowStep x (rowOf x i) f a ends) (h1 : rw2 ((x.fdiv f).fmod 8) = r2)
    (h2 : (if (x.fdiv a).fmod 2 = 1 then Txt.item ends (((x.fdiv f).fmod 8).fmod 2) else Txt.item (Str.ofString "-x") (((x.fdiv f).fmod 8).fmod 2)) = it) : p ++ r2 ++ it = rowOf x (i + 1) ∧ (p ++ r2 ++ it).length = 1 + 3 * (i + 1) := by
  subst h1 h2
  rw [hs, ← hp]
  have e : p ++ rw2 ((x.fdiv f).fmod 8) ++ (if (x.fdiv a).fmod 2 = 1 then Txt.item ends (((x.fdiv f).fmod 8).fmod 2) else Txt.item (Str.ofString "-x") (((x.fdiv f).fmod 8).fmod 2)) = rowStep x p f a ends := rfl
  rw [e, rowStep_len]
  exact ⟨rfl, by omega⟩
def IfDone (P : Prop) : Prop := P
theorem IfDone.out {P : Prop} (h : P) : IfDone P := h
theorem ifexp_one {prog : Program} {w : World} {A : Around} {E : Value → Shared → Prop} {s : Shared} {env : Env} {test : Expr} {a b : Str} {ka kb : Nat} {p1 p2 pos : Pos} {Q : Value → Shared → Prop} (ha : a.length = 1) (hb : b.length = 1)
    (h : wpAny (model prog w) A (isTrue test env (eval test env)) (fun c s₂ => IfDone (∀ r t, r = (if c = true then a else b) → r.length = 1 → Q (.str r t) { s₂ with toks := s₂.toks + 1 })) E s) :
    wpAny (model prog w) A (eval (.IfExp test (.Constant (.str a) ka p1) (.Constant (.str b) kb p2) pos) env) Q E s := by
  rw [eval_IfExp]
  refine wpAny_bind (wpAny_mono h (fun c s₂ hq => ?_) fun _ _ e => e)
  cases c with
  | true =>
    show wpAny (model prog w) A (eval (.Constant (.str a) ka p1) env) Q E s₂
    exact Calls.Constant_str (hq a s₂.toks rfl ha)
  | false =>
    show wpAny (model prog w) A (eval (.Constant (.str b) kb p2) env) Q E s₂
    exact Calls.Constant_str (hq b s₂.toks rfl hb)
local macro_rules | `(tactic| walk_at "eval IfExp") => `(tactic| (k_here; (with_reducible show wpAny _ _ (eval (PySem.Expr.IfExp _ (PySem.Expr.Constant _ _ _) (PySem.Expr.Constant _ _ _) _) _) _ _ _); refine ifexp_one (by decide +kernel) (by decide +kernel) ?_))
local macro_rules | `(tactic| walk_at "IfDone") => `(tactic| (refine IfDone.out ?_; intro r9 t9 hr9 hl9; (try dsimp only)))
theorem row_c {x : Int} {t : Tok} {w : World} {mean : ExcName → Option Value} {mg mb : Str → Option Value} {news : List (Addr × Obj)} {dp un : Nat} {gd : Option (List Code)} {cn : Str} {cs : Scope} {a : Addr} {ccd : Value} {cl : List (Str × Addr)} {outer : List Env} {A₀ : Around} {base h₀ : Heap} {L : Addr} {m : Str → Option Value} {s : Shared} {Q E : Value → Shared → Prop}
    (B : Below A₀ base outer h₀) (F : Fr h₀ L s.heap m) (X : (hd.heap_1 w.params).In h₀) (N : News h₀ L s.heap news)
    (T : Top vw (looseW vw lo) mean mg mb h₀)
    (hkf : cs.kind = .function) (hdp : dp + 16 < recursionLimit) (hun : un + 8 * 16 < cLine) (hx0 : 0 ≤ x) (hx1 : x < 1000000000)
    (hret : ∀ t' h' tk', Fr h₀ L h' m → News h₀ L h' news → Q (.str (rowOf x 3) t') { s with heap := h', toks := tk' }) :
    wpAny (model PySem.Challenge.rw_il0069_01.row.prog w) (ktrTop dp un gd cn cs L a ccd cl outer) (call (.ref 224) [.int x t]) Q E s := by
  revert X; k_fill; intro X
  refine wpAny_call ?_
  k_dflt cell_enter
  (k_with "pyIter ref" => (refine Stop.intro ?_))
  k_steps
  refine Stop.out ?_
  with_unfolding_all refine wpAny_For ?_ (by intro _; rfl)
  k_steps
  refine Stop.out ?_
  (rename Fr _ _ _ _ => F9)
  (rename News _ _ _ _ => N9)
  have mk9 := kstMark
  with_unfolding_all refine tupL (vs := [.ref _, .ref _, .ref _]) (σ := Str × Tok) (Str.ofString "figure") (fun c => (_, ({ cls := .type "tuple", data := .seq [.ref _, .ref _, .ref _].toArray } : Obj)) :: (_, ({ cls := .type "tuple", data := .seq #[.int 1 _, .int 512 _, .str (Str.ofString "Tt") _] } : Obj)) :: (_, ({ cls := .type "tuple", data := .seq #[.int 8 _, .int 1024 _, .str (Str.ofString "Ss") _] } : Obj)) :: (_, ({ cls := .type "tuple", data := .seq #[.int 64 _, .int 2048 _, .str (Str.ofString "Ss") _] } : Obj)) :: news) (fun c => [(Str.ofString "row", .str c.1 c.2)]) [Str.ofString "above", Str.ofString "ends", Str.ofString "three"] (fun i c => c.1 = rowOf x i ∧ c.1.length = 1 + 3 * i) (_, _) (by rfl) (fun c => .head _) F9 N9 (by kst_all) ?gp ?gt ?gd ?gE
  case gp => exact ⟨rfl, rfl⟩
  case gE => passes_own
  case gt =>
    clear F9 N9
    rintro ⟨p, tp⟩ i v own u h9 tk9 hv hoff ⟨hp, hpl⟩ F9 N9
    dsimp only at hp hpl hoff F9 N9
    (try simp only [List.cons_append] at N9)
    have hall : ∃ (va : Addr) (f a : Int) (e : Str) (t1 t2 t3 : Tok), v = Value.ref va ∧ IsTup h9 va #[.int f t1, .int a t2, .str e t3] ∧ 1 ≤ f ∧ f ≤ 64 ∧ 1 ≤ a ∧ a ≤ 2048 ∧ e.length = 2 ∧ i ≤ 2 ∧ rowOf x (i + 1) = rowStep x (rowOf x i) f a e := by
      rcases i with _ | _ | _ | i
      · exact ⟨_, 64, 2048, Str.ofString "Ss", _, _, _, (Option.some.inj hv).symm, ⟨_, (N9 _ (.tail _ (.tail _ (.tail _ (.head _))))).1, rfl, _, rfl⟩, by decide, by decide, by decide, by decide, by decide +kernel, by decide, rfl⟩
      · exact ⟨_, 8, 1024, Str.ofString "Ss", _, _, _, (Option.some.inj hv).symm, ⟨_, (N9 _ (.tail _ (.tail _ (.head _)))).1, rfl, _, rfl⟩, by decide, by decide, by decide, by decide, by decide +kernel, by decide, rfl⟩
      · exact ⟨_, 1, 512, Str.ofString "Tt", _, _, _, (Option.some.inj hv).symm, ⟨_, (N9 _ (.tail _ (.head _))).1, rfl, _, rfl⟩, by decide, by decide, by decide, by decide, by decide +kernel, by decide, rfl⟩
      · exact nomatch hv
    obtain ⟨va, f, a, e, t1, t2, t3, rfl, hT, hf1, hf2, ha1, ha2, hel, hi2, hs⟩ := hall
    (try k_fold)
    k_steps
    all_goals (
      (rename News _ _ _ _ => nE)
      refine st_endN ⟨_, _⟩ (by assumption) nE (by first | kst_in | kst_inAny) (by first | (intro p hp; kst_mem) | kst_anyIn) (by rfl) (by kst_all) ?_ ?_
      · (intro z h1 h2 h3; have h4 : z ≠ Str.ofString "row" := h2 _ (List.Mem.head _); have h5 : z ≠ Str.ofString "above" := (fun e => absurd (e ▸ h3) (by decide +kernel)); have h6 : z ≠ Str.ofString "ends" := (fun e => absurd (e ▸ h3) (by decide +kernel)); have h7 : z ≠ Str.ofString "three" := (fun e => absurd (e ▸ h3) (by decide +kernel)); simp [kstB, h1, h4, h5, h6, h7])
      · exact row_fin hp hpl hs (rw2_of (by with_reducible assumption) (by with_reducible assumption)) (by first | exact if_pos (by assumption) | exact if_neg (by assumption)))
  case gd =>
    clear F9 N9
    rintro ⟨p, tp⟩ u h9 tk9 ⟨hp, hpl⟩ F9 N9
    dsimp only at hp hpl F9 N9
    (try k_fold)
    k_steps
    (rename Fr _ _ _ _ => F8)
    (rename News _ _ _ _ => N8)
    rw [hp]
    exact hret _ _ _ F8 (fun p hp => N8 p (.tail _ (.tail _ (.tail _ (.tail _ hp)))))
end
/-! ## B9 -/
section
open PyProof.Rows
/-- what a turn of the law leaves: the firsts' values, the wholes' values, the objects made -/
structure TS where
  fv : List Value
  fn : Nat
  wv : List Value
  wn : Nat
  objs : List (Addr × Obj)
def ApartL : List (Addr × Obj) → Prop
  | a :: b :: c :: d :: e :: r => ((@Ne Nat a.1 b.1) ∧ (@Ne Nat a.1 c.1) ∧ (@Ne Nat a.1 d.1) ∧ (@Ne Nat a.1 e.1) ∧ (@Ne Nat b.1 c.1) ∧ (@Ne Nat b.1 d.1) ∧ (@Ne Nat b.1 e.1)) ∧ (∀ p ∈ r, p.1 ≠ a.1) ∧ ∀ p ∈ r, p.1 ≠ b.1
  | _ => True
def turnedAt (rows : List Str) (t : Nat) : List Str := rows.drop t ++ rows.take t
def namesAt (rows : List Str) (t : Nat) : List Str := walked (turnedAt rows t)
def goodAt (rows : List Str) (t : Nat) : Bool := decide ((namesAt rows t).head? = (turnedAt rows t).head?) && decide ((turnedAt rows t).head? ≠ some (Str.ofString ".."))
def firstsTo (rows : List Str) (k : Nat) : List Str := ((List.range k).filter (goodAt rows)).map fun t => rows.getD t Str.empty
/-- a made list of texts, the sorted names of a good turn -/
def WholeIs (rows : List Str) (objs : List (Addr × Obj)) (v : Value) : Prop :=
  ∃ a vals n ss t, v = .ref a ∧ (a, listOf vals.toArray n) ∈ objs ∧ StrsAre vals ss ∧ sortedS ss = true ∧ t < 10 ∧ goodAt rows t = true ∧ ss.Perm (namesAt rows t)
theorem WholeIs.more {rows : List Str} {objs : List (Addr × Obj)} {v : Value} (p : Addr × Obj) (h : WholeIs rows objs v) : WholeIs rows (p :: objs) v := by
  obtain ⟨a, vals, n, ss, t, h1, h2, h3⟩ := h
  exact ⟨a, vals, n, ss, t, h1, .tail _ h2, h3⟩
def TurnP (rows : List Str) (k : Nat) (c : TS) : Prop := StrsAre c.fv (firstsTo rows k) ∧ c.fv.length ≤ k ∧ c.wv.length ≤ k ∧ ∀ v ∈ c.wv, WholeIs rows c.objs v
section
variable {prog : Program} {w : World} {A : Around} {E : Value → Shared → Prop} {s : Shared} {env : Env} {h₀ : Heap} {x : Str} {body : List Stmt} {Q : Flow → Shared → Prop}
theorem turns_loop {r : Addr} {a₀ b₀ : Int} {t₀ u₀ v₀ : Tok} {n : Nat} {m₀ : Str → Option Value} (rows : List Str) (Led : TS → List (Addr × Obj)) (ps : TS → List (Str × Value)) (stored : List Str) (c₀ : TS)
    (hh : A.handled = none) (hr : IsRange s.heap r a₀ b₀ 1 t₀ u₀ v₀) (hsmall : Builtin.Range.small a₀ b₀ 1 = true) (hn : Builtin.Range.rangeSize a₀ b₀ 1 = (n : Int))
    (F : Fr h₀ env.locals s.heap m₀) (N : News h₀ env.locals s.heap (Led c₀)) (hk : ∀ p ∈ ps c₀, m₀ p.1 = some p.2) (ha : ApartL (Led c₀)) (hp : TurnP rows 0 c₀)
    (turn : ∀ (c : TS) (i : Nat) t I oI (u : Str → Option Value) h tk, i < n → (∀ p ∈ Led c, p.1 ≠ I) → ApartL (Led c) → TurnP rows i c →
      Fr h₀ env.locals h (fun y => if y = x then some (.int (a₀ + i) t) else kstB (fun z => if stored.contains z then u z else m₀ z) (ps c) y) → News h₀ env.locals h ((I, oI) :: Led c) →
      wpAny (model prog w) A (execs body env) (InvPostG h₀ env.locals (StS Led ps x stored m₀ (fun c => ApartL (Led c) ∧ TurnP rows (i + 1) c)) [(I, oI)] { s with heap := h, toks := tk } Q) E { s with heap := h, toks := tk })
    (done : ∀ (c : TS) (u : Str → Option Value) h tk, ApartL (Led c) → TurnP rows n c → Fr h₀ env.locals h (fun y => if y = x then u y else kstB (fun z => if stored.contains z then u z else m₀ z) (ps c) y) → News h₀ env.locals h (Led c) → Q .next { s with heap := h, toks := tk }) :
    wpAny (model prog w) A (pyIter (.ref r)) (fun it s₂ => LoopAtV prog w A h₀ env x body Q E it s₂) E s :=
  range_loop Led ps stored (fun i c => ApartL (Led c) ∧ TurnP rows i c) c₀ hh hr hsmall hn F N hk ⟨ha, hp⟩
    (fun c i t I oI u h tk hi hoff hP F N => turn c i t I oI u h tk hi hoff hP.1 hP.2 F N) (fun c u h tk hP F N => done c u h tk hP.1 hP.2 F N)
end
end
/-! ## R2 -/
section
open PySem.Builtin PySem.Builtin.Re
theorem slot_sub : Slot "re.Pattern" "sub" "re.Pattern.sub" :=
  .of (owner := "re.Pattern") (n := "sub") (by rw [typeLookup_type, builtinLookup_eq_fast]; kernel_rfl) (by decide +kernel) (by decide +kernel) (by decide +kernel)
    (by first | exact .inl (by decide +kernel) | exact .inr (by decide +kernel)) (by rw [isSubtype_type]; kernel_rfl)
theorem type_sub : typeOf (.builtin "re.Pattern.sub") = pure (.type "method_descriptor") := by show builtinType _ = _; rw [builtinType_eq_fast]; kernel_rfl
theorem entry_sub : entryFor table "re.Pattern.sub" = some Builtin.«re.Pattern.sub» := entryFor_of_tree (by kernel_rfl)
theorem entry_subloop : entryFor table "re.Pattern.sub.loop" = some Builtin.«re.Pattern.sub.loop» := entryFor_of_tree (by kernel_rfl)
theorem plainAttrs_pat : PlainAttrs "re.Pattern" :=
  ⟨⟨"object.__getattribute__", by rw [typeLookup_type, builtinLookup_eq_fast]; kernel_rfl, by decide +kernel⟩, by rw [typeLookup_type, builtinLookup_eq_fast]; kernel_rfl⟩
theorem args_sub_3 (a b c : Value) : argsOk "re.Pattern.sub" ⟨[a, b, c], []⟩ := by
  unfold argsOk
  kernel_rfl
theorem str_nocall : typeLookup (.type "str") (Str.ofString "__call__") = pure none := by rw [typeLookup_type, builtinLookup_eq_fast]; kernel_rfl
section
variable {prog : Program} {w : World} {A : Around} {E : Value → Shared → Prop} {s : Shared}
theorem sub_start {pa ca : Addr} {x0 r x : Str} {t0 t1 t2 tf : Tok} {fl : Int} {codeV : Array Value} {n : Nat} {R : Result → Shared → Prop}
    (hp : s.heap.get? pa = some { cls := .type "re.Pattern", data := .fields #[.str x0 t0, .int fl tf, .int 0 0, .none, .none, .ref ca, .int 0 0] })
    (hc : s.heap.get? ca = some { cls := .type "tuple", data := .seq codeV n }) (hr : r.cps.contains 92 = false)
    (h : codeAny (model prog w) A (.builtin "re.Pattern.sub.loop" ⟨[.ref pa, .str x t2, .str r t1, rawInt 0, rawInt 0, rawInt 0, rawInt 0, rawInt 0, .bool false, .ref s.heap.objs.size, .bool false], []⟩) R { s with heap := s.heap.push (listOf #[] 0) }) :
    wpAny (model prog w) A.in1 (Builtin.«re.Pattern.sub» ⟨[.ref pa, .str r t1, .str x t2], []⟩)
      (fun fin s' => match fin with | .done f => R (.ok f) s' | .again c' => c'.quiet = true ∧ codeAny (model prog w) A c' R s') (fun e s' => R (.error e) s') s := by
  obtain ⟨hpp, g, d, tk, os⟩ := s
  have hcall := str_nocall
  repeat (any_goals (first | assumption | (rw [hcall]) | wp_step))
  rw [if_pos (by rw [hr]; rfl)]
  repeat (any_goals (first | assumption | wp_step))
  exact ⟨Code.quiet_builtin _ (by decide +kernel), h⟩
end

theorem runFor_done : ∀ (n : Nat) (m : Sre.M), m.outcome.isSome = true → m.runFor n = m
  | 0, _, _ => rfl
  | n + 1, m, h => by
    show (if m.outcome.isSome then m else Sre.M.runFor n m.step) = m
    rw [if_pos h]
theorem runFor_add : ∀ (a b : Nat) (m : Sre.M), (m.runFor a).runFor b = m.runFor (a + b)
  | 0, b, m => by rw [Nat.zero_add]; rfl
  | a + 1, b, m => by
    by_cases h : m.outcome.isSome = true
    · rw [runFor_done _ m h, runFor_done _ m h, runFor_done _ m h]
    · have e1 : m.runFor (a + 1) = m.step.runFor a := if_neg h
      have e2 : m.runFor (a + 1 + b) = m.step.runFor (a + b) := by
        rw [show a + 1 + b = (a + b) + 1 by omega]
        exact if_neg h
      rw [e1, e2, runFor_add a b]
section
variable {M : Model} {A : Around} {E : Value → Shared → Prop} {s : Shared}
theorem drive {m' : Sre.M} {Q : Sre.M → Shared → Prop} (hm' : m'.outcome.isSome = true) (hQ : Q m' s) : ∀ (turns N : Nat) (m : Sre.M), m.runFor N = m' → N ≤ 4 * turns → 0 < turns → wpAny M A (reDrive turns m) Q E s
  | 0, _, _, _, _, h => absurd h (Nat.lt_irrefl 0)
  | turns + 1, N, m, hN, hle, _ => by
    show wpAny M A (if (m.runFor 4).outcome.isSome = true then pure (m.runFor 4) else do rule "sre.turn"; reDrive turns (m.runFor 4)) Q E s
    by_cases h : (m.runFor 4).outcome.isSome = true
    · rw [if_pos h]
      refine wpAny_pure ?_
      have e : m.runFor 4 = m' := by
        by_cases h4 : N ≤ 4
        · have e1 := runFor_add N (4 - N) m
          rw [hN, runFor_done _ m' hm', show N + (4 - N) = 4 by omega] at e1
          exact e1.symm
        · have e1 := runFor_add 4 (N - 4) m
          rw [runFor_done _ _ h, show 4 + (N - 4) = N by omega, hN] at e1
          exact e1
      show Q (m.runFor 4) s
      rw [e]
      exact hQ
    · rw [if_neg h]
      refine wpAny_bind (wpAny_rule ?_)
      have h4 : 4 < N := by
        refine Nat.lt_of_not_le fun h4 => h ?_
        have e1 := runFor_add N (4 - N) m
        rw [hN, runFor_done _ m' hm', show N + (4 - N) = 4 by omega] at e1
        rw [← e1]
        exact hm'
      refine drive hm' hQ turns (N - 4) (m.runFor 4) ?_ (by omega) (by omega)
      rw [runFor_add, show 4 + (N - 4) = N by omega]
      exact hN
theorem rules_noop {Q : PUnit → Shared → Prop} {c : Nat → Bool} {nm : Nat → String} : ∀ l : List Nat, Q PUnit.unit s → wpAny M A (forIn l PUnit.unit fun i _ => if c i = true then (do rule (nm i); pure (ForInStep.yield PUnit.unit)) else pure (ForInStep.yield PUnit.unit)) Q E s
  | [], h => by
    rw [List.forIn_nil]
    exact wpAny_pure h
  | i :: r, h => by
    rw [List.forIn_cons]
    refine wpAny_bind ?_
    by_cases hc : c i = true
    · rw [if_pos hc]
      exact wpAny_bind (wpAny_rule (wpAny_pure (rules_noop r h)))
    · rw [if_neg hc]
      exact wpAny_pure (rules_noop r h)
theorem runToEnd {m m' : Sre.M} {N : Nat} {o : Option Sre.M} {Q : Option Sre.M → Shared → Prop} (hN : m.runFor N = m') (hle : N ≤ 2 ^ 60)
    (ho : (m'.outcome = some .matched ∧ o = some m') ∨ (m'.outcome = some .failed ∧ o = none)) (hQ : Q o s) : wpAny M A (reRunToEnd m) Q E s := by
  have hs : m'.outcome.isSome = true := by rcases ho with ⟨h, _⟩ | ⟨h, _⟩ <;> rw [h] <;> rfl
  unfold reRunToEnd
  refine wpAny_bind (drive hs ?_ (2 ^ 64) N m hN (by omega) (by decide))
  refine wpAny_bind (rules_noop _ ?_)
  rcases ho with ⟨h, e⟩ | ⟨h, e⟩
  · rw [h, ← e]
    exact wpAny_pure hQ
  · rw [h, ← e]
    exact wpAny_pure hQ
end
end
/-! ## R3 -/
section
open PySem.Builtin PySem.Builtin.Re
section
variable {M : Model} {A : Around} {E : Value → Shared → Prop} {s : Shared}
theorem push_list {pl : Addr} {its : Array Value} {k : Nat} {v : Value} {Q : Unit → Shared → Prop}
    (hl : s.heap.get? pl = some (listOf its k)) (hz : its.size ≤ 3000)
    (h : ∀ h' : Heap, h'.get? pl = some (listOf (its.push v) (k + 1)) → Heap.SameBut pl s.heap h' → Q () { s with heap := h' }) :
    wpAny M A (updateSeq pl (·.push v)) Q E s := by
  have h1 : its.size ≤ sizeLine := Nat.le_trans hz (by decide +kernel)
  have h2 : (its.push v).size ≤ sizeLine + 1 := by rw [Array.size_push]; exact Nat.succ_le_succ h1
  refine wpAny_updateSeq hl rfl (h _ ?_ (Heap.SameBut.update ..)) h1 h2
  rw [Heap.get?_update_self _ hl rfl]
  have e : ((its.push v).size == its.size) = false := by
    rw [Array.size_push]
    exact beq_false_of_ne (by omega)
  show some (Obj.mk _ _ (Data.seq (its.push v) (if (its.push v).size == its.size then k else k + 1)) _) = _
  rw [e]
  rfl
end
/-- the piece ahead of a match. -/
def cut (x : Str) (a b : Nat) : List Str := if a < b then [⟨x.cps.extract a b⟩] else []
section
variable {prog : Program} {w : World} {A : Around} {E : Value → Shared → Prop} {s : Shared}
theorem subloop_more {pa ca pl : Addr} {x0 r x : Str} {t0 t1 t2 tf : Tok} {fl : Int} {codeV : Array Value} {n k N dn : Nat} {its : Array Value} {rows : List Str} {cnt : Int} {R : Result → Shared → Prop} {m' : Sre.M}
    (hp : s.heap.get? pa = some { cls := .type "re.Pattern", data := .fields #[.str x0 t0, .int fl tf, .int 0 0, .none, .none, .ref ca, .int 0 0] })
    (hc : s.heap.get? ca = some { cls := .type "tuple", data := .seq codeV n })
    (hl : s.heap.get? pl = some (listOf its k)) (hx : x.cps.size ≤ 1000) (hI : StrsAre its.toList rows) (hz : its.size ≤ 2000)
    (hN : (Sre.forSearch ((codeV.map reRawOf).map (·.toNat)) x.cps 0 dn x.cps.size false).runFor N = m') (hle : N ≤ 2 ^ 60) (ho : m'.outcome = some .matched)
    (h : ∀ h' tk its' k', h'.get? pl = some (listOf its' k') → Heap.SameBut pl s.heap h' → StrsAre its'.toList (rows ++ cut x dn m'.start ++ [r]) →
      codeAny (model prog w) A (.builtin "re.Pattern.sub.loop" ⟨[.ref pa, .str x t2, .str r t1, rawInt 0, rawInt 0, rawInt (cnt + 1), rawInt m'.handed, rawInt m'.handed, .bool (m'.handed == m'.start), .ref pl, .bool false], []⟩) R { s with heap := h', toks := tk }) :
    codeAny (model prog w) A (.builtin "re.Pattern.sub.loop" ⟨[.ref pa, .str x t2, .str r t1, rawInt 0, rawInt 0, rawInt cnt, rawInt dn, rawInt dn, .bool false, .ref pl, .bool false], []⟩) R s := by
  obtain ⟨hpp, g, d, tk, os⟩ := s
  refine codeAny_builtin entry_subloop ?_
  repeat (any_goals (first | assumption | exact hN | (with_reducible refine runToEnd (N := N) (m' := m') (o := some m') ?_ hle (.inl ⟨ho, rfl⟩) ?_) | wp_step))
  have hr : (Value.str r t1 != Value.none) = true := rfl
  by_cases hs : (dn : Int).toNat < m'.start
  · rw [if_pos hs]
    have hs' : dn < m'.start := hs
    have hc9 : cut x dn m'.start = [⟨x.cps.extract dn m'.start⟩] := if_pos hs'
    rw [hc9] at h
    refine wpAny_bind ?_
    show wpAny _ _ (mkStr ⟨x.cps.extract dn m'.start⟩) _ _ _
    refine wpAny_mkStr (x := ⟨x.cps.extract dn m'.start⟩) ?_ (by
      show (x.cps.extract dn m'.start).size ≤ sizeLine
      rw [Array.size_extract]
      have : sizeLine ≥ 1000 := by decide +kernel
      omega)
    refine wpAny_bind ?_
    refine push_list hl (by omega) fun h1 hl1 hs1 => ?_
    refine wpAny_bind (wpAny_pure ?_)
    show wpAny _ _ (if (Value.str r t1 != Value.none) = true then _ else _) _ _ _
    rw [if_pos hr]
    refine wpAny_bind ?_
    refine push_list hl1 (by rw [Array.size_push]; omega) fun h2 hl2 hs2 => ?_
    refine wpAny_pure ?_
    refine ⟨Code.quiet_builtin _ (by decide +kernel), ?_⟩
    refine h h2 _ _ _ hl2 (hs1.trans hs2) ?_
    have e : ((its.push (Value.str ⟨x.cps.extract dn m'.start⟩ tk)).push (Value.str r t1)).toList = its.toList ++ ([Value.str ⟨x.cps.extract dn m'.start⟩ tk] ++ [Value.str r t1]) := by
      rw [Array.toList_push, Array.toList_push, List.append_assoc]
    rw [e, List.append_assoc]
    exact strsAre_append hI (.cons _ _ (.cons _ _ .nil))
  · rw [if_neg hs]
    have hs' : ¬ dn < m'.start := hs
    have hc9 : cut x dn m'.start = [] := if_neg hs'
    rw [hc9] at h
    refine wpAny_bind (wpAny_pure ?_)
    show wpAny _ _ (if (Value.str r t1 != Value.none) = true then _ else _) _ _ _
    rw [if_pos hr]
    refine wpAny_bind ?_
    refine push_list hl (by omega) fun h2 hl2 hs2 => ?_
    refine wpAny_pure ?_
    refine ⟨Code.quiet_builtin _ (by decide +kernel), ?_⟩
    refine h h2 _ _ _ hl2 hs2 ?_
    rw [Array.toList_push, List.append_assoc]
    exact strsAre_append hI (.cons _ _ .nil)
theorem subloop_end {pa ca pl : Addr} {x0 r x : Str} {t0 t1 t2 tf : Tok} {fl : Int} {codeV : Array Value} {n k N dn : Nat} {its : Array Value} {rows : List Str} {cnt : Int} {R : Result → Shared → Prop} {m' : Sre.M}
    (hp : s.heap.get? pa = some { cls := .type "re.Pattern", data := .fields #[.str x0 t0, .int fl tf, .int 0 0, .none, .none, .ref ca, .int 0 0] })
    (hc : s.heap.get? ca = some { cls := .type "tuple", data := .seq codeV n })
    (hl : s.heap.get? pl = some (listOf its k)) (hx : x.cps.size ≤ 1000) (hI : StrsAre its.toList rows) (hz : its.size ≤ 2000) (hne : rows ++ cut x dn x.cps.size ≠ []) (hw : ((rows ++ cut x dn x.cps.size).map (·.length)).sum + (rows ++ cut x dn x.cps.size).length ≤ 1048576)
    (hN : (Sre.forSearch ((codeV.map reRawOf).map (·.toNat)) x.cps 0 dn x.cps.size false).runFor N = m') (hle : N ≤ 2 ^ 60) (ho : m'.outcome = some .failed)
    (h : ∀ h' tk t', Heap.SameBut pl s.heap h' → R (.ok (.ret (.str (Txt.join Str.empty (rows ++ cut x dn x.cps.size)) t'))) { s with heap := h', toks := tk }) :
    codeAny (model prog w) A (.builtin "re.Pattern.sub.loop" ⟨[.ref pa, .str x t2, .str r t1, rawInt 0, rawInt 0, rawInt cnt, rawInt dn, rawInt dn, .bool false, .ref pl, .bool false], []⟩) R s := by
  obtain ⟨hpp, g, d, tk, os⟩ := s
  refine codeAny_builtin entry_subloop ?_
  repeat (any_goals (first | assumption | exact hN | (with_reducible refine runToEnd (N := N) (m' := m') (o := none) ?_ hle (.inr ⟨ho, rfl⟩) ?_) | wp_step))
  have e0 : (⟨x.cps.extract 0 0⟩ : Str) = Str.empty := congrArg Str.mk (by apply Array.eq_empty_of_size_eq_zero; rw [Array.size_extract]; omega)
  by_cases hs : (dn : Int).toNat < x.cps.size
  · rw [if_pos hs]
    have hc9 : cut x dn x.cps.size = [⟨x.cps.extract dn x.cps.size⟩] := if_pos hs
    rw [hc9] at h hne hw
    refine wpAny_bind ?_
    show wpAny _ _ (mkStr ⟨x.cps.extract dn x.cps.size⟩) _ _ _
    refine wpAny_mkStr (x := ⟨x.cps.extract dn x.cps.size⟩) ?_ (by
      show (x.cps.extract dn x.cps.size).size ≤ sizeLine
      rw [Array.size_extract]
      have : sizeLine ≥ 1000 := by decide +kernel
      omega)
    refine wpAny_bind ?_
    refine push_list hl (by omega) fun h1 hl1 hs1 => ?_
    have hI1 : StrsAre (its.push (Value.str ⟨x.cps.extract dn x.cps.size⟩ tk)).toList (rows ++ [⟨x.cps.extract dn x.cps.size⟩]) := by
      rw [Array.toList_push]
      exact strsAre_append hI (.cons _ _ .nil)
    refine wpAny_bind ?_
    show wpAny _ _ (mkStr ⟨x.cps.extract 0 0⟩) _ _ _
    rw [e0]
    refine wpAny_mkStr (x := Str.empty) ?_ (by decide +kernel)
    refine wpAny_bind ?_
    refine wpAny_seqItems hl1 rfl ?_
    dsimp only [Option.getD_some]
    rw [if_neg (by
      intro hE
      have hE' := Array.isEmpty_iff.mp hE
      refine hne ?_
      have := StrsAre.length hI1
      rw [show its.push (Value.str ⟨x.cps.extract dn x.cps.size⟩ tk) = #[] from hE'] at this
      exact List.eq_nil_of_length_eq_zero this.symm)]
    refine wpAny_bind ?_
    show wpAny _ _ (call (.builtin "str.join") [.str Str.empty _, .ref pl]) _ _ _
    refine join_listW ⟨_, hl1, rfl, _, rfl⟩ hI1 (by decide +kernel) hw fun t9 k9 => ?_
    rw [if_neg (by decide)]
    repeat (any_goals (first | exact h _ _ _ hs1 | wp_step))
  · rw [if_neg hs]
    have hc9 : cut x dn x.cps.size = [] := if_neg hs
    rw [hc9] at h hne hw
    have hI1 : StrsAre its.toList (rows ++ []) := by rw [List.append_nil]; exact hI
    refine wpAny_bind ?_
    show wpAny _ _ (mkStr ⟨x.cps.extract 0 0⟩) _ _ _
    rw [e0]
    refine wpAny_mkStr (x := Str.empty) ?_ (by decide +kernel)
    refine wpAny_bind ?_
    refine wpAny_seqItems hl rfl ?_
    dsimp only [Option.getD_some]
    rw [if_neg (by
      intro hE
      have hE' := Array.isEmpty_iff.mp hE
      refine hne ?_
      have := StrsAre.length hI1
      rw [show its = #[] from hE'] at this
      exact List.eq_nil_of_length_eq_zero this.symm)]
    refine wpAny_bind ?_
    show wpAny _ _ (call (.builtin "str.join") [.str Str.empty _, .ref pl]) _ _ _
    refine join_listW ⟨_, hl, rfl, _, rfl⟩ hI1 (by decide +kernel) hw fun t9 k9 => ?_
    rw [if_neg (by decide)]
    repeat (any_goals (first | exact h _ _ _ (Heap.SameBut.refl ..) | wp_step))
end
end
/-! ## R4 -/
section
open PySem.Sre
/-- a state of the machine while it searches: no groups, no loops. -/
def K (code T : Array Nat) (s pc pos handed : Nat) (om : Bool) (fr : List Sre.Frame) (wt : Nat) (ans : Option Bool) (seen : Sre.Seen) : M :=
  { code, text := T, lim := T.size, start := s, lastStart := T.size, pc, pos, handed, outermost := om, marks := #[], frames := fr, weight := wt, answer := ans, seen }
def Ev (k : Nat) (m : M) (P : Sre.Seen → M) : Prop := ∃ se, m.runFor k = P se
theorem Ev.trans {k j : Nat} {m : M} {P P' : Sre.Seen → M} (h : Ev k m P) (h' : ∀ se, Ev j (P se) P') : Ev (k + j) m P' := by
  obtain ⟨se, e⟩ := h
  obtain ⟨se', e'⟩ := h' se
  exact ⟨se', by rw [← runFor_add, e, e']⟩
theorem Ev.one {m : M} {P : Sre.Seen → M} (ho : m.outcome = none) (se : Sre.Seen) (h : m.step = P se) : Ev 1 m P :=
  ⟨se, by
    show (if m.outcome.isSome = true then m else M.runFor 0 m.step) = _
    rw [ho]
    exact h⟩
section
variable {code T : Array Nat} {s pc pos hd : Nat} {om : Bool} {fr : List Sre.Frame} {wt : Nat} {ans : Option Bool} {seen : Sre.Seen}
theorem step_exec {m : M} (ho : m.outcome = none) (ha : m.answer = none) (hp : m.pc < m.code.size) : m.step = m.exec := by
  unfold M.step
  rw [ho, ha]
  exact if_pos hp
theorem exec_lit {m : M} (hw : m.word 0 = 16) : m.exec = if m.pos ≥ m.lim then M.say { m with seen := m.seen.add 16 } false else
    bif m.text.getD m.pos 0 == m.word 1 then { m with seen := m.seen.add 16, pc := m.pc + 2, pos := m.pos + 1 } else M.say { m with seen := m.seen.add 16 } false := by
  have hw' : m.code.getD m.pc 0 = 16 := hw
  have e1 : ops[16]? = some Op.LITERAL := by kernel_rfl
  have e2 : itemWidth m.code m.pc = 2 := by unfold itemWidth; rw [hw', e1]
  have e3 : ∀ c seen, accepts m.code m.pc c seen = .ok (c == m.word 1, seen) := by
    intro c seen
    unfold accepts
    rw [hw', e1]
    rfl
  unfold M.exec
  rw [hw, e1]
  dsimp only
  by_cases h : m.pos ≥ m.lim
  · rw [if_pos h, if_pos h]
  · rw [if_neg h, if_neg h, e3, e2]
    cases m.text.getD m.pos 0 == m.word 1 <;> rfl
theorem lit_yes (hpc : pc < code.size) (hw : code.getD pc 0 = 16) (hpos : pos < T.size) (hc : T.getD pos 0 = code.getD (pc + 1) 0) :
    Ev 1 (K code T s pc pos hd om fr wt none seen) (K code T s (pc + 2) (pos + 1) hd om fr wt none) := by
  refine Ev.one rfl (seen.add 16) ?_
  rw [step_exec rfl rfl hpc, exec_lit (m := K code T s pc pos hd om fr wt none seen) hw]
  refine (if_neg (show ¬ pos ≥ T.size by omega)).trans ?_
  show (bif T.getD pos 0 == code.getD (pc + 1) 0 then _ else _) = _
  rw [beq_iff_eq.mpr hc]
  rfl
theorem lit_no (hpc : pc < code.size) (hw : code.getD pc 0 = 16) (hc : pos < T.size → T.getD pos 0 ≠ code.getD (pc + 1) 0) :
    Ev 1 (K code T s pc pos hd om fr wt none seen) (K code T s pc pos hd om fr wt (some false)) := by
  refine Ev.one rfl (seen.add 16) ?_
  rw [step_exec rfl rfl hpc, exec_lit (m := K code T s pc pos hd om fr wt none seen) hw]
  by_cases h : pos ≥ T.size
  · exact if_pos h
  · refine (if_neg h).trans ?_
    show (bif T.getD pos 0 == code.getD (pc + 1) 0 then _ else _) = _
    rw [beq_false_of_ne (hc (by omega))]
    rfl
theorem bol_yes (hpc : pc < code.size) (hw : code.getD pc 0 = 6) (hw1 : code.getD (pc + 1) 0 = 1) (hc : (pos == 0 || T.getD (pos - 1) 0 == 10) = true) :
    Ev 1 (K code T s pc pos hd om fr wt none seen) (K code T s (pc + 2) pos hd om fr wt none) := by
  refine Ev.one rfl ((seen.add 6).add (43 + code.getD (pc + 1) 0)) ?_
  rw [step_exec rfl rfl hpc]
  have e1 : ops[6]? = some Op.AT := by kernel_rfl
  have hw' : (K code T s pc pos hd om fr wt none seen).word 0 = 6 := hw
  have hw1' : (K code T s pc pos hd om fr wt none seen).word 1 = 1 := hw1
  have e2 : ∀ se, ({ (K code T s pc pos hd om fr wt none seen) with seen := se } : M).isAt 1 = .ok (pos == 0 || T.getD (pos - 1) 0 == 10) := fun _ => rfl
  unfold M.exec
  rw [hw', e1]
  dsimp only
  show (match M.isAt _ ((K code T s pc pos hd om fr wt none seen).word 1) with | .error why => _ | .ok yes => _) = _
  rw [hw1', e2, hc]
  rfl
theorem bol_no (hpc : pc < code.size) (hw : code.getD pc 0 = 6) (hw1 : code.getD (pc + 1) 0 = 1) (hc : (pos == 0 || T.getD (pos - 1) 0 == 10) = false) :
    Ev 1 (K code T s pc pos hd om fr wt none seen) (K code T s pc pos hd om fr wt (some false)) := by
  refine Ev.one rfl ((seen.add 6).add (43 + code.getD (pc + 1) 0)) ?_
  rw [step_exec rfl rfl hpc]
  have e1 : ops[6]? = some Op.AT := by kernel_rfl
  have hw' : (K code T s pc pos hd om fr wt none seen).word 0 = 6 := hw
  have hw1' : (K code T s pc pos hd om fr wt none seen).word 1 = 1 := hw1
  have e2 : ∀ se, ({ (K code T s pc pos hd om fr wt none seen) with seen := se } : M).isAt 1 = .ok (pos == 0 || T.getD (pos - 1) 0 == 10) := fun _ => rfl
  unfold M.exec
  rw [hw', e1]
  dsimp only
  show (match M.isAt _ ((K code T s pc pos hd om fr wt none seen).word 1) with | .error why => _ | .ok yes => _) = _
  rw [hw1', e2, hc]
  rfl
theorem jump (hpc : pc < code.size) (hw : code.getD pc 0 = 15) :
    Ev 1 (K code T s pc pos hd om fr wt none seen) (K code T s (pc + 1 + code.getD (pc + 1) 0) pos hd om fr wt none) := by
  refine Ev.one rfl (seen.add 15) ?_
  rw [step_exec rfl rfl hpc]
  have e1 : ops[15]? = some Op.JUMP := by kernel_rfl
  have hw' : (K code T s pc pos hd om fr wt none seen).word 0 = 15 := hw
  unfold M.exec
  rw [hw', e1]
  rfl
theorem success (hpc : pc < code.size) (hw : code.getD pc 0 = 1) :
    Ev 1 (K code T s pc pos hd om fr wt none seen) (K code T s pc pos pos om fr wt (some true)) := by
  refine Ev.one rfl (seen.add 1) ?_
  rw [step_exec rfl rfl hpc]
  have e1 : ops[1]? = some Op.SUCCESS := by kernel_rfl
  have hw' : (K code T s pc pos hd om fr wt none seen).word 0 = 1 := hw
  unfold M.exec
  rw [hw', e1]
  refine (if_neg ?_).trans rfl
  show ¬ (om && ((false && pos != T.size) || (false && pos == s))) = true
  cases om <;> exact Bool.false_ne_true
/-- the frame that a search lays. -/
def fs (c s : Nat) (om : Bool) : Sre.Frame := { wait := .nextStart, pc := c, pos := s, outermost := om }
/-- the frame that a branch lays. -/
def fb (c s : Nat) (om : Bool) : Sre.Frame := { wait := .nextBranch, pc := c, pos := s, outermost := om }
theorem fs_yes {c s' : Nat} {om' : Bool} : Ev 1 (K code T s pc pos hd om [fs c s' om'] wt (some true) seen) (K code T s c s' hd om' [] (wt - 1) (some true)) :=
  Ev.one rfl seen rfl
theorem fs_end {c : Nat} {om' : Bool} : Ev 1 (K code T s pc pos hd om [fs c T.size om'] wt (some false) seen) (K code T s c T.size hd om' [] (wt - 1) (some false)) := by
  refine Ev.one rfl seen ?_
  show (if T.size < T.size then _ else _) = _
  exact if_neg (Nat.lt_irrefl T.size)
theorem fb_yes {c s' : Nat} {om' : Bool} : Ev 1 (K code T s pc pos hd om (fb c s' om' :: fr) wt (some true) seen) (K code T s c s' hd om' fr (wt - 1) (some true)) :=
  Ev.one rfl seen rfl
theorem fb_no {c s' : Nat} {om' : Bool} (hw : wt ≤ 16) (hz : code.getD (c + code.getD c 0) 0 ≠ 0) :
    Ev 1 (K code T s pc pos hd om (fb c s' om' :: fr) wt (some false) seen) (K code T s (c + code.getD c 0 + 1) s' s' om' (fb (c + code.getD c 0) s' om' :: fr) (wt - 1 + 1) none) := by
  refine Ev.one rfl seen ?_
  show (if (code.getD (c + code.getD c 0) 0 == 0) = true then _ else _) = _
  refine (if_neg ?_).trans ?_
  · show ¬ (code.getD (c + code.getD c 0) 0 == 0) = true
    rw [beq_false_of_ne hz]
    decide
  refine (if_neg ?_).trans rfl
  show ¬ (wt - (1 + 0) + 1 + 0 > 16777216)
  omega
theorem branch (hpc : pc < code.size) (hw : code.getD pc 0 = 7) (ht : wt ≤ 16) (hz : code.getD (pc + 1) 0 ≠ 0) :
    Ev 1 (K code T s pc pos hd om fr wt none seen) (K code T s (pc + 1 + 1) pos pos om (fb (pc + 1) pos om :: fr) (wt + 1) none) := by
  refine Ev.one rfl (seen.add 7) ?_
  rw [step_exec rfl rfl hpc]
  have e1 : ops[7]? = some Op.BRANCH := by kernel_rfl
  have hw' : (K code T s pc pos hd om fr wt none seen).word 0 = 7 := hw
  unfold M.exec
  rw [hw', e1]
  refine (if_neg ?_).trans ?_
  · show ¬ (code.getD (pc + 1) 0 == 0) = true
    rw [beq_false_of_ne hz]
    decide
  refine (if_neg ?_).trans rfl
  show ¬ (wt + 1 + 0 > 16777216)
  omega
/-- the frame of a look that must fail. -/
def fn (c s : Nat) (om : Bool) : Sre.Frame := { wait := .lookNot, pc := c, pos := s, outermost := om }
theorem assertNot (hpc : pc < code.size) (hw : code.getD pc 0 = 5) (hw2 : code.getD (pc + 2) 0 = 0) (ht : wt ≤ 16) :
    Ev 1 (K code T s pc pos hd om fr wt none seen) (K code T s (pc + 3) pos pos false (fn pc pos om :: fr) (wt + 1) none) := by
  refine Ev.one rfl (seen.add 5) ?_
  rw [step_exec rfl rfl hpc]
  have e1 : ops[5]? = some Op.ASSERT_NOT := by kernel_rfl
  have hw' : (K code T s pc pos hd om fr wt none seen).word 0 = 5 := hw
  have hw2' : code.getD (pc + 2) 0 = 0 := hw2
  unfold M.exec
  rw [hw', e1]
  refine (if_neg ?_).trans ?_
  · show ¬ pos < code.getD (pc + 2) 0
    rw [hw2']
    exact Nat.not_lt_zero _
  refine (if_neg ?_).trans ?_
  · show ¬ (wt + 1 + 0 > 16777216)
    omega
  show K code T s (pc + 3) (pos - code.getD (pc + 2) 0) (pos - code.getD (pc + 2) 0) false (fn pc pos om :: fr) (wt + 1) none (seen.add 5) = _
  rw [hw2']
  rfl
theorem fn_no {c s' : Nat} {om' : Bool} : Ev 1 (K code T s pc pos hd om (fn c s' om' :: fr) wt (some false) seen) (K code T s (c + 1 + code.getD (c + 1) 0) s' hd om' fr (wt - 1) none) :=
  Ev.one rfl seen rfl
theorem last {b : Bool} : ∃ m', (K code T s pc pos hd om [] wt (some b) seen).runFor 1 = m' ∧ m'.outcome = some (if b then .matched else .failed) ∧ m'.start = s ∧ m'.handed = hd := by
  cases b <;> exact ⟨_, rfl, rfl, rfl, rfl⟩
end
end
/-! ## R5 -/
section
open PySem.Sre
def code1 : Array Nat := #[14, 4, 0, 1, 1, 6, 1, 16, 46, 1]
def code2 : Array Nat := #[14, 9, 4, 1, 2, 16, 10, 16, 13, 0, 7, 7, 16, 13, 16, 10, 15, 18, 5, 16, 10, 15, 13, 11, 16, 13, 5, 5, 0, 16, 10, 1, 15, 2, 0, 1]
/-- the first place from s on, within n places, where p holds. -/
def nxt (p : Nat → Bool) : Nat → Nat → Option Nat
  | 0, _ => none
  | n + 1, s => if p s then some s else nxt p n (s + 1)
def is1 (T : Array Nat) (s : Nat) : Bool := (s == 0 || T.getD (s - 1) 0 == 10) && T.getD s 0 == 46
def is2 (T : Array Nat) (s : Nat) : Bool := T.getD s 0 == 13 || T.getD s 0 == 10
def len2 (T : Array Nat) (s : Nat) : Nat := if T.getD s 0 == 13 && T.getD (s + 1) 0 == 10 then 2 else 1
/-- the answer of a search. -/
def Ans (m' : M) (o : Option Nat) (len : Nat → Nat) : Prop := match o with
  | some i => m'.outcome = some .matched ∧ m'.start = i ∧ m'.handed = i + len i
  | none => m'.outcome = some .failed
/-- within n turns the machine comes to an answer. -/
def Gets (n : Nat) (m : M) (o : Option Nat) (len : Nat → Nat) : Prop := ∃ N m', N ≤ n ∧ m.runFor N = m' ∧ Ans m' o len
theorem Gets.of {n k : Nat} {m : M} {P : Sre.Seen → M} {o : Option Nat} {len : Nat → Nat} (h : Ev k m P) (h' : ∀ se, Gets n (P se) o len) : Gets (k + n) m o len := by
  obtain ⟨se, e⟩ := h
  obtain ⟨N, m', hN, eN, ha⟩ := h' se
  exact ⟨k + N, m', by omega, by rw [← runFor_add, e, eN], ha⟩
theorem Gets.mono {n n' : Nat} {m : M} {o : Option Nat} {len : Nat → Nat} (h : Gets n m o len) (hn : n ≤ n') : Gets n' m o len := by
  obtain ⟨N, m', hN, eN, ha⟩ := h
  exact ⟨N, m', by omega, eN, ha⟩
section
variable {code T : Array Nat} {s pc pos hd : Nat} {om : Bool} {fr : List Sre.Frame} {wt : Nat} {ans : Option Bool} {seen : Sre.Seen} {len : Nat → Nat}
theorem gets_yes (h : hd = s + len s) : Gets 1 (K code T s pc pos hd om [] wt (some true) seen) (some s) len := by
  obtain ⟨m', e, h1, h2, h3⟩ := last (code := code) (T := T) (s := s) (pc := pc) (pos := pos) (hd := hd) (om := om) (wt := wt) (seen := seen) (b := true)
  exact ⟨1, m', Nat.le_refl _, e, h1, h2, h3.trans h⟩
theorem gets_no : Gets 1 (K code T s pc pos hd om [] wt (some false) seen) none len := by
  obtain ⟨m', e, h1, h2, h3⟩ := last (code := code) (T := T) (s := s) (pc := pc) (pos := pos) (hd := hd) (om := om) (wt := wt) (seen := seen) (b := false)
  exact ⟨1, m', Nat.le_refl _, e, h1⟩
theorem fs_no1 {s' : Nat} {om' : Bool} (h : s' < T.size) : Ev 1 (K code1 T s pc pos hd om [fs 5 s' om'] 1 (some false) seen) (K code1 T (s' + 1) 5 (s' + 1) (s' + 1) false [fs 5 (s' + 1) false] 1 none) := by
  refine Ev.one rfl seen ?_
  show (if s' < T.size then _ else _) = _
  refine (if_pos h).trans rfl
theorem find1 : ∀ (n s : Nat) (om : Bool) (seen : Sre.Seen), s + n = T.size → Gets (5 * n + 5) (K code1 T s 5 s s om [fs 5 s om] 1 none seen) (nxt (is1 T) n s) (fun _ => 1)
  | 0, s, om, seen, h => by
    have hs : s = T.size := by omega
    subst hs
    by_cases hb : (T.size == 0 || T.getD (T.size - 1) 0 == 10) = true
    · refine Gets.mono (Gets.of (bol_yes (by decide) rfl rfl hb) fun _ => Gets.of (lit_no (by decide) rfl (fun hh => absurd hh (Nat.lt_irrefl _))) fun _ => Gets.of fs_end fun _ => gets_no) (by omega)
    · refine Gets.mono (Gets.of (bol_no (by decide) rfl rfl (by simpa using hb)) fun _ => Gets.of fs_end fun _ => gets_no) (by omega)
  | n + 1, s, om, seen, h => by
    have hs : s < T.size := by omega
    by_cases hb : (s == 0 || T.getD (s - 1) 0 == 10) = true
    · by_cases hc : T.getD s 0 = 46
      · have e : nxt (is1 T) (n + 1) s = some s := if_pos (by unfold is1; rw [hb, hc]; rfl)
        rw [e]
        refine Gets.mono (Gets.of (bol_yes (by decide) rfl rfl hb) fun _ => Gets.of (lit_yes (by decide) rfl hs hc) fun _ => Gets.of (success (by decide) rfl) fun _ => Gets.of fs_yes fun _ => gets_yes rfl) (by omega)
      · have e : nxt (is1 T) (n + 1) s = nxt (is1 T) n (s + 1) := if_neg (by unfold is1; rw [beq_false_of_ne hc, Bool.and_false]; exact Bool.false_ne_true)
        rw [e]
        refine Gets.mono (Gets.of (bol_yes (by decide) rfl rfl hb) fun _ => Gets.of (lit_no (by decide) rfl (fun _ => hc)) fun _ => Gets.of (fs_no1 hs) fun _ => find1 n (s + 1) false _ (by omega)) (by omega)
    · have e : nxt (is1 T) (n + 1) s = nxt (is1 T) n (s + 1) := if_neg (by unfold is1; rw [Bool.not_eq_true _ |>.mp hb, Bool.false_and]; exact Bool.false_ne_true)
      rw [e]
      refine Gets.mono (Gets.of (bol_no (by decide) rfl rfl (Bool.not_eq_true _ |>.mp hb)) fun _ => Gets.of (fs_no1 hs) fun _ => find1 n (s + 1) false _ (by omega)) (by omega)
theorem search1 {dn : Nat} (h : dn ≤ T.size) : Gets (5 * T.size + 5) (forSearch code1 T 0 dn T.size false) (nxt (is1 T) (T.size - dn) dn) (fun _ => 1) := by
  by_cases hd : dn = T.size
  · subst hd
    rw [Nat.sub_self]
    refine Gets.mono (n := 1) ⟨1, _, Nat.le_refl _, rfl, ?_⟩ (by omega)
    have e : forSearch code1 T 0 T.size T.size false = (if (decide (T.size > T.size) || decide (T.size - T.size < 1)) = true then M.say _ false else _) := rfl
    rw [if_pos (by rw [Bool.or_eq_true, decide_eq_true_eq, decide_eq_true_eq]; omega)] at e
    rw [e]
    rfl
  · refine Gets.mono (n := 5 * (T.size - dn) + 5) ?_ (by omega)
    have e : forSearch code1 T 0 dn T.size false = K code1 T dn 5 dn dn true [fs 5 dn true] 1 none (({} : Sre.Seen).add 14) := by
      show (if (dn > T.size || T.size - dn < 1 : Bool) = true then _ else _) = _
      refine (if_neg (by rw [Bool.or_eq_true, decide_eq_true_eq, decide_eq_true_eq]; omega)).trans rfl
    rw [e]
    exact find1 _ _ _ _ (by omega)
theorem inSet2 (c : Nat) (se : Sre.Seen) : ∃ se', inSet code2 c code2.size 5 true se = .ok (c == 13 || c == 10, se') := by
  by_cases h1 : c = 10
  · subst h1
    exact ⟨_, rfl⟩
  · by_cases h2 : c = 13
    · subst h2
      exact ⟨_, rfl⟩
    · have e1 : (c == 10) = false := beq_false_of_ne h1
      have e2 : (c == 13) = false := beq_false_of_ne h2
      rw [e1, e2]
      have l1 : inSet code2 c 36 5 true se = (if (c == 10) = true then .ok (true, se.add 16) else inSet code2 c 35 7 true (se.add 16)) := rfl
      have l2 : ∀ se, inSet code2 c 35 7 true se = (if (c == 13) = true then .ok (true, se.add 16) else inSet code2 c 34 9 true (se.add 16)) := fun _ => rfl
      have l3 : ∀ se, inSet code2 c 34 9 true se = .ok (false, se.add 0) := fun _ => rfl
      refine ⟨((se.add 16).add 16).add 0, ?_⟩
      show inSet code2 c 36 5 true se = _
      rw [l1, e1, if_neg Bool.false_ne_true, l2, e2, if_neg Bool.false_ne_true, l3]
      rfl
theorem admitted2 {m : M} (hc : m.code = code2) (ht : m.text = T) (hl : m.lim = T.size) : ∀ (n s : Nat) (se : Sre.Seen), s + n = T.size → ∃ se', M.admitted m (n + 1) s se = .ok (nxt (is2 T) n s, se')
  | 0, s, se, h => by
    refine ⟨se, ?_⟩
    unfold M.admitted
    rw [if_pos (by omega)]
    rfl
  | n + 1, s, se, h => by
    obtain ⟨se1, e1⟩ := inSet2 (T.getD s 0) se
    unfold M.admitted
    rw [if_neg (by omega), hc, ht, e1]
    by_cases hb : is2 T s = true
    · refine ⟨se1, ?_⟩
      have hb' : (T.getD s 0 == 13 || T.getD s 0 == 10) = true := hb
      rw [hb', show nxt (is2 T) (n + 1) s = some s from if_pos hb]
    · obtain ⟨se2, e2⟩ := admitted2 hc ht hl n (s + 1) se1 (by omega)
      refine ⟨se2, ?_⟩
      have hb' : (T.getD s 0 == 13 || T.getD s 0 == 10) = false := Bool.not_eq_true _ |>.mp hb
      rw [hb', show nxt (is2 T) (n + 1) s = nxt (is2 T) n (s + 1) from if_neg hb]
      exact e2
theorem jump_to (p q : Nat) (hpc : p < code.size) (hw : code.getD p 0 = 15) (hq : p + 1 + code.getD (p + 1) 0 = q) : Ev 1 (K code T s p pos hd om fr wt none seen) (K code T s q pos hd om fr wt none) := by
  subst hq
  exact jump hpc hw
theorem match2 {s : Nat} (hs : s < T.size) (h : is2 T s = true) : Gets 30 (K code2 T s 10 s s true [fs 10 s true] 1 none seen) (some s) (len2 T) := by
  by_cases h13 : T.getD s 0 = 13
  · by_cases h10 : T.getD (s + 1) 0 = 10
    · have hs1 : s + 1 < T.size := by
        refine Nat.lt_of_not_le fun hh => ?_
        rw [Array.getD_eq_getD_getElem?, Array.getElem?_eq_none hh] at h10
        cases h10
      have hl : s + 2 = s + len2 T s := by unfold len2; rw [h13, h10]; rfl
      refine Gets.mono (Gets.of (branch (by decide) rfl (by decide) (by decide)) fun _ => Gets.of (lit_yes (by decide) rfl hs h13) fun _ => Gets.of (lit_yes (by decide) rfl hs1 h10) fun _ =>
        Gets.of (jump_to 16 35 (by decide) rfl rfl) fun _ => Gets.of (success (by decide) rfl) fun _ => Gets.of fb_yes fun _ => Gets.of fs_yes fun _ => gets_yes hl) (by decide)
    · have hl : s + 1 = s + len2 T s := by unfold len2; rw [beq_false_of_ne h10, Bool.and_false]; rfl
      have h9 : T.getD s 0 ≠ 10 := by rw [h13]; decide
      refine Gets.mono (Gets.of (branch (by decide) rfl (by decide) (by decide)) fun _ => Gets.of (lit_yes (by decide) rfl hs h13) fun _ => Gets.of (lit_no (by decide) rfl (fun _ => h10)) fun _ =>
        Gets.of (fb_no (c := 11) (by decide) (by decide)) fun _ => Gets.of (lit_no (pc := 19) (by decide) rfl (fun _ => h9)) fun _ =>
        Gets.of (fb_no (c := 18) (by decide) (by decide)) fun _ => Gets.of (lit_yes (pc := 24) (by decide) rfl hs h13) fun _ => Gets.of (assertNot (pc := 26) (by decide) rfl rfl (by decide)) fun _ =>
        Gets.of (lit_no (pc := 29) (by decide) rfl (fun _ => h10)) fun _ => Gets.of (fn_no (c := 26)) fun _ =>
        Gets.of (jump_to 32 35 (by decide) rfl rfl) fun _ => Gets.of (success (by decide) rfl) fun _ => Gets.of fb_yes fun _ => Gets.of fs_yes fun _ => gets_yes hl) (by decide)
  · have h10 : T.getD s 0 = 10 := by
      have h' : (T.getD s 0 == 13 || T.getD s 0 == 10) = true := h
      rw [beq_false_of_ne h13, Bool.false_or] at h'
      exact beq_iff_eq.mp h'
    have hl : s + 1 = s + len2 T s := by unfold len2; rw [beq_false_of_ne h13, Bool.false_and]; rfl
    refine Gets.mono (Gets.of (branch (by decide) rfl (by decide) (by decide)) fun _ => Gets.of (lit_no (by decide) rfl (fun _ => h13)) fun _ =>
        Gets.of (fb_no (c := 11) (by decide) (by decide)) fun _ => Gets.of (lit_yes (pc := 19) (by decide) rfl hs h10) fun _ =>
        Gets.of (jump_to 21 35 (by decide) rfl rfl) fun _ => Gets.of (success (by decide) rfl) fun _ => Gets.of fb_yes fun _ => Gets.of fs_yes fun _ => gets_yes hl) (by decide)
theorem nxt_some {p : Nat → Bool} : ∀ (n s i : Nat), nxt p n s = some i → s ≤ i ∧ i < s + n ∧ p i = true
  | 0, _, _, h => nomatch h
  | n + 1, s, i, h => by
    by_cases hp : p s = true
    · rw [show nxt p (n + 1) s = some s from if_pos hp] at h
      cases h
      exact ⟨Nat.le_refl _, by omega, hp⟩
    · rw [show nxt p (n + 1) s = nxt p n (s + 1) from if_neg hp] at h
      have := nxt_some n (s + 1) i h
      exact ⟨by omega, by omega, this.2.2⟩
theorem search2 {dn : Nat} (h : dn ≤ T.size) : Gets 30 (forSearch code2 T 0 dn T.size false) (nxt (is2 T) (T.size - dn) dn) (len2 T) := by
  by_cases hd : dn = T.size
  · subst hd
    rw [Nat.sub_self]
    refine Gets.mono (n := 1) ⟨1, _, Nat.le_refl _, rfl, ?_⟩ (by omega)
    have e : forSearch code2 T 0 T.size T.size false = (if (decide (T.size > T.size) || decide (T.size - T.size < 1)) = true then M.say _ false else _) := rfl
    rw [if_pos (by rw [Bool.or_eq_true, decide_eq_true_eq, decide_eq_true_eq]; omega)] at e
    rw [e]
    rfl
  · have e : forSearch code2 T 0 dn T.size false = (if (decide (dn > T.size) || decide (T.size - dn < 1)) = true then M.say _ false else _) := rfl
    rw [if_neg (by rw [Bool.or_eq_true, decide_eq_true_eq, decide_eq_true_eq]; omega)] at e
    rw [e]
    unfold M.attemptFrom
    rw [if_neg (by exact Bool.false_ne_true)]
    obtain ⟨se, e2⟩ := admitted2 (T := T) (m := (K code2 T dn 10 dn dn true [] 0 none (({} : Sre.Seen).add 14))) rfl rfl rfl (T.size - dn) dn (({} : Sre.Seen).add 14) (by omega)
    have hsub : T.size + 1 - dn = T.size - dn + 1 := by omega
    show Gets 30 (match M.admitted (K code2 T dn 10 dn dn true [] 0 none (({} : Sre.Seen).add 14)) (T.size + 1 - dn) dn (({} : Sre.Seen).add 14) with | .ok (some s, seen) => _ | .ok (none, seen) => _ | .error why => _) _ _
    rw [hsub, e2]
    cases hn : nxt (is2 T) (T.size - dn) dn with
    | none => exact Gets.mono (n := 1) ⟨1, _, Nat.le_refl _, rfl, rfl⟩ (by omega)
    | some i =>
      have hi := nxt_some _ _ _ hn
      have hh := match2 (T := T) (s := i) (seen := se) (by omega) hi.2.2
      exact hh
end
end
/-! ## R6 -/
section
open PySem.Builtin PySem.Builtin.Re PySem.Sre
/-- the pieces that a substitution joins, from place dn on. -/
def pcs (x r : Str) (p : Nat → Bool) (len : Nat → Nat) : Nat → Nat → List Str
  | 0, dn => cut x dn x.cps.size
  | n + 1, dn => match nxt p (x.cps.size - dn) dn with
    | none => cut x dn x.cps.size
    | some i => cut x dn i ++ [r] ++ pcs x r p len n (i + len i)
theorem cut_len (x : Str) (a b : Nat) : ((cut x a b).map (·.length)).sum + (cut x a b).length ≤ (b - a) + 1 := by
  unfold cut
  by_cases h : a < b
  · rw [if_pos h]
    show (x.cps.extract a b).size + 0 + 1 ≤ _
    rw [Array.size_extract]
    omega
  · rw [if_neg h]
    exact Nat.zero_le _
theorem cut_one (x : Str) (a b : Nat) : (cut x a b).length ≤ 1 := by
  unfold cut
  split
  · exact Nat.le_refl 1
  · exact Nat.zero_le 1
section
variable {prog : Program} {w : World} {A : Around} {E : Value → Shared → Prop}
theorem sub_turns {pa ca pl : Addr} {x0 r x : Str} {t0 t1 t2 tf : Tok} {fl : Int} {codeV : Array Value} {code : Array Nat} {n : Nat} {p : Nat → Bool} {len : Nat → Nat} {R : Result → Shared → Prop}
    (hcode : (codeV.map reRawOf).map (·.toNat) = code) (hx : x.cps.size ≤ 500) (hr : r.length = 2)
    (hpat : ∀ dn, dn ≤ x.cps.size → Gets 1000000 (forSearch code x.cps 0 dn x.cps.size false) (nxt p (x.cps.size - dn) dn) len)
    (hlen : ∀ i, i < x.cps.size → p i = true → 1 ≤ len i ∧ i + len i ≤ x.cps.size) :
    ∀ (q dn : Nat) (its : Array Value) (rows : List Str) (k : Nat) (cnt : Int) (s : Shared), x.cps.size ≤ dn + q → dn ≤ x.cps.size → (rows ≠ [] ∨ dn < x.cps.size) →
    s.heap.get? pa = some { cls := .type "re.Pattern", data := .fields #[.str x0 t0, .int fl tf, .int 0 0, .none, .none, .ref ca, .int 0 0] } →
    s.heap.get? ca = some { cls := .type "tuple", data := .seq codeV n } → pa ≠ pl → ca ≠ pl →
    s.heap.get? pl = some (listOf its k) → StrsAre its.toList rows → rows.length + 2 * (x.cps.size - dn) ≤ 1500 → (rows.map (·.length)).sum + rows.length + 6 * (x.cps.size - dn) ≤ 100000 →
    (∀ h' tk t', Heap.SameBut pl s.heap h' → R (.ok (.ret (.str (Txt.join Str.empty (rows ++ pcs x r p len q dn)) t'))) { s with heap := h', toks := tk }) →
    codeAny (model prog w) A (.builtin "re.Pattern.sub.loop" ⟨[.ref pa, .str x t2, .str r t1, rawInt 0, rawInt 0, rawInt cnt, rawInt dn, rawInt dn, .bool false, .ref pl, .bool false], []⟩) R s := by
  subst hcode
  intro q
  induction q with
  | zero =>
    intro dn its rows k cnt s hq hdn hne hp hc n1 n2 hl hI hz hW h
    obtain ⟨N, m', hN, eN, ha⟩ := hpat dn hdn
    have hsz : its.size = rows.length := by have := StrsAre.length hI; simpa using this
    cases hn : nxt p (x.cps.size - dn) dn with
    | none =>
      rw [hn] at ha
      have hpc : pcs x r p len 0 dn = cut x dn x.cps.size := by
        rfl
      have hcl := cut_len x dn x.cps.size
      refine subloop_end hp hc hl (by omega) hI (by omega) ?_ ?_ eN (by omega) ha ?_
      · rcases hne with hne | hne
        · intro e
          exact hne (List.append_eq_nil_iff.mp e).1
        · unfold cut
          rw [if_pos hne]
          intro e
          exact absurd (List.append_eq_nil_iff.mp e).2 (List.cons_ne_nil _ _)
      · rw [List.map_append, List.sum_append, List.length_append]
        omega
      · intro h' tk t' hs
        rw [← hpc]
        exact h h' tk t' hs
    | some i =>
      have hi := nxt_some _ _ _ hn
      omega
  | succ q ih =>
    intro dn its rows k cnt s hq hdn hne hp hc n1 n2 hl hI hz hW h
    obtain ⟨N, m', hN, eN, ha⟩ := hpat dn hdn
    have hsz : its.size = rows.length := by have := StrsAre.length hI; simpa using this
    cases hn : nxt p (x.cps.size - dn) dn with
    | none =>
      rw [hn] at ha
      have hpc : pcs x r p len (q + 1) dn = cut x dn x.cps.size := by
        unfold pcs; rw [hn]
      have hcl := cut_len x dn x.cps.size
      refine subloop_end hp hc hl (by omega) hI (by omega) ?_ ?_ eN (by omega) ha ?_
      · rcases hne with hne | hne
        · intro e
          exact hne (List.append_eq_nil_iff.mp e).1
        · unfold cut
          rw [if_pos hne]
          intro e
          exact absurd (List.append_eq_nil_iff.mp e).2 (List.cons_ne_nil _ _)
      · rw [List.map_append, List.sum_append, List.length_append]
        omega
      · intro h' tk t' hs
        rw [← hpc]
        exact h h' tk t' hs
    | some i =>
      rw [hn] at ha
      obtain ⟨h1, h2, h3⟩ := ha
      have hi := nxt_some _ _ _ hn
      obtain ⟨hl1, hl2⟩ := hlen i (by omega) hi.2.2
      have hpc : pcs x r p len (q + 1) dn = cut x dn i ++ [r] ++ pcs x r p len q (i + len i) := by
        show (match nxt p (x.cps.size - dn) dn with | none => _ | some i => _) = _
        rw [hn]
      refine subloop_more hp hc hl (by omega) hI (by omega) eN (by omega) h1 ?_
      intro h' tk its' k' hl' hs' hI'
      have hm : (m'.handed == m'.start) = false := beq_false_of_ne (by omega)
      rw [hm, h3]
      rw [h2] at hI'
      have hcl := cut_len x dn i
      have hco := cut_one x dn i
      have hr1 : (([r] : List Str).map (·.length)).sum = 2 := by
        show r.length + 0 = 2
        omega
      refine ih (i + len i) its' (rows ++ cut x dn i ++ [r]) k' (cnt + 1) { s with heap := h', toks := tk } (by omega) hl2 (.inl (by intro e; exact absurd (List.append_eq_nil_iff.mp e).2 (List.cons_ne_nil _ _))) ((hs'.2 pa n1).trans hp) ((hs'.2 ca n2).trans hc) n1 n2 hl' hI' ?_ ?_ ?_
      · rw [List.length_append, List.length_append]
        show rows.length + (cut x dn i).length + 1 + _ ≤ _
        omega
      · rw [List.map_append, List.map_append, List.sum_append, List.sum_append, hr1, List.length_append, List.length_append]
        show _ + (rows.length + (cut x dn i).length + 1) + _ ≤ _
        omega
      · intro h'' tk'' t'' hs''
        have e : rows ++ cut x dn i ++ [r] ++ pcs x r p len q (i + len i) = rows ++ pcs x r p len (q + 1) dn := by
          rw [hpc]
          simp only [List.append_assoc]
        rw [e]
        exact h h'' tk'' t'' (hs'.trans hs'')
theorem call_sub {s : Shared} {pa ca : Addr} {x0 r x : Str} {t0 t1 t2 tf : Tok} {fl : Int} {codeV : Array Value} {code : Array Nat} {n : Nat} {p : Nat → Bool} {len : Nat → Nat} {Q : Value → Shared → Prop}
    (hp : s.heap.get? pa = some { cls := .type "re.Pattern", data := .fields #[.str x0 t0, .int fl tf, .int 0 0, .none, .none, .ref ca, .int 0 0] })
    (hc : s.heap.get? ca = some { cls := .type "tuple", data := .seq codeV n })
    (hcode : (codeV.map reRawOf).map (·.toNat) = code) (hx : x.cps.size ≤ 500) (hx0 : 0 < x.cps.size) (hr : r.length = 2) (h92 : r.cps.contains 92 = false)
    (hpat : ∀ dn, dn ≤ x.cps.size → Gets 1000000 (forSearch code x.cps 0 dn x.cps.size false) (nxt p (x.cps.size - dn) dn) len)
    (hlen : ∀ i, i < x.cps.size → p i = true → 1 ≤ len i ∧ i + len i ≤ x.cps.size)
    (h : ∀ h' tk t', Heap.SameBut s.heap.objs.size (s.heap.push (listOf #[] 0)) h' → Q (.str (Txt.join Str.empty (pcs x r p len x.cps.size 0)) t') { s with heap := h', toks := tk }) :
    wpAny (model prog w) A (call (.builtin "re.Pattern.sub") [.ref pa, .str r t1, .str x t2]) Q E s := by
  have hT : s.TypeIs (.ref pa) "re.Pattern" := ⟨_, hp, rfl⟩
  refine wpAny_call (codeAny_call_builtin slot_sub.plain entry_sub (slot_sub.check _ _ _ _ _ _ _ _ hT (args_sub_3 _ _ _) ?_))
  refine sub_start (R := wants Q E) (n := n) hp hc h92 ?_
  have np : pa ≠ s.heap.objs.size := Nat.ne_of_lt (Heap.lt_size hp)
  have nc : ca ≠ s.heap.objs.size := Nat.ne_of_lt (Heap.lt_size hc)
  refine sub_turns (p := p) (len := len) (code := code) hcode hx hr hpat hlen x.cps.size 0 #[] [] 0 0 _ (by omega) (by omega) (.inr hx0) (Heap.get?_push_of_some _ hp) (Heap.get?_push_of_some _ hc) np nc (Heap.get?_push_size _ rfl) .nil ?_ ?_ ?_
  · show 0 + 2 * (x.cps.size - 0) ≤ 1500
    omega
  · show 0 + 0 + 6 * (x.cps.size - 0) ≤ 100000
    omega
  · intro h' tk t' hs
    exact h h' tk t' hs
end
end
/-! ## CA -/
section
open PySem.Builtin.Re
local macro_rules | `(tactic| walk_at "getMethod ref") => `(tactic| (
  k_here; (with_reducible show wpAny _ _ (getMethod (Value.ref _) _ _) _ _ _); (rename Fr _ _ _ _ => FK); (rename Frag.In _ _ => XK); refine getMethod_builtin ⟨_, FK.keep _ _ (XK _ _ rfl), rfl⟩ plainAttrs_pat slot_sub type_sub (fun a e => by cases e; exact ⟨_, FK.keep _ _ (XK _ _ rfl), rfl⟩) ?_))
def crlf : Str := Str.ofString "\r\n"
def dots : Str := Str.ofString ".."
def quoted1 (x : Str) : Str := Txt.join Str.empty (pcs x crlf (is2 x.cps) (len2 x.cps) x.cps.size 0)
def quoted2 (y : Str) : Str := Txt.join Str.empty (pcs y dots (is1 y.cps) (fun _ => 1) y.cps.size 0)
theorem len2_ok {T : Array Nat} (i : Nat) (hi : i < T.size) (h : is2 T i = true) : 1 ≤ len2 T i ∧ i + len2 T i ≤ T.size := by
  unfold len2
  by_cases hc : (T.getD i 0 == 13 && T.getD (i + 1) 0 == 10) = true
  · rw [if_pos hc]
    have h10 : T.getD (i + 1) 0 = 10 := beq_iff_eq.mp (Bool.and_eq_true_iff.mp hc).2
    have hs1 : i + 1 < T.size := by
      refine Nat.lt_of_not_le fun hh => ?_
      rw [Array.getD_eq_getD_getElem?, Array.getElem?_eq_none hh] at h10
      cases h10
    omega
  · rw [if_neg hc]
    omega
section
variable {prog : Program} {w : World} {A : Around} {E : Value → Shared → Prop} {s : Shared} {pa ca : Addr} {x0 x : Str} {t0 t1 t2 tf : Tok} {fl : Int} {n : Nat} {Q : Value → Shared → Prop}
theorem call_sub2 {codeV : Array Value} (hp : s.heap.get? pa = some { cls := .type "re.Pattern", data := .fields #[.str x0 t0, .int fl tf, .int 0 0, .none, .none, .ref ca, .int 0 0] })
    (hc : s.heap.get? ca = some { cls := .type "tuple", data := .seq codeV n }) (hcode : (codeV.map reRawOf).map (·.toNat) = code2)
    (hx : x.cps.size ≤ 500) (hx0 : 0 < x.cps.size)
    (h : ∀ h' tk t', Heap.SameBut s.heap.objs.size (s.heap.push (listOf #[] 0)) h' → Q (.str (quoted1 x) t') { s with heap := h', toks := tk }) :
    wpAny (model prog w) A (call (.builtin "re.Pattern.sub") [.ref pa, .str (Str.ofString "\r\n") t1, .str x t2]) Q E s :=
  call_sub hp hc hcode hx hx0 (by decide +kernel) (by decide +kernel) (fun dn hd => (search2 hd).mono (by decide)) len2_ok h
theorem call_sub1 {codeV : Array Value} (hp : s.heap.get? pa = some { cls := .type "re.Pattern", data := .fields #[.str x0 t0, .int fl tf, .int 0 0, .none, .none, .ref ca, .int 0 0] })
    (hc : s.heap.get? ca = some { cls := .type "tuple", data := .seq codeV n }) (hcode : (codeV.map reRawOf).map (·.toNat) = code1)
    (hx : x.cps.size ≤ 500) (hx0 : 0 < x.cps.size)
    (h : ∀ h' tk t', Heap.SameBut s.heap.objs.size (s.heap.push (listOf #[] 0)) h' → Q (.str (quoted2 x) t') { s with heap := h', toks := tk }) :
    wpAny (model prog w) A (call (.builtin "re.Pattern.sub") [.ref pa, .str (Str.ofString "..") t1, .str x t2]) Q E s :=
  call_sub hp hc hcode hx hx0 (by decide +kernel) (by decide +kernel) (fun dn hd => (search1 hd).mono (by omega)) (fun i hi _ => ⟨Nat.le_refl 1, hi⟩) h
end
local macro_rules | `(tactic| walk_at "call builtin:re.Pattern.sub") => `(tactic| (
  k_here; (with_reducible show wpAny _ _ (call (Value.builtin "re.Pattern.sub") [Value.ref 48, Value.str _ _, Value.str _ _]) _ _ _); (rename Fr _ _ _ _ => FK); (rename News _ _ _ _ => NK); (rename Frag.In _ _ => XK); refine call_sub2 (FK.keep _ _ (XK _ _ rfl)) (FK.keep _ _ (XK _ _ rfl)) (by kernel_rfl) (by assumption) (by assumption) ?_; intro h9 tk9 t9 hs9; (have F9 := FK.filled hs9); (have N9 := ksk_news (NK.pushKeep _) hs9 NK.apart); clear hs9; (try dsimp only)))
local macro_rules | `(tactic| walk_at "call builtin:re.Pattern.sub") => `(tactic| (
  k_here; (with_reducible show wpAny _ _ (call (Value.builtin "re.Pattern.sub") [Value.ref 43, Value.str _ _, Value.str _ _]) _ _ _); (rename Fr _ _ _ _ => FK); (rename News _ _ _ _ => NK); (rename Frag.In _ _ => XK); refine call_sub1 (FK.keep _ _ (XK _ _ rfl)) (FK.keep _ _ (XK _ _ rfl)) (by kernel_rfl) (by assumption) (by assumption) ?_; intro h9 tk9 t9 hs9; (have F9 := FK.filled hs9); (have N9 := ksk_news (NK.pushKeep _) hs9 NK.apart); clear hs9; (try dsimp only)))
theorem quotedata_c {x : Str} {t : Tok} {w : World} {mean : ExcName → Option Value} {mg mb : Str → Option Value} {news : List (Addr × Obj)} {dp un : Nat} {gd : Option (List Code)} {cn : Str} {cs : Scope} {a : Addr} {ccd : Value} {cl : List (Str × Addr)} {outer : List Env} {A₀ : Around} {base h₀ : Heap} {L : Addr} {m : Str → Option Value} {s : Shared} {Q E : Value → Shared → Prop}
    (B : Below A₀ base outer h₀) (F : Fr h₀ L s.heap m) (X : (hd.heap_1 w.params).In h₀) (N : News h₀ L s.heap news)
    (T : Top vw (looseW vw lo) mean mg mb h₀)
    (hkf : cs.kind = .function) (hdp : dp + 4 < recursionLimit) (hun : un + 8 * 4 < cLine) (hx0 : 0 < x.cps.size) (hx : x.cps.size ≤ 500) (hy0 : 0 < (quoted1 x).cps.size) (hy : (quoted1 x).cps.size ≤ 500)
    (hret : ∀ t' h' tk', Fr h₀ L h' m → News h₀ L h' news → Q (.str (quoted2 (quoted1 x)) t') { s with heap := h', toks := tk' }) :
    wpAny (model PySem.Challenge.rw_il0069_01.row.prog w) (ktrTop dp un gd cn cs L a ccd cl outer) (call (.ref 55) [.str x t]) Q E s := by
  revert X; k_fill; intro X
  refine wpAny_call ?_
  k_dflt cell_enter
  k_steps
  all_goals ((rename Fr _ _ _ _ => F9); (rename News _ _ _ _ => N9); exact hret _ _ _ F9 N9)
end
/-! ## P1 -/
section
open PySem.Builtin PySem.Builtin.Str PySem.StrLaws
/-- a split of a list of signs by the signs y -/
def splitGo (y : List Nat) : Nat → List Nat → List Nat → List (List Nat)
  | _, acc, [] => [acc]
  | 0, acc, c :: r => if y.isPrefixOf (c :: r) then acc :: splitGo y (y.length - 1) [] r else splitGo y 0 (acc ++ [c]) r
  | k + 1, acc, _ :: r => splitGo y k acc r
def txt (l : List Nat) : Str := ⟨l.toArray⟩
theorem txt_of (x : Str) : txt x.cps.toList = x := rfl
/-- the cuts that the machine finds, from place a on, n places left, none below free -/
def occFrom (x y : Str) : Nat → Nat → Nat → List Nat
  | 0, _, _ => []
  | n + 1, a, free => if free ≤ a ∧ (a + y.length ≤ x.length ∧ subAt x y a = true) then a :: occFrom x y n (a + 1) (a + y.length) else occFrom x y n (a + 1) free
theorem occ_run (x y : Str) (limit : Nat) : ∀ (n a : Nat) (found : Array Nat) (free : Nat), found.size + n ≤ limit →
    (forIn (List.range' a n) (found, free) (occBody x y x.length limit)).run.fst.toList = found.toList ++ occFrom x y n a free
  | 0, a, found, free, _ => by
    show found.toList = _
    simp [occFrom]
  | n + 1, a, found, free, h => by
    rw [List.range'_succ, List.forIn_cons]
    unfold occBody
    by_cases hc : free ≤ a ∧ (a + y.length ≤ x.length ∧ subAt x y a = true)
    · have c1 : (((found, free) : Array Nat × Nat).fst.size < limit ∧ ((found, free) : Array Nat × Nat).snd ≤ a) ∧ a + y.length ≤ x.length := ⟨⟨(by show found.size < limit; omega), hc.1⟩, hc.2.1⟩
      rw [if_pos ⟨c1, hc.2.2⟩]
      have ih := occ_run x y limit n (a + 1) (found.push a) (a + y.length) (by rw [Array.size_push]; omega)
      have e : occFrom x y (n + 1) a free = a :: occFrom x y n (a + 1) (a + y.length) := by
        show (if _ then _ else _) = _
        exact if_pos hc
      rw [e]
      refine ih.trans ?_
      rw [Array.toList_push, List.append_assoc]
      rfl
    · have c2 : ¬ (((((found, free) : Array Nat × Nat).fst.size < limit ∧ ((found, free) : Array Nat × Nat).snd ≤ a) ∧ a + y.length ≤ x.length) ∧ subAt x y a = true) := fun h => hc ⟨h.1.1.2, h.1.2, h.2⟩
      rw [if_neg c2]
      have ih := occ_run x y limit n (a + 1) found free (by omega)
      have e : occFrom x y (n + 1) a free = occFrom x y n (a + 1) free := by
        show (if _ then _ else _) = _
        exact if_neg hc
      rw [e]
      exact ih
theorem occs_are (x y : Str) : occurrences x y 0 x.length (x.length + 1) = occFrom x y (x.length + 1) 0 0 := by
  rw [occ_eq]
  have := occ_run x y (x.length + 1) (x.length + 1 - 0) 0 #[] 0 (by simp)
  simpa using this
theorem at_prefix (x y : Str) (a : Nat) (ha : a < x.length) : (a + y.length ≤ x.length ∧ subAt x y a = true) ↔ y.cps.toList.isPrefixOf (x.cps.toList.drop a) = true := by
  have hl : x.cps.toList.length = x.length := by simp [Str.length]
  have hy : y.cps.toList.length = y.length := by simp [Str.length]
  rw [subAt_eq, beq_iff_eq, List.isPrefixOf_iff_prefix, List.prefix_iff_eq_take, hy]
  constructor
  · rintro ⟨_, h⟩
    exact h.symm
  · intro h
    refine ⟨?_, h.symm⟩
    have := congrArg List.length h
    rw [hy, List.length_take, List.length_drop, hl] at this
    omega
theorem strSub_txt (x : Str) (a b : Nat) : strSub x a b = txt ((x.cps.toList.drop a).take (b - a)) := by
  apply Str.ext'
  apply Array.toList_inj.mp
  rw [strSub_toList]
  simp [txt]
theorem parts_go (x y : Str) (hy : 1 ≤ y.length) : ∀ (n a : Nat), a + n = x.length + 1 →
    (∀ f, f ≤ a → partsFrom x y.length f (occFrom x y n a f) = (splitGo y.cps.toList 0 ((x.cps.toList.drop f).take (a - f)) (x.cps.toList.drop a)).map txt) ∧
    (∀ k, a + k + 1 ≤ x.length → partsFrom x y.length (a + k + 1) (occFrom x y n a (a + k + 1)) = (splitGo y.cps.toList (k + 1) [] (x.cps.toList.drop a)).map txt)
  | 0, a, h => by
    have hl : x.cps.toList.length = x.length := by simp [Str.length]
    have hd : x.cps.toList.drop a = [] := List.drop_of_length_le (by omega)
    refine ⟨fun f hf => ?_, fun k hk => by omega⟩
    rw [hd]
    show [strSub x f x.length] = [txt _]
    rw [strSub_txt, List.take_of_length_le (by rw [List.length_drop]; omega), List.take_of_length_le (by rw [List.length_drop]; omega)]
  | n + 1, a, h => by
    have hl : x.cps.toList.length = x.length := by simp [Str.length]
    have hyl : y.cps.toList.length = y.length := by simp [Str.length]
    obtain ⟨ih1, ih2⟩ := parts_go x y hy n (a + 1) (by omega)
    by_cases hax : a < x.length
    · have hd : x.cps.toList.drop a = (x.cps.toList[a]'(by omega)) :: x.cps.toList.drop (a + 1) := List.drop_eq_getElem_cons (by omega)
      have hat := at_prefix x y a hax
      refine ⟨fun f hf => ?_, fun k hk => ?_⟩
      · by_cases hc : a + y.length ≤ x.length ∧ subAt x y a = true
        · have e : occFrom x y (n + 1) a f = a :: occFrom x y n (a + 1) (a + y.length) := by
            show (if _ then _ else _) = _
            exact if_pos ⟨hf, hc⟩
          rw [e, hd]
          have hp := hat.mp hc
          rw [hd] at hp
          show strSub x f a :: partsFrom x y.length (a + y.length) (occFrom x y n (a + 1) (a + y.length)) = List.map txt (if _ then _ else _)
          rw [if_pos hp, List.map_cons, strSub_txt, hyl]
          congr 1
          by_cases h1 : y.length = 1
          · rw [show a + y.length = a + 1 by omega, show y.length - 1 = 0 by omega]
            have := ih1 (a + 1) (Nat.le_refl _)
            rw [Nat.sub_self, List.take_zero] at this
            exact this
          · obtain ⟨j, hj⟩ : ∃ j, y.length = j + 2 := ⟨y.length - 2, by omega⟩
            have := ih2 j (by omega)
            rw [show y.length - 1 = j + 1 by omega, show a + y.length = a + 1 + j + 1 by omega]
            exact this
        · have e : occFrom x y (n + 1) a f = occFrom x y n (a + 1) f := by
            show (if _ then _ else _) = _
            exact if_neg (fun hh => hc hh.2)
          rw [e, ih1 f (by omega), hd]
          have hp : ¬ y.cps.toList.isPrefixOf ((x.cps.toList[a]'(by omega)) :: x.cps.toList.drop (a + 1)) = true := by
            rw [← hd]; exact fun hh => hc (hat.mpr hh)
          show _ = List.map txt (if _ then _ else _)
          rw [if_neg hp]
          congr 2
          obtain ⟨d, rfl⟩ : ∃ d, a = f + d := ⟨a - f, by omega⟩
          rw [show f + d + 1 - f = d + 1 by omega, show f + d - f = d by omega]
          rw [List.take_add_one, List.getElem?_drop, List.getElem?_eq_getElem (by omega)]
          rfl
      · have e : occFrom x y (n + 1) a (a + k + 1) = occFrom x y n (a + 1) (a + k + 1) := by
          show (if _ then _ else _) = _
          exact if_neg (fun hh => by omega)
        rw [e, hd]
        show _ = List.map txt (splitGo y.cps.toList k [] (x.cps.toList.drop (a + 1)))
        cases k with
        | zero =>
          have := ih1 (a + 1) (Nat.le_refl _)
          rw [Nat.sub_self, List.take_zero] at this
          exact this
        | succ k =>
          have := ih2 k (by omega)
          rw [show a + (k + 1) + 1 = a + 1 + k + 1 by omega]
          exact this
    · have hd : x.cps.toList.drop a = [] := List.drop_of_length_le (by omega)
      refine ⟨fun f hf => ?_, fun k hk => by omega⟩
      have e : occFrom x y (n + 1) a f = occFrom x y n (a + 1) f := by
        show (if _ then _ else _) = _
        exact if_neg (fun hh => by have := hh.2.1; omega)
      have hd1 : x.cps.toList.drop (a + 1) = [] := List.drop_of_length_le (by omega)
      rw [e, ih1 f (by omega), hd, hd1]
      show [txt _] = [txt _]
      rw [List.take_of_length_le (by rw [List.length_drop]; omega), List.take_of_length_le (by rw [List.length_drop]; omega)]
theorem split_go (x y : Str) (hy : 1 ≤ y.length) (hk : decide (strKind x < strKind y) = false) : Txt.split x y = (splitGo y.cps.toList 0 [] x.cps.toList).map txt := by
  have key := (parts_go x y hy (x.length + 1) 0 (by omega)).1 0 (Nat.le_refl _)
  rw [Nat.sub_self, List.take_zero, List.drop_zero, ← occs_are] at key
  rw [← partsBetween_eq] at key
  unfold Txt.split
  rw [hk, Bool.or_false]
  by_cases hl : x.length < y.length
  · rw [if_pos (decide_eq_true hl)]
    have hno : occurrences x y 0 x.length (x.length + 1) = [] := by
      obtain ⟨f, hc⟩ := occ_chain x y (x.length + 1)
      cases ho : occurrences x y 0 x.length (x.length + 1) with
      | nil => rfl
      | cons c r =>
        rw [ho] at hc
        have := hc.2.1.1
        omega
    rw [hno, partsBetween_eq] at key
    rw [← key]
    show [x] = [strSub x 0 x.length]
    rw [sub_whole]
  · rw [if_neg (by rw [decide_eq_true_eq]; exact hl)]
    split
    · rename_i h
      have hno := List.isEmpty_iff.mp h
      rw [hno, partsBetween_eq] at key
      rw [← key]
      show [x] = [strSub x 0 x.length]
      rw [sub_whole]
    · exact key
/-- one row and a separator -/
theorem go_row (y : List Nat) : ∀ (row acc rest : List Nat), (∀ j, j < row.length → y.isPrefixOf ((row ++ rest).drop j) = false) → splitGo y 0 acc (row ++ rest) = splitGo y 0 (acc ++ row) rest
  | [], acc, rest, _ => by rw [List.nil_append, List.append_nil]
  | c :: r, acc, rest, h => by
    have h0 := h 0 (Nat.succ_pos _)
    rw [List.drop_zero] at h0
    show (if y.isPrefixOf (c :: (r ++ rest)) then _ else _) = _
    rw [if_neg (by rw [show y.isPrefixOf (c :: (r ++ rest)) = false from h0]; exact Bool.false_ne_true)]
    show splitGo y 0 (acc ++ [c]) (r ++ rest) = _
    rw [go_row y r (acc ++ [c]) rest (fun j hj => h (j + 1) (Nat.succ_lt_succ hj)), List.append_assoc]
    rfl
theorem go_skip (y : List Nat) (acc : List Nat) : ∀ (s rest : List Nat), splitGo y s.length acc (s ++ rest) = splitGo y 0 acc rest
  | [], _ => rfl
  | _ :: s, rest => go_skip y acc s rest
theorem go_sep (y : List Nat) (hy : y ≠ []) (acc rest : List Nat) : splitGo y 0 acc (y ++ rest) = acc :: splitGo y 0 [] rest := by
  cases y with
  | nil => exact absurd rfl hy
  | cons c r =>
    show (if (c :: r).isPrefixOf (c :: (r ++ rest)) then _ else _) = _
    have hp : (c :: r).isPrefixOf (c :: (r ++ rest)) = true := List.isPrefixOf_iff_prefix.mpr ⟨rest, rfl⟩
    rw [if_pos hp]
    congr 1
    exact go_skip (c :: r) [] r rest
theorem go_end (y acc : List Nat) : splitGo y 0 acc [] = [acc] := rfl
theorem not_prefix {c : Nat} {y l : List Nat} (h : l.head? ≠ some c) : (c :: y).isPrefixOf l = false := by
  cases l with
  | nil => rfl
  | cons d r =>
    have : d ≠ c := fun e => h (by rw [e]; rfl)
    simp [List.isPrefixOf, Ne.symm this]
theorem row_free {c : Nat} {y row rest : List Nat} (h : c ∉ row) : ∀ j, j < row.length → (c :: y).isPrefixOf ((row ++ rest).drop j) = false := by
  intro j hj
  apply not_prefix
  rw [List.head?_drop, List.getElem?_append_left hj, List.getElem?_eq_getElem hj]
  intro e
  have := Option.some.inj e
  exact h (this ▸ List.getElem_mem hj)
/-- rows with a separator behind each -/
theorem go_rows {c : Nat} {y : List Nat} : ∀ rows : List (List Nat), (∀ r ∈ rows, c ∉ r) → splitGo (c :: y) 0 [] (rows.flatMap (· ++ c :: y)) = rows ++ [[]]
  | [], _ => rfl
  | r :: rs, h => by
    rw [List.flatMap_cons, List.append_assoc, go_row _ r [] _ (row_free (h r (.head _))), go_sep _ (List.cons_ne_nil _ _), go_rows rs fun r hr => h r (.tail _ hr)]
    rfl
/-- rows with a separator between -/
theorem go_join {c : Nat} {y : List Nat} : ∀ (r : List Nat) (rs : List (List Nat)), c ∉ r → (∀ r ∈ rs, c ∉ r) → splitGo (c :: y) 0 [] (r ++ rs.flatMap (c :: y ++ ·)) = r :: rs
  | r, [], h, _ => by
    rw [go_row _ r [] _ (row_free h)]
    rfl
  | r, s :: rs, h, hs => by
    rw [go_row _ r [] _ (row_free h), List.flatMap_cons, List.append_assoc, go_sep _ (List.cons_ne_nil _ _), go_join s rs (hs s (.head _)) fun r hr => hs r (.tail _ hr)]
    rfl
end
/-! ## P2 -/
section
open PySem.Builtin PySem.Builtin.Str PySem.StrLaws
theorem txt_len (l : List Nat) : (txt l).length = l.length := by simp [txt, Str.length]
theorem txt_inj {a b : List Nat} (h : txt a = txt b) : a = b := by
  have := congrArg (fun s : Str => s.cps.toList) h
  simpa [txt] using this
theorem txt_app (a b : List Nat) : txt a ++ txt b = txt (a ++ b) := by
  apply Str.ext'
  show a.toArray ++ b.toArray = (a ++ b).toArray
  simp
theorem slT : Str.ofString "/" = txt [47] := by decide +kernel
theorem at_sl (l : List Nat) (i : Nat) : At (txt l) (txt [47]) (txt l).length i ↔ l[i]? = some 47 := by
  unfold At
  rw [subAt_eq, beq_iff_eq, txt_len, txt_len]
  have e : (txt l).cps.toList = l := rfl
  have e2 : (txt [47]).cps.toList = [47] := rfl
  rw [e, e2]
  constructor
  · rintro ⟨h1, h2⟩
    have : ((l.drop i).take 1)[0]? = some 47 := by
      show ((l.drop i).take [47].length)[0]? = some 47
      rw [h2]; rfl
    rw [List.getElem?_take] at this
    simpa using this
  · intro h
    have hi : i < l.length := (List.getElem?_eq_some_iff.mp h).1
    refine ⟨by show i + 1 ≤ l.length; omega, ?_⟩
    show (l.drop i).take 1 = [47]
    rw [List.drop_eq_getElem_cons hi]
    have : l[i] = 47 := (List.getElem?_eq_some_iff.mp h).2
    rw [this]; rfl
theorem rfind_app (p b : List Nat) (hb : 47 ∉ b) : Txt.rfind (txt (p ++ 47 :: b)) (Str.ofString "/") = (p.length : Int) := by
  rw [slT]
  unfold Txt.rfind
  have hp : (p ++ 47 :: b)[p.length]? = some 47 := by simp
  rcases last_spec (txt (p ++ 47 :: b)) (txt [47]) with ⟨_, h2⟩ | ⟨i, h1, h2, h3⟩
  · exact absurd ((at_sl _ _).mpr hp) (h2 p.length)
  · rw [h1]
    have hi := (at_sl _ _).mp h2
    have e : i = p.length := by
      rcases Nat.lt_trichotomy i p.length with h | h | h
      · exact absurd ((at_sl _ _).mpr hp) (h3 p.length h)
      · exact h
      · exfalso
        obtain ⟨d, rfl⟩ : ∃ d, i = p.length + 1 + d := ⟨i - (p.length + 1), by omega⟩
        rw [List.getElem?_append_right (by omega), show p.length + 1 + d - p.length = d + 1 by omega, List.getElem?_cons_succ] at hi
        exact hb (List.mem_of_getElem? hi)
    subst e
    rfl
theorem rfind_no (b : List Nat) (hb : 47 ∉ b) : Txt.rfind (txt b) (Str.ofString "/") = -1 := by
  rw [slT]
  unfold Txt.rfind
  rcases last_spec (txt b) (txt [47]) with ⟨h1, _⟩ | ⟨i, _, h2, _⟩
  · rw [h1]
  · exact absurd (List.mem_of_getElem? ((at_sl _ _).mp h2)) hb
theorem slice_to (l : List Nat) (n : Nat) (h : n ≤ l.length) : Txt.slice (txt l) none (some (n : Int)) = txt (l.take n) := by
  have h1 := slice_closes_toL (x := txt l) (j := n) (by omega) (by rw [txt_len]; omega)
  rw [eq_of_beq h1]
  have e : ((n : Int) - 0).toNat = n := by omega
  rw [e]
  rfl
theorem slice_from (l : List Nat) (n : Nat) (h : n ≤ l.length) : Txt.slice (txt l) (some (n : Int)) none = txt (l.drop n) := by
  have h1 := slice_closes_fromL (x := txt l) (i := n) (b := (txt l).length) (by omega) (by rw [txt_len]; omega) rfl
  rw [eq_of_beq h1, txt_len]
  have e : ((l.length : Int) - n).toNat = l.length - n := by omega
  rw [e]
  show txt ((l.drop (n : Int).toNat).take _) = _
  rw [Int.toNat_natCast, List.take_of_length_le (by rw [List.length_drop]; omega)]
theorem rstrip_one (p : List Nat) (h : p.getLast? ≠ some 47) : Txt.rstripChars (txt (p ++ [47])) (txt [47]) = txt p := by
  unfold Txt.rstripChars
  rw [PyProof.Rows.stripBy_eq]
  have e0 : stripLo (txt [47]).cps.contains false (txt (p ++ [47])) = 0 := rfl
  rw [e0]
  have e1 : stripHi (txt [47]).cps.contains true (txt (p ++ [47])) 0 = p.length := by
    unfold stripHi
    rw [if_pos rfl, txt_len]
    have e : ((txt (p ++ [47])).cps.toList.drop 0) = p ++ [47] := rfl
    rw [e, List.reverse_append]
    show (p ++ [47]).length - ((47 :: p.reverse).takeWhile _).length = _
    have hc : (txt [47]).cps.contains 47 = true := by decide +kernel
    rw [List.takeWhile_cons, if_pos hc]
    have hn : (p.reverse.takeWhile (txt [47]).cps.contains) = [] := by
      cases hr : p.reverse with
      | nil => rfl
      | cons c r =>
        have hc : (txt [47]).cps.contains c = false := by
          have hne : c ≠ 47 := by
            intro e
            subst e
            apply h
            rw [List.getLast?_eq_head?_reverse, hr]
            rfl
          show (#[47] : Array Nat).contains c = false
          simpa using hne
        rw [List.takeWhile_cons, if_neg (by rw [hc]; exact Bool.false_ne_true)]
    rw [hn, List.length_append]
    simp
  rw [e1, strSub_txt]
  show txt (((p ++ [47]).drop 0).take (p.length - 0)) = txt p
  simp
end
/-! ## P3 -/
section
open PySem.Builtin PySem.Builtin.Str PySem.StrLaws
/-- rows with a slash between them -/
def J : List (List Nat) → List Nat
  | [] => []
  | a :: r => a ++ r.flatMap (47 :: ·)
theorem J_snoc : ∀ (ms : List (List Nat)) (b : List Nat), ms ≠ [] → J (ms ++ [b]) = J ms ++ 47 :: b
  | [], _, h => absurd rfl h
  | a :: r, b, _ => by
    show a ++ (r ++ [b]).flatMap (47 :: ·) = (a ++ r.flatMap (47 :: ·)) ++ 47 :: b
    rw [List.flatMap_append, List.append_assoc]
    simp
theorem join_J : ∀ ns : List (List Nat), Txt.join (Str.ofString "/") (ns.map txt) = txt (J ns)
  | [] => by
    show glued _ _ = _
    rw [glued_eq_join]
    rfl
  | a :: r => by
    show glued _ _ = _
    rw [glued_eq_join, slT]
    induction r generalizing a with
    | nil => show txt a = txt (a ++ []); rw [List.append_nil]
    | cons b r ih =>
      show txt a ++ txt [47] ++ Str.join (txt [47]) ((b :: r).map txt) = _
      rw [ih b, txt_app, txt_app]
      show txt _ = txt (a ++ (47 :: b ++ r.flatMap (47 :: ·)))
      congr 1
      show a ++ [47] ++ (b ++ r.flatMap (47 :: ·)) = _
      simp
/-- a name: not empty, no slash -/
def Nm (l : List Nat) : Prop := l ≠ [] ∧ 47 ∉ l
theorem Nm.last {l : List Nat} (h : Nm l) : l.getLast? ≠ some 47 := fun e => h.2 (List.mem_of_getLast? e)
theorem J_last : ∀ (ms : List (List Nat)), (∀ r ∈ ms, Nm r) → (J ms).getLast? ≠ some 47 := by
  intro ms
  rcases List.eq_nil_or_concat ms with rfl | ⟨r, b, rfl⟩
  · intro _ e; cases e
  · intro h
    rw [List.concat_eq_append] at h ⊢
    have hb := h b (by simp)
    by_cases hr : r = []
    · subst hr
      show (b ++ []).getLast? ≠ _
      rw [List.append_nil]
      exact hb.last
    · rw [J_snoc _ _ hr]
      obtain ⟨r', c, rfl⟩ : ∃ r' c, b = r' ++ [c] := by
        rcases List.eq_nil_or_concat b with rfl | ⟨r', c, rfl⟩
        · exact absurd rfl hb.1
        · exact ⟨r', c, List.concat_eq_append ..⟩
      have e : J r ++ 47 :: (r' ++ [c]) = (J r ++ 47 :: r') ++ [c] := by simp
      have h2 := hb.last
      rw [List.getLast?_concat] at h2
      rw [e, List.getLast?_concat]
      exact h2
theorem J_head : ∀ (ms : List (List Nat)), (∀ r ∈ ms, Nm r) → ms ≠ [] → ∃ c l, J ms = c :: l ∧ c ≠ 47
  | [], _, h => absurd rfl h
  | a :: r, h, _ => by
    obtain ⟨h1, h2⟩ := h a (.head _)
    cases a with
    | nil => exact absurd rfl h1
    | cons c l => exact ⟨c, l ++ r.flatMap (47 :: ·), rfl, fun e => h2 (e ▸ .head _)⟩
theorem top_app (p b : List Nat) (hb : 47 ∉ b) : splitTop (txt (p ++ 47 :: b)) = txt (p ++ [47]) := by
  unfold splitTop
  rw [rfind_app p b hb]
  have := slice_to (p ++ 47 :: b) (p.length + 1) (by simp)
  rw [show ((p.length : Int) + 1) = ((p.length + 1 : Nat) : Int) by omega, this]
  congr 1
  rw [List.take_append]
  rw [List.take_of_length_le (by omega), show p.length + 1 - p.length = 1 by omega]
  rfl
theorem tl_app (p b : List Nat) (hb : 47 ∉ b) : splitTl (txt (p ++ 47 :: b)) = txt b := by
  unfold splitTl
  rw [rfind_app p b hb]
  have := slice_from (p ++ 47 :: b) (p.length + 1) (by simp)
  rw [show ((p.length : Int) + 1) = ((p.length + 1 : Nat) : Int) by omega, this]
  congr 1
  rw [List.drop_append]
  rw [List.drop_of_length_le (by omega), show p.length + 1 - p.length = 1 by omega]
  rfl
theorem hd_app (p b : List Nat) (hb : 47 ∉ b) (hp : ∃ c l, p = c :: l ∧ c ≠ 47) (hl : p.getLast? ≠ some 47) : splitHd (txt (p ++ 47 :: b)) = txt p := by
  unfold splitHd
  rw [top_app p b hb]
  obtain ⟨c, l, rfl, hc⟩ := hp
  have h1 : ((txt (c :: l ++ [47])).length : Int) ≠ 0 := by rw [txt_len]; simp; omega
  have h2 : (txt (c :: l ++ [47]) != Txt.mul (Str.ofString "/") (txt (c :: l ++ [47])).length) = true := by
    rw [bne_iff_ne]
    intro e
    have e2 := congrArg (fun s : Str => s.cps.toList) e
    rw [slT] at e2
    have e3 : (txt (c :: l ++ [47])).cps.toList = List.replicate _ 47 := e2.trans (PyProof.Rows.mul_one_list 47 _)
    have e4 : (c :: l ++ [47]) = List.replicate _ 47 := e3
    have : c ∈ List.replicate (((txt (c :: l ++ [47])).length : Int).toNat) 47 := by rw [← e4]; simp
    exact hc (List.eq_of_mem_replicate this)
  rw [if_pos ⟨h1, h2⟩, slT]
  exact rstrip_one _ hl
theorem tl_no (b : List Nat) (hb : 47 ∉ b) : splitTl (txt b) = txt b := by
  unfold splitTl
  rw [rfind_no b hb]
  exact slice_from b 0 (Nat.zero_le _)
theorem hd_no (b : List Nat) (hb : 47 ∉ b) : splitHd (txt b) = Str.empty := by
  have e : splitTop (txt b) = txt [] := by
    unfold splitTop
    rw [rfind_no b hb]
    exact slice_to b 0 (Nat.zero_le _)
  unfold splitHd
  rw [e, if_neg (fun h => h.1 rfl)]
  rfl
theorem J_ne {ms : List (List Nat)} (h : ∀ r ∈ ms, Nm r) (hn : ms ≠ []) : txt (J ms) ≠ Str.empty := by
  obtain ⟨c, l, e, _⟩ := J_head ms h hn
  rw [e]
  intro e2
  have := txt_inj (a := c :: l) (b := []) e2
  cases this
theorem apart_steps (N : List (List Nat)) (hN : ∀ r ∈ N, Nm r) : ∀ j, j ≤ N.length → apartN j (txt (J N)) [] = (txt (J (N.take (N.length - j))), ((N.drop (N.length - j)).reverse).map txt)
  | 0, _ => by
    rw [Nat.sub_zero, List.take_length, List.drop_length]
    rfl
  | j + 1, hj => by
    have ih := apart_steps N hN j (by omega)
    obtain ⟨d, hd⟩ : ∃ d, N.length - j = d + 1 := ⟨N.length - j - 1, by omega⟩
    rw [hd] at ih
    have hd' : N.length - (j + 1) = d := by omega
    rw [hd']
    have hlt : d < N.length := by omega
    have ht : N.take (d + 1) = N.take d ++ [N[d]] := by rw [List.take_add_one, List.getElem?_eq_getElem hlt]; rfl
    have hdr : N.drop d = N[d] :: N.drop (d + 1) := List.drop_eq_getElem_cons hlt
    have hb := hN _ (List.getElem_mem hlt)
    have htk : ∀ r ∈ N.take (d + 1), Nm r := fun r hr => hN r (List.mem_of_mem_take hr)
    have htd : ∀ r ∈ N.take d, Nm r := fun r hr => hN r (List.mem_of_mem_take hr)
    have hne : N.take (d + 1) ≠ [] := fun e => absurd (List.append_eq_nil_iff.mp (ht ▸ e)).2 (List.cons_ne_nil _ _)
    rw [apartN_go ih (J_ne htk hne), ht, hdr]
    by_cases h0 : N.take d = []
    · rw [h0]
      show (splitHd (txt (N[d] ++ [])), _ ++ [splitTl (txt (N[d] ++ []))]) = _
      rw [List.append_nil, hd_no _ hb.2, tl_no _ hb.2, List.reverse_cons, List.map_append]
      rfl
    · rw [J_snoc _ _ h0, hd_app _ _ hb.2 (J_head _ htd h0) (J_last _ htd), tl_app _ _ hb.2, List.reverse_cons, List.map_append]
      rfl
theorem apart_stays (N : List (List Nat)) (hN : ∀ r ∈ N, Nm r) : ∀ j, apartN (N.length + j) (txt (J N)) [] = (Str.empty, N.reverse.map txt)
  | 0 => by
    have := apart_steps N hN N.length (Nat.le_refl _)
    rw [Nat.sub_self, List.take_zero, List.drop_zero] at this
    exact this
  | j + 1 => apartN_stay (apart_stays N hN j) rfl
theorem apart_all (N : List (List Nat)) (hN : ∀ r ∈ N, Nm r) (h12 : N.length ≤ 12) : (apartN 12 (txt (J N)) []).2.reverse = N.map txt := by
  have := apart_stays N hN (12 - N.length)
  rw [show N.length + (12 - N.length) = 12 by omega] at this
  rw [this, ← List.map_reverse, List.reverse_reverse]
end
/-! ## P4 -/
section
open PySem.Builtin PySem.Builtin.Str PySem.StrLaws
def lets (x : Str) : List Nat := x.cps.toList
theorem txt_lets (x : Str) : txt (lets x) = x := rfl
theorem map_txt_lets (xs : List Str) : (xs.map lets).map txt = xs := by
  rw [List.map_map]
  exact List.map_id _
theorem kind_one {x y : Str} (h : PySem.Builtin.Str.strKind y = 1) : decide (PySem.Builtin.Str.strKind x < PySem.Builtin.Str.strKind y) = false := by
  rw [h, decide_eq_false_iff_not]
  unfold PySem.Builtin.Str.strKind
  split
  · omega
  · split <;> omega
theorem split_J (x : List Nat) (rs : List (List Nat)) (h : ∀ r ∈ x :: rs, Nm r) : Txt.split (txt (J (x :: rs))) (Str.ofString "/") = (x :: rs).map txt := by
  rw [slT, split_go _ _ (by rw [txt_len]; exact Nat.le_refl 1) (kind_one (by decide +kernel))]
  congr 1
  exact go_join (c := 47) (y := []) x rs (h x (.head _)).2 fun r hr => (h r (.tail _ hr)).2
theorem fold_J : ∀ (rs : List (List Nat)) (x : List Nat), (rs.map txt).foldl joinStep (txt x) = txt (x ++ rs.flatMap (47 :: ·))
  | [], x => by
    rw [List.flatMap_nil, List.append_nil]
    rfl
  | b :: rs, x => by
    have e : joinStep (txt x) (txt b) = txt (x ++ 47 :: b) := by
      unfold joinStep
      rw [slT, txt_app, txt_app]
      rfl
    show (rs.map txt).foldl joinStep (joinStep (txt x) (txt b)) = _
    rw [e, fold_J rs]
    congr 1
    show (x ++ 47 :: b) ++ rs.flatMap (47 :: ·) = x ++ (47 :: b ++ rs.flatMap (47 :: ·))
    rw [List.append_assoc]
def NmS (x : Str) : Prop := Nm (lets x)
theorem walk_all {P : Str → Prop} (hd : P (Str.ofString "..")) : ∀ (rows ns : List Str), (∀ r ∈ rows, P r) → (∀ n ∈ ns, P n) → ∀ n ∈ rows.foldl walkStep ns, P n
  | [], _, _, hn => hn
  | r :: rows, ns, hr, hn => by
    refine walk_all hd rows (walkStep ns r) (fun q hq => hr q (.tail _ hq)) ?_
    intro n h
    unfold walkStep at h
    split at h
    · rcases List.mem_append.mp h with h | h
      · exact hn n h
      · rw [List.mem_singleton.mp h]; exact hr r (.head _)
    · split at h
      · exact hn n (List.dropLast_subset _ h)
      · rcases List.mem_append.mp h with h | h
        · exact hn n h
        · rw [List.mem_singleton.mp h]; exact hd
theorem walk_len : ∀ (rows ns : List Str), (rows.foldl walkStep ns).length ≤ ns.length + rows.length
  | [], _ => Nat.le_refl _
  | r :: rows, ns => by
    have h := walk_len rows (walkStep ns r)
    have h2 : (walkStep ns r).length ≤ ns.length + 1 := by
      unfold walkStep
      split
      · simp
      · split
        · simp; omega
        · simp
    show (rows.foldl walkStep (walkStep ns r)).length ≤ ns.length + (rows.length + 1)
    omega
theorem nm_dd : NmS (Str.ofString "..") := by
  refine ⟨?_, ?_⟩
  · decide +kernel
  · decide +kernel
theorem nm_d : NmS (Str.ofString ".") := by
  refine ⟨?_, ?_⟩
  · decide +kernel
  · decide +kernel
theorem normp_rows (rows : List Str) (hne : rows ≠ []) (h : ∀ r ∈ rows, NmS r) :
    normp (txt (J (rows.map lets))) = txt (J ((walked rows).map lets)) := by
  have hs : Txt.split (txt (J (rows.map lets))) (Str.ofString "/") = rows := by
    cases rows with
    | nil => exact absurd rfl hne
    | cons x rs =>
      have := split_J (lets x) (rs.map lets) (fun r hr => by
        rw [← List.map_cons] at hr
        obtain ⟨q, hq, rfl⟩ := List.mem_map.mp hr
        exact h q hq)
      rw [List.map_cons, this, ← List.map_cons, map_txt_lets]
  unfold normp walked
  rw [hs]
  have hw := walk_all (P := NmS) nm_dd rows [] h (fun _ hn => nomatch hn)
  by_cases he : rows.foldl walkStep [] = []
  · rw [he, if_pos rfl, if_pos (by rfl)]
    rfl
  · rw [if_neg he]
    have hj : Txt.join (Str.ofString "/") (rows.foldl walkStep []) = txt (J ((rows.foldl walkStep []).map lets)) := by
      have := join_J ((rows.foldl walkStep []).map lets)
      rw [map_txt_lets] at this
      exact this
    rw [hj, if_neg]
    intro h0
    obtain ⟨c, l, e, _⟩ := J_head ((rows.foldl walkStep []).map lets) (fun r hr => by
      obtain ⟨q, hq, rfl⟩ := List.mem_map.mp hr
      exact hw q hq) (fun e => he (List.map_eq_nil_iff.mp e))
    rw [e, txt_len] at h0
    cases h0
theorem walked_nm (rows : List Str) (h : ∀ r ∈ rows, NmS r) : ∀ n ∈ walked rows, NmS n := by
  intro n hn
  unfold walked at hn
  split at hn
  · rw [List.mem_singleton.mp hn]; exact nm_d
  · exact walk_all (P := NmS) nm_dd rows [] h (fun _ hn => nomatch hn) n hn
theorem walked_len (rows : List Str) (h0 : rows ≠ []) : (walked rows).length ≤ rows.length := by
  unfold walked
  have := walk_len rows []
  have := List.length_pos_iff.mpr h0
  split
  · exact this
  · simpa using walk_len rows []
/-- one turn: join, normpath and the taking apart give the walk's names -/
theorem turn_law (x : Str) (rs : List Str) (h : ∀ r ∈ x :: rs, NmS r) (hl : rs.length ≤ 9) :
    (apartN 12 (normp (rs.foldl joinStep x)) []).2.reverse = walked (x :: rs) := by
  have e1 : rs.foldl joinStep x = txt (J ((x :: rs).map lets)) := by
    have := fold_J (rs.map lets) (lets x)
    rw [map_txt_lets] at this
    exact this
  have hw := walked_nm (x :: rs) h
  have hlen := walked_len (x :: rs) (List.cons_ne_nil _ _)
  rw [e1, normp_rows (x :: rs) (List.cons_ne_nil _ _) h, apart_all _ (fun r hr => by
    obtain ⟨q, hq, rfl⟩ := List.mem_map.mp hr
    exact hw q hq) (by rw [List.length_map]; rw [List.length_cons] at hlen; omega), map_txt_lets]
end
/-! ## BA -/
section
open PyProof.Rows
theorem one_str {vs : List Value} {xs : List Str} {n : Nat} (h : StrsAre vs xs) (hl : xs.length = n + 1) : ∃ y t vr xr, vs = .str y t :: vr ∧ xs = y :: xr ∧ StrsAre vr xr ∧ xr.length = n := by
  cases h with
  | nil => cases hl
  | cons y t r => exact ⟨y, t, _, _, rfl, rfl, r, Nat.succ.inj hl⟩
theorem ten_strs {vs : List Value} {xs : List Str} (h : StrsAre vs xs) (hl : xs.length = 10) : ∃ y0 y1 y2 y3 y4 y5 y6 y7 y8 y9 t0 t1 t2 t3 t4 t5 t6 t7 t8 t9,
    vs = [.str y0 t0, .str y1 t1, .str y2 t2, .str y3 t3, .str y4 t4, .str y5 t5, .str y6 t6, .str y7 t7, .str y8 t8, .str y9 t9] ∧ xs = [y0, y1, y2, y3, y4, y5, y6, y7, y8, y9] := by
  obtain ⟨y0, t0, v0, x0, rfl, rfl, h0, l0⟩ := one_str h hl
  obtain ⟨y1, t1, v1, x1, rfl, rfl, h1, l1⟩ := one_str h0 l0
  obtain ⟨y2, t2, v2, x2, rfl, rfl, h2, l2⟩ := one_str h1 l1
  obtain ⟨y3, t3, v3, x3, rfl, rfl, h3, l3⟩ := one_str h2 l2
  obtain ⟨y4, t4, v4, x4, rfl, rfl, h4, l4⟩ := one_str h3 l3
  obtain ⟨y5, t5, v5, x5, rfl, rfl, h5, l5⟩ := one_str h4 l4
  obtain ⟨y6, t6, v6, x6, rfl, rfl, h6, l6⟩ := one_str h5 l5
  obtain ⟨y7, t7, v7, x7, rfl, rfl, h7, l7⟩ := one_str h6 l6
  obtain ⟨y8, t8, v8, x8, rfl, rfl, h8, l8⟩ := one_str h7 l7
  obtain ⟨y9, t9, v9, x9, rfl, rfl, h9, l9⟩ := one_str h8 l8
  have e : x9 = [] := List.length_eq_zero_iff.mp l9
  subst e
  cases h9
  exact ⟨y0, y1, y2, y3, y4, y5, y6, y7, y8, y9, t0, t1, t2, t3, t4, t5, t6, t7, t8, t9, rfl, rfl⟩
theorem strs_take : ∀ {vs : List Value} {xs : List Str} (n : Nat), StrsAre vs xs → StrsAre (vs.take n) (xs.take n)
  | _, _, 0, _ => by rw [List.take_zero, List.take_zero]; exact .nil
  | _, _, _ + 1, .nil => .nil
  | _, _, n + 1, .cons y t r => .cons y t (strs_take n r)
theorem strs_drop : ∀ {vs : List Value} {xs : List Str} (n : Nat), StrsAre vs xs → StrsAre (vs.drop n) (xs.drop n)
  | _, _, 0, h => h
  | _, _, _ + 1, .nil => .nil
  | _, _, n + 1, .cons _ _ r => strs_drop n r
theorem strs_append {vs ws : List Value} {xs ys : List Str} (h : StrsAre vs xs) (k : StrsAre ws ys) : StrsAre (vs ++ ws) (xs ++ ys) := by
  induction h with
  | nil => exact k
  | cons y t _ ih => exact .cons y t ih
theorem turned_ten {vs : List Value} {rows : List Str} {i : Nat} {j : Int} (h : StrsAre vs (rows ++ [Str.ofString ""])) (hl : rows.length = 10) (hi : i < 10) (hj : j = (i : Int)) : ∃ y0 y1 y2 y3 y4 y5 y6 y7 y8 y9 t0 t1 t2 t3 t4 t5 t6 t7 t8 t9,
    kms_pick vs (some j) (some 10) ++ kms_pick vs none (some j) = [.str y0 t0, .str y1 t1, .str y2 t2, .str y3 t3, .str y4 t4, .str y5 t5, .str y6 t6, .str y7 t7, .str y8 t8, .str y9 t9] ∧ turnedAt rows i = [y0, y1, y2, y3, y4, y5, y6, y7, y8, y9] := by
  subst hj
  have hvl : vs.length = 11 := by
    have := h.len_eq
    rw [List.length_append, hl] at this
    exact this
  rw [pick_run' (by omega) (by omega) (by decide) (by rw [hvl]; decide), pick_upto (by omega) (by rw [hvl]; omega)]
  have hs : StrsAre ((vs.drop (i : Int).toNat).take ((10 : Int).toNat - (i : Int).toNat) ++ vs.take (i : Int).toNat) (turnedAt rows i) := by
    have h1 := strs_append (strs_take (10 - i) (strs_drop i h)) (strs_take i h)
    have e1 : ((rows ++ [Str.ofString ""]).drop i).take (10 - i) = rows.drop i := by
      rw [List.drop_append_of_le_length (by omega), List.take_append_of_le_length (by rw [List.length_drop]; omega), List.take_of_length_le (by rw [List.length_drop]; omega)]
    have e2 : (rows ++ [Str.ofString ""]).take i = rows.take i := List.take_append_of_le_length (by omega)
    rw [e1, e2] at h1
    exact h1
  refine ten_strs hs ?_
  unfold turnedAt
  rw [List.length_append, List.length_drop, List.length_take]
  omega
end
/-! ## BB -/
section
def RowOk (r : Str) : Prop := NmS r ∧ r.length ≤ 10 ∧ r ≠ Str.ofString "." ∧ PyData.strOk r = true
def RowsOk (rows : List Str) : Prop := rows.length ≤ 10 ∧ ∀ r ∈ rows, RowOk r
def JoinOf (rows : List Str) (X : Str) : Prop := ∃ x rs, rows = x :: rs ∧ X = rs.foldl joinStep x
def NormOf (rows : List Str) (Y : Str) : Prop := ∃ X, JoinOf rows X ∧ Y = normp X
theorem nm_plain {r : Str} (h : NmS r) : Plain r := by
  refine ⟨?_, fun c hc e => h.2 (e ▸ hc)⟩
  refine Nat.pos_of_ne_zero fun e => h.1 ?_
  exact List.length_eq_zero_iff.mp (by simpa [lets, Str.length] using e)
theorem fold_rows (x : Str) (rs : List Str) : rs.foldl joinStep x = txt (J ((x :: rs).map lets)) := by
  have := fold_J (rs.map lets) (lets x)
  rw [map_txt_lets] at this
  exact this
theorem J_len : ∀ L : List (List Nat), (∀ l ∈ L, l.length ≤ 10) → (J L).length ≤ 11 * L.length
  | [], _ => Nat.le_refl _
  | a :: r, h => by
    have key : ∀ r : List (List Nat), (∀ l ∈ r, l.length ≤ 10) → (r.flatMap (47 :: ·)).length ≤ 11 * r.length := by
      intro r
      induction r with
      | nil => intro _; exact Nat.le_refl _
      | cons b r ih =>
        intro h
        have h1 := h b (.head _)
        have h2 := ih fun l hl => h l (.tail _ hl)
        rw [List.flatMap_cons, List.length_append, List.length_cons, List.length_cons]
        omega
    have h1 := h a (.head _)
    have h2 := key r fun l hl => h l (.tail _ hl)
    show (a ++ r.flatMap (47 :: ·)).length ≤ _
    rw [List.length_append, List.length_cons]
    omega
theorem lets_len (r : Str) : (lets r).length = r.length := by simp [lets, Str.length]
theorem txtJ_len (rows : List Str) (h : ∀ r ∈ rows, r.length ≤ 10) : (txt (J (rows.map lets))).length ≤ 11 * rows.length := by
  rw [txt_len]
  have := J_len (rows.map lets) (fun l hl => by
    obtain ⟨r, hr, rfl⟩ := List.mem_map.mp hl
    rw [lets_len]
    exact h r hr)
  rwa [List.length_map] at this
theorem join_facts {rows : List Str} {X : Str} (hr : RowsOk rows) (hX : JoinOf rows X) : 0 < X.length ∧ X.length ≤ 1000 ∧ X.cps[0]? ≠ some 47 ∧ (Txt.split X (Str.ofString "/")).length ≤ 1000 ∧ ∀ c ∈ Txt.split X (Str.ofString "/"), c ≠ Str.ofString "" ∧ c ≠ Str.ofString "." := by
  obtain ⟨x, rs, rfl, rfl⟩ := hX
  obtain ⟨hl, hro⟩ := hr
  have hnm : ∀ r ∈ (x :: rs).map lets, Nm r := fun r hr => by
    obtain ⟨q, hq, rfl⟩ := List.mem_map.mp hr
    exact (hro q hq).1
  have hs := split_J (lets x) (rs.map lets) (by rw [← List.map_cons]; exact hnm)
  rw [← List.map_cons, map_txt_lets] at hs
  have hlen := txtJ_len (x :: rs) fun r hr => (hro r hr).2.1
  obtain ⟨c, l, e, hc⟩ := J_head ((x :: rs).map lets) hnm (by simp)
  rw [fold_rows, hs]
  refine ⟨?_, by omega, ?_, by omega, fun r hr => ⟨fun e0 => (hro r hr).1.1 (by rw [e0]; decide +kernel), (hro r hr).2.2.1⟩⟩
  · rw [txt_len, e]; exact Nat.succ_pos _
  · rw [e]
    show (c :: l).toArray[0]? ≠ some 47
    simpa using hc
theorem norm_facts {rows : List Str} {Y : Str} (hr : RowsOk rows) (hY : NormOf rows Y) : Y.length ≤ 1048576 ∧ (apartN 12 Y []).2.reverse = walked rows := by
  obtain ⟨X, ⟨x, rs, rfl, rfl⟩, rfl⟩ := hY
  obtain ⟨hl, hro⟩ := hr
  refine ⟨?_, turn_law x rs (fun r hr => (hro r hr).1) (by rw [List.length_cons] at hl; omega)⟩
  rw [fold_rows, normp_rows (x :: rs) (List.cons_ne_nil _ _) fun r hr => (hro r hr).1]
  have h1 : ∀ r ∈ walked (x :: rs), r.length ≤ 10 := by
    intro r hr
    unfold walked at hr
    split at hr
    · rw [List.mem_singleton.mp hr]; decide +kernel
    · exact walk_all (P := fun r => r.length ≤ 10) (by decide +kernel) (x :: rs) [] (fun r hr => (hro r hr).2.1) (fun _ hn => nomatch hn) r hr
  have h2 := txtJ_len _ h1
  have h3 := walked_len (x :: rs) (List.cons_ne_nil _ _)
  omega
theorem join_t {x x1 x2 x3 x4 x5 x6 x7 x8 x9 : Str} {t t1 t2 t3 t4 t5 t6 t7 t8 t9 : Tok} {w : World} {mean : ExcName → Option Value} {mg mb : Str → Option Value} {news : List (Addr × Obj)} {dp un : Nat} {gd : Option (List Code)} {cn : Str} {cs : Scope} {a : Addr} {ccd : Value} {cl : List (Str × Addr)} {outer : List Env} {A₀ : Around} {base h₀ : Heap} {L : Addr} {m : Str → Option Value} {s : Shared} {Q E : Value → Shared → Prop}
    (B : Below A₀ base outer h₀) (F : Fr h₀ L s.heap m) (X : (hd.heap_1 w.params).In h₀) (N : News h₀ L s.heap news)
    (T : Top vw (looseW vw lo) mean mg mb h₀)
    (hkf : cs.kind = .function) (hdp : dp + 16 < recursionLimit) (hun : un + 8 * 16 < cLine) (hr : RowsOk [x, x1, x2, x3, x4, x5, x6, x7, x8, x9])
    (hret : ∀ X t' h' tk', JoinOf [x, x1, x2, x3, x4, x5, x6, x7, x8, x9] X → Fr h₀ L h' m → News h₀ L h' news → Q (.str X t') { s with heap := h', toks := tk' }) :
    wpAny (model PySem.Challenge.rw_il0069_01.row.prog w) (ktrTop dp un gd cn cs L a ccd cl outer) (call (.ref 149) [.str x t, .str x1 t1, .str x2 t2, .str x3 t3, .str x4 t4, .str x5 t5, .str x6 t6, .str x7 t7, .str x8 t8, .str x9 t9]) Q E s :=
  join_c B F X N T hkf hdp hun ⟨nm_plain (hr.2 _ (.head _)).1, (hr.2 _ (.head _)).2.1⟩ (fun r h => ⟨nm_plain (hr.2 r (.tail _ h)).1, (hr.2 r (.tail _ h)).2.1⟩)
    (fun t' h' tk' F' N' => hret _ t' h' tk' ⟨_, _, rfl, rfl⟩ F' N')
theorem norm_t {rows : List Str} {x : Str} {t : Tok} {w : World} {mean : ExcName → Option Value} {mg mb : Str → Option Value} {news : List (Addr × Obj)} {dp un : Nat} {gd : Option (List Code)} {cn : Str} {cs : Scope} {a : Addr} {ccd : Value} {cl : List (Str × Addr)} {outer : List Env} {A₀ : Around} {base h₀ : Heap} {L : Addr} {m : Str → Option Value} {s : Shared} {Q E : Value → Shared → Prop}
    (B : Below A₀ base outer h₀) (F : Fr h₀ L s.heap m) (X : (hd.heap_1 w.params).In h₀) (N : News h₀ L s.heap news)
    (T : Top vw (looseW vw lo) mean mg mb h₀)
    (hkf : cs.kind = .function) (hdp : dp + 16 < recursionLimit) (hun : un + 8 * 16 < cLine) (hX : JoinOf rows x) (hr : RowsOk rows)
    (hret : ∀ Y t' h' tk', NormOf rows Y → Fr h₀ L h' m → News h₀ L h' news → Q (.str Y t') { s with heap := h', toks := tk' }) :
    wpAny (model PySem.Challenge.rw_il0069_01.row.prog w) (ktrTop dp un gd cn cs L a ccd cl outer) (call (.ref 170) [.str x t]) Q E s := by
  obtain ⟨h1, h2, h3, h4, h5⟩ := join_facts hr hX
  exact normpath_c B F X N T hkf hdp hun h1 h2 h3 h4 h5 (fun t' h' tk' F' N' => hret _ t' h' tk' ⟨x, hX, rfl⟩ F' N')
theorem apart_t {rows : List Str} {x : Str} {t : Tok} {w : World} {mean : ExcName → Option Value} {mg mb : Str → Option Value} {news : List (Addr × Obj)} {dp un : Nat} {gd : Option (List Code)} {cn : Str} {cs : Scope} {a : Addr} {ccd : Value} {cl : List (Str × Addr)} {outer : List Env} {A₀ : Around} {base h₀ : Heap} {L : Addr} {m : Str → Option Value} {s : Shared} {Q E : Value → Shared → Prop}
    (B : Below A₀ base outer h₀) (F : Fr h₀ L s.heap m) (X : (hd.heap_1 w.params).In h₀) (N : News h₀ L s.heap news)
    (T : Top vw (looseW vw lo) mean mg mb h₀)
    (hkf : cs.kind = .function) (hdp : dp + 8 < recursionLimit) (hun : un + 8 * 8 < cLine) (hY : NormOf rows x) (hr : RowsOk rows)
    (hret : ∀ h' tk' l vals, StrsAre vals (walked rows) → Fr h₀ L h' m → News h₀ L h' ((l, listOf vals.toArray 0) :: news) → (∀ p ∈ news, p.1 < l) → Q (.ref l) { s with heap := h', toks := tk' }) :
    wpAny (model PySem.Challenge.rw_il0069_01.row.prog w) (ktrTop dp un gd cn cs L a ccd cl outer) (call (.ref 238) [.str x t]) Q E s := by
  obtain ⟨h1, h2⟩ := norm_facts hr hY
  exact apart_c B F X N T hkf hdp hun h1 (fun h' tk' l vals hs F' N' lt => hret h' tk' l vals (h2 ▸ hs) F' N' lt)
theorem walked_t {l : Addr} {rvs : List Value} {rn : Nat} {rows : List Str} {w : World} {mean : ExcName → Option Value} {mg mb : Str → Option Value} {news : List (Addr × Obj)} {dp un : Nat} {gd : Option (List Code)} {cn : Str} {cs : Scope} {a : Addr} {ccd : Value} {cl : List (Str × Addr)} {outer : List Env} {A₀ : Around} {base h₀ : Heap} {L : Addr} {m : Str → Option Value} {s : Shared} {Q E : Value → Shared → Prop}
    (B : Below A₀ base outer h₀) (F : Fr h₀ L s.heap m) (X : (hd.heap_1 w.params).In h₀) (N : News h₀ L s.heap news)
    (T : Top vw (looseW vw lo) mean mg mb h₀)
    (hkf : cs.kind = .function) (hdp : dp + 16 < recursionLimit) (hun : un + 8 * 16 < cLine) (hl : (l, listOf rvs.toArray rn) ∈ news) (hrs : StrsAre rvs rows) (hr : RowsOk rows)
    (hret : ∀ h' tk' l' n' vals, StrsAre vals (walked rows) → Fr h₀ L h' m → News h₀ L h' ((l', listOf vals.toArray n') :: news) → (∀ p ∈ news, p.1 < l') → Q (.ref l') { s with heap := h', toks := tk' }) :
    wpAny (model PySem.Challenge.rw_il0069_01.row.prog w) (ktrTop dp un gd cn cs L a ccd cl outer) (call (.ref 231) [.ref l]) Q E s :=
  walked_c B F X N T hkf hdp hun hl hrs (Nat.le_trans hr.1 (by decide)) (fun r h => (hr.2 r h).2.2.2) hret
theorem walked_ok {rows : List Str} (hr : RowsOk rows) : ∀ r ∈ walked rows, PyData.strOk r = true := by
  intro r h
  unfold walked at h
  split at h
  · rw [List.mem_singleton.mp h]; decide +kernel
  · exact walk_all (P := fun r => PyData.strOk r = true) ok_dd rows [] (fun r h => (hr.2 r h).2.2.2) (fun _ hn => nomatch hn) r h
theorem walked_ne (rows : List Str) : ∃ n r, walked rows = n :: r := by
  cases h : walked rows with
  | nil =>
    exfalso
    unfold walked at h
    split at h
    · cases h
    · rename_i hn; exact hn h
  | cons n r => exact ⟨n, r, rfl⟩
section
variable {prog : Program} {w : World} {A : Around} {E : Value → Shared → Prop} {s : Shared} {h₀ : Heap} {L l : Addr} {m : Str → Option Value} {news : List (Addr × Obj)} {vs : List Value} {n : Nat} {ss : List Str} {Q : Value → Shared → Prop}
theorem sort_t (F : Fr h₀ L s.heap m) (N : News h₀ L s.heap news) (ha : (l, listOf vs.toArray n) ∈ news) (hS : StrsAre vs ss) (h64 : vs.length < 64)
    (h : ∀ D h' vs' ss' e, Fr h₀ L h' m → News h₀ L h' ((D, listOf (List.toArray vs') e) :: news) → (∀ p ∈ news, p.1 < D) → StrsAre vs' ss' → ss'.Perm ss → PyProof.Rows.sortedS ss' = true → Q (.ref D) { s with heap := h' }) :
    wpAny (model prog w) A (call (.builtin "sorted") [.ref l]) Q E s :=
  PyProof.Rows.sorted_N_str F N (isList_of N ha) hS h64 fun h' vs' ss' e F' N' a b c => h _ h' vs' ss' e F' N' (fun p hp => Nat.lt_succ_of_lt (Heap.lt_size (N p hp).1)) a b c
end
theorem firsts_skip {rows : List Str} {i : Nat} (h : goodAt rows i = false) : firstsTo rows (i + 1) = firstsTo rows i := by
  unfold firstsTo
  rw [List.range_succ, List.filter_append, List.map_append]
  simp [h]
theorem firsts_add {rows : List Str} {i : Nat} (h : goodAt rows i = true) : firstsTo rows (i + 1) = firstsTo rows i ++ [rows.getD i Str.empty] := by
  unfold firstsTo
  rw [List.range_succ, List.filter_append, List.map_append]
  simp [h]
theorem head_turned {rows : List Str} {i : Nat} {y : Str} {r : List Str} (hi : i < rows.length) (h : turnedAt rows i = y :: r) : rows.getD i Str.empty = y := by
  have e : (turnedAt rows i).head? = rows[i]? := by
    unfold turnedAt
    rw [List.head?_append, List.head?_drop, List.getElem?_eq_getElem hi]
    rfl
  rw [h] at e
  rw [List.getD_eq_getElem?_getD, ← e]
  rfl
theorem good_is {rows : List Str} {i : Nat} {n y : Str} {r r' : List Str} (hn : namesAt rows i = n :: r) (ht : turnedAt rows i = y :: r') : goodAt rows i = (decide (n = y) && decide (y ≠ Str.ofString "..")) := by
  unfold goodAt
  rw [hn, ht]
  congr 1
  · exact decide_eq_decide.mpr ⟨fun e => Option.some.inj e, fun e => congrArg some e⟩
  · exact decide_eq_decide.mpr ⟨fun e e2 => e (congrArg some e2), fun e e2 => e (Option.some.inj e2)⟩
theorem turn_skip {rows : List Str} {i : Nat} {c : TS} (h : TurnP rows i c) (hg : goodAt rows i = false) : TurnP rows (i + 1) c := by
  obtain ⟨h1, h2, h3, h4⟩ := h
  exact ⟨by rw [firsts_skip hg]; exact h1, Nat.le_succ_of_le h2, Nat.le_succ_of_le h3, h4⟩
theorem turn_add {rows : List Str} {i fn wn fn' wn' e : Nat} {fv wv vs' : List Value} {objs : List (Addr × Obj)} {n y : Str} {r r' ss' : List Str} {tn : Tok} {D : Addr} (h : TurnP rows i ⟨fv, fn, wv, wn, objs⟩) (hl : rows.length = 10) (hi : i < 10)
    (hn : namesAt rows i = n :: r) (ht : turnedAt rows i = y :: r') (h1 : n = y) (h2 : y ≠ Str.ofString "..") (hS : StrsAre vs' ss') (hp : ss'.Perm (n :: r)) (hs : PyProof.Rows.sortedS ss' = true) :
    TurnP rows (i + 1) ⟨fv ++ [.str n tn], fn', wv ++ [.ref D], wn', (D, listOf vs'.toArray e) :: objs⟩ := by
  obtain ⟨a1, a2, a3, a4⟩ := h
  have hg : goodAt rows i = true := by
    rw [good_is hn ht, decide_eq_true h1, decide_eq_true h2]
    rfl
  refine ⟨?_, ?_, ?_, ?_⟩
  · rw [firsts_add hg, head_turned (by omega) ht, ← h1]
    exact kct_snoc a1
  · show (fv ++ [_]).length ≤ _
    rw [List.length_append]
    exact Nat.succ_le_succ a2
  · show (wv ++ [_]).length ≤ _
    rw [List.length_append]
    exact Nat.succ_le_succ a3
  · intro v hv
    rcases List.mem_append.mp hv with hv | hv
    · exact (a4 v hv).more _
    · rw [List.mem_singleton.mp hv]
      exact ⟨D, vs', e, ss', i, rfl, .head _, hS, hs, hi, hg, hn ▸ hp⟩
theorem bad1 {a b : Str} {p : Bool} (h : (a == b) = false) : (decide (a = b) && p) = false := by
  rw [decide_eq_false (by simpa using h)]
  rfl
theorem bad2 {y z : Str} {p : Bool} (h : (y != z) = false) : (p && decide (y ≠ z)) = false := by
  have : y = z := by simpa using h
  rw [decide_eq_false (fun hh => hh this), Bool.and_false]
end
/-! ## P7 -/
section
open PySem.Builtin PySem.Builtin.Str PySem.StrLaws
/-- what a substitution makes of the text from place dn on -/
inductive Sub (x : List Nat) (r : List Nat) (p : Nat → Bool) (len : Nat → Nat) : Nat → List Nat → Prop
  | done : Sub x r p len x.length []
  | hit {dn out} : dn < x.length → p dn = true → Sub x r p len (dn + len dn) out → Sub x r p len dn (r ++ out)
  | miss {dn out c} : x[dn]? = some c → p dn = false → Sub x r p len (dn + 1) out → Sub x r p len dn (c :: out)
def flat (l : List Str) : List Nat := l.flatMap lets
theorem join_flat : ∀ l : List Str, Txt.join Str.empty l = txt (flat l)
  | [] => by
    show glued _ _ = _
    rw [glued_eq_join]
    rfl
  | a :: r => by
    show glued _ _ = _
    rw [glued_eq_join]
    induction r generalizing a with
    | nil =>
      show a = txt (lets a ++ [])
      rw [List.append_nil]
      rfl
    | cons b r ih =>
      show a ++ Str.empty ++ Str.join Str.empty (b :: r) = _
      rw [ih b]
      have : a ++ Str.empty = a := Str.append_right_empty rfl
      rw [this]
      show txt (lets a) ++ txt (flat (b :: r)) = _
      rw [txt_app]
      rfl
theorem flat_cut (l : List Nat) (a b : Nat) (h : b ≤ l.length) : flat (cut (txt l) a b) = (l.drop a).take (b - a) := by
  unfold cut
  by_cases hab : a < b
  · rw [if_pos hab]
    show lets _ ++ [] = _
    rw [List.append_nil]
    show ((txt l).cps.extract a b).toList = _
    rw [Array.toList_extract]
    rfl
  · rw [if_neg hab, show b - a = 0 by omega]
    rfl
theorem cut_step (l : List Nat) {a b c : Nat} (h : b ≤ l.length) (hab : a < b) (hc : l[a]? = some c) : flat (cut (txt l) a b) = c :: flat (cut (txt l) (a + 1) b) := by
  obtain ⟨ha, e⟩ := List.getElem?_eq_some_iff.mp hc
  rw [flat_cut _ _ _ h, flat_cut _ _ _ h, List.drop_eq_getElem_cons ha, e, show b - a = (b - (a + 1)) + 1 by omega]
  rfl
theorem flat_app (a b : List Str) : flat (a ++ b) = flat a ++ flat b := List.flatMap_append
theorem pcs_sub {x r : List Nat} {p : Nat → Bool} {len : Nat → Nat} (hlen : ∀ i, i < x.length → p i = true → 1 ≤ len i) {dn : Nat} {out : List Nat} (h : Sub x r p len dn out) :
    ∀ q, x.length ≤ dn + q → flat (pcs (txt x) (txt r) p len q dn) = out := by
  have hsz : (txt x).cps.size = x.length := by simp [txt]
  induction h with
  | done =>
    intro q _
    have e : pcs (txt x) (txt r) p len q x.length = cut (txt x) x.length x.length := by
      cases q with
      | zero =>
        show cut (txt x) x.length (txt x).cps.size = _
        rw [hsz]
      | succ q =>
        show (match nxt p ((txt x).cps.size - x.length) x.length with | none => _ | some i => _) = _
        rw [hsz, Nat.sub_self]
        rfl
    rw [e, flat_cut _ _ _ (Nat.le_refl _), Nat.sub_self]
    rfl
  | @hit dn out hd hp _ ih =>
    intro q hq
    have h1 := hlen dn hd hp
    cases q with
    | zero => omega
    | succ q =>
      have e : pcs (txt x) (txt r) p len (q + 1) dn = cut (txt x) dn dn ++ [txt r] ++ pcs (txt x) (txt r) p len q (dn + len dn) := by
        show (match nxt p ((txt x).cps.size - dn) dn with | none => _ | some i => _) = _
        rw [hsz]
        obtain ⟨k, hk⟩ : ∃ k, x.length - dn = k + 1 := ⟨x.length - dn - 1, by omega⟩
        rw [hk, show nxt p (k + 1) dn = some dn from if_pos hp]
      rw [e, flat_app, flat_app, flat_cut _ _ _ (by omega), Nat.sub_self, ih q (by omega)]
      show [] ++ (lets (txt r) ++ []) ++ out = _
      rw [List.nil_append, List.append_nil]
      rfl
  | @miss dn out c hc hp _ ih =>
    intro q hq
    have hd : dn < x.length := (List.getElem?_eq_some_iff.mp hc).1
    rw [← ih q (by omega)]
    cases q with
    | zero => omega
    | succ q =>
      have e : ∀ d, pcs (txt x) (txt r) p len (q + 1) d = match nxt p (x.length - d) d with | none => cut (txt x) d x.length | some i => cut (txt x) d i ++ [txt r] ++ pcs (txt x) (txt r) p len q (i + len i) := by
        intro d
        show (match nxt p ((txt x).cps.size - d) d with | none => cut (txt x) d (txt x).cps.size | some i => _) = _
        rw [hsz]
      have en : nxt p (x.length - dn) dn = nxt p (x.length - (dn + 1)) (dn + 1) := by
        obtain ⟨k, hk⟩ : ∃ k, x.length - dn = k + 1 := ⟨x.length - dn - 1, by omega⟩
        rw [hk, show x.length - (dn + 1) = k by omega]
        show (if p dn = true then _ else _) = _
        rw [if_neg (by rw [hp]; exact Bool.false_ne_true)]
      rw [e dn, e (dn + 1), en]
      cases hn : nxt p (x.length - (dn + 1)) (dn + 1) with
      | none =>
        show flat (cut _ dn _) = c :: flat (cut _ (dn + 1) _)
        exact cut_step x (Nat.le_refl _) hd hc
      | some i =>
        obtain ⟨h1, h2, h3⟩ := nxt_some _ _ _ hn
        show flat (cut _ dn i ++ [txt r] ++ pcs _ _ _ _ _ _) = c :: flat (cut _ (dn + 1) i ++ [txt r] ++ pcs _ _ _ _ _ _)
        rw [flat_app, flat_app, flat_app, flat_app, cut_step x (by omega) (by omega) hc]
        rfl
/-- a run of signs that no match begins at -/
theorem Sub.run {x r : List Nat} {p : Nat → Bool} {len : Nat → Nat} {out : List Nat} : ∀ (row pre rest : List Nat), x = pre ++ (row ++ rest) → (∀ i, i < row.length → p (pre.length + i) = false) → Sub x r p len (pre.length + row.length) out → Sub x r p len pre.length (row ++ out)
  | [], _, _, _, _, h => h
  | c :: row, pre, rest, hx, hp, h => by
    have ih := Sub.run (x := x) (r := r) (p := p) (len := len) (out := out) row (pre ++ [c]) rest (by rw [hx]; simp) (fun i hi => by
      rw [List.length_append]
      have := hp (i + 1) (Nat.succ_lt_succ hi)
      rw [show pre.length + [c].length + i = pre.length + (i + 1) by show pre.length + 1 + i = _; omega]
      exact this) (by
      rw [List.length_append]
      rw [List.length_cons] at h
      rw [show pre.length + [c].length + row.length = pre.length + (row.length + 1) by show pre.length + 1 + row.length = _; omega]
      exact h)
    rw [List.length_append] at ih
    refine Sub.miss (c := c) ?_ (hp 0 (Nat.succ_pos _)) ih
    rw [hx]
    simp
theorem getD_at {x : List Nat} (i : Nat) : (txt x).cps.getD i 0 = x.getD i 0 := by
  show (x.toArray).getD i 0 = _
  simp [Array.getD_eq_getD_getElem?, List.getD_eq_getElem?_getD]
end
/-! ## P8 -/
section
open PySem.Builtin PySem.Builtin.Str PySem.StrLaws
theorem getD_app (pre l : List Nat) (i : Nat) : (pre ++ l).getD (pre.length + i) 0 = l.getD i 0 := by
  rw [List.getD_eq_getElem?_getD, List.getD_eq_getElem?_getD, List.getElem?_append_right (by omega), show pre.length + i - pre.length = i by omega]
theorem getD_row {row rest : List Nat} {i : Nat} (hi : i < row.length) : (row ++ rest).getD i 0 ∈ row := by
  rw [List.getD_eq_getElem?_getD, List.getElem?_append_left hi, List.getElem?_eq_getElem hi]
  exact List.getElem_mem hi
def SepOk (s : List Nat) : Prop := s = [10] ∨ s = [13] ∨ s = [13, 10]
def RowFree (r : List Nat) : Prop := r ≠ [] ∧ 10 ∉ r ∧ 13 ∉ r
def glue (pairs : List (List Nat × List Nat)) : List Nat := pairs.flatMap fun p => p.1 ++ p.2
theorem glue_head {pairs : List (List Nat × List Nat)} (h : ∀ p ∈ pairs, RowFree p.1) : (glue pairs).getD 0 0 ≠ 10 := by
  cases pairs with
  | nil => exact fun e => nomatch e
  | cons p r =>
    obtain ⟨h1, h2, _⟩ := h p (.head _)
    obtain ⟨row, sep⟩ := p
    cases row with
    | nil => exact absurd rfl h1
    | cons c row => exact fun e => h2 (by have e' : c = 10 := e; rw [← e']; exact .head _)
theorem sub_mail : ∀ (pairs : List (List Nat × List Nat)) (pre x : List Nat), x = pre ++ glue pairs → (∀ p ∈ pairs, RowFree p.1 ∧ SepOk p.2) →
    Sub x [13, 10] (is2 (txt x).cps) (len2 (txt x).cps) pre.length (pairs.flatMap fun p => p.1 ++ [13, 10])
  | [], pre, x, hx, _ => by
    have e : x = pre := by rw [hx]; exact List.append_nil _
    rw [e]
    exact Sub.done
  | (row, sep) :: rest, pre, x, hx, h => by
    obtain ⟨⟨hr1, hr2, hr3⟩, hs⟩ := h (row, sep) (.head _)
    have hx1 : x = pre ++ (row ++ (sep ++ glue rest)) := by
      rw [hx]
      show pre ++ ((row ++ sep) ++ glue rest) = _
      rw [List.append_assoc]
    have hx2 : x = (pre ++ row) ++ (sep ++ glue rest) := by rw [hx1, List.append_assoc]
    have hx3 : x = (pre ++ row ++ sep) ++ glue rest := by rw [hx1]; simp only [List.append_assoc]
    have ih := sub_mail rest (pre ++ row ++ sep) x hx3 fun p hp => h p (.tail _ hp)
    have hg := glue_head fun p hp => (h p (.tail _ hp)).1
    have hat : ∀ i, (txt x).cps.getD ((pre ++ row).length + i) 0 = (sep ++ glue rest).getD i 0 := fun i => by rw [getD_at, hx2, getD_app]
    have hl : len2 (txt x).cps (pre ++ row).length = sep.length ∧ is2 (txt x).cps (pre ++ row).length = true := by
      have h0 := hat 0
      have h1 := hat 1
      rw [Nat.add_zero] at h0
      unfold len2 is2
      rw [h0, h1]
      rcases hs with rfl | rfl | rfl
      · exact ⟨rfl, rfl⟩
      · have e : ([13] ++ glue rest).getD 1 0 = (glue rest).getD 0 0 := by simp [List.getD_eq_getElem?_getD]
        rw [e]
        refine ⟨if_neg ?_, rfl⟩
        rw [Bool.and_eq_true]
        exact fun hh => hg (by simpa using hh.2)
      · exact ⟨rfl, rfl⟩
    show Sub _ _ _ _ _ ((row ++ [13, 10]) ++ _)
    rw [List.append_assoc]
    refine Sub.run row pre (sep ++ glue rest) hx1 (fun i hi => ?_) ?_
    · unfold is2
      rw [getD_at, hx1, getD_app]
      have hm := getD_row (rest := sep ++ glue rest) hi
      rw [Bool.or_eq_false_iff]
      exact ⟨beq_eq_false_iff_ne.mpr fun e => hr3 (e ▸ hm), beq_eq_false_iff_ne.mpr fun e => hr2 (e ▸ hm)⟩
    · rw [← List.length_append]
      refine Sub.hit ?_ hl.2 ?_
      · rw [hx2]
        have : 0 < sep.length := by rcases hs with rfl | rfl | rfl <;> decide
        simp only [List.length_append]
        omega
      · rw [hl.1, ← List.length_append]
        exact ih
def dotL (r : List Nat) : List Nat := if r = [46] then [46, 46] else r
theorem sub_dots : ∀ (rows : List (List Nat)) (pre x : List Nat), x = pre ++ rows.flatMap (· ++ [13, 10]) → (pre = [] ∨ pre.getLast? = some 10) → (∀ r ∈ rows, r = [46] ∨ 46 ∉ r) →
    Sub x [46, 46] (is1 (txt x).cps) (fun _ => 1) pre.length (rows.flatMap fun r => dotL r ++ [13, 10])
  | [], pre, x, hx, _, _ => by
    have e : x = pre := by rw [hx]; exact List.append_nil _
    rw [e]
    exact Sub.done
  | row :: rest, pre, x, hx, hpre, h => by
    have hx1 : x = pre ++ ((row ++ [13, 10]) ++ rest.flatMap (· ++ [13, 10])) := hx
    have hx3 : x = (pre ++ (row ++ [13, 10])) ++ rest.flatMap (· ++ [13, 10]) := by rw [hx1]; simp only [List.append_assoc]
    have ih := sub_dots rest (pre ++ (row ++ [13, 10])) x hx3 (.inr (by rw [← List.append_assoc, List.getLast?_append]; rfl)) fun r hr => h r (.tail _ hr)
    show Sub _ _ _ _ _ ((dotL row ++ [13, 10]) ++ _)
    rcases h row (.head _) with rfl | hne
    · have e : dotL [46] = [46, 46] := rfl
      rw [e, List.append_assoc]
      refine Sub.hit ?_ ?_ ?_
      · rw [hx1]; simp
      · unfold is1
        rw [getD_at, getD_at]
        have h0 : x.getD pre.length 0 = 46 := by
          have := getD_app pre (([46] ++ [13, 10]) ++ rest.flatMap (· ++ [13, 10])) 0
          rw [Nat.add_zero, ← hx1] at this
          exact this
        rw [h0]
        rcases hpre with rfl | hlast
        · rfl
        · obtain ⟨q, rfl⟩ : ∃ q, pre = q ++ [10] := by
            rcases List.eq_nil_or_concat pre with rfl | ⟨q, c, rfl⟩
            · cases hlast
            · rw [List.concat_eq_append] at hlast ⊢
              rw [List.getLast?_concat] at hlast
              exact ⟨q, by rw [Option.some.inj hlast]⟩
          have h1 : x.getD ((q ++ [10]).length - 1) 0 = 10 := by
            rw [hx1, List.append_assoc]
            have := getD_app q ([10] ++ (([46] ++ [13, 10]) ++ rest.flatMap (· ++ [13, 10]))) 0
            rw [Nat.add_zero] at this
            rw [List.length_append]
            exact this
          rw [h1]
          simp
      · have hx4 : x = (pre ++ [46]) ++ ([13, 10] ++ rest.flatMap (· ++ [13, 10])) := by rw [hx1]; simp
        have := Sub.run (r := [46, 46]) (p := is1 (txt x).cps) (len := fun _ => 1) [13, 10] (pre ++ [46]) (rest.flatMap (· ++ [13, 10])) hx4 (fun i hi => by
          have hq : x.getD ((pre ++ [46]).length + i) 0 = ([13, 10] ++ rest.flatMap (· ++ [13, 10])).getD i 0 := by
            rw [hx4]
            exact getD_app _ _ _
          unfold is1
          rw [getD_at, getD_at, hq]
          have hm := getD_row (rest := rest.flatMap (· ++ [13, 10])) hi
          rw [Bool.and_eq_false_iff]
          refine .inr (beq_eq_false_iff_ne.mpr fun e => ?_)
          rw [e] at hm
          exact absurd hm (by decide)) (by
          rw [← List.length_append, List.append_assoc]
          exact ih)
        rw [List.length_append] at this
        exact this
    · have e : dotL row = row := by
        unfold dotL
        rw [if_neg]
        intro e
        exact hne (e ▸ .head _)
      rw [e]
      refine Sub.run (row ++ [13, 10]) pre _ hx1 (fun i hi => ?_) (by rw [← List.length_append]; exact ih)
      have hq : x.getD (pre.length + i) 0 = ((row ++ [13, 10]) ++ rest.flatMap (· ++ [13, 10])).getD i 0 := by
        rw [hx1]
        exact getD_app _ _ _
      unfold is1
      rw [getD_at, getD_at, hq]
      have hm := getD_row (rest := rest.flatMap (· ++ [13, 10])) hi
      rw [Bool.and_eq_false_iff]
      refine .inr (beq_eq_false_iff_ne.mpr fun e => ?_)
      rw [e] at hm
      rcases List.mem_append.mp hm with hm | hm
      · exact hne hm
      · exact absurd hm (by decide)
theorem quoted1_is (pairs : List (List Nat × List Nat)) (h : ∀ p ∈ pairs, RowFree p.1 ∧ SepOk p.2) : quoted1 (txt (glue pairs)) = txt (pairs.flatMap fun p => p.1 ++ [13, 10]) := by
  unfold quoted1
  rw [join_flat]
  congr 1
  have hc : crlf = txt [13, 10] := by decide +kernel
  rw [hc]
  have hsz : (txt (glue pairs)).cps.size = (glue pairs).length := by simp [txt]
  refine pcs_sub (fun i _ hi => (len2_ok i (by rw [hsz]; assumption) hi).1) (sub_mail pairs [] (glue pairs) rfl h) _ ?_
  rw [hsz]
  omega
theorem quoted2_is (rows : List (List Nat)) (h : ∀ r ∈ rows, r = [46] ∨ 46 ∉ r) : quoted2 (txt (rows.flatMap (· ++ [13, 10]))) = txt (rows.flatMap fun r => dotL r ++ [13, 10]) := by
  unfold quoted2
  rw [join_flat]
  congr 1
  have hc : dots = txt [46, 46] := by decide +kernel
  rw [hc]
  have hsz : (txt (rows.flatMap (· ++ [13, 10]))).cps.size = (rows.flatMap (· ++ [13, 10])).length := by simp [txt]
  refine pcs_sub (fun _ _ _ => Nat.le_refl 1) (sub_dots rows [] (rows.flatMap (· ++ [13, 10])) rfl (.inl rfl) h) _ ?_
  rw [hsz]
  omega
end
/-! ## P9 -/
section
open PySem.Builtin PySem.StrLaws
def LET : List Nat := [45, 63, 108, 115, 98, 100, 99, 112, 114, 119, 120, 83, 84, 116]
/-- ten signs of filemode's -/
def SgOk (sg : Str) : Prop := sg.length = 10 ∧ ∀ c ∈ lets sg, c ∈ LET
def signsOf (x : Int) : Str := Txt.join (Str.ofString "") (modeChars x)
theorem sum_mod_le : ∀ l : List Int, 0 ≤ (l.map fun k => k.fmod 1000000).sum ∧ (l.map fun k => k.fmod 1000000).sum ≤ 1000000 * l.length
  | [] => ⟨by decide, by decide⟩
  | k :: r => by
    obtain ⟨h1, h2⟩ := sum_mod_le r
    have h3 : 0 ≤ k.fmod 1000000 := Int.fmod_nonneg_of_pos _ (by decide)
    have h4 : k.fmod 1000000 < 1000000 := Int.fmod_lt_of_pos _ (by decide)
    rw [List.map_cons, List.sum_cons, List.length_cons]
    omega
theorem mode_pos (l : List Int) : 0 ≤ 33261 + ((l.take 63).map fun k => k.fmod 1000000).sum := by
  have := (sum_mod_le (l.take 63)).1
  omega
theorem mode_lt (l : List Int) : 33261 + ((l.take 63).map fun k => k.fmod 1000000).sum < 1000000000 := by
  have := (sum_mod_le (l.take 63)).2
  have := List.length_take (i := 63) (l := l)
  omega
theorem signs_flat (x : Int) : signsOf x = txt (flat (modeChars x)) := by
  have e : Str.ofString "" = Str.empty := by decide +kernel
  unfold signsOf
  rw [e]
  exact join_flat _
/-- one sign, of the letters -/
def One (s : Str) : Prop := ∃ c ∈ LET, lets s = [c]
theorem one_all : ∀ s ∈ [Str.ofString "?", Str.ofString "-", Str.ofString "l", Str.ofString "s", Str.ofString "b", Str.ofString "d", Str.ofString "c", Str.ofString "p", Str.ofString "r", Str.ofString "w", Str.ofString "S", Str.ofString "x", Str.ofString "t", Str.ofString "T"], One s := by
  intro s hs
  have h : ∀ s ∈ [Str.ofString "?", Str.ofString "-", Str.ofString "l", Str.ofString "s", Str.ofString "b", Str.ofString "d", Str.ofString "c", Str.ofString "p", Str.ofString "r", Str.ofString "w", Str.ofString "S", Str.ofString "x", Str.ofString "t", Str.ofString "T"], ∃ c ∈ LET, s.cps.toList = [c] := by decide +kernel
  exact h s hs
theorem one_pick0 {m : Int} : ∀ {l : List (Int × Str)}, (∀ e ∈ l, One e.2) → One (pick0 m l)
  | [], _ => one_all _ (by simp [pick0])
  | (b, c) :: r, h => by
    unfold pick0
    split
    · exact h (b, c) (.head _)
    · exact one_pick0 fun e he => h e (.tail _ he)
theorem one_pickN {m : Int} : ∀ {l : List (Int × Str)}, (∀ e ∈ l, One e.2) → One (pickN m l)
  | [], _ => one_all _ (by simp [pickN])
  | (b, c) :: r, h => by
    unfold pickN
    split
    · exact h (b, c) (.head _)
    · exact one_pickN fun e he => h e (.tail _ he)
theorem one_mode (m : Int) : ∀ y ∈ modeChars m, One y := by
  intro y hy
  rcases List.mem_cons.mp hy with rfl | hy
  · exact one_pick0 fun e he => one_all _ ((by decide +kernel : ∀ e ∈ tab0, e.2 ∈ [Str.ofString "?", Str.ofString "-", Str.ofString "l", Str.ofString "s", Str.ofString "b", Str.ofString "d", Str.ofString "c", Str.ofString "p", Str.ofString "r", Str.ofString "w", Str.ofString "S", Str.ofString "x", Str.ofString "t", Str.ofString "T"]) e he)
  · obtain ⟨l, hl, rfl⟩ := List.mem_map.mp hy
    exact one_pickN fun e he => one_all _ ((by decide +kernel : ∀ l ∈ tabs, ∀ e ∈ l, e.2 ∈ [Str.ofString "?", Str.ofString "-", Str.ofString "l", Str.ofString "s", Str.ofString "b", Str.ofString "d", Str.ofString "c", Str.ofString "p", Str.ofString "r", Str.ofString "w", Str.ofString "S", Str.ofString "x", Str.ofString "t", Str.ofString "T"]) l hl e he)
theorem flat_ones : ∀ l : List Str, (∀ y ∈ l, One y) → (flat l).length = l.length ∧ ∀ c ∈ flat l, c ∈ LET
  | [], _ => ⟨rfl, fun _ h => nomatch h⟩
  | y :: r, h => by
    obtain ⟨c, hc, e⟩ := h y (.head _)
    obtain ⟨h1, h2⟩ := flat_ones r fun y hy => h y (.tail _ hy)
    have e2 : flat (y :: r) = c :: flat r := by
      show lets y ++ flat r = _
      rw [e]
      rfl
    rw [e2]
    refine ⟨by rw [List.length_cons, List.length_cons, h1], fun d hd => ?_⟩
    rcases List.mem_cons.mp hd with rfl | hd
    · exact hc
    · exact h2 d hd
theorem signs_ok (x : Int) : SgOk (signsOf x) := by
  obtain ⟨h1, h2⟩ := flat_ones _ (one_mode x)
  rw [signs_flat]
  exact ⟨by rw [txt_len, h1]; rfl, h2⟩
/-! the signs by bits and by figures -/
theorem mask_iff (n m : Nat) : n &&& m = m ↔ ∀ i, m.testBit i = true → n.testBit i = true := by
  constructor
  · intro h i hi
    have := congrArg (fun k => Nat.testBit k i) h
    simp only [Nat.testBit_and, hi, Bool.and_true] at this
    exact this
  · intro h
    apply Nat.eq_of_testBit_eq
    intro i
    rw [Nat.testBit_and]
    cases hm : m.testBit i with
    | false => rw [Bool.and_false]
    | true => rw [h i hm]; rfl
theorem mask_bits (n : Nat) {m : Nat} {l : List Nat} (hm : m < 2 ^ 12) (hl : ∀ i, i < 12 → (m.testBit i = true ↔ i ∈ l)) (h12 : ∀ i ∈ l, i < 12) : n &&& m = m ↔ ∀ i ∈ l, n / 2 ^ i % 2 = 1 := by
  rw [mask_iff]
  constructor
  · intro h i hi
    have := h i ((hl i (h12 i hi)).mpr hi)
    rw [Nat.testBit_eq_decide_div_mod_eq] at this
    exact of_decide_eq_true this
  · intro h i hi
    have hlt : i < 12 := by
      refine Nat.lt_of_not_le fun hh => ?_
      rw [Nat.testBit_lt_two_pow (Nat.lt_of_lt_of_le hm (Nat.pow_le_pow_right (by decide) hh))] at hi
      cases hi
    rw [Nat.testBit_eq_decide_div_mod_eq]
    exact decide_eq_true (h i ((hl i hlt).mp hi))
theorem and_cast (n m : Nat) : bitAnd (n : Int) (m : Int) = ((n &&& m : Nat) : Int) := by
  unfold bitAnd
  rw [decide_eq_true (Int.natCast_nonneg n), decide_eq_true (Int.natCast_nonneg m)]
  rfl
theorem and_is (n m : Nat) : bitAnd (n : Int) (m : Int) = (m : Int) ↔ n &&& m = m := by
  rw [and_cast]
  exact ⟨fun h => Int.ofNat.inj h, fun h => congrArg _ h⟩
theorem bit1 (n k : Nat) (hk : k < 12) : bitAnd (n : Int) ((2 ^ k : Nat) : Int) = ((2 ^ k : Nat) : Int) ↔ n / 2 ^ k % 2 = 1 := by
  rw [and_is, mask_bits n (l := [k]) (Nat.pow_lt_pow_right (by decide) hk) (fun i _ => by
    rw [Nat.testBit_two_pow, List.mem_singleton]
    exact ⟨fun h => (of_decide_eq_true h).symm, fun h => decide_eq_true h.symm⟩) (fun i hi => by rw [List.mem_singleton.mp hi]; exact hk)]
  exact ⟨fun h => h k (.head _), fun h i hi => by rw [List.mem_singleton.mp hi]; exact h⟩
theorem bit2 (n j k : Nat) (m : Nat) (hm : m < 2 ^ 12) (hl : ∀ i, i < 12 → (m.testBit i = true ↔ i ∈ [j, k])) (hj : j < 12) (hk : k < 12) : bitAnd (n : Int) (m : Int) = (m : Int) ↔ n / 2 ^ j % 2 = 1 ∧ n / 2 ^ k % 2 = 1 := by
  rw [and_is, mask_bits n (l := [j, k]) hm hl (fun i hi => by
    rcases List.mem_cons.mp hi with rfl | hi
    · exact hj
    · rw [List.mem_singleton.mp hi]; exact hk)]
  constructor
  · intro h
    exact ⟨h j (.head _), h k (.tail _ (.head _))⟩
  · rintro ⟨h1, h2⟩ i hi
    rcases List.mem_cons.mp hi with rfl | hi
    · exact h1
    · rw [List.mem_singleton.mp hi]; exact h2
def pickV (v : Int) : List (Int × Str) → Str
  | [] => Str.ofString "?"
  | (b, c) :: r => if v = b then c else pickV v r
theorem pick0_V (m : Int) : ∀ l, pick0 m l = pickV (bitAnd m 61440) l
  | [] => rfl
  | (b, c) :: r => by
    unfold pick0 pickV
    rw [pick0_V m r]
theorem and_high (n : Nat) : n &&& 61440 = (n / 4096 % 16) * 4096 := by
  apply Nat.eq_of_testBit_eq
  intro i
  have e1 : (n / 4096 % 16 * 4096).testBit i = (decide (12 ≤ i) && (decide (i - 12 < 4) && n.testBit (i - 12 + 12))) := by
    have h1 := Nat.testBit_mul_two_pow (n / 4096 % 16) i 12
    rw [show (2 : Nat) ^ 12 = 4096 from rfl] at h1
    have h2 := Nat.testBit_mod_two_pow (n / 4096) 4 (i - 12)
    rw [show (2 : Nat) ^ 4 = 16 from rfl] at h2
    have h3 := Nat.testBit_div_two_pow (n := 12) n (i - 12)
    rw [show (2 : Nat) ^ 12 = 4096 from rfl] at h3
    rw [h1, h2, h3]
  rw [e1, Nat.testBit_and]
  have e2 : (61440 : Nat).testBit i = (decide (12 ≤ i) && decide (i - 12 < 4)) := by
    by_cases hi : i < 16
    · exact (by decide : ∀ i, i < 16 → (61440 : Nat).testBit i = (decide (12 ≤ i) && decide (i - 12 < 4))) i hi
    · rw [Nat.testBit_lt_two_pow (Nat.lt_of_lt_of_le (by decide : (61440 : Nat) < 2 ^ 16) (Nat.pow_le_pow_right (by decide) (by omega))), decide_eq_false (by omega : ¬ i - 12 < 4), Bool.and_false]
  rw [e2]
  by_cases h12 : 12 ≤ i
  · rw [show i - 12 + 12 = i by omega, decide_eq_true h12, Bool.true_and, Bool.true_and, Bool.and_comm]
  · rw [decide_eq_false h12]
    simp
theorem fdiv_nat (n m : Nat) (hm : 0 < m) : (n : Int).fdiv (m : Int) = ((n / m : Nat) : Int) := by
  rw [PyProof.Rows.fdiv_eq _ (by omega)]
  exact (Int.natCast_ediv n m).symm
theorem fmod_nat (n m : Nat) (hm : 0 < m) : (n : Int).fmod (m : Int) = ((n % m : Nat) : Int) := by
  rw [PyProof.Rows.fmod_eq _ (by omega)]
  exact (Int.natCast_emod n m).symm
theorem row0_is (n : Nat) : row0 (n : Int) = pick0 (n : Int) tab0 := by
  have hq : n / 4096 % 16 < 16 := Nat.mod_lt _ (by decide)
  have e1 : ((n : Int).fdiv 4096).fmod 16 = ((n / 4096 % 16 : Nat) : Int) := by
    rw [show (4096 : Int) = ((4096 : Nat) : Int) from rfl, show (16 : Int) = ((16 : Nat) : Int) from rfl, fdiv_nat _ _ (by decide), fmod_nat _ _ (by decide)]
  unfold row0
  rw [e1, pick0_V, show (61440 : Int) = ((61440 : Nat) : Int) from rfl, and_cast, and_high]
  generalize n / 4096 % 16 = q at hq
  exact (by decide +kernel : ∀ q : Nat, q < 16 → Txt.item (Str.ofString "?pc?d?b?-?l?s???") (q : Int) = pickV ((q * 4096 : Nat) : Int) tab0) q hq
theorem ifi {α : Type} {p q : Prop} [Decidable p] [Decidable q] {a b c d : α} (h : p ↔ q) (h1 : a = c) (h2 : b = d) : (if p then a else b) = if q then c else d := by
  subst h1 h2
  by_cases hp : p
  · rw [if_pos hp, if_pos (h.mp hp)]
  · rw [if_neg hp, if_neg fun hq => hp (h.mpr hq)]
/-- the last of three signs -/
def third (s t : Nat) (ends : Str) : Str := if s = 1 then Txt.item ends (t : Int) else Txt.item (Str.ofString "-x") (t : Int)
theorem pickN_one {m b : Int} {c : Str} : pickN m [(b, c)] = if bitAnd m b = b then c else Str.ofString "-" := rfl
theorem pickN_three {m b1 b2 b3 : Int} {c1 c2 c3 : Str} : pickN m [(b1, c1), (b2, c2), (b3, c3)] = if bitAnd m b1 = b1 then c1 else if bitAnd m b2 = b2 then c2 else if bitAnd m b3 = b3 then c3 else Str.ofString "-" := rfl
theorem part_is (n : Nat) (j k : Nat) (hj : j + 2 < 12) (hk : k < 12) (m : Nat) (hm : m < 2 ^ 12) (hl : ∀ i, i < 12 → (m.testBit i = true ↔ i ∈ [k, j])) (c1 c2 ends : Str)
    (hall : ∀ a : Nat, a < 2 → ∀ b : Nat, b < 2 → ∀ c : Nat, c < 2 → ∀ s : Nat, s < 2 → lets (if a = 1 then Str.ofString "r" else Str.ofString "-") ++ (lets (if b = 1 then Str.ofString "w" else Str.ofString "-") ++ lets (if s = 1 ∧ c = 1 then c1 else if s = 1 then c2 else if c = 1 then Str.ofString "x" else Str.ofString "-"))
      = lets (rw2 ((4 * a + 2 * b + c : Nat) : Int)) ++ lets (third s c ends)) :
    lets (pickN (n : Int) [(((2 ^ (j + 2) : Nat) : Int), Str.ofString "r")]) ++ (lets (pickN (n : Int) [(((2 ^ (j + 1) : Nat) : Int), Str.ofString "w")]) ++ lets (pickN (n : Int) [((m : Int), c1), (((2 ^ k : Nat) : Int), c2), (((2 ^ j : Nat) : Int), Str.ofString "x")])) =
      lets (rw2 ((n / 2 ^ j % 8 : Nat) : Int)) ++ lets (third (n / 2 ^ k % 2) (n / 2 ^ j % 8 % 2) ends) := by
  rw [pickN_one, pickN_one, pickN_three]
  have h1 : n / 2 ^ (j + 2) % 2 = n / 2 ^ j / 4 % 2 := by rw [Nat.pow_add, Nat.div_div_eq_div_mul]
  have h2 : n / 2 ^ (j + 1) % 2 = n / 2 ^ j / 2 % 2 := by rw [Nat.pow_add, Nat.div_div_eq_div_mul]
  have e := hall (n / 2 ^ (j + 2) % 2) (Nat.mod_lt _ (by decide)) (n / 2 ^ (j + 1) % 2) (Nat.mod_lt _ (by decide)) (n / 2 ^ j % 2) (Nat.mod_lt _ (by decide)) (n / 2 ^ k % 2) (Nat.mod_lt _ (by decide))
  have e8 : 4 * (n / 2 ^ (j + 2) % 2) + 2 * (n / 2 ^ (j + 1) % 2) + n / 2 ^ j % 2 = n / 2 ^ j % 8 := by
    rw [h1, h2]
    generalize n / 2 ^ j = y
    omega
  have e2 : n / 2 ^ j % 8 % 2 = n / 2 ^ j % 2 := by
    generalize n / 2 ^ j = y
    omega
  rw [e8] at e
  rw [e2, ← e]
  congr 1
  · congr 1
    exact ifi (bit1 n (j + 2) hj) rfl rfl
  · congr 1
    · congr 1
      exact ifi (bit1 n (j + 1) (by omega)) rfl rfl
    · congr 1
      exact ifi (bit2 n k j m hm hl hk (by omega)) rfl (ifi (bit1 n k hk) rfl (ifi (bit1 n j (by omega)) rfl rfl))
theorem lets_app (a b : Str) : lets (a ++ b) = lets a ++ lets b := by
  show (a.cps ++ b.cps).toList = _
  rw [Array.toList_append]
  rfl
theorem step_lets (n f a : Nat) (hf : 0 < f) (ha : 0 < a) (r e : Str) : lets (rowStep (n : Int) r (f : Int) (a : Int) e) = lets r ++ (lets (rw2 ((n / f % 8 : Nat) : Int)) ++ lets (third (n / a % 2) (n / f % 8 % 2) e)) := by
  have e1 : ((n : Int).fdiv (f : Int)).fmod 8 = ((n / f % 8 : Nat) : Int) := by
    rw [fdiv_nat _ _ hf, show (8 : Int) = ((8 : Nat) : Int) from rfl, fmod_nat _ _ (by decide)]
  have e2 : ((n : Int).fdiv (a : Int)).fmod 2 = ((n / a % 2 : Nat) : Int) := by
    rw [fdiv_nat _ _ ha, show (2 : Int) = ((2 : Nat) : Int) from rfl, fmod_nat _ _ (by decide)]
  have e3 : (((n / f % 8 : Nat) : Int)).fmod 2 = ((n / f % 8 % 2 : Nat) : Int) := by
    rw [show (2 : Int) = ((2 : Nat) : Int) from rfl, fmod_nat _ _ (by decide)]
  unfold rowStep third
  rw [e1, e2, e3, lets_app, lets_app, List.append_assoc]
  congr 2
  congr 1
  exact ifi ⟨fun h => Int.ofNat.inj h, fun h => congrArg _ h⟩ rfl rfl
theorem row_nat (n : Nat) : rowOf (n : Int) 3 = signsOf (n : Int) := by
  have h1 := part_is n 6 11 (by decide) (by decide) 2112 (by decide) (by decide) (Str.ofString "s") (Str.ofString "S") (Str.ofString "Ss") (by decide +kernel)
  have h2 := part_is n 3 10 (by decide) (by decide) 1032 (by decide) (by decide) (Str.ofString "s") (Str.ofString "S") (Str.ofString "Ss") (by decide +kernel)
  have h3 := part_is n 0 9 (by decide) (by decide) 513 (by decide) (by decide) (Str.ofString "t") (Str.ofString "T") (Str.ofString "Tt") (by decide +kernel)
  have s1 : lets (rowOf (n : Int) 3) = lets (row0 (n : Int)) ++ (lets (rw2 ((n / 64 % 8 : Nat) : Int)) ++ lets (third (n / 2048 % 2) (n / 64 % 8 % 2) (Str.ofString "Ss")))
      ++ (lets (rw2 ((n / 8 % 8 : Nat) : Int)) ++ lets (third (n / 1024 % 2) (n / 8 % 8 % 2) (Str.ofString "Ss"))) ++ (lets (rw2 ((n / 1 % 8 : Nat) : Int)) ++ lets (third (n / 512 % 2) (n / 1 % 8 % 2) (Str.ofString "Tt"))) := by
    have a1 := step_lets n 64 2048 (by decide) (by decide) (row0 (n : Int)) (Str.ofString "Ss")
    have a2 := step_lets n 8 1024 (by decide) (by decide) (rowStep (n : Int) (row0 (n : Int)) 64 2048 (Str.ofString "Ss")) (Str.ofString "Ss")
    have a3 := step_lets n 1 512 (by decide) (by decide) (rowStep (n : Int) (rowStep (n : Int) (row0 (n : Int)) 64 2048 (Str.ofString "Ss")) 8 1024 (Str.ofString "Ss")) (Str.ofString "Tt")
    exact a3.trans (congrArg (· ++ _) (a2.trans (congrArg (· ++ _) a1)))
  have s2 : flat (modeChars (n : Int)) = lets (pick0 (n : Int) tab0) ++ ((lets (pickN (n : Int) [(((2 ^ (6 + 2) : Nat) : Int), Str.ofString "r")]) ++ (lets (pickN (n : Int) [(((2 ^ (6 + 1) : Nat) : Int), Str.ofString "w")]) ++ lets (pickN (n : Int) [((2112 : Nat), Str.ofString "s"), (((2 ^ 11 : Nat) : Int), Str.ofString "S"), (((2 ^ 6 : Nat) : Int), Str.ofString "x")])))
      ++ ((lets (pickN (n : Int) [(((2 ^ (3 + 2) : Nat) : Int), Str.ofString "r")]) ++ (lets (pickN (n : Int) [(((2 ^ (3 + 1) : Nat) : Int), Str.ofString "w")]) ++ lets (pickN (n : Int) [((1032 : Nat), Str.ofString "s"), (((2 ^ 10 : Nat) : Int), Str.ofString "S"), (((2 ^ 3 : Nat) : Int), Str.ofString "x")])))
      ++ (lets (pickN (n : Int) [(((2 ^ (0 + 2) : Nat) : Int), Str.ofString "r")]) ++ (lets (pickN (n : Int) [(((2 ^ (0 + 1) : Nat) : Int), Str.ofString "w")]) ++ lets (pickN (n : Int) [((513 : Nat), Str.ofString "t"), (((2 ^ 9 : Nat) : Int), Str.ofString "T"), (((2 ^ 0 : Nat) : Int), Str.ofString "x")]))))) := by
    simp only [List.append_assoc]
    show lets (pick0 (n : Int) tab0) ++ (lets _ ++ (lets _ ++ (lets _ ++ (lets _ ++ (lets _ ++ (lets _ ++ (lets _ ++ (lets _ ++ (lets _ ++ []))))))))) = _
    rw [List.append_nil]
    rfl
  have key : lets (rowOf (n : Int) 3) = flat (modeChars (n : Int)) := by
    rw [s1, s2, h1, h2, h3, row0_is]
    simp only [List.append_assoc]
  rw [signs_flat, ← key]
  rfl
theorem row_is (x : Int) (h0 : 0 ≤ x) (_ : x < 1000000000) : rowOf x 3 = signsOf x := by
  obtain ⟨n, rfl⟩ := Int.eq_ofNat_of_zero_le h0
  exact row_nat n
end
/-! ## PA -/
section
open PySem.Builtin PySem.Builtin.Str PySem.StrLaws
def rowAt (sg : Str) (k : Int) : Str := if (Txt.item sg k == Str.ofString "-") = true then Str.ofString "." else Txt.item sg k ++ Str.ofString (toString k)
def sepOf (k : Int) : Str := if k.fmod 3 = 0 then Str.ofString "\n" else if k.fmod 3 = 1 then Str.ofString "\r" else Str.ofString "\r\n"
def mailN (sg : Str) (S : Int) : Nat → Str
  | 0 => Str.ofString ""
  | n + 1 => mailN sg S n ++ (rowAt sg n ++ sepOf (S + n))
def sentRow (sg : Str) (k : Int) : Str := if (rowAt sg k == Str.ofString ".") = true then Str.ofString ".." else rowAt sg k
def sentText (sg : Str) : Str := Txt.join Str.empty ((rangeKs 0 10).map fun k => sentRow sg k ++ Str.ofString "\r\n")
def sents (sg : Str) : List Str := (rangeKs 0 10).map (sentRow sg)
/-! the same by signs -/
def rowL (c k : Nat) : List Nat := if c = 45 then [46] else [c, 48 + k]
def sepL (k : Int) : List Nat := if k.fmod 3 = 0 then [10] else if k.fmod 3 = 1 then [13] else [13, 10]
def sgn (sg : Str) (k : Nat) : Nat := (lets sg).getD k 0
theorem item_at (sg : Str) (k : Nat) (hk : k < sg.length) : Txt.item sg (k : Int) = txt [sgn sg k] := by
  have hs : seqIndex? (k : Int) sg.length = some k := by
    unfold seqIndex?
    simp only [show ¬ ((k : Int) < 0) by omega, if_false]
    rw [if_pos (by rw [Bool.and_eq_true, decide_eq_true_eq, decide_eq_true_eq]; omega)]
    simp
  unfold Txt.item Txt.charAt
  rw [hs]
  have hk' : k < sg.cps.size := hk
  show (⟨#[(sg.cps[k]?).getD 0]⟩ : Str) = ⟨#[(sg.cps.toList).getD k 0]⟩
  rw [List.getD_eq_getElem?_getD, Array.getElem?_toList]
theorem sgn_let {sg : Str} (h : SgOk sg) {k : Nat} (hk : k < 10) : sgn sg k ∈ LET := by
  apply h.2
  have : k < (lets sg).length := by rw [lets_len, h.1]; exact hk
  unfold sgn
  rw [List.getD_eq_getElem?_getD, List.getElem?_eq_getElem this]
  exact List.getElem_mem this
theorem digit_is : ∀ k, k < 10 → Str.ofString (toString ((k : Nat) : Int)) = txt [48 + k] := by decide +kernel
theorem row_at {sg : Str} (h : SgOk sg) {k : Nat} (hk : k < 10) : rowAt sg (k : Int) = txt (rowL (sgn sg k) k) := by
  have hm : Str.ofString "-" = txt [45] := by decide +kernel
  have hd : Str.ofString "." = txt [46] := by decide +kernel
  unfold rowAt rowL
  rw [item_at sg k (by rw [h.1]; exact hk), hm, digit_is k hk, hd]
  by_cases hc : sgn sg k = 45
  · rw [if_pos hc, if_pos (by rw [hc]; exact beq_self_eq_true _)]
  · rw [if_neg hc, if_neg (fun e => hc (by have := txt_inj (eq_of_beq e); exact (List.cons.inj this).1)), txt_app]
    rfl
theorem sep_is (k : Int) : sepOf k = txt (sepL k) := by
  unfold sepOf sepL
  split
  · decide +kernel
  · split <;> decide +kernel
def pairsTo (sg : Str) (S : Int) (n : Nat) : List (List Nat × List Nat) := (List.range n).map fun k => (rowL (sgn sg k) k, sepL (S + k))
theorem mail_is {sg : Str} (h : SgOk sg) (S : Int) : ∀ n, n ≤ 10 → mailN sg S n = txt (glue (pairsTo sg S n))
  | 0, _ => by show Str.ofString "" = txt []; decide +kernel
  | n + 1, hn => by
    show mailN sg S n ++ (rowAt sg n ++ sepOf (S + n)) = _
    rw [mail_is h S n (by omega), row_at h (by omega), sep_is, txt_app, txt_app]
    congr 1
    unfold pairsTo glue
    rw [List.range_succ, List.map_append, List.flatMap_append]
    simp
theorem row_facts : ∀ c ∈ LET, ∀ k, k < 10 → RowFree (rowL c k) ∧ (rowL c k).length ≤ 2 ∧ (rowL c k = [46] ∨ 46 ∉ rowL c k) ∧ 13 ∉ dotL (rowL c k) ∧ RowOk (txt (dotL (rowL c k))) := by
  unfold RowFree RowOk NmS Nm
  decide +kernel
theorem sep_ok (k : Int) : SepOk (sepL k) := by
  unfold sepL SepOk
  split
  · exact .inl rfl
  · split
    · exact .inr (.inl rfl)
    · exact .inr (.inr rfl)
theorem glue_len : ∀ pairs : List (List Nat × List Nat), (∀ p ∈ pairs, p.1.length ≤ 2 ∧ SepOk p.2) → (glue pairs).length ≤ 4 * pairs.length
  | [], _ => Nat.le_refl _
  | p :: r, h => by
    obtain ⟨h1, h2⟩ := h p (.head _)
    have ih := glue_len r fun q hq => h q (.tail _ hq)
    have h3 : p.2.length ≤ 2 := by rcases h2 with e | e | e <;> rw [e] <;> decide
    show ((p.1 ++ p.2) ++ glue r).length ≤ _
    rw [List.length_append, List.length_append, List.length_cons]
    omega
theorem pairs_ok {sg : Str} (h : SgOk sg) (S : Int) : ∀ p ∈ pairsTo sg S 10, RowFree p.1 ∧ SepOk p.2 ∧ p.1.length ≤ 2 := by
  intro p hp
  obtain ⟨k, hk, rfl⟩ := List.mem_map.mp hp
  have hk := List.mem_range.mp hk
  have := row_facts _ (sgn_let h hk) k hk
  exact ⟨this.1, sep_ok _, this.2.1⟩
theorem txt_size (l : List Nat) : (txt l).cps.size = l.length := by simp [txt]
theorem mail_size {sg : Str} (h : SgOk sg) (S : Int) : 0 < (mailN sg S 10).cps.size ∧ (mailN sg S 10).cps.size ≤ 500 := by
  have hl := glue_len (pairsTo sg S 10) fun p hp => ⟨(pairs_ok h S p hp).2.2, (pairs_ok h S p hp).2.1⟩
  have hn : (pairsTo sg S 10).length = 10 := by simp [pairsTo]
  rw [mail_is h S 10 (Nat.le_refl _), txt_size]
  refine ⟨?_, by omega⟩
  have h0 := (row_facts _ (sgn_let h (k := 0) (by decide)) 0 (by decide)).1.1
  have e : glue (pairsTo sg S 10) = rowL (sgn sg 0) 0 ++ (sepL (S + (0 : Nat)) ++ glue ((List.range' 1 9).map fun k => (rowL (sgn sg k) k, sepL (S + k)))) := by
    unfold glue pairsTo
    rw [show List.range 10 = 0 :: List.range' 1 9 from rfl, List.map_cons, List.flatMap_cons, List.append_assoc]
  rw [e, List.length_append]
  have := List.length_pos_iff.mpr h0
  omega
def rowsL (sg : Str) : List (List Nat) := (List.range 10).map fun k => rowL (sgn sg k) k
theorem q1_is {sg : Str} (h : SgOk sg) (S : Int) : quoted1 (mailN sg S 10) = txt ((rowsL sg).flatMap (· ++ [13, 10])) := by
  rw [mail_is h S 10 (Nat.le_refl _), quoted1_is _ fun p hp => ⟨(pairs_ok h S p hp).1, (pairs_ok h S p hp).2.1⟩]
  congr 1
theorem flat_len : ∀ rows : List (List Nat), (∀ r ∈ rows, r.length ≤ 2) → (rows.flatMap (· ++ [13, 10])).length ≤ 4 * rows.length ∧ 2 * rows.length ≤ (rows.flatMap (· ++ [13, 10])).length
  | [], _ => ⟨Nat.le_refl _, Nat.le_refl _⟩
  | r :: rs, h => by
    have h1 := h r (.head _)
    obtain ⟨h2, h3⟩ := flat_len rs fun q hq => h q (.tail _ hq)
    have e : ((r :: rs).flatMap (· ++ [13, 10])).length = r.length + 2 + (rs.flatMap (· ++ [13, 10])).length := by
      rw [List.flatMap_cons, List.length_append, List.length_append]
      rfl
    rw [e, List.length_cons]
    omega
theorem rows_facts {sg : Str} (h : SgOk sg) : ∀ r ∈ rowsL sg, r.length ≤ 2 ∧ (r = [46] ∨ 46 ∉ r) ∧ 13 ∉ dotL r ∧ RowOk (txt (dotL r)) := by
  intro r hr
  obtain ⟨k, hk, rfl⟩ := List.mem_map.mp hr
  have hk := List.mem_range.mp hk
  have := row_facts _ (sgn_let h hk) k hk
  exact ⟨this.2.1, this.2.2.1, this.2.2.2.1, this.2.2.2.2⟩
theorem quoted_size {sg : Str} (h : SgOk sg) (S : Int) : 0 < (quoted1 (mailN sg S 10)).cps.size ∧ (quoted1 (mailN sg S 10)).cps.size ≤ 500 := by
  rw [q1_is h S, txt_size]
  have hl := flat_len (rowsL sg) fun r hr => (rows_facts h r hr).1
  have hn : (rowsL sg).length = 10 := by simp [rowsL]
  omega
theorem sent_row {sg : Str} (h : SgOk sg) {k : Nat} (hk : k < 10) : sentRow sg (k : Int) = txt (dotL (rowL (sgn sg k) k)) := by
  have hd : Str.ofString "." = txt [46] := by decide +kernel
  have hdd : Str.ofString ".." = txt [46, 46] := by decide +kernel
  unfold sentRow dotL
  rw [row_at h hk, hd, hdd]
  by_cases he : rowL (sgn sg k) k = [46]
  · rw [if_pos he, if_pos (by rw [he]; exact beq_self_eq_true _)]
  · rw [if_neg he, if_neg (fun e => he (txt_inj (eq_of_beq e)))]
theorem sents_is {sg : Str} (h : SgOk sg) : sents sg = ((rowsL sg).map dotL).map txt := by
  unfold sents rowsL rangeKs
  rw [List.map_map, List.map_map, List.map_map]
  refine List.map_congr_left fun k hk => ?_
  have hk := List.mem_range.mp hk
  show sentRow sg (0 + (k : Int)) = _
  rw [Int.zero_add]
  exact sent_row h hk
theorem sent_is {sg : Str} (h : SgOk sg) : sentText sg = txt (((rowsL sg).map dotL).flatMap (· ++ [13, 10])) := by
  have hc : Str.ofString "\r\n" = txt [13, 10] := by decide +kernel
  unfold sentText
  rw [join_flat]
  congr 1
  have e : (rangeKs 0 10).map (fun k => sentRow sg k ++ Str.ofString "\r\n") = (sents sg).map (· ++ txt [13, 10]) := by
    unfold sents
    rw [List.map_map, hc]
    rfl
  rw [e, sents_is h]
  unfold flat
  rw [List.flatMap_map, List.flatMap_map]
  simp only [lets_app]
  rfl
theorem quoted_is {sg : Str} (h : SgOk sg) (S : Int) : quoted2 (quoted1 (mailN sg S 10)) = sentText sg := by
  rw [q1_is h S, quoted2_is _ fun r hr => (rows_facts h r hr).2.1, sent_is h, List.flatMap_map]
theorem sent_split {sg : Str} (h : SgOk sg) : Txt.split (sentText sg) (Str.ofString "\r\n") = sents sg ++ [Str.ofString ""] := by
  have hc : Str.ofString "\r\n" = txt [13, 10] := by decide +kernel
  have he : Str.ofString "" = txt [] := by decide +kernel
  rw [sent_is h, hc, split_go _ _ (by rw [txt_len]; decide) (kind_one (by decide +kernel)), sents_is h, he]
  have := go_rows (c := 13) (y := [10]) ((rowsL sg).map dotL) (fun r hr => by
    obtain ⟨q, hq, rfl⟩ := List.mem_map.mp hr
    exact (rows_facts h q hq).2.2.1)
  show (splitGo [13, 10] 0 [] (((rowsL sg).map dotL).flatMap (· ++ [13, 10]))).map txt = _
  rw [this, List.map_append]
  rfl
theorem dot_len (r : List Nat) (h : r.length ≤ 2) : (dotL r).length ≤ 2 := by
  unfold dotL
  split
  · exact Nat.le_refl _
  · exact h
theorem sent_len {sg : Str} (h : SgOk sg) : (sentText sg).length ≤ 500 := by
  rw [sent_is h, txt_len]
  have hl := (flat_len ((rowsL sg).map dotL) fun r hr => by
    obtain ⟨q, hq, rfl⟩ := List.mem_map.mp hr
    exact dot_len q (rows_facts h q hq).1).1
  have hn : ((rowsL sg).map dotL).length = 10 := by simp [rowsL]
  omega
theorem sents_rows {sg : Str} (h : SgOk sg) : RowsOk (sents sg) := by
  rw [sents_is h]
  refine ⟨by simp [rowsL], fun r hr => ?_⟩
  rw [List.map_map] at hr
  obtain ⟨q, hq, rfl⟩ := List.mem_map.mp hr
  exact (rows_facts h q hq).2.2.2
theorem sents_ok {sg : Str} (h : SgOk sg) : ∀ r ∈ sents sg ++ [Str.ofString ""], PyData.strOk r = true := by
  intro r hr
  rcases List.mem_append.mp hr with hr | hr
  · exact ((sents_rows h).2 r hr).2.2.2
  · rw [List.mem_singleton.mp hr]; decide +kernel
theorem rowAt_len {sg : Str} (h : SgOk sg) {k : Int} (h0 : 0 ≤ k) (h1 : k < 10) : (rowAt sg k).length ≤ 20 := by
  obtain ⟨n, rfl⟩ := Int.eq_ofNat_of_zero_le h0
  have hn : n < 10 := by omega
  rw [show ((n : Nat) : Int) = Int.ofNat n from rfl] at *
  have := row_at h hn
  rw [show (Int.ofNat n) = ((n : Nat) : Int) from rfl, this, txt_len]
  exact Nat.le_trans (row_facts _ (sgn_let h hn) n hn).2.1 (by decide)
end
/-! ## PC -/
section
/-- a step of the walk over codes: 0 a hyphen's two dots, k + 1 the name of place k; the names lie in reverse -/
def wst (ns : List Nat) : Nat → List Nat
  | 0 => match ns with
    | (_ + 1) :: t => t
    | _ => 0 :: ns
  | k + 1 => (k + 1) :: ns
def codesFrom : Nat → List Bool → List Nat
  | _, [] => []
  | k, true :: r => (k + 1) :: codesFrom (k + 1) r
  | k, false :: r => 0 :: codesFrom (k + 1) r
def walkA (a : List Nat) : List Nat → List Nat
  | ns => match a with
    | [] => ns
    | c :: r => walkA r (wst ns c)
def turnA (a : List Nat) (t : Nat) : List Nat := a.drop t ++ a.take t
def namesA (a : List Nat) (t : Nat) : List Nat := (walkA (turnA a t) []).reverse
def goodA (a : List Nat) (t : Nat) : Bool := match namesA a t, turnA a t with
  | n :: _, m :: _ => Nat.beq n m && !Nat.beq m 0
  | _, _ => false
def firstsA (a : List Nat) : List Nat := ((List.range 10).filter (goodA a)).map fun t => t + 1
def eqL : List Nat → List Nat → Bool
  | [], [] => true
  | a :: r, b :: s => Nat.beq a b && eqL r s
  | _, _ => false
def heldA : List Bool → Nat
  | [] => 0
  | true :: r => heldA r + 1
  | false :: r => heldA r
def okTurn (a fs : List Nat) (t : Nat) : Bool := match goodA a t with
  | true => eqL (namesA a t) (fs.filter (fun c => Nat.blt t c) ++ fs.filter (fun c => !Nat.blt t c))
  | false => true
def okPat (v : List Bool) : Bool := Nat.beq (firstsA (codesFrom 0 v)).length (2 * heldA v - 10) && (List.range 10).all (okTurn (codesFrom 0 v) (firstsA (codesFrom 0 v)))
def allPats : Nat → List (List Bool)
  | 0 => [[]]
  | n + 1 => (allPats n).map (true :: ·) ++ (allPats n).map (false :: ·)
theorem mem_pats : ∀ v : List Bool, v ∈ allPats v.length
  | [] => .head _
  | true :: r => List.mem_append_left _ (List.mem_map.mpr ⟨r, mem_pats r, rfl⟩)
  | false :: r => List.mem_append_right _ (List.mem_map.mpr ⟨r, mem_pats r, rfl⟩)
theorem pats_0 : (allPats 7).all (fun q => okPat (true :: true :: true :: q)) = true := by decide +kernel
theorem pats_1 : (allPats 7).all (fun q => okPat (true :: true :: false :: q)) = true := by decide +kernel
theorem pats_2 : (allPats 7).all (fun q => okPat (true :: false :: true :: q)) = true := by decide +kernel
theorem pats_3 : (allPats 7).all (fun q => okPat (true :: false :: false :: q)) = true := by decide +kernel
theorem pats_4 : (allPats 7).all (fun q => okPat (false :: true :: true :: q)) = true := by decide +kernel
theorem pats_5 : (allPats 7).all (fun q => okPat (false :: true :: false :: q)) = true := by decide +kernel
theorem pats_6 : (allPats 7).all (fun q => okPat (false :: false :: true :: q)) = true := by decide +kernel
theorem pats_7 : (allPats 7).all (fun q => okPat (false :: false :: false :: q)) = true := by decide +kernel
theorem pat_ok (v : List Bool) (h : v.length = 10) : okPat v = true := by
  match v, h with
  | b0 :: b1 :: b2 :: q, h =>
    have hq : q.length = 7 := by simpa using h
    have hm := mem_pats q
    rw [hq] at hm
    cases b0 <;> cases b1 <;> cases b2
    · exact List.all_eq_true.mp pats_7 q hm
    · exact List.all_eq_true.mp pats_6 q hm
    · exact List.all_eq_true.mp pats_5 q hm
    · exact List.all_eq_true.mp pats_4 q hm
    · exact List.all_eq_true.mp pats_3 q hm
    · exact List.all_eq_true.mp pats_2 q hm
    · exact List.all_eq_true.mp pats_1 q hm
    · exact List.all_eq_true.mp pats_0 q hm
end
/-! ## BC -/
section
open PyProof.Rows LCg LCt
section
variable {prog : Program} {w : World} {A : Around} {E : Value → Shared → Prop} {s : Shared} {h₀ : Heap} {L : Addr} {m : Str → Option Value} {env : Env}
theorem iter_live {I : Addr} {ty : String} {x : Str} {t : Tok} (i : Nat) (h : Heap) (st : h.IsStrIter I ty x t i) : ∃ o, h.get? I = some o := let ⟨o, ho, _⟩ := st; ⟨o, ho⟩
theorem iter_st {I : Addr} {ty : String} {x : Str} {t : Tok} (i : Nat) (h h' : Heap) (o : Obj) (nw : List (Addr × Obj)) (st : h.IsStrIter I ty x t i) (e : h.get? I = some o) (e' : h'.get? I = some o) (_ : ∀ b o, h₀.get? b = some o → h'.get? b = some o) (_ : News h₀ L h' nw) (_ : True) : h'.IsStrIter I ty x t i := by
  obtain ⟨o', q, r⟩ := st
  rw [e] at q
  cases q
  exact ⟨o, e', r⟩
/-- a comprehension with one test over the signs of a text -/
theorem ListComp_S {ct elt iter : Expr} {x : Str} {px : Pos} {scope : Scope} {cl : List (Str × Addr)} {pos : Pos} {Q : Value → Shared → Prop} (F₀ : Fr h₀ L s.heap m)
    (hclos : closureFor scope env = pure cl) (hcell : ∀ y ∈ scope.names, y.2 ≠ .cell) (hkind : scope.kind = .function)
    (hnames : ∀ y ∈ scope.names, y.2 = .local → scope.names.lookup y.1 = some .local) (hx : scope.names.lookup x = some .local)
    (h : wpAny (model prog w) A (eval iter env) (fun xv s₁ => Stop (∃ y t news, xv = .str y t ∧ A.handled = none ∧ Fr h₀ L s₁.heap m ∧ News h₀ L s₁.heap news ∧ y.cps.size ≤ sizeLine ∧
      ∀ s₂ : Shared, (∃ h, s₂ = { s₁ with heap := h }) → CompRestT prog w A h₀ L m env ct elt x scope cl s₂ (fun _ => True) (SignAt y) (FinE h₀ L m s₂ Q) y.cps.size 0 [] news)) E s)
    (hs : ∀ x, foldedSetIterable iter env x = pure x := by intro _; rfl) :
    wpAny (model prog w) A (eval (.ListComp elt [⟨.Name x px, iter, [ct], 0⟩] scope pos) env) Q E s := by
  rw [eval_ListComp]
  refine wpAny_comprehension_free (use := none) rfl hs hclos hkind hnames (wpAny_mono h (fun xv s₁ h₁ => ?_) fun _ _ e => e)
  obtain ⟨y, t, news, rfl, hh, F, N, hsz, R⟩ := h₁
  cases ha : y.cps.all (· < 128)
  · refine wpAny_pyIter_wide ha ?_
    refine block_T (Walks.strWide hh _ y t) hsz iter_live iter_st hcell hkind hx ⟨_, Heap.get?_push_size _ rfl, rfl, rfl⟩ (fun b hb => ?_)
      (F.keeps fun _ _ e => Heap.get?_push_of_some _ e) (N.grown fun _ _ e => Heap.get?_push_of_some _ e) (Nat.ne_of_lt F.ns.lt) (next_is_new F) (fun p hp => Nat.ne_of_lt (Heap.lt_size (N p hp).1)) trivial (R _ ⟨_, rfl⟩) ?_
    · rw [List.mem_singleton.mp hb]
      show s₁.heap.objs.size < (s₁.heap.push _).objs.size
      rw [Heap.size_push]; exact Nat.lt_succ_self _
    · intro D C h tk m' ys news' F' N' o1 hn hC₀ hD₀ hCL hDL hCD offC fin
      refine ⟨m', hn, fun h'' hs'' => fin D h'' tk (F'.change hs'' hCL hC₀) (fun p hp => ?_) o1⟩
      refine ⟨hs''.extBut _ _ ?_ (N' p hp).1, (N' p hp).2⟩
      rcases List.mem_cons.mp hp with rfl | hp
      · exact Ne.symm hCD
      · exact offC p hp
  · refine wpAny_pyIter_ascii ha ?_
    refine block_T (Walks.strAscii hh _ y t) hsz iter_live iter_st hcell hkind hx ⟨_, Heap.get?_push_size _ rfl, rfl, rfl⟩ (fun b hb => ?_)
      (F.keeps fun _ _ e => Heap.get?_push_of_some _ e) (N.grown fun _ _ e => Heap.get?_push_of_some _ e) (Nat.ne_of_lt F.ns.lt) (next_is_new F) (fun p hp => Nat.ne_of_lt (Heap.lt_size (N p hp).1)) trivial (R _ ⟨_, rfl⟩) ?_
    · rw [List.mem_singleton.mp hb]
      show s₁.heap.objs.size < (s₁.heap.push _).objs.size
      rw [Heap.size_push]; exact Nat.lt_succ_self _
    · intro D C h tk m' ys news' F' N' o1 hn hC₀ hD₀ hCL hDL hCD offC fin
      refine ⟨m', hn, fun h'' hs'' => fin D h'' tk (F'.change hs'' hCL hC₀) (fun p hp => ?_) o1⟩
      refine ⟨hs''.extBut _ _ ?_ (N' p hp).1, (N' p hp).2⟩
      rcases List.mem_cons.mp hp with rfl | hp
      · exact Ne.symm hCD
      · exact offC p hp
end
/-- what a turn of the signs' comprehension leaves -/
def SgnEl (news : List (Addr × Obj)) (held : Bool) (c : Nat) (news' : List (Addr × Obj)) : Prop := news' = news ∧ (c != 45) = held
def heldOf (y : Str) : Nat := (y.cps.toList.filter (· != 45)).length
section
variable {prog : Program} {w : World} {A : Around} {h₀ : Heap} {L : Addr} {m : Str → Option Value} {env : Env} {ct elt : Expr} {x : Str} {scope : Scope} {cl : List (Str × Addr)} {s : Shared} {S : List (Addr × Obj) → Prop} {Fin : List Value → List (Addr × Obj) → Prop} {news : List (Addr × Obj)}
theorem comp_signs {y : Str}
    (turn : ∀ c t I oI C oC D m₂ ys h tk (E' : Value → Shared → Prop), NsObj oC m₂ → m₂ x = some (.str ⟨#[c]⟩ t) → Fr h₀ L h m → News h₀ L h ((I, oI) :: (C, oC) :: (D, lst ys) :: news) → Off3 I C D news → ((@Ne Nat I C) ∧ (@Ne Nat I D) ∧ (@Ne Nat C D)) →
      wpAny (model prog w) A (isTrue ct (compEnvC scope cl C env) (eval ct (compEnvC scope cl C env))) (fun ok s' => if ok = true then
        wpAny (model prog w) A (eval elt (compEnvC scope cl C env)) (CompEnd h₀ L m { s with heap := h, toks := tk } I oI C oC D (lst ys) S (fun _ news' => SgnEl news true c news')) E' s'
        else CompEnd h₀ L m { s with heap := h, toks := tk } I oI C oC D (lst ys) S (fun _ news' => SgnEl news false c news') Value.none s') E' { s with heap := h, toks := tk })
    (fin : ∀ ys : List Value, ys.length = heldOf y → Fin ys news) : CompRestT prog w A h₀ L m env ct elt x scope cl s S (SignAt y) Fin y.cps.size 0 [] news := by
  have key : ∀ (j i : Nat) (ys : List Value), i + j = y.cps.size → ys.length = ((y.cps.toList.take i).filter (· != 45)).length → CompRestT prog w A h₀ L m env ct elt x scope cl s S (SignAt y) Fin j i ys news := by
    intro j
    induction j with
    | zero =>
      intro i ys hi hy
      rw [List.take_of_length_le (by simp; omega)] at hy
      exact CompRestT.zero (fin ys hy)
    | succ j ih =>
      intro i ys hi hy
      refine CompRestT.succ ?_
      rintro v I oI C oC D m₂ h tk E' ⟨c, u, hc, rfl⟩ hC hm F N off ne
      have hc' : y.cps.toList[i]? = some c := by simpa using hc
      refine wpAny_mono (turn c u I oI C oC D m₂ ys h tk E' hC hm F N off ne) (fun ok s₂ hq => ?_) fun _ _ e => e
      cases ok with
      | true =>
        simp only [if_true] at hq ⊢
        refine wpAny_mono hq (fun z s₃ hq => ?_) fun _ _ e => e
        obtain ⟨h', tk', nw, e, F', N', off', hS, hn, hc2⟩ := hq
        subst hn
        refine ⟨h', tk', _, e, F', N', off', hS, ih (i + 1) _ (by omega) ?_⟩
        rw [List.take_add_one, hc', List.filter_append, List.length_append, List.length_append, hy]
        simp [hc2]
      | false =>
        simp only [Bool.false_eq_true, if_false] at hq ⊢
        obtain ⟨h', tk', nw, e, F', N', off', hS, hn, hc2⟩ := hq
        subst hn
        refine ⟨h', tk', _, e, F', N', off', hS, ih (i + 1) _ (by omega) ?_⟩
        rw [List.take_add_one, hc', List.filter_append, List.length_append, hy]
        simp [hc2]
  exact key _ 0 [] (by omega) rfl
/-- a comprehension with one test that lets nothing by -/
theorem comp_none {its : Array Value}
    (turn : ∀ v I oI C oC D m₂ h tk (E' : Value → Shared → Prop), v ∈ its.toList → NsObj oC m₂ → m₂ x = some v → Fr h₀ L h m → News h₀ L h ((I, oI) :: (C, oC) :: (D, lst []) :: news) → Off3 I C D news → ((@Ne Nat I C) ∧ (@Ne Nat I D) ∧ (@Ne Nat C D)) →
      wpAny (model prog w) A (isTrue ct (compEnvC scope cl C env) (eval ct (compEnvC scope cl C env))) (fun ok s' => if ok = true then
        wpAny (model prog w) A (eval elt (compEnvC scope cl C env)) (CompEnd h₀ L m { s with heap := h, toks := tk } I oI C oC D (lst []) S (fun _ _ => False)) E' s'
        else CompEnd h₀ L m { s with heap := h, toks := tk } I oI C oC D (lst []) S (fun _ news' => news' = news) Value.none s') E' { s with heap := h, toks := tk })
    (fin : Fin [] news) : CompRestT prog w A h₀ L m env ct elt x scope cl s S (fun i v => its[i]? = some v) Fin its.size 0 [] news := by
  have key : ∀ (j i : Nat), i + j = its.size → CompRestT prog w A h₀ L m env ct elt x scope cl s S (fun i v => its[i]? = some v) Fin j i [] news := by
    intro j
    induction j with
    | zero => intro i hi; exact CompRestT.zero fin
    | succ j ih =>
      intro i hi
      refine CompRestT.succ ?_
      intro v I oI C oC D m₂ h tk E' hv hC hm F N off ne
      have hv' : v ∈ its.toList := by
        have : its.toList[i]? = some v := by simpa using hv
        exact List.mem_of_getElem? this
      refine wpAny_mono (turn v I oI C oC D m₂ h tk E' hv' hC hm F N off ne) (fun ok s₂ hq => ?_) fun _ _ e => e
      cases ok with
      | true =>
        simp only [if_true] at hq ⊢
        refine wpAny_mono hq (fun z s₃ hq => ?_) fun _ _ e => e
        obtain ⟨h', tk', nw, e, F', N', off', hS, hf⟩ := hq
        exact hf.elim
      | false =>
        simp only [Bool.false_eq_true, if_false] at hq ⊢
        obtain ⟨h', tk', nw, e, F', N', off', hS, hn⟩ := hq
        subst hn
        exact ⟨h', tk', _, e, F', N', off', hS, ih (i + 1) (by omega)⟩
  exact key _ 0 (by omega)
end
theorem sign_ne {c : Nat} {b : Bool} (h : ((⟨#[c]⟩ : Str) != Str.ofString "-") = b) : (c != 45) = b := by
  have e : Str.ofString "-" = (⟨#[45]⟩ : Str) := by decide +kernel
  rw [e] at h
  rw [← h]
  by_cases hc : c = 45
  · subst hc; decide
  · have h1 : (⟨#[c]⟩ : Str) ≠ ⟨#[45]⟩ := fun e => hc (by simpa using e)
    rw [bne_iff_ne.mpr hc, bne_iff_ne.mpr h1]
section
variable {prog : Program} {w : World} {A : Around} {E : Value → Shared → Prop} {s : Shared} {h₀ : Heap} {L l : Addr} {news : List (Addr × Obj)} {vs : List Value} {n : Nat} {Q : Value → Shared → Prop}
theorem len_t (N : News h₀ L s.heap news) (ha : (l, listOf vs.toArray n) ∈ news) (hz : vs.length ≤ 1000) (h : ∀ t' tk', Q (.int ((vs.length : Nat) : Int) t') { s with toks := tk' }) :
    wpAny (model prog w) A (call (.builtin "len") [.ref l]) Q E s :=
  len_list (isList_of N ha) (by rw [List.size_toArray]; omega) (by rw [List.size_toArray]; exact h _ _)
end
end
/-! ## PD -/
section
open PySem.Builtin PySem.Builtin.Str PySem.StrLaws PyProof.Rows
/-! sorted lists of texts are told by their items -/
def leS (a b : Str) : Prop := a.cps.toList ≤ b.cps.toList
theorem le_of_not {a b : Str} (h : PySem.Spec.ltCps b.cps.toList a.cps.toList = false) : leS a b := by
  rw [PyProof.Rows.ltCps_eq] at h
  exact of_decide_eq_false h
theorem rising_pw : ∀ (l : List Str) (p : Str), risingS p l = true → (p :: l).Pairwise leS
  | [], p, _ => List.pairwise_singleton _ _
  | x :: r, p, h => by
    have h' : (!PySem.Spec.ltCps x.cps.toList p.cps.toList && risingS x r) = true := h
    rw [Bool.and_eq_true, Bool.not_eq_true'] at h'
    have ih := rising_pw r x h'.2
    have hpx := le_of_not h'.1
    refine List.pairwise_cons.mpr ⟨fun y hy => ?_, ih⟩
    rcases List.mem_cons.mp hy with rfl | hy
    · exact hpx
    · exact List.le_trans hpx (List.rel_of_pairwise_cons ih hy)
theorem sorted_pw {l : List Str} (h : sortedS l = true) : l.Pairwise leS := by
  cases l with
  | nil => exact List.Pairwise.nil
  | cons x r => exact rising_pw r x h
theorem sorted_one {ss ss' : List Str} (h : sortedS ss = true) (h' : sortedS ss' = true) (p : ss.Perm ss') : ss = ss' :=
  List.Perm.eq_of_pairwise (fun a b _ _ h1 h2 => Str.ext' (Array.toList_inj.mp (List.le_antisymm h1 h2))) (sorted_pw h) (sorted_pw h') p
/-! the rows by codes -/
def nameOf (sg : Str) : Nat → Str
  | 0 => Str.ofString ".."
  | k + 1 => txt [sgn sg k, 48 + k]
def patOf (sg : Str) : List Bool := (List.range 10).map fun k => sgn sg k != 45
theorem codes_map (f : Nat → Bool) : ∀ n s, codesFrom s ((List.range' s n).map f) = (List.range' s n).map fun k => bif f k then k + 1 else 0
  | 0, _ => rfl
  | n + 1, s => by
    have ih := codes_map f n (s + 1)
    rw [List.range'_succ, List.map_cons, List.map_cons, ← ih]
    cases f s <;> rfl
def codesOf (sg : Str) : List Nat := codesFrom 0 (patOf sg)
theorem codes_is (sg : Str) : codesOf sg = (List.range 10).map fun k => bif sgn sg k != 45 then k + 1 else 0 := by
  unfold codesOf patOf
  rw [List.range_eq_range']
  exact codes_map _ 10 0
theorem dd_txt : Str.ofString ".." = txt [46, 46] := by decide +kernel
theorem name_row (sg : Str) (k : Nat) : nameOf sg (bif sgn sg k != 45 then k + 1 else 0) = txt (dotL (rowL (sgn sg k) k)) := by
  unfold rowL dotL
  by_cases h : sgn sg k = 45
  · rw [h]
    exact dd_txt
  · rw [if_neg h, show (sgn sg k != 45) = true from bne_iff_ne.mpr h, if_neg (fun e => by have := congrArg List.length e; simp at this)]
    rfl
theorem sents_codes {sg : Str} (h : SgOk sg) : sents sg = (codesOf sg).map (nameOf sg) := by
  rw [sents_is h, codes_is]
  unfold rowsL
  rw [List.map_map, List.map_map, List.map_map]
  exact List.map_congr_left fun k _ => (name_row sg k).symm
theorem name_inj (sg : Str) : ∀ {m n : Nat}, nameOf sg m = nameOf sg n → m = n
  | 0, 0, _ => rfl
  | 0, n + 1, h => by
    have := txt_inj (dd_txt.symm.trans h)
    have h2 := (List.cons.inj (List.cons.inj this).2).1
    omega
  | m + 1, 0, h => by
    have := txt_inj (h.trans dd_txt)
    have h2 := (List.cons.inj (List.cons.inj this).2).1
    omega
  | m + 1, n + 1, h => by
    have := txt_inj h
    have h2 := (List.cons.inj (List.cons.inj this).2).1
    omega
theorem name_dd (sg : Str) (m : Nat) : nameOf sg m = Str.ofString ".." ↔ m = 0 := ⟨fun h => name_inj sg (h : _ = nameOf sg 0), fun h => h ▸ rfl⟩
theorem name_d (sg : Str) : ∀ m, nameOf sg m ≠ Str.ofString "."
  | 0 => by show Str.ofString ".." ≠ _; decide +kernel
  | k + 1 => by
    intro h
    have hd : Str.ofString "." = txt [46] := by decide +kernel
    have := congrArg List.length (txt_inj (h.trans hd))
    simp at this
theorem step_codes (sg : Str) (ns : List Nat) (c : Nat) : walkStep (ns.reverse.map (nameOf sg)) (nameOf sg c) = (wst ns c).reverse.map (nameOf sg) := by
  cases c with
  | succ k =>
    have hne : nameOf sg (k + 1) ≠ Str.ofString ".." := fun h => by have := (name_dd sg _).mp h; omega
    rw [walk_name hne]
    show _ = ((k + 1) :: ns).reverse.map _
    rw [List.reverse_cons, List.map_append]
    rfl
  | zero =>
    cases ns with
    | nil => exact walk_nil
    | cons d t =>
      rw [List.reverse_cons, List.map_append]
      show walkStep (t.reverse.map _ ++ [nameOf sg d]) (Str.ofString "..") = _
      cases d with
      | zero =>
        show walkStep (_ ++ [Str.ofString ".."]) _ = (0 :: 0 :: t).reverse.map _
        rw [walk_dd, List.reverse_cons, List.reverse_cons, List.map_append, List.map_append]
        rfl
      | succ d =>
        rw [walk_pop (fun h => by have := (name_dd sg _).mp h; omega)]
        rfl
theorem walk_codes (sg : Str) : ∀ (a ns : List Nat), (a.map (nameOf sg)).foldl walkStep (ns.reverse.map (nameOf sg)) = (walkA a ns).reverse.map (nameOf sg)
  | [], _ => rfl
  | c :: r, ns => by
    show (r.map _).foldl walkStep (walkStep _ _) = _
    rw [step_codes, walk_codes sg r (wst ns c)]
    rfl
theorem turned_codes (sg : Str) (a : List Nat) (t : Nat) : turnedAt (a.map (nameOf sg)) t = (turnA a t).map (nameOf sg) := by
  unfold turnedAt turnA
  rw [List.map_append, List.map_drop, List.map_take]
theorem names_codes (sg : Str) (a : List Nat) (t : Nat) : namesAt (a.map (nameOf sg)) t = if namesA a t = [] then [Str.ofString "."] else (namesA a t).map (nameOf sg) := by
  have e : (turnedAt (a.map (nameOf sg)) t).foldl walkStep [] = (namesA a t).map (nameOf sg) := by
    rw [turned_codes]
    exact walk_codes sg (turnA a t) []
  unfold namesAt walked
  rw [e]
  by_cases h : namesA a t = []
  · rw [h]; rfl
  · rw [if_neg (fun hh => h (List.map_eq_nil_iff.mp hh)), if_neg h]
theorem good_codes (sg : Str) (a : List Nat) (t : Nat) (ha : turnA a t ≠ []) : goodAt (a.map (nameOf sg)) t = goodA a t := by
  unfold goodAt goodA
  rw [names_codes, turned_codes]
  cases hm : turnA a t with
  | nil => exact absurd hm ha
  | cons m r =>
    cases hn : namesA a t with
    | nil =>
      rw [if_pos rfl]
      show (decide (some (Str.ofString ".") = some (nameOf sg m)) && _) = false
      rw [decide_eq_false (fun e => name_d sg m (Option.some.inj e).symm)]
      rfl
    | cons n s =>
      rw [if_neg (List.cons_ne_nil _ _)]
      show (decide (some (nameOf sg n) = some (nameOf sg m)) && decide (some (nameOf sg m) ≠ some (Str.ofString ".."))) = (Nat.beq n m && !Nat.beq m 0)
      congr 1
      · by_cases h : n = m
        · rw [h, decide_eq_true rfl, Nat.beq_refl]
        · rw [decide_eq_false (fun e => h (name_inj sg (Option.some.inj e)))]
          exact (Bool.eq_false_iff.mpr fun e => h (Nat.eq_of_beq_eq_true e)).symm
      · by_cases h : m = 0
        · subst h
          rw [decide_eq_false (p := some (nameOf sg 0) ≠ some (Str.ofString "..")) (fun e => e rfl)]
          rfl
        · rw [decide_eq_true (p := some (nameOf sg m) ≠ some (Str.ofString "..")) (fun e => h ((name_dd sg m).mp (Option.some.inj e)))]
          have : Nat.beq m 0 = false := Bool.eq_false_iff.mpr fun e => h (Nat.eq_of_beq_eq_true e)
          rw [this]
          rfl
theorem codes_len (sg : Str) : (codesOf sg).length = 10 := by rw [codes_is]; simp
theorem turnA_ne (sg : Str) (t : Nat) : turnA (codesOf sg) t ≠ [] := by
  intro h
  have := congrArg List.length h
  unfold turnA at this
  rw [List.length_append, List.length_drop, List.length_take, codes_len] at this
  simp only [List.length_nil] at this
  omega
theorem good_head (sg : Str) {t : Nat} (ht : t < 10) (h : goodA (codesOf sg) t = true) : (codesOf sg)[t]? = some (t + 1) := by
  have e : (codesOf sg)[t]? = some (bif sgn sg t != 45 then t + 1 else 0) := by
    rw [codes_is, List.getElem?_map, List.getElem?_range ht]
    rfl
  have hm : (turnA (codesOf sg) t).head? = (codesOf sg)[t]? := by
    unfold turnA
    rw [List.head?_append, List.head?_drop, List.getElem?_eq_getElem (by rw [codes_len]; exact ht)]
    rfl
  rw [e]
  cases hs : sgn sg t != 45 with
  | true => rfl
  | false =>
    exfalso
    rw [e, hs] at hm
    unfold goodA at h
    cases hn : namesA (codesOf sg) t with
    | nil => rw [hn] at h; cases h
    | cons n s =>
      cases hq : turnA (codesOf sg) t with
      | nil => rw [hn, hq] at h; cases h
      | cons m r =>
        rw [hq] at hm
        have hm0 : m = 0 := Option.some.inj hm
        rw [hn, hq, hm0, Bool.and_eq_true] at h
        cases h.2
theorem firsts_codes {sg : Str} (h : SgOk sg) : firstsTo (sents sg) 10 = (firstsA (codesOf sg)).map (nameOf sg) := by
  rw [sents_codes h]
  unfold firstsTo firstsA
  have e : (List.range 10).filter (goodAt ((codesOf sg).map (nameOf sg))) = (List.range 10).filter (goodA (codesOf sg)) :=
    List.filter_congr fun t _ => good_codes sg _ t (turnA_ne sg t)
  rw [e, List.map_map]
  refine List.map_congr_left fun t ht => ?_
  have ht2 := List.mem_filter.mp ht
  have := good_head sg (List.mem_range.mp ht2.1) ht2.2
  rw [List.getD_eq_getElem?_getD, List.getElem?_map, this]
  rfl
theorem eqL_eq : ∀ {a b : List Nat}, eqL a b = true → a = b
  | [], [], _ => rfl
  | [], _ :: _, h => nomatch h
  | _ :: _, [], h => nomatch h
  | a :: r, b :: s, h => by
    have h' : (Nat.beq a b && eqL r s) = true := h
    rw [Bool.and_eq_true] at h'
    rw [Nat.eq_of_beq_eq_true h'.1, eqL_eq h'.2]
theorem pat_len (sg : Str) : (patOf sg).length = 10 := by simp [patOf]
theorem good_perm {sg : Str} (h : SgOk sg) (t : Nat) (ht : t < 10) (hg : goodAt (sents sg) t = true) : (namesAt (sents sg) t).Perm (firstsTo (sents sg) 10) := by
  rw [firsts_codes h]
  rw [sents_codes h] at hg ⊢
  rw [good_codes sg _ t (turnA_ne sg t)] at hg
  have hok := pat_ok (patOf sg) (pat_len sg)
  unfold okPat at hok
  rw [Bool.and_eq_true] at hok
  have ho := List.all_eq_true.mp hok.2 t (List.mem_range.mpr ht)
  unfold okTurn at ho
  rw [show codesFrom 0 (patOf sg) = codesOf sg from rfl, hg] at ho
  have he := eqL_eq ho
  have hne : namesA (codesOf sg) t ≠ [] := by
    intro e
    unfold goodA at hg
    rw [e] at hg
    cases hg
  rw [names_codes, if_neg hne, he]
  exact (List.filter_append_perm _ _).map _
theorem held_codes : ∀ (l : List Nat), heldA (l.map (· != 45)) = (l.filter (· != 45)).length
  | [] => rfl
  | c :: r => by
    have ih := held_codes r
    rw [List.map_cons, List.filter_cons]
    cases hc : c != 45 with
    | true =>
      rw [if_pos rfl, List.length_cons, ← ih]
      rfl
    | false =>
      rw [if_neg Bool.false_ne_true, ← ih]
      rfl
theorem lets_sgn {sg : Str} (h : sg.length = 10) : lets sg = (List.range 10).map (sgn sg) := by
  have hl : (lets sg).length = 10 := by rw [lets_len, h]
  apply List.ext_getElem (by rw [hl]; simp)
  intro i h1 h2
  rw [List.getElem_map, List.getElem_range]
  unfold sgn
  rw [List.getD_eq_getElem?_getD, List.getElem?_eq_getElem h1]
  rfl
theorem firsts_count {sg : Str} (h : SgOk sg) : ((firstsTo (sents sg) 10).length : Int) = if heldOf sg < 5 then 0 else 2 * (heldOf sg : Int) - 10 := by
  have hok := pat_ok (patOf sg) (pat_len sg)
  unfold okPat at hok
  rw [Bool.and_eq_true] at hok
  have hc := Nat.eq_of_beq_eq_true hok.1
  have hh : heldA (patOf sg) = heldOf sg := by
    unfold heldOf
    show _ = ((lets sg).filter (· != 45)).length
    rw [lets_sgn h.1, ← held_codes, List.map_map]
    rfl
  rw [hh] at hc
  rw [firsts_codes h, List.length_map]
  have : (firstsA (codesOf sg)).length = 2 * heldOf sg - 10 := hc
  rw [this]
  split <;> omega
end
/-! ## MM -/
section
local macro_rules | `(tactic| k_ne) => `(tactic| (refine neN ?_; (try dsimp only); first | with_reducible assumption | (refine Ne.symm ?_; with_reducible assumption) | omega))
theorem strs_of_carried9 {g : Int → Str} {ks : List Int} {ys : List Value} (h : CarriedAll ys (ks.map fun k => PyData.str (g k))) : StrsAre ys (ks.map g) := CarriedAll.strsOf h
theorem row_t {x : Int} {t : Tok} {w : World} {mean : ExcName → Option Value} {mg mb : Str → Option Value} {news : List (Addr × Obj)} {dp un : Nat} {gd : Option (List Code)} {cn : Str} {cs : Scope} {a : Addr} {ccd : Value} {cl : List (Str × Addr)} {outer : List Env} {A₀ : Around} {base h₀ : Heap} {L : Addr} {m : Str → Option Value} {s : Shared} {Q E : Value → Shared → Prop}
    (B : Below A₀ base outer h₀) (F : Fr h₀ L s.heap m) (X : (hd.heap_1 w.params).In h₀) (N : News h₀ L s.heap news)
    (T : Top vw (looseW vw lo) mean mg mb h₀)
    (hkf : cs.kind = .function) (hdp : dp + 16 < recursionLimit) (hun : un + 8 * 16 < cLine) (hx0 : 0 ≤ x) (hx1 : x < 1000000000)
    (hret : ∀ t' h' tk', Fr h₀ L h' m → News h₀ L h' news → Q (.str (signsOf x) t') { s with heap := h', toks := tk' }) :
    wpAny (model PySem.Challenge.rw_il0069_01.row.prog w) (ktrTop dp un gd cn cs L a ccd cl outer) (call (.ref 224) [.int x t]) Q E s :=
  row_c B F X N T hkf hdp hun hx0 hx1 (by rw [row_is x hx0 hx1]; exact hret)
theorem file_t {x : Int} {t : Tok} {w : World} {mean : ExcName → Option Value} {mg mb : Str → Option Value} {news : List (Addr × Obj)} {dp un : Nat} {gd : Option (List Code)} {cn : Str} {cs : Scope} {a : Addr} {ccd : Value} {cl : List (Str × Addr)} {outer : List Env} {A₀ : Around} {base h₀ : Heap} {L : Addr} {m : Str → Option Value} {s : Shared} {Q E : Value → Shared → Prop}
    (B : Below A₀ base outer h₀) (F : Fr h₀ L s.heap m) (X : (hd.heap_1 w.params).In h₀) (N : News h₀ L s.heap news)
    (T : Top vw (looseW vw lo) mean mg mb h₀)
    (hkf : cs.kind = .function) (hdp : dp + 16 < recursionLimit) (hun : un + 8 * 16 < cLine)
    (hret : ∀ t' h' tk', Fr h₀ L h' m → News h₀ L h' news → Q (.str (signsOf x) t') { s with heap := h', toks := tk' }) :
    wpAny (model PySem.Challenge.rw_il0069_01.row.prog w) (ktrTop dp un gd cn cs L a ccd cl outer) (call (.ref 217) [.int x t]) Q E s := filemode_c B F X N T hkf hdp hun hret
local macro_rules | `(tactic| walk_at "call ref") => `(tactic| (
  k_here; (with_reducible show wpAny _ _ (call (Value.ref 217) [Value.int _ _] []) _ _ _); k_dflt (refine' file_t ?k1 ?k2 ?k3 ?k4 ?k5 ?k6 ?k7 ?k8 ?_; (case k1 => k_asm); (case k2 => k_asm); (case k3 => k_asm); (case k4 => k_asm); (case k5 => k_asm); (case k6 => first | exact rfl | assumption); (case k7 => ktr_room); (case k8 => ktr_units); k_whole); intro t9 h9 tk9 F9 N9; (try dsimp only); (try k_fold)))
local macro_rules | `(tactic| walk_at "call ref") => `(tactic| (
  k_here; (with_reducible show wpAny _ _ (call (Value.ref 224) [Value.int _ _] []) _ _ _); refine Stop.intro ?_))
local macro_rules | `(tactic| walk_at "exec Assign cons ListComp") => `(tactic| (
  k_here; (with_reducible show wpAny _ _ (exec (Stmt.Assign [Expr.Name (Str.ofString "rows") _] _ _) _) _ _ _); k_dflt (refine LCg.Assign_ListComp_U (F₀ := by k_asm) (by rfl) (by with_unfolding_all rfl) (by with_unfolding_all rfl) (by decide) (by rfl) (by decide) (by rfl) (by rfl) (by rfl) ?_)))
theorem sum_r {prog : Program} {w : World} {A : Around} {E : Value → Shared → Prop} {s : Shared} {h₀ : Heap} {L l : Addr} {m : Str → Option Value} {news : List (Addr × Obj)} {o : Obj} {vs : List Value} {n : Nat} {ns : List Int} {sm : Int} {Q : Value → Shared → Prop}
    (F : Fr h₀ L s.heap m) (N : News h₀ L s.heap news) (hm : (l, o) ∈ news) (ho : o = listOf vs.toArray n) (hi : IntsAre vs ns) (hs : ns.sum = sm) (hh : A.handled = none)
    (h : ∀ h' tk t', Fr h₀ L h' m → News h₀ L h' news → Q (.int sm t') { s with heap := h', toks := tk }) :
    wpAny (model prog w) A (call (.builtin "sum") [.ref l]) Q E s := by
  subst ho
  obtain ⟨xs, hx⟩ := hi.allInts.items
  have hl : s.heap.IsList l vs.toArray := ⟨_, N.get hm, rfl, _, rfl⟩
  rw [hx] at hl
  refine sum_intListG hh hl fun h' tk t' hk => ?_
  have e : preSum (numAt xs) xs.size = sm := by
    rw [← hs, ← hi.numsOf, show vs = vs.toArray.toList from rfl, hx, nums_intItems, preSum_eq, List.take_of_length_le (by simp)]
  rw [e]
  exact h h' tk t' (F.keptAll hk) (fun p hp => ⟨hk _ _ (N p hp).1, (N p hp).2⟩)
theorem sep_len (k : Int) : (sepOf k).length ≤ 2 := by
  unfold sepOf
  split
  · decide +kernel
  · split <;> decide +kernel
theorem rows_get (sg : Str) {k : Int} (h0 : 0 ≤ k) (h1 : k < 10) : (List.map (rowAt sg) (rangeKs 0 (10 - 0 : Int).toNat)).getD k.toNat Str.empty = rowAt sg k := by
  obtain ⟨n, rfl⟩ := Int.eq_ofNat_of_zero_le h0
  have hn : n < 10 := by omega
  rcases (by omega : n = 0 ∨ n = 1 ∨ n = 2 ∨ n = 3 ∨ n = 4 ∨ n = 5 ∨ n = 6 ∨ n = 7 ∨ n = 8 ∨ n = 9) with e | e | e | e | e | e | e | e | e | e <;> subst e <;> rfl
theorem mail_step {ml r : Str} {sg : Str} {sm k : Int} {pre : List Int} (hf1 : ml = mailN sg sm pre.length) (hf2 : ml.length ≤ 22 * pre.length) (hget : r = rowAt sg k) (hkk : k = (pre.length : Int))
    (hB : (rowAt sg k).length ≤ 20) (hS : (sepOf (sm + k)).length ≤ 2) {t9 : Tok} :
    ((ml ++ (r ++ sepOf (sm + k)), t9).fst = mailN sg sm (pre ++ [k]).length) ∧ ((ml ++ (r ++ sepOf (sm + k)), t9).fst.length ≤ 22 * (pre ++ [k]).length) := by
  dsimp only
  rw [List.length_append, List.length_singleton, hget]
  constructor
  · rw [hf1, hkk]
    rfl
  · rw [Str.length_append, Str.length_append]
    omega
theorem sep_item {prog : Program} {w : World} {A : Around} {E : Value → Shared → Prop} {s : Shared} {h₀ : Heap} {L l : Addr} {news : List (Addr × Obj)} {value slice : Expr} {ta tb tc u : Tok} {n : Nat} {x : Int} {Q : Value → Shared → Prop}
    (N : News h₀ L s.heap news) (hm : (l, ({ cls := .type "tuple", data := .seq #[.str (Str.ofString "\n") ta, .str (Str.ofString "\r") tb, .str (Str.ofString "\r\n") tc] n } : Obj)) ∈ news)
    (hs : subscripted slice false (.ref l) (.int (x.fmod 3) u) = operate [.ref l, .int (x.fmod 3) u] (getItem (.ref l) (.int (x.fmod 3) u)))
    (h : ∀ t', Q (.str (sepOf x) t') s) : wpAny (model prog w) A (subscriptTail value slice (.ref l) (.int (x.fmod 3) u)) Q E s := by
  refine kba_turn (value' := PySem.Expr.Name (PySem.Str.ofString "_") ⟨0, 0, 0, 0⟩) (fun _ => rfl) ?_
  have ht : IsTup s.heap l [.str (Str.ofString "\n") ta, .str (Str.ofString "\r") tb, .str (Str.ofString "\r\n") tc].toArray := ⟨_, N.get hm, rfl, _, rfl⟩
  have h1 : 0 ≤ x.fmod 3 := Int.fmod_nonneg_of_pos _ (by decide)
  have h2 : x.fmod 3 < 3 := Int.fmod_lt_of_pos _ (by decide)
  rcases (by omega : x.fmod 3 = 0 ∨ x.fmod 3 = 1 ∨ x.fmod 3 = 2) with e | e | e
  · have h' := h ta
    rw [show sepOf x = Str.ofString "\n" from if_pos e] at h'
    rw [e] at hs ⊢
    exact item_tupleL (j := 0) ht (by decide) (by decide) rfl rfl h' hs (fun _ => rfl)
  · have h' := h tb
    rw [show sepOf x = Str.ofString "\r" from (if_neg (by omega)).trans (if_pos e)] at h'
    rw [e] at hs ⊢
    exact item_tupleL (j := 1) ht (by decide) (by decide) rfl rfl h' hs (fun _ => rfl)
  · have h' := h tc
    rw [show sepOf x = Str.ofString "\r\n" from (if_neg (by omega)).trans (if_neg (by omega))] at h'
    rw [e] at hs ⊢
    exact item_tupleL (j := 2) ht (by decide) (by decide) rfl rfl h' hs (fun _ => rfl)
local macro_rules | `(tactic| walk_at "subscriptTail") => `(tactic| (k_here; (with_reducible show wpAny _ _ (subscriptTail (PySem.Expr.Tuple _ _ _) _ (Value.ref _) (Value.int (Int.fmod _ 3) _)) _ _ _); k_dflt (refine' sep_item ?N ?a ?s ?_; (case N => k_asm); (case a => k_mem); (case s => with_unfolding_all rfl)); intro t9; (try dsimp only)))
local macro_rules | `(tactic| walk_at "subscriptTail Tuple BinOp ref int") => `(tactic| (k_here; (with_reducible show wpAny _ _ (subscriptTail (PySem.Expr.Tuple _ _ _) _ (Value.ref _) (Value.int (Int.fmod _ 3) _)) _ _ _); k_dflt (refine' sep_item ?N ?a ?s ?_; (case N => k_asm); (case a => k_mem); (case s => with_unfolding_all rfl)); intro t9; (try dsimp only)))
local macro_rules | `(tactic| walk_at "call builtin:sum") => `(tactic| (k_here; (with_reducible show wpAny _ _ (call (Value.builtin "sum") [Value.ref _]) _ _ _); k_dflt (refine' sum_r ?k1 ?k2 ?k3 ?k4 ?k5 ?k6 ?k7 ?_; (case k1 => k_asm); (case k2 => k_asm); (case k3 => k_mem); (case k4 => exact rfl); (case k5 => assumption); (case k6 => assumption); (case k7 => exact rfl); k_whole); intro h9 tk9 t9 F9 N9; (try dsimp only)))
local macro_rules | `(tactic| walk_at "CompSrc") => `(tactic| (k_here; (with_reducible show LCg.CompSrc _ _ _ _ _ _ _ (PySem.Expr.IfExp _ _ _ _) _ _ _ _ _ _); refine Stop.intro ?_))
theorem news_lt {h₀ h : Heap} {L : Addr} {news : List (Addr × Obj)} (N : News h₀ L h news) : ∀ p ∈ news, p.1 < h.objs.size := fun p hp => Heap.lt_size (N p hp).1
theorem quoted_t {ml sg : Str} {sm : Int} {t : Tok} {w : World} {mean : ExcName → Option Value} {mg mb : Str → Option Value} {news : List (Addr × Obj)} {dp un : Nat} {gd : Option (List Code)} {cn : Str} {cs : Scope} {a : Addr} {ccd : Value} {cl : List (Str × Addr)} {outer : List Env} {A₀ : Around} {base h₀ : Heap} {L : Addr} {m : Str → Option Value} {s : Shared} {Q E : Value → Shared → Prop}
    (B : Below A₀ base outer h₀) (F : Fr h₀ L s.heap m) (X : (hd.heap_1 w.params).In h₀) (N : News h₀ L s.heap news)
    (T : Top vw (looseW vw lo) mean mg mb h₀)
    (hkf : cs.kind = .function) (hdp : dp + 4 < recursionLimit) (hun : un + 8 * 4 < cLine) (hml : ml = mailN sg sm 10) (hok : SgOk sg)
    (hret : ∀ st t' h' tk', st.length ≤ 500 → Txt.split st (Str.ofString "\r\n") = sents sg ++ [Str.ofString ""] → Fr h₀ L h' m → News h₀ L h' news → Q (.str st t') { s with heap := h', toks := tk' }) :
    wpAny (model PySem.Challenge.rw_il0069_01.row.prog w) (ktrTop dp un gd cn cs L a ccd cl outer) (call (.ref 55) [.str ml t]) Q E s := by
  subst hml
  refine quotedata_c B F X N T hkf hdp hun (mail_size hok sm).1 (mail_size hok sm).2 (quoted_size hok sm).1 (quoted_size hok sm).2 ?_
  rw [quoted_is hok]
  intro t' h' tk' F' N'
  exact hret _ t' h' tk' (sent_len hok) (sent_split hok) F' N'
local macro_rules | `(tactic| walk_at "call ref") => `(tactic| (
  k_here; (with_reducible show wpAny _ _ (call (Value.ref 55) [Value.str _ _] []) _ _ _); k_dflt (refine' quoted_t ?k1 ?k2 ?k3 ?k4 ?k5 ?k6 ?k7 ?k8 ?k9 ?k10 ?_; (case k1 => k_asm); (case k2 => k_asm); (case k3 => k_asm); (case k4 => k_asm); (case k5 => k_asm); (case k6 => first | exact rfl | assumption); (case k7 => ktr_room); (case k8 => ktr_units); (case k9 => assumption); (case k10 => assumption); k_whole); intro st9 t9 h9 tk9 hstl9 hsp9 F9 N9; (have lt9 := news_lt N9); (try k_lt lt9); (try dsimp only); (try k_fold)))

def dotted (r : Str) : Str := if (r == Str.ofString ".") = true then Str.ofString ".." else r
section
variable {prog : Program} {w : World} {A : Around} {h₀ : Heap} {L : Addr} {m : Str → Option Value} {env : Env} {elt : Expr} {x : Str} {scope : Scope} {cl : List (Str × Addr)} {s : Shared} {S : List (Addr × Obj) → Prop} {P : Nat → Value → Prop} {Fin : List Value → List (Addr × Obj) → Prop} {news : List (Addr × Obj)}
/-- a comprehension over texts, a text each -/
theorem comp_strs {vs : List Value} {xs : List Str} (g : Str → Str) (hx : StrsAre vs xs)
    (turn : ∀ r t I oI C oC D m₂ ys h tk (E' : Value → Shared → Prop), r ∈ xs → LCg.NsObj oC m₂ → m₂ x = some (.str r t) → Fr h₀ L h m → News h₀ L h ((I, oI) :: (C, oC) :: (D, LCg.lst ys) :: news) → LCg.Off3 I C D news → ((@Ne Nat I C) ∧ (@Ne Nat I D) ∧ (@Ne Nat C D)) → KPfMark →
      wpAny (model prog w) A (eval elt (compEnvC scope cl C env)) (LCg.CompEnd h₀ L m { s with heap := h, toks := tk } I oI C oC D (LCg.lst ys) S (fun y news' => KCtEl news (g r) y news')) E' { s with heap := h, toks := tk })
    (fin : KPfDone (∀ ys, StrsAre ys (xs.map g) → Fin ys news)) : LCg.CompRest prog w A h₀ L m env elt x scope cl s S (fun i v => vs.toArray[i]? = some v) Fin vs.toArray.size 0 [] news := by
  unfold KPfDone at fin
  have hlen : vs.toArray.size = xs.length := by rw [List.size_toArray]; exact hx.len_eq
  have key : ∀ (j i : Nat) (ys : List Value), i + j = xs.length → StrsAre ys ((xs.take i).map g) → LCg.CompRest prog w A h₀ L m env elt x scope cl s S (fun i v => vs.toArray[i]? = some v) Fin j i ys news := by
    intro j
    induction j with
    | zero =>
      intro i ys hi hy
      rw [show i = xs.length by omega, List.take_length] at hy
      exact LCg.CompRest.zero (fin ys hy)
    | succ j ih =>
      intro i ys hi hy
      refine LCg.CompRest.succ ?_
      intro v I oI C oC D m₂ h tk E' hv hC hm F N off ne
      obtain ⟨r, t, rfl, hr⟩ := strs_at (i := i) hx (by simpa using hv)
      refine wpAny_mono (turn r t I oI C oC D m₂ ys h tk E' (List.mem_of_getElem? hr) hC hm F N off ne True.intro) (fun y s₂ hq => ?_) fun _ _ e => e
      obtain ⟨h', tk', nw, e, F', N', off', hS, hn, t', hy'⟩ := hq
      subst hn hy'
      refine ⟨h', tk', _, e, F', N', off', hS, ih (i + 1) _ (by omega) ?_⟩
      rw [List.take_add_one, hr]
      simpa using kct_snoc hy
  rw [hlen]
  exact key xs.length 0 [] (by omega) .nil
end
section
variable {prog : Program} {w : World} {A : Around} {E : Value → Shared → Prop} {s : Shared} {h₀ : Heap} {L : Addr} {m : Str → Option Value} {news : List (Addr × Obj)} {a b : Addr} {vs ws : List Value} {Q : Value → Shared → Prop}
theorem add_vs (F : Fr h₀ L s.heap m) (N : News h₀ L s.heap news) (ha : s.heap.IsList a vs.toArray) (hb : s.heap.IsList b ws.toArray) (hz : vs.length + ws.length ≤ 1000)
    (h : ∀ D h', Fr h₀ L h' m → News h₀ L h' ((D, listOf (vs ++ ws).toArray 0) :: news) → (∀ p ∈ news, p.1 < D) → Q (.ref D) { s with heap := h' }) :
    wpAny (model prog w) A (binaryOp .Add (.ref a) (.ref b)) Q E s :=
  kmk_add_lit F N ha hb (by rw [List.toList_toArray, List.toList_toArray]) h (by rw [List.toList_toArray, List.toList_toArray]; exact Nat.le_trans hz (by decide))
end
theorem strs_app {vs ws : List Value} {xs ys : List Str} (h : StrsAre vs xs) (k : StrsAre ws ys) : StrsAre (vs ++ ws) (xs ++ ys) := by
  induction h with
  | nil => exact k
  | cons y t _ ih => exact .cons y t ih
section
variable {prog : Program} {w : World} {A : Around} {E : Value → Shared → Prop} {s : Shared} {h₀ : Heap} {L : Addr} {news : List (Addr × Obj)} {a b : Addr} {xs ys : List Value} {n k : Nat} {ns : List Str} {Q : Value → Shared → Prop}
theorem ne_same (N : News h₀ L s.heap news) (ha : (a, listOf xs.toArray n) ∈ news) (hb : (b, listOf ys.toArray k) ∈ news) (hi : StrsAre xs ns) (hj : StrsAre ys ns) (oi : ∀ x ∈ ns, PyData.strOk x = true) (hu : A.units + 64 < cLine) (h : Q (.bool false) s) :
    wpAny (model prog w) A (compareOp .NotEq (.ref a) (.ref b)) Q E s :=
  ne_strsL N ha hb hi hj oi oi hu (by rw [decide_eq_true rfl]; exact h)
end
theorem sents_eq (sg : Str) : ((rangeKs 0 (10 - 0 : Int).toNat).map (rowAt sg)).map dotted = sents sg := by
  rw [List.map_map]
  rfl
local macro_rules | `(tactic| walk_at "eval ListComp") => `(tactic| (k_here; (with_reducible show wpAny _ _ (eval (PySem.Expr.ListComp (PySem.Expr.IfExp _ _ _ _) _ _ _) _) _ _ _); k_dflt (refine LCg.ListComp_U (F₀ := by k_asm) (by with_unfolding_all rfl) (by decide) (by rfl) (by decide) (by rfl) ?_)))
local macro_rules | `(tactic| walk_at "CompSrc") => `(tactic| (k_here; (with_reducible show LCg.CompSrc _ _ _ _ _ _ _ (PySem.Expr.IfExp _ _ _ _) _ _ _ _ _ _); refine Stop.intro ?_))
local macro_rules | `(tactic| walk_at "newTuple") => `(tactic| (k_here; (with_reducible show wpAny _ _ (newTuple _) _ _ _); k_dflt (refine' kup_newTuple ?F ?N ?_ ?z; (case F => k_asm); (case N => k_asm); (case z => kmk_size)); intro D' h' F' N' l1; (try k_lt l1); (try k_sweep)))
local macro_rules | `(tactic| walk_at "assign Name") => `(tactic| (k_here; (with_reducible show wpAny _ _ (assign (PySem.Expr.Name _ _) _ _) _ _ _); refine assign_Name ?_))


theorem sents_len (sg : Str) : (sents sg).length = 10 := by
  unfold sents
  rw [List.length_map, rangeKs_length]
theorem turned_ok {rows : List Str} (h : RowsOk rows) (i : Nat) (hl : rows.length = 10) : RowsOk (turnedAt rows i) := by
  refine ⟨?_, fun r hr => h.2 r ?_⟩
  · unfold turnedAt
    rw [List.length_append, List.length_drop, List.length_take]
    omega
  · rcases List.mem_append.mp hr with h | h
    · exact List.mem_of_mem_drop h
    · exact List.mem_of_mem_take h
local macro_rules | `(tactic| walk_at "subscriptTail Name Slice ref ref") => `(tactic| (k_here; (with_reducible show wpAny _ _ (subscriptTail _ (PySem.Expr.Slice (some _) (some _) none _) (Value.ref _) (Value.ref _)) _ _ _); k_dflt (refine' kms_slice_lit ?F ?N ?l ?p ?q ?e ?_ ?s ?t ?z; (case F => k_asm); (case N => k_asm); (case l => kmk_list); (case p => kmk_part); (case q => kmk_part); (case e => exact rfl); (case s => with_unfolding_all rfl); (case t => kmk_pure); (case z => size_fits)); intro D' h' F' N' l1; (try k_lt l1); (try k_sweep)))
local macro_rules | `(tactic| walk_at "subscriptTail Name Slice ref ref") => `(tactic| (k_here; (with_reducible show wpAny _ _ (subscriptTail _ (PySem.Expr.Slice none (some (PySem.Expr.Name _ _)) none _) (Value.ref _) (Value.ref _)) _ _ _); k_dflt (refine' kms_slice_lit ?F ?N ?l ?p ?q ?e ?_ ?s ?t ?z; (case F => k_asm); (case N => k_asm); (case l => kmk_list); (case p => kmk_part); (case q => kmk_part); (case e => exact rfl); (case s => with_unfolding_all rfl); (case t => kmk_pure); (case z => size_fits)); intro D' h' F' N' l1; (try k_lt l1); (try k_sweep)))
local macro_rules | `(tactic| walk_at "call ref") => `(tactic| (
  k_here; (with_reducible show wpAny _ _ (call (Value.ref 149) [Value.str _ _, Value.str _ _, Value.str _ _, Value.str _ _, Value.str _ _, Value.str _ _, Value.str _ _, Value.str _ _, Value.str _ _, Value.str _ _] []) _ _ _); k_dflt (refine' join_t ?k1 ?k2 ?k3 ?k4 ?k5 ?k6 ?k7 ?k8 ?k9 ?_; (case k1 => k_asm); (case k2 => k_asm); (case k3 => k_asm); (case k4 => k_asm); (case k5 => k_asm); (case k6 => first | exact rfl | assumption); (case k7 => ktr_room); (case k8 => ktr_units); (case k9 => assumption); k_whole); intro X9 t9 h9 tk9 hX9 F9 N9; (try dsimp only); (try k_fold)))
local macro_rules | `(tactic| walk_at "call ref") => `(tactic| (
  k_here; (with_reducible show wpAny _ _ (call (Value.ref 170) [Value.str _ _] []) _ _ _); k_dflt (refine' norm_t ?k1 ?k2 ?k3 ?k4 ?k5 ?k6 ?k7 ?k8 ?k9 ?k10 ?_; (case k1 => k_asm); (case k2 => k_asm); (case k3 => k_asm); (case k4 => k_asm); (case k5 => k_asm); (case k6 => first | exact rfl | assumption); (case k7 => ktr_room); (case k8 => ktr_units); (case k9 => with_reducible assumption); (case k10 => with_reducible assumption); k_whole); intro Y9 t9 h9 tk9 hY9 F9 N9; (try dsimp only); (try k_fold)))
local macro_rules | `(tactic| walk_at "call ref") => `(tactic| (
  k_here; (with_reducible show wpAny _ _ (call (Value.ref 238) [Value.str _ _] []) _ _ _); k_dflt (refine' apart_t ?k1 ?k2 ?k3 ?k4 ?k5 ?k6 ?k7 ?k8 ?k9 ?k10 ?_; (case k1 => k_asm); (case k2 => k_asm); (case k3 => k_asm); (case k4 => k_asm); (case k5 => k_asm); (case k6 => first | exact rfl | assumption); (case k7 => ktr_room); (case k8 => ktr_units); (case k9 => with_reducible assumption); (case k10 => with_reducible assumption); k_whole); intro h9 tk9 l9 vals9 hv9 F9 N9 lt9; (try k_lt lt9); (try dsimp only); (try k_fold)))
local macro_rules | `(tactic| walk_at "call ref") => `(tactic| (
  k_here; (with_reducible show wpAny _ _ (call (Value.ref 231) [Value.ref _] []) _ _ _); k_dflt (refine' walked_t ?k1 ?k2 ?k3 ?k4 ?k5 ?k6 ?k7 ?k8 ?k9 ?k10 ?k11 ?_; (case k11 => with_reducible assumption); (case k1 => k_asm); (case k2 => k_asm); (case k3 => k_asm); (case k4 => k_asm); (case k5 => k_asm); (case k6 => first | exact rfl | assumption); (case k7 => ktr_room); (case k8 => ktr_units); (case k9 => k_mem); (case k10 => with_reducible assumption); k_whole); intro h9 tk9 l9 n9 vals9 hv9 F9 N9 lt9; (try k_lt lt9); (try dsimp only); (try k_fold)))
local macro_rules | `(tactic| walk_at "compareOp NotEq ref ref") => `(tactic| (k_here; (with_reducible show wpAny _ _ (compareOp CmpOp.NotEq (Value.ref _) (Value.ref _)) _ _ _); refine Stop.intro ?_))
local macro_rules | `(tactic| walk_at "call builtin:sorted") => `(tactic| (k_here; (with_reducible show wpAny _ _ (call (Value.builtin "sorted") [Value.ref _]) _ _ _); k_dflt (refine' sort_t ?k1 ?k2 ?k3 ?k4 ?k5 ?_; (case k1 => k_asm); (case k2 => k_asm); (case k3 => k_mem); (case k4 => with_reducible assumption); (case k5 => with_reducible assumption)); intro D' h' vs' ss' e' F' N' l1 hS' hp' hs'; (try k_lt l1); (try k_sweep)))
local macro_rules | `(tactic| k_all) => `(tactic| with_reducible assumption)

local macro_rules | `(tactic| walk_at "eval ListComp") => `(tactic| (k_here; (with_reducible show wpAny _ _ (eval (PySem.Expr.ListComp (PySem.Expr.Name (Str.ofString "sign") _) _ _ _) _) _ _ _); k_dflt (refine ListComp_S (F₀ := by k_asm) (by with_unfolding_all rfl) (by decide) (by rfl) (by decide) (by rfl) ?_)))
theorem held_le (sg : Str) (hl : sg.length = 10) : heldOf sg ≤ 10 := by
  have h : sg.cps.toList.length = 10 := by simpa [Str.length] using hl
  unfold heldOf
  rw [← h]
  exact List.length_filter_le _ _
local macro_rules | `(tactic| walk_at "call builtin:len") => `(tactic| (k_here; (with_reducible show wpAny _ _ (call (Value.builtin "len") [Value.ref _]) _ _ _); k_dflt (refine' len_t ?k1 ?k2 ?k3 ?_; (case k1 => k_asm); (case k2 => k_mem); (case k3 => omega)); intro t9 tk9; (try dsimp only)))
local macro_rules | `(tactic| walk_at "eval ListComp") => `(tactic| (k_here; (with_reducible show wpAny _ _ (eval (PySem.Expr.ListComp (PySem.Expr.Name (Str.ofString "names") _) _ _ _) _) _ _ _); k_dflt (refine LCt.ListComp_T (F₀ := by k_asm) (by with_unfolding_all rfl) (by decide) (by rfl) (by decide) (by rfl) ?_)))
local macro_rules | `(tactic| walk_at "CompSrcT") => `(tactic| (k_here; (with_reducible show LCt.CompSrcT _ _ _ _ _ _ _ _ _ _ _ _ _ _ _); refine Stop.intro ?_))
theorem firsts_ok (sg : Str) (hl : SgOk sg) : ∀ r ∈ firstsTo (sents sg) 10, PyData.strOk r = true := by
  intro r hr
  unfold firstsTo at hr
  obtain ⟨t, ht, rfl⟩ := List.mem_map.mp hr
  have hi : t < 10 := List.mem_range.mp (List.mem_filter.mp ht).1
  have hlen := sents_len sg
  rw [List.getD_eq_getElem?_getD, List.getElem?_eq_getElem (by omega)]
  exact ((sents_rows hl).2 _ (List.getElem_mem _)).2.2.2
theorem main : PySem.Challenge.rw_il0069_01.Holds := by
  exact hd (by
    k_go0
    (all_goals try k_fold)
    k_steps
    refine Stop.out ?_
    k_dflt (refine' row_t ?k1 ?k2 ?k3 ?k4 ?k5 ?k6 ?k7 ?k8 ?k9 ?k10 ?_; (case k1 => k_asm); (case k2 => k_asm); (case k3 => k_asm); (case k4 => k_asm); (case k5 => k_asm); (case k6 => first | exact rfl | assumption); (case k7 => ktr_room); (case k8 => ktr_units); (case k9 => exact mode_pos _); (case k10 => exact mode_lt _); k_whole)
    intro t9 h9 tk9 F9 N9
    (try dsimp only)
    (try k_fold)
    generalize hsm : List.sum (List.map (fun k' : Int => Int.fmod k' 1000000) (List.take 63 _)) = sm at *
    generalize hsg : signsOf _ = sg at *
    (have hok : SgOk sg := hsg ▸ signs_ok _)
    (have hlen : sg.length = 10 := hok.1)
    (have hne : (sg != sg) = false := bne_self_eq_false sg)
    exact (by
      k_steps
      refine Stop.out ?_
      k_dflt (refine LCg.CompSrc.range (by rfl) (by k_asm) (by k_asm) (by assumption) (by decide) (by first | exact rangeSize_nat _ _ | rfl) (by first | exact Nat.le_of_ble_eq_true rfl | size_fits) ?_; intro g'; (refine' kct_range (rowAt sg) (fun k' t' I' oI' C' oC' D' m' ys' h' tk' E' hlo' hhi' hC' hx' F' N' off' ne' => ?_) ?_); (all_goals (try (simp only [LCg.Off3, and_true] at off'))); (all_goals (try ((show KPfMark → _); intro hMark'))))
      · (have hhi9 : k' < 10 := by omega)
        clear hhi'
        (repeat (cases ‹_ ∧ _›))
        (try k_fold)
        (try dsimp only)
        k_steps
        all_goals (first | exact kct_el (if_pos (by assumption)) rfl rfl | exact kct_el (if_neg (ne_true_of_eq_false (by assumption))) rfl rfl)
      · (with_reducible show KPfDone _)
        unfold KPfDone
        intro ys9 hc9 hl9
        have hst9 := strs_of_carried9 hc9
        (k_with "exec For" => (refine Stop.intro ?_))
        (k_with "pyIter ref" => (refine Stop.intro ?_))
        k_steps
        refine Stop.out ?_
        (rename Fr _ _ _ _ => F9)
        (rename News _ _ _ _ => N9)
        (rename IsRange _ _ _ _ _ _ _ _ => R9)
        have mk9 := kstMark
        refine kst_range (σ := Str × Tok) (fun _ => _) (fun c => [(Str.ofString "mail", .str c.1 c.2)]) (fun _ => True) [] (fun pre c => c.1 = mailN sg (sm) pre.length ∧ c.1.length ≤ 22 * pre.length) (Str.ofString "", ?tt) (by rfl) R9 (by decide) (rangeSize_nat 0 10) F9 N9 ?gf ?gk ?gp ?gt ?gd
        case gk => kst_all
        case gf => exact True.intro
        case gp => exact ⟨rfl, Nat.le_of_eq (by decide +kernel : (Str.ofString "").length = 0)⟩
        case gt =>
          clear F9 N9
          rintro ⟨ml, tp⟩ pre k tk u h9 tk9 own hk hlt hoff _ ⟨hf1, hf2⟩ F9 N9
          dsimp only at hf1 hf2 F9 N9
          have hml : ml.length ≤ 220 := by omega
          (try simp only [List.cons_append, List.nil_append] at N9)
          (try k_fold)
          have hk0 : 0 ≤ k := by omega
          have hk1 : k < 10 := by omega
          have hget := rows_get sg hk0 hk1
          have hB := rowAt_len hok hk0 hk1
          rw [← hget] at hB
          have hS := sep_len (sm + k)
          k_steps
          (rename News _ _ _ _ => nE)
          refine kst_end ⟨_, _⟩ (by assumption) nE (by first | kst_in | kst_inAny) (by first | (intro p hp; kst_mem) | kst_anyIn) (by rfl) ?gf (by kst_all) ?gr ?gp
          case gf => exact True.intro
          case gr =>
            intro z h1 h2 h3
            have h4 : z ≠ Str.ofString "mail" := h2 _ (List.Mem.head _)
            simp [kstB, h1, h4]
          case gp =>
            have hkk : k = (pre.length : Int) := by omega
            exact mail_step hf1 hf2 hget hkk (hget ▸ hB) hS
        case gd =>
          clear F9 N9
          rintro ⟨ml, tp⟩ u h9 tk9 _ ⟨hf1, hf2⟩ F9 N9
          dsimp only at hf1 hf2 F9 N9
          have hml : ml = mailN sg sm 10 := hf1
          (try k_fold)
          exact (by
            k_steps
            refine Stop.out ?_
            have hyl9 : ys9.length = 10 := hst9.len_eq
            k_dflt (refine LCg.CompSrc.ledger (by rfl) (by k_asm) (by k_asm) (by k_mem) (by rw [List.size_toArray, hyl9]; decide) ?_)
            intro g9
            refine comp_strs dotted hst9 (fun r' t' I' oI' C' oC' D' m' ys' h' tk' E' hr' hC' hx' F' N' off' ne' => ?_) ?_
            · (try (simp only [LCg.Off3, and_true] at off'))
              intro hMark'
              (repeat (cases ‹_ ∧ _›))
              k_steps
              · exact kct_el (if_pos (by assumption)) rfl rfl
              · exact kct_el (if_neg (ne_true_of_eq_false (by assumption))) rfl rfl
            · intro ysd hstd
              (k_with "binaryOp Add ref ref" => (refine Stop.intro ?_))
              k_steps
              refine Stop.out ?_
              have hydl : ysd.length = 10 := hstd.len_eq
              k_dflt (refine' add_vs ?e1 ?e2 ?e3 ?e4 ?e5 ?_; (case e1 => k_asm); (case e2 => k_asm); (case e3 => kmk_list); (case e4 => kmk_list); (case e5 => (show ysd.length + 1 ≤ 1000; omega)))
              intro D' h' F' N' l1
              (try k_lt l1)
              (rename List.map _ _ = Txt.split _ _ => hls)
              (rename StrsAre (strValues _) _ => hss0)
              (rename List (Str × Tok) => ls)
              (rename Txt.split _ _ = sents _ ++ _ => hsp)
              rw [hls, hsp] at hss0
              rw [sents_eq] at hstd
              k_dflt (refine' ne_same ?f1 ?f2 ?f3 ?f4 ?f5 ?f6 ?f7 ?_; (case f1 => k_asm); (case f2 => k_mem); (case f3 => k_mem); (case f4 => exact hss0); (case f5 => exact strs_app hstd (.cons _ _ .nil)); (case f6 => exact sents_ok hok); (case f7 => first | ktr_units | ke_room))
              (k_with "pyIter ref" => (refine Stop.intro ?_))
              k_steps
              refine Stop.out ?_
              exact (by
                (rename News _ _ _ _ => N9)
                (rename Fr _ _ _ _ => F9)
                (rename IsRange _ _ _ _ _ _ _ _ => R9)
                have mk9 := kstMark
                refine turns_loop (sents sg) (fun c => (_, listOf c.fv.toArray c.fn) :: (_, listOf c.wv.toArray c.wn) :: (_, listOf (strValues ls).toArray 0) :: (_, _) :: (_, _) :: c.objs) (fun c => []) [Str.ofString "turned", Str.ofString "names"] ⟨[], 0, [], 0, []⟩
                  (by rfl) R9 (by decide) (rangeSize_nat 0 10) F9 (kst_newsOf N9 (List.forall_mem_cons.mpr ⟨.tail _ (.tail _ (.head _)), List.forall_mem_cons.mpr ⟨.tail _ (.head _), List.forall_mem_cons.mpr ⟨.tail _ (.tail _ (.tail _ (.tail _ (.tail _ (.tail _ (.head _)))))),
                    List.forall_mem_cons.mpr ⟨.tail _ (.tail _ (.tail _ (.tail _ (.tail _ (.tail _ (.tail _ (.tail _ (.tail _ (.tail _ (.head _)))))))))), List.forall_mem_cons.mpr ⟨.tail _ (.tail _ (.tail _ (.tail _ (.tail _ (.tail _ (.tail _ (.tail _ (.tail _ (.tail _ (.tail _ (.head _))))))))))), List.forall_mem_nil _⟩⟩⟩⟩⟩)) (List.forall_mem_nil _) ?ta ?tp ?tq ?td
                case ta =>
                  refine ⟨⟨?_, ?_, ?_, ?_, ?_, ?_, ?_⟩, List.forall_mem_nil _, List.forall_mem_nil _⟩ <;> (dsimp only; omega)
                case tp => exact ⟨.nil, Nat.le_refl _, Nat.le_refl _, fun v hv => (List.not_mem_nil hv).elim⟩
                case tq =>
                  clear F9 N9
                  rintro ⟨fv, fn, wv, wn, objs⟩ i t I oI u h9 tk9 hi hoff ⟨⟨b1, b2, b3, b4, b5, b6, b7⟩, hoF, hoW⟩ ⟨hfs, hfl, hwl, hW⟩ F9 N9
                  (repeat (rename (_ < _) ∧ _ => lz; clear lz))
                  dsimp only at b1 b2 b3 b4 b5 b6 b7 hoff hoF hoW hfs hfl hwl hW F9 N9
                  exact (by
                    have hi10 : i < 10 := hi
                    have hI1 := neN (hoff _ (.head _))
                    have hI2 := neN (hoff _ (.tail _ (.head _)))
                    have hI3 := neN (hoff _ (.tail _ (.tail _ (.head _))))
                    have hI4 := neN (hoff _ (.tail _ (.tail _ (.tail _ (.head _)))))
                    have hI5 := neN (hoff _ (.tail _ (.tail _ (.tail _ (.tail _ (.head _))))))
                    have hrl := sents_len sg
                    have hrok := sents_rows hok
                    have hlsl : ls.length = 11 := by
                      have := hss0.len_eq
                      rw [List.length_append, hrl] at this
                      simpa [strValues] using this
                    (try k_fold)
                    (k_with "binaryOp Add ref ref" => (refine Stop.intro ?_))
                    k_steps
                    refine Stop.out ?_
                    obtain ⟨y0, y1, y2, y3, y4, y5, y6, y7, y8, y9, q0, q1, q2, q3, q4, q5, q6, q7, q8, q9, hsum, hturn⟩ := turned_ten (j := 0 + (i : Int)) hss0 hrl hi10 (by omega)
                    have hro := turned_ok hrok i hrl
                    rw [hturn] at hro
                    have hst : StrsAre [.str y0 q0, .str y1 q1, .str y2 q2, .str y3 q3, .str y4 q4, .str y5 q5, .str y6 q6, .str y7 q7, .str y8 q8, .str y9 q9] [y0, y1, y2, y3, y4, y5, y6, y7, y8, y9] := by repeat constructor
                    k_dflt (refine' kmk_add_lit ?h1 ?h2 ?h3 ?h4 ?h5 ?_ ?h6; (case h1 => k_asm); (case h2 => k_asm); (case h3 => kmk_list); (case h4 => kmk_list); (case h5 => exact hsum); (case h6 => (show (kms_pick _ _ _).length + (kms_pick _ _ _).length ≤ _; rw [← List.length_append, hsum]; exact Nat.le_of_ble_eq_true rfl)))
                    intro D' h' F' N' l1
                    (try k_lt l1)
                    k_steps
                    refine Stop.out ?_
                    (rename StrsAre _ (walked _) => hva)
                    revert hva
                    (rename StrsAre _ (walked _) => hvb)
                    intro hva
                    have hnames : namesAt (sents sg) i = walked [y0, y1, y2, y3, y4, y5, y6, y7, y8, y9] := by
                      unfold namesAt
                      rw [hturn]
                    have hwok := walked_ok hro
                    have hwlen := walked_len [y0, y1, y2, y3, y4, y5, y6, y7, y8, y9] (List.cons_ne_nil _ _)
                    obtain ⟨n0, wr, hwk⟩ := walked_ne [y0, y1, y2, y3, y4, y5, y6, y7, y8, y9]
                    rw [hwk] at hva hvb hwok hwlen hnames
                    have hvl := hvb.len_eq
                    k_dflt (refine' ne_same ?i1 ?i2 ?i3 ?i4 ?i5 ?i6 ?i7 ?_; (case i1 => k_asm); (case i2 => k_mem); (case i3 => k_mem); (case i4 => with_reducible exact hvb); (case i5 => with_reducible exact hva); (case i6 => exact hwok); (case i7 => first | ktr_units | ke_room))
                    obtain ⟨_, tn, vr, _, rfl, hx, hvr, -⟩ := one_str hvb rfl
                    obtain ⟨rfl, rfl⟩ := List.cons.inj hx
                    have hvl10 : (Value.str n0 tn :: vr).length < 64 := by
                      rw [hvb.len_eq]
                      exact Nat.lt_of_le_of_lt hwlen (show 10 < 64 by decide)
                    have hT : TurnP (sents sg) i ⟨fv, fn, wv, wn, objs⟩ := ⟨hfs, hfl, hwl, hW⟩
                    k_steps
                    · (rename StrsAre _ _ => hS9)
                      (rename List.Perm _ _ => hp9)
                      (rename PyProof.Rows.sortedS _ = true => hs9)
                      (rename (n0 == y0) = true => hb1)
                      (rename (y0 != _) = true => hb2)
                      (rename News _ _ _ _ => nE)
                      (simp only [List.push_toArray] at nE)
                      refine st_end ⟨fv ++ [.str n0 tn], _, wv ++ [.ref _], _, (_, listOf (List.toArray _) _) :: objs⟩ (by assumption) nE (by first | kst_in | kst_inAny) (by first | k_mem | kst_mem) ?ua (List.forall_mem_nil _) ?ur ⟨⟨⟨b1, b2, b3, b4, b5, b6, b7⟩, ?o1, ?o2⟩, turn_add hT hrl hi10 hnames hturn (by simpa using hb1) (by simpa using hb2) hS9 hp9 hs9⟩
                      case o1 => exact List.forall_mem_cons.mpr ⟨neN (by omega), hoF⟩
                      case o2 => exact List.forall_mem_cons.mpr ⟨neN (by omega), hoW⟩
                      case ua => exact List.forall_mem_cons.mpr ⟨hI1, List.forall_mem_cons.mpr ⟨hI2, List.forall_mem_cons.mpr ⟨hI3, List.forall_mem_cons.mpr ⟨hI4, List.forall_mem_cons.mpr ⟨hI5, List.forall_mem_cons.mpr ⟨neN (by omega), fun p hp => hoff p (.tail _ (.tail _ (.tail _ (.tail _ (.tail _ hp)))))⟩⟩⟩⟩⟩⟩
                      case ur =>
                        intro z h1 h2 h3
                        have h4 : z ≠ Str.ofString "turned" := fun e => absurd (e ▸ h3) (by decide +kernel)
                        have h5 : z ≠ Str.ofString "names" := fun e => absurd (e ▸ h3) (by decide +kernel)
                        simp [kstB, h1, h4, h5]
                    · have hg : goodAt (sents sg) i = false := by
                        rw [good_is hnames hturn]
                        exact bad2 (by with_reducible assumption)
                      (rename News _ _ _ _ => nE)
                      refine st_end ⟨fv, fn, wv, wn, objs⟩ (by assumption) nE (by first | kst_in | kst_inAny) (by first | k_mem | kst_mem) ?ua (List.forall_mem_nil _) ?ur ⟨⟨⟨b1, b2, b3, b4, b5, b6, b7⟩, hoF, hoW⟩, turn_skip hT hg⟩
                      case ua => exact hoff
                      case ur =>
                        intro z h1 h2 h3
                        have h4 : z ≠ Str.ofString "turned" := fun e => absurd (e ▸ h3) (by decide +kernel)
                        have h5 : z ≠ Str.ofString "names" := fun e => absurd (e ▸ h3) (by decide +kernel)
                        simp [kstB, h1, h4, h5]
                    · have hg : goodAt (sents sg) i = false := by
                        rw [good_is hnames hturn]
                        exact bad1 (by with_reducible assumption)
                      (rename News _ _ _ _ => nE)
                      refine st_end ⟨fv, fn, wv, wn, objs⟩ (by assumption) nE (by first | kst_in | kst_inAny) (by first | k_mem | kst_mem) ?ua (List.forall_mem_nil _) ?ur ⟨⟨⟨b1, b2, b3, b4, b5, b6, b7⟩, hoF, hoW⟩, turn_skip hT hg⟩
                      case ua => exact hoff
                      case ur =>
                        intro z h1 h2 h3
                        have h4 : z ≠ Str.ofString "turned" := fun e => absurd (e ▸ h3) (by decide +kernel)
                        have h5 : z ≠ Str.ofString "names" := fun e => absurd (e ▸ h3) (by decide +kernel)
                        simp [kstB, h1, h4, h5])
                case td =>
                  clear F9 N9
                  rintro ⟨fv, fn, wv, wn, objs⟩ u h9 tk9 ⟨⟨b1, b2, b3, b4, b5, b6, b7⟩, hoF, hoW⟩ ⟨hfs, hfl, hwl, hW⟩ F9 N9
                  (repeat (rename (_ < _) ∧ _ => lz; clear lz))
                  dsimp only at b1 b2 b3 b4 b5 b6 b7 hoF hoW hfs hfl hwl hW F9 N9
                  exact (by
                    have mk9 := kstMark
                    (try k_fold)
                    have hsz : sg.cps.size ≤ sizeLine := by
                      rw [show sg.cps.size = 10 from hlen]
                      decide
                    k_steps
                    refine Stop.intro ?_
                    refine ⟨sg, _, _, rfl, by rfl, by k_asm, by k_asm, hsz, ?_⟩
                    rintro s2 ⟨g2, rfl⟩
                    refine comp_signs (fun c' t' I' oI' C' oC' D' m' ys' h' tk' E' hC' hx' F' N' off' ne' => ?_) ?_
                    · k_steps
                      · exact LCg.CompEnd.intro F' N' _ (fun p hp => hp) off' True.intro ⟨rfl, sign_ne (by with_reducible assumption)⟩
                      · exact LCg.CompEnd.intro F' N' _ (fun p hp => hp) off' True.intro ⟨rfl, sign_ne (by with_reducible assumption)⟩
                    · intro ysh hysh
                      have hhl := held_le sg hlen
                      have hfl9 : fv.length ≤ 10 := hfl
                      have hfc := firsts_count hok
                      have hfl2 : fv.length = (firstsTo (sents sg) 10).length := hfs.len_eq
                      rw [← hfl2] at hfc
                      have hfc1 : heldOf sg < 5 → (fv.length : Int) = 0 := fun h => hfc.trans (if_pos h)
                      have hfc2 : 5 ≤ heldOf sg → (fv.length : Int) = 2 * (heldOf sg : Int) - 10 := fun h => hfc.trans (if_neg (by omega))
                      clear hfc
                      replace hfs : StrsAre fv (firstsTo (sents sg) 10) := hfs
                      have hfl64 : fv.length < 64 := by omega
                      have hwl9 : wv.length ≤ 10 := hwl
                      k_steps
                      refine Stop.out ?_
                      k_dflt (refine LCt.CompSrcT.ledger (by rfl) (by k_asm) (by k_asm) (by k_mem) (by rw [List.size_toArray]; exact Nat.le_trans hwl9 (by decide)) ?_)
                      intro g9
                      refine comp_none (fun v' I' oI' C' oC' D' m' h' tk' E' hv' hC' hx' F' N' off' ne' => ?_) ?_
                      · obtain ⟨wa, vals, wnn, ss, tt, rfl, hmem, hS, hso, htt, hgd, hpm⟩ := hW v' (by simpa using hv')
                        have offO := off'
                        (try (simp only [LCg.Off3, and_true] at off'))
                        k_steps
                        refine Stop.out ?_
                        (rename List.Perm _ (firstsTo _ _) => hp9)
                        (rename PyProof.Rows.sortedS _ = true => hs9)
                        (rename StrsAre _ _ => hS9)
                        have hone := sorted_one hs9 hso (hp9.trans ((good_perm hok tt htt hgd).symm.trans hpm.symm))
                        rw [hone] at hS9
                        have hok9 : ∀ r ∈ ss, PyData.strOk r = true := fun r hr => firsts_ok sg hok r ((good_perm hok tt htt hgd).mem_iff.mp (hpm.mem_iff.mp hr))
                        k_dflt (refine' ne_same ?j1 ?j2 ?j3 ?j4 ?j5 ?j6 ?j7 ?_; (case j1 => k_asm); (case j2 => (repeat (first | exact hmem | apply List.Mem.tail))); (case j3 => k_mem); (case j4 => with_reducible exact hS); (case j5 => with_reducible exact hS9); (case j6 => exact hok9); (case j7 => first | ktr_units | ke_room))
                        k_steps
                        (rename News _ _ _ _ => nE)
                        exact LCg.CompEnd.intro (by assumption) nE _ (by first | kst_in | kst_inAny) offO (.inr ⟨_, by k_dflt k_mem, rfl, _, rfl⟩) rfl
                      · k_steps)))))
end
end Mine
theorem PySem.Challenge.cw_il0069_01_holds : PySem.Challenge.rw_il0069_01.Holds := by
  exact Mine.main
