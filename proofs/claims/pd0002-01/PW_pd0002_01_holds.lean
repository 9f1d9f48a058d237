import PyProof.Rows.All
import Wide.All
import OpenK.AllK
import Wide.FinOn
import Lean
import PySem.Challenge.RW_pd0002_01
set_option Elab.async false
set_option compiler.extract_closed false

/-! ## Hd0 -/
section
open PySem PySem.W PyProof.Rows
set_option maxRecDepth 100000
namespace Mine

/-- a run of the top on a tree of objects: the step and the let-by are handed in -/
noncomputable def runT (ok : Thread → Bool) (stp : SharedT → Thread → Option (SharedT × Thread)) : Nat → SharedT → Thread → Option SharedT
  | 0, _, _ => none
  | n + 1, s, t => match through t with
    | true => some s
    | false => match ok t with
      | false => none
      | true => match stp s t with
        | some r => runT ok stp n r.1 r.2
        | none => none
theorem runT_top {tb : String → Option Builtin} {p : Program} {w : World} {n₀ : Nat} {ann : Option Value} : ∀ (n : Nat) (s s' : SharedT) (t : Thread),
    runT (stepOk n₀ ann) (stepT (denote tb) p w) n s t = some s' → topRun tb p w n₀ ann n s.abs t = some s'.abs
  | 0, _, _, _, h => by cases h
  | n + 1, s, s', t, h => by
    unfold runT at h
    unfold topRun
    cases ht : through t with
    | true => rw [ht] at h; cases h; rfl
    | false =>
      rw [ht] at h
      cases hk : stepOk n₀ ann t with
      | false => rw [hk] at h; cases h
      | true =>
        rw [hk] at h
        cases hs : stepT (denote tb) p w s t with
        | none => rw [hs] at h; cases h
        | some r => obtain ⟨s₂, t₂⟩ := r; rw [hs] at h; dsimp only; rw [stepT_spec hs]; exact runT_top n s₂ s' t₂ h

/-- the opening's run on a tree -/
noncomputable def impT (ex : Thread → Option (List Value)) (stp : SharedT → Thread → Option (SharedT × Thread)) : Nat → SharedT → Thread → Option SharedT
  | 0, _, _ => none
  | n + 1, s, t => match ex t with
    | some [] => some s
    | some (_ :: _) => none
    | none => match stp s t with
      | some r => impT ex stp n r.1 r.2
      | none => none
theorem impT_ends {tb : String → Option Builtin} {p : Program} {w : World} : ∀ (n : Nat) (s s' : SharedT) (t : Thread),
    impT Thread.atExitBegin (stepT (denote tb) p w) n s t = some s' → importEnds tb p w n s.abs t = some s'.abs
  | 0, _, _, _, h => by cases h
  | n + 1, s, s', t, h => by
    unfold impT at h
    unfold importEnds
    cases ht : t.atExitBegin with
    | some l =>
      rw [ht] at h
      cases l with
      | nil => cases h; rfl
      | cons a r => cases h
    | none =>
      rw [ht] at h
      cases hs : stepT (denote tb) p w s t with
      | none => rw [hs] at h; cases h
      | some r => obtain ⟨s₂, t₂⟩ := r; rw [hs] at h; dsimp only; rw [stepT_spec hs]; exact impT_ends n s₂ s' t₂ h

/-- a tree of a list of objects -/
noncomputable def grow : List Obj → Nat → BT → Option BT
  | [], _, T => some T
  | o :: r, n, T => match (T.ins n o).get n with
    | some _ => grow r (n + 1) (T.ins n o)
    | none => none
theorem grow_abs {life : Life} : ∀ (l : List Obj) (n : Nat) (T T' : BT), grow l n T = some T' → absHeap T' (n + l.length) life = ⟨(absHeap T n life).objs ++ l.toArray, life⟩
  | [], n, T, T', h => by cases h; show absHeap T n life = _; simp; rfl
  | o :: r, n, T, T', h => by
    unfold grow at h
    cases g : (T.ins n o).get n with
    | none => rw [g] at h; cases h
    | some x =>
      rw [g] at h
      have e := grow_abs (life := life) r (n + 1) _ _ h
      rw [absHeap_ins (by rw [g]; rfl)] at e
      rw [List.length_cons, show n + (r.length + 1) = n + 1 + r.length by omega, e]
      show (⟨(absHeap T n life).objs.push o ++ r.toArray, life⟩ : Heap) = _
      congr 1
      apply Array.ext'
      simp
theorem absHeap_nil (life : Life) : absHeap .nil 0 life = ⟨#[], life⟩ := rfl
theorem grow_heap {h : Heap} {T : BT} (g : grow h.objs.toList 0 .nil = some T) : absHeap T h.objs.size h.life = h := by
  have e := grow_abs (life := h.life) _ _ _ _ g
  rw [absHeap_nil] at e
  simp only [Nat.zero_add, Array.length_toList] at e
  rw [e]
  obtain ⟨o, l⟩ := h
  simp

/-- the whole: the opening, the fence, the top, the looks; α: what is read off -/
noncomputable def whole {α β : Type} (m₀ : Nat) (ex : Thread → Option (List Value)) (stp0 stp1 : SharedT → Thread → Option (SharedT × Thread)) (ok : Thread → Bool) (fence : Shared → Option Shared) (os : OsState) (t0 t1 : Thread)
    (look0 : Shared → Bool) (look1 : Shared → Shared → Bool) (see : Shared → α) (obs : SharedT → β) (N : Nat) : Option (α × β) :=
  match impT ex stp0 N ⟨.nil, 0, {}, #[], {}, 1, os⟩ t0 with
  | none => none
  | some s => match fence s.abs with
    | none => none
    | some s₀ => match look0 s₀ with
      | false => none
      | true => match grow s₀.heap.objs.toList 0 .nil with
        | none => none
        | some T => match runT ok stp1 N ⟨T, m₀, s₀.heap.life, s₀.gens, s₀.drawn, s₀.toks, s₀.os⟩ t1 with
          | none => none
          | some s₁ => match look1 s₀ s₁.abs with
            | false => none
            | true => some (see s₁.abs, obs s₁)

noncomputable def isV (a b : Option Value) : Bool := decide (a = b)
noncomputable def start0 (m₀ : Nat) (ann : Option Value) (s₀ : Shared) : Bool := s₀.heap.isNs mainGlobals && s₀.gens.size == 0 && Nat.beq s₀.heap.objs.size m₀ && isV (s₀.heap.nsMap mainGlobals "__annotations__") ann

/-- the objects at the places, read off the tree -/
noncomputable def lookT (as : List Addr) (s : SharedT) : List (Option Obj) := as.map fun a => match Nat.ble (a + 1) s.n with
  | true => match s.tree.get a with
    | some o => match o.isFreed with
      | true => none
      | false => some o
    | none => none
  | false => none
theorem lookT_abs (as : List Addr) (s : SharedT) (hx : ∀ a ∈ as, (s.tree.get a).isSome = true) : lookT as s = as.map s.abs.heap.get? := by
  unfold lookT
  refine List.map_congr_left fun a ha => ?_
  show _ = (absHeap s.tree s.n s.life).get? a
  obtain ⟨o, ho⟩ := Option.isSome_iff_exists.mp (hx a ha)
  by_cases h : a < s.n
  · rw [show Nat.ble (a + 1) s.n = true from Nat.ble_eq.mpr h, abs_get h ho, ho]
    obtain ⟨c, d, dt, sl⟩ := o
    cases dt <;> rfl
  · rw [show Nat.ble (a + 1) s.n = false by rw [Bool.eq_false_iff]; intro q; exact h (Nat.ble_eq.mp q), abs_get_none h]
noncomputable def allT (as : List Addr) (s : SharedT) : Bool := as.all fun a => (s.tree.get a).isSome

theorem left_of {p q : Program} {loose : List Str} {Xt : Shared → Bool} {as : List Addr} {Ya : World → List (Option Obj)} {N : Nat} {m₀ : Nat} {ann : Option Value}
    (h : ∀ w : World, whole m₀ Thread.atExitBegin (stepT (denote treeTable) (opening p) w) (stepT (denote treeTable) p w) (stepOk m₀ ann) (fenceModules? p) (start (opening p)).1.os (start (opening p)).2 (topStub p)
        (start0 m₀ ann) (fun s₀ s₁ => staticsOk (importedModules p.main.body) s₀.heap s₁.heap && namesBound p s₁.heap && gensDone s₁ && laidKept s₀.heap s₁.heap)
        (openSeen q loose (importedModules p.main.body) Xt true) (fun s => (lookT as s, allT as s)) N = some (openGood q loose, (Ya w, true))) : LeftO p q loose Xt (fun s => as.map s.heap.get?) Ya N := fun w => by
  have h := h w
  unfold whole at h
  split at h
  · cases h
  rename_i s hs
  split at h
  · cases h
  rename_i s₀ hf
  split at h
  · cases h
  rename_i hl
  split at h
  · cases h
  rename_i T hT
  split at h
  · cases h
  rename_i s₁ hr
  split at h
  · cases h
  rename_i hk
  dsimp only at hk
  have e1 := impT_ends _ _ _ _ hs
  have e0 : (⟨.nil, 0, {}, #[], {}, 1, (start (opening p)).1.os⟩ : SharedT).abs = (start (opening p)).1 := rfl
  rw [e0] at e1
  have e2 := runT_top _ _ _ _ hr
  unfold start0 isV at hl
  simp only [Bool.and_eq_true, decide_eq_true_eq] at hl
  obtain ⟨⟨⟨z1, z2⟩, z3⟩, z4⟩ := hl
  have z3 := Nat.eq_of_beq_eq_true z3
  have e3 : (⟨T, m₀, s₀.heap.life, s₀.gens, s₀.drawn, s₀.toks, s₀.os⟩ : SharedT).abs = s₀ := by
    show (⟨absHeap T m₀ s₀.heap.life, s₀.gens, s₀.drawn, s₀.toks, s₀.os⟩ : Shared) = s₀
    rw [← z3, grow_heap hT]
  rw [e3] at e2
  unfold openEnds fencedOpening
  rw [e1]
  show ((fenceModules? p s.abs).bind _).map _ = _
  rw [hf]
  show (topFrom treeTable p w N s₀).map _ = _
  unfold topFrom
  rw [z1, z2, Bool.and_self, z3, z4]
  dsimp only
  rw [e2]
  dsimp only [Option.bind]
  rw [hk]
  have h := Option.some.inj h
  have h1 := congrArg Prod.fst h
  have h2 := congrArg (fun x => x.2.1) h
  have h3 := congrArg (fun x => x.2.2) h
  dsimp only at h1 h2 h3
  show some (openSeen q loose (importedModules p.main.body) Xt true s₁.abs, as.map s₁.abs.heap.get?) = _
  rw [h1, ← lookT_abs as s₁ (fun a ha => List.all_eq_true.mp h3 a ha), h2]
end Mine
end

/-! ## Hd1 -/
section
open PySem PySem.W PyProof.Rows
set_option maxRecDepth 100000
namespace Mine
noncomputable abbrev Pg : Program := PySem.Challenge.pw_pd0002_01
noncomputable def qv : Program := view PySem.Challenge.pw_pd0002_01 [0, 48]
noncomputable def looseV : List Str := [Str.ofString "_wall", Str.ofString "_whence", Str.ofString "_index", Str.ofString "UnsupportedOperation", Str.ofString "IOBase", Str.ofString "BufferedIOBase", Str.ofString "TextIOBase", Str.ofString "BytesIO", Str.ofString "StringIO", Str.ofString "_kind", Str.ofString "_fspath", Str.ofString "_check_arg_types", Str.ofString "check_arg_types_path", Str.ofString "isabs", Str.ofString "join", Str.ofString "join_path", Str.ofString "dirname", Str.ofString "shlex", Str.ofString "split", Str.ofString "_plain_name", Str.ofString "ABCMeta", Str.ofString "_ABCLike", Str.ofString "_abc_plain_meta", Str.ofString "fspath", Str.ofString "check_arg_types_genericpath", Str.ofString "_get_sep", Str.ofString "join_posixpath", Str.ofString "splitroot", Str.ofString "normpath", Str.ofString "_law_line", Str.ofString "_law_words", Str.ofString "_law_place", Str.ofString "_law_text", Str.ofString "_law_due", Str.ofString "_law_told"]

theorem left_ofF {p q : Program} {loose : List Str} {Xt : Shared → Bool} {as : List Addr} {Ya : World → List (Option Obj)} {N : Nat} {m₀ : Nat} {ann : Option Value}
    (h : ∀ w : World, whole m₀ Fast.tw3805553451399329143 (Fast.tw10156331382660048174 (Fast.tw11892475500146522536 Fast.tw14364793385576792824) (opening p) w) (Fast.tw10156331382660048174 (Fast.tw11892475500146522536 Fast.tw14364793385576792824) p w) (Fast.tw6613529449190102663 m₀ ann) (Fast.tw14289696077712309145 p) (start (opening p)).1.os (start (opening p)).2 (topStub p)
        (start0 m₀ ann) (fun s₀ s₁ => staticsOk (Fast.tw5923862056798008813 p.main.body) s₀.heap s₁.heap && namesBound p s₁.heap && gensDone s₁ && laidKept s₀.heap s₁.heap)
        (Fast.tw4187177175401517315 q loose (Fast.tw5923862056798008813 p.main.body) Xt true) (fun s => (lookT as s, allT as s)) N = some (openGood q loose, (Ya w, true))) : LeftO p q loose Xt (fun s => as.map s.heap.get?) Ya N := by
  refine left_of (m₀ := m₀) (ann := ann) fun w => ?_
  rw [Fast.te3805553451399329143, Fast.te10156331382660048174, Fast.te11892475500146522536, Fast.te14364793385576792824, Fast.te6613529449190102663, Fast.te14289696077712309145, Fast.te5923862056798008813, Fast.te4187177175401517315]
  exact h w

/-! the law is well said: piece by piece, each over the library's own twins -/
theorem bare0 : (["vars", "dir", "locals"] : List Str).filter (readsOut (OpenLaw.row PySem.Challenge.rw_pd0002_01).prog (OpenLaw.row PySem.Challenge.rw_pd0002_01).prog.main.body) = [] := by
  have h1 : readsOut (OpenLaw.row PySem.Challenge.rw_pd0002_01).prog (OpenLaw.row PySem.Challenge.rw_pd0002_01).prog.main.body "vars" = false := by
    rw [Fast.te13343964577679436407]
    decide +kernel
  have h2 : readsOut (OpenLaw.row PySem.Challenge.rw_pd0002_01).prog (OpenLaw.row PySem.Challenge.rw_pd0002_01).prog.main.body "dir" = false := by
    rw [Fast.te13343964577679436407]
    decide +kernel
  have h3 : readsOut (OpenLaw.row PySem.Challenge.rw_pd0002_01).prog (OpenLaw.row PySem.Challenge.rw_pd0002_01).prog.main.body "locals" = false := by
    rw [Fast.te13343964577679436407]
    decide +kernel
  rw [List.filter_cons_of_neg (by rw [h1]; decide), List.filter_cons_of_neg (by rw [h2]; decide), List.filter_cons_of_neg (by rw [h3]; decide), List.filter_nil]
set_option maxHeartbeats 0 in
theorem said_ok : OpenLaw.wellSaid PySem.Challenge.rw_pd0002_01 = true := by
  unfold OpenLaw.wellSaid OpenRow.wellSaid OpenRow.partSaid looksOpen
  rw [bare0]
  repeat' with_reducible apply look_both
  all_goals
    (try rw [Fast.te11788848310118352699])
    (try rw [Fast.te9807087744658564304])
    (try rw [Fast.te12862048085361865435])
    (try rw [Fast.te8377067652309620493])
    (try rw [Fast.te3471404346716756564])
    (try rw [Fast.te14412699480532031325])
    (try rw [Fast.te18344453789297297638])
    (try rw [Fast.te8326940854005059898])
    (try rw [Fast.te17691160309236699985])
    (try rw [Fast.te5923862056798008813])
    (try rw [Fast.te17119622794617984870])
    (try rw [Fast.te17868728402115742887])
    (try rw [Fast.te4857012375875476094])
    (try rw [Fast.te13582783067957832011])
    (try rw [Fast.te5318747976498570220])
    (try rw [Fast.te12749700546528644094])
    (try rw [Fast.te10501279942588096481])
    (try rw [Fast.te8179353310426384613])
    (try rw [Fast.te9572597257264208301])
    (try rw [Fast.te797321630700447069])
    (try rw [Fast.te9558739934217749035])
    (try rw [Fast.te16286561074155671207])
    (try rw [Fast.te6984425678791042302])
    (try rw [Fast.te17095254045102204799])
    (try rw [Fast.te12879404354523853263])
    (try rw [Fast.te482687673346738481])
    (try rw [Fast.te10792542408131684335])
    (try rw [Fast.te7723801398212525404])
    decide +kernel
theorem whole_ok : (OpenLaw.row PySem.Challenge.rw_pd0002_01).prog.tablesWhole = true := by
  unfold Program.tablesWhole TablesWhole.wProgram
  rw [Fast.te6116379765354995101]
  decide +kernel
end Mine
end

/-! ## Hd2 -/
section
open PySem PySem.W PyProof.Rows
set_option compiler.extract_closed false
set_option maxRecDepth 100000
set_option maxHeartbeats 0
namespace Mine
theorem headA {r : OpenRow} {d : DefRec} {kwd : List (Str × Expr)} (H : Hook) (left : LeftO r.prog qv looseV (fun s => xlAt qv [] s && recOk [] s) H.obs H.val 11750)
    (hdef : defOf qv r.name = some (d, kwd)) (hp : r.prog.theDef r.name = some (d.params, d.body, d.scope)) (hk : kwWritten? d.params.kwonlyargs d.params.kw_defaults = some kwd)
    (hr : r.records = []) (hwr : (!r.writes || r.records.isEmpty) = true) (k1 : r.wellSaid = true) (ok : (chainsOk qv && opensWell r.prog && (frees r.toRowW && r.within.isEmpty)) = true) (hb : r.prog.bare) (hw : r.toRowW.promised)
    (call : WalkO qv looseV (XL qv []) H.says r.toRowW d kwd fun f vs => PySem.call f vs) : r.Holds :=
  holds_open left H.of H.keeps (fun s e => xl_of s (Bool.and_eq_true_iff.mp e).1) XL.keeps hdef hp hk (fun s e => hr ▸ recFacts_of (Bool.and_eq_true_iff.mp e).2) hwr k1 ok hb hw call
local macro_rules | `(tactic| o_law) => `(tactic| refine holds_law said_ok fun said => ?_)
local macro_rules | `(tactic| o_head $H) => do
  let hw := Lean.mkIdent `hw
  let hc := Lean.mkIdent `hc
  `(tactic| refine headA $H (left_ofF (m₀ := 29) (ann := some (Value.ref 6)) (fun w => by kernel_rfl)) (by rfl) (by rfl) (by rfl) rfl (by rfl) (by assumption) (by decide +kernel) ⟨rfl, rfl, rfl, rfl, rfl, whole_ok⟩ ?$hw ?$hc)
open_top hd for PySem.Challenge.rw_pd0002_01
end Mine
end

section
open PySem PySem.W PyProof.Rows PySem.Calls
set_option maxRecDepth 100000
namespace Mine
local macro_rules | `(tactic| omega) => `(tactic| lia)
local macro_rules | `(tactic| k_qdec) => `(tactic| decide +kernel)
local macro_rules | `(tactic| walk_at $s:str) => `(tactic| k_extra $s)
local macro_rules | `(tactic| k_steps) => `(tactic| k_extra "steps")
local macro_rules | `(tactic| k_room) => `(tactic| ktr_room)
local macro_rules | `(tactic| k_units) => `(tactic| ktr_units)
local macro_rules | `(tactic| ktr_units) => `(tactic| k_extra "units")

/-! ## Ct -/
section
noncomputable abbrev Led := List (Addr × Obj)

section
variable {prog : Program} {w : World} {A₀ A : Around} {s : Shared} {base h₀ : Heap} {outer : List Env} {L : Addr} {m : Str → Option Value} {env : Env} {led rest : Led} {K : Frag}
  {R : Result → Shared → Prop} {name qual : Str} {params : Arguments} {body : List Stmt} {scope : Scope} {dV kV doc pm cdv ct oc : Value} {an od : Option Addr} {osl : Array (Option Value)} {f : Addr} {args : Args} {binds : List (Str × Value)}
  {p : Program} {loose : List Str} {mean : ExcName → Option Value} {mg mb : Str → Option Value}

noncomputable def LeaveR (h₀ : Heap) (L : Addr) (m : Str → Option Value) (rest : Led) (g : Heap) (R : Result → Shared → Prop) (v : Value) (s' : Shared) : Prop :=
  ∃ L' m' led', Fr g L' s'.heap m' ∧ News g L' s'.heap led' ∧ (Fr h₀ L s'.heap m → News h₀ L s'.heap (led' ++ rest) → (∀ p ∈ rest, ∀ q ∈ led', q.1 ≠ p.1) → R (.ok (.ret v)) s')

theorem groundR (B : Below A₀ base outer h₀) (F : Fr h₀ L s.heap m) (N : News h₀ L s.heap (led ++ rest)) (ap : ∀ p ∈ rest, p.1 ∉ led.map (·.1)) (hA : A.frames = some (env :: outer)) (hf : env.frame = some L) (hke : env.scope.kind = .function) :
    Below A base (env :: outer) (hideAll s.heap (led.map (·.1))) ∧ h₀.StaysIn (hideAll s.heap (led.map (·.1))) ∧
      (∀ (s' : Shared) (L' : Addr) (m' : Str → Option Value) (led' : Led), Fr (hideAll s.heap (led.map (·.1))) L' s'.heap m' → News (hideAll s.heap (led.map (·.1))) L' s'.heap led' → Fr h₀ L s'.heap m ∧ News h₀ L s'.heap (led' ++ rest) ∧ (∀ p ∈ rest, ∀ q ∈ led', q.1 ≠ p.1)) := by
  have Nl : News h₀ L s.heap led := fun p hp => N p (List.mem_append_left _ hp)
  obtain ⟨⟨⟨oL, es, ep, hLg, hLr⟩, _, _⟩, BG, st, _⟩ := groundX (R := fun _ _ => True) B F Nl hA hf hke
  refine ⟨BG, st, fun s' L' m' led' F' N' => ?_⟩
  have rg : ∀ p ∈ rest, (hideAll s.heap (led.map (·.1))).get? p.1 = some p.2 := fun p hp => hideAll_get _ (N p (List.mem_append_right _ hp)).1 (ap p hp)
  refine ⟨⟨⟨oL, es, ep, F'.keep L oL hLg, hLr⟩, fun b o e => F'.keep b o (st b o e), F.above⟩, fun p hp => ?_, fun p hp q hq e => ?_⟩
  · rcases List.mem_append.mp hp with hp | hp
    · refine ⟨(N' p hp).1, fun q => ?_, ?_⟩
      · have := (N' p hp).2.2; rw [q, hLg] at this; cases this
      · cases q : h₀.get? p.1 with
        | none => rfl
        | some o => have := (N' p hp).2.2; rw [st _ _ q] at this; cases this
    · exact ⟨F'.keep _ _ (rg p hp), (N p (List.mem_append_right _ hp)).2⟩
  · have := (N' q hq).2.2; rw [e, rg p hp] at this; cases this

theorem enterR (B : Below A₀ base outer h₀) (F : Fr h₀ L s.heap m) (X₀ : K.In h₀) (N : News h₀ L s.heap (led ++ rest)) (ap : ∀ p ∈ rest, p.1 ∉ led.map (·.1)) (T : Top p loose mean mg mb h₀) (hA : A.frames = some (env :: outer)) (hf : env.frame = some L) (hke : env.scope.kind = .function)
    (ho : K.lookup f = some ⟨oc, od, .func (fnOf name qual params body scope dV kV doc pm an cdv ct), osl⟩) (hcd : codeIn K cdv qual = true) (hroom : A.depth < recursionLimit)
    (hbind : BindsTo s (fnOf name qual params body scope dV kV doc pm an cdv ct) args binds) (hloc : ∀ y ∈ binds, scope.names.lookup y.1 = some .local)
    (h : ∀ g L' h₁, Fr g L' h₁ (fun y => binds.reverse.lookup y) → News g L' h₁ led → Below A base (env :: outer) g → K.In g → Top p loose mean mg mb g → (∀ p ∈ led, p.1 < L') → h₀.StaysIn g →
      wpAny (model prog w) (A.deeper (envOf qual scope L' f cdv)) (execs body (envOf qual scope L' f cdv))
        (fun fl s' => LeaveR h₀ L m rest g R (match fl with | .ret v => v | _ => .none) s')
        (fun e s' => wpAny (model prog w) (A.deeper (envOf qual scope L' f cdv)) (leaving (envOf qual scope L' f cdv) e) (fun _ s'' => R (.error e) s'') (fun e' s'' => R (.error e') s'') s')
        { s with heap := h₁, toks := s.toks + binds.length })
    (hco : scope.isCoroutine = false) (hgen : scope.isGenerator = false) (hk : scope.kind = .function)
    (hcell : ∀ x ∈ scope.names, x.2 ≠ .cell) : codeAny (model prog w) A (.call (.ref f) args) R s := by
  obtain ⟨BG, st, back⟩ := groundR B F N ap hA hf hke
  have X := X₀.keeps F.keep
  refine codeAny_call_def (fd := fnOf name qual params body scope dV kV doc pm an cdv ct) (body := body) (binds := binds) hroom (X _ _ ho) rfl (T.nolimit.keeps F.keep) (codeRec_of X hcd) rfl hbind hcell hloc (fun h₁ hns hk₁ => ?_) hco hgen hk
  have Nl : News h₀ L s.heap led := fun p hp => N p (List.mem_append_left _ hp)
  refine wpAny_mono (h _ s.heap.objs.size h₁ ⟨hns, fun b o e => hk₁ b o (of_hideAll _ e), Nat.le_of_eq (hideAll_size _ _)⟩
    (fun p hp => ⟨hk₁ _ _ (Nl p hp).1, Nat.ne_of_lt (Heap.lt_size (Nl p hp).1), hideAll_none _ (List.mem_map_of_mem hp)⟩) BG (X₀.keeps st) (T.keeps st) (fun p hp => Heap.lt_size (Nl p hp).1) st) (fun fl s' hl => ?_) fun _ _ y => y
  obtain ⟨L', m', led', F', N', k⟩ := hl
  obtain ⟨a, b, c⟩ := back s' L' m' led' F' N'
  exact k a b c

theorem leaveR_ {g : Heap} {L' : Addr} {m' : Str → Option Value} {led' : Led} {v : Value} {s' : Shared} (F' : Fr g L' s'.heap m') (N' : News g L' s'.heap led')
    (k : Fr h₀ L s'.heap m → News h₀ L s'.heap (led' ++ rest) → (∀ p ∈ rest, ∀ q ∈ led', q.1 ≠ p.1) → R (.ok (.ret v)) s') : LeaveR h₀ L m rest g R v s' := ⟨L', m', led', F', N', k⟩
end

noncomputable abbrev LO : List Str := looseW qv looseV

/-- what a call of the def at f does, upon the objects led (all else stays as it is) -/
noncomputable def Does (w : World) (f : Addr) (d u : Nat) (vs : List Value) (led : Led) (post : Value → Led → Prop) : Prop :=
  ∀ (mean : ExcName → Option Value) (mg mb : Str → Option Value) (dp un : Nat) (gd : Option (List Code)) (cn : Str) (cs : Scope) (a : Addr) (ccd : Value) (cl : List (Str × Addr)) (outer : List Env) (A₀ : Around) (base h₀ : Heap) (L : Addr) (m : Str → Option Value) (s : Shared) (rest : Led) (Q E : Value → Shared → Prop),
    Below A₀ base outer h₀ → Fr h₀ L s.heap m → (hd.heap_1 w.params).In h₀ → News h₀ L s.heap (led ++ rest) → (∀ p ∈ rest, p.1 ∉ led.map (·.1)) → Top qv (looseW qv looseV) mean mg mb h₀ → cs.kind = .function → dp + d < recursionLimit → un + u < cLine →
    (∀ v led' h' tk', post v led' → Fr h₀ L h' m → News h₀ L h' (led' ++ rest) → (∀ p ∈ rest, ∀ q ∈ led', q.1 ≠ p.1) → Q v { s with heap := h', toks := tk' }) →
    wpAny (model (OpenLaw.prog PySem.Challenge.rw_pd0002_01) w) (ktrTop dp un gd cn cs L a ccd cl outer) (call (.ref f) vs) Q E s

/-- a call that changes nothing and hands back no object -/
noncomputable abbrev DoesP (w : World) (f : Addr) (d u : Nat) (vs : List Value) (post : Value → Prop) : Prop := Does w f d u vs [] (fun v led => post v ∧ led = [])

section
variable {w : World} {f : Addr} {d u : Nat} {vs : List Value} {led : Led} {post : Value → Led → Prop} {mean : ExcName → Option Value} {mg mb : Str → Option Value} {dp un : Nat} {gd : Option (List Code)} {cn : Str} {cs : Scope} {a : Addr} {ccd : Value} {cl : List (Str × Addr)} {outer : List Env} {A₀ : Around} {base h₀ : Heap} {L : Addr} {m : Str → Option Value} {s : Shared} {rest : Led} {Q E : Value → Shared → Prop}
theorem Does.use (C : Does w f d u vs led post) (B : Below A₀ base outer h₀) (F : Fr h₀ L s.heap m) (X : (hd.heap_1 w.params).In h₀) (N : News h₀ L s.heap (led ++ rest)) (ap : ∀ p ∈ rest, p.1 ∉ led.map (·.1)) (T : Top qv (looseW qv looseV) mean mg mb h₀) (hk : cs.kind = .function) (hd : dp + d < recursionLimit) (hu : un + u < cLine)
    (ret : ∀ v led' h' tk', post v led' → Fr h₀ L h' m → News h₀ L h' (led' ++ rest) → (∀ p ∈ rest, ∀ q ∈ led', q.1 ≠ p.1) → Q v { s with heap := h', toks := tk' }) :
    wpAny (model (OpenLaw.prog PySem.Challenge.rw_pd0002_01) w) (ktrTop dp un gd cn cs L a ccd cl outer) (call (.ref f) vs) Q E s :=
  C _ _ _ _ _ _ _ _ _ _ _ _ _ _ _ _ _ _ _ _ _ B F X N ap T hk hd hu ret
theorem DoesP.use {post : Value → Prop} (C : DoesP w f d u vs post) (B : Below A₀ base outer h₀) (F : Fr h₀ L s.heap m) (X : (hd.heap_1 w.params).In h₀) (N : News h₀ L s.heap rest) (T : Top qv (looseW qv looseV) mean mg mb h₀) (hk : cs.kind = .function) (hd : dp + d < recursionLimit) (hu : un + u < cLine)
    (ret : ∀ v h' tk', post v → Fr h₀ L h' m → News h₀ L h' rest → Q v { s with heap := h', toks := tk' }) :
    wpAny (model (OpenLaw.prog PySem.Challenge.rw_pd0002_01) w) (ktrTop dp un gd cn cs L a ccd cl outer) (call (.ref f) vs) Q E s :=
  Does.use (rest := rest) C B F X N (fun _ _ => List.not_mem_nil) T hk hd hu (fun v led' h' tk' hp F' N' _ => by obtain ⟨hp, rfl⟩ := hp; exact ret v h' tk' hp F' N')
end
end

/-! ## P1 -/
section
section
variable {prog : Program} {w : World} {A : Around} {E : Value → Shared → Prop}
theorem is_sub_str : isSubtype (.type "str") (.type "str") = pure true := by rw [isSubtype_type]; kernel_rfl
theorem kind_isn : builtinKind "issubclass.nested" = none := by decide +kernel
theorem plain_isn : plainId "issubclass.nested" = true := by decide +kernel
theorem args_isn (a b c : Value) : argsOk "issubclass.nested" ⟨[a, b, c], []⟩ := by unfold argsOk; kernel_rfl
theorem type_str_type : typeOf (.type "str") = pure (.type "type") := by kernel_rfl
theorem issub_one {dep : Int} {tk : Tok} {s : Shared} {Q : Fin → Shared → Prop} (hq : Q (.done (.ret (.bool true))) s) :
    wpAny (model prog w) A (Builtin.«issubclass.nested» ⟨[.type "str", .type "str", .int dep tk], []⟩) Q E s := by
  have f1 := is_sub_str
  have f2 := type_str_type
  repeat (any_goals (first | assumption | (rw [if_pos (show (Value.type "type" == Value.type "type") = true from rfl)]) | (rw [f1]) | wp_step))
theorem issub_nested {tp : Addr} {cs : List Value} (hcs : cs = [.type "str", .type "bytes"]) {s : Shared} {Q : Fin → Shared → Prop} {tk : Tok} (htp : s.heap.get? tp = some { cls := .type "tuple", data := .seq cs.toArray })
    (hq : Q (.done (.ret (.bool true))) s) : wpAny (model prog w) A (Builtin.«issubclass.nested» ⟨[.type "str", .ref tp, .int 0 tk], []⟩) Q E s := by
  obtain ⟨h, g, d, t, os⟩ := s
  have hT2 : (⟨h, g, d, t, os⟩ : Shared).TypeIs (.ref tp) "tuple" := ⟨_, htp, rfl⟩
  have f1 := F.isi_sub_tuple
  repeat (any_goals (first | assumption | wp_step))
  refine wpAny_arrayLoop ?_
  simp only [Option.getD_some, List.toList_toArray]
  subst hcs
  rw [List.forIn_cons]
  refine wpAny_bind (wpAny_bind (call_function_meets kind_isn plain_isn F.entry_issubclass_nested (args_isn _ _ _) (S := fun _ R s => R (.ok (.ret (.bool true))) s) (fun _ _ _ _ _ hs => issub_one hs) ?_))
  show wpAny _ _ (truthy (.bool true) >>= _) _ _ _
  refine wpAny_bind (m := truthy (.bool true)) (wpAny_pure ?_)
  exact wpAny_bind (wpAny_pure (wpAny_pure (wpAny_pure (wpAny_pure hq))))
theorem issub_call {tp : Addr} {s : Shared} {Q : Value → Shared → Prop} (htp : s.heap.get? tp = some { cls := .type "tuple", data := .seq [.type "str", .type "bytes"].toArray })
    (h : Q (.bool true) s) : wpAny (model prog w) A (call (.builtin "issubclass") [.type "str", .ref tp]) Q E s :=
  call_issubclass (S := fun _ R s => s.heap.get? tp = some { cls := .type "tuple", data := .seq [.type "str", .type "bytes"].toArray } ∧ R (.ok (.ret (.bool true))) s) (fun _ _ _ _ _ hs => issubclass_outer (issub_nested rfl hs.1 hs.2)) ⟨htp, h⟩
end

theorem offP1 : True := by
  (w_top off)
  k_with_none
  k_with "call builtin:issubclass" => ((k_here; (with_reducible show wpAny _ _ (call (Value.builtin "issubclass") [Value.type "str", Value.ref _]) _ _ _); refine issub_call (News.get (by k_asm) (by k_mem)) ?_))
  trivial

set_option maxHeartbeats 4000000 in
theorem c_fspath (w : World) (x : Str) (t : Tok) : DoesP w 807 2 20 [.str x t] (fun v => v = .str x t) := by
  unfold DoesP Does
  k_fill
  intro mean mg mb dp un gd cn cs a ccd cl outer A₀ base h₀ L m s rest Q E hB hF hK hN hap hT hcs hd hu hret
  k_dflt (refine wpAny_call ?_; (refine' enterR (binds := [(Str.ofString "path", .str x t)]) ?k1 ?k2 ?k3 ?k4 ?kp ?k5 ?kA ?kF ?kK ?k6 ?k7 ?k8 ?k9 ?kB ?_ ?c2 ?c3 ?c4 ?c5; (case kA => exact rfl); (case kF => exact rfl); (case kK => assumption); (case k1 => k_asm); (case k2 => k_asm); (case k3 => k_asm); (case k4 => k_asm); (case kp => k_asm); (case k5 => k_asm); (case k6 => k_is); (case k7 => k_is); (case k8 => ktr_room); (case k9 => first | exact BindsTo.of_eq rfl | exact binds_K (by k_in) rfl (by k_is) rfl rfl rfl); (case c5 => decide); (case kB => exact locs rfl); (case c2 => exact rfl); (case c3 => exact rfl); (case c4 => exact rfl); k_whole; intro _ _ _ _ _ _ _ _ _ _; (try dsimp only); (try k_fold)))
  k_steps
  refine leaveR_ (by k_asm) News.nil ?_; intro kF kN kD; exact hret _ _ _ _ ⟨rfl, rfl⟩ kF kN kD

set_option maxHeartbeats 4000000 in
theorem c_get_sep (w : World) (x : Str) (t : Tok) : DoesP w 821 2 20 [.str x t] (fun v => ∃ t, v = .str (Str.ofString "/") t) := by
  unfold DoesP Does
  k_fill
  intro mean mg mb dp un gd cn cs a ccd cl outer A₀ base h₀ L m s rest Q E hB hF hK hN hap hT hcs hd hu hret
  k_dflt (refine wpAny_call ?_; (refine' enterR (binds := [(Str.ofString "path", .str x t)]) ?k1 ?k2 ?k3 ?k4 ?kp ?k5 ?kA ?kF ?kK ?k6 ?k7 ?k8 ?k9 ?kB ?_ ?c2 ?c3 ?c4 ?c5; (case kA => exact rfl); (case kF => exact rfl); (case kK => assumption); (case k1 => k_asm); (case k2 => k_asm); (case k3 => k_asm); (case k4 => k_asm); (case kp => k_asm); (case k5 => k_asm); (case k6 => k_is); (case k7 => k_is); (case k8 => ktr_room); (case k9 => first | exact BindsTo.of_eq rfl | exact binds_K (by k_in) rfl (by k_is) rfl rfl rfl); (case c5 => decide); (case kB => exact locs rfl); (case c2 => exact rfl); (case c3 => exact rfl); (case c4 => exact rfl); k_whole; intro _ _ _ _ _ _ _ _ _ _; (try dsimp only); (try k_fold)))
  k_steps
  refine leaveR_ (by k_asm) News.nil ?_; intro kF kN kD; exact hret _ _ _ _ ⟨⟨_, rfl⟩, rfl⟩ kF kN kD
end

/-! ## P2 -/
section
theorem offP2 : True := by
  (w_top off)
  k_with_none
  k_with "call builtin:issubclass" => ((k_here; (with_reducible show wpAny _ _ (call (Value.builtin "issubclass") [Value.type "str", Value.ref _]) _ _ _); refine issub_call (News.get (by k_asm) (by k_mem)) ?_))
  k_with "call ref" => (((with_reducible show wpAny _ _ (call (Value.ref 807) _) _ _ _); k_dflt ((refine' DoesP.use (c_fspath _ _ _) ?k1 ?k2 ?k3 ?k4 ?k5 ?kK ?kd ?ku ?_; (case k1 => k_asm); (case k2 => k_asm); (case k3 => k_asm); (case k4 => k_asm); (case k5 => k_asm); (case kK => first | exact rfl | assumption); (case kd => ktr_room); (case ku => ktr_units); k_whole; intro _ _ _ P9 _ _; (first | subst P9 | (obtain ⟨_, P9⟩ := P9; subst P9)); (try dsimp only); (try k_fold)))))
  k_with "call ref" => (((with_reducible show wpAny _ _ (call (Value.ref 821) _) _ _ _); k_dflt ((refine' DoesP.use (c_get_sep _ _ _) ?k1 ?k2 ?k3 ?k4 ?k5 ?kK ?kd ?ku ?_; (case k1 => k_asm); (case k2 => k_asm); (case k3 => k_asm); (case k4 => k_asm); (case k5 => k_asm); (case kK => first | exact rfl | assumption); (case kd => ktr_room); (case ku => ktr_units); k_whole; intro _ _ _ P9 _ _; (first | subst P9 | (obtain ⟨_, P9⟩ := P9; subst P9)); (try dsimp only); (try k_fold)))))
  trivial


noncomputable abbrev tupO (vs : List Value) : Obj := { cls := .type "tuple", data := .seq vs.toArray }
noncomputable def srRoot (x : Str) : Str := if (Txt.slice x none (some 1) != Str.ofString "/") = true then Str.ofString "" else if (Txt.slice x (some 1) (some 2) != Str.ofString "/") = true then Str.ofString "/" else if (Txt.slice x (some 2) (some 3) == Str.ofString "/") = true then Str.ofString "/" else Txt.slice x none (some 2)
noncomputable def srRest (x : Str) : Str := if (Txt.slice x none (some 1) != Str.ofString "/") = true then x else if (Txt.slice x (some 1) (some 2) != Str.ofString "/") = true then Txt.slice x (some 1) none else if (Txt.slice x (some 2) (some 3) == Str.ofString "/") = true then Txt.slice x (some 1) none else Txt.slice x (some 2) none

set_option maxHeartbeats 4000000 in
theorem c_splitroot (w : World) (x : Str) (t : Tok) (hx : x.length ≤ 1048576) : Does w 835 4 40 [.str x t] [] (fun v led => ∃ a t1 t2 t3 r q, v = .ref a ∧ led = [(a, tupO [.str (Str.ofString "") t1, .str r t2, .str q t3])] ∧ r = srRoot x ∧ q = srRest x) := by
  unfold Does
  k_fill
  intro mean mg mb dp un gd cn cs a ccd cl outer A₀ base h₀ L m s rest Q E hB hF hK hN hap hT hcs hd hu hret
  k_dflt (refine wpAny_call ?_; (refine' enterR (binds := [(Str.ofString "p", .str x t)]) ?k1 ?k2 ?k3 ?k4 ?kp ?k5 ?kA ?kF ?kK ?k6 ?k7 ?k8 ?k9 ?kB ?_ ?c2 ?c3 ?c4 ?c5; (case kA => exact rfl); (case kF => exact rfl); (case kK => assumption); (case k1 => k_asm); (case k2 => k_asm); (case k3 => k_asm); (case k4 => k_asm); (case kp => k_asm); (case k5 => k_asm); (case k6 => k_is); (case k7 => k_is); (case k8 => ktr_room); (case k9 => first | exact BindsTo.of_eq rfl | exact binds_K (by k_in) rfl (by k_is) rfl rfl rfl); (case c5 => decide); (case kB => exact locs rfl); (case c2 => exact rfl); (case c3 => exact rfl); (case c4 => exact rfl); k_whole; intro _ _ _ _ _ _ _ _ _ _; (try dsimp only); (try k_fold)))
  k_steps
  all_goals (refine leaveR_ (by k_asm) (by k_asm) ?_; intro kF kN kD; refine hret _ _ _ _ ⟨_, _, _, _, _, _, rfl, rfl, ?_, ?_⟩ kF kN kD)
  all_goals (first | (unfold srRoot; simp only [*]; done) | (unfold srRest; simp only [*]; done) | (unfold srRoot; simp [*]; done) | (unfold srRest; simp [*]; done))
end

/-! ## Lp -/
section
noncomputable abbrev listO (vs : List Value) (n : Nat) : Obj := { cls := .type "list", data := .seq vs.toArray n }
noncomputable abbrev tupN (vs : List Value) (n : Nat) : Obj := { cls := .type "tuple", data := .seq vs.toArray n }

/-- the end of a turn: the iterator (I, io) stands beside the ledger -/
noncomputable def TurnPost (h₀ : Heap) (L I : Addr) (io : Obj) (J : (Str → Option Value) → Led → Prop) (s₁ : Shared) (Q : Flow → Shared → Prop) (f : Flow) (s₂ : Shared) : Prop :=
  match f with
  | .ret v => Q (.ret v) s₂
  | .brk => Q .next s₂
  | _ => ∃ h' tk m' news', s₂ = { s₁ with heap := h', toks := tk } ∧ Fr h₀ L h' m' ∧ News h₀ L h' ((I, io) :: news') ∧ (∀ p ∈ news', p.1 ≠ I) ∧ J m' news'

section
variable {prog : Program} {w : World} {A : Around} {E : Value → Shared → Prop} {s : Shared} {env : Env} {h₀ : Heap} {x : Str} {body : List Stmt} {Q : Flow → Shared → Prop}

theorem iter_seqG {l : Addr} {ol : Obj} {vs : List Value} {m₀ : Str → Option Value} {news : Led} {itO : Obj} {St : Addr → Nat → Heap → Prop} (J : Nat → (Str → Option Value) → Led → Prop)
    (F : Fr h₀ env.locals s.heap m₀) (N : News h₀ env.locals s.heap news) (hl : (l, ol) ∈ news)
    (W : ∀ I, l ≠ I → Walks prog w A I [I, l] [I] vs.length (fun i v => vs[i]? = some v) (St I))
    (hs : ∀ I i h, St I i h → ∃ o, h.get? I = some o) (h0 : St s.heap.objs.size 0 (s.heap.push itO)) (hfr : itO.isFreed = false)
    (hJ : ∀ i m₁ n₁, J i m₁ n₁ → (l, ol) ∈ n₁) (hj : J 0 m₀ news)
    (turn : ∀ i v m₁ news₁ h tk I io, vs[i]? = some v → J i m₁ news₁ → (∀ p ∈ news₁, p.1 ≠ I) → Fr h₀ env.locals h (fun y => if y = x then some v else m₁ y) → News h₀ env.locals h ((I, io) :: news₁) →
      wpAny (model prog w) A (execs body env) (TurnPost h₀ env.locals I io (J (i + 1)) { s with heap := h, toks := tk } Q) E { s with heap := h, toks := tk })
    (done : ∀ m₁ news₁ h tk, J vs.length m₁ news₁ → Fr h₀ env.locals h m₁ → News h₀ env.locals h news₁ → Q .next { s with heap := h, toks := tk }) :
    LoopAtV prog w A h₀ env x body Q E (.ref s.heap.objs.size) { s with heap := s.heap.push itO } := by
  have hol := (N _ hl).1
  have hne : l ≠ s.heap.objs.size := Nat.ne_of_lt (Heap.lt_size hol)
  refine ⟨_, _, _, vs.length, _, _, m₀, news, J, rfl, W _ hne, ?_, ?_, ?_, h0, F.push _, (fun p hp => ⟨Heap.get?_push_of_some _ (N p hp).1, (N p hp).2⟩), hj, ?_, ?_⟩
  · intro hm
    rcases List.mem_cons.mp hm with e | hm
    · exact absurd F.ns.lt (e ▸ Nat.lt_irrefl _)
    · have e := List.mem_singleton.mp hm
      exact (N _ hl).2.1 e.symm
  · intro b hb
    rw [List.mem_singleton.mp hb]
    exact next_is_new F
  · intro p hp hI
    exact absurd (Heap.lt_size (N p hp).1) ((List.mem_singleton.mp hI) ▸ Nat.lt_irrefl _)
  · rintro i v m₁ news₁ s₁ own ⟨hh', tk', rfl⟩ hin hP hJi hoff hfp hown hall hSt F₁ N₁
    obtain ⟨io, hio⟩ := hs _ _ _ hSt
    have hI : (s.heap.objs.size, io) ∈ own := hall _ (by simp) (next_is_new F) io hio
    have nI : ∀ p ∈ news₁, p.1 ≠ s.heap.objs.size := fun p hp e => hoff p hp (by simp [e])
    have N₂ : News h₀ env.locals hh' ((s.heap.objs.size, io) :: news₁) := fun p hp => by
      rcases List.mem_cons.mp hp with rfl | hp
      · exact N₁ _ (List.mem_append_left _ hI)
      · exact N₁ p (List.mem_append_right _ hp)
    refine wpAny_mono (turn i v m₁ news₁ hh' tk' _ io hP hJi nI F₁ N₂) (fun f s₂ p => ?_) fun _ _ e => e
    have fin : (∃ h' tk m' news', s₂ = { s with heap := h', toks := tk } ∧ Fr h₀ env.locals h' m' ∧ News h₀ env.locals h' ((s.heap.objs.size, io) :: news') ∧ (∀ p ∈ news', p.1 ≠ s.heap.objs.size) ∧ J (i + 1) m' news') →
        LoopStepU h₀ env.locals [s.heap.objs.size] own (J (i + 1)) { s with heap := hh', toks := tk' } .next s₂ := by
      rintro ⟨h', tk, m', news', e, F', N', hn, hJ'⟩
      refine ⟨rfl, h', tk, m', news', e, F', fun p hp => ?_, fun p hp q => hn p hp (List.mem_singleton.mp q), hJ'⟩
      rcases List.mem_append.mp hp with hp | hp
      · have hg := hown p hp
        rcases List.mem_cons.mp (hfp p hp) with e1 | e1
        · have : p = (s.heap.objs.size, io) := by
            obtain ⟨a, o⟩ := p
            dsimp only at e1 hg
            subst e1
            rw [hio] at hg
            cases hg; rfl
          rw [this]
          exact N' _ (.head _)
        · have e1 := List.mem_singleton.mp e1
          have : p = (l, ol) := by
            obtain ⟨a, o⟩ := p
            dsimp only at e1 hg
            subst e1
            have := (N₁ _ (List.mem_append_right _ (hJ _ _ _ hJi))).1
            dsimp only at this
            rw [hg] at this
            cases this; rfl
          rw [this]
          exact N' _ (.tail _ (hJ _ _ _ hJ'))
      · exact N' p (.tail _ hp)
    cases f with
    | ret v => exact .ret p
    | brk => exact .brk p
    | next => exact .next (fin p)
    | cont => exact .cont (fin p)
  · rintro h' tk m' news' F' N' _ hJ'
    exact done m' news' h' tk hJ' F' N'

theorem iter_list {l : Addr} {vs : List Value} {n : Nat} {m₀ : Str → Option Value} {news : Led} (J : Nat → (Str → Option Value) → Led → Prop) (hh : A.handled = none)
    (F : Fr h₀ env.locals s.heap m₀) (N : News h₀ env.locals s.heap news) (hl : (l, listO vs n) ∈ news)
    (hJ : ∀ i m₁ n₁, J i m₁ n₁ → (l, listO vs n) ∈ n₁) (hj : J 0 m₀ news)
    (turn : ∀ i v m₁ news₁ h tk I io, vs[i]? = some v → J i m₁ news₁ → (∀ p ∈ news₁, p.1 ≠ I) → Fr h₀ env.locals h (fun y => if y = x then some v else m₁ y) → News h₀ env.locals h ((I, io) :: news₁) →
      wpAny (model prog w) A (execs body env) (TurnPost h₀ env.locals I io (J (i + 1)) { s with heap := h, toks := tk } Q) E { s with heap := h, toks := tk })
    (done : ∀ m₁ news₁ h tk, J vs.length m₁ news₁ → Fr h₀ env.locals h m₁ → News h₀ env.locals h news₁ → Q .next { s with heap := h, toks := tk }) :
    wpAny (model prog w) A (pyIter (.ref l)) (fun it s₂ => LoopAtV prog w A h₀ env x body Q E it s₂) E s := by
  have hls : s.heap.IsList l vs.toArray := ⟨_, (N _ hl).1, rfl, n, rfl⟩
  refine wpAny_pyIter_list hls ?_
  refine iter_seqG (St := fun I i h => h.IsListIter I l i ∧ h.IsList l vs.toArray) J F N hl (fun I hI => by have W := Walks.list (prog := prog) (w := w) hh I l hI vs.toArray; simpa using W) (fun I i h hs => ?_) ⟨⟨_, Heap.get?_push_size _ rfl, rfl, rfl⟩, hls.at fun o e => Heap.get?_push_of_some _ e⟩ rfl hJ hj turn done
  obtain ⟨⟨o, ho, _⟩, _⟩ := hs
  exact ⟨o, ho⟩
theorem iter_tuple {l : Addr} {vs : List Value} {n : Nat} {m₀ : Str → Option Value} {news : Led} (J : Nat → (Str → Option Value) → Led → Prop) (hh : A.handled = none)
    (F : Fr h₀ env.locals s.heap m₀) (N : News h₀ env.locals s.heap news) (hl : (l, tupN vs n) ∈ news)
    (hJ : ∀ i m₁ n₁, J i m₁ n₁ → (l, tupN vs n) ∈ n₁) (hj : J 0 m₀ news)
    (turn : ∀ i v m₁ news₁ h tk I io, vs[i]? = some v → J i m₁ news₁ → (∀ p ∈ news₁, p.1 ≠ I) → Fr h₀ env.locals h (fun y => if y = x then some v else m₁ y) → News h₀ env.locals h ((I, io) :: news₁) →
      wpAny (model prog w) A (execs body env) (TurnPost h₀ env.locals I io (J (i + 1)) { s with heap := h, toks := tk } Q) E { s with heap := h, toks := tk })
    (done : ∀ m₁ news₁ h tk, J vs.length m₁ news₁ → Fr h₀ env.locals h m₁ → News h₀ env.locals h news₁ → Q .next { s with heap := h, toks := tk }) :
    wpAny (model prog w) A (pyIter (.ref l)) (fun it s₂ => LoopAtV prog w A h₀ env x body Q E it s₂) E s := by
  have hls : s.heap.IsTuple l vs.toArray := ⟨_, (N _ hl).1, rfl, n, rfl⟩
  refine wpAny_pyIter_tuple hls ?_
  refine iter_seqG (St := fun I i h => h.IsTupleIter I l i ∧ h.IsTuple l vs.toArray) J F N hl (fun I hI => by have W := Walks.tuple (prog := prog) (w := w) hh I l hI vs.toArray; simpa using W) (fun I i h hs => ?_) ⟨⟨_, Heap.get?_push_size _ rfl, rfl, rfl⟩, hls.at fun o e => Heap.get?_push_of_some _ e⟩ rfl hJ hj turn done
  obtain ⟨⟨o, ho, _⟩, _⟩ := hs
  exact ⟨o, ho⟩
end
end

/-! ## Cv -/
section
section
variable {prog : Program} {w : World} {A₀ A : Around} {s : Shared} {base h₀ : Heap} {outer : List Env} {L : Addr} {m : Str → Option Value} {env : Env} {led rest : Led} {K : Frag}
  {R : Result → Shared → Prop} {name qual : Str} {params : Arguments} {body : List Stmt} {scope : Scope} {dV kV doc pm cdv ct oc : Value} {an od : Option Addr} {osl : Array (Option Value)} {f : Addr} {args : Args}
  {p : Program} {loose : List Str} {mean : ExcName → Option Value} {mg mb : Str → Option Value}
theorem enterV {vs : List Value} {binds : Value → List (Str × Value)} (B : Below A₀ base outer h₀) (F : Fr h₀ L s.heap m) (X₀ : K.In h₀) (N : News h₀ L s.heap (led ++ rest)) (ap : ∀ p ∈ rest, p.1 ∉ led.map (·.1)) (T : Top p loose mean mg mb h₀) (hA : A.frames = some (env :: outer)) (hf : env.frame = some L) (hke : env.scope.kind = .function)
    (ho : K.lookup f = some ⟨oc, od, .func (fnOf name qual params body scope dV kV doc pm an cdv ct), osl⟩) (hcd : codeIn K cdv qual = true) (hroom : A.depth < recursionLimit)
    (hp : bindArgs (fnOf name qual params body scope dV kV doc pm an cdv ct) args = (newTuple vs >>= fun tv => pure (binds tv))) (hsz : vs.length ≤ sizeLine)
    (hloc : ∀ D, ∀ y ∈ binds (.ref D), scope.names.lookup y.1 = some .local)
    (h : ∀ D g L' h₁, Fr g L' h₁ (fun y => (binds (.ref D)).reverse.lookup y) → News g L' h₁ ((D, ({ cls := .type "tuple", data := .seq vs.toArray } : Obj)) :: led) → Below A base (env :: outer) g → K.In g → Top p loose mean mg mb g → (∀ p ∈ led, p.1 < D) → D < L' →
      wpAny (model prog w) (A.deeper (envOf qual scope L' f cdv)) (execs body (envOf qual scope L' f cdv))
        (fun fl s' => LeaveR h₀ L m rest g R (match fl with | .ret v => v | _ => .none) s')
        (fun e s' => wpAny (model prog w) (A.deeper (envOf qual scope L' f cdv)) (leaving (envOf qual scope L' f cdv) e) (fun _ s'' => R (.error e) s'') (fun e' s'' => R (.error e') s'') s')
        { s with heap := h₁, toks := s.toks + (binds (.ref D)).length })
    (hco : scope.isCoroutine = false) (hgen : scope.isGenerator = false) (hk : scope.kind = .function)
    (hcell : ∀ x ∈ scope.names, x.2 ≠ .cell) : codeAny (model prog w) A (.call (.ref f) args) R s := by
  refine codeAny_call_function (fd := fnOf name qual params body scope dV kV doc pm an cdv ct) (body := body) hroom ((X₀.keeps F.keep) _ _ ho) rfl hco hgen rfl (codeRec_of (X₀.keeps F.keep) hcd) ?_
  rw [hp]
  refine wpAny_bind (newTuple_N F N (fun h' F' N' => wpAny_pure ?_) hsz)
  have l : ∀ p ∈ led ++ rest, p.1 < s.heap.objs.size := fun p hp => Heap.lt_size (N p hp).1
  revert l N'
  generalize s.heap.objs.size = D
  intro N' l
  dsimp only
  have N₂ : News h₀ L h' (((D, ({ cls := .type "tuple", data := .seq vs.toArray } : Obj)) :: led) ++ rest) := N'
  have ap₂ : ∀ p ∈ rest, p.1 ∉ ((D, ({ cls := .type "tuple", data := .seq vs.toArray } : Obj)) :: led).map (·.1) := fun p hp q => by
    rw [List.map_cons] at q
    rcases List.mem_cons.mp q with q | q
    · have := l p (List.mem_append_right _ hp)
      exact absurd this (by rw [q]; exact Nat.lt_irrefl _)
    · exact ap p hp q
  obtain ⟨BG, st, back⟩ := groundR (s := { s with heap := h' }) (A := A) B F' N₂ ap₂ hA hf hke
  refine wpAny_newFunctionEnv hcell (hloc D) (fun h₁ hns hsb => ⟨(T.nolimit.keeps F'.keep).fresh _ hsb, codeAny_func ?_⟩) hk
  have hk₁ : ∀ b o, h'.get? b = some o → h₁.get? b = some o := fun b o e => hsb.extBut b o (Nat.ne_of_lt (Heap.lt_size e)) (Heap.get?_push_of_some _ e)
  have Nl : News h₀ L h' ((D, ({ cls := .type "tuple", data := .seq vs.toArray } : Obj)) :: led) := fun p hp => N₂ p (List.mem_append_left _ hp)
  refine wpAny_mono (h D _ h'.objs.size h₁ ⟨hns, fun b o e => hk₁ b o (of_hideAll _ e), Nat.le_of_eq (hideAll_size _ _)⟩
    (fun p hp => ⟨hk₁ _ _ (Nl p hp).1, Nat.ne_of_lt (Heap.lt_size (Nl p hp).1), hideAll_none _ (List.mem_map_of_mem hp)⟩) BG (X₀.keeps st) (T.keeps st) (fun p hp => l p (List.mem_append_left _ hp)) (Heap.lt_size (Nl _ (.head _)).1)) (fun fl s' hl => ?_) fun _ _ y => y
  obtain ⟨L', m', led', F', N', k⟩ := hl
  obtain ⟨a, b, c⟩ := back s' L' m' led' F' N'
  exact k a b c
end
theorem bind1V {name qual : Str} {body : List Stmt} {scope : Scope} {doc pm cdv ct : Value} {an : Option Addr} {pa pb : Pos} {na nb : Str} (x : Value) (vs : List Value) :
    bindArgs (fnOf name qual { posonlyargs := [], args := [{ arg := na, annotation := none, pos := pa }], vararg := some { arg := nb, annotation := none, pos := pb }, kwonlyargs := [], kw_defaults := [], kwarg := none, defaults := [] } body scope .none .none doc pm an cdv ct) ⟨x :: vs, []⟩
      = (newTuple vs >>= fun tv => pure [(na, x), (nb, tv)]) := by
  cases vs with
  | nil =>
    unfold bindArgs
    simp [seqItems?, List.lookup]
    rfl
  | cons v r =>
    unfold bindArgs
    simp [seqItems?, List.lookup]
    rfl
theorem Fr.put {h₀ h : Heap} {L : Addr} {m : Str → Option Value} {x : Str} {v : Value} (F : Fr h₀ L h m) (e : m x = some v) : Fr h₀ L h (fun y => if y = x then some v else m y) := by
  have : (fun y => if y = x then some v else m y) = m := by
    funext y
    by_cases h : y = x
    · subst h; simp [e]
    · simp [h]
  rw [this]; exact F
theorem turn_end {h₀ h' : Heap} {L I : Addr} {io : Obj} {J : (Str → Option Value) → Led → Prop} {s₁ : Shared} {Q : Flow → Shared → Prop} {m' : Str → Option Value} {n : Led} {tk : Nat} (F : Fr h₀ L h' m') (N : News h₀ L h' ((I, io) :: n)) (hI : ∀ p ∈ n, p.1 ≠ I) (hJ : J m' n) :
    TurnPost h₀ L I io J s₁ Q .next { s₁ with heap := h', toks := tk } := ⟨h', tk, m', n, rfl, F, N, hI, hJ⟩
theorem turn_endC {h₀ h' : Heap} {L I : Addr} {io : Obj} {J : (Str → Option Value) → Led → Prop} {s₁ : Shared} {Q : Flow → Shared → Prop} {m' : Str → Option Value} {n : Led} {tk : Nat} (F : Fr h₀ L h' m') (N : News h₀ L h' ((I, io) :: n)) (hI : ∀ p ∈ n, p.1 ≠ I) (hJ : J m' n) :
    TurnPost h₀ L I io J s₁ Q .cont { s₁ with heap := h', toks := tk } := ⟨h', tk, m', n, rfl, F, N, hI, hJ⟩
theorem ex_str {o : Option Value} {z z' : Str} {t' : Tok} (h : o = some (.str z' t')) (e : z' = z) : ∃ t, o = some (.str z t) := ⟨t', e ▸ h⟩
end

/-! ## P3 -/
section
theorem offP3 : True := by
  (w_top off)
  k_with_none
  k_with "call builtin:issubclass" => ((k_here; (with_reducible show wpAny _ _ (call (Value.builtin "issubclass") [Value.type "str", Value.ref _]) _ _ _); refine issub_call (News.get (by k_asm) (by k_mem)) ?_))
  k_with "call ref" => (((with_reducible show wpAny _ _ (call (Value.ref 807) _) _ _ _); k_dflt ((refine' DoesP.use (c_fspath _ _ _) ?k1 ?k2 ?k3 ?k4 ?k5 ?kK ?kd ?ku ?_; (case k1 => k_asm); (case k2 => k_asm); (case k3 => k_asm); (case k4 => k_asm); (case k5 => k_asm); (case kK => first | exact rfl | assumption); (case kd => ktr_room); (case ku => ktr_units); k_whole; intro _ _ _ P9 _ _; (first | subst P9 | (obtain ⟨_, P9⟩ := P9; subst P9)); (try dsimp only); (try k_fold)))))
  k_with "call ref" => (((with_reducible show wpAny _ _ (call (Value.ref 821) _) _ _ _); k_dflt ((refine' DoesP.use (c_get_sep _ _ _) ?k1 ?k2 ?k3 ?k4 ?k5 ?kK ?kd ?ku ?_; (case k1 => k_asm); (case k2 => k_asm); (case k3 => k_asm); (case k4 => k_asm); (case k5 => k_asm); (case kK => first | exact rfl | assumption); (case kd => ktr_room); (case ku => ktr_units); k_whole; intro _ _ _ P9 _ _; (first | subst P9 | (obtain ⟨_, P9⟩ := P9; subst P9)); (try dsimp only); (try k_fold)))))
  trivial

noncomputable def joinStep (path b : Str) : Str := if Txt.startswith b (Str.ofString "/") = true then b else if path.length = 0 then b else if Txt.endswith path (Str.ofString "/") = true then path ++ b else path ++ (Str.ofString "/" ++ b)
noncomputable def joinS (a : Str) (bs : List Str) : Str := bs.foldl joinStep a

theorem joinStep_len (p b : Str) : (joinStep p b).length ≤ p.length + (b.length + 1) := by
  unfold joinStep
  have h1 : (Str.ofString "/").length = 1 := by decide
  split
  · omega
  · split
    · omega
    · split
      · rw [Str.length_append]; omega
      · rw [Str.length_append, Str.length_append, h1]; omega
theorem joinS_len : ∀ (bs : List Str) (a : Str), (joinS a bs).length ≤ a.length + (bs.map (·.length + 1)).sum
  | [], a => by simp [joinS]
  | b :: r, a => by
    have h := joinS_len r (joinStep a b)
    have h2 := joinStep_len a b
    simp only [List.map_cons, List.sum_cons]
    show (joinS (joinStep a b) r).length ≤ _
    omega
theorem joinS_take {a : Str} {bs : List Str} {i : Nat} {y : Str} (hy : bs[i]? = some y) : joinS a (bs.take (i + 1)) = joinStep (joinS a (bs.take i)) y := by
  unfold joinS
  rw [List.take_add_one, hy]
  simp
theorem take_sum {bs : List Str} {i : Nat} {y : Str} (hy : bs[i]? = some y) : ((bs.take i).map (·.length + 1)).sum + (y.length + 1) ≤ (bs.map (·.length + 1)).sum := by
  have e : bs = bs.take i ++ (y :: bs.drop (i + 1)) := by
    rw [List.getElem?_eq_some_iff] at hy
    obtain ⟨h, rfl⟩ := hy
    rw [← List.drop_eq_getElem_cons h, List.take_append_drop]
  conv => rhs; rw [e]
  simp only [List.map_append, List.map_cons, List.sum_append, List.sum_cons]
  omega

set_option maxHeartbeats 8000000 in
theorem c_join (w : World) (a : Str) (t : Tok) (vs : List Value) (bs : List Str) (hv : StrsAre vs bs) (hx : a.length + ((bs.map (·.length + 1)).sum) ≤ 100000) : DoesP w 828 4 60 (.str a t :: vs) (fun v => ∃ t, v = .str (joinS a bs) t) := by
  have hvl : vs.length ≤ 100000 := by
    rw [hv.length]
    have : bs.length ≤ (bs.map (·.length + 1)).sum := by
      clear hx hv
      induction bs with
      | nil => simp
      | cons b r ih => simp only [List.length_cons, List.map_cons, List.sum_cons]; omega
    omega
  unfold DoesP Does
  k_fill
  intro mean mg mb dp un gd cn cs a0 ccd cl outer A₀ base h₀ L m s rest Q E hB hF hK hN hap hT hcs hd hu hret
  refine wpAny_call ?_
  refine' enterV (vs := vs) (binds := fun D => [(Str.ofString "a", .str a t), (Str.ofString "p", D)]) hB hF hK hN hap hT rfl rfl hcs ?k6 ?k7 ?k8 ?kP ?kG ?kB ?_ ?c2 ?c3 ?c4 ?c5
  case k6 => k_is
  case k7 => k_is
  case k8 => ktr_room
  case kP => exact bind1V _ _
  case kG => rw [sizeLine_eq]; omega
  case kB => exact fun _ => locs rfl
  case c2 => exact rfl
  case c3 => exact rfl
  case c4 => exact rfl
  case c5 => decide
  intro D g' L' h' F' N' B' X' T' l1 l2
  (try dsimp only)
  (try k_fold)
  k_steps
  refine' iter_tuple (n := 0) (fun i m n => (∃ t, m (Str.ofString "path") = some (.str (joinS a (bs.take i)) t)) ∧ (∃ t, m (Str.ofString "sep") = some (.str (Str.ofString "/") t)) ∧ n = [(D, tupN vs 0)]) rfl (by k_asm) (by k_asm) (List.Mem.head _) ?kJ ⟨⟨_, rfl⟩, ⟨_, rfl⟩, rfl⟩ ?turn ?done
  case kJ => rintro i m₁ n₁ ⟨_, _, rfl⟩; exact List.Mem.head _
  case turn =>
    rintro i v m₁ n₁ h tk I io hv' ⟨⟨tp, h1⟩, ⟨ts, h2⟩, rfl⟩ hI F N
    obtain ⟨y, ty, rfl, hy⟩ := StrsAre.item hv i v hv'
    have F := Fr.put (x := Str.ofString "sep") (Fr.put (x := Str.ofString "path") F (by rw [if_neg (by decide)]; exact h1)) (by rw [if_neg (by decide), if_neg (by decide)]; exact h2)
    have hlen : (joinS a (bs.take i)).length + (y.length + 1) ≤ 100000 := by
      have h3 := joinS_len (bs.take i) a
      have h4 := take_sum hy
      omega
    rw [joinS_take hy]
    generalize joinS a (bs.take i) = P at *
    k_steps
    all_goals (refine turn_end (by k_asm) (by k_asm) hI ⟨ex_str rfl ?_, ⟨_, rfl⟩, rfl⟩)
    all_goals (unfold joinStep; first
      | (rw [if_pos (by assumption)]; done)
      | (rw [if_neg (by simp [*]), if_pos (by omega)]; done)
      | (rw [if_neg (by simp [*]), if_neg (by omega), if_pos (by assumption)]; done)
      | (rw [if_neg (by simp [*]), if_neg (by omega), if_neg (by simp [*])]; done))
  case done =>
    rintro m₁ n₁ h tk ⟨⟨tp, h1⟩, ⟨ts, h2⟩, rfl⟩ F N
    have F := Fr.put (x := Str.ofString "path") F h1
    rw [hv.length, List.take_length] at F
    k_steps
    dsimp only
    refine leaveR_ (by k_asm) News.nil ?_; intro kF kN kD; exact hret _ _ _ _ ⟨⟨_, rfl⟩, rfl⟩ kF kN kD
end

/-! ## Ls -/
section
section
variable {prog : Program} {w : World} {A : Around} {E : Value → Shared → Prop} {s : Shared} {h₀ : Heap} {L D : Addr} {m : Str → Option Value} {news news' : Led} {n : Nat}
theorem isL {vs : List Value} (N : News h₀ L s.heap news) (hm : (D, listO vs n) ∈ news) : s.heap.IsList D vs.toArray := ⟨_, (N _ hm).1, rfl, n, rfl⟩
theorem truthyL {vs : List Value} {Q : Bool → Shared → Prop} (N : News h₀ L s.heap news) (hm : (D, listO vs n) ∈ news) (hz : vs.length ≤ 10000000) (h : Q (!vs.isEmpty) { s with toks := s.toks + 1 + 1 }) :
    wpAny (model prog w) A (truthy (.ref D)) Q E s :=
  wpAny_truthy_list (isL N hm) (by simp only [List.size_toArray]; omega) (by rw [show vs.toArray.isEmpty = vs.isEmpty by cases vs <;> simp [Array.isEmpty]]; exact h)
theorem last_of : ∀ {vs : List Value} {xs : List Str}, StrsAre vs xs → vs.isEmpty = false → ∃ t, vs[vs.length - 1]? = some (.str (xs.getLastD (Str.ofString "")) t)
  | _, _, .nil, h => by cases h
  | _, _, .cons y t .nil, _ => ⟨t, rfl⟩
  | _, _, .cons y t (.cons y' t' r), _ => by
    obtain ⟨u, hu⟩ := last_of (.cons y' t' r) rfl
    refine ⟨u, ?_⟩
    simpa using hu
theorem lastL {value slice : Expr} {vs : List Value} {xs : List Str} {u : Tok} {Q : Value → Shared → Prop} (N : News h₀ L s.heap news) (hm : (D, listO vs n) ∈ news) (hs : StrsAre vs xs) (hne' : vs.isEmpty = false) (hz : vs.length ≤ 10000000)
    (h : ∀ t, Q (.str (xs.getLastD (Str.ofString "")) t) s)
    (hsub : subscripted slice false (.ref D) (.int (-1) u) = operate [.ref D, .int (-1) u] (getItem (.ref D) (.int (-1) u)) := by with_unfolding_all rfl) :
    wpAny (model prog w) A (subscriptTail value slice (.ref D) (.int (-1) u)) Q E s := by
  obtain ⟨t, ht⟩ := last_of hs hne'
  have hpos : 0 < vs.length := by cases vs with | nil => cases hne' | cons => simp
  refine tail_any (isL N hm).typeIs slot_list_getitem.lookup (wpAny_getItem_list_neg (isL N hm) (by omega) (by simp only [List.size_toArray]; omega) (by omega) ?_ (h t)) hsub
  simp only [List.size_toArray]
  rw [show ((-1 : Int) + (vs.length : Int)).toNat = vs.length - 1 by omega]
  simpa using ht
theorem drop_of : ∀ {vs : List Value} {xs : List Str}, StrsAre vs xs → StrsAre vs.dropLast xs.dropLast
  | _, _, .nil => .nil
  | _, _, .cons y t .nil => .nil
  | _, _, .cons y t (.cons y' t' r) => .cons y t (drop_of (.cons y' t' r))
theorem popL {vs : List Value} {Q : Value → Shared → Prop} (F : Fr h₀ L s.heap m) (N : News h₀ L s.heap news) (U : Upd D (listO vs n) (listO vs.dropLast (n + 1)) news news') (hne' : vs.isEmpty = false) (hz : vs.length ≤ 10000000)
    (h : ∀ h' v, Fr h₀ L h' m → News h₀ L h' news' → Q v { s with heap := h' }) : wpAny (model prog w) A (call (.builtin "list.pop") [.ref D]) Q E s := by
  have hn0 : vs ≠ [] := by intro e; rw [e] at hne'; cases hne'
  have e1 : vs = vs.dropLast ++ [vs.getLast hn0] := (List.dropLast_concat_getLast hn0).symm
  refine kl_pop F N (p := vs.dropLast) (y := vs.getLast hn0) ?_ U (by rw [sizeLine_eq]; simpa using (by omega : vs.length ≤ 16777216)) fun h' F' N' => h h' _ F' N'
  have e := kpa_last (vs.getLast hn0) vs.dropLast
  rw [← e1] at e
  simpa using e
theorem appendL {vs : List Value} {x : Value} {Q : Value → Shared → Prop} (F : Fr h₀ L s.heap m) (N : News h₀ L s.heap news) (U : Upd D (listO vs n) (listO (vs ++ [x]) (n + 1)) news news') (hz : vs.length ≤ 10000000)
    (h : ∀ h', Fr h₀ L h' m → News h₀ L h' news' → Q .none { s with heap := h' }) : wpAny (model prog w) A (call (.builtin "list.append") [.ref D, x]) Q E s := by
  have e : W.listOf (vs.toArray.push x) (n + 1) = listO (vs ++ [x]) (n + 1) := by simp
  exact append_K F N (its := vs.toArray) (n := n) (by rw [e]; exact U) h (by rw [sizeLine_eq]; simpa using (by omega : vs.length ≤ 16777216))
theorem joinL {vs : List Value} {xs : List Str} {x : Str} {t : Tok} {Q : Value → Shared → Prop} (N : News h₀ L s.heap news) (hm : (D, listO vs n) ∈ news) (hs : StrsAre vs xs) (hsep : x.length ≤ 16) (hw : (xs.map (·.length)).sum + xs.length ≤ 1048576)
    (h : ∀ t' k, Q (.str (Txt.join x xs) t') { s with toks := k }) : wpAny (model prog w) A (call (.builtin "str.join") [.str x t, .ref D]) Q E s :=
  join_listW (isL N hm) (by simpa using hs) hsep hw h
end
end

/-! ## Pl1 -/
section
theorem slice_len (x : Str) (i j : Option Int) : (Txt.slice x i j).length ≤ x.length := PyProof.Txt.length_slice_le x i j
theorem srRest_len (x : Str) : (srRest x).length ≤ x.length := by
  unfold srRest
  split
  · omega
  · split
    · exact slice_len ..
    · split <;> exact slice_len ..
theorem srRoot_len (x : Str) : (srRoot x).length ≤ 2 + x.length := by
  unfold srRoot
  have h0 : (Str.ofString "").length = 0 := by decide
  have h1 : (Str.ofString "/").length = 1 := by decide
  split
  · omega
  · split
    · omega
    · split
      · omega
      · have := slice_len x none (some 2); omega
noncomputable def wgt (xs : List Str) : Nat := (xs.map (·.length + 1)).sum
theorem wgt_app (a b : List Str) : wgt (a ++ b) = wgt a + wgt b := by simp [wgt]
theorem wgt_one (c : Str) : wgt [c] = c.length + 1 := by simp [wgt]
theorem wgt_len : ∀ xs : List Str, xs.length ≤ wgt xs
  | [] => by simp [wgt]
  | x :: r => by have := wgt_len r; simp only [wgt, List.map_cons, List.sum_cons, List.length_cons] at *; omega
theorem wgt_sum (xs : List Str) : (xs.map (·.length)).sum + xs.length = wgt xs := by
  induction xs with
  | nil => rfl
  | cons x r ih => simp only [wgt, List.map_cons, List.sum_cons, List.length_cons] at *; omega
theorem wgt_mem {xs : List Str} {i : Nat} {y : Str} (hy : xs[i]? = some y) : wgt (xs.take i) + (y.length + 1) ≤ wgt xs := take_sum hy
theorem wgt_drop (xs : List Str) : wgt xs.dropLast ≤ wgt xs := by
  induction xs with
  | nil => simp [wgt]
  | cons x r ih => cases r with
    | nil => simp [wgt]
    | cons y r' => simp only [List.dropLast_cons_cons, wgt, List.map_cons, List.sum_cons] at *; omega
theorem join_wgt (y : Str) (hy : y.length = 1) : ∀ xs : List Str, xs ≠ [] → (Str.join y xs).length + 1 = wgt xs
  | [], h => absurd rfl h
  | [x], _ => by simp [Str.join, wgt]
  | x :: z :: r, _ => by
    have ih := join_wgt y hy (z :: r) (by simp)
    show (x ++ y ++ Str.join y (z :: r)).length + 1 = _
    rw [Str.length_append, Str.length_append, hy]
    have e : wgt (x :: z :: r) = x.length + 1 + wgt (z :: r) := by simp [wgt]
    rw [e]; omega
theorem split_wgt (x y : Str) (hy : y.length = 1) : wgt (Txt.split x y) ≤ x.length + 1 := by
  by_cases h : Txt.split x y = []
  · rw [h]; simp [wgt]
  · have := join_wgt y hy _ h
    rw [StrLaws.join_split] at this
    omega

theorem tjoin_wgt (y : Str) (hy : y.length = 1) (xs : List Str) : (Txt.join y xs).length ≤ wgt xs := by
  show (Builtin.Str.glued y xs).length ≤ _
  rw [StrLaws.glued_eq_join]
  by_cases h : xs = []
  · rw [h]; exact Nat.le_refl _
  · have := join_wgt y hy xs h; omega

noncomputable def normStep (r : Str) (acc : List Str) (c : Str) : List Str :=
  if c.length = 0 then acc else if (c == Str.ofString ".") = true then acc else if (c != Str.ofString "..") = true then acc ++ [c]
  else if r.length = 0 ∧ acc = [] then acc ++ [c]
  else if acc = [] then acc else if (acc.getLastD (Str.ofString "") == Str.ofString "..") = true then acc ++ [c] else acc.dropLast
theorem normStep_wgt (r : Str) (acc : List Str) (c : Str) : wgt (normStep r acc c) ≤ wgt acc + (c.length + 1) := by
  unfold normStep
  have := wgt_drop acc
  have := wgt_one c
  (repeat' split) <;> (try rw [wgt_app]) <;> omega
noncomputable def normL (r : Str) (cs : List Str) : List Str := cs.foldl (normStep r) []
theorem normL_take {r : Str} {xs : List Str} {i : Nat} {y : Str} (hy : xs[i]? = some y) : normL r (xs.take (i + 1)) = normStep r (normL r (xs.take i)) y := by
  unfold normL
  rw [List.take_add_one, hy]
  simp
theorem foldl_wgt (r : Str) : ∀ (xs acc : List Str), wgt (xs.foldl (normStep r) acc) ≤ wgt acc + wgt xs
  | [], acc => by simp [wgt]
  | x :: xs, acc => by
    have h := foldl_wgt r xs (normStep r acc x)
    have h2 := normStep_wgt r acc x
    have e : wgt (x :: xs) = x.length + 1 + wgt xs := by simp [wgt]
    rw [List.foldl_cons, e]; omega
theorem normL_wgt (r : Str) (xs : List Str) : wgt (normL r xs) ≤ wgt xs := by have := foldl_wgt r xs []; simpa [wgt, normL] using this
noncomputable def normS (x : Str) : Str := if x.length = 0 then Str.ofString "." else
  if (srRoot x ++ Txt.join (Str.ofString "/") (normL (srRoot x) (Txt.split (srRest x) (Str.ofString "/")))).length = 0 then Str.ofString "." else
    srRoot x ++ Txt.join (Str.ofString "/") (normL (srRoot x) (Txt.split (srRest x) (Str.ofString "/")))

theorem norm_in {x r q : Str} (hx : ¬ (x.length : Int) = 0) (hr : r = srRoot x) (hq : q = srRest x) (h : ¬ ((r ++ Txt.join (Str.ofString "/") (normL r (Txt.split q (Str.ofString "/")))).length : Int) = 0) :
    r ++ Txt.join (Str.ofString "/") (normL r (Txt.split q (Str.ofString "/"))) = normS x := by
  subst hr hq; unfold normS; rw [if_neg (by omega), if_neg (by omega)]
theorem norm_dot {x r q : Str} (hx : ¬ (x.length : Int) = 0) (hr : r = srRoot x) (hq : q = srRest x) (h : ((r ++ Txt.join (Str.ofString "/") (normL r (Txt.split q (Str.ofString "/")))).length : Int) = 0) :
    Str.ofString "." = normS x := by
  subst hr hq; unfold normS; rw [if_neg (by omega), if_pos (by omega)]
theorem ne_of_full {vs : List Value} {xs : List Str} (h : StrsAre vs xs) (e : vs.isEmpty = false) : xs ≠ [] := by
  rintro rfl; cases h; cases e
theorem nil_of_empty {vs : List Value} {xs : List Str} (h : StrsAre vs xs) (e : vs.isEmpty = true) : xs = [] := by
  cases h with
  | nil => rfl
  | cons => cases e
section
variable {r c : Str} {acc : List Str}
theorem ns1 (h : (c.length : Int) = 0) : normStep r acc c = acc := by unfold normStep; rw [if_pos (by omega)]
theorem ns2 (h : ¬ (c.length : Int) = 0) (h2 : (c == Str.ofString ".") = true) : normStep r acc c = acc := by unfold normStep; rw [if_neg (by omega), if_pos h2]
theorem ns3 (h : ¬ (c.length : Int) = 0) (h2 : (c == Str.ofString ".") = false) (h3 : (c != Str.ofString "..") = true) : normStep r acc c = acc ++ [c] := by
  unfold normStep; rw [if_neg (by omega), if_neg (by simp [h2]), if_pos h3]
theorem ns4 (h : ¬ (c.length : Int) = 0) (h2 : (c == Str.ofString ".") = false) (h3 : (c != Str.ofString "..") = false) (h4 : (r.length : Int) = 0) (h5 : acc = []) : normStep r acc c = acc ++ [c] := by
  unfold normStep; rw [if_neg (by omega), if_neg (by simp [h2]), if_neg (by rw [h3]; decide), if_pos ⟨by omega, h5⟩]
theorem ns5 (h : ¬ (c.length : Int) = 0) (h2 : (c == Str.ofString ".") = false) (h3 : (c != Str.ofString "..") = false) (h4 : ¬ (r.length : Int) = 0) (h5 : acc = []) : normStep r acc c = acc := by
  unfold normStep; rw [if_neg (by omega), if_neg (by simp [h2]), if_neg (by rw [h3]; decide), if_neg (fun q => h4 (by omega)), if_pos h5]
theorem ns6 (h : ¬ (c.length : Int) = 0) (h2 : (c == Str.ofString ".") = false) (h3 : (c != Str.ofString "..") = false) (h5 : acc ≠ []) (h6 : (acc.getLastD (Str.ofString "") == Str.ofString "..") = true) : normStep r acc c = acc ++ [c] := by
  unfold normStep; rw [if_neg (by omega), if_neg (by simp [h2]), if_neg (by rw [h3]; decide), if_neg (fun q => h5 q.2), if_neg h5, if_pos h6]
theorem ns7 (h : ¬ (c.length : Int) = 0) (h2 : (c == Str.ofString ".") = false) (h3 : (c != Str.ofString "..") = false) (h5 : acc ≠ []) (h6 : (acc.getLastD (Str.ofString "") == Str.ofString "..") = false) : normStep r acc c = acc.dropLast := by
  unfold normStep; rw [if_neg (by omega), if_neg (by simp [h2]), if_neg (by rw [h3]; decide), if_neg (fun q => h5 q.2), if_neg h5, if_neg (by rw [h6]; decide)]
theorem ns_app {z : List Str} {vs : List Value} {t : Tok} (h : StrsAre vs acc) (e : z = acc ++ [c]) : StrsAre (vs ++ [.str c t]) z := e ▸ kct_snoc h
theorem ns_same {z : List Str} {vs : List Value} (h : StrsAre vs acc) (e : z = acc) : StrsAre vs z := e ▸ h
theorem ns_drop {z : List Str} {vs : List Value} (h : StrsAre vs acc) (e : z = acc.dropLast) : StrsAre vs.dropLast z := e ▸ drop_of h
end
end

/-! ## Tx -/
section
open Builtin Builtin.Str
/-- the text of a list of signs, and back -/
noncomputable abbrev mkS (l : List Nat) : Str := ⟨l.toArray⟩
noncomputable abbrev ls (x : Str) : List Nat := x.cps.toList
theorem mkS_ls (x : Str) : mkS (ls x) = x := rfl
theorem ls_mkS (l : List Nat) : ls (mkS l) = l := rfl
theorem len_mkS (l : List Nat) : (mkS l).length = l.length := by simp [Str.length]
theorem len_ls (x : Str) : (ls x).length = x.length := by simp [Str.length]
theorem ls_inj {x y : Str} (h : ls x = ls y) : x = y := by rw [← mkS_ls x, ← mkS_ls y, h]
theorem ls_app (x y : Str) : ls (x ++ y) = ls x ++ ls y := by show (x ++ y).cps.toList = _; rw [Str.cps_append]; simp
theorem idx_clip (a b n : Nat) : strSliceIndices (some (a : Int)) (some (b : Int)) 1 n = strSliceIndices (some ((min a n : Nat) : Int)) (some ((min b n : Nat) : Int)) 1 n := by
  have h1 : ¬ ((a : Int) < 0) := by omega
  have h2 : ¬ ((b : Int) < 0) := by omega
  have h3 : ¬ (((min a n : Nat) : Int) < 0) := by omega
  have h4 : ¬ (((min b n : Nat) : Int) < 0) := by omega
  simp only [strSliceIndices, show (1 : Int) > 0 by decide, if_true]
  congr 1 <;> (try simp only [h1, h2, h3, h4, if_false]) <;> omega
theorem slice_ss (x : Str) (a b : Nat) : Txt.slice x (some (a : Int)) (some (b : Int)) = mkS (((ls x).drop a).take (b - a)) := by
  have e : Txt.slice x (some (a : Int)) (some (b : Int)) = Txt.slice x (some ((min a x.length : Nat) : Int)) (some ((min b x.length : Nat) : Int)) := by
    unfold Txt.slice; rw [idx_clip]
  rw [e]
  by_cases h : min a x.length ≤ min b x.length
  · refine (StrLaws.sliceText_nat x h (Nat.min_le_right _ _)).trans ?_
    show mkS _ = mkS _
    congr 1
    apply List.ext_getElem?
    intro i
    rw [List.getElem?_take, List.getElem?_take, List.getElem?_drop, List.getElem?_drop]
    have hl := len_ls x
    by_cases ha : a ≤ x.length
    · rw [Nat.min_eq_left ha]
      by_cases hb : b ≤ x.length
      · rw [Nat.min_eq_left hb]
      · rw [Nat.min_eq_right (by omega)]
        by_cases hi : i < x.length - a
        · rw [if_pos hi, if_pos (by omega)]
        · rw [if_neg hi, List.getElem?_eq_none (by omega)]; split <;> rfl
    · rw [if_neg (by omega), List.getElem?_eq_none (by omega)]; split <;> rfl
  · have hba : b - a = 0 := by omega
    rw [hba, List.take_zero]
    have h1 : ¬ (((min a x.length : Nat) : Int) < 0) := by omega
    have h2 : ¬ (((min b x.length : Nat) : Int) < 0) := by omega
    have hz : strSliceIndices (some ((min a x.length : Nat) : Int)) (some ((min b x.length : Nat) : Int)) 1 x.length = [] := by
      simp only [strSliceIndices, show (1 : Int) > 0 by decide, if_true, h1, h2, if_false]
      unfold sliceRange
      simp only [show (1 : Int) > 0 by decide, if_true]
      rw [if_neg (by omega)]
      rfl
    unfold Txt.slice
    rw [hz]
    have hx : x.length ≠ 0 := by omega
    rw [if_neg (by simp; omega)]
    rfl
theorem slice_ns (x : Str) (b : Nat) : Txt.slice x none (some (b : Int)) = mkS ((ls x).take b) := by
  have e : Txt.slice x none (some (b : Int)) = Txt.slice x (some ((0 : Nat) : Int)) (some (b : Int)) := by
    unfold Txt.slice; rw [StrLaws.sliceIdx_none_lo]; rfl
  rw [e, slice_ss]; rfl
theorem slice_sn (x : Str) (a : Nat) : Txt.slice x (some (a : Int)) none = mkS ((ls x).drop a) := by
  have e : Txt.slice x (some (a : Int)) none = Txt.slice x (some (a : Int)) (some (x.length : Int)) := by
    unfold Txt.slice; rw [StrLaws.sliceIdx_none_hi]
  rw [e, slice_ss]
  show mkS _ = mkS _
  congr 1
  rw [List.take_of_length_le]
  rw [List.length_drop, len_ls]
  omega
/-- the sign at a place, as a text; nothing behind the end -/
noncomputable def chAt (b : Str) (p : Nat) : Str := mkS (((ls b).drop p).take 1)
theorem chAt_len (b : Str) (p : Nat) : (chAt b p).length = if p < b.length then 1 else 0 := by
  unfold chAt
  rw [len_mkS, List.length_take, List.length_drop, len_ls]
  split <;> omega
theorem chAt_slice (b : Str) (p : Nat) : Txt.slice b (some (p : Int)) (some ((p : Int) + 1)) = chAt b p := by
  have := slice_ss b p (p + 1)
  rw [show ((p : Int) + 1) = ((p + 1 : Nat) : Int) by omega, this, show p + 1 - p = 1 by omega]; rfl
theorem chAt_end {b : Str} {p : Nat} (h : ¬ (b.length : Int) ≤ p) (h2 : ¬ (p : Int) + 1 < b.length) : Txt.slice b (some (p : Int)) (some (b.length : Int)) = chAt b p := by
  rw [← chAt_slice, show ((p : Int) + 1) = (b.length : Int) by omega]
theorem chAt_out {b : Str} {p : Nat} (h : (b.length : Int) ≤ p) : chAt b p = Str.ofString "" := by
  unfold chAt
  rw [List.drop_of_length_le (by rw [len_ls]; omega)]
  decide +kernel

theorem gives_find4 (x y : Str) (i : Int) (t u v v' : Tok) : Gives («str.find» ⟨[.str x t, .str y u, .int i v, .int (x.length : Int) v'], []⟩) (.int (Txt.find3 x y i)) := by
  show Gives (match occurrences x y (fromIndex x.length i) (min (fromIndex x.length (x.length : Int)) x.length) 1 with | k :: _ => retInt k | [] => (do rule "str.find.not-found"; retInt (-1))) _
  rw [show min (fromIndex x.length (x.length : Int)) x.length = x.length by unfold fromIndex; omega]
  unfold Txt.find3
  cases occurrences x y (fromIndex x.length i) x.length 1 with
  | nil => exact .rule (.of_eq rfl)
  | cons k _ => exact .of_eq rfl
theorem find4 {prog : Program} {w : World} {A : Around} {E : Value → Shared → Prop} {s : Shared} {x y : Str} {t u v v' : Tok} {i : Int} {Q : Value → Shared → Prop}
    (hq : Q (.int (Txt.find3 x y i) s.toks) { s with toks := s.toks + 1 }) : wpAny (model prog w) A (call (.builtin "str.find") [.str x t, .str y u, .int i v, .int (x.length : Int) v']) Q E s :=
  call_gives F.slot_str_find (typeIs_str _ _ _) F.entry_str_find (F.args_str_find_4 _ _ _ _) (gives_find4 x y i t u v v') hq
/-- the place behind the line's end -/
noncomputable def nlEnd (b : Str) (p : Nat) : Nat := match ((ls b).drop p).findIdx? (· == 10) with
  | some k => p + k + 1
  | none => b.length
theorem nlEnd_none {b : Str} {p : Nat} (hp : p ≤ b.length) (h : Txt.find3 b (Str.ofString "\n") p < 0) : nlEnd b p = b.length := by
  have e : (Str.ofString "\n") = ⟨#[10]⟩ := by decide +kernel
  rw [e] at h
  have hf : fromIndex b.length (p : Int) = p := by unfold fromIndex; omega
  rcases StrLaws.find3_spec b 10 p with ⟨_, hn⟩ | ⟨k, hk, _⟩
  · unfold nlEnd
    rw [hf] at hn
    have : ((ls b).drop p).findIdx? (· == 10) = none := by
      rw [List.findIdx?_eq_none_iff]
      intro x hx
      obtain ⟨i, hi, rfl⟩ := List.getElem_of_mem hx
      rw [List.length_drop, len_ls] at hi
      have := hn (p + i) (by omega) (by omega)
      rw [List.getElem_drop]
      simp only [beq_eq_false_iff_ne]
      rw [Array.getElem_toList]
      rwa [Array.getD_eq_getD_getElem?, Array.getElem?_eq_getElem (by unfold Str.length at hi; omega)] at this
    rw [this]
  · rw [hk] at h; omega
theorem nlEnd_some {b : Str} {p : Nat} (hp : p ≤ b.length) (h : 0 ≤ Txt.find3 b (Str.ofString "\n") p) : ((nlEnd b p : Nat) : Int) = Txt.find3 b (Str.ofString "\n") p + 1 := by
  have e : (Str.ofString "\n") = ⟨#[10]⟩ := by decide +kernel
  rw [e] at h ⊢
  have hf : fromIndex b.length (p : Int) = p := by unfold fromIndex; omega
  rcases StrLaws.find3_spec b 10 p with ⟨hk, _⟩ | ⟨k, hk, h1, h2, h3, h4⟩
  · rw [hk] at h; omega
  · rw [hk]
    rw [hf] at h1 h4
    unfold nlEnd
    have hz : b.cps.size = b.length := rfl
    have : ((ls b).drop p).findIdx? (· == 10) = some (k - p) := by
      rw [List.findIdx?_eq_some_iff_getElem]
      refine ⟨by rw [List.length_drop, len_ls]; omega, ?_, ?_⟩
      · rw [List.getElem_drop, Array.getElem_toList]
        rw [Array.getD_eq_getD_getElem?, Array.getElem?_eq_getElem (by omega)] at h3
        simp only [beq_iff_eq]
        simpa [show p + (k - p) = k by omega] using h3
      · intro j hj
        have := h4 (p + j) (by omega) (by omega)
        rw [List.getElem_drop, Array.getElem_toList]
        rw [Array.getD_eq_getD_getElem?, Array.getElem?_eq_getElem (by omega)] at this
        simpa using this
    rw [this]
    show ((p + (k - p) + 1 : Nat) : Int) = _
    omega
theorem nlEnd_ge {b : Str} {p : Nat} (hp : p ≤ b.length) : p ≤ nlEnd b p ∧ nlEnd b p ≤ b.length := by
  unfold nlEnd
  split
  · rename_i k hk
    rw [List.findIdx?_eq_some_iff_getElem] at hk
    obtain ⟨h, _⟩ := hk
    rw [List.length_drop, len_ls] at h
    omega
  · omega
theorem nlEnd_out {b : Str} {p : Nat} (hp : p ≤ b.length) (h : (b.length : Int) ≤ p) : nlEnd b p = p := by have := nlEnd_ge hp; omega

noncomputable def AllNe (a : Nat) : List (Addr × Obj) → Prop
  | [] => True
  | p :: r => @Ne Nat a p.1 ∧ AllNe a r
noncomputable def AllNe2 : List (Addr × Obj) → List (Addr × Obj) → Prop
  | [], _ => True
  | q :: l, r => AllNe q.1 r ∧ AllNe2 l r
theorem allNe_of {a : Addr} : ∀ {r : List (Addr × Obj)}, (∀ p ∈ r, a ≠ p.1) → AllNe a r
  | [], _ => trivial
  | p :: _, h => ⟨h p (.head _), allNe_of fun q hq => h q (.tail _ hq)⟩
theorem allNe2_of {r : List (Addr × Obj)} : ∀ {l : List (Addr × Obj)}, (∀ p ∈ r, ∀ q ∈ l, q.1 ≠ p.1) → AllNe2 l r
  | [], _ => trivial
  | q :: _, h => ⟨allNe_of fun p hp => h p hp q (.head _), allNe2_of fun p hp q hq => h p hp q (.tail _ hq)⟩

section
variable {w : World} {f : Addr} {d u : Nat} {vs : List Value} {led : Led} {post : Value → Led → Prop} {mean : ExcName → Option Value} {mg mb : Str → Option Value} {dp un : Nat} {gd : Option (List Code)} {cn : Str} {cs : Scope} {a : Addr} {ccd : Value} {cl : List (Str × Addr)} {outer : List Env} {A₀ : Around} {base h₀ : Heap} {L : Addr} {m : Str → Option Value} {s : Shared} {rest : Led} {Q E : Value → Shared → Prop}
theorem Does.use0 (C : Does w f d u vs [] post) (B : Below A₀ base outer h₀) (F : Fr h₀ L s.heap m) (X : (hd.heap_1 w.params).In h₀) (N : News h₀ L s.heap rest) (T : Top qv (looseW qv looseV) mean mg mb h₀) (hk : cs.kind = .function) (hd : dp + d < recursionLimit) (hu : un + u < cLine)
    (ret : ∀ v led' h' tk', post v led' → Fr h₀ L h' m → News h₀ L h' (led' ++ rest) → AllNe2 led' rest → Q v { s with heap := h', toks := tk' }) :
    wpAny (model (OpenLaw.prog PySem.Challenge.rw_pd0002_01) w) (ktrTop dp un gd cn cs L a ccd cl outer) (call (.ref f) vs) Q E s :=
  Does.use (rest := rest) C B F X N (fun _ _ => List.not_mem_nil) T hk hd hu (fun v led' h' tk' hp F' N' D => ret v led' h' tk' hp F' N' (allNe2_of D))
end

theorem units_kw (A : Around) (C : Addr) (vals : List Value) (kw : List (Str × Value)) : (A.under (.builtin "type.__call__" ⟨.ref C :: vals, kw⟩)).units = A.units + 1 := rfl
end

/-! ## Nw -/
section
open PySem PySem.W PyProof.Rows PySem.Calls Builtin
noncomputable def NewBack (prog : Program) (w : World) (A : Around) (K : Frag) (C fI : Addr) (rest : List Value) (kw : List (Str × Value)) (R : Result → Shared → Prop) (r : Result) (s' : Shared) : Prop := match r with
  | .ok (.ret v) => ∃ x dx, v = .ref x ∧ s'.heap.get? x = some (instObj C dx) ∧ K.In s'.heap ∧ codeAny (model prog w) (A.under (.builtin "type.__call__" ⟨.ref C :: rest, kw⟩)) (.call (.ref fI) ⟨.ref x :: rest, kw⟩) (InitBack x R) s'
  | .ok _ => False
  | .error e => R (.error e) s'

section
variable {prog : Program} {w : World} {A : Around} {K : Frag} {C : Addr} {R : Result → Shared → Prop}
theorem make_new {s : Shared} {rest : List Value} {kw : List (Str × Value)} {fN fI : Addr} {oc : Value} {od : Option Addr} {cd : ClassData} {sl : Array (Option Value)} {q : Program} (X : K.In s.heap) (hq : prog = q)
    (hC : K.lookup C = some ⟨oc, od, .cls cd, sl⟩) (e4 : cd.mro.isEmpty = false) (hcall : specialIn K (.ref C) "__call__" = some (some (.builtin "type.__call__"))) (htyp : instIn K (.ref C) (.type "type") = some true)
    (hmade : peek K ⟨q, w.params⟩ (Bind.madeBy (.ref C)) = some none) (hself : subIn K (.ref C) (.ref C) = some true)
    (hnew : ∀ (A' : Around) (Q : Value → Shared → Prop) (E : Value → Shared → Prop), (∀ k, Q (.ref fN) { s with toks := k }) → wpAny (model prog w) A' (getAttr (.ref C) "__new__") Q E s)
    (hi : findIn K (.ref C) "__init__" = some (some (.ref fI))) (hf : typeIn K (.ref fI) = some (.type "function"))
    (h : ∀ k, codeAny (model prog w) (A.under (.builtin "type.__call__" ⟨.ref C :: rest, kw⟩)) (.call (.ref fN) ⟨.ref C :: rest, kw⟩) (NewBack prog w A K C fI rest kw R) { s with toks := k }) :
    codeAny (model prog w) A (.call (.ref C) ⟨rest, kw⟩) R s := by
  subst hq
  obtain ⟨hh, g, d, t, os⟩ := s
  have hC' := X _ _ hC
  have call := looks_specialIn (M := model prog w) X hcall
  have typ := looks_instIn (M := model prog w) X htyp
  have made := Looks.of_peek (M := model prog w) X hmade
  have self := looks_subIn (M := model prog w) X hself
  refine codeAny_of_tree ?_
  show wpAny _ _ (callAny (.ref C) _) _ _ _
  refine nd_load hC' ?_
  show wpAny _ _ (callAny.viaDunder (.ref C) _) _ _ _
  unfold callAny.viaDunder
  refine wpAny_bind (call.at ?_)
  dsimp only
  rw [tc_bind]
  refine wpAny_bind (wpAny_pure (wpAny_bind (wpAny_pure ?_)))
  refine wpAny_pure (a := Fin.again (.call (.builtin "type.__call__") ⟨.ref C :: rest, kw⟩)) (And.intro rfl ?_)
  refine codeAny_call_builtin_at (Code.quiet_builtin _ (by decide +kernel)) entry_typeCall (check_slot tc_kind tc_split typ (tc_args _ _ _) ?_)
  unfold Builtin.«type.__call__»
  have hm : Looks (model prog w) hh (mroOf (.ref C)) cd.mro := ((Looks.ld (part := none) hC').andThen .now).andThen .now
  repeat (first | with_reducible refine hnew _ _ _ fun k => ?_ | simp only [e4, Bool.false_eq_true, if_false] | with_reducible refine wpAny_call ?_ | lk)
  refine codeAny_mono (h k) fun r s' z => ?_
  rcases r with e | (v | _ | _ | _) <;> first | exact z | exact z.elim | skip
  obtain ⟨x, dx, rfl, hx, X', z⟩ := z
  obtain ⟨h2, g2, d2, t2, os2⟩ := s'
  have self := looks_subIn (M := model prog w) X' hself
  have t1 : Looks (model prog w) h2 (typeOf (.ref x)) (.ref C) := (Looks.ld hx).andThen .now
  have hi' := looks_findIn (M := model prog w) X' hi
  have b1 := bind_fn (M := model prog w) X' (.ref x) hf
  unfold isInstance callSpecial? specialOf
  repeat (first | with_reducible refine wpAny_call ?_ | lk)
  refine codeAny_mono z fun r s' z => ?_
  rcases r with e | (v | _ | _ | _) <;> first | exact z | exact z.elim | skip
  obtain ⟨rfl, z⟩ := z
  exact wpAny_pure (wpAny_pure z)
end
section
variable {prog : Program} {w : World} {A₀ A : Around} {s : Shared} {base h₀ : Heap} {outer : List Env} {L : Addr} {m : Str → Option Value} {env : Env} {led rest : Led} {K : Frag}
  {R : Result → Shared → Prop} {name qual : Str} {params : Arguments} {body : List Stmt} {scope : Scope} {dV kV doc pm cdv ct oc : Value} {an od : Option Addr} {osl : Array (Option Value)} {f : Addr} {args : Args}
  {p : Program} {loose : List Str} {mean : ExcName → Option Value} {mg mb : Str → Option Value}
theorem enterVK {vs : List Value} {binds : Value → Value → List (Str × Value)} (B : Below A₀ base outer h₀) (F : Fr h₀ L s.heap m) (X₀ : K.In h₀) (N : News h₀ L s.heap (led ++ rest)) (ap : ∀ p ∈ rest, p.1 ∉ led.map (·.1)) (T : Top p loose mean mg mb h₀) (hA : A.frames = some (env :: outer)) (hf : env.frame = some L) (hke : env.scope.kind = .function)
    (ho : K.lookup f = some ⟨oc, od, .func (fnOf name qual params body scope dV kV doc pm an cdv ct), osl⟩) (hcd : codeIn K cdv qual = true) (hroom : A.depth < recursionLimit)
    (hp : bindArgs (fnOf name qual params body scope dV kV doc pm an cdv ct) args = (newTuple vs >>= fun tv => alloc emptyDict >>= fun d => pure (binds tv (.ref d)))) (hsz : vs.length ≤ sizeLine)
    (hloc : ∀ D D', ∀ y ∈ binds (.ref D) (.ref D'), scope.names.lookup y.1 = some .local)
    (h : ∀ D D' g L' h₁, Fr g L' h₁ (fun y => (binds (.ref D) (.ref D')).reverse.lookup y) → News g L' h₁ led → Below A base (env :: outer) g → K.In g → Top p loose mean mg mb g →
      wpAny (model prog w) (A.deeper (envOf qual scope L' f cdv)) (execs body (envOf qual scope L' f cdv))
        (fun fl s' => LeaveR h₀ L m rest g R (match fl with | .ret v => v | _ => .none) s')
        (fun e s' => wpAny (model prog w) (A.deeper (envOf qual scope L' f cdv)) (leaving (envOf qual scope L' f cdv) e) (fun _ s'' => R (.error e) s'') (fun e' s'' => R (.error e') s'') s')
        { s with heap := h₁, toks := s.toks + (binds (.ref D) (.ref D')).length })
    (hco : scope.isCoroutine = false) (hgen : scope.isGenerator = false) (hk : scope.kind = .function)
    (hcell : ∀ x ∈ scope.names, x.2 ≠ .cell) : codeAny (model prog w) A (.call (.ref f) args) R s := by
  refine codeAny_call_function (fd := fnOf name qual params body scope dV kV doc pm an cdv ct) (body := body) hroom ((X₀.keeps F.keep) _ _ ho) rfl hco hgen rfl (codeRec_of (X₀.keeps F.keep) hcd) ?_
  rw [hp]
  refine wpAny_bind (newTuple_N F N (fun h' F' N' => wpAny_bind (wpAny_alloc (wpAny_pure ?_))) hsz)
  have N₂ : News h₀ L (h'.push emptyDict) (led ++ rest) := fun p hp => (N'.push F' emptyDict) p (.tail _ (.tail _ hp))
  have F₂ := F'.push emptyDict
  generalize s.heap.objs.size = D
  dsimp only
  generalize h'.objs.size = D'
  revert N₂ F₂
  generalize h'.push emptyDict = h₂
  intro N₂ F₂
  obtain ⟨BG, st, back⟩ := groundR (s := { s with heap := h₂ }) (A := A) B F₂ N₂ ap hA hf hke
  refine wpAny_newFunctionEnv hcell (hloc D D') (fun h₁ hns hsb => ⟨(T.nolimit.keeps F₂.keep).fresh _ hsb, codeAny_func ?_⟩) hk
  have hk₁ : ∀ b o, h₂.get? b = some o → h₁.get? b = some o := fun b o e => hsb.extBut b o (Nat.ne_of_lt (Heap.lt_size e)) (Heap.get?_push_of_some _ e)
  have Nl : News h₀ L h₂ led := fun p hp => N₂ p (List.mem_append_left _ hp)
  refine wpAny_mono (h D D' _ h₂.objs.size h₁ ⟨hns, fun b o e => hk₁ b o (of_hideAll _ e), Nat.le_of_eq (hideAll_size _ _)⟩
    (fun p hp => ⟨hk₁ _ _ (Nl p hp).1, Nat.ne_of_lt (Heap.lt_size (Nl p hp).1), hideAll_none _ (List.mem_map_of_mem hp)⟩) BG (X₀.keeps st) (T.keeps st)) (fun fl s' hl => ?_) fun _ _ y => y
  obtain ⟨L', m', led', F', N', k⟩ := hl
  obtain ⟨a, b, c⟩ := back s' L' m' led' F' N'
  exact k a b c
end
theorem bind1VK {name qual : Str} {body : List Stmt} {scope : Scope} {doc pm cdv ct : Value} {an : Option Addr} {pa pb pc : Pos} {na nb nc : Str} (x : Value) (vs : List Value) :
    bindArgs (fnOf name qual { posonlyargs := [{ arg := na, annotation := none, pos := pa }], args := [], vararg := some { arg := nb, annotation := none, pos := pb }, kwonlyargs := [], kw_defaults := [], kwarg := some { arg := nc, annotation := none, pos := pc }, defaults := [] } body scope .none .none doc pm an cdv ct) ⟨x :: vs, []⟩
      = (newTuple vs >>= fun tv => alloc emptyDict >>= fun d => pure [(na, x), (nb, tv), (nc, .ref d)]) := by
  cases vs with
  | nil =>
    unfold bindArgs
    simp [seqItems?, List.lookup]
    rfl
  | cons v r =>
    unfold bindArgs
    simp [seqItems?, List.lookup]
    rfl

section
variable {prog : Program} {w : World} {A : Around} {K : Frag} {C : Addr} {R : Result → Shared → Prop} {h₀ : Heap} {L : Addr} {m : Str → Option Value} {news : Led}
theorem obj_new {s : Shared} {oc : Value} {od : Option Addr} {cd : ClassData} {sl : Array (Option Value)} {q : Program} (hq : prog = q) (F : Fr h₀ L s.heap m) (N : News h₀ L s.heap news) (X₀ : K.In h₀)
    (hC : K.lookup C = some ⟨oc, od, .cls cd, sl⟩) (e1 : cd.abstract = false) (e2 : cd.hasDel = false) (htyp : instIn K (.ref C) (.type "type") = some true)
    (hmade : peek K ⟨q, w.params⟩ (Bind.madeHere "object.__new__" (.ref C)) = some ()) (hchk : peek K ⟨q, w.params⟩ (checkBuiltinCall "object.__new__" ⟨[.ref C], []⟩) = some ()) {E : Value → Shared → Prop} {Q : Value → Shared → Prop}
    (h : ∀ x dx h', Fr h₀ L h' m → News h₀ L h' ((x, instObj C dx) :: (dx, emptyDict) :: news) → (∀ p ∈ news, p.1 < dx) → dx < x → Q (.ref x) { s with heap := h' }) :
    wpAny (model prog w) A (call (.builtin "object.__new__") [.ref C]) Q E s := by
  subst hq
  obtain ⟨hh, g, d, t, os⟩ := s
  have X := X₀.keeps F.keep
  have hC := X _ _ hC
  have typ := looks_instIn (M := model prog w) X htyp
  have made := Looks.of_peek (M := model prog w) X hmade
  have FF := PySem.F.objNew
  have hq := h _ hh.objs.size _ ((F.push _).push _) (by
    have := (N.push F emptyDict).push (F.push _) (instObj C hh.objs.size)
    rwa [Heap.size_push] at this) (fun p hp => Heap.lt_size (N p hp).1) (Nat.lt_succ_self _)
  refine wpAny_call (codeAny_call_builtin_code (Code.quiet_builtin _ FF.quiet) ?_)
  refine (Looks.of_peek (M := model prog w) X hchk).at ?_
  refine codeAny_builtin FF.entry ?_
  unfold Builtin.«object.__new__»
  have fin : ∀ A', wpAny (model prog w) A' (do
      let d ← if typeHasDict (.ref C) then some <$> alloc { cls := .type "dict", data := .dict #[] } else pure none
      ret (← newObj (.ref C) .plain d)) (fun fin s' => match fin with | .done f => wants Q E (.ok f) s' | .again c' => c'.quiet = true ∧ codeAny (model prog w) A c' (wants Q E) s') (fun e s' => wants Q E (.error e) s') ⟨hh, g, d, t, os⟩ := by
    intro A'
    show wpAny _ _ ((alloc emptyDict >>= fun x => pure (some x)) >>= _) _ _ _
    refine wpAny_bind (wpAny_bind (wpAny_alloc (wpAny_pure (wpAny_bind ?_))))
    show wpAny _ _ (newObjAsIs _ _ _) _ _ _
    unfold newObjAsIs classHasDel
    refine wpAny_bind (wpAny_alloc (wpAny_bind (wpAny_bind (wpAny_load (Heap.get?_push_of_some _ (Heap.get?_push_of_some _ hC)) (wpAny_pure ?_)))))
    rw [e2]
    refine wpAny_pure (wpAny_pure ?_)
    show Q _ _
    rw [Heap.size_push]
    exact hq
  repeat (first | simp only [e1, Bool.false_eq_true, if_false] | exact fin _ | lk)
end
end

/-! ## Dq -/
section
theorem mro_dq : ∃ c tl, mroOf (.type "collections.deque") = pure (c :: tl) := ⟨.type "collections.deque", [.type "object"], by rw [mroOf_type]; kernel_rfl⟩
theorem slot_dq_init : Slot "collections.deque" "__init__" "collections.deque.__init__" :=
  .of (owner := "collections.deque") (n := "__init__") (by rw [typeLookup_type, builtinLookup_eq_fast]; kernel_rfl) (by decide +kernel) (by decide +kernel) (by decide +kernel)
    (by first | exact .inl (by decide +kernel) | exact .inr (by decide +kernel)) (by rw [isSubtype_type]; kernel_rfl)
theorem slot_dq_len : Slot "collections.deque" "__len__" "collections.deque.__len__" :=
  .of (owner := "collections.deque") (n := "__len__") (by rw [typeLookup_type, builtinLookup_eq_fast]; kernel_rfl) (by decide +kernel) (by decide +kernel) (by decide +kernel)
    (by first | exact .inl (by decide +kernel) | exact .inr (by decide +kernel)) (by rw [isSubtype_type]; kernel_rfl)
theorem entry_dq_init : entryFor table "collections.deque.__init__" = some Builtin.«collections.deque.__init__» := entryFor_of_tree (by kernel_rfl)
theorem entry_dq_new : entryFor table "collections.deque.__new__" = some Builtin.«collections.deque.__new__» := entryFor_of_tree (by kernel_rfl)
theorem entry_dq_len : entryFor table "collections.deque.__len__" = some Builtin.«collections.deque.__len__» := entryFor_of_tree (by kernel_rfl)
theorem lookup_dq_new : typeLookup (.type "collections.deque") "__new__" = pure (some (.builtin "collections.deque.__new__")) := by rw [typeLookup_type, builtinLookup_eq_fast]; kernel_rfl
theorem mro_dq' : mroOf (.type "collections.deque") = pure [.type "collections.deque", .type "object"] := by rw [mroOf_type]; kernel_rfl
theorem sub_dq : isSubtype (.type "collections.deque") (.type "collections.deque") = pure true := by rw [isSubtype_type]; kernel_rfl
theorem plain_dq_new : plainId "collections.deque.__new__" = true := by decide +kernel
theorem called_dq : TypeCalled "collections.deque" "collections.deque.__new__" "collections.deque.__init__" :=
  ⟨by decide +kernel, by decide +kernel, mro_dq, madeBy_type mro_dq' lookup_dq_new (by decide +kernel), by decide +kernel, sub_dq, slot_dq_init⟩
theorem typeCall_dq : checkTypeCall "collections.deque" ⟨[], []⟩ = pure () := by kernel_rfl
theorem newCall_dq : checkBuiltinCall "collections.deque.__new__" ⟨[.type "collections.deque"], []⟩ = pure () := by kernel_rfl
theorem noBool_dq : typeLookup (.type "collections.deque") "__bool__" = pure none := by rw [typeLookup_type, builtinLookup_eq_fast]; kernel_rfl
theorem args_dq_init (a : Value) : argsOk "collections.deque.__init__" ⟨[a], []⟩ := by unfold argsOk; kernel_rfl
theorem args_dq_len (a : Value) : argsOk "collections.deque.__len__" ⟨[a], []⟩ := by unfold argsOk; kernel_rfl
noncomputable abbrev dqO : Obj := { cls := .type "collections.deque", data := .fields #[.none, rawInt 0] }

section
variable {prog : Program} {w : World} {A : Around} {E : Value → Shared → Prop} {s : Shared}
theorem code_dq_new {Q₁ : Value → Shared → Prop} (h : Q₁ (.ref s.heap.objs.size) { s with heap := s.heap.push dqO }) :
    codeAny (model prog w) A (.call (.builtin "collections.deque.__new__") ⟨[.type "collections.deque"], []⟩) (wants Q₁ E) s := by
  refine codeAny_of_tree ?_
  show wpAny _ A.in1 (do checkBuiltinCall "collections.deque.__new__" ⟨[.type "collections.deque"], []⟩; again (.builtin "collections.deque.__new__" ⟨[.type "collections.deque"], []⟩)) _ _ s
  refine wpAny_bind (wpAny_of_eq newCall_dq (wpAny_pure ⟨plainId_quiet plain_dq_new _, codeAny_builtin entry_dq_new ?_⟩))
  rw [Around.under_plainId plain_dq_new _]
  unfold Builtin.«collections.deque.__new__» Builtin.Deque.newArgs
  have hsub := sub_dq
  obtain ⟨hp, g, d, tk, os⟩ := s
  dsimp only [Builtin.Deque.ty]
  wp_walk
  have e : ((#[(match (none : Option Nat) with | some n => rawInt (n : Int) | none => Value.none), rawInt 0] : Array Value) ++ (#[] : Array Value)) = #[.none, rawInt 0] := by simp
  rw [e]
  exact h

theorem upd_same {h : Heap} {a : Addr} {o : Obj} {f : Obj → Obj} (ha : h.get? a = some o) (e : f o = o) : h.update a f = h := by
  obtain ⟨objs, l⟩ := h
  show (⟨objs.modify a f, l⟩ : Heap) = ⟨objs, l⟩
  congr 1
  have ho : objs[a]? = some o := by
    unfold Heap.get? at ha
    dsimp only at ha
    split at ha
    · cases ha
    · exact ha
  apply Array.ext_getElem?
  intro i
  rw [Array.getElem?_modify]
  split
  · rename_i q; subst q; rw [ho]; simp [e]
  · rfl
theorem dq_init_body {a : Addr} {Q : Fin → Shared → Prop} (ha : s.heap.get? a = some dqO) (h : Q (.done (.ret .none)) s) :
    wpAny (model prog w) A (Builtin.«collections.deque.__init__» ⟨[.ref a], []⟩) Q E s := by
  obtain ⟨hp, g, d, tk, os⟩ := s
  unfold Builtin.«collections.deque.__init__»
  dsimp only
  wp_walk
  rw [upd_same ha (by unfold Obj.mapFields; rfl)]
  exact h

theorem call_dq {Q : Value → Shared → Prop} (h : Q (.ref s.heap.objs.size) { s with heap := s.heap.push dqO }) :
    wpAny (model prog w) A (call (.type "collections.deque") []) Q E s := by
  refine callType_codes (Q₁ := fun obj s₁ => obj = .ref s.heap.objs.size ∧ s₁ = { s with heap := s.heap.push dqO }) called_dq typeCall_dq entry_dq_init
    (code_dq_new ⟨rfl, rfl⟩) fun obj s₁ h₁ => ?_
  obtain ⟨rfl, rfl⟩ := h₁
  have hS : (s.heap.push dqO).get? s.heap.objs.size = some dqO := Heap.get?_push_size _ rfl
  refine ⟨⟨_, hS, rfl⟩, args_dq_init _, dq_init_body hS ⟨rfl, h⟩⟩

theorem dq_len_body {a : Addr} {Q : Fin → Shared → Prop} (ha : s.heap.get? a = some dqO) (h : ∀ k t, Q (.done (.ret (.int 0 t))) { s with toks := k }) :
    wpAny (model prog w) A (Builtin.«len» ⟨[.ref a], []⟩) Q E s := by
  have hT : s.TypeIs (.ref a) "collections.deque" := ⟨_, ha, rfl⟩
  unfold Builtin.«len»
  refine wpAny_bind (m := oneArg "len" _) (wpAny_pure ?_)
  refine wpAny_bind (m := callSpecial? (.ref a) (Str.ofString "__len__")) (wpAny_callSpecial?_slot (name := Str.ofString "__len__") hT slot_dq_len
    (wpAny_call_entry slot_dq_len hT entry_dq_len ?_ (args_dq_len _)))
  obtain ⟨hp, g, d, tk, os⟩ := s
  unfold Builtin.«collections.deque.__len__»
  dsimp only
  wp_walk
  refine ⟨_, rfl, ?_⟩
  have e : ((((#[Value.none, rawInt 0] : Array Value).size - 2 : Nat) : Int)) = 0 := by simp
  rw [e]
  refine wpAny_bind (wpAny_holding (wpAny_pure ?_))
  refine wpAny_bind (wpAny_letGo ?_)
  show wpAny _ _ (if (0 : Int) < 0 then _ else _) _ _ _
  rw [if_neg (by omega)]
  show wpAny _ _ (if (0 : Int) ≥ 2 ^ 63 then _ else _) _ _ _
  rw [if_neg (by omega)]
  exact wpAny_bind (wpAny_mkInt (wpAny_pure (h _ _)))
theorem truthy_dq {a : Addr} {Q : Bool → Shared → Prop} (ha : s.heap.get? a = some dqO) (h : ∀ k, Q false { s with toks := k }) : wpAny (model prog w) A (truthy (.ref a)) Q E s := by
  have hT : s.TypeIs (.ref a) "collections.deque" := ⟨_, ha, rfl⟩
  have noB := noBool_dq
  unfold truthy
  refine wpAny_bind (wpAny_callSpecial?_none (name := Str.ofString "__bool__") hT noBool_dq ?_)
  refine wpAny_bind (wpAny_specialOf (name := Str.ofString "__len__") hT slot_dq_len.lookup ?_)
  rw [if_neg (by decide)]
  refine wpAny_bind (wpAny_runValue (codeAny_builtin entry_len ?_))
  rw [Around.under_plainId plain_len _]
  refine dq_len_body ha fun k t => ?_
  exact wpAny_pure (h k)
theorem call_dqN {h₀ : Heap} {L : Addr} {m : Str → Option Value} {news : Led} {Q : Value → Shared → Prop} (F : Fr h₀ L s.heap m) (N : News h₀ L s.heap news)
    (h : ∀ (x : Nat) h', Fr h₀ L h' m → News h₀ L h' ((x, dqO) :: news) → (∀ p ∈ news, p.1 < x) → Q (.ref x) { s with heap := h' }) : wpAny (model prog w) A (call (.type "collections.deque") []) Q E s :=
  call_dq (h _ _ (F.push _) (N.push F _) fun p hp => Heap.lt_size (N p hp).1)
theorem truthy_dqN {h₀ : Heap} {L : Addr} {a : Addr} {news : Led} {Q : Bool → Shared → Prop} (N : News h₀ L s.heap news) (hm : (a, dqO) ∈ news) (h : ∀ k, Q false { s with toks := k }) : wpAny (model prog w) A (truthy (.ref a)) Q E s :=
  truthy_dq (N _ hm).1 h
end
end

/-! ## P4 -/
section
theorem offP4 : True := by
  (w_top off)
  k_with_none
  k_with "steps" => (repeat' (first | (k_unfold; (try dsimp only)) | ((with_reducible show wpAny _ _ (exec (Stmt.If _ _ _ _) _) _ _ _); k_fold) | ((fail_if_success with_reducible show LeaveR _ _ _ _ _ _ _ _); (fail_if_success with_reducible show TurnPost _ _ _ _ _ _ _ _ _); (fail_if_success with_reducible show wpAny _ _ (pyIter _) _ _ _); (fail_if_success with_reducible show wpAny _ _ (exec (Stmt.While _ _ _ _) _) _ _ _); walk1) | ((fail_if_success with_reducible show LeaveR _ _ _ _ _ _ _ _); (fail_if_success with_reducible show TurnPost _ _ _ _ _ _ _ _ _); (fail_if_success with_reducible show wpAny _ _ (pyIter _) _ _ _); (fail_if_success with_reducible show wpAny _ _ (exec (Stmt.While _ _ _ _) _) _ _ _); dsimp only; walk1) | fail "no step"))
  k_with "call builtin:issubclass" => ((k_here; (with_reducible show wpAny _ _ (call (Value.builtin "issubclass") [Value.type "str", Value.ref _]) _ _ _); refine issub_call (News.get (by k_asm) (by k_mem)) ?_))
  k_with "call ref" => (((with_reducible show wpAny _ _ (call (Value.ref 807) _) _ _ _); k_dflt ((refine' DoesP.use (c_fspath _ _ _) ?k1 ?k2 ?k3 ?k4 ?k5 ?kK ?kd ?ku ?_; (case k1 => k_asm); (case k2 => k_asm); (case k3 => k_asm); (case k4 => k_asm); (case k5 => k_asm); (case kK => first | exact rfl | assumption); (case kd => ktr_room); (case ku => ktr_units); k_whole; intro _ _ _ P9 _ _; (first | subst P9 | (obtain ⟨_, P9⟩ := P9; subst P9)); (try dsimp only); (try k_fold)))))
  k_with "call ref" => (((with_reducible show wpAny _ _ (call (Value.ref 821) _) _ _ _); k_dflt ((refine' DoesP.use (c_get_sep _ _ _) ?k1 ?k2 ?k3 ?k4 ?k5 ?kK ?kd ?ku ?_; (case k1 => k_asm); (case k2 => k_asm); (case k3 => k_asm); (case k4 => k_asm); (case k5 => k_asm); (case kK => first | exact rfl | assumption); (case kd => ktr_room); (case ku => ktr_units); k_whole; intro _ _ _ P9 _ _; (first | subst P9 | (obtain ⟨_, P9⟩ := P9; subst P9)); (try dsimp only); (try k_fold)))))
  k_with "call builtin:str.find" => (((with_reducible show wpAny _ _ (call (Value.builtin "str.find") [Value.str _ _, Value.str _ _, Value.int _ _, Value.int (((Str.length _ : Nat)) : Int) _]) _ _ _); refine find4 ?_))
  k_with "call builtin:str.split" => (((with_reducible show wpAny _ _ (call (Value.builtin "str.split") [Value.str _ _, Value.str _ _]) _ _ _); refine' KSpl.split1 ?k1 ?k2 ?k3 ?_ ?k4; (case k1 => k_asm); (case k2 => k_asm); (case k3 => decide); (case k4 => (rw [sizeLine_eq]; omega)); intro _ _ _ _ _ _ _ _ yl1; (try k_lt yl1); revert yl1; intro _))
  k_with "truthy ref" => ((with_unfolding_all (refine' truthyL ?k1 ?k2 ?k3 ?_; (case k1 => k_asm); (case k2 => k_mem); (case k3 => omega))))
  k_with "call builtin:list.pop" => ((refine' popL ?k1 ?k2 ?k3 ?k4 ?k5 ?_; (case k1 => k_asm); (case k2 => k_asm); (case k3 => k_upd); (case k4 => assumption); (case k5 => omega); intro _ _ _ _; (try k_sweep)))
  k_with "call builtin:list.append" => ((refine' appendL ?k1 ?k2 ?k3 ?k4 ?_; (case k1 => k_asm); (case k2 => k_asm); (case k3 => k_upd); (case k4 => omega); intro _ _ _; (try k_sweep)))
  k_with "subscriptTail Name UnaryOp ref int" => (((with_reducible show wpAny _ _ (subscriptTail _ _ (Value.ref _) (Value.int _ _)) _ _ _); (with_unfolding_all refine' lastL ?k1 ?k2 ?k3 ?k4 ?k5 ?_; (case k1 => k_asm); (case k2 => k_mem); (case k3 => assumption); (case k4 => assumption); (case k5 => omega)); intro _))
  k_with "call builtin:str.join" => (((with_reducible show wpAny _ _ (call (Value.builtin "str.join") [Value.str _ _, Value.ref _]) _ _ _); refine' joinL ?k1 ?k2 ?k3 ?k4 ?k5 ?_; (case k1 => k_asm); (case k2 => k_mem); (case k3 => assumption); (case k4 => decide); (case k5 => (rw [wgt_sum]; omega)); intro _ _))
  trivial
set_option maxHeartbeats 8000000 in
theorem c_norm (w : World) (x : Str) (t : Tok) (hx : x.length ≤ 100000) : DoesP w 842 6 80 [.str x t] (fun v => ∃ t, v = .str (normS x) t) := by
  unfold DoesP Does
  k_fill
  intro mean mg mb dp un gd cn cs a0 ccd cl outer A₀ base h₀ L m s rest Q E hB hF hK hN hap hT hcs hd hu hret
  k_dflt (refine wpAny_call ?_; (refine' enterR (binds := [(Str.ofString "path", .str x t)]) ?k1 ?k2 ?k3 ?k4 ?kp ?k5 ?kA ?kF ?kK ?k6 ?k7 ?k8 ?k9 ?kB ?_ ?c2 ?c3 ?c4 ?c5; (case kA => exact rfl); (case kF => exact rfl); (case kK => assumption); (case k1 => k_asm); (case k2 => k_asm); (case k3 => k_asm); (case k4 => k_asm); (case kp => k_asm); (case k5 => k_asm); (case k6 => k_is); (case k7 => k_is); (case k8 => ktr_room); (case k9 => first | exact BindsTo.of_eq rfl | exact binds_K (by k_in) rfl (by k_is) rfl rfl rfl); (case c5 => decide); (case kB => exact locs rfl); (case c2 => exact rfl); (case c3 => exact rfl); (case c4 => exact rfl); k_whole; intro _ _ _ _ _ _ _ _ _ _; (try dsimp only); (try k_fold)))
  k_with "call ref" => ((with_reducible show wpAny _ _ (call (Value.ref 835) _) _ _ _); k_dflt (refine' Does.use (rest := []) (c_splitroot _ _ _ (by omega)) ?k1 ?k2 ?k3 ?k4 ?kp ?k5 ?kK ?kd ?ku ?_; (case k1 => k_asm); (case k2 => k_asm); (case k3 => k_asm); (case k4 => k_asm); (case kp => exact fun _ h => nomatch h); (case k5 => k_asm); (case kK => first | exact rfl | assumption); (case kd => ktr_room); (case ku => ktr_units); k_whole; intro v9 led9 h9 tk9 P9 F9 N9 D9; (obtain ⟨a9, t1, t2, t3, r9, q9, rfl, rfl, hr9, hq9⟩ := P9); (simp only [List.append_nil] at N9); (have hq8 := srRest_len x); (rw [← hq9] at hq8); (have hr8 := srRoot_len x); (rw [← hr9] at hr8)))
  k_steps
  · rename_i CA l hx1 kx eS aS lx hx2 NA hx3 ly hx4 lF N1
    rw [eS] at aS
    have hw := split_wgt q9 (Str.ofString "/") (by decide)
    generalize hxs : Txt.split q9 (Str.ofString "/") = xs at *
    generalize hvl : strValues l = vl at *
    have hvl2 := aS.length
    have hxl := wgt_len xs
    refine' iter_list (vs := vl) (n := 0) (fun i m n => ∃ vals k, StrsAre vals (normL r9 (xs.take i)) ∧ n = [(NA, listO vals k), (CA, listO vl 0), (a9, tupO [Value.str (Str.ofString "") t1, Value.str r9 t2, Value.str q9 t3])] ∧ m (Str.ofString "new_comps") = some (.ref NA) ∧ (∃ t, m (Str.ofString "dot") = some (.str (Str.ofString ".") t)) ∧ (∃ t, m (Str.ofString "dotdot") = some (.str (Str.ofString "..") t)) ∧ (∃ t, m (Str.ofString "sep") = some (.str (Str.ofString "/") t)) ∧ m (Str.ofString "initial_slashes") = some (.str r9 t2)) rfl (by k_asm) (by k_asm) (by k_mem) ?kJ ⟨[], 0, .nil, rfl, rfl, ⟨_, rfl⟩, ⟨_, rfl⟩, ⟨_, rfl⟩, rfl⟩ ?turn ?done
    case kJ => rintro i m₁ n₁ ⟨_, _, _, rfl, _⟩; exact List.Mem.tail _ (List.Mem.head _)
    case turn =>
      rintro i v m₁ n₁ h tk I io hv' ⟨vals, k, hsv, rfl, h1, ⟨u1, h2⟩, ⟨u2, h3⟩, ⟨u3, h4⟩, h5⟩ hI F N
      obtain ⟨y, ty, rfl, hy⟩ := StrsAre.item aS i v hv'
      have hwi := wgt_mem hy
      have hwn := normL_wgt r9 (xs.take i)
      rw [normL_take hy]
      generalize normL r9 (xs.take i) = acc at *
      have hal := wgt_len acc
      have hvv := hsv.length
      have hI1 : @Ne Nat NA I := hI _ (.head _)
      have hI2 : @Ne Nat CA I := hI _ (.tail _ (.head _))
      have hI3 : @Ne Nat a9 I := hI _ (.tail _ (.tail _ (.head _)))
      have F := Fr.put (x := Str.ofString "initial_slashes") (Fr.put (x := Str.ofString "sep") (Fr.put (x := Str.ofString "dotdot") (Fr.put (x := Str.ofString "dot") (Fr.put (x := Str.ofString "new_comps") F (by exact h1)) (by exact h2)) (by exact h3)) (by exact h4)) (by exact h5)
      clear hB hF hK hN hap hT hcs hd hu hret
      clear_value *
      k_steps
      all_goals (have hI' : ∀ (l l' : List Value) (k k' : Nat) (p : Addr × Obj), p ∈ [(NA, listO l k), (CA, listO l' k'), (a9, tupO [Value.str (Str.ofString "") t1, Value.str r9 t2, Value.str q9 t3])] → p.1 ≠ I := by (intro l l' k k' p hp; rcases List.mem_cons.mp hp with rfl | hp; exact hI1; rcases List.mem_cons.mp hp with rfl | hp; exact hI2; rcases List.mem_cons.mp hp with rfl | hp; exact hI3; cases hp))
      all_goals (try dsimp only)
      all_goals (first
        | refine turn_endC (by k_asm) (by k_asm) (hI' _ _ _ _) ⟨_, _, ns_same hsv ?_, rfl, rfl, ⟨_, rfl⟩, ⟨_, rfl⟩, ⟨_, rfl⟩, rfl⟩
        | refine turn_end (by k_asm) (by k_asm) (hI' _ _ _ _) ⟨_, _, ns_same hsv ?_, rfl, rfl, ⟨_, rfl⟩, ⟨_, rfl⟩, ⟨_, rfl⟩, rfl⟩
        | refine turn_end (by k_asm) (by k_asm) (hI' _ _ _ _) ⟨_, _, ns_app hsv ?_, rfl, rfl, ⟨_, rfl⟩, ⟨_, rfl⟩, ⟨_, rfl⟩, rfl⟩
        | refine turn_end (by k_asm) (by k_asm) (hI' _ _ _ _) ⟨_, _, ns_drop hsv ?_, rfl, rfl, ⟨_, rfl⟩, ⟨_, rfl⟩, ⟨_, rfl⟩, rfl⟩)
      all_goals (first
        | exact ns1 (by assumption)
        | exact ns2 (by assumption) (by assumption)
        | exact ns3 (by assumption) (by assumption) (by assumption)
        | exact ns4 (by assumption) (by assumption) (by assumption) (by assumption) (nil_of_empty hsv (by assumption))
        | exact ns5 (by assumption) (by assumption) (by assumption) (by assumption) (nil_of_empty hsv (by assumption))
        | exact ns6 (by assumption) (by assumption) (by assumption) (ne_of_full hsv (by assumption)) (by assumption)
        | exact ns7 (by assumption) (by assumption) (by assumption) (ne_of_full hsv (by assumption)) (by assumption))
    case done =>
      rintro m₁ n₁ h tk ⟨vals, k, hsv, rfl, h1, ⟨u1, h2⟩, ⟨u2, h3⟩, ⟨u3, h4⟩, h5⟩ F N
      rw [hvl2, List.take_length] at hsv
      have hwn := normL_wgt r9 xs
      have hjl := tjoin_wgt (Str.ofString "/") (by decide) (normL r9 xs)
      have F := Fr.put (x := Str.ofString "initial_slashes") (Fr.put (x := Str.ofString "sep") (Fr.put (x := Str.ofString "dotdot") (Fr.put (x := Str.ofString "dot") (Fr.put (x := Str.ofString "new_comps") F (by exact h1)) (by exact h2)) (by exact h3)) (by exact h4)) (by exact h5)
      k_steps
      all_goals (try dsimp only)
      all_goals (refine leaveR_ (by k_asm) News.nil ?_; intro kF kN kD; refine hret _ _ _ _ ⟨⟨_, congrArg (Value.str · _) ?_⟩, rfl⟩ kF kN kD)
      · rw [← hxs]; exact norm_in (by assumption) hr9 hq9 (by rw [hxs]; assumption)
      · exact norm_dot (by assumption) hr9 hq9 (by rw [hxs]; assumption)
  · dsimp only
    refine leaveR_ (by k_asm) News.nil ?_; intro kF kN kD; exact hret _ _ _ _ ⟨⟨_, by unfold normS; rw [if_pos (by omega)]⟩, rfl⟩ kF kN kD
end

/-! ## Et -/
section
noncomputable abbrev fsOf (outer : List Env) : List Addr := outer.filterMap (·.frame)

section
variable {prog : Program} {w : World} {A₀ A : Around} {s : Shared} {base h₀ : Heap} {outer : List Env} {L : Addr} {m : Str → Option Value} {env : Env} {led rest : Led} {K : Frag}
  {R : Result → Shared → Prop} {name qual : Str} {params : Arguments} {body : List Stmt} {scope : Scope} {dV kV doc pm cdv ct oc : Value} {an od : Option Addr} {osl : Array (Option Value)} {f : Addr} {args : Args} {binds : List (Str × Value)}
  {p : Program} {loose : List Str} {mean : ExcName → Option Value} {mg mb : Str → Option Value}
theorem groundE (B : Below A₀ base outer h₀) (F : Fr h₀ L s.heap m) (N : News h₀ L s.heap (led ++ rest)) (ap : ∀ p ∈ rest, p.1 ∉ led.map (·.1)) (hA : A.frames = some (env :: outer)) (hf : env.frame = some L) (hke : env.scope.kind = .function) :
    Fr h₀ L (hideAll s.heap (led.map (·.1))) m ∧ News h₀ L (hideAll s.heap (led.map (·.1))) rest := by
  have Nl : News h₀ L s.heap led := fun p hp => N p (List.mem_append_left _ hp)
  exact ⟨(groundX (A := A) (R := fun _ _ => True) B F Nl hA hf hke).1, fun p hp => ⟨hideAll_get _ (N p (List.mem_append_right _ hp)).1 (ap p hp), (N p (List.mem_append_right _ hp)).2⟩⟩

theorem enterE (B : Below A₀ base outer h₀) (F : Fr h₀ L s.heap m) (X₀ : K.In h₀) (N : News h₀ L s.heap (led ++ rest)) (ap : ∀ p ∈ rest, p.1 ∉ led.map (·.1)) (T : Top p loose mean mg mb h₀) (hA : A.frames = some (env :: outer)) (hf : env.frame = some L) (hke : env.scope.kind = .function)
    (ho : K.lookup f = some ⟨oc, od, .func (fnOf name qual params body scope dV kV doc pm an cdv ct), osl⟩) (hcd : codeIn K cdv qual = true) (hroom : A.depth < recursionLimit)
    (hbind : BindsTo s (fnOf name qual params body scope dV kV doc pm an cdv ct) args binds) (hloc : ∀ y ∈ binds, scope.names.lookup y.1 = some .local)
    (h : ∀ g L' h₁, Fr h₀ L g m → News h₀ L g rest → Fr g L' h₁ (fun y => binds.reverse.lookup y) → News g L' h₁ led → Below A base (env :: outer) g → K.In g → Top p loose mean mg mb g → (∀ p ∈ led, p.1 < L') → h₀.StaysIn g →
      wpAny (model prog w) (A.deeper (envOf qual scope L' f cdv)) (execs body (envOf qual scope L' f cdv))
        (fun fl s' => LeaveR h₀ L m rest g R (match fl with | .ret v => v | _ => .none) s')
        (fun e s' => wpAny (model prog w) (A.deeper (envOf qual scope L' f cdv)) (leaving (envOf qual scope L' f cdv) e) (fun _ s'' => R (.error e) s'') (fun e' s'' => R (.error e') s'') s')
        { s with heap := h₁, toks := s.toks + binds.length })
    (hco : scope.isCoroutine = false) (hgen : scope.isGenerator = false) (hk : scope.kind = .function)
    (hcell : ∀ x ∈ scope.names, x.2 ≠ .cell) : codeAny (model prog w) A (.call (.ref f) args) R s := by
  obtain ⟨BG, st, back⟩ := groundR B F N ap hA hf hke
  obtain ⟨FG, NG⟩ := groundE (A := A) B F N ap hA hf hke
  have X := X₀.keeps F.keep
  refine codeAny_call_def (fd := fnOf name qual params body scope dV kV doc pm an cdv ct) (body := body) (binds := binds) hroom (X _ _ ho) rfl (T.nolimit.keeps F.keep) (codeRec_of X hcd) rfl hbind hcell hloc (fun h₁ hns hk₁ => ?_) hco hgen hk
  have Nl : News h₀ L s.heap led := fun p hp => N p (List.mem_append_left _ hp)
  refine wpAny_mono (h _ s.heap.objs.size h₁ FG NG ⟨hns, fun b o e => hk₁ b o (of_hideAll _ e), Nat.le_of_eq (hideAll_size _ _)⟩
    (fun p hp => ⟨hk₁ _ _ (Nl p hp).1, Nat.ne_of_lt (Heap.lt_size (Nl p hp).1), hideAll_none _ (List.mem_map_of_mem hp)⟩) BG (X₀.keeps st) (T.keeps st) (fun p hp => Heap.lt_size (Nl p hp).1) st) (fun fl s' hl => ?_) fun _ _ y => y
  obtain ⟨L', m', led', F', N', k⟩ := hl
  obtain ⟨a, b, c⟩ := back s' L' m' led' F' N'
  exact k a b c

/-- the end of a def whose ground may have turned -/
noncomputable def LeaveT (fs : List Addr) (A₀ : Around) (base : Heap) (outer : List Env) (K : Frag) (p : Program) (loose : List Str) (mean : ExcName → Option Value) (mg mb : Str → Option Value) (h₀ : Heap) (L : Addr) (m : Str → Option Value) (rest : Led) (g : Heap) (R : Result → Shared → Prop) (v : Value) (s' : Shared) : Prop :=
  ∃ g' L' m' led', KtsTurn fs g g' ∧ Fr g' L' s'.heap m' ∧ News g' L' s'.heap led' ∧ ∀ h₁, KtsTurn (fsOf outer) h₀ h₁ → Fr h₁ L s'.heap m → News h₁ L s'.heap (led' ++ rest) → (∀ p ∈ rest, ∀ q ∈ led', q.1 ≠ p.1) → Below A₀ base outer h₁ → K.In h₁ → Top p loose mean mg mb h₁ → R (.ok (.ret v)) s'

theorem enterT (B : Below A₀ base outer h₀) (F : Fr h₀ L s.heap m) (X₀ : K.In h₀) (XB : K.In base) (N : News h₀ L s.heap (led ++ rest)) (ap : ∀ p ∈ rest, p.1 ∉ led.map (·.1)) (T : Top p loose mean mg mb h₀) (TB : Top p loose mean mg mb base) (hA : A.frames = some (env :: outer)) (hf : env.frame = some L) (hke : env.scope.kind = .function)
    (ho : K.lookup f = some ⟨oc, od, .func (fnOf name qual params body scope dV kV doc pm an cdv ct), osl⟩) (hcd : codeIn K cdv qual = true) (hroom : A.depth < recursionLimit)
    (hbind : BindsTo s (fnOf name qual params body scope dV kV doc pm an cdv ct) args binds) (hloc : ∀ y ∈ binds, scope.names.lookup y.1 = some .local)
    (h : ∀ g L' h₁, Fr h₀ L g m → News h₀ L g rest → Fr g L' h₁ (fun y => binds.reverse.lookup y) → News g L' h₁ led → Below A base (env :: outer) g → K.In g → Top p loose mean mg mb g → (∀ p ∈ led, p.1 < L') → h₀.StaysIn g →
      wpAny (model prog w) (A.deeper (envOf qual scope L' f cdv)) (execs body (envOf qual scope L' f cdv))
        (fun fl s' => LeaveT (fsOf (env :: outer)) A₀ base outer K p loose mean mg mb h₀ L m rest g R (match fl with | .ret v => v | _ => .none) s')
        (fun e s' => wpAny (model prog w) (A.deeper (envOf qual scope L' f cdv)) (leaving (envOf qual scope L' f cdv) e) (fun _ s'' => R (.error e) s'') (fun e' s'' => R (.error e') s'') s')
        { s with heap := h₁, toks := s.toks + binds.length })
    (hco : scope.isCoroutine = false) (hgen : scope.isGenerator = false) (hk : scope.kind = .function)
    (hcell : ∀ x ∈ scope.names, x.2 ≠ .cell) : codeAny (model prog w) A (.call (.ref f) args) R s := by
  obtain ⟨BG, st, _⟩ := groundR B F N ap hA hf hke
  obtain ⟨FG, NG⟩ := groundE (A := A) B F N ap hA hf hke
  have X := X₀.keeps F.keep
  refine codeAny_call_def (fd := fnOf name qual params body scope dV kV doc pm an cdv ct) (body := body) (binds := binds) hroom (X _ _ ho) rfl (T.nolimit.keeps F.keep) (codeRec_of X hcd) rfl hbind hcell hloc (fun h₁ hns hk₁ => ?_) hco hgen hk
  have Nl : News h₀ L s.heap led := fun p hp => N p (List.mem_append_left _ hp)
  refine wpAny_mono (h _ s.heap.objs.size h₁ FG NG ⟨hns, fun b o e => hk₁ b o (of_hideAll _ e), Nat.le_of_eq (hideAll_size _ _)⟩
    (fun p hp => ⟨hk₁ _ _ (Nl p hp).1, Nat.ne_of_lt (Heap.lt_size (Nl p hp).1), hideAll_none _ (List.mem_map_of_mem hp)⟩) BG (X₀.keeps st) (T.keeps st) (fun p hp => Heap.lt_size (Nl p hp).1) st) (fun fl s' hl => ?_) fun _ _ y => y
  obtain ⟨g', L', m', led', T', F', N', k⟩ := hl
  have fmem : ∀ b, b ∈ fsOf (env :: outer) → b = L ∨ b ∈ fsOf outer := fun b hb => by
    obtain ⟨e, he, hb'⟩ := List.mem_filterMap.mp hb
    rcases List.mem_cons.mp he with he | he
    · rw [he, hf] at hb'; exact .inl (Option.some.inj hb').symm
    · exact .inr (List.mem_filterMap.mpr ⟨e, he, hb'⟩)
  have nL₀ : h₀.get? L = none := kts_self F
  obtain ⟨oL, es, ep, hLg, hLd, hLk, hLf⟩ := FG.ns
  obtain ⟨sl, hs⟩ := T'.up hLg
  obtain ⟨T₁, S₁⟩ := kts_turn_at (h := s'.heap) (fs := fsOf outer) (g := h₀)
    (fun b hb => by
      obtain ⟨_, o, ho', _⟩ := B.frames.mem hb
      exact ⟨o, ho'⟩)
    (fun b o e nmem => F'.keep b o (T'.other b o (st b o e) (fun q => by
      rcases fmem _ q with z | z
      · rw [z, nL₀] at e
        cases e
      · exact nmem z)))
    (fun b o e hm => by
      obtain ⟨sl', hs'⟩ := T'.up (st b o e)
      exact ⟨sl', F'.keep _ _ hs'⟩)
  have B₃ : Below A₀ base outer (ktsHeap s'.heap (fsOf outer) h₀) := ⟨B.stack, fun b o e => T₁.other b o (B.stays b o e) (fun hm => by
    rw [(B.frames.mem hm).1] at e
    cases e), B.frames.of_keeps fun b o e _ => by
    obtain ⟨sl', hs'⟩ := T₁.up e
    exact ⟨_, hs', rfl⟩⟩
  have rk : ∀ p ∈ rest, s'.heap.get? p.1 = some p.2 ∧ p.1 ≠ L ∧ h₀.get? p.1 = none ∧ g'.get? p.1 = some p.2 := fun p hp => by
    have e := (NG p hp).1
    have n2 := (NG p hp).2
    have e' := T'.other _ _ e (fun q => by
      rcases fmem _ q with z | z
      · exact n2.1 z
      · obtain ⟨_, o, ho', _⟩ := B.frames.mem z
        rw [n2.2] at ho'; cases ho')
    exact ⟨F'.keep _ _ e', n2.1, n2.2, e'⟩
  refine k _ T₁ ⟨⟨_, es, ep, F'.keep _ _ hs, hLd, hLk, hLf⟩, S₁, by rw [T₁.size]; exact F.above⟩ (fun p hp => ?_) (fun p hp q hq z => ?_) B₃ (XB.keeps B₃.stays) (TB.keeps B₃.stays)
  · rcases List.mem_append.mp hp with hp | hp
    · refine ⟨(N' p hp).1, fun q => ?_, ?_⟩
      · have := (N' p hp).2.2; rw [q, hs] at this; cases this
      · refine T₁.none_ _ ?_
        cases q : h₀.get? p.1 with
        | none => rfl
        | some o =>
          obtain ⟨sl', hs'⟩ := T'.up (st _ _ q)
          have := (N' p hp).2.2
          rw [hs'] at this
          cases this
    · obtain ⟨r1, r2, r3, _⟩ := rk p hp
      exact ⟨r1, r2, T₁.none_ _ r3⟩
  · have := (N' q hq).2.2
    rw [z, (rk p hp).2.2.2] at this; cases this
end

/-- what a call of the def at f does: it returns, or it raises -/
noncomputable def DoesE (w : World) (f : Addr) (d u : Nat) (vs : List Value) (led : Led) (post : Value → Led → Prop) (ep : String → List Value → Prop) : Prop :=
  ∀ (mean : ExcName → Option Value) (mg mb : Str → Option Value) (dp un : Nat) (gd : Option (List Code)) (cn : Str) (cs : Scope) (a : Addr) (ccd : Value) (cl : List (Str × Addr)) (outer : List Env) (A₀ : Around) (base h₀ : Heap) (L : Addr) (m : Str → Option Value) (s : Shared) (rest : Led) (Q E : Value → Shared → Prop),
    Below A₀ base outer h₀ → Fr h₀ L s.heap m → (hd.heap_1 w.params).In h₀ → News h₀ L s.heap (led ++ rest) → (∀ p ∈ rest, p.1 ∉ led.map (·.1)) → Top qv (looseW qv looseV) mean mg mb h₀ → cs.kind = .function → dp + d < recursionLimit → un + u < cLine →
    (∀ v led' h' tk', post v led' → Fr h₀ L h' m → News h₀ L h' (led' ++ rest) → (∀ p ∈ rest, ∀ q ∈ led', q.1 ≠ p.1) → Q v { s with heap := h', toks := tk' }) →
    (∀ e t X xs G h' tk', ep X xs → RaisedS base G (envX cn cs L a ccd cl :: outer) e (.type X) t xs [] h' → Fr h₀ L G m → News h₀ L G rest → G.UpToSlots h' → E (.ref e) { s with heap := h', toks := tk' }) →
    wpAny (model (OpenLaw.prog PySem.Challenge.rw_pd0002_01) w) (ktrTop dp un gd cn cs L a ccd cl outer) (call (.ref f) vs) Q E s
/-- the same, its ground turned: an exception was caught within -/
noncomputable def DoesT (w : World) (f : Addr) (d u : Nat) (vs : List Value) (led : Led) (post : Value → Led → Prop) (ep : String → List Value → Prop) : Prop :=
  ∀ (mean : ExcName → Option Value) (mg mb : Str → Option Value) (dp un : Nat) (gd : Option (List Code)) (cn : Str) (cs : Scope) (a : Addr) (ccd : Value) (cl : List (Str × Addr)) (outer : List Env) (A₀ : Around) (base h₀ : Heap) (L : Addr) (m : Str → Option Value) (s : Shared) (rest : Led) (Q E : Value → Shared → Prop),
    Below A₀ base outer h₀ → Fr h₀ L s.heap m → (hd.heap_1 w.params).In h₀ → (hd.heap_1 w.params).In base → News h₀ L s.heap (led ++ rest) → (∀ p ∈ rest, p.1 ∉ led.map (·.1)) → Top qv (looseW qv looseV) mean mg mb h₀ → Top qv (looseW qv looseV) mean mg mb base → cs.kind = .function → dp + d < recursionLimit → un + u < cLine →
    (∀ v led' h' tk' h₁, post v led' → KtsTurn (fsOf outer) h₀ h₁ → Fr h₁ L h' m → News h₁ L h' (led' ++ rest) → (∀ p ∈ rest, ∀ q ∈ led', q.1 ≠ p.1) → Below A₀ base outer h₁ → (hd.heap_1 w.params).In h₁ → Top qv (looseW qv looseV) mean mg mb h₁ → Q v { s with heap := h', toks := tk' }) →
    (∀ e t X xs G h' tk', ep X xs → RaisedS base G (envX cn cs L a ccd cl :: outer) e (.type X) t xs [] h' → Fr h₀ L G m → News h₀ L G rest → G.UpToSlots h' → E (.ref e) { s with heap := h', toks := tk' }) →
    wpAny (model (OpenLaw.prog PySem.Challenge.rw_pd0002_01) w) (ktrTop dp un gd cn cs L a ccd cl outer) (call (.ref f) vs) Q E s
end

/-! ## S0 -/
section
theorem offS0 : True := by
  (w_top off)
  k_with_none
  k_with "steps" => (repeat' (first | (k_unfold; (try dsimp only)) | ((fail_if_success with_reducible show LeaveR _ _ _ _ _ _ _ _); (fail_if_success with_reducible show TurnPost _ _ _ _ _ _ _ _ _); (fail_if_success with_reducible show wpAny _ _ (pyIter _) _ _ _); (fail_if_success with_reducible show wpAny _ _ (exec (Stmt.While _ _ _ _) _) _ _ _); walk1) | ((fail_if_success with_reducible show LeaveR _ _ _ _ _ _ _ _); (fail_if_success with_reducible show TurnPost _ _ _ _ _ _ _ _ _); (fail_if_success with_reducible show wpAny _ _ (pyIter _) _ _ _); (fail_if_success with_reducible show wpAny _ _ (exec (Stmt.While _ _ _ _) _) _ _ _); dsimp only; walk1) | fail "no step"))
  k_with "call builtin:issubclass" => ((k_here; (with_reducible show wpAny _ _ (call (Value.builtin "issubclass") [Value.type "str", Value.ref _]) _ _ _); refine issub_call (News.get (by k_asm) (by k_mem)) ?_))
  k_with "call ref" => (((with_reducible show wpAny _ _ (call (Value.ref 807) _) _ _ _); k_dflt ((refine' DoesP.use (c_fspath _ _ _) ?k1 ?k2 ?k3 ?k4 ?k5 ?kK ?kd ?ku ?_; (case k1 => k_asm); (case k2 => k_asm); (case k3 => k_asm); (case k4 => k_asm); (case k5 => k_asm); (case kK => first | exact rfl | assumption); (case kd => ktr_room); (case ku => ktr_units); k_whole; intro _ _ _ P9 _ _; (first | subst P9 | (obtain ⟨_, P9⟩ := P9; subst P9)); (try dsimp only); (try k_fold)))))
  k_with "call ref" => (((with_reducible show wpAny _ _ (call (Value.ref 821) _) _ _ _); k_dflt ((refine' DoesP.use (c_get_sep _ _ _) ?k1 ?k2 ?k3 ?k4 ?k5 ?kK ?kd ?ku ?_; (case k1 => k_asm); (case k2 => k_asm); (case k3 => k_asm); (case k4 => k_asm); (case k5 => k_asm); (case kK => first | exact rfl | assumption); (case kd => ktr_room); (case ku => ktr_units); k_whole; intro _ _ _ P9 _ _; (first | subst P9 | (obtain ⟨_, P9⟩ := P9; subst P9)); (try dsimp only); (try k_fold)))))
  k_with "call builtin:str.find" => (((with_reducible show wpAny _ _ (call (Value.builtin "str.find") [Value.str _ _, Value.str _ _, Value.int _ _, Value.int (((Str.length _ : Nat)) : Int) _]) _ _ _); refine find4 ?_))
  k_with "call builtin:str.split" => (((with_reducible show wpAny _ _ (call (Value.builtin "str.split") [Value.str _ _, Value.str _ _]) _ _ _); refine' KSpl.split1 ?k1 ?k2 ?k3 ?_ ?k4; (case k1 => k_asm); (case k2 => k_asm); (case k3 => decide); (case k4 => (rw [sizeLine_eq]; omega)); intro _ _ _ _ _ _ _ _ yl1; (try k_lt yl1); revert yl1; intro _))
  k_with "truthy ref" => ((with_unfolding_all (refine' truthyL ?k1 ?k2 ?k3 ?_; (case k1 => k_asm); (case k2 => k_mem); (case k3 => omega))))
  k_with "call builtin:list.pop" => ((refine' popL ?k1 ?k2 ?k3 ?k4 ?k5 ?_; (case k1 => k_asm); (case k2 => k_asm); (case k3 => k_upd); (case k4 => assumption); (case k5 => omega); intro _ _ _ _; (try k_sweep)))
  k_with "call builtin:list.append" => ((refine' appendL ?k1 ?k2 ?k3 ?k4 ?_; (case k1 => k_asm); (case k2 => k_asm); (case k3 => k_upd); (case k4 => omega); intro _ _ _; (try k_sweep)))
  k_with "subscriptTail Name UnaryOp ref int" => (((with_reducible show wpAny _ _ (subscriptTail _ _ (Value.ref _) (Value.int _ _)) _ _ _); (with_unfolding_all refine' lastL ?k1 ?k2 ?k3 ?k4 ?k5 ?_; (case k1 => k_asm); (case k2 => k_mem); (case k3 => assumption); (case k4 => assumption); (case k5 => omega)); intro _))
  k_with "call builtin:str.join" => (((with_reducible show wpAny _ _ (call (Value.builtin "str.join") [Value.str _ _, Value.ref _]) _ _ _); refine' joinL ?k1 ?k2 ?k3 ?k4 ?k5 ?_; (case k1 => k_asm); (case k2 => k_mem); (case k3 => assumption); (case k4 => decide); (case k5 => (rw [wgt_sum]; omega)); intro _ _))
  trivial

theorem h_madeHere (w : World) : peek (hd.heap_1 w.params) ⟨OpenLaw.prog PySem.Challenge.rw_pd0002_01, w.params⟩ (Bind.madeHere "object.__new__" (.ref 587)) = some () := by kernel_rfl
theorem h_check (w : World) : peek (hd.heap_1 w.params) ⟨OpenLaw.prog PySem.Challenge.rw_pd0002_01, w.params⟩ (checkBuiltinCall "object.__new__" ⟨[.ref 587], []⟩) = some () := by kernel_rfl
theorem h_madeBy (w : World) : peek (hd.heap_1 w.params) ⟨OpenLaw.prog PySem.Challenge.rw_pd0002_01, w.params⟩ (Bind.madeBy (.ref 587)) = some none := by kernel_rfl

noncomputable abbrev kvE (w : World) (name : String) (k : Tok) (v : Value) : DictEntry := ⟨PyData.keyHash w.params (Str.ofString name), .str (Str.ofString name) k, v⟩
noncomputable abbrev sioE (w : World) (k1 k2 k3 tb tp : Tok) (b : Str) (p : Int) : List DictEntry := [kvE w "_StringIO__newline" k1 (.str (Str.ofString "\n") 671), kvE w "_StringIO__buf" k2 (.str b tb), kvE w "_StringIO__pos" k3 (.int p tp)]
noncomputable abbrev sioL (w : World) (a d : Addr) (k1 k2 k3 tb tp : Tok) (b : Str) (p : Int) : Led := [(a, instObj 587 d), (d, dictOf (sioE w k1 k2 k3 tb tp b p) 3)]
/-- as Does, of a code's run -/
noncomputable def DoesC (w : World) (f : Addr) (d u : Nat) (vs : List Value) (led : Led) (post : Value → Led → Prop) : Prop :=
  ∀ (mean : ExcName → Option Value) (mg mb : Str → Option Value) (dp un : Nat) (gd : Option (List Code)) (cn : Str) (cs : Scope) (a : Addr) (ccd : Value) (cl : List (Str × Addr)) (outer : List Env) (A₀ : Around) (base h₀ : Heap) (L : Addr) (m : Str → Option Value) (s : Shared) (rest : Led) (R : Result → Shared → Prop),
    Below A₀ base outer h₀ → Fr h₀ L s.heap m → (hd.heap_1 w.params).In h₀ → News h₀ L s.heap (led ++ rest) → (∀ p ∈ rest, p.1 ∉ led.map (·.1)) → Top qv (looseW qv looseV) mean mg mb h₀ → cs.kind = .function → dp + d < recursionLimit → un + u < cLine →
    (∀ v led' h' tk', post v led' → Fr h₀ L h' m → News h₀ L h' (led' ++ rest) → (∀ p ∈ rest, ∀ q ∈ led', q.1 ≠ p.1) → R (.ok (.ret v)) { s with heap := h', toks := tk' }) →
    codeAny (model (OpenLaw.prog PySem.Challenge.rw_pd0002_01) w) (ktrTop dp un gd cn cs L a ccd cl outer) (.call (.ref f) ⟨vs, []⟩) R s

set_option maxHeartbeats 8000000 in
theorem c_new (w : World) (x : Str) (t : Tok) : DoesC w 80 2 20 [.ref 587, .str x t] [] (fun v led => ∃ (a d : Nat), v = .ref a ∧ led = [(a, instObj 587 d), (d, emptyDict)] ∧ d < a) := by
  unfold DoesC
  k_fill
  intro mean mg mb dp un gd cn cs a0 ccd cl outer A₀ base h₀ L m s rest R hB hF hK hN hap hT hcs hd hu hret
  refine' enterVK (vs := [.str x t]) (binds := fun D D' => [(Str.ofString "cls", .ref 587), (Str.ofString "args", D), (Str.ofString "kwargs", D')]) hB hF hK hN hap hT rfl rfl hcs ?k6 ?k7 ?k8 ?kP ?kG ?kB ?_ ?c2 ?c3 ?c4 ?c5
  case k6 => k_is
  case k7 => k_is
  case k8 => ktr_room
  case kP => exact bind1VK _ _
  case kG => rw [sizeLine_eq]; simp
  case kB => exact fun _ _ => locs rfl
  case c2 => exact rfl
  case c3 => exact rfl
  case c4 => exact rfl
  case c5 => decide
  intro D D' g' L' h' F' N' B' X' T'
  (try dsimp only)
  (try k_fold)
  k_steps
  refine' obj_new rfl ?F ?N ?X ?hC ?e1 ?e2 ?ty (h_madeHere w) (h_check w) ?_
  case F => k_asm
  case N => k_asm
  case X => k_asm
  case hC => k_is
  case e1 => rfl
  case e2 => rfl
  case ty => k_is
  intro x' d' h' F' N' l1 l2
  k_steps
  all_goals (try dsimp only)
  refine leaveR_ (by k_asm) (led' := [(x', instObj 587 d'), (d', emptyDict)]) (by k_asm) ?_
  intro kF kN kD
  exact hret _ _ _ _ ⟨_, _, rfl, rfl, l2⟩ kF kN kD


set_option maxHeartbeats 8000000 in
theorem c_sio (w : World) (x : Str) (t : Tok) : Does w 587 6 60 [.str x t] [] (fun v led => ∃ (a d : Nat) (k1 k2 k3 tb tp : Tok), v = .ref a ∧ led = sioL w a d k1 k2 k3 tb tp x 0 ∧ d < a) := by
  unfold Does
  k_fill
  intro mean mg mb dp un gd cn cs a0 ccd cl outer A₀ base h₀ L m s rest Q E hB hF hK hN hap hT hcs hd hu hret
  refine wpAny_call ?_
  refine' make_new (K := Mine.hd.heap_1 w.params) (C := 587) (fN := 80) (fI := 357) (hK.keeps hF.keep) rfl ?hC ?e4 ?hcall ?htyp (h_madeBy w) ?hself ?hnew ?hi ?hf fun k => ?_
  case hC => k_is
  case e4 => rfl
  case hcall => k_is
  case htyp => k_is
  case hself => k_is
  case hi => k_is
  case hf => k_is
  case hnew =>
    intro A' Q' E' hk
    refine' cls_sm hF hK ?k3 ?k4 ?k5 ?k6 ?k7 (hk _)
    case k3 => k_is
    case k4 => k_is
    case k5 => k_is
    case k6 => k_is
    case k7 => k_handed
  refine c_new w x t mean mg mb _ _ _ cn cs a0 ccd cl outer A₀ base h₀ L m _ rest _ hB hF hK hN hap hT hcs ?hd ?hu ?_
  case hd => (show dp + 1 + 2 < recursionLimit; omega)
  case hu => (show un + 1 + 20 < cLine; omega)
  rintro v led' h' tk' ⟨a, d, rfl, rfl, lad⟩ F N D
  refine ⟨a, d, rfl, (N _ (.head _)).1, hK.keeps F.keep, ?_⟩
  refine' enterR (s := { s with heap := h', toks := tk' }) (led := [(a, instObj 587 d), (d, emptyDict)]) (rest := rest) (binds := [(Str.ofString "self", .ref a), (Str.ofString "initial_value", .str x t), (Str.ofString "newline", .str (Str.ofString "\n") 671)]) hB F hK N ?kp hT rfl rfl hcs ?k6 ?k7 ?k8 ?k9 ?kB ?_ ?c2 ?c3 ?c4 ?c5
  case kp => exact fun p hp q => by (simp only [List.map_cons, List.map_nil, List.mem_cons, List.not_mem_nil, or_false] at q; rcases q with q | q; exact D p hp _ (.head _) q.symm; exact D p hp _ (.tail _ (.head _)) q.symm)
  case k6 => k_is
  case k7 => k_is
  case k8 => ktr_room
  case k9 => exact binds_K (by k_in) rfl (by k_is) rfl rfl rfl
  case kB => exact locs rfl
  case c2 => exact rfl
  case c3 => exact rfl
  case c4 => exact rfl
  case c5 => decide
  intro g' L' h' F' N' B' X' T' l1 st'
  (try dsimp only)
  (try k_fold)
  k_steps
  refine leaveR_ (by k_asm) (by k_asm) ?_
  intro kF kN kD
  exact ⟨rfl, hret _ _ _ _ ⟨_, _, _, _, _, _, _, rfl, rfl, lad⟩ kF kN kD⟩
end

/-! ## S3 -/
section
theorem offS3 : True := by
  (w_top off)
  k_with_none
  k_with "steps" => (repeat' (first | (k_unfold; (try dsimp only)) | ((fail_if_success with_reducible show LeaveR _ _ _ _ _ _ _ _); (fail_if_success with_reducible show TurnPost _ _ _ _ _ _ _ _ _); (fail_if_success with_reducible show wpAny _ _ (pyIter _) _ _ _); (fail_if_success with_reducible show wpAny _ _ (exec (Stmt.While _ _ _ _) _) _ _ _); walk1) | ((fail_if_success with_reducible show LeaveR _ _ _ _ _ _ _ _); (fail_if_success with_reducible show TurnPost _ _ _ _ _ _ _ _ _); (fail_if_success with_reducible show wpAny _ _ (pyIter _) _ _ _); (fail_if_success with_reducible show wpAny _ _ (exec (Stmt.While _ _ _ _) _) _ _ _); dsimp only; walk1) | fail "no step"))
  k_with "call builtin:issubclass" => ((k_here; (with_reducible show wpAny _ _ (call (Value.builtin "issubclass") [Value.type "str", Value.ref _]) _ _ _); refine issub_call (News.get (by k_asm) (by k_mem)) ?_))
  k_with "call ref" => (((with_reducible show wpAny _ _ (call (Value.ref 807) _) _ _ _); k_dflt ((refine' DoesP.use (c_fspath _ _ _) ?k1 ?k2 ?k3 ?k4 ?k5 ?kK ?kd ?ku ?_; (case k1 => k_asm); (case k2 => k_asm); (case k3 => k_asm); (case k4 => k_asm); (case k5 => k_asm); (case kK => first | exact rfl | assumption); (case kd => ktr_room); (case ku => ktr_units); k_whole; intro _ _ _ P9 _ _; (first | subst P9 | (obtain ⟨_, P9⟩ := P9; subst P9)); (try dsimp only); (try k_fold)))))
  k_with "call ref" => (((with_reducible show wpAny _ _ (call (Value.ref 821) _) _ _ _); k_dflt ((refine' DoesP.use (c_get_sep _ _ _) ?k1 ?k2 ?k3 ?k4 ?k5 ?kK ?kd ?ku ?_; (case k1 => k_asm); (case k2 => k_asm); (case k3 => k_asm); (case k4 => k_asm); (case k5 => k_asm); (case kK => first | exact rfl | assumption); (case kd => ktr_room); (case ku => ktr_units); k_whole; intro _ _ _ P9 _ _; (first | subst P9 | (obtain ⟨_, P9⟩ := P9; subst P9)); (try dsimp only); (try k_fold)))))
  k_with "call builtin:str.find" => (((with_reducible show wpAny _ _ (call (Value.builtin "str.find") [Value.str _ _, Value.str _ _, Value.int _ _, Value.int (((Str.length _ : Nat)) : Int) _]) _ _ _); refine find4 ?_))
  k_with "call builtin:str.split" => (((with_reducible show wpAny _ _ (call (Value.builtin "str.split") [Value.str _ _, Value.str _ _]) _ _ _); refine' KSpl.split1 ?k1 ?k2 ?k3 ?_ ?k4; (case k1 => k_asm); (case k2 => k_asm); (case k3 => decide); (case k4 => (rw [sizeLine_eq]; omega)); intro _ _ _ _ _ _ _ _ yl1; (try k_lt yl1); revert yl1; intro _))
  k_with "truthy ref" => ((with_unfolding_all (refine' truthyL ?k1 ?k2 ?k3 ?_; (case k1 => k_asm); (case k2 => k_mem); (case k3 => omega))))
  k_with "call builtin:list.pop" => ((refine' popL ?k1 ?k2 ?k3 ?k4 ?k5 ?_; (case k1 => k_asm); (case k2 => k_asm); (case k3 => k_upd); (case k4 => assumption); (case k5 => omega); intro _ _ _ _; (try k_sweep)))
  k_with "call builtin:list.append" => ((refine' appendL ?k1 ?k2 ?k3 ?k4 ?_; (case k1 => k_asm); (case k2 => k_asm); (case k3 => k_upd); (case k4 => omega); intro _ _ _; (try k_sweep)))
  k_with "subscriptTail Name UnaryOp ref int" => (((with_reducible show wpAny _ _ (subscriptTail _ _ (Value.ref _) (Value.int _ _)) _ _ _); (with_unfolding_all refine' lastL ?k1 ?k2 ?k3 ?k4 ?k5 ?_; (case k1 => k_asm); (case k2 => k_mem); (case k3 => assumption); (case k4 => assumption); (case k5 => omega)); intro _))
  k_with "call builtin:str.join" => (((with_reducible show wpAny _ _ (call (Value.builtin "str.join") [Value.str _ _, Value.ref _]) _ _ _); refine' joinL ?k1 ?k2 ?k3 ?k4 ?k5 ?_; (case k1 => k_asm); (case k2 => k_mem); (case k3 => assumption); (case k4 => decide); (case k5 => (rw [wgt_sum]; omega)); intro _ _))
  trivial

set_option maxHeartbeats 8000000 in
theorem c_rdl (w : World) (a d : Nat) (k1 k2 k3 tb tp : Tok) (b : Str) (p : Nat) (lad : d < a) (hp : p ≤ b.length) (hb : b.length ≤ 100000) : Does w 541 4 60 [.ref a] (sioL w a d k1 k2 k3 tb tp b p)
    (fun v led => ∃ (t tp' : Tok) (x : Str), v = .str x t ∧ led = sioL w a d k1 k2 k3 tb tp' b (nlEnd b p : Nat)) := by
  unfold Does
  k_fill
  intro mean mg mb dp un gd cn cs a0 ccd cl outer A₀ base h₀ L m s rest Q E hB hF hK hN hap hT hcs hd hu hret
  simp only [sioL, sioE, kvE] at *
  k_dflt (refine wpAny_call ?_; (refine' enterR (binds := [(Str.ofString "self", .ref a), (Str.ofString "size", .int (-1) 875)]) ?k1 ?k2 ?k3 ?k4 ?kp ?k5 ?kA ?kF ?kK ?k6 ?k7 ?k8 ?k9 ?kB ?_ ?c2 ?c3 ?c4 ?c5; (case kA => exact rfl); (case kF => exact rfl); (case kK => assumption); (case k1 => k_asm); (case k2 => k_asm); (case k3 => k_asm); (case k4 => k_asm); (case kp => k_asm); (case k5 => k_asm); (case k6 => k_is); (case k7 => k_is); (case k8 => ktr_room); (case k9 => first | exact BindsTo.of_eq rfl | exact binds_K (by k_in) rfl (by k_is) rfl rfl rfl); (case c5 => decide); (case kB => exact locs rfl); (case c2 => exact rfl); (case c3 => exact rfl); (case c4 => exact rfl); k_whole; intro _ _ _ _ _ _ _ _ _ _; (try dsimp only); (try k_fold)))
  k_steps
  all_goals (refine (leaveR_ (by k_asm) (by k_asm) ?_ : LeaveR _ _ _ _ _ _ _ _); intro kF kN kD)
  · refine' hret _ _ _ _ ⟨_, _, _, rfl, ?_⟩ kF kN kD
    rotate_left
    rw [nlEnd_out hp (by assumption)]
  · refine' hret _ _ _ _ ⟨_, _, _, rfl, ?_⟩ kF kN kD
    rotate_left
    rw [nlEnd_some hp (by assumption)]
    rfl
  · refine' hret _ _ _ _ ⟨_, _, _, rfl, ?_⟩ kF kN kD
    rotate_left
    rw [nlEnd_none hp (by omega)]
end

/-! ## S2 -/
section
theorem offS2 : True := by
  (w_top off)
  k_with_none
  k_with "steps" => (repeat' (first | (k_unfold; (try dsimp only)) | ((fail_if_success with_reducible show LeaveR _ _ _ _ _ _ _ _); (fail_if_success with_reducible show TurnPost _ _ _ _ _ _ _ _ _); (fail_if_success with_reducible show wpAny _ _ (pyIter _) _ _ _); (fail_if_success with_reducible show wpAny _ _ (exec (Stmt.While _ _ _ _) _) _ _ _); walk1) | ((fail_if_success with_reducible show LeaveR _ _ _ _ _ _ _ _); (fail_if_success with_reducible show TurnPost _ _ _ _ _ _ _ _ _); (fail_if_success with_reducible show wpAny _ _ (pyIter _) _ _ _); (fail_if_success with_reducible show wpAny _ _ (exec (Stmt.While _ _ _ _) _) _ _ _); dsimp only; walk1) | fail "no step"))
  k_with "call builtin:issubclass" => ((k_here; (with_reducible show wpAny _ _ (call (Value.builtin "issubclass") [Value.type "str", Value.ref _]) _ _ _); refine issub_call (News.get (by k_asm) (by k_mem)) ?_))
  k_with "call ref" => (((with_reducible show wpAny _ _ (call (Value.ref 807) _) _ _ _); k_dflt ((refine' DoesP.use (c_fspath _ _ _) ?k1 ?k2 ?k3 ?k4 ?k5 ?kK ?kd ?ku ?_; (case k1 => k_asm); (case k2 => k_asm); (case k3 => k_asm); (case k4 => k_asm); (case k5 => k_asm); (case kK => first | exact rfl | assumption); (case kd => ktr_room); (case ku => ktr_units); k_whole; intro _ _ _ P9 _ _; (first | subst P9 | (obtain ⟨_, P9⟩ := P9; subst P9)); (try dsimp only); (try k_fold)))))
  k_with "call ref" => (((with_reducible show wpAny _ _ (call (Value.ref 821) _) _ _ _); k_dflt ((refine' DoesP.use (c_get_sep _ _ _) ?k1 ?k2 ?k3 ?k4 ?k5 ?kK ?kd ?ku ?_; (case k1 => k_asm); (case k2 => k_asm); (case k3 => k_asm); (case k4 => k_asm); (case k5 => k_asm); (case kK => first | exact rfl | assumption); (case kd => ktr_room); (case ku => ktr_units); k_whole; intro _ _ _ P9 _ _; (first | subst P9 | (obtain ⟨_, P9⟩ := P9; subst P9)); (try dsimp only); (try k_fold)))))
  k_with "call builtin:str.find" => (((with_reducible show wpAny _ _ (call (Value.builtin "str.find") [Value.str _ _, Value.str _ _, Value.int _ _, Value.int (((Str.length _ : Nat)) : Int) _]) _ _ _); refine find4 ?_))
  k_with "call builtin:str.split" => (((with_reducible show wpAny _ _ (call (Value.builtin "str.split") [Value.str _ _, Value.str _ _]) _ _ _); refine' KSpl.split1 ?k1 ?k2 ?k3 ?_ ?k4; (case k1 => k_asm); (case k2 => k_asm); (case k3 => decide); (case k4 => (rw [sizeLine_eq]; omega)); intro _ _ _ _ _ _ _ _ yl1; (try k_lt yl1); revert yl1; intro _))
  k_with "truthy ref" => ((with_unfolding_all (refine' truthyL ?k1 ?k2 ?k3 ?_; (case k1 => k_asm); (case k2 => k_mem); (case k3 => omega))))
  k_with "call builtin:list.pop" => ((refine' popL ?k1 ?k2 ?k3 ?k4 ?k5 ?_; (case k1 => k_asm); (case k2 => k_asm); (case k3 => k_upd); (case k4 => assumption); (case k5 => omega); intro _ _ _ _; (try k_sweep)))
  k_with "call builtin:list.append" => ((refine' appendL ?k1 ?k2 ?k3 ?k4 ?_; (case k1 => k_asm); (case k2 => k_asm); (case k3 => k_upd); (case k4 => omega); intro _ _ _; (try k_sweep)))
  k_with "subscriptTail Name UnaryOp ref int" => (((with_reducible show wpAny _ _ (subscriptTail _ _ (Value.ref _) (Value.int _ _)) _ _ _); (with_unfolding_all refine' lastL ?k1 ?k2 ?k3 ?k4 ?k5 ?_; (case k1 => k_asm); (case k2 => k_mem); (case k3 => assumption); (case k4 => assumption); (case k5 => omega)); intro _))
  k_with "call builtin:str.join" => (((with_reducible show wpAny _ _ (call (Value.builtin "str.join") [Value.str _ _, Value.ref _]) _ _ _); refine' joinL ?k1 ?k2 ?k3 ?k4 ?k5 ?_; (case k1 => k_asm); (case k2 => k_mem); (case k3 => assumption); (case k4 => decide); (case k5 => (rw [wgt_sum]; omega)); intro _ _))
  trivial

set_option maxHeartbeats 8000000 in
theorem c_read (w : World) (a d : Nat) (k1 k2 k3 tb tp t : Tok) (b : Str) (p : Nat) (lad : d < a) (hp : p ≤ b.length) (hb : b.length ≤ 100000) : Does w 533 4 60 [.ref a, .int 1 t] (sioL w a d k1 k2 k3 tb tp b p)
    (fun v led => ∃ (t tp' : Tok), v = .str (chAt b p) t ∧ led = sioL w a d k1 k2 k3 tb tp' b (if p < b.length then p + 1 else p)) := by
  unfold Does
  k_fill
  intro mean mg mb dp un gd cn cs a0 ccd cl outer A₀ base h₀ L m s rest Q E hB hF hK hN hap hT hcs hd hu hret
  simp only [sioL, sioE, kvE] at *
  k_dflt (refine wpAny_call ?_; (refine' enterR (binds := [(Str.ofString "self", .ref a), (Str.ofString "size", .int 1 t)]) ?k1 ?k2 ?k3 ?k4 ?kp ?k5 ?kA ?kF ?kK ?k6 ?k7 ?k8 ?k9 ?kB ?_ ?c2 ?c3 ?c4 ?c5; (case kA => exact rfl); (case kF => exact rfl); (case kK => assumption); (case k1 => k_asm); (case k2 => k_asm); (case k3 => k_asm); (case k4 => k_asm); (case kp => k_asm); (case k5 => k_asm); (case k6 => k_is); (case k7 => k_is); (case k8 => ktr_room); (case k9 => first | exact BindsTo.of_eq rfl | exact binds_K (by k_in) rfl (by k_is) rfl rfl rfl); (case c5 => decide); (case kB => exact locs rfl); (case c2 => exact rfl); (case c3 => exact rfl); (case c4 => exact rfl); k_whole; intro _ _ _ _ _ _ _ _ _ _; (try dsimp only); (try k_fold)))
  k_steps
  all_goals (try dsimp only)
  · refine leaveR_ (by k_asm) (by k_asm) ?_
    intro kF kN kD
    refine hret _ _ _ _ ⟨_, tp, congrArg (Value.str · _) (chAt_out (by assumption)).symm, ?_⟩ kF kN kD
    rw [if_neg (by omega)]
  · refine leaveR_ (by k_asm) (by k_asm) ?_
    intro kF kN kD
    refine' hret _ _ _ _ ⟨_, _, congrArg (Value.str · _) (chAt_slice _ _), ?_⟩ kF kN kD
    rotate_left
    rw [if_pos (by omega)]
  · refine leaveR_ (by k_asm) (by k_asm) ?_
    intro kF kN kD
    refine' hret _ _ _ _ ⟨_, _, congrArg (Value.str · _) (chAt_end (by assumption) (by assumption)), ?_⟩ kF kN kD
    rotate_left
    rw [if_pos (by omega), show ((b.length : Int) = (p : Int) + 1) by omega]
end

/-! ## Rt -/
section
noncomputable abbrev wordS : Str := Str.ofString "abcdfeghijklmnopqrstuvwxyzABCDEFGHIJKLMNOPQRSTUVWXYZ0123456789_ßàáâãäåæçèéêëìíîïðñòóôõöøùúûüýþÿÀÁÂÃÄÅÆÇÈÉÊËÌÍÎÏÐÑÒÓÔÕÖØÙÚÛÜÝÞ"
noncomputable abbrev shE (w : World) (T : Nat → Tok) (sa pb fs : Addr) (cm : Str) (st : Value) (ln : Int) (tl : Tok) (tk : Str) (tt : Tok) : List DictEntry := [kvE w "instream" (T 0) (.ref sa), kvE w "infile" (T 1) .none, kvE w "posix" (T 2) (.bool true), kvE w "eof" (T 3) .none, kvE w "commenters" (T 4) (.str cm (T 24)),
  kvE w "wordchars" (T 5) (.str wordS (T 25)), kvE w "whitespace" (T 6) (.str (Str.ofString " \t\x0d\n") (T 26)), kvE w "whitespace_split" (T 7) (.bool true), kvE w "quotes" (T 8) (.str (Str.ofString "'\"") (T 28)), kvE w "escape" (T 9) (.str (Str.ofString "\\") (T 29)), kvE w "escapedquotes" (T 10) (.str (Str.ofString "\"") (T 30)),
  kvE w "state" (T 11) st, kvE w "pushback" (T 12) (.ref pb), kvE w "lineno" (T 13) (.int ln tl), kvE w "debug" (T 14) (.int 0 (T 34)), kvE w "token" (T 15) (.str tk tt), kvE w "filestack" (T 16) (.ref fs), kvE w "source" (T 17) .none, kvE w "_punctuation_chars" (T 18) (.str (Str.ofString "") (T 38))]
noncomputable abbrev shL (w : World) (x d sa sd pb fs : Addr) (T : Nat → Tok) (k1 k2 k3 tb tp : Tok) (b : Str) (p : Int) (cm : Str) (st : Value) (ln : Int) (tl : Tok) (tk : Str) (tt : Tok) : Led :=
  [(sa, instObj 587 sd), (sd, dictOf (sioE w k1 k2 k3 tb tp b p) 3), (fs, dqO), (pb, dqO), (x, instObj 722 d), (d, dictOf (shE w T sa pb fs cm st ln tl tk tt) 19)]
/-- is the sign in none of the signs -/
noncomputable abbrev nin (W c : Str) : Bool := (Builtin.Str.occurrences W c 0 W.length 1).isEmpty
noncomputable abbrev wsS : Str := Str.ofString " \t\x0d\n"
noncomputable abbrev quS : Str := Str.ofString "'\""
noncomputable abbrev bsS : Str := Str.ofString "\\"
noncomputable abbrev dqS : Str := Str.ofString "\""
noncomputable abbrev spS : Str := Str.ofString " "
noncomputable abbrev wdS : Str := Str.ofString "a"
structure Cfg where
  p : Nat
  st : Option Str
  qd : Bool
  es : Str
  tk : Str
inductive Out where
  | ret (r : Option Str) (p : Nat) (st : Option Str)
  | err (m : Str)
noncomputable def fin (qd : Bool) (tk : Str) : Option Str := if qd = false ∧ tk.length = 0 then none else some tk
/-- a turn of read_token's loop -/
noncomputable def stepT1 (cm b : Str) (g : Cfg) : Cfg ⊕ Out := match g.st with
  | none => .inr (.ret none (if g.p < b.length then g.p + 1 else g.p) none)
  | some st =>
    if g.p < b.length then
      let c := chAt b g.p
      if st = spS then
        if nin wsS c = false then (if g.tk.length ≠ 0 ∨ g.qd = true then .inr (.ret (fin g.qd g.tk) (g.p + 1) (some st)) else .inl { g with p := g.p + 1 })
        else if nin cm c = false then .inl { g with p := nlEnd b (g.p + 1) }
        else if nin bsS c = false then .inl { g with p := g.p + 1, es := wdS, st := some c }
        else if nin wordS c = false then .inl { g with p := g.p + 1, tk := c, st := some wdS }
        else if nin quS c = false then .inl { g with p := g.p + 1, st := some c }
        else .inl { g with p := g.p + 1, tk := c, st := some wdS }
      else if nin quS st = false then
        if (c == st) = true then .inl { g with p := g.p + 1, qd := true, st := some wdS }
        else if nin bsS c = false ∧ nin dqS st = false then .inl { g with p := g.p + 1, qd := true, es := st, st := some c }
        else .inl { g with p := g.p + 1, qd := true, tk := g.tk ++ c }
      else if st = bsS then
        if nin quS g.es = false ∧ (c != bsS) = true ∧ (c != g.es) = true then .inl { g with p := g.p + 1, tk := g.tk ++ bsS ++ c, st := some g.es }
        else .inl { g with p := g.p + 1, tk := g.tk ++ c, st := some g.es }
      else
        if nin wsS c = false then (if g.tk.length ≠ 0 ∨ g.qd = true then .inr (.ret (fin g.qd g.tk) (g.p + 1) (some spS)) else .inl { g with p := g.p + 1, st := some spS })
        else if nin cm c = false then (if g.tk.length ≠ 0 ∨ g.qd = true then .inr (.ret (fin g.qd g.tk) (nlEnd b (g.p + 1)) (some spS)) else .inl { g with p := nlEnd b (g.p + 1), st := some spS })
        else if nin quS c = false then .inl { g with p := g.p + 1, st := some c }
        else if nin bsS c = false then .inl { g with p := g.p + 1, es := wdS, st := some c }
        else .inl { g with p := g.p + 1, tk := g.tk ++ c }
    else
      if nin quS st = false then .inr (.err (Str.ofString "No closing quotation"))
      else if st = bsS then .inr (.err (Str.ofString "No escaped character"))
      else .inr (.ret (fin g.qd g.tk) g.p none)
noncomputable def rtN (cm b : Str) : Nat → Cfg → Out
  | 0, _ => .err (Str.ofString "")
  | n + 1, g => match stepT1 cm b g with
    | .inl g' => rtN cm b n g'
    | .inr o => o
/-- the state as a value -/
noncomputable def StV (st : Option Str) (v : Value) : Prop := match st with
  | none => v = .none
  | some s => ∃ t : Tok, v = .str s t
/-- the states that occur -/
noncomputable def okSt (st : Str) : Prop := st = spS ∨ st = wdS ∨ st = bsS ∨ (st.length = 1 ∧ nin quS st = false ∧ (st == spS) = false ∧ (st == wdS) = false)
theorem ap_of {rest : Led} : ∀ {led : Led}, AllNe2 led rest → ∀ p ∈ rest, p.1 ∉ led.map (·.1)
  | [], _, _, _ => List.not_mem_nil
  | q :: l, h, p, hp => fun hm => by
    rw [List.map_cons] at hm
    rcases List.mem_cons.mp hm with e | hm
    · have : ∀ {r : Led}, AllNe q.1 r → p ∈ r → False := fun {r} => by
        induction r with
        | nil => intro _ h; cases h
        | cons z r ih =>
          intro ⟨h1, h2⟩ hz
          rcases List.mem_cons.mp hz with rfl | hz
          · exact h1 e.symm
          · exact ih h2 hz
      exact this h.1 hp
    · exact ap_of h.2 p hp hm
section
variable {w : World} {f : Addr} {d u : Nat} {vs : List Value} {led : Led} {post : Value → Led → Prop} {mean : ExcName → Option Value} {mg mb : Str → Option Value} {dp un : Nat} {gd : Option (List Code)} {cn : Str} {cs : Scope} {a : Addr} {ccd : Value} {cl : List (Str × Addr)} {outer : List Env} {A₀ : Around} {base h₀ : Heap} {L : Addr} {m : Str → Option Value} {s : Shared} {rest : Led} {Q E : Value → Shared → Prop}
theorem Does.useN (C : Does w f d u vs led post) (B : Below A₀ base outer h₀) (F : Fr h₀ L s.heap m) (X : (hd.heap_1 w.params).In h₀) (N : News h₀ L s.heap (led ++ rest)) (ap : AllNe2 led rest) (T : Top qv (looseW qv looseV) mean mg mb h₀) (hk : cs.kind = .function) (hd : dp + d < recursionLimit) (hu : un + u < cLine)
    (ret : ∀ v led' h' tk', post v led' → Fr h₀ L h' m → News h₀ L h' (led' ++ rest) → Q v { s with heap := h', toks := tk' }) :
    wpAny (model (OpenLaw.prog PySem.Challenge.rw_pd0002_01) w) (ktrTop dp un gd cn cs L a ccd cl outer) (call (.ref f) vs) Q E s :=
  Does.use C B F X N (ap_of ap) T hk hd hu fun v led' h' tk' hp F' N' _ => ret v led' h' tk' hp F' N'
end

theorem Does.mono {w : World} {f : Addr} {d u : Nat} {vs : List Value} {led : Led} {post post' : Value → Led → Prop} (C : Does w f d u vs led post) (h : ∀ v l, post v l → post' v l) : Does w f d u vs led post' :=
  fun mean mg mb dp un gd cn cs a ccd cl outer A₀ base h₀ L m s rest Q E B F X N ap T hk hd hu ret => C mean mg mb dp un gd cn cs a ccd cl outer A₀ base h₀ L m s rest Q E B F X N ap T hk hd hu fun v l h' tk' hp => ret v l h' tk' (h v l hp)
theorem c_rdI (w : World) (a d : Nat) (k1 k2 k3 tb tp t : Tok) (b : Str) (p : Nat) (lad : d < a) (hp : p < b.length) (hb : b.length ≤ 100000) : Does w 533 4 60 [.ref a, .int 1 t] (sioL w a d k1 k2 k3 tb tp b p)
    (fun v led => ∃ (t tp' : Tok), v = .str (chAt b p) t ∧ led = sioL w a d k1 k2 k3 tb tp' b ((p + 1 : Nat) : Int)) :=
  (c_read w a d k1 k2 k3 tb tp t b p lad (Nat.le_of_lt hp) hb).mono fun v l h => by
    obtain ⟨t, tp', e1, e2⟩ := h
    rw [if_pos hp] at e2
    exact ⟨t, tp', e1, e2⟩
theorem c_rdO (w : World) (a d : Nat) (k1 k2 k3 tb tp t : Tok) (b : Str) (p : Nat) (lad : d < a) (hp : p = b.length) (hb : b.length ≤ 100000) : Does w 533 4 60 [.ref a, .int 1 t] (sioL w a d k1 k2 k3 tb tp b p)
    (fun v led => ∃ (t tp' : Tok), v = .str (Str.ofString "") t ∧ led = sioL w a d k1 k2 k3 tb tp' b (p : Int)) :=
  (c_read w a d k1 k2 k3 tb tp t b p lad (Nat.le_of_eq hp) hb).mono fun v l h => by
    obtain ⟨t, tp', e1, e2⟩ := h
    rw [if_neg (by omega)] at e2
    rw [chAt_out (by omega)] at e1
    exact ⟨t, tp', e1, e2⟩
theorem rt_next {cm b : Str} {k : Nat} {g g' : Cfg} {o : Out} (h : rtN cm b (k + 1) g = o) (e : stepT1 cm b g = .inl g') : rtN cm b k g' = o := by
  unfold rtN at h; rw [e] at h; exact h
theorem rt_stop {cm b : Str} {k : Nat} {g : Cfg} {o o' : Out} (h : rtN cm b (k + 1) g = o) (e : stepT1 cm b g = .inr o') : o = o' := by
  unfold rtN at h; rw [e] at h; exact h.symm
section
variable {h₀ h' : Heap} {L : Addr} {s : Shared} {J : Nat → (Str → Option Value) → Led → Prop} {Q : Flow → Shared → Prop} {n n' tk : Nat} {m₂ : Str → Option Value} {news₂ : Led}
theorem w2_next (F : Fr h₀ L h' m₂) (N : News h₀ L h' news₂) (hn : n' < n) (hJ : J n' m₂ news₂) : WhileStep2 h₀ L s J Q n .next { s with heap := h', toks := tk } := ⟨h', tk, m₂, news₂, n', rfl, F, N, hn, hJ⟩
theorem w2_cont (F : Fr h₀ L h' m₂) (N : News h₀ L h' news₂) (hn : n' < n) (hJ : J n' m₂ news₂) : WhileStep2 h₀ L s J Q n .cont { s with heap := h', toks := tk } := ⟨h', tk, m₂, news₂, n', rfl, F, N, hn, hJ⟩
end
/-- what stands between the turns -/
noncomputable def RtJ (w : World) (x d sa sd pb fs : Nat) (T : Nat → Tok) (k1 k2 k3 tb : Tok) (b cm : Str) (o : Out) (n : Nat) (m : Str → Option Value) (l : Led) : Prop :=
  ∃ (p : Nat) (st : Option Str) (qd : Bool) (es tk : Str) (sv : Value) (ln : Int) (tl tt te tp : Tok), rtN cm b n ⟨p, st, qd, es, tk⟩ = o ∧ b.length + 1 ≤ n + p ∧ p ≤ b.length ∧ tk.length ≤ 2 * p ∧ 0 ≤ ln ∧ ln ≤ 2 * p + 1 ∧
    (∀ z, st = some z → okSt z) ∧ (st = some bsS → es = wdS ∨ (es.length = 1 ∧ nin quS es = false)) ∧ (st = none → p = b.length ∧ qd = false) ∧ StV st sv ∧ m (Str.ofString "self") = some (.ref x) ∧ m (Str.ofString "quoted") = some (.bool qd) ∧ m (Str.ofString "escapedstate") = some (.str es te) ∧
    l = shL w x d sa sd pb fs T k1 k2 k3 tb tp b p cm sv ln tl tk tt
/-- what stands behind the loop -/
noncomputable def RtQ (w : World) (x d sa sd pb fs : Nat) (T : Nat → Tok) (k1 k2 k3 tb : Tok) (b cm : Str) (o : Out) (h₀ : Heap) (L : Addr) (s : Shared) (f : Flow) (s' : Shared) : Prop :=
  f = .next ∧ ∃ (h' : Heap) (k : Nat) (m : Str → Option Value) (p : Nat) (st : Option Str) (qd : Bool) (tk : Str) (sv : Value) (ln : Int) (tl tt tp : Tok), s' = { s with heap := h', toks := k } ∧ Fr h₀ L h' m ∧ News h₀ L h' (shL w x d sa sd pb fs T k1 k2 k3 tb tp b p cm sv ln tl tk tt) ∧
    o = .ret (fin qd tk) p st ∧ p ≤ b.length ∧ tk.length ≤ 2 * p ∧ 0 ≤ ln ∧ ln ≤ 2 * p + 1 ∧ (st = some spS ∨ (st = none ∧ p = b.length)) ∧ StV st sv ∧ m (Str.ofString "self") = some (.ref x) ∧ m (Str.ofString "quoted") = some (.bool qd)

theorem cut_ln {prog : Program} {w₁ : World} {A : Around} {E : Value → Shared → Prop} {env : Env} {S : Stmt} {Q : Flow → Shared → Prop} {s : Shared} {g : Heap} {L : Addr} {m : Str → Option Value} {w : World} {x d sa sd pb fs : Addr} {T : Nat → Tok} {k1 k2 k3 tb tp : Tok} {b : Str} {p : Int} {cm : Str} {sv : Value} {ln : Int} {tl : Tok} {tk : Str} {tt : Tok}
    (F : Fr g L s.heap m) (N : News g L s.heap (shL w x d sa sd pb fs T k1 k2 k3 tb tp b p cm sv ln tl tk tt))
    (hS : ∀ P : Flow → Shared → Prop, (∀ h' k ln' tl', Fr g L h' m → News g L h' (shL w x d sa sd pb fs T k1 k2 k3 tb tp b p cm sv ln' tl' tk tt) → ln ≤ ln' → ln' ≤ ln + 1 → P .next { s with heap := h', toks := k }) → wpAny (model prog w₁) A (exec S env) P E s)
    (h : ∀ h' k ln' tl', Fr g L h' m → News g L h' (shL w x d sa sd pb fs T k1 k2 k3 tb tp b p cm sv ln' tl' tk tt) → ln ≤ ln' → ln' ≤ ln + 1 → Q .next { s with heap := h', toks := k }) : wpAny (model prog w₁) A (exec S env) Q E s := hS Q h

theorem News_tl {g h : Heap} {L : Addr} {q : Addr × Obj} {l : Led} (N : News g L h (q :: l)) : News g L h l := fun p hp => N p (.tail _ hp)
theorem nin_one (W : Str) (n : Nat) : nin W ⟨#[n]⟩ = !decide (n ∈ ls W) := by
  have h := StrLaws.found_one W n
  unfold nin
  rw [← h, Bool.not_not]
theorem one_of {c : Str} (h : c.length = 1) : ∃ n, c = ⟨#[n]⟩ := by
  obtain ⟨a⟩ := c
  obtain ⟨l⟩ := a
  match l, h with
  | [n], _ => exact ⟨n, rfl⟩
theorem nin_empty {c : Str} (h : c.length = 1) : nin (Str.ofString "") c = true := by
  obtain ⟨n, rfl⟩ := one_of h
  rw [nin_one]
  have : ls (Str.ofString "") = [] := by decide +kernel
  rw [this]; rfl
end

/-! ## Es -/
section
section
variable {cm b : Str} {p : Nat} {qd : Bool} {es tk st : Str}
theorem len0 {x : Str} (h : (x.length : Int) = 0) : x.length = 0 := by omega
theorem lenn {x : Str} (h : (x.length : Int) ≠ 0) : x.length ≠ 0 := by omega
theorem ntf {x : Bool} (h : x = true) : ¬ x = false := by rw [h]; decide
theorem nft {x : Bool} (h : x = false) : ¬ x = true := by rw [h]; decide
theorem nkeep {tk : Str} {qd : Bool} (h2 : (tk.length : Int) = 0) (h3 : qd = false) : ¬ (tk.length ≠ 0 ∨ qd = true) := by rintro (q | q); exact q (len0 h2); rw [h3] at q; cases q
theorem wd_sp : ¬ wdS = spS := by decide +kernel
theorem bs_sp : ¬ bsS = spS := by decide +kernel
theorem wd_bs : ¬ wdS = bsS := by decide +kernel
theorem wd_qu : ¬ nin quS wdS = false := by decide +kernel
theorem bs_qu : ¬ nin quS bsS = false := by decide +kernel
theorem e_sp_ws1 (hpl : p < b.length) (h1 : nin wsS (chAt b p) = false) (h2 : (tk.length : Int) ≠ 0) : stepT1 cm b ⟨p, some spS, qd, es, tk⟩ = .inr (.ret (fin qd tk) (p + 1) (some spS)) := by
  unfold stepT1; dsimp only; rw [if_pos hpl, if_pos rfl, if_pos h1, if_pos (.inl (lenn h2))]
theorem e_sp_ws2 (hpl : p < b.length) (h1 : nin wsS (chAt b p) = false) (h2 : qd = true) : stepT1 cm b ⟨p, some spS, qd, es, tk⟩ = .inr (.ret (fin qd tk) (p + 1) (some spS)) := by
  unfold stepT1; dsimp only; rw [if_pos hpl, if_pos rfl, if_pos h1, if_pos (.inr h2)]
theorem e_sp_ws3 (hpl : p < b.length) (h1 : nin wsS (chAt b p) = false) (h2 : (tk.length : Int) = 0) (h3 : qd = false) : stepT1 cm b ⟨p, some spS, qd, es, tk⟩ = .inl ⟨p + 1, some spS, qd, es, tk⟩ := by
  unfold stepT1; dsimp only; rw [if_pos hpl, if_pos rfl, if_pos h1, if_neg (nkeep h2 h3)]
theorem e_sp_cm (hpl : p < b.length) (h1 : nin wsS (chAt b p) = true) (h2 : nin cm (chAt b p) = false) : stepT1 cm b ⟨p, some spS, qd, es, tk⟩ = .inl ⟨nlEnd b (p + 1), some spS, qd, es, tk⟩ := by
  unfold stepT1; dsimp only; rw [if_pos hpl, if_pos rfl, if_neg (ntf h1), if_pos h2]
theorem e_sp_bs (hpl : p < b.length) (h1 : nin wsS (chAt b p) = true) (h2 : nin cm (chAt b p) = true) (h3 : nin bsS (chAt b p) = false) : stepT1 cm b ⟨p, some spS, qd, es, tk⟩ = .inl ⟨p + 1, some (chAt b p), qd, wdS, tk⟩ := by
  unfold stepT1; dsimp only; rw [if_pos hpl, if_pos rfl, if_neg (ntf h1), if_neg (ntf h2), if_pos h3]
theorem e_sp_wo (hpl : p < b.length) (h1 : nin wsS (chAt b p) = true) (h2 : nin cm (chAt b p) = true) (h3 : nin bsS (chAt b p) = true) (h4 : nin wordS (chAt b p) = false) : stepT1 cm b ⟨p, some spS, qd, es, tk⟩ = .inl ⟨p + 1, some wdS, qd, es, chAt b p⟩ := by
  unfold stepT1; dsimp only; rw [if_pos hpl, if_pos rfl, if_neg (ntf h1), if_neg (ntf h2), if_neg (ntf h3), if_pos h4]
theorem e_sp_qu (hpl : p < b.length) (h1 : nin wsS (chAt b p) = true) (h2 : nin cm (chAt b p) = true) (h3 : nin bsS (chAt b p) = true) (h4 : nin wordS (chAt b p) = true) (h5 : nin quS (chAt b p) = false) : stepT1 cm b ⟨p, some spS, qd, es, tk⟩ = .inl ⟨p + 1, some (chAt b p), qd, es, tk⟩ := by
  unfold stepT1; dsimp only; rw [if_pos hpl, if_pos rfl, if_neg (ntf h1), if_neg (ntf h2), if_neg (ntf h3), if_neg (ntf h4), if_pos h5]
theorem e_sp_el (hpl : p < b.length) (h1 : nin wsS (chAt b p) = true) (h2 : nin cm (chAt b p) = true) (h3 : nin bsS (chAt b p) = true) (h4 : nin wordS (chAt b p) = true) (h5 : nin quS (chAt b p) = true) : stepT1 cm b ⟨p, some spS, qd, es, tk⟩ = .inl ⟨p + 1, some wdS, qd, es, chAt b p⟩ := by
  unfold stepT1; dsimp only; rw [if_pos hpl, if_pos rfl, if_neg (ntf h1), if_neg (ntf h2), if_neg (ntf h3), if_neg (ntf h4), if_neg (ntf h5)]
theorem e_wd_ws1 (hpl : p < b.length) (h1 : nin wsS (chAt b p) = false) (h2 : (tk.length : Int) ≠ 0) : stepT1 cm b ⟨p, some wdS, qd, es, tk⟩ = .inr (.ret (fin qd tk) (p + 1) (some spS)) := by
  unfold stepT1; dsimp only; rw [if_pos hpl, if_neg wd_sp, if_neg wd_qu, if_neg wd_bs, if_pos h1, if_pos (.inl (lenn h2))]
theorem e_wd_ws2 (hpl : p < b.length) (h1 : nin wsS (chAt b p) = false) (h2 : qd = true) : stepT1 cm b ⟨p, some wdS, qd, es, tk⟩ = .inr (.ret (fin qd tk) (p + 1) (some spS)) := by
  unfold stepT1; dsimp only; rw [if_pos hpl, if_neg wd_sp, if_neg wd_qu, if_neg wd_bs, if_pos h1, if_pos (.inr h2)]
theorem e_wd_ws3 (hpl : p < b.length) (h1 : nin wsS (chAt b p) = false) (h2 : (tk.length : Int) = 0) (h3 : qd = false) : stepT1 cm b ⟨p, some wdS, qd, es, tk⟩ = .inl ⟨p + 1, some spS, qd, es, tk⟩ := by
  unfold stepT1; dsimp only; rw [if_pos hpl, if_neg wd_sp, if_neg wd_qu, if_neg wd_bs, if_pos h1, if_neg (nkeep h2 h3)]
theorem e_wd_cm1 (hpl : p < b.length) (h1 : nin wsS (chAt b p) = true) (h2 : nin cm (chAt b p) = false) (h3 : (tk.length : Int) ≠ 0) : stepT1 cm b ⟨p, some wdS, qd, es, tk⟩ = .inr (.ret (fin qd tk) (nlEnd b (p + 1)) (some spS)) := by
  unfold stepT1; dsimp only; rw [if_pos hpl, if_neg wd_sp, if_neg wd_qu, if_neg wd_bs, if_neg (ntf h1), if_pos h2, if_pos (.inl (lenn h3))]
theorem e_wd_cm2 (hpl : p < b.length) (h1 : nin wsS (chAt b p) = true) (h2 : nin cm (chAt b p) = false) (h3 : qd = true) : stepT1 cm b ⟨p, some wdS, qd, es, tk⟩ = .inr (.ret (fin qd tk) (nlEnd b (p + 1)) (some spS)) := by
  unfold stepT1; dsimp only; rw [if_pos hpl, if_neg wd_sp, if_neg wd_qu, if_neg wd_bs, if_neg (ntf h1), if_pos h2, if_pos (.inr h3)]
theorem e_wd_cm3 (hpl : p < b.length) (h1 : nin wsS (chAt b p) = true) (h2 : nin cm (chAt b p) = false) (h3 : (tk.length : Int) = 0) (h4 : qd = false) : stepT1 cm b ⟨p, some wdS, qd, es, tk⟩ = .inl ⟨nlEnd b (p + 1), some spS, qd, es, tk⟩ := by
  unfold stepT1; dsimp only; rw [if_pos hpl, if_neg wd_sp, if_neg wd_qu, if_neg wd_bs, if_neg (ntf h1), if_pos h2, if_neg (nkeep h3 h4)]
theorem e_wd_qu (hpl : p < b.length) (h1 : nin wsS (chAt b p) = true) (h2 : nin cm (chAt b p) = true) (h3 : nin quS (chAt b p) = false) : stepT1 cm b ⟨p, some wdS, qd, es, tk⟩ = .inl ⟨p + 1, some (chAt b p), qd, es, tk⟩ := by
  unfold stepT1; dsimp only; rw [if_pos hpl, if_neg wd_sp, if_neg wd_qu, if_neg wd_bs, if_neg (ntf h1), if_neg (ntf h2), if_pos h3]
theorem e_wd_bs (hpl : p < b.length) (h1 : nin wsS (chAt b p) = true) (h2 : nin cm (chAt b p) = true) (h3 : nin quS (chAt b p) = true) (h4 : nin bsS (chAt b p) = false) : stepT1 cm b ⟨p, some wdS, qd, es, tk⟩ = .inl ⟨p + 1, some (chAt b p), qd, wdS, tk⟩ := by
  unfold stepT1; dsimp only; rw [if_pos hpl, if_neg wd_sp, if_neg wd_qu, if_neg wd_bs, if_neg (ntf h1), if_neg (ntf h2), if_neg (ntf h3), if_pos h4]
theorem e_wd_ap (hpl : p < b.length) (h1 : nin wsS (chAt b p) = true) (h2 : nin cm (chAt b p) = true) (h3 : nin quS (chAt b p) = true) (h4 : nin bsS (chAt b p) = true) : stepT1 cm b ⟨p, some wdS, qd, es, tk⟩ = .inl ⟨p + 1, some wdS, qd, es, tk ++ chAt b p⟩ := by
  unfold stepT1; dsimp only; rw [if_pos hpl, if_neg wd_sp, if_neg wd_qu, if_neg wd_bs, if_neg (ntf h1), if_neg (ntf h2), if_neg (ntf h3), if_neg (ntf h4)]
theorem e_bs_1 (hpl : p < b.length) (h1 : nin quS es = false) (h2 : (chAt b p != bsS) = true) (h3 : (chAt b p != es) = true) : stepT1 cm b ⟨p, some bsS, qd, es, tk⟩ = .inl ⟨p + 1, some es, qd, es, tk ++ bsS ++ chAt b p⟩ := by
  unfold stepT1; dsimp only; rw [if_pos hpl, if_neg bs_sp, if_neg bs_qu, if_pos rfl, if_pos ⟨h1, h2, h3⟩]
theorem e_bs_2 (hpl : p < b.length) (h1 : nin quS es = true) : stepT1 cm b ⟨p, some bsS, qd, es, tk⟩ = .inl ⟨p + 1, some es, qd, es, tk ++ chAt b p⟩ := by
  unfold stepT1; dsimp only; rw [if_pos hpl, if_neg bs_sp, if_neg bs_qu, if_pos rfl, if_neg (fun q => ntf h1 q.1)]
theorem e_bs_3 (hpl : p < b.length) (h1 : (chAt b p != bsS) = false) : stepT1 cm b ⟨p, some bsS, qd, es, tk⟩ = .inl ⟨p + 1, some es, qd, es, tk ++ chAt b p⟩ := by
  unfold stepT1; dsimp only; rw [if_pos hpl, if_neg bs_sp, if_neg bs_qu, if_pos rfl, if_neg (fun q => nft h1 q.2.1)]
theorem e_bs_4 (hpl : p < b.length) (h1 : (chAt b p != es) = false) : stepT1 cm b ⟨p, some bsS, qd, es, tk⟩ = .inl ⟨p + 1, some es, qd, es, tk ++ chAt b p⟩ := by
  unfold stepT1; dsimp only; rw [if_pos hpl, if_neg bs_sp, if_neg bs_qu, if_pos rfl, if_neg (fun q => nft h1 q.2.2)]
theorem e_qt_eq (hpl : p < b.length) (h1 : (st == spS) = false) (h2 : nin quS st = false) (h3 : (chAt b p == st) = true) : stepT1 cm b ⟨p, some st, qd, es, tk⟩ = .inl ⟨p + 1, some wdS, true, es, tk⟩ := by
  unfold stepT1; dsimp only; rw [if_pos hpl, if_neg (fun q => by rw [q] at h1; exact absurd h1 (by decide +kernel)), if_pos h2, if_pos h3]
theorem e_qt_bs (hpl : p < b.length) (h1 : (st == spS) = false) (h2 : nin quS st = false) (h3 : (chAt b p == st) = false) (h4 : nin bsS (chAt b p) = false) (h5 : nin dqS st = false) : stepT1 cm b ⟨p, some st, qd, es, tk⟩ = .inl ⟨p + 1, some (chAt b p), true, st, tk⟩ := by
  unfold stepT1; dsimp only; rw [if_pos hpl, if_neg (fun q => by rw [q] at h1; exact absurd h1 (by decide +kernel)), if_pos h2, if_neg (nft h3), if_pos ⟨h4, h5⟩]
theorem e_qt_a1 (hpl : p < b.length) (h1 : (st == spS) = false) (h2 : nin quS st = false) (h3 : (chAt b p == st) = false) (h4 : nin bsS (chAt b p) = true) : stepT1 cm b ⟨p, some st, qd, es, tk⟩ = .inl ⟨p + 1, some st, true, es, tk ++ chAt b p⟩ := by
  unfold stepT1; dsimp only; rw [if_pos hpl, if_neg (fun q => by rw [q] at h1; exact absurd h1 (by decide +kernel)), if_pos h2, if_neg (nft h3), if_neg (fun q => ntf h4 q.1)]
theorem e_qt_a2 (hpl : p < b.length) (h1 : (st == spS) = false) (h2 : nin quS st = false) (h3 : (chAt b p == st) = false) (h4 : nin dqS st = true) : stepT1 cm b ⟨p, some st, qd, es, tk⟩ = .inl ⟨p + 1, some st, true, es, tk ++ chAt b p⟩ := by
  unfold stepT1; dsimp only; rw [if_pos hpl, if_neg (fun q => by rw [q] at h1; exact absurd h1 (by decide +kernel)), if_pos h2, if_neg (nft h3), if_neg (fun q => ntf h4 q.2)]
end
end

/-! ## Ez -/
section
theorem bs_of {c : Str} (h : c.length = 1) (h2 : nin bsS c = false) : c = bsS := by
  obtain ⟨n, rfl⟩ := one_of h
  rw [nin_one] at h2
  have e : ls bsS = [92] := by decide +kernel
  rw [e] at h2
  have : n = 92 := by simpa using h2
  subst this
  decide +kernel
theorem qu_ok {c : Str} (h : c.length = 1) (h2 : nin quS c = false) : okSt c := by
  refine .inr (.inr (.inr ⟨h, h2, ?_, ?_⟩))
  · rw [Bool.eq_false_iff]; intro q; have := eq_of_beq q; subst this; revert h2; decide +kernel
  · rw [Bool.eq_false_iff]; intro q; have := eq_of_beq q; subst this; revert h2; decide +kernel
theorem qu_nbs {c : Str} (h2 : nin quS c = false) : c ≠ bsS := by rintro rfl; revert h2; decide +kernel
section
variable {w : World} {x d sa sd pb fs : Nat} {T : Nat → Tok} {k1 k2 k3 tb tp : Tok} {b cm : Str} {o : Out} {k : Nat} {m : Str → Option Value} {l : Led} {p p' : Nat} {st st' : Str} {qd qd' : Bool} {es es' tk tk' : Str} {sv : Value} {ln : Int} {tl tt te ts : Tok}
theorem rtj_mk (ho : rtN cm b (k + 1) ⟨p, some st, qd, es, tk⟩ = o) (e : stepT1 cm b ⟨p, some st, qd, es, tk⟩ = .inl ⟨p', some st', qd', es', tk'⟩) (hn : b.length + 1 ≤ k + p') (hp : p' ≤ b.length) (ht : tk'.length ≤ 2 * p') (hl0 : 0 ≤ ln) (hl1 : ln ≤ 2 * p' + 1)
    (hok : okSt st') (hes : st' = bsS → es' = wdS ∨ (es'.length = 1 ∧ nin quS es' = false)) (e1 : m (Str.ofString "self") = some (.ref x)) (e2 : m (Str.ofString "quoted") = some (.bool qd')) (e3 : m (Str.ofString "escapedstate") = some (.str es' te))
    (e4 : l = shL w x d sa sd pb fs T k1 k2 k3 tb tp b p' cm (.str st' ts) ln tl tk' tt) : RtJ w x d sa sd pb fs T k1 k2 k3 tb b cm o k m l :=
  ⟨p', some st', qd', es', tk', _, ln, tl, tt, te, tp, rt_next ho e, hn, hp, ht, hl0, hl1, (fun z hz => by cases hz; exact hok), fun h => hes (Option.some.inj h), (fun h => by cases h), ⟨ts, rfl⟩, e1, e2, e3, e4⟩
theorem rtq_mk {h₀ h' : Heap} {L : Addr} {s : Shared} {kk : Nat} {so : Option Str} (ho : rtN cm b (k + 1) ⟨p, so, qd, es, tk⟩ = o) (e : stepT1 cm b ⟨p, so, qd, es, tk⟩ = .inr (.ret (fin qd tk) p' (some spS))) (F : Fr h₀ L h' m) (N : News h₀ L h' (shL w x d sa sd pb fs T k1 k2 k3 tb tp b p' cm (.str spS ts) ln tl tk tt))
    (hp : p' ≤ b.length) (ht : tk.length ≤ 2 * p') (hl0 : 0 ≤ ln) (hl1 : ln ≤ 2 * p' + 1) (e1 : m (Str.ofString "self") = some (.ref x)) (e2 : m (Str.ofString "quoted") = some (.bool qd)) :
    RtQ w x d sa sd pb fs T k1 k2 k3 tb b cm o h₀ L s .next { s with heap := h', toks := kk } :=
  ⟨rfl, h', kk, m, p', some spS, qd, tk, _, ln, tl, tt, tp, rfl, F, N, rt_stop ho e, hp, ht, hl0, hl1, .inl rfl, ⟨ts, rfl⟩, e1, e2⟩
theorem w2_brk {J : Nat → (Str → Option Value) → Led → Prop} {Q : Flow → Shared → Prop} {h₀ : Heap} {L : Addr} {s s₃ : Shared} {n : Nat} (h : Q .next s₃) : WhileStep2 h₀ L s J Q n .brk s₃ := h
end

section
variable {w : World} {x d sa sd pb fs : Nat} {T : Nat → Tok} {k1 k2 k3 tb tp : Tok} {b cm : Str} {o : Out} {k : Nat} {m : Str → Option Value} {p : Nat} {st : Str} {qd : Bool} {es tk : Str} {ln : Int} {tl tt : Tok}
theorem e_eo_sp (h : ¬ p < b.length) : stepT1 cm b ⟨p, some spS, qd, es, tk⟩ = .inr (.ret (fin qd tk) p none) := by
  unfold stepT1; dsimp only; rw [if_neg h, if_neg (by decide +kernel), if_neg (by decide +kernel)]
theorem e_eo_wd (h : ¬ p < b.length) : stepT1 cm b ⟨p, some wdS, qd, es, tk⟩ = .inr (.ret (fin qd tk) p none) := by
  unfold stepT1; dsimp only; rw [if_neg h, if_neg wd_qu, if_neg wd_bs]
theorem e_eo_bs (h : ¬ p < b.length) : stepT1 cm b ⟨p, some bsS, qd, es, tk⟩ = .inr (.err (Str.ofString "No escaped character")) := by
  unfold stepT1; dsimp only; rw [if_neg h, if_neg bs_qu, if_pos rfl]
theorem e_eo_qt (h : ¬ p < b.length) (h2 : nin quS st = false) : stepT1 cm b ⟨p, some st, qd, es, tk⟩ = .inr (.err (Str.ofString "No closing quotation")) := by
  unfold stepT1; dsimp only; rw [if_neg h, if_pos h2]
theorem e_eo_no (h : ¬ p < b.length) (hq : qd = false) : stepT1 cm b ⟨p, none, qd, es, tk⟩ = .inr (.ret (fin qd (Str.ofString "")) p none) := by
  subst hq; unfold stepT1; dsimp only; rw [if_neg h]; rfl
theorem rtq_end {h₀ h' : Heap} {L : Addr} {s : Shared} {kk : Nat} {so : Option Str} {tk' : Str} (ho : rtN cm b (k + 1) ⟨p, so, qd, es, tk⟩ = o) (e : stepT1 cm b ⟨p, so, qd, es, tk⟩ = .inr (.ret (fin qd tk') p none)) (F : Fr h₀ L h' m) (N : News h₀ L h' (shL w x d sa sd pb fs T k1 k2 k3 tb tp b p cm .none ln tl tk' tt))
    (hp : p = b.length) (ht : tk'.length ≤ 2 * p) (hl0 : 0 ≤ ln) (hl1 : ln ≤ 2 * p + 1) (e1 : m (Str.ofString "self") = some (.ref x)) (e2 : m (Str.ofString "quoted") = some (.bool qd)) :
    RtQ w x d sa sd pb fs T k1 k2 k3 tb b cm o h₀ L s .next { s with heap := h', toks := kk } :=
  ⟨rfl, h', kk, m, p, none, qd, tk', _, ln, tl, tt, tp, rfl, F, N, rt_stop ho e, Nat.le_of_eq hp, ht, hl0, hl1, .inr ⟨rfl, hp⟩, rfl, e1, e2⟩
theorem fin_t {t : Tok} : StV (fin true tk) (.str tk t) := by unfold fin; rw [if_neg (by simp)]; exact ⟨t, rfl⟩
theorem emp_len {x : Str} : (x == Str.ofString "") = true ↔ x.length = 0 := by
  constructor
  · intro h; rw [eq_of_beq h]; decide +kernel
  · intro h
    have : x = Str.ofString "" := by
      apply ls_inj
      have e : ls (Str.ofString "") = [] := by decide +kernel
      rw [e]
      exact List.eq_nil_of_length_eq_zero (by rw [len_ls]; exact h)
    rw [this]; exact beq_self_eq_true _
theorem fin_f {t : Tok} (h : (tk == Str.ofString "") = false) : StV (fin false tk) (.str tk t) := by
  unfold fin; rw [if_neg (fun q => by rw [emp_len.mpr q.2] at h; cases h)]; exact ⟨t, rfl⟩
theorem fin_n (h : (tk == Str.ofString "") = true) : StV (fin false tk) .none := by
  unfold fin; rw [if_pos ⟨rfl, emp_len.mp h⟩]; rfl
end
end

/-! ## R2 -/
section
theorem offR2 : True := by
  (w_top off)
  k_with_none
  k_with "steps" => (repeat' (first | (k_unfold; (try dsimp only)) | ((with_reducible show wpAny _ _ (exec (Stmt.If _ _ _ _) _) _ _ _); k_fold) | ((fail_if_success with_reducible show LeaveR _ _ _ _ _ _ _ _); (fail_if_success with_reducible show TurnPost _ _ _ _ _ _ _ _ _); (fail_if_success with_reducible show wpAny _ _ (pyIter _) _ _ _); (fail_if_success with_reducible show wpAny _ _ (exec (Stmt.While _ _ _ _) _) _ _ _); walk1) | ((fail_if_success with_reducible show LeaveR _ _ _ _ _ _ _ _); (fail_if_success with_reducible show TurnPost _ _ _ _ _ _ _ _ _); (fail_if_success with_reducible show wpAny _ _ (pyIter _) _ _ _); (fail_if_success with_reducible show wpAny _ _ (exec (Stmt.While _ _ _ _) _) _ _ _); dsimp only; walk1) | fail "no step"))
  k_with "call builtin:issubclass" => ((k_here; (with_reducible show wpAny _ _ (call (Value.builtin "issubclass") [Value.type "str", Value.ref _]) _ _ _); refine issub_call (News.get (by k_asm) (by k_mem)) ?_))
  k_with "call ref" => (((with_reducible show wpAny _ _ (call (Value.ref 807) _) _ _ _); k_dflt ((refine' DoesP.use (c_fspath _ _ _) ?k1 ?k2 ?k3 ?k4 ?k5 ?kK ?kd ?ku ?_; (case k1 => k_asm); (case k2 => k_asm); (case k3 => k_asm); (case k4 => k_asm); (case k5 => k_asm); (case kK => first | exact rfl | assumption); (case kd => ktr_room); (case ku => ktr_units); k_whole; intro _ _ _ P9 _ _; (first | subst P9 | (obtain ⟨_, P9⟩ := P9; subst P9)); (try dsimp only); (try k_fold)))))
  k_with "call ref" => (((with_reducible show wpAny _ _ (call (Value.ref 821) _) _ _ _); k_dflt ((refine' DoesP.use (c_get_sep _ _ _) ?k1 ?k2 ?k3 ?k4 ?k5 ?kK ?kd ?ku ?_; (case k1 => k_asm); (case k2 => k_asm); (case k3 => k_asm); (case k4 => k_asm); (case k5 => k_asm); (case kK => first | exact rfl | assumption); (case kd => ktr_room); (case ku => ktr_units); k_whole; intro _ _ _ P9 _ _; (first | subst P9 | (obtain ⟨_, P9⟩ := P9; subst P9)); (try dsimp only); (try k_fold)))))
  k_with "call builtin:str.find" => (((with_reducible show wpAny _ _ (call (Value.builtin "str.find") [Value.str _ _, Value.str _ _, Value.int _ _, Value.int (((Str.length _ : Nat)) : Int) _]) _ _ _); refine find4 ?_))
  k_with "call builtin:str.split" => (((with_reducible show wpAny _ _ (call (Value.builtin "str.split") [Value.str _ _, Value.str _ _]) _ _ _); refine' KSpl.split1 ?k1 ?k2 ?k3 ?_ ?k4; (case k1 => k_asm); (case k2 => k_asm); (case k3 => decide); (case k4 => (rw [sizeLine_eq]; omega)); intro _ _ _ _ _ _ _ _ yl1; (try k_lt yl1); revert yl1; intro _))
  k_with "truthy ref" => ((with_unfolding_all (refine' truthyL ?k1 ?k2 ?k3 ?_; (case k1 => k_asm); (case k2 => k_mem); (case k3 => omega))))
  k_with "call builtin:list.pop" => ((refine' popL ?k1 ?k2 ?k3 ?k4 ?k5 ?_; (case k1 => k_asm); (case k2 => k_asm); (case k3 => k_upd); (case k4 => assumption); (case k5 => omega); intro _ _ _ _; (try k_sweep)))
  k_with "call builtin:list.append" => ((refine' appendL ?k1 ?k2 ?k3 ?k4 ?_; (case k1 => k_asm); (case k2 => k_asm); (case k3 => k_upd); (case k4 => omega); intro _ _ _; (try k_sweep)))
  k_with "subscriptTail Name UnaryOp ref int" => (((with_reducible show wpAny _ _ (subscriptTail _ _ (Value.ref _) (Value.int _ _)) _ _ _); (with_unfolding_all refine' lastL ?k1 ?k2 ?k3 ?k4 ?k5 ?_; (case k1 => k_asm); (case k2 => k_mem); (case k3 => assumption); (case k4 => assumption); (case k5 => omega)); intro _))
  k_with "call builtin:str.join" => (((with_reducible show wpAny _ _ (call (Value.builtin "str.join") [Value.str _ _, Value.ref _]) _ _ _); refine' joinL ?k1 ?k2 ?k3 ?k4 ?k5 ?_; (case k1 => k_asm); (case k2 => k_mem); (case k3 => assumption); (case k4 => decide); (case k5 => (rw [wgt_sum]; omega)); intro _ _))
  k_with "call type:collections.deque" => ((refine' call_dqN ?k1 ?k2 ?_; (case k1 => k_asm); (case k2 => k_asm); intro _ _ _ _ yl1; (try k_lt yl1); revert yl1; intro _; (try k_sweep)))
  k_with "truthy ref" => ((with_unfolding_all (refine' truthy_dqN (a := _) ?k1 ?k2 ?_; (case k1 => k_asm); (case k2 => k_mem)); intro _))
  k_with "units" => (((have hcL9 := cLine_is); (try simp only [units_kw, units_in1, units_deeper, Around.mark_units, units_caller] at *); (try dsimp only [ktrTop] at *); omega))
  k_with "call ref" => (((with_reducible show wpAny _ _ (call (Value.ref 587) _) _ _ _); k_dflt (refine' Does.use0 (c_sio _ _ _) ?k1 ?k2 ?k3 ?k4 ?k5 ?kK ?kd ?ku ?_; (case k1 => k_asm); (case k2 => k_asm); (case k3 => k_asm); (case k4 => k_asm); (case k5 => k_asm); (case kK => first | exact rfl | assumption); (case kd => ktr_room); (case ku => ktr_units); rintro _ _ _ _ ⟨_, _, _, _, _, _, _, e91, e92, _⟩ _ N9 D9; subst e91; subst e92; (simp only [AllNe2, AllNe, and_true, sioL, sioE, kvE, List.cons_append, List.nil_append] at D9 N9); revert D9 N9; intro _ _; (try dsimp only); (try k_fold))))
  k_with "truthy str" => ((with_unfolding_all (refine SBL.truthy (by omega) ?_)))
  k_with "inplaceOp Add str str" => ((with_unfolding_all (refine SBL.iadd (hsz := ?hsz) ?_; (case hsz => (rw [sizeLine_eq]; omega))); intro _ _ _))
  k_with "steps" => (repeat' (first | (k_unfold; (try dsimp only)) | ((with_reducible show wpAny _ _ (exec (Stmt.If _ _ _ _) _) _ _ _); k_fold) | ((fail_if_success with_reducible show LeaveR _ _ _ _ _ _ _ _); (fail_if_success with_reducible show WhileStep2 _ _ _ _ _ _ _ _); (fail_if_success with_reducible show wpAny _ _ (exec (Stmt.While _ _ _ _) _) _ _ _); (fail_if_success with_reducible show wpAny _ _ (exec (Stmt.If (Expr.Compare (Expr.Name (Str.ofString "nextchar") _) [CmpOp.Eq] [Expr.Constant _ _ _] _) _ _ _) _) _ _ _); (fail_if_success with_reducible show wpAny _ _ (exec (Stmt.If (Expr.Compare (Expr.Attribute _ (Str.ofString "state") _) [CmpOp.Is] _ _) _ _ _) _) _ _ _); walk1) | ((fail_if_success with_reducible show LeaveR _ _ _ _ _ _ _ _); (fail_if_success with_reducible show WhileStep2 _ _ _ _ _ _ _ _); dsimp only; (fail_if_success with_reducible show WhileStep2 _ _ _ _ _ _ _ _); walk1) | fail "no step"))
  k_with "leaving ref" => ((k_dflt (refine' leave_raiseS ?k1 ?k0 ?k2 News.nil ?_; (case k0 => first | assumption | exact Heap.MadeExc.of (by assumption)); (case k2 => assumption); (case k1 => assumption)); intro _ _ _ _ _))
  k_with "ite" => (first | with_reducible refine ite_tt ?_ | with_reducible refine ite_ff ?_ | with_reducible refine split_not ?_ | refine ite_pos (by with_reducible assumption) ?_ | refine ite_neg (by with_reducible assumption) ?_ | refine ite_isFalse (by with_reducible assumption) ?_ | (with_unfolding_all (k_closed; k_dflt (first | refine ite_pos (by decide) ?_ | refine ite_neg (by decide) ?_ | refine ite_pos (by decide +kernel) ?_ | refine ite_neg (by decide +kernel) ?_))))
  k_with "eval Name" => (((with_reducible show wpAny _ _ (eval (Expr.Name _ _) (envOf _ _ _ _ _)) _ _ _); (with_reducible refine ld (by assumption) (by with_unfolding_all rfl) ?_ (by kernel_rfl!) (by kernel_rfl!) (by decide +kernel))))
  k_with "getAttr ref" => ((with_unfolding_all (k_dflt (refine' get_own ?k1 ?k2 ?k3 ?k4 ?k5 ?k6 ?k7 ?k8 ?k9 ?_; (case k1 => k_asm); (case k2 => k_asm); (case k3 => k_inst); (case k4 => k_is); (case k5 => k_is); (case k6 => k_is); (case k7 => k_is); (case k8 => k_get); (case k9 => k_handed); k_whole))))
  k_with "call ref" => (((with_reducible show wpAny _ _ (call (Value.ref 533) _) _ _ _); k_dflt (first | (refine' Does.useN (c_rdI _ _ _ _ _ _ _ _ _ _ _ ?z1 ?z2 ?z3) ?k1 ?k2 ?k3 ?k4 ?ka ?k5 ?kK ?kd ?ku ?_; (case k1 => k_asm); (case k2 => k_asm); (case k3 => k_asm); (case k4 => k_asm); (case z1 => omega); (case z2 => omega); (case z3 => omega); (case ka => (simp only [AllNe2, AllNe, and_true]; omega)); (case k5 => k_asm); (case kK => first | exact rfl | assumption); (case kd => ktr_room); (case ku => ktr_units); intro _ _ _ _ e9 _ N9; obtain ⟨_, _, e91, e92⟩ := e9; subst e91; subst e92; (simp only [sioL, sioE, kvE, List.cons_append, List.nil_append] at N9); revert N9; intro _; (try dsimp only); (try k_fold)) | (refine' Does.useN (c_rdO _ _ _ _ _ _ _ _ _ _ _ ?z1 ?z2 ?z3) ?k1 ?k2 ?k3 ?k4 ?ka ?k5 ?kK ?kd ?ku ?_; (case k1 => k_asm); (case k2 => k_asm); (case k3 => k_asm); (case k4 => k_asm); (case z1 => omega); (case z2 => omega); (case z3 => omega); (case ka => (simp only [AllNe2, AllNe, and_true]; omega)); (case k5 => k_asm); (case kK => first | exact rfl | assumption); (case kd => ktr_room); (case ku => ktr_units); intro _ _ _ _ e9 _ N9; obtain ⟨_, _, e91, e92⟩ := e9; subst e91; subst e92; (simp only [sioL, sioE, kvE, List.cons_append, List.nil_append] at N9); revert N9; intro _; (try dsimp only); (try k_fold)))))
  k_with "call ref" => (((with_reducible show wpAny _ _ (call (Value.ref 541) _) _ _ _); k_dflt (refine' Does.useN (c_rdl _ _ _ _ _ _ _ _ _ _ ?z1 ?z2 ?z3) ?k1 ?k2 ?k3 ?k4 ?ka ?k5 ?kK ?kd ?ku ?_; (case k1 => k_asm); (case k2 => k_asm); (case k3 => k_asm); (case k4 => first | k_asm | exact News_tl (by k_asm)); (case z1 => omega); (case z2 => omega); (case z3 => omega); (case ka => (simp only [AllNe2, AllNe, and_true]; omega)); (case k5 => k_asm); (case kK => first | exact rfl | assumption); (case kd => ktr_room); (case ku => ktr_units); intro _ _ _ _ e9 _ N9; obtain ⟨_, _, _, e91, e92⟩ := e9; subst e91; subst e92; (simp only [sioL, sioE, kvE, List.cons_append, List.nil_append] at N9); revert N9; intro _; (try dsimp only); (try k_fold))))
  trivial

set_option maxHeartbeats 16000000 in
theorem c_rt (w : World) (x d sa sd pb fs : Nat) (T : Nat → Tok) (k1 k2 k3 tb tp : Tok) (b : Str) (p : Nat) (cm : Str) (sv : Value) (st : Option Str) (ln : Int) (tl tt : Tok) (hx : d < x) (ha : ((@Ne Nat sa x ∧ @Ne Nat sa d) ∧ @Ne Nat sd x ∧ @Ne Nat sd d) ∧ x < pb) (hb : sd < sa) (hc : sa < pb) (hf : pb < fs) (hbl : b.length ≤ 100000) (hp : p ≤ b.length) (hln : 0 ≤ ln ∧ ln ≤ 2 * p + 1)
   (hst : st = some spS ∨ (st = none ∧ p = b.length)) (hsv : StV st sv) (o : Out) (ho : rtN cm b (b.length + 1 - p) ⟨p, st, false, spS, Str.ofString ""⟩ = o) :
   DoesE w 690 6 100 [.ref x] (shL w x d sa sd pb fs T k1 k2 k3 tb tp b p cm sv ln tl (Str.ofString "") tt)
     (fun v led => ∃ (r : Option Str) (p' : Nat) (st' : Option Str) (sv' : Value) (ln' : Int) (tl' tt' tp' : Tok), o = .ret r p' st' ∧ StV r v ∧ p' ≤ b.length ∧ 0 ≤ ln' ∧ ln' ≤ 2 * p' + 1 ∧ (st' = some spS ∨ (st' = none ∧ p' = b.length)) ∧ StV st' sv' ∧ led = shL w x d sa sd pb fs T k1 k2 k3 tb tp' b p' cm sv' ln' tl' (Str.ofString "") tt')
     (fun X xs => X = "ValueError" ∧ ∃ m t, xs = [.str m t] ∧ o = .err m) := by
  unfold DoesE
  k_fill
  intro mean mg mb dp un gd cn cs a0 ccd cl outer A₀ base h₀ L m s rest Q E hB hF hK hN hap hT hcs hd hu hret hexc
  simp only [shL, shE, sioE, kvE] at *
  obtain ⟨⟨⟨ha1, ha2⟩, ha3, ha4⟩, ha5⟩ := ha
  refine wpAny_call ?_
  refine' enterE (binds := [(Str.ofString "self", .ref x)]) hB hF hK hN hap hT rfl rfl hcs ?k6 ?k7 ?k8 ?k9 ?kB ?_ ?c2 ?c3 ?c4 ?c5
  case k6 => k_is
  case k7 => k_is
  case k8 => ktr_room
  case k9 => first | exact BindsTo.of_eq rfl | exact binds_K (by k_in) rfl (by k_is) rfl rfl rfl
  case kB => exact locs rfl
  case c2 => exact rfl
  case c3 => exact rfl
  case c4 => exact rfl
  case c5 => decide
  intro g1 L1 h1 FG1 NG1 F1 N1 B1 X1 T1 l1 st1
  (try dsimp only)
  (try k_fold)
  k_steps
  refine wpAny_mono (Q := RtQ w x d sa sd pb fs T k1 k2 k3 tb b cm o g1 L1 s) ?loop ?after (fun _ _ h => h)
  case loop =>
    refine' While_inv2 (n₀ := b.length + 1 - p) (RtJ w x d sa sd pb fs T k1 k2 k3 tb b cm o) (by k_asm) (by k_asm) ?J0 ?turn
    case J0 => exact ⟨p, st, false, spS, Str.ofString "", sv, ln, _, _, _, _, ho, by omega, hp, Nat.zero_le _, hln.1, hln.2, fun z hz => by rcases hst with h | ⟨h, _⟩ <;> rw [h] at hz <;> cases hz; exact .inl rfl, fun h => by rcases hst with q | ⟨q, _⟩ <;> rw [q] at h <;> exact absurd h (by decide +kernel), fun h => ⟨by rcases hst with q | ⟨_, q⟩; rw [q] at h; cases h; exact q, rfl⟩, hsv, rfl, rfl, rfl, rfl⟩
    case turn =>
      clear ho hst hsv hln hp
      rintro n m₁ l₁ h₁ tk₁ F N ⟨p, st, qd, es, wd, sv, ln, tl, tt, te, tp, ho, hn, hp, htk, hl0, hl1, hok, hes, hnone, hsv, e1, e2, e3, rfl⟩
      simp only [shL, shE, sioE, kvE] at N
      clear hB hF hK hN hap hT hret
      have F := Fr.put (x := Str.ofString "escapedstate") (Fr.put (x := Str.ofString "quoted") (Fr.put (x := Str.ofString "self") F (by exact e1)) (by exact e2)) (by exact e3)
      clear e1 e2 e3
      obtain ⟨k, rfl⟩ : ∃ k, n = k + 1 := ⟨n - 1, by omega⟩
      by_cases hpl : p < b.length
      · have hc1 : (chAt b p).length = 1 := by rw [chAt_len, if_pos hpl]
        have hn0 : (Builtin.Str.occurrences (Str.ofString "") (chAt b p) 0 (Str.ofString "").length 1).isEmpty = true := nin_empty hc1
        have hc2 : (((chAt b p).length : Int) != 0) = true := by rw [hc1]; rfl
        have hbs : bsS.length = 1 := by decide +kernel
        k_steps
        refine cut_ln (by k_asm) (by k_asm) ?nl ?rest
        case nl =>
          intro P hP
          walk1
          k_steps
          all_goals (try dsimp only)
          all_goals exact hP _ _ _ _ (by k_asm) (by k_asm) (by omega) (by omega)
        case rest =>
          intro h' k' ln' tl' F N hl2 hl3
          simp only [shL, shE, sioE, kvE] at N
          (try k_sweep)
          k_steps
          rcases st with _ | st
          · exact absurd (hnone rfl).1 (by omega)
          obtain ⟨ts, rfl⟩ := hsv
          have hok := hok st rfl
          clear hnone
          unfold okSt at hok
          rcases hok with rfl | rfl | rfl | ⟨hq1, hq2, hq3, hq4⟩
          · walk1
            k_steps
            all_goals (try dsimp only)
            all_goals (have hnl := nlEnd_ge (b := b) (p := p + 1) (by omega))
            all_goals (first
              | (refine w2_brk (rtq_mk ho (e_sp_ws1 hpl (by assumption) (by assumption)) (by k_asm) (by k_asm) (by omega) (by omega) (by omega) (by omega) rfl rfl))
              | (refine w2_brk (rtq_mk ho (e_sp_ws2 hpl (by assumption) (by assumption)) (by k_asm) (by k_asm) (by omega) (by omega) (by omega) (by omega) rfl rfl))
              | (refine w2_next (by k_asm) (by k_asm) (Nat.lt_succ_self k) (rtj_mk ho (e_sp_ws3 hpl (by assumption) (by assumption) (by assumption)) (by omega) (by omega) (by omega) (by omega) (by omega) (.inl rfl) (fun h => absurd h.symm bs_sp) rfl rfl rfl rfl))
              | (refine w2_cont (by k_asm) (by k_asm) (Nat.lt_succ_self k) (rtj_mk ho (e_sp_ws3 hpl (by assumption) (by assumption) (by assumption)) (by omega) (by omega) (by omega) (by omega) (by omega) (.inl rfl) (fun h => absurd h.symm bs_sp) rfl rfl rfl rfl))
              | (refine w2_next (by k_asm) (by k_asm) (Nat.lt_succ_self k) (rtj_mk ho (e_sp_cm hpl (by assumption) (by assumption)) (by omega) (by omega) (by omega) (by omega) (by omega) (.inl rfl) (fun h => absurd h.symm bs_sp) rfl rfl rfl rfl))
              | (refine w2_cont (by k_asm) (by k_asm) (Nat.lt_succ_self k) (rtj_mk ho (e_sp_cm hpl (by assumption) (by assumption)) (by omega) (by omega) (by omega) (by omega) (by omega) (.inl rfl) (fun h => absurd h.symm bs_sp) rfl rfl rfl rfl))
              | (refine w2_next (by k_asm) (by k_asm) (Nat.lt_succ_self k) (rtj_mk ho (e_sp_bs hpl (by assumption) (by assumption) (by assumption)) (by omega) (by omega) (by omega) (by omega) (by omega) (.inr (.inr (.inl (bs_of hc1 (by assumption))))) (fun _ => .inl rfl) rfl rfl rfl rfl))
              | (refine w2_cont (by k_asm) (by k_asm) (Nat.lt_succ_self k) (rtj_mk ho (e_sp_bs hpl (by assumption) (by assumption) (by assumption)) (by omega) (by omega) (by omega) (by omega) (by omega) (.inr (.inr (.inl (bs_of hc1 (by assumption))))) (fun _ => .inl rfl) rfl rfl rfl rfl))
              | (refine w2_next (by k_asm) (by k_asm) (Nat.lt_succ_self k) (rtj_mk ho (e_sp_wo hpl (by assumption) (by assumption) (by assumption) (by assumption)) (by omega) (by omega) (by omega) (by omega) (by omega) (.inr (.inl rfl)) (fun h => absurd h wd_bs) rfl rfl rfl rfl))
              | (refine w2_cont (by k_asm) (by k_asm) (Nat.lt_succ_self k) (rtj_mk ho (e_sp_wo hpl (by assumption) (by assumption) (by assumption) (by assumption)) (by omega) (by omega) (by omega) (by omega) (by omega) (.inr (.inl rfl)) (fun h => absurd h wd_bs) rfl rfl rfl rfl))
              | (refine w2_next (by k_asm) (by k_asm) (Nat.lt_succ_self k) (rtj_mk ho (e_sp_qu hpl (by assumption) (by assumption) (by assumption) (by assumption) (by assumption)) (by omega) (by omega) (by omega) (by omega) (by omega) (qu_ok hc1 (by assumption)) (fun h => absurd h (qu_nbs (by assumption))) rfl rfl rfl rfl))
              | (refine w2_cont (by k_asm) (by k_asm) (Nat.lt_succ_self k) (rtj_mk ho (e_sp_qu hpl (by assumption) (by assumption) (by assumption) (by assumption) (by assumption)) (by omega) (by omega) (by omega) (by omega) (by omega) (qu_ok hc1 (by assumption)) (fun h => absurd h (qu_nbs (by assumption))) rfl rfl rfl rfl))
              | (refine w2_next (by k_asm) (by k_asm) (Nat.lt_succ_self k) (rtj_mk ho (e_sp_el hpl (by assumption) (by assumption) (by assumption) (by assumption) (by assumption)) (by omega) (by omega) (by omega) (by omega) (by omega) (.inr (.inl rfl)) (fun h => absurd h wd_bs) rfl rfl rfl rfl))
              | (refine w2_cont (by k_asm) (by k_asm) (Nat.lt_succ_self k) (rtj_mk ho (e_sp_el hpl (by assumption) (by assumption) (by assumption) (by assumption) (by assumption)) (by omega) (by omega) (by omega) (by omega) (by omega) (.inr (.inl rfl)) (fun h => absurd h wd_bs) rfl rfl rfl rfl)))
          · walk1
            k_steps
            all_goals (try dsimp only)
            all_goals (have hnl := nlEnd_ge (b := b) (p := p + 1) (by omega))
            all_goals (first
              | (refine w2_brk (rtq_mk ho (e_wd_ws1 hpl (by assumption) (by assumption)) (by k_asm) (by k_asm) (by omega) (by omega) (by omega) (by omega) rfl rfl))
              | (refine w2_brk (rtq_mk ho (e_wd_ws1 hpl (by assumption) (by assumption)) (by k_asm) (News_tl (by k_asm)) (by omega) (by omega) (by omega) (by omega) rfl rfl))
              | (refine w2_brk (rtq_mk ho (e_wd_ws2 hpl (by assumption) (by assumption)) (by k_asm) (by k_asm) (by omega) (by omega) (by omega) (by omega) rfl rfl))
              | (refine w2_brk (rtq_mk ho (e_wd_ws2 hpl (by assumption) (by assumption)) (by k_asm) (News_tl (by k_asm)) (by omega) (by omega) (by omega) (by omega) rfl rfl))
              | (refine w2_brk (rtq_mk ho (e_wd_cm1 hpl (by assumption) (by assumption) (by assumption)) (by k_asm) (by k_asm) (by omega) (by omega) (by omega) (by omega) rfl rfl))
              | (refine w2_brk (rtq_mk ho (e_wd_cm1 hpl (by assumption) (by assumption) (by assumption)) (by k_asm) (News_tl (by k_asm)) (by omega) (by omega) (by omega) (by omega) rfl rfl))
              | (refine w2_brk (rtq_mk ho (e_wd_cm2 hpl (by assumption) (by assumption) (by assumption)) (by k_asm) (by k_asm) (by omega) (by omega) (by omega) (by omega) rfl rfl))
              | (refine w2_brk (rtq_mk ho (e_wd_cm2 hpl (by assumption) (by assumption) (by assumption)) (by k_asm) (News_tl (by k_asm)) (by omega) (by omega) (by omega) (by omega) rfl rfl))
              | (refine w2_next (by k_asm) (by k_asm) (Nat.lt_succ_self k) (rtj_mk ho (e_wd_ws3 hpl (by assumption) (by assumption) (by assumption)) (by omega) (by omega) (by omega) (by omega) (by omega) (.inl rfl) (fun h => absurd h.symm bs_sp) rfl rfl rfl rfl))
              | (refine w2_next (by k_asm) (News_tl (by k_asm)) (Nat.lt_succ_self k) (rtj_mk ho (e_wd_ws3 hpl (by assumption) (by assumption) (by assumption)) (by omega) (by omega) (by omega) (by omega) (by omega) (.inl rfl) (fun h => absurd h.symm bs_sp) rfl rfl rfl rfl))
              | (refine w2_cont (by k_asm) (by k_asm) (Nat.lt_succ_self k) (rtj_mk ho (e_wd_ws3 hpl (by assumption) (by assumption) (by assumption)) (by omega) (by omega) (by omega) (by omega) (by omega) (.inl rfl) (fun h => absurd h.symm bs_sp) rfl rfl rfl rfl))
              | (refine w2_cont (by k_asm) (News_tl (by k_asm)) (Nat.lt_succ_self k) (rtj_mk ho (e_wd_ws3 hpl (by assumption) (by assumption) (by assumption)) (by omega) (by omega) (by omega) (by omega) (by omega) (.inl rfl) (fun h => absurd h.symm bs_sp) rfl rfl rfl rfl))
              | (refine w2_next (by k_asm) (by k_asm) (Nat.lt_succ_self k) (rtj_mk ho (e_wd_cm3 hpl (by assumption) (by assumption) (by assumption) (by assumption)) (by omega) (by omega) (by omega) (by omega) (by omega) (.inl rfl) (fun h => absurd h.symm bs_sp) rfl rfl rfl rfl))
              | (refine w2_next (by k_asm) (News_tl (by k_asm)) (Nat.lt_succ_self k) (rtj_mk ho (e_wd_cm3 hpl (by assumption) (by assumption) (by assumption) (by assumption)) (by omega) (by omega) (by omega) (by omega) (by omega) (.inl rfl) (fun h => absurd h.symm bs_sp) rfl rfl rfl rfl))
              | (refine w2_cont (by k_asm) (by k_asm) (Nat.lt_succ_self k) (rtj_mk ho (e_wd_cm3 hpl (by assumption) (by assumption) (by assumption) (by assumption)) (by omega) (by omega) (by omega) (by omega) (by omega) (.inl rfl) (fun h => absurd h.symm bs_sp) rfl rfl rfl rfl))
              | (refine w2_cont (by k_asm) (News_tl (by k_asm)) (Nat.lt_succ_self k) (rtj_mk ho (e_wd_cm3 hpl (by assumption) (by assumption) (by assumption) (by assumption)) (by omega) (by omega) (by omega) (by omega) (by omega) (.inl rfl) (fun h => absurd h.symm bs_sp) rfl rfl rfl rfl))
              | (refine w2_next (by k_asm) (by k_asm) (Nat.lt_succ_self k) (rtj_mk ho (e_wd_qu hpl (by assumption) (by assumption) (by assumption)) (by omega) (by omega) (by omega) (by omega) (by omega) (qu_ok hc1 (by assumption)) (fun h => absurd h (qu_nbs (by assumption))) rfl rfl rfl rfl))
              | (refine w2_next (by k_asm) (News_tl (by k_asm)) (Nat.lt_succ_self k) (rtj_mk ho (e_wd_qu hpl (by assumption) (by assumption) (by assumption)) (by omega) (by omega) (by omega) (by omega) (by omega) (qu_ok hc1 (by assumption)) (fun h => absurd h (qu_nbs (by assumption))) rfl rfl rfl rfl))
              | (refine w2_cont (by k_asm) (by k_asm) (Nat.lt_succ_self k) (rtj_mk ho (e_wd_qu hpl (by assumption) (by assumption) (by assumption)) (by omega) (by omega) (by omega) (by omega) (by omega) (qu_ok hc1 (by assumption)) (fun h => absurd h (qu_nbs (by assumption))) rfl rfl rfl rfl))
              | (refine w2_cont (by k_asm) (News_tl (by k_asm)) (Nat.lt_succ_self k) (rtj_mk ho (e_wd_qu hpl (by assumption) (by assumption) (by assumption)) (by omega) (by omega) (by omega) (by omega) (by omega) (qu_ok hc1 (by assumption)) (fun h => absurd h (qu_nbs (by assumption))) rfl rfl rfl rfl))
              | (refine w2_next (by k_asm) (by k_asm) (Nat.lt_succ_self k) (rtj_mk ho (e_wd_bs hpl (by assumption) (by assumption) (by assumption) (by assumption)) (by omega) (by omega) (by omega) (by omega) (by omega) (.inr (.inr (.inl (bs_of hc1 (by assumption))))) (fun _ => .inl rfl) rfl rfl rfl rfl))
              | (refine w2_next (by k_asm) (News_tl (by k_asm)) (Nat.lt_succ_self k) (rtj_mk ho (e_wd_bs hpl (by assumption) (by assumption) (by assumption) (by assumption)) (by omega) (by omega) (by omega) (by omega) (by omega) (.inr (.inr (.inl (bs_of hc1 (by assumption))))) (fun _ => .inl rfl) rfl rfl rfl rfl))
              | (refine w2_cont (by k_asm) (by k_asm) (Nat.lt_succ_self k) (rtj_mk ho (e_wd_bs hpl (by assumption) (by assumption) (by assumption) (by assumption)) (by omega) (by omega) (by omega) (by omega) (by omega) (.inr (.inr (.inl (bs_of hc1 (by assumption))))) (fun _ => .inl rfl) rfl rfl rfl rfl))
              | (refine w2_cont (by k_asm) (News_tl (by k_asm)) (Nat.lt_succ_self k) (rtj_mk ho (e_wd_bs hpl (by assumption) (by assumption) (by assumption) (by assumption)) (by omega) (by omega) (by omega) (by omega) (by omega) (.inr (.inr (.inl (bs_of hc1 (by assumption))))) (fun _ => .inl rfl) rfl rfl rfl rfl))
              | (refine w2_next (by k_asm) (by k_asm) (Nat.lt_succ_self k) (rtj_mk ho (e_wd_ap hpl (by assumption) (by assumption) (by assumption) (by assumption)) (by omega) (by omega) (by omega) (by omega) (by omega) (.inr (.inl rfl)) (fun h => absurd h wd_bs) rfl rfl rfl rfl))
              | (refine w2_next (by k_asm) (News_tl (by k_asm)) (Nat.lt_succ_self k) (rtj_mk ho (e_wd_ap hpl (by assumption) (by assumption) (by assumption) (by assumption)) (by omega) (by omega) (by omega) (by omega) (by omega) (.inr (.inl rfl)) (fun h => absurd h wd_bs) rfl rfl rfl rfl))
              | (refine w2_cont (by k_asm) (by k_asm) (Nat.lt_succ_self k) (rtj_mk ho (e_wd_ap hpl (by assumption) (by assumption) (by assumption) (by assumption)) (by omega) (by omega) (by omega) (by omega) (by omega) (.inr (.inl rfl)) (fun h => absurd h wd_bs) rfl rfl rfl rfl))
              | (refine w2_cont (by k_asm) (News_tl (by k_asm)) (Nat.lt_succ_self k) (rtj_mk ho (e_wd_ap hpl (by assumption) (by assumption) (by assumption) (by assumption)) (by omega) (by omega) (by omega) (by omega) (by omega) (.inr (.inl rfl)) (fun h => absurd h wd_bs) rfl rfl rfl rfl)))
          · have hbsE : es = bsS → es = wdS ∨ (es.length = 1 ∧ nin quS es = false) := fun _ => hes rfl
            have hokE : okSt es := by rcases hes rfl with h | ⟨h, h2⟩; exact .inr (.inl h); exact qu_ok h h2
            walk1
            k_steps
            all_goals (try dsimp only)
            all_goals (have hnl := nlEnd_ge (b := b) (p := p + 1) (by omega))
            all_goals (first
              | (refine w2_next (by k_asm) (by k_asm) (Nat.lt_succ_self k) (rtj_mk ho (e_bs_1 hpl (by assumption) (by assumption) (by assumption)) (by omega) (by omega) (by omega) (by omega) (by omega) hokE hbsE rfl rfl rfl rfl))
              | (refine w2_cont (by k_asm) (by k_asm) (Nat.lt_succ_self k) (rtj_mk ho (e_bs_1 hpl (by assumption) (by assumption) (by assumption)) (by omega) (by omega) (by omega) (by omega) (by omega) hokE hbsE rfl rfl rfl rfl))
              | (refine w2_next (by k_asm) (by k_asm) (Nat.lt_succ_self k) (rtj_mk ho (e_bs_2 hpl (by assumption)) (by omega) (by omega) (by omega) (by omega) (by omega) hokE hbsE rfl rfl rfl rfl))
              | (refine w2_cont (by k_asm) (by k_asm) (Nat.lt_succ_self k) (rtj_mk ho (e_bs_2 hpl (by assumption)) (by omega) (by omega) (by omega) (by omega) (by omega) hokE hbsE rfl rfl rfl rfl))
              | (refine w2_next (by k_asm) (by k_asm) (Nat.lt_succ_self k) (rtj_mk ho (e_bs_3 hpl (by assumption)) (by omega) (by omega) (by omega) (by omega) (by omega) hokE hbsE rfl rfl rfl rfl))
              | (refine w2_cont (by k_asm) (by k_asm) (Nat.lt_succ_self k) (rtj_mk ho (e_bs_3 hpl (by assumption)) (by omega) (by omega) (by omega) (by omega) (by omega) hokE hbsE rfl rfl rfl rfl))
              | (refine w2_next (by k_asm) (by k_asm) (Nat.lt_succ_self k) (rtj_mk ho (e_bs_4 hpl (by assumption)) (by omega) (by omega) (by omega) (by omega) (by omega) hokE hbsE rfl rfl rfl rfl))
              | (refine w2_cont (by k_asm) (by k_asm) (Nat.lt_succ_self k) (rtj_mk ho (e_bs_4 hpl (by assumption)) (by omega) (by omega) (by omega) (by omega) (by omega) hokE hbsE rfl rfl rfl rfl)))
          · walk1
            k_steps
            all_goals (try dsimp only)
            all_goals (have hnl := nlEnd_ge (b := b) (p := p + 1) (by omega))
            all_goals (first
              | (refine w2_next (by k_asm) (by k_asm) (Nat.lt_succ_self k) (rtj_mk ho (e_qt_eq hpl hq3 hq2 (by assumption)) (by omega) (by omega) (by omega) (by omega) (by omega) (.inr (.inl rfl)) (fun h => absurd h wd_bs) rfl rfl rfl rfl))
              | (refine w2_cont (by k_asm) (by k_asm) (Nat.lt_succ_self k) (rtj_mk ho (e_qt_eq hpl hq3 hq2 (by assumption)) (by omega) (by omega) (by omega) (by omega) (by omega) (.inr (.inl rfl)) (fun h => absurd h wd_bs) rfl rfl rfl rfl))
              | (refine w2_next (by k_asm) (by k_asm) (Nat.lt_succ_self k) (rtj_mk ho (e_qt_bs hpl hq3 hq2 (by assumption) (by assumption) (by assumption)) (by omega) (by omega) (by omega) (by omega) (by omega) (.inr (.inr (.inl (bs_of hc1 (by assumption))))) (fun _ => .inr ⟨hq1, hq2⟩) rfl rfl rfl rfl))
              | (refine w2_cont (by k_asm) (by k_asm) (Nat.lt_succ_self k) (rtj_mk ho (e_qt_bs hpl hq3 hq2 (by assumption) (by assumption) (by assumption)) (by omega) (by omega) (by omega) (by omega) (by omega) (.inr (.inr (.inl (bs_of hc1 (by assumption))))) (fun _ => .inr ⟨hq1, hq2⟩) rfl rfl rfl rfl))
              | (refine w2_next (by k_asm) (by k_asm) (Nat.lt_succ_self k) (rtj_mk ho (e_qt_a1 hpl hq3 hq2 (by assumption) (by assumption)) (by omega) (by omega) (by omega) (by omega) (by omega) (.inr (.inr (.inr ⟨hq1, hq2, hq3, hq4⟩))) (fun h => absurd h (qu_nbs hq2)) rfl rfl rfl rfl))
              | (refine w2_cont (by k_asm) (by k_asm) (Nat.lt_succ_self k) (rtj_mk ho (e_qt_a1 hpl hq3 hq2 (by assumption) (by assumption)) (by omega) (by omega) (by omega) (by omega) (by omega) (.inr (.inr (.inr ⟨hq1, hq2, hq3, hq4⟩))) (fun h => absurd h (qu_nbs hq2)) rfl rfl rfl rfl))
              | (refine w2_next (by k_asm) (by k_asm) (Nat.lt_succ_self k) (rtj_mk ho (e_qt_a2 hpl hq3 hq2 (by assumption) (by assumption)) (by omega) (by omega) (by omega) (by omega) (by omega) (.inr (.inr (.inr ⟨hq1, hq2, hq3, hq4⟩))) (fun h => absurd h (qu_nbs hq2)) rfl rfl rfl rfl))
              | (refine w2_cont (by k_asm) (by k_asm) (Nat.lt_succ_self k) (rtj_mk ho (e_qt_a2 hpl hq3 hq2 (by assumption) (by assumption)) (by omega) (by omega) (by omega) (by omega) (by omega) (.inr (.inr (.inr ⟨hq1, hq2, hq3, hq4⟩))) (fun h => absurd h (qu_nbs hq2)) rfl rfl rfl rfl)))
      · have hpe : p = b.length := by omega
        k_steps
        walk1
        k_steps
        rcases st with _ | st
        · obtain ⟨_, hq0⟩ := hnone rfl
          have hsv : sv = .none := hsv
          subst hsv
          · walk1
            k_steps
            all_goals (try dsimp only)
            all_goals (refine w2_brk (rtq_end ho (e_eo_no hpl hq0) (by k_asm) (by first | k_asm | exact News_tl (by k_asm)) (by omega) (by first | omega | (rw [show (Str.ofString "").length = 0 by decide +kernel]; exact Nat.zero_le _)) (by omega) (by omega) rfl rfl))
        · obtain ⟨ts, rfl⟩ := hsv
          have hok := hok st rfl
          clear hnone
          unfold okSt at hok
          rcases hok with rfl | rfl | rfl | ⟨hq1, hq2, hq3, hq4⟩
          · walk1
            k_steps
            all_goals (try dsimp only)
            all_goals (refine w2_brk (rtq_end ho (e_eo_sp hpl) (by k_asm) (by first | k_asm | exact News_tl (by k_asm)) (by omega) (by first | omega | (rw [show (Str.ofString "").length = 0 by decide +kernel]; exact Nat.zero_le _)) (by omega) (by omega) rfl rfl))
          · walk1
            k_steps
            all_goals (try dsimp only)
            all_goals (refine w2_brk (rtq_end ho (e_eo_wd hpl) (by k_asm) (by first | k_asm | exact News_tl (by k_asm)) (by omega) (by first | omega | (rw [show (Str.ofString "").length = 0 by decide +kernel]; exact Nat.zero_le _)) (by omega) (by omega) rfl rfl))
          · walk1
            k_steps
            all_goals (try dsimp only)
            all_goals (exact hexc _ _ _ _ _ _ _ ⟨rfl, _, _, rfl, rt_stop ho (e_eo_bs hpl)⟩ (by assumption) FG1 NG1 (by assumption))
          · walk1
            k_steps
            all_goals (try dsimp only)
            all_goals (exact hexc _ _ _ _ _ _ _ ⟨rfl, _, _, rfl, rt_stop ho (e_eo_qt hpl hq2)⟩ (by assumption) FG1 NG1 (by assumption))
  case after => 
    rintro f s' ⟨rfl, h', k', m', p', st', qd', wd', sv', ln', tl', tt', tp', rfl, F, N, ho', hp', htk, hl0, hl1, hst', hsv', e1, e2⟩
    simp only [shL, shE, sioE, kvE] at N
    have F := Fr.put (x := Str.ofString "quoted") (Fr.put (x := Str.ofString "self") F (by exact e1)) (by exact e2)
    (try k_sweep)
    k_steps
    all_goals (try dsimp only)
    all_goals (refine leaveR_ (by k_asm) (by k_asm) ?_; intro kF kN kD)
    all_goals first
      | (subst qd'; exact hret _ _ _ _ ⟨_, p', st', sv', ln', tl', _, tp', ho', fin_t, hp', hl0, hl1, hst', hsv', rfl⟩ kF kN kD)
      | (subst qd'; exact hret _ _ _ _ ⟨_, p', st', sv', ln', tl', _, tp', ho', fin_f (by assumption), hp', hl0, hl1, hst', hsv', rfl⟩ kF kN kD)
      | (subst qd'; exact hret _ _ _ _ ⟨_, p', st', sv', ln', tl', _, tp', ho', fin_n (by assumption), hp', hl0, hl1, hst', hsv', rfl⟩ kF kN kD)
end

/-! ## Ue -/
section
noncomputable def ExcTo (P : Prop) : Prop := P
section
variable {w : World} {f : Addr} {d u : Nat} {vs : List Value} {led : Led} {post : Value → Led → Prop} {ep : String → List Value → Prop} {mean : ExcName → Option Value} {mg mb : Str → Option Value} {dp un : Nat} {gd : Option (List Code)} {cn : Str} {cs : Scope} {a : Addr} {ccd : Value} {cl : List (Str × Addr)} {outer : List Env} {A₀ : Around} {base h₀ : Heap} {L : Addr} {m : Str → Option Value} {s : Shared} {rest : Led} {Q E : Value → Shared → Prop}
theorem DoesE.useN (C : DoesE w f d u vs led post ep) (B : Below A₀ base outer h₀) (F : Fr h₀ L s.heap m) (X : (hd.heap_1 w.params).In h₀) (N : News h₀ L s.heap (led ++ rest)) (ap : AllNe2 led rest) (T : Top qv (looseW qv looseV) mean mg mb h₀) (hk : cs.kind = .function) (hd : dp + d < recursionLimit) (hu : un + u < cLine)
    (ret : ∀ v led' h' tk', post v led' → Fr h₀ L h' m → News h₀ L h' (led' ++ rest) → Q v { s with heap := h', toks := tk' })
    (exc : ExcTo (∀ e t X xs G h' tk', ep X xs → RaisedS base G (envX cn cs L a ccd cl :: outer) e (.type X) t xs [] h' → Fr h₀ L G m → News h₀ L G rest → G.UpToSlots h' → E (.ref e) { s with heap := h', toks := tk' })) :
    wpAny (model (OpenLaw.prog PySem.Challenge.rw_pd0002_01) w) (ktrTop dp un gd cn cs L a ccd cl outer) (call (.ref f) vs) Q E s :=
  C _ _ _ _ _ _ _ _ _ _ _ _ _ _ _ _ _ _ _ _ _ B F X N (ap_of ap) T hk hd hu (fun v led' h' tk' hp F' N' _ => ret v led' h' tk' hp F' N') exc
end
end

/-! ## Ga -/
section
noncomputable def OnceQ (Q : Flow → Shared → Prop) (f : Flow) (s : Shared) : Prop := match f with
  | .ret v => Q (.ret v) s
  | .brk => Q .next s
  | _ => False
theorem While_once {prog : Program} {w : World} {A : Around} {E : Value → Shared → Prop} {Q : Flow → Shared → Prop} {s : Shared} {env : Env} {test : Expr} {body : List Stmt} {pos : Pos}
    (h : wpAny (model prog w) A (isTrue test env (eval test env)) (fun b s₂ => if b = true then wpAny (model prog w) A (execs body env) (OnceQ Q) E s₂ else Q .next s₂) E s)
    (hE : PassesOwn (model prog w) A env E := by passes_own) :
    wpAny (model prog w) A (exec (.While test body [] pos) env) Q E s := by
  refine wpAny_While (codeAny_whileLoop (fun n s' => n = 0 ∧ s' = s) ?_ 0 ⟨rfl, rfl⟩)
  rintro n s' ⟨rfl, rfl⟩
  refine wpAny_mono h (fun b s₂ h₂ => ?_) hE
  cases b with
  | false =>
    simp only [Bool.false_eq_true, if_false] at h₂ ⊢
    exact wpAny_execs_nil h₂
  | true =>
    simp only [if_true] at h₂ ⊢
    refine wpAny_mono h₂ (fun f s₃ h₃ => ?_) hE
    cases f with
    | next => exact h₃.elim
    | cont => exact h₃.elim
    | brk => exact h₃
    | ret v => exact h₃
end

/-! ## G1 -/
section
theorem offG1 : True := by
  (w_top off)
  k_with_none
  k_with "steps" => (repeat' (first | (k_unfold; (try dsimp only)) | ((fail_if_success with_reducible show LeaveR _ _ _ _ _ _ _ _); (fail_if_success with_reducible show TurnPost _ _ _ _ _ _ _ _ _); (fail_if_success with_reducible show wpAny _ _ (pyIter _) _ _ _); (fail_if_success with_reducible show wpAny _ _ (exec (Stmt.While _ _ _ _) _) _ _ _); walk1) | ((fail_if_success with_reducible show LeaveR _ _ _ _ _ _ _ _); (fail_if_success with_reducible show TurnPost _ _ _ _ _ _ _ _ _); (fail_if_success with_reducible show wpAny _ _ (pyIter _) _ _ _); (fail_if_success with_reducible show wpAny _ _ (exec (Stmt.While _ _ _ _) _) _ _ _); dsimp only; walk1) | fail "no step"))
  k_with "call builtin:issubclass" => ((k_here; (with_reducible show wpAny _ _ (call (Value.builtin "issubclass") [Value.type "str", Value.ref _]) _ _ _); refine issub_call (News.get (by k_asm) (by k_mem)) ?_))
  k_with "call ref" => (((with_reducible show wpAny _ _ (call (Value.ref 807) _) _ _ _); k_dflt ((refine' DoesP.use (c_fspath _ _ _) ?k1 ?k2 ?k3 ?k4 ?k5 ?kK ?kd ?ku ?_; (case k1 => k_asm); (case k2 => k_asm); (case k3 => k_asm); (case k4 => k_asm); (case k5 => k_asm); (case kK => first | exact rfl | assumption); (case kd => ktr_room); (case ku => ktr_units); k_whole; intro _ _ _ P9 _ _; (first | subst P9 | (obtain ⟨_, P9⟩ := P9; subst P9)); (try dsimp only); (try k_fold)))))
  k_with "call ref" => (((with_reducible show wpAny _ _ (call (Value.ref 821) _) _ _ _); k_dflt ((refine' DoesP.use (c_get_sep _ _ _) ?k1 ?k2 ?k3 ?k4 ?k5 ?kK ?kd ?ku ?_; (case k1 => k_asm); (case k2 => k_asm); (case k3 => k_asm); (case k4 => k_asm); (case k5 => k_asm); (case kK => first | exact rfl | assumption); (case kd => ktr_room); (case ku => ktr_units); k_whole; intro _ _ _ P9 _ _; (first | subst P9 | (obtain ⟨_, P9⟩ := P9; subst P9)); (try dsimp only); (try k_fold)))))
  k_with "call builtin:str.find" => (((with_reducible show wpAny _ _ (call (Value.builtin "str.find") [Value.str _ _, Value.str _ _, Value.int _ _, Value.int (((Str.length _ : Nat)) : Int) _]) _ _ _); refine find4 ?_))
  k_with "call builtin:str.split" => (((with_reducible show wpAny _ _ (call (Value.builtin "str.split") [Value.str _ _, Value.str _ _]) _ _ _); refine' KSpl.split1 ?k1 ?k2 ?k3 ?_ ?k4; (case k1 => k_asm); (case k2 => k_asm); (case k3 => decide); (case k4 => (rw [sizeLine_eq]; omega)); intro _ _ _ _ _ _ _ _ yl1; (try k_lt yl1); revert yl1; intro _))
  k_with "truthy ref" => ((with_unfolding_all (refine' truthyL ?k1 ?k2 ?k3 ?_; (case k1 => k_asm); (case k2 => k_mem); (case k3 => omega))))
  k_with "call builtin:list.pop" => ((refine' popL ?k1 ?k2 ?k3 ?k4 ?k5 ?_; (case k1 => k_asm); (case k2 => k_asm); (case k3 => k_upd); (case k4 => assumption); (case k5 => omega); intro _ _ _ _; (try k_sweep)))
  k_with "call builtin:list.append" => ((refine' appendL ?k1 ?k2 ?k3 ?k4 ?_; (case k1 => k_asm); (case k2 => k_asm); (case k3 => k_upd); (case k4 => omega); intro _ _ _; (try k_sweep)))
  k_with "subscriptTail Name UnaryOp ref int" => (((with_reducible show wpAny _ _ (subscriptTail _ _ (Value.ref _) (Value.int _ _)) _ _ _); (with_unfolding_all refine' lastL ?k1 ?k2 ?k3 ?k4 ?k5 ?_; (case k1 => k_asm); (case k2 => k_mem); (case k3 => assumption); (case k4 => assumption); (case k5 => omega)); intro _))
  k_with "call builtin:str.join" => (((with_reducible show wpAny _ _ (call (Value.builtin "str.join") [Value.str _ _, Value.ref _]) _ _ _); refine' joinL ?k1 ?k2 ?k3 ?k4 ?k5 ?_; (case k1 => k_asm); (case k2 => k_mem); (case k3 => assumption); (case k4 => decide); (case k5 => (rw [wgt_sum]; omega)); intro _ _))
  k_with "call type:collections.deque" => ((refine' call_dqN ?k1 ?k2 ?_; (case k1 => k_asm); (case k2 => k_asm); intro _ _ _ _ yl1; (try k_lt yl1); revert yl1; intro _; (try k_sweep)))
  k_with "truthy ref" => ((with_unfolding_all (refine' truthy_dqN (a := _) ?k1 ?k2 ?_; (case k1 => k_asm); (case k2 => k_mem)); intro _))
  k_with "units" => (((have hcL9 := cLine_is); (try simp only [units_kw, units_in1, units_deeper, Around.mark_units, units_caller] at *); (try dsimp only [ktrTop] at *); omega))
  k_with "call ref" => (((with_reducible show wpAny _ _ (call (Value.ref 587) _) _ _ _); k_dflt (refine' Does.use0 (c_sio _ _ _) ?k1 ?k2 ?k3 ?k4 ?k5 ?kK ?kd ?ku ?_; (case k1 => k_asm); (case k2 => k_asm); (case k3 => k_asm); (case k4 => k_asm); (case k5 => k_asm); (case kK => first | exact rfl | assumption); (case kd => ktr_room); (case ku => ktr_units); rintro _ _ _ _ ⟨_, _, _, _, _, _, _, e91, e92, _⟩ _ N9 D9; subst e91; subst e92; (simp only [AllNe2, AllNe, and_true, sioL, sioE, kvE, List.cons_append, List.nil_append] at D9 N9); revert D9 N9; intro _ _; (try dsimp only); (try k_fold))))
  k_with "truthy str" => ((with_unfolding_all (refine SBL.truthy (by omega) ?_)))
  k_with "inplaceOp Add str str" => ((with_unfolding_all (refine SBL.iadd (hsz := ?hsz) ?_; (case hsz => (rw [sizeLine_eq]; omega))); intro _ _ _))
  k_with "steps" => (repeat' (first | (k_unfold; (try dsimp only)) | ((fail_if_success with_reducible show LeaveR _ _ _ _ _ _ _ _); (fail_if_success with_reducible show WhileStep2 _ _ _ _ _ _ _ _); (fail_if_success with_reducible show wpAny _ _ (exec (Stmt.While _ _ _ _) _) _ _ _); (fail_if_success with_reducible show wpAny _ _ (exec (Stmt.If (Expr.Compare (Expr.Name (Str.ofString "nextchar") _) [CmpOp.Eq] [Expr.Constant _ _ _] _) _ _ _) _) _ _ _); (fail_if_success with_reducible show wpAny _ _ (exec (Stmt.If (Expr.Compare (Expr.Attribute _ (Str.ofString "state") _) [CmpOp.Is] _ _) _ _ _) _) _ _ _); walk1) | ((fail_if_success with_reducible show LeaveR _ _ _ _ _ _ _ _); (fail_if_success with_reducible show WhileStep2 _ _ _ _ _ _ _ _); dsimp only; (fail_if_success with_reducible show WhileStep2 _ _ _ _ _ _ _ _); walk1) | fail "no step"))
  k_with "leaving ref" => ((k_dflt (refine' leave_raiseS ?k1 ?k0 ?k2 News.nil ?_; (case k0 => first | assumption | exact Heap.MadeExc.of (by assumption)); (case k2 => assumption); (case k1 => assumption)); intro _ _ _ _ _))
  k_with "ite" => (first | with_reducible refine ite_tt ?_ | with_reducible refine ite_ff ?_ | with_reducible refine split_not ?_ | refine ite_pos (by with_reducible assumption) ?_ | refine ite_neg (by with_reducible assumption) ?_ | refine ite_isFalse (by with_reducible assumption) ?_ | (with_unfolding_all (k_closed; k_dflt (first | refine ite_pos (by decide) ?_ | refine ite_neg (by decide) ?_ | refine ite_pos (by decide +kernel) ?_ | refine ite_neg (by decide +kernel) ?_))))
  k_with "eval Name" => (((with_reducible show wpAny _ _ (eval (Expr.Name _ _) (envOf _ _ _ _ _)) _ _ _); (with_reducible refine ld (by assumption) (by with_unfolding_all rfl) ?_ (by kernel_rfl!) (by kernel_rfl!) (by decide +kernel))))
  k_with "getAttr ref" => ((with_unfolding_all (k_dflt (refine' get_own ?k1 ?k2 ?k3 ?k4 ?k5 ?k6 ?k7 ?k8 ?k9 ?_; (case k1 => k_asm); (case k2 => k_asm); (case k3 => k_inst); (case k4 => k_is); (case k5 => k_is); (case k6 => k_is); (case k7 => k_is); (case k8 => k_get); (case k9 => k_handed); k_whole))))
  k_with "call ref" => (((with_reducible show wpAny _ _ (call (Value.ref 533) _) _ _ _); k_dflt (first | (refine' Does.useN (c_rdI _ _ _ _ _ _ _ _ _ _ _ ?z1 ?z2 ?z3) ?k1 ?k2 ?k3 ?k4 ?ka ?k5 ?kK ?kd ?ku ?_; (case k1 => k_asm); (case k2 => k_asm); (case k3 => k_asm); (case k4 => k_asm); (case z1 => omega); (case z2 => omega); (case z3 => omega); (case ka => (simp only [AllNe2, AllNe, and_true]; omega)); (case k5 => k_asm); (case kK => first | exact rfl | assumption); (case kd => ktr_room); (case ku => ktr_units); intro _ _ _ _ e9 _ N9; obtain ⟨_, _, e91, e92⟩ := e9; subst e91; subst e92; (simp only [sioL, sioE, kvE, List.cons_append, List.nil_append] at N9); revert N9; intro _; (try dsimp only); (try k_fold)) | (refine' Does.useN (c_rdO _ _ _ _ _ _ _ _ _ _ _ ?z1 ?z2 ?z3) ?k1 ?k2 ?k3 ?k4 ?ka ?k5 ?kK ?kd ?ku ?_; (case k1 => k_asm); (case k2 => k_asm); (case k3 => k_asm); (case k4 => k_asm); (case z1 => omega); (case z2 => omega); (case z3 => omega); (case ka => (simp only [AllNe2, AllNe, and_true]; omega)); (case k5 => k_asm); (case kK => first | exact rfl | assumption); (case kd => ktr_room); (case ku => ktr_units); intro _ _ _ _ e9 _ N9; obtain ⟨_, _, e91, e92⟩ := e9; subst e91; subst e92; (simp only [sioL, sioE, kvE, List.cons_append, List.nil_append] at N9); revert N9; intro _; (try dsimp only); (try k_fold)))))
  k_with "call ref" => (((with_reducible show wpAny _ _ (call (Value.ref 541) _) _ _ _); k_dflt (refine' Does.useN (c_rdl _ _ _ _ _ _ _ _ _ _ ?z1 ?z2 ?z3) ?k1 ?k2 ?k3 ?k4 ?ka ?k5 ?kK ?kd ?ku ?_; (case k1 => k_asm); (case k2 => k_asm); (case k3 => k_asm); (case k4 => first | k_asm | exact News_tl (by k_asm)); (case z1 => omega); (case z2 => omega); (case z3 => omega); (case ka => (simp only [AllNe2, AllNe, and_true]; omega)); (case k5 => k_asm); (case kK => first | exact rfl | assumption); (case kd => ktr_room); (case ku => ktr_units); intro _ _ _ _ e9 _ N9; obtain ⟨_, _, _, e91, e92⟩ := e9; subst e91; subst e92; (simp only [sioL, sioE, kvE, List.cons_append, List.nil_append] at N9); revert N9; intro _; (try dsimp only); (try k_fold))))
  k_with "call ref" => (((with_reducible show wpAny _ _ (call (Value.ref 690) _) _ _ _); k_dflt (refine' DoesE.useN (c_rt _ _ _ _ _ _ _ _ _ _ _ _ _ _ _ _ _ _ _ _ _ ?z1 ?z2 ?z3 ?z4 ?z5 ?z6 ?z7 ?z8 ?z9 ?za _ ?zb) ?k1 ?k2 ?k3 ?k4 ?ka ?k5 ?kK ?kd ?ku ?_ ?_; (case k1 => k_asm); (case k2 => k_asm); (case k3 => k_asm); (case k4 => k_asm); (case z1 => omega); (case z2 => omega); (case z3 => omega); (case z4 => omega); (case z5 => omega); (case z6 => omega); (case z7 => omega); (case z8 => assumption); (case z9 => assumption); (case za => assumption); (case zb => assumption); (case ka => first | (simp only [AllNe2, AllNe, and_true]; done) | (simp only [AllNe2, AllNe, and_true]; omega)); (case k5 => k_asm); (case kK => first | exact rfl | assumption); (case kd => ktr_room); (case ku => ktr_units); focus (intro _ _ _ _ e9 _ N9; obtain ⟨_, _, _, _, _, _, _, _, _, _, _, _, _, _, _, e92⟩ := e9; subst e92; (simp only [shL, shE, sioE, kvE, List.append_nil] at N9); revert N9; intro _; (try dsimp only); (try k_fold)))))
  trivial

set_option maxHeartbeats 16000000 in
theorem c_gt (w : World) (x d sa sd pb fs : Nat) (T : Nat → Tok) (k1 k2 k3 tb tp : Tok) (b : Str) (p : Nat) (cm : Str) (sv : Value) (st : Option Str) (ln : Int) (tl tt : Tok) (hx : d < x) (ha : ((@Ne Nat sa x ∧ @Ne Nat sa d) ∧ @Ne Nat sd x ∧ @Ne Nat sd d) ∧ x < pb) (hb : sd < sa) (hc : sa < pb) (hf : pb < fs) (hbl : b.length ≤ 100000) (hp : p ≤ b.length) (hln : 0 ≤ ln ∧ ln ≤ 2 * p + 1)
   (hst : st = some spS ∨ (st = none ∧ p = b.length)) (hsv : StV st sv) (o : Out) (ho : rtN cm b (b.length + 1 - p) ⟨p, st, false, spS, Str.ofString ""⟩ = o) :
   DoesE w 683 8 120 [.ref x] (shL w x d sa sd pb fs T k1 k2 k3 tb tp b p cm sv ln tl (Str.ofString "") tt)
     (fun v led => ∃ (r : Option Str) (p' : Nat) (st' : Option Str) (sv' : Value) (ln' : Int) (tl' tt' tp' : Tok), o = .ret r p' st' ∧ StV r v ∧ p' ≤ b.length ∧ 0 ≤ ln' ∧ ln' ≤ 2 * p' + 1 ∧ (st' = some spS ∨ (st' = none ∧ p' = b.length)) ∧ StV st' sv' ∧ led = shL w x d sa sd pb fs T k1 k2 k3 tb tp' b p' cm sv' ln' tl' (Str.ofString "") tt')
     (fun X xs => X = "ValueError" ∧ ∃ m t, xs = [.str m t] ∧ o = .err m) := by
  unfold DoesE
  k_fill
  intro mean mg mb dp un gd cn cs a0 ccd cl outer A₀ base h₀ L m s rest Q E hB hF hK hN hap hT hcs hd hu hret hexc
  have hlp : ∀ y : Nat, y = y := fun _ => rfl
  simp only [shL, shE, sioE, kvE] at *
  obtain ⟨⟨⟨ha1, ha2⟩, ha3, ha4⟩, ha5⟩ := ha
  refine wpAny_call ?_
  refine' enterE (binds := [(Str.ofString "self", .ref x)]) hB hF hK hN hap hT rfl rfl hcs ?k6 ?k7 ?k8 ?k9 ?kB ?_ ?c2 ?c3 ?c4 ?c5
  case k6 => k_is
  case k7 => k_is
  case k8 => ktr_room
  case k9 => first | exact BindsTo.of_eq rfl | exact binds_K (by k_in) rfl (by k_is) rfl rfl rfl
  case kB => exact locs rfl
  case c2 => exact rfl
  case c3 => exact rfl
  case c4 => exact rfl
  case c5 => decide
  intro g1 L1 h1 FG1 NG1 F1 N1 B1 X1 T1 l1 st1
  (try dsimp only)
  (try k_fold)
  k_steps
  · rename_i tk8 k8 v9 h9 tk9 r9 p9 st9 sv9 ln9 tl9 tt9 tp9 o9 sr9 hp9 hl9 hl8 hs9 hv9 h8 F8 N8 tk7
    refine While_once ?_
    rcases r9 with _ | r9
    · have hv : v9 = .none := sr9
      subst hv
      k_steps
      dsimp only [OnceQ]
      refine leaveR_ (by k_asm) (by k_asm) ?_
      intro kF kN kD
      exact hret _ _ _ _ ⟨none, p9, st9, sv9, ln9, _, _, _, o9, rfl, hp9, hl9, hl8, hs9, hv9, rfl⟩ kF kN kD
    · obtain ⟨tr, rfl⟩ := sr9
      k_steps
      dsimp only
      refine leaveR_ (by k_asm) (by k_asm) ?_
      intro kF kN kD
      exact hret _ _ _ _ ⟨some r9, p9, st9, sv9, ln9, _, _, _, o9, ⟨_, rfl⟩, hp9, hl9, hl8, hs9, hv9, rfl⟩ kF kN kD
  · intro e t X xs G h' tk' hep R FG NG U
    refine leave_onS B1 FG R U fun h2 R2 _ U2 => ?_
    exact hexc _ _ _ _ _ _ _ hep R2 FG1 NG1 U2
end

/-! ## N1 -/
section
theorem offN1 : True := by
  (w_top off)
  k_with_none
  k_with "steps" => (repeat' (first | (k_unfold; (try dsimp only)) | ((fail_if_success with_reducible show LeaveR _ _ _ _ _ _ _ _); (fail_if_success with_reducible show TurnPost _ _ _ _ _ _ _ _ _); (fail_if_success with_reducible show wpAny _ _ (pyIter _) _ _ _); (fail_if_success with_reducible show wpAny _ _ (exec (Stmt.While _ _ _ _) _) _ _ _); walk1) | ((fail_if_success with_reducible show LeaveR _ _ _ _ _ _ _ _); (fail_if_success with_reducible show TurnPost _ _ _ _ _ _ _ _ _); (fail_if_success with_reducible show wpAny _ _ (pyIter _) _ _ _); (fail_if_success with_reducible show wpAny _ _ (exec (Stmt.While _ _ _ _) _) _ _ _); dsimp only; walk1) | fail "no step"))
  k_with "call builtin:issubclass" => ((k_here; (with_reducible show wpAny _ _ (call (Value.builtin "issubclass") [Value.type "str", Value.ref _]) _ _ _); refine issub_call (News.get (by k_asm) (by k_mem)) ?_))
  k_with "call ref" => (((with_reducible show wpAny _ _ (call (Value.ref 807) _) _ _ _); k_dflt ((refine' DoesP.use (c_fspath _ _ _) ?k1 ?k2 ?k3 ?k4 ?k5 ?kK ?kd ?ku ?_; (case k1 => k_asm); (case k2 => k_asm); (case k3 => k_asm); (case k4 => k_asm); (case k5 => k_asm); (case kK => first | exact rfl | assumption); (case kd => ktr_room); (case ku => ktr_units); k_whole; intro _ _ _ P9 _ _; (first | subst P9 | (obtain ⟨_, P9⟩ := P9; subst P9)); (try dsimp only); (try k_fold)))))
  k_with "call ref" => (((with_reducible show wpAny _ _ (call (Value.ref 821) _) _ _ _); k_dflt ((refine' DoesP.use (c_get_sep _ _ _) ?k1 ?k2 ?k3 ?k4 ?k5 ?kK ?kd ?ku ?_; (case k1 => k_asm); (case k2 => k_asm); (case k3 => k_asm); (case k4 => k_asm); (case k5 => k_asm); (case kK => first | exact rfl | assumption); (case kd => ktr_room); (case ku => ktr_units); k_whole; intro _ _ _ P9 _ _; (first | subst P9 | (obtain ⟨_, P9⟩ := P9; subst P9)); (try dsimp only); (try k_fold)))))
  k_with "call builtin:str.find" => (((with_reducible show wpAny _ _ (call (Value.builtin "str.find") [Value.str _ _, Value.str _ _, Value.int _ _, Value.int (((Str.length _ : Nat)) : Int) _]) _ _ _); refine find4 ?_))
  k_with "call builtin:str.split" => (((with_reducible show wpAny _ _ (call (Value.builtin "str.split") [Value.str _ _, Value.str _ _]) _ _ _); refine' KSpl.split1 ?k1 ?k2 ?k3 ?_ ?k4; (case k1 => k_asm); (case k2 => k_asm); (case k3 => decide); (case k4 => (rw [sizeLine_eq]; omega)); intro _ _ _ _ _ _ _ _ yl1; (try k_lt yl1); revert yl1; intro _))
  k_with "truthy ref" => ((with_unfolding_all (refine' truthyL ?k1 ?k2 ?k3 ?_; (case k1 => k_asm); (case k2 => k_mem); (case k3 => omega))))
  k_with "call builtin:list.pop" => ((refine' popL ?k1 ?k2 ?k3 ?k4 ?k5 ?_; (case k1 => k_asm); (case k2 => k_asm); (case k3 => k_upd); (case k4 => assumption); (case k5 => omega); intro _ _ _ _; (try k_sweep)))
  k_with "call builtin:list.append" => ((refine' appendL ?k1 ?k2 ?k3 ?k4 ?_; (case k1 => k_asm); (case k2 => k_asm); (case k3 => k_upd); (case k4 => omega); intro _ _ _; (try k_sweep)))
  k_with "subscriptTail Name UnaryOp ref int" => (((with_reducible show wpAny _ _ (subscriptTail _ _ (Value.ref _) (Value.int _ _)) _ _ _); (with_unfolding_all refine' lastL ?k1 ?k2 ?k3 ?k4 ?k5 ?_; (case k1 => k_asm); (case k2 => k_mem); (case k3 => assumption); (case k4 => assumption); (case k5 => omega)); intro _))
  k_with "call builtin:str.join" => (((with_reducible show wpAny _ _ (call (Value.builtin "str.join") [Value.str _ _, Value.ref _]) _ _ _); refine' joinL ?k1 ?k2 ?k3 ?k4 ?k5 ?_; (case k1 => k_asm); (case k2 => k_mem); (case k3 => assumption); (case k4 => decide); (case k5 => (rw [wgt_sum]; omega)); intro _ _))
  k_with "call type:collections.deque" => ((refine' call_dqN ?k1 ?k2 ?_; (case k1 => k_asm); (case k2 => k_asm); intro _ _ _ _ yl1; (try k_lt yl1); revert yl1; intro _; (try k_sweep)))
  k_with "truthy ref" => ((with_unfolding_all (refine' truthy_dqN (a := _) ?k1 ?k2 ?_; (case k1 => k_asm); (case k2 => k_mem)); intro _))
  k_with "units" => (((have hcL9 := cLine_is); (try simp only [units_kw, units_in1, units_deeper, Around.mark_units, units_caller] at *); (try dsimp only [ktrTop] at *); omega))
  k_with "call ref" => (((with_reducible show wpAny _ _ (call (Value.ref 587) _) _ _ _); k_dflt (refine' Does.use0 (c_sio _ _ _) ?k1 ?k2 ?k3 ?k4 ?k5 ?kK ?kd ?ku ?_; (case k1 => k_asm); (case k2 => k_asm); (case k3 => k_asm); (case k4 => k_asm); (case k5 => k_asm); (case kK => first | exact rfl | assumption); (case kd => ktr_room); (case ku => ktr_units); rintro _ _ _ _ ⟨_, _, _, _, _, _, _, e91, e92, _⟩ _ N9 D9; subst e91; subst e92; (simp only [AllNe2, AllNe, and_true, sioL, sioE, kvE, List.cons_append, List.nil_append] at D9 N9); revert D9 N9; intro _ _; (try dsimp only); (try k_fold))))
  k_with "truthy str" => ((with_unfolding_all (refine SBL.truthy (by omega) ?_)))
  k_with "inplaceOp Add str str" => ((with_unfolding_all (refine SBL.iadd (hsz := ?hsz) ?_; (case hsz => (rw [sizeLine_eq]; omega))); intro _ _ _))
  k_with "steps" => (repeat' (first | (k_unfold; (try dsimp only)) | ((fail_if_success with_reducible show LeaveR _ _ _ _ _ _ _ _); (fail_if_success with_reducible show WhileStep2 _ _ _ _ _ _ _ _); (fail_if_success with_reducible show wpAny _ _ (exec (Stmt.While _ _ _ _) _) _ _ _); (fail_if_success with_reducible show wpAny _ _ (exec (Stmt.If (Expr.Compare (Expr.Name (Str.ofString "nextchar") _) [CmpOp.Eq] [Expr.Constant _ _ _] _) _ _ _) _) _ _ _); (fail_if_success with_reducible show wpAny _ _ (exec (Stmt.If (Expr.Compare (Expr.Attribute _ (Str.ofString "state") _) [CmpOp.Is] _ _) _ _ _) _) _ _ _); walk1) | ((fail_if_success with_reducible show LeaveR _ _ _ _ _ _ _ _); (fail_if_success with_reducible show WhileStep2 _ _ _ _ _ _ _ _); dsimp only; (fail_if_success with_reducible show WhileStep2 _ _ _ _ _ _ _ _); walk1) | fail "no step"))
  k_with "leaving ref" => ((k_dflt (refine' leave_raiseS ?k1 ?k0 ?k2 News.nil ?_; (case k0 => first | assumption | exact Heap.MadeExc.of (by assumption)); (case k2 => assumption); (case k1 => assumption)); intro _ _ _ _ _))
  k_with "ite" => (first | with_reducible refine ite_tt ?_ | with_reducible refine ite_ff ?_ | with_reducible refine split_not ?_ | refine ite_pos (by with_reducible assumption) ?_ | refine ite_neg (by with_reducible assumption) ?_ | refine ite_isFalse (by with_reducible assumption) ?_ | (with_unfolding_all (k_closed; k_dflt (first | refine ite_pos (by decide) ?_ | refine ite_neg (by decide) ?_ | refine ite_pos (by decide +kernel) ?_ | refine ite_neg (by decide +kernel) ?_))))
  k_with "eval Name" => (((with_reducible show wpAny _ _ (eval (Expr.Name _ _) (envOf _ _ _ _ _)) _ _ _); (with_reducible refine ld (by assumption) (by with_unfolding_all rfl) ?_ (by kernel_rfl!) (by kernel_rfl!) (by decide +kernel))))
  k_with "getAttr ref" => ((with_unfolding_all (k_dflt (refine' get_own ?k1 ?k2 ?k3 ?k4 ?k5 ?k6 ?k7 ?k8 ?k9 ?_; (case k1 => k_asm); (case k2 => k_asm); (case k3 => k_inst); (case k4 => k_is); (case k5 => k_is); (case k6 => k_is); (case k7 => k_is); (case k8 => k_get); (case k9 => k_handed); k_whole))))
  k_with "call ref" => (((with_reducible show wpAny _ _ (call (Value.ref 533) _) _ _ _); k_dflt (first | (refine' Does.useN (c_rdI _ _ _ _ _ _ _ _ _ _ _ ?z1 ?z2 ?z3) ?k1 ?k2 ?k3 ?k4 ?ka ?k5 ?kK ?kd ?ku ?_; (case k1 => k_asm); (case k2 => k_asm); (case k3 => k_asm); (case k4 => k_asm); (case z1 => omega); (case z2 => omega); (case z3 => omega); (case ka => (simp only [AllNe2, AllNe, and_true]; omega)); (case k5 => k_asm); (case kK => first | exact rfl | assumption); (case kd => ktr_room); (case ku => ktr_units); intro _ _ _ _ e9 _ N9; obtain ⟨_, _, e91, e92⟩ := e9; subst e91; subst e92; (simp only [sioL, sioE, kvE, List.cons_append, List.nil_append] at N9); revert N9; intro _; (try dsimp only); (try k_fold)) | (refine' Does.useN (c_rdO _ _ _ _ _ _ _ _ _ _ _ ?z1 ?z2 ?z3) ?k1 ?k2 ?k3 ?k4 ?ka ?k5 ?kK ?kd ?ku ?_; (case k1 => k_asm); (case k2 => k_asm); (case k3 => k_asm); (case k4 => k_asm); (case z1 => omega); (case z2 => omega); (case z3 => omega); (case ka => (simp only [AllNe2, AllNe, and_true]; omega)); (case k5 => k_asm); (case kK => first | exact rfl | assumption); (case kd => ktr_room); (case ku => ktr_units); intro _ _ _ _ e9 _ N9; obtain ⟨_, _, e91, e92⟩ := e9; subst e91; subst e92; (simp only [sioL, sioE, kvE, List.cons_append, List.nil_append] at N9); revert N9; intro _; (try dsimp only); (try k_fold)))))
  k_with "call ref" => (((with_reducible show wpAny _ _ (call (Value.ref 541) _) _ _ _); k_dflt (refine' Does.useN (c_rdl _ _ _ _ _ _ _ _ _ _ ?z1 ?z2 ?z3) ?k1 ?k2 ?k3 ?k4 ?ka ?k5 ?kK ?kd ?ku ?_; (case k1 => k_asm); (case k2 => k_asm); (case k3 => k_asm); (case k4 => first | k_asm | exact News_tl (by k_asm)); (case z1 => omega); (case z2 => omega); (case z3 => omega); (case ka => (simp only [AllNe2, AllNe, and_true]; omega)); (case k5 => k_asm); (case kK => first | exact rfl | assumption); (case kd => ktr_room); (case ku => ktr_units); intro _ _ _ _ e9 _ N9; obtain ⟨_, _, _, e91, e92⟩ := e9; subst e91; subst e92; (simp only [sioL, sioE, kvE, List.cons_append, List.nil_append] at N9); revert N9; intro _; (try dsimp only); (try k_fold))))
  k_with "call ref" => (((with_reducible show wpAny _ _ (call (Value.ref 683) _) _ _ _); k_dflt (refine' DoesE.useN (c_gt _ _ _ _ _ _ _ _ _ _ _ _ _ _ _ _ _ _ _ _ _ ?z1 ?z2 ?z3 ?z4 ?z5 ?z6 ?z7 ?z8 ?z9 ?za _ ?zb) ?k1 ?k2 ?k3 ?k4 ?ka ?k5 ?kK ?kd ?ku ?_ ?_; (case k1 => k_asm); (case k2 => k_asm); (case k3 => k_asm); (case k4 => k_asm); (case z1 => omega); (case z2 => omega); (case z3 => omega); (case z4 => omega); (case z5 => omega); (case z6 => omega); (case z7 => omega); (case z8 => assumption); (case z9 => assumption); (case za => assumption); (case zb => assumption); (case ka => first | (simp only [AllNe2, AllNe, and_true]; done) | (simp only [AllNe2, AllNe, and_true]; omega)); (case k5 => k_asm); (case kK => first | exact rfl | assumption); (case kd => ktr_room); (case ku => ktr_units); focus (intro _ _ _ _ e9 _ N9; obtain ⟨_, _, _, _, _, _, _, _, _, _, _, _, _, _, _, e92⟩ := e9; subst e92; (simp only [shL, shE, sioE, kvE, List.append_nil] at N9); revert N9; intro _; (try dsimp only); (try k_fold)))))
  trivial

set_option maxHeartbeats 16000000 in
theorem c_next (w : World) (x d sa sd pb fs : Nat) (T : Nat → Tok) (k1 k2 k3 tb tp : Tok) (b : Str) (p : Nat) (cm : Str) (sv : Value) (st : Option Str) (ln : Int) (tl tt : Tok) (hx : d < x) (ha : ((@Ne Nat sa x ∧ @Ne Nat sa d) ∧ @Ne Nat sd x ∧ @Ne Nat sd d) ∧ x < pb) (hb : sd < sa) (hc : sa < pb) (hf : pb < fs) (hbl : b.length ≤ 100000) (hp : p ≤ b.length) (hln : 0 ≤ ln ∧ ln ≤ 2 * p + 1)
   (hst : st = some spS ∨ (st = none ∧ p = b.length)) (hsv : StV st sv) (o : Out) (ho : rtN cm b (b.length + 1 - p) ⟨p, st, false, spS, Str.ofString ""⟩ = o) :
   DoesE w 719 10 140 [.ref x] (shL w x d sa sd pb fs T k1 k2 k3 tb tp b p cm sv ln tl (Str.ofString "") tt)
     (fun v led => ∃ (r : Str) (p' : Nat) (st' : Option Str) (sv' : Value) (ln' : Int) (t tl' tt' tp' : Tok), o = .ret (some r) p' st' ∧ v = .str r t ∧ p' ≤ b.length ∧ 0 ≤ ln' ∧ ln' ≤ 2 * p' + 1 ∧ (st' = some spS ∨ (st' = none ∧ p' = b.length)) ∧ StV st' sv' ∧ led = shL w x d sa sd pb fs T k1 k2 k3 tb tp' b p' cm sv' ln' tl' (Str.ofString "") tt')
     (fun X xs => (X = "ValueError" ∧ ∃ m t, xs = [.str m t] ∧ o = .err m) ∨ (X = "StopIteration" ∧ xs = [] ∧ ∃ p' st', o = .ret none p' st')) := by
  unfold DoesE
  k_fill
  intro mean mg mb dp un gd cn cs a0 ccd cl outer A₀ base h₀ L m s rest Q E hB hF hK hN hap hT hcs hd hu hret hexc
  simp only [shL, shE, sioE, kvE] at *
  obtain ⟨⟨⟨ha1, ha2⟩, ha3, ha4⟩, ha5⟩ := ha
  refine wpAny_call ?_
  refine' enterE (binds := [(Str.ofString "self", .ref x)]) hB hF hK hN hap hT rfl rfl hcs ?k6 ?k7 ?k8 ?k9 ?kB ?_ ?c2 ?c3 ?c4 ?c5
  case k6 => k_is
  case k7 => k_is
  case k8 => ktr_room
  case k9 => first | exact BindsTo.of_eq rfl | exact binds_K (by k_in) rfl (by k_is) rfl rfl rfl
  case kB => exact locs rfl
  case c2 => exact rfl
  case c3 => exact rfl
  case c4 => exact rfl
  case c5 => decide
  intro g1 L1 h1 FG1 NG1 F1 N1 B1 X1 T1 l1 st1
  (try dsimp only)
  (try k_fold)
  k_steps
  · rename_i tk8 v9 h9 tk9 r9 p9 st9 sv9 ln9 tl9 tt9 tp9 o9 sr9 hp9 hl9 hl8 hs9 hv9 h8 F8 N8
    rcases r9 with _ | r9
    · have hv : v9 = .none := sr9
      subst hv
      k_steps
      exact hexc _ _ _ _ _ _ _ (.inr ⟨rfl, rfl, p9, st9, o9⟩) (by assumption) FG1 NG1 (by assumption)
    · obtain ⟨tr, rfl⟩ := sr9
      k_steps
      dsimp only
      refine leaveR_ (by k_asm) (by k_asm) ?_
      intro kF kN kD
      exact hret _ _ _ _ ⟨r9, p9, st9, sv9, ln9, _, _, _, _, o9, rfl, hp9, hl9, hl8, hs9, hv9, rfl⟩ kF kN kD
  · intro e t X xs G h' tk' hep R FG NG U
    refine leave_onS B1 FG R U fun h2 R2 _ U2 => ?_
    exact hexc _ _ _ _ _ _ _ (.inl hep) R2 FG1 NG1 U2

set_option maxHeartbeats 4000000 in
theorem c_iter (w : World) (x : Nat) : DoesP w 712 2 20 [.ref x] (fun v => v = .ref x) := by
  unfold DoesP Does
  k_fill
  intro mean mg mb dp un gd cn cs a ccd cl outer A₀ base h₀ L m s rest Q E hB hF hK hN hap hT hcs hd hu hret
  k_dflt (refine wpAny_call ?_; (refine' enterR (binds := [(Str.ofString "self", .ref x)]) ?k1 ?k2 ?k3 ?k4 ?kp ?k5 ?kA ?kF ?kK ?k6 ?k7 ?k8 ?k9 ?kB ?_ ?c2 ?c3 ?c4 ?c5; (case kA => exact rfl); (case kF => exact rfl); (case kK => assumption); (case k1 => k_asm); (case k2 => k_asm); (case k3 => k_asm); (case k4 => k_asm); (case kp => k_asm); (case k5 => k_asm); (case k6 => k_is); (case k7 => k_is); (case k8 => ktr_room); (case k9 => first | exact BindsTo.of_eq rfl | exact binds_K (by k_in) rfl (by k_is) rfl rfl rfl); (case c5 => decide); (case kB => exact locs rfl); (case c2 => exact rfl); (case c3 => exact rfl); (case c4 => exact rfl); k_whole; intro _ _ _ _ _ _ _ _ _ _; (try dsimp only); (try k_fold)))
  k_steps
  refine leaveR_ (by k_asm) News.nil ?_; intro kF kN kD; exact hret _ _ _ _ ⟨rfl, rfl⟩ kF kN kD
end

/-! ## Rm -/
section
inductive Res where
  | ok (xs : List Str)
  | err (m : Str)
noncomputable abbrev g0 (p : Nat) (st : Option Str) : Cfg := ⟨p, st, false, spS, Str.ofString ""⟩
/-- the words that the tokens' run finds, from a state on -/
noncomputable def runM (cm b : Str) : Nat → List Str → Cfg → Option Res
  | 0, _, _ => none
  | n + 1, acc, g => match stepT1 cm b g with
    | .inl g' => runM cm b n acc g'
    | .inr (.ret none _ _) => some (.ok acc)
    | .inr (.ret (some t) p st) => runM cm b n (acc ++ [t]) (g0 p st)
    | .inr (.err m) => some (.err m)
theorem run_inl {cm b : Str} {n : Nat} {acc : List Str} {g g' : Cfg} (e : stepT1 cm b g = .inl g') : runM cm b (n + 1) acc g = runM cm b n acc g' := by
  show (match stepT1 cm b g with | .inl g' => runM cm b n acc g' | .inr (.ret none _ _) => some (.ok acc) | .inr (.ret (some t) p st) => runM cm b n (acc ++ [t]) (g0 p st) | .inr (.err m) => some (.err m)) = _
  rw [e]
theorem run_none {cm b : Str} {n : Nat} {acc : List Str} {g : Cfg} {p : Nat} {st : Option Str} (e : stepT1 cm b g = .inr (.ret none p st)) : runM cm b (n + 1) acc g = some (.ok acc) := by
  show (match stepT1 cm b g with | .inl g' => runM cm b n acc g' | .inr (.ret none _ _) => some (.ok acc) | .inr (.ret (some t) p st) => runM cm b n (acc ++ [t]) (g0 p st) | .inr (.err m) => some (.err m)) = _
  rw [e]
theorem run_some {cm b : Str} {n : Nat} {acc : List Str} {g : Cfg} {p : Nat} {st : Option Str} {t : Str} (e : stepT1 cm b g = .inr (.ret (some t) p st)) : runM cm b (n + 1) acc g = runM cm b n (acc ++ [t]) (g0 p st) := by
  show (match stepT1 cm b g with | .inl g' => runM cm b n acc g' | .inr (.ret none _ _) => some (.ok acc) | .inr (.ret (some t) p st) => runM cm b n (acc ++ [t]) (g0 p st) | .inr (.err m) => some (.err m)) = _
  rw [e]
theorem run_err {cm b : Str} {n : Nat} {acc : List Str} {g : Cfg} {m : Str} (e : stepT1 cm b g = .inr (.err m)) : runM cm b (n + 1) acc g = some (.err m) := by
  show (match stepT1 cm b g with | .inl g' => runM cm b n acc g' | .inr (.ret none _ _) => some (.ok acc) | .inr (.ret (some t) p st) => runM cm b n (acc ++ [t]) (g0 p st) | .inr (.err m) => some (.err m)) = _
  rw [e]
theorem step_inl {cm b : Str} {g g' : Cfg} (e : stepT1 cm b g = .inl g') (hp : g.p ≤ b.length) : g.p < g'.p ∧ g'.p ≤ b.length ∧ g.st ≠ none ∧ g'.st ≠ none := by
  have hnl : g.p < b.length → g.p < nlEnd b (g.p + 1) ∧ nlEnd b (g.p + 1) ≤ b.length := fun h => by have := nlEnd_ge (b := b) (p := g.p + 1) (by omega); omega
  revert e
  unfold stepT1
  dsimp only
  (repeat' split)
  all_goals (intro e; cases e)
  all_goals (refine ⟨?_, ?_, ?_, ?_⟩ <;> (try dsimp only) <;> first | omega | (have := hnl (by assumption); omega) | (simp [*]; done))
theorem step_ret {cm b : Str} {g : Cfg} {t : Str} {p : Nat} {st : Option Str} (e : stepT1 cm b g = .inr (.ret (some t) p st)) (hp : g.p ≤ b.length) : p ≤ b.length ∧ g.st ≠ none ∧ ((g.p < p ∧ st ≠ none) ∨ (g.p ≤ p ∧ st = none)) := by
  have hnl : g.p < b.length → g.p < nlEnd b (g.p + 1) ∧ nlEnd b (g.p + 1) ≤ b.length := fun h => by have := nlEnd_ge (b := b) (p := g.p + 1) (by omega); omega
  revert e
  unfold stepT1
  dsimp only
  generalize fin g.qd g.tk = ff
  (repeat' split)
  all_goals (intro e; cases e)
  all_goals (refine ⟨?_, ?_, ?_⟩ <;> (try dsimp only) <;> first | omega | (have := hnl (by assumption); omega) | (simp [*]; done) | (refine .inl ⟨?_, ?_⟩ <;> first | omega | (have := hnl (by assumption); omega) | (simp [*]; done)) | (exact .inr ⟨Nat.le_refl _, rfl⟩))
theorem run_tok {cm b : Str} : ∀ (k n : Nat) (acc : List Str) (g : Cfg) (r : Res) (o : Out), runM cm b n acc g = some r → rtN cm b k g = o → b.length + 1 ≤ k + g.p → g.p ≤ b.length →
    match o with
    | .err m => r = .err m
    | .ret none _ _ => r = .ok acc
    | .ret (some t) p st => ∃ n', n' < n ∧ runM cm b n' (acc ++ [t]) (g0 p st) = some r
  | 0, n, acc, g, r, o, _, _, hk, hp => by omega
  | k + 1, 0, acc, g, r, o, h, _, _, _ => by cases h
  | k + 1, n + 1, acc, g, r, o, h, ho, hk, hp => by
    cases e : stepT1 cm b g with
    | inl g' =>
      have hs := step_inl e hp
      rw [run_inl e] at h
      have h2 : rtN cm b k g' = o := rt_next ho e
      have ih := run_tok k n acc g' r o h h2 (by omega) hs.2.1
      cases o with
      | err m => exact ih
      | ret t p st => cases t with
        | none => exact ih
        | some t => obtain ⟨n', h1, h3⟩ := ih; exact ⟨n', by omega, h3⟩
    | inr o' =>
      have h2 : o = o' := rt_stop ho e
      subst h2
      cases o with
      | err m => rw [run_err e] at h; cases h; rfl
      | ret t p st => cases t with
        | none => rw [run_none e] at h; cases h; rfl
        | some t => rw [run_some e] at h; exact ⟨n, Nat.lt_succ_self n, h⟩
noncomputable def msr (b : Str) (g : Cfg) : Nat := 2 * (b.length - g.p) + (if g.st = none then 0 else 1)
theorem run_ends {cm b : Str} : ∀ (n : Nat) (acc : List Str) (g : Cfg), msr b g < n → g.p ≤ b.length → ∃ r, runM cm b n acc g = some r
  | 0, _, _, h, _ => by omega
  | n + 1, acc, g, h, hp => by
    cases e : stepT1 cm b g with
    | inl g' =>
      have hs := step_inl e hp
      obtain ⟨r, hr⟩ := run_ends n acc g' (by
        unfold msr at h ⊢
        rw [if_neg hs.2.2.1] at h
        rw [if_neg hs.2.2.2]
        omega) hs.2.1
      exact ⟨r, by rw [run_inl e, hr]⟩
    | inr o =>
      cases o with
      | err m => exact ⟨_, run_err e⟩
      | ret t p st => cases t with
        | none => exact ⟨_, run_none e⟩
        | some t =>
          have hs := step_ret e hp
          obtain ⟨r, hr⟩ := run_ends n (acc ++ [t]) (g0 p st) (by
            unfold msr at h ⊢
            rw [if_neg hs.2.1] at h
            dsimp only
            rcases hs.2.2 with ⟨h1, h2⟩ | ⟨h1, h2⟩
            · rw [if_neg h2]; omega
            · rw [if_pos h2]; omega) hs.1
          exact ⟨r, by rw [run_some e, hr]⟩
end

/-! ## Lx -/
section
theorem lx_fill (w : World) : OpenLaw.prog PySem.Challenge.rw_pd0002_01 = OpenLaw.prog PySem.Challenge.rw_pd0002_01 ∧ hd.heap_1 w.params = hd.heap_1 w.params := by
  k_fill
  exact ⟨rfl, rfl⟩
theorem lx_next (w : World) : findIn (hd.heap_1 w.params) (.ref 722) "__next__" = some (some (.ref 719)) := by k_is
theorem lx_iter (w : World) : findIn (hd.heap_1 w.params) (.ref 722) "__iter__" = some (some (.ref 712)) := by k_is
theorem lx_len (w : World) : findIn (hd.heap_1 w.params) (.ref 722) "__len__" = some none := by k_is
theorem lx_hint (w : World) : findIn (hd.heap_1 w.params) (.ref 722) "__length_hint__" = some none := by k_is
theorem lx_fn (w : World) : isFn (hd.heap_1 w.params) (.ref 719) = true := by k_is
theorem lx_fi (w : World) : isFn (hd.heap_1 w.params) (.ref 712) = true := by k_is
theorem ve_si : isSubtype (.type "ValueError") (.type "StopIteration") = pure false := by rw [isSubtype_type]; kernel_rfl
theorem si_si : isSubtype (.type "StopIteration") (.type "StopIteration") = pure true := by rw [isSubtype_type]; kernel_rfl
theorem same_upd {h : Heap} {a : Addr} (f : Obj → Obj) : Heap.SameBut a h (h.update a f) := ⟨Heap.size_after_update .., fun b hb => Heap.get?_update_other _ _ (fun q => hb q.symm)⟩

section
variable {w : World} {x d sa sd pb fs S : Nat} {T : Nat → Tok} {k1 k2 k3 tb : Tok} {b cm : Str} {res : Value} {r : Res} {mean : ExcName → Option Value} {mg mb : Str → Option Value} {dp un : Nat} {gd : Option (List Code)} {cn : Str} {cs : Scope} {a : Addr} {ccd : Value} {cl : List (Str × Addr)} {outer : List Env} {A₀ : Around} {base h₀ : Heap} {L : Addr} {m : Str → Option Value} {rest : Led} {R : Result → Shared → Prop} {s₀ : Shared}
theorem lex_loop (hx : d < x) (ha : ((@Ne Nat sa x ∧ @Ne Nat sa d) ∧ @Ne Nat sd x ∧ @Ne Nat sd d) ∧ x < pb) (hb : sd < sa) (hc : sa < pb) (hf : pb < fs) (hbl : b.length ≤ 100000)
    (B : Below A₀ base outer h₀) (X : (hd.heap_1 w.params).In h₀) (Tp : Top qv (looseW qv looseV) mean mg mb h₀) (hk : cs.kind = .function) (hd : dp + 10 < recursionLimit) (hu : un + 150 < cLine)
    (hap : ∀ z ∈ [sa, sd, fs, pb, x, d], S ≠ z ∧ ∀ p ∈ rest, p.1 ≠ z) (hSr : ∀ p ∈ rest, p.1 ≠ S)
    (hok : ∀ (xs : List Str) (vals : List Value) (n : Nat) (h' : Heap) (g' : Heap) (tk : Nat), r = .ok xs → StrsAre vals xs → KtsTurn (fsOf outer) h₀ g' → Fr g' L h' m → News g' L h' ((S, listO vals n) :: rest) → Below A₀ base outer g' → R (.ok (.ret res)) { s₀ with heap := h', toks := tk })
    (herr : ∀ (msg : Str) (e t : Addr) (t' : Tok) (G h' : Heap) (tk : Nat), r = .err msg → RaisedS base G (envX cn cs L a ccd cl :: outer) e (.type "ValueError") t [.str msg t'] [] h' → Fr h₀ L G m → News h₀ L G rest → G.UpToSlots h' → R (.error (.ref e)) { s₀ with heap := h', toks := tk }) :
    ∀ (k : Nat) (acc : List Str) (vals : List Value) (n : Nat) (p : Nat) (st : Option Str) (sv : Value) (ln : Int) (tl tt tp : Tok) (hh : Heap) (tk : Nat),
      runM cm b k acc (g0 p st) = some r → acc.length + k ≤ 1000000 → StrsAre vals acc → p ≤ b.length → (0 ≤ ln ∧ ln ≤ 2 * p + 1) → (st = some spS ∨ (st = none ∧ p = b.length)) → StV st sv →
      Fr h₀ L hh m → News h₀ L hh (shL w x d sa sd pb fs T k1 k2 k3 tb tp b p cm sv ln tl (Str.ofString "") tt ++ ((S, listO vals n) :: rest)) →
      codeAny (model (OpenLaw.prog PySem.Challenge.rw_pd0002_01) w) (ktrTop dp un gd cn cs L a ccd cl outer) (.builtin "list.extend.loop" ⟨[.ref S, .ref x, res], []⟩) R { s₀ with heap := hh, toks := tk } := by
  intro k
  induction k using Nat.strongRecOn with
  | ind k ih =>
    intro acc vals n p st sv ln tl tt tp hh tk hr hsz hsv hp hln hst hstv F N
    refine codeAny_builtin PySem.F.entry_extend_loop ?_
    rw [Around.under_plainId PySem.F.plain_extend_loop _]
    show wpAny _ _ (pyNext (.ref x) >>= _) _ _ _
    refine wpAny_bind ?_
    have I : InstAt hh x (instObj 722 d) 722 (some (dictOf (shE w T sa pb fs cm sv ln tl (Str.ofString "") tt) 19)) := InstAt.of_news N (by simp) (by simp)
    refine owit_next F X I (lx_next w) (lx_fn w) ?_
    have hlt : ∀ p' ∈ ((S, listO vals n) :: rest), p'.1 ∉ (shL w x d sa sd pb fs T k1 k2 k3 tb tp b p cm sv ln tl (Str.ofString "") tt).map (·.1) := by
      intro q hq hm
      have hm' : q.1 ∈ [sa, sd, fs, pb, x, d] := hm
      rcases List.mem_cons.mp hq with rfl | hq
      · exact (hap _ hm').1 rfl
      · exact (hap _ hm').2 _ hq rfl
    refine c_next w x d sa sd pb fs T k1 k2 k3 tb tp b p cm sv st ln tl tt hx ha hb hc hf hbl hp hln hst hstv _ rfl mean mg mb dp (un + 1) gd cn cs a ccd cl outer A₀ base h₀ L m _ ((S, listO vals n) :: rest) _ _ B F X N hlt Tp hk hd (by omega) ?_ ?_
    · rintro v led' h' tk' ⟨z, p', st', sv', ln', t, tl', tt', tp', ho, rfl, hp', hl0, hl1, hst', hsv', rfl⟩ F' N' hD
      have htok := run_tok _ _ _ _ _ _ hr ho (by dsimp only; omega) hp
      obtain ⟨n', hn', hr'⟩ := htok
      have hS' : h'.get? S = some (listO vals n) := (N' (S, listO vals n) (List.mem_append_right _ (.head _))).1
      have hS2 := N' (S, listO vals n) (List.mem_append_right _ (.head _))
      have hvl := hsv.length
      show wpAny _ _ (updateSeq S (·.push (.str z t)) >>= _) _ _ _
      refine wpAny_bind (wpAny_updateSeq (s := { s₀ with heap := h', toks := tk' }) hS' rfl (wpAny_pure ⟨plainId_quiet PySem.F.plain_extend_loop _, ?_⟩) (by rw [sizeLine_eq]; simp only [List.size_toArray]; omega) (by rw [sizeLine_eq]; simp only [List.size_toArray, Array.size_push]; omega))
      refine ih n' hn' (acc ++ [z]) (vals ++ [.str z t]) (n + 1) p' st' sv' ln' tl' tt' tp' _ _ hr' (by rw [List.length_append, List.length_singleton]; omega) (kct_snoc hsv) hp' ⟨hl0, hl1⟩ hst' hsv' (F'.change (same_upd _) hS2.2.1 hS2.2.2) ?_
      refine news_set N' (fun q hq => ?_) hSr (same_upd _) ?_
      · have hm' : q.1 ∈ [sa, sd, fs, pb, x, d] := List.mem_map_of_mem (f := (·.1)) hq
        exact fun e => (hap _ hm').1 e.symm
      · show (h'.update S (Obj.mapSeq (·.push (.str z t)))).get? S = _
        rw [Heap.get?_update_self _ hS' (by rw [mapSeq_push]; rfl), mapSeq_push]
        show some (W.listOf (vals.toArray.push (.str z t)) (n + 1)) = _
        have e : W.listOf (vals.toArray.push (.str z t)) (n + 1) = listO (vals ++ [.str z t]) (n + 1) := by simp
        rw [e]
    · rintro e t X' xs G h' tk' hep RS FG NG U
      obtain ⟨⟨B1, hB1, hBG, hl1, hfl, hnew⟩, htup⟩ := RS
      have hf' := flyingW_base hB1 hfl
      obtain ⟨ob, hob, hobc⟩ := hf'.there
      unfold OwitStop
      rcases hep with ⟨rfl, mg', t', rfl, ho⟩ | ⟨rfl, rfl, p', st', ho⟩
      · refine wpAny_isInstance (T := "ValueError") ⟨ob, hob, hobc⟩ ve_si ?_
        show (if false = true then _ else _)
        rw [if_neg (by decide)]
        have htok := run_tok _ _ _ _ _ _ hr ho (by dsimp only; omega) hp
        exact herr mg' e t t' G _ _ htok ⟨⟨B1, hB1, hBG, hl1, hfl, hnew⟩, htup⟩ FG (fun q hq => NG q (.tail _ hq)) U
      · refine wpAny_isInstance (T := "StopIteration") ⟨ob, hob, hobc⟩ si_si ?_
        show (if true = true then _ else _)
        rw [if_pos rfl]
        have htok := run_tok _ _ _ _ _ _ hr ho (by dsimp only; omega) hp
        obtain ⟨g', T', F', B'⟩ := kts_ground (name := cn) (scope := cs) (a := a) (cd := ccd) B FG hBG hfl.1 U
        show wpAny _ _ (ret res) _ _ _
        refine wpAny_pure (hok acc vals n h' g' _ htok hsv T' F' (fun q hq => ?_) B')
        have nL : h₀.get? q.1 = none := (NG q hq).2.2
        have nm : q.1 ∉ (envX cn cs L a ccd cl :: outer).filterMap (·.frame) := fun hm => by
          rcases kts_mem (name := cn) (scope := cs) (a := a) (cd := ccd) hm with z | z
          · exact (NG q hq).2.1 z
          · obtain ⟨_, o, ho', _⟩ := B.frames.mem z
            rw [nL] at ho'; cases ho'
        exact ⟨hfl.1 _ _ (hBG _ _ (NG q hq).1 nm), (NG q hq).2.1, T'.none_ _ nL⟩

theorem call_list_lex {Q E : Value → Shared → Prop} {s : Shared} {p : Nat} {sv : Value} {ln : Int} {tl tt tp : Tok} {k : Nat} (hx : d < x) (ha : ((@Ne Nat sa x ∧ @Ne Nat sa d) ∧ @Ne Nat sd x ∧ @Ne Nat sd d) ∧ x < pb) (hb : sd < sa) (hc : sa < pb) (hf : pb < fs) (hbl : b.length ≤ 100000)
    (B : Below A₀ base outer h₀) (FF : Fr h₀ L s.heap m) (X : (hd.heap_1 w.params).In h₀) (N : News h₀ L s.heap (shL w x d sa sd pb fs T k1 k2 k3 tb tp b p cm sv ln tl (Str.ofString "") tt ++ rest)) (Tp : Top qv (looseW qv looseV) mean mg mb h₀) (hk : cs.kind = .function) (hd : dp + 10 < recursionLimit) (hu : un + 160 < cLine)
    (hap : ∀ z ∈ [sa, sd, fs, pb, x, d], ∀ p ∈ rest, p.1 ≠ z)
    (hr : runM cm b k [] (g0 p (some spS)) = some r) (hsz : k ≤ 1000000) (hp : p ≤ b.length) (hln : 0 ≤ ln ∧ ln ≤ 2 * p + 1) (hstv : StV (some spS) sv)
    (hok : ∀ (xs : List Str) (vals : List Value) (n S : Nat) (h' : Heap) (g' : Heap) (tk : Nat), r = .ok xs → StrsAre vals xs → KtsTurn (fsOf outer) h₀ g' → Fr g' L h' m → News g' L h' ((S, listO vals n) :: rest) → (∀ p ∈ rest, p.1 < S) → Below A₀ base outer g' → Q (.ref S) { s with heap := h', toks := tk })
    (herr : ∀ (msg : Str) (e t : Addr) (t' : Tok) (G h' : Heap) (tk : Nat), r = .err msg → RaisedS base G (envX cn cs L a ccd cl :: outer) e (.type "ValueError") t [.str msg t'] [] h' → Fr h₀ L G m → News h₀ L G rest → G.UpToSlots h' → E (.ref e) { s with heap := h', toks := tk }) :
    wpAny (model (OpenLaw.prog PySem.Challenge.rw_pd0002_01) w) (ktrTop dp un gd cn cs L a ccd cl outer) (call (.type "list") [.ref x]) Q E s := by
  have hlt : ∀ q ∈ (shL w x d sa sd pb fs T k1 k2 k3 tb tp b p cm sv ln tl (Str.ofString "") tt ++ rest), q.1 < s.heap.objs.size := fun q hq => Heap.lt_size (N q hq).1
  have N1 := N.push FF ({ cls := .type "list", data := .seq #[] } : Obj)
  have F1 := FF.push ({ cls := .type "list", data := .seq #[] } : Obj)
  refine callType_codes (Q₁ := fun obj s₁ => obj = .ref s.heap.objs.size ∧ s₁ = { s with heap := s.heap.push { cls := .type "list", data := .seq #[] } }) PySem.F.called_list (PySem.F.typeCall_list_1 _) PySem.F.entry_list_init
    (code_list_new _ ⟨rfl, rfl⟩) fun obj s₁ h₁ => ?_
  obtain ⟨rfl, rfl⟩ := h₁
  have hS : (s.heap.push { cls := .type "list", data := .seq #[] }).get? s.heap.objs.size = some { cls := .type "list", data := .seq #[] } := Heap.get?_push_size _ rfl
  refine ⟨⟨_, hS, rfl⟩, PySem.F.args_list_init_2 _ _, ?_⟩
  generalize s.heap.push { cls := .type "list", data := .seq #[] } = hp1 at *
  generalize s.heap.objs.size = S at *
  show wpAny _ _ (do let old ← Builtin.List.listItems (.ref S); Builtin.List.listUpdate (.ref S) (fun _ => #[]); letGo old.toList.reverse; Builtin.List.listExtendWith (.ref S) (.ref x) .none) _ _ _
  refine wpAny_bind ?_
  unfold Builtin.List.listItems
  refine wpAny_bind (wpAny_seqItems hS rfl (wpAny_pure ?_))
  show wpAny _ _ (updateSeq S (fun _ => #[]) >>= fun _ => letGo (#[] : Array Value).toList.reverse >>= fun _ => Builtin.List.listExtendWith (.ref S) (.ref x) .none) _ _ _
  refine wpAny_bind (wpAny_updateSeq hS rfl ?_)
  have hS₂ := Heap.get?_update_self (Obj.mapSeq (fun _ => (#[] : Array Value))) hS rfl
  refine wpAny_bind (wpAny_letGo ?_)
  have hSz : ∀ (z : Nat), z ∈ [sa, sd, fs, pb, x, d] → S ≠ z := fun z hz => by
    obtain ⟨q, hq, rfl⟩ := List.mem_map.mp (show z ∈ (shL w x d sa sd pb fs T k1 k2 k3 tb tp b p cm sv ln tl (Str.ofString "") tt).map (·.1) from hz)
    exact Nat.ne_of_gt (hlt q (List.mem_append_left _ hq))
  have hSr : ∀ q ∈ rest, q.1 < S := fun q hq => hlt q (List.mem_append_right _ hq)
  have hSx : S ≠ x := hSz x (by simp)
  have hall : ∀ q ∈ (shL w x d sa sd pb fs T k1 k2 k3 tb tp b p cm sv ln tl (Str.ofString "") tt ++ rest), q.1 ≠ S := fun q hq => Nat.ne_of_lt (hlt q hq)
  have z1 := N1 _ (.head _)
  have F2 : Fr h₀ L (hp1.update S (Obj.mapSeq fun _ => #[])) m := F1.change (same_upd _) z1.2.1 z1.2.2
  have N2 : News h₀ L (hp1.update S (Obj.mapSeq fun _ => #[])) ((S, listO [] 0) :: (shL w x d sa sd pb fs T k1 k2 k3 tb tp b p cm sv ln tl (Str.ofString "") tt ++ rest)) := news_set (pre := []) N1 (by simp) hall (same_upd _) (hS₂.trans rfl)
  clear hS₂ N1 F1 hS
  generalize hp1.update S (Obj.mapSeq fun _ => (#[] : Array Value)) = hp2 at *
  have I2 : InstAt hp2 x (instObj 722 d) 722 (some (dictOf (shE w T sa pb fs cm sv ln tl (Str.ofString "") tt) 19)) := InstAt.of_news N2 (by simp) (by simp)
  unfold Builtin.List.listExtendWith
  refine wpAny_bind (I2.type.here ?_)
  have h1 : Builtin.List.listSameRef (.ref S) (.ref x) = false := by simp [Builtin.List.listSameRef, hSx]
  have h2 : (Value.ref 722 == Value.type "list") = false := by decide
  have h3 : (Value.ref 722 == Value.type "tuple") = false := by decide
  simp only [h1, h2, h3, Bool.or_false, Bool.false_eq_true, if_false]
  refine wpAny_bind (owit_iter F2 X I2 (lx_iter w) (lx_fi w) ?_)
  refine DoesP.use (c_iter w x) B F2 X N2 Tp hk (by show dp + 2 < recursionLimit; omega) (by show un + 1 + 1 + 20 < cLine; omega) ?_
  rintro v h' tk' rfl F3 N3
  have I3 : InstAt h' x (instObj 722 d) 722 (some (dictOf (shE w T sa pb fs cm sv ln tl (Str.ofString "") tt) 19)) := InstAt.of_news N3 (by simp) (by simp)
  refine owit_it F3 X I3 (lx_next w) ?_
  refine wpAny_bind (wpAny_holding ?_)
  unfold Builtin.List.listLengthHint
  have X3 := X.keeps F3.keep
  refine wpAny_bind (wpAny_bind (I3.type.here ((looks_findIn X3 (lx_len w)).here ?_)))
  show wpAny _ _ (specialOf (Value.ref x) (Str.ofString "__length_hint__") >>= _) _ _ _
  refine wpAny_bind (wpAny_bind (I3.type.here ((looks_findIn X3 (lx_hint w)).here ?_)))
  refine wpAny_pure ?_
  show wpAny _ _ (rule "list.extend.makes-room" >>= fun _ => Builtin.List.listTouch (.ref S) >>= fun _ =>
    again (.builtin "list.extend.loop" ⟨[.ref S, .ref x, .none], []⟩)) _ _ _
  refine wpAny_bind (wpAny_rule ?_)
  refine wpAny_bind ?_
  show wpAny _ _ (updateSeq S (·.push .none) >>= fun _ => updateSeq S (·.pop)) _ _ _
  have hS3 : h'.get? S = some (listO [] 0) := (N3 _ (.head _)).1
  refine wpAny_bind (wpAny_updateSeq (s := { s with heap := h', toks := tk' }) hS3 rfl ?_)
  have z3 := N3 _ (.head _)
  have hS4 := Heap.get?_update_self (Obj.mapSeq (·.push Value.none)) hS3 rfl
  have F4 : Fr h₀ L (h'.update S (Obj.mapSeq (·.push Value.none))) m := F3.change (same_upd _) z3.2.1 z3.2.2
  have N4 := news_set (pre := []) N3 (by simp) hall (same_upd _) hS4
  refine wpAny_updateSeq (hz := by seq_fits) (s := { s with heap := h'.update S (Obj.mapSeq (·.push Value.none)), toks := tk' }) hS4 rfl ?_
  have z4 := N4 _ (.head _)
  have hS5 := Heap.get?_update_self (Obj.mapSeq (·.pop)) hS4 rfl
  have F5 : Fr h₀ L ((h'.update S (Obj.mapSeq (·.push Value.none))).update S (Obj.mapSeq (·.pop))) m := F4.change (same_upd _) z4.2.1 z4.2.2
  have N5 := news_set (pre := []) N4 (by simp) hall (same_upd _) hS5
  refine wpAny_pure ⟨plainId_quiet PySem.F.plain_extend_loop _, ?_⟩
  refine lex_loop (T := T) (k1 := k1) (k2 := k2) (k3 := k3) (tb := tb) (un := un + 1) (s₀ := s) (rest := rest) hx ha hb hc hf hbl B X Tp hk hd (by omega) (fun z hz => ⟨hSz z hz, hap z hz⟩) (fun q hq => Nat.ne_of_lt (hSr q hq)) ?_ ?_ k [] [] 2 p (some spS) sv ln tl tt tp _ _ hr (by simpa using hsz) .nil hp hln (.inl rfl) hstv F5 ?_
  · intro xs vals n h' g' tk hrr hv T' F' N' B'
    exact ⟨rfl, hok xs vals n S h' g' tk hrr hv T' F' N' hSr B'⟩
  · intro msg e t t' G h' tk hrr R' F' N' U
    exact herr msg e t t' G h' tk hrr R' F' N' U
  · intro q hq
    rcases List.mem_append.mp hq with hq | hq
    · exact N5 q (.tail _ (List.mem_append_left _ hq))
    · rcases List.mem_cons.mp hq with rfl | hq
      · exact N5 _ (.head _)
      · exact N5 q (.tail _ (List.mem_append_right _ hq))
end
end

/-! ## S1 -/
section
theorem offS1 : True := by
  (w_top off)
  k_with_none
  k_with "steps" => (repeat' (first | (k_unfold; (try dsimp only)) | ((with_reducible show wpAny _ _ (exec (Stmt.If _ _ _ _) _) _ _ _); k_fold) | ((fail_if_success with_reducible show LeaveR _ _ _ _ _ _ _ _); (fail_if_success with_reducible show TurnPost _ _ _ _ _ _ _ _ _); (fail_if_success with_reducible show wpAny _ _ (pyIter _) _ _ _); (fail_if_success with_reducible show wpAny _ _ (exec (Stmt.While _ _ _ _) _) _ _ _); walk1) | ((fail_if_success with_reducible show LeaveR _ _ _ _ _ _ _ _); (fail_if_success with_reducible show TurnPost _ _ _ _ _ _ _ _ _); (fail_if_success with_reducible show wpAny _ _ (pyIter _) _ _ _); (fail_if_success with_reducible show wpAny _ _ (exec (Stmt.While _ _ _ _) _) _ _ _); dsimp only; walk1) | fail "no step"))
  k_with "call builtin:issubclass" => ((k_here; (with_reducible show wpAny _ _ (call (Value.builtin "issubclass") [Value.type "str", Value.ref _]) _ _ _); refine issub_call (News.get (by k_asm) (by k_mem)) ?_))
  k_with "call ref" => (((with_reducible show wpAny _ _ (call (Value.ref 807) _) _ _ _); k_dflt ((refine' DoesP.use (c_fspath _ _ _) ?k1 ?k2 ?k3 ?k4 ?k5 ?kK ?kd ?ku ?_; (case k1 => k_asm); (case k2 => k_asm); (case k3 => k_asm); (case k4 => k_asm); (case k5 => k_asm); (case kK => first | exact rfl | assumption); (case kd => ktr_room); (case ku => ktr_units); k_whole; intro _ _ _ P9 _ _; (first | subst P9 | (obtain ⟨_, P9⟩ := P9; subst P9)); (try dsimp only); (try k_fold)))))
  k_with "call ref" => (((with_reducible show wpAny _ _ (call (Value.ref 821) _) _ _ _); k_dflt ((refine' DoesP.use (c_get_sep _ _ _) ?k1 ?k2 ?k3 ?k4 ?k5 ?kK ?kd ?ku ?_; (case k1 => k_asm); (case k2 => k_asm); (case k3 => k_asm); (case k4 => k_asm); (case k5 => k_asm); (case kK => first | exact rfl | assumption); (case kd => ktr_room); (case ku => ktr_units); k_whole; intro _ _ _ P9 _ _; (first | subst P9 | (obtain ⟨_, P9⟩ := P9; subst P9)); (try dsimp only); (try k_fold)))))
  k_with "call builtin:str.find" => (((with_reducible show wpAny _ _ (call (Value.builtin "str.find") [Value.str _ _, Value.str _ _, Value.int _ _, Value.int (((Str.length _ : Nat)) : Int) _]) _ _ _); refine find4 ?_))
  k_with "call builtin:str.split" => (((with_reducible show wpAny _ _ (call (Value.builtin "str.split") [Value.str _ _, Value.str _ _]) _ _ _); refine' KSpl.split1 ?k1 ?k2 ?k3 ?_ ?k4; (case k1 => k_asm); (case k2 => k_asm); (case k3 => decide); (case k4 => (rw [sizeLine_eq]; omega)); intro _ _ _ _ _ _ _ _ yl1; (try k_lt yl1); revert yl1; intro _))
  k_with "truthy ref" => ((with_unfolding_all (refine' truthyL ?k1 ?k2 ?k3 ?_; (case k1 => k_asm); (case k2 => k_mem); (case k3 => omega))))
  k_with "call builtin:list.pop" => ((refine' popL ?k1 ?k2 ?k3 ?k4 ?k5 ?_; (case k1 => k_asm); (case k2 => k_asm); (case k3 => k_upd); (case k4 => assumption); (case k5 => omega); intro _ _ _ _; (try k_sweep)))
  k_with "call builtin:list.append" => ((refine' appendL ?k1 ?k2 ?k3 ?k4 ?_; (case k1 => k_asm); (case k2 => k_asm); (case k3 => k_upd); (case k4 => omega); intro _ _ _; (try k_sweep)))
  k_with "subscriptTail Name UnaryOp ref int" => (((with_reducible show wpAny _ _ (subscriptTail _ _ (Value.ref _) (Value.int _ _)) _ _ _); (with_unfolding_all refine' lastL ?k1 ?k2 ?k3 ?k4 ?k5 ?_; (case k1 => k_asm); (case k2 => k_mem); (case k3 => assumption); (case k4 => assumption); (case k5 => omega)); intro _))
  k_with "call builtin:str.join" => (((with_reducible show wpAny _ _ (call (Value.builtin "str.join") [Value.str _ _, Value.ref _]) _ _ _); refine' joinL ?k1 ?k2 ?k3 ?k4 ?k5 ?_; (case k1 => k_asm); (case k2 => k_mem); (case k3 => assumption); (case k4 => decide); (case k5 => (rw [wgt_sum]; omega)); intro _ _))
  k_with "call type:collections.deque" => ((refine' call_dqN ?k1 ?k2 ?_; (case k1 => k_asm); (case k2 => k_asm); intro _ _ _ _ yl1; (try k_lt yl1); revert yl1; intro _; (try k_sweep)))
  k_with "truthy ref" => ((with_unfolding_all (refine' truthy_dqN (a := _) ?k1 ?k2 ?_; (case k1 => k_asm); (case k2 => k_mem)); intro _))
  k_with "units" => (((have hcL9 := cLine_is); (try simp only [units_kw, units_in1, units_deeper, Around.mark_units, units_caller] at *); (try dsimp only [ktrTop] at *); omega))
  k_with "call ref" => (((with_reducible show wpAny _ _ (call (Value.ref 587) _) _ _ _); k_dflt (refine' Does.use0 (c_sio _ _ _) ?k1 ?k2 ?k3 ?k4 ?k5 ?kK ?kd ?ku ?_; (case k1 => k_asm); (case k2 => k_asm); (case k3 => k_asm); (case k4 => k_asm); (case k5 => k_asm); (case kK => first | exact rfl | assumption); (case kd => ktr_room); (case ku => ktr_units); rintro _ _ _ _ ⟨_, _, _, _, _, _, _, e91, e92, _⟩ _ N9 D9; subst e91; subst e92; (simp only [AllNe2, AllNe, and_true, sioL, sioE, kvE, List.cons_append, List.nil_append] at D9 N9); revert D9 N9; intro _ _; (try dsimp only); (try k_fold))))
  k_with "truthy str" => ((with_unfolding_all (refine SBL.truthy (by omega) ?_)))
  k_with "inplaceOp Add str str" => ((with_unfolding_all (refine SBL.iadd (hsz := ?hsz) ?_; (case hsz => (rw [sizeLine_eq]; omega))); intro _ _ _))
  k_with "steps" => (repeat' (first | (k_unfold; (try dsimp only)) | ((with_reducible show wpAny _ _ (exec (Stmt.If _ _ _ _) _) _ _ _); k_fold) | ((fail_if_success with_reducible show LeaveR _ _ _ _ _ _ _ _); (fail_if_success with_reducible show WhileStep2 _ _ _ _ _ _ _ _); (fail_if_success with_reducible show wpAny _ _ (exec (Stmt.While _ _ _ _) _) _ _ _); (fail_if_success with_reducible show wpAny _ _ (exec (Stmt.If (Expr.Compare (Expr.Name (Str.ofString "nextchar") _) [CmpOp.Eq] [Expr.Constant _ _ _] _) _ _ _) _) _ _ _); (fail_if_success with_reducible show wpAny _ _ (exec (Stmt.If (Expr.Compare (Expr.Attribute _ (Str.ofString "state") _) [CmpOp.Is] _ _) _ _ _) _) _ _ _); walk1) | ((fail_if_success with_reducible show LeaveR _ _ _ _ _ _ _ _); (fail_if_success with_reducible show WhileStep2 _ _ _ _ _ _ _ _); dsimp only; (fail_if_success with_reducible show WhileStep2 _ _ _ _ _ _ _ _); walk1) | fail "no step"))
  k_with "leaving ref" => ((k_dflt (refine' leave_raiseS ?k1 ?k0 ?k2 News.nil ?_; (case k0 => first | assumption | exact Heap.MadeExc.of (by assumption)); (case k2 => assumption); (case k1 => assumption)); intro _ _ _ _ _))
  k_with "ite" => (first | with_reducible refine ite_tt ?_ | with_reducible refine ite_ff ?_ | with_reducible refine split_not ?_ | refine ite_pos (by with_reducible assumption) ?_ | refine ite_neg (by with_reducible assumption) ?_ | refine ite_isFalse (by with_reducible assumption) ?_ | (with_unfolding_all (k_closed; k_dflt (first | refine ite_pos (by decide) ?_ | refine ite_neg (by decide) ?_ | refine ite_pos (by decide +kernel) ?_ | refine ite_neg (by decide +kernel) ?_))))
  k_with "eval Name" => (((with_reducible show wpAny _ _ (eval (Expr.Name _ _) (envOf _ _ _ _ _)) _ _ _); (with_reducible refine ld (by assumption) (by with_unfolding_all rfl) ?_ (by kernel_rfl!) (by kernel_rfl!) (by decide +kernel))))
  k_with "getAttr ref" => ((with_unfolding_all (k_dflt (refine' get_own ?k1 ?k2 ?k3 ?k4 ?k5 ?k6 ?k7 ?k8 ?k9 ?_; (case k1 => k_asm); (case k2 => k_asm); (case k3 => k_inst); (case k4 => k_is); (case k5 => k_is); (case k6 => k_is); (case k7 => k_is); (case k8 => k_get); (case k9 => k_handed); k_whole))))
  k_with "call ref" => (((with_reducible show wpAny _ _ (call (Value.ref 533) _) _ _ _); k_dflt (first | (refine' Does.useN (c_rdI _ _ _ _ _ _ _ _ _ _ _ ?z1 ?z2 ?z3) ?k1 ?k2 ?k3 ?k4 ?ka ?k5 ?kK ?kd ?ku ?_; (case k1 => k_asm); (case k2 => k_asm); (case k3 => k_asm); (case k4 => k_asm); (case z1 => omega); (case z2 => omega); (case z3 => omega); (case ka => (simp only [AllNe2, AllNe, and_true]; omega)); (case k5 => k_asm); (case kK => first | exact rfl | assumption); (case kd => ktr_room); (case ku => ktr_units); intro _ _ _ _ e9 _ N9; obtain ⟨_, _, e91, e92⟩ := e9; subst e91; subst e92; (simp only [sioL, sioE, kvE, List.cons_append, List.nil_append] at N9); revert N9; intro _; (try dsimp only); (try k_fold)) | (refine' Does.useN (c_rdO _ _ _ _ _ _ _ _ _ _ _ ?z1 ?z2 ?z3) ?k1 ?k2 ?k3 ?k4 ?ka ?k5 ?kK ?kd ?ku ?_; (case k1 => k_asm); (case k2 => k_asm); (case k3 => k_asm); (case k4 => k_asm); (case z1 => omega); (case z2 => omega); (case z3 => omega); (case ka => (simp only [AllNe2, AllNe, and_true]; omega)); (case k5 => k_asm); (case kK => first | exact rfl | assumption); (case kd => ktr_room); (case ku => ktr_units); intro _ _ _ _ e9 _ N9; obtain ⟨_, _, e91, e92⟩ := e9; subst e91; subst e92; (simp only [sioL, sioE, kvE, List.cons_append, List.nil_append] at N9); revert N9; intro _; (try dsimp only); (try k_fold)))))
  k_with "call ref" => (((with_reducible show wpAny _ _ (call (Value.ref 541) _) _ _ _); k_dflt (refine' Does.useN (c_rdl _ _ _ _ _ _ _ _ _ _ ?z1 ?z2 ?z3) ?k1 ?k2 ?k3 ?k4 ?ka ?k5 ?kK ?kd ?ku ?_; (case k1 => k_asm); (case k2 => k_asm); (case k3 => k_asm); (case k4 => first | k_asm | exact News_tl (by k_asm)); (case z1 => omega); (case z2 => omega); (case z3 => omega); (case ka => (simp only [AllNe2, AllNe, and_true]; omega)); (case k5 => k_asm); (case kK => first | exact rfl | assumption); (case kd => ktr_room); (case ku => ktr_units); intro _ _ _ _ e9 _ N9; obtain ⟨_, _, _, e91, e92⟩ := e9; subst e91; subst e92; (simp only [sioL, sioE, kvE, List.cons_append, List.nil_append] at N9); revert N9; intro _; (try dsimp only); (try k_fold))))
  trivial

theorem sh_led {g h : Heap} {L : Addr} {x d sa sd pb fs : Addr} {o1 o2 o3 o4 : Obj} (N : News g L h [(fs, dqO), (pb, dqO), (sa, o1), (sd, o2), (x, o3), (d, o4)]) : News g L h ([(sa, o1), (sd, o2), (fs, dqO), (pb, dqO), (x, o3), (d, o4)] ++ []) :=
  fun p hp => N p (by
    simp only [List.append_nil, List.mem_cons, List.not_mem_nil, or_false] at hp ⊢
    rcases hp with h | h | h | h | h | h <;> simp [h])

set_option maxHeartbeats 16000000 in
theorem c_split (w : World) (x : Str) (t : Tok) (c : Bool) (hx : x.length ≤ 100000) (r : Res) (k : Nat) (hr : runM (if c then Str.ofString "#" else Str.ofString "") x k [] (g0 0 (some spS)) = some r) (hsz : k ≤ 1000000) :
   DoesT w 734 14 260 [.str x t, .bool c] [] (fun v led => ∃ S vals n xs, r = .ok xs ∧ StrsAre vals xs ∧ v = .ref S ∧ led = [(S, listO vals n)])
     (fun X xs => X = "ValueError" ∧ ∃ m t, xs = [.str m t] ∧ r = .err m) := by
  unfold DoesT
  k_fill
  intro mean mg mb dp un gd cn cs a0 ccd cl outer A₀ base h₀ L m s rest Q E hB hF hK hKB hN hap hT hTB hcs hd hu hret hexc
  refine wpAny_call ?_
  refine' enterT (binds := [(Str.ofString "s", .str x t), (Str.ofString "comments", .bool c), (Str.ofString "posix", .bool true)]) hB hF hK hKB hN hap hT hTB rfl rfl hcs ?k6 ?k7 ?k8 ?k9 ?kB ?_ ?c2 ?c3 ?c4 ?c5
  case k6 => k_is
  case k7 => k_is
  case k8 => ktr_room
  case k9 => first | exact BindsTo.of_eq rfl | exact binds_K (hK.keeps hF.keep) rfl (by k_is) rfl rfl rfl
  case kB => exact locs rfl
  case c2 => exact rfl
  case c3 => exact rfl
  case c4 => exact rfl
  case c5 => decide
  intro g1 L1 h1 FG1 NG1 F1 N1 B1 X1 T1 l1 st1
  (try dsimp only)
  (try k_fold)
  k_steps
  · rw [if_pos (by assumption)] at hr
    refine' call_list_lex (T := fun i => List.getD [_, _, _, _, _, _, _, _, _, _, _, _, _, _, _, _, _, _, _, 0, 0, 0, 0, 0, _, _, _, 0, _, _, _, 0, 0, 0, _, 0, 0, 0, _] i 0) (r := r) (k := k) ?hx ?ha ?hb ?hc ?hf hx B1 ?FF ?X (sh_led (by k_asm)) ?Tp ?hk ?hd ?hu ?hap ?hr hsz (Nat.zero_le _) ?hln ⟨_, rfl⟩ ?hok ?herr
    case FF => k_asm
    case X => k_asm
    case Tp => k_asm
    case hx => first | assumption | omega
    case ha => refine ⟨by assumption, by omega⟩
    case hb => assumption
    case hc => omega
    case hf => omega
    case hk => rfl
    case hd => ktr_room
    case hu => ktr_units
    case hap => exact fun _ _ _ h => nomatch h
    case hr => exact hr
    case hln => omega
    case hok =>
      intro xs vals n S h' g' tk hrr hv T' F' N' _ B'
      show LeaveT _ _ _ _ _ _ _ _ _ _ _ _ _ _ _ _ _ _
      exact ⟨g', L1, _, [(S, listO vals n)], T', F', N', fun h₁ t f n' a b k tp => hret _ _ _ _ _ ⟨S, vals, n, xs, hrr, hv, rfl, rfl⟩ t f n' a b k tp⟩
    case herr =>
      intro msg e t t' G h' tk hrr R' F' N' U
      refine leave_onS B1 F' R' U fun h2 R2 _ U2 => ?_
      exact hexc _ _ _ _ _ _ _ ⟨rfl, msg, t', rfl, hrr⟩ R2 FG1 NG1 U2
  · rw [if_neg (by simp [*])] at hr
    refine' call_list_lex (T := fun i => List.getD [_, _, _, _, _, _, _, _, _, _, _, _, _, _, _, _, _, _, _, 0, 0, 0, 0, 0, _, _, _, 0, _, _, _, 0, 0, 0, _, 0, 0, 0, _] i 0) (r := r) (k := k) ?hx ?ha ?hb ?hc ?hf hx B1 ?FF ?X (sh_led (by k_asm)) ?Tp ?hk ?hd ?hu ?hap ?hr hsz (Nat.zero_le _) ?hln ⟨_, rfl⟩ ?hok ?herr
    case FF => k_asm
    case X => k_asm
    case Tp => k_asm
    case hx => first | assumption | omega
    case ha => refine ⟨by assumption, by omega⟩
    case hb => assumption
    case hc => omega
    case hf => omega
    case hk => rfl
    case hd => ktr_room
    case hu => ktr_units
    case hap => exact fun _ _ _ h => nomatch h
    case hr => exact hr
    case hln => omega
    case hok =>
      intro xs vals n S h' g' tk hrr hv T' F' N' _ B'
      show LeaveT _ _ _ _ _ _ _ _ _ _ _ _ _ _ _ _ _ _
      exact ⟨g', L1, _, [(S, listO vals n)], T', F', N', fun h₁ t f n' a b k tp => hret _ _ _ _ _ ⟨S, vals, n, xs, hrr, hv, rfl, rfl⟩ t f n' a b k tp⟩
    case herr =>
      intro msg e t t' G h' tk hrr R' F' N' U
      refine leave_onS B1 F' R' U fun h2 R2 _ U2 => ?_
      exact hexc _ _ _ _ _ _ _ ⟨rfl, msg, t', rfl, hrr⟩ R2 FG1 NG1 U2
end

/-! ## Pn -/
section
noncomputable abbrev slS : Str := Str.ofString "/"
noncomputable abbrev dtS : Str := Str.ofString "."
noncomputable abbrev ddS : Str := Str.ofString ".."
theorem slS_ls : ls slS = [47] := by decide +kernel
theorem dtS_ls : ls dtS = [46] := by decide +kernel
theorem ddS_ls : ls ddS = [46, 46] := by decide +kernel
theorem emp_ls : ls (Str.ofString "") = [] := by decide +kernel
theorem slS_mk : slS = ⟨#[47]⟩ := by decide +kernel
theorem mkS_app (a b : List Nat) : mkS a ++ mkS b = mkS (a ++ b) := ls_inj (by rw [ls_app])
theorem len0_ls {x : Str} : x.length = 0 ↔ ls x = [] := by rw [← len_ls]; exact List.length_eq_zero_iff
theorem len0_emp {x : Str} : x.length = 0 ↔ x = Str.ofString "" := by
  rw [len0_ls]
  exact ⟨fun h => ls_inj (by rw [h, emp_ls]), fun h => by rw [h, emp_ls]⟩

/-- the pieces of a text between its slashes -/
noncomputable def splitL : List Nat → List (List Nat)
  | [] => [[]]
  | c :: l => if c = 47 then [] :: splitL l else match splitL l with
    | h :: t => (c :: h) :: t
    | [] => [[c]]
theorem splitL_cons (c : Nat) (l : List Nat) : splitL (c :: l) = if c = 47 then [] :: splitL l else match splitL l with
    | h :: t => (c :: h) :: t
    | [] => [[c]] := rfl
theorem splitL_ne : ∀ l, splitL l ≠ []
  | [] => by simp [splitL]
  | c :: l => by
    unfold splitL
    split
    · simp
    · split <;> simp
theorem splitL_app : ∀ a b : List Nat, splitL (a ++ 47 :: b) = splitL a ++ splitL b
  | [], b => by simp [splitL]
  | c :: a, b => by
    have ih := splitL_app a b
    rw [List.cons_append, splitL_cons, splitL_cons, ih]
    split
    · rfl
    · cases h : splitL a with
      | nil => exact absurd h (splitL_ne a)
      | cons x r => rfl
theorem splitL_free : ∀ {a : List Nat}, 47 ∉ a → splitL a = [a]
  | [], _ => rfl
  | c :: a, h => by
    have ih := splitL_free (a := a) fun q => h (List.mem_cons_of_mem _ q)
    unfold splitL
    have hc : ¬ c = 47 := by rintro rfl; exact h List.mem_cons_self
    rw [if_neg hc, ih]
noncomputable def joinC : List (List Nat) → List Nat
  | [] => []
  | [x] => x
  | x :: y :: r => x ++ 47 :: joinC (y :: r)
theorem joinC_cons {x : List Nat} : ∀ {r : List (List Nat)}, r ≠ [] → joinC (x :: r) = x ++ 47 :: joinC r
  | [], h => absurd rfl h
  | _ :: _, _ => rfl
theorem split_join : ∀ {P : List (List Nat)}, P ≠ [] → (∀ p ∈ P, 47 ∉ p) → splitL (joinC P) = P
  | [], h, _ => absurd rfl h
  | [x], _, h => splitL_free (h x (.head _))
  | x :: y :: r, _, h => by
    show splitL (x ++ 47 :: joinC (y :: r)) = _
    rw [splitL_app, splitL_free (h x (.head _)), split_join (by simp) fun p hp => h p (.tail _ hp)]
    rfl
theorem ls_join : ∀ xs : List Str, ls (Str.join slS xs) = joinC (xs.map ls)
  | [] => rfl
  | [x] => rfl
  | x :: y :: r => by
    have ih := ls_join (y :: r)
    show ls (x ++ slS ++ Str.join slS (y :: r)) = _
    rw [ls_app, ls_app, slS_ls, ih]
    simp [joinC]
theorem ls_tjoin (xs : List Str) : ls (Txt.join slS xs) = joinC (xs.map ls) := by
  show ls (Builtin.Str.glued slS xs) = _
  rw [StrLaws.glued_eq_join, ls_join]
theorem tsplit_ne (x : Str) : Txt.split x slS ≠ [] := by
  unfold Txt.split
  split
  · simp
  · split
    · simp
    · obtain ⟨p, r, h⟩ := StrLaws.partsFrom_ne x slS.length 0 (Builtin.Str.occurrences x slS 0 x.length (x.length + 1))
      rw [StrLaws.partsBetween_eq, h]; simp
theorem tsplit_free (x : Str) : ∀ p ∈ Txt.split x slS, 47 ∉ ls p := by
  have := StrLaws.split_free x 47
  rw [← slS_mk] at this
  exact this
theorem tsplit_eq (x : Str) : (Txt.split x slS).map ls = splitL (ls x) := by
  have h := split_join (P := (Txt.split x slS).map ls) (by simp [tsplit_ne]) (by
    intro p hp
    obtain ⟨q, hq, rfl⟩ := List.mem_map.mp hp
    exact tsplit_free x q hq)
  rw [← h, ← ls_join, StrLaws.join_split]
theorem tsplit_mk (x : Str) : Txt.split x slS = (splitL (ls x)).map mkS := by
  rw [← tsplit_eq, List.map_map]
  have : (mkS ∘ ls) = id := by funext y; exact mkS_ls y
  rw [this, List.map_id]

/-- a step back from the end: the debt and the names -/
noncomputable def bst (s : Nat × List Str) (c : Str) : Nat × List Str :=
  if c = ddS then (s.1 + 1, s.2) else if c.length = 0 ∨ c = dtS then s else if 0 < s.1 then (s.1 - 1, s.2) else (s.1, c :: s.2)
noncomputable abbrev back (P : List Str) : Nat × List Str := P.foldr (fun c s => bst s c) (0, [])
theorem bst_dd (s : Nat × List Str) : bst s ddS = (s.1 + 1, s.2) := if_pos rfl
theorem dt_dd : ¬ dtS = ddS := by decide +kernel
theorem bst_skip {s : Nat × List Str} {c : Str} (h : c.length = 0 ∨ c = dtS) : bst s c = s := by
  unfold bst
  rw [if_neg, if_pos h]
  rintro rfl
  rcases h with h | h
  · revert h; decide +kernel
  · exact dt_dd h.symm
noncomputable def okName (c : Str) : Prop := c.length ≠ 0 ∧ c ≠ dtS ∧ c ≠ ddS ∧ 47 ∉ ls c
theorem bst_ok {s : Nat × List Str} {c : Str} (h : okName c) : bst s c = if 0 < s.1 then (s.1 - 1, s.2) else (s.1, c :: s.2) := by
  unfold bst
  rw [if_neg h.2.2.1, if_neg]
  rintro (q | q)
  · exact h.1 q
  · exact h.2.1 q
theorem kinds (c : Str) (hf : 47 ∉ ls c) : (c.length = 0 ∨ c = dtS) ∨ c = ddS ∨ okName c := by
  by_cases h1 : c.length = 0
  · exact .inl (.inl h1)
  · by_cases h2 : c = dtS
    · exact .inl (.inr h2)
    · by_cases h3 : c = ddS
      · exact .inr (.inl h3)
      · exact .inr (.inr ⟨h1, h2, h3, hf⟩)
theorem nst_skip {r : Str} {acc : List Str} {c : Str} (h : c.length = 0 ∨ c = dtS) : normStep r acc c = acc := by
  unfold normStep
  rcases h with h | h
  · rw [if_pos h]
  · subst h
    rw [if_neg (by decide +kernel), if_pos (by decide +kernel)]
theorem nst_ok {r : Str} {acc : List Str} {c : Str} (h : okName c) : normStep r acc c = acc ++ [c] := by
  unfold normStep
  rw [if_neg h.1, if_neg (by simpa using h.2.1), if_pos (by simpa using h.2.2.1)]
theorem nst_dd {r : Str} {acc : List Str} : normStep r acc ddS = if acc = [] then (if r.length = 0 then [ddS] else []) else if acc.getLastD (Str.ofString "") = ddS then acc ++ [ddS] else acc.dropLast := by
  unfold normStep
  rw [if_neg (by decide +kernel), if_neg (by decide +kernel), if_neg (by decide +kernel)]
  by_cases h : acc = []
  · subst h
    rw [if_pos rfl]
    by_cases h2 : r.length = 0
    · rw [if_pos ⟨h2, rfl⟩, if_pos h2]; rfl
    · rw [if_neg (fun q => h2 q.1), if_pos rfl, if_neg h2]
  · rw [if_neg (fun q => h q.2), if_neg h, if_neg h]
    by_cases h3 : acc.getLastD (Str.ofString "") = ddS
    · rw [if_pos (by simpa using h3), if_pos h3]
    · rw [if_neg (by simpa using h3), if_neg h3]
/-- debts, then names -/
noncomputable def stL (e : Nat) (M : List Str) : List Str := List.replicate e ddS ++ M
theorem stL_snoc (e : Nat) (M : List Str) (c : Str) : stL e M ++ [c] = stL e (M ++ [c]) := by simp [stL]
theorem stL_dd (e : Nat) : stL e [] ++ [ddS] = stL (e + 1) [] := by simp [stL, List.replicate_succ']
theorem stL_nil {e : Nat} {M : List Str} : stL e M = [] ↔ e = 0 ∧ M = [] := by simp [stL]
theorem last_snoc (l : List Str) (x y : Str) : (l ++ [x]).getLastD y = x := by simp [List.getLastD_eq_getLast?]
theorem step_dd {r : Str} {e : Nat} {M : List Str} (hr : r.length ≠ 0 → e = 0) (hM : ∀ c ∈ M, okName c) :
    normStep r (stL e M) ddS = if M = [] then (if r.length = 0 then stL (e + 1) [] else stL 0 []) else stL e M.dropLast := by
  rw [nst_dd]
  rcases List.eq_nil_or_concat M with rfl | ⟨M', m, rfl⟩
  · rw [if_pos rfl]
    cases e with
    | zero => simp [stL]
    | succ e =>
      have hr0 : r.length = 0 := by
        cases h : r.length with
        | zero => rfl
        | succ n => exact absurd (hr (by omega)) (by omega)
      rw [if_pos hr0, if_neg (by simp [stL]), if_pos (by rw [← stL_dd, last_snoc]), stL_dd, if_pos hr0]
  · rw [if_neg (by simp [stL]), List.concat_eq_append, ← stL_snoc, last_snoc]
    have hm := hM m (by simp)
    rw [if_neg hm.2.2.1, if_neg (by simp), List.dropLast_concat, List.dropLast_concat]
/-- names that pay the debts, the rest behind -/
noncomputable def comb (r : Str) (e : Nat) (M : List Str) (s : Nat × List Str) : List Str := stL (if r.length = 0 then e + (s.1 - M.length) else 0) (M.take (M.length - s.1) ++ s.2)
theorem comb_eq {r : Str} : ∀ (P : List Str) {e : Nat} {M : List Str}, (r.length ≠ 0 → e = 0) → (∀ c ∈ M, okName c) → (∀ c ∈ P, 47 ∉ ls c) → P.foldl (normStep r) (stL e M) = comb r e M (back P)
  | [], e, M, hr, hM, hP => by
    unfold comb
    by_cases h : r.length = 0
    · simp [h]
    · simp [h, hr h]
  | c :: P, e, M, hr, hM, hP => by
    have hP' : ∀ c ∈ P, 47 ∉ ls c := fun x hx => hP x (.tail _ hx)
    rw [List.foldl_cons]
    show _ = comb r e M (bst (back P) c)
    generalize hs : back P = s
    obtain ⟨d, ns⟩ := s
    rcases kinds c (hP c (.head _)) with h | h | h
    · rw [nst_skip h, bst_skip h, comb_eq P hr hM hP', hs]
    · subst h
      rw [step_dd hr hM, bst_dd]
      by_cases hn : M = []
      · subst hn
        rw [if_pos rfl]
        by_cases h0 : r.length = 0
        · rw [if_pos h0, comb_eq P (fun q => absurd h0 q) (by simp) hP', hs]
          unfold comb
          rw [if_pos h0, if_pos h0]
          simp only [List.length_nil, Nat.sub_zero, List.take_nil]
          rw [show e + 1 + d = e + (d + 1) by omega]
        · rw [if_neg h0, comb_eq P (fun _ => rfl) (by simp) hP', hs]
          unfold comb
          rw [if_neg h0, if_neg h0]
          simp
      · rw [if_neg hn]
        obtain rfl | ⟨M', m, rfl⟩ := List.eq_nil_or_concat M
        · exact absurd rfl hn
        rw [List.concat_eq_append, List.dropLast_concat, comb_eq P hr (fun x hx => hM x (by simp [hx])) hP', hs]
        unfold comb
        dsimp only
        rw [List.length_append, List.length_singleton, show d + 1 - (M'.length + 1) = d - M'.length by omega, show M'.length + 1 - (d + 1) = M'.length - d by omega, List.take_append_of_le_length (by omega)]
    · rw [nst_ok h, bst_ok h, stL_snoc, comb_eq P hr (fun x hx => by rcases List.mem_append.mp hx with hx | hx; exact hM x hx; rw [List.mem_singleton.mp hx]; exact h) hP', hs]
      unfold comb
      dsimp only
      rw [List.length_append, List.length_singleton]
      by_cases hd : 0 < d
      · rw [if_pos hd]
        dsimp only
        rw [List.take_append_of_le_length (by omega), show d - (M.length + 1) = d - 1 - M.length by omega, show M.length + 1 - d = M.length - (d - 1) by omega]
      · rw [if_neg hd]
        have hd0 : d = 0 := by omega
        subst hd0
        dsimp only
        rw [Nat.sub_zero, Nat.sub_zero, List.take_of_length_le (by simp), List.take_of_length_le (by simp)]
        simp

/-- how many slashes lead -/
noncomputable def rootN : List Nat → Nat
  | 47 :: 47 :: 47 :: _ => 1
  | 47 :: 47 :: _ => 2
  | 47 :: _ => 1
  | _ => 0
noncomputable abbrev rtS (k : Nat) : Str := mkS (List.replicate k 47)
theorem take1_sl {l : List Nat} : l.take 1 = [47] ↔ ∃ r, l = 47 :: r := by
  cases l with
  | nil => simp
  | cons a r => simp
theorem sl1 (x : Str) : Txt.slice x none (some 1) = slS ↔ ∃ r, ls x = 47 :: r := by
  have := slice_ns x 1
  rw [show ((1 : Nat) : Int) = 1 from rfl] at this
  rw [this, ← take1_sl]
  exact ⟨fun h => by have := congrArg ls h; rwa [ls_mkS, slS_ls] at this, fun h => ls_inj (by rw [ls_mkS, slS_ls]; exact h)⟩
theorem sl2 (x : Str) : Txt.slice x (some 1) (some 2) = slS ↔ ∃ r, (ls x).drop 1 = 47 :: r := by
  have := slice_ss x 1 2
  rw [show ((1 : Nat) : Int) = 1 from rfl, show ((2 : Nat) : Int) = 2 from rfl] at this
  rw [this, ← take1_sl]
  exact ⟨fun h => by have := congrArg ls h; rwa [ls_mkS, slS_ls] at this, fun h => ls_inj (by rw [ls_mkS, slS_ls]; exact h)⟩
theorem sl3 (x : Str) : Txt.slice x (some 2) (some 3) = slS ↔ ∃ r, (ls x).drop 2 = 47 :: r := by
  have := slice_ss x 2 3
  rw [show ((3 : Nat) : Int) = 3 from rfl, show ((2 : Nat) : Int) = 2 from rfl] at this
  rw [this, ← take1_sl]
  exact ⟨fun h => by have := congrArg ls h; rwa [ls_mkS, slS_ls] at this, fun h => ls_inj (by rw [ls_mkS, slS_ls]; exact h)⟩
theorem rootN_cases (l : List Nat) : (rootN l = 0 ∧ ¬ ∃ r, l = 47 :: r) ∨ (rootN l = 1 ∧ (∃ r, l = 47 :: r) ∧ ((¬ ∃ r, l.drop 1 = 47 :: r) ∨ ((∃ r, l.drop 1 = 47 :: r) ∧ ∃ r, l.drop 2 = 47 :: r))) ∨
    (rootN l = 2 ∧ (∃ r, l = 47 :: r) ∧ (∃ r, l.drop 1 = 47 :: r) ∧ ¬ ∃ r, l.drop 2 = 47 :: r) := by
  unfold rootN
  split
  · exact .inr (.inl ⟨rfl, ⟨_, rfl⟩, .inr ⟨⟨_, rfl⟩, ⟨_, rfl⟩⟩⟩)
  · rename_i r hn
    refine .inr (.inr ⟨rfl, ⟨_, rfl⟩, ⟨_, rfl⟩, ?_⟩)
    rintro ⟨r', h⟩
    exact hn r' (by simpa using h)
  · rename_i r hn1 hn
    refine .inr (.inl ⟨rfl, ⟨_, rfl⟩, .inl ?_⟩)
    rintro ⟨r', h⟩
    exact hn r' (by simpa using h)
  · rename_i hn
    refine .inl ⟨rfl, ?_⟩
    rintro ⟨r', h⟩
    exact hn r' h
theorem rt0 : Str.ofString "" = rtS 0 := by decide +kernel
theorem rt1 : Str.ofString "/" = rtS 1 := by decide +kernel
theorem rt2 : Str.ofString "//" = rtS 2 := by decide +kernel
theorem slice_from (x : Str) (a : Nat) : Txt.slice x (some (a : Int)) none = mkS ((ls x).drop a) := slice_sn x a
theorem bne_t {x y : Str} : ((x != y) = true) ↔ x ≠ y := by simp
theorem srRoot_eq (x : Str) : srRoot x = rtS (rootN (ls x)) := by
  unfold srRoot
  rcases rootN_cases (ls x) with ⟨h, h1⟩ | ⟨h, h1, h2⟩ | ⟨h, h1, h2, h3⟩
  · rw [h, if_pos (bne_t.mpr fun q => h1 ((sl1 x).mp q)), rt0]
  · rw [h, if_neg (fun q => bne_t.mp q ((sl1 x).mpr h1))]
    rcases h2 with h2 | ⟨h2, h3⟩
    · rw [if_pos (bne_t.mpr fun q => h2 ((sl2 x).mp q)), rt1]
    · rw [if_neg (fun q => bne_t.mp q ((sl2 x).mpr h2)), if_pos (by rw [(sl3 x).mpr h3]; exact beq_self_eq_true _), rt1]
  · rw [h, if_neg (fun q => bne_t.mp q ((sl1 x).mpr h1)), if_neg (fun q => bne_t.mp q ((sl2 x).mpr h2)), if_neg (fun q => h3 ((sl3 x).mp (by simpa using q)))]
    have := slice_ns x 2
    rw [show ((2 : Nat) : Int) = 2 from rfl] at this
    rw [this]
    obtain ⟨r, hr⟩ := h1
    obtain ⟨r', hr'⟩ := h2
    rw [hr] at hr' ⊢
    rw [List.drop_one, List.tail_cons] at hr'
    rw [hr']
    rfl
theorem srRest_eq (x : Str) : srRest x = mkS ((ls x).drop (rootN (ls x))) := by
  unfold srRest
  have d1 := slice_from x 1
  have d2 := slice_from x 2
  rw [show ((1 : Nat) : Int) = 1 from rfl] at d1
  rw [show ((2 : Nat) : Int) = 2 from rfl] at d2
  rcases rootN_cases (ls x) with ⟨h, h1⟩ | ⟨h, h1, h2⟩ | ⟨h, h1, h2, h3⟩
  · rw [h, if_pos (bne_t.mpr fun q => h1 ((sl1 x).mp q))]; rfl
  · rw [h, if_neg (fun q => bne_t.mp q ((sl1 x).mpr h1))]
    rcases h2 with h2 | ⟨h2, h3⟩
    · rw [if_pos (bne_t.mpr fun q => h2 ((sl2 x).mp q)), d1]
    · rw [if_neg (fun q => bne_t.mp q ((sl2 x).mpr h2)), if_pos (by rw [(sl3 x).mpr h3]; exact beq_self_eq_true _), d1]
  · rw [h, if_neg (fun q => bne_t.mp q ((sl1 x).mpr h1)), if_neg (fun q => bne_t.mp q ((sl2 x).mpr h2)), if_neg (fun q => h3 ((sl3 x).mp (by simpa using q))), d2]
/-- the path of a root and its pieces -/
noncomputable def rend (k : Nat) (L : List Str) : Str := if (rtS k ++ Txt.join slS L).length = 0 then dtS else rtS k ++ Txt.join slS L
theorem rend0_nil : rend 0 [] = dtS := by decide +kernel
theorem normS_eq (x : Str) : normS x = rend (rootN (ls x)) ((Txt.split (mkS ((ls x).drop (rootN (ls x)))) slS).foldl (normStep (rtS (rootN (ls x)))) []) := by
  unfold normS normL
  rw [srRoot_eq, srRest_eq]
  by_cases h : x.length = 0
  · rw [if_pos h]
    rw [len0_ls.mp h]
    decide +kernel
  · rw [if_neg h]; rfl
end

/-! ## Po -/
section
noncomputable abbrev absL (w : Str) : Prop := ∃ r, ls w = 47 :: r
theorem subAt0 (x : Str) : Builtin.Str.subAt x slS 0 = true ↔ absL x := by
  rw [StrLaws.subAt_eq]
  show ((List.take (ls slS).length (List.drop 0 (ls x)) == ls slS) = true) ↔ _
  rw [slS_ls]
  simp only [List.drop_zero, List.length_singleton, beq_iff_eq]
  exact take1_sl
theorem starts_iff (x : Str) : Txt.startswith x slS = true ↔ absL x := by
  unfold Txt.startswith
  rw [Bool.and_eq_true, subAt0, decide_eq_true_eq]
  constructor
  · exact fun h => h.2
  · intro h
    refine ⟨?_, h⟩
    obtain ⟨r, hr⟩ := h
    have : (ls x).length = r.length + 1 := by rw [hr]; rfl
    rw [len_ls] at this
    have h1 : slS.length = 1 := by decide +kernel
    omega
theorem ends_iff (x : Str) : Txt.endswith x slS = true ↔ ∃ r, ls x = r ++ [47] := by
  unfold Txt.endswith
  have h1 : slS.length = 1 := by decide +kernel
  rw [Bool.and_eq_true, decide_eq_true_eq, StrLaws.subAt_eq, h1]
  show _ ∧ ((List.take 1 (List.drop (x.length - 1) (ls x)) == ls slS) = true) ↔ _
  rw [slS_ls, beq_iff_eq]
  have hl := len_ls x
  constructor
  · rintro ⟨h, h2⟩
    refine ⟨(ls x).take (x.length - 1), ?_⟩
    have h3 : List.drop (x.length - 1) (ls x) = [47] := by
      rw [← h2, List.take_of_length_le]
      rw [List.length_drop]; omega
    rw [← h3, List.take_append_drop]
  · rintro ⟨r, hr⟩
    have : (ls x).length = r.length + 1 := by rw [hr]; simp
    refine ⟨by omega, ?_⟩
    rw [hr, show x.length - 1 = r.length by omega]
    simp
theorem joinStep_abs {p b : Str} (h : absL b) : joinStep p b = b := by unfold joinStep; rw [if_pos ((starts_iff b).mpr h)]
theorem joinStep_emp {b : Str} : joinStep (Str.ofString "") b = b := by
  unfold joinStep
  split
  · rfl
  · rw [if_pos (by decide +kernel)]
theorem joinStep_sl {p b : Str} (h : ¬ absL b) (h2 : p.length ≠ 0) (h3 : ∃ r, ls p = r ++ [47]) : joinStep p b = p ++ b := by
  unfold joinStep; rw [if_neg (fun q => h ((starts_iff b).mp q)), if_neg h2, if_pos ((ends_iff p).mpr h3)]
theorem joinStep_no {p b : Str} (h : ¬ absL b) (h2 : p.length ≠ 0) (h3 : ¬ ∃ r, ls p = r ++ [47]) : joinStep p b = p ++ (slS ++ b) := by
  unfold joinStep; rw [if_neg (fun q => h ((starts_iff b).mp q)), if_neg h2, if_neg (fun q => h3 ((ends_iff p).mp q))]

/-- root and pieces behind a word -/
noncomputable def stp (s : Nat × List Str) (w : Str) : Nat × List Str :=
  if 0 < rootN (ls w) then (rootN (ls w), (Txt.split (mkS ((ls w).drop (rootN (ls w)))) slS).foldl (normStep (rtS (rootN (ls w)))) [])
  else (s.1, (Txt.split w slS).foldl (normStep (rtS s.1)) s.2)
theorem root_pos {w : Str} : 0 < rootN (ls w) ↔ absL w := by
  rcases rootN_cases (ls w) with ⟨h, h1⟩ | ⟨h, h1, _⟩ | ⟨h, h1, _⟩ <;> rw [h] <;> simp [h1]
theorem rtS_len (k : Nat) : (rtS k).length = k := by rw [len_mkS]; simp
/-- states that occur -/
structure OkSt (s : Nat × List Str) : Prop where
  two : s.1 ≤ 2
  ex : ∃ e M, s.2 = stL e M ∧ (s.1 ≠ 0 → e = 0) ∧ ∀ c ∈ M, okName c
theorem ok_nil (k : Nat) (h : k ≤ 2) : OkSt (k, []) := ⟨h, 0, [], rfl, fun _ => rfl, fun _ h => nomatch h⟩
theorem back_ok : ∀ (P : List Str), (∀ c ∈ P, 47 ∉ ls c) → ∀ c ∈ (back P).2, okName c
  | [], _ => fun _ h => nomatch h
  | c :: P, hP => by
    have ih := back_ok P fun x hx => hP x (.tail _ hx)
    show ∀ x ∈ (bst (back P) c).2, okName x
    rcases kinds c (hP c (.head _)) with h | h | h
    · rw [bst_skip h]; exact ih
    · subst h; rw [bst_dd]; exact ih
    · rw [bst_ok h]
      split
      · exact ih
      · intro x hx
        rcases List.mem_cons.mp hx with rfl | hx
        · exact h
        · exact ih x hx
theorem fold_ok {k : Nat} {L P : List Str} (h : OkSt (k, L)) (hP : ∀ c ∈ P, 47 ∉ ls c) : OkSt (k, P.foldl (normStep (rtS k)) L) := by
  obtain ⟨h2, e, M, rfl, he, hM⟩ := h
  refine ⟨h2, ?_⟩
  rw [comb_eq P (by rw [rtS_len]; exact he) hM hP]
  refine ⟨_, _, rfl, fun hk => if_neg (by rw [rtS_len]; exact hk), fun c hc => ?_⟩
  rcases List.mem_append.mp hc with hc | hc
  · exact hM c (List.mem_of_mem_take hc)
  · exact back_ok P hP c hc
theorem rootN_le (l : List Nat) : rootN l ≤ 2 := by
  rcases rootN_cases l with ⟨h, _⟩ | ⟨h, _⟩ | ⟨h, _⟩ <;> omega
theorem stp_ok {s : Nat × List Str} (h : OkSt s) (w : Str) : OkSt (stp s w) := by
  unfold stp
  split
  · exact fold_ok (ok_nil _ (rootN_le _)) (tsplit_free _)
  · exact fold_ok h (tsplit_free _)
/-- a normal list of pieces stays as it is -/
theorem fold_self {r : Str} {e : Nat} : ∀ {M : List Str}, (r.length ≠ 0 → e = 0) → (∀ c ∈ M, okName c) → (stL e M).foldl (normStep r) [] = stL e M := by
  intro M hr hM
  have h1 : ∀ n, (r.length ≠ 0 → n = 0) → (List.replicate n ddS).foldl (normStep r) [] = stL n [] := by
    intro n
    induction n with
    | zero => intro _; rfl
    | succ n ih =>
      intro hn
      have h0 : r.length = 0 := by
        cases h : r.length with
        | zero => rfl
        | succ q => exact absurd (hn (by omega)) (by omega)
      rw [List.replicate_succ', List.foldl_append, ih (fun q => absurd h0 q)]
      show normStep r (stL n []) ddS = _
      rw [step_dd (fun q => absurd h0 q) (by simp), if_pos rfl, if_pos h0]
  have h2 : ∀ (M A : List Str), (∀ c ∈ M, okName c) → M.foldl (normStep r) A = A ++ M := by
    intro M
    induction M with
    | nil => intro A _; simp
    | cons c M ih =>
      intro A h
      rw [List.foldl_cons, nst_ok (h c (.head _)), ih _ fun x hx => h x (.tail _ hx)]
      simp
  show (List.replicate e ddS ++ M).foldl (normStep r) [] = _
  rw [List.foldl_append, h1 e hr, h2 M _ hM]
  simp [stL]
/-- pieces that may stand in a normal list -/
noncomputable def okP (c : Str) : Prop := c.length ≠ 0 ∧ 47 ∉ ls c ∧ c ≠ dtS
theorem okP_of {e : Nat} {M : List Str} (hM : ∀ c ∈ M, okName c) : ∀ c ∈ stL e M, okP c := by
  intro c hc
  rcases List.mem_append.mp hc with h | h
  · rw [List.eq_of_mem_replicate h]
    refine ⟨by decide +kernel, by decide +kernel, fun q => dt_dd q.symm⟩
  · have := hM c h; exact ⟨this.1, this.2.2.2, this.2.1⟩
/-- the glued pieces: they begin and end with no slash -/
theorem join_first : ∀ {L : List Str}, L ≠ [] → (∀ c ∈ L, okP c) → ∃ a r, joinC (L.map ls) = a :: r ∧ a ≠ 47
  | [], h, _ => absurd rfl h
  | c :: L, _, h => by
    have hc := h c (.head _)
    have hne : ls c ≠ [] := fun q => hc.1 (len0_ls.mpr q)
    obtain ⟨a, r, hr⟩ := List.exists_cons_of_ne_nil hne
    have ha : a ≠ 47 := by rintro rfl; exact hc.2.1 (by rw [hr]; exact .head _)
    cases L with
    | nil => exact ⟨a, r, hr, ha⟩
    | cons d L =>
      refine ⟨a, r ++ 47 :: joinC ((d :: L).map ls), ?_, ha⟩
      show ls c ++ 47 :: joinC ((d :: L).map ls) = _
      rw [hr]; rfl
theorem join_last : ∀ {L : List Str}, L ≠ [] → (∀ c ∈ L, okP c) → ∃ a r, joinC (L.map ls) = r ++ [a] ∧ a ≠ 47
  | [], h, _ => absurd rfl h
  | [c], _, h => by
    have hc := h c (.head _)
    have hne : ls c ≠ [] := fun q => hc.1 (len0_ls.mpr q)
    obtain h1 | ⟨r, a, hr⟩ := List.eq_nil_or_concat (ls c)
    · exact absurd h1 hne
    · rw [List.concat_eq_append] at hr
      exact ⟨a, r, hr, by rintro rfl; exact hc.2.1 (by rw [hr]; simp)⟩
  | c :: d :: L, _, h => by
    obtain ⟨a, r, hr, ha⟩ := join_last (L := d :: L) (by simp) fun x hx => h x (.tail _ hx)
    refine ⟨a, ls c ++ 47 :: r, ?_, ha⟩
    show ls c ++ 47 :: joinC ((d :: L).map ls) = _
    rw [hr]; simp
theorem rtS_ls (k : Nat) : ls (rtS k) = List.replicate k 47 := rfl
theorem rend_cons {k : Nat} {L : List Str} (h : L ≠ []) (hL : ∀ c ∈ L, okP c) : rend k L = mkS (List.replicate k 47 ++ joinC (L.map ls)) := by
  have e : rtS k ++ Txt.join slS L = mkS (List.replicate k 47 ++ joinC (L.map ls)) := ls_inj (by rw [ls_app, ls_tjoin])
  unfold rend
  rw [e, if_neg]
  obtain ⟨a, r, hr, _⟩ := join_first h hL
  rw [len_mkS, hr]; simp
theorem rend_root {k : Nat} (h : k ≠ 0) : rend k [] = rtS k := by
  have e : rtS k ++ Txt.join slS [] = rtS k := ls_inj (by rw [ls_app, ls_tjoin]; simp [joinC])
  unfold rend
  rw [e, if_neg (by rw [rtS_len]; exact h)]
theorem rootN_rep {k : Nat} {l : List Nat} (hk : k ≤ 2) (h : ¬ ∃ r, l = 47 :: r) : rootN (List.replicate k 47 ++ l) = k := by
  have hl : ∀ r, l ≠ 47 :: r := fun r q => h ⟨r, q⟩
  match k, hk with
  | 0, _ => rcases rootN_cases l with ⟨q, _⟩ | ⟨_, q, _⟩ | ⟨_, q, _⟩; exact q; exact absurd q h; exact absurd q h
  | 1, _ =>
    rcases rootN_cases (List.replicate 1 47 ++ l) with ⟨_, q⟩ | ⟨q, _⟩ | ⟨_, _, q, _⟩
    · exact absurd ⟨l, rfl⟩ q
    · exact q
    · exact absurd q (by simpa using hl)
  | 2, _ =>
    rcases rootN_cases (List.replicate 2 47 ++ l) with ⟨_, q⟩ | ⟨q, _, q2 | ⟨_, q2⟩⟩ | ⟨q, _⟩
    · exact absurd ⟨47 :: l, rfl⟩ q
    · exact absurd ⟨l, rfl⟩ q2
    · exact absurd q2 (by simpa using hl)
    · exact q
theorem splitL_map (l : List Nat) : (splitL l).map mkS = Txt.split (mkS l) slS := by rw [tsplit_mk, ls_mkS]
theorem normS_rep {k : Nat} {l : List Nat} (hk : k ≤ 2) (h : ¬ ∃ r, l = 47 :: r) : normS (mkS (List.replicate k 47 ++ l)) = rend k (((splitL l).map mkS).foldl (normStep (rtS k)) []) := by
  rw [normS_eq, ls_mkS, rootN_rep hk h, splitL_map]
  rw [List.drop_left' (by simp)]
theorem map_ls_mkS (L : List Str) : (L.map ls).map mkS = L := by
  rw [List.map_map]
  have : (mkS ∘ ls) = id := by funext y; exact mkS_ls y
  rw [this, List.map_id]
/-- normpath of join, a word on -/
theorem norm_join {s : Nat × List Str} (h : OkSt s) (w : Str) : normS (joinStep (rend s.1 s.2) w) = rend (stp s w).1 (stp s w).2 := by
  obtain ⟨k, L⟩ := s
  obtain ⟨h2, e, M, rfl, he, hM⟩ := h
  dsimp only at h2 he ⊢
  unfold stp
  by_cases ha : absL w
  · rw [if_pos (root_pos.mpr ha), joinStep_abs ha, normS_eq]
  · rw [if_neg (fun q => ha (root_pos.mp q))]
    dsimp only
    by_cases hL : stL e M = []
    · rw [hL]
      by_cases hk : k = 0
      · subst hk
        rw [rend0_nil, joinStep_no ha (by decide +kernel) (by rw [dtS_ls]; rintro ⟨r, hr⟩; cases r with | nil => cases hr | cons a r => simp at hr)]
        have e1 : dtS ++ (slS ++ w) = mkS (List.replicate 0 47 ++ (46 :: 47 :: ls w)) := ls_inj (by rw [ls_app, ls_app, dtS_ls, slS_ls]; rfl)
        rw [e1, normS_rep (by omega) (by simp)]
        have e2 : (splitL (46 :: 47 :: ls w)).map mkS = dtS :: Txt.split w slS := by
          rw [show (46 :: 47 :: ls w) = [46] ++ 47 :: ls w from rfl, splitL_app, splitL_free (by decide), List.map_append, splitL_map, mkS_ls]
          have : dtS = mkS [46] := by decide +kernel
          rw [this]; rfl
        rw [e2, List.foldl_cons, nst_skip (.inr rfl)]
      · rw [rend_root hk, joinStep_sl ha (by rw [rtS_len]; exact hk) (by
          refine ⟨List.replicate (k - 1) 47, ?_⟩
          rw [rtS_ls, ← List.replicate_succ', show k - 1 + 1 = k by omega])]
        have e1 : rtS k ++ w = mkS (List.replicate k 47 ++ ls w) := ls_inj (by rw [ls_app])
        rw [e1, normS_rep h2 ha, splitL_map, mkS_ls]
    · have hP := okP_of (e := e) hM
      obtain ⟨a, r, hr, ha1⟩ := join_first hL hP
      obtain ⟨z, r', hr', hz⟩ := join_last hL hP
      rw [rend_cons hL hP, joinStep_no ha (by rw [len_mkS, hr]; simp) (by
        rw [ls_mkS, hr', ← List.append_assoc]
        rintro ⟨q, hq⟩
        have := congrArg List.getLast? hq
        simp at this
        exact hz this)]
      have e1 : mkS (List.replicate k 47 ++ joinC ((stL e M).map ls)) ++ (slS ++ w) = mkS (List.replicate k 47 ++ (joinC ((stL e M).map ls) ++ 47 :: ls w)) := ls_inj (by rw [ls_app, ls_app, slS_ls, ls_mkS, ls_mkS]; simp)
      rw [e1, normS_rep h2 (by rw [hr]; rintro ⟨q, hq⟩; simp at hq; exact ha1 hq.1), splitL_app, split_join (by simpa using hL) (by
        intro p hp
        obtain ⟨c, hc, rfl⟩ := List.mem_map.mp hp
        exact (hP c hc).2.1)]
      rw [List.map_append, map_ls_mkS, splitL_map, mkS_ls, List.foldl_append, fold_self (by rw [rtS_len]; exact he) hM]
theorem norm_join0 (w : Str) : normS (joinStep (Str.ofString "") w) = rend (stp (0, []) w).1 (stp (0, []) w).2 := by
  rw [joinStep_emp, normS_eq]
  unfold stp
  split
  · rfl
  · rename_i h
    have h0 : rootN (ls w) = 0 := by omega
    rw [h0]; rfl
end

/-! ## Pp -/
section
noncomputable def rootP (w : Str) : Str := if (Txt.slice w none (some 2) == Str.ofString "//") = true ∧ (Txt.slice w none (some 3) != Str.ofString "///") = true then Str.ofString "//" else slS
noncomputable def outP (s : Nat × List Str) : Str := if (Txt.join slS (List.replicate s.1 ddS ++ s.2)).length = 0 then dtS else Txt.join slS (List.replicate s.1 ddS ++ s.2)
/-- the words read from the last one back -/
noncomputable def placeR : List Str → Nat × List Str → Str
  | [], s => outP s
  | w :: r, s => if (Txt.slice w none (some 1) == slS) = true then rootP w ++ Txt.join slS ((Txt.split w slS).reverse.foldl bst s).2 else placeR r ((Txt.split w slS).reverse.foldl bst s)
theorem bst1 {s : Nat × List Str} {c : Str} (h : (c == ddS) = true) : bst s c = (s.1 + 1, s.2) := by unfold bst; rw [if_pos (by simpa using h)]
theorem bst2 {s : Nat × List Str} {c : Str} (h : (c == ddS) = false) (h2 : ([Str.ofString "", dtS].any fun x => x == c) = true) : bst s c = s := by
  unfold bst
  rw [if_neg (by simpa using h), if_pos]
  simp only [List.any_cons, List.any_nil, Bool.or_false, Bool.or_eq_true, beq_iff_eq] at h2
  rcases h2 with h2 | h2
  · exact .inl (len0_emp.mpr h2.symm)
  · exact .inr h2.symm
theorem bst34 {s : Nat × List Str} {c : Str} (h : (c == ddS) = false) (h2 : ([Str.ofString "", dtS].any fun x => x == c) = false) : bst s c = if 0 < s.1 then (s.1 - 1, s.2) else (s.1, c :: s.2) := by
  unfold bst
  rw [if_neg (by simpa using h), if_neg]
  simp only [List.any_cons, List.any_nil, Bool.or_false, Bool.or_eq_false_iff, beq_eq_false_iff_ne] at h2
  rintro (q | q)
  · exact h2.1 (len0_emp.mp q).symm
  · exact h2.2 q.symm
theorem foldB_take {ps : List Str} {s : Nat × List Str} {i : Nat} {y : Str} (h : ps[i]? = some y) : (ps.take (i + 1)).foldl bst s = bst ((ps.take i).foldl bst s) y := by
  rw [List.take_add_one, h, List.foldl_append]; rfl
theorem bst_size (s : Nat × List Str) (c : Str) : (bst s c).1 + wgt (bst s c).2 ≤ s.1 + wgt s.2 + (c.length + 1) := by
  unfold bst
  have e : wgt (c :: s.2) = c.length + 1 + wgt s.2 := by simp [wgt]
  (repeat' split) <;> (try dsimp only) <;> (try rw [e]) <;> omega
theorem foldB_size : ∀ (ps : List Str) (s : Nat × List Str), (ps.foldl bst s).1 + wgt (ps.foldl bst s).2 ≤ s.1 + wgt s.2 + wgt ps
  | [], s => by simp [wgt]
  | c :: r, s => by
    have h := foldB_size r (bst s c)
    have h2 := bst_size s c
    have e : wgt (c :: r) = c.length + 1 + wgt r := by simp [wgt]
    rw [List.foldl_cons, e]; omega
theorem wgt_rev (xs : List Str) : wgt xs.reverse = wgt xs := by
  induction xs with
  | nil => rfl
  | cons x r ih =>
    have e : wgt (x :: r) = x.length + 1 + wgt r := by simp [wgt]
    rw [List.reverse_cons, wgt_app, ih, wgt_one, e]; omega

/-- the states behind the words -/
noncomputable def stW (ws : List Str) : Nat × List Str := ws.foldl stp (0, [])
theorem stW_ok : ∀ (ws : List Str) {s : Nat × List Str}, OkSt s → OkSt (ws.foldl stp s)
  | [], _, h => h
  | w :: r, _, h => stW_ok r (stp_ok h w)
theorem rev_back (P : List Str) (s : Nat × List Str) : P.reverse.foldl bst s = P.foldr (fun c s => bst s c) s := by rw [List.foldl_reverse]
theorem sl1_iff (w : Str) : ((Txt.slice w none (some 1) == slS) = true) ↔ absL w := by
  rw [beq_iff_eq]; exact sl1 w
theorem rootP_eq {w : Str} (h : absL w) : rootP w = rtS (rootN (ls w)) := by
  have d2 := slice_ns w 2
  have d3 := slice_ns w 3
  rw [show ((2 : Nat) : Int) = 2 from rfl] at d2
  rw [show ((3 : Nat) : Int) = 3 from rfl] at d3
  have e2 : Str.ofString "//" = mkS [47, 47] := by decide +kernel
  have e3 : Str.ofString "///" = mkS [47, 47, 47] := by decide +kernel
  have inj : ∀ {a c : List Nat}, (mkS a == mkS c) = true ↔ a = c := fun {a c} => by
    rw [beq_iff_eq]
    exact ⟨fun q => congrArg ls q, fun q => by rw [q]⟩
  unfold rootP
  rw [d2, d3]
  rcases rootN_cases (ls w) with ⟨_, h1⟩ | ⟨h0, h1, h2⟩ | ⟨h0, h1, h2, h3⟩
  · exact absurd h h1
  · rw [h0, if_neg]
    · exact rt1
    rintro ⟨q1, q2⟩
    rw [e2, inj] at q1
    rcases h2 with h2 | ⟨h2, h3⟩
    · obtain ⟨r, hr⟩ := h1
      apply h2
      rw [hr] at q1 ⊢
      cases r with
      | nil => simp at q1
      | cons a r => simp at q1; exact ⟨r, by rw [q1]; rfl⟩
    · obtain ⟨r, hr⟩ := h1
      obtain ⟨r2, hr2⟩ := h2
      obtain ⟨r3, hr3⟩ := h3
      rw [hr] at hr2 hr3
      rw [List.drop_one, List.tail_cons] at hr2
      rw [hr2] at hr3
      have hr4 : r2 = 47 :: r3 := by simpa using hr3
      rw [bne_t, e3, hr, hr2, hr4] at q2
      exact q2 rfl
  · obtain ⟨r, hr⟩ := h1
    obtain ⟨r2, hr2⟩ := h2
    rw [hr] at hr2 h3
    rw [List.drop_one, List.tail_cons] at hr2
    rw [h0, if_pos, rt2]
    refine ⟨?_, ?_⟩
    · rw [e2, inj, hr, hr2]; rfl
    · rw [bne_t, e3]
      intro q
      have q' : (ls w).take 3 = [47, 47, 47] := congrArg ls q
      rw [hr, hr2] at q'
      apply h3
      rw [hr2]
      cases r2 with
      | nil => simp at q'
      | cons a r3 => simp at q'; exact ⟨r3, by rw [q']; rfl⟩
theorem back_app (P R : List Str) : (P ++ R).foldr (fun c s => bst s c) (0, []) = P.foldr (fun c s => bst s c) (back R) := by rw [List.foldr_append]
theorem outP_eq (s : Nat × List Str) : outP s = rend 0 (stL s.1 s.2) := by
  unfold outP rend stL
  have : rtS 0 ++ Txt.join slS (List.replicate s.1 ddS ++ s.2) = Txt.join slS (List.replicate s.1 ddS ++ s.2) := ls_inj (by rw [ls_app]; rfl)
  rw [this]
theorem split_skip (w : Str) (P : List Str) : back (Txt.split w slS ++ P) = back (Txt.split (mkS ((ls w).drop (rootN (ls w)))) slS ++ P) := by
  have key : ∀ l : List Nat, back ((splitL (47 :: l)).map mkS ++ P) = back ((splitL l).map mkS ++ P) := by
    intro l
    rw [splitL_cons, if_pos rfl, List.map_cons, List.cons_append]
    show bst (back _) (mkS []) = _
    rw [bst_skip (.inl rfl)]
  rw [tsplit_mk w, ← splitL_map]
  rcases rootN_cases (ls w) with ⟨h0, _⟩ | ⟨h0, ⟨r, hr⟩, _⟩ | ⟨h0, ⟨r, hr⟩, ⟨r2, hr2⟩, _⟩
  · rw [h0]; rfl
  · rw [h0, hr, key]; rfl
  · rw [hr, List.drop_one, List.tail_cons] at hr2
    rw [h0, hr, hr2, key, key]; rfl
theorem snoc_ind {P : List Str → Prop} (h0 : P []) (hs : ∀ l x, P l → P (l ++ [x])) (l : List Str) : P l := by
  have : ∀ r : List Str, P r.reverse := fun r => by
    induction r with
    | nil => exact h0
    | cons x r ih => rw [List.reverse_cons]; exact hs _ _ ih
  have h := this l.reverse
  rwa [List.reverse_reverse] at h
theorem place_rev : ∀ (ws : List Str) (P : List Str), (∀ c ∈ P, 47 ∉ ls c) → placeR ws.reverse (back P) = rend (stW ws).1 (P.foldl (normStep (rtS (stW ws).1)) (stW ws).2) := by
  intro ws
  refine snoc_ind (P := fun ws => ∀ P : List Str, (∀ c ∈ P, 47 ∉ ls c) → placeR ws.reverse (back P) = rend (stW ws).1 (P.foldl (normStep (rtS (stW ws).1)) (stW ws).2)) ?_ (fun ws w ih => ?_) ws
  · intro P hP
    show outP (back P) = rend 0 (P.foldl (normStep (rtS 0)) (stL 0 []))
    rw [comb_eq P (fun _ => rfl) (by simp) hP, outP_eq]
    unfold comb
    rw [if_pos (by rw [rtS_len])]
    simp
  · intro P hP
    have hok : OkSt (stW ws) := stW_ok ws (ok_nil 0 (by omega))
    rw [List.reverse_append, List.reverse_singleton, List.singleton_append]
    have est : stW (ws ++ [w]) = stp (stW ws) w := by unfold stW; rw [List.foldl_append]; rfl
    rw [est]
    have hback : (Txt.split w slS).reverse.foldl bst (back P) = back (Txt.split w slS ++ P) := by rw [rev_back]; exact (List.foldr_append ..).symm
    have hfree : ∀ c ∈ Txt.split w slS ++ P, 47 ∉ ls c := fun c hc => by
      rcases List.mem_append.mp hc with hc | hc
      · exact tsplit_free w c hc
      · exact hP c hc
    unfold placeR
    rw [hback]
    unfold stp
    by_cases ha : absL w
    · rw [if_pos ((sl1_iff w).mpr ha), if_pos (root_pos.mpr ha)]
      dsimp only
      have hk : rootN (ls w) ≠ 0 := by have := root_pos.mpr ha; omega
      have hfree2 : ∀ c ∈ Txt.split (mkS ((ls w).drop (rootN (ls w)))) slS ++ P, 47 ∉ ls c := fun c hc => by
        rcases List.mem_append.mp hc with hc | hc
        · exact tsplit_free _ c hc
        · exact hP c hc
      rw [← List.foldl_append, split_skip]
      have hc := comb_eq (r := rtS (rootN (ls w))) _ (e := 0) (M := []) (fun _ => rfl) (by simp) hfree2
      rw [show stL 0 [] = [] from rfl] at hc
      rw [hc, rootP_eq ha]
      have hcb : comb (rtS (rootN (ls w))) 0 [] (back (Txt.split (mkS ((ls w).drop (rootN (ls w)))) slS ++ P)) = (back (Txt.split (mkS ((ls w).drop (rootN (ls w)))) slS ++ P)).2 := by
        unfold comb
        rw [if_neg (by rw [rtS_len]; exact hk)]
        simp [stL]
      rw [hcb]
      unfold rend
      rw [if_neg (by rw [Str.length_append, rtS_len]; omega)]
    · rw [if_neg (fun q => ha ((sl1_iff w).mp q)), if_neg (fun q => ha (root_pos.mp q))]
      dsimp only
      rw [← List.foldl_append]
      exact ih _ hfree
/-- the path behind the words, by normpath of join, word by word -/
noncomputable def hereS (ws : List Str) : Str := ws.foldl (fun h w => normS (joinStep h w)) (Str.ofString "")
theorem here_snoc (ws : List Str) (w : Str) : hereS (ws ++ [w]) = normS (joinStep (hereS ws) w) := by unfold hereS; rw [List.foldl_append]; rfl
theorem here_eq : ∀ (ws : List Str), ws ≠ [] → hereS ws = rend (stW ws).1 (stW ws).2 := by
  intro ws
  refine snoc_ind (P := fun ws => ws ≠ [] → hereS ws = rend (stW ws).1 (stW ws).2) ?_ (fun ws w ih => ?_) ws
  · intro h; exact absurd rfl h
  · intro _
    rw [here_snoc]
    have est : stW (ws ++ [w]) = stp (stW ws) w := by unfold stW; rw [List.foldl_append]; rfl
    rw [est]
    by_cases hn : ws = []
    · subst hn
      exact norm_join0 w
    · rw [ih hn]
      exact norm_join (stW_ok ws (ok_nil 0 (by omega))) w
/-- the two readings of the place are one -/
theorem place_here (ws : List Str) (h : ws ≠ []) : placeR ws.reverse (0, []) = hereS ws := by
  rw [here_eq ws h]
  exact place_rev ws [] (by simp)
theorem placeR_abs {w : Str} {r : List Str} {s : Nat × List Str} (h : (Txt.slice w none (some 1) == slS) = true) : placeR (w :: r) s = rootP w ++ Txt.join slS ((Txt.split w slS).reverse.foldl bst s).2 := by
  show (if _ then _ else _) = _
  rw [if_pos h]
theorem placeR_rel {w : Str} {r : List Str} {s : Nat × List Str} (h : (Txt.slice w none (some 1) == slS) = false) : placeR (w :: r) s = placeR r ((Txt.split w slS).reverse.foldl bst s) := by
  show (if _ then _ else _) = _
  rw [if_neg (by rw [h]; decide)]
theorem wgt_drop_take (xs : List Str) (i : Nat) : wgt (xs.take i) ≤ wgt xs := by
  have h : wgt (xs.take i ++ xs.drop i) = wgt xs := by rw [List.take_append_drop]
  rw [wgt_app] at h
  omega
theorem wgt_rep (d : Nat) : wgt (List.replicate d ddS) = 3 * d := by
  induction d with
  | zero => rfl
  | succ d ih =>
    rw [List.replicate_succ]
    have e : wgt (ddS :: List.replicate d ddS) = ddS.length + 1 + wgt (List.replicate d ddS) := by simp [wgt]
    have h2 : ddS.length = 2 := by decide +kernel
    rw [e, ih, h2]; omega
theorem outP_some {s : Nat × List Str} (h : ¬ ((Txt.join slS (List.replicate s.1 ddS ++ s.2)).length : Int) = 0) : outP s = Txt.join slS (List.replicate s.1 ddS ++ s.2) := by unfold outP; rw [if_neg (by omega)]
theorem outP_none {s : Nat × List Str} (h : ((Txt.join slS (List.replicate s.1 ddS ++ s.2)).length : Int) = 0) : outP s = dtS := by unfold outP; rw [if_pos (by omega)]
theorem len_getD {ws : List Str} (k : Nat) : (ws.getD k Str.empty).length ≤ wgt ws := by
  cases h : ws[k]? with
  | none =>
    rw [List.getD_eq_getElem?_getD, h]
    exact Nat.zero_le _
  | some y =>
    rw [List.getD_eq_getElem?_getD, h]
    have := wgt_mem h
    show y.length ≤ _
    omega
theorem sz_getD {ws : List Str} (h : wgt ws ≤ 120) (k : Nat) : (ws.getD k Str.empty).length ≤ sizeLine := by
  have := len_getD (ws := ws) k
  rw [sizeLine_eq]; omega
/-- a word with a slash set behind it -/
noncomputable def addS (x : Str) : Str := if (Txt.item x (-1) == slS) = true then x else x ++ slS
theorem emp0' : (Str.ofString "").length = 0 := by decide +kernel
theorem len_mem {xs : List Str} {a : Str} (h : a ∈ xs) : a.length + 1 ≤ wgt xs := by
  obtain ⟨i, hi⟩ := List.mem_iff_getElem?.mp h
  have := wgt_mem hi
  omega
theorem addS_len (x : Str) : (addS x).length ≤ x.length + 1 := by
  unfold addS
  have h1 : slS.length = 1 := by decide +kernel
  split
  · omega
  · rw [Str.length_append, h1]; omega
theorem wgt_addS (p : Str → Bool) : ∀ xs : List Str, wgt ((xs.filter p).map addS) ≤ 2 * wgt xs
  | [] => by simp [wgt]
  | x :: r => by
    have ih := wgt_addS p r
    have e : wgt (x :: r) = x.length + 1 + wgt r := by simp [wgt]
    have h := addS_len x
    rw [List.filter_cons]
    split
    · rw [List.map_cons]
      have e2 : wgt (addS x :: (r.filter p).map addS) = (addS x).length + 1 + wgt ((r.filter p).map addS) := by simp [wgt]
      rw [e, e2]; omega
    · rw [e]; omega
theorem lastD_len (xs : List Str) : (xs.getLastD (Str.ofString "")).length ≤ wgt xs := by
  rcases List.eq_nil_or_concat xs with rfl | ⟨l, x, rfl⟩
  · decide +kernel
  · rw [List.concat_eq_append, last_snoc]
    have := len_mem (xs := l ++ [x]) (a := x) (by simp)
    omega
theorem join0_len (xs : List Str) : (Txt.join (Str.ofString "") xs).length ≤ wgt xs := by
  show (Builtin.Str.glued (Str.ofString "") xs).length ≤ _
  rw [StrLaws.glued_eq_join]
  have := StrLaws.join_length_le (Str.ofString "") xs
  rw [emp0'] at this
  have h2 := wgt_sum xs
  omega
noncomputable def glueS (rest : List Str) : Str := Txt.join (Str.ofString "") ((rest.filter (fun x => x != Str.ofString "")).map addS)
/-- the law's text of the words from the last root on -/
noncomputable def textS (rest : List Str) : Str := if ([Str.ofString "", slS].any fun x => x == Txt.slice (rest.getLastD (Str.ofString "")) (some (-1)) none) = true then glueS rest else Txt.slice (glueS rest) none (some (-1))
/-- the place of the last word with a root -/
noncomputable def rootsL (ws : List Str) (n : Nat) : List Int := (rangeKs 0 n).foldl (fun l' k' => if Txt.slice (ws.getD k'.toNat Str.empty) none (some 1) = slS then l' ++ [k'] else l') []
noncomputable def lastRoot : List Str → Nat
  | [] => 0
  | w :: r => if (r.any fun x => Txt.slice x none (some 1) == slS) = true then lastRoot r + 1 else 0
theorem lastRoot_lt : ∀ {ws : List Str}, ws ≠ [] → lastRoot ws < ws.length
  | [], h => absurd rfl h
  | w :: r, _ => by
    unfold lastRoot
    split
    · rename_i h
      have : r ≠ [] := by rintro rfl; cases h
      have := lastRoot_lt this
      rw [List.length_cons]; omega
    · rw [List.length_cons]; omega
end

/-! ## Pt -/
section
open PySem PySem.W PyProof.Rows PySem.Calls Builtin Builtin.Str
noncomputable abbrev absB (x : Str) : Bool := Txt.slice x none (some 1) == slS
theorem roots_mem {ws : List Str} : ∀ (l : List Int) (acc : List Int) (k : Int), k ∈ l.foldl (fun l' k' => if Txt.slice (ws.getD k'.toNat Str.empty) none (some 1) = slS then l' ++ [k'] else l') acc ↔ k ∈ acc ∨ (k ∈ l ∧ absB (ws.getD k.toNat Str.empty) = true)
  | [], acc, k => by simp
  | x :: l, acc, k => by
    rw [List.foldl_cons, roots_mem l]
    by_cases hx : Txt.slice (ws.getD x.toNat Str.empty) none (some 1) = slS
    · rw [if_pos hx]
      simp only [List.mem_append, List.mem_cons, List.not_mem_nil, or_false]
      constructor
      · rintro ((h | h) | h)
        · exact .inl h
        · subst h; exact .inr ⟨.inl rfl, by simpa using hx⟩
        · exact .inr ⟨.inr h.1, h.2⟩
      · rintro (h | ⟨h | h, h2⟩)
        · exact .inl (.inl h)
        · exact .inl (.inr h)
        · exact .inr ⟨h, h2⟩
    · rw [if_neg hx]
      simp only [List.mem_cons]
      constructor
      · rintro (h | h)
        · exact .inl h
        · exact .inr ⟨.inr h.1, h.2⟩
      · rintro (h | ⟨h | h, h2⟩)
        · exact .inl h
        · subst h; exact absurd (by simpa using h2) hx
        · exact .inr ⟨h, h2⟩
theorem last_abs : ∀ {ws : List Str}, (ws.any absB) = true → absB (ws.getD (lastRoot ws) Str.empty) = true
  | [], h => by cases h
  | w :: r, h => by
    unfold lastRoot
    by_cases hr : (r.any fun x => Txt.slice x none (some 1) == slS) = true
    · rw [if_pos hr]
      exact last_abs (ws := r) hr
    · rw [if_neg hr]
      rw [List.any_cons, Bool.or_eq_true] at h
      exact h.resolve_right hr
theorem abs_le : ∀ {ws : List Str} {j : Nat}, j < ws.length → absB (ws.getD j Str.empty) = true → j ≤ lastRoot ws
  | [], j, h, _ => absurd h (Nat.not_lt_zero _)
  | _ :: _, 0, _, _ => Nat.zero_le _
  | w :: r, j + 1, h, ha => by
    have hj : j < r.length := Nat.lt_of_succ_lt_succ h
    have ha' : absB (r.getD j Str.empty) = true := ha
    have ih := abs_le hj ha'
    have hr : (r.any fun x => Txt.slice x none (some 1) == slS) = true := by
      rw [List.any_eq_true]
      refine ⟨r.getD j Str.empty, ?_, ha'⟩
      rw [List.getD_eq_getElem?_getD, List.getElem?_eq_getElem hj]
      exact List.getElem_mem _
    unfold lastRoot
    rw [if_pos hr]
    omega
theorem root_max {ws : List Str} (hne : ws ≠ []) {M : Int} (hm : M ∈ [0] ++ rootsL ws ((ws.length : Int) - 0).toNat) (hx : ∀ a ∈ [0] ++ rootsL ws ((ws.length : Int) - 0).toNat, a ≤ M) : M.toNat = lastRoot ws := by
  have hn : ((ws.length : Int) - 0).toNat = ws.length := by omega
  rw [hn] at hm hx
  have hlt := lastRoot_lt hne
  have key : ∀ k : Int, k ∈ rootsL ws ws.length ↔ k ∈ rangeKs 0 ws.length ∧ absB (ws.getD k.toNat Str.empty) = true := fun k => by
    unfold rootsL
    rw [roots_mem]
    simp
  have h1 : M ≤ lastRoot ws := by
    rcases List.mem_append.mp hm with h | h
    · rw [List.mem_singleton.mp h]; omega
    · obtain ⟨h2, h3⟩ := (key M).mp h
      obtain ⟨h4, h5⟩ := mem_rangeKs h2
      have := abs_le (ws := ws) (j := M.toNat) (by omega) h3
      omega
  have h2 : (lastRoot ws : Int) ≤ M := by
    by_cases ha : (ws.any absB) = true
    · refine hx _ (List.mem_append_right _ ((key _).mpr ⟨?_, ?_⟩))
      · unfold rangeKs
        exact List.mem_map.mpr ⟨lastRoot ws, List.mem_range.mpr hlt, by omega⟩
      · rw [Int.toNat_natCast]
        exact last_abs ha
    · have : lastRoot ws = 0 := by
        cases ws with
        | nil => exact absurd rfl hne
        | cons w r =>
          unfold lastRoot
          rw [if_neg]
          intro h
          apply ha
          rw [List.any_cons]
          show (absB w || r.any absB) = true
          rw [show r.any absB = true from h]; simp
      rw [this]
      exact hx 0 (List.mem_append_left _ (List.mem_singleton.mpr rfl))
  omega

noncomputable abbrev endL (x : Str) : Prop := ∃ r, ls x = r ++ [47]
theorem sl_last {x : Str} {r : List Nat} {c : Nat} (h : ls x = r ++ [c]) : Txt.slice x (some (-1)) none = mkS [c] := by
  have hl : x.length = r.length + 1 := by rw [← len_ls, h]; simp
  have e : Txt.slice x (some (-1)) none = Txt.slice x (some ((x.length - 1 : Nat) : Int)) none := by
    unfold Txt.slice
    rw [StrLaws.sliceIdx_neg_lo none x.length (by omega) (by omega), show ((-1 : Int) + (x.length : Int)) = ((x.length - 1 : Nat) : Int) by omega]
  rw [e, slice_sn, h, show x.length - 1 = r.length by omega, List.drop_left' rfl]
theorem sl_init {x : Str} {r : List Nat} {c : Nat} (h : ls x = r ++ [c]) : Txt.slice x none (some (-1)) = mkS r := by
  have hl : x.length = r.length + 1 := by rw [← len_ls, h]; simp
  have e : Txt.slice x none (some (-1)) = Txt.slice x none (some ((x.length - 1 : Nat) : Int)) := by
    unfold Txt.slice
    rw [StrLaws.sliceIdx_neg_hi none x.length (by omega) (by omega), show ((-1 : Int) + (x.length : Int)) = ((x.length - 1 : Nat) : Int) by omega]
  rw [e, slice_ns, h, show x.length - 1 = r.length by omega, List.take_left' rfl]
theorem it_last {x : Str} {r : List Nat} {c : Nat} (h : ls x = r ++ [c]) : Txt.item x (-1) = mkS [c] := by
  have hl : x.length = r.length + 1 := by rw [← len_ls, h]; simp
  have e3 : x.cps[((-1 : Int) + (x.length : Int)).toNat]? = some c := by
    rw [show ((-1 : Int) + (x.length : Int)).toNat = r.length by omega]
    have : (ls x)[r.length]? = some c := by rw [h]; simp
    simpa using this
  unfold Txt.item Txt.charAt
  rw [StrLaws.at_neg (by omega) (by omega) e3]
  rfl
theorem last_case (x : Str) : x = Str.ofString "" ∨ ∃ r c, ls x = r ++ [c] := by
  rcases List.eq_nil_or_concat (ls x) with h | ⟨r, c, h⟩
  · exact .inl (ls_inj (by rw [h, emp_ls]))
  · exact .inr ⟨r, c, by rw [h, List.concat_eq_append]⟩
theorem mk1 {c : Nat} : mkS [c] = slS ↔ c = 47 := by
  rw [slS_mk]
  exact ⟨fun h => by have := congrArg ls h; simpa using this, fun h => by rw [h]⟩
theorem end_any (x : Str) : ([Str.ofString "", slS].any fun y => y == Txt.slice x (some (-1)) none) = true ↔ (x = Str.ofString "" ∨ endL x) := by
  rcases last_case x with rfl | ⟨r, c, h⟩
  · constructor
    · intro _; exact .inl rfl
    · intro _; decide +kernel
  · rw [sl_last h]
    simp only [List.any_cons, List.any_nil, Bool.or_false, Bool.or_eq_true, beq_iff_eq]
    constructor
    · rintro (q | q)
      · have := congrArg ls q; rw [emp_ls] at this; cases this
      · rw [mk1.mp q.symm] at h; exact .inr ⟨r, h⟩
    · rintro (q | ⟨r', q⟩)
      · rw [q, emp_ls] at h; simp at h
      · rw [h] at q
        have := List.append_inj' q rfl
        have h2 : c = 47 := by simpa using this.2
        exact .inr (mk1.mpr h2).symm
theorem addS_end {x : Str} (h : endL x) : addS x = x := by
  obtain ⟨r, hr⟩ := h
  unfold addS
  rw [it_last hr, if_pos (by rw [mk1.mpr rfl]; exact beq_self_eq_true _)]
theorem addS_no {x : Str} (h : ¬ endL x) (hx : x ≠ Str.ofString "") : addS x = x ++ slS := by
  rcases last_case x with h1 | ⟨r, c, hr⟩
  · exact absurd h1 hx
  · unfold addS
    rw [it_last hr, if_neg]
    rw [beq_iff_eq, mk1]
    rintro rfl
    exact h ⟨r, hr⟩
/-- a slash set behind what ends in none -/
noncomputable def addE (p : Str) : Str := if p = Str.ofString "" then p else addS p
theorem emp_app (x : Str) : Str.ofString "" ++ x = x := ls_inj (by rw [ls_app, emp_ls]; rfl)
theorem app_emp (x : Str) : x ++ Str.ofString "" = x := ls_inj (by rw [ls_app, emp_ls]; simp)
theorem app_assoc (x y z : Str) : x ++ y ++ z = x ++ (y ++ z) := ls_inj (by rw [ls_app, ls_app, ls_app, ls_app, List.append_assoc])
theorem join0_snoc (xs : List Str) (x : Str) : Txt.join (Str.ofString "") (xs ++ [x]) = Txt.join (Str.ofString "") xs ++ x := by
  have key : ∀ xs : List Str, ls (Txt.join (Str.ofString "") xs) = (xs.map ls).flatten := by
    intro xs
    show ls (glued (Str.ofString "") xs) = _
    rw [StrLaws.glued_eq_join]
    induction xs with
    | nil => rfl
    | cons x r ih =>
      cases r with
      | nil => show ls x = _; simp
      | cons y r =>
        show ls (x ++ Str.ofString "" ++ Str.join (Str.ofString "") (y :: r)) = _
        rw [ls_app, ls_app, emp_ls, ih]
        simp
  apply ls_inj
  rw [ls_app, key, key]
  simp
theorem glue_snoc (R : List Str) (b : Str) : glueS (R ++ [b]) = glueS R ++ addE b := by
  unfold glueS addE
  rw [List.filter_append]
  by_cases hb : b = Str.ofString ""
  · subst hb
    rw [if_pos rfl, show List.filter (fun x => x != Str.ofString "") [Str.ofString ""] = [] by decide +kernel, List.append_nil, app_emp]
  · have : List.filter (fun x => x != Str.ofString "") [b] = [b] := by
      rw [List.filter_cons, if_pos (by simpa using hb)]; rfl
    rw [if_neg hb, this, List.map_append, List.map_cons, List.map_nil, join0_snoc]
theorem glue_nil : glueS [] = Str.ofString "" := by decide +kernel
theorem end_app {x y : Str} (h : endL y) : endL (x ++ y) := by
  obtain ⟨r, hr⟩ := h
  exact ⟨ls x ++ r, by rw [ls_app, hr, List.append_assoc]⟩
theorem end_sl : endL slS := ⟨[], by rw [slS_ls]; rfl⟩
theorem addS_ends {x : Str} (hx : x ≠ Str.ofString "") : endL (addS x) := by
  by_cases h : endL x
  · rw [addS_end h]; exact h
  · rw [addS_no h hx]; exact end_app end_sl
theorem glue_end (R : List Str) : glueS R = Str.ofString "" ∨ endL (glueS R) := by
  refine snoc_ind (P := fun R => glueS R = Str.ofString "" ∨ endL (glueS R)) (.inl glue_nil) (fun R b ih => ?_) R
  rw [glue_snoc]
  unfold addE
  by_cases hb : b = Str.ofString ""
  · rw [if_pos hb, hb, app_emp]; exact ih
  · rw [if_neg hb]; exact .inr (end_app (addS_ends hb))
theorem text_snoc (R : List Str) (b : Str) : textS (R ++ [b]) = glueS R ++ b := by
  unfold textS
  rw [last_snoc, glue_snoc]
  by_cases h : b = Str.ofString "" ∨ endL b
  · rw [if_pos ((end_any b).mpr h)]
    unfold addE
    by_cases hb : b = Str.ofString ""
    · rw [if_pos hb]
    · rw [if_neg hb, addS_end (h.resolve_left hb)]
  · rw [if_neg (fun q => h ((end_any b).mp q))]
    have hb : b ≠ Str.ofString "" := fun q => h (.inl q)
    unfold addE
    rw [if_neg hb, addS_no (fun q => h (.inr q)) hb]
    have e : ls (glueS R ++ (b ++ slS)) = ls (glueS R ++ b) ++ [47] := by rw [ls_app, ls_app, ls_app, slS_ls, List.append_assoc]
    rw [sl_init e]
theorem addE_len0 {p : Str} (h : p.length = 0) : addE p = Str.ofString "" := by
  have := len0_emp.mp h
  unfold addE
  rw [if_pos this, this]
/-- a step of join, by the text glued so far -/
theorem join_glue {R : List Str} (hR : R ≠ []) {b : Str} (hb : ¬ absL b) : joinStep (textS R) b = glueS R ++ b := by
  obtain rfl | ⟨R', x, rfl⟩ := List.eq_nil_or_concat R
  · exact absurd rfl hR
  rw [List.concat_eq_append, text_snoc, glue_snoc]
  have hg : glueS R' ++ addE x = addE (glueS R' ++ x) := by
    by_cases hx : x = Str.ofString ""
    · subst hx
      rw [app_emp]
      have e1 : addE (Str.ofString "") = Str.ofString "" := if_pos rfl
      rw [e1, app_emp]
      unfold addE
      split
      · rfl
      · rename_i h
        rw [addS_end ((glue_end R').resolve_left h)]
    · have hne : glueS R' ++ x ≠ Str.ofString "" := fun q => by
        have := congrArg ls q
        rw [ls_app, emp_ls] at this
        exact hx (ls_inj (by rw [emp_ls]; exact (List.append_eq_nil_iff.mp this).2))
      unfold addE
      rw [if_neg hx, if_neg hne]
      by_cases he : endL x
      · rw [addS_end he, addS_end (end_app he)]
      · have he2 : ¬ endL (glueS R' ++ x) := by
          rintro ⟨r, hr⟩
          rcases last_case x with h1 | ⟨r1, c, h1⟩
          · exact hx h1
          · rw [ls_app, h1, ← List.append_assoc] at hr
            have := (List.append_inj' hr rfl).2
            have hc : c = 47 := by simpa using this
            exact he ⟨r1, by rw [h1, hc]⟩
        rw [addS_no he hx, addS_no he2 hne, app_assoc]
  rw [hg]
  generalize glueS R' ++ x = p
  by_cases h0 : p.length = 0
  · rw [addE_len0 h0, emp_app, len0_emp.mp h0, joinStep_emp]
  · have hp : p ≠ Str.ofString "" := fun q => h0 (len0_emp.mpr q)
    unfold addE
    rw [if_neg hp]
    by_cases he : endL p
    · rw [joinStep_sl hb h0 he, addS_end he]
    · rw [joinStep_no hb h0 he, addS_no he hp, app_assoc]
theorem absB_iff (w : Str) : absB w = true ↔ absL w := sl1_iff w
theorem lastRoot_le (ws : List Str) : lastRoot ws ≤ ws.length := by
  by_cases h : ws = []
  · subst h; exact Nat.le_refl _
  · exact Nat.le_of_lt (lastRoot_lt h)
theorem lastRoot_abs {b : Str} (hb : absL b) : ∀ ws : List Str, lastRoot (ws ++ [b]) = ws.length
  | [] => rfl
  | w :: r => by
    have ih := lastRoot_abs hb r
    rw [List.cons_append]
    unfold lastRoot
    rw [if_pos, ih]
    · rfl
    · rw [List.any_append, Bool.or_eq_true]
      refine .inr ?_
      show (absB b || false) = true
      rw [(absB_iff b).mpr hb]; rfl
theorem lastRoot_rel {b : Str} (hb : ¬ absL b) : ∀ ws : List Str, lastRoot (ws ++ [b]) = lastRoot ws
  | [] => rfl
  | w :: r => by
    have ih := lastRoot_rel hb r
    rw [List.cons_append]
    unfold lastRoot
    have e : ((r ++ [b]).any fun x => Txt.slice x none (some 1) == slS) = (r.any fun x => Txt.slice x none (some 1) == slS) := by
      rw [List.any_append]
      have : ([b].any fun x => Txt.slice x none (some 1) == slS) = false := by
        show (absB b || false) = false
        cases h : absB b with
        | true => exact absurd ((absB_iff b).mp h) hb
        | false => rfl
      rw [this, Bool.or_false]
    rw [e, ih]
/-- the two readings of the text are one -/
theorem text_join : ∀ ws : List Str, ws ≠ [] → textS (ws.drop (lastRoot ws)) = ws.foldl joinStep (Str.ofString "") := by
  intro ws
  refine snoc_ind (P := fun ws => ws ≠ [] → textS (ws.drop (lastRoot ws)) = ws.foldl joinStep (Str.ofString "")) (fun h => absurd rfl h) (fun ws b ih _ => ?_) ws
  rw [List.foldl_append]
  show _ = joinStep (ws.foldl joinStep (Str.ofString "")) b
  by_cases hb : absL b
  · rw [lastRoot_abs hb, joinStep_abs hb, List.drop_left' rfl]
    have := text_snoc [] b
    rw [glue_nil, emp_app] at this
    exact this
  · rw [lastRoot_rel hb, List.drop_append_of_le_length (lastRoot_le ws), text_snoc]
    by_cases hw : ws = []
    · subst hw
      show glueS [] ++ b = joinStep (Str.ofString "") b
      rw [glue_nil, emp_app, joinStep_emp]
    · rw [← ih hw, join_glue ?_ hb]
      intro h
      have := List.drop_eq_nil_iff.mp h
      have := lastRoot_lt hw
      omega
theorem join_fold (w : Str) (r : List Str) : joinS w r = (w :: r).foldl joinStep (Str.ofString "") := by
  unfold joinS
  rw [List.foldl_cons, joinStep_emp]
end

/-! ## Rw -/
section
theorem fin_is {qd : Bool} {tk t : Str} (h : fin qd tk = some t) : t = tk := by
  unfold fin at h
  split at h
  · cases h
  · cases h; rfl
theorem step_tk {cm b : Str} {g g' : Cfg} (e : stepT1 cm b g = .inl g') : g'.tk.length ≤ g.tk.length + 2 := by
  have hc : (chAt b g.p).length ≤ 1 := by rw [chAt_len]; split <;> omega
  have hb : bsS.length = 1 := by decide +kernel
  revert e
  unfold stepT1
  dsimp only
  (repeat' split)
  all_goals (intro e; cases e)
  all_goals (dsimp only; (try simp only [Str.length_append]); (try subst_vars); omega)
theorem step_tok {cm b : Str} {g : Cfg} {t : Str} {p : Nat} {st : Option Str} (e : stepT1 cm b g = .inr (.ret (some t) p st)) : t = g.tk := by
  revert e
  unfold stepT1
  dsimp only
  generalize hf : fin g.qd g.tk = ff
  (repeat' split)
  all_goals (intro e; cases e)
  all_goals exact fin_is hf
theorem run_wgt {cm b : Str} {xs : List Str} : ∀ (n : Nat) (acc : List Str) (g : Cfg), runM cm b n acc g = some (.ok xs) → g.p ≤ b.length → wgt acc + g.tk.length ≤ 2 * g.p + (if g.st = none then 1 else 0) → wgt xs ≤ 2 * b.length + 1
  | 0, _, _, h, _, _ => by cases h
  | n + 1, acc, g, h, hp, hw => by
    cases e : stepT1 cm b g with
    | inl g' =>
      have hs := step_inl e hp
      have ht := step_tk e
      rw [run_inl e] at h
      rw [if_neg hs.2.2.1] at hw
      refine run_wgt n acc g' h hs.2.1 ?_
      rw [if_neg hs.2.2.2]
      omega
    | inr o =>
      cases o with
      | err m => rw [run_err e] at h; cases h
      | ret t p st => cases t with
        | none =>
          rw [run_none e] at h
          cases h
          split at hw <;> omega
        | some t =>
          have hs := step_ret e hp
          have ht := step_tok e
          subst ht
          rw [run_some e] at h
          rw [if_neg hs.2.1] at hw
          refine run_wgt n _ _ h hs.1 ?_
          have e0 : (Str.ofString "").length = 0 := by decide +kernel
          dsimp only
          rw [wgt_app, wgt_one, e0]
          rcases hs.2.2 with ⟨h1, h2⟩ | ⟨h1, h2⟩
          · rw [if_neg h2]; omega
          · rw [if_pos h2]; omega
theorem run_small {cm b : Str} {xs : List Str} {n : Nat} (h : runM cm b n [] (g0 0 (some spS)) = some (.ok xs)) : wgt xs ≤ 2 * b.length + 1 :=
  run_wgt n [] _ h (Nat.zero_le _) (by decide +kernel)
end

/-! ## Pd -/
section
/-- what the law tells of the words so far -/
noncomputable def pairS (l : List Str) : List Str := [l.foldl joinStep (Str.ofString ""), hereS l]
noncomputable def rowT (xs : List Str) (k : Nat) : List Str := [dtS] ++ (List.range k).flatMap (fun i => pairS (xs.take (i + 1)))
theorem rowT_succ (xs : List Str) (k : Nat) : rowT xs (k + 1) = rowT xs k ++ pairS (xs.take (k + 1)) := by
  unfold rowT
  rw [List.range_succ, List.flatMap_append, List.append_assoc]
  simp
theorem rowT_len (xs : List Str) (k : Nat) : (rowT xs k).length = 2 * k + 1 := by
  induction k with
  | zero => rfl
  | succ k ih => rw [rowT_succ, List.length_append, ih]; simp [pairS]; omega
theorem take_ne {xs : List Str} {k : Nat} (h : k < xs.length) : xs.take (k + 1) ≠ [] := by
  cases xs with
  | nil => exact absurd h (Nat.not_lt_zero _)
  | cons x r => simp
theorem take_neI {xs : List Str} {k : Int} (h0 : 0 ≤ k) (h : k < xs.length) : xs.take (k + 1).toNat ≠ [] := by
  rw [show (k + 1).toNat = k.toNat + 1 by omega]
  exact take_ne (by omega)
theorem toNat_succ (k : Nat) : ((k : Int) + 1).toNat = k + 1 := by omega
theorem placeR_len : ∀ (ws : List Str) (s : Nat × List Str), (placeR ws s).length ≤ 3 * (s.1 + wgt s.2 + wgt ws) + 3
  | [], s => by
    have h1 := tjoin_wgt slS (by decide +kernel) (List.replicate s.1 ddS ++ s.2)
    rw [wgt_app, wgt_rep] at h1
    have h2 : dtS.length = 1 := by decide +kernel
    show (outP s).length ≤ _
    unfold outP
    split <;> omega
  | w :: r, s => by
    have hf := foldB_size (Txt.split w slS).reverse s
    rw [wgt_rev] at hf
    have hs := split_wgt w slS (by decide +kernel)
    have e : wgt (w :: r) = w.length + 1 + wgt r := by simp [wgt]
    have ih := placeR_len r ((Txt.split w slS).reverse.foldl bst s)
    have h1 := tjoin_wgt slS (by decide +kernel) ((Txt.split w slS).reverse.foldl bst s).2
    have hr : (rootP w).length ≤ 2 := by
      unfold rootP
      split <;> decide +kernel
    show (if _ then _ else _ : Str).length ≤ _
    split
    · rw [Str.length_append]; omega
    · omega
theorem hereS_len (ws : List Str) : (hereS ws).length ≤ 3 * wgt ws + 3 := by
  by_cases h : ws = []
  · subst h; decide +kernel
  · rw [← place_here ws h]
    have := placeR_len ws.reverse (0, [])
    rw [wgt_rev] at this
    have e : wgt ([] : List Str) = 0 := rfl
    dsimp only at this
    rw [e] at this
    omega
end

/-! ## Wp -/
section
open PySem PySem.W PyProof.Rows PySem.Calls Builtin Builtin.Str
noncomputable abbrev chS (n : Nat) : Str := ⟨#[n]⟩
theorem ch_of {b : Str} {p : Nat} (h : p < b.length) : ∃ n, chAt b p = chS n ∧ (ls b).drop p = n :: (ls b).drop (p + 1) := by
  have hl : p < (ls b).length := by rw [len_ls]; exact h
  refine ⟨(ls b)[p], ?_, ?_⟩
  · unfold chAt
    rw [List.drop_eq_getElem_cons hl]
    rfl
  · exact List.drop_eq_getElem_cons hl
theorem nin_ch (W : Str) (n : Nat) : nin W (chS n) = !decide (n ∈ ls W) := nin_one W n
theorem ws_ls : ls wsS = [32, 9, 13, 10] := by decide +kernel
theorem bs_ls : ls bsS = [92] := by decide +kernel
theorem qu_ls : ls quS = [39, 34] := by decide +kernel
theorem dq_ls : ls dqS = [34] := by decide +kernel
theorem ha_ls : ls (Str.ofString "#") = [35] := by decide +kernel
theorem chS_inj {a c : Nat} : chS a = chS c ↔ a = c := by
  constructor
  · intro h; have := congrArg ls h; simpa using this
  · rintro rfl; rfl
theorem sq_ch : Str.ofString "'" = chS 39 := by decide +kernel
theorem dq_ch : Str.ofString "\"" = chS 34 := by decide +kernel
theorem bs_ch : Str.ofString "\\" = chS 92 := by decide +kernel
theorem ha_ch : Str.ofString "#" = chS 35 := by decide +kernel
theorem nl_ch : Str.ofString "\n" = chS 10 := by decide +kernel

/-- the run from a state on ends so -/
noncomputable def Rs (cm b : Str) (r : Res) (acc : List Str) (g : Cfg) : Prop := ∃ n, runM cm b n acc g = some r
section
variable {cm b : Str} {r : Res} {acc : List Str} {g g' : Cfg}
theorem Rs.fwd (h : Rs cm b r acc g) (e : stepT1 cm b g = .inl g') : Rs cm b r acc g' := by
  obtain ⟨n, hn⟩ := h
  cases n with
  | zero => cases hn
  | succ n => rw [run_inl e] at hn; exact ⟨n, hn⟩
theorem Rs.bwd (h : Rs cm b r acc g') (e : stepT1 cm b g = .inl g') : Rs cm b r acc g := by
  obtain ⟨n, hn⟩ := h
  exact ⟨n + 1, by rw [run_inl e]; exact hn⟩
theorem Rs.tok {t : Str} {p : Nat} {st : Option Str} (h : Rs cm b r acc g) (e : stepT1 cm b g = .inr (.ret (some t) p st)) : Rs cm b r (acc ++ [t]) (g0 p st) := by
  obtain ⟨n, hn⟩ := h
  cases n with
  | zero => cases hn
  | succ n => rw [run_some e] at hn; exact ⟨n, hn⟩
theorem Rs.eof {p : Nat} {st : Option Str} (h : Rs cm b r acc g) (e : stepT1 cm b g = .inr (.ret none p st)) : r = .ok acc := by
  obtain ⟨n, hn⟩ := h
  cases n with
  | zero => cases hn
  | succ n => rw [run_none e] at hn; cases hn; rfl
theorem Rs.err {m : Str} (h : Rs cm b r acc g) (e : stepT1 cm b g = .inr (.err m)) : r = .err m := by
  obtain ⟨n, hn⟩ := h
  cases n with
  | zero => cases hn
  | succ n => rw [run_err e] at hn; cases hn; rfl
end
/-- between the words, or in one -/
noncomputable def WdI (cm b : Str) (r : Res) (xs : List Str) (tc : Bool) (p : Nat) : Prop :=
  (tc = false ∧ ∃ es, Rs cm b r xs ⟨p, some spS, false, es, Str.ofString ""⟩) ∨
  (tc = true ∧ ∃ acc wd qd es, xs = acc ++ [wd] ∧ (wd.length ≠ 0 ∨ qd = true) ∧ Rs cm b r acc ⟨p, some wdS, qd, es, wd⟩)
/-- a word is open -/
noncomputable def WdO (cm b : Str) (r : Res) (acc : List Str) (wd : Str) (p : Nat) : Prop :=
  (wd = Str.ofString "" ∧ ∃ es, Rs cm b r acc ⟨p, some spS, false, es, Str.ofString ""⟩) ∨
  (∃ qd es, (wd.length ≠ 0 ∨ qd = true) ∧ Rs cm b r acc ⟨p, some wdS, qd, es, wd⟩)
/-- within two marks -/
noncomputable def WdQ (cm b : Str) (r : Res) (acc : List Str) (wd : Str) (p : Nat) : Prop := ∃ qd es, Rs cm b r acc ⟨p, some dqS, qd, es, wd⟩

section
variable {cm b : Str} {r : Res} {acc xs : List Str} {tc : Bool} {p : Nat} {wd : Str}
theorem emp0 : (Str.ofString "").length = 0 := by decide +kernel
theorem fin_some {qd : Bool} (h : wd.length ≠ 0 ∨ qd = true) : fin qd wd = some wd := by
  unfold fin
  rw [if_neg]
  rintro ⟨h1, h2⟩
  rcases h with h | h
  · exact h h2
  · rw [h1] at h; cases h
theorem fin_emp : fin false (Str.ofString "") = none := by unfold fin; rw [if_pos ⟨rfl, emp0⟩]
theorem sp_emp : ((Str.ofString "").length : Int) = 0 := by rw [emp0]; rfl
theorem len_or {qd : Bool} (h : wd.length ≠ 0 ∨ qd = true) : (wd.length : Int) ≠ 0 ∨ qd = true := by rcases h with h | h; exact .inl (by omega); exact .inr h

theorem wd_ws (h : WdI cm b r xs tc p) (hp : p < b.length) (hw : nin wsS (chAt b p) = false) : WdI cm b r xs false (p + 1) := by
  rcases h with ⟨rfl, es, h⟩ | ⟨rfl, acc, wd, qd, es, rfl, hq, h⟩
  · exact .inl ⟨rfl, es, h.fwd (e_sp_ws3 hp hw sp_emp rfl)⟩
  · have e : stepT1 cm b ⟨p, some wdS, qd, es, wd⟩ = .inr (.ret (fin qd wd) (p + 1) (some spS)) := by
      rcases len_or hq with q | q
      · exact e_wd_ws1 hp hw q
      · exact e_wd_ws2 hp hw q
    rw [fin_some hq] at e
    exact .inl ⟨rfl, spS, h.tok e⟩
theorem nl_eq (hp : p < b.length) (hc : chAt b p ≠ chS 10) : nlEnd b (p + 1) = nlEnd b p := by
  obtain ⟨n, h1, h2⟩ := ch_of hp
  have hn : n ≠ 10 := by rintro rfl; exact hc h1
  unfold nlEnd
  rw [h2, List.findIdx?_cons]
  have : (n == 10) = false := by simpa using hn
  rw [this]
  cases h : ((ls b).drop (p + 1)).findIdx? (· == 10) with
  | none => simp
  | some k => simp; omega
theorem find_nl {p : Nat} (hp : p ≤ b.length) (h : ¬ Txt.find3 b (Str.ofString "\n") p < 0) : ∃ e : Nat, Txt.find3 b (Str.ofString "\n") p = (e : Int) ∧ p ≤ e ∧ e < b.length ∧ nlEnd b p = e + 1 ∧ chAt b e = chS 10 := by
  have h1 := nlEnd_some hp (by omega)
  rw [nl_ch] at h h1 ⊢
  have hf : fromIndex b.length (p : Int) = p := by unfold fromIndex; omega
  rcases StrLaws.find3_spec b 10 p with ⟨h0, _⟩ | ⟨k, hk, k1, k2, k3, _⟩
  · rw [h0] at h; omega
  · rw [hf] at k1
    refine ⟨k, hk, k1, k2, by rw [hk] at h1; omega, ?_⟩
    obtain ⟨n, e1, e2⟩ := ch_of k2
    rw [e1]
    have : (ls b)[k]? = some 10 := StrLaws.getElem?_of_getD k2 k3
    have e3 : (ls b)[k]? = some n := by
      have := congrArg List.head? e2
      rw [List.head?_drop] at this
      simpa using this
    rw [this] at e3
    cases e3; rfl
/-- a remark: where the reading goes on -/
theorem wd_cm {e : Nat} (h : WdI cm b r xs tc p) (hp : p < b.length) (hw : nin wsS (chAt b p) = true) (hc : nin cm (chAt b p) = false) (hn : chAt b p ≠ chS 10)
    (he : (Txt.find3 b (Str.ofString "\n") p < 0 ∧ e = b.length) ∨ (¬ Txt.find3 b (Str.ofString "\n") p < 0 ∧ Txt.find3 b (Str.ofString "\n") p = (e : Int))) : WdI cm b r xs false e := by
  have h1 : ∃ es, Rs cm b r xs ⟨nlEnd b (p + 1), some spS, false, es, Str.ofString ""⟩ := by
    rcases h with ⟨rfl, es, h⟩ | ⟨rfl, acc, wd, qd, es, rfl, hq, h⟩
    · exact ⟨es, h.fwd (e_sp_cm hp hw hc)⟩
    · have e : stepT1 cm b ⟨p, some wdS, qd, es, wd⟩ = .inr (.ret (fin qd wd) (nlEnd b (p + 1)) (some spS)) := by
        rcases len_or hq with q | q
        · exact e_wd_cm1 hp hw hc q
        · exact e_wd_cm2 hp hw hc q
      rw [fin_some hq] at e
      exact ⟨spS, h.tok e⟩
  obtain ⟨es, h1⟩ := h1
  rw [nl_eq hp hn] at h1
  refine .inl ⟨rfl, es, ?_⟩
  rcases he with ⟨he, rfl⟩ | ⟨he, he2⟩
  · rwa [nlEnd_none (Nat.le_of_lt hp) he] at h1
  · obtain ⟨e', q1, q2, q3, q4, q5⟩ := find_nl (Nat.le_of_lt hp) he
    have : e = e' := by rw [q1] at he2; omega
    subst this
    rw [q4] at h1
    exact h1.bwd (e_sp_ws3 q3 (by rw [q5]; decide +kernel) sp_emp rfl)
theorem wd_open (h : WdI cm b r xs tc p) : ∃ acc wd, (if tc = true then xs else xs ++ [Str.ofString ""]) = acc ++ [wd] ∧ WdO cm b r acc wd p := by
  rcases h with ⟨rfl, es, h⟩ | ⟨rfl, acc, wd, qd, es, rfl, hq, h⟩
  · exact ⟨xs, Str.ofString "", rfl, .inl ⟨rfl, es, h⟩⟩
  · exact ⟨acc, wd, rfl, .inr ⟨qd, es, hq, h⟩⟩
/-- a mark opens -/
theorem wd_mark (h : WdO cm b r acc wd p) (hp : p < b.length) (hw : nin wsS (chAt b p) = true) (hc : nin cm (chAt b p) = true) (hq : nin quS (chAt b p) = false) : ∃ qd es, Rs cm b r acc ⟨p + 1, some (chAt b p), qd, es, wd⟩ := by
  rcases h with ⟨rfl, es, h⟩ | ⟨qd, es, hd, h⟩
  · obtain ⟨n, e1, _⟩ := ch_of hp
    rw [e1, nin_ch, qu_ls] at hq
    have hn : n = 39 ∨ n = 34 := by
      by_cases h : n = 39
      · exact .inl h
      · right; have := hq; simp [h] at this; exact this
    refine ⟨false, es, h.fwd (e_sp_qu hp hw hc ?_ ?_ ?_)⟩
    · rw [e1]; rcases hn with rfl | rfl <;> decide +kernel
    · rw [e1]; rcases hn with rfl | rfl <;> decide +kernel
    · rw [e1]; rcases hn with rfl | rfl <;> decide +kernel
  · exact ⟨qd, es, h.fwd (e_wd_qu hp hw hc hq)⟩
theorem wd_else (h : WdO cm b r acc wd p) (hp : p < b.length) (hw : nin wsS (chAt b p) = true) (hc : nin cm (chAt b p) = true) (hq : nin quS (chAt b p) = true) (hb : nin bsS (chAt b p) = true) : WdI cm b r (acc ++ [wd ++ chAt b p]) true (p + 1) := by
  have hl : (wd ++ chAt b p).length ≠ 0 := by rw [Str.length_append, chAt_len, if_pos hp]; omega
  rcases h with ⟨rfl, es, h⟩ | ⟨qd, es, hd, h⟩
  · have e : Str.ofString "" ++ chAt b p = chAt b p := ls_inj (by rw [ls_app, emp_ls]; rfl)
    rw [e] at hl ⊢
    refine .inr ⟨rfl, acc, _, false, es, rfl, .inl hl, ?_⟩
    cases hwo : nin wordS (chAt b p) with
    | false => exact h.fwd (e_sp_wo hp hw hc hb hwo)
    | true => exact h.fwd (e_sp_el hp hw hc hb hwo hq)
  · exact .inr ⟨rfl, acc, _, qd, es, rfl, .inl hl, h.fwd (e_wd_ap hp hw hc hq hb)⟩
theorem wd_esc (h : WdO cm b r acc wd p) (hp : p < b.length) (hw : nin wsS (chAt b p) = true) (hc : nin cm (chAt b p) = true) (hb : nin bsS (chAt b p) = false) : ∃ qd, Rs cm b r acc ⟨p + 1, some bsS, qd, wdS, wd⟩ := by
  have h1 : (chAt b p).length = 1 := by rw [chAt_len, if_pos hp]
  have e := bs_of h1 hb
  rcases h with ⟨rfl, es, h⟩ | ⟨qd, es, hd, h⟩
  · have := h.fwd (e_sp_bs hp hw hc hb)
    rw [e] at this
    exact ⟨_, this⟩
  · have := h.fwd (e_wd_bs hp hw hc (by rw [e]; decide +kernel) hb)
    rw [e] at this
    exact ⟨_, this⟩
theorem wd_bs_end (h : WdO cm b r acc wd p) (hp : p < b.length) (hw : nin wsS (chAt b p) = true) (hc : nin cm (chAt b p) = true) (hb : nin bsS (chAt b p) = false) (he : p + 1 = b.length) : r = .err (Str.ofString "No escaped character") := by
  obtain ⟨qd, h⟩ := wd_esc h hp hw hc hb
  exact h.err (e_eo_bs (by omega))
theorem wd_bs_go (h : WdO cm b r acc wd p) (hp : p < b.length) (hw : nin wsS (chAt b p) = true) (hc : nin cm (chAt b p) = true) (hb : nin bsS (chAt b p) = false) (he : p + 1 < b.length) : WdI cm b r (acc ++ [wd ++ chAt b (p + 1)]) true (p + 2) := by
  obtain ⟨qd, h⟩ := wd_esc h hp hw hc hb
  have hl : (wd ++ chAt b (p + 1)).length ≠ 0 := by rw [Str.length_append, chAt_len, if_pos he]; omega
  exact .inr ⟨rfl, acc, _, qd, wdS, rfl, .inl hl, h.fwd (e_bs_2 he (by decide +kernel))⟩
/-- within one mark: up to a place -/
theorem sq_run : ∀ (k : Nat) {p : Nat} {wd : Str} {qd : Bool} {es : Str}, p + k ≤ b.length → (∀ i, p ≤ i → i < p + k → chAt b i ≠ chS 39) → Rs cm b r acc ⟨p, some (chS 39), qd, es, wd⟩ → ∃ qd' es', Rs cm b r acc ⟨p + k, some (chS 39), qd', es', wd ++ mkS (((ls b).drop p).take k)⟩
  | 0, p, wd, qd, es, _, _, h => ⟨qd, es, by
    have e : wd ++ mkS (((ls b).drop p).take 0) = wd := ls_inj (by rw [ls_app]; simp)
    rw [e]; exact h⟩
  | k + 1, p, wd, qd, es, hk, hn, h => by
    have hp : p < b.length := by omega
    obtain ⟨n, e1, e2⟩ := ch_of hp
    have h2 := h.fwd (e_qt_a2 hp (by decide +kernel) (by decide +kernel) (by simpa using hn p (Nat.le_refl _) (by omega)) (by decide +kernel))
    obtain ⟨qd', es', h3⟩ := sq_run k (p := p + 1) (by omega) (fun i h1 h2 => hn i (by omega) (by omega)) h2
    refine ⟨qd', es', ?_⟩
    have e : wd ++ mkS (((ls b).drop p).take (k + 1)) = wd ++ chAt b p ++ mkS (((ls b).drop (p + 1)).take k) := ls_inj (by rw [ls_app, ls_app, ls_app, e1, e2, ls_mkS, ls_mkS, List.take_succ_cons]; simp; rfl)
    rw [e, show p + (k + 1) = p + 1 + k by omega]
    exact h3
theorem ch_get {i : Nat} (h : i < b.length) (n : Nat) : chAt b i = chS n ↔ b.cps.getD i 0 = n := by
  obtain ⟨k, e1, e2⟩ := ch_of h
  have e3 : (ls b)[i]? = some k := by
    have := congrArg List.head? e2
    rw [List.head?_drop] at this
    simpa using this
  rw [e1, chS_inj, StrLaws.getD_of_getElem? e3]
theorem wd_sq_end (h : WdO cm b r acc wd p) (hp : p < b.length) (hw : nin wsS (chAt b p) = true) (hc : nin cm (chAt b p) = true) (hs : chAt b p = chS 39) (he : Txt.find3 b (Str.ofString "'") ((p : Int) + 1) < 0) : r = .err (Str.ofString "No closing quotation") := by
  obtain ⟨qd, es, h⟩ := wd_mark h hp hw hc (by rw [hs]; decide +kernel)
  rw [hs] at h
  rw [sq_ch] at he
  have hf : fromIndex b.length ((p : Int) + 1) = p + 1 := by unfold fromIndex; omega
  rcases StrLaws.find3_spec b 39 ((p : Int) + 1) with ⟨_, hn⟩ | ⟨k, hk, _⟩
  · rw [hf] at hn
    obtain ⟨qd', es', h2⟩ := sq_run (b.length - (p + 1)) (p := p + 1) (by omega) (fun i h1 h2 q => hn i h1 (by omega) ((ch_get (by omega) 39).mp q)) h
    exact h2.err (e_eo_qt (by omega) (by decide +kernel))
  · rw [hk] at he; omega
theorem wd_sq_go (h : WdO cm b r acc wd p) (hp : p < b.length) (hw : nin wsS (chAt b p) = true) (hc : nin cm (chAt b p) = true) (hs : chAt b p = chS 39) (he : ¬ Txt.find3 b (Str.ofString "'") ((p : Int) + 1) < 0) :
    ∃ e : Nat, Txt.find3 b (Str.ofString "'") ((p : Int) + 1) = (e : Int) ∧ p + 1 ≤ e ∧ e < b.length ∧ WdI cm b r (acc ++ [wd ++ Txt.slice b (some ((p : Int) + 1)) (some (e : Int))]) true (e + 1) := by
  obtain ⟨qd, es, h⟩ := wd_mark h hp hw hc (by rw [hs]; decide +kernel)
  rw [hs] at h
  rw [sq_ch] at he ⊢
  have hf : fromIndex b.length ((p : Int) + 1) = p + 1 := by unfold fromIndex; omega
  rcases StrLaws.find3_spec b 39 ((p : Int) + 1) with ⟨hk, _⟩ | ⟨k, hk, k1, k2, k3, k4⟩
  · rw [hk] at he; omega
  · rw [hf] at k1 k4
    refine ⟨k, hk, k1, k2, ?_⟩
    obtain ⟨qd', es', h2⟩ := sq_run (k - (p + 1)) (p := p + 1) (by omega) (fun i h1 h2 q => k4 i h1 (by omega) ((ch_get (by omega) 39).mp q)) h
    rw [show p + 1 + (k - (p + 1)) = k by omega] at h2
    have e : Txt.slice b (some ((p : Int) + 1)) (some (k : Int)) = mkS (((ls b).drop (p + 1)).take (k - (p + 1))) := by
      have := slice_ss b (p + 1) k
      rw [← this]; rfl
    rw [e]
    exact .inr ⟨rfl, acc, _, true, es', rfl, .inr rfl, h2.fwd (e_qt_eq k2 (by decide +kernel) (by decide +kernel) (by rw [(ch_get k2 39).mpr k3]; decide +kernel))⟩
theorem wd_dq (h : WdO cm b r acc wd p) (hp : p < b.length) (hw : nin wsS (chAt b p) = true) (hc : nin cm (chAt b p) = true) (hs : chAt b p = chS 34) : WdQ cm b r acc wd (p + 1) := by
  obtain ⟨qd, es, h⟩ := wd_mark h hp hw hc (by rw [hs]; decide +kernel)
  have e : chAt b p = dqS := by rw [hs, ← dq_ch]
  rw [e] at h
  exact ⟨qd, es, h⟩
theorem dq_sp : (dqS == spS) = false := by decide +kernel
theorem dq_qu : nin quS dqS = false := by decide +kernel
theorem dq_stop (h : WdQ cm b r acc wd p) (hp : p = b.length) : r = .err (Str.ofString "No closing quotation") := by
  obtain ⟨qd, es, h⟩ := h
  exact h.err (e_eo_qt (by omega) dq_qu)
theorem dq_done (h : WdQ cm b r acc wd p) (hs : chAt b p = dqS) : WdI cm b r (acc ++ [wd]) true (p + 1) := by
  have hp : p < b.length := by
    by_cases hp : p < b.length
    · exact hp
    · have := congrArg Str.length hs
      rw [chAt_len, if_neg hp] at this
      exact absurd this (by decide +kernel)
  obtain ⟨qd, es, h⟩ := h
  exact .inr ⟨rfl, acc, wd, true, es, rfl, .inr rfl, h.fwd (e_qt_eq hp dq_sp dq_qu (by rw [hs]; exact beq_self_eq_true _))⟩
theorem dq_bs (h : WdQ cm b r acc wd p) (hp : p < b.length) (hs : chAt b p = chS 92) : Rs cm b r acc ⟨p + 1, some bsS, true, dqS, wd⟩ := by
  obtain ⟨qd, es, h⟩ := h
  have := h.fwd (e_qt_bs hp dq_sp dq_qu (by rw [hs]; decide +kernel) (by rw [hs]; decide +kernel) (by decide +kernel))
  rw [hs, ← bs_ch] at this
  exact this
theorem dq_bs_end (h : WdQ cm b r acc wd p) (hp : p < b.length) (hs : chAt b p = chS 92) (he : p + 1 = b.length) : r = .err (Str.ofString "No escaped character") :=
  (dq_bs h hp hs).err (e_eo_bs (by omega))
theorem dq_pair (h : WdQ cm b r acc wd p) (hp : p < b.length) (hs : chAt b p = chS 92) (he : p + 1 < b.length) (hn : chAt b (p + 1) = chS 34 ∨ chAt b (p + 1) = chS 92) : WdQ cm b r acc (wd ++ chAt b (p + 1)) (p + 2) := by
  have h1 := dq_bs h hp hs
  rcases hn with hn | hn
  · exact ⟨true, dqS, h1.fwd (e_bs_4 he (by rw [hn]; decide +kernel))⟩
  · exact ⟨true, dqS, h1.fwd (e_bs_3 he (by rw [hn]; decide +kernel))⟩
theorem dq_plain (h : WdQ cm b r acc wd p) (hp : p < b.length) (hd : chAt b p ≠ dqS) (hx : chAt b p ≠ chS 92 ∨ (p + 1 < b.length ∧ chAt b (p + 1) ≠ chS 34 ∧ chAt b (p + 1) ≠ chS 92)) : WdQ cm b r acc (wd ++ chAt b p) (p + 1) := by
  by_cases hs : chAt b p = chS 92
  · rcases hx with hx | ⟨he, h3, h4⟩
    · exact absurd hs hx
    · have h1 := dq_bs h hp hs
      obtain ⟨n, e1, _⟩ := ch_of he
      rw [← dq_ch] at h3
      rw [← bs_ch] at h4
      have h2 := h1.fwd (e_bs_1 he (by decide +kernel) (by simpa using h4) (by simpa using h3))
      refine ⟨true, dqS, ?_⟩
      have e : wd ++ chAt b p = wd ++ bsS := by rw [hs, ← bs_ch]
      rw [e]
      refine h2.bwd (e_qt_a1 he dq_sp dq_qu (by simpa using h3) ?_)
      rw [e1, nin_ch, bs_ls]
      rw [e1, bs_ch] at h4
      have : n ≠ 92 := fun q => h4 (by rw [q])
      simpa using this
  · obtain ⟨qd, es, h⟩ := h
    obtain ⟨n, e1, _⟩ := ch_of hp
    refine ⟨true, es, h.fwd (e_qt_a1 hp dq_sp dq_qu (by simpa using hd) ?_)⟩
    rw [e1, nin_ch, bs_ls]
    rw [e1] at hs
    have : n ≠ 92 := fun q => hs (by rw [q])
    simpa using this
theorem wd_end (h : WdI cm b r xs tc p) (hp : ¬ p < b.length) : r = .ok xs := by
  rcases h with ⟨rfl, es, h⟩ | ⟨rfl, acc, wd, qd, es, rfl, hq, h⟩
  · have e := e_eo_sp (cm := cm) (qd := false) (es := es) (tk := Str.ofString "") hp
    rw [fin_emp] at e
    exact h.eof e
  · have e := e_eo_wd (cm := cm) (qd := qd) (es := es) (tk := wd) hp
    rw [fin_some hq] at e
    have h2 := h.tok e
    have e2 := e_eo_no (cm := cm) (qd := false) (es := spS) (tk := Str.ofString "") hp rfl
    rw [fin_emp] at e2
    exact h2.eof e2
theorem wd_begin {n : Nat} (h : runM cm b n [] (g0 0 (some spS)) = some r) : WdI cm b r [] false 0 := .inl ⟨rfl, spS, n, h⟩
end
end

/-! ## Wl -/
section
section
variable {prog : Program} {w : World} {A : Around} {E : Value → Shared → Prop} {s : Shared} {h₀ : Heap} {L D : Addr} {m : Str → Option Value} {news news' : Led} {n : Nat} {vals : List Value} {v v' : Value} {u : Tok}
theorem getLast_ {Q : Value → Shared → Prop} (N : News h₀ L s.heap news) (hm : (D, listO (vals ++ [v]) n) ∈ news) (hz : vals.length ≤ 10000000) (h : Q v s) : wpAny (model prog w) A (getItem (.ref D) (.int (-1) u)) Q E s := by
  refine wpAny_getItem_list_neg (isL N hm) (by omega) (by simp only [List.size_toArray, List.length_append, List.length_singleton]; omega) (by omega) ?_ h
  simp only [List.size_toArray, List.length_append, List.length_singleton]
  rw [show ((-1 : Int) + ((vals.length + 1 : Nat) : Int)).toNat = vals.length by omega]
  simp
theorem setLast_ {Q : Unit → Shared → Prop} (F : Fr h₀ L s.heap m) (N : News h₀ L s.heap news) (U : Upd D (listO (vals ++ [v]) n) (listO (vals ++ [v']) n) news news') (hz : vals.length ≤ 10000000)
    (h : ∀ h', Fr h₀ L h' m → News h₀ L h' news' → Q () { s with heap := h' }) : wpAny (model prog w) A (setItem (.ref D) (.int (-1) u) v') Q E s := by
  obtain ⟨pre, post, rfl, rfl, a, b⟩ := U.split
  have z := N (D, listO (vals ++ [v]) n) (List.mem_append.mpr (.inr (.head _)))
  have hi : ((-1 : Int) + (((vals ++ [v]).toArray.size : Nat) : Int)).toNat = vals.length := by
    simp only [List.size_toArray, List.length_append, List.length_singleton]; omega
  refine ki_setBack z.1 (by omega) (by simp only [List.size_toArray, List.length_append, List.length_singleton]; omega) (by omega) (h _ (F.change (Heap.SameBut.update ..) z.2.1 z.2.2) (ki_turn _ N a b ?_ ?_))
  · rw [hi]
    apply Array.toList_inj.mp
    simp
  · simp
theorem insert0L {vs : List Value} {y : Value} {Q : Value → Shared → Prop} (F : Fr h₀ L s.heap m) (N : News h₀ L s.heap news) (U : Upd D (listO vs n) (listO (y :: vs) (n + 1)) news news') (hz : vs.length ≤ 10000000)
    (h : ∀ h', Fr h₀ L h' m → News h₀ L h' news' → Q .none { s with heap := h' }) : wpAny (model prog w) A (call (.builtin "list.insert") [.ref D, .int 0 u, y]) Q E s :=
  kl_insert (its := vs.toArray) (l := y :: vs) F N (by decide) (by simp [kl_ins]) U (by rw [sizeLine_eq]; simpa using (by omega : vs.length ≤ 16777216)) h
theorem strs_rev : ∀ {vs : List Value} {xs : List Str}, StrsAre vs xs → StrsAre vs.reverse xs.reverse
  | _, _, .nil => .nil
  | _, _, .cons y t r => by
    rw [List.reverse_cons, List.reverse_cons]
    exact kct_snoc (strs_rev r)
end
theorem split_len {y s : Str} {l : List (Str × Tok)} (hs : s.length = 1) (e : l.map (·.1) = Txt.split y s) (a : StrsAre (strValues l) (l.map (·.1))) : (strValues l).length ≤ y.length + 1 := by
  have h1 := a.length
  rw [e] at h1
  have h2 := split_wgt y s hs
  have h3 := wgt_len (Txt.split y s)
  omega
theorem News_sub {h₀ h : Heap} {L : Addr} {l l' : Led} (N : News h₀ L h l) (k : ∀ p ∈ l', p ∈ l) : News h₀ L h l' := fun p hp => N p (k p hp)
section
variable {prog : Program} {w : World} {A : Around} {E : Value → Shared → Prop} {s : Shared} {h₀ : Heap} {L D D2 : Addr} {m : Str → Option Value} {news news' : Led} {n n2 : Nat} {vs vs2 : List Value} {v : Value} {u : Tok}
theorem mulL {x : Nat} {Q : Value → Shared → Prop} (F : Fr h₀ L s.heap m) (N : News h₀ L s.heap news) (hm : (D, listO [v] n) ∈ news) (hx : x ≤ 256)
    (h : ∀ D h', Fr h₀ L h' m → News h₀ L h' ((D, listO (List.replicate x v) 0) :: news) → (∀ p ∈ news, p.1 < D) → Q (.ref D) { s with heap := h' }) : wpAny (model prog w) A (binaryOp .Mult (.ref D) (.int x u)) Q E s :=
  KMa.mul (vs := [v]) (ws := List.replicate x v) F N (isL N hm) (by omega) (by omega) (by simp; omega) (by
    rw [Int.toNat_natCast]
    clear hx h
    induction x with
    | zero => rfl
    | succ x ih => rw [List.replicate_succ, List.replicate_succ, List.flatten_cons, ih]; rfl) h
theorem addL {Q : Value → Shared → Prop} (F : Fr h₀ L s.heap m) (N : News h₀ L s.heap news) (hm : (D, listO vs n) ∈ news) (hm2 : (D2, listO vs2 n2) ∈ news) (hz : vs.length + vs2.length ≤ 10000000)
    (h : ∀ D h', Fr h₀ L h' m → News h₀ L h' ((D, listO (vs ++ vs2) 0) :: news) → (∀ p ∈ news, p.1 < D) → Q (.ref D) { s with heap := h' }) : wpAny (model prog w) A (binaryOp .Add (.ref D) (.ref D2)) Q E s :=
  add_arrays (its := vs.toArray) (its2 := vs2.toArray) F N (isL N hm) (isL N hm2) (fun h' F' N' => h _ h' F' N' fun p hp => Heap.lt_size (N p hp).1) (by rw [sizeLine_eq]; simp only [List.size_toArray]; omega)
theorem strs_rep {x : Str} {t : Tok} : ∀ n : Nat, StrsAre (List.replicate n (.str x t)) (List.replicate n x)
  | 0 => .nil
  | n + 1 => .cons x t (strs_rep n)
theorem strs_app : ∀ {vs vs2 : List Value} {xs ys : List Str}, StrsAre vs xs → StrsAre vs2 ys → StrsAre (vs ++ vs2) (xs ++ ys)
  | _, _, _, _, .nil, h => h
  | _, _, _, _, .cons y t r, h => .cons y t (strs_app r h)
end
theorem pick_upto {vs : List Value} {y : Int} (h : 0 ≤ y) : (slicePick vs.toArray none (some y) none).toList = vs.take y.toNat := by
  have e : sliceBounds none (some y) none vs.toArray.size = (((0 : Nat) : Int), ((min y.toNat vs.toArray.size : Nat) : Int), 1) := by
    simp only [sliceBounds, Option.getD_none, show (1 : Int) > 0 by decide, if_true, if_neg (show ¬ (y < 0) by omega)]
    congr 1
    congr 1
    omega
  rw [kmk_pick_nat _ e]
  show (vs.drop 0).take (min y.toNat vs.toArray.size - 0) = _
  rw [List.drop_zero, Nat.sub_zero, List.size_toArray, kmk_take_min]
theorem pick_from {vs : List Value} {x : Int} (h : 0 ≤ x) : (slicePick vs.toArray (some x) none none).toList = vs.drop x.toNat := by
  have e : sliceBounds (some x) none none vs.toArray.size = (((min x.toNat vs.toArray.size : Nat) : Int), ((vs.toArray.size : Nat) : Int), 1) := by
    simp only [sliceBounds, Option.getD_none, show (1 : Int) > 0 by decide, if_true, if_neg (show ¬ (x < 0) by omega)]
    congr 1
    omega
  rw [kmk_pick_nat _ e]
  show (vs.drop (min x.toNat vs.toArray.size)).take (vs.toArray.size - min x.toNat vs.toArray.size) = _
  rw [List.size_toArray, kmk_drop_min, List.take_of_length_le]
  rw [List.length_drop]; omega
theorem strs_drop : ∀ {vs : List Value} {xs : List Str} (k : Nat), StrsAre vs xs → StrsAre (vs.drop k) (xs.drop k)
  | _, _, 0, h => h
  | _, _, _ + 1, .nil => .nil
  | _, _, k + 1, .cons _ _ h => strs_drop k h
theorem strs_take : ∀ {vs : List Value} {xs : List Str} (k : Nat), StrsAre vs xs → StrsAre (vs.take k) (xs.take k)
  | _, _, 0, _ => .nil
  | _, _, _ + 1, .nil => .nil
  | _, _, k + 1, .cons y t h => .cons y t (strs_take k h)
section
variable {prog : Program} {w : World} {A : Around} {E : Value → Shared → Prop} {s : Shared} {h₀ : Heap} {L D D2 : Addr} {m : Str → Option Value} {news news' : Led} {n n2 : Nat} {vs vs2 : List Value}
theorem extendL {Q : Value → Shared → Prop} (F : Fr h₀ L s.heap m) (N : News h₀ L s.heap news) (hm2 : (D2, listO vs2 n2) ∈ news) (hne : vs2.length ≠ 0) (U : Upd D (listO vs n) (listO (vs ++ vs2) (n + 1)) news news') (hz : vs.length + vs2.length ≤ 10000000)
    (h : ∀ h', Fr h₀ L h' m → News h₀ L h' news' → Q .none { s with heap := h' }) : wpAny (model prog w) A (call (.builtin "list.extend") [.ref D, .ref D2]) Q E s := by
  refine' kl_extend (its := vs.toArray) (its2 := vs2.toArray) (l := vs ++ vs2) F N hm2 (by simp) (by simpa using hne) U ?d ?z ?y h
  case d => exact extend_door (by rw [sizeLine_eq]; simp only [List.size_toArray]; omega)
  case z => rw [sizeLine_eq]; simpa using (by omega : vs.length ≤ 16777216)
  case y => rw [sizeLine_eq]; simp only [List.size_toArray]; omega
end
end

/-! ## Ec -/
section
section
variable {prog : Program} {w : World} {A₀ A : Around} {s : Shared} {base h₀ : Heap} {outer : List Env} {L : Addr} {m : Str → Option Value} {env : Env} {led rest : Led} {K : Frag}
  {R : Result → Shared → Prop} {name qual : Str} {params : Arguments} {body : List Stmt} {scope : Scope} {dV kV doc pm cdv ct oc : Value} {an od : Option Addr} {osl : Array (Option Value)} {f : Addr} {args : Args} {binds : List (Str × Value)}
  {p : Program} {loose : List Str} {mean : ExcName → Option Value} {mg mb : Str → Option Value}
theorem enterRC (B : Below A₀ base outer h₀) (F : Fr h₀ L s.heap m) (X₀ : K.In h₀) (N : News h₀ L s.heap (led ++ rest)) (ap : ∀ p ∈ rest, p.1 ∉ led.map (·.1)) (T : Top p loose mean mg mb h₀) (hA : A.frames = some (env :: outer)) (hf : env.frame = some L) (hke : env.scope.kind = .function)
    (ho : K.lookup f = some ⟨oc, od, .func (fnOf name qual params body scope dV kV doc pm an cdv ct), osl⟩) (hcd : codeIn K cdv qual = true) (hroom : A.depth < recursionLimit)
    (hbind : BindsTo s (fnOf name qual params body scope dV kV doc pm an cdv ct) args binds)
    (hkind : ∀ n, ∀ x ∈ binds, scope.names.lookup x.1 = some .local ∨ (scope.names.lookup x.1 = some .cell ∧ ((cellsFrom n scope.names []).lookup x.1).isSome = true))
    (hnd : ((cellsFrom 0 scope.names []).map (·.1)).Nodup)
    (h : ∀ g L' h₁ tk cells, Fr g L' h₁ (bindL (envOfC qual scope L' f cdv).kindOf binds fun _ => none) → News g L' h₁ (cells ++ led) →
      CellsAre (bindC (envOfC qual scope L' f cdv).kindOf binds fun _ => none) (cellsFrom (L' + 1) scope.names []) cells → Below A base (env :: outer) g → K.In g → Top p loose mean mg mb g → (∀ p ∈ led, p.1 < L') → h₀.StaysIn g →
      wpAny (model prog w) (A.deeper (envOfC qual scope L' f cdv)) (execs body (envOfC qual scope L' f cdv))
        (fun fl s' => LeaveR h₀ L m rest g R (match fl with | .ret v => v | _ => .none) s')
        (fun e s' => wpAny (model prog w) (A.deeper (envOfC qual scope L' f cdv)) (leaving (envOfC qual scope L' f cdv) e) (fun _ s'' => R (.error e) s'') (fun e' s'' => R (.error e') s'') s')
        { s with heap := h₁, toks := tk })
    (hco : scope.isCoroutine = false) (hgen : scope.isGenerator = false) (hk : scope.kind = .function) : codeAny (model prog w) A (.call (.ref f) args) R s := by
  obtain ⟨BG, st, back⟩ := groundR B F N ap hA hf hke
  have X := X₀.keeps F.keep
  have Nl : News h₀ L s.heap led := fun p hp => N p (List.mem_append_left _ hp)
  refine codeAny_call_function (fd := fnOf name qual params body scope dV kV doc pm an cdv ct) (body := body) hroom (X _ _ ho) rfl hco hgen rfl (codeRec_of X hcd) (hbind _ _ _ _ ?_)
  refine wpAny_newFunctionEnv_cells hk (hkind _) fun env' he s' x => ?_
  subst he
  refine ⟨(T.nolimit.keeps F.keep).keeps x.toInCall.keep, codeAny_func ?_⟩
  obtain ⟨h₁, tk, rfl, _⟩ := x.done
  have hk₁ := x.toInCall.keep
  obtain ⟨cells, NC, Y⟩ := Cl.news (h₀ := s.heap) (Nat.le_refl _) fun n c hm => ⟨x.cell n c (lookup_of_mem_nodup (cellsFrom_names scope.names 0 (s.heap.objs.size + 1) [] [] rfl ▸ hnd) hm), x.above n c hm⟩
  refine wpAny_mono (h _ s.heap.objs.size h₁ tk cells ⟨x.toInCall.ns, fun b o e => hk₁ b o (of_hideAll _ e), Nat.le_of_eq (hideAll_size _ _)⟩ (fun p hp => ?_) Y BG (X₀.keeps st) (T.keeps st) (fun p hp => Heap.lt_size (Nl p hp).1) st) (fun fl s' hl => ?_) fun _ _ y => y
  · rcases List.mem_append.mp hp with hp | hp
    · refine ⟨(NC p hp).1, (NC p hp).2.1, ?_⟩
      cases q : (hideAll s.heap (led.map (·.1))).get? p.1 with
      | none => rfl
      | some o => have := of_hideAll _ q; rw [(NC p hp).2.2] at this; cases this
    · exact ⟨hk₁ _ _ (Nl p hp).1, Nat.ne_of_lt (Heap.lt_size (Nl p hp).1), hideAll_none _ (List.mem_map_of_mem hp)⟩
  · obtain ⟨L', m', led', F', N', k⟩ := hl
    obtain ⟨a, b, c⟩ := back s' L' m' led' F' N'
    exact k a b c
end
end

/-! ## Ir -/
section
section
variable {prog : Program} {w : World} {A : Around} {E : Value → Shared → Prop} {s : Shared} {env : Env} {h₀ : Heap} {x : Str} {body : List Stmt} {Q : Flow → Shared → Prop}
theorem rsize_one (n : Nat) : Builtin.Range.rangeSize 0 (n : Int) 1 = (n : Int) := by
  unfold Builtin.Range.rangeSize
  simp only [show (1 : Int) > 0 by decide, if_true]
  split <;> omega
theorem iter_rng {r : Addr} {n : Nat} {t u v : Tok} {m₀ : Str → Option Value} {news : Led} (J : Nat → (Str → Option Value) → Led → Prop) (hh : A.handled = none)
    (F : Fr h₀ env.locals s.heap m₀) (N : News h₀ env.locals s.heap news) (hr : IsRange s.heap r 0 (n : Int) 1 t u v) (hsz : n ≤ 100000) (hj : J 0 m₀ news)
    (turn : ∀ i tv m₁ news₁ h tk I io, i < n → J i m₁ news₁ → (∀ p ∈ news₁, p.1 ≠ I) → Fr h₀ env.locals h (fun y => if y = x then some (.int (i : Nat) tv) else m₁ y) → News h₀ env.locals h ((I, io) :: news₁) →
      wpAny (model prog w) A (execs body env) (TurnPost h₀ env.locals I io (J (i + 1)) { s with heap := h, toks := tk } Q) E { s with heap := h, toks := tk })
    (done : ∀ m₁ news₁ h tk, J n m₁ news₁ → Fr h₀ env.locals h m₁ → News h₀ env.locals h news₁ → Q .next { s with heap := h, toks := tk }) :
    wpAny (model prog w) A (pyIter (.ref r)) (fun it s₂ => LoopAtV prog w A h₀ env x body Q E it s₂) E s := by
  refine wpAny_pyIter_range hr (small_one (by omega) (by omega) (by omega) (by omega)) ?_
  have hnl : env.locals ≠ s.heap.objs.size := fun e => absurd F.ns.lt (e ▸ Nat.lt_irrefl _)
  refine ⟨_, _, _, n, _, _, m₀, news, J, rfl, Walks.range hh s.heap.objs.size 0 1 n, ?_, ?_, ?_, ?_, F.push _, (fun p hp => ⟨Heap.get?_push_of_some _ (N p hp).1, (N p hp).2⟩), hj, ?_, ?_⟩
  · intro hm
    exact hnl (List.mem_singleton.mp hm)
  · intro b hb
    rw [List.mem_singleton.mp hb]
    exact next_is_new F
  · intro p hp hI
    exact absurd (Heap.lt_size (N p hp).1) ((List.mem_singleton.mp hI) ▸ Nat.lt_irrefl _)
  · show IsRangeIter _ _ _ _ _
    rw [rsize_one]
    simpa using Heap.get?_push_size _ rfl
  · rintro i v m₁ news₁ s₁ own ⟨hh', tk', rfl⟩ hin hP hJi hoff hfp hown hall hSt F₁ N₁
    obtain ⟨tv, rfl⟩ := hP
    have ev : (0 : Int) + (i : Int) * 1 = (i : Int) := by omega
    rw [ev] at F₁
    obtain ⟨io, hio⟩ : ∃ o, hh'.get? s.heap.objs.size = some o := ⟨_, hSt⟩
    have hI : (s.heap.objs.size, io) ∈ own := hall _ (by simp) (next_is_new F) io hio
    have nI : ∀ p ∈ news₁, p.1 ≠ s.heap.objs.size := fun p hp e => hoff p hp (by simp [e])
    have N₂ : News h₀ env.locals hh' ((s.heap.objs.size, io) :: news₁) := fun p hp => by
      rcases List.mem_cons.mp hp with rfl | hp
      · exact N₁ _ (List.mem_append_left _ hI)
      · exact N₁ p (List.mem_append_right _ hp)
    refine wpAny_mono (turn i tv m₁ news₁ hh' tk' _ io hin hJi nI F₁ N₂) (fun f s₂ p => ?_) fun _ _ e => e
    have fin : (∃ h' tk m' news', s₂ = { s with heap := h', toks := tk } ∧ Fr h₀ env.locals h' m' ∧ News h₀ env.locals h' ((s.heap.objs.size, io) :: news') ∧ (∀ p ∈ news', p.1 ≠ s.heap.objs.size) ∧ J (i + 1) m' news') →
        LoopStepU h₀ env.locals [s.heap.objs.size] own (J (i + 1)) { s with heap := hh', toks := tk' } .next s₂ := by
      rintro ⟨h', tk, m', news', e, F', N', hn, hJ'⟩
      refine ⟨rfl, h', tk, m', news', e, F', fun p hp => ?_, fun p hp q => hn p hp (List.mem_singleton.mp q), hJ'⟩
      rcases List.mem_append.mp hp with hp | hp
      · have hg := hown p hp
        have e1 := List.mem_singleton.mp (hfp p hp)
        have : p = (s.heap.objs.size, io) := by
          obtain ⟨a, o⟩ := p
          dsimp only at e1 hg
          subst e1
          rw [hio] at hg
          cases hg; rfl
        rw [this]
        exact N' _ (.head _)
      · exact N' p (.tail _ hp)
    cases f with
    | ret v => exact .ret p
    | brk => exact .brk p
    | next => exact .next (fin p)
    | cont => exact .cont (fin p)
  · rintro h' tk m' news' F' N' _ hJ'
    exact done m' news' h' tk hJ' F' N'
end
end

/-! ## W1 -/
section
theorem offW1 : True := by
  (w_top off)
  k_with_none
  k_with "steps" => (repeat' (first | (k_unfold; (try dsimp only)) | ((with_reducible show wpAny _ _ (exec (Stmt.If _ _ _ _) _) _ _ _); k_fold) | ((fail_if_success with_reducible show LeaveR _ _ _ _ _ _ _ _); (fail_if_success with_reducible show TurnPost _ _ _ _ _ _ _ _ _); (fail_if_success with_reducible show wpAny _ _ (pyIter _) _ _ _); (fail_if_success with_reducible show wpAny _ _ (exec (Stmt.While _ _ _ _) _) _ _ _); walk1) | ((fail_if_success with_reducible show LeaveR _ _ _ _ _ _ _ _); (fail_if_success with_reducible show TurnPost _ _ _ _ _ _ _ _ _); (fail_if_success with_reducible show wpAny _ _ (pyIter _) _ _ _); (fail_if_success with_reducible show wpAny _ _ (exec (Stmt.While _ _ _ _) _) _ _ _); dsimp only; walk1) | fail "no step"))
  k_with "call builtin:issubclass" => ((k_here; (with_reducible show wpAny _ _ (call (Value.builtin "issubclass") [Value.type "str", Value.ref _]) _ _ _); refine issub_call (News.get (by k_asm) (by k_mem)) ?_))
  k_with "call ref" => (((with_reducible show wpAny _ _ (call (Value.ref 807) _) _ _ _); k_dflt ((refine' DoesP.use (c_fspath _ _ _) ?k1 ?k2 ?k3 ?k4 ?k5 ?kK ?kd ?ku ?_; (case k1 => k_asm); (case k2 => k_asm); (case k3 => k_asm); (case k4 => k_asm); (case k5 => k_asm); (case kK => first | exact rfl | assumption); (case kd => ktr_room); (case ku => ktr_units); k_whole; intro _ _ _ P9 _ _; (first | subst P9 | (obtain ⟨_, P9⟩ := P9; subst P9)); (try dsimp only); (try k_fold)))))
  k_with "call ref" => (((with_reducible show wpAny _ _ (call (Value.ref 821) _) _ _ _); k_dflt ((refine' DoesP.use (c_get_sep _ _ _) ?k1 ?k2 ?k3 ?k4 ?k5 ?kK ?kd ?ku ?_; (case k1 => k_asm); (case k2 => k_asm); (case k3 => k_asm); (case k4 => k_asm); (case k5 => k_asm); (case kK => first | exact rfl | assumption); (case kd => ktr_room); (case ku => ktr_units); k_whole; intro _ _ _ P9 _ _; (first | subst P9 | (obtain ⟨_, P9⟩ := P9; subst P9)); (try dsimp only); (try k_fold)))))
  k_with "call builtin:str.find" => (((with_reducible show wpAny _ _ (call (Value.builtin "str.find") [Value.str _ _, Value.str _ _, Value.int _ _, Value.int (((Str.length _ : Nat)) : Int) _]) _ _ _); refine find4 ?_))
  k_with "call builtin:str.split" => (((with_reducible show wpAny _ _ (call (Value.builtin "str.split") [Value.str _ _, Value.str _ _]) _ _ _); refine' KSpl.split1 ?k1 ?k2 ?k3 ?_ ?k4; (case k1 => k_asm); (case k2 => k_asm); (case k3 => decide); (case k4 => (rw [sizeLine_eq]; omega)); intro _ _ _ _ _ _ _ _ yl1; (try k_lt yl1); revert yl1; intro _))
  k_with "truthy ref" => ((with_unfolding_all (refine' truthyL ?k1 ?k2 ?k3 ?_; (case k1 => k_asm); (case k2 => k_mem); (case k3 => omega))))
  k_with "call builtin:list.pop" => ((refine' popL ?k1 ?k2 ?k3 ?k4 ?k5 ?_; (case k1 => k_asm); (case k2 => k_asm); (case k3 => k_upd); (case k4 => assumption); (case k5 => omega); intro _ _ _ _; (try k_sweep)))
  k_with "call builtin:list.append" => ((refine' appendL ?k1 ?k2 ?k3 ?k4 ?_; (case k1 => k_asm); (case k2 => k_asm); (case k3 => k_upd); (case k4 => omega); intro _ _ _; (try k_sweep)))
  k_with "subscriptTail Name UnaryOp ref int" => (((with_reducible show wpAny _ _ (subscriptTail _ _ (Value.ref _) (Value.int _ _)) _ _ _); (with_unfolding_all refine' lastL ?k1 ?k2 ?k3 ?k4 ?k5 ?_; (case k1 => k_asm); (case k2 => k_mem); (case k3 => assumption); (case k4 => assumption); (case k5 => omega)); intro _))
  k_with "call builtin:str.join" => (((with_reducible show wpAny _ _ (call (Value.builtin "str.join") [Value.str _ _, Value.ref _]) _ _ _); refine' joinL ?k1 ?k2 ?k3 ?k4 ?k5 ?_; (case k1 => k_asm); (case k2 => k_mem); (case k3 => assumption); (case k4 => decide); (case k5 => (rw [wgt_sum]; omega)); intro _ _))
  k_with "call type:collections.deque" => ((refine' call_dqN ?k1 ?k2 ?_; (case k1 => k_asm); (case k2 => k_asm); intro _ _ _ _ yl1; (try k_lt yl1); revert yl1; intro _; (try k_sweep)))
  k_with "truthy ref" => ((with_unfolding_all (refine' truthy_dqN (a := _) ?k1 ?k2 ?_; (case k1 => k_asm); (case k2 => k_mem)); intro _))
  k_with "units" => (((have hcL9 := cLine_is); (try simp only [units_kw, units_in1, units_deeper, Around.mark_units, units_caller] at *); (try dsimp only [ktrTop] at *); omega))
  k_with "call ref" => (((with_reducible show wpAny _ _ (call (Value.ref 587) _) _ _ _); k_dflt (refine' Does.use0 (c_sio _ _ _) ?k1 ?k2 ?k3 ?k4 ?k5 ?kK ?kd ?ku ?_; (case k1 => k_asm); (case k2 => k_asm); (case k3 => k_asm); (case k4 => k_asm); (case k5 => k_asm); (case kK => first | exact rfl | assumption); (case kd => ktr_room); (case ku => ktr_units); rintro _ _ _ _ ⟨_, _, _, _, _, _, _, e91, e92, _⟩ _ N9 D9; subst e91; subst e92; (simp only [AllNe2, AllNe, and_true, sioL, sioE, kvE, List.cons_append, List.nil_append] at D9 N9); revert D9 N9; intro _ _; (try dsimp only); (try k_fold))))
  k_with "truthy str" => ((with_unfolding_all (refine SBL.truthy (by omega) ?_)))
  k_with "inplaceOp Add str str" => ((with_unfolding_all (refine SBL.iadd (hsz := ?hsz) ?_; (case hsz => (rw [sizeLine_eq]; omega))); intro _ _ _))
  k_with "steps" => (repeat' (first | (k_unfold; (try dsimp only)) | ((with_reducible show wpAny _ _ (exec (Stmt.If _ _ _ _) _) _ _ _); k_fold) | ((fail_if_success with_reducible show LeaveR _ _ _ _ _ _ _ _); (fail_if_success with_reducible show WhileStep2 _ _ _ _ _ _ _ _); (fail_if_success with_reducible show wpAny _ _ (exec (Stmt.While _ _ _ _) _) _ _ _); (fail_if_success with_reducible show wpAny _ _ (exec (Stmt.If (Expr.Compare (Expr.Name (Str.ofString "nextchar") _) [CmpOp.Eq] [Expr.Constant _ _ _] _) _ _ _) _) _ _ _); (fail_if_success with_reducible show wpAny _ _ (exec (Stmt.If (Expr.Compare (Expr.Attribute _ (Str.ofString "state") _) [CmpOp.Is] _ _) _ _ _) _) _ _ _); walk1) | ((fail_if_success with_reducible show LeaveR _ _ _ _ _ _ _ _); (fail_if_success with_reducible show WhileStep2 _ _ _ _ _ _ _ _); dsimp only; (fail_if_success with_reducible show WhileStep2 _ _ _ _ _ _ _ _); walk1) | fail "no step"))
  k_with "leaving ref" => ((k_dflt (refine' leave_raiseS ?k1 ?k0 ?k2 News.nil ?_; (case k0 => first | assumption | exact Heap.MadeExc.of (by assumption)); (case k2 => assumption); (case k1 => assumption)); intro _ _ _ _ _))
  k_with "ite" => (first | with_reducible refine ite_tt ?_ | with_reducible refine ite_ff ?_ | with_reducible refine split_not ?_ | refine ite_pos (by with_reducible assumption) ?_ | refine ite_neg (by with_reducible assumption) ?_ | refine ite_isFalse (by with_reducible assumption) ?_ | (with_unfolding_all (k_closed; k_dflt (first | refine ite_pos (by decide) ?_ | refine ite_neg (by decide) ?_ | refine ite_pos (by decide +kernel) ?_ | refine ite_neg (by decide +kernel) ?_))))
  k_with "eval Name" => (((with_reducible show wpAny _ _ (eval (Expr.Name _ _) (envOf _ _ _ _ _)) _ _ _); (with_reducible refine ld (by assumption) (by with_unfolding_all rfl) ?_ (by kernel_rfl!) (by kernel_rfl!) (by decide +kernel))))
  k_with "getAttr ref" => ((with_unfolding_all (k_dflt (refine' get_own ?k1 ?k2 ?k3 ?k4 ?k5 ?k6 ?k7 ?k8 ?k9 ?_; (case k1 => k_asm); (case k2 => k_asm); (case k3 => k_inst); (case k4 => k_is); (case k5 => k_is); (case k6 => k_is); (case k7 => k_is); (case k8 => k_get); (case k9 => k_handed); k_whole))))
  k_with "call ref" => (((with_reducible show wpAny _ _ (call (Value.ref 533) _) _ _ _); k_dflt (first | (refine' Does.useN (c_rdI _ _ _ _ _ _ _ _ _ _ _ ?z1 ?z2 ?z3) ?k1 ?k2 ?k3 ?k4 ?ka ?k5 ?kK ?kd ?ku ?_; (case k1 => k_asm); (case k2 => k_asm); (case k3 => k_asm); (case k4 => k_asm); (case z1 => omega); (case z2 => omega); (case z3 => omega); (case ka => (simp only [AllNe2, AllNe, and_true]; omega)); (case k5 => k_asm); (case kK => first | exact rfl | assumption); (case kd => ktr_room); (case ku => ktr_units); intro _ _ _ _ e9 _ N9; obtain ⟨_, _, e91, e92⟩ := e9; subst e91; subst e92; (simp only [sioL, sioE, kvE, List.cons_append, List.nil_append] at N9); revert N9; intro _; (try dsimp only); (try k_fold)) | (refine' Does.useN (c_rdO _ _ _ _ _ _ _ _ _ _ _ ?z1 ?z2 ?z3) ?k1 ?k2 ?k3 ?k4 ?ka ?k5 ?kK ?kd ?ku ?_; (case k1 => k_asm); (case k2 => k_asm); (case k3 => k_asm); (case k4 => k_asm); (case z1 => omega); (case z2 => omega); (case z3 => omega); (case ka => (simp only [AllNe2, AllNe, and_true]; omega)); (case k5 => k_asm); (case kK => first | exact rfl | assumption); (case kd => ktr_room); (case ku => ktr_units); intro _ _ _ _ e9 _ N9; obtain ⟨_, _, e91, e92⟩ := e9; subst e91; subst e92; (simp only [sioL, sioE, kvE, List.cons_append, List.nil_append] at N9); revert N9; intro _; (try dsimp only); (try k_fold)))))
  k_with "call ref" => (((with_reducible show wpAny _ _ (call (Value.ref 541) _) _ _ _); k_dflt (refine' Does.useN (c_rdl _ _ _ _ _ _ _ _ _ _ ?z1 ?z2 ?z3) ?k1 ?k2 ?k3 ?k4 ?ka ?k5 ?kK ?kd ?ku ?_; (case k1 => k_asm); (case k2 => k_asm); (case k3 => k_asm); (case k4 => first | k_asm | exact News_tl (by k_asm)); (case z1 => omega); (case z2 => omega); (case z3 => omega); (case ka => (simp only [AllNe2, AllNe, and_true]; omega)); (case k5 => k_asm); (case kK => first | exact rfl | assumption); (case kd => ktr_room); (case ku => ktr_units); intro _ _ _ _ e9 _ N9; obtain ⟨_, _, _, e91, e92⟩ := e9; subst e91; subst e92; (simp only [sioL, sioE, kvE, List.cons_append, List.nil_append] at N9); revert N9; intro _; (try dsimp only); (try k_fold))))
  k_with "steps" => (repeat' (first | (k_unfold; (try dsimp only)) | ((with_reducible show wpAny _ _ (exec (Stmt.If _ _ _ _) _) _ _ _); k_fold) | ((fail_if_success with_reducible show LeaveR _ _ _ _ _ _ _ _); (fail_if_success with_reducible show WhileStep2 _ _ _ _ _ _ _ _); (fail_if_success with_reducible show TurnPost _ _ _ _ _ _ _ _ _); (fail_if_success with_reducible show wpAny _ _ (exec (Stmt.While _ _ _ _) _) _ _ _); (fail_if_success with_reducible show wpAny _ _ (pyIter _) _ _ _); (fail_if_success with_reducible show wpAny _ _ (exec (Stmt.If (Expr.BoolOp _ _ _) _ _ _) _) _ _ _); (fail_if_success with_reducible show wpAny _ _ (exec (Stmt.If (Expr.UnaryOp UnaryOp.Not (Expr.Name (Str.ofString "touched") _) _) _ _ _) _) _ _ _); (fail_if_success with_reducible show wpAny _ _ (exec (Stmt.If (Expr.Compare (Expr.Subscript _ _ _) [CmpOp.In] _ _) _ _ _) _) _ _ _); walk1) | ((fail_if_success with_reducible show LeaveR _ _ _ _ _ _ _ _); (fail_if_success with_reducible show WhileStep2 _ _ _ _ _ _ _ _); (fail_if_success with_reducible show TurnPost _ _ _ _ _ _ _ _ _); dsimp only; (fail_if_success with_reducible show WhileStep2 _ _ _ _ _ _ _ _); (fail_if_success with_reducible show TurnPost _ _ _ _ _ _ _ _ _); walk1) | fail "no step"))
  k_with "getItem ref int" => (((with_reducible show wpAny _ _ (getItem (Value.ref _) (Value.int _ _)) _ _ _); (with_unfolding_all (refine' getLast_ ?k1 ?k2 ?k3 ?_; (case k1 => k_asm); (case k2 => k_mem); (case k3 => omega)))))
  k_with "setItem ref int" => (((with_reducible show wpAny _ _ (setItem (Value.ref _) (Value.int _ _) _) _ _ _); (refine' setLast_ ?k1 ?k2 ?k3 ?k4 ?_; (case k1 => k_asm); (case k2 => k_asm); (case k3 => k_upd); (case k4 => omega)); intro _ _ _; (try k_sweep)))
  k_with "setItem ref int str" => (((with_reducible show wpAny _ _ (setItem (Value.ref _) (Value.int _ _) _) _ _ _); (refine' setLast_ ?k1 ?k2 ?k3 ?k4 ?_; (case k1 => k_asm); (case k2 => k_asm); (case k3 => k_upd); (case k4 => omega)); intro _ _ _; (try k_sweep)))
  trivial

theorem cutS {M : Model} {A : Around} {E : Value → Shared → Prop} {env : Env} {S : Stmt} {P Q : Flow → Shared → Prop} {s : Shared} (h : wpAny M A (exec S env) P E s) (k : ∀ f s', P f s' → Q f s') : wpAny M A (exec S env) Q E s :=
  wpAny_mono h k fun _ _ e => e
theorem item_ch {b : Str} {p : Nat} (h : p < b.length) : Txt.item b (p : Int) = chAt b p := by
  obtain ⟨n, e1, e2⟩ := ch_of h
  rw [e1]
  have e3 : b.cps[((p : Int)).toNat]? = some n := by
    have := congrArg List.head? e2
    rw [List.head?_drop] at this
    simpa using this
  unfold Txt.item Txt.charAt
  rw [StrLaws.at_nonneg (Int.natCast_nonneg p) e3]
  rfl
noncomputable abbrev cmS (c : Bool) : Str := if c = true then Str.ofString "#" else Str.ofString ""
theorem nin_cmF {b : Str} {p : Nat} {c : Bool} (h : p < b.length) (hc : c = false) : nin (cmS c) (chAt b p) = true := by
  subst hc
  exact nin_empty (by rw [chAt_len, if_pos h])
theorem nin_cmN {b : Str} {p : Nat} {c : Bool} (h : p < b.length) (hc : (chAt b p == Str.ofString "#") = false) : nin (cmS c) (chAt b p) = true := by
  cases c with
  | false => exact nin_cmF h rfl
  | true =>
    obtain ⟨n, e1, _⟩ := ch_of h
    rw [e1] at hc ⊢
    show nin (Str.ofString "#") (chS n) = true
    rw [nin_ch, ha_ls]
    rw [ha_ch] at hc
    have : n ≠ 35 := by rintro rfl; simp at hc
    simpa using this
theorem snoc_inv : ∀ {vals : List Value} {acc : List Str} {wd : Str}, StrsAre vals (acc ++ [wd]) → ∃ vals' t, vals = vals' ++ [.str wd t] ∧ StrsAre vals' acc
  | _, [], _, .cons _ t .nil => ⟨[], t, rfl, .nil⟩
  | _, a :: acc, wd, .cons _ t h => by
    obtain ⟨vals', t', rfl, h'⟩ := snoc_inv h
    exact ⟨.str a t :: vals', t', rfl, .cons a t h'⟩
theorem wgt_snoc (acc : List Str) (wd : Str) : wgt (acc ++ [wd]) = wgt acc + (wd.length + 1) := by rw [wgt_app, wgt_one]

noncomputable def Kp (P : Prop) : Prop := P
theorem nin_cmT {b : Str} {p : Nat} {c : Bool} (hc : c = true) (h : chAt b p = chS 35) : nin (cmS c) (chAt b p) = false := by subst hc; rw [h]; decide +kernel
theorem eqch {x y : Str} (h : (x == y) = true) : x = y := by simpa using h
theorem nin_quN {b : Str} {p : Nat} (h : p < b.length) (h1 : (chAt b p == Str.ofString "'") = false) (h2 : (chAt b p == Str.ofString "\"") = false) : nin quS (chAt b p) = true := by
  obtain ⟨n, e1, _⟩ := ch_of h
  rw [e1] at h1 h2 ⊢
  rw [nin_ch, qu_ls]
  rw [sq_ch] at h1
  rw [dq_ch] at h2
  have a1 : n ≠ 39 := by rintro rfl; simp at h1
  have a2 : n ≠ 34 := by rintro rfl; simp at h2
  simp [a1, a2]
theorem nin_bsN {b : Str} {p : Nat} (h : p < b.length) (h1 : (chAt b p == Str.ofString "\\") = false) : nin bsS (chAt b p) = true := by
  obtain ⟨n, e1, _⟩ := ch_of h
  rw [e1] at h1 ⊢
  rw [nin_ch, bs_ls]
  rw [bs_ch] at h1
  have a1 : n ≠ 92 := by rintro rfl; simp at h1
  simp [a1]
theorem slice_le {b : Str} {p e : Nat} : (Txt.slice b (some ((p : Int) + 1)) (some (e : Int))).length ≤ e - (p + 1) := by
  have := slice_ss b (p + 1) e
  rw [show ((p : Int) + 1) = ((p + 1 : Nat) : Int) by omega, this, len_mkS, List.length_take]
  omega
theorem neqch {x y : Str} (h : (x != y) = true) : x ≠ y := by simpa using h
theorem neqf {x y : Str} (h : (x != y) = false) : x = y := by simpa using h
theorem dq_lt {b : Str} {p : Nat} (h : chAt b p = dqS) : p < b.length := by
  by_cases hp : p < b.length
  · exact hp
  · have := congrArg Str.length h
    rw [chAt_len, if_neg hp] at this
    exact absurd this (by decide +kernel)
theorem dq_tail {b : Str} {p : Nat} (h : p < b.length) (e : Txt.slice b (some (p : Int)) none = Str.ofString "\\") : chAt b p = chS 92 ∧ p + 1 = b.length := by
  rw [slice_sn, bs_ch] at e
  have e2 := congrArg ls e
  rw [ls_mkS] at e2
  obtain ⟨n, e3, e4⟩ := ch_of h
  rw [e4] at e2
  have h5 : n = 92 ∧ (ls b).drop (p + 1) = [] := by
    have e6 : n :: (ls b).drop (p + 1) = [92] := e2
    simpa using e6
  refine ⟨by rw [e3, h5.1], ?_⟩
  have := List.drop_eq_nil_iff.mp h5.2
  rw [len_ls] at this
  omega
theorem dq_ntail {b : Str} {p : Nat} (h : p < b.length) (h1 : chAt b p = chS 92) (h2 : p + 1 = b.length) (e : (Txt.slice b (some (p : Int)) none == Str.ofString "\\") = false) : False := by
  rw [slice_sn, bs_ch] at e
  obtain ⟨n, e3, e4⟩ := ch_of h
  rw [e4, List.drop_of_length_le (by rw [len_ls]; omega)] at e
  rw [e3] at h1
  obtain rfl := chS_inj.mp h1
  simp at e
theorem pair1 : Str.ofString "\\\"" = mkS [92, 34] := by decide +kernel
theorem pair2 : Str.ofString "\\\\" = mkS [92, 92] := by decide +kernel
theorem slice2 {b : Str} {p : Nat} : Txt.slice b (some (p : Int)) (some ((p : Int) + 2)) = mkS (((ls b).drop p).take 2) := by
  have := slice_ss b p (p + 2)
  rw [show ((p : Int) + 2) = ((p + 2 : Nat) : Int) by omega, this, show p + 2 - p = 2 by omega]
theorem mkS_inj {a c : List Nat} (h : mkS a = mkS c) : a = c := by have := congrArg ls h; exact this
theorem dq_any {b : Str} {p : Nat} (h : p < b.length) (e : ([Str.ofString "\\\"", Str.ofString "\\\\"].any fun x => x == Txt.slice b (some (p : Int)) (some ((p : Int) + 2))) = true) :
    chAt b p = chS 92 ∧ p + 1 < b.length ∧ (chAt b (p + 1) = chS 34 ∨ chAt b (p + 1) = chS 92) := by
  rw [slice2, pair1, pair2] at e
  obtain ⟨n, e1, e2⟩ := ch_of h
  rw [e2] at e
  have e3 : mkS [92, 34] = mkS ((n :: (ls b).drop (p + 1)).take 2) ∨ mkS [92, 92] = mkS ((n :: (ls b).drop (p + 1)).take 2) := by
    simp only [List.any_cons, List.any_nil, Bool.or_false, Bool.or_eq_true, beq_iff_eq] at e
    exact e
  have hp : p + 1 < b.length := by
    by_cases q : p + 1 < b.length
    · exact q
    · rw [List.drop_of_length_le (by rw [len_ls]; omega)] at e3
      rcases e3 with e3 | e3 <;> exact absurd (mkS_inj e3) (by simp)
  obtain ⟨k, f1, f2⟩ := ch_of hp
  rw [f2] at e3
  rw [e1, f1]
  rcases e3 with e3 | e3
  · have := mkS_inj e3
    simp at this
    obtain ⟨rfl, rfl⟩ := this
    exact ⟨rfl, hp, .inl rfl⟩
  · have := mkS_inj e3
    simp at this
    obtain ⟨rfl, rfl⟩ := this
    exact ⟨rfl, hp, .inr rfl⟩
theorem dq_nany {b : Str} {p : Nat} (h : p < b.length) (h1 : chAt b p = chS 92) (hp : p + 1 < b.length) (e : ([Str.ofString "\\\"", Str.ofString "\\\\"].any fun x => x == Txt.slice b (some (p : Int)) (some ((p : Int) + 2))) = false) :
    chAt b (p + 1) ≠ chS 34 ∧ chAt b (p + 1) ≠ chS 92 := by
  rw [slice2, pair1, pair2] at e
  obtain ⟨n, e1, e2⟩ := ch_of h
  obtain ⟨k, f1, f2⟩ := ch_of hp
  rw [e2, f2] at e
  rw [e1] at h1
  obtain rfl := chS_inj.mp h1
  rw [f1]
  simp only [List.any_cons, List.any_nil, Bool.or_false, Bool.or_eq_false_iff, beq_eq_false_iff_ne] at e
  exact ⟨fun q => e.1 (by rw [chS_inj.mp q]; rfl), fun q => e.2 (by rw [chS_inj.mp q]; rfl)⟩
theorem hashnl {x : Str} (h : (x == Str.ofString "#") = true) : x = chS 35 := by rw [← ha_ch]; simpa using h
/-- the frame of the words' reading -/
noncomputable def WFr (g : Heap) (L WA : Addr) (b : Str) (t : Tok) (c tc : Bool) (kk : Nat) (h : Heap) (m : Str → Option Value) : Prop :=
  Fr g L h m ∧ m (Str.ofString "line") = some (.str b t) ∧ m (Str.ofString "remarks") = some (.bool c) ∧ m (Str.ofString "words") = some (.ref WA) ∧ m (Str.ofString "touched") = some (.bool tc) ∧ ∃ tk, m (Str.ofString "k") = some (.int kk tk)
theorem WFr.out {g : Heap} {L WA : Addr} {b : Str} {t : Tok} {c tc : Bool} {kk : Nat} {h : Heap} {m : Str → Option Value} (x : WFr g L WA b t c tc kk h m) :
    ∃ tk, Fr g L h (fun y => if y = Str.ofString "k" then some (.int kk tk) else if y = Str.ofString "touched" then some (.bool tc) else if y = Str.ofString "words" then some (.ref WA) else if y = Str.ofString "remarks" then some (.bool c) else if y = Str.ofString "line" then some (.str b t) else m y) := by
  obtain ⟨F, e1, e2, e3, e4, tk, e5⟩ := x
  exact ⟨tk, Fr.put (x := Str.ofString "k") (Fr.put (x := Str.ofString "touched") (Fr.put (x := Str.ofString "words") (Fr.put (x := Str.ofString "remarks") (Fr.put (x := Str.ofString "line") F (by exact e1)) (by exact e2)) (by exact e3)) (by exact e4)) (by exact e5)⟩

set_option maxHeartbeats 16000000 in
theorem c_words (w : World) (b : Str) (t : Tok) (c : Bool) (hx : b.length ≤ 100000) (r : Res) (k₀ : Nat) (hr : runM (cmS c) b k₀ [] (g0 0 (some spS)) = some r) :
   Does w 854 4 60 [.str b t, .bool c] [] (fun v led => (∃ xs S vals n, r = .ok xs ∧ StrsAre vals xs ∧ v = .ref S ∧ led = [(S, listO vals n)]) ∨ (∃ m t, r = .err m ∧ v = .str m t ∧ led = [])) := by
  unfold Does
  k_fill
  intro mean mg mb dp un gd cn cs a0 ccd cl outer A₀ base h₀ L m s rest Q E hB hF hK hN hap hT hcs hd hu hret
  refine wpAny_call ?_
  refine' enterR (binds := [(Str.ofString "line", .str b t), (Str.ofString "remarks", .bool c)]) hB hF hK hN hap hT rfl rfl hcs ?k6 ?k7 ?k8 ?k9 ?kB ?_ ?c2 ?c3 ?c4 ?c5
  case k6 => k_is
  case k7 => k_is
  case k8 => ktr_room
  case k9 => first | exact BindsTo.of_eq rfl | exact binds_K (hK.keeps hF.keep) rfl (by k_is) rfl rfl rfl
  case kB => exact locs rfl
  case c2 => exact rfl
  case c3 => exact rfl
  case c4 => exact rfl
  case c5 => decide
  intro g1 L1 h1 F1 N1 B1 X1 T1 l1 st1
  (try dsimp only)
  (try k_fold)
  have hend : ∀ (v : Value) (led' : Led) (h' : Heap) (tk' : Nat) (m' : Str → Option Value), ((∃ xs S vals n, r = .ok xs ∧ StrsAre vals xs ∧ v = .ref S ∧ led' = [(S, listO vals n)]) ∨ (∃ m t, r = .err m ∧ v = .str m t ∧ led' = [])) → Fr g1 L1 h' m' → News g1 L1 h' led' → qk (Flow.ret v) { s with heap := h', toks := tk' } := by
    intro v led' h' tk' m' hp F' N'
    refine leaveR_ F' N' ?_
    intro kF kN kD
    exact hret _ _ _ _ hp kF kN kD
  k_steps
  rename_i WA _ _ _ _ _ _ _
  refine' While_inv2 (n₀ := b.length) (fun n m l => ∃ (kk : Nat) (tc : Bool) (vals : List Value) (xs : List Str) (cnt : Nat) (tk : Tok), n + kk = b.length ∧ StrsAre vals xs ∧ WdI (cmS c) b r xs tc kk ∧ wgt xs ≤ 2 * kk ∧ m (Str.ofString "line") = some (.str b t) ∧ m (Str.ofString "remarks") = some (.bool c) ∧ m (Str.ofString "words") = some (.ref WA) ∧ m (Str.ofString "touched") = some (.bool tc) ∧ m (Str.ofString "k") = some (.int kk tk) ∧ l = [(WA, listO vals cnt)]) (by k_asm) (by k_asm) ?J0 ?turn
  case J0 => exact ⟨0, false, [], [], 0, _, rfl, .nil, wd_begin hr, by decide, rfl, rfl, rfl, rfl, rfl, rfl⟩
  case turn =>
    rintro n m₁ l₁ h₁ tk₁ F N ⟨kk, tc, vals, xs, cnt, tk, hn, hsv, hI, hw, e1, e2, e3, e4, e5, rfl⟩
    clear hB hF hK hN hap hT hret
    have F := Fr.put (x := Str.ofString "k") (Fr.put (x := Str.ofString "touched") (Fr.put (x := Str.ofString "words") (Fr.put (x := Str.ofString "remarks") (Fr.put (x := Str.ofString "line") F (by exact e1)) (by exact e2)) (by exact e3)) (by exact e4)) (by exact e5)
    clear e1 e2 e3 e4 e5
    have hvl := hsv.length
    have hwl := wgt_len xs
    clear_value qk
    k_steps
    · have hp : kk < b.length := by omega
      have hit := item_ch hp
      have hwn : nin wsS (chAt b kk) = true := by rw [← hit]; assumption
      refine cutS (P := fun f s' => (f = .cont ∧ ∃ (h' : Heap) (tk' e : Nat) (m' : Str → Option Value), s' = { s with heap := h', toks := tk' } ∧ WFr g1 L1 WA b t c false e h' m' ∧ News g1 L1 h' [(WA, listO vals cnt)] ∧ WdI (cmS c) b r xs false e ∧ kk < e ∧ e ≤ b.length) ∨
        (f = .next ∧ nin (cmS c) (chAt b kk) = true ∧ ∃ (h' : Heap) (tk' : Nat) (m' : Str → Option Value), s' = { s with heap := h', toks := tk' } ∧ WFr g1 L1 WA b t c tc kk h' m' ∧ (∃ ts, m' (Str.ofString "sign") = some (.str (Txt.item b kk) ts)) ∧ News g1 L1 h' [(WA, listO vals cnt)])) ?cm ?rest
      case cm =>
        walk1
        k_steps
        · have hch : chAt b kk = chS 35 := by rw [← hit]; exact hashnl (by assumption)
          refine .inl ⟨rfl, _, _, b.length, _, rfl, ⟨by k_asm, rfl, rfl, rfl, rfl, _, rfl⟩, by k_asm, ?_, by omega, Nat.le_refl _⟩
          exact wd_cm hI hp hwn (nin_cmT (by assumption) hch) (by rw [hch]; decide) (.inl ⟨by assumption, rfl⟩)
        · obtain ⟨e, q1, q2, q3, q4, q5⟩ := find_nl (Nat.le_of_lt hp) (by assumption)
          have hch : chAt b kk = chS 35 := by rw [← hit]; exact hashnl (by assumption)
          have hne : chAt b kk ≠ chS 10 := by rw [hch]; decide
          have hke : kk < e := by
            rcases Nat.lt_or_eq_of_le q2 with q | q
            · exact q
            · exact absurd (q ▸ q5) hne
          refine .inl ⟨rfl, _, _, e, _, rfl, ⟨by k_asm, rfl, rfl, rfl, rfl, _, congrArg (fun z => some (Value.int z _)) q1⟩, by k_asm, ?_, hke, Nat.le_of_lt q3⟩
          exact wd_cm hI hp hwn (nin_cmT (by assumption) hch) hne (.inr ⟨by assumption, q1⟩)
        · exact .inr ⟨rfl, nin_cmF hp (by assumption), _, _, _, rfl, ⟨by k_asm, rfl, rfl, rfl, rfl, _, rfl⟩, ⟨_, rfl⟩, by k_asm⟩
        · exact .inr ⟨rfl, nin_cmN hp (by rw [← hit]; assumption), _, _, _, rfl, ⟨by k_asm, rfl, rfl, rfl, rfl, _, rfl⟩, ⟨_, rfl⟩, by k_asm⟩
      case rest =>
        rintro f s' (⟨rfl, h', tk', e, m', rfl, hW, N, hI2, hke, hel⟩ | ⟨rfl, hcm, h', tk', m', rfl, hW, ⟨ts, es⟩, N⟩)
        · (try k_unfold); (try dsimp only)
          obtain ⟨hWF, hW1, hW2, hW3, hW4, tke, hW5⟩ := hW
          exact w2_cont hWF N (n' := b.length - e) (by omega) ⟨e, false, vals, xs, cnt, tke, by omega, hsv, hI2, by omega, hW1, hW2, hW3, hW4, hW5, rfl⟩
        · (try k_unfold); (try dsimp only)
          obtain ⟨tke, F⟩ := hW.out
          have F := Fr.put (x := Str.ofString "sign") F (by exact es)
          k_steps
          obtain ⟨acc, wd, hxs, hO⟩ := wd_open hI
          refine cutS (P := fun f s' => Kp (f = .next ∧ ∃ (h' : Heap) (tk' cnt' : Nat) (m' : Str → Option Value) (vals' : List Value) (tw : Tok), s' = { s with heap := h', toks := tk' } ∧ WFr g1 L1 WA b t c true kk h' m' ∧ (∃ ts, m' (Str.ofString "sign") = some (.str (Txt.item b kk) ts)) ∧ StrsAre vals' acc ∧ News g1 L1 h' [(WA, listO (vals' ++ [.str wd tw]) cnt')])) ?op ?rest2
          case op =>
            walk1
            k_steps
            · obtain rfl : tc = true := by assumption
              rw [if_pos rfl] at hxs
              subst hxs
              obtain ⟨vals', tw, rfl, hv'⟩ := snoc_inv hsv
              exact ⟨rfl, _, _, cnt, _, vals', tw, rfl, ⟨by k_asm, rfl, rfl, rfl, rfl, _, rfl⟩, ⟨_, rfl⟩, hv', by k_asm⟩
            · obtain rfl : tc = false := by assumption
              rw [if_neg (by decide)] at hxs
              obtain ⟨rfl, hwd⟩ := List.append_inj' hxs rfl
              obtain rfl := (List.cons.inj hwd).1
              exact ⟨rfl, _, _, cnt + 1, _, vals, _, rfl, ⟨by k_asm, rfl, rfl, rfl, rfl, _, rfl⟩, ⟨_, rfl⟩, hsv, by k_asm⟩
          case rest2 =>
            have hwo : wgt (acc ++ [wd]) ≤ 2 * kk + 1 := by
              rw [← hxs]
              split
              · omega
              · rw [wgt_snoc, emp0]; omega
            rw [wgt_snoc] at hwo
            rintro f s' ⟨rfl, h', tk', cnt', m', vals', tw, rfl, hW, ⟨ts, es⟩, hv', N⟩
            (try k_unfold); (try dsimp only)
            obtain ⟨tke, F⟩ := hW.out
            have F := Fr.put (x := Str.ofString "sign") F (by exact es)
            have hvl' := hv'.length
            have hwl' := wgt_len acc
            clear hW hsv hI hw hxs hvl hwl
            k_steps
            · (try k_unfold); (try dsimp only)
              have hch : chAt b kk = chS 39 := by rw [← hit, ← sq_ch]; exact eqch (by assumption)
              exact hend _ _ _ _ _ (.inr ⟨_, _, wd_sq_end hO hp hwn hcm hch (by assumption), rfl, rfl⟩) (by k_asm) News.nil
            · have hch : chAt b kk = chS 39 := by rw [← hit, ← sq_ch]; exact eqch (by assumption)
              obtain ⟨e, he, h1, h2, hI3⟩ := wd_sq_go hO hp hwn hcm hch (by assumption)
              have hsl := slice_le (b := b) (p := kk) (e := e)
              rw [← he] at hsl hI3
              refine w2_next (by k_asm) (by k_asm) (n' := b.length - (e + 1)) (by omega) ⟨e + 1, true, _, _, _, _, by omega, kct_snoc hv', hI3, ?_, rfl, rfl, rfl, rfl, congrArg (fun z => some (Value.int (z + 1) _)) he, rfl⟩
              rw [wgt_snoc, Str.length_append]
              omega
            · have hch : chAt b kk = chS 34 := by rw [← hit, ← dq_ch]; exact eqch (by assumption)
              have hQ0 := wd_dq hO hp hwn hcm hch
              refine' While_inv2 (n₀ := b.length - (kk + 1)) (fun n m l => ∃ (q : Nat) (wd2 : Str) (tw2 tq : Tok) (cnt2 : Nat), n + q = b.length ∧ WdQ (cmS c) b r acc wd2 q ∧ wgt acc + (wd2.length + 1) ≤ 2 * q ∧ kk < q ∧ m (Str.ofString "line") = some (.str b t) ∧ m (Str.ofString "remarks") = some (.bool c) ∧ m (Str.ofString "words") = some (.ref WA) ∧ m (Str.ofString "touched") = some (.bool true) ∧ m (Str.ofString "k") = some (.int q tq) ∧ l = [(WA, listO (vals' ++ [.str wd2 tw2]) cnt2)]) (by k_asm) (by k_asm) ?J1 ?turn2
              case J1 => exact ⟨kk + 1, wd, tw, _, cnt', by omega, hQ0, by omega, by omega, rfl, rfl, rfl, rfl, rfl, rfl⟩
              case turn2 =>
                rintro n2 m2 l2 h2 tk2 F N ⟨q, wd2, tw2, tq, cnt2, hnq, hQ, hwq, hkq, e1, e2, e3, e4, e5, rfl⟩
                clear hQ0 hO hwo
                have F := Fr.put (x := Str.ofString "k") (Fr.put (x := Str.ofString "touched") (Fr.put (x := Str.ofString "words") (Fr.put (x := Str.ofString "remarks") (Fr.put (x := Str.ofString "line") F (by exact e1)) (by exact e2)) (by exact e3)) (by exact e4)) (by exact e5)
                clear e1 e2 e3 e4 e5
                have hsl := chAt_slice b q
                k_steps
                · (try k_unfold); (try dsimp only)
                  exact hend _ _ _ _ _ (.inr ⟨_, _, dq_stop hQ (by omega), rfl, rfl⟩) (by k_asm) News.nil
                · (try k_unfold); (try dsimp only)
                  have hqb : q < b.length := by omega
                  obtain ⟨h3, h4⟩ := dq_tail hqb (eqch (by assumption))
                  exact hend _ _ _ _ _ (.inr ⟨_, _, dq_bs_end hQ hqb h3 h4, rfl, rfl⟩) (by k_asm) News.nil
                · have hqb : q < b.length := by omega
                  have hnd : chAt b q ≠ dqS := by rw [← hsl]; exact neqch (by assumption)
                  have hnt : ¬ (chAt b q = chS 92 ∧ q + 1 = b.length) := fun h => dq_ntail hqb h.1 h.2 (by assumption)
                  refine cutS (P := fun f s' => Kp (f = .next ∧ ∃ (h' : Heap) (tk' e : Nat) (m' : Str → Option Value), s' = { s with heap := h', toks := tk' } ∧ WFr g1 L1 WA b t c true e h' m' ∧ News g1 L1 h' [(WA, listO (vals' ++ [.str wd2 tw2]) cnt2)] ∧ q ≤ e ∧ e < b.length ∧ WdQ (cmS c) b r acc (wd2 ++ chAt b e) (e + 1))) ?pr ?rest3
                  case pr =>
                    walk1
                    k_steps
                    · obtain ⟨p1, p2, p3⟩ := dq_any hqb (by assumption)
                      exact ⟨rfl, _, _, q + 1, _, rfl, ⟨by k_asm, rfl, rfl, rfl, rfl, _, rfl⟩, by first | k_asm | exact News_tl (by k_asm), by omega, p2, dq_pair hQ hqb p1 p2 p3⟩
                    · refine ⟨rfl, _, _, q, _, rfl, ⟨by k_asm, rfl, rfl, rfl, rfl, _, rfl⟩, by first | k_asm | exact News_tl (by k_asm), Nat.le_refl _, hqb, dq_plain hQ hqb hnd ?_⟩
                      by_cases h92 : chAt b q = chS 92
                      · have hp1 : q + 1 < b.length := by
                          have : q + 1 ≠ b.length := fun h => hnt ⟨h92, h⟩
                          omega
                        exact .inr ⟨hp1, dq_nany hqb h92 hp1 (by assumption)⟩
                      · exact .inl h92
                  case rest3 =>
                    rintro f s' ⟨rfl, h', tk', e, m', rfl, hW, N, hqe, heb, hQ2⟩
                    (try k_unfold); (try dsimp only)
                    obtain ⟨tke, F⟩ := hW.out
                    clear hW hQ
                    have hite := item_ch heb
                    have hl1 : (chAt b e).length = 1 := by rw [chAt_len, if_pos heb]
                    rw [← hite] at hQ2 hl1
                    k_steps
                    refine w2_next (by k_asm) (by k_asm) (n' := b.length - (e + 1)) (by omega) ⟨e + 1, _, _, _, _, by omega, hQ2, ?_, by omega, rfl, rfl, rfl, rfl, rfl, rfl⟩
                    rw [Str.length_append]
                    omega
                · have hch2 : chAt b q = dqS := by rw [← hsl]; exact neqf (by assumption)
                  have hqb : q < b.length := dq_lt hch2
                  refine w2_next (by k_asm) (by k_asm) (n' := b.length - (q + 1)) (by omega) ⟨q + 1, true, _, _, _, _, by omega, kct_snoc hv', dq_done hQ hch2, ?_, rfl, rfl, rfl, rfl, rfl, rfl⟩
                  rw [wgt_snoc]
                  omega
            · (try k_unfold); (try dsimp only)
              have hch : chAt b kk = bsS := by rw [← hit]; exact eqch (by assumption)
              exact hend _ _ _ _ _ (.inr ⟨_, _, wd_bs_end hO hp hwn hcm (by rw [hch]; decide +kernel) (by omega), rfl, rfl⟩) (by k_asm) News.nil
            · have hch : chAt b kk = bsS := by rw [← hit]; exact eqch (by assumption)
              have hlt : kk + 1 < b.length := by omega
              have hI3 := wd_bs_go hO hp hwn hcm (by rw [hch]; decide +kernel) hlt
              have hit2 : Txt.item b ((kk : Int) + 1) = chAt b (kk + 1) := item_ch (p := kk + 1) hlt
              have hl1 : (chAt b (kk + 1)).length = 1 := by rw [chAt_len, if_pos hlt]
              rw [← hit2] at hI3 hl1
              refine w2_next (by k_asm) (by k_asm) (n' := b.length - (kk + 2)) (by omega) ⟨kk + 2, true, _, _, _, _, by omega, kct_snoc hv', hI3, ?_, rfl, rfl, rfl, rfl, rfl, rfl⟩
              rw [wgt_snoc, Str.length_append]
              omega
            · have hI3 := wd_else hO hp hwn hcm (nin_quN hp (by rw [← hit]; assumption) (by rw [← hit]; assumption)) (nin_bsN hp (by rw [← hit]; assumption))
              have hl1 : (chAt b kk).length = 1 := by rw [chAt_len, if_pos hp]
              rw [← hit] at hI3 hl1
              refine w2_next (by k_asm) (by k_asm) (n' := b.length - (kk + 1)) (by omega) ⟨kk + 1, true, _, _, _, _, by omega, kct_snoc hv', hI3, ?_, rfl, rfl, rfl, rfl, rfl, rfl⟩
              rw [wgt_snoc, Str.length_append]
              omega
    · refine w2_cont (by k_asm) (by k_asm) (n' := b.length - (kk + 1)) (by omega) ⟨kk + 1, false, vals, xs, cnt, _, by omega, hsv, wd_ws hI (by omega) (by rw [← item_ch (by omega)]; assumption), by omega, rfl, rfl, rfl, rfl, rfl, rfl⟩
    · (try k_unfold); (try dsimp only)
      have hrr := wd_end hI (by omega)
      exact hend _ _ _ _ _ (.inl ⟨xs, WA, vals, cnt, hrr, hsv, rfl, rfl⟩) (by k_asm) (by k_asm)
end

/-! ## L1 -/
section
theorem offL1 : True := by
  (w_top off)
  k_with_none
  k_with "steps" => (repeat' (first | (k_unfold; (try dsimp only)) | ((with_reducible show wpAny _ _ (exec (Stmt.If _ _ _ _) _) _ _ _); k_fold) | ((fail_if_success with_reducible show LeaveR _ _ _ _ _ _ _ _); (fail_if_success with_reducible show TurnPost _ _ _ _ _ _ _ _ _); (fail_if_success with_reducible show wpAny _ _ (pyIter _) _ _ _); (fail_if_success with_reducible show wpAny _ _ (exec (Stmt.While _ _ _ _) _) _ _ _); walk1) | ((fail_if_success with_reducible show LeaveR _ _ _ _ _ _ _ _); (fail_if_success with_reducible show TurnPost _ _ _ _ _ _ _ _ _); (fail_if_success with_reducible show wpAny _ _ (pyIter _) _ _ _); (fail_if_success with_reducible show wpAny _ _ (exec (Stmt.While _ _ _ _) _) _ _ _); dsimp only; walk1) | fail "no step"))
  k_with "call builtin:issubclass" => ((k_here; (with_reducible show wpAny _ _ (call (Value.builtin "issubclass") [Value.type "str", Value.ref _]) _ _ _); refine issub_call (News.get (by k_asm) (by k_mem)) ?_))
  k_with "call ref" => (((with_reducible show wpAny _ _ (call (Value.ref 807) _) _ _ _); k_dflt ((refine' DoesP.use (c_fspath _ _ _) ?k1 ?k2 ?k3 ?k4 ?k5 ?kK ?kd ?ku ?_; (case k1 => k_asm); (case k2 => k_asm); (case k3 => k_asm); (case k4 => k_asm); (case k5 => k_asm); (case kK => first | exact rfl | assumption); (case kd => ktr_room); (case ku => ktr_units); k_whole; intro _ _ _ P9 _ _; (first | subst P9 | (obtain ⟨_, P9⟩ := P9; subst P9)); (try dsimp only); (try k_fold)))))
  k_with "call ref" => (((with_reducible show wpAny _ _ (call (Value.ref 821) _) _ _ _); k_dflt ((refine' DoesP.use (c_get_sep _ _ _) ?k1 ?k2 ?k3 ?k4 ?k5 ?kK ?kd ?ku ?_; (case k1 => k_asm); (case k2 => k_asm); (case k3 => k_asm); (case k4 => k_asm); (case k5 => k_asm); (case kK => first | exact rfl | assumption); (case kd => ktr_room); (case ku => ktr_units); k_whole; intro _ _ _ P9 _ _; (first | subst P9 | (obtain ⟨_, P9⟩ := P9; subst P9)); (try dsimp only); (try k_fold)))))
  k_with "call builtin:str.find" => (((with_reducible show wpAny _ _ (call (Value.builtin "str.find") [Value.str _ _, Value.str _ _, Value.int _ _, Value.int (((Str.length _ : Nat)) : Int) _]) _ _ _); refine find4 ?_))
  k_with "call builtin:str.split" => (((with_reducible show wpAny _ _ (call (Value.builtin "str.split") [Value.str _ _, Value.str _ _]) _ _ _); refine' KSpl.split1 ?k1 ?k2 ?k3 ?_ ?k4; (case k1 => k_asm); (case k2 => k_asm); (case k3 => decide); (case k4 => (rw [sizeLine_eq]; omega)); intro _ _ _ _ _ _ _ _ yl1; (try k_lt yl1); revert yl1; intro _))
  k_with "truthy ref" => ((with_unfolding_all (refine' truthyL ?k1 ?k2 ?k3 ?_; (case k1 => k_asm); (case k2 => k_mem); (case k3 => omega))))
  k_with "call builtin:list.pop" => ((refine' popL ?k1 ?k2 ?k3 ?k4 ?k5 ?_; (case k1 => k_asm); (case k2 => k_asm); (case k3 => k_upd); (case k4 => assumption); (case k5 => omega); intro _ _ _ _; (try k_sweep)))
  k_with "call builtin:list.append" => ((refine' appendL ?k1 ?k2 ?k3 ?k4 ?_; (case k1 => k_asm); (case k2 => k_asm); (case k3 => k_upd); (case k4 => omega); intro _ _ _; (try k_sweep)))
  k_with "subscriptTail Name UnaryOp ref int" => (((with_reducible show wpAny _ _ (subscriptTail _ _ (Value.ref _) (Value.int _ _)) _ _ _); (with_unfolding_all refine' lastL ?k1 ?k2 ?k3 ?k4 ?k5 ?_; (case k1 => k_asm); (case k2 => k_mem); (case k3 => assumption); (case k4 => assumption); (case k5 => omega)); intro _))
  k_with "call builtin:str.join" => (((with_reducible show wpAny _ _ (call (Value.builtin "str.join") [Value.str _ _, Value.ref _]) _ _ _); refine' joinL ?k1 ?k2 ?k3 ?k4 ?k5 ?_; (case k1 => k_asm); (case k2 => k_mem); (case k3 => assumption); (case k4 => decide); (case k5 => (rw [wgt_sum]; omega)); intro _ _))
  k_with "steps" => (repeat' (first | (k_unfold; (try dsimp only)) | ((with_reducible show wpAny _ _ (exec (Stmt.If _ _ _ _) _) _ _ _); k_fold) | ((fail_if_success with_reducible show LeaveR _ _ _ _ _ _ _ _); (fail_if_success with_reducible show WhileStep2 _ _ _ _ _ _ _ _); (fail_if_success with_reducible show TurnPost _ _ _ _ _ _ _ _ _); (fail_if_success with_reducible show wpAny _ _ (exec (Stmt.While _ _ _ _) _) _ _ _); (fail_if_success with_reducible show wpAny _ _ (pyIter _) _ _ _); (fail_if_success with_reducible show wpAny _ _ (exec (Stmt.For _ _ _ _ _) _) _ _ _); walk1) | ((fail_if_success with_reducible show LeaveR _ _ _ _ _ _ _ _); (fail_if_success with_reducible show WhileStep2 _ _ _ _ _ _ _ _); (fail_if_success with_reducible show TurnPost _ _ _ _ _ _ _ _ _); dsimp only; (fail_if_success with_reducible show WhileStep2 _ _ _ _ _ _ _ _); (fail_if_success with_reducible show TurnPost _ _ _ _ _ _ _ _ _); walk1) | fail "no step"))
  k_with "call builtin:list.insert" => (((with_reducible show wpAny _ _ (call (Value.builtin _) [Value.ref _, Value.int _ _, _]) _ _ _); (refine' insert0L ?k1 ?k2 ?k3 ?k4 ?_; (case k1 => k_asm); (case k2 => k_asm); (case k3 => k_upd); (case k4 => omega)); intro _ _ _; (try k_sweep)))
  k_with "subscriptTail Name Slice ref ref" => (((with_reducible show wpAny _ _ (subscriptTail _ (PySem.Expr.Slice none none (some _) _) (Value.ref _) (Value.ref _)) _ _ _); k_dflt (refine' krv_lit ?F ?N ?l ?k ?e ?_ ?s ?t ?z; (case F => k_asm); (case N => k_asm); (case l => exact isL (by k_asm) (by k_mem)); (case k => exact IsPart.int _ _); (case e => exact rfl); (case s => with_unfolding_all rfl); (case t => kmk_pure); (case z => (rw [sizeLine_eq]; simp only [List.size_toArray]; omega))); intro _ _ _ _ yl1; (try k_lt yl1); revert yl1; intro _; (try k_sweep)))
  k_with "call builtin:str.split" => (((with_reducible show wpAny _ _ (call (Value.builtin "str.split") [Value.str _ _, Value.str _ _]) _ _ _); refine' KSpl.split1 ?k1 ?k2 ?k3 ?_ ?k4; (case k1 => k_asm); (case k2 => k_asm); (case k3 => decide); (case k4 => (rw [sizeLine_eq]; omega)); intro yD yl yh yk ye ya yF yN yl1; (try k_lt yl1); (have hz9 := split_len (by decide) ye ya); revert yD yl yh yk ye ya yF yN yl1 hz9; intro _ _ _ _ _ _ _ _ _ _))
  k_with "binaryOp Mult ref int" => (((with_reducible show wpAny _ _ (binaryOp Operator.Mult (Value.ref _) (Value.int _ _)) _ _ _); (refine' mulL ?k1 ?k2 ?k3 ?k4 ?_; (case k1 => k_asm); (case k2 => k_asm); (case k3 => k_mem); (case k4 => omega)); intro _ _ _ _ yl1; (try k_lt yl1); revert yl1; intro _; (try k_sweep)))
  k_with "binaryOp Add ref ref" => (((with_reducible show wpAny _ _ (binaryOp Operator.Add (Value.ref _) (Value.ref _)) _ _ _); (refine' addL ?k1 ?k2 ?k3 ?k4 ?k5 ?_; (case k1 => k_asm); (case k2 => k_asm); (case k3 => k_mem); (case k4 => k_mem); (case k5 => (simp only [List.length_replicate]; omega))); intro _ _ _ _ yl1; (try k_lt yl1); revert yl1; intro _; (try k_sweep)))
  trivial

set_option maxHeartbeats 16000000 in
theorem c_place (w : World) (W : Nat) (vals : List Value) (n : Nat) (ws : List Str) (hsv : StrsAre vals ws) (hw : wgt ws ≤ 120) :
   Does w 861 4 60 [.ref W] [(W, listO vals n)] (fun v led => (∃ t, v = .str (placeR ws.reverse (0, [])) t) ∧ led = [(W, listO vals n)]) := by
  unfold Does
  k_fill
  intro mean mg mb dp un gd cn cs a0 ccd cl outer A₀ base h₀ L m s rest Q E hB hF hK hN hap hT hcs hd hu hret
  refine wpAny_call ?_
  refine' enterR (binds := [(Str.ofString "words", .ref W)]) hB hF hK hN hap hT rfl rfl hcs ?k6 ?k7 ?k8 ?k9 ?kB ?_ ?c2 ?c3 ?c4 ?c5
  case k6 => k_is
  case k7 => k_is
  case k8 => ktr_room
  case k9 => first | exact BindsTo.of_eq rfl | exact binds_K (hK.keeps hF.keep) rfl (by k_is) rfl rfl rfl
  case kB => exact locs rfl
  case c2 => exact rfl
  case c3 => exact rfl
  case c4 => exact rfl
  case c5 => decide
  intro g1 L1 h1 F1 N1 B1 X1 T1 l1 st1
  (try dsimp only)
  (try k_fold)
  have hvl := hsv.length
  have hwl := wgt_len ws
  generalize hR : placeR ws.reverse (0, []) = R at *
  have hend : ∀ (t : Tok) (h' : Heap) (tk' : Nat) (m' : Str → Option Value), Fr g1 L1 h' m' → News g1 L1 h' [(W, listO vals n)] → qk (Flow.ret (.str R t)) { s with heap := h', toks := tk' } := by
    intro t h' tk' m' F' N'
    refine leaveR_ F' N' ?_
    intro kF kN kD
    exact hret _ _ _ _ ⟨⟨t, rfl⟩, rfl⟩ kF kN kD
  k_steps
  refine For_invV g1 rfl rfl ?_
  k_steps
  rename_i _ NA _ x1 _ RD _ F0 N0 x2
  have hrs := strs_rev hsv
  have hrl : vals.reverse.length = vals.length := List.length_reverse ..
  refine' iter_list (vs := vals.reverse) (n := 0) (fun i m l => ∃ (d : Nat) (nv : List Value) (k : Nat) (ns : List Str) (td : Tok), StrsAre nv ns ∧ placeR (ws.reverse.drop i) (d, ns) = R ∧ d + wgt ns ≤ 2 * wgt (ws.reverse.take i) ∧ m (Str.ofString "debt") = some (.int d td) ∧ m (Str.ofString "names") = some (.ref NA) ∧ l = [(RD, listO vals.reverse 0), (NA, listO nv k), (W, listO vals n)]) rfl (by k_asm) (by k_asm) (List.Mem.head _) ?kJ ?J0 ?turn ?done
  case kJ => rintro i m₁ n₁ ⟨_, _, _, _, _, _, _, _, _, _, rfl⟩; exact List.Mem.head _
  case J0 => exact ⟨0, [], 0, [], _, .nil, hR, Nat.zero_le _, rfl, rfl, rfl⟩
  case turn =>
    rintro i v m₁ n₁ h tk I io hv' ⟨d, nv, k, ns, td, hns, hP, hsz, e1, e2, rfl⟩ hI F N
    obtain ⟨y, ty, rfl, hy⟩ := StrsAre.item hrs i v hv'
    have hwi := wgt_mem hy
    rw [wgt_rev] at hwi
    have hI1 : @Ne Nat RD I := hI _ (.head _)
    have hI2 : @Ne Nat NA I := hI _ (.tail _ (.head _))
    have hI3 : @Ne Nat W I := hI _ (.tail _ (.tail _ (.head _)))
    have hnl := hns.length
    have hnw := wgt_len ns
    have F := Fr.put (x := Str.ofString "names") (Fr.put (x := Str.ofString "debt") F (by exact e1)) (by exact e2)
    clear e1 e2 F0 N0
    clear hB hF hK hN hap hT hret
    clear_value qk
    have hdrop : ws.reverse.drop i = y :: ws.reverse.drop (i + 1) := by
      rw [List.getElem?_eq_some_iff] at hy
      obtain ⟨h1, rfl⟩ := hy
      exact List.drop_eq_getElem_cons h1
    rw [hdrop] at hP
    have hyl : y.length ≤ 100000 := by omega
    k_steps
    refine For_invV g1 rfl rfl ?_
    k_steps
    rename_i _ _ _ _ _ PD pl _ _ pe pa x3 pz PR _ F3 N3 x4
    have hra := strs_rev pa
    rw [pe] at hra
    have hrl2 : (strValues pl).reverse.length = (strValues pl).length := List.length_reverse ..
    have hsw := split_wgt y (Str.ofString "/") (by decide)
    generalize hps : Txt.split y (Str.ofString "/") = ps at *
    have hrw := wgt_rev ps
    generalize strValues pl = pv at *
    generalize hg : ps.reverse = rp at *
    refine' iter_list (vs := pv.reverse) (n := 0) (fun j m l => ∃ (nv : List Value) (k : Nat) (td : Tok) (s2 : Nat × List Str), s2 = (rp.take j).foldl bst (d, ns) ∧ StrsAre nv s2.2 ∧ m (Str.ofString "debt") = some (.int (s2.1 : Nat) td) ∧ m (Str.ofString "names") = some (.ref NA) ∧ m (Str.ofString "word") = some (.str y ty) ∧ l = [(PR, listO pv.reverse 0), (PD, listO pv 0), (I, io), (RD, listO vals.reverse 0), (NA, listO nv k), (W, listO vals n)]) rfl (by k_asm) (by k_asm) (List.Mem.head _) ?kJ2 ?J2 ?turn2 ?done2
    case kJ2 => rintro i m₁ n₁ ⟨_, _, _, _, _, _, _, _, _, rfl⟩; exact List.Mem.head _
    case J2 => exact ⟨nv, k, td, (d, ns), rfl, hns, rfl, rfl, rfl, rfl⟩
    case turn2 =>
      rintro j v2 m₂ n₂ h2 tk2 I2 io2 hv2 ⟨nv2, k2, td2, s2, hs2, hns2, e1, e2, e3, rfl⟩ hI' F N
      obtain ⟨y2, ty2, rfl, hy2⟩ := StrsAre.item hra j v2 hv2
      have hJ1 : @Ne Nat PR I2 := hI' _ (.head _)
      have hJ2 : @Ne Nat PD I2 := hI' _ (.tail _ (.head _))
      have hJ3 : @Ne Nat I I2 := hI' _ (.tail _ (.tail _ (.head _)))
      have hJ4 : @Ne Nat RD I2 := hI' _ (.tail _ (.tail _ (.tail _ (.head _))))
      have hJ5 : @Ne Nat NA I2 := hI' _ (.tail _ (.tail _ (.tail _ (.tail _ (.head _)))))
      have hJ6 : @Ne Nat W I2 := hI' _ (.tail _ (.tail _ (.tail _ (.tail _ (.tail _ (.head _))))))
      have F := Fr.put (x := Str.ofString "word") (Fr.put (x := Str.ofString "names") (Fr.put (x := Str.ofString "debt") F (by exact e1)) (by exact e2)) (by exact e3)
      have hsz2 := foldB_size (rp.take j) (d, ns)
      rw [← hs2] at hsz2
      dsimp only at hsz2
      have hwj := wgt_mem hy2
      have hn2 := hns2.length
      have hn2w := wgt_len s2.2
      have hst := foldB_take (s := (d, ns)) hy2
      rw [← hs2] at hst
      clear e1 e2 e3 F3 N3 hP hR hend hs2
      have hIx : ∀ (l : List Value) (q : Nat) (p : Addr × Obj), p ∈ [(PR, listO pv.reverse 0), (PD, listO pv 0), (I, io), (RD, listO vals.reverse 0), (NA, listO l q), (W, listO vals n)] → p.1 ≠ I2 := by
        intro l q p hp
        simp only [List.mem_cons, List.not_mem_nil, or_false] at hp
        rcases hp with rfl | rfl | rfl | rfl | rfl | rfl
        · exact hJ1
        · exact hJ2
        · exact hJ3
        · exact hJ4
        · exact hJ5
        · exact hJ6
      k_steps
      · exact turn_end (by k_asm) (by k_asm) (hIx _ _) ⟨nv2, k2, _, (s2.1 + 1, s2.2), by rw [hst, bst1 (by assumption)], hns2, rfl, rfl, rfl, rfl⟩
      · exact turn_end (by k_asm) (by first | k_asm | exact News_tl (by k_asm)) (hIx _ _) ⟨nv2, k2, _, s2, by rw [hst, bst2 (by assumption) (by assumption)], hns2, rfl, rfl, rfl, rfl⟩
      · refine turn_end (by k_asm) (by first | k_asm | exact News_tl (by k_asm)) (hIx _ _) ⟨nv2, k2, _, (s2.1 - 1, s2.2), by rw [hst, bst34 (by assumption) (by assumption), if_pos (by omega)], hns2, congrArg (fun z => some (Value.int z _)) ?_, rfl, rfl, rfl⟩
        show (s2.1 : Int) - 1 = ((s2.1 - 1 : Nat) : Int)
        omega
      · exact turn_end (by k_asm) (by first | k_asm | exact News_tl (by k_asm)) (hIx _ _) ⟨_, k2 + 1, _, (s2.1, y2 :: s2.2), by rw [hst, bst34 (by assumption) (by assumption), if_neg (by omega)], .cons _ _ hns2, rfl, rfl, rfl, rfl⟩
    case done2 =>
      rintro m₂ n₂ h2 tk2 ⟨nv2, k2, td2, s2, hs2, hns2, e1, e2, e3, rfl⟩ F N
      have F := Fr.put (x := Str.ofString "word") (Fr.put (x := Str.ofString "names") (Fr.put (x := Str.ofString "debt") F (by exact e1)) (by exact e2)) (by exact e3)
      rw [hra.length, List.take_length] at hs2
      have hsz2 := foldB_size rp (d, ns)
      rw [← hs2] at hsz2
      dsimp only at hsz2
      have hn2 := hns2.length
      have hn2w := wgt_len s2.2
      have hwt : wgt (ws.reverse.take (i + 1)) = wgt (ws.reverse.take i) + (y.length + 1) := by
        rw [List.take_add_one, hy, wgt_app]
        show _ + wgt [y] = _
        rw [wgt_one]
      have hjl := tjoin_wgt (Str.ofString "/") (by decide) s2.2
      clear e1 e2 e3 F3 N3
      have hIx : ∀ (l : List Value) (q : Nat) (p : Addr × Obj), p ∈ [(RD, listO vals.reverse 0), (NA, listO l q), (W, listO vals n)] → p.1 ≠ I := by
        intro l q p hp
        simp only [List.mem_cons, List.not_mem_nil, or_false] at hp
        rcases hp with rfl | rfl | rfl
        · exact hI1
        · exact hI2
        · exact hI3
      have habs : (Txt.slice y none (some 1) == slS) = true → R = rootP y ++ Txt.join slS s2.2 := fun h => by
        rw [← hP, placeR_abs h, show Txt.split y slS = ps from hps, hg, ← hs2]
      have hrel : (Txt.slice y none (some 1) == slS) = false → placeR (ws.reverse.drop (i + 1)) s2 = R := fun h => by
        rw [← hP, placeR_rel h, show Txt.split y slS = ps from hps, hg, ← hs2]
      k_steps
      · have hv : Str.ofString "//" ++ Txt.join slS s2.2 = R := by rw [habs (by assumption)]; unfold rootP; rw [if_pos ⟨by assumption, by assumption⟩]
        rw [← hv] at hend
        exact hend _ _ _ _ (by k_asm) (News_sub (by k_asm) (by simp))
      · have hv : Str.ofString "/" ++ Txt.join slS s2.2 = R := by rw [habs (by assumption)]; unfold rootP; rw [if_neg (fun q => nft (by assumption) q.2)]
        rw [← hv] at hend
        exact hend _ _ _ _ (by k_asm) (News_sub (by k_asm) (by simp))
      · have hv : Str.ofString "/" ++ Txt.join slS s2.2 = R := by rw [habs (by assumption)]; unfold rootP; rw [if_neg (fun q => nft (by assumption) q.1)]
        rw [← hv] at hend
        exact hend _ _ _ _ (by k_asm) (News_sub (by k_asm) (by simp))
      · exact turn_end (by k_asm) (News_sub (l' := [(I, io), (RD, listO vals.reverse 0), (NA, listO nv2 k2), (W, listO vals n)]) (by k_asm) (by simp)) (hIx _ _) ⟨s2.1, nv2, k2, s2.2, _, hns2, hrel (by assumption), by omega, rfl, rfl, rfl⟩
  case done =>
    rintro m₁ n₁ h tk ⟨d, nv, k, ns, td, hns, hP, hsz, e1, e2, rfl⟩ F N
    have F := Fr.put (x := Str.ofString "names") (Fr.put (x := Str.ofString "debt") F (by exact e1)) (by exact e2)
    have hnl := hns.length
    have hnw := wgt_len ns
    rw [hrl, hvl, List.drop_of_length_le (by rw [List.length_reverse]; omega)] at hP
    clear e1 e2 F0 N0
    have hdw : d + wgt ns ≤ 240 := by
      have := wgt_drop_take ws.reverse vals.reverse.length
      rw [wgt_rev] at this
      omega
    k_steps
    have hwj : wgt (List.replicate d ddS ++ ns) ≤ 1048576 := by rw [wgt_app, wgt_rep]; omega
    have hjl := tjoin_wgt slS (by decide +kernel) (List.replicate d ddS ++ ns)
    refine' joinL (xs := List.replicate d ddS ++ ns) (by k_asm) (List.Mem.head _) (strs_app (strs_rep d) hns) (by decide) (by rw [wgt_sum]; exact hwj) ?_
    intro t5 k5
    generalize hJ : Txt.join slS (List.replicate d ddS ++ ns) = J at *
    k_steps
    · have hv : J = R := by rw [← hP, ← hJ]; exact (outP_some (s := (d, ns)) (by rw [hJ]; assumption)).symm
      subst hv
      exact hend _ _ _ _ (by k_asm) (News_sub (by k_asm) (by simp))
    · have hv : Str.ofString "." = R := by rw [← hP]; exact (outP_none (s := (d, ns)) (by rw [hJ]; assumption)).symm
      rw [← hv] at hend
      exact hend _ _ _ _ (by k_asm) (News_sub (by k_asm) (by simp))
end

/-! ## X1 -/
section
theorem offX1 : True := by
  (w_top off)
  k_with_none
  k_with "steps" => (repeat' (first | (k_unfold; (try dsimp only)) | ((fail_if_success with_reducible show LeaveR _ _ _ _ _ _ _ _); (fail_if_success with_reducible show TurnPost _ _ _ _ _ _ _ _ _); (fail_if_success with_reducible show wpAny _ _ (pyIter _) _ _ _); (fail_if_success with_reducible show wpAny _ _ (exec (Stmt.While _ _ _ _) _) _ _ _); walk1) | ((fail_if_success with_reducible show LeaveR _ _ _ _ _ _ _ _); (fail_if_success with_reducible show TurnPost _ _ _ _ _ _ _ _ _); (fail_if_success with_reducible show wpAny _ _ (pyIter _) _ _ _); (fail_if_success with_reducible show wpAny _ _ (exec (Stmt.While _ _ _ _) _) _ _ _); dsimp only; walk1) | fail "no step"))
  k_with "call builtin:issubclass" => ((k_here; (with_reducible show wpAny _ _ (call (Value.builtin "issubclass") [Value.type "str", Value.ref _]) _ _ _); refine issub_call (News.get (by k_asm) (by k_mem)) ?_))
  k_with "call ref" => (((with_reducible show wpAny _ _ (call (Value.ref 807) _) _ _ _); k_dflt ((refine' DoesP.use (c_fspath _ _ _) ?k1 ?k2 ?k3 ?k4 ?k5 ?kK ?kd ?ku ?_; (case k1 => k_asm); (case k2 => k_asm); (case k3 => k_asm); (case k4 => k_asm); (case k5 => k_asm); (case kK => first | exact rfl | assumption); (case kd => ktr_room); (case ku => ktr_units); k_whole; intro _ _ _ P9 _ _; (first | subst P9 | (obtain ⟨_, P9⟩ := P9; subst P9)); (try dsimp only); (try k_fold)))))
  k_with "call ref" => (((with_reducible show wpAny _ _ (call (Value.ref 821) _) _ _ _); k_dflt ((refine' DoesP.use (c_get_sep _ _ _) ?k1 ?k2 ?k3 ?k4 ?k5 ?kK ?kd ?ku ?_; (case k1 => k_asm); (case k2 => k_asm); (case k3 => k_asm); (case k4 => k_asm); (case k5 => k_asm); (case kK => first | exact rfl | assumption); (case kd => ktr_room); (case ku => ktr_units); k_whole; intro _ _ _ P9 _ _; (first | subst P9 | (obtain ⟨_, P9⟩ := P9; subst P9)); (try dsimp only); (try k_fold)))))
  k_with "call builtin:str.find" => (((with_reducible show wpAny _ _ (call (Value.builtin "str.find") [Value.str _ _, Value.str _ _, Value.int _ _, Value.int (((Str.length _ : Nat)) : Int) _]) _ _ _); refine find4 ?_))
  k_with "call builtin:str.split" => (((with_reducible show wpAny _ _ (call (Value.builtin "str.split") [Value.str _ _, Value.str _ _]) _ _ _); refine' KSpl.split1 ?k1 ?k2 ?k3 ?_ ?k4; (case k1 => k_asm); (case k2 => k_asm); (case k3 => decide); (case k4 => (rw [sizeLine_eq]; omega)); intro _ _ _ _ _ _ _ _ yl1; (try k_lt yl1); revert yl1; intro _))
  k_with "truthy ref" => ((with_unfolding_all (refine' truthyL ?k1 ?k2 ?k3 ?_; (case k1 => k_asm); (case k2 => k_mem); (case k3 => omega))))
  k_with "call builtin:list.pop" => ((refine' popL ?k1 ?k2 ?k3 ?k4 ?k5 ?_; (case k1 => k_asm); (case k2 => k_asm); (case k3 => k_upd); (case k4 => assumption); (case k5 => omega); intro _ _ _ _; (try k_sweep)))
  k_with "call builtin:list.append" => ((refine' appendL ?k1 ?k2 ?k3 ?k4 ?_; (case k1 => k_asm); (case k2 => k_asm); (case k3 => k_upd); (case k4 => omega); intro _ _ _; (try k_sweep)))
  k_with "subscriptTail Name UnaryOp ref int" => (((with_reducible show wpAny _ _ (subscriptTail _ _ (Value.ref _) (Value.int _ _)) _ _ _); (with_unfolding_all refine' lastL ?k1 ?k2 ?k3 ?k4 ?k5 ?_; (case k1 => k_asm); (case k2 => k_mem); (case k3 => assumption); (case k4 => assumption); (case k5 => omega)); intro _))
  k_with "call builtin:str.join" => (((with_reducible show wpAny _ _ (call (Value.builtin "str.join") [Value.str _ _, Value.ref _]) _ _ _); refine' joinL ?k1 ?k2 ?k3 ?k4 ?k5 ?_; (case k1 => k_asm); (case k2 => k_mem); (case k3 => assumption); (case k4 => decide); (case k5 => (rw [wgt_sum]; omega)); intro _ _))
  k_with "steps" => (repeat' (first | (k_unfold; (try dsimp only)) | ((fail_if_success with_reducible show LeaveR _ _ _ _ _ _ _ _); (fail_if_success with_reducible show WhileStep2 _ _ _ _ _ _ _ _); (fail_if_success with_reducible show TurnPost _ _ _ _ _ _ _ _ _); (fail_if_success with_reducible show wpAny _ _ (exec (Stmt.While _ _ _ _) _) _ _ _); (fail_if_success with_reducible show wpAny _ _ (pyIter _) _ _ _); (fail_if_success with_reducible show wpAny _ _ (exec (Stmt.For _ _ _ _ _) _) _ _ _); walk1) | ((fail_if_success with_reducible show LeaveR _ _ _ _ _ _ _ _); (fail_if_success with_reducible show WhileStep2 _ _ _ _ _ _ _ _); (fail_if_success with_reducible show TurnPost _ _ _ _ _ _ _ _ _); (fail_if_success with_reducible show wpAny _ _ (exec (Stmt.While _ _ _ _) _) _ _ _); (fail_if_success with_reducible show wpAny _ _ (pyIter _) _ _ _); (fail_if_success with_reducible show wpAny _ _ (exec (Stmt.For _ _ _ _ _) _) _ _ _); dsimp only; (fail_if_success with_reducible show LeaveR _ _ _ _ _ _ _ _); (fail_if_success with_reducible show WhileStep2 _ _ _ _ _ _ _ _); (fail_if_success with_reducible show TurnPost _ _ _ _ _ _ _ _ _); (fail_if_success with_reducible show wpAny _ _ (exec (Stmt.While _ _ _ _) _) _ _ _); (fail_if_success with_reducible show wpAny _ _ (pyIter _) _ _ _); (fail_if_success with_reducible show wpAny _ _ (exec (Stmt.For _ _ _ _ _) _) _ _ _); walk1) | fail "no step"))
  k_with "call builtin:list.insert" => (((with_reducible show wpAny _ _ (call (Value.builtin _) [Value.ref _, Value.int _ _, _]) _ _ _); (refine' insert0L ?k1 ?k2 ?k3 ?k4 ?_; (case k1 => k_asm); (case k2 => k_asm); (case k3 => k_upd); (case k4 => omega)); intro _ _ _; (try k_sweep)))
  k_with "subscriptTail Name Slice ref ref" => (((with_reducible show wpAny _ _ (subscriptTail _ (PySem.Expr.Slice none none (some _) _) (Value.ref _) (Value.ref _)) _ _ _); k_dflt (refine' krv_lit ?F ?N ?l ?k ?e ?_ ?s ?t ?z; (case F => k_asm); (case N => k_asm); (case l => exact isL (by k_asm) (by k_mem)); (case k => exact IsPart.int _ _); (case e => exact rfl); (case s => with_unfolding_all rfl); (case t => kmk_pure); (case z => (rw [sizeLine_eq]; simp only [List.size_toArray]; omega))); intro _ _ _ _ yl1; (try k_lt yl1); revert yl1; intro _; (try k_sweep)))
  k_with "call builtin:str.split" => (((with_reducible show wpAny _ _ (call (Value.builtin "str.split") [Value.str _ _, Value.str _ _]) _ _ _); refine' KSpl.split1 ?k1 ?k2 ?k3 ?_ ?k4; (case k1 => k_asm); (case k2 => k_asm); (case k3 => decide); (case k4 => (rw [sizeLine_eq]; omega)); intro yD yl yh yk ye ya yF yN yl1; (try k_lt yl1); (have hz9 := split_len (by decide) ye ya); revert yD yl yh yk ye ya yF yN yl1 hz9; intro _ _ _ _ _ _ _ _ _ _))
  k_with "binaryOp Mult ref int" => (((with_reducible show wpAny _ _ (binaryOp Operator.Mult (Value.ref _) (Value.int _ _)) _ _ _); (refine' mulL ?k1 ?k2 ?k3 ?k4 ?_; (case k1 => k_asm); (case k2 => k_asm); (case k3 => k_mem); (case k4 => omega)); intro _ _ _ _ yl1; (try k_lt yl1); revert yl1; intro _; (try k_sweep)))
  k_with "binaryOp Add ref ref" => (((with_reducible show wpAny _ _ (binaryOp Operator.Add (Value.ref _) (Value.ref _)) _ _ _); (refine' addL ?k1 ?k2 ?k3 ?k4 ?k5 ?_; (case k1 => k_asm); (case k2 => k_asm); (case k3 => k_mem); (case k4 => k_mem); (case k5 => (simp only [List.length_replicate]; omega))); intro _ _ _ _ yl1; (try k_lt yl1); revert yl1; intro _; (try k_sweep)))
  k_with "subscriptTail Name Slice str ref" => (((with_reducible show wpAny _ _ (subscriptTail _ (PySem.Expr.Slice none (some _) none _) (Value.str (List.getD _ _ _) _) _) _ _ _); (refine slice_strN_ns (hsz := sz_getD (by assumption) _) (s := ⟨_, _, _, _, _⟩) (by k_asm) (by k_asm) ?_); intro _ _ _ _ _))
  k_with "subscriptTail Name Slice ref ref" => (((with_reducible show wpAny _ _ (subscriptTail _ (PySem.Expr.Slice none (some _) none _) (Value.ref _) (Value.ref _)) _ _ _); k_dflt (refine' kmk_slice_lit ?F ?N ?l ?k ?k2 ?e ?_ ?s ?t ?z; (case F => k_asm); (case N => k_asm); (case l => exact isL (by k_asm) (by k_mem)); (case k => exact IsPart.none); (case k2 => exact IsPart.int _ _); (case e => exact pick_upto (by omega)); (case s => with_unfolding_all rfl); (case t => kmk_pure); (case z => (rw [sizeLine_eq]; simp only [List.size_toArray]; omega))); intro _ _ _ _ yl1; (try k_lt yl1); revert yl1; intro _; (try k_sweep)))
  k_with "subscriptTail Name Slice ref ref" => (((with_reducible show wpAny _ _ (subscriptTail _ (PySem.Expr.Slice (some _) none none _) (Value.ref _) (Value.ref _)) _ _ _); k_dflt (refine' kmk_slice_lit ?F ?N ?l ?k ?k2 ?e ?_ ?s ?t ?z; (case F => k_asm); (case N => k_asm); (case l => exact isL (by k_asm) (by k_mem)); (case k => exact IsPart.int _ _); (case k2 => exact IsPart.none); (case e => exact pick_from (by omega)); (case s => with_unfolding_all rfl); (case t => kmk_pure); (case z => (rw [sizeLine_eq]; simp only [List.size_toArray]; omega))); intro _ _ _ _ yl1; (try k_lt yl1); revert yl1; intro _; (try k_sweep)))
  trivial

theorem ntf' {x : Bool} (h : x = false) : ¬ x = true := by rw [h]; decide

set_option maxHeartbeats 16000000 in
theorem c_text (w : World) (W : Nat) (vals : List Value) (n : Nat) (ws : List Str) (hsv : StrsAre vals ws) (hw : wgt ws ≤ 120) (hne : ws ≠ []) :
   Does w 866 4 60 [.ref W] [(W, listO vals n)] (fun v led => (∃ t, v = .str (textS (ws.drop (lastRoot ws))) t) ∧ led = [(W, listO vals n)]) := by
  unfold Does
  k_fill
  intro mean mg mb dp un gd cn cs a0 ccd cl outer A₀ base h₀ L m s rest Q E hB hF hK hN hap hT hcs hd hu hret
  refine wpAny_call ?_
  refine' enterRC (binds := [(Str.ofString "words", .ref W)]) hB hF hK hN hap hT rfl rfl hcs ?k6 ?k7 ?k8 ?k9 ?kk ?kn ?_ ?c2 ?c3 ?c4
  case k6 => k_is
  case k7 => k_is
  case k8 => ktr_room
  case k9 => first | exact BindsTo.of_eq rfl | exact binds_K (hK.keeps hF.keep) rfl (by k_is) rfl rfl rfl
  case kk =>
    intro n x hx
    obtain rfl := List.mem_singleton.mp hx
    exact .inr ⟨rfl, rfl⟩
  case kn => decide
  case c2 => exact rfl
  case c3 => exact rfl
  case c4 => exact rfl
  intro g1 L1 h1 tk1 cells F1 N1 Y1 B1 X1 T1 l1 st1
  obtain ⟨oc, rfl, hoc⟩ := CellsAre.one (n := Str.ofString "words") (c := L1 + 1) Y1
  replace hoc : oc.data = .cell (some (.ref W)) := hoc
  (try dsimp only)
  (try k_fold)
  have hvl := hsv.length
  have hwl := wgt_len ws
  simp only [List.cons_append, List.nil_append] at N1
  have hsv2 : StrsAre vals ws ∧ True := ⟨hsv, trivial⟩
  k_steps
  · rename_i ha hb hM
    exact absurd (hb 0 (by simp)) (by omega)
  · rename_i M _ _ hMm hMx hM RS _ hl3 _ F5 N5
    have hrs := strs_drop M.toNat hsv2.1
    have hrl := hrs.length
    have hrw : wgt (ws.drop M.toNat) ≤ 120 := by
      have h : wgt (ws.take M.toNat ++ ws.drop M.toNat) = wgt ws := by rw [List.take_append_drop]
      rw [wgt_app] at h
      omega
    have hrl2 := wgt_len (ws.drop M.toNat)
    refine srcC_listDW (K := .str) (as := ws.drop M.toNat) (pz := fun x => x != Str.ofString "") (d := fun x => .str (addS x)) rfl (isL N5 (List.Mem.head _)) hrs.areOf F5 N5 ?g1 ?g2 ?g3 (by rw [sizeLine_eq]; omega)
    case g1 =>
      intro C a v s₂ m₂ E' hm hi hns hx htk
      obtain ⟨ta, rfl⟩ := ItemKind.str_is hi
      k_steps
      exact ⟨_, _, rfl, fun _ _ e => e⟩
    case g2 =>
      intro C a v s₂ m₂ E' hm hi hpz hns hx htk
      obtain ⟨ta, rfl⟩ := ItemKind.str_is hi
      have hal := len_mem hm
      k_steps
      · unfold addS
        rw [if_pos (by assumption)]
        exact .str _ _
      · exact ⟨_, _, rfl, fun _ _ e => e⟩
      · unfold addS
        rw [if_neg (by rw [show (Txt.item a (-1) == slS) = false by assumption]; decide)]
        exact .str _ _
      · exact ⟨_, _, rfl, fun _ _ e => e⟩
    case g3 =>
      intro D ys h' tk F N hD0 hDl hDn hC
      dsimp only
      obtain ⟨⟨nD, hDg⟩, hDne⟩ := hDn
      have N6 := News.more F N hDg (by intro es n q; cases q) hD0
      have hys := CarriedAll.strsOf (f := addS) hC
      have hwa := wgt_addS (fun x => x != Str.ofString "") (ws.drop M.toNat)
      have hgl := join0_len (((ws.drop M.toNat).filter (fun x => x != Str.ofString "")).map addS)
      have hll := lastD_len (ws.drop M.toNat)
      have hMl : M.toNat = lastRoot ws := root_max hne hMm hMx
      have hMlt := lastRoot_lt hne
      have hde : (vals.drop M.toNat).isEmpty = false := by
        cases hz : vals.drop M.toNat with
        | nil => rw [hz] at hrl; rw [List.length_nil, List.length_drop] at hrl; omega
        | cons => rfl
      have hdl : (vals.drop M.toNat).length ≤ 120 := by omega
      clear N
      k_steps
      · refine leaveR_ (by k_asm) (News_sub (l' := [(W, listO vals n)]) (by k_asm) (by simp)) ?_
        intro kF kN kD
        refine hret _ _ _ _ ⟨⟨_, congrArg (Value.str · _) ?_⟩, rfl⟩ kF kN kD
        rw [← hMl]
        unfold textS
        rw [if_pos (by assumption)]
        rfl
      · refine leaveR_ (by k_asm) (News_sub (l' := [(W, listO vals n)]) (by k_asm) (by simp)) ?_
        intro kF kN kD
        refine hret _ _ _ _ ⟨⟨_, congrArg (Value.str · _) ?_⟩, rfl⟩ kF kN kD
        rw [← hMl]
        unfold textS
        rw [if_neg (ntf' (by assumption))]
        rfl
end

/-! ## D1 -/
section
theorem offD1 : True := by
  (w_top off)
  k_with_none
  k_with "steps" => (repeat' (first | (k_unfold; (try dsimp only)) | ((fail_if_success with_reducible show LeaveR _ _ _ _ _ _ _ _); (fail_if_success with_reducible show TurnPost _ _ _ _ _ _ _ _ _); (fail_if_success with_reducible show wpAny _ _ (pyIter _) _ _ _); (fail_if_success with_reducible show wpAny _ _ (exec (Stmt.While _ _ _ _) _) _ _ _); walk1) | ((fail_if_success with_reducible show LeaveR _ _ _ _ _ _ _ _); (fail_if_success with_reducible show TurnPost _ _ _ _ _ _ _ _ _); (fail_if_success with_reducible show wpAny _ _ (pyIter _) _ _ _); (fail_if_success with_reducible show wpAny _ _ (exec (Stmt.While _ _ _ _) _) _ _ _); dsimp only; walk1) | fail "no step"))
  k_with "call builtin:issubclass" => ((k_here; (with_reducible show wpAny _ _ (call (Value.builtin "issubclass") [Value.type "str", Value.ref _]) _ _ _); refine issub_call (News.get (by k_asm) (by k_mem)) ?_))
  k_with "call ref" => (((with_reducible show wpAny _ _ (call (Value.ref 807) _) _ _ _); k_dflt ((refine' DoesP.use (c_fspath _ _ _) ?k1 ?k2 ?k3 ?k4 ?k5 ?kK ?kd ?ku ?_; (case k1 => k_asm); (case k2 => k_asm); (case k3 => k_asm); (case k4 => k_asm); (case k5 => k_asm); (case kK => first | exact rfl | assumption); (case kd => ktr_room); (case ku => ktr_units); k_whole; intro _ _ _ P9 _ _; (first | subst P9 | (obtain ⟨_, P9⟩ := P9; subst P9)); (try dsimp only); (try k_fold)))))
  k_with "call ref" => (((with_reducible show wpAny _ _ (call (Value.ref 821) _) _ _ _); k_dflt ((refine' DoesP.use (c_get_sep _ _ _) ?k1 ?k2 ?k3 ?k4 ?k5 ?kK ?kd ?ku ?_; (case k1 => k_asm); (case k2 => k_asm); (case k3 => k_asm); (case k4 => k_asm); (case k5 => k_asm); (case kK => first | exact rfl | assumption); (case kd => ktr_room); (case ku => ktr_units); k_whole; intro _ _ _ P9 _ _; (first | subst P9 | (obtain ⟨_, P9⟩ := P9; subst P9)); (try dsimp only); (try k_fold)))))
  k_with "call builtin:str.find" => (((with_reducible show wpAny _ _ (call (Value.builtin "str.find") [Value.str _ _, Value.str _ _, Value.int _ _, Value.int (((Str.length _ : Nat)) : Int) _]) _ _ _); refine find4 ?_))
  k_with "call builtin:str.split" => (((with_reducible show wpAny _ _ (call (Value.builtin "str.split") [Value.str _ _, Value.str _ _]) _ _ _); refine' KSpl.split1 ?k1 ?k2 ?k3 ?_ ?k4; (case k1 => k_asm); (case k2 => k_asm); (case k3 => decide); (case k4 => (rw [sizeLine_eq]; omega)); intro _ _ _ _ _ _ _ _ yl1; (try k_lt yl1); revert yl1; intro _))
  k_with "truthy ref" => ((with_unfolding_all (refine' truthyL ?k1 ?k2 ?k3 ?_; (case k1 => k_asm); (case k2 => k_mem); (case k3 => omega))))
  k_with "call builtin:list.pop" => ((refine' popL ?k1 ?k2 ?k3 ?k4 ?k5 ?_; (case k1 => k_asm); (case k2 => k_asm); (case k3 => k_upd); (case k4 => assumption); (case k5 => omega); intro _ _ _ _; (try k_sweep)))
  k_with "call builtin:list.append" => ((refine' appendL ?k1 ?k2 ?k3 ?k4 ?_; (case k1 => k_asm); (case k2 => k_asm); (case k3 => k_upd); (case k4 => omega); intro _ _ _; (try k_sweep)))
  k_with "subscriptTail Name UnaryOp ref int" => (((with_reducible show wpAny _ _ (subscriptTail _ _ (Value.ref _) (Value.int _ _)) _ _ _); (with_unfolding_all refine' lastL ?k1 ?k2 ?k3 ?k4 ?k5 ?_; (case k1 => k_asm); (case k2 => k_mem); (case k3 => assumption); (case k4 => assumption); (case k5 => omega)); intro _))
  k_with "call builtin:str.join" => (((with_reducible show wpAny _ _ (call (Value.builtin "str.join") [Value.str _ _, Value.ref _]) _ _ _); refine' joinL ?k1 ?k2 ?k3 ?k4 ?k5 ?_; (case k1 => k_asm); (case k2 => k_mem); (case k3 => assumption); (case k4 => decide); (case k5 => (rw [wgt_sum]; omega)); intro _ _))
  k_with "steps" => (repeat' (first | (k_unfold; (try dsimp only)) | ((fail_if_success with_reducible show LeaveR _ _ _ _ _ _ _ _); (fail_if_success with_reducible show WhileStep2 _ _ _ _ _ _ _ _); (fail_if_success with_reducible show TurnPost _ _ _ _ _ _ _ _ _); (fail_if_success with_reducible show wpAny _ _ (exec (Stmt.While _ _ _ _) _) _ _ _); (fail_if_success with_reducible show wpAny _ _ (pyIter _) _ _ _); (fail_if_success with_reducible show wpAny _ _ (exec (Stmt.For _ _ _ _ _) _) _ _ _); walk1) | ((fail_if_success with_reducible show LeaveR _ _ _ _ _ _ _ _); (fail_if_success with_reducible show WhileStep2 _ _ _ _ _ _ _ _); (fail_if_success with_reducible show TurnPost _ _ _ _ _ _ _ _ _); (fail_if_success with_reducible show wpAny _ _ (exec (Stmt.While _ _ _ _) _) _ _ _); (fail_if_success with_reducible show wpAny _ _ (pyIter _) _ _ _); (fail_if_success with_reducible show wpAny _ _ (exec (Stmt.For _ _ _ _ _) _) _ _ _); dsimp only; (fail_if_success with_reducible show LeaveR _ _ _ _ _ _ _ _); (fail_if_success with_reducible show WhileStep2 _ _ _ _ _ _ _ _); (fail_if_success with_reducible show TurnPost _ _ _ _ _ _ _ _ _); (fail_if_success with_reducible show wpAny _ _ (exec (Stmt.While _ _ _ _) _) _ _ _); (fail_if_success with_reducible show wpAny _ _ (pyIter _) _ _ _); (fail_if_success with_reducible show wpAny _ _ (exec (Stmt.For _ _ _ _ _) _) _ _ _); walk1) | fail "no step"))
  k_with "call builtin:list.insert" => (((with_reducible show wpAny _ _ (call (Value.builtin _) [Value.ref _, Value.int _ _, _]) _ _ _); (refine' insert0L ?k1 ?k2 ?k3 ?k4 ?_; (case k1 => k_asm); (case k2 => k_asm); (case k3 => k_upd); (case k4 => omega)); intro _ _ _; (try k_sweep)))
  k_with "subscriptTail Name Slice ref ref" => (((with_reducible show wpAny _ _ (subscriptTail _ (PySem.Expr.Slice none none (some _) _) (Value.ref _) (Value.ref _)) _ _ _); k_dflt (refine' krv_lit ?F ?N ?l ?k ?e ?_ ?s ?t ?z; (case F => k_asm); (case N => k_asm); (case l => exact isL (by k_asm) (by k_mem)); (case k => exact IsPart.int _ _); (case e => exact rfl); (case s => with_unfolding_all rfl); (case t => kmk_pure); (case z => (rw [sizeLine_eq]; simp only [List.size_toArray]; omega))); intro _ _ _ _ yl1; (try k_lt yl1); revert yl1; intro _; (try k_sweep)))
  k_with "call builtin:str.split" => (((with_reducible show wpAny _ _ (call (Value.builtin "str.split") [Value.str _ _, Value.str _ _]) _ _ _); refine' KSpl.split1 ?k1 ?k2 ?k3 ?_ ?k4; (case k1 => k_asm); (case k2 => k_asm); (case k3 => decide); (case k4 => (rw [sizeLine_eq]; omega)); intro yD yl yh yk ye ya yF yN yl1; (try k_lt yl1); (have hz9 := split_len (by decide) ye ya); revert yD yl yh yk ye ya yF yN yl1 hz9; intro _ _ _ _ _ _ _ _ _ _))
  k_with "binaryOp Mult ref int" => (((with_reducible show wpAny _ _ (binaryOp Operator.Mult (Value.ref _) (Value.int _ _)) _ _ _); (refine' mulL ?k1 ?k2 ?k3 ?k4 ?_; (case k1 => k_asm); (case k2 => k_asm); (case k3 => k_mem); (case k4 => omega)); intro _ _ _ _ yl1; (try k_lt yl1); revert yl1; intro _; (try k_sweep)))
  k_with "binaryOp Add ref ref" => (((with_reducible show wpAny _ _ (binaryOp Operator.Add (Value.ref _) (Value.ref _)) _ _ _); (refine' addL ?k1 ?k2 ?k3 ?k4 ?k5 ?_; (case k1 => k_asm); (case k2 => k_asm); (case k3 => k_mem); (case k4 => k_mem); (case k5 => (simp only [List.length_replicate]; omega))); intro _ _ _ _ yl1; (try k_lt yl1); revert yl1; intro _; (try k_sweep)))
  k_with "subscriptTail Name Slice str ref" => (((with_reducible show wpAny _ _ (subscriptTail _ (PySem.Expr.Slice none (some _) none _) (Value.str (List.getD _ _ _) _) _) _ _ _); (refine slice_strN_ns (hsz := sz_getD (by assumption) _) (s := ⟨_, _, _, _, _⟩) (by k_asm) (by k_asm) ?_); intro _ _ _ _ _))
  k_with "subscriptTail Name Slice ref ref" => (((with_reducible show wpAny _ _ (subscriptTail _ (PySem.Expr.Slice none (some _) none _) (Value.ref _) (Value.ref _)) _ _ _); k_dflt (refine' kmk_slice_lit ?F ?N ?l ?k ?k2 ?e ?_ ?s ?t ?z; (case F => k_asm); (case N => k_asm); (case l => exact isL (by k_asm) (by k_mem)); (case k => exact IsPart.none); (case k2 => exact IsPart.int _ _); (case e => exact pick_upto (by omega)); (case s => with_unfolding_all rfl); (case t => kmk_pure); (case z => (rw [sizeLine_eq]; simp only [List.size_toArray]; omega))); intro _ _ _ _ yl1; (try k_lt yl1); revert yl1; intro _; (try k_sweep)))
  k_with "subscriptTail Name Slice ref ref" => (((with_reducible show wpAny _ _ (subscriptTail _ (PySem.Expr.Slice (some _) none none _) (Value.ref _) (Value.ref _)) _ _ _); k_dflt (refine' kmk_slice_lit ?F ?N ?l ?k ?k2 ?e ?_ ?s ?t ?z; (case F => k_asm); (case N => k_asm); (case l => exact isL (by k_asm) (by k_mem)); (case k => exact IsPart.int _ _); (case k2 => exact IsPart.none); (case e => exact pick_from (by omega)); (case s => with_unfolding_all rfl); (case t => kmk_pure); (case z => (rw [sizeLine_eq]; simp only [List.size_toArray]; omega))); intro _ _ _ _ yl1; (try k_lt yl1); revert yl1; intro _; (try k_sweep)))
  k_with "call builtin:list.extend" => (((with_reducible show wpAny _ _ (call (Value.builtin _) [Value.ref _, Value.ref _]) _ _ _); (refine' extendL ?k1 ?k2 ?k3 ?k4 ?k5 ?k6 ?_; (case k1 => k_asm); (case k2 => k_asm); (case k3 => k_mem); (case k5 => k_upd); (case k4 => exact Nat.succ_ne_zero _); (case k6 => (simp only [List.length_cons, List.length_nil]; omega))); intro _ _ _; (try k_sweep)))
  k_with "call ref" => (((with_reducible show wpAny _ _ (call (Value.ref 866) _) _ _ _); k_dflt (refine' Does.useN (c_text _ _ _ _ _ ?z1 ?z2 ?z3) ?k1 ?k2 ?k3 ?k4 ?ka ?k5 ?kK ?kd ?ku ?_; (case k1 => k_asm); (case k2 => k_asm); (case k3 => k_asm); (case k4 => k_asm); (case z1 => exact strs_take _ (by assumption)); (case z2 => exact Nat.le_trans (wgt_drop_take _ _) (by assumption)); (case z3 => exact take_neI (by omega) (by omega)); (case ka => first | (simp only [AllNe2, AllNe, and_true]; done) | (simp only [AllNe2, AllNe, and_true]; omega)); (case k5 => k_asm); (case kK => first | exact rfl | assumption); (case kd => ktr_room); (case ku => ktr_units); intro _ _ _ _ e9 _ N9; obtain ⟨⟨_, e91⟩, e92⟩ := e9; subst e91; subst e92; (simp only [List.cons_append, List.nil_append] at N9); revert N9; intro _; (try dsimp only); (try k_fold))))
  k_with "call ref" => (((with_reducible show wpAny _ _ (call (Value.ref 861) _) _ _ _); k_dflt (refine' Does.useN (c_place _ _ _ _ _ ?z1 ?z2) ?k1 ?k2 ?k3 ?k4 ?ka ?k5 ?kK ?kd ?ku ?_; (case k1 => k_asm); (case k2 => k_asm); (case k3 => k_asm); (case k4 => k_asm); (case z1 => exact strs_take _ (by assumption)); (case z2 => exact Nat.le_trans (wgt_drop_take _ _) (by assumption)); (case ka => first | (simp only [AllNe2, AllNe, and_true]; done) | (simp only [AllNe2, AllNe, and_true]; omega)); (case k5 => k_asm); (case kK => first | exact rfl | assumption); (case kd => ktr_room); (case ku => ktr_units); intro _ _ _ _ e9 _ N9; obtain ⟨⟨_, e91⟩, e92⟩ := e9; subst e91; subst e92; (simp only [List.cons_append, List.nil_append] at N9); revert N9; intro _; (try dsimp only); (try k_fold))))
  k_with "call ref" => (((with_reducible show wpAny _ _ (call (Value.ref 854) _) _ _ _); k_dflt (refine' Does.use0 (c_words _ _ _ _ ?z1 _ _ ?z2) ?k1 ?k2 ?k3 ?k4 ?k5 ?kK ?kd ?ku ?_; (case k1 => k_asm); (case k2 => k_asm); (case k3 => k_asm); (case k4 => k_asm); (case z1 => omega); (case z2 => assumption); (case k5 => k_asm); (case kK => first | exact rfl | assumption); (case kd => ktr_room); (case ku => ktr_units); intro _ _ _ _ e9 _ N9 D9; rcases e9 with ⟨_, _, _, _, _, _, e91, e92⟩ | ⟨_, _, _, e91, e92⟩ <;> subst e91 <;> subst e92 <;> (simp only [List.cons_append, List.nil_append] at N9) <;> (simp only [AllNe2, AllNe, and_true] at D9) <;> (revert N9 D9; intro _ _) <;> (try dsimp only) <;> (try k_fold))))
  trivial

theorem News3 {g h : Heap} {L a1 a2 a3 : Addr} {o1 o2 o3 : Obj} (q1 : h.get? a1 = some o1 ∧ a1 ≠ L ∧ g.get? a1 = none) (q2 : h.get? a2 = some o2 ∧ a2 ≠ L ∧ g.get? a2 = none) (q3 : h.get? a3 = some o3 ∧ a3 ≠ L ∧ g.get? a3 = none) : News g L h [(a1, o1), (a2, o2), (a3, o3)] := by
  intro p hp
  simp only [List.mem_cons, List.not_mem_nil, or_false] at hp
  rcases hp with rfl | rfl | rfl
  · exact q1
  · exact q2
  · exact q3

set_option maxHeartbeats 16000000 in
theorem c_due (w : World) (b : Str) (t : Tok) (c : Bool) (hx : b.length ≤ 56) (r : Res) (k₀ : Nat) (hr : runM (cmS c) b k₀ [] (g0 0 (some spS)) = some r) :
   Does w 873 8 120 [.str b t, .bool c] [] (fun v led => (∃ xs S vals n, r = .ok xs ∧ StrsAre vals (rowT xs xs.length) ∧ v = .ref S ∧ led = [(S, listO vals n)]) ∨ (∃ m t, r = .err m ∧ v = .str m t ∧ led = [])) := by
  unfold Does
  k_fill
  intro mean mg mb dp un gd cn cs a0 ccd cl outer A₀ base h₀ L m s rest Q E hB hF hK hN hap hT hcs hd hu hret
  refine wpAny_call ?_
  refine' enterR (binds := [(Str.ofString "line", .str b t), (Str.ofString "remarks", .bool c)]) hB hF hK hN hap hT rfl rfl hcs ?k6 ?k7 ?k8 ?k9 ?kB ?_ ?c2 ?c3 ?c4 ?c5
  case k6 => k_is
  case k7 => k_is
  case k8 => ktr_room
  case k9 => first | exact BindsTo.of_eq rfl | exact binds_K (hK.keeps hF.keep) rfl (by k_is) rfl rfl rfl
  case kB => exact locs rfl
  case c2 => exact rfl
  case c3 => exact rfl
  case c4 => exact rfl
  case c5 => decide
  intro g1 L1 h1 F1 N1 B1 X1 T1 l1 st1
  (try dsimp only)
  (try k_fold)
  k_steps
  · rename_i xs S vs n9 hr9 hv _ _ _ tkd RW _ hlt _ F0 N0
    have hvl := hv.length
    have hxw : wgt xs ≤ 120 := by
      rw [hr9] at hr
      have := run_small hr
      omega
    have hxl := wgt_len xs
    refine For_invV g1 rfl rfl ?_
    have hv2 : StrsAre vs xs ∧ True := ⟨hv, trivial⟩
    k_steps
    refine' iter_rng (n := xs.length) (fun i m l => ∃ (rv : List Value) (k : Nat), StrsAre rv (rowT xs i) ∧ m (Str.ofString "row") = some (.ref RW) ∧ m (Str.ofString "words") = some (.ref S) ∧ l = [(RW, listO rv k), (S, listO vs n9)]) rfl (by assumption) (by assumption) (by assumption) (by omega) ?J0 ?turn ?done
    case J0 => exact ⟨_, 0, .cons _ _ .nil, rfl, rfl, rfl⟩
    case turn =>
      rintro i tv m₁ n₁ h tk I io hi ⟨rv, k, hrv, e1, e2, rfl⟩ hI F N
      have F := Fr.put (x := Str.ofString "words") (Fr.put (x := Str.ofString "row") F (by exact e1)) (by exact e2)
      have hI1 : @Ne Nat RW I := hI _ (.head _)
      have hI2 : @Ne Nat S I := hI _ (.tail _ (.head _))
      have hrl := hrv.length
      rw [rowT_len] at hrl
      have hv := hv2.1
      clear e1 e2 hr
      clear hB hF hK hN hap hT hret
      have hrow : rowT xs (i + 1) = rowT xs i ++ [textS ((xs.take ((i : Int) + 1).toNat).drop (lastRoot (xs.take ((i : Int) + 1).toNat))), placeR (xs.take ((i : Int) + 1).toNat).reverse (0, [])] := by
        rw [rowT_succ, toNat_succ]
        have hne := take_ne hi
        rw [text_join _ hne, place_here _ hne]
        rfl
      k_steps
      rename_i Fz Nz
      have q1 := Nz (RW, listO (rv ++ _) (k + 1)) (by k_mem)
      have q0 := Nz (I, io) (by k_mem)
      have q2 := Nz (S, listO vs n9) (by k_mem)
      refine turn_end Fz (News3 q0 q1 q2) (fun p hp => ?_) ⟨_, _, by rw [hrow]; exact strs_app hrv (.cons _ _ (.cons _ _ .nil)), rfl, rfl, rfl⟩
      simp only [List.mem_cons, List.not_mem_nil, or_false] at hp
      rcases hp with rfl | rfl
      · exact hI1
      · exact hI2
    case done =>
      rintro m₁ n₁ h tk ⟨rv, k, hrv, e1, e2, rfl⟩ F N
      have F := Fr.put (x := Str.ofString "words") (Fr.put (x := Str.ofString "row") F (by exact e1)) (by exact e2)
      k_steps
      dsimp only
      refine leaveR_ (by k_asm) (News_sub (l' := [(RW, listO rv k)]) (by k_asm) (by simp)) ?_
      intro kF kN kD
      exact hret _ _ _ _ (.inl ⟨xs, RW, rv, k, hr9, hrv, rfl, rfl⟩) kF kN kD
  · dsimp only
    refine leaveR_ (by k_asm) News.nil ?_
    intro kF kN kD
    exact hret _ _ _ _ (.inr ⟨_, _, by assumption, rfl, rfl⟩) kF kN kD
end

/-! ## T1 -/
section
theorem offT1 : True := by
  (w_top off)
  k_with_none
  k_with "steps" => (repeat' (first | (k_unfold; (try dsimp only)) | ((fail_if_success with_reducible show LeaveR _ _ _ _ _ _ _ _); (fail_if_success with_reducible show TurnPost _ _ _ _ _ _ _ _ _); (fail_if_success with_reducible show wpAny _ _ (pyIter _) _ _ _); (fail_if_success with_reducible show wpAny _ _ (exec (Stmt.While _ _ _ _) _) _ _ _); walk1) | ((fail_if_success with_reducible show LeaveR _ _ _ _ _ _ _ _); (fail_if_success with_reducible show TurnPost _ _ _ _ _ _ _ _ _); (fail_if_success with_reducible show wpAny _ _ (pyIter _) _ _ _); (fail_if_success with_reducible show wpAny _ _ (exec (Stmt.While _ _ _ _) _) _ _ _); dsimp only; walk1) | fail "no step"))
  k_with "call builtin:issubclass" => ((k_here; (with_reducible show wpAny _ _ (call (Value.builtin "issubclass") [Value.type "str", Value.ref _]) _ _ _); refine issub_call (News.get (by k_asm) (by k_mem)) ?_))
  k_with "call ref" => (((with_reducible show wpAny _ _ (call (Value.ref 807) _) _ _ _); k_dflt ((refine' DoesP.use (c_fspath _ _ _) ?k1 ?k2 ?k3 ?k4 ?k5 ?kK ?kd ?ku ?_; (case k1 => k_asm); (case k2 => k_asm); (case k3 => k_asm); (case k4 => k_asm); (case k5 => k_asm); (case kK => first | exact rfl | assumption); (case kd => ktr_room); (case ku => ktr_units); k_whole; intro _ _ _ P9 _ _; (first | subst P9 | (obtain ⟨_, P9⟩ := P9; subst P9)); (try dsimp only); (try k_fold)))))
  k_with "call ref" => (((with_reducible show wpAny _ _ (call (Value.ref 821) _) _ _ _); k_dflt ((refine' DoesP.use (c_get_sep _ _ _) ?k1 ?k2 ?k3 ?k4 ?k5 ?kK ?kd ?ku ?_; (case k1 => k_asm); (case k2 => k_asm); (case k3 => k_asm); (case k4 => k_asm); (case k5 => k_asm); (case kK => first | exact rfl | assumption); (case kd => ktr_room); (case ku => ktr_units); k_whole; intro _ _ _ P9 _ _; (first | subst P9 | (obtain ⟨_, P9⟩ := P9; subst P9)); (try dsimp only); (try k_fold)))))
  k_with "call builtin:str.find" => (((with_reducible show wpAny _ _ (call (Value.builtin "str.find") [Value.str _ _, Value.str _ _, Value.int _ _, Value.int (((Str.length _ : Nat)) : Int) _]) _ _ _); refine find4 ?_))
  k_with "call builtin:str.split" => (((with_reducible show wpAny _ _ (call (Value.builtin "str.split") [Value.str _ _, Value.str _ _]) _ _ _); refine' KSpl.split1 ?k1 ?k2 ?k3 ?_ ?k4; (case k1 => k_asm); (case k2 => k_asm); (case k3 => decide); (case k4 => (rw [sizeLine_eq]; omega)); intro _ _ _ _ _ _ _ _ yl1; (try k_lt yl1); revert yl1; intro _))
  k_with "truthy ref" => ((with_unfolding_all (refine' truthyL ?k1 ?k2 ?k3 ?_; (case k1 => k_asm); (case k2 => k_mem); (case k3 => omega))))
  k_with "call builtin:list.pop" => ((refine' popL ?k1 ?k2 ?k3 ?k4 ?k5 ?_; (case k1 => k_asm); (case k2 => k_asm); (case k3 => k_upd); (case k4 => assumption); (case k5 => omega); intro _ _ _ _; (try k_sweep)))
  k_with "call builtin:list.append" => ((refine' appendL ?k1 ?k2 ?k3 ?k4 ?_; (case k1 => k_asm); (case k2 => k_asm); (case k3 => k_upd); (case k4 => omega); intro _ _ _; (try k_sweep)))
  k_with "subscriptTail Name UnaryOp ref int" => (((with_reducible show wpAny _ _ (subscriptTail _ _ (Value.ref _) (Value.int _ _)) _ _ _); (with_unfolding_all refine' lastL ?k1 ?k2 ?k3 ?k4 ?k5 ?_; (case k1 => k_asm); (case k2 => k_mem); (case k3 => assumption); (case k4 => assumption); (case k5 => omega)); intro _))
  k_with "call builtin:str.join" => (((with_reducible show wpAny _ _ (call (Value.builtin "str.join") [Value.str _ _, Value.ref _]) _ _ _); refine' joinL ?k1 ?k2 ?k3 ?k4 ?k5 ?_; (case k1 => k_asm); (case k2 => k_mem); (case k3 => assumption); (case k4 => decide); (case k5 => (rw [wgt_sum]; omega)); intro _ _))
  k_with "steps" => (repeat' (first | (k_unfold; (try dsimp only)) | ((fail_if_success with_reducible show LeaveR _ _ _ _ _ _ _ _); (fail_if_success with_reducible show WhileStep2 _ _ _ _ _ _ _ _); (fail_if_success with_reducible show TurnPost _ _ _ _ _ _ _ _ _); (fail_if_success with_reducible show wpAny _ _ (exec (Stmt.While _ _ _ _) _) _ _ _); (fail_if_success with_reducible show wpAny _ _ (pyIter _) _ _ _); (fail_if_success with_reducible show wpAny _ _ (exec (Stmt.For _ _ _ _ _) _) _ _ _); walk1) | ((fail_if_success with_reducible show LeaveR _ _ _ _ _ _ _ _); (fail_if_success with_reducible show WhileStep2 _ _ _ _ _ _ _ _); (fail_if_success with_reducible show TurnPost _ _ _ _ _ _ _ _ _); (fail_if_success with_reducible show wpAny _ _ (exec (Stmt.While _ _ _ _) _) _ _ _); (fail_if_success with_reducible show wpAny _ _ (pyIter _) _ _ _); (fail_if_success with_reducible show wpAny _ _ (exec (Stmt.For _ _ _ _ _) _) _ _ _); dsimp only; (fail_if_success with_reducible show LeaveR _ _ _ _ _ _ _ _); (fail_if_success with_reducible show WhileStep2 _ _ _ _ _ _ _ _); (fail_if_success with_reducible show TurnPost _ _ _ _ _ _ _ _ _); (fail_if_success with_reducible show wpAny _ _ (exec (Stmt.While _ _ _ _) _) _ _ _); (fail_if_success with_reducible show wpAny _ _ (pyIter _) _ _ _); (fail_if_success with_reducible show wpAny _ _ (exec (Stmt.For _ _ _ _ _) _) _ _ _); walk1) | fail "no step"))
  k_with "call builtin:list.insert" => (((with_reducible show wpAny _ _ (call (Value.builtin _) [Value.ref _, Value.int _ _, _]) _ _ _); (refine' insert0L ?k1 ?k2 ?k3 ?k4 ?_; (case k1 => k_asm); (case k2 => k_asm); (case k3 => k_upd); (case k4 => omega)); intro _ _ _; (try k_sweep)))
  k_with "subscriptTail Name Slice ref ref" => (((with_reducible show wpAny _ _ (subscriptTail _ (PySem.Expr.Slice none none (some _) _) (Value.ref _) (Value.ref _)) _ _ _); k_dflt (refine' krv_lit ?F ?N ?l ?k ?e ?_ ?s ?t ?z; (case F => k_asm); (case N => k_asm); (case l => exact isL (by k_asm) (by k_mem)); (case k => exact IsPart.int _ _); (case e => exact rfl); (case s => with_unfolding_all rfl); (case t => kmk_pure); (case z => (rw [sizeLine_eq]; simp only [List.size_toArray]; omega))); intro _ _ _ _ yl1; (try k_lt yl1); revert yl1; intro _; (try k_sweep)))
  k_with "call builtin:str.split" => (((with_reducible show wpAny _ _ (call (Value.builtin "str.split") [Value.str _ _, Value.str _ _]) _ _ _); refine' KSpl.split1 ?k1 ?k2 ?k3 ?_ ?k4; (case k1 => k_asm); (case k2 => k_asm); (case k3 => decide); (case k4 => (rw [sizeLine_eq]; omega)); intro yD yl yh yk ye ya yF yN yl1; (try k_lt yl1); (have hz9 := split_len (by decide) ye ya); revert yD yl yh yk ye ya yF yN yl1 hz9; intro _ _ _ _ _ _ _ _ _ _))
  k_with "binaryOp Mult ref int" => (((with_reducible show wpAny _ _ (binaryOp Operator.Mult (Value.ref _) (Value.int _ _)) _ _ _); (refine' mulL ?k1 ?k2 ?k3 ?k4 ?_; (case k1 => k_asm); (case k2 => k_asm); (case k3 => k_mem); (case k4 => omega)); intro _ _ _ _ yl1; (try k_lt yl1); revert yl1; intro _; (try k_sweep)))
  k_with "binaryOp Add ref ref" => (((with_reducible show wpAny _ _ (binaryOp Operator.Add (Value.ref _) (Value.ref _)) _ _ _); (refine' addL ?k1 ?k2 ?k3 ?k4 ?k5 ?_; (case k1 => k_asm); (case k2 => k_asm); (case k3 => k_mem); (case k4 => k_mem); (case k5 => (simp only [List.length_replicate]; omega))); intro _ _ _ _ yl1; (try k_lt yl1); revert yl1; intro _; (try k_sweep)))
  k_with "subscriptTail Name Slice str ref" => (((with_reducible show wpAny _ _ (subscriptTail _ (PySem.Expr.Slice none (some _) none _) (Value.str (List.getD _ _ _) _) _) _ _ _); (refine slice_strN_ns (hsz := sz_getD (by assumption) _) (s := ⟨_, _, _, _, _⟩) (by k_asm) (by k_asm) ?_); intro _ _ _ _ _))
  k_with "subscriptTail Name Slice ref ref" => (((with_reducible show wpAny _ _ (subscriptTail _ (PySem.Expr.Slice none (some _) none _) (Value.ref _) (Value.ref _)) _ _ _); k_dflt (refine' kmk_slice_lit ?F ?N ?l ?k ?k2 ?e ?_ ?s ?t ?z; (case F => k_asm); (case N => k_asm); (case l => exact isL (by k_asm) (by k_mem)); (case k => exact IsPart.none); (case k2 => exact IsPart.int _ _); (case e => exact pick_upto (by omega)); (case s => with_unfolding_all rfl); (case t => kmk_pure); (case z => (rw [sizeLine_eq]; simp only [List.size_toArray]; omega))); intro _ _ _ _ yl1; (try k_lt yl1); revert yl1; intro _; (try k_sweep)))
  k_with "subscriptTail Name Slice ref ref" => (((with_reducible show wpAny _ _ (subscriptTail _ (PySem.Expr.Slice (some _) none none _) (Value.ref _) (Value.ref _)) _ _ _); k_dflt (refine' kmk_slice_lit ?F ?N ?l ?k ?k2 ?e ?_ ?s ?t ?z; (case F => k_asm); (case N => k_asm); (case l => exact isL (by k_asm) (by k_mem)); (case k => exact IsPart.int _ _); (case k2 => exact IsPart.none); (case e => exact pick_from (by omega)); (case s => with_unfolding_all rfl); (case t => kmk_pure); (case z => (rw [sizeLine_eq]; simp only [List.size_toArray]; omega))); intro _ _ _ _ yl1; (try k_lt yl1); revert yl1; intro _; (try k_sweep)))
  k_with "call builtin:list.extend" => (((with_reducible show wpAny _ _ (call (Value.builtin _) [Value.ref _, Value.ref _]) _ _ _); (refine' extendL ?k1 ?k2 ?k3 ?k4 ?k5 ?k6 ?_; (case k1 => k_asm); (case k2 => k_asm); (case k3 => k_mem); (case k5 => k_upd); (case k4 => exact Nat.succ_ne_zero _); (case k6 => (simp only [List.length_cons, List.length_nil]; omega))); intro _ _ _; (try k_sweep)))
  k_with "steps" => (repeat' (first | (k_unfold; (try dsimp only)) | ((fail_if_success with_reducible show LeaveR _ _ _ _ _ _ _ _); (fail_if_success with_reducible show WhileStep2 _ _ _ _ _ _ _ _); (fail_if_success with_reducible show TurnPost _ _ _ _ _ _ _ _ _); (fail_if_success with_reducible show wpAny _ _ (exec (Stmt.While _ _ _ _) _) _ _ _); (fail_if_success with_reducible show wpAny _ _ (pyIter _) _ _ _); (fail_if_success with_reducible show wpAny _ _ (call (Value.ref 734) _) _ _ _); (fail_if_success with_reducible show StarOf _ _ _ _ _ _); (fail_if_success with_reducible show wpAny _ _ (exec (Stmt.For _ _ _ _ _) _) _ _ _); (fail_if_success with_reducible show wpAny _ _ (noteFrame _ _) _ _ _); walk1) | ((fail_if_success with_reducible show LeaveR _ _ _ _ _ _ _ _); (fail_if_success with_reducible show WhileStep2 _ _ _ _ _ _ _ _); (fail_if_success with_reducible show TurnPost _ _ _ _ _ _ _ _ _); (fail_if_success with_reducible show wpAny _ _ (exec (Stmt.While _ _ _ _) _) _ _ _); (fail_if_success with_reducible show wpAny _ _ (pyIter _) _ _ _); (fail_if_success with_reducible show wpAny _ _ (call (Value.ref 734) _) _ _ _); (fail_if_success with_reducible show StarOf _ _ _ _ _ _); (fail_if_success with_reducible show wpAny _ _ (exec (Stmt.For _ _ _ _ _) _) _ _ _); (fail_if_success with_reducible show wpAny _ _ (noteFrame _ _) _ _ _); dsimp only; (fail_if_success with_reducible show LeaveR _ _ _ _ _ _ _ _); (fail_if_success with_reducible show WhileStep2 _ _ _ _ _ _ _ _); (fail_if_success with_reducible show TurnPost _ _ _ _ _ _ _ _ _); (fail_if_success with_reducible show wpAny _ _ (exec (Stmt.While _ _ _ _) _) _ _ _); (fail_if_success with_reducible show wpAny _ _ (pyIter _) _ _ _); (fail_if_success with_reducible show wpAny _ _ (call (Value.ref 734) _) _ _ _); (fail_if_success with_reducible show StarOf _ _ _ _ _ _); (fail_if_success with_reducible show wpAny _ _ (exec (Stmt.For _ _ _ _ _) _) _ _ _); (fail_if_success with_reducible show wpAny _ _ (noteFrame _ _) _ _ _); walk1) | fail "no step"))
  k_with "call ref" => (((with_reducible show wpAny _ _ (call (Value.ref 842) _) _ _ _); k_dflt (refine' DoesP.use (c_norm _ _ _ ?z1) ?k1 ?k2 ?k3 ?k4 ?k5 ?kK ?kd ?ku ?_; (case k1 => k_asm); (case k2 => k_asm); (case k3 => k_asm); (case k4 => k_asm); (case z1 => exact Nat.le_trans (joinS_len [_] _) (by (simp only [List.map_cons, List.map_nil, List.sum_cons, List.sum_nil]; omega))); (case k5 => k_asm); (case kK => first | exact rfl | assumption); (case kd => ktr_room); (case ku => ktr_units); intro _ _ _ P9 _ _; obtain ⟨_, P9⟩ := P9; subst P9; (try dsimp only); (try k_fold))))
  k_with "call ref" => (((with_reducible show wpAny _ _ (call (Value.ref 828) _) _ _ _); k_dflt (refine' DoesP.use (c_join _ _ _ _ [_] (StrsAre.cons _ _ StrsAre.nil) ?z1) ?k1 ?k2 ?k3 ?k4 ?k5 ?kK ?kd ?ku ?_; (case k1 => k_asm); (case k2 => k_asm); (case k3 => k_asm); (case k4 => k_asm); (case z1 => (simp only [List.map_cons, List.map_nil, List.sum_cons, List.sum_nil]; omega)); (case k5 => k_asm); (case kK => first | exact rfl | assumption); (case kd => ktr_room); (case ku => ktr_units); intro _ _ _ P9 _ _; obtain ⟨_, P9⟩ := P9; subst P9; (try dsimp only); (try k_fold))))
  trivial

theorem joinS_one (a b : Str) : (joinS a [b]).length ≤ a.length + (b.length + 1) := by
  have := joinS_len [b] a
  simpa using this

/-- as DoesT, of a def that raises nothing; the frames below are dicts -/
noncomputable def DoesD (w : World) (f : Addr) (d u : Nat) (vs : List Value) (led : Led) (post : Value → Led → Prop) : Prop :=
  ∀ (mean : ExcName → Option Value) (mg mb : Str → Option Value) (dp un : Nat) (gd : Option (List Code)) (cn : Str) (cs : Scope) (a : Addr) (ccd : Value) (cl : List (Str × Addr)) (outer : List Env) (A₀ : Around) (base h₀ : Heap) (L : Addr) (m : Str → Option Value) (s : Shared) (rest : Led) (Q E : Value → Shared → Prop),
    Below A₀ base outer h₀ → Fr h₀ L s.heap m → (hd.heap_1 w.params).In h₀ → (hd.heap_1 w.params).In base → News h₀ L s.heap (led ++ rest) → (∀ p ∈ rest, p.1 ∉ led.map (·.1)) → Top qv (looseW qv looseV) mean mg mb h₀ → Top qv (looseW qv looseV) mean mg mb base → KtsDicts (fsOf outer) h₀ → cs.kind = .function → dp + d < recursionLimit → un + u < cLine →
    (∀ v led' h' tk' h₁, post v led' → KtsTurn (fsOf outer) h₀ h₁ → Fr h₁ L h' m → News h₁ L h' (led' ++ rest) → (∀ p ∈ rest, ∀ q ∈ led', q.1 ≠ p.1) → Below A₀ base outer h₁ → (hd.heap_1 w.params).In h₁ → Top qv (looseW qv looseV) mean mg mb h₁ → Q v { s with heap := h', toks := tk' }) →
    wpAny (model (OpenLaw.prog PySem.Challenge.rw_pd0002_01) w) (ktrTop dp un gd cn cs L a ccd cl outer) (call (.ref f) vs) Q E s
theorem strs_cons {vs : List Value} {xs : List Str} (h : StrsAre vs xs) (hne : xs ≠ []) : ∃ w t r rs, vs = .str w t :: rs ∧ xs = w :: r ∧ StrsAre rs r := by
  cases h with
  | nil => exact absurd rfl hne
  | cons t b h => exact ⟨_, _, _, _, rfl, rfl, h⟩
theorem wgt_cons (w : Str) (r : List Str) : wgt (w :: r) = w.length + 1 + (r.map (·.length + 1)).sum := by
  simp [wgt]
theorem take_snoc {xs : List Str} {i : Nat} (h : i < xs.length) : xs.take (i + 1) = xs.take i ++ [xs.getD i Str.empty] := by
  rw [List.take_succ, List.getD_eq_getElem?_getD, List.getElem?_eq_getElem h]
  rfl
theorem NewsT3 {g h : Heap} {L a1 a2 a3 : Addr} {o1 o2 o3 : Obj} (q1 : h.get? a1 = some o1 ∧ a1 ≠ L ∧ g.get? a1 = none) (q2 : h.get? a2 = some o2 ∧ a2 ≠ L ∧ g.get? a2 = none) (q3 : h.get? a3 = some o3 ∧ a3 ≠ L ∧ g.get? a3 = none) : News g L h [(a1, o1), (a2, o2), (a3, o3)] := by
  intro p hp
  simp only [List.mem_cons, List.not_mem_nil, or_false] at hp
  rcases hp with rfl | rfl | rfl
  · exact q1
  · exact q2
  · exact q3
theorem ve_ve : isSubtype (.type "ValueError") (.type "ValueError") = pure true := by rw [isSubtype_type]; kernel_rfl

set_option maxHeartbeats 16000000 in
theorem c_told (w : World) (b : Str) (t : Tok) (c : Bool) (hx : b.length ≤ 56) (r : Res) (k₀ : Nat) (hr : runM (cmS c) b k₀ [] (g0 0 (some spS)) = some r) (hk₀ : k₀ ≤ 1000000) :
   DoesD w 880 20 400 [.str b t, .bool c] [] (fun v led => (∃ xs S vals n, r = .ok xs ∧ StrsAre vals (rowT xs xs.length) ∧ v = .ref S ∧ led = [(S, listO vals n)]) ∨ (∃ m t, r = .err m ∧ v = .str m t ∧ led = [])) := by
  unfold DoesD
  k_fill
  intro mean mg mb dp un gd cn cs a0 ccd cl outer A₀ base h₀ L m s rest Q E hB hF hK hKB hN hap hT hTB hD hcs hd hu hret
  refine wpAny_call ?_
  refine' enterT (binds := [(Str.ofString "line", .str b t), (Str.ofString "remarks", .bool c)]) hB hF hK hKB hN hap hT hTB rfl rfl hcs ?k6 ?k7 ?k8 ?k9 ?kB ?_ ?c2 ?c3 ?c4 ?c5
  case k6 => k_is
  case k7 => k_is
  case k8 => ktr_room
  case k9 => first | exact BindsTo.of_eq rfl | exact binds_K (hK.keeps hF.keep) rfl (by k_is) rfl rfl rfl
  case kB => exact locs rfl
  case c2 => exact rfl
  case c3 => exact rfl
  case c4 => exact rfl
  case c5 => decide
  intro g1 L1 h1 FG1 NG1 F1 N1 B1 X1 T1 l1 st1
  (try dsimp only)
  (try k_fold)
  have hD1 : KtsDicts (fsOf (envX cn cs L a0 ccd cl :: outer)) g1 := fun z hz => by
    rcases kts_mem (name := cn) (scope := cs) (a := a0) (cd := ccd) hz with rfl | hz
    · obtain ⟨o, es, ep, ho, hdt, _⟩ := FG1.ns
      exact ⟨o, es, ep, ho, hdt⟩
    · obtain ⟨o, es, n, ho, hdt⟩ := hD z hz
      exact ⟨o, es, n, st1 z o ho, hdt⟩
  k_steps
  refine' (c_split w b t c (by omega) r k₀ hr hk₀) mean mg mb _ _ _ _ _ _ _ _ _ _ base g1 L1 _ _ [] _ _ B1 ?F X1 hKB ?N (fun _ h => nomatch h) T1 hTB rfl ?hd ?hu ?ok ?ex
  case F => k_asm
  case N => exact News.nil
  case hd => ktr_room
  case hu => ktr_units
  case ok =>
    rintro v led' h' tk' g2 ⟨S, vs, n9, xs, hr9, hv, rfl, rfl⟩ T2 F2 N2 _ B2 X2 Tp2
    simp only [List.append_nil] at N2
    have hvl := hv.length
    have hxw : wgt xs ≤ 120 := by
      rw [hr9] at hr
      have := run_small hr
      omega
    have hxl := wgt_len xs
    clear B1 X1 T1 F1 N1
    k_steps
    rename_i Fa Na
    refine For_invV g2 rfl rfl ?_
    have hv2 : StrsAre vs xs ∧ True := ⟨hv, trivial⟩
    k_steps
    rename_i RW _ hlt _ _ _ _ _ _ _ _ _ F0 N0 _
    refine' iter_rng (n := xs.length) (fun i m l => ∃ (rv : List Value) (k : Nat) (th : Tok), StrsAre rv (rowT xs i) ∧ m (Str.ofString "row") = some (.ref RW) ∧ m (Str.ofString "words") = some (.ref S) ∧ m (Str.ofString "here") = some (.str (hereS (xs.take i)) th) ∧ l = [(RW, listO rv k), (S, listO vs n9)]) rfl (by assumption) (by assumption) (by assumption) (by omega) ?J0 ?turn ?done
    case J0 => exact ⟨_, 0, _, .cons _ _ .nil, rfl, rfl, rfl, rfl⟩
    case turn =>
      rintro i tv m₁ n₁ h tk I io hi ⟨rv, k, th, hrv, e1, e2, e3, rfl⟩ hI F N
      have F := Fr.put (x := Str.ofString "here") (Fr.put (x := Str.ofString "words") (Fr.put (x := Str.ofString "row") F (by exact e1)) (by exact e2)) (by exact e3)
      have hI1 : @Ne Nat RW I := hI _ (.head _)
      have hI2 : @Ne Nat S I := hI _ (.tail _ (.head _))
      have hrl := hrv.length
      rw [rowT_len] at hrl
      have hv := hv2.1
      have hgd := len_getD (ws := xs) ((i : Int).toNat)
      have hhl : (hereS (xs.take i)).length ≤ 363 := Nat.le_trans (hereS_len (xs.take i)) (by have := wgt_drop_take xs i; omega)
      clear e1 e2 e3 hr
      have hh : normS (joinS (hereS (xs.take i)) [xs.getD ((i : Int)).toNat Str.empty]) = hereS (xs.take (i + 1)) := by
        rw [Int.toNat_natCast, take_snoc hi, here_snoc]
        rfl
      have hrow : rowT xs (i + 1) = rowT xs i ++ [(xs.take ((i : Int) + 1).toNat).foldl joinStep (Str.ofString ""), normS (joinS (hereS (xs.take i)) [xs.getD ((i : Int)).toNat Str.empty])] := by
        rw [rowT_succ, toNat_succ, hh]
        rfl
      clear hB hF hK hKB hN hap hT hTB hD hD1 hret
      k_steps
      have hwd := wgt_drop_take xs ((i : Int) + 1).toNat
      refine' star_seq (T := "list") (ws := vs.take ((i : Int) + 1).toNat) ?sF ?sN ?sm ?sc ?sd (.inl rfl) ?se ?sz ?_
      case sF => k_asm
      case sN => k_asm
      case sm => k_mem
      case sc => exact rfl
      case sd => exact rfl
      case se => first | rfl | simp
      case sz => (rw [sizeLine_eq]; simp only [List.size_toArray, List.length_take]; omega)
      intro h8 F8 N8
      obtain ⟨w0, t0, r0, rs0, ev, ex0, hs0⟩ := strs_cons (strs_take ((i : Int) + 1).toNat hv2.1) (take_neI (k := (i : Int)) (by omega) (by omega))
      rw [ev]
      rw [ex0] at hwd
      have hj0 := join_fold w0 r0
      rw [← ex0] at hj0
      refine ⟨X2.keeps F8.keep, ?_⟩
      dsimp only [List.nil_append]
      refine' DoesP.use (c_join _ _ _ _ r0 hs0 ?z1) ?k1 ?k2 ?k3 ?k4 ?k5 ?kK ?kd ?ku ?_
      case k1 => k_asm
      case k2 => k_asm
      case k3 => k_asm
      case k4 => k_asm
      case z1 => (have := wgt_cons w0 r0; omega)
      case k5 => k_asm
      case kK => first | exact rfl | assumption
      case kd => ktr_room
      case ku => ktr_units
      rintro v9 h9 tk9 ⟨t9, rfl⟩ F9 N9
      rw [hj0]
      k_steps
      rename_i Fz Nz
      have q1 := Nz (RW, listO (rv ++ _) (k + 1)) (by k_mem)
      have q0 := Nz (I, io) (by k_mem)
      have q2 := Nz (S, listO vs n9) (by k_mem)
      refine turn_end Fz (NewsT3 q0 q1 q2) (fun p hp => ?_) ⟨_, _, _, by rw [hrow]; exact strs_app hrv (.cons _ _ (.cons _ _ .nil)), rfl, rfl, by exact congrArg (fun z => some (Value.str z _)) hh, rfl⟩
      simp only [List.mem_cons, List.not_mem_nil, or_false] at hp
      rcases hp with rfl | rfl
      · exact hI1
      · exact hI2
    case done =>
      rintro m₁ n₁ h tk ⟨rv, k, th, hrv, e1, e2, e3, rfl⟩ F N
      have F := Fr.put (x := Str.ofString "here") (Fr.put (x := Str.ofString "words") (Fr.put (x := Str.ofString "row") F (by exact e1)) (by exact e2)) (by exact e3)
      k_steps
      dsimp only
      show LeaveT _ _ _ _ _ _ _ _ _ _ _ _ _ _ _ _ _ _
      exact ⟨g2, L1, _, [(RW, listO rv k)], T2, by k_asm, News_sub (l' := [(RW, listO rv k)]) (by k_asm) (by simp), fun h₁ t f n' a b k' tp => hret _ _ _ _ _ (.inl ⟨xs, RW, rv, k, hr9, hrv, rfl, rfl⟩) t f n' a b k' tp⟩
  case ex =>
    rintro e te X xs G h' tk' ⟨rfl, ms, tms, rfl, hr9⟩ R F N U
    refine' caught_SB (T' := "ValueError") R F B1 U hKB hTB hD1 KtsTurn.refl ?ex PyProof.Rows.Boot.«ValueError» ?hn PySem.F.isExc_ValueError PySem.F.notTuple_ValueError ve_ve ?_
    case ex => k_is
    case hn => decide
    intro h8 g8 n8 tk8 T8 F8 N8 G8 N08 B8 X8 Tp8 D8
    k_steps
    exact ⟨g8, L1, _, [], T8, by k_asm, News.nil, fun h₁ t f n' a b k tp => hret _ _ _ _ _ (.inr ⟨ms, _, hr9, rfl, rfl⟩) t f n' a b k tp⟩
end

/-! ## N2 -/
section
theorem offN2 : True := by
  (w_top off)
  k_with_none
  k_with "steps" => (repeat' (first | (k_unfold; (try dsimp only)) | ((fail_if_success with_reducible show LeaveR _ _ _ _ _ _ _ _); (fail_if_success with_reducible show TurnPost _ _ _ _ _ _ _ _ _); (fail_if_success with_reducible show wpAny _ _ (pyIter _) _ _ _); (fail_if_success with_reducible show wpAny _ _ (exec (Stmt.While _ _ _ _) _) _ _ _); walk1) | ((fail_if_success with_reducible show LeaveR _ _ _ _ _ _ _ _); (fail_if_success with_reducible show TurnPost _ _ _ _ _ _ _ _ _); (fail_if_success with_reducible show wpAny _ _ (pyIter _) _ _ _); (fail_if_success with_reducible show wpAny _ _ (exec (Stmt.While _ _ _ _) _) _ _ _); dsimp only; walk1) | fail "no step"))
  k_with "call builtin:issubclass" => ((k_here; (with_reducible show wpAny _ _ (call (Value.builtin "issubclass") [Value.type "str", Value.ref _]) _ _ _); refine issub_call (News.get (by k_asm) (by k_mem)) ?_))
  k_with "call ref" => (((with_reducible show wpAny _ _ (call (Value.ref 807) _) _ _ _); k_dflt ((refine' DoesP.use (c_fspath _ _ _) ?k1 ?k2 ?k3 ?k4 ?k5 ?kK ?kd ?ku ?_; (case k1 => k_asm); (case k2 => k_asm); (case k3 => k_asm); (case k4 => k_asm); (case k5 => k_asm); (case kK => first | exact rfl | assumption); (case kd => ktr_room); (case ku => ktr_units); k_whole; intro _ _ _ P9 _ _; (first | subst P9 | (obtain ⟨_, P9⟩ := P9; subst P9)); (try dsimp only); (try k_fold)))))
  k_with "call ref" => (((with_reducible show wpAny _ _ (call (Value.ref 821) _) _ _ _); k_dflt ((refine' DoesP.use (c_get_sep _ _ _) ?k1 ?k2 ?k3 ?k4 ?k5 ?kK ?kd ?ku ?_; (case k1 => k_asm); (case k2 => k_asm); (case k3 => k_asm); (case k4 => k_asm); (case k5 => k_asm); (case kK => first | exact rfl | assumption); (case kd => ktr_room); (case ku => ktr_units); k_whole; intro _ _ _ P9 _ _; (first | subst P9 | (obtain ⟨_, P9⟩ := P9; subst P9)); (try dsimp only); (try k_fold)))))
  k_with "call builtin:str.find" => (((with_reducible show wpAny _ _ (call (Value.builtin "str.find") [Value.str _ _, Value.str _ _, Value.int _ _, Value.int (((Str.length _ : Nat)) : Int) _]) _ _ _); refine find4 ?_))
  k_with "call builtin:str.split" => (((with_reducible show wpAny _ _ (call (Value.builtin "str.split") [Value.str _ _, Value.str _ _]) _ _ _); refine' KSpl.split1 ?k1 ?k2 ?k3 ?_ ?k4; (case k1 => k_asm); (case k2 => k_asm); (case k3 => decide); (case k4 => (rw [sizeLine_eq]; omega)); intro _ _ _ _ _ _ _ _ yl1; (try k_lt yl1); revert yl1; intro _))
  k_with "truthy ref" => ((with_unfolding_all (refine' truthyL ?k1 ?k2 ?k3 ?_; (case k1 => k_asm); (case k2 => k_mem); (case k3 => omega))))
  k_with "call builtin:list.pop" => ((refine' popL ?k1 ?k2 ?k3 ?k4 ?k5 ?_; (case k1 => k_asm); (case k2 => k_asm); (case k3 => k_upd); (case k4 => assumption); (case k5 => omega); intro _ _ _ _; (try k_sweep)))
  k_with "call builtin:list.append" => ((refine' appendL ?k1 ?k2 ?k3 ?k4 ?_; (case k1 => k_asm); (case k2 => k_asm); (case k3 => k_upd); (case k4 => omega); intro _ _ _; (try k_sweep)))
  k_with "subscriptTail Name UnaryOp ref int" => (((with_reducible show wpAny _ _ (subscriptTail _ _ (Value.ref _) (Value.int _ _)) _ _ _); (with_unfolding_all refine' lastL ?k1 ?k2 ?k3 ?k4 ?k5 ?_; (case k1 => k_asm); (case k2 => k_mem); (case k3 => assumption); (case k4 => assumption); (case k5 => omega)); intro _))
  k_with "call builtin:str.join" => (((with_reducible show wpAny _ _ (call (Value.builtin "str.join") [Value.str _ _, Value.ref _]) _ _ _); refine' joinL ?k1 ?k2 ?k3 ?k4 ?k5 ?_; (case k1 => k_asm); (case k2 => k_mem); (case k3 => assumption); (case k4 => decide); (case k5 => (rw [wgt_sum]; omega)); intro _ _))
  k_with "steps" => (repeat' (first | (k_unfold; (try dsimp only)) | ((fail_if_success with_reducible show LeaveR _ _ _ _ _ _ _ _); (fail_if_success with_reducible show WhileStep2 _ _ _ _ _ _ _ _); (fail_if_success with_reducible show TurnPost _ _ _ _ _ _ _ _ _); (fail_if_success with_reducible show wpAny _ _ (exec (Stmt.While _ _ _ _) _) _ _ _); (fail_if_success with_reducible show wpAny _ _ (pyIter _) _ _ _); (fail_if_success with_reducible show wpAny _ _ (exec (Stmt.For _ _ _ _ _) _) _ _ _); walk1) | ((fail_if_success with_reducible show LeaveR _ _ _ _ _ _ _ _); (fail_if_success with_reducible show WhileStep2 _ _ _ _ _ _ _ _); (fail_if_success with_reducible show TurnPost _ _ _ _ _ _ _ _ _); (fail_if_success with_reducible show wpAny _ _ (exec (Stmt.While _ _ _ _) _) _ _ _); (fail_if_success with_reducible show wpAny _ _ (pyIter _) _ _ _); (fail_if_success with_reducible show wpAny _ _ (exec (Stmt.For _ _ _ _ _) _) _ _ _); dsimp only; (fail_if_success with_reducible show LeaveR _ _ _ _ _ _ _ _); (fail_if_success with_reducible show WhileStep2 _ _ _ _ _ _ _ _); (fail_if_success with_reducible show TurnPost _ _ _ _ _ _ _ _ _); (fail_if_success with_reducible show wpAny _ _ (exec (Stmt.While _ _ _ _) _) _ _ _); (fail_if_success with_reducible show wpAny _ _ (pyIter _) _ _ _); (fail_if_success with_reducible show wpAny _ _ (exec (Stmt.For _ _ _ _ _) _) _ _ _); walk1) | fail "no step"))
  k_with "call builtin:list.insert" => (((with_reducible show wpAny _ _ (call (Value.builtin _) [Value.ref _, Value.int _ _, _]) _ _ _); (refine' insert0L ?k1 ?k2 ?k3 ?k4 ?_; (case k1 => k_asm); (case k2 => k_asm); (case k3 => k_upd); (case k4 => omega)); intro _ _ _; (try k_sweep)))
  k_with "subscriptTail Name Slice ref ref" => (((with_reducible show wpAny _ _ (subscriptTail _ (PySem.Expr.Slice none none (some _) _) (Value.ref _) (Value.ref _)) _ _ _); k_dflt (refine' krv_lit ?F ?N ?l ?k ?e ?_ ?s ?t ?z; (case F => k_asm); (case N => k_asm); (case l => exact isL (by k_asm) (by k_mem)); (case k => exact IsPart.int _ _); (case e => exact rfl); (case s => with_unfolding_all rfl); (case t => kmk_pure); (case z => (rw [sizeLine_eq]; simp only [List.size_toArray]; omega))); intro _ _ _ _ yl1; (try k_lt yl1); revert yl1; intro _; (try k_sweep)))
  k_with "call builtin:str.split" => (((with_reducible show wpAny _ _ (call (Value.builtin "str.split") [Value.str _ _, Value.str _ _]) _ _ _); refine' KSpl.split1 ?k1 ?k2 ?k3 ?_ ?k4; (case k1 => k_asm); (case k2 => k_asm); (case k3 => decide); (case k4 => (rw [sizeLine_eq]; omega)); intro yD yl yh yk ye ya yF yN yl1; (try k_lt yl1); (have hz9 := split_len (by decide) ye ya); revert yD yl yh yk ye ya yF yN yl1 hz9; intro _ _ _ _ _ _ _ _ _ _))
  k_with "binaryOp Mult ref int" => (((with_reducible show wpAny _ _ (binaryOp Operator.Mult (Value.ref _) (Value.int _ _)) _ _ _); (refine' mulL ?k1 ?k2 ?k3 ?k4 ?_; (case k1 => k_asm); (case k2 => k_asm); (case k3 => k_mem); (case k4 => omega)); intro _ _ _ _ yl1; (try k_lt yl1); revert yl1; intro _; (try k_sweep)))
  k_with "binaryOp Add ref ref" => (((with_reducible show wpAny _ _ (binaryOp Operator.Add (Value.ref _) (Value.ref _)) _ _ _); (refine' addL ?k1 ?k2 ?k3 ?k4 ?k5 ?_; (case k1 => k_asm); (case k2 => k_asm); (case k3 => k_mem); (case k4 => k_mem); (case k5 => (simp only [List.length_replicate]; omega))); intro _ _ _ _ yl1; (try k_lt yl1); revert yl1; intro _; (try k_sweep)))
  k_with "subscriptTail Name Slice str ref" => (((with_reducible show wpAny _ _ (subscriptTail _ (PySem.Expr.Slice none (some _) none _) (Value.str (List.getD _ _ _) _) _) _ _ _); (refine slice_strN_ns (hsz := sz_getD (by assumption) _) (s := ⟨_, _, _, _, _⟩) (by k_asm) (by k_asm) ?_); intro _ _ _ _ _))
  k_with "subscriptTail Name Slice ref ref" => (((with_reducible show wpAny _ _ (subscriptTail _ (PySem.Expr.Slice none (some _) none _) (Value.ref _) (Value.ref _)) _ _ _); k_dflt (refine' kmk_slice_lit ?F ?N ?l ?k ?k2 ?e ?_ ?s ?t ?z; (case F => k_asm); (case N => k_asm); (case l => exact isL (by k_asm) (by k_mem)); (case k => exact IsPart.none); (case k2 => exact IsPart.int _ _); (case e => exact pick_upto (by omega)); (case s => with_unfolding_all rfl); (case t => kmk_pure); (case z => (rw [sizeLine_eq]; simp only [List.size_toArray]; omega))); intro _ _ _ _ yl1; (try k_lt yl1); revert yl1; intro _; (try k_sweep)))
  k_with "subscriptTail Name Slice ref ref" => (((with_reducible show wpAny _ _ (subscriptTail _ (PySem.Expr.Slice (some _) none none _) (Value.ref _) (Value.ref _)) _ _ _); k_dflt (refine' kmk_slice_lit ?F ?N ?l ?k ?k2 ?e ?_ ?s ?t ?z; (case F => k_asm); (case N => k_asm); (case l => exact isL (by k_asm) (by k_mem)); (case k => exact IsPart.int _ _); (case k2 => exact IsPart.none); (case e => exact pick_from (by omega)); (case s => with_unfolding_all rfl); (case t => kmk_pure); (case z => (rw [sizeLine_eq]; simp only [List.size_toArray]; omega))); intro _ _ _ _ yl1; (try k_lt yl1); revert yl1; intro _; (try k_sweep)))
  k_with "steps" => (repeat' (first | (k_unfold; (try dsimp only)) | ((fail_if_success with_reducible show LeaveR _ _ _ _ _ _ _ _); (fail_if_success with_reducible show WhileStep2 _ _ _ _ _ _ _ _); (fail_if_success with_reducible show TurnPost _ _ _ _ _ _ _ _ _); (fail_if_success with_reducible show wpAny _ _ (exec (Stmt.While _ _ _ _) _) _ _ _); (fail_if_success with_reducible show wpAny _ _ (pyIter _) _ _ _); (fail_if_success with_reducible show wpAny _ _ (eval (Expr.ListComp _ _ _ _) _) _ _ _); (fail_if_success with_reducible show Exists _); walk1) | ((fail_if_success with_reducible show LeaveR _ _ _ _ _ _ _ _); (fail_if_success with_reducible show WhileStep2 _ _ _ _ _ _ _ _); (fail_if_success with_reducible show TurnPost _ _ _ _ _ _ _ _ _); (fail_if_success with_reducible show wpAny _ _ (exec (Stmt.While _ _ _ _) _) _ _ _); (fail_if_success with_reducible show wpAny _ _ (pyIter _) _ _ _); (fail_if_success with_reducible show wpAny _ _ (eval (Expr.ListComp _ _ _ _) _) _ _ _); (fail_if_success with_reducible show Exists _); dsimp only; (fail_if_success with_reducible show LeaveR _ _ _ _ _ _ _ _); (fail_if_success with_reducible show WhileStep2 _ _ _ _ _ _ _ _); (fail_if_success with_reducible show TurnPost _ _ _ _ _ _ _ _ _); (fail_if_success with_reducible show wpAny _ _ (exec (Stmt.While _ _ _ _) _) _ _ _); (fail_if_success with_reducible show wpAny _ _ (pyIter _) _ _ _); (fail_if_success with_reducible show wpAny _ _ (eval (Expr.ListComp _ _ _ _) _) _ _ _); (fail_if_success with_reducible show Exists _); walk1) | fail "no step"))
  trivial

theorem nl_fill (w : World) : OpenLaw.prog PySem.Challenge.rw_pd0002_01 = OpenLaw.prog PySem.Challenge.rw_pd0002_01 ∧ hd.heap_1 w.params = hd.heap_1 w.params := by
  k_fill
  exact ⟨rfl, rfl⟩

noncomputable def stretch (k : Int) : Str := [Str.ofString "a", Str.ofString "/", Str.ofString "..", Str.ofString " ", Str.ofString "'", Str.ofString "\"", Str.ofString "\\", Str.ofString "#", Str.ofString "\n", Str.ofString ".", Str.ofString "b", Str.ofString "/../", Str.ofString "\t", Str.ofString "\x0d", Str.ofString "\x0c"].getD (k.fmod 15).toNat Str.empty
theorem stretch_len (k : Int) : (stretch k).length ≤ 4 := by
  have key : ∀ n : Nat, n < 16 → ([Str.ofString "a", Str.ofString "/", Str.ofString "..", Str.ofString " ", Str.ofString "'", Str.ofString "\"", Str.ofString "\\", Str.ofString "#", Str.ofString "\n", Str.ofString ".", Str.ofString "b", Str.ofString "/../", Str.ofString "\t", Str.ofString "\x0d", Str.ofString "\x0c"].getD n Str.empty).length ≤ 4 := by decide +kernel
  have h1 := Int.fmod_nonneg_of_pos k (show (0 : Int) < 15 by decide)
  have h2 := Int.fmod_lt_of_pos k (show (0 : Int) < 15 by decide)
  exact key _ (by omega)
theorem stretches_len : ∀ l : List Int, wgt (l.map stretch) ≤ 5 * l.length
  | [] => Nat.le_refl _
  | k :: r => by
    have ih := stretches_len r
    have e : wgt ((k :: r).map stretch) = (stretch k).length + 1 + wgt (r.map stretch) := by simp [wgt]
    have := stretch_len k
    rw [e, List.length_cons]; omega
theorem stretch_join (l : List Int) : (Txt.join (Str.ofString "") (l.map stretch)).length ≤ 4 * l.length := by
  show (Builtin.Str.glued (Str.ofString "") (l.map stretch)).length ≤ _
  rw [StrLaws.glued_eq_join]
  have := StrLaws.join_length_le (Str.ofString "") (l.map stretch)
  rw [emp0'] at this
  have h2 : ((l.map stretch).map (·.length)).sum ≤ 4 * l.length := by
    clear this
    induction l with
    | nil => exact Nat.le_refl _
    | cons k r ih =>
      have := stretch_len k
      simp only [List.map_cons, List.sum_cons, List.length_cons] at *
      omega
  omega
set_option maxHeartbeats 16000000 in
theorem c_line (w : World) (l : Addr) (vs : List Value) (ns : List Int) (hi : IntsAre vs ns) (hns : ns.length ≤ 63)
   (mean : ExcName → Option Value) (mg mb : Str → Option Value) (dp un : Nat) (gd : Option (List Code)) (cn : Str) (cs : Scope) (a0 : Addr) (ccd : Value) (cl : List (Str × Addr)) (outer : List Env) (A₀ : Around) (base h₀ : Heap) (L : Addr) (m : Str → Option Value) (s : Shared) (rest : Led) (Q E : Value → Shared → Prop)
   (hB : Below A₀ base outer h₀) (hF : Fr h₀ L s.heap m) (hK : (hd.heap_1 w.params).In h₀) (hN : News h₀ L s.heap rest) (hT : Top qv (looseW qv looseV) mean mg mb h₀) (hcs : cs.kind = .function) (hd : dp + 4 < recursionLimit) (hu : un + 60 < cLine)
   (hl : h₀.IsList l vs.toArray)
   (hret : ∀ (x : Str) (t : Tok) h' tk', x.length ≤ 56 → Fr h₀ L h' m → News h₀ L h' rest → Q (.str x t) { s with heap := h', toks := tk' }) :
    wpAny (model (OpenLaw.prog PySem.Challenge.rw_pd0002_01) w) (ktrTop dp un gd cn cs L a0 ccd cl outer) (call (.ref 847) [.ref l]) Q E s := by
  refine wpAny_call ?_
  refine' enterRC (led := []) (rest := rest) (binds := [(Str.ofString "script", .ref l)]) hB hF hK hN (fun _ _ => List.not_mem_nil) hT rfl rfl hcs ?k6 ?k7 ?k8 ?k9 ?kk ?kn ?_ ?c2 ?c3 ?c4
  case k6 => k_is
  case k7 => k_is
  case k8 => ktr_room
  case k9 => first | exact BindsTo.of_eq rfl | exact binds_K (hK.keeps hF.keep) rfl (by k_is) rfl rfl rfl
  case kk =>
    intro n x hx
    obtain rfl := List.mem_singleton.mp hx
    exact .inl rfl
  case kn => decide
  case c2 => exact rfl
  case c3 => exact rfl
  case c4 => exact rfl
  intro g1 L1 h1 tk1 cells F1 N1 Y1 B1 X1 T1 l1 st1
  obtain ⟨oc, rfl, hoc⟩ := CellsAre.one (n := Str.ofString "stretches") (c := L1 + 1) Y1
  replace hoc : oc.data = .cell none := hoc
  (try dsimp only)
  (try k_fold)
  have hl1 : g1.IsList l vs.toArray := hl.at fun o e => st1 _ _ e
  simp only [List.cons_append, List.nil_append] at N1
  k_steps
  rename_i TL _ hTL _ oc2 F5 N5 d5
  have hil := hi.length
  refine ListComp_DCn (h₀ := g1) (L := L1) (K := .int) (pz := fun _ => true) (d := fun k => .str (stretch k)) (m := ?mm) rfl rfl (by decide) rfl (by decide) rfl ?h (by intro _; rfl)
  case h =>
    k_steps
    all_goals (try (with_reducible show Exists _; refine ⟨_, _, _, ns.take 14, rfl, isL (by k_asm) (List.Mem.head _), IntsAre.areOf (by assumption), (by rw [sizeLine_eq]; omega), by k_asm, by k_asm, ?tests, ?elt, ?fin⟩))
    case tests =>
      intro C a v s₂ m₂ E' hC ha hv hns2 hx2 hk2
      exact wpAny_pure ⟨rfl, _, _, rfl, fun _ _ e => e⟩
    case elt =>
      rename_i F6 N6 _ _ _ _
      intro C a v s₂ m₂ E' hC ha hv hpz hns2 hx2 hk2
      obtain ⟨ta, rfl⟩ := ItemKind.int_is hv
      have F7 := F6.keeps hk2
      have N7 := N6.grown hk2
      k_steps
      · exact .str _ _
      · exact ⟨_, _, rfl, fun _ _ e => e⟩
    case fin =>
      intro D ys h' tk F N hD0 hDl hDn hC
      obtain ⟨⟨nD, hDg⟩, hDne⟩ := hDn
      have N8 := News.more F N hDg (by intro es n q; cases q) hD0
      have hys := CarriedAll.strsOf (f := stretch) hC
      have hfl : (ns.take 14).filter (fun _ => true) = ns.take 14 := List.filter_eq_self.mpr fun _ _ => rfl
      rw [hfl] at hys
      have hsl := stretches_len (ns.take 14)
      have hjl := stretch_join (ns.take 14)
      have h14 : (ns.take 14).length ≤ 14 := by rw [List.length_take]; omega
      clear N
      k_steps
      refine leaveR_ (by k_asm) News.nil ?_
      intro kF kN kD
      exact hret _ _ _ _ (by omega) kF kN
    all_goals first | exact Str.empty | exact Value.none | exact (0 : Nat)
end

/-! ## V0 -/
section
theorem strs_pair : ∀ {xs ys : List Value} {ns : List Str}, StrsAre xs ns → StrsAre ys ns → ∀ j (h1 : j < xs.length) (h2 : j < ys.length), ∃ x t u, xs[j] = .str x t ∧ ys[j] = .str x u
  | _, _, _, .nil, .nil, j, h1, _ => absurd h1 (Nat.not_lt_zero _)
  | _, _, _, .cons x t h, .cons _ u k, 0, _, _ => ⟨x, t, u, rfl, rfl⟩
  | _, _, _, .cons x t h, .cons _ u k, j + 1, h1, h2 => strs_pair h k j (Nat.lt_of_succ_lt_succ h1) (Nat.lt_of_succ_lt_succ h2)
section
variable {prog : Program} {w : World} {A : Around} {E : Value → Shared → Prop} {s : Shared} {a b : Addr} {xs ys : List Value} {ns : List Str} {Q : Value → Shared → Prop}
theorem ne_strs (ha : s.heap.IsList a xs.toArray) (hb : s.heap.IsList b ys.toArray) (hi : StrsAre xs ns) (hj : StrsAre ys ns) (hu : A.units < cLine) (h : Q (.bool false) s) :
    wpAny (model prog w) A (compareOp .NotEq (.ref a) (.ref b)) Q E s := by
  have l1 := hi.length
  have l2 := hj.length
  refine SeqAt.RcNeAt.lists (e := fun _ => true) ha hb (by simp only [List.size_toArray]; omega) hu (fun j h1 h2 => ?_) prog w E Q ?_
  · obtain ⟨x, t, u, e1, e2⟩ := strs_pair hi hj j (by simpa using h1) (by simpa using h2)
    simp only [List.getElem_toArray, e1, e2]
    have q := PySem.MeetsSeq.EqGives.at (eqGives_str x x t u) A.in1 s
    simpa using q
  · have e : (!(List.range xs.toArray.size).all fun _ => true) = false := by simp
    rw [e]
    exact h
end
theorem back_get {g g' : Heap} (t : KtsTurn [] g g') {b : Addr} {o : Obj} (e : g.get? b = some o) : g'.get? b = some o := t.other b o e (fun h => nomatch h)
theorem back_Fr {g g' h : Heap} {L : Addr} {m : Str → Option Value} (t : KtsTurn [] g g') (F : Fr g' L h m) : Fr g L h m :=
  ⟨F.ns, fun b o e => F.keep b o (back_get t e), by have := F.above; rw [t.size] at this; exact this⟩
theorem back_News {g g' h : Heap} {L : Addr} {l : Led} (t : KtsTurn [] g g') (N : News g' L h l) : News g L h l := fun p hp =>
  ⟨(N p hp).1, (N p hp).2.1, by
    cases q : g.get? p.1 with
    | none => rfl
    | some o => have := (N p hp).2.2; rw [back_get t q] at this; cases this⟩
section
variable {prog : Program} {w : World} {A : Around} {E : Value → Shared → Prop} {s : Shared} {Q : Value → Shared → Prop}
theorem ne_same {x : Str} {t u : Tok} (h : Q (.bool false) s) : wpAny (model prog w) A (compareOp .NotEq (.str x t) (.str x u)) Q E s := by
  refine PyProof.Rows.ne_str ?_
  have e : (x != x) = false := by simp
  rw [e]
  exact h
end
end

/-! ## V1 -/
section
theorem offV1 : True := by
  (w_top off)
  k_with_none
  k_with "steps" => (repeat' (first | (k_unfold; (try dsimp only)) | ((with_reducible show wpAny _ _ (exec (Stmt.If _ _ _ _) _) _ _ _); k_fold) | ((fail_if_success with_reducible show LeaveR _ _ _ _ _ _ _ _); (fail_if_success with_reducible show TurnPost _ _ _ _ _ _ _ _ _); (fail_if_success with_reducible show wpAny _ _ (pyIter _) _ _ _); (fail_if_success with_reducible show wpAny _ _ (exec (Stmt.While _ _ _ _) _) _ _ _); walk1) | ((fail_if_success with_reducible show LeaveR _ _ _ _ _ _ _ _); (fail_if_success with_reducible show TurnPost _ _ _ _ _ _ _ _ _); (fail_if_success with_reducible show wpAny _ _ (pyIter _) _ _ _); (fail_if_success with_reducible show wpAny _ _ (exec (Stmt.While _ _ _ _) _) _ _ _); dsimp only; walk1) | fail "no step"))
  k_with "call builtin:issubclass" => ((k_here; (with_reducible show wpAny _ _ (call (Value.builtin "issubclass") [Value.type "str", Value.ref _]) _ _ _); refine issub_call (News.get (by k_asm) (by k_mem)) ?_))
  k_with "call ref" => (((with_reducible show wpAny _ _ (call (Value.ref 807) _) _ _ _); k_dflt ((refine' DoesP.use (c_fspath _ _ _) ?k1 ?k2 ?k3 ?k4 ?k5 ?kK ?kd ?ku ?_; (case k1 => k_asm); (case k2 => k_asm); (case k3 => k_asm); (case k4 => k_asm); (case k5 => k_asm); (case kK => first | exact rfl | assumption); (case kd => ktr_room); (case ku => ktr_units); k_whole; intro _ _ _ P9 _ _; (first | subst P9 | (obtain ⟨_, P9⟩ := P9; subst P9)); (try dsimp only); (try k_fold)))))
  k_with "call ref" => (((with_reducible show wpAny _ _ (call (Value.ref 821) _) _ _ _); k_dflt ((refine' DoesP.use (c_get_sep _ _ _) ?k1 ?k2 ?k3 ?k4 ?k5 ?kK ?kd ?ku ?_; (case k1 => k_asm); (case k2 => k_asm); (case k3 => k_asm); (case k4 => k_asm); (case k5 => k_asm); (case kK => first | exact rfl | assumption); (case kd => ktr_room); (case ku => ktr_units); k_whole; intro _ _ _ P9 _ _; (first | subst P9 | (obtain ⟨_, P9⟩ := P9; subst P9)); (try dsimp only); (try k_fold)))))
  k_with "call builtin:str.find" => (((with_reducible show wpAny _ _ (call (Value.builtin "str.find") [Value.str _ _, Value.str _ _, Value.int _ _, Value.int (((Str.length _ : Nat)) : Int) _]) _ _ _); refine find4 ?_))
  k_with "call builtin:str.split" => (((with_reducible show wpAny _ _ (call (Value.builtin "str.split") [Value.str _ _, Value.str _ _]) _ _ _); refine' KSpl.split1 ?k1 ?k2 ?k3 ?_ ?k4; (case k1 => k_asm); (case k2 => k_asm); (case k3 => decide); (case k4 => (rw [sizeLine_eq]; omega)); intro _ _ _ _ _ _ _ _ yl1; (try k_lt yl1); revert yl1; intro _))
  k_with "truthy ref" => ((with_unfolding_all (refine' truthyL ?k1 ?k2 ?k3 ?_; (case k1 => k_asm); (case k2 => k_mem); (case k3 => omega))))
  k_with "call builtin:list.pop" => ((refine' popL ?k1 ?k2 ?k3 ?k4 ?k5 ?_; (case k1 => k_asm); (case k2 => k_asm); (case k3 => k_upd); (case k4 => assumption); (case k5 => omega); intro _ _ _ _; (try k_sweep)))
  k_with "call builtin:list.append" => ((refine' appendL ?k1 ?k2 ?k3 ?k4 ?_; (case k1 => k_asm); (case k2 => k_asm); (case k3 => k_upd); (case k4 => omega); intro _ _ _; (try k_sweep)))
  k_with "subscriptTail Name UnaryOp ref int" => (((with_reducible show wpAny _ _ (subscriptTail _ _ (Value.ref _) (Value.int _ _)) _ _ _); (with_unfolding_all refine' lastL ?k1 ?k2 ?k3 ?k4 ?k5 ?_; (case k1 => k_asm); (case k2 => k_mem); (case k3 => assumption); (case k4 => assumption); (case k5 => omega)); intro _))
  k_with "call builtin:str.join" => (((with_reducible show wpAny _ _ (call (Value.builtin "str.join") [Value.str _ _, Value.ref _]) _ _ _); refine' joinL ?k1 ?k2 ?k3 ?k4 ?k5 ?_; (case k1 => k_asm); (case k2 => k_mem); (case k3 => assumption); (case k4 => decide); (case k5 => (rw [wgt_sum]; omega)); intro _ _))
  k_with "steps" => (repeat' (first | (k_unfold; (try dsimp only)) | ((with_reducible show wpAny _ _ (exec (Stmt.If _ _ _ _) _) _ _ _); k_fold) | ((fail_if_success with_reducible show LeaveR _ _ _ _ _ _ _ _); (fail_if_success with_reducible show WhileStep2 _ _ _ _ _ _ _ _); (fail_if_success with_reducible show TurnPost _ _ _ _ _ _ _ _ _); (fail_if_success with_reducible show wpAny _ _ (exec (Stmt.While _ _ _ _) _) _ _ _);  (fail_if_success with_reducible show wpAny _ _ (call (Value.ref 847) _) _ _ _); (fail_if_success with_reducible show wpAny _ _ (call (Value.ref 880) _) _ _ _); (fail_if_success with_reducible show wpAny _ _ (call (Value.ref 873) _) _ _ _); (fail_if_success with_reducible show wpAny _ _ (compareOp CmpOp.NotEq _ _) _ _ _); walk1) | ((fail_if_success with_reducible show LeaveR _ _ _ _ _ _ _ _); (fail_if_success with_reducible show WhileStep2 _ _ _ _ _ _ _ _); (fail_if_success with_reducible show TurnPost _ _ _ _ _ _ _ _ _); (fail_if_success with_reducible show wpAny _ _ (exec (Stmt.While _ _ _ _) _) _ _ _);  (fail_if_success with_reducible show wpAny _ _ (call (Value.ref 847) _) _ _ _); (fail_if_success with_reducible show wpAny _ _ (call (Value.ref 880) _) _ _ _); (fail_if_success with_reducible show wpAny _ _ (call (Value.ref 873) _) _ _ _); (fail_if_success with_reducible show wpAny _ _ (compareOp CmpOp.NotEq _ _) _ _ _); dsimp only; (fail_if_success with_reducible show LeaveR _ _ _ _ _ _ _ _); (fail_if_success with_reducible show WhileStep2 _ _ _ _ _ _ _ _); (fail_if_success with_reducible show TurnPost _ _ _ _ _ _ _ _ _); (fail_if_success with_reducible show wpAny _ _ (exec (Stmt.While _ _ _ _) _) _ _ _);  (fail_if_success with_reducible show wpAny _ _ (call (Value.ref 847) _) _ _ _); (fail_if_success with_reducible show wpAny _ _ (call (Value.ref 880) _) _ _ _); (fail_if_success with_reducible show wpAny _ _ (call (Value.ref 873) _) _ _ _); (fail_if_success with_reducible show wpAny _ _ (compareOp CmpOp.NotEq _ _) _ _ _); walk1) | fail "no step"))
  trivial

set_option maxHeartbeats 16000000 in
theorem law_holds : PySem.Challenge.rw_pd0002_01.Holds := hd (by
  k_go0
  (all_goals try k_fold)
  k_steps
  rename_i w s0 s1 mg mb G Y fa o pm doc kV ho hg KX X V GL T B TE TW w9 w8 M cdA w6 hcd ns hs hlay0 hL1 hr1 hl2 w4 w3 lA vs w0 hLst ra w1 r0 hI hrr hlen hct K0 hD h1 F N0
  refine' c_line w lA vs ns hI (by omega) _ _ _ _ _ _ _ _ _ _ _ _ _ _ _ _ _ _ _ _ _ K0 F KX N0 T rfl ?hd ?hu hLst ?ret
  case hd => ktr_room
  case hu => ktr_units
  case ret =>
    intro b t h2 tk2 hx F2 N2
    obtain ⟨rfalse, hrfalse⟩ := run_ends (cm := cmS false) (b := b) 1000 [] (g0 0 (some spS)) (by simp only [msr, g0]; split <;> omega) (Nat.zero_le _)
    obtain ⟨rtrue, hrtrue⟩ := run_ends (cm := cmS true) (b := b) 1000 [] (g0 0 (some spS)) (by simp only [msr, g0]; split <;> omega) (Nat.zero_le _)
    k_steps
    all_goals (refine' (c_told w b t false hx rfalse 1000 hrfalse (by decide)) _ mg mb _ _ _ _ _ _ _ _ _ callerA s1.heap s1.heap s1.heap.objs.size _ _ _ _ _ K0 (by k_asm) KX KX (by first | exact (show News _ _ _ ([] ++ _) by (rw [List.nil_append]; k_asm)) | k_asm) (fun _ _ => List.not_mem_nil) T T ktsDicts_nil rfl (by ktr_room) (by ktr_units) ?_)
    all_goals (intro v3 led3 h3 tk3 g3 P3 U3 F3 N3 A3 B3 X3 T3; (replace F3 := back_Fr U3 F3); (replace N3 := back_News U3 N3); (replace A3 := allNe2_of A3); (clear U3 B3 X3 T3))
    all_goals (rcases P3 with ⟨xs3, S3, vals3, n3, e3, hv3, rfl, rfl⟩ | ⟨m3, t3, e3, rfl, rfl⟩ <;> (simp only [List.cons_append, List.nil_append] at N3) <;> (simp only [AllNe2, AllNe, and_true] at A3) <;> k_steps)
    all_goals (refine' Does.use0 (c_due w b t false hx rfalse 1000 hrfalse) K0 (by k_asm) KX (by k_asm) T rfl (by ktr_room) (by ktr_units) ?_)
    all_goals (intro v4 led4 h4 tk4 P4 F4 N4 A4; rcases P4 with ⟨xs4, S4, vals4, n4, e4, hv4, e41, e42⟩ | ⟨m4, t4, e4, e41, e42⟩ <;> subst e41 <;> subst e42 <;> (first | (exfalso; rw [e3] at e4; cases e4; done) | (rw [e3] at e4; cases e4)))
    all_goals ((simp only [List.cons_append, List.nil_append] at N4); (simp only [AllNe2, AllNe, and_true] at A4); (clear e3 hrfalse); k_steps)
    all_goals first
      | refine ne_strs (isL (by k_asm) (by k_mem)) (isL (by k_asm) (by k_mem)) (by assumption) (by assumption) (by first | units_room | exact Nat.le_of_ble_eq_true rfl) ?_
      | refine ne_same ?_
    all_goals k_steps
    all_goals (refine' (c_told w b t true hx rtrue 1000 hrtrue (by decide)) _ mg mb _ _ _ _ _ _ _ _ _ callerA s1.heap s1.heap s1.heap.objs.size _ _ _ _ _ K0 (by k_asm) KX KX (by first | exact (show News _ _ _ ([] ++ _) by (rw [List.nil_append]; k_asm)) | k_asm) (fun _ _ => List.not_mem_nil) T T ktsDicts_nil rfl (by ktr_room) (by ktr_units) ?_)
    all_goals (intro v3 led3 h3 tk3 g3 P3 U3 F3 N3 A3 B3 X3 T3; (replace F3 := back_Fr U3 F3); (replace N3 := back_News U3 N3); (replace A3 := allNe2_of A3); (clear U3 B3 X3 T3))
    all_goals (rcases P3 with ⟨xs3, S3, vals3, n3, e3, hv3, rfl, rfl⟩ | ⟨m3, t3, e3, rfl, rfl⟩ <;> (simp only [List.cons_append, List.nil_append] at N3) <;> (simp only [AllNe2, AllNe, and_true] at A3) <;> k_steps)
    all_goals (refine' Does.use0 (c_due w b t true hx rtrue 1000 hrtrue) K0 (by k_asm) KX (by k_asm) T rfl (by ktr_room) (by ktr_units) ?_)
    all_goals (intro v4 led4 h4 tk4 P4 F4 N4 A4; rcases P4 with ⟨xs4, S4, vals4, n4, e4, hv4, e41, e42⟩ | ⟨m4, t4, e4, e41, e42⟩ <;> subst e41 <;> subst e42 <;> (first | (exfalso; rw [e3] at e4; cases e4; done) | (rw [e3] at e4; cases e4)))
    all_goals ((simp only [List.cons_append, List.nil_append] at N4); (simp only [AllNe2, AllNe, and_true] at A4); (clear e3 hrtrue); k_steps)
    all_goals first
      | refine ne_strs (isL (by k_asm) (by k_mem)) (isL (by k_asm) (by k_mem)) (by assumption) (by assumption) (by first | units_room | exact Nat.le_of_ble_eq_true rfl) ?_
      | refine ne_same ?_
    all_goals k_steps
    all_goals dsimp only
    all_goals wrow_close
  )
end
end Mine
end

theorem PySem.Challenge.cw_pd0002_01_holds : PySem.Challenge.rw_pd0002_01.Holds :=
  Mine.law_holds
