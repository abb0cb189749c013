import PyProof.Rows.All
import Wide.All
import OpenK.AllK
import Wide.FinOn
import PySem.Challenge.RW_re0168_01
set_option linter.all false
section partHT
open PySem PySem.W PyProof.Rows
set_option Elab.async false
namespace Mine
noncomputable def topRunT (tb : String → Option Builtin) (p : Program) (w : World) (n₀ : Nat) (ann : Option Value) : Nat → SharedT → Thread → Option SharedT
  | 0, _, _ => none
  | n + 1, s, t => match through t with
    | true => some s
    | false => match stepOk n₀ ann t with
      | false => none
      | true => match stepT (denote tb) p w s t with
        | some (s', t') => topRunT tb p w n₀ ann n s' t'
        | none => none
noncomputable def impEndsT (tb : String → Option Builtin) (p : Program) (w : World) : Nat → SharedT → Thread → Option SharedT
  | 0, _, _ => none
  | n + 1, s, t => match t.atExitBegin with
    | some [] => some s
    | some (_ :: _) => none
    | none => match stepT (denote tb) p w s t with
      | some (s', t') => impEndsT tb p w n s' t'
      | none => none
theorem topRun_of {tb : String → Option Builtin} {p : Program} {w : World} {n₀ : Nat} {ann : Option Value} : ∀ {n : Nat} {s s' : SharedT} {t : Thread}, topRunT tb p w n₀ ann n s t = some s' → topRun tb p w n₀ ann n s.abs t = some s'.abs
  | 0, _, _, _, h => by cases h
  | n + 1, s, s', t, h => by
    unfold topRunT at h
    unfold topRun
    cases he : through t with
    | true => rw [he] at h; cases h; rfl
    | false =>
      rw [he] at h
      cases hk : stepOk n₀ ann t with
      | false => rw [hk] at h; cases h
      | true =>
        rw [hk] at h
        cases hs : stepT (denote tb) p w s t with
        | none => rw [hs] at h; cases h
        | some r => obtain ⟨s₂, t₂⟩ := r; rw [hs] at h; dsimp only; rw [stepT_spec hs]; exact topRun_of h
theorem impEnds_of {tb : String → Option Builtin} {p : Program} {w : World} : ∀ {n : Nat} {s s' : SharedT} {t : Thread}, impEndsT tb p w n s t = some s' → importEnds tb p w n s.abs t = some s'.abs
  | 0, _, _, _, h => by cases h
  | n + 1, s, s', t, h => by
    unfold impEndsT at h
    unfold importEnds
    cases he : t.atExitBegin with
    | some l => rw [he] at h; cases l with
      | nil => cases h; rfl
      | cons => cases h
    | none =>
      rw [he] at h
      cases hs : stepT (denote tb) p w s t with
      | none => rw [hs] at h; cases h
      | some r => obtain ⟨s₂, t₂⟩ := r; rw [hs] at h; dsimp only; rw [stepT_spec hs]; exact impEnds_of h
noncomputable def buildT? : List Obj → Nat → BT → Option BT
  | [], _, T => some T
  | o :: l, n, T => match ((T.ins n o).get n).isSome with
    | true => buildT? l (n + 1) (T.ins n o)
    | false => none
theorem buildT_spec (life : Life) : ∀ (l : List Obj) (n : Nat) (T T' : BT), buildT? l n T = some T' → (absHeap T' (n + l.length) life).objs.toList = (absHeap T n life).objs.toList ++ l
  | [], n, T, T', h => by cases h; simp
  | o :: l, n, T, T', h => by
    unfold buildT? at h
    cases e : ((T.ins n o).get n).isSome with
    | false => rw [e] at h; cases h
    | true =>
      rw [e] at h
      have := buildT_spec life l (n + 1) (T.ins n o) T' h
      rw [absHeap_ins e] at this
      rw [List.length_cons, show n + (l.length + 1) = n + 1 + l.length by omega, this]
      show ((absHeap T n life).objs.push o).toList ++ l = _
      simp
noncomputable def toT (s : Shared) : Option SharedT := match buildT? s.heap.objs.toList 0 .nil with
  | some T => some ⟨T, s.heap.objs.toList.length, s.heap.life, s.gens, s.drawn, s.toks, s.os⟩
  | none => none
theorem toT_abs {s : Shared} {t : SharedT} (h : toT s = some t) : t.abs = s := by
  obtain ⟨⟨objs, life⟩, g, d, tk, os⟩ := s
  unfold toT at h
  dsimp only at h
  cases e : buildT? objs.toList 0 .nil with
  | none => rw [e] at h; cases h
  | some T =>
    rw [e] at h
    cases h
    have := buildT_spec life objs.toList 0 .nil T e
    unfold SharedT.abs
    have q : absHeap T objs.toList.length life = ⟨objs, life⟩ := by
      have e1 : (absHeap T objs.toList.length life).objs = objs := by
        apply Array.toList_inj.mp
        rw [Nat.zero_add] at this
        rw [this]
        show ((BT.list .nil 0).toArray).toList ++ _ = _
        simp [BT.list]
      show Heap.mk _ _ = _
      exact congrArg (Heap.mk · life) e1
    rw [q]
noncomputable def headT {β : Type} (tb : String → Option Builtin) (p : Program) (w w' : World) (N : Nat) (g : Shared → β) : Option β :=
  match impEndsT tb (opening p) w N ⟨.nil, 0, ({} : Heap).life, (start (opening p)).1.gens, (start (opening p)).1.drawn, (start (opening p)).1.toks, (start (opening p)).1.os⟩ (start (opening p)).2 with
  | none => none
  | some t => match fenceModules? p t.abs with
    | none => none
    | some s₀ => match s₀.heap.isNs mainGlobals && s₀.gens.size == 0 with
      | false => none
      | true => match toT s₀ with
        | none => none
        | some t₀ => match topRunT tb p w' s₀.heap.objs.size (s₀.heap.nsMap mainGlobals "__annotations__") N t₀ (topStub p) with
          | none => none
          | some t₁ => match staticsOk (importedModules p.main.body) s₀.heap t₁.abs.heap && namesBound p t₁.abs.heap && gensDone t₁.abs && laidKept s₀.heap t₁.abs.heap with
            | true => some (g t₁.abs)
            | false => none
theorem start_abs (p : Program) : (start p).1 = SharedT.abs ⟨.nil, 0, ({} : Heap).life, (start p).1.gens, (start p).1.drawn, (start p).1.toks, (start p).1.os⟩ := by
  show _ = Shared.mk (absHeap .nil 0 _) _ _ _ _
  have : absHeap .nil 0 ({} : Heap).life = {} := by unfold absHeap BT.list; rfl
  rw [this]; rfl
theorem headT_of {β : Type} {tb : String → Option Builtin} {p : Program} {w w' : World} {N : Nat} {g : Shared → β} {r : β} (h : headT tb p w w' N g = some r) : (fencedOpening tb p w N).bind (fun s₀ => (topFrom tb p w' N s₀).map g) = some r := by
  unfold headT at h
  split at h
  · cases h
  · rename_i t e1
    have e2 := impEnds_of e1
    rw [← start_abs] at e2
    unfold fencedOpening
    rw [e2]
    simp only [Option.bind_some]
    split at h
    · cases h
    · rename_i s₀ e3
      rw [e3]
      simp only [Option.bind_some]
      unfold topFrom
      split at h
      · cases h
      · rename_i e4
        rw [e4]
        dsimp only
        split at h
        · cases h
        · rename_i t₀ e5
          split at h
          · cases h
          · rename_i t₁ e6
            have e7 := topRun_of e6
            rw [toT_abs e5] at e7
            rw [e7]
            simp only [Option.bind_some]
            split at h
            · rename_i e8; rw [e8]; exact h
            · cases h
theorem left_T {p q : Program} {loose : List Str} {Xt : Shared → Bool} {α : Type} {Yf : Shared → α} {Ya : World → α} {N : Nat} {g0 : Bool} (row : String)
    (h : ∀ (w : World) (b : Bool), headT treeTable p w (w.withFollow row b) N (fun s => (openSeen q loose (importedModules p.main.body) Xt g0 s, Yf s)) = some (openGood q loose, Ya (w.withFollow row b))) :
    LeftO p q loose Xt Yf Ya N g0 := fun w => by
  have e := World.withFollow_self w row
  have h1 := headT_of (h w (w.params.followText row))
  rw [e] at h1
  unfold openEnds
  cases hf : fencedOpening treeTable p w N with
  | none => rw [hf] at h1; cases h1
  | some s => rw [hf] at h1; exact h1
end Mine
end partHT
section partHK
open PySem PySem.W PyProof.Rows
set_option Elab.async false
set_option maxRecDepth 100000
set_option maxHeartbeats 0
namespace Mine
local macro_rules | `(tactic| o_head $_) => `(tactic| assumption)
theorem mkK (h : OpenRow.Holds PySem.Challenge.rw_re0168_01.row) : OpenRow.Holds PySem.Challenge.rw_re0168_01.row := by
  k_head
end Mine
end partHK
section partHd
open PySem PySem.W PyProof.Rows
set_option Elab.async false
set_option maxRecDepth 100000
set_option maxHeartbeats 0
namespace Mine
noncomputable def vw : Program := view PySem.Challenge.pw_re0168_01 [0, 75]
noncomputable def loose : List Str := [Str.ofString "_wall", Str.ofString "ENDMARKER", Str.ofString "LPAR", Str.ofString "RPAR", Str.ofString "LSQB", Str.ofString "RSQB", Str.ofString "COLON", Str.ofString "COMMA", Str.ofString "SEMI", Str.ofString "PLUS", Str.ofString "MINUS", Str.ofString "STAR", Str.ofString "SLASH", Str.ofString "VBAR", Str.ofString "AMPER", Str.ofString "LESS", Str.ofString "GREATER", Str.ofString "EQUAL", Str.ofString "DOT", Str.ofString "PERCENT", Str.ofString "LBRACE", Str.ofString "RBRACE", Str.ofString "EQEQUAL", Str.ofString "NOTEQUAL", Str.ofString "LESSEQUAL", Str.ofString "GREATEREQUAL", Str.ofString "TILDE", Str.ofString "CIRCUMFLEX", Str.ofString "LEFTSHIFT", Str.ofString "RIGHTSHIFT", Str.ofString "DOUBLESTAR", Str.ofString "PLUSEQUAL", Str.ofString "MINEQUAL", Str.ofString "STAREQUAL", Str.ofString "SLASHEQUAL", Str.ofString "PERCENTEQUAL", Str.ofString "AMPEREQUAL", Str.ofString "VBAREQUAL", Str.ofString "CIRCUMFLEXEQUAL", Str.ofString "LEFTSHIFTEQUAL", Str.ofString "RIGHTSHIFTEQUAL", Str.ofString "DOUBLESTAREQUAL", Str.ofString "DOUBLESLASH", Str.ofString "DOUBLESLASHEQUAL", Str.ofString "AT", Str.ofString "ATEQUAL", Str.ofString "RARROW", Str.ofString "ELLIPSIS", Str.ofString "COLONEQUAL", Str.ofString "EXCLAMATION", Str.ofString "NT_OFFSET", Str.ofString "EXACT_TOKEN_TYPES", Str.ofString "ISTERMINAL", Str.ofString "ISNONTERMINAL", Str.ofString "ISEOF", Str.ofString "_netrclex", Str.ofString "_name_disallowed_re", Str.ofString "_value_disallowed_re", Str.ofString "Headers", Str.ofString "_law_cells", Str.ofString "_law_mask", Str.ofString "_law_drawn", Str.ofString "_law_written", Str.ofString "_law_line", Str.ofString "_law_symbol", Str.ofString "_law_half", Str.ofString "_law_rest", Str.ofString "_law_clash", Str.ofString "_law_setting", Str.ofString "_law_branch"]
noncomputable def asK : List Addr := [2, 3, 32, 34, 35, 37, 38, 39, 42, 44, 45, 47, 48, 49, 51, 52, 54, 55, 56, 58, 59, 61, 62, 70, 72, 73, 75, 76, 77, 79, 80, 82, 83, 84, 86, 87, 89, 90, 91, 93, 94, 96, 97, 98, 99, 100, 101, 102, 108, 109, 113, 114, 122, 123, 125, 126, 128, 129, 130, 132, 133, 135, 136, 137, 139, 140, 142, 143, 144, 146, 147, 149, 150, 151, 154, 155, 156, 158, 159, 161, 162, 163, 165, 166, 168, 169, 170, 172, 173, 175, 176, 177, 178, 180, 181, 183, 184, 185, 188, 189, 190, 193, 194, 195, 197, 198, 200, 201, 202, 204, 205, 207, 208, 209, 212, 213, 214, 216, 217, 219, 220, 221, 223, 224, 226, 227, 228, 230, 231, 233, 234, 235, 236, 237, 238, 239, 242, 245, 246, 247, 249, 250, 252, 253, 254, 257, 258, 259, 262, 263, 264, 266, 267, 269, 270, 271, 273, 274, 276, 277, 278, 280, 281, 283, 284, 285, 287, 288, 290, 291, 292, 294, 295, 297, 298, 299, 301, 302, 304, 305, 306, 308, 309, 311, 312, 313, 316, 317]
theorem asK_ok : ∀ P, asK = (Mine.mkK.heap_1 P).map (·.1) := fun _ => by kernel_rfl
theorem run_f (w : World) : headT treeTable PySem.Challenge.rw_re0168_01.prog w (w.withFollow "special-get-raises" false) 6406 (fun s => (openSeen vw loose (importedModules PySem.Challenge.rw_re0168_01.prog.main.body) (fun s => xlAt vw [] s && recOk [] s) true s, Hook.obs (kmHook Mine.mkK.heap_1 asK asK_ok [265]) s)) = some (openGood vw loose, Hook.val (kmHook Mine.mkK.heap_1 asK asK_ok [265]) (w.withFollow "special-get-raises" false)) := by
  kernel_rfl
theorem run_t (w : World) : headT treeTable PySem.Challenge.rw_re0168_01.prog w (w.withFollow "special-get-raises" true) 6406 (fun s => (openSeen vw loose (importedModules PySem.Challenge.rw_re0168_01.prog.main.body) (fun s => xlAt vw [] s && recOk [] s) true s, Hook.obs (kmHook Mine.mkK.heap_1 asK asK_ok [265]) s)) = some (openGood vw loose, Hook.val (kmHook Mine.mkK.heap_1 asK asK_ok [265]) (w.withFollow "special-get-raises" true)) := by
  kernel_rfl

theorem ws : OpenLaw.wellSaid PySem.Challenge.rw_re0168_01 = true := by
  unfold OpenLaw.wellSaid OpenRow.wellSaid OpenRow.partSaid looksOpen
  repeat' with_reducible refine look_both ?_ ?_
  all_goals first
    | ((with_reducible refine (congrFun PySem.W.Fast.te8377067652309620493 _).trans ?_); kernel_rfl)
    | ((with_reducible refine (congrFun (congrFun PySem.W.Fast.te8326940854005059898 _) _).trans ?_); kernel_rfl)
    | ((with_reducible refine (congrFun (congrFun (congrFun PySem.W.Fast.te17119622794617984870 _) _) _).trans ?_); kernel_rfl)
    | ((with_reducible refine (congrFun PySem.W.Fast.te11788848310118352699 _).trans ?_); kernel_rfl)
    | (rw [PySem.W.Fast.named_eq]; kernel_rfl)
    | kernel_rfl
end Mine
end partHd
local macro_rules | `(tactic| walk_at $s:str) => `(tactic| k_extra $s)
local macro_rules | `(tactic| k_mem) => `(tactic| k_extra "k_mem")
local macro_rules | `(tactic| k_all) => `(tactic| k_extra "k_all")
local macro_rules | `(tactic| k_ne) => `(tactic| k_extra "k_ne")
local macro_rules | `(tactic| k_upd) => `(tactic| k_extra "k_upd")
local macro_rules | `(tactic| k_in) => `(tactic| k_extra "k_in")
local macro_rules | `(tactic| ktr_unf) => `(tactic| k_extra "ktr_unf")
local macro_rules | `(tactic| ktr_units) => `(tactic| k_extra "ktr_units")
local macro_rules | `(tactic| ktr_room) => `(tactic| k_extra "ktr_room")
section partMB
open PySem PySem.W PyProof.Rows PySem.Calls
set_option Elab.async false
set_option maxRecDepth 100000
set_option maxHeartbeats 4000000
namespace Mine
theorem reset_MB : True := by
  w_top off
  k_with_none
  trivial
noncomputable def Held (P R : Prop) : Prop := P → R
theorem held {P : Prop} (h : ∀ R, Held P R → R) : P := h P fun p => p
theorem Held.go {P R : Prop} (h : Held P R) (p : P) : R := h p
theorem sub_nil {α : Type} {R : List α} : ∀ p ∈ ([] : List α), p ∈ R := fun _ h => absurd h List.not_mem_nil
theorem sub_refl {α : Type} {R : List α} : ∀ p ∈ R, p ∈ R := fun _ h => h
theorem sub_cons {α : Type} {x : α} {l R : List α} (h : x ∈ R) (g : ∀ p ∈ l, p ∈ R) : ∀ p ∈ x :: l, p ∈ R := fun p hp => by
  cases hp with
  | head => exact h
  | tail _ hp => exact g p hp
theorem sub_tail {α : Type} {x : α} {l R : List α} (g : ∀ p ∈ l, p ∈ R) : ∀ p ∈ l, p ∈ x :: R := fun p hp => .tail _ (g p hp)
/-- what a call leaves: the frame and the ledger as they were -/
noncomputable abbrev Back (h₀ : Heap) (L : Addr) (m : Str → Option Value) (news : List (Addr × Obj)) (s : Shared) (P : Value → Prop) (Q : Value → Shared → Prop) : Prop :=
  ∀ r h' tk', P r → Fr h₀ L h' m → News h₀ L h' news → Q r { s with heap := h', toks := tk' }
noncomputable def PureCt (w : World) (d u : Nat) (f : Addr) (args : List Value) (kw : List (Str × Value)) (news : List (Addr × Obj)) (P : Value → Prop) : Prop :=
  ∀ (loose : List Str) (mean : ExcName → Option Value) (mg mb : Str → Option Value) (dp un : Nat) (gd : Option (List Code)) (cn : Str) (cs : Scope) (a : Addr) (ccd : Value) (cl : List (Str × Addr)) (outer : List Env) (A₀ : Around) (base h₀ : Heap) (L : Addr) (m : Str → Option Value) (s : Shared) (Q E : Value → Shared → Prop),
    Below A₀ base outer h₀ → Fr h₀ L s.heap m → (Mine.mkK.heap_1 w.params).In h₀ → News h₀ L s.heap news → Top topProg loose mean mg mb h₀ → cs.kind = .function →
    dp < d → un < u → Back h₀ L m news s P Q →
    wpAny (model PySem.Challenge.rw_re0168_01.prog w) (ktrTop dp un gd cn cs L a ccd cl outer) (PySem.call (.ref f) args kw) Q E s
theorem PureCt.use {w : World} {d u : Nat} {f : Addr} {args : List Value} {kw : List (Str × Value)} {news : List (Addr × Obj)} {P : Value → Prop} (C : PureCt w d u f args kw news P)
    {loose : List Str} {mean : ExcName → Option Value} {mg mb : Str → Option Value} {dp un : Nat} {gd : Option (List Code)} {cn : Str} {cs : Scope} {a : Addr} {ccd : Value} {cl : List (Str × Addr)} {outer : List Env} {A₀ : Around} {base h₀ : Heap} {L : Addr} {m : Str → Option Value} {s : Shared} {Q E : Value → Shared → Prop}
    (B : Below A₀ base outer h₀) (F : Fr h₀ L s.heap m) (X : (Mine.mkK.heap_1 w.params).In h₀) (N : News h₀ L s.heap news) (T : Top topProg loose mean mg mb h₀) (hk : cs.kind = .function) (hd : dp < d) (hu : un < u)
    (ret : ∀ r h' tk', P r → Fr h₀ L h' m → News h₀ L h' news → Q r { s with heap := h', toks := tk' }) :
    wpAny (model PySem.Challenge.rw_re0168_01.prog w) (ktrTop dp un gd cn cs L a ccd cl outer) (PySem.call (.ref f) args kw) Q E s :=
  C loose mean mg mb dp un gd cn cs a ccd cl outer A₀ base h₀ L m s Q E B F X N T hk hd hu ret
theorem PureCt.useV {w : World} {d u : Nat} {fn : Addr} {args : List Value} {kw : List (Str × Value)} {news : List (Addr × Obj)} {v : Value} (C : PureCt w d u fn args kw news (fun r => r = v))
    {loose : List Str} {mean : ExcName → Option Value} {mg mb : Str → Option Value} {dp un : Nat} {gd : Option (List Code)} {cn : Str} {cs : Scope} {a : Addr} {ccd : Value} {cl : List (Str × Addr)} {outer : List Env} {A₀ : Around} {base h₀ : Heap} {L : Addr} {m : Str → Option Value} {s : Shared} {Q E : Value → Shared → Prop}
    (B : Below A₀ base outer h₀) (F : Fr h₀ L s.heap m) (X : (Mine.mkK.heap_1 w.params).In h₀) (N : News h₀ L s.heap news) (T : Top topProg loose mean mg mb h₀) (hk : cs.kind = .function) (hd : dp < d) (hu : un < u)
    (ret : ∀ h' tk', Fr h₀ L h' m → News h₀ L h' news → Q v { s with heap := h', toks := tk' }) :
    wpAny (model PySem.Challenge.rw_re0168_01.prog w) (ktrTop dp un gd cn cs L a ccd cl outer) (PySem.call (.ref fn) args kw) Q E s :=
  C.use B F X N T hk hd hu fun _ h' tk' hP F' N' => by subst hP; exact ret h' tk' F' N'
theorem PureCt.useE {w : World} {d u : Nat} {fn : Addr} {args : List Value} {kw : List (Str × Value)} {news : List (Addr × Obj)} {α : Type} {f : α → Value} (C : PureCt w d u fn args kw news (fun r => ∃ x, r = f x))
    {loose : List Str} {mean : ExcName → Option Value} {mg mb : Str → Option Value} {dp un : Nat} {gd : Option (List Code)} {cn : Str} {cs : Scope} {a : Addr} {ccd : Value} {cl : List (Str × Addr)} {outer : List Env} {A₀ : Around} {base h₀ : Heap} {L : Addr} {m : Str → Option Value} {s : Shared} {Q E : Value → Shared → Prop}
    (B : Below A₀ base outer h₀) (F : Fr h₀ L s.heap m) (X : (Mine.mkK.heap_1 w.params).In h₀) (N : News h₀ L s.heap news) (T : Top topProg loose mean mg mb h₀) (hk : cs.kind = .function) (hd : dp < d) (hu : un < u)
    (ret : ∀ h' tk' x, Fr h₀ L h' m → News h₀ L h' news → Q (f x) { s with heap := h', toks := tk' }) :
    wpAny (model PySem.Challenge.rw_re0168_01.prog w) (ktrTop dp un gd cn cs L a ccd cl outer) (PySem.call (.ref fn) args kw) Q E s :=
  C.use B F X N T hk hd hu fun _ h' tk' hP F' N' => by obtain ⟨x, rfl⟩ := hP; exact ret h' tk' x F' N'
noncomputable abbrev aZ : Around := { handled := none, depth := 700, frames := none, guards := none, units := 1000 }
theorem weak {M : Model} {α : Type} {A : Around} {t : Sem α} {Q : α → Shared → Prop} {E : Value → Shared → Prop} {s : Shared} (h : wpAny M aZ t Q E s) (hh : A.handled = none) (hd : A.depth ≤ 700) (hu : A.units ≤ 1000) : wpAny M A t Q E s :=
  fun Γ p hΓ => h Γ p ⟨hΓ.1.trans hh, Nat.le_trans hΓ.2.1 hd, (fun l hl => by cases hl), (fun l hl => by cases hl), Nat.le_trans hΓ.2.2.2.2 hu⟩
noncomputable def Keep (h h' : Heap) : Prop := ∀ b o, h.get? b = some o → h'.get? b = some o
theorem keep_of_mem {h h' : Heap} {news : List (Addr × Obj)} (D : X.Mem h h' [] news) : Keep h h' := fun b o e => D.keep b o e (by simp [X.away])
theorem keep_fr {h₀ h h' : Heap} {L : Addr} {m : Str → Option Value} (F : Fr h₀ L h m) (k : Keep h h') : Fr h₀ L h' m := ⟨F.ns.keeps k, fun b o e => k b o (F.keep b o e), F.above⟩
theorem keep_news {h₀ h h' : Heap} {L : Addr} {news : List (Addr × Obj)} (N : News h₀ L h news) (k : Keep h h') : News h₀ L h' news := fun p hp => ⟨k _ _ (N p hp).1, (N p hp).2⟩
noncomputable def XQ (s : Shared) (P : Value → Prop) (r : Value) (s' : Shared) : Prop := P r ∧ Keep s.heap s'.heap ∧ s'.gens = s.gens ∧ s'.drawn = s.drawn ∧ s'.os = s.os
noncomputable def XCt (w : World) (f : Value) (args : List Value) (P : Value → Prop) : Prop := ∀ (h : Heap) (g : Array GenState) (d : Drawn) (t : Nat) (os : OsState), (Mine.mkK.heap_1 w.params).In h → wpAny (model PySem.Challenge.rw_re0168_01.prog w) aZ (PySem.call f args) (XQ ⟨h, g, d, t, os⟩ P) (fun _ _ => False) ⟨h, g, d, t, os⟩
theorem pure_of_x {w : World} {f : Addr} {args : List Value} {news : List (Addr × Obj)} {P : Value → Prop} (h : XCt w (.ref f) args P) : PureCt w 690 990 f args [] news P := by
  intro loose mean mg mb dp un gd cn cs a ccd cl outer A₀ base h₀ L m s Q E B F X N T hk hd hu hret
  obtain ⟨hh, g, d, t, os⟩ := s
  refine weak (wpAny_mono (h hh g d t os (X.keeps F.keep)) (fun r s' hr => ?_) fun _ _ x => x.elim) rfl (by show dp ≤ 700; omega) (by show un ≤ 1000; omega)
  obtain ⟨hh', g', d', t', os'⟩ := s'
  obtain ⟨hp, hk, e1, e2, e3⟩ := hr
  cases e1; cases e2; cases e3
  exact hret r hh' t' hp (keep_fr F hk) (keep_news N hk)
theorem XCt.any {w : World} {f : Value} {args : List Value} {P : Value → Prop} (C : XCt w f args P) {A : Around} {h₀ : Heap} {L : Addr} {m : Str → Option Value} {news : List (Addr × Obj)} {s : Shared} {Q E : Value → Shared → Prop}
    (F : Fr h₀ L s.heap m) (X : (Mine.mkK.heap_1 w.params).In h₀) (N : News h₀ L s.heap news) (hh : A.handled = none) (hd : A.depth ≤ 700) (hu : A.units ≤ 1000)
    (ret : ∀ r h' tk', P r → Fr h₀ L h' m → News h₀ L h' news → Q r { s with heap := h', toks := tk' }) :
    wpAny (model PySem.Challenge.rw_re0168_01.prog w) A (PySem.call f args) Q E s := by
  obtain ⟨hp, g, d, t, os⟩ := s
  refine weak (wpAny_mono (C hp g d t os (X.keeps F.keep)) (fun r s' hr => ?_) fun _ _ x => x.elim) hh hd hu
  obtain ⟨hh', g', d', t', os'⟩ := s'
  obtain ⟨hp, hk, e1, e2, e3⟩ := hr
  cases e1; cases e2; cases e3
  exact ret r hh' t' hp (keep_fr F hk) (keep_news N hk)
end Mine
end partMB
section partL1
open PySem PySem.W PyProof.Rows PySem.Calls
set_option Elab.async false
set_option maxRecDepth 100000
set_option maxHeartbeats 1000000
namespace Mine
theorem reset_L1 : True := by
  w_top off
  k_with_none
  trivial
theorem words_L1 : True := by
  k_with "k_ne" => (refine neN ?_; first | with_reducible assumption | exact Ne.symm (by with_reducible assumption) | exact Nat.ne_of_lt (by with_reducible assumption) | exact Nat.ne_of_gt (by with_reducible assumption) | (refine' Nat.ne_of_lt (And.left ?hZ9); (case hZ9 => with_reducible assumption)) | (refine' Nat.ne_of_lt (And.left (And.right ?hZ9)); (case hZ9 => with_reducible assumption)) | (refine' Nat.ne_of_lt (And.left (And.right (And.right ?hZ9))); (case hZ9 => with_reducible assumption)) | (refine' Nat.ne_of_lt (And.left (And.right (And.right (And.right ?hZ9)))); (case hZ9 => with_reducible assumption)) | (refine' Nat.ne_of_lt (And.left (And.right (And.right (And.right (And.right ?hZ9))))); (case hZ9 => with_reducible assumption)) | (refine' Nat.ne_of_lt (And.left (And.right (And.right (And.right (And.right (And.right ?hZ9)))))); (case hZ9 => with_reducible assumption)) | (refine' Nat.ne_of_lt (And.left (And.right (And.right (And.right (And.right (And.right (And.right ?hZ9))))))); (case hZ9 => with_reducible assumption)) | (refine' Nat.ne_of_lt (And.left (And.right (And.right (And.right (And.right (And.right (And.right (And.right ?hZ9)))))))); (case hZ9 => with_reducible assumption)) | (refine' Nat.ne_of_lt (And.left (And.right (And.right (And.right (And.right (And.right (And.right (And.right (And.right ?hZ9))))))))); (case hZ9 => with_reducible assumption)) | (refine' Nat.ne_of_gt (And.left ?hZ9); (case hZ9 => with_reducible assumption)) | (refine' Nat.ne_of_gt (And.left (And.right ?hZ9)); (case hZ9 => with_reducible assumption)) | (refine' Nat.ne_of_gt (And.left (And.right (And.right ?hZ9))); (case hZ9 => with_reducible assumption)) | (refine' Nat.ne_of_gt (And.left (And.right (And.right (And.right ?hZ9)))); (case hZ9 => with_reducible assumption)) | (refine' Nat.ne_of_gt (And.left (And.right (And.right (And.right (And.right ?hZ9))))); (case hZ9 => with_reducible assumption)) | (refine' Nat.ne_of_gt (And.left (And.right (And.right (And.right (And.right (And.right ?hZ9)))))); (case hZ9 => with_reducible assumption)) | (refine' Nat.ne_of_gt (And.left (And.right (And.right (And.right (And.right (And.right (And.right ?hZ9))))))); (case hZ9 => with_reducible assumption)) | (refine' Nat.ne_of_gt (And.left (And.right (And.right (And.right (And.right (And.right (And.right (And.right ?hZ9)))))))); (case hZ9 => with_reducible assumption)) | (refine' Nat.ne_of_gt (And.left (And.right (And.right (And.right (And.right (And.right (And.right (And.right (And.right ?hZ9))))))))); (case hZ9 => with_reducible assumption)) | ((try dsimp only); omega))
  k_with "callWith ref" => (k_here; (with_reducible show wpAny _ _ (callWith _ (Value.ref _) _ (backTo _ (starEach (_ :: _) _)) []) _ _ _); k_dflt (refine' callWith_K ?k1Z9 ?k2Z9 ?_; (case k1Z9 => k_asm); (case k2Z9 => k_is); k_whole))
  trivial
theorem lines_L1_1 : True := by
  k_with "ktr_unf" => (first
      | ((rename (_ = true) => ha9Z); exact absurd ha9Z (by decide +kernel))
      | ((rename (_ = false) => ha9Z); exact absurd ha9Z (by decide +kernel))
      | ((rename Back _ _ _ _ _ _ _ => hret9Z); (rename News _ _ _ _ => kN9Z); refine hret9Z _ _ _ ?hp9Z9 (by assumption) (fun p9 hp9 => kN9Z p9 (by first | exact hp9 | exact .tail _ hp9 | exact .tail _ (.tail _ hp9) | exact .tail _ (.tail _ (.tail _ hp9)) | exact .tail _ (.tail _ (.tail _ (.tail _ hp9))) | exact .tail _ (.tail _ (.tail _ (.tail _ (.tail _ hp9)))) | exact .tail _ (.tail _ (.tail _ (.tail _ (.tail _ (.tail _ hp9))))) | exact .tail _ (.tail _ (.tail _ (.tail _ (.tail _ (.tail _ (.tail _ hp9)))))) | exact .tail _ (.tail _ (.tail _ (.tail _ (.tail _ (.tail _ (.tail _ (.tail _ hp9))))))))); (case hp9Z9 => first | rfl | exact ⟨_, rfl⟩)))
  trivial
theorem term_ct (w : World) (x : Int) (t : Tok) (news : List (Addr × Obj)) : PureCt w 690 990 48 [.int x t] [] news (fun r => r = .bool (decide (x < 256))) := by
  unfold PureCt
  k_fill
  intro loose mean mg mb dp un gd cn cs a ccd cl outer A₀ base h₀ L m s Q E B F X N T hk hd hu hret
  refine wpAny_call ?_
  k_dflt ktr_enter
  k_steps
  all_goals ktr_unf
theorem nonterm_ct (w : World) (x : Int) (t : Tok) (news : List (Addr × Obj)) : PureCt w 690 990 55 [.int x t] [] news (fun r => r = .bool (decide (256 ≤ x))) := by
  unfold PureCt
  k_fill
  intro loose mean mg mb dp un gd cn cs a ccd cl outer A₀ base h₀ L m s Q E B F X N T hk hd hu hret
  refine wpAny_call ?_
  k_dflt ktr_enter
  k_steps
  all_goals ktr_unf
theorem iseof_ct (w : World) (x : Int) (t : Tok) (news : List (Addr × Obj)) : PureCt w 690 990 62 [.int x t] [] news (fun r => r = .bool (decide (x = 0))) := by
  unfold PureCt
  k_fill
  intro loose mean mg mb dp un gd cn cs a ccd cl outer A₀ base h₀ L m s Q E B F X N T hk hd hu hret
  refine wpAny_call ?_
  k_dflt ktr_enter
  k_steps
  all_goals ktr_unf
end Mine
end partL1
section partL2
open PySem PySem.W PyProof.Rows PySem.Calls
set_option Elab.async false
set_option maxRecDepth 100000
set_option maxHeartbeats 1000000
namespace Mine
theorem reset_L2 : True := by
  w_top off
  k_with_none
  trivial
theorem words_L2 : True := by
  k_with "k_ne" => (refine neN ?_; first | with_reducible assumption | exact Ne.symm (by with_reducible assumption) | exact Nat.ne_of_lt (by with_reducible assumption) | exact Nat.ne_of_gt (by with_reducible assumption) | (refine' Nat.ne_of_lt (And.left ?hZ9); (case hZ9 => with_reducible assumption)) | (refine' Nat.ne_of_lt (And.left (And.right ?hZ9)); (case hZ9 => with_reducible assumption)) | (refine' Nat.ne_of_lt (And.left (And.right (And.right ?hZ9))); (case hZ9 => with_reducible assumption)) | (refine' Nat.ne_of_lt (And.left (And.right (And.right (And.right ?hZ9)))); (case hZ9 => with_reducible assumption)) | (refine' Nat.ne_of_lt (And.left (And.right (And.right (And.right (And.right ?hZ9))))); (case hZ9 => with_reducible assumption)) | (refine' Nat.ne_of_lt (And.left (And.right (And.right (And.right (And.right (And.right ?hZ9)))))); (case hZ9 => with_reducible assumption)) | (refine' Nat.ne_of_lt (And.left (And.right (And.right (And.right (And.right (And.right (And.right ?hZ9))))))); (case hZ9 => with_reducible assumption)) | (refine' Nat.ne_of_lt (And.left (And.right (And.right (And.right (And.right (And.right (And.right (And.right ?hZ9)))))))); (case hZ9 => with_reducible assumption)) | (refine' Nat.ne_of_lt (And.left (And.right (And.right (And.right (And.right (And.right (And.right (And.right (And.right ?hZ9))))))))); (case hZ9 => with_reducible assumption)) | (refine' Nat.ne_of_gt (And.left ?hZ9); (case hZ9 => with_reducible assumption)) | (refine' Nat.ne_of_gt (And.left (And.right ?hZ9)); (case hZ9 => with_reducible assumption)) | (refine' Nat.ne_of_gt (And.left (And.right (And.right ?hZ9))); (case hZ9 => with_reducible assumption)) | (refine' Nat.ne_of_gt (And.left (And.right (And.right (And.right ?hZ9)))); (case hZ9 => with_reducible assumption)) | (refine' Nat.ne_of_gt (And.left (And.right (And.right (And.right (And.right ?hZ9))))); (case hZ9 => with_reducible assumption)) | (refine' Nat.ne_of_gt (And.left (And.right (And.right (And.right (And.right (And.right ?hZ9)))))); (case hZ9 => with_reducible assumption)) | (refine' Nat.ne_of_gt (And.left (And.right (And.right (And.right (And.right (And.right (And.right ?hZ9))))))); (case hZ9 => with_reducible assumption)) | (refine' Nat.ne_of_gt (And.left (And.right (And.right (And.right (And.right (And.right (And.right (And.right ?hZ9)))))))); (case hZ9 => with_reducible assumption)) | (refine' Nat.ne_of_gt (And.left (And.right (And.right (And.right (And.right (And.right (And.right (And.right (And.right ?hZ9))))))))); (case hZ9 => with_reducible assumption)) | ((try dsimp only); omega))
  k_with "callWith ref" => (k_here; (with_reducible show wpAny _ _ (callWith _ (Value.ref _) _ (backTo _ (starEach (_ :: _) _)) []) _ _ _); k_dflt (refine' callWith_K ?k1Z9 ?k2Z9 ?_; (case k1Z9 => k_asm); (case k2Z9 => k_is); k_whole))
  trivial
theorem lines_L2_1 : True := by
  k_with "ktr_unf" => (first
      | ((rename (_ = true) => ha9Z); exact absurd ha9Z (by decide +kernel))
      | ((rename (_ = false) => ha9Z); exact absurd ha9Z (by decide +kernel))
      | ((rename Back _ _ _ _ _ _ _ => hret9Z); (rename News _ _ _ _ => kN9Z); refine hret9Z _ _ _ ?hp9Z9 (by assumption) (fun p9 hp9 => kN9Z p9 (by first | exact hp9 | exact .tail _ hp9 | exact .tail _ (.tail _ hp9) | exact .tail _ (.tail _ (.tail _ hp9)) | exact .tail _ (.tail _ (.tail _ (.tail _ hp9))) | exact .tail _ (.tail _ (.tail _ (.tail _ (.tail _ hp9)))) | exact .tail _ (.tail _ (.tail _ (.tail _ (.tail _ (.tail _ hp9))))) | exact .tail _ (.tail _ (.tail _ (.tail _ (.tail _ (.tail _ (.tail _ hp9)))))) | exact .tail _ (.tail _ (.tail _ (.tail _ (.tail _ (.tail _ (.tail _ (.tail _ hp9))))))))); (case hp9Z9 => first | rfl | exact ⟨_, rfl⟩)))
  trivial
theorem sym_nil (w : World) (t : Tok) (news : List (Addr × Obj)) : PureCt w 690 990 277 [.str (Str.ofString "") t] [] news (fun r => ∃ tk, r = .int 0 tk) := by
  unfold PureCt
  k_fill
  intro loose mean mg mb dp un gd cn cs a ccd cl outer A₀ base h₀ L m s Q E B F X N T hk hd hu hret
  refine wpAny_call ?_
  k_dflt ktr_enter
  k_steps
  all_goals ktr_unf
theorem sym_amp (w : World) (t : Tok) (news : List (Addr × Obj)) : PureCt w 690 990 277 [.str (Str.ofString "&") t] [] news (fun r => ∃ tk, r = .int 19 tk) := by
  unfold PureCt
  k_fill
  intro loose mean mg mb dp un gd cn cs a ccd cl outer A₀ base h₀ L m s Q E B F X N T hk hd hu hret
  refine wpAny_call ?_
  k_dflt ktr_enter
  k_steps
  all_goals ktr_unf
theorem sym_bar (w : World) (t : Tok) (news : List (Addr × Obj)) : PureCt w 690 990 277 [.str (Str.ofString "|") t] [] news (fun r => ∃ tk, r = .int 18 tk) := by
  unfold PureCt
  k_fill
  intro loose mean mg mb dp un gd cn cs a ccd cl outer A₀ base h₀ L m s Q E B F X N T hk hd hu hret
  refine wpAny_call ?_
  k_dflt ktr_enter
  k_steps
  all_goals ktr_unf
theorem sym_lt (w : World) (t : Tok) (news : List (Addr × Obj)) : PureCt w 690 990 277 [.str (Str.ofString "<") t] [] news (fun r => ∃ tk, r = .int 20 tk) := by
  unfold PureCt
  k_fill
  intro loose mean mg mb dp un gd cn cs a ccd cl outer A₀ base h₀ L m s Q E B F X N T hk hd hu hret
  refine wpAny_call ?_
  k_dflt ktr_enter
  k_steps
  all_goals ktr_unf
theorem sym_gt (w : World) (t : Tok) (news : List (Addr × Obj)) : PureCt w 690 990 277 [.str (Str.ofString ">") t] [] news (fun r => ∃ tk, r = .int 21 tk) := by
  unfold PureCt
  k_fill
  intro loose mean mg mb dp un gd cn cs a ccd cl outer A₀ base h₀ L m s Q E B F X N T hk hd hu hret
  refine wpAny_call ?_
  k_dflt ktr_enter
  k_steps
  all_goals ktr_unf
theorem sym_al (w : World) (t : Tok) (news : List (Addr × Obj)) : PureCt w 690 990 277 [.str (Str.ofString "a") t] [] news (fun r => ∃ tk, r = .int 353 tk) := by
  unfold PureCt
  k_fill
  intro loose mean mg mb dp un gd cn cs a ccd cl outer A₀ base h₀ L m s Q E B F X N T hk hd hu hret
  refine wpAny_call ?_
  k_dflt ktr_enter
  k_steps
  all_goals ktr_unf
theorem sym_Au (w : World) (t : Tok) (news : List (Addr × Obj)) : PureCt w 690 990 277 [.str (Str.ofString "A") t] [] news (fun r => ∃ tk, r = .int 321 tk) := by
  unfold PureCt
  k_fill
  intro loose mean mg mb dp un gd cn cs a ccd cl outer A₀ base h₀ L m s Q E B F X N T hk hd hu hret
  refine wpAny_call ?_
  k_dflt ktr_enter
  k_steps
  all_goals ktr_unf
theorem sym_bl (w : World) (t : Tok) (news : List (Addr × Obj)) : PureCt w 690 990 277 [.str (Str.ofString "b") t] [] news (fun r => ∃ tk, r = .int 354 tk) := by
  unfold PureCt
  k_fill
  intro loose mean mg mb dp un gd cn cs a ccd cl outer A₀ base h₀ L m s Q E B F X N T hk hd hu hret
  refine wpAny_call ?_
  k_dflt ktr_enter
  k_steps
  all_goals ktr_unf
theorem sym_Bu (w : World) (t : Tok) (news : List (Addr × Obj)) : PureCt w 690 990 277 [.str (Str.ofString "B") t] [] news (fun r => ∃ tk, r = .int 322 tk) := by
  unfold PureCt
  k_fill
  intro loose mean mg mb dp un gd cn cs a ccd cl outer A₀ base h₀ L m s Q E B F X N T hk hd hu hret
  refine wpAny_call ?_
  k_dflt ktr_enter
  k_steps
  all_goals ktr_unf
theorem sym_cl (w : World) (t : Tok) (news : List (Addr × Obj)) : PureCt w 690 990 277 [.str (Str.ofString "c") t] [] news (fun r => ∃ tk, r = .int 355 tk) := by
  unfold PureCt
  k_fill
  intro loose mean mg mb dp un gd cn cs a ccd cl outer A₀ base h₀ L m s Q E B F X N T hk hd hu hret
  refine wpAny_call ?_
  k_dflt ktr_enter
  k_steps
  all_goals ktr_unf
theorem sym_Cu (w : World) (t : Tok) (news : List (Addr × Obj)) : PureCt w 690 990 277 [.str (Str.ofString "C") t] [] news (fun r => ∃ tk, r = .int 323 tk) := by
  unfold PureCt
  k_fill
  intro loose mean mg mb dp un gd cn cs a ccd cl outer A₀ base h₀ L m s Q E B F X N T hk hd hu hret
  refine wpAny_call ?_
  k_dflt ktr_enter
  k_steps
  all_goals ktr_unf
theorem sym_dl (w : World) (t : Tok) (news : List (Addr × Obj)) : PureCt w 690 990 277 [.str (Str.ofString "d") t] [] news (fun r => ∃ tk, r = .int 356 tk) := by
  unfold PureCt
  k_fill
  intro loose mean mg mb dp un gd cn cs a ccd cl outer A₀ base h₀ L m s Q E B F X N T hk hd hu hret
  refine wpAny_call ?_
  k_dflt ktr_enter
  k_steps
  all_goals ktr_unf
theorem sym_Du (w : World) (t : Tok) (news : List (Addr × Obj)) : PureCt w 690 990 277 [.str (Str.ofString "D") t] [] news (fun r => ∃ tk, r = .int 324 tk) := by
  unfold PureCt
  k_fill
  intro loose mean mg mb dp un gd cn cs a ccd cl outer A₀ base h₀ L m s Q E B F X N T hk hd hu hret
  refine wpAny_call ?_
  k_dflt ktr_enter
  k_steps
  all_goals ktr_unf
end Mine
end partL2
section partL3
open PySem PySem.W PyProof.Rows PySem.Calls
set_option Elab.async false
set_option maxRecDepth 100000
set_option maxHeartbeats 1000000
namespace Mine
theorem reset_L3 : True := by
  w_top off
  k_with_none
  trivial
theorem words_L3 : True := by
  k_with "k_ne" => (refine neN ?_; first | with_reducible assumption | exact Ne.symm (by with_reducible assumption) | exact Nat.ne_of_lt (by with_reducible assumption) | exact Nat.ne_of_gt (by with_reducible assumption) | (refine' Nat.ne_of_lt (And.left ?hZ9); (case hZ9 => with_reducible assumption)) | (refine' Nat.ne_of_lt (And.left (And.right ?hZ9)); (case hZ9 => with_reducible assumption)) | (refine' Nat.ne_of_lt (And.left (And.right (And.right ?hZ9))); (case hZ9 => with_reducible assumption)) | (refine' Nat.ne_of_lt (And.left (And.right (And.right (And.right ?hZ9)))); (case hZ9 => with_reducible assumption)) | (refine' Nat.ne_of_lt (And.left (And.right (And.right (And.right (And.right ?hZ9))))); (case hZ9 => with_reducible assumption)) | (refine' Nat.ne_of_lt (And.left (And.right (And.right (And.right (And.right (And.right ?hZ9)))))); (case hZ9 => with_reducible assumption)) | (refine' Nat.ne_of_lt (And.left (And.right (And.right (And.right (And.right (And.right (And.right ?hZ9))))))); (case hZ9 => with_reducible assumption)) | (refine' Nat.ne_of_lt (And.left (And.right (And.right (And.right (And.right (And.right (And.right (And.right ?hZ9)))))))); (case hZ9 => with_reducible assumption)) | (refine' Nat.ne_of_lt (And.left (And.right (And.right (And.right (And.right (And.right (And.right (And.right (And.right ?hZ9))))))))); (case hZ9 => with_reducible assumption)) | (refine' Nat.ne_of_gt (And.left ?hZ9); (case hZ9 => with_reducible assumption)) | (refine' Nat.ne_of_gt (And.left (And.right ?hZ9)); (case hZ9 => with_reducible assumption)) | (refine' Nat.ne_of_gt (And.left (And.right (And.right ?hZ9))); (case hZ9 => with_reducible assumption)) | (refine' Nat.ne_of_gt (And.left (And.right (And.right (And.right ?hZ9)))); (case hZ9 => with_reducible assumption)) | (refine' Nat.ne_of_gt (And.left (And.right (And.right (And.right (And.right ?hZ9))))); (case hZ9 => with_reducible assumption)) | (refine' Nat.ne_of_gt (And.left (And.right (And.right (And.right (And.right (And.right ?hZ9)))))); (case hZ9 => with_reducible assumption)) | (refine' Nat.ne_of_gt (And.left (And.right (And.right (And.right (And.right (And.right (And.right ?hZ9))))))); (case hZ9 => with_reducible assumption)) | (refine' Nat.ne_of_gt (And.left (And.right (And.right (And.right (And.right (And.right (And.right (And.right ?hZ9)))))))); (case hZ9 => with_reducible assumption)) | (refine' Nat.ne_of_gt (And.left (And.right (And.right (And.right (And.right (And.right (And.right (And.right (And.right ?hZ9))))))))); (case hZ9 => with_reducible assumption)) | ((try dsimp only); omega))
  k_with "callWith ref" => (k_here; (with_reducible show wpAny _ _ (callWith _ (Value.ref _) _ (backTo _ (starEach (_ :: _) _)) []) _ _ _); k_dflt (refine' callWith_K ?k1Z9 ?k2Z9 ?_; (case k1Z9 => k_asm); (case k2Z9 => k_is); k_whole))
  trivial
noncomputable def MaskTab (lw : Str) (v : Int) : Prop := ∀ tk : Tok, Spec.lookup (PyData.str lw) (strData [(Value.str (Str.ofString "a") tk, Value.int 43690 (tk + 1)), (Value.str (Str.ofString "b") (tk + 1 + 1), Value.int 52428 (tk + 1 + 1 + 1)), (Value.str (Str.ofString "c") (tk + 1 + 1 + 1 + 1), Value.int 61680 (tk + 1 + 1 + 1 + 1 + 1)), (Value.str (Str.ofString "d") (tk + 1 + 1 + 1 + 1 + 1 + 1), Value.int 65280 (tk + 1 + 1 + 1 + 1 + 1 + 1 + 1))]) = some (PyData.int v)
theorem in_gen {prog : Program} {w : World} {A : Around} {E : Value → Shared → Prop} {s : Shared} {x y : Str} {b : Bool} {t u : Tok} {Q : Value → Shared → Prop} (e : (!(Builtin.Str.occurrences x y 0 x.length 1).isEmpty) = b) (h : Q (.bool b) s) : wpAny (model prog w) A (compareOp .In (.str y u) (.str x t)) Q E s := by
  subst e; exact P.in_str h
theorem lines_L3_1 : True := by
  k_with "ktr_unf" => (first
      | ((rename (_ = true) => ha9Z); exact absurd ha9Z (by decide +kernel))
      | ((rename (_ = false) => ha9Z); exact absurd ha9Z (by decide +kernel))
      | ((rename Back _ _ _ _ _ _ _ => hret9Z); (rename News _ _ _ _ => kN9Z); refine hret9Z _ _ _ ?hp9Z9 (by assumption) (fun p9 hp9 => kN9Z p9 (by first | exact hp9 | exact .tail _ hp9 | exact .tail _ (.tail _ hp9) | exact .tail _ (.tail _ (.tail _ hp9)) | exact .tail _ (.tail _ (.tail _ (.tail _ hp9))) | exact .tail _ (.tail _ (.tail _ (.tail _ (.tail _ hp9)))) | exact .tail _ (.tail _ (.tail _ (.tail _ (.tail _ (.tail _ hp9))))) | exact .tail _ (.tail _ (.tail _ (.tail _ (.tail _ (.tail _ (.tail _ hp9)))))) | exact .tail _ (.tail _ (.tail _ (.tail _ (.tail _ (.tail _ (.tail _ (.tail _ hp9))))))))); (case hp9Z9 => first | rfl | exact ⟨_, rfl⟩)))
  k_with "evalPairs" => ((dsimp only))
  k_with "subscriptTail" => ((k_here; (rename Obj.IsDictOf _ _ _ => hD9Z); (rename PyProof.V.FlatPairs _ _ _ => hF9Z); (rename News _ _ _ _ => kN9Z); k_dflt (refine' item_tab_any (enc := PyData.str) (knd := strKind _ _) PyProof.V.same_str (strKind_is _ _ _ _) (TabAt.ofNews kN9Z (List.Mem.head _) (by assumption) hD9Z hF9Z) ?hl9Z9 ?_ ?hs9Z9; (case hl9Z9 => ((rename MaskTab _ _ => hm9Z); exact hm9Z _)); (case hs9Z9 => with_unfolding_all rfl)); intro _ hvZ'; (obtain ⟨tfZ', efZ'⟩ := PyProof.V.Flat.int_inv hvZ'; subst efZ'); clear hvZ' hD9Z hF9Z))
  k_with "call builtin:str.lower" => ((k_here; (try dsimp only); (with_reducible show wpAny _ _ (call (Value.builtin "str.lower") [Value.str _ _]) _ _ _); (refine' KXw.lower ?heZ9 ?hfZ9 ?_); (case heZ9 => assumption); (case hfZ9 => assumption); intro _ _))
  k_with "compareOp In str str" => ((k_here; k_dflt (refine' in_gen ?heZ9 ?_; (case heZ9 => assumption); k_whole)))
  trivial
theorem mask_lo (w : World) (t : Tok) (news : List (Addr × Obj)) (x lw : Str) (v : Int) (hlow : Txt.lower x = lw) (hfit : Builtin.Str.tooLong (Txt.lower x).length = false) (hv : MaskTab lw v) (hin : (!(Builtin.Str.occurrences (Str.ofString "abcd") x 0 (Str.ofString "abcd").length 1).isEmpty) = true) : PureCt w 690 990 253 [.str x t] [] news (fun r => ∃ tk, r = .int v tk) := by
  unfold PureCt
  k_fill
  intro loose mean mg mb dp un gd cn cs a ccd cl outer A₀ base h₀ L m s Q E B F X N T hk hd hu hret
  refine wpAny_call ?_
  k_dflt ktr_enter
  k_steps
  all_goals ktr_unf
theorem mask_hi (w : World) (t : Tok) (news : List (Addr × Obj)) (x lw : Str) (v : Int) (hlow : Txt.lower x = lw) (hfit : Builtin.Str.tooLong (Txt.lower x).length = false) (hv : MaskTab lw v) (hin : (!(Builtin.Str.occurrences (Str.ofString "abcd") x 0 (Str.ofString "abcd").length 1).isEmpty) = false) : PureCt w 690 990 253 [.str x t] [] news (fun r => ∃ tk, r = .int (65535 - v) tk) := by
  unfold PureCt
  k_fill
  intro loose mean mg mb dp un gd cn cs a ccd cl outer A₀ base h₀ L m s Q E B F X N T hk hd hu hret
  refine wpAny_call ?_
  k_dflt ktr_enter
  k_steps
  all_goals ktr_unf
theorem mask_al (w : World) (t : Tok) (news : List (Addr × Obj)) : PureCt w 690 990 253 [.str (Str.ofString "a") t] [] news (fun r => ∃ tk, r = .int 43690 tk) :=
  mask_lo w t news (Str.ofString "a") (Str.ofString "a") 43690 (by decide +kernel) (by decide +kernel) (fun _ => by kernel_rfl) (by decide +kernel)
theorem mask_Au (w : World) (t : Tok) (news : List (Addr × Obj)) : PureCt w 690 990 253 [.str (Str.ofString "A") t] [] news (fun r => ∃ tk, r = .int 21845 tk) :=
  mask_hi w t news (Str.ofString "A") (Str.ofString "a") 43690 (by decide +kernel) (by decide +kernel) (fun _ => by kernel_rfl) (by decide +kernel)
theorem mask_bl (w : World) (t : Tok) (news : List (Addr × Obj)) : PureCt w 690 990 253 [.str (Str.ofString "b") t] [] news (fun r => ∃ tk, r = .int 52428 tk) :=
  mask_lo w t news (Str.ofString "b") (Str.ofString "b") 52428 (by decide +kernel) (by decide +kernel) (fun _ => by kernel_rfl) (by decide +kernel)
theorem mask_Bu (w : World) (t : Tok) (news : List (Addr × Obj)) : PureCt w 690 990 253 [.str (Str.ofString "B") t] [] news (fun r => ∃ tk, r = .int 13107 tk) :=
  mask_hi w t news (Str.ofString "B") (Str.ofString "b") 52428 (by decide +kernel) (by decide +kernel) (fun _ => by kernel_rfl) (by decide +kernel)
theorem mask_cl (w : World) (t : Tok) (news : List (Addr × Obj)) : PureCt w 690 990 253 [.str (Str.ofString "c") t] [] news (fun r => ∃ tk, r = .int 61680 tk) :=
  mask_lo w t news (Str.ofString "c") (Str.ofString "c") 61680 (by decide +kernel) (by decide +kernel) (fun _ => by kernel_rfl) (by decide +kernel)
theorem mask_Cu (w : World) (t : Tok) (news : List (Addr × Obj)) : PureCt w 690 990 253 [.str (Str.ofString "C") t] [] news (fun r => ∃ tk, r = .int 3855 tk) :=
  mask_hi w t news (Str.ofString "C") (Str.ofString "c") 61680 (by decide +kernel) (by decide +kernel) (fun _ => by kernel_rfl) (by decide +kernel)
theorem mask_dl (w : World) (t : Tok) (news : List (Addr × Obj)) : PureCt w 690 990 253 [.str (Str.ofString "d") t] [] news (fun r => ∃ tk, r = .int 65280 tk) :=
  mask_lo w t news (Str.ofString "d") (Str.ofString "d") 65280 (by decide +kernel) (by decide +kernel) (fun _ => by kernel_rfl) (by decide +kernel)
theorem mask_Du (w : World) (t : Tok) (news : List (Addr × Obj)) : PureCt w 690 990 253 [.str (Str.ofString "D") t] [] news (fun r => ∃ tk, r = .int 255 tk) :=
  mask_hi w t news (Str.ofString "D") (Str.ofString "d") 65280 (by decide +kernel) (by decide +kernel) (fun _ => by kernel_rfl) (by decide +kernel)
end Mine
end partL3
section partRX
open PySem PySem.W PyProof.Rows PySem.Calls
set_option Elab.async false
set_option maxRecDepth 100000
set_option maxHeartbeats 1000000
namespace Mine
theorem reset_RX : True := by
  w_top off
  k_with_none
  trivial
theorem words_RX : True := by
  k_with "k_ne" => (refine neN ?_; first | with_reducible assumption | exact Ne.symm (by with_reducible assumption) | exact Nat.ne_of_lt (by with_reducible assumption) | exact Nat.ne_of_gt (by with_reducible assumption) | (refine' Nat.ne_of_lt (And.left ?hZ9); (case hZ9 => with_reducible assumption)) | (refine' Nat.ne_of_lt (And.left (And.right ?hZ9)); (case hZ9 => with_reducible assumption)) | (refine' Nat.ne_of_lt (And.left (And.right (And.right ?hZ9))); (case hZ9 => with_reducible assumption)) | (refine' Nat.ne_of_lt (And.left (And.right (And.right (And.right ?hZ9)))); (case hZ9 => with_reducible assumption)) | (refine' Nat.ne_of_lt (And.left (And.right (And.right (And.right (And.right ?hZ9))))); (case hZ9 => with_reducible assumption)) | (refine' Nat.ne_of_lt (And.left (And.right (And.right (And.right (And.right (And.right ?hZ9)))))); (case hZ9 => with_reducible assumption)) | (refine' Nat.ne_of_lt (And.left (And.right (And.right (And.right (And.right (And.right (And.right ?hZ9))))))); (case hZ9 => with_reducible assumption)) | (refine' Nat.ne_of_lt (And.left (And.right (And.right (And.right (And.right (And.right (And.right (And.right ?hZ9)))))))); (case hZ9 => with_reducible assumption)) | (refine' Nat.ne_of_lt (And.left (And.right (And.right (And.right (And.right (And.right (And.right (And.right (And.right ?hZ9))))))))); (case hZ9 => with_reducible assumption)) | (refine' Nat.ne_of_gt (And.left ?hZ9); (case hZ9 => with_reducible assumption)) | (refine' Nat.ne_of_gt (And.left (And.right ?hZ9)); (case hZ9 => with_reducible assumption)) | (refine' Nat.ne_of_gt (And.left (And.right (And.right ?hZ9))); (case hZ9 => with_reducible assumption)) | (refine' Nat.ne_of_gt (And.left (And.right (And.right (And.right ?hZ9)))); (case hZ9 => with_reducible assumption)) | (refine' Nat.ne_of_gt (And.left (And.right (And.right (And.right (And.right ?hZ9))))); (case hZ9 => with_reducible assumption)) | (refine' Nat.ne_of_gt (And.left (And.right (And.right (And.right (And.right (And.right ?hZ9)))))); (case hZ9 => with_reducible assumption)) | (refine' Nat.ne_of_gt (And.left (And.right (And.right (And.right (And.right (And.right (And.right ?hZ9))))))); (case hZ9 => with_reducible assumption)) | (refine' Nat.ne_of_gt (And.left (And.right (And.right (And.right (And.right (And.right (And.right (And.right ?hZ9)))))))); (case hZ9 => with_reducible assumption)) | (refine' Nat.ne_of_gt (And.left (And.right (And.right (And.right (And.right (And.right (And.right (And.right (And.right ?hZ9))))))))); (case hZ9 => with_reducible assumption)) | ((try dsimp only); omega))
  k_with "callWith ref" => (k_here; (with_reducible show wpAny _ _ (callWith _ (Value.ref _) _ (backTo _ (starEach (_ :: _) _)) []) _ _ _); k_dflt (refine' callWith_K ?k1Z9 ?k2Z9 ?_; (case k1Z9 => k_asm); (case k2Z9 => k_is); k_whole))
  trivial
theorem rx_plain : PlainAttrs "re.Pattern" :=
  ⟨⟨"object.__getattribute__", by rw [typeLookup_type, builtinLookup_eq_fast]; kernel_rfl, by decide +kernel⟩, by rw [typeLookup_type, builtinLookup_eq_fast]; kernel_rfl⟩
theorem rx_slot : Slot "re.Pattern" "search" "re.Pattern.search" :=
  .of (owner := "re.Pattern") (n := "search") (by rw [typeLookup_type, builtinLookup_eq_fast]; kernel_rfl) (by decide +kernel) (by decide +kernel) (by decide +kernel)
    (by first | exact .inl (by decide +kernel) | exact .inr (by decide +kernel)) (by rw [isSubtype_type]; kernel_rfl)
theorem rx_type : typeOf (.builtin "re.Pattern.search") = pure (.type "method_descriptor") := by show builtinType _ = _; rw [builtinType_eq_fast]; kernel_rfl
theorem rx_method {M : Model} {A : Around} {s : Shared} {E : Value → Shared → Prop} {K : Frag} {a : Addr} {o : Obj} {pl : Sem Bool} {Q : Value × List Value → Shared → Prop} (X : K.In s.heap) (hk : K.lookup a = some o) (hc : o.cls = .type "re.Pattern") (hd : o.dict = none)
    (h : Q (.builtin "re.Pattern.search", [.ref a]) s) : wpAny M A (getMethod (.ref a) "search" pl) Q E s :=
  getMethod_builtin (T := "re.Pattern") ⟨o, X _ _ hk, hc⟩ rx_plain rx_slot rx_type (fun b e => by cases e; exact ⟨o, X _ _ hk, hd⟩) h
local macro_rules | `(tactic| x_close) => `(tactic| (refine ⟨rfl, fun _ _ e => e, rfl, rfl, rfl⟩))
theorem rxn_al (w : World) (t : Tok) : XCt w (.builtin "re.Pattern.search") [.ref 109, .str (Str.ofString "a") t] (fun r => r = .none) := by
  unfold XCt
  k_fill
  intro h g d tk os X
  x_run
theorem rxn_Au (w : World) (t : Tok) : XCt w (.builtin "re.Pattern.search") [.ref 109, .str (Str.ofString "A") t] (fun r => r = .none) := by
  unfold XCt
  k_fill
  intro h g d tk os X
  x_run
theorem rxn_bl (w : World) (t : Tok) : XCt w (.builtin "re.Pattern.search") [.ref 109, .str (Str.ofString "b") t] (fun r => r = .none) := by
  unfold XCt
  k_fill
  intro h g d tk os X
  x_run
theorem rxn_Bu (w : World) (t : Tok) : XCt w (.builtin "re.Pattern.search") [.ref 109, .str (Str.ofString "B") t] (fun r => r = .none) := by
  unfold XCt
  k_fill
  intro h g d tk os X
  x_run
theorem rxn_cl (w : World) (t : Tok) : XCt w (.builtin "re.Pattern.search") [.ref 109, .str (Str.ofString "c") t] (fun r => r = .none) := by
  unfold XCt
  k_fill
  intro h g d tk os X
  x_run
theorem rxn_Cu (w : World) (t : Tok) : XCt w (.builtin "re.Pattern.search") [.ref 109, .str (Str.ofString "C") t] (fun r => r = .none) := by
  unfold XCt
  k_fill
  intro h g d tk os X
  x_run
theorem rxn_dl (w : World) (t : Tok) : XCt w (.builtin "re.Pattern.search") [.ref 109, .str (Str.ofString "d") t] (fun r => r = .none) := by
  unfold XCt
  k_fill
  intro h g d tk os X
  x_run
theorem rxn_Du (w : World) (t : Tok) : XCt w (.builtin "re.Pattern.search") [.ref 109, .str (Str.ofString "D") t] (fun r => r = .none) := by
  unfold XCt
  k_fill
  intro h g d tk os X
  x_run
theorem rxl_al (w : World) (t : Tok) : XCt w (.builtin "re.Pattern.search") [.ref 114, .str (Str.ofString "<a") t] (fun r => r = .none) := by
  unfold XCt
  k_fill
  intro h g d tk os X
  x_run
theorem rxg_al (w : World) (t : Tok) : XCt w (.builtin "re.Pattern.search") [.ref 114, .str (Str.ofString ">a") t] (fun r => r = .none) := by
  unfold XCt
  k_fill
  intro h g d tk os X
  x_run
theorem rxl_Au (w : World) (t : Tok) : XCt w (.builtin "re.Pattern.search") [.ref 114, .str (Str.ofString "<A") t] (fun r => r = .none) := by
  unfold XCt
  k_fill
  intro h g d tk os X
  x_run
theorem rxg_Au (w : World) (t : Tok) : XCt w (.builtin "re.Pattern.search") [.ref 114, .str (Str.ofString ">A") t] (fun r => r = .none) := by
  unfold XCt
  k_fill
  intro h g d tk os X
  x_run
theorem rxl_bl (w : World) (t : Tok) : XCt w (.builtin "re.Pattern.search") [.ref 114, .str (Str.ofString "<b") t] (fun r => r = .none) := by
  unfold XCt
  k_fill
  intro h g d tk os X
  x_run
theorem rxg_bl (w : World) (t : Tok) : XCt w (.builtin "re.Pattern.search") [.ref 114, .str (Str.ofString ">b") t] (fun r => r = .none) := by
  unfold XCt
  k_fill
  intro h g d tk os X
  x_run
theorem rxl_Bu (w : World) (t : Tok) : XCt w (.builtin "re.Pattern.search") [.ref 114, .str (Str.ofString "<B") t] (fun r => r = .none) := by
  unfold XCt
  k_fill
  intro h g d tk os X
  x_run
theorem rxg_Bu (w : World) (t : Tok) : XCt w (.builtin "re.Pattern.search") [.ref 114, .str (Str.ofString ">B") t] (fun r => r = .none) := by
  unfold XCt
  k_fill
  intro h g d tk os X
  x_run
theorem rxl_cl (w : World) (t : Tok) : XCt w (.builtin "re.Pattern.search") [.ref 114, .str (Str.ofString "<c") t] (fun r => r = .none) := by
  unfold XCt
  k_fill
  intro h g d tk os X
  x_run
theorem rxg_cl (w : World) (t : Tok) : XCt w (.builtin "re.Pattern.search") [.ref 114, .str (Str.ofString ">c") t] (fun r => r = .none) := by
  unfold XCt
  k_fill
  intro h g d tk os X
  x_run
theorem rxl_Cu (w : World) (t : Tok) : XCt w (.builtin "re.Pattern.search") [.ref 114, .str (Str.ofString "<C") t] (fun r => r = .none) := by
  unfold XCt
  k_fill
  intro h g d tk os X
  x_run
theorem rxg_Cu (w : World) (t : Tok) : XCt w (.builtin "re.Pattern.search") [.ref 114, .str (Str.ofString ">C") t] (fun r => r = .none) := by
  unfold XCt
  k_fill
  intro h g d tk os X
  x_run
theorem rxl_dl (w : World) (t : Tok) : XCt w (.builtin "re.Pattern.search") [.ref 114, .str (Str.ofString "<d") t] (fun r => r = .none) := by
  unfold XCt
  k_fill
  intro h g d tk os X
  x_run
theorem rxg_dl (w : World) (t : Tok) : XCt w (.builtin "re.Pattern.search") [.ref 114, .str (Str.ofString ">d") t] (fun r => r = .none) := by
  unfold XCt
  k_fill
  intro h g d tk os X
  x_run
theorem rxl_Du (w : World) (t : Tok) : XCt w (.builtin "re.Pattern.search") [.ref 114, .str (Str.ofString "<D") t] (fun r => r = .none) := by
  unfold XCt
  k_fill
  intro h g d tk os X
  x_run
theorem rxg_Du (w : World) (t : Tok) : XCt w (.builtin "re.Pattern.search") [.ref 114, .str (Str.ofString ">D") t] (fun r => r = .none) := by
  unfold XCt
  k_fill
  intro h g d tk os X
  x_run
theorem lines_RX_1 : True := by
  k_with "getMethod ref" => ((k_here; k_dflt (refine' rx_method ?XZ9 ?kZ9 ?cZ9 ?dZ9 ?_; (case XZ9 => k_in); (case kZ9 => k_is); (case cZ9 => rfl); (case dZ9 => rfl))))
  k_with "call builtin:re.Pattern.search" => ((k_here; k_dflt (refine' XCt.any ?CZ9 ?FZ9 ?XZ9 ?NZ9 ?hZ9 ?dZ9 ?uZ9 ?_; (case CZ9 => assumption); (case FZ9 => k_asm); (case XZ9 => k_asm); (case NZ9 => k_asm); (case hZ9 => rfl); (case dZ9 => ktr_room); (case uZ9 => ktr_units)); (intro _ _ _ hP9Z _ _; subst hP9Z; (try dsimp only); (try k_sweep))))
  k_with "ktr_unf" => (first
      | ((rename (_ = true) => ha9Z); exact absurd ha9Z (by decide +kernel))
      | ((rename (_ = false) => ha9Z); exact absurd ha9Z (by decide +kernel))
      | ((rename Back _ _ _ _ _ _ _ => hret9Z); (rename News _ _ _ _ => kN9Z); refine hret9Z _ _ _ ?hp9Z9 (by assumption) (fun p9 hp9 => kN9Z p9 (by first | exact hp9 | exact .tail _ hp9 | exact .tail _ (.tail _ hp9) | exact .tail _ (.tail _ (.tail _ hp9)) | exact .tail _ (.tail _ (.tail _ (.tail _ hp9))) | exact .tail _ (.tail _ (.tail _ (.tail _ (.tail _ hp9)))) | exact .tail _ (.tail _ (.tail _ (.tail _ (.tail _ (.tail _ hp9))))) | exact .tail _ (.tail _ (.tail _ (.tail _ (.tail _ (.tail _ (.tail _ hp9)))))) | exact .tail _ (.tail _ (.tail _ (.tail _ (.tail _ (.tail _ (.tail _ (.tail _ hp9))))))))); (case hp9Z9 => first | rfl | exact ⟨_, rfl⟩)))
  trivial
theorem conv_n (w : World) (self : Value) (x : Str) (t : Tok) (news : List (Addr × Obj)) (hs : XCt w (.builtin "re.Pattern.search") [.ref 109, .str x t] (fun r => r = .none)) : PureCt w 680 900 136 [self, .str x t] [(Str.ofString "name", .bool true)] news (fun r => r = .str x t) := by
  unfold PureCt
  k_fill
  intro loose mean mg mb dp un gd cn cs a ccd cl outer A₀ base h₀ L m s Q E B F X N T hk hd hu hret
  refine wpAny_call ?_
  k_dflt ktr_enter
  k_steps
  all_goals ktr_unf
theorem conv_v (w : World) (self : Value) (x : Str) (t : Tok) (news : List (Addr × Obj)) (hs : XCt w (.builtin "re.Pattern.search") [.ref 114, .str x t] (fun r => r = .none)) : PureCt w 680 900 136 [self, .str x t] [(Str.ofString "name", .bool false)] news (fun r => r = .str x t) := by
  unfold PureCt
  k_fill
  intro loose mean mg mb dp un gd cn cs a ccd cl outer A₀ base h₀ L m s Q E B F X N T hk hd hu hret
  refine wpAny_call ?_
  k_dflt ktr_enter
  k_steps
  all_goals ktr_unf
end Mine
end partRX
section partLF
open PySem PySem.W PyProof.Rows PySem.Calls
set_option Elab.async false
set_option maxRecDepth 100000
set_option maxHeartbeats 1000000
namespace Mine
theorem reset_LF : True := by
  w_top off
  k_with_none
  trivial
noncomputable abbrev nE : Value → Shared → Prop := fun _ _ => False
section
variable {prog : Program} {w : World} {A : Around} {env : Env} {target : PySem.Expr} {body : List Stmt} {Q : Flow → Shared → Prop} {it : Value}
noncomputable def FRest (prog : Program) (w : World) (A : Around) (env : Env) (target : PySem.Expr) (body : List Stmt) (Q : Flow → Shared → Prop) (it : Value) : Nat → Shared → Prop
  | 0, _ => False
  | n + 1, s => wpAny (model prog w) A (pyNext it) (fun r s₁ => match r with
    | none => Q .next s₁
    | some v => wpAny (model prog w) A (letOwnedTupleGo target it v) (fun _ s₁' => wpAny (model prog w) A (assign target env v) (fun _ s₂ => wpAny (model prog w) A (execs body env) (fun f s₃ => match f with
      | .next | .cont => FRest prog w A env target body Q it n s₃
      | .brk => Q .next s₃
      | .ret v => Q (.ret v) s₃) nE s₂) nE s₁') nE s₁) nE s
theorem FRest.code {s : Shared} {E : Value → Shared → Prop} (n : Nat) (h : FRest prog w A env target body Q it n s) :
    codeAny (model prog w) A (.forLoop target it body [] env) (fun r s' => match r with | .ok f => Q f s' | .error e => cameBackBy (model prog w) A env E e s') s := by
  refine codeAny_forLoop_any (fun k s' => FRest prog w A env target body Q it k s') ?_ n h
  intro k s' hk
  cases k with
  | zero => exact hk.elim
  | succ k =>
    refine wpAny_mono (hk : wpAny (model prog w) A (pyNext it) _ nE s') (fun r s₁ hr => ?_) fun _ _ z => z.elim
    cases r with
    | none => exact wpAny_execs_nil hr
    | some v =>
      refine wpAny_mono hr (fun _ s₁' h1 => wpAny_mono h1 (fun _ s₂ h2 => wpAny_mono h2 (fun f s₃ h3 => ?_) fun _ _ z => z.elim) fun _ _ z => z.elim) fun _ _ z => z.elim
      cases f with
      | next => exact ⟨k, Nat.lt_succ_self k, h3⟩
      | cont => exact ⟨k, Nat.lt_succ_self k, h3⟩
      | brk => exact h3
      | ret _ => exact h3
/-- stands at a for, its list evaluated -/
noncomputable def ForAt (prog : Program) (w : World) (A : Around) (env : Env) (target : PySem.Expr) (body : List Stmt) (Q : Flow → Shared → Prop) (x : Value) (s : Shared) : Prop :=
  wpAny (model prog w) A (pyIter x) (fun it s₂ => ∃ n, FRest prog w A env target body Q it n s₂) nE s
theorem for_open {s : Shared} {iter : PySem.Expr} {pos : Pos} (h : wpAny (model prog w) A (eval iter env) (fun x s₁ => ForAt prog w A env target body Q x s₁) nE s) (hs : ∀ x, foldedSetIterable iter env x = pure x := by intro _; rfl) :
    wpAny (model prog w) A (exec (.For target iter body [] pos) env) Q nE s := by
  refine wpAny_For (wpAny_mono h (fun x s₁ h₁ => wpAny_mono h₁ (fun it s₂ h₂ => ?_) fun _ _ z => z) fun _ _ z => z) hs
  obtain ⟨n, h₂⟩ := h₂
  exact FRest.code n h₂
noncomputable abbrev itObj (l : Addr) (i : Nat) : Obj := { cls := .type "list_iterator", data := .fields #[.ref l, .int i 0] }
/-- the end of a turn: the walk stops here -/
noncomputable def TurnEnd (h₀ : Heap) (L : Addr) (J : (Str → Option Value) → List (Addr × Obj) → Prop) (I : Addr × Obj) (adrs : List Addr) (s₁ s₂ : Shared) : Prop :=
  ∃ h' tk m' news', s₂ = { s₁ with heap := h', toks := tk } ∧ Fr h₀ L h' m' ∧ News h₀ L h' (I :: news') ∧ news'.map (·.1) = adrs ∧ J m' news'
noncomputable def TurnPost (h₀ : Heap) (L : Addr) (J : (Str → Option Value) → List (Addr × Obj) → Prop) (I : Addr × Obj) (adrs : List Addr) (s₁ : Shared) (Q : Flow → Shared → Prop) (f : Flow) (s₂ : Shared) : Prop :=
  match f with
  | .next | .cont => TurnEnd h₀ L J I adrs s₁ s₂
  | .brk => Q .next s₂
  | .ret v => Q (.ret v) s₂
theorem list_go {l I : Addr} {s : Shared} {i : Nat} (hit : s.heap.IsListIter I l i) {M : Model} {v : Value} {Q : Unit → Shared → Prop} {E : Value → Shared → Prop} (hq : Q () s) : wpAny M A (letOwnedTupleGo target (.ref I) v) Q E s := by
  obtain ⟨⟨c1, d1, dt1, sl1⟩, hi, hc1, hd1⟩ := hit
  dsimp only at hc1 hd1
  subst hc1 hd1
  unfold letOwnedTupleGo
  split
  · cases v with
    | ref a =>
      refine wpAny_bind (wpAny_load hi ?_)
      dsimp only
      rw [if_neg (by intro e; have e1 := (Bool.and_eq_true_iff.mp e).1; revert e1; decide)]
      exact wpAny_pure hq
    | _ => exact wpAny_pure hq
  · cases v with
    | ref a =>
      refine wpAny_bind (wpAny_load hi ?_)
      dsimp only
      rw [if_neg (by intro e; have e1 := (Bool.and_eq_true_iff.mp e).1; revert e1; decide)]
      exact wpAny_pure hq
    | _ => exact wpAny_pure hq
  · exact wpAny_pure hq

theorem for_led {l : Addr} {vs : List Value} {m₀ : Str → Option Value} {news₀ : List (Addr × Obj)} {s : Shared} {h₀ : Heap} (J : Nat → (Str → Option Value) → List (Addr × Obj) → Prop)
    (hh : A.handled = none) (F : Fr h₀ env.locals s.heap m₀) (N : News h₀ env.locals s.heap news₀) (hj : J 0 m₀ news₀)
    (hl : ∀ i m news h, J i m news → Fr h₀ env.locals h m → News h₀ env.locals h news → h.IsList l vs.toArray)
    (turn : ∀ i v m₁ news₁ h tk I (oI : Obj), vs[i]? = some v → news₁.map (·.1) = news₀.map (·.1) → (∀ p ∈ news₁, p.1 < I) → env.locals < I → J i m₁ news₁ → Fr h₀ env.locals h m₁ → News h₀ env.locals h ((I, oI) :: news₁) →
      wpAny (model prog w) A (assign target env v) (fun _ s₂ => wpAny (model prog w) A (execs body env) (TurnPost h₀ env.locals (J (i + 1)) (I, oI) (news₀.map (·.1)) { s with heap := h, toks := tk } Q) nE s₂) nE { s with heap := h, toks := tk })
    (done : ∀ m₁ news₁ h tk, J vs.length m₁ news₁ → news₁.map (·.1) = news₀.map (·.1) → Fr h₀ env.locals h m₁ → News h₀ env.locals h news₁ → Q .next { s with heap := h, toks := tk }) :
    ForAt prog w A env target body Q (.ref l) s := by
  have hls := hl 0 m₀ news₀ s.heap hj F N
  refine wpAny_pyIter_list hls ?_
  refine ⟨vs.length + 1, ?_⟩
  have hIs : ∀ p ∈ news₀, p.1 < s.heap.objs.size := fun p hp => Heap.lt_size (N p hp).1
  have hLs : env.locals < s.heap.objs.size := F.ns.lt
  have hI0 : ∀ b, b ∈ news₀.map (·.1) → b < s.heap.objs.size := fun b hb => by
    obtain ⟨p, hp, rfl⟩ := List.mem_map.mp hb; exact hIs p hp
  generalize hIe : s.heap.objs.size = I at *
  have hIn : h₀.get? I = none := by
    cases q : h₀.get? I with
    | none => rfl
    | some o => exact absurd (Nat.lt_of_lt_of_le (Heap.lt_size q) F.above) (Nat.not_lt.mpr (Nat.le_of_lt hLs))
  suffices key : ∀ k i m₁ news₁ h tk oI, vs.length = i + k → J i m₁ news₁ → news₁.map (·.1) = news₀.map (·.1) → Fr h₀ env.locals h m₁ → oI.cls = .type "list_iterator" → oI.data = .fields #[.ref l, .int i 0] → News h₀ env.locals h ((I, oI) :: news₁) →
      FRest prog w A env target body Q (.ref I) (k + 1) { s with heap := h, toks := tk } by
    refine key vs.length 0 m₀ news₀ _ s.toks (itObj l 0) (by omega) hj rfl (F.push _) rfl rfl ?_
    have := N.push F (itObj l 0)
    rw [hIe] at this
    exact this
  intro k
  induction k with
  | zero =>
    intro i m₁ news₁ h tk oI hk hJ hadr F₁ hoc hod N₁
    have hi := (N₁ _ (.head _)).1
    refine wpAny_pyNext_list_end hh ⟨_, hi, hoc, hod⟩ (hl i m₁ news₁ h hJ F₁ (fun p hp => N₁ p (.tail _ hp))) (by simp; omega) (fun h' hx => ?_)
    have hne : ∀ p ∈ news₁, p.1 ≠ I := fun p hp => Nat.ne_of_lt (hI0 p.1 (hadr ▸ List.mem_map_of_mem hp))
    have hLI : env.locals ≠ I := Nat.ne_of_lt hLs
    have hi' : i = vs.length := by omega
    subst hi'
    refine done m₁ news₁ h' tk hJ hadr ⟨?_, fun b o e => hx b o (fun q => by subst q; rw [hIn] at e; cases e) (F₁.keep b o e), F₁.above⟩ fun p hp => ⟨hx _ _ (hne p hp) (N₁ p (.tail _ hp)).1, (N₁ p (.tail _ hp)).2⟩
    obtain ⟨o, e1, e2, e3, e4⟩ := F₁.ns
    exact ⟨o, e1, e2, hx _ _ hLI e3, e4⟩
  | succ k ih =>
    intro i m₁ news₁ h tk oI hk hJ hadr F₁ hoc hod N₁
    have hi := (N₁ _ (.head _)).1
    have hlt : i < vs.length := by omega
    have hne : ∀ p ∈ news₁, p.1 ≠ I := fun p hp => Nat.ne_of_lt (hI0 p.1 (hadr ▸ List.mem_map_of_mem hp))
    have hLI : env.locals ≠ I := Nat.ne_of_lt hLs
    refine wpAny_pyNext_list_item ⟨_, hi, hoc, hod⟩ (hl i m₁ news₁ h hJ F₁ (fun p hp => N₁ p (.tail _ hp))) (x := vs[i]) (by simp [hlt]) (fun h' hit hs => ?_)
    obtain ⟨o2, e1, e2, e3⟩ := id hit
    have F₂ : Fr h₀ env.locals h' m₁ := ⟨F₁.ns.sameBut hs hLI, fun b o e => (hs.2 b (fun q => by subst q; rw [hIn] at e; cases e)).trans (F₁.keep b o e), F₁.above⟩
    have N₂ : News h₀ env.locals h' ((I, o2) :: news₁) := fun p hp => by
      rcases List.mem_cons.mp hp with rfl | hp
      · exact ⟨e1, fun q => hLI q.symm, hIn⟩
      · exact ⟨(hs.2 _ (hne p hp)).trans (N₁ p (.tail _ hp)).1, (N₁ p (.tail _ hp)).2⟩
    refine list_go hit ?_
    refine wpAny_mono (turn i vs[i] m₁ news₁ h' tk I o2 (by simp [hlt]) hadr (fun p hp => hI0 p.1 (hadr ▸ List.mem_map_of_mem hp)) hLs hJ F₂ N₂) (fun _ s₂ h2 => wpAny_mono h2 (fun f s₃ h3 => ?_) fun _ _ z => z) fun _ _ z => z
    have go : TurnEnd h₀ env.locals (J (i + 1)) (I, o2) (news₀.map (·.1)) { s with heap := h', toks := tk } s₃ → FRest prog w A env target body Q (.ref I) (k + 1) s₃ := by
      rintro ⟨hh3, tk3, m3, news3, rfl, F3, N3, ha3, hJ3⟩
      exact ih (i + 1) m3 news3 hh3 tk3 o2 (by omega) hJ3 ha3 F3 e2 (by rw [e3]) N3
    cases f with
    | next => exact go h3
    | cont => exact go h3
    | brk => exact h3
    | ret v => exact h3
end
end Mine
end partLF
section partLG
open PySem PySem.W PyProof.Rows PySem.Calls
set_option Elab.async false
set_option maxRecDepth 100000
set_option maxHeartbeats 1000000
namespace Mine
theorem reset_LG : True := by
  w_top off
  k_with_none
  trivial
theorem words_LG : True := by
  k_with "k_ne" => (refine neN ?_; first | with_reducible assumption | exact Ne.symm (by with_reducible assumption) | exact Nat.ne_of_lt (by with_reducible assumption) | exact Nat.ne_of_gt (by with_reducible assumption) | (refine' Nat.ne_of_lt (And.left ?hZ9); (case hZ9 => with_reducible assumption)) | (refine' Nat.ne_of_lt (And.left (And.right ?hZ9)); (case hZ9 => with_reducible assumption)) | (refine' Nat.ne_of_lt (And.left (And.right (And.right ?hZ9))); (case hZ9 => with_reducible assumption)) | (refine' Nat.ne_of_lt (And.left (And.right (And.right (And.right ?hZ9)))); (case hZ9 => with_reducible assumption)) | (refine' Nat.ne_of_lt (And.left (And.right (And.right (And.right (And.right ?hZ9))))); (case hZ9 => with_reducible assumption)) | (refine' Nat.ne_of_lt (And.left (And.right (And.right (And.right (And.right (And.right ?hZ9)))))); (case hZ9 => with_reducible assumption)) | (refine' Nat.ne_of_lt (And.left (And.right (And.right (And.right (And.right (And.right (And.right ?hZ9))))))); (case hZ9 => with_reducible assumption)) | (refine' Nat.ne_of_lt (And.left (And.right (And.right (And.right (And.right (And.right (And.right (And.right ?hZ9)))))))); (case hZ9 => with_reducible assumption)) | (refine' Nat.ne_of_lt (And.left (And.right (And.right (And.right (And.right (And.right (And.right (And.right (And.right ?hZ9))))))))); (case hZ9 => with_reducible assumption)) | (refine' Nat.ne_of_gt (And.left ?hZ9); (case hZ9 => with_reducible assumption)) | (refine' Nat.ne_of_gt (And.left (And.right ?hZ9)); (case hZ9 => with_reducible assumption)) | (refine' Nat.ne_of_gt (And.left (And.right (And.right ?hZ9))); (case hZ9 => with_reducible assumption)) | (refine' Nat.ne_of_gt (And.left (And.right (And.right (And.right ?hZ9)))); (case hZ9 => with_reducible assumption)) | (refine' Nat.ne_of_gt (And.left (And.right (And.right (And.right (And.right ?hZ9))))); (case hZ9 => with_reducible assumption)) | (refine' Nat.ne_of_gt (And.left (And.right (And.right (And.right (And.right (And.right ?hZ9)))))); (case hZ9 => with_reducible assumption)) | (refine' Nat.ne_of_gt (And.left (And.right (And.right (And.right (And.right (And.right (And.right ?hZ9))))))); (case hZ9 => with_reducible assumption)) | (refine' Nat.ne_of_gt (And.left (And.right (And.right (And.right (And.right (And.right (And.right (And.right ?hZ9)))))))); (case hZ9 => with_reducible assumption)) | (refine' Nat.ne_of_gt (And.left (And.right (And.right (And.right (And.right (And.right (And.right (And.right (And.right ?hZ9))))))))); (case hZ9 => with_reducible assumption)) | ((try dsimp only); omega))
  k_with "callWith ref" => (k_here; (with_reducible show wpAny _ _ (callWith _ (Value.ref _) _ (backTo _ (starEach (_ :: _) _)) []) _ _ _); k_dflt (refine' callWith_K ?k1Z9 ?k2Z9 ?_; (case k1Z9 => k_asm); (case k2Z9 => k_is); k_whole))
  trivial
section
variable {prog : Program} {w : World} {A : Around} {env : Env} {target : PySem.Expr} {body : List Stmt} {Q : Flow → Shared → Prop}
/-- two names of the frame are free, the others stand -/
noncomputable abbrev fr2 (x1 x2 : Str) (u m₀ : Str → Option Value) : Str → Option Value := fun y => if y = x1 then u y else if y = x2 then u y else m₀ y
noncomputable def Same2 (x1 x2 : Str) (m m₀ : Str → Option Value) : Prop := ∀ y, y ≠ x1 → y ≠ x2 → m y = m₀ y
theorem Same2.eq {x1 x2 : Str} {m m₀ : Str → Option Value} (h : Same2 x1 x2 m m₀) : m = fr2 x1 x2 m m₀ := by
  funext y
  by_cases h1 : y = x1
  · simp [h1]
  · by_cases h2 : y = x2
    · simp [h2]
    · simp only [if_neg h1, if_neg h2]; exact h y h1 h2
noncomputable def TurnEnd2 (h₀ : Heap) (L : Addr) (J : List (Addr × Obj) → Prop) (x1 x2 : Str) (m₀ : Str → Option Value) (I : Addr × Obj) (adrs : List Addr) (s₁ s₂ : Shared) : Prop :=
  ∃ h' tk m' news', s₂ = { s₁ with heap := h', toks := tk } ∧ Fr h₀ L h' m' ∧ News h₀ L h' (I :: news') ∧ news'.map (·.1) = adrs ∧ Same2 x1 x2 m' m₀ ∧ J news'
noncomputable def TurnPost2 (h₀ : Heap) (L : Addr) (J : List (Addr × Obj) → Prop) (x1 x2 : Str) (m₀ : Str → Option Value) (I : Addr × Obj) (adrs : List Addr) (s₁ : Shared) (Q : Flow → Shared → Prop) (f : Flow) (s₂ : Shared) : Prop :=
  match f with
  | .next | .cont => TurnEnd2 h₀ L J x1 x2 m₀ I adrs s₁ s₂
  | .brk => Q .next s₂
  | .ret v => Q (.ret v) s₂
theorem for_led2 (x1 x2 : Str) {l : Addr} {vs : List Value} {m₀ : Str → Option Value} {news₀ : List (Addr × Obj)} {s : Shared} {h₀ : Heap} (J : Nat → List (Addr × Obj) → Prop)
    (hh : A.handled = none) (F : Fr h₀ env.locals s.heap m₀) (N : News h₀ env.locals s.heap news₀) (hj : J 0 news₀)
    (hl : ∀ i news h, J i news → Keep h₀ h → News h₀ env.locals h news → h.IsList l vs.toArray)
    (turn : ∀ i v u news₁ h tk I (oI : Obj), vs[i]? = some v → news₁.map (·.1) = news₀.map (·.1) → (∀ p ∈ news₁, p.1 < I) → env.locals < I → J i news₁ → Fr h₀ env.locals h (fr2 x1 x2 u m₀) → News h₀ env.locals h ((I, oI) :: news₁) →
      wpAny (model prog w) A (assign target env v) (fun _ s₂ => wpAny (model prog w) A (execs body env) (TurnPost2 h₀ env.locals (J (i + 1)) x1 x2 m₀ (I, oI) (news₀.map (·.1)) { s with heap := h, toks := tk } Q) nE s₂) nE { s with heap := h, toks := tk })
    (done : ∀ u news₁ h tk, J vs.length news₁ → news₁.map (·.1) = news₀.map (·.1) → Fr h₀ env.locals h (fr2 x1 x2 u m₀) → News h₀ env.locals h news₁ → Q .next { s with heap := h, toks := tk }) :
    ForAt prog w A env target body Q (.ref l) s := by
  refine for_led (vs := vs) (fun i m news => Same2 x1 x2 m m₀ ∧ J i news) hh F N ⟨fun _ _ _ => rfl, hj⟩ ?_ ?_ ?_
  · rintro i m news h ⟨_, hJ⟩ F1 N1
    exact hl i news h hJ F1.keep N1
  · rintro i v m news h tk I oI hv ha hlt hL ⟨hs, hJ⟩ F1 N1
    rw [hs.eq] at F1
    refine wpAny_mono (turn i v m news h tk I oI hv ha hlt hL hJ F1 N1) (fun _ s₂ h2 => wpAny_mono h2 (fun f s₃ h3 => ?_) fun _ _ z => z) fun _ _ z => z
    cases f with
    | next => obtain ⟨h', tk', m', news', e, F', N', ha', hs', hj'⟩ := h3; exact ⟨h', tk', m', news', e, F', N', ha', hs', hj'⟩
    | cont => obtain ⟨h', tk', m', news', e, F', N', ha', hs', hj'⟩ := h3; exact ⟨h', tk', m', news', e, F', N', ha', hs', hj'⟩
    | brk => exact h3
    | ret v => exact h3
  · rintro m news h tk ⟨hs, hJ⟩ ha F1 N1
    rw [hs.eq] at F1
    exact done m news h tk hJ ha F1 N1
noncomputable def TurnEnd1 (h₀ : Heap) (L : Addr) (J : Prop) (x1 x2 : Str) (m₀ : Str → Option Value) (news : List (Addr × Obj)) (s₁ s₂ : Shared) : Prop :=
  ∃ h' tk m', s₂ = { s₁ with heap := h', toks := tk } ∧ Fr h₀ L h' m' ∧ News h₀ L h' news ∧ Same2 x1 x2 m' m₀ ∧ J
noncomputable def TurnPost1 (h₀ : Heap) (L : Addr) (J : Prop) (x1 x2 : Str) (m₀ : Str → Option Value) (news : List (Addr × Obj)) (s₁ : Shared) (Q : Flow → Shared → Prop) (f : Flow) (s₂ : Shared) : Prop :=
  match f with
  | .next | .cont => TurnEnd1 h₀ L J x1 x2 m₀ news s₁ s₂
  | .brk => Q .next s₂
  | .ret v => Q (.ret v) s₂
theorem for_led1 (x1 x2 : Str) {l : Addr} {vs : List Value} {m₀ : Str → Option Value} {news₀ : List (Addr × Obj)} {s : Shared} {h₀ : Heap} (J : Nat → Prop)
    (hh : A.handled = none) (F : Fr h₀ env.locals s.heap m₀) (N : News h₀ env.locals s.heap news₀) (hj : J 0)
    (hl : ∀ h, Keep h₀ h → News h₀ env.locals h news₀ → h.IsList l vs.toArray)
    (turn : ∀ i v u h tk I (oI : Obj), vs[i]? = some v → (∀ p ∈ news₀, p.1 < I) → env.locals < I → J i → Fr h₀ env.locals h (fr2 x1 x2 u m₀) → News h₀ env.locals h ((I, oI) :: news₀) →
      wpAny (model prog w) A (assign target env v) (fun _ s₂ => wpAny (model prog w) A (execs body env) (TurnPost1 h₀ env.locals (J (i + 1)) x1 x2 m₀ ((I, oI) :: news₀) { s with heap := h, toks := tk } Q) nE s₂) nE { s with heap := h, toks := tk })
    (done : ∀ u h tk, J vs.length → Fr h₀ env.locals h (fr2 x1 x2 u m₀) → News h₀ env.locals h news₀ → Q .next { s with heap := h, toks := tk }) :
    ForAt prog w A env target body Q (.ref l) s := by
  refine for_led2 x1 x2 (vs := vs) (fun i news => news = news₀ ∧ J i) hh F N ⟨rfl, hj⟩ ?_ ?_ ?_
  · rintro i news h ⟨rfl, _⟩ hk N1
    exact hl h hk N1
  · rintro i v u news h tk I oI hv ha hlt hL ⟨rfl, hJ⟩ F1 N1
    refine wpAny_mono (turn i v u h tk I oI hv hlt hL hJ F1 N1) (fun _ s₂ h2 => wpAny_mono h2 (fun f s₃ h3 => ?_) fun _ _ z => z) fun _ _ z => z
    cases f with
    | next => obtain ⟨h', tk', m', e, F', N', hs', hj'⟩ := h3; exact ⟨h', tk', m', _, e, F', N', rfl, hs', rfl, hj'⟩
    | cont => obtain ⟨h', tk', m', e, F', N', hs', hj'⟩ := h3; exact ⟨h', tk', m', _, e, F', N', rfl, hs', rfl, hj'⟩
    | brk => exact h3
    | ret v => exact h3
  · rintro u news h tk ⟨rfl, hJ⟩ ha F1 N1
    exact done u h tk hJ F1 N1
end
/-- a call that changes the ledger -/
noncomputable def MutCt (w : World) (d u : Nat) (f : Value) (args : List Value) (kw : List (Str × Value)) (news : List (Addr × Obj)) (P : Value → List (Addr × Obj) → Prop) : Prop :=
  ∀ (loose : List Str) (mean : ExcName → Option Value) (mg mb : Str → Option Value) (dp un : Nat) (gd : Option (List Code)) (cn : Str) (cs : Scope) (a : Addr) (ccd : Value) (cl : List (Str × Addr)) (outer : List Env) (A₀ : Around) (base h₀ : Heap) (L : Addr) (m : Str → Option Value) (s : Shared) (Q E : Value → Shared → Prop),
    Below A₀ base outer h₀ → Fr h₀ L s.heap m → (Mine.mkK.heap_1 w.params).In h₀ → News h₀ L s.heap news → Top topProg loose mean mg mb h₀ → cs.kind = .function →
    dp < d → un < u → (∀ r h' tk' news', P r news' → Fr h₀ L h' m → News h₀ L h' news' → Q r { s with heap := h', toks := tk' }) →
    wpAny (model PySem.Challenge.rw_re0168_01.prog w) (ktrTop dp un gd cn cs L a ccd cl outer) (PySem.call f args kw) Q E s
theorem MutCt.use {w : World} {d u : Nat} {f : Value} {args : List Value} {kw : List (Str × Value)} {news : List (Addr × Obj)} {P : Value → List (Addr × Obj) → Prop} (C : MutCt w d u f args kw news P)
    {loose : List Str} {mean : ExcName → Option Value} {mg mb : Str → Option Value} {dp un : Nat} {gd : Option (List Code)} {cn : Str} {cs : Scope} {a : Addr} {ccd : Value} {cl : List (Str × Addr)} {outer : List Env} {A₀ : Around} {base h₀ : Heap} {L : Addr} {m : Str → Option Value} {s : Shared} {Q E : Value → Shared → Prop}
    (B : Below A₀ base outer h₀) (F : Fr h₀ L s.heap m) (X : (Mine.mkK.heap_1 w.params).In h₀) (N : News h₀ L s.heap news) (T : Top topProg loose mean mg mb h₀) (hk : cs.kind = .function) (hd : dp < d) (hu : un < u)
    (ret : ∀ r h' tk' news', P r news' → Fr h₀ L h' m → News h₀ L h' news' → Q r { s with heap := h', toks := tk' }) :
    wpAny (model PySem.Challenge.rw_re0168_01.prog w) (ktrTop dp un gd cn cs L a ccd cl outer) (PySem.call f args kw) Q E s :=
  C loose mean mg mb dp un gd cn cs a ccd cl outer A₀ base h₀ L m s Q E B F X N T hk hd hu ret
theorem MutCt.u1E {w : World} {d u : Nat} {fn : Value} {args : List Value} {kw : List (Str × Value)} {news : List (Addr × Obj)} {α0 : Type} {f : α0 → Value} {g : α0 → List (Addr × Obj)} (C : MutCt w d u fn args kw news (fun r n' => ∃ x0, r = f x0 ∧ n' = g x0))
    {loose : List Str} {mean : ExcName → Option Value} {mg mb : Str → Option Value} {dp un : Nat} {gd : Option (List Code)} {cn : Str} {cs : Scope} {a : Addr} {ccd : Value} {cl : List (Str × Addr)} {outer : List Env} {A₀ : Around} {base h₀ : Heap} {L : Addr} {m : Str → Option Value} {s : Shared} {Q E : Value → Shared → Prop}
    (B : Below A₀ base outer h₀) (F : Fr h₀ L s.heap m) (X : (Mine.mkK.heap_1 w.params).In h₀) (N : News h₀ L s.heap news) (T : Top topProg loose mean mg mb h₀) (hk : cs.kind = .function) (hd : dp < d) (hu : un < u)
    (ret : ∀ h' tk' x0, Fr h₀ L h' m → News h₀ L h' (g x0) → Q (f x0) { s with heap := h', toks := tk' }) :
    wpAny (model PySem.Challenge.rw_re0168_01.prog w) (ktrTop dp un gd cn cs L a ccd cl outer) (PySem.call fn args kw) Q E s :=
  C.use B F X N T hk hd hu fun _ h' tk' _ hP F' N' => by
    obtain ⟨x0, rfl, rfl⟩ := hP
    exact ret h' tk' x0 F' N'
theorem MutCt.u2E {w : World} {d u : Nat} {fn : Value} {args : List Value} {kw : List (Str × Value)} {news : List (Addr × Obj)} {α0 α1 : Type} {f : α0 → α1 → Value} {g : α0 → α1 → List (Addr × Obj)} (C : MutCt w d u fn args kw news (fun r n' => ∃ x0 x1, r = f x0 x1 ∧ n' = g x0 x1))
    {loose : List Str} {mean : ExcName → Option Value} {mg mb : Str → Option Value} {dp un : Nat} {gd : Option (List Code)} {cn : Str} {cs : Scope} {a : Addr} {ccd : Value} {cl : List (Str × Addr)} {outer : List Env} {A₀ : Around} {base h₀ : Heap} {L : Addr} {m : Str → Option Value} {s : Shared} {Q E : Value → Shared → Prop}
    (B : Below A₀ base outer h₀) (F : Fr h₀ L s.heap m) (X : (Mine.mkK.heap_1 w.params).In h₀) (N : News h₀ L s.heap news) (T : Top topProg loose mean mg mb h₀) (hk : cs.kind = .function) (hd : dp < d) (hu : un < u)
    (ret : ∀ h' tk' x0 x1, Fr h₀ L h' m → News h₀ L h' (g x0 x1) → Q (f x0 x1) { s with heap := h', toks := tk' }) :
    wpAny (model PySem.Challenge.rw_re0168_01.prog w) (ktrTop dp un gd cn cs L a ccd cl outer) (PySem.call fn args kw) Q E s :=
  C.use B F X N T hk hd hu fun _ h' tk' _ hP F' N' => by
    obtain ⟨x0, x1, rfl, rfl⟩ := hP
    exact ret h' tk' x0 x1 F' N'
theorem MutCt.u3E {w : World} {d u : Nat} {fn : Value} {args : List Value} {kw : List (Str × Value)} {news : List (Addr × Obj)} {α0 α1 α2 : Type} {f : α0 → α1 → α2 → Value} {g : α0 → α1 → α2 → List (Addr × Obj)} (C : MutCt w d u fn args kw news (fun r n' => ∃ x0 x1 x2, r = f x0 x1 x2 ∧ n' = g x0 x1 x2))
    {loose : List Str} {mean : ExcName → Option Value} {mg mb : Str → Option Value} {dp un : Nat} {gd : Option (List Code)} {cn : Str} {cs : Scope} {a : Addr} {ccd : Value} {cl : List (Str × Addr)} {outer : List Env} {A₀ : Around} {base h₀ : Heap} {L : Addr} {m : Str → Option Value} {s : Shared} {Q E : Value → Shared → Prop}
    (B : Below A₀ base outer h₀) (F : Fr h₀ L s.heap m) (X : (Mine.mkK.heap_1 w.params).In h₀) (N : News h₀ L s.heap news) (T : Top topProg loose mean mg mb h₀) (hk : cs.kind = .function) (hd : dp < d) (hu : un < u)
    (ret : ∀ h' tk' x0 x1 x2, Fr h₀ L h' m → News h₀ L h' (g x0 x1 x2) → Q (f x0 x1 x2) { s with heap := h', toks := tk' }) :
    wpAny (model PySem.Challenge.rw_re0168_01.prog w) (ktrTop dp un gd cn cs L a ccd cl outer) (PySem.call fn args kw) Q E s :=
  C.use B F X N T hk hd hu fun _ h' tk' _ hP F' N' => by
    obtain ⟨x0, x1, x2, rfl, rfl⟩ := hP
    exact ret h' tk' x0 x1 x2 F' N'
theorem MutCt.u8E {w : World} {d u : Nat} {fn : Value} {args : List Value} {kw : List (Str × Value)} {news : List (Addr × Obj)} {α0 α1 α2 α3 α4 α5 α6 α7 : Type} {f : α0 → α1 → α2 → α3 → α4 → α5 → α6 → α7 → Value} {g : α0 → α1 → α2 → α3 → α4 → α5 → α6 → α7 → List (Addr × Obj)} (C : MutCt w d u fn args kw news (fun r n' => ∃ x0 x1 x2 x3 x4 x5 x6 x7, r = f x0 x1 x2 x3 x4 x5 x6 x7 ∧ n' = g x0 x1 x2 x3 x4 x5 x6 x7))
    {loose : List Str} {mean : ExcName → Option Value} {mg mb : Str → Option Value} {dp un : Nat} {gd : Option (List Code)} {cn : Str} {cs : Scope} {a : Addr} {ccd : Value} {cl : List (Str × Addr)} {outer : List Env} {A₀ : Around} {base h₀ : Heap} {L : Addr} {m : Str → Option Value} {s : Shared} {Q E : Value → Shared → Prop}
    (B : Below A₀ base outer h₀) (F : Fr h₀ L s.heap m) (X : (Mine.mkK.heap_1 w.params).In h₀) (N : News h₀ L s.heap news) (T : Top topProg loose mean mg mb h₀) (hk : cs.kind = .function) (hd : dp < d) (hu : un < u)
    (ret : ∀ h' tk' x0 x1 x2 x3 x4 x5 x6 x7, Fr h₀ L h' m → News h₀ L h' (g x0 x1 x2 x3 x4 x5 x6 x7) → Q (f x0 x1 x2 x3 x4 x5 x6 x7) { s with heap := h', toks := tk' }) :
    wpAny (model PySem.Challenge.rw_re0168_01.prog w) (ktrTop dp un gd cn cs L a ccd cl outer) (PySem.call fn args kw) Q E s :=
  C.use B F X N T hk hd hu fun _ h' tk' _ hP F' N' => by
    obtain ⟨x0, x1, x2, x3, x4, x5, x6, x7, rfl, rfl⟩ := hP
    exact ret h' tk' x0 x1 x2 x3 x4 x5 x6 x7 F' N'
theorem MutCt.u2S {w : World} {d u : Nat} {fn : Value} {args : List Value} {kw : List (Str × Value)} {news : List (Addr × Obj)} {α0 α1 : Type} {f : α0 → α1 → Value} {g : α0 → α1 → List (Addr × Obj)} {S : α0 → α1 → Prop} (C : MutCt w d u fn args kw news (fun r n' => ∃ x0 x1, r = f x0 x1 ∧ n' = g x0 x1 ∧ S x0 x1))
    {loose : List Str} {mean : ExcName → Option Value} {mg mb : Str → Option Value} {dp un : Nat} {gd : Option (List Code)} {cn : Str} {cs : Scope} {a : Addr} {ccd : Value} {cl : List (Str × Addr)} {outer : List Env} {A₀ : Around} {base h₀ : Heap} {L : Addr} {m : Str → Option Value} {s : Shared} {Q E : Value → Shared → Prop}
    (B : Below A₀ base outer h₀) (F : Fr h₀ L s.heap m) (X : (Mine.mkK.heap_1 w.params).In h₀) (N : News h₀ L s.heap news) (T : Top topProg loose mean mg mb h₀) (hk : cs.kind = .function) (hd : dp < d) (hu : un < u)
    (ret : ∀ h' tk' x0 x1, S x0 x1 → Fr h₀ L h' m → News h₀ L h' (g x0 x1) → Q (f x0 x1) { s with heap := h', toks := tk' }) :
    wpAny (model PySem.Challenge.rw_re0168_01.prog w) (ktrTop dp un gd cn cs L a ccd cl outer) (PySem.call fn args kw) Q E s :=
  C.use B F X N T hk hd hu fun _ h' tk' _ hP F' N' => by
    obtain ⟨x0, x1, rfl, rfl, hS⟩ := hP
    exact ret h' tk' x0 x1 hS F' N'
theorem MutCt.u4S {w : World} {d u : Nat} {fn : Value} {args : List Value} {kw : List (Str × Value)} {news : List (Addr × Obj)} {α0 α1 α2 α3 : Type} {f : α0 → α1 → α2 → α3 → Value} {g : α0 → α1 → α2 → α3 → List (Addr × Obj)} {S : α0 → α1 → α2 → α3 → Prop} (C : MutCt w d u fn args kw news (fun r n' => ∃ x0 x1 x2 x3, r = f x0 x1 x2 x3 ∧ n' = g x0 x1 x2 x3 ∧ S x0 x1 x2 x3))
    {loose : List Str} {mean : ExcName → Option Value} {mg mb : Str → Option Value} {dp un : Nat} {gd : Option (List Code)} {cn : Str} {cs : Scope} {a : Addr} {ccd : Value} {cl : List (Str × Addr)} {outer : List Env} {A₀ : Around} {base h₀ : Heap} {L : Addr} {m : Str → Option Value} {s : Shared} {Q E : Value → Shared → Prop}
    (B : Below A₀ base outer h₀) (F : Fr h₀ L s.heap m) (X : (Mine.mkK.heap_1 w.params).In h₀) (N : News h₀ L s.heap news) (T : Top topProg loose mean mg mb h₀) (hk : cs.kind = .function) (hd : dp < d) (hu : un < u)
    (ret : ∀ h' tk' x0 x1 x2 x3, S x0 x1 x2 x3 → Fr h₀ L h' m → News h₀ L h' (g x0 x1 x2 x3) → Q (f x0 x1 x2 x3) { s with heap := h', toks := tk' }) :
    wpAny (model PySem.Challenge.rw_re0168_01.prog w) (ktrTop dp un gd cn cs L a ccd cl outer) (PySem.call fn args kw) Q E s :=
  C.use B F X N T hk hd hu fun _ h' tk' _ hP F' N' => by
    obtain ⟨x0, x1, x2, x3, rfl, rfl, hS⟩ := hP
    exact ret h' tk' x0 x1 x2 x3 hS F' N'
theorem MutCt.u9S {w : World} {d u : Nat} {fn : Value} {args : List Value} {kw : List (Str × Value)} {news : List (Addr × Obj)} {α0 α1 α2 α3 α4 α5 α6 α7 α8 : Type} {f : α0 → α1 → α2 → α3 → α4 → α5 → α6 → α7 → α8 → Value} {g : α0 → α1 → α2 → α3 → α4 → α5 → α6 → α7 → α8 → List (Addr × Obj)} {S : α0 → α1 → α2 → α3 → α4 → α5 → α6 → α7 → α8 → Prop} (C : MutCt w d u fn args kw news (fun r n' => ∃ x0 x1 x2 x3 x4 x5 x6 x7 x8, r = f x0 x1 x2 x3 x4 x5 x6 x7 x8 ∧ n' = g x0 x1 x2 x3 x4 x5 x6 x7 x8 ∧ S x0 x1 x2 x3 x4 x5 x6 x7 x8))
    {loose : List Str} {mean : ExcName → Option Value} {mg mb : Str → Option Value} {dp un : Nat} {gd : Option (List Code)} {cn : Str} {cs : Scope} {a : Addr} {ccd : Value} {cl : List (Str × Addr)} {outer : List Env} {A₀ : Around} {base h₀ : Heap} {L : Addr} {m : Str → Option Value} {s : Shared} {Q E : Value → Shared → Prop}
    (B : Below A₀ base outer h₀) (F : Fr h₀ L s.heap m) (X : (Mine.mkK.heap_1 w.params).In h₀) (N : News h₀ L s.heap news) (T : Top topProg loose mean mg mb h₀) (hk : cs.kind = .function) (hd : dp < d) (hu : un < u)
    (ret : ∀ h' tk' x0 x1 x2 x3 x4 x5 x6 x7 x8, S x0 x1 x2 x3 x4 x5 x6 x7 x8 → Fr h₀ L h' m → News h₀ L h' (g x0 x1 x2 x3 x4 x5 x6 x7 x8) → Q (f x0 x1 x2 x3 x4 x5 x6 x7 x8) { s with heap := h', toks := tk' }) :
    wpAny (model PySem.Challenge.rw_re0168_01.prog w) (ktrTop dp un gd cn cs L a ccd cl outer) (PySem.call fn args kw) Q E s :=
  C.use B F X N T hk hd hu fun _ h' tk' _ hP F' N' => by
    obtain ⟨x0, x1, x2, x3, x4, x5, x6, x7, x8, rfl, rfl, hS⟩ := hP
    exact ret h' tk' x0 x1 x2 x3 x4 x5 x6 x7 x8 hS F' N'
theorem MutCt.u3R {w : World} {d u : Nat} {fn : Value} {args : List Value} {kw : List (Str × Value)} {news : List (Addr × Obj)} {α0 α1 α2 : Type} {f : α0 → α1 → α2 → Value} {g : α0 → α1 → α2 → List (Addr × Obj)} {R : α0 → α1 → α2 → Prop} (C : MutCt w d u fn args kw news (fun r n' => ∃ x0 x1 x2, r = f x0 x1 x2 ∧ R x0 x1 x2 ∧ n' = g x0 x1 x2))
    {loose : List Str} {mean : ExcName → Option Value} {mg mb : Str → Option Value} {dp un : Nat} {gd : Option (List Code)} {cn : Str} {cs : Scope} {a : Addr} {ccd : Value} {cl : List (Str × Addr)} {outer : List Env} {A₀ : Around} {base h₀ : Heap} {L : Addr} {m : Str → Option Value} {s : Shared} {Q E : Value → Shared → Prop}
    (B : Below A₀ base outer h₀) (F : Fr h₀ L s.heap m) (X : (Mine.mkK.heap_1 w.params).In h₀) (N : News h₀ L s.heap news) (T : Top topProg loose mean mg mb h₀) (hk : cs.kind = .function) (hd : dp < d) (hu : un < u)
    (ret : ∀ h' tk' x0 x1 x2, R x0 x1 x2 → Fr h₀ L h' m → News h₀ L h' (g x0 x1 x2) → Q (f x0 x1 x2) { s with heap := h', toks := tk' }) :
    wpAny (model PySem.Challenge.rw_re0168_01.prog w) (ktrTop dp un gd cn cs L a ccd cl outer) (PySem.call fn args kw) Q E s :=
  C.use B F X N T hk hd hu fun _ h' tk' _ hP F' N' => by
    obtain ⟨x0, x1, x2, rfl, hR, rfl⟩ := hP
    exact ret h' tk' x0 x1 x2 hR F' N'
theorem MutCt.u5R {w : World} {d u : Nat} {fn : Value} {args : List Value} {kw : List (Str × Value)} {news : List (Addr × Obj)} {α0 α1 α2 α3 α4 : Type} {f : α0 → α1 → α2 → α3 → α4 → Value} {g : α0 → α1 → α2 → α3 → α4 → List (Addr × Obj)} {R : α0 → α1 → α2 → α3 → α4 → Prop} (C : MutCt w d u fn args kw news (fun r n' => ∃ x0 x1 x2 x3 x4, r = f x0 x1 x2 x3 x4 ∧ R x0 x1 x2 x3 x4 ∧ n' = g x0 x1 x2 x3 x4))
    {loose : List Str} {mean : ExcName → Option Value} {mg mb : Str → Option Value} {dp un : Nat} {gd : Option (List Code)} {cn : Str} {cs : Scope} {a : Addr} {ccd : Value} {cl : List (Str × Addr)} {outer : List Env} {A₀ : Around} {base h₀ : Heap} {L : Addr} {m : Str → Option Value} {s : Shared} {Q E : Value → Shared → Prop}
    (B : Below A₀ base outer h₀) (F : Fr h₀ L s.heap m) (X : (Mine.mkK.heap_1 w.params).In h₀) (N : News h₀ L s.heap news) (T : Top topProg loose mean mg mb h₀) (hk : cs.kind = .function) (hd : dp < d) (hu : un < u)
    (ret : ∀ h' tk' x0 x1 x2 x3 x4, R x0 x1 x2 x3 x4 → Fr h₀ L h' m → News h₀ L h' (g x0 x1 x2 x3 x4) → Q (f x0 x1 x2 x3 x4) { s with heap := h', toks := tk' }) :
    wpAny (model PySem.Challenge.rw_re0168_01.prog w) (ktrTop dp un gd cn cs L a ccd cl outer) (PySem.call fn args kw) Q E s :=
  C.use B F X N T hk hd hu fun _ h' tk' _ hP F' N' => by
    obtain ⟨x0, x1, x2, x3, x4, rfl, hR, rfl⟩ := hP
    exact ret h' tk' x0 x1 x2 x3 x4 hR F' N'
theorem MutCt.u3RS {w : World} {d u : Nat} {fn : Value} {args : List Value} {kw : List (Str × Value)} {news : List (Addr × Obj)} {α0 α1 α2 : Type} {f : α0 → α1 → α2 → Value} {g : α0 → α1 → α2 → List (Addr × Obj)} {R : α0 → α1 → α2 → Prop} {S : α0 → α1 → α2 → Prop} (C : MutCt w d u fn args kw news (fun r n' => ∃ x0 x1 x2, r = f x0 x1 x2 ∧ R x0 x1 x2 ∧ n' = g x0 x1 x2 ∧ S x0 x1 x2))
    {loose : List Str} {mean : ExcName → Option Value} {mg mb : Str → Option Value} {dp un : Nat} {gd : Option (List Code)} {cn : Str} {cs : Scope} {a : Addr} {ccd : Value} {cl : List (Str × Addr)} {outer : List Env} {A₀ : Around} {base h₀ : Heap} {L : Addr} {m : Str → Option Value} {s : Shared} {Q E : Value → Shared → Prop}
    (B : Below A₀ base outer h₀) (F : Fr h₀ L s.heap m) (X : (Mine.mkK.heap_1 w.params).In h₀) (N : News h₀ L s.heap news) (T : Top topProg loose mean mg mb h₀) (hk : cs.kind = .function) (hd : dp < d) (hu : un < u)
    (ret : ∀ h' tk' x0 x1 x2, R x0 x1 x2 → S x0 x1 x2 → Fr h₀ L h' m → News h₀ L h' (g x0 x1 x2) → Q (f x0 x1 x2) { s with heap := h', toks := tk' }) :
    wpAny (model PySem.Challenge.rw_re0168_01.prog w) (ktrTop dp un gd cn cs L a ccd cl outer) (PySem.call fn args kw) Q E s :=
  C.use B F X N T hk hd hu fun _ h' tk' _ hP F' N' => by
    obtain ⟨x0, x1, x2, rfl, hR, rfl, hS⟩ := hP
    exact ret h' tk' x0 x1 x2 hR hS F' N'
/-- a result told by what follows from it: no witness is opened one by one -/
noncomputable def Cps (P : (Value → List (Addr × Obj) → Prop) → Prop) (r : Value) (n : List (Addr × Obj)) : Prop := ∀ K : Value → List (Addr × Obj) → Prop, P K → K r n
theorem MutCt.useC {w : World} {d u : Nat} {f : Value} {args : List Value} {kw : List (Str × Value)} {news : List (Addr × Obj)} {P : (Value → List (Addr × Obj) → Prop) → Prop} (C : MutCt w d u f args kw news (Cps P))
    {loose : List Str} {mean : ExcName → Option Value} {mg mb : Str → Option Value} {dp un : Nat} {gd : Option (List Code)} {cn : Str} {cs : Scope} {a : Addr} {ccd : Value} {cl : List (Str × Addr)} {outer : List Env} {A₀ : Around} {base h₀ : Heap} {L : Addr} {m : Str → Option Value} {s : Shared} {Q E : Value → Shared → Prop}
    (B : Below A₀ base outer h₀) (F : Fr h₀ L s.heap m) (X : (Mine.mkK.heap_1 w.params).In h₀) (N : News h₀ L s.heap news) (T : Top topProg loose mean mg mb h₀) (hk : cs.kind = .function) (hd : dp < d) (hu : un < u)
    (ret : ∀ h' tk', P (fun r n' => Fr h₀ L h' m → News h₀ L h' n' → Q r { s with heap := h', toks := tk' })) :
    wpAny (model PySem.Challenge.rw_re0168_01.prog w) (ktrTop dp un gd cn cs L a ccd cl outer) (PySem.call f args kw) Q E s :=
  C loose mean mg mb dp un gd cn cs a ccd cl outer A₀ base h₀ L m s Q E B F X N T hk hd hu fun _ h' tk' _ hp F N => hp _ (ret h' tk') F N
theorem news_sub {h₀ h : Heap} {L : Addr} {news news' : List (Addr × Obj)} (N : News h₀ L h news') (hs : ∀ p ∈ news, p ∈ news') : News h₀ L h news := fun p hp => N p (hs p hp)
theorem ne_all {l : List (Addr × Obj)} {d : Addr} (h : ∀ p ∈ l, p.1 < d) : ∀ p ∈ l, p.1 ≠ d := fun p hp => Nat.ne_of_lt (h p hp)
theorem ne_all' {l : List (Addr × Obj)} {d : Addr} (h : ∀ p ∈ l, d < p.1) : ∀ p ∈ l, p.1 ≠ d := fun p hp => Nat.ne_of_gt (h p hp)
theorem lt_all {l : List (Addr × Obj)} {d e : Addr} (h : ∀ p ∈ l, p.1 < d) (h2 : d < e) : ∀ p ∈ l, p.1 < e := fun p hp => Nat.lt_trans (h p hp) h2
theorem PureCt.mono {w : World} {d u : Nat} {f : Addr} {args : List Value} {kw : List (Str × Value)} {news : List (Addr × Obj)} {P P' : Value → Prop} (C : PureCt w d u f args kw news P) (h : ∀ r, P r → P' r) : PureCt w d u f args kw news P' :=
  fun loose mean mg mb dp un gd cn cs a ccd cl outer A₀ base h₀ L m s Q E B F X N T hk hd hu hret => C loose mean mg mb dp un gd cn cs a ccd cl outer A₀ base h₀ L m s Q E B F X N T hk hd hu (fun r h' tk' hp => hret r h' tk' (h r hp))
theorem MutCt.mono {w : World} {d u : Nat} {f : Value} {args : List Value} {kw : List (Str × Value)} {news : List (Addr × Obj)} {P P' : Value → List (Addr × Obj) → Prop} (C : MutCt w d u f args kw news P) (h : ∀ r n, P r n → P' r n) : MutCt w d u f args kw news P' :=
  fun loose mean mg mb dp un gd cn cs a ccd cl outer A₀ base h₀ L m s Q E B F X N T hk hd hu hret => C loose mean mg mb dp un gd cn cs a ccd cl outer A₀ base h₀ L m s Q E B F X N T hk hd hu (fun r h' tk' n hp => hret r h' tk' n (h r n hp))
theorem allLt_all {d : Addr} : ∀ {l : List (Addr × Obj)}, AllLt d l → ∀ p ∈ l, p.1 < d
  | [], _, p, hp => by cases hp
  | q :: r, h, p, hp => by
    rcases List.mem_cons.mp hp with rfl | hp
    · exact h.1
    · exact allLt_all h.2 p hp
theorem pick_all (vs : List Value) : slicePick vs.toArray none none none = vs.toArray := by
  have e : sliceBounds none none none vs.toArray.size = (((0 : Nat) : Int), ((vs.toArray.size : Nat) : Int), 1) := rfl
  rw [kmk_pick_nat _ e]
  simp
theorem ne_all_le {l : List (Addr × Obj)} {d e : Nat} (h : ∀ p ∈ l, @LT.lt Nat _ p.1 d) (hde : d ≤ e) : ∀ p ∈ l, p.1 ≠ e := fun p hp => Nat.ne_of_lt (Nat.lt_of_lt_of_le (h p hp) hde)
theorem ne_cons {l : List (Addr × Obj)} {a b : Addr} {o : Obj} (h : b ≠ a) (hr : ∀ q ∈ l, q.1 ≠ a) : ∀ q ∈ (b, o) :: l, q.1 ≠ a := fun q hq => by
  rcases List.mem_cons.mp hq with rfl | hq
  · exact h
  · exact hr q hq
end Mine
end partLG
section partWL
open PySem PySem.W PyProof.Rows PySem.Calls
set_option Elab.async false
set_option maxRecDepth 100000
set_option maxHeartbeats 1000000
namespace Mine
theorem reset_WL : True := by
  w_top off
  k_with_none
  trivial
section
variable {prog : Program} {w : World} {A : Around} {env : Env} {test : PySem.Expr} {body : List Stmt} {Q : Flow → Shared → Prop}
noncomputable def WRest (prog : Program) (w : World) (A : Around) (env : Env) (test : PySem.Expr) (body : List Stmt) (Q : Flow → Shared → Prop) : Nat → Shared → Prop
  | 0, _ => False
  | n + 1, s => wpAny (model prog w) A (isTrue test env (eval test env)) (fun b s₂ => if b = true then wpAny (model prog w) A (execs body env) (fun f s₃ => match f with
      | .next | .cont => WRest prog w A env test body Q n s₃
      | .brk => Q .next s₃
      | .ret v => Q (.ret v) s₃) nE s₂ else Q .next s₂) nE s
theorem WRest.go {n : Nat} {s : Shared} (h : wpAny (model prog w) A (isTrue test env (eval test env)) (fun b s₂ => if b = true then wpAny (model prog w) A (execs body env) (fun f s₃ => match f with
      | .next | .cont => WRest prog w A env test body Q n s₃
      | .brk => Q .next s₃
      | .ret v => Q (.ret v) s₃) nE s₂ else Q .next s₂) nE s) : WRest prog w A env test body Q (n + 1) s := h
theorem WRest.code {s : Shared} {E : Value → Shared → Prop} (n : Nat) (h : WRest prog w A env test body Q n s) :
    codeAny (model prog w) A (.whileLoop test body [] env) (fun r s' => match r with | .ok f => Q f s' | .error e => cameBackBy (model prog w) A env E e s') s := by
  refine codeAny_whileLoop (fun k s' => WRest prog w A env test body Q k s') ?_ n h
  intro k s' hk
  cases k with
  | zero => exact hk.elim
  | succ k =>
    refine wpAny_mono (hk : wpAny (model prog w) A (isTrue test env (eval test env)) _ nE s') (fun b s₁ hr => ?_) fun _ _ z => z.elim
    cases b with
    | false => exact wpAny_execs_nil hr
    | true =>
      refine wpAny_mono (show wpAny (model prog w) A (execs body env) _ nE s₁ from hr) (fun f s₃ h3 => ?_) fun _ _ z => z.elim
      cases f with
      | next => exact ⟨k, Nat.lt_succ_self k, h3⟩
      | cont => exact ⟨k, Nat.lt_succ_self k, h3⟩
      | brk => exact h3
      | ret _ => exact h3
/-- stands at a while -/
noncomputable def WhileAt (prog : Program) (w : World) (A : Around) (env : Env) (test : PySem.Expr) (body : List Stmt) (Q : Flow → Shared → Prop) (s : Shared) : Prop := ∃ n, WRest prog w A env test body Q n s
theorem while_open {s : Shared} {pos : Pos} (h : WhileAt prog w A env test body Q s) : wpAny (model prog w) A (exec (.While test body [] pos) env) Q nE s := by
  obtain ⟨n, h⟩ := h
  exact wpAny_While (WRest.code n h)
end
end Mine
end partWL
section partEn
open PySem PySem.W PyProof.Rows PySem.Calls
set_option Elab.async false
set_option maxRecDepth 100000
set_option maxHeartbeats 1000000
namespace Mine
theorem reset_En : True := by
  w_top off
  k_with_none
  trivial
section
variable {prog : Program} {w : World} {A : Around} {env : Env} {body : List Stmt} {Q : Flow → Shared → Prop} {elts : List PySem.Expr} {ke : Nat} {pe : Pos}
/-- an enumerate over a list stands before its i-th item -/
noncomputable def EnSt (h : Heap) (e it l : Addr) (i : Nat) (vs : List Value) : Prop := (∃ old, IsEnum h e it i old) ∧ h.IsListIter it l i ∧ h.IsList l vs.toArray
noncomputable abbrev pairO (a b : Value) : Obj := { cls := .type "tuple", data := .seq #[a, b] }
theorem none_new {h₀ h : Heap} {L : Addr} {m : Str → Option Value} (F : Fr h₀ L h m) {a : Addr} (ha : h.objs.size ≤ a) : h₀.get? a = none := by
  cases q : h₀.get? a with
  | none => rfl
  | some o => exact absurd (Heap.lt_size (F.keep a o q)) (Nat.not_lt.mpr ha)
theorem fr_off {h₀ h h' : Heap} {L e it : Addr} {m : Str → Option Value} (F : Fr h₀ L h m) (hk : ∀ b o, b ∉ [e, it] → h.get? b = some o → h'.get? b = some o) (hLe : L ≠ e) (hLi : L ≠ it) (he : h₀.get? e = none) (hi : h₀.get? it = none) : Fr h₀ L h' m := by
  refine ⟨?_, fun b o q => hk b o ?_ (F.keep b o q), F.above⟩
  · obtain ⟨o, es, ep, e1, e2, e3⟩ := F.ns
    exact ⟨o, es, ep, hk _ _ (by simp [hLe, hLi]) e1, e2, e3⟩
  · intro hb
    rcases List.mem_cons.mp hb with rfl | hb
    · rw [he] at q; cases q
    · rw [List.mem_singleton] at hb; subst hb; rw [hi] at q; cases q
theorem news_off {h₀ h h' : Heap} {L e it : Addr} {news : List (Addr × Obj)} (N : News h₀ L h news) (hk : ∀ b o, b ∉ [e, it] → h.get? b = some o → h'.get? b = some o) (off : ∀ p ∈ news, p.1 ≠ e ∧ p.1 ≠ it) : News h₀ L h' news := fun p hp =>
  ⟨hk _ _ (by simp [(off p hp).1, (off p hp).2]) (N p hp).1, (N p hp).2⟩
theorem enum_item {l e it L : Addr} {vs : List Value} {i : Nat} {v : Value} {s : Shared} {h₀ : Heap} {m : Str → Option Value} {news : List (Addr × Obj)} {R : Shared → Prop} {G : Value → Shared → Prop}
    (st : EnSt s.heap e it l i vs) (hx : vs[i]? = some v) (F : Fr h₀ L s.heap m) (N : News h₀ L s.heap news) (off : ∀ p ∈ news, p.1 ≠ e ∧ p.1 ≠ it) (hei : e ≠ it) (hle : l ≠ e) (hli : l ≠ it) (hLe : L ≠ e) (hLi : L ≠ it) (he : h₀.get? e = none) (hi : h₀.get? it = none)
    (K : ∀ T t oe oi h' tk, EnSt h' e it l (i + 1) vs → Fr h₀ L h' m → News h₀ L h' ((T, pairO (.int i t) v) :: (e, oe) :: (it, oi) :: news) → (∀ p ∈ news, p.1 < T) → e < T → it < T → L < T → G (.ref T) { s with heap := h', toks := tk }) :
    wpAny (model prog w) A (pyNext (.ref e)) (fun r s₁ => match r with | none => R s₁ | some v => wpAny (model prog w) A (letOwnedTupleGo (.Tuple elts ke pe) (.ref e) v) (fun _ s₂ => G v s₂) nE s₁) nE s := by
  obtain ⟨⟨old, qe⟩, qit, ql⟩ := id st
  have helt : e < s.heap.objs.size := Heap.lt_size qe
  have hilt : it < s.heap.objs.size := by obtain ⟨_, x, _⟩ := qit; exact Heap.lt_size x
  refine wpAny_pyNext_enum_item (items := vs.toArray) (x := v) qe qit ql (by simpa using hx) hei (fun h1 ho hit1 hT hsz hk1 => ?_)
  have hTe : s.heap.objs.size ≠ e := Nat.ne_of_gt helt
  have hTi : s.heap.objs.size ≠ it := Nat.ne_of_gt hilt
  refine wpAny_letOwnedTupleGo_enum ho (fun h2 he2 hs2 => ?_)
  have hk : ∀ b o, b ∉ [e, it] → s.heap.get? b = some o → h2.get? b = some o := fun b o hb q => (hs2.2 b (fun x => hb (by simp [x]))).trans (hk1 b o (fun x => hb (by simp [x])) (fun x => hb (by simp [x])) q)
  have hit2 : h2.IsListIter it l (i + 1) := hit1.at fun o y => (hs2.2 it hei.symm).trans y
  obtain ⟨oi, qi, hic, hid⟩ := id hit2
  refine K s.heap.objs.size s.toks { cls := .type "enumerate", dict := none, data := .fields #[.none, .bool false, .ref it, rawInt ((i : Int) + 1), .none, v], slots := #[] } oi h2 _ ⟨⟨v, by simpa using he2⟩, hit2, ql.at fun o x => hk l o (by simp [hle, hli]) x⟩ (fr_off F hk hLe hLi he hi) ?_ (fun p hp => Heap.lt_size (N p hp).1) helt hilt F.ns.lt
  intro p hp
  rcases List.mem_cons.mp hp with rfl | hp
  · exact ⟨(hs2.2 _ hTe).trans hT, Nat.ne_of_gt F.ns.lt, none_new F (Nat.le_refl _)⟩
  · rcases List.mem_cons.mp hp with rfl | hp
    · exact ⟨he2, hLe.symm, he⟩
    · rcases List.mem_cons.mp hp with rfl | hp
      · exact ⟨qi, hLi.symm, hi⟩
      · exact news_off N hk off p hp
/-- the end of a turn -/
noncomputable def TurnEndE (h₀ : Heap) (L : Addr) (J : (Str → Option Value) → List (Addr × Obj) → Prop) (I1 I2 : Addr × Obj) (adrs : List Addr) (s₁ s₂ : Shared) : Prop :=
  ∃ h' tk m' news', s₂ = { s₁ with heap := h', toks := tk } ∧ Fr h₀ L h' m' ∧ News h₀ L h' (I1 :: I2 :: news') ∧ news'.map (·.1) = adrs ∧ J m' news'
noncomputable def TurnPostE (h₀ : Heap) (L : Addr) (J : (Str → Option Value) → List (Addr × Obj) → Prop) (I1 I2 : Addr × Obj) (adrs : List Addr) (s₁ : Shared) (Q : Flow → Shared → Prop) (f : Flow) (s₂ : Shared) : Prop :=
  match f with
  | .next | .cont => TurnEndE h₀ L J I1 I2 adrs s₁ s₂
  | .brk => Q .next s₂
  | .ret v => Q (.ret v) s₂
theorem for_enum {l : Addr} {vs : List Value} {n : Nat} {m₀ : Str → Option Value} {news₀ : List (Addr × Obj)} {s : Shared} {h₀ : Heap} (J : Nat → (Str → Option Value) → List (Addr × Obj) → Prop)
    (hh : A.handled = none) (F : Fr h₀ env.locals s.heap m₀) (N : News h₀ env.locals s.heap news₀) (hj : J 0 m₀ news₀)
    (hl : ∀ i m news, J i m news → (l, PySem.W.listOf vs.toArray n) ∈ news)
    (turn : ∀ i v t m₁ news₁ h tk T e it (oe oi : Obj), vs[i]? = some v → news₁.map (·.1) = news₀.map (·.1) → (∀ p ∈ news₁, p.1 < it) → it < e → e < T → env.locals < it → J i m₁ news₁ → Fr h₀ env.locals h m₁ → News h₀ env.locals h ((T, pairO (.int i t) v) :: (e, oe) :: (it, oi) :: news₁) →
      wpAny (model prog w) A (assign (.Tuple elts ke pe) env (.ref T)) (fun _ s₂ => wpAny (model prog w) A (execs body env) (TurnPostE h₀ env.locals (J (i + 1)) (e, oe) (it, oi) (news₀.map (·.1)) { s with heap := h, toks := tk } Q) nE s₂) nE { s with heap := h, toks := tk })
    (done : ∀ m₁ news₁ h tk, J vs.length m₁ news₁ → news₁.map (·.1) = news₀.map (·.1) → Fr h₀ env.locals h m₁ → News h₀ env.locals h news₁ → Q .next { s with heap := h, toks := tk }) :
    wpAny (model prog w) A (call (.type "enumerate") [.ref l]) (fun xv s₁ => ForAt prog w A env (.Tuple elts ke pe) body Q xv s₁) nE s := by
  have hm := N _ (hl 0 m₀ news₀ hj)
  have hL : s.heap.IsList l vs.toArray := ⟨_, hm.1, rfl, _, rfl⟩
  refine call_enumerate_list hL (fun h1 hE hI hsz hk => ?_)
  refine wpAny_pyIter_enum hE ⟨vs.length + 1, ?_⟩
  have hIs : ∀ b ∈ news₀.map (·.1), b < s.heap.objs.size := fun b hb => by
    obtain ⟨p, hp, rfl⟩ := List.mem_map.mp hb; exact Heap.lt_size (N p hp).1
  have hls : l < s.heap.objs.size := Heap.lt_size hm.1
  have hLs : env.locals < s.heap.objs.size := F.ns.lt
  have hi0 : h₀.get? s.heap.objs.size = none := none_new F (Nat.le_refl _)
  have he0 : h₀.get? (s.heap.objs.size + 1) = none := none_new F (Nat.le_succ _)
  have hl1 : h1.IsList l vs.toArray := ⟨_, hk _ _ hm.1, rfl, _, rfl⟩
  generalize hit : s.heap.objs.size = it at *
  have hne : it + 1 ≠ it := Nat.succ_ne_self it
  suffices key : ∀ k i m₁ news₁ h tk, vs.length = i + k → EnSt h (it + 1) it l i vs → J i m₁ news₁ → news₁.map (·.1) = news₀.map (·.1) → Fr h₀ env.locals h m₁ → News h₀ env.locals h news₁ →
      FRest prog w A env (.Tuple elts ke pe) body Q (.ref (it + 1)) (k + 1) { s with heap := h, toks := tk } by
    exact key vs.length 0 m₀ news₀ h1 s.toks (by omega) ⟨⟨_, hE⟩, hI, hl1⟩ hj rfl (F.keeps hk) (N.grown hk)
  have off : ∀ news₁ : List (Addr × Obj), news₁.map (·.1) = news₀.map (·.1) → ∀ p ∈ news₁, p.1 < it := fun news₁ ha p hp => hIs p.1 (ha ▸ List.mem_map_of_mem hp)
  intro k
  induction k with
  | zero =>
    intro i m₁ news₁ h tk hk9 st hJ ha F1 N1
    obtain ⟨⟨old, qe⟩, qit, ql⟩ := id st
    have offp := off news₁ ha
    refine wpAny_pyNext_enum_end hh qe qit ql (by simp; omega) (fun h' hx => ?_)
    obtain rfl : i = vs.length := by omega
    have hkk : ∀ b o, b ∉ [it + 1, it] → h.get? b = some o → h'.get? b = some o := fun b o hb q => hx b o (fun e => hb (by simp [e])) q
    exact done m₁ news₁ h' tk hJ ha (fr_off F1 hkk (Nat.ne_of_lt (Nat.lt_succ_of_lt hLs)) (Nat.ne_of_lt hLs) he0 hi0) (news_off N1 hkk fun p hp => ⟨Nat.ne_of_lt (Nat.lt_succ_of_lt (offp p hp)), Nat.ne_of_lt (offp p hp)⟩)
  | succ k ih =>
    intro i m₁ news₁ h tk hk9 st hJ ha F1 N1
    have offp := off news₁ ha
    have hlt : i < vs.length := by omega
    refine enum_item (v := vs[i]) st (by simp [hlt]) F1 N1 (fun p hp => ⟨Nat.ne_of_lt (Nat.lt_succ_of_lt (offp p hp)), Nat.ne_of_lt (offp p hp)⟩) hne (Nat.ne_of_lt (Nat.lt_succ_of_lt hls)) (Nat.ne_of_lt hls) (Nat.ne_of_lt (Nat.lt_succ_of_lt hLs)) (Nat.ne_of_lt hLs) he0 hi0 (fun T t oe oi h' tk' st' F2 N2 g1 g2 g3 g4 => ?_)
    refine wpAny_mono (turn i vs[i] t m₁ news₁ h' tk' T (it + 1) it oe oi (by simp [hlt]) ha offp (Nat.lt_succ_self it) g2 hLs hJ F2 N2) (fun _ s₂ h2 => wpAny_mono h2 (fun f s₃ h3 => ?_) fun _ _ z => z) fun _ _ z => z
    have qe2 := (N2 _ (.tail _ (.head _))).1
    have qi2 := (N2 _ (.tail _ (.tail _ (.head _)))).1
    have go : TurnEndE h₀ env.locals (J (i + 1)) (it + 1, oe) (it, oi) (news₀.map (·.1)) { s with heap := h', toks := tk' } s₃ → FRest prog w A env (.Tuple elts ke pe) body Q (.ref (it + 1)) (k + 1) s₃ := by
      rintro ⟨hh3, tk3, m3, news3, rfl, F3, N3, ha3, hJ3⟩
      have qe3 := (N3 _ (.head _)).1
      have qi3 := (N3 _ (.tail _ (.head _))).1
      refine ih (i + 1) m3 news3 hh3 tk3 (by omega) ?_ hJ3 ha3 F3 (fun p hp => N3 p (.tail _ (.tail _ hp)))
      obtain ⟨⟨old, q1⟩, q2, q3⟩ := st'
      refine ⟨⟨old, ?_⟩, q2.at fun o y => ?_, ⟨_, (N3 _ (.tail _ (.tail _ (hl _ _ _ hJ3)))).1, rfl, _, rfl⟩⟩
      · exact qe3.trans (qe2.symm.trans q1)
      · exact qi3.trans (qi2.symm.trans y)
    cases f with
    | next => exact go h3
    | cont => exact go h3
    | brk => exact h3
    | ret v => exact h3
end
end Mine
end partEn
section partCE
open PySem PySem.W PyProof.Rows PySem.Calls LCg
set_option Elab.async false
set_option maxRecDepth 100000
set_option maxHeartbeats 1000000
namespace Mine
theorem reset_CE : True := by
  w_top off
  k_with_none
  trivial
section
variable {prog : Program} {w : World} {A : Around} {s : Shared} {h₀ : Heap} {L : Addr} {m : Str → Option Value} {env : Env} {news : List (Addr × Obj)}
/-- a comprehension with two names, its source evaluated -/
noncomputable def CompEnAt (prog : Program) (w : World) (A : Around) (env : Env) (elt iter : PySem.Expr) (x x₂ : Str) (px px₂ tp : Pos) (kk : Nat) (scope : Scope) (cl : List (Str × Addr)) (pos : Pos) (Q : Value → Shared → Prop) (xv : Value) (s₁ : Shared) : Prop :=
  wpAny (model prog w) A (pyIter xv) (fun it s₂ => wpAny (model prog w) A (newList []) (fun acc s₃ =>
    wpAny (model prog w) A (newFunctionEnv scope env.globals cl [] env.qual none .none (some env)) (fun cenv s₄ =>
      codeAny (model prog w) A (.compStart (.ListComp elt [⟨.Tuple [.Name x px, .Name x₂ px₂] kk tp, iter, [], 0⟩] scope pos) 0 it acc { cenv with scope := relabel scope env }) (compPost (model prog w) A nE none Q acc cenv.locals) s₄) nE s₃) nE s₂) nE s₁
theorem ListComp_E {elt iter : PySem.Expr} {x x₂ : Str} {px px₂ tp : Pos} {kk : Nat} {scope : Scope} {cl : List (Str × Addr)} {pos : Pos} {Q : Value → Shared → Prop}
    (hclos : closureFor scope env = pure cl) (hkind : scope.kind = .function)
    (hnames : ∀ y ∈ scope.names, y.2 = .local → scope.names.lookup y.1 = some .local)
    (h : wpAny (model prog w) A (eval iter env) (CompEnAt prog w A env elt iter x x₂ px px₂ tp kk scope cl pos Q) nE s)
    (hs : ∀ x, foldedSetIterable iter env x = pure x := by intro _; rfl) :
    wpAny (model prog w) A (eval (.ListComp elt [⟨.Tuple [.Name x px, .Name x₂ px₂] kk tp, iter, [], 0⟩] scope pos) env) Q nE s := by
  rw [eval_ListComp]
  exact wpAny_comprehension_free (use := none) rfl hs hclos hkind hnames h
noncomputable def EnElt (h₀ : Heap) (L : Addr) (m : Str → Option Value) (J : List Value → Prop) (ys : List Value) (news : List (Addr × Obj)) (s₁ : Shared) (y : Value) (s₂ : Shared) : Prop :=
  ∃ h' tk', s₂ = { s₁ with heap := h', toks := tk' } ∧ Fr h₀ L h' m ∧ News h₀ L h' news ∧ J (ys ++ [y])
theorem comp_enum {elt iter : PySem.Expr} {x x₂ : Str} {px px₂ tp : Pos} {kk : Nat} {scope : Scope} {cl : List (Str × Addr)} {pos : Pos} {Q : Value → Shared → Prop} {l : Addr} {vs : List Value} {n : Nat} (J : Nat → List Value → Prop)
    (hh : A.handled = none) (F : Fr h₀ L s.heap m) (N : News h₀ L s.heap news) (hm : (l, PySem.W.listOf vs.toArray n) ∈ news) (hcell : ∀ y ∈ scope.names, y.2 ≠ .cell) (hkind : scope.kind = .function)
    (hx : scope.names.lookup x = some .local) (hx₂ : scope.names.lookup x₂ = some .local) (hxx : x ≠ x₂) (hz : vs.length ≤ sizeLine) (j0 : J 0 [])
    (turn : ∀ i v t ys e it C D oe oi oC m₂ h tk, vs[i]? = some v → J i ys → NsObj oC m₂ → m₂ x = some (.int (i : Int) t) → m₂ x₂ = some v → Fr h₀ L h m → News h₀ L h ((e, oe) :: (it, oi) :: (C, oC) :: (D, lst ys) :: news) →
      (∀ p ∈ news, @LT.lt Nat _ p.1 it) → @LT.lt Nat _ it e → @LT.lt Nat _ e D → @LT.lt Nat _ D C → @LT.lt Nat _ L it →
      wpAny (model prog w) A (eval elt (compEnvC scope cl C env)) (EnElt h₀ L m (J (i + 1)) ys ((e, oe) :: (it, oi) :: (C, oC) :: (D, lst ys) :: news) { s with heap := h, toks := tk }) nE { s with heap := h, toks := tk })
    (done : ∀ ys D h tk, J vs.length ys → ys.length = vs.length → Fr h₀ L h m → News h₀ L h ((D, lst ys) :: news) → (∀ p ∈ news, @LT.lt Nat _ p.1 D) → Q (.ref D) { s with heap := h, toks := tk }) :
    wpAny (model prog w) A (call (.type "enumerate") [.ref l]) (CompEnAt prog w A env elt iter x x₂ px px₂ tp kk scope cl pos Q) nE s := by
  have hmm := N _ hm
  have hL : s.heap.IsList l vs.toArray := ⟨_, hmm.1, rfl, _, rfl⟩
  refine call_enumerate_list hL (fun h1 hE hI hsz hk => ?_)
  unfold CompEnAt
  refine wpAny_pyIter_enum hE ?_
  refine wpAny_newObj_type (wpAny_newFunctionEnv hcell (by intro y hy; simp at hy) (fun h₁ hns₁ hsb₁ => ?_) hkind)
  dsimp only at hns₁ hsb₁ ⊢
  have off : ∀ p ∈ news, @LT.lt Nat _ p.1 s.heap.objs.size := fun p hp => Heap.lt_size (N p hp).1
  have hls : @LT.lt Nat _ l s.heap.objs.size := Heap.lt_size hmm.1
  have hLs : @LT.lt Nat _ L s.heap.objs.size := F.ns.lt
  have hi0 : h₀.get? s.heap.objs.size = none := none_new F (Nat.le_refl _)
  have he0 : h₀.get? (s.heap.objs.size + 1) = none := none_new F (Nat.le_succ _)
  have hD0 : h₀.get? (s.heap.objs.size + 2) = none := none_new F (by omega)
  have hC0 : h₀.get? (s.heap.objs.size + 3) = none := none_new F (by omega)
  generalize hH2 : h1.push { cls := .type "list", dict := none, data := .seq ([] : List Value).toArray } = H2 at hns₁ hsb₁ ⊢
  have hC : H2.objs.size = s.heap.objs.size + 3 := by rw [← hH2, Heap.size_push, hsz]
  have pushed : ∀ b o, h1.get? b = some o → H2.get? b = some o := fun b o e => by rw [← hH2]; exact Heap.get?_push_of_some _ e
  have atD : H2.get? (s.heap.objs.size + 2) = some (lst []) := by rw [← hH2, ← hsz]; exact Heap.get?_push_size _ rfl
  rw [hC] at hns₁ hsb₁ ⊢
  rw [hsz]
  have hk2 : ∀ b o, h1.get? b = some o → h₁.get? b = some o := fun b o e => hsb₁.extBut b o (by have h9 : @LT.lt Nat _ b h1.objs.size := Heap.lt_size e; rw [hsz] at h9; exact Nat.ne_of_lt (Nat.lt_succ_of_lt h9)) (Heap.get?_push_of_some _ (pushed b o e))
  have hk3 : ∀ b o, s.heap.get? b = some o → h₁.get? b = some o := fun b o e => hk2 b o (hk b o e)
  have hDat : h₁.get? (s.heap.objs.size + 2) = some (lst []) := hsb₁.extBut _ _ (Nat.ne_of_lt (Nat.lt_succ_self _)) (Heap.get?_push_of_some _ atD)
  have hE1 : IsEnum h₁ (s.heap.objs.size + 1) s.heap.objs.size 0 .none := hk2 _ _ hE
  have hI1 : h₁.IsListIter s.heap.objs.size l 0 := hI.at fun o e => hk2 _ o e
  have hL1 : h₁.IsList l vs.toArray := ⟨_, hk3 _ _ hmm.1, rfl, _, rfl⟩
  have F1 := F.keeps hk3
  have N1 := N.grown hk3
  clear hk hk2 hk3 pushed atD hE hI hsz hsb₁ hH2 hC hL hmm F N
  generalize s.heap.objs.size = it at *
  have tup : ∀ {α β : Type} (s' : Shared) (Q' : α → Shared → Prop), True := fun _ _ => trivial
  clear tup
  have loop : ∀ tk0, codeAny (model prog w) A (.compLoop (.ListComp elt [⟨.Tuple [.Name x px, .Name x₂ px₂] kk tp, iter, [], 0⟩] scope pos) 0 (.ref (it + 1)) (.ref (it + 2)) (compEnvC scope cl (it + 3) env))
      (compPost (model prog w) A nE none Q (.ref (it + 2)) (it + 3)) { s with heap := h₁, toks := tk0 } := by
    intro tk0
    refine LCp.codeAny_compLoop_pair
      (fun k s' => ∃ h' tk i ys m', s' = { s with heap := h', toks := tk } ∧ i ≤ vs.length ∧ k = vs.length + 1 - i ∧ ys.length = i ∧ EnSt h' (it + 1) it l i vs ∧ Fr h₀ L h' m ∧ h'.Ns (it + 3) m' ∧ News h₀ L h' ((it + 2, lst ys) :: news) ∧ J i ys) ?_ (vs.length + 1)
      ⟨h₁, tk0, 0, [], _, rfl, Nat.zero_le _, rfl, rfl, ⟨⟨_, hE1⟩, hI1, hL1⟩, F1, hns₁, fun p hp => ?_, j0⟩
    · rintro k s' ⟨h', tk, i, ys, m', rfl, hi, rfl, hyl, st, F', hn', N', hJ⟩
      obtain ⟨oC, heC, hoC⟩ := ns_obj hn'
      have N2 : News h₀ L h' ((it + 3, oC) :: (it + 2, lst ys) :: news) := fun p hp => by
        rcases List.mem_cons.mp hp with rfl | hp
        · exact ⟨heC, (by show it + 3 ≠ L; exact Nat.ne_of_gt (by omega)), hC0⟩
        · exact N' p hp
      have offp : ∀ p ∈ (it + 3, oC) :: (it + 2, lst ys) :: news, p.1 ≠ it + 1 ∧ p.1 ≠ it := fun p hp => by
        rcases List.mem_cons.mp hp with rfl | hp
        · exact ⟨Nat.ne_of_gt (show it + 1 < it + 3 by omega), Nat.ne_of_gt (show it < it + 3 by omega)⟩
        · rcases List.mem_cons.mp hp with rfl | hp
          · exact ⟨Nat.ne_of_gt (show it + 1 < it + 2 by omega), Nat.ne_of_gt (show it < it + 2 by omega)⟩
          · have := off p hp; exact ⟨Nat.ne_of_lt (by omega), Nat.ne_of_lt (by omega)⟩
      by_cases hlt : i < vs.length
      · refine wpAny_mono (E := nE) ?_ (fun _ _ z => z) (fun _ _ z => z.elim)
        refine wpAny_mono (enum_item (elts := [.Name x px, .Name x₂ px₂]) (ke := kk) (pe := tp) (R := fun _ => False) (G := fun v s₁ => wpAny (model prog w) A (assign (.Tuple [.Name x px, .Name x₂ px₂] kk tp) (compEnvC scope cl (it + 3) env) v) (fun _ s₂ =>
          wpAny (model prog w) A (eval elt (compEnvC scope cl (it + 3) env)) (fun y s₄ =>
              wpAny (model prog w) A (call (.builtin "list.append") [.ref (it + 2), y]) (fun _ s₅ => ∃ k', k' < vs.length + 1 - i ∧ ∃ h' tk i ys m', s₅ = { s with heap := h', toks := tk } ∧ i ≤ vs.length ∧ k' = vs.length + 1 - i ∧ ys.length = i ∧ EnSt h' (it + 1) it l i vs ∧ Fr h₀ L h' m ∧ h'.Ns (it + 3) m' ∧ News h₀ L h' ((it + 2, lst ys) :: news) ∧ J i ys) nE s₄) nE s₂) nE s₁)
          (v := vs[i]) st (by simp [hlt]) F' N2 offp (Nat.succ_ne_self it) (Nat.ne_of_lt (by omega)) (Nat.ne_of_lt (by omega)) (Nat.ne_of_lt (by omega)) (Nat.ne_of_lt (by omega)) he0 hi0 ?_) (fun r s₁ hr => ?_) fun _ _ z => z
        · intro T t oe oi h2 tk2 st2 F2 N2' g1 g2 g3 g4
          have ht : IsTup h2 T #[.int (i : Int) t, vs[i]] := ⟨_, (N2' _ (.head _)).1, rfl, _, rfl⟩
          refine assign_Tuple_tuple hh ht rfl rfl fun h5 he => ?_
          have he' : ∀ b o, h2.get? b = some o → h5.get? b = some o := fun b o e => he b o (Nat.ne_of_lt (Heap.lt_size e)) e
          have hnC : h5.Ns (it + 3) m' := hoC.ns (he' _ _ (N2' _ (.tail _ (.tail _ (.tail _ (.head _))))).1)
          refine assignInOrder_cons (wpAny_assign_Name (wpAny_storeName_local (lookup_relabel_local hx) hnC (fun h6 hn6 hs6 => ?_) (by simp [compEnvC, relabel, hkind])))
          refine assignInOrder_cons (wpAny_assign_Name (wpAny_storeName_local (lookup_relabel_local hx₂) hn6 (fun h3 hn3 hs3 => ?_) (by simp [compEnvC, relabel, hkind])))
          refine assignInOrder_nil ?_
          have old3 : ∀ b o, b ≠ it + 3 → h2.get? b = some o → h3.get? b = some o := fun b o hb e => hs3.extBut b o hb (hs6.extBut b o hb (he' b o e))
          obtain ⟨oC3, heC3, hoC3⟩ := ns_obj hn3
          have hCL : it + 3 ≠ L := Nat.ne_of_gt (by omega)
          have F3 : Fr h₀ L h3 m := ((F2.keeps he').change hs6 hCL hC0).change hs3 hCL hC0
          have N3 : News h₀ L h3 ((it + 1, oe) :: (it, oi) :: (it + 3, oC3) :: (it + 2, lst ys) :: news) := fun p hp => by
            rcases List.mem_cons.mp hp with rfl | hp
            · have z := N2' _ (.tail _ (.head _)); exact ⟨old3 _ _ (Nat.ne_of_lt (show it + 1 < it + 3 by omega)) z.1, z.2⟩
            · rcases List.mem_cons.mp hp with rfl | hp
              · have z := N2' _ (.tail _ (.tail _ (.head _))); exact ⟨old3 _ _ (Nat.ne_of_lt (show it < it + 3 by omega)) z.1, z.2⟩
              · rcases List.mem_cons.mp hp with rfl | hp
                · exact ⟨heC3, hCL, hC0⟩
                · have z := N2' p (.tail _ (.tail _ (.tail _ (.tail _ hp))))
                  refine ⟨old3 _ _ ?_ z.1, z.2⟩
                  rcases List.mem_cons.mp hp with rfl | hp
                  · exact Nat.ne_of_lt (show it + 2 < it + 3 by omega)
                  · have := off p hp; exact Nat.ne_of_lt (by omega)
          refine wpAny_mono (turn i vs[i] t ys (it + 1) it (it + 3) (it + 2) oe oi oC3 _ h3 _ (by simp [hlt]) hJ hoC3 (by simp [hxx]) (by simp) F3 N3 off (by omega) (by omega) (by omega) hLs) (fun y s₄ h₄ => ?_) fun _ _ z => z
          obtain ⟨h4, tk4, rfl, F4, N4, hJ4⟩ := h₄
          have zD := (N4 (it + 2, lst ys) (.tail _ (.tail _ (.tail _ (.head _))))).1
          refine append_at (hsz := by show ys.toArray.size ≤ sizeLine; rw [List.size_toArray, hyl]; exact Nat.le_trans hi hz) zD fun h8 hs8 hD8 => ?_
          have hDL : it + 2 ≠ L := Nat.ne_of_gt (by omega)
          refine ⟨vs.length + 1 - (i + 1), by omega, h8, tk4, i + 1, ys ++ [y], _, rfl, hlt, rfl, by rw [List.length_append, List.length_singleton, hyl], ?_, F4.change hs8 hDL hD0, (hoC3.ns (N4 _ (.tail _ (.tail _ (.head _)))).1).sameBut hs8 (Nat.ne_of_gt (show it + 2 < it + 3 by omega)), fun p hp => ?_, hJ4⟩
          · obtain ⟨⟨old, q1⟩, q2, q3⟩ := st2
            have e1 := (N2' _ (.tail _ (.head _))).1
            have e2 := (N2' _ (.tail _ (.tail _ (.head _)))).1
            have f1 := hs8.extBut _ _ (Nat.ne_of_lt (show it + 1 < it + 2 by omega)) (N4 _ (.head _)).1
            have f2 := hs8.extBut _ _ (Nat.ne_of_lt (show it < it + 2 by omega)) (N4 _ (.tail _ (.head _))).1
            refine ⟨⟨old, f1.trans (e1.symm.trans q1)⟩, q2.at fun o y => f2.trans (e2.symm.trans y), ?_⟩
            exact ⟨_, hs8.extBut _ _ (Nat.ne_of_lt (by omega)) (N4 _ (.tail _ (.tail _ (.tail _ (.tail _ hm))))).1, rfl, _, rfl⟩
          · rcases List.mem_cons.mp hp with rfl | hp
            · exact ⟨hD8.trans (congrArg some (lst_snoc ys y)), hDL, hD0⟩
            · have z := N4 p (.tail _ (.tail _ (.tail _ (.tail _ hp))))
              exact ⟨hs8.extBut _ _ (Nat.ne_of_lt (by have := off p hp; omega)) z.1, z.2⟩
        · cases r with
          | none => exact hr.elim
          | some v => exact wpAny_mono hr (fun _ _ h => wpAny_mono h (fun _ _ h => wpAny_mono h (fun _ _ h => wpAny_mono h (fun _ _ h => h) fun _ _ z => z.elim) fun _ _ z => z.elim) fun _ _ z => z.elim) fun _ _ z => z.elim
      · obtain rfl : i = vs.length := Nat.le_antisymm hi (Nat.not_lt.mp hlt)
        obtain ⟨⟨old, qe⟩, qit, ql⟩ := id st
        refine wpAny_pyNext_enum_end hh qe qit ql (by simp) (fun h2 hx2 => ?_)
        have hkk : ∀ b o, b ∉ [it + 1, it] → h'.get? b = some o → h2.get? b = some o := fun b o hb q => hx2 b o (fun e => hb (by simp [e])) q
        have Fz := fr_off F' hkk (Nat.ne_of_lt (by omega)) (Nat.ne_of_lt hLs) he0 hi0
        have Nz := news_off N2 hkk offp
        refine ⟨_, hoC.ns (Nz _ (.head _)).1, fun h3 hs3 => done ys (it + 2) h3 tk hJ hyl (Fz.change hs3 (Nat.ne_of_gt (by omega)) hC0) (fun p hp => ?_) fun p hp => by have := off p hp; omega⟩
        have z := Nz p (.tail _ hp)
        refine ⟨hs3.extBut _ _ ?_ z.1, z.2⟩
        rcases List.mem_cons.mp hp with rfl | hp
        · exact Nat.ne_of_lt (show it + 2 < it + 3 by omega)
        · have := off p hp; exact Nat.ne_of_lt (by omega)
    · rcases List.mem_cons.mp hp with rfl | hp
      · exact ⟨hDat, (by show it + 2 ≠ L; exact Nat.ne_of_gt (by omega)), hD0⟩
      · exact N1 p hp
  refine codeAny_compStart_list (loop _) ?_
  refine wpAny_pyIter_enum (i := 0) (old := .none) hE1 (loop _)
end
end Mine
end partCE
section partLd
open PySem PySem.W PyProof.Rows PySem.Calls
set_option Elab.async false
set_option maxRecDepth 100000
set_option maxHeartbeats 1000000
namespace Mine
theorem reset_Ld : True := by
  w_top off
  k_with_none
  trivial
section
variable {prog : Program} {w : World} {A : Around} {E : Value → Shared → Prop} {s : Shared} {h₀ : Heap} {L D : Addr} {m : Str → Option Value} {news news' : List (Addr × Obj)} {xs ys : List Value} {x : Value} {n : Nat} {k : Int} {u : Tok}
theorem itm_ld {value slice : PySem.Expr} {vs : List Value} {v : Value} {Q : Value → Shared → Prop} (N : News h₀ L s.heap news) (hm : (D, PySem.W.listOf vs.toArray n) ∈ news) (h0 : 0 ≤ k) (hf : k < 1000000) (hx : vs[k.toNat]? = some v) (h : Q v s)
    (hs : subscripted slice false (.ref D) (.int k u) = operate [.ref D, .int k u] (getItem (.ref D) (.int k u)) := by with_unfolding_all rfl) (hg : ∀ r, letTemporaryGo value (.ref D) r = pure () := by intro _; with_unfolding_all rfl) :
    wpAny (model prog w) A (subscriptTail value slice (.ref D) (.int k u)) Q E s :=
  item_listL ⟨_, (N _ hm).1, rfl, _, rfl⟩ h0 (by omega) hx h hs hg
theorem cut_at (xs ys : List Value) (x : Value) : kl_cut (xs ++ x :: ys) xs.length = some (xs, x, ys) := by
  induction xs with
  | nil => rfl
  | cons z xs ih => simp only [List.cons_append, List.length_cons, kl_cut, ih]
theorem pop_ld {Q : Value → Shared → Prop} (F : Fr h₀ L s.heap m) (N : News h₀ L s.heap news) (hk : k = (xs.length : Int)) (hz : xs.length + ys.length ≤ 1000)
    (U : Upd D (PySem.W.listOf (xs ++ x :: ys).toArray n) (PySem.W.listOf (xs ++ ys).toArray (n + 1)) news news') (h : ∀ h', Fr h₀ L h' m → News h₀ L h' news' → Q x { s with heap := h' }) : wpAny (model prog w) A (call (.builtin "list.pop") [.ref D, .int k u]) Q E s := by
  subst hk
  refine kl_popAt (p := xs) (q := ys) (y := x) (k := xs.length) F N ?_ ?_ ?_ U (by simp only [List.length_append, List.length_cons, sizeLine_eq]; omega) h
  · unfold Builtin.List.listFitsIndex
    rw [Bool.and_eq_true, decide_eq_true_eq, decide_eq_true_eq]
    omega
  · simp [seqIndex?]; omega
  · exact cut_at xs ys x
theorem pop2_ld {y : Value} {Q : Value → Shared → Prop} (F : Fr h₀ L s.heap m) (N : News h₀ L s.heap news) (hk : k = (xs.length : Int) + 1) (hz : xs.length + ys.length ≤ 900)
    (U : Upd D (PySem.W.listOf (xs ++ y :: x :: ys).toArray n) (PySem.W.listOf (xs ++ y :: ys).toArray (n + 1)) news news') (h : ∀ h', Fr h₀ L h' m → News h₀ L h' news' → Q x { s with heap := h' }) : wpAny (model prog w) A (call (.builtin "list.pop") [.ref D, .int k u]) Q E s := by
  have e1 : xs ++ y :: x :: ys = (xs ++ [y]) ++ x :: ys := by simp
  have e2 : xs ++ y :: ys = (xs ++ [y]) ++ ys := by simp
  rw [e1, e2] at U
  exact pop_ld F N (by rw [hk, List.length_append]; simp) (by simp; omega) U h
theorem set_ld {v : Value} {Q : Unit → Shared → Prop} (F : Fr h₀ L s.heap m) (N : News h₀ L s.heap news) (hk : k = (xs.length : Int)) (hz : xs.length + ys.length ≤ 1000)
    (U : Upd D (PySem.W.listOf (xs ++ x :: ys).toArray n) (PySem.W.listOf (xs ++ v :: ys).toArray n) news news') (h : ∀ h', Fr h₀ L h' m → News h₀ L h' news' → Q () { s with heap := h' }) : wpAny (model prog w) A (setItem (.ref D) (.int k u) v) Q E s := by
  subst hk
  obtain ⟨pre, post, rfl, rfl, a, b⟩ := U.split
  have z := N (D, PySem.W.listOf (xs ++ x :: ys).toArray n) (List.mem_append.mpr (.inr (.head _)))
  refine ki_setAt z.1 (by omega) (by omega) (by simp; omega) (h _ (F.change (Heap.SameBut.update ..) z.2.1 z.2.2) (ki_turn _ N a b ?_ ?_))
  · apply Array.toList_inj.mp
    simp
  · simp
end
end Mine
end partLd
section partRg
open PySem PySem.W PyProof.Rows PySem.Calls
set_option Elab.async false
set_option maxRecDepth 100000
set_option maxHeartbeats 1000000
namespace Mine
theorem reset_Rg : True := by
  w_top off
  k_with_none
  trivial
section
variable {prog : Program} {w : World} {A : Around} {env : Env} {target : PySem.Expr} {body : List Stmt} {Q : Flow → Shared → Prop}
theorem for_rng {r : Addr} {n : Nat} {t u v : Tok} {m₀ : Str → Option Value} {news₀ : List (Addr × Obj)} {s : Shared} {h₀ : Heap} (J : Nat → (Str → Option Value) → List (Addr × Obj) → Prop)
    (hh : A.handled = none) (F : Fr h₀ env.locals s.heap m₀) (N : News h₀ env.locals s.heap news₀) (hj : J 0 m₀ news₀)
    (hr : IsRange s.heap r 0 (n : Int) 1 t u v) (hsm : Builtin.Range.small 0 (n : Int) 1 = true) (hn : Builtin.Range.rangeSize 0 (n : Int) 1 = (n : Int)) (ht : ∀ it v, letOwnedTupleGo target it v = pure ())
    (turn : ∀ i ti m₁ news₁ h tk I (oI : Obj), i < n → news₁.map (·.1) = news₀.map (·.1) → (∀ p ∈ news₁, p.1 < I) → env.locals < I → J i m₁ news₁ → Fr h₀ env.locals h m₁ → News h₀ env.locals h ((I, oI) :: news₁) →
      wpAny (model prog w) A (assign target env (.int (i : Int) ti)) (fun _ s₂ => wpAny (model prog w) A (execs body env) (TurnPost h₀ env.locals (J (i + 1)) (I, oI) (news₀.map (·.1)) { s with heap := h, toks := tk } Q) nE s₂) nE { s with heap := h, toks := tk })
    (done : ∀ m₁ news₁ h tk, J n m₁ news₁ → news₁.map (·.1) = news₀.map (·.1) → Fr h₀ env.locals h m₁ → News h₀ env.locals h news₁ → Q .next { s with heap := h, toks := tk }) :
    ForAt prog w A env target body Q (.ref r) s := by
  refine wpAny_pyIter_range hr hsm ⟨n + 1, ?_⟩
  have hIs : ∀ b ∈ news₀.map (·.1), b < s.heap.objs.size := fun b hb => by
    obtain ⟨p, hp, rfl⟩ := List.mem_map.mp hb; exact Heap.lt_size (N p hp).1
  have hLs : env.locals < s.heap.objs.size := F.ns.lt
  have hI0 : h₀.get? s.heap.objs.size = none := none_new F (Nat.le_refl _)
  have W := LCg.range_walks (prog := prog) (w := w) (I := s.heap.objs.size) hh 0 n
  have hpush : ∀ (b : Addr) (o : Obj), s.heap.get? b = some o → (s.heap.push { cls := .type "range_iterator", data := .fields #[rawInt 0, rawInt (Builtin.Range.rangeSize 0 (n : Int) 1), rawInt 1] }).get? b = some o := fun b o e => Heap.get?_push_of_some _ e
  have st0 : IsRangeIter (s.heap.push { cls := .type "range_iterator", data := .fields #[rawInt 0, rawInt (Builtin.Range.rangeSize 0 (n : Int) 1), rawInt 1] }) s.heap.objs.size (0 + ((0 : Nat) : Int) * 1) ((n : Int) - ((0 : Nat) : Int)) 1 := by
    rw [hn]
    simpa using Heap.get?_push_size s.heap (o := { cls := .type "range_iterator", data := .fields #[rawInt 0, rawInt (n : Int), rawInt 1] }) rfl
  have F0 := F.keeps hpush
  have N0 := N.grown hpush
  generalize s.heap.push { cls := .type "range_iterator", data := .fields #[rawInt 0, rawInt (Builtin.Range.rangeSize 0 (n : Int) 1), rawInt 1] } = H at st0 F0 N0 ⊢
  clear hpush
  generalize s.heap.objs.size = I at *
  suffices key : ∀ k i m₁ news₁ h tk, n = i + k → IsRangeIter h I (0 + (i : Int) * 1) ((n : Int) - (i : Int)) 1 → J i m₁ news₁ → news₁.map (·.1) = news₀.map (·.1) → Fr h₀ env.locals h m₁ → News h₀ env.locals h news₁ →
      FRest prog w A env target body Q (.ref I) (k + 1) { s with heap := h, toks := tk } from key n 0 m₀ news₀ H s.toks (by omega) st0 hj rfl F0 N0
  have off : ∀ news₁ : List (Addr × Obj), news₁.map (·.1) = news₀.map (·.1) → ∀ p ∈ news₁, p.1 < I := fun news₁ ha p hp => hIs p.1 (ha ▸ List.mem_map_of_mem hp)
  intro k
  induction k with
  | zero =>
    intro i m₁ news₁ h tk hk9 st hJ ha F1 N1
    obtain rfl : i = n := by omega
    have offp := off news₁ ha
    refine W.done _ _ _ st (fun h' tk' hx => ?_)
    exact done m₁ news₁ h' tk' hJ ha (LCg.fr_but F1 hx (Nat.ne_of_lt hLs) hI0) (LCg.news_but N1 hx fun p hp => Nat.ne_of_lt (offp p hp))
  | succ k ih =>
    intro i m₁ news₁ h tk hk9 st hJ ha F1 N1
    have offp := off news₁ ha
    refine W.item i _ _ _ (by omega) st (fun v h' tk' hP st' hx => ?_)
    obtain ⟨ti, rfl⟩ := hP
    have F2 := LCg.fr_but F1 hx (Nat.ne_of_lt hLs) hI0
    have N2 := LCg.news_but N1 hx fun p hp => Nat.ne_of_lt (offp p hp)
    obtain ⟨oI, qI⟩ : ∃ oI, h'.get? I = some oI := ⟨_, st'⟩
    have N3 : News h₀ env.locals h' ((I, oI) :: news₁) := fun p hp => by
      rcases List.mem_cons.mp hp with rfl | hp
      · exact ⟨qI, Nat.ne_of_gt hLs, hI0⟩
      · exact N2 p hp
    show wpAny (model prog w) A (letOwnedTupleGo target (.ref I) _) _ nE _
    rw [ht]
    refine wpAny_pure ?_
    have e0 : (0 : Int) + (i : Int) = (i : Int) := Int.zero_add _
    rw [e0]
    refine wpAny_mono (turn i ti m₁ news₁ h' tk' I oI (by omega) ha offp hLs hJ F2 N3) (fun _ s₂ h2 => wpAny_mono h2 (fun f s₃ h3 => ?_) fun _ _ z => z) fun _ _ z => z
    have go : TurnEnd h₀ env.locals (J (i + 1)) (I, oI) (news₀.map (·.1)) { s with heap := h', toks := tk' } s₃ → FRest prog w A env target body Q (.ref I) (k + 1) s₃ := by
      rintro ⟨hh3, tk3, m3, news3, rfl, F3, N3, hJ3a, hJ3⟩
      have q3 := (N3 _ (.head _)).1
      refine ih (i + 1) m3 news3 hh3 tk3 (by omega) ?_ hJ3 hJ3a F3 (fun p hp => N3 p (.tail _ hp))
      exact q3.trans (qI.symm.trans st')
    cases f with
    | next => exact go h3
    | cont => exact go h3
    | brk => exact h3
    | ret v => exact h3
end
end Mine
end partRg
section partCs
open PySem PySem.W PyProof.Rows PySem.Calls LCg
set_option Elab.async false
set_option maxRecDepth 100000
set_option maxHeartbeats 1000000
namespace Mine
theorem reset_Cs : True := by
  w_top off
  k_with_none
  trivial
section
variable {prog : Program} {w : World} {A : Around} {E : Value → Shared → Prop} {s : Shared} {h₀ : Heap} {L : Addr} {m : Str → Option Value} {env : Env}
/-- a comprehension's source is a text -/
noncomputable def SrcT (prog : Program) (w : World) (A : Around) (h₀ : Heap) (L : Addr) (m : Str → Option Value) (env : Env) (elt : PySem.Expr) (x : Str) (scope : Scope) (cl : List (Str × Addr)) (Q : Value → Shared → Prop) (xv : Value) (s₁ : Shared) : Prop :=
  ∃ (y : Str) (t : Tok) (news : List (Addr × Obj)), xv = .str y t ∧ A.handled = none ∧ y.cps.all (· < 128) = true ∧ y.cps.size ≤ 100000 ∧ Fr h₀ L s₁.heap m ∧ News h₀ L s₁.heap news ∧
    ∀ g : Heap, CompRest prog w A h₀ L m env elt x scope cl { s₁ with heap := g } (fun _ => True) (SignAt y) (FinE h₀ L m { s₁ with heap := g } Q) y.cps.size 0 [] news
theorem ListComp_T1 {elt iter : PySem.Expr} {x : Str} {px : Pos} {scope : Scope} {cl : List (Str × Addr)} {pos : Pos} {Q : Value → Shared → Prop} (F₀ : Fr h₀ L s.heap m)
    (hclos : closureFor scope env = pure cl) (hcell : ∀ y ∈ scope.names, y.2 ≠ .cell) (hkind : scope.kind = .function)
    (hnames : ∀ y ∈ scope.names, y.2 = .local → scope.names.lookup y.1 = some .local) (hx : scope.names.lookup x = some .local)
    (h : wpAny (model prog w) A (eval iter env) (SrcT prog w A h₀ L m env elt x scope cl Q) E s)
    (hs : ∀ x, foldedSetIterable iter env x = pure x := by intro _; rfl) :
    wpAny (model prog w) A (eval (.ListComp elt [⟨.Name x px, iter, [], 0⟩] scope pos) env) Q E s := by
  rw [eval_ListComp]
  refine wpAny_comprehension_free (use := none) rfl hs hclos hkind hnames (wpAny_mono h (fun xv s₁ h₁ => ?_) fun _ _ e => e)
  obtain ⟨y, t, news, rfl, hh, ha, hz, F, N, R⟩ := h₁
  refine wpAny_pyIter_ascii ha ?_
  refine block_U (Walks.strAscii hh s₁.heap.objs.size y t) (by rw [sizeLine_eq]; omega) (fun i h st => by obtain ⟨o, e, _⟩ := st; exact ⟨o, e⟩)
    (fun i h h' o nw st e e' _ _ _ => by obtain ⟨o', q, r⟩ := st; rw [e] at q; cases q; exact ⟨o, e', r⟩) hcell hkind hx ⟨_, Heap.get?_push_size _ rfl, rfl, rfl⟩ (fun b hb => ?_)
    (F.keeps fun _ _ e => Heap.get?_push_of_some _ e) (N.grown fun _ _ e => Heap.get?_push_of_some _ e) (Nat.ne_of_lt F.ns.lt) (next_is_new F) (fun p hp => Nat.ne_of_lt (Heap.lt_size (N p hp).1)) trivial (R _) ?_
  · rw [List.mem_singleton.mp hb]
    show s₁.heap.objs.size < (s₁.heap.push _).objs.size
    rw [Heap.size_push]; exact Nat.lt_succ_self _
  · intro D C h tk m' ys news' F' N' o1 hn hC₀ hD₀ hCL hDL hCD offC fin
    refine ⟨m', hn, fun h'' hs'' => fin D h'' tk (F'.change hs'' hCL hC₀) (fun p hp => ?_) o1⟩
    refine ⟨hs''.extBut _ _ ?_ (N' p hp).1, (N' p hp).2⟩
    rcases List.mem_cons.mp hp with rfl | hp
    · exact Ne.symm hCD
    · exact offC p hp
end
end Mine
end partCs
section partCt
open PySem PySem.W PyProof.Rows PySem.Calls LCg
set_option Elab.async false
set_option maxRecDepth 100000
set_option maxHeartbeats 1000000
namespace Mine
theorem reset_Ct : True := by
  w_top off
  k_with_none
  trivial
section
variable {prog : Program} {w : World} {A : Around} {E : Value → Shared → Prop} {s : Shared} {h₀ : Heap} {L : Addr} {m : Str → Option Value} {env : Env}
/-- a comprehension's source is a text; with a condition -/
noncomputable def SrcTT (prog : Program) (w : World) (A : Around) (h₀ : Heap) (L : Addr) (m : Str → Option Value) (env : Env) (ct elt : PySem.Expr) (x : Str) (scope : Scope) (cl : List (Str × Addr)) (Q : Value → Shared → Prop) (xv : Value) (s₁ : Shared) : Prop :=
  ∃ (y : Str) (t : Tok) (news : List (Addr × Obj)), xv = .str y t ∧ A.handled = none ∧ y.cps.all (· < 128) = true ∧ y.cps.size ≤ 100000 ∧ Fr h₀ L s₁.heap m ∧ News h₀ L s₁.heap news ∧
    ∀ g : Heap, LCt.CompRestT prog w A h₀ L m env ct elt x scope cl { s₁ with heap := g } (fun _ => True) (SignAt y) (FinE h₀ L m { s₁ with heap := g } Q) y.cps.size 0 [] news
theorem ListComp_TT {ct elt iter : PySem.Expr} {x : Str} {px : Pos} {scope : Scope} {cl : List (Str × Addr)} {pos : Pos} {Q : Value → Shared → Prop} (F₀ : Fr h₀ L s.heap m)
    (hclos : closureFor scope env = pure cl) (hcell : ∀ y ∈ scope.names, y.2 ≠ .cell) (hkind : scope.kind = .function)
    (hnames : ∀ y ∈ scope.names, y.2 = .local → scope.names.lookup y.1 = some .local) (hx : scope.names.lookup x = some .local)
    (h : wpAny (model prog w) A (eval iter env) (SrcTT prog w A h₀ L m env ct elt x scope cl Q) E s)
    (hs : ∀ x, foldedSetIterable iter env x = pure x := by intro _; rfl) :
    wpAny (model prog w) A (eval (.ListComp elt [⟨.Name x px, iter, [ct], 0⟩] scope pos) env) Q E s := by
  rw [eval_ListComp]
  refine wpAny_comprehension_free (use := none) rfl hs hclos hkind hnames (wpAny_mono h (fun xv s₁ h₁ => ?_) fun _ _ e => e)
  obtain ⟨y, t, news, rfl, hh, ha, hz, F, N, R⟩ := h₁
  refine wpAny_pyIter_ascii ha ?_
  refine LCt.block_T (Walks.strAscii hh s₁.heap.objs.size y t) (by rw [sizeLine_eq]; omega) (fun i h st => by obtain ⟨o, e, _⟩ := st; exact ⟨o, e⟩)
    (fun i h h' o nw st e e' _ _ _ => by obtain ⟨o', q, r⟩ := st; rw [e] at q; cases q; exact ⟨o, e', r⟩) hcell hkind hx ⟨_, Heap.get?_push_size _ rfl, rfl, rfl⟩ (fun b hb => ?_)
    (F.keeps fun _ _ e => Heap.get?_push_of_some _ e) (N.grown fun _ _ e => Heap.get?_push_of_some _ e) (Nat.ne_of_lt F.ns.lt) (next_is_new F) (fun p hp => Nat.ne_of_lt (Heap.lt_size (N p hp).1)) trivial (R _) ?_
  · rw [List.mem_singleton.mp hb]
    show s₁.heap.objs.size < (s₁.heap.push _).objs.size
    rw [Heap.size_push]; exact Nat.lt_succ_self _
  · intro D C h tk m' ys news' F' N' o1 hn hC₀ hD₀ hCL hDL hCD offC fin
    refine ⟨m', hn, fun h'' hs'' => fin D h'' tk (F'.change hs'' hCL hC₀) (fun p hp => ?_) o1⟩
    refine ⟨hs''.extBut _ _ ?_ (N' p hp).1, (N' p hp).2⟩
    rcases List.mem_cons.mp hp with rfl | hp
    · exact Ne.symm hCD
    · exact offC p hp
end
end Mine
end partCt
section partML
open PySem PySem.W PyProof.Rows PySem.Calls
set_option Elab.async false
set_option maxRecDepth 100000
set_option maxHeartbeats 1000000
namespace Mine
theorem reset_ML : True := by
  w_top off
  k_with_none
  trivial
noncomputable abbrev letters : List Nat := [97, 65, 98, 66, 99, 67, 100, 68]
noncomputable def maskN (c : Nat) : Nat := if c = 97 then 43690 else if c = 65 then 21845 else if c = 98 then 52428 else if c = 66 then 13107 else if c = 99 then 61680 else if c = 67 then 3855 else if c = 100 then 65280 else 255
theorem letters_cases {P : Nat → Prop} (h1 : P 97) (h2 : P 65) (h3 : P 98) (h4 : P 66) (h5 : P 99) (h6 : P 67) (h7 : P 100) (h8 : P 68) : ∀ c ∈ letters, P c := by
  intro c hc
  simp only [letters, List.mem_cons, List.not_mem_nil, or_false] at hc
  rcases hc with rfl | rfl | rfl | rfl | rfl | rfl | rfl | rfl <;> assumption
theorem of1 (x : String) (c : Nat) (h : Str.ofString x = ⟨#[c]⟩) : Str.ofString x = ⟨#[c]⟩ := h
theorem mask_ct (w : World) (t : Tok) (news : List (Addr × Obj)) : ∀ c ∈ letters, PureCt w 690 990 253 [.str ⟨#[c]⟩ t] [] news (fun r => ∃ tk, r = .int (maskN c) tk) := by
  refine letters_cases ?_ ?_ ?_ ?_ ?_ ?_ ?_ ?_
  · exact mask_al w t news
  · exact mask_Au w t news
  · exact mask_bl w t news
  · exact mask_Bu w t news
  · exact mask_cl w t news
  · exact mask_Cu w t news
  · exact mask_dl w t news
  · exact mask_Du w t news
noncomputable def symN (c : Nat) : Nat := if c = 38 then 19 else if c = 124 then 18 else if c = 60 then 20 else if c = 62 then 21 else 256 + c
theorem sym_ct (w : World) (t : Tok) (news : List (Addr × Obj)) : ∀ c ∈ letters, PureCt w 690 990 277 [.str ⟨#[c]⟩ t] [] news (fun r => ∃ tk, r = .int (symN c) tk) := by
  refine letters_cases ?_ ?_ ?_ ?_ ?_ ?_ ?_ ?_
  · exact sym_al w t news
  · exact sym_Au w t news
  · exact sym_bl w t news
  · exact sym_Bu w t news
  · exact sym_cl w t news
  · exact sym_Cu w t news
  · exact sym_dl w t news
  · exact sym_Du w t news
inductive StrsAre : List Value → List Str → Prop
  | nil : StrsAre [] []
  | cons {x : Str} {t : Tok} {vs : List Value} {xs : List Str} : StrsAre vs xs → StrsAre (.str x t :: vs) (x :: xs)
theorem StrsAre.length {vs : List Value} {xs : List Str} (h : StrsAre vs xs) : vs.length = xs.length := by
  induction h with
  | nil => rfl
  | cons _ ih => simp [ih]
theorem StrsAre.get {vs : List Value} {xs : List Str} (h : StrsAre vs xs) : ∀ {i : Nat} {v : Value}, vs[i]? = some v → ∃ x t, xs[i]? = some x ∧ v = .str x t := by
  induction h with
  | nil => intro i v e; simp at e
  | @cons x t vs xs _ ih =>
    intro i v e
    cases i with
    | zero => exact ⟨x, t, rfl, by simpa using e.symm⟩
    | succ i => simpa using ih (i := i) (v := v) (by simpa using e)
theorem StrsAre.append {vs ws : List Value} {xs ys : List Str} (h : StrsAre vs xs) (g : StrsAre ws ys) : StrsAre (vs ++ ws) (xs ++ ys) := by
  induction h with
  | nil => exact g
  | cons _ ih => exact .cons ih
noncomputable def lowN (c : Nat) : Nat := if c < 97 then c + 32 else c
theorem low_txt : ∀ c ∈ letters, Txt.lower ⟨#[c]⟩ = ⟨#[lowN c]⟩ := by
  refine letters_cases ?_ ?_ ?_ ?_ ?_ ?_ ?_ ?_ <;> decide +kernel
theorem low_fit : ∀ c ∈ letters, Builtin.Str.tooLong (Txt.lower ⟨#[c]⟩).length = false := by
  refine letters_cases ?_ ?_ ?_ ?_ ?_ ?_ ?_ ?_ <;> decide +kernel
theorem low_mem : ∀ c ∈ letters, lowN c ∈ letters := by
  refine letters_cases ?_ ?_ ?_ ?_ ?_ ?_ ?_ ?_ <;> decide
theorem rxn (w : World) (t : Tok) : ∀ c ∈ letters, XCt w (.builtin "re.Pattern.search") [.ref 109, .str ⟨#[c]⟩ t] (fun r => r = .none) := by
  refine letters_cases ?_ ?_ ?_ ?_ ?_ ?_ ?_ ?_
  · exact rxn_al w t
  · exact rxn_Au w t
  · exact rxn_bl w t
  · exact rxn_Bu w t
  · exact rxn_cl w t
  · exact rxn_Cu w t
  · exact rxn_dl w t
  · exact rxn_Du w t
theorem rxv (w : World) (t : Tok) (sd : Nat) (hs : sd = 60 ∨ sd = 62) : ∀ c ∈ letters, XCt w (.builtin "re.Pattern.search") [.ref 114, .str ⟨#[sd, c]⟩ t] (fun r => r = .none) := by
  rcases hs with rfl | rfl
  · refine letters_cases ?_ ?_ ?_ ?_ ?_ ?_ ?_ ?_
    · exact rxl_al w t
    · exact rxl_Au w t
    · exact rxl_bl w t
    · exact rxl_Bu w t
    · exact rxl_cl w t
    · exact rxl_Cu w t
    · exact rxl_dl w t
    · exact rxl_Du w t
  · refine letters_cases ?_ ?_ ?_ ?_ ?_ ?_ ?_ ?_
    · exact rxg_al w t
    · exact rxg_Au w t
    · exact rxg_bl w t
    · exact rxg_Bu w t
    · exact rxg_cl w t
    · exact rxg_Cu w t
    · exact rxg_dl w t
    · exact rxg_Du w t
theorem cvn (w : World) (self : Value) (t : Tok) (news : List (Addr × Obj)) (c : Nat) (hc : c ∈ letters) : PureCt w 680 900 136 [self, .str ⟨#[c]⟩ t] [(Str.ofString "name", .bool true)] news (fun r => r = .str ⟨#[c]⟩ t) :=
  conv_n w self _ t news (rxn w t c hc)
theorem cvv (w : World) (self : Value) (t : Tok) (news : List (Addr × Obj)) (sd c : Nat) (hs : sd = 60 ∨ sd = 62) (hc : c ∈ letters) : PureCt w 680 900 136 [self, .str ⟨#[sd, c]⟩ t] [(Str.ofString "name", .bool false)] news (fun r => r = .str ⟨#[sd, c]⟩ t) :=
  conv_v w self _ t news (rxv w t sd hs c hc)
noncomputable abbrev tupO (vs : List Value) : Obj := { cls := .type "tuple", data := .seq vs.toArray }
/-- the items of a table's list: pairs of a name and its word -/
inductive TabIs (news : List (Addr × Obj)) : List Value → List (Nat × Nat) → Prop
  | nil : TabIs news [] []
  | cons {a : Addr} {t1 t2 : Tok} {s c : Nat} {vs : List Value} {tab : List (Nat × Nat)} : (a, tupO [.str ⟨#[c]⟩ t1, .str ⟨#[s, c]⟩ t2]) ∈ news → TabIs news vs tab → TabIs news (.ref a :: vs) ((s, c) :: tab)
theorem TabIs.length {news : List (Addr × Obj)} {vs : List Value} {tab : List (Nat × Nat)} (h : TabIs news vs tab) : vs.length = tab.length := by
  induction h with
  | nil => rfl
  | cons _ _ ih => simp [ih]
theorem TabIs.get {news : List (Addr × Obj)} {vs : List Value} {tab : List (Nat × Nat)} (h : TabIs news vs tab) : ∀ {i : Nat} {v : Value}, vs[i]? = some v → ∃ a t1 t2 s c, tab[i]? = some (s, c) ∧ v = .ref a ∧ (a, tupO [.str ⟨#[c]⟩ t1, .str ⟨#[s, c]⟩ t2]) ∈ news := by
  induction h with
  | nil => intro i v e; simp at e
  | @cons a t1 t2 s c vs tab hm _ ih =>
    intro i v e
    cases i with
    | zero => exact ⟨a, t1, t2, s, c, rfl, by simpa using e.symm, hm⟩
    | succ i => simpa using ih (i := i) (v := v) (by simpa using e)
theorem TabIs.mono {news news' : List (Addr × Obj)} {vs : List Value} {tab : List (Nat × Nat)} (h : TabIs news vs tab) (hs : ∀ p ∈ news, p ∈ news') : TabIs news' vs tab := by
  induction h with
  | nil => exact .nil
  | cons hm _ ih => exact .cons (hs _ hm) ih
theorem TabIs.snoc {news : List (Addr × Obj)} {vs : List Value} {tab : List (Nat × Nat)} (h : TabIs news vs tab) {a : Addr} {t1 t2 : Tok} {s c : Nat} (hm : (a, tupO [.str ⟨#[c]⟩ t1, .str ⟨#[s, c]⟩ t2]) ∈ news) : TabIs news (vs ++ [.ref a]) (tab ++ [(s, c)]) := by
  induction h with
  | nil => exact .cons hm .nil
  | cons hm' _ ih => exact .cons hm' ih
noncomputable def TabOk (tab : List (Nat × Nat)) : Prop := ∀ p ∈ tab, (p.1 = 60 ∨ p.1 = 62) ∧ p.2 ∈ letters
theorem find_at {α : Type} (q : α → Bool) : ∀ (l : List α) (i : Nat) (p : α), l[i]? = some p → q p = true → (∀ p' ∈ l.take i, q p' = false) → l.find? q = some p
  | [], i, p, h, _, _ => by simp at h
  | x :: l, 0, p, h, hq, _ => by
    have : x = p := by simpa using h
    subst this
    rw [List.find?_cons_of_pos hq]
  | x :: l, i + 1, p, h, hq, hn => by
    rw [List.find?_cons_of_neg (by rw [hn x (by simp)]; exact Bool.false_ne_true)]
    exact find_at q l i p (by simpa using h) hq fun p' hp' => hn p' (by simp [hp'])
theorem find_no {α : Type} (q : α → Bool) (l : List α) (hn : ∀ p' ∈ l, q p' = false) : l.find? q = none := by
  rw [List.find?_eq_none]
  intro x hx
  rw [hn x hx]; exact Bool.false_ne_true
theorem str1_eq {a b : Nat} : ((⟨#[a]⟩ : Str) == ⟨#[b]⟩) = true ↔ a = b := by
  rw [beq_iff_eq]
  constructor
  · intro e; injection e with e; simpa using e
  · intro e; rw [e]
theorem str1_ne {a b : Nat} : ((⟨#[a]⟩ : Str) == ⟨#[b]⟩) = false ↔ a ≠ b := by
  rw [← Bool.not_eq_true, str1_eq]
end Mine
end partML
section partC1
open PySem PySem.W PyProof.Rows PySem.Calls
set_option Elab.async false
set_option maxRecDepth 100000
set_option maxHeartbeats 1000000
namespace Mine
theorem reset_C1 : True := by
  w_top off
  k_with_none
  trivial
theorem words_C1 : True := by
  k_with "k_ne" => (refine neN ?_; first | with_reducible assumption | exact Ne.symm (by with_reducible assumption) | exact Nat.ne_of_lt (by with_reducible assumption) | exact Nat.ne_of_gt (by with_reducible assumption) | (refine' Nat.ne_of_lt (And.left ?hZ9); (case hZ9 => with_reducible assumption)) | (refine' Nat.ne_of_lt (And.left (And.right ?hZ9)); (case hZ9 => with_reducible assumption)) | (refine' Nat.ne_of_lt (And.left (And.right (And.right ?hZ9))); (case hZ9 => with_reducible assumption)) | (refine' Nat.ne_of_lt (And.left (And.right (And.right (And.right ?hZ9)))); (case hZ9 => with_reducible assumption)) | (refine' Nat.ne_of_lt (And.left (And.right (And.right (And.right (And.right ?hZ9))))); (case hZ9 => with_reducible assumption)) | (refine' Nat.ne_of_lt (And.left (And.right (And.right (And.right (And.right (And.right ?hZ9)))))); (case hZ9 => with_reducible assumption)) | (refine' Nat.ne_of_lt (And.left (And.right (And.right (And.right (And.right (And.right (And.right ?hZ9))))))); (case hZ9 => with_reducible assumption)) | (refine' Nat.ne_of_lt (And.left (And.right (And.right (And.right (And.right (And.right (And.right (And.right ?hZ9)))))))); (case hZ9 => with_reducible assumption)) | (refine' Nat.ne_of_lt (And.left (And.right (And.right (And.right (And.right (And.right (And.right (And.right (And.right ?hZ9))))))))); (case hZ9 => with_reducible assumption)) | (refine' Nat.ne_of_gt (And.left ?hZ9); (case hZ9 => with_reducible assumption)) | (refine' Nat.ne_of_gt (And.left (And.right ?hZ9)); (case hZ9 => with_reducible assumption)) | (refine' Nat.ne_of_gt (And.left (And.right (And.right ?hZ9))); (case hZ9 => with_reducible assumption)) | (refine' Nat.ne_of_gt (And.left (And.right (And.right (And.right ?hZ9)))); (case hZ9 => with_reducible assumption)) | (refine' Nat.ne_of_gt (And.left (And.right (And.right (And.right (And.right ?hZ9))))); (case hZ9 => with_reducible assumption)) | (refine' Nat.ne_of_gt (And.left (And.right (And.right (And.right (And.right (And.right ?hZ9)))))); (case hZ9 => with_reducible assumption)) | (refine' Nat.ne_of_gt (And.left (And.right (And.right (And.right (And.right (And.right (And.right ?hZ9))))))); (case hZ9 => with_reducible assumption)) | (refine' Nat.ne_of_gt (And.left (And.right (And.right (And.right (And.right (And.right (And.right (And.right ?hZ9)))))))); (case hZ9 => with_reducible assumption)) | (refine' Nat.ne_of_gt (And.left (And.right (And.right (And.right (And.right (And.right (And.right (And.right (And.right ?hZ9))))))))); (case hZ9 => with_reducible assumption)) | ((try dsimp only); omega))
  k_with "callWith ref" => (k_here; (with_reducible show wpAny _ _ (callWith _ (Value.ref _) _ (backTo _ (starEach (_ :: _) _)) []) _ _ _); k_dflt (refine' callWith_K ?k1Z9 ?k2Z9 ?_; (case k1Z9 => k_asm); (case k2Z9 => k_is); k_whole))
  trivial
theorem lines_C1_1 : True := by
  k_with "exec For" => ((k_here; k_dflt (refine' for_open ?_ ?hsZ9; (case hsZ9 => (intro _; rfl)))))
  k_with "call ref" => ((k_here; k_dflt (refine' PureCt.useE (mask_ct _ _ _ _ ?hcmZ9) ?k1Z9 ?k2Z9 ?k3Z9 ?k4Z9 ?k5Z9 ?k6Z9 ?k7Z9 ?k8Z9 ?_; (case hcmZ9 => assumption); (case k1Z9 => k_asm); (case k2Z9 => k_asm); (case k3Z9 => k_asm); (case k4Z9 => k_asm); (case k5Z9 => k_asm); (case k6Z9 => first | rfl | assumption); (case k7Z9 => ktr_room); (case k8Z9 => ktr_units)); intro _ _ _ _ _; (try dsimp only); (try k_sweep)))
  trivial
theorem fr_in {x s : Str} {v : Option Value} {b : Str → Option Value} (hx : x ≠ s) (hb : b x = none) : (fun y => if y = s then v else b y) = fun y => if y = x then none else if y = s then v else b y := by
  funext y
  by_cases h : y = x
  · subst h; rw [if_neg hx, if_pos rfl, hb]
  · rw [if_neg h]
theorem fr_turn {x s : Str} {v v' u : Option Value} {c : Option Value} {b : Str → Option Value} : (fun y => if y = s then v' else if y = x then u else if y = x then c else if y = s then v else b y) = fun y => if y = x then (if x = s then v' else u) else if y = s then v' else b y := by
  funext y
  by_cases h : y = x
  · subst h; simp
  · by_cases h2 : y = s
    · subst h2; simp [h]
    · simp [h, h2]
theorem setting_ct (w : World) (l : Addr) (cs' : List Nat) (vs : List Value) (n : Nat) (news : List (Addr × Obj)) (hm : (l, PySem.W.listOf vs.toArray n) ∈ news) (hc : ∀ c ∈ cs', c ∈ letters) (hv : StrsAre vs (cs'.map fun c => (⟨#[c]⟩ : Str))) :
    PureCt w 680 980 305 [.ref l] [] news (fun r => ∃ tk, r = .int (cs'.foldl (fun a c => a &&& maskN c) 65535 : Nat) tk) := by
  unfold PureCt
  k_fill
  intro loose mean mg mb dp un gd cn cs a ccd cl outer A₀ base h₀ L m s Q E B F X N T hk hd hu hret
  refine wpAny_call ?_
  k_dflt ktr_enter
  refine wpAny_mono (E := nE) ?_ (fun _ _ z => z) (fun _ _ z => z.elim)
  k_steps
  rename Fr _ _ _ _ => F9
  rename News _ _ _ _ => N9
  refine for_led (vs := vs) (fun i m' news' => news' = news ∧ ∃ u tk z, z = ((cs'.take i).foldl (fun a c => a &&& maskN c) 65535 : Nat) ∧ m' = fun y => if y = Str.ofString "name" then u else if y = Str.ofString "setting" then some (.int z tk) else List.lookup y [(Str.ofString "names", Value.ref l)].reverse) rfl F9 N9 ⟨rfl, none, _, _, rfl, fr_in (by decide) rfl⟩ ?_ ?_ ?_
  · rintro i m news h ⟨rfl, u, tk, z, hz, rfl⟩ F N
    exact ⟨_, (N _ hm).1, rfl, _, rfl⟩
  · rintro i v m₁ news₁ h tk I oI hi ha hlt hL ⟨rfl, u, tk1, z, hz, rfl⟩ F1 N1
    obtain ⟨x, t, hx, rfl⟩ := hv.get hi
    obtain ⟨c, hci, rfl⟩ : ∃ c, cs'[i]? = some c ∧ x = ⟨#[c]⟩ := by
      rw [List.getElem?_map] at hx
      cases hq : cs'[i]? with
      | none => rw [hq] at hx; cases hx
      | some c => rw [hq] at hx; exact ⟨c, rfl, (Option.some.inj hx).symm⟩
    have hcm := hc c (List.mem_of_getElem? hci)
    clear F9 N9
    k_steps
    rename Fr _ _ _ _ => F8
    rename News _ _ _ _ => N8
    refine ⟨_, _, _, _, rfl, F8, N8, rfl, rfl, _, _, _, ?_, fr_turn⟩
    rw [List.take_add_one, hci, hz]
    simp [List.foldl_append]
  · rintro m₁ news₁ h tk ⟨rfl, u, tk1, z, hz, rfl⟩ ha F1 N1
    clear F9 N9
    k_steps
    rw [hv.length, List.length_map, List.take_length] at hz
    exact hret _ _ _ ⟨_, by rw [hz]⟩ (by assumption) (by assumption)
end Mine
end partC1
section partH1
open PySem PySem.W PyProof.Rows PySem.Calls
set_option Elab.async false
set_option maxRecDepth 100000
set_option maxHeartbeats 1000000
namespace Mine
theorem reset_H1 : True := by
  w_top off
  k_with_none
  trivial
theorem words_H1 : True := by
  k_with "k_ne" => (refine neN ?_; first | with_reducible assumption | exact Ne.symm (by with_reducible assumption) | exact Nat.ne_of_lt (by with_reducible assumption) | exact Nat.ne_of_gt (by with_reducible assumption) | (refine' Nat.ne_of_lt (And.left ?hZ9); (case hZ9 => with_reducible assumption)) | (refine' Nat.ne_of_lt (And.left (And.right ?hZ9)); (case hZ9 => with_reducible assumption)) | (refine' Nat.ne_of_lt (And.left (And.right (And.right ?hZ9))); (case hZ9 => with_reducible assumption)) | (refine' Nat.ne_of_lt (And.left (And.right (And.right (And.right ?hZ9)))); (case hZ9 => with_reducible assumption)) | (refine' Nat.ne_of_lt (And.left (And.right (And.right (And.right (And.right ?hZ9))))); (case hZ9 => with_reducible assumption)) | (refine' Nat.ne_of_lt (And.left (And.right (And.right (And.right (And.right (And.right ?hZ9)))))); (case hZ9 => with_reducible assumption)) | (refine' Nat.ne_of_lt (And.left (And.right (And.right (And.right (And.right (And.right (And.right ?hZ9))))))); (case hZ9 => with_reducible assumption)) | (refine' Nat.ne_of_lt (And.left (And.right (And.right (And.right (And.right (And.right (And.right (And.right ?hZ9)))))))); (case hZ9 => with_reducible assumption)) | (refine' Nat.ne_of_lt (And.left (And.right (And.right (And.right (And.right (And.right (And.right (And.right (And.right ?hZ9))))))))); (case hZ9 => with_reducible assumption)) | (refine' Nat.ne_of_gt (And.left ?hZ9); (case hZ9 => with_reducible assumption)) | (refine' Nat.ne_of_gt (And.left (And.right ?hZ9)); (case hZ9 => with_reducible assumption)) | (refine' Nat.ne_of_gt (And.left (And.right (And.right ?hZ9))); (case hZ9 => with_reducible assumption)) | (refine' Nat.ne_of_gt (And.left (And.right (And.right (And.right ?hZ9)))); (case hZ9 => with_reducible assumption)) | (refine' Nat.ne_of_gt (And.left (And.right (And.right (And.right (And.right ?hZ9))))); (case hZ9 => with_reducible assumption)) | (refine' Nat.ne_of_gt (And.left (And.right (And.right (And.right (And.right (And.right ?hZ9)))))); (case hZ9 => with_reducible assumption)) | (refine' Nat.ne_of_gt (And.left (And.right (And.right (And.right (And.right (And.right (And.right ?hZ9))))))); (case hZ9 => with_reducible assumption)) | (refine' Nat.ne_of_gt (And.left (And.right (And.right (And.right (And.right (And.right (And.right (And.right ?hZ9)))))))); (case hZ9 => with_reducible assumption)) | (refine' Nat.ne_of_gt (And.left (And.right (And.right (And.right (And.right (And.right (And.right (And.right (And.right ?hZ9))))))))); (case hZ9 => with_reducible assumption)) | ((try dsimp only); omega))
  k_with "callWith ref" => (k_here; (with_reducible show wpAny _ _ (callWith _ (Value.ref _) _ (backTo _ (starEach (_ :: _) _)) []) _ _ _); k_dflt (refine' callWith_K ?k1Z9 ?k2Z9 ?_; (case k1Z9 => k_asm); (case k2Z9 => k_is); k_whole))
  trivial
theorem lines_H1_1 : True := by
  k_with "exec For" => ((k_here; k_dflt (refine' for_open ?_ ?hsZ9; (case hsZ9 => (intro _; rfl)))))
  k_with "call ref" => ((k_here; k_dflt (refine' PureCt.useV (cvn _ _ _ _ _ ?hcmZ9) ?k1Z9 ?k2Z9 ?k3Z9 ?k4Z9 ?k5Z9 ?k6Z9 ?k7Z9 ?k8Z9 ?_; (case hcmZ9 => first | assumption | exact low_mem _ (by assumption)); (case k1Z9 => k_asm); (case k2Z9 => k_asm); (case k3Z9 => k_asm); (case k4Z9 => k_asm); (case k5Z9 => k_asm); (case k6Z9 => first | rfl | assumption); (case k7Z9 => ktr_room); (case k8Z9 => ktr_units)); intro _ _ _ _; (try dsimp only); (try k_sweep)))
  k_with "call builtin:str.lower" => ((k_here; (with_reducible show wpAny _ _ (call (Value.builtin "str.lower") [Value.str _ _]) _ _ _); (refine KXw.lower (low_txt _ ?hmZ9) (low_fit _ ?hmZ9) ?_); (case hmZ9 => assumption); intro _ _))
  trivial
theorem get_ct (w : World) (tb td hl : Addr) (hh : Int) (th : Tok) (nd n : Nat) (vs : List Value) (tab : List (Nat × Nat)) (c : Nat) (t : Tok) (news : List (Addr × Obj))
    (h1 : (tb, instObj 237 td) ∈ news) (h2 : (td, dictOf [⟨hh, .str (Str.ofString "_headers") th, .ref hl⟩] nd) ∈ news) (h3 : (hl, PySem.W.listOf vs.toArray n) ∈ news) (hv : TabIs news vs tab) (ht : TabOk tab) (hc : c ∈ letters) :
    PureCt w 670 850 184 [.ref tb, .str ⟨#[c]⟩ t] [] news (fun r => match tab.find? (fun p => lowN p.2 == lowN c) with | some p => ∃ t', r = .str ⟨#[p.1, p.2]⟩ t' | none => r = .none) := by
  unfold PureCt
  k_fill
  intro loose mean mg mb dp un gd cn cs a ccd cl outer A₀ base h₀ L m s Q E B F X N T hk hd hu hret
  refine wpAny_call ?_
  k_dflt (refine' code_def ?k1 ?k2 ?k3 ?k4 ?k5 ?kA ?kF ?kK ?k6 ?k7 ?k8 ?k9 ?kB ?_ ?c2 ?c3 ?c4 ?c5; (case kA => exact rfl); (case kF => exact rfl); (case kK => assumption); (case k1 => k_asm); (case k2 => k_asm); (case k3 => k_asm); (case k4 => k_asm); (case k5 => k_asm); (case k6 => k_is); (case k7 => k_is); (case k8 => ktr_room); (case k9 => first | exact BindsTo.of_eq rfl | exact binds_K (by k_in) rfl (by k_is) rfl rfl rfl); (case c5 => decide); (case kB => exact locs rfl); (case c2 => exact rfl); (case c3 => exact rfl); (case c4 => exact rfl); k_whole; intro g' L' h' FG' F' N' B' X' T'; (try dsimp only); (try k_fold))
  refine wpAny_mono (E := nE) ?_ (fun _ _ z => z) (fun _ _ z => z.elim)
  k_steps
  rename Fr _ _ _ _ => F9
  rename News _ _ _ _ => N9
  refine for_led2 (Str.ofString "v") (Str.ofString "k") (vs := vs) (fun i news' => news' = news ∧ ∀ p ∈ tab.take i, lowN p.2 ≠ lowN c) rfl F9 N9 ⟨rfl, by simp⟩ ?_ ?_ ?_
  · rintro i news h ⟨rfl, _⟩ _ N
    exact ⟨_, (N _ h3).1, rfl, _, rfl⟩
  · rintro i v u news₁ h tk I oI hi ha hlt hL ⟨rfl, hno⟩ F1 N1
    obtain ⟨a', t1, t2, sd, c', htab, rfl, hmem⟩ := hv.get hi
    obtain ⟨hsd, hc'⟩ := ht _ (List.mem_of_getElem? htab)
    have hmem' := List.mem_cons_of_mem (I, oI) hmem
    clear F9 N9
    k_steps
    · rename (_ == _) = true => hq
      dsimp only [TurnPost2]
      k_steps
      rename Fr _ _ _ _ => F8
      rename News _ _ _ _ => N8
      rw [str1_eq] at hq
      refine hret _ _ _ ?_ F8 (fun p hp => N8 p (.tail _ hp))
      rw [find_at (fun p => lowN p.2 == lowN c) tab i (sd, c') htab (by simp [hq]) (fun p hp => by simpa using hno p hp)]
      exact ⟨_, rfl⟩
    · rename (_ == _) = false => hq
      rename Fr _ _ _ _ => F8
      rename News _ _ _ _ => N8
      rw [str1_ne] at hq
      refine ⟨_, _, _, _, rfl, F8, N8, rfl, ?_, rfl, ?_⟩
      · intro y hy1 hy2
        simp [fr2, hy1, hy2]
      · intro p hp
        rw [List.take_add_one, htab] at hp
        rcases List.mem_append.mp hp with hp | hp
        · exact hno p hp
        · rw [Option.toList_some, List.mem_singleton] at hp; subst hp; exact hq
  · rintro u news₁ h tk ⟨rfl, hno⟩ ha F1 N1
    clear F9 N9
    k_steps
    rename Fr _ _ _ _ => F8
    rename News _ _ _ _ => N8
    refine hret _ _ _ ?_ F8 N8
    rw [hv.length, List.take_length] at hno
    rw [find_no (fun p => lowN p.2 == lowN c) tab (fun p hp => by simpa using hno p hp)]
theorem get_some (w : World) (tb td hl : Addr) (hh : Int) (th : Tok) (nd n : Nat) (vs : List Value) (tab : List (Nat × Nat)) (c : Nat) (t : Tok) (news : List (Addr × Obj)) (p : Nat × Nat)
    (h1 : (tb, instObj 237 td) ∈ news) (h2 : (td, dictOf [⟨hh, .str (Str.ofString "_headers") th, .ref hl⟩] nd) ∈ news) (h3 : (hl, PySem.W.listOf vs.toArray n) ∈ news) (hv : TabIs news vs tab) (ht : TabOk tab) (hc : c ∈ letters) (hf : tab.find? (fun p => lowN p.2 == lowN c) = some p) :
    PureCt w 670 850 184 [.ref tb, .str ⟨#[c]⟩ t] [] news (fun r => ∃ t', r = .str ⟨#[p.1, p.2]⟩ t') :=
  (get_ct w tb td hl hh th nd n vs tab c t news h1 h2 h3 hv ht hc).mono fun r h => by rw [hf] at h; exact h
theorem get_none (w : World) (tb td hl : Addr) (hh : Int) (th : Tok) (nd n : Nat) (vs : List Value) (tab : List (Nat × Nat)) (c : Nat) (t : Tok) (news : List (Addr × Obj))
    (h1 : (tb, instObj 237 td) ∈ news) (h2 : (td, dictOf [⟨hh, .str (Str.ofString "_headers") th, .ref hl⟩] nd) ∈ news) (h3 : (hl, PySem.W.listOf vs.toArray n) ∈ news) (hv : TabIs news vs tab) (ht : TabOk tab) (hc : c ∈ letters) (hf : tab.find? (fun p => lowN p.2 == lowN c) = none) :
    PureCt w 670 850 184 [.ref tb, .str ⟨#[c]⟩ t] [] news (fun r => r = .none) :=
  (get_ct w tb td hl hh th nd n vs tab c t news h1 h2 h3 hv ht hc).mono fun r h => by rw [hf] at h; exact h
end Mine
end partH1
section partH2
open PySem PySem.W PyProof.Rows PySem.Calls
set_option Elab.async false
set_option maxRecDepth 100000
set_option maxHeartbeats 1000000
namespace Mine
theorem reset_H2 : True := by
  w_top off
  k_with_none
  trivial
theorem words_H2 : True := by
  k_with "k_ne" => (refine neN ?_; first | with_reducible assumption | exact Ne.symm (by with_reducible assumption) | exact Nat.ne_of_lt (by with_reducible assumption) | exact Nat.ne_of_gt (by with_reducible assumption) | (refine' Nat.ne_of_lt (And.left ?hZ9); (case hZ9 => with_reducible assumption)) | (refine' Nat.ne_of_lt (And.left (And.right ?hZ9)); (case hZ9 => with_reducible assumption)) | (refine' Nat.ne_of_lt (And.left (And.right (And.right ?hZ9))); (case hZ9 => with_reducible assumption)) | (refine' Nat.ne_of_lt (And.left (And.right (And.right (And.right ?hZ9)))); (case hZ9 => with_reducible assumption)) | (refine' Nat.ne_of_lt (And.left (And.right (And.right (And.right (And.right ?hZ9))))); (case hZ9 => with_reducible assumption)) | (refine' Nat.ne_of_lt (And.left (And.right (And.right (And.right (And.right (And.right ?hZ9)))))); (case hZ9 => with_reducible assumption)) | (refine' Nat.ne_of_lt (And.left (And.right (And.right (And.right (And.right (And.right (And.right ?hZ9))))))); (case hZ9 => with_reducible assumption)) | (refine' Nat.ne_of_lt (And.left (And.right (And.right (And.right (And.right (And.right (And.right (And.right ?hZ9)))))))); (case hZ9 => with_reducible assumption)) | (refine' Nat.ne_of_lt (And.left (And.right (And.right (And.right (And.right (And.right (And.right (And.right (And.right ?hZ9))))))))); (case hZ9 => with_reducible assumption)) | (refine' Nat.ne_of_gt (And.left ?hZ9); (case hZ9 => with_reducible assumption)) | (refine' Nat.ne_of_gt (And.left (And.right ?hZ9)); (case hZ9 => with_reducible assumption)) | (refine' Nat.ne_of_gt (And.left (And.right (And.right ?hZ9))); (case hZ9 => with_reducible assumption)) | (refine' Nat.ne_of_gt (And.left (And.right (And.right (And.right ?hZ9)))); (case hZ9 => with_reducible assumption)) | (refine' Nat.ne_of_gt (And.left (And.right (And.right (And.right (And.right ?hZ9))))); (case hZ9 => with_reducible assumption)) | (refine' Nat.ne_of_gt (And.left (And.right (And.right (And.right (And.right (And.right ?hZ9)))))); (case hZ9 => with_reducible assumption)) | (refine' Nat.ne_of_gt (And.left (And.right (And.right (And.right (And.right (And.right (And.right ?hZ9))))))); (case hZ9 => with_reducible assumption)) | (refine' Nat.ne_of_gt (And.left (And.right (And.right (And.right (And.right (And.right (And.right (And.right ?hZ9)))))))); (case hZ9 => with_reducible assumption)) | (refine' Nat.ne_of_gt (And.left (And.right (And.right (And.right (And.right (And.right (And.right (And.right (And.right ?hZ9))))))))); (case hZ9 => with_reducible assumption)) | ((try dsimp only); omega))
  k_with "callWith ref" => (k_here; (with_reducible show wpAny _ _ (callWith _ (Value.ref _) _ (backTo _ (starEach (_ :: _) _)) []) _ _ _); k_dflt (refine' callWith_K ?k1Z9 ?k2Z9 ?_; (case k1Z9 => k_asm); (case k2Z9 => k_is); k_whole))
  trivial
theorem lines_H2_1 : True := by
  k_with "exec For" => ((k_here; k_dflt (refine' for_open ?_ ?hsZ9; (case hsZ9 => (intro _; rfl)))))
  k_with "call type:type" => ((k_here; (with_reducible show wpAny _ _ (call (Value.type "type") [Value.ref _]) _ _ _); (rename News _ _ _ _ => kN9Z); k_dflt (refine' kto_cont (T := "list") ⟨_, (kN9Z (_, PySem.W.listOf _ _) ?hmZ9).1, rfl⟩ ?nZ9 ?_; (case hmZ9 => k_mem); (case nZ9 => decide +kernel); k_whole)))
  k_with "k_mem" => (assumption)
  k_with "k_all" => (first | assumption | exact ne_all (by assumption) | exact ne_all' (by assumption))
  k_with "ktr_units" => (((try simp only [units_in1, units_deeper, Around.mark_units, units_under_make]); (try dsimp only [ktrTop]); first | decide | (refine' Nat.lt_of_lt_of_le (Nat.add_lt_add_right ?h9Z9 3) ?g9Z9; (case h9Z9 => assumption); (case g9Z9 => decide)) | omega))
  k_with "ktr_room" => (((try simp only [depth_under_make, depth_under_kw, depth_in1, depth_deeper, depth_caller]); (try dsimp only [ktrTop]); first | decide | (refine' Nat.lt_of_lt_of_le (Nat.succ_lt_succ ?h9Z9) ?g9Z9; (case h9Z9 => assumption); (case g9Z9 => decide)) | omega | (simp only [recursionLimit]; omega)))
  k_with "call ref" => ((k_here; k_dflt (refine' PureCt.useV (cvv _ _ _ _ _ _ ?hcsZ9 ?hcmZ9) ?k1Z9 ?k2Z9 ?k3Z9 ?k4Z9 ?k5Z9 ?k6Z9 ?k7Z9 ?k8Z9 ?_; (case hcmZ9 => assumption); (case hcsZ9 => assumption); (case k1Z9 => k_asm); (case k2Z9 => k_asm); (case k3Z9 => k_asm); (case k4Z9 => k_asm); (case k5Z9 => k_asm); (case k6Z9 => first | rfl | assumption); (case k7Z9 => ktr_room); (case k8Z9 => ktr_units)); intro _ _ _ _; (try dsimp only); (try k_sweep)))
  k_with "call ref" => ((k_here; k_dflt (refine' PureCt.useV (cvn _ _ _ _ _ ?hcmZ9) ?k1Z9 ?k2Z9 ?k3Z9 ?k4Z9 ?k5Z9 ?k6Z9 ?k7Z9 ?k8Z9 ?_; (case hcmZ9 => assumption); (case k1Z9 => k_asm); (case k2Z9 => k_asm); (case k3Z9 => k_asm); (case k4Z9 => k_asm); (case k5Z9 => k_asm); (case k6Z9 => first | rfl | assumption); (case k7Z9 => ktr_room); (case k8Z9 => ktr_units)); intro _ _ _ _; (try dsimp only); (try k_sweep)))
  trivial
theorem new_ct (w : World) (hl : Addr) (n : Nat) (vs : List Value) (tab : List (Nat × Nat)) (news : List (Addr × Obj))
    (h3 : (hl, PySem.W.listOf vs.toArray n) ∈ news) (hv : TabIs news vs tab) (ht : TabOk tab) :
    MutCt w 670 850 (.ref 237) [.ref hl] [] news (fun r news' => ∃ tb td hh th, r = .ref tb ∧ news' = (tb, instObj 237 td) :: (td, dictOf [⟨hh, .str (Str.ofString "_headers") th, .ref hl⟩] 1) :: news ∧ (∀ p ∈ news, p.1 < td) ∧ td < tb) := by
  unfold MutCt
  k_fill
  intro loose mean mg mb dp un gd cn cs a ccd cl outer A₀ base h₀ L m s Q E B F X N T hk hd hu hret
  refine wpAny_mono (E := nE) ?_ (fun _ _ z => z) (fun _ _ z => z.elim)
  k_dflt (refine' call_cls ?k1 ?k2 ?k3 ?k4 ?k5 ?k6 ?_; (case k1 => k_asm); (case k2 => k_asm); (case k3 => k_asm); (case k4 => k_is); (case k5 => k_is); (case k6 => k_is); k_whole; intro x' d' hx' Fx' Nx' lx1 lx2; replace lx2 := ltN lx2)
  k_dflt (refine' code_def ?k1 ?k2 ?k3 ?k4 ?k5 ?kA ?kF ?kK ?k6 ?k7 ?k8 ?k9 ?kB ?_ ?c2 ?c3 ?c4 ?c5; (case kA => exact rfl); (case kF => exact rfl); (case kK => assumption); (case k1 => k_asm); (case k2 => k_asm); (case k3 => k_asm); (case k4 => k_asm); (case k5 => k_asm); (case k6 => k_is); (case k7 => k_is); (case k8 => ktr_room); (case k9 => first | exact BindsTo.of_eq rfl | exact binds_K (by k_in) rfl (by k_is) rfl rfl rfl); (case c5 => decide); (case kB => exact locs rfl); (case c2 => exact rfl); (case c3 => exact rfl); (case c4 => exact rfl); k_whole; intro g' L' h' FG' F' N' B' X' T'; (try dsimp only); (try k_fold))
  refine wpAny_mono (E := nE) ?_ (fun _ _ z => z) (fun _ _ z => z.elim)
  k_steps
  rename Fr _ _ _ _ => F9
  rename News _ _ _ _ => N9
  refine for_led1 (Str.ofString "v") (Str.ofString "k") (vs := vs) (fun _ => True) rfl F9 N9 trivial ?_ ?_ ?_
  · intro h _ N
    exact ⟨_, (N _ (.tail _ (.tail _ h3))).1, rfl, _, rfl⟩
  · rintro i v u h tk I oI hi hlt hL _ F1 N1
    obtain ⟨a', t1, t2, sd, c', htab, rfl, hmem⟩ := hv.get hi
    obtain ⟨hsd, hc'⟩ := ht _ (List.mem_of_getElem? htab)
    clear F9 N9
    k_steps
    rename Fr _ _ _ _ => F8
    rename News _ _ _ _ => N8
    refine ⟨_, _, _, rfl, F8, N8, ?_, trivial⟩
    intro y hy1 hy2
    simp [fr2, hy1, hy2]
  · rintro u h tk _ F1 N1
    clear F9 N9
    k_steps
    rename Fr _ _ _ _ => F8
    rename News _ _ _ _ => N8
    exact hret _ _ _ _ ⟨_, _, _, _, rfl, rfl, lx1, lx2⟩ F8 N8
end Mine
end partH2
section partH3
open PySem PySem.W PyProof.Rows PySem.Calls
set_option Elab.async false
set_option maxRecDepth 100000
set_option maxHeartbeats 1000000
namespace Mine
theorem reset_H3 : True := by
  w_top off
  k_with_none
  trivial
theorem words_H3 : True := by
  k_with "k_ne" => (refine neN ?_; first | with_reducible assumption | exact Ne.symm (by with_reducible assumption) | exact Nat.ne_of_lt (by with_reducible assumption) | exact Nat.ne_of_gt (by with_reducible assumption) | (refine' Nat.ne_of_lt (And.left ?hZ9); (case hZ9 => with_reducible assumption)) | (refine' Nat.ne_of_lt (And.left (And.right ?hZ9)); (case hZ9 => with_reducible assumption)) | (refine' Nat.ne_of_lt (And.left (And.right (And.right ?hZ9))); (case hZ9 => with_reducible assumption)) | (refine' Nat.ne_of_lt (And.left (And.right (And.right (And.right ?hZ9)))); (case hZ9 => with_reducible assumption)) | (refine' Nat.ne_of_lt (And.left (And.right (And.right (And.right (And.right ?hZ9))))); (case hZ9 => with_reducible assumption)) | (refine' Nat.ne_of_lt (And.left (And.right (And.right (And.right (And.right (And.right ?hZ9)))))); (case hZ9 => with_reducible assumption)) | (refine' Nat.ne_of_lt (And.left (And.right (And.right (And.right (And.right (And.right (And.right ?hZ9))))))); (case hZ9 => with_reducible assumption)) | (refine' Nat.ne_of_lt (And.left (And.right (And.right (And.right (And.right (And.right (And.right (And.right ?hZ9)))))))); (case hZ9 => with_reducible assumption)) | (refine' Nat.ne_of_lt (And.left (And.right (And.right (And.right (And.right (And.right (And.right (And.right (And.right ?hZ9))))))))); (case hZ9 => with_reducible assumption)) | (refine' Nat.ne_of_gt (And.left ?hZ9); (case hZ9 => with_reducible assumption)) | (refine' Nat.ne_of_gt (And.left (And.right ?hZ9)); (case hZ9 => with_reducible assumption)) | (refine' Nat.ne_of_gt (And.left (And.right (And.right ?hZ9))); (case hZ9 => with_reducible assumption)) | (refine' Nat.ne_of_gt (And.left (And.right (And.right (And.right ?hZ9)))); (case hZ9 => with_reducible assumption)) | (refine' Nat.ne_of_gt (And.left (And.right (And.right (And.right (And.right ?hZ9))))); (case hZ9 => with_reducible assumption)) | (refine' Nat.ne_of_gt (And.left (And.right (And.right (And.right (And.right (And.right ?hZ9)))))); (case hZ9 => with_reducible assumption)) | (refine' Nat.ne_of_gt (And.left (And.right (And.right (And.right (And.right (And.right (And.right ?hZ9))))))); (case hZ9 => with_reducible assumption)) | (refine' Nat.ne_of_gt (And.left (And.right (And.right (And.right (And.right (And.right (And.right (And.right ?hZ9)))))))); (case hZ9 => with_reducible assumption)) | (refine' Nat.ne_of_gt (And.left (And.right (And.right (And.right (And.right (And.right (And.right (And.right (And.right ?hZ9))))))))); (case hZ9 => with_reducible assumption)) | ((try dsimp only); omega))
  k_with "callWith ref" => (k_here; (with_reducible show wpAny _ _ (callWith _ (Value.ref _) _ (backTo _ (starEach (_ :: _) _)) []) _ _ _); k_dflt (refine' callWith_K ?k1Z9 ?k2Z9 ?_; (case k1Z9 => k_asm); (case k2Z9 => k_is); k_whole))
  trivial
theorem lines_H3_1 : True := by
  k_with "exec For" => ((k_here; k_dflt (refine' for_open ?_ ?hsZ9; (case hsZ9 => (intro _; rfl)))))
  k_with "call type:type" => ((k_here; (with_reducible show wpAny _ _ (call (Value.type "type") [Value.ref _]) _ _ _); (rename News _ _ _ _ => kN9Z); k_dflt (refine' kto_cont (T := "list") ⟨_, (kN9Z (_, PySem.W.listOf _ _) ?hmZ9).1, rfl⟩ ?nZ9 ?_; (case hmZ9 => k_mem); (case nZ9 => decide +kernel); k_whole)))
  k_with "k_mem" => (assumption)
  k_with "k_all" => (first | assumption | exact ne_all (by assumption) | exact ne_all' (by assumption))
  k_with "ktr_units" => (((try simp only [units_in1, units_deeper, Around.mark_units, units_under_make]); (try dsimp only [ktrTop]); first | decide | (refine' Nat.lt_of_lt_of_le (Nat.add_lt_add_right ?h9Z9 3) ?g9Z9; (case h9Z9 => assumption); (case g9Z9 => decide)) | omega))
  k_with "ktr_room" => (((try simp only [depth_under_make, depth_under_kw, depth_in1, depth_deeper, depth_caller]); (try dsimp only [ktrTop]); first | decide | (refine' Nat.lt_of_lt_of_le (Nat.succ_lt_succ ?h9Z9) ?g9Z9; (case h9Z9 => assumption); (case g9Z9 => decide)) | omega | (simp only [recursionLimit]; omega)))
  k_with "call ref" => ((k_here; k_dflt (refine' PureCt.useE (get_some _ _ _ _ _ _ _ _ _ _ _ _ _ _ ?h1Z9 ?h2Z9 ?h3Z9 ?hvZ9 ?htZ9 ?hcZ9 ?hfZ9) ?k1Z9 ?k2Z9 ?k3Z9 ?k4Z9 ?k5Z9 ?k6Z9 ?k7Z9 ?k8Z9 ?_; (case k1Z9 => k_asm); (case k2Z9 => k_asm); (case k3Z9 => k_asm); (case k4Z9 => k_asm); (case h1Z9 => k_mem); (case h2Z9 => k_mem); (case h3Z9 => k_mem); (case hfZ9 => assumption); (case hvZ9 => first | assumption | exact TabIs.mono (by assumption) (fun _ hp => .tail _ hp)); (case htZ9 => assumption); (case hcZ9 => assumption); (case k5Z9 => k_asm); (case k6Z9 => first | rfl | assumption); (case k7Z9 => ktr_room); (case k8Z9 => ktr_units)); intro _ _ _ _ _; (try dsimp only); (try k_sweep)))
  k_with "call ref" => ((k_here; k_dflt (refine' PureCt.useV (get_none _ _ _ _ _ _ _ _ _ _ _ _ _ ?h1Z9 ?h2Z9 ?h3Z9 ?hvZ9 ?htZ9 ?hcZ9 ?hfZ9) ?k1Z9 ?k2Z9 ?k3Z9 ?k4Z9 ?k5Z9 ?k6Z9 ?k7Z9 ?k8Z9 ?_; (case k1Z9 => k_asm); (case k2Z9 => k_asm); (case k3Z9 => k_asm); (case k4Z9 => k_asm); (case h1Z9 => k_mem); (case h2Z9 => k_mem); (case h3Z9 => k_mem); (case hfZ9 => assumption); (case hvZ9 => first | assumption | exact TabIs.mono (by assumption) (fun _ hp => .tail _ hp)); (case htZ9 => assumption); (case hcZ9 => assumption); (case k5Z9 => k_asm); (case k6Z9 => first | rfl | assumption); (case k7Z9 => ktr_room); (case k8Z9 => ktr_units)); intro _ _ _ _; (try dsimp only); (try k_sweep)))
  k_with "call ref" => ((k_here; k_dflt (refine' PureCt.useV (cvv _ _ _ _ _ _ ?hcsZ9 ?hcmZ9) ?k1Z9 ?k2Z9 ?k3Z9 ?k4Z9 ?k5Z9 ?k6Z9 ?k7Z9 ?k8Z9 ?_; (case k1Z9 => k_asm); (case k2Z9 => k_asm); (case k3Z9 => k_asm); (case k4Z9 => k_asm); (case hcmZ9 => assumption); (case hcsZ9 => assumption); (case k5Z9 => k_asm); (case k6Z9 => first | rfl | assumption); (case k7Z9 => ktr_room); (case k8Z9 => ktr_units)); intro _ _ _ _; (try dsimp only); (try k_sweep)))
  k_with "call ref" => ((k_here; k_dflt (refine' PureCt.useV (cvn _ _ _ _ _ ?hcmZ9) ?k1Z9 ?k2Z9 ?k3Z9 ?k4Z9 ?k5Z9 ?k6Z9 ?k7Z9 ?k8Z9 ?_; (case k1Z9 => k_asm); (case k2Z9 => k_asm); (case k3Z9 => k_asm); (case k4Z9 => k_asm); (case hcmZ9 => assumption); (case k5Z9 => k_asm); (case k6Z9 => first | rfl | assumption); (case k7Z9 => ktr_room); (case k8Z9 => ktr_units)); intro _ _ _ _; (try dsimp only); (try k_sweep)))
  trivial
theorem set_some (w : World) (tb td hl : Addr) (hh : Int) (th : Tok) (nd n : Nat) (vs : List Value) (tab : List (Nat × Nat)) (sd c : Nat) (t t' : Tok) (rest : List (Addr × Obj)) (p : Nat × Nat) (hf : tab.find? (fun p => lowN p.2 == lowN c) = some p)
    (h1 : (tb, instObj 237 td) ∈ rest) (h2 : (td, dictOf [⟨hh, .str (Str.ofString "_headers") th, .ref hl⟩] nd) ∈ rest) (hne : ∀ p ∈ rest, p.1 ≠ hl) (hv : TabIs rest vs tab) (ht : TabOk tab) (hsd : sd = 60 ∨ sd = 62) (hc : c ∈ letters) (hn : vs.length ≤ 100) :
    MutCt w 660 800 (.ref 227) [.ref tb, .str ⟨#[c]⟩ t, .str ⟨#[sd, c]⟩ t'] [] ((hl, PySem.W.listOf vs.toArray n) :: rest) (fun r news' => (∃ t'', r = .str ⟨#[p.1, p.2]⟩ t'') ∧ news' = (hl, PySem.W.listOf vs.toArray n) :: rest) := by
  unfold MutCt
  k_fill
  intro loose mean mg mb dp un gd cn cs a ccd cl outer A₀ base h₀ L m s Q E B F X N T hk hd hu hret
  refine wpAny_call ?_
  k_dflt (refine' code_def ?k1 ?k2 ?k3 ?k4 ?k5 ?kA ?kF ?kK ?k6 ?k7 ?k8 ?k9 ?kB ?_ ?c2 ?c3 ?c4 ?c5; (case kA => exact rfl); (case kF => exact rfl); (case kK => assumption); (case k1 => k_asm); (case k2 => k_asm); (case k3 => k_asm); (case k4 => k_asm); (case k5 => k_asm); (case k6 => k_is); (case k7 => k_is); (case k8 => ktr_room); (case k9 => first | exact BindsTo.of_eq rfl | exact binds_K (by k_in) rfl (by k_is) rfl rfl rfl); (case c5 => decide); (case kB => exact locs rfl); (case c2 => exact rfl); (case c3 => exact rfl); (case c4 => exact rfl); k_whole; intro g' L' h' FG' F' N' B' X' T'; (try dsimp only); (try k_fold))
  refine wpAny_mono (E := nE) ?_ (fun _ _ z => z) (fun _ _ z => z.elim)
  k_steps
  rename Fr _ _ _ _ => F8
  rename News _ _ _ _ => N8
  exact hret _ _ _ _ ⟨⟨_, rfl⟩, rfl⟩ F8 N8
theorem set_none (w : World) (tb td hl : Addr) (hh : Int) (th : Tok) (nd n : Nat) (vs : List Value) (tab : List (Nat × Nat)) (sd c : Nat) (t t' : Tok) (rest : List (Addr × Obj)) (hf : tab.find? (fun p => lowN p.2 == lowN c) = none)
    (h1 : (tb, instObj 237 td) ∈ rest) (h2 : (td, dictOf [⟨hh, .str (Str.ofString "_headers") th, .ref hl⟩] nd) ∈ rest) (hne : ∀ p ∈ rest, p.1 ≠ hl) (hv : TabIs rest vs tab) (ht : TabOk tab) (hsd : sd = 60 ∨ sd = 62) (hc : c ∈ letters) (hn : vs.length ≤ 100) :
    MutCt w 660 800 (.ref 227) [.ref tb, .str ⟨#[c]⟩ t, .str ⟨#[sd, c]⟩ t'] [] ((hl, PySem.W.listOf vs.toArray n) :: rest) (fun r news' => r = .str ⟨#[sd, c]⟩ t' ∧ ∃ a n', news' = (a, tupO [.str ⟨#[c]⟩ t, .str ⟨#[sd, c]⟩ t']) :: (hl, PySem.W.listOf (vs ++ [Value.ref a]).toArray n') :: rest ∧ hl < a ∧ ∀ p ∈ rest, p.1 < a) := by
  unfold MutCt
  k_fill
  intro loose mean mg mb dp un gd cn cs a ccd cl outer A₀ base h₀ L m s Q E B F X N T hk hd hu hret
  refine wpAny_call ?_
  k_dflt (refine' code_def ?k1 ?k2 ?k3 ?k4 ?k5 ?kA ?kF ?kK ?k6 ?k7 ?k8 ?k9 ?kB ?_ ?c2 ?c3 ?c4 ?c5; (case kA => exact rfl); (case kF => exact rfl); (case kK => assumption); (case k1 => k_asm); (case k2 => k_asm); (case k3 => k_asm); (case k4 => k_asm); (case k5 => k_asm); (case k6 => k_is); (case k7 => k_is); (case k8 => ktr_room); (case k9 => first | exact BindsTo.of_eq rfl | exact binds_K (by k_in) rfl (by k_is) rfl rfl rfl); (case c5 => decide); (case kB => exact locs rfl); (case c2 => exact rfl); (case c3 => exact rfl); (case c4 => exact rfl); k_whole; intro g' L' h' FG' F' N' B' X' T'; (try dsimp only); (try k_fold))
  refine wpAny_mono (E := nE) ?_ (fun _ _ z => z) (fun _ _ z => z.elim)
  k_steps
  rename (_ ∧ AllLt _ _) => hl9
  rename Fr _ _ _ _ => F8
  rename News _ _ _ _ => N8
  rw [List.push_toArray] at N8
  exact hret _ _ _ _ ⟨rfl, _, _, rfl, hl9.1, allLt_all hl9.2⟩ F8 N8
end Mine
end partH3
section partH4
open PySem PySem.W PyProof.Rows PySem.Calls
set_option Elab.async false
set_option maxRecDepth 100000
set_option maxHeartbeats 1000000
namespace Mine
theorem reset_H4 : True := by
  w_top off
  k_with_none
  trivial
theorem words_H4 : True := by
  k_with "k_ne" => (refine neN ?_; first | with_reducible assumption | exact Ne.symm (by with_reducible assumption) | exact Nat.ne_of_lt (by with_reducible assumption) | exact Nat.ne_of_gt (by with_reducible assumption) | (refine' Nat.ne_of_lt (And.left ?hZ9); (case hZ9 => with_reducible assumption)) | (refine' Nat.ne_of_lt (And.left (And.right ?hZ9)); (case hZ9 => with_reducible assumption)) | (refine' Nat.ne_of_lt (And.left (And.right (And.right ?hZ9))); (case hZ9 => with_reducible assumption)) | (refine' Nat.ne_of_lt (And.left (And.right (And.right (And.right ?hZ9)))); (case hZ9 => with_reducible assumption)) | (refine' Nat.ne_of_lt (And.left (And.right (And.right (And.right (And.right ?hZ9))))); (case hZ9 => with_reducible assumption)) | (refine' Nat.ne_of_lt (And.left (And.right (And.right (And.right (And.right (And.right ?hZ9)))))); (case hZ9 => with_reducible assumption)) | (refine' Nat.ne_of_lt (And.left (And.right (And.right (And.right (And.right (And.right (And.right ?hZ9))))))); (case hZ9 => with_reducible assumption)) | (refine' Nat.ne_of_lt (And.left (And.right (And.right (And.right (And.right (And.right (And.right (And.right ?hZ9)))))))); (case hZ9 => with_reducible assumption)) | (refine' Nat.ne_of_lt (And.left (And.right (And.right (And.right (And.right (And.right (And.right (And.right (And.right ?hZ9))))))))); (case hZ9 => with_reducible assumption)) | (refine' Nat.ne_of_gt (And.left ?hZ9); (case hZ9 => with_reducible assumption)) | (refine' Nat.ne_of_gt (And.left (And.right ?hZ9)); (case hZ9 => with_reducible assumption)) | (refine' Nat.ne_of_gt (And.left (And.right (And.right ?hZ9))); (case hZ9 => with_reducible assumption)) | (refine' Nat.ne_of_gt (And.left (And.right (And.right (And.right ?hZ9)))); (case hZ9 => with_reducible assumption)) | (refine' Nat.ne_of_gt (And.left (And.right (And.right (And.right (And.right ?hZ9))))); (case hZ9 => with_reducible assumption)) | (refine' Nat.ne_of_gt (And.left (And.right (And.right (And.right (And.right (And.right ?hZ9)))))); (case hZ9 => with_reducible assumption)) | (refine' Nat.ne_of_gt (And.left (And.right (And.right (And.right (And.right (And.right (And.right ?hZ9))))))); (case hZ9 => with_reducible assumption)) | (refine' Nat.ne_of_gt (And.left (And.right (And.right (And.right (And.right (And.right (And.right (And.right ?hZ9)))))))); (case hZ9 => with_reducible assumption)) | (refine' Nat.ne_of_gt (And.left (And.right (And.right (And.right (And.right (And.right (And.right (And.right (And.right ?hZ9))))))))); (case hZ9 => with_reducible assumption)) | ((try dsimp only); omega))
  k_with "callWith ref" => (k_here; (with_reducible show wpAny _ _ (callWith _ (Value.ref _) _ (backTo _ (starEach (_ :: _) _)) []) _ _ _); k_dflt (refine' callWith_K ?k1Z9 ?k2Z9 ?_; (case k1Z9 => k_asm); (case k2Z9 => k_is); k_whole))
  trivial
theorem lines_H4_1 : True := by
  k_with "exec For" => ((k_here; k_dflt (refine' for_open ?_ ?hsZ9; (case hsZ9 => (intro _; rfl)))))
  k_with "call type:type" => ((k_here; (with_reducible show wpAny _ _ (call (Value.type "type") [Value.ref _]) _ _ _); (rename News _ _ _ _ => kN9Z); k_dflt (refine' kto_cont (T := "list") ⟨_, (kN9Z (_, PySem.W.listOf _ _) ?hmZ9).1, rfl⟩ ?nZ9 ?_; (case hmZ9 => k_mem); (case nZ9 => decide +kernel); k_whole)))
  k_with "k_mem" => (assumption)
  k_with "k_all" => (first | assumption | exact ne_all (by assumption) | exact ne_all' (by assumption))
  k_with "ktr_units" => (((try simp only [units_in1, units_deeper, Around.mark_units, units_under_make]); (try dsimp only [ktrTop]); first | decide | (refine' Nat.lt_of_lt_of_le (Nat.add_lt_add_right ?h9Z9 3) ?g9Z9; (case h9Z9 => assumption); (case g9Z9 => decide)) | omega))
  k_with "ktr_room" => (((try simp only [depth_under_make, depth_under_kw, depth_in1, depth_deeper, depth_caller]); (try dsimp only [ktrTop]); first | decide | (refine' Nat.lt_of_lt_of_le (Nat.succ_lt_succ ?h9Z9) ?g9Z9; (case h9Z9 => assumption); (case g9Z9 => decide)) | omega | (simp only [recursionLimit]; omega)))
  k_with "subscriptTail" => ((k_here; (with_reducible show wpAny _ _ (subscriptTail _ (PySem.Expr.Slice none none none _) (Value.ref _) (Value.ref _)) _ _ _); (rename News _ _ _ _ => kN9Z); k_dflt (refine' kmk_slice ?FZ9 kN9Z ?lZ9 ?pZ9 ?qZ9 ?_ ?sZ9 ?tZ9 ?zZ9; (case FZ9 => k_asm); (case lZ9 => exact ⟨_, (kN9Z (_, PySem.W.listOf _ _) (by k_mem)).1, rfl, _, rfl⟩); (case pZ9 => exact IsPart.none); (case qZ9 => exact IsPart.none); (case sZ9 => rfl); (case tZ9 => intro _; rfl); (case zZ9 => (simp only [List.size_toArray]; size_fits)); k_whole); intro _ _ _ N9Z _; (rw [pick_all] at N9Z); (try dsimp only)))
  k_with "eval ListComp" => ((k_here; k_dflt (refine LCp.ListComp_P (F₀ := by k_asm) (by with_unfolding_all rfl) (by decide) (by rfl) (by decide) (by rfl) (by rfl) (by decide) ?_)))
  trivial
theorem items_ct (w : World) (tb td hl : Addr) (hh : Int) (th : Tok) (nd n : Nat) (vs : List Value) (news : List (Addr × Obj))
    (h1 : (tb, instObj 237 td) ∈ news) (h2 : (td, dictOf [⟨hh, .str (Str.ofString "_headers") th, .ref hl⟩] nd) ∈ news) (h3 : (hl, PySem.W.listOf vs.toArray n) ∈ news) (hn : vs.length ≤ 100) :
    MutCt w 660 800 (.ref 201) [.ref tb] [] news (fun r news' => ∃ a n', r = .ref a ∧ news' = (a, PySem.W.listOf vs.toArray n') :: news ∧ ∀ p ∈ news, p.1 < a) := by
  unfold MutCt
  k_fill
  intro loose mean mg mb dp un gd cn cs a ccd cl outer A₀ base h₀ L m s Q E B F X N T hk hd hu hret
  refine wpAny_call ?_
  k_dflt (refine' code_def ?k1 ?k2 ?k3 ?k4 ?k5 ?kA ?kF ?kK ?k6 ?k7 ?k8 ?k9 ?kB ?_ ?c2 ?c3 ?c4 ?c5; (case kA => exact rfl); (case kF => exact rfl); (case kK => assumption); (case k1 => k_asm); (case k2 => k_asm); (case k3 => k_asm); (case k4 => k_asm); (case k5 => k_asm); (case k6 => k_is); (case k7 => k_is); (case k8 => ktr_room); (case k9 => first | exact BindsTo.of_eq rfl | exact binds_K (by k_in) rfl (by k_is) rfl rfl rfl); (case c5 => decide); (case kB => exact locs rfl); (case c2 => exact rfl); (case c3 => exact rfl); (case c4 => exact rfl); k_whole; intro g' L' h' FG' F' N' B' X' T'; (try dsimp only); (try k_fold))
  refine wpAny_mono (E := nE) ?_ (fun _ _ z => z) (fun _ _ z => z.elim)
  k_steps
  rename Fr _ _ _ _ => F8
  rename News _ _ _ _ => N8
  exact hret _ _ _ _ ⟨_, _, rfl, rfl, by assumption⟩ F8 N8
theorem keys_ct (w : World) (tb td hl : Addr) (hh : Int) (th : Tok) (nd n : Nat) (vs : List Value) (tab : List (Nat × Nat)) (news : List (Addr × Obj))
    (h1 : (tb, instObj 237 td) ∈ news) (h2 : (td, dictOf [⟨hh, .str (Str.ofString "_headers") th, .ref hl⟩] nd) ∈ news) (h3 : (hl, PySem.W.listOf vs.toArray n) ∈ news) (hn : vs.length ≤ 100) (hv : TabIs news vs tab) :
    MutCt w 660 800 (.ref 189) [.ref tb] [] news (fun r news' => ∃ a n' ks, r = .ref a ∧ StrsAre ks (tab.map fun p => (⟨#[p.2]⟩ : Str)) ∧ news' = (a, PySem.W.listOf ks.toArray n') :: news) := by
  unfold MutCt
  k_fill
  intro loose mean mg mb dp un gd cn cs a ccd cl outer A₀ base h₀ L m s Q E B F X N T hk hd hu hret
  refine wpAny_call ?_
  k_dflt (refine' code_def ?k1 ?k2 ?k3 ?k4 ?k5 ?kA ?kF ?kK ?k6 ?k7 ?k8 ?k9 ?kB ?_ ?c2 ?c3 ?c4 ?c5; (case kA => exact rfl); (case kF => exact rfl); (case kK => assumption); (case k1 => k_asm); (case k2 => k_asm); (case k3 => k_asm); (case k4 => k_asm); (case k5 => k_asm); (case k6 => k_is); (case k7 => k_is); (case k8 => ktr_room); (case k9 => first | exact BindsTo.of_eq rfl | exact binds_K (by k_in) rfl (by k_is) rfl rfl rfl); (case c5 => decide); (case kB => exact locs rfl); (case c2 => exact rfl); (case c3 => exact rfl); (case c4 => exact rfl); k_whole; intro g' L' h' FG' F' N' B' X' T'; (try dsimp only); (try k_fold))
  refine wpAny_mono (E := nE) ?_ (fun _ _ z => z) (fun _ _ z => z.elim)
  k_steps
  rename Fr _ _ _ _ => F9
  rename News _ _ _ _ => N9
  refine LCp.SrcLP.ledger rfl F9 N9 h3 (by rw [List.size_toArray]; exact Nat.le_trans hn (by decide)) ?_
  intro g9
  rw [List.size_toArray]
  suffices key : ∀ k i ys, vs.length = i + k → StrsAre ys ((tab.take i).map fun p => (⟨#[p.2]⟩ : Str)) → LCp.CompRestP _ _ _ _ _ _ _ _ _ _ _ _ _ _ _ _ k i ys news by
    exact key vs.length 0 [] (by omega) .nil
  clear F9 N9
  intro k
  induction k with
  | zero =>
    intro i ys hi hys
    refine LCp.CompRestP.zero ?_
    intro D1 hx1 tk1 F1 N1 off1
    dsimp only
    k_steps
    rename Fr _ _ _ _ => F8
    rename News _ _ _ _ => N8
    rw [List.take_of_length_le (by rw [← hv.length]; omega)] at hys
    exact hret _ _ _ _ ⟨_, _, _, rfl, hys, rfl⟩ F8 N8
  | succ k ih =>
    intro i ys hi hys
    refine LCp.CompRestP.succ ?_
    intro v hvi
    obtain ⟨a', t1, t2, sd, c', htab, rfl, hmem⟩ := hv.get (i := i) (v := v) (by simpa using hvi)
    refine ⟨a', _, _, _, _, rfl, hmem, rfl, rfl, ?_⟩
    intro I' oI' C' oC' D' m' hx' tk' E' hC' hx1 hx2 F1 N1 off' ne'
    k_steps
    rename Fr _ _ _ _ => F8
    rename News _ _ _ _ => N8
    refine LCg.CompEnd.intro F8 N8 news (fun p hp => hp) off' (.inr ⟨_, h3, rfl, _, rfl⟩) (ih (i + 1) _ (by omega) ?_)
    rw [List.take_add_one, htab, Option.toList_some, List.map_append]
    exact hys.append (.cons .nil)
end Mine
end partH4
section partS1
open PySem PySem.W PyProof.Rows PySem.Calls Builtin Builtin.ObjectAttr
set_option Elab.async false
set_option maxRecDepth 100000
namespace Mine
theorem reset_S1 : True := by
  w_top off
  k_with_none
  trivial
theorem fn_store : StoreFacts "function" [.type "function", .type "object"] "object.__setattr__" "object" where
  mro := by kernel_rfl
  slot := .of (owner := "object") (n := "__setattr__") (by rw [typeLookup_type, builtinLookup_eq_fast]; kernel_rfl) (by decide +kernel) (by decide +kernel) (by decide +kernel)
    (by first | exact .inl (by decide +kernel) | exact .inr (by decide +kernel)) (by rw [isSubtype_type]; kernel_rfl)
  entry := PySem.F.entry_object_sa
  kind := by decide +kernel
  split := by decide +kernel
  hasOwner := by decide +kernel
  args := fun a b c => by unfold argsOk; kernel_rfl
  passes := fun self => by kernel_rfl
theorem fn_read : typeLookup (.type "function") "read" = pure none := by rw [typeLookup_type, builtinLookup_eq_fast]; kernel_rfl
theorem fn_hasDict : typeHasDict (.type "function") = true := by decide +kernel
theorem put_one (name : Str) (hs : Int) (key v : Value) : Obj.putName name hs key v { cls := .type "dict", data := .dict #[] } = dictOf [⟨hs, key, v⟩] 1 := putName_dict name hs key v [] 0
theorem set_fn {prog : Program} {w : World} {A : Around} {E : Value → Shared → Prop} {s : Shared} {h₀ : Heap} {L f : Addr} {m : Str → Option Value} {fd : FuncData} {sl : Array (Option Value)} {pre post : List (Addr × Obj)} {v : Value} {Q : Unit → Shared → Prop}
    (F : Fr h₀ L s.heap m) (N : News h₀ L s.heap (pre ++ (f, (⟨.type "function", none, .func fd, sl⟩ : Obj)) :: post)) (h1 : ∀ p ∈ pre, p.1 ≠ f) (h2 : ∀ p ∈ post, p.1 ≠ f)
    (h : ∀ d h' tk', Fr h₀ L h' m → News h₀ L h' ((d, dictOf [⟨PyData.keyHash w.params (Str.ofString "read"), .str (Str.ofString "read") (s.toks + 1), v⟩] 1) :: (pre ++ (f, (⟨.type "function", some d, .func fd, sl⟩ : Obj)) :: post)) → (∀ p ∈ pre ++ (f, (⟨.type "function", none, .func fd, sl⟩ : Obj)) :: post, p.1 < d) → Q () { s with heap := h', toks := tk' }) :
    wpAny (model prog w) A (setAttr (.ref f) (Str.ofString "read") v) Q E s := by
  have hf := (N (f, _) (List.mem_append_right _ (.head _))).1
  have hT : Shared.TypeIs { s with toks := s.toks + 1 } (.ref f) "function" := ⟨_, hf, rfl⟩
  have tF : Looks (model prog w) s.heap (typeOf (.ref f)) (.type "function") := (Looks.ld hf).andThen .now
  refine wpAny_bind (wpAny_mkText (wpAny_bind (wpAny_callSpecial?_slot (s := { s with toks := s.toks + 1 }) hT fn_store.slot ?_)))
  refine wpAny_call_entry fn_store.slot hT fn_store.entry ?_ (fn_store.args _ _ _)
  rw [osa_eq, refuse_eq]
  obtain ⟨hh, g, dr, t, os⟩ := s
  dsimp only at *
  refine wpAny_bind (wpAny_bind (tF.here (wpAny_bind ((Looks.of_pure fn_store.mro).here ?_))))
  rw [fn_store.passes]
  refine wpAny_pure (wpAny_bind (tF.here (wpAny_bind ((Looks.of_pure fn_read).here (wpAny_bind (wpAny_pure ?_))))))
  show wpAny _ _ (storeInOwnDict (.ref f) (.type "function") _ _ v false) _ _ _
  unfold storeInOwnDict
  refine wpAny_bind (wpAny_pure (a := ()) ?_)
  rw [if_neg (show ¬ ((Value.type "function" == Value.type "module") = true) by decide)]
  obtain ⟨U1, U2⟩ := (⟨F.push emptyDict, News.push F N emptyDict⟩ : _ ∧ _)
  have hlt : f < hh.objs.size := Heap.lt_size hf
  have e1 : (hh.push emptyDict).get? f = some ⟨.type "function", none, .func fd, sl⟩ := Heap.get?_push_of_some _ hf
  obtain ⟨V1, V2⟩ := news_upd (pre := (hh.objs.size, emptyDict) :: pre) (post := post) (f := fun o : Obj => { o with dict := some hh.objs.size }) U1 U2 (fun p hp => by
    rcases List.mem_cons.mp hp with rfl | hp
    · exact Nat.ne_of_gt hlt
    · exact h1 p hp) h2 rfl rfl
  have D1 := (V2 (hh.objs.size, emptyDict) (.head _)).1
  obtain ⟨W1, W2⟩ := news_upd (pre := []) (f := Obj.putName (Str.ofString "read") (PyData.keyHash w.params (Str.ofString "read")) (.str (Str.ofString "read") (t + 1)) v) V1 V2 (fun p hp => by cases hp) (fun p hp => by
    rcases List.mem_append.mp hp with hp | hp
    · exact Nat.ne_of_lt (Heap.lt_size (N p (List.mem_append_left _ hp)).1)
    · rcases List.mem_cons.mp hp with rfl | hp
      · exact Nat.ne_of_lt hlt
      · exact Nat.ne_of_lt (Heap.lt_size (N p (List.mem_append_right _ (.tail _ hp))).1)) (put_one _ _ _ _) rfl
  have D2 := (W2 (hh.objs.size, dictOf [⟨PyData.keyHash w.params (Str.ofString "read"), .str (Str.ofString "read") (t + 1), v⟩] 1) (.head _)).1
  refine wpAny_bind ?_
  show wpAny _ _ (instanceDict f true) _ _ _
  unfold instanceDict
  refine wpAny_bind (wpAny_loadPart hf ?_)
  dsimp only
  refine wpAny_bind (wpAny_alloc ?_)
  refine wpAny_bind (wpAny_updatePart e1 ?_)
  unfold dictMade
  dsimp only
  rw [if_neg (show ¬ (finalisedInACycleAlone "function" = true) by decide +kernel)]
  refine wpAny_pure (a := some hh.objs.size) ?_
  dsimp only
  refine wpAny_bind (wpAny_pure (a := ()) (wpAny_bind ?_))
  unfold nsSet
  refine wpAny_bind (wpAny_bind (wpAny_askSetting (wpAny_pure (wpAny_bind (wpAny_mkText (wpAny_bind (wpAny_loadPart D1 ?_)))))))
  dsimp only
  rw [aRefKeyMayBeTheName_at, show (!(#[] : Array DictEntry).any (·.key.isStr (Str.ofString "read")) && (#[] : Array DictEntry).any (·.refKey)) = false by simp]
  refine wpAny_updatePart D1 ?_
  refine wpAny_bind (wpAny_lookBehind D2 (pastItsLine_dict (by rw [List.size_toArray, sizeLine_eq]; simp)) ?_)
  refine wpAny_pure ⟨_, rfl, wpAny_pure ?_⟩
  refine h _ _ _ W1 W2 (fun p hp => Heap.lt_size (N p hp).1)
theorem set_fnU {prog : Program} {w : World} {A : Around} {E : Value → Shared → Prop} {s : Shared} {h₀ : Heap} {L f : Addr} {m : Str → Option Value} {fd : FuncData} {sl : Array (Option Value)} {news : List (Addr × Obj)} {news' : Addr → List (Addr × Obj)} {v : Value} {Q : Unit → Shared → Prop}
    (F : Fr h₀ L s.heap m) (N : News h₀ L s.heap news) (U : ∀ d, Upd f (⟨.type "function", none, .func fd, sl⟩ : Obj) (⟨.type "function", some d, .func fd, sl⟩ : Obj) news (news' d))
    (h : ∀ d h' tk', Fr h₀ L h' m → News h₀ L h' ((d, dictOf [⟨PyData.keyHash w.params (Str.ofString "read"), .str (Str.ofString "read") (s.toks + 1), v⟩] 1) :: news' d) → (∀ p ∈ news, p.1 < d) → Q () { s with heap := h', toks := tk' }) :
    wpAny (model prog w) A (setAttr (.ref f) (Str.ofString "read") v) Q E s := by
  obtain ⟨pre, post, rfl, -, a, b⟩ := (U 0).split
  refine set_fn F N a b fun d h' tk' F' N' l => h d h' tk' F' ?_ l
  obtain ⟨pre', post', e, e', a', b'⟩ := (U d).split
  rw [e']
  have : pre' = pre ∧ post' = post := by
    clear e' N' N F U h F'
    induction pre generalizing pre' with
    | nil => cases pre' with
      | nil => exact ⟨rfl, (List.cons.inj e).2.symm⟩
      | cons x xs => rw [List.nil_append, List.cons_append] at e; obtain ⟨e1, -⟩ := List.cons.inj e; exact absurd (by rw [← e1]) (a' x (.head _))
    | cons y ys ih => cases pre' with
      | nil => rw [List.nil_append, List.cons_append] at e; obtain ⟨e1, -⟩ := List.cons.inj e; exact absurd (by rw [e1]) (a y (.head _))
      | cons x xs =>
        rw [List.cons_append, List.cons_append] at e; obtain ⟨e1, e2⟩ := List.cons.inj e
        obtain ⟨p1, p2⟩ := ih (fun p hp => a p (.tail _ hp)) (fun p hp => l p (by rcases List.mem_append.mp hp with h | h; exact List.mem_append_left _ (.tail _ h); exact List.mem_append_right _ h)) xs e2 (fun p hp => a' p (.tail _ hp))
        exact ⟨by rw [p1, e1], p2⟩
  obtain ⟨rfl, rfl⟩ := this
  exact N'
end Mine
end partS1
section partS2
open PySem PySem.W PyProof.Rows PySem.Calls Builtin Builtin.ObjectAttr PySem.Flt
set_option Elab.async false
set_option maxRecDepth 100000
namespace Mine
theorem reset_S2 : True := by
  w_top off
  k_with_none
  trivial
theorem slot_fn_ga : Slot "function" "__getattribute__" "object.__getattribute__" :=
  .of (owner := "object") (n := "__getattribute__") (by rw [typeLookup_type, builtinLookup_eq_fast]; kernel_rfl) (by decide +kernel) (by decide +kernel) (by decide +kernel)
    (by first | exact .inl (by decide +kernel) | exact .inr (by decide +kernel)) (by rw [isSubtype_type]; kernel_rfl)
theorem args_object_ga (a b : Value) : argsOk "object.__getattribute__" ⟨[a, b], []⟩ := by unfold argsOk; kernel_rfl
theorem canon_object_ga : (Manifest.canonical "object.__getattribute__" != "object.__getattribute__") = false := by decide +kernel
theorem lk_fn_getattr : typeLookup (.type "function") "__getattr__" = pure none := by rw [typeLookup_type, builtinLookup_eq_fast]; kernel_rfl
theorem sub_fn_static : isSubtype (.type "function") (.type "staticmethod") = pure false := by rw [isSubtype_type]; kernel_rfl
theorem sub_fn_classm : isSubtype (.type "function") (.type "classmethod") = pure false := by rw [isSubtype_type]; kernel_rfl
section
variable {prog : Program} {w : World} {A : Around} {E : Value → Shared → Prop} {h : Heap} {g : Array GenState} {d : Drawn} {t : Nat} {os : OsState} {Mo D : Addr} {md : Str → Option Value} {fd : FuncData} {sl : Array (Option Value)}
theorem fn_object_entry {tk : Tok} {v : Value} {Q : Fin → Shared → Prop} (hM : h.get? Mo = some ⟨.type "function", some D, .func fd, sl⟩) (hD : h.Ns D md) (hv : md "read" = some v)
    (hq : Q (.done (.ret v)) ⟨h, g, d, t, os⟩) : wpAny (model prog w) A (Builtin.«object.__getattribute__» ⟨[.ref Mo, .str "read" tk], []⟩) Q E ⟨h, g, d, t, os⟩ := by
  have hT : (⟨h, g, d, t, os⟩ : Shared).TypeIs (.ref Mo) "function" := ⟨_, hM, rfl⟩
  have f1 := sub_fn_static
  have f2 := sub_fn_classm
  have f3 := fn_read
  repeat (any_goals (first | assumption | with_reducible apply wpAny_nsGet_known | with_reducible apply wpAny_loadPart_known | wp_step))
theorem fn_getAttr {v : Value} {ex : Bool} {Q : Value → Shared → Prop} (hM : h.get? Mo = some ⟨.type "function", some D, .func fd, sl⟩) (hD : h.Ns D md) (hv : md "read" = some v)
    (hh : handedOut v = pure v) (hq : Q v ⟨h, g, d, t + 1, os⟩) : wpAny (model prog w) A (getAttr (.ref Mo) "read" ex) Q E ⟨h, g, d, t, os⟩ := by
  have hT : (⟨h, g, d, t, os⟩ : Shared).TypeIs (.ref Mo) "function" := ⟨_, hM, rfl⟩
  have hT1 : (⟨h, g, d, t + 1, os⟩ : Shared).TypeIs (.ref Mo) "function" := ⟨_, hM, rfl⟩
  have f1 := slot_fn_ga.lookup
  have f2 := lk_fn_getattr
  have f4 := slot_fn_ga.bind (.ref Mo)
  repeat (any_goals (first | assumption | wp_step))
  rw [if_neg (by rw [show onTheHeap (Value.builtin "object.__getattribute__") = false from rfl, Bool.and_false]; decide)]
  unfold boundAndCalled
  repeat (any_goals (first | assumption | wp_step))
  refine codeAny_call_builtin slot_fn_ga.plain F.entry_object_getattribute (slot_fn_ga.check _ _ _ _ _ _ _ _ hT1 (args_object_ga _ _) (fn_object_entry hM hD hv ?_))
  repeat (any_goals (first | assumption | wp_step))
theorem fn_getMethod {v : Value} {pl : Sem Bool} {Q : Value × List Value → Shared → Prop} (hM : h.get? Mo = some ⟨.type "function", some D, .func fd, sl⟩) (hD : h.Ns D md) (hv : md "read" = some v)
    (hh : handedOut v = pure v) (hq : Q (v, []) ⟨h, g, d, t + 1, os⟩) : wpAny (model prog w) A (getMethod (.ref Mo) "read" pl) Q E ⟨h, g, d, t, os⟩ := by
  have hT : (⟨h, g, d, t, os⟩ : Shared).TypeIs (.ref Mo) "function" := ⟨_, hM, rfl⟩
  have f1 := slot_fn_ga.lookup
  have f2 := lk_fn_getattr
  have f3 := fn_read
  unfold getMethod
  refine wpAny_bind (wpAny_specialOf hT f1 ?_)
  show wpAny _ A (if (Manifest.canonical "object.__getattribute__" != "object.__getattribute__") = true then _ else _) Q E _
  rw [canon_object_ga, if_neg (by decide)]
  refine wpAny_bind (wpAny_specialOf hT f2 ?_)
  rw [if_neg (by decide)]
  refine wpAny_bind (wpAny_specialOf hT f3 ?_)
  dsimp only
  refine wpAny_bind (fn_getAttr hM hD hv hh (wpAny_pure hq))
theorem ns_one {hs : Int} {tr : Tok} {v : Value} (ho : h.get? D = some (dictOf [⟨hs, .str (Str.ofString "read") tr, v⟩] 1)) : h.Ns D (nsFind #[⟨hs, .str (Str.ofString "read") tr, v⟩]) :=
  ⟨_, _, _, ho, rfl, fun e he => by rw [List.mem_toArray, List.mem_singleton] at he; subst he; exact ⟨_, _, rfl⟩, fun _ => rfl⟩
theorem fn_method_N {h₀ : Heap} {L fR : Addr} {hs : Int} {tr : Tok} {news : List (Addr × Obj)} {pl : Sem Bool} {s : Shared} {Q : Value × List Value → Shared → Prop} (N : News h₀ L s.heap news) (hf : (Mo, (⟨.type "function", some D, .func fd, sl⟩ : Obj)) ∈ news) (hd : (D, dictOf [⟨hs, .str (Str.ofString "read") tr, .ref fR⟩] 1) ∈ news)
    (hq : Q (.ref fR, []) { s with toks := s.toks + 1 }) : wpAny (model prog w) A (getMethod (.ref Mo) (Str.ofString "read") pl) Q E s :=
  fn_getMethod (N _ hf).1 (ns_one (N _ hd).1) (by rfl) rfl hq
end
end Mine
end partS2
section partS3
open PySem PySem.W PyProof.Rows PySem.Calls Builtin
set_option Elab.async false
set_option maxRecDepth 100000
namespace Mine
theorem reset_S3 : True := by
  w_top off
  k_with_none
  trivial
theorem slot_ci_iter : Slot "callable_iterator" "__iter__" "callable_iterator.__iter__" :=
  .of (owner := "callable_iterator") (n := "__iter__") (by rw [typeLookup_type, builtinLookup_eq_fast]; kernel_rfl) (by decide +kernel) (by decide +kernel) (by decide +kernel)
    (by first | exact .inl (by decide +kernel) | exact .inr (by decide +kernel)) (by rw [isSubtype_type]; kernel_rfl)
theorem slot_ci_next : Slot "callable_iterator" "__next__" "callable_iterator.__next__" :=
  .of (owner := "callable_iterator") (n := "__next__") (by rw [typeLookup_type, builtinLookup_eq_fast]; kernel_rfl) (by decide +kernel) (by decide +kernel) (by decide +kernel)
    (by first | exact .inl (by decide +kernel) | exact .inr (by decide +kernel)) (by rw [isSubtype_type]; kernel_rfl)
theorem entry_ci_iter : entryFor table "callable_iterator.__iter__" = some Builtin.«dict_keyiterator.__iter__» :=
  entryFor_alias (id' := "dict_keyiterator.__iter__") (by kernel_rfl) rfl (by decide +kernel) (by kernel_rfl)
theorem entry_ci_next : entryFor table "callable_iterator.__next__" = some Builtin.«callable_iterator.__next__» := entryFor_of_fast (by kernel_rfl)
theorem args_ci_iter (a : Value) : argsOk "callable_iterator.__iter__" ⟨[a], []⟩ := by unfold argsOk; kernel_rfl
theorem args_ci_next (a : Value) : argsOk "callable_iterator.__next__" ⟨[a], []⟩ := by unfold argsOk; kernel_rfl
theorem args_iter2 (a b : Value) : argsOk "iter" ⟨[a, b], []⟩ := by unfold argsOk; kernel_rfl
theorem lk_method_call : typeLookup (.type "method") "__call__" = pure (some (.builtin "method.__call__")) := by rw [typeLookup_type, builtinLookup_eq_fast]; kernel_rfl
noncomputable abbrev ciObj (f sent : Value) : Obj := { cls := .type "callable_iterator", data := .fields #[f, sent, .bool false] }
section
variable {prog : Program} {w : World} {A : Around} {E : Value → Shared → Prop} {s : Shared}
theorem iter_make {q : Addr} {f self sent : Value} {Q : Value → Shared → Prop} (hq : s.heap.get? q = some (methodObj f self)) (h : Q (.ref s.heap.objs.size) { s with heap := s.heap.push (ciObj (.ref q) sent) }) :
    wpAny (model prog w) A (call (.builtin "iter") [.ref q, sent]) Q E s := by
  refine call_function_entry (by decide +kernel) (by decide +kernel) kdk_entry_iter (args_iter2 _ _) ?_
  unfold Builtin.«iter»
  refine wpAny_bind (m := someArgs "iter" 1 2 _) (wpAny_of_eq (a := [Value.ref q, sent]) (by first | rfl | kernel_rfl!) ?_)
  have hT : s.TypeIs (.ref q) "method" := ⟨_, hq, rfl⟩
  show wpAny _ _ (specialOf (.ref q) "__call__" >>= _) _ _ _
  refine wpAny_bind (wpAny_specialOf hT lk_method_call ?_)
  rw [if_neg (by decide)]
  refine wpAny_bind (wpAny_rule (wpAny_bind ?_))
  refine wpAny_newObj_type ?_ (by size_fits)
  exact wpAny_pure ⟨_, rfl, h⟩
theorem iter_self {it : Addr} {c : Obj} {Q : Value → Shared → Prop} (hi : s.heap.get? it = some c) (hc : c.cls = .type "callable_iterator") (h : Q (.ref it) s) : wpAny (model prog w) A (pyIter (.ref it)) Q E s := by
  have hT : s.TypeIs (.ref it) "callable_iterator" := ⟨_, hi, hc⟩
  refine wpAny_pyIter_slot hT slot_ci_iter (wpAny_call_entry slot_ci_iter hT entry_ci_iter ?_ (args_ci_iter _))
  show wpAny _ _ (ret (.ref it)) _ _ s
  exact wpAny_pure ⟨_, rfl, "callable_iterator", _, hT, slot_ci_next.lookup, h⟩
theorem wpAny_callBorrowed {f : Value} {pos : List Value} {Q : Value → Shared → Prop} (h : wpAny (model prog w) A (call f pos) Q E s) : wpAny (model prog w) A (callBorrowed f pos) Q E s := by
  intro Γ p hΓ
  have this := h Γ p hΓ
  unfold call at this
  rw [Sem.wp_runValue] at this
  unfold callBorrowed
  rw [Sem.wp_call]
  refine wpCode_mono (fun r s' h => ?_) this
  rcases r with e | (v | _ | _ | _)
  · exact (Sem.wp_raise ..).mpr h
  · exact h.elim
  · exact h.elim
  · exact h.elim
  · exact (Sem.wp_pure' ..).mpr h
theorem borrows_method {q f : Addr} {self : Value} {of : Obj} {fd : FuncData} {Q : Bool → Shared → Prop} (hq : s.heap.get? q = some (methodObj (.ref f) self)) (hf : s.heap.get? f = some of) (hd : of.data = .func fd) (h : Q true s) :
    wpAny (model prog w) A (borrowsExactly (.ref q)) Q E s := by
  unfold borrowsExactly
  refine wpAny_bind (wpAny_load hq ?_)
  show wpAny _ _ (if (Value.type "method" == Value.type "method") = true then _ else _) _ _ _
  rw [if_pos (by decide)]
  refine wpAny_bind (wpAny_load hf ?_)
  rw [hd]
  exact wpAny_pure h
theorem ci_next {it q f : Addr} {self : Value} {ts : Tok} {of : Obj} {fd : FuncData} {Q : Option Value → Shared → Prop} (hh : A.handled = none) (hi : s.heap.get? it = some (ciObj (.ref q) (.str ⟨#[]⟩ ts))) (hq : s.heap.get? q = some (methodObj (.ref f) self)) (hf : s.heap.get? f = some of) (hd : of.data = .func fd)
    (hcall : codeAny (model prog w) A.in1 (.call (.ref f) ⟨[self], []⟩) (fun r s₁ => match r with
      | .ok (.ret v) => ∃ c t, v = .str c t ∧ s₁.heap.get? it = some (ciObj (.ref q) (.str ⟨#[]⟩ ts)) ∧ s₁.heap.get? q = some (methodObj (.ref f) self) ∧ s₁.heap.get? f = some of ∧ (c = ⟨#[]⟩ → ∀ h', Heap.ExtBut it s₁.heap h' → Q none { s₁ with heap := h' }) ∧ (c ≠ ⟨#[]⟩ → Q (some v) s₁)
      | _ => False) s) :
    wpAny (model prog w) A (pyNext (.ref it)) Q E s := by
  have hT : s.TypeIs (.ref it) "callable_iterator" := ⟨_, hi, rfl⟩
  unfold pyNext
  refine wpAny_bind (wpAny_attempt (wpAny_callSpecial?_slot (name := Str.ofString "__next__") hT slot_ci_next
    (wpAny_call_entry slot_ci_next hT entry_ci_next ?_ (args_ci_next _))))
  show wpAny _ _ (field (.ref it) 2 >>= _) _ _ s
  refine wpAny_bind (wpAny_field hi rfl (x := .bool false) rfl ?_)
  rw [if_neg (by decide)]
  show wpAny _ _ (field (.ref it) 0 >>= _) _ _ s
  refine wpAny_bind (wpAny_field hi rfl (x := .ref q) rfl ?_)
  refine wpAny_bind (wpAny_attempt ?_)
  unfold callOutOfASlot
  refine wpAny_bind (borrows_method hq hf hd ?_)
  rw [if_pos rfl]
  refine wpAny_callBorrowed (wpAny_call (ks_codeAny_call_bound hq (codeAny_mono hcall fun r s₁ hr => ?_)))
  rcases r with e | (v | _ | _ | _)
  · exact hr.elim
  · exact hr.elim
  · exact hr.elim
  · exact hr.elim
  obtain ⟨c, t, rfl, hi₁, hq₁, hf₁, hend, hgo⟩ := hr
  dsimp only
  show wpAny _ _ (field (.ref it) 2 >>= _) _ _ _
  refine wpAny_bind (wpAny_field hi₁ rfl (x := .bool false) rfl ?_)
  rw [if_neg (by decide)]
  show wpAny _ _ (field (.ref it) 1 >>= _) _ _ _
  refine wpAny_bind (wpAny_field hi₁ rfl (x := .str ⟨#[]⟩ ts) rfl ?_)
  refine wpAny_bind (wpAny_holding (wpAny_eqBool_str ?_))
  by_cases hc : c = ⟨#[]⟩
  · rw [if_neg (by rw [decide_eq_true hc.symm]; decide)]
    refine wpAny_bind (wpAny_rule (wpAny_bind ?_))
    show wpAny _ _ (field (.ref it) 0 >>= _) _ _ _
    refine wpAny_bind (wpAny_field hi₁ rfl (x := .ref q) rfl (wpAny_bind ?_))
    unfold slotLetsGo
    dsimp only
    refine wpAny_bind (borrows_method hq₁ hf₁ hd ?_)
    rw [if_pos rfl]
    refine wpAny_pure (wpAny_bind (wpAny_setField_rec hi₁ (by simp) fun h₂ hi₂ hs₂ => ?_))
    replace hi₂ : h₂.get? it = some { cls := .type "callable_iterator", data := .fields #[.none, .str ⟨#[]⟩ ts, .bool false] } := hi₂
    refine wpAny_bind (wpAny_setField_rec hi₂ (by simp) fun h₃ hi₃ hs₃ => ?_)
    replace hi₃ : h₃.get? it = some { cls := .type "callable_iterator", data := .fields #[.none, .none, .bool false] } := hi₃
    refine wpAny_setField_rec hi₃ (by simp) fun h₄ hi₄ hs₄ => ?_
    have hx : Heap.ExtBut it s₁.heap h₄ := fun b o hb e => hs₄.extBut b o hb (hs₃.extBut b o hb (hs₂.extBut b o hb e))
    show wpAny _ _ (newExc (.type "StopIteration") [] >>= _) _ _ _
    refine wpAny_bind ?_
    simp only [newExc, newTuple]
    refine wpAny_bind (wpAny_newObj_type ?_ (by size_fits))
    refine wpAny_bind (m := firstArgMember _ _) (wpAny_of_eq (a := Value.none) (by first | rfl | (simp only [firstArgMember]; rfl)) ?_)
    refine wpAny_newObj_type ?_ (by size_fits)
    simp only [raiseNew]
    refine wpAny_bind (wpAny_handled ?_)
    first | rw [show A.in1.handled = none from hh] | rw [hh]
    refine wpAny_bind (wpAny_pure (wpAny_throw ?_))
    refine wpAny_bind (wpAny_isInstance (T := "StopIteration") (b := true) ⟨_, Heap.get?_push_size _ rfl, rfl⟩ isSubtype_stop ?_)
    exact wpAny_pure (hend hc _ ((hx.push _).push _))
  · rw [if_pos (by rw [decide_eq_false (fun e => hc e.symm)]; decide)]
    exact wpAny_pure ⟨_, rfl, wpAny_pure (hgo hc)⟩
end
end Mine
end partS3
section partST
open PySem PySem.W PyProof.Rows PySem.Calls Builtin.Str
set_option Elab.async false
set_option maxRecDepth 100000
namespace Mine
theorem reset_ST : True := by
  w_top off
  k_with_none
  trivial
noncomputable abbrev st (l : List Nat) : Str := ⟨l.toArray⟩
theorem st_len (l : List Nat) : (st l).length = l.length := rfl
theorem idx_ss (a b n : Nat) : strSliceIndices (some (a : Int)) (some (b : Int)) 1 n = (List.range (min b n - min a n)).map (min a n + ·) := by
  rw [← sliceRange_one]
  simp only [strSliceIndices, if_neg (show ¬ ((a : Int) < 0) by omega), if_neg (show ¬ ((b : Int) < 0) by omega), show ((1 : Int) > 0) = True from by simp, if_true]
  congr 1 <;> omega
theorem idx_sn (a n : Nat) : strSliceIndices (some (a : Int)) none 1 n = (List.range (n - min a n)).map (min a n + ·) := by
  rw [← sliceRange_one]
  simp only [strSliceIndices, if_neg (show ¬ ((a : Int) < 0) by omega), show ((1 : Int) > 0) = True from by simp, if_true]
  congr 1 <;> omega
theorem slice_gen (l : List Nat) (u v : Option Int) (a k : Nat) (h : strSliceIndices u v 1 l.length = (List.range k).map (a + ·)) (hk : a + k ≤ l.length) : Txt.slice (st l) u v = st ((l.drop a).take k) := by
  unfold Txt.slice
  have e : (strSliceIndices u v 1 (st l).length).filterMap ((st l).cps[·]?) = (l.drop a).take k := by
    rw [st_len, h]
    exact pick_run l.toArray a k
  split
  · rename_i hc
    have hl : (strSliceIndices u v 1 (st l).length).length = (st l).length := by simpa using hc
    rw [st_len, h, List.length_map, List.length_range] at hl
    subst hl
    have ha : a = 0 := by omega
    subst ha
    rw [List.drop_zero, List.take_length]
  · rw [e]
theorem slice_ss (l : List Nat) (a b : Nat) : Txt.slice (st l) (some (a : Int)) (some (b : Int)) = st ((l.drop a).take (b - a)) := by
  rw [slice_gen l _ _ _ _ (idx_ss a b l.length) (by omega)]
  refine congrArg st ?_
  rw [kmk_drop_min]
  by_cases hb : b ≤ l.length
  · by_cases ha : a ≤ l.length
    · rw [Nat.min_eq_left hb, Nat.min_eq_left ha]
    · rw [List.drop_of_length_le (by omega), List.take_nil, List.take_nil]
  · rw [List.take_of_length_le (by rw [List.length_drop]; omega), List.take_of_length_le (by rw [List.length_drop]; omega)]
theorem slice_sn (l : List Nat) (a : Nat) : Txt.slice (st l) (some (a : Int)) none = st (l.drop a) := by
  rw [slice_gen l _ _ _ _ (idx_sn a l.length) (by omega), kmk_drop_min, List.take_of_length_le (by rw [List.length_drop]; omega)]
theorem slice_one (l : List Nat) (p c : Nat) (r : List Nat) (h : l.drop p = c :: r) : Txt.slice (st l) (some (p : Int)) (some ((p : Int) + 1)) = st [c] := by
  have := slice_ss l p (p + 1)
  rw [Int.natCast_add] at this
  rw [show ((p : Int) + 1) = ((p : Int) + ((1 : Nat) : Int)) from rfl, this, h, Nat.add_sub_cancel_left]
  rfl
theorem slice_end (l : List Nat) (p : Nat) (h : l.drop p = []) : Txt.slice (st l) (some (p : Int)) (some ((p : Int) + 1)) = st [] := by
  have := slice_ss l p (p + 1)
  rw [Int.natCast_add] at this
  rw [show ((p : Int) + 1) = ((p : Int) + ((1 : Nat) : Int)) from rfl, this, h, List.take_nil]
theorem drop_next {l : List Nat} {p c : Nat} {r : List Nat} (h : l.drop p = c :: r) : l.drop (p + 1) = r := by
  rw [← List.drop_drop, h]; rfl
end Mine
end partST
section partN0
open PySem PySem.W PyProof.Rows PySem.Calls
set_option Elab.async false
set_option maxRecDepth 100000
set_option maxHeartbeats 1000000
namespace Mine
theorem reset_N0 : True := by
  w_top off
  k_with_none
  trivial
theorem words_N0 : True := by
  k_with "k_ne" => (refine neN ?_; first | with_reducible assumption | exact Ne.symm (by with_reducible assumption) | exact Nat.ne_of_lt (by with_reducible assumption) | exact Nat.ne_of_gt (by with_reducible assumption) | (refine' Nat.ne_of_lt (And.left ?hZ9); (case hZ9 => with_reducible assumption)) | (refine' Nat.ne_of_lt (And.left (And.right ?hZ9)); (case hZ9 => with_reducible assumption)) | (refine' Nat.ne_of_lt (And.left (And.right (And.right ?hZ9))); (case hZ9 => with_reducible assumption)) | (refine' Nat.ne_of_lt (And.left (And.right (And.right (And.right ?hZ9)))); (case hZ9 => with_reducible assumption)) | (refine' Nat.ne_of_lt (And.left (And.right (And.right (And.right (And.right ?hZ9))))); (case hZ9 => with_reducible assumption)) | (refine' Nat.ne_of_lt (And.left (And.right (And.right (And.right (And.right (And.right ?hZ9)))))); (case hZ9 => with_reducible assumption)) | (refine' Nat.ne_of_lt (And.left (And.right (And.right (And.right (And.right (And.right (And.right ?hZ9))))))); (case hZ9 => with_reducible assumption)) | (refine' Nat.ne_of_lt (And.left (And.right (And.right (And.right (And.right (And.right (And.right (And.right ?hZ9)))))))); (case hZ9 => with_reducible assumption)) | (refine' Nat.ne_of_lt (And.left (And.right (And.right (And.right (And.right (And.right (And.right (And.right (And.right ?hZ9))))))))); (case hZ9 => with_reducible assumption)) | (refine' Nat.ne_of_gt (And.left ?hZ9); (case hZ9 => with_reducible assumption)) | (refine' Nat.ne_of_gt (And.left (And.right ?hZ9)); (case hZ9 => with_reducible assumption)) | (refine' Nat.ne_of_gt (And.left (And.right (And.right ?hZ9))); (case hZ9 => with_reducible assumption)) | (refine' Nat.ne_of_gt (And.left (And.right (And.right (And.right ?hZ9)))); (case hZ9 => with_reducible assumption)) | (refine' Nat.ne_of_gt (And.left (And.right (And.right (And.right (And.right ?hZ9))))); (case hZ9 => with_reducible assumption)) | (refine' Nat.ne_of_gt (And.left (And.right (And.right (And.right (And.right (And.right ?hZ9)))))); (case hZ9 => with_reducible assumption)) | (refine' Nat.ne_of_gt (And.left (And.right (And.right (And.right (And.right (And.right (And.right ?hZ9))))))); (case hZ9 => with_reducible assumption)) | (refine' Nat.ne_of_gt (And.left (And.right (And.right (And.right (And.right (And.right (And.right (And.right ?hZ9)))))))); (case hZ9 => with_reducible assumption)) | (refine' Nat.ne_of_gt (And.left (And.right (And.right (And.right (And.right (And.right (And.right (And.right (And.right ?hZ9))))))))); (case hZ9 => with_reducible assumption)) | ((try dsimp only); omega))
  k_with "callWith ref" => (k_here; (with_reducible show wpAny _ _ (callWith _ (Value.ref _) _ (backTo _ (starEach (_ :: _) _)) []) _ _ _); k_dflt (refine' callWith_K ?k1Z9 ?k2Z9 ?_; (case k1Z9 => k_asm); (case k2Z9 => k_is); k_whole))
  trivial
theorem lines_N0_1 : True := by
  k_with "exec For" => ((k_here; k_dflt (refine' for_open ?_ ?hsZ9; (case hsZ9 => (intro _; rfl)))))
  k_with "call type:type" => ((k_here; (with_reducible show wpAny _ _ (call (Value.type "type") [Value.ref _]) _ _ _); (rename News _ _ _ _ => kN9Z); k_dflt (refine' kto_cont (T := "list") ⟨_, (kN9Z (_, PySem.W.listOf _ _) ?hmZ9).1, rfl⟩ ?nZ9 ?_; (case hmZ9 => k_mem); (case nZ9 => decide +kernel); k_whole)))
  k_with "k_mem" => (assumption)
  k_with "k_all" => (first | assumption | exact ne_all (by assumption) | exact ne_all' (by assumption) | exact ne_all_le (by assumption) (by omega))
  k_with "ktr_units" => (((try simp only [units_in1, units_deeper, Around.mark_units, units_under_make]); (try dsimp only [ktrTop]); first | decide | (refine' Nat.lt_of_lt_of_le (Nat.add_lt_add_right ?h9Z9 3) ?g9Z9; (case h9Z9 => assumption); (case g9Z9 => decide)) | omega))
  k_with "ktr_room" => (((try simp only [depth_under_make, depth_under_kw, depth_in1, depth_deeper, depth_caller]); (try dsimp only [ktrTop]); first | decide | (refine' Nat.lt_of_lt_of_le (Nat.succ_lt_succ ?h9Z9) ?g9Z9; (case h9Z9 => assumption); (case g9Z9 => decide)) | omega | (simp only [recursionLimit]; omega)))
  trivial
theorem lex_ct (w : World) (f : Addr) (news : List (Addr × Obj)) :
    MutCt w 650 750 (.ref 100) [.ref f] [] news (fun r news' => ∃ x d pb t1 t2 t3 t4 t5 t6, r = .ref x ∧ news' = (pb, PySem.W.listOf ([] : List Value).toArray 0) :: (x, instObj 100 d) :: (d, dictOf [⟨PyData.keyHash w.params (Str.ofString "lineno"), .str (Str.ofString "lineno") t1, .int 1 t2⟩, ⟨PyData.keyHash w.params (Str.ofString "instream"), .str (Str.ofString "instream") t3, .ref f⟩, ⟨PyData.keyHash w.params (Str.ofString "whitespace"), .str (Str.ofString "whitespace") t4, .str (Str.ofString "\n\t\x0d ") t5⟩, ⟨PyData.keyHash w.params (Str.ofString "pushback"), .str (Str.ofString "pushback") t6, .ref pb⟩] 4) :: news ∧ (∀ p ∈ news, p.1 < d) ∧ d < x ∧ x < pb) := by
  unfold MutCt
  k_fill
  intro loose mean mg mb dp un gd cn cs a ccd cl outer A₀ base h₀ L m s Q E B F X N T hk hd hu hret
  refine wpAny_mono (E := nE) ?_ (fun _ _ z => z) (fun _ _ z => z.elim)
  k_dflt (refine' call_cls ?k1 ?k2 ?k3 ?k4 ?k5 ?k6 ?_; (case k1 => k_asm); (case k2 => k_asm); (case k3 => k_asm); (case k4 => k_is); (case k5 => k_is); (case k6 => k_is); k_whole; intro x' d' hx' Fx' Nx' lx1 lx2; replace lx2 := ltN lx2)
  k_dflt (refine' code_def ?k1 ?k2 ?k3 ?k4 ?k5 ?kA ?kF ?kK ?k6 ?k7 ?k8 ?k9 ?kB ?_ ?c2 ?c3 ?c4 ?c5; (case kA => exact rfl); (case kF => exact rfl); (case kK => assumption); (case k1 => k_asm); (case k2 => k_asm); (case k3 => k_asm); (case k4 => k_asm); (case k5 => k_asm); (case k6 => k_is); (case k7 => k_is); (case k8 => ktr_room); (case k9 => first | exact BindsTo.of_eq rfl | exact binds_K (by k_in) rfl (by k_is) rfl rfl rfl); (case c5 => decide); (case kB => exact locs rfl); (case c2 => exact rfl); (case c3 => exact rfl); (case c4 => exact rfl); k_whole; intro g' L' h' FG' F' N' B' X' T'; (try dsimp only); (try k_fold))
  refine wpAny_mono (E := nE) ?_ (fun _ _ z => z) (fun _ _ z => z.elim)
  k_steps
  rename Fr _ _ _ _ => F8
  rename News _ _ _ _ => N8
  rename (_ ∧ _ ∧ _) => l8
  exact hret _ _ _ _ ⟨_, _, _, _, _, _, _, _, _, rfl, rfl, lx1, lx2, l8.1⟩ F8 N8
end Mine
end partN0
section partN1
open PySem PySem.W PyProof.Rows PySem.Calls
set_option Elab.async false
set_option maxRecDepth 100000
set_option maxHeartbeats 1000000
namespace Mine
theorem reset_N1 : True := by
  w_top off
  k_with_none
  trivial
theorem words_N1 : True := by
  k_with "k_ne" => (refine neN ?_; first | with_reducible assumption | exact Ne.symm (by with_reducible assumption) | exact Nat.ne_of_lt (by with_reducible assumption) | exact Nat.ne_of_gt (by with_reducible assumption) | (refine' Nat.ne_of_lt (And.left ?hZ9); (case hZ9 => with_reducible assumption)) | (refine' Nat.ne_of_lt (And.left (And.right ?hZ9)); (case hZ9 => with_reducible assumption)) | (refine' Nat.ne_of_lt (And.left (And.right (And.right ?hZ9))); (case hZ9 => with_reducible assumption)) | (refine' Nat.ne_of_lt (And.left (And.right (And.right (And.right ?hZ9)))); (case hZ9 => with_reducible assumption)) | (refine' Nat.ne_of_lt (And.left (And.right (And.right (And.right (And.right ?hZ9))))); (case hZ9 => with_reducible assumption)) | (refine' Nat.ne_of_lt (And.left (And.right (And.right (And.right (And.right (And.right ?hZ9)))))); (case hZ9 => with_reducible assumption)) | (refine' Nat.ne_of_lt (And.left (And.right (And.right (And.right (And.right (And.right (And.right ?hZ9))))))); (case hZ9 => with_reducible assumption)) | (refine' Nat.ne_of_lt (And.left (And.right (And.right (And.right (And.right (And.right (And.right (And.right ?hZ9)))))))); (case hZ9 => with_reducible assumption)) | (refine' Nat.ne_of_lt (And.left (And.right (And.right (And.right (And.right (And.right (And.right (And.right (And.right ?hZ9))))))))); (case hZ9 => with_reducible assumption)) | (refine' Nat.ne_of_gt (And.left ?hZ9); (case hZ9 => with_reducible assumption)) | (refine' Nat.ne_of_gt (And.left (And.right ?hZ9)); (case hZ9 => with_reducible assumption)) | (refine' Nat.ne_of_gt (And.left (And.right (And.right ?hZ9))); (case hZ9 => with_reducible assumption)) | (refine' Nat.ne_of_gt (And.left (And.right (And.right (And.right ?hZ9)))); (case hZ9 => with_reducible assumption)) | (refine' Nat.ne_of_gt (And.left (And.right (And.right (And.right (And.right ?hZ9))))); (case hZ9 => with_reducible assumption)) | (refine' Nat.ne_of_gt (And.left (And.right (And.right (And.right (And.right (And.right ?hZ9)))))); (case hZ9 => with_reducible assumption)) | (refine' Nat.ne_of_gt (And.left (And.right (And.right (And.right (And.right (And.right (And.right ?hZ9))))))); (case hZ9 => with_reducible assumption)) | (refine' Nat.ne_of_gt (And.left (And.right (And.right (And.right (And.right (And.right (And.right (And.right ?hZ9)))))))); (case hZ9 => with_reducible assumption)) | (refine' Nat.ne_of_gt (And.left (And.right (And.right (And.right (And.right (And.right (And.right (And.right (And.right ?hZ9))))))))); (case hZ9 => with_reducible assumption)) | ((try dsimp only); omega))
  k_with "callWith ref" => (k_here; (with_reducible show wpAny _ _ (callWith _ (Value.ref _) _ (backTo _ (starEach (_ :: _) _)) []) _ _ _); k_dflt (refine' callWith_K ?k1Z9 ?k2Z9 ?_; (case k1Z9 => k_asm); (case k2Z9 => k_is); k_whole))
  trivial
theorem lines_N1_1 : True := by
  k_with "exec For" => ((k_here; k_dflt (refine' for_open ?_ ?hsZ9; (case hsZ9 => (intro _; rfl)))))
  k_with "call type:type" => ((k_here; (with_reducible show wpAny _ _ (call (Value.type "type") [Value.ref _]) _ _ _); (rename News _ _ _ _ => kN9Z); k_dflt (refine' kto_cont (T := "list") ⟨_, (kN9Z (_, PySem.W.listOf _ _) ?hmZ9).1, rfl⟩ ?nZ9 ?_; (case hmZ9 => k_mem); (case nZ9 => decide +kernel); k_whole)))
  k_with "k_mem" => (assumption)
  k_with "k_all" => (first | assumption | exact ne_all (by assumption) | exact ne_all' (by assumption) | exact ne_all_le (by assumption) (by omega))
  k_with "ktr_units" => (((try simp only [units_in1, units_deeper, Around.mark_units, units_under_make]); (try dsimp only [ktrTop]); first | decide | (refine' Nat.lt_of_lt_of_le (Nat.add_lt_add_right ?h9Z9 3) ?g9Z9; (case h9Z9 => assumption); (case g9Z9 => decide)) | omega))
  k_with "ktr_room" => (((try simp only [depth_under_make, depth_under_kw, depth_in1, depth_deeper, depth_caller]); (try dsimp only [ktrTop]); first | decide | (refine' Nat.lt_of_lt_of_le (Nat.succ_lt_succ ?h9Z9) ?g9Z9; (case h9Z9 => assumption); (case g9Z9 => decide)) | omega | (simp only [recursionLimit]; omega)))
  k_with "subscriptTail" => ((k_here; (with_reducible show wpAny _ _ (subscriptTail _ (PySem.Expr.Slice (some _) none none _) (Value.str _ _) (Value.ref _)) _ _ _); (with_reducible rename Fr _ _ _ _ => F9Z); (with_reducible rename News _ _ _ _ => N9Z); (refine slice_strN_sn (hsz := ?hszZ9) (s := ⟨_, _, _, _, _⟩) F9Z N9Z ?_); (case hszZ9 => first | assumption | (rw [sizeLine_eq]; omega)); intro _ _ _ _ _))
  k_with "subscriptTail" => ((k_here; (with_reducible show wpAny _ _ (subscriptTail _ (PySem.Expr.Slice (some _) (some _) none _) (Value.str _ _) (Value.ref _)) _ _ _); (with_reducible rename Fr _ _ _ _ => F9Z); (with_reducible rename News _ _ _ _ => N9Z); (refine slice_strN_ss (hsz := ?hszZ9) (s := ⟨_, _, _, _, _⟩) F9Z N9Z ?_); (case hszZ9 => first | assumption | (rw [sizeLine_eq]; omega)); intro _ _ _ _ _))
  k_with "subscriptTail" => ((k_here; (with_reducible show wpAny _ _ (subscriptTail _ (PySem.Expr.Slice none (some _) none _) (Value.str _ _) (Value.ref _)) _ _ _); (with_reducible rename Fr _ _ _ _ => F9Z); (with_reducible rename News _ _ _ _ => N9Z); (refine slice_strN_ns (hsz := ?hszZ9) (s := ⟨_, _, _, _, _⟩) F9Z N9Z ?_); (case hszZ9 => first | assumption | (rw [sizeLine_eq]; omega)); intro _ _ _ _ _))
  k_with "call builtin:len" => ((k_here; (with_reducible show wpAny _ _ (call (Value.builtin "len") [Value.str _ _]) _ _ _); (refine SBL.len ?hlnZ9 ?_); (case hlnZ9 => omega)))
  k_with "setAttr ref" => ((k_here; k_dflt (refine' set_fnU ?k1Z9 ?k2Z9 ?k3Z9 ?_; (case k1Z9 => k_asm); (case k2Z9 => k_asm); (case k3Z9 => (intro _; k_upd)); k_whole); intro _ _ _ _ N9Z l9Z; (try dsimp only at N9Z); (have q9Z := l9Z _ (.head _)); (dsimp only at q9Z); (try k_sweep)))
  k_with "call ref" => ((k_here; k_dflt (refine' MutCt.use (lex_ct _ _ _) ?k1Z9 ?k2Z9 ?k3Z9 ?k4Z9 ?k5Z9 ?k6Z9 ?k7Z9 ?k8Z9 ?_; (case k1Z9 => k_asm); (case k2Z9 => k_asm); (case k3Z9 => k_asm); (case k4Z9 => k_asm); (case k5Z9 => k_asm); (case k6Z9 => first | rfl | assumption); (case k7Z9 => ktr_room); (case k8Z9 => ktr_units)); intro _ _ _ _ hP9Z _ _; (obtain ⟨x9Z, dx9Z, pb9Z, t1Z, t2Z, t3Z, t4Z, t5Z, t6Z, e9Z, en9Z, lx1Z, lx2Z, lx3Z⟩ := hP9Z; subst e9Z; subst en9Z; have q8Z := lx1Z _ (.head _); dsimp only at q8Z); (try dsimp only); (try k_sweep)))
  k_with "k_mem" => ((apply List.mem_cons_of_mem; assumption))
  trivial
noncomputable def CodeQ (o : Obj) : Prop := ∃ vs t, o.data = .fields vs ∧ vs[1]? = some (.str (Str.ofString "_law_line.<locals>._law_read_on") t)
/-- what the stream's closure does: it reads on in the text -/
noncomputable def ReadOk (w : World) (x : Str) (fR : Addr) (fo : Obj) (c1 : Addr) (oc1 : Obj) (cT : Addr) (oT : Obj) (cA : Addr) (oA : Obj) (al : Addr) : Prop := (∃ oc od fd sl, fo = (⟨oc, od, .func fd, sl⟩ : Obj)) ∧ ∀ rest p tp n t, (fR, fo) ∈ rest → (c1, oc1) ∈ rest → (cT, oT) ∈ rest → (cA, oA) ∈ rest → (∀ q ∈ rest, q.1 ≠ al) →
  MutCt w 660 790 (.ref fR) [.int 1 t] [] ((al, PySem.W.listOf [Value.int p tp].toArray n) :: rest) (fun r news' => ∃ t' t'', r = .str (Txt.slice x (some p) (some (p + 1))) t' ∧ news' = (al, PySem.W.listOf [Value.int (p + (Txt.slice x (some p) (some (p + 1))).length) t''].toArray n) :: rest)
theorem line_new (w : World) (x : Str) (hx : x.length ≤ 1000) (t : Tok) (news : List (Addr × Obj)) (hne : ∀ p ∈ news, p.1 ≠ 265) :
    MutCt w 600 600 (.ref 270) [.str x t] [] ((265, tabObj #[]) :: news) (Cps fun K => ∀ pb x9 dx t1 t2 t3 t4 t5 t6 fL dL tr fR fd sl c2 oc2 fo c1 oc1 al tk cA oA cT oT, (∀ p ∈ news, p.1 < cT) → @LT.lt Nat _ 265 cT → @LT.lt Nat _ cT cA → @LT.lt Nat _ cA al → @LT.lt Nat _ al c1 → @LT.lt Nat _ c1 fR → @LT.lt Nat _ fR c2 → @LT.lt Nat _ c2 fL → @LT.lt Nat _ fL dL → @LT.lt Nat _ dL dx → @LT.lt Nat _ dx x9 → @LT.lt Nat _ x9 pb → CodeQ oc1 → ReadOk w x fR fo c1 oc1 cT oT cA oA al → K (.ref x9) ((pb, PySem.W.listOf ([] : List Value).toArray 0) :: (x9, instObj 100 dx) :: (dx, dictOf [⟨PyData.keyHash w.params (Str.ofString "lineno"), .str (Str.ofString "lineno") t1, .int 1 t2⟩, ⟨PyData.keyHash w.params (Str.ofString "instream"), .str (Str.ofString "instream") t3, .ref fL⟩, ⟨PyData.keyHash w.params (Str.ofString "whitespace"), .str (Str.ofString "whitespace") t4, .str (Str.ofString "\n\t\x0d ") t5⟩, ⟨PyData.keyHash w.params (Str.ofString "pushback"), .str (Str.ofString "pushback") t6, .ref pb⟩] 4) :: (dL, dictOf [⟨PyData.keyHash w.params (Str.ofString "read"), .str (Str.ofString "read") tr, .ref fR⟩] 1) ::
        (fL, (⟨.type "function", some dL, .func fd, sl⟩ : Obj)) :: (c2, oc2) :: (fR, fo) :: (c1, oc1) :: (al, PySem.W.listOf [Value.int 0 tk].toArray 0) :: (cA, oA) :: (cT, oT) :: (265, tabObj #[rawInt 215, rawInt 4, .ref c1, rawInt 219, rawInt 13, .ref c2]) :: news)) := by
  unfold MutCt
  k_fill
  intro loose mean mg mb dp un gd cn cs a ccd cl outer A₀ base h₀ L m s Q E B F X N T hk hd hu hret
  refine wpAny_call ?_
  k_dflt (refine' code_defC ?k1 ?k2 ?k3 ?k4 ?k5 ?kA ?kF ?kK ?k6 ?k7 ?k8 ?k9 ?kB ?kD ?_ ?c2 ?c3 ?c4; (case kA => exact rfl); (case kF => exact rfl); (case kK => assumption); (case k1 => k_asm); (case k2 => k_asm); (case k3 => k_asm); (case k4 => k_asm); (case k5 => k_asm); (case k6 => k_is); (case k7 => k_is); (case k8 => ktr_room); (case k9 => first | exact BindsTo.of_eq rfl | exact binds_K (by k_in) rfl (by k_is) rfl rfl rfl); (case kB => exact rfl); (case kD => decide +kernel); (case c2 => exact rfl); (case c3 => exact rfl); (case c4 => exact rfl); k_whole; intro g' L' h' tk' cells' FG' F' N' Y' B' X' T' l1; (try k_lt l1); k_cells Y'; (try simp only [List.cons_append, List.nil_append] at N'); (try dsimp only); (try k_fold))
  refine wpAny_mono (E := nE) ?_ (fun _ _ z => z) (fun _ _ z => z.elim)
  have hAll := allLt_all l1.2
  have codeHd : CodeHd g' 269 265 := codeHd_of_K X' (by kernel_rfl)
  k_steps
  rename Fr _ _ _ _ => F8
  rename News _ _ _ _ => N8
  refine hret _ _ _ _ ?hP F8 N8
  clear hret
  intro K k
  refine k _ _ _ _ _ _ _ _ _ _ _ _ _ _ _ _ _ _ _ _ _ _ _ _ _ _ ?h0 ?h1 ?h2 ?h3 ?h4 ?h5 ?h6 ?h7 ?h8 ?h9 ?h10 ?h11 ?hq ?big
  all_goals clear k
  case h0 => exact fun p hp => Nat.lt_succ_of_lt (hAll p hp)
  case h1 => exact Nat.lt_succ_of_lt l1.1
  case h2 => omega
  case h3 => omega
  case h4 => omega
  case h5 => omega
  case h6 => omega
  case h7 => omega
  case h8 => omega
  case h9 => omega
  case h10 => assumption
  case h11 => assumption
  case hq => exact ⟨_, _, by assumption, by assumption⟩
  clear F8 N8 hne
  refine ⟨⟨_, _, _, _, rfl⟩, ?_⟩
  intro rest p tp n t q1 q2 q3 q4 q5
  clear F X N T B FG' B' X' T' codeHd hAll
  unfold MutCt
  k_fill
  intro loose mean mg mb dp un gd cn cs a ccd cl outer A₀ base h₀ L m s Q E B F X N T hk hd hu hret
  have codeHd : CodeHd h₀ 269 265 := codeHd_of_K X (by kernel_rfl)
  refine wpAny_call ?_
  k_dflt (refine' code_nest ?k1 ?k2 ?k3 ?k4 ?k5 ?kA ?kF ?kK ?k6 ?k7 ?k8 ?k9 ?kB ?_ ?c2 ?c3 ?c4 ?c5; (case kA => exact rfl); (case kF => exact rfl); (case kK => assumption); (case k1 => k_asm); (case k2 => k_asm); (case k3 => k_asm); (case k4 => k_asm); (case k5 => k_asm); (case k6 => k_mem); (case k7 => exact codeRec_news (by k_asm) (by k_mem) (by assumption) (by assumption)); (case k8 => ktr_room); (case k9 => exact BindsTo.of_eq rfl); (case c5 => decide); (case kB => exact locs rfl); (case c2 => exact rfl); (case c3 => exact rfl); (case c4 => exact rfl); k_whole; intro g' L' h' FG' F' N' B' X' T'; (try dsimp only); (try k_lift B'); (try k_fold))
  refine wpAny_mono (E := nE) ?_ (fun _ _ z => z) (fun _ _ z => z.elim)
  k_steps
  rename Fr _ _ _ _ => F7
  rename News _ _ _ _ => N7
  exact hret _ _ _ _ ⟨_, _, rfl, rfl⟩ F7 N7

theorem line_hit (w : World) (x : Str) (hx : x.length ≤ 1000) (t : Tok) (c1 c2 : Addr) (oc1 : Obj) (news : List (Addr × Obj)) (h265 : (265, tabObj #[rawInt 215, rawInt 4, .ref c1, rawInt 219, rawInt 13, .ref c2]) ∈ news) (hc1 : (c1, oc1) ∈ news) (hq : CodeQ oc1) :
    MutCt w 600 600 (.ref 270) [.str x t] [] news (Cps fun K => ∀ pb x9 dx t1 t2 t3 t4 t5 t6 fL dL tr fR fd sl fo al tk cA oA cT oT, (∀ p ∈ news, p.1 < cT) → @LT.lt Nat _ cT cA → @LT.lt Nat _ cA al → @LT.lt Nat _ al fR → @LT.lt Nat _ fR fL → @LT.lt Nat _ fL dL → @LT.lt Nat _ dL dx → @LT.lt Nat _ dx x9 → @LT.lt Nat _ x9 pb → ReadOk w x fR fo c1 oc1 cT oT cA oA al → K (.ref x9) ((pb, PySem.W.listOf ([] : List Value).toArray 0) :: (x9, instObj 100 dx) :: (dx, dictOf [⟨PyData.keyHash w.params (Str.ofString "lineno"), .str (Str.ofString "lineno") t1, .int 1 t2⟩, ⟨PyData.keyHash w.params (Str.ofString "instream"), .str (Str.ofString "instream") t3, .ref fL⟩, ⟨PyData.keyHash w.params (Str.ofString "whitespace"), .str (Str.ofString "whitespace") t4, .str (Str.ofString "\n\t\x0d ") t5⟩, ⟨PyData.keyHash w.params (Str.ofString "pushback"), .str (Str.ofString "pushback") t6, .ref pb⟩] 4) :: (dL, dictOf [⟨PyData.keyHash w.params (Str.ofString "read"), .str (Str.ofString "read") tr, .ref fR⟩] 1) ::
        (fL, (⟨.type "function", some dL, .func fd, sl⟩ : Obj)) :: (fR, fo) :: (al, PySem.W.listOf [Value.int 0 tk].toArray 0) :: (cA, oA) :: (cT, oT) :: news)) := by
  obtain ⟨vs9, t9, hq1, hq2⟩ := hq
  unfold MutCt
  k_fill
  intro loose mean mg mb dp un gd cn cs a ccd cl outer A₀ base h₀ L m s Q E B F X N T hk hd hu hret
  refine wpAny_call ?_
  k_dflt (refine' code_defC ?k1 ?k2 ?k3 ?k4 ?k5 ?kA ?kF ?kK ?k6 ?k7 ?k8 ?k9 ?kB ?kD ?_ ?c2 ?c3 ?c4; (case kA => exact rfl); (case kF => exact rfl); (case kK => assumption); (case k1 => k_asm); (case k2 => k_asm); (case k3 => k_asm); (case k4 => k_asm); (case k5 => k_asm); (case k6 => k_is); (case k7 => k_is); (case k8 => ktr_room); (case k9 => first | exact BindsTo.of_eq rfl | exact binds_K (by k_in) rfl (by k_is) rfl rfl rfl); (case kB => exact rfl); (case kD => decide +kernel); (case c2 => exact rfl); (case c3 => exact rfl); (case c4 => exact rfl); k_whole; intro g' L' h' tk' cells' FG' F' N' Y' B' X' T' l1; (try k_lt l1); k_cells Y'; (try simp only [List.cons_append, List.nil_append] at N'); (try dsimp only); (try k_fold))
  refine wpAny_mono (E := nE) ?_ (fun _ _ z => z) (fun _ _ z => z.elim)
  have hAll := l1
  have codeHd : CodeHd g' 269 265 := codeHd_of_K X' (by kernel_rfl)
  k_steps
  rename Fr _ _ _ _ => F8
  rename News _ _ _ _ => N8
  refine hret _ _ _ _ ?hP F8 N8
  clear hret
  intro K k
  refine k _ _ _ _ _ _ _ _ _ _ _ _ _ _ _ _ _ _ _ _ _ _ ?h0 ?h2 ?h3 ?h4 ?h5 ?h6 ?h7 ?h8 ?h9 ?big
  all_goals clear k
  case h0 => exact fun p hp => Nat.lt_succ_of_lt (hAll p hp)
  case h2 => omega
  case h3 => omega
  case h4 => omega
  case h5 => omega
  case h6 => omega
  case h7 => omega
  case h8 => assumption
  case h9 => assumption
  clear F8 N8 h265 hc1
  refine ⟨⟨_, _, _, _, rfl⟩, ?_⟩
  intro rest p tp n t q1 q2 q3 q4 q5
  clear F X N T B FG' B' X' T' codeHd hAll
  unfold MutCt
  k_fill
  intro loose mean mg mb dp un gd cn cs a ccd cl outer A₀ base h₀ L m s Q E B F X N T hk hd hu hret
  have codeHd : CodeHd h₀ 269 265 := codeHd_of_K X (by kernel_rfl)
  refine wpAny_call ?_
  k_dflt (refine' code_nest ?k1 ?k2 ?k3 ?k4 ?k5 ?kA ?kF ?kK ?k6 ?k7 ?k8 ?k9 ?kB ?_ ?c2 ?c3 ?c4 ?c5; (case kA => exact rfl); (case kF => exact rfl); (case kK => assumption); (case k1 => k_asm); (case k2 => k_asm); (case k3 => k_asm); (case k4 => k_asm); (case k5 => k_asm); (case k6 => k_mem); (case k7 => exact codeRec_news (by k_asm) (by k_mem) (by assumption) (by assumption)); (case k8 => ktr_room); (case k9 => exact BindsTo.of_eq rfl); (case c5 => decide); (case kB => exact locs rfl); (case c2 => exact rfl); (case c3 => exact rfl); (case c4 => exact rfl); k_whole; intro g' L' h' FG' F' N' B' X' T'; (try dsimp only); (try k_lift B'); (try k_fold))
  refine wpAny_mono (E := nE) ?_ (fun _ _ z => z) (fun _ _ z => z.elim)
  k_steps
  rename Fr _ _ _ _ => F7
  rename News _ _ _ _ => N7
  exact hret _ _ _ _ ⟨_, _, rfl, rfl⟩ F7 N7
end Mine
end partN1
section partN2
open PySem PySem.W PyProof.Rows PySem.Calls
set_option Elab.async false
set_option maxRecDepth 100000
set_option maxHeartbeats 1000000
namespace Mine
theorem reset_N2 : True := by
  w_top off
  k_with_none
  trivial
theorem words_N2 : True := by
  k_with "k_ne" => (refine neN ?_; first | with_reducible assumption | exact Ne.symm (by with_reducible assumption) | exact Nat.ne_of_lt (by with_reducible assumption) | exact Nat.ne_of_gt (by with_reducible assumption) | (refine' Nat.ne_of_lt (And.left ?hZ9); (case hZ9 => with_reducible assumption)) | (refine' Nat.ne_of_lt (And.left (And.right ?hZ9)); (case hZ9 => with_reducible assumption)) | (refine' Nat.ne_of_lt (And.left (And.right (And.right ?hZ9))); (case hZ9 => with_reducible assumption)) | (refine' Nat.ne_of_lt (And.left (And.right (And.right (And.right ?hZ9)))); (case hZ9 => with_reducible assumption)) | (refine' Nat.ne_of_lt (And.left (And.right (And.right (And.right (And.right ?hZ9))))); (case hZ9 => with_reducible assumption)) | (refine' Nat.ne_of_lt (And.left (And.right (And.right (And.right (And.right (And.right ?hZ9)))))); (case hZ9 => with_reducible assumption)) | (refine' Nat.ne_of_lt (And.left (And.right (And.right (And.right (And.right (And.right (And.right ?hZ9))))))); (case hZ9 => with_reducible assumption)) | (refine' Nat.ne_of_lt (And.left (And.right (And.right (And.right (And.right (And.right (And.right (And.right ?hZ9)))))))); (case hZ9 => with_reducible assumption)) | (refine' Nat.ne_of_lt (And.left (And.right (And.right (And.right (And.right (And.right (And.right (And.right (And.right ?hZ9))))))))); (case hZ9 => with_reducible assumption)) | (refine' Nat.ne_of_gt (And.left ?hZ9); (case hZ9 => with_reducible assumption)) | (refine' Nat.ne_of_gt (And.left (And.right ?hZ9)); (case hZ9 => with_reducible assumption)) | (refine' Nat.ne_of_gt (And.left (And.right (And.right ?hZ9))); (case hZ9 => with_reducible assumption)) | (refine' Nat.ne_of_gt (And.left (And.right (And.right (And.right ?hZ9)))); (case hZ9 => with_reducible assumption)) | (refine' Nat.ne_of_gt (And.left (And.right (And.right (And.right (And.right ?hZ9))))); (case hZ9 => with_reducible assumption)) | (refine' Nat.ne_of_gt (And.left (And.right (And.right (And.right (And.right (And.right ?hZ9)))))); (case hZ9 => with_reducible assumption)) | (refine' Nat.ne_of_gt (And.left (And.right (And.right (And.right (And.right (And.right (And.right ?hZ9))))))); (case hZ9 => with_reducible assumption)) | (refine' Nat.ne_of_gt (And.left (And.right (And.right (And.right (And.right (And.right (And.right (And.right ?hZ9)))))))); (case hZ9 => with_reducible assumption)) | (refine' Nat.ne_of_gt (And.left (And.right (And.right (And.right (And.right (And.right (And.right (And.right (And.right ?hZ9))))))))); (case hZ9 => with_reducible assumption)) | ((try dsimp only); omega))
  k_with "callWith ref" => (k_here; (with_reducible show wpAny _ _ (callWith _ (Value.ref _) _ (backTo _ (starEach (_ :: _) _)) []) _ _ _); k_dflt (refine' callWith_K ?k1Z9 ?k2Z9 ?_; (case k1Z9 => k_asm); (case k2Z9 => k_is); k_whole))
  trivial
theorem lines_N2_1 : True := by
  k_with "exec For" => ((k_here; k_dflt (refine' for_open ?_ ?hsZ9; (case hsZ9 => (intro _; rfl)))))
  k_with "call type:type" => ((k_here; (with_reducible show wpAny _ _ (call (Value.type "type") [Value.ref _]) _ _ _); (rename News _ _ _ _ => kN9Z); k_dflt (refine' kto_cont (T := "list") ⟨_, (kN9Z (_, PySem.W.listOf _ _) ?hmZ9).1, rfl⟩ ?nZ9 ?_; (case hmZ9 => k_mem); (case nZ9 => decide +kernel); k_whole)))
  k_with "k_mem" => (assumption)
  k_with "k_all" => (first | assumption | exact ne_all (by assumption) | exact ne_all' (by assumption) | exact ne_all_le (by assumption) (by omega))
  k_with "ktr_units" => (((try simp only [units_in1, units_deeper, Around.mark_units, units_under_make]); (try dsimp only [ktrTop]); first | decide | (refine' Nat.lt_of_lt_of_le (Nat.add_lt_add_right ?h9Z9 3) ?g9Z9; (case h9Z9 => assumption); (case g9Z9 => decide)) | omega))
  k_with "ktr_room" => (((try simp only [depth_under_make, depth_under_kw, depth_in1, depth_deeper, depth_caller]); (try dsimp only [ktrTop]); first | decide | (refine' Nat.lt_of_lt_of_le (Nat.succ_lt_succ ?h9Z9) ?g9Z9; (case h9Z9 => assumption); (case g9Z9 => decide)) | omega | (simp only [recursionLimit]; omega)))
  k_with "subscriptTail" => ((k_here; (with_reducible show wpAny _ _ (subscriptTail _ (PySem.Expr.Slice (some _) none none _) (Value.str _ _) (Value.ref _)) _ _ _); (with_reducible rename Fr _ _ _ _ => F9Z); (with_reducible rename News _ _ _ _ => N9Z); (refine slice_strN_sn (hsz := ?hszZ9) (s := ⟨_, _, _, _, _⟩) F9Z N9Z ?_); (case hszZ9 => first | assumption | (rw [sizeLine_eq]; omega)); intro _ _ _ _ _))
  k_with "subscriptTail" => ((k_here; (with_reducible show wpAny _ _ (subscriptTail _ (PySem.Expr.Slice (some _) (some _) none _) (Value.str _ _) (Value.ref _)) _ _ _); (with_reducible rename Fr _ _ _ _ => F9Z); (with_reducible rename News _ _ _ _ => N9Z); (refine slice_strN_ss (hsz := ?hszZ9) (s := ⟨_, _, _, _, _⟩) F9Z N9Z ?_); (case hszZ9 => first | assumption | (rw [sizeLine_eq]; omega)); intro _ _ _ _ _))
  k_with "subscriptTail" => ((k_here; (with_reducible show wpAny _ _ (subscriptTail _ (PySem.Expr.Slice none (some _) none _) (Value.str _ _) (Value.ref _)) _ _ _); (with_reducible rename Fr _ _ _ _ => F9Z); (with_reducible rename News _ _ _ _ => N9Z); (refine slice_strN_ns (hsz := ?hszZ9) (s := ⟨_, _, _, _, _⟩) F9Z N9Z ?_); (case hszZ9 => first | assumption | (rw [sizeLine_eq]; omega)); intro _ _ _ _ _))
  k_with "call builtin:len" => ((k_here; (with_reducible show wpAny _ _ (call (Value.builtin "len") [Value.str _ _]) _ _ _); (refine SBL.len ?hlnZ9 ?_); (case hlnZ9 => omega)))
  k_with "k_all" => (((apply ne_cons); (first | assumption | exact Ne.symm (by assumption) | omega); k_all))
  k_with "k_mem" => (first | (apply List.mem_cons_of_mem; assumption) | (apply List.mem_cons_of_mem; apply List.mem_cons_of_mem; assumption) | (apply List.mem_cons_of_mem; apply List.mem_cons_of_mem; apply List.mem_cons_of_mem; assumption) | (apply List.mem_cons_of_mem; apply List.mem_cons_of_mem; apply List.mem_cons_of_mem; apply List.mem_cons_of_mem; assumption))
  k_with "getMethod ref" => ((k_here; k_dflt (refine' fn_method_N ?k1Z9 ?k2Z9 ?k3Z9 ?_; (case k1Z9 => k_asm); (case k2Z9 => k_mem); (case k3Z9 => k_mem); k_whole); (try dsimp only)))
  k_with "call ref" => ((k_here; (with_reducible rename ReadOk _ _ _ _ _ _ _ _ _ _ _ => hRO9Z); k_dflt (refine' MutCt.u2E (hRO9Z.2 _ _ _ _ _ ?q1Z9 ?q2Z9 ?q3Z9 ?q4Z9 ?q5Z9) ?k1Z9 ?k2Z9 ?k3Z9 ?k4Z9 ?k5Z9 ?k6Z9 ?k7Z9 ?k8Z9 ?_; (case k1Z9 => k_asm); (case k2Z9 => k_asm); (case k3Z9 => k_asm); (case k4Z9 => k_asm); (case k5Z9 => k_asm); (case k6Z9 => first | rfl | assumption); (case k7Z9 => ktr_room); (case k8Z9 => ktr_units); (case q1Z9 => k_mem); (case q2Z9 => k_mem); (case q3Z9 => k_mem); (case q4Z9 => k_mem); (case q5Z9 => k_all)); intro _ _ _ _ _ _; (try dsimp only); (try k_sweep)))
  trivial
/-- a lexer's fixed parts -/
noncomputable def LexAt (w : World) (x : Str) (rest : List (Addr × Obj)) (x9 dx fL al : Addr) : Prop := ∃ dL tr fR fd sl fo c1 oc1 cT oT cA oA, (x9, instObj 100 dx) ∈ rest ∧ (dL, dictOf [⟨PyData.keyHash w.params (Str.ofString "read"), .str (Str.ofString "read") tr, .ref fR⟩] 1) ∈ rest ∧
  (fL, (⟨.type "function", some dL, .func fd, sl⟩ : Obj)) ∈ rest ∧ (fR, fo) ∈ rest ∧ (c1, oc1) ∈ rest ∧ (cT, oT) ∈ rest ∧ (cA, oA) ∈ rest ∧ ReadOk w x fR fo c1 oc1 cT oT cA oA al
theorem LexAt.mono {w : World} {x : Str} {rest rest' : List (Addr × Obj)} {x9 dx fL al : Addr} (h : LexAt w x rest x9 dx fL al) (hs : ∀ p ∈ rest, p ∈ rest') : LexAt w x rest' x9 dx fL al :=
  by
  obtain ⟨dL, tr, fR, fd, sl, fo, c1, oc1, cT, oT, cA, oA, a1, a2, a3, a4, a5, a6, a7, a8⟩ := h
  exact ⟨dL, tr, fR, fd, sl, fo, c1, oc1, cT, oT, cA, oA, hs _ a1, hs _ a2, hs _ a3, hs _ a4, hs _ a5, hs _ a6, hs _ a7, a8⟩
noncomputable def MutCd (w : World) (d u : Nat) (f : Value) (args : List Value) (news : List (Addr × Obj)) (P : Value → List (Addr × Obj) → Prop) : Prop :=
  ∀ (loose : List Str) (mean : ExcName → Option Value) (mg mb : Str → Option Value) (dp un : Nat) (gd : Option (List Code)) (cn : Str) (cs : Scope) (a : Addr) (ccd : Value) (cl : List (Str × Addr)) (outer : List Env) (A₀ : Around) (base h₀ : Heap) (L : Addr) (m : Str → Option Value) (s : Shared) (Q E : Value → Shared → Prop),
    Below A₀ base outer h₀ → Fr h₀ L s.heap m → (Mine.mkK.heap_1 w.params).In h₀ → News h₀ L s.heap news → Top topProg loose mean mg mb h₀ → cs.kind = .function →
    dp < d → un < u → (∀ r h' tk' news', P r news' → Fr h₀ L h' m → News h₀ L h' news' → Q r { s with heap := h', toks := tk' }) →
    codeAny (model PySem.Challenge.rw_re0168_01.prog w) (ktrTop dp un gd cn cs L a ccd cl outer) (.call f ⟨args, []⟩) (fun r s' => match r with | .ok (.ret v) => Q v s' | .ok _ => False | .error e => E e s') s
theorem MutCd.ct {w : World} {d u : Nat} {f : Value} {args : List Value} {news : List (Addr × Obj)} {P : Value → List (Addr × Obj) → Prop} (C : MutCd w d u f args news P) : MutCt w d u f args [] news P :=
  fun loose mean mg mb dp un gd cn cs a ccd cl outer A₀ base h₀ L m s Q E B F X N T hk hd hu hret => wpAny_call (C loose mean mg mb dp un gd cn cs a ccd cl outer A₀ base h₀ L m s Q E B F X N T hk hd hu hret)
theorem rc_cd (w : World) (x : Str) (hx : x.length ≤ 1000) (x9 dx fL pb al : Addr) (p ln : Int) (tp t1 t2 t3 t4 t5 t6 : Tok) (n : Nat) (rest : List (Addr × Obj)) (hS : LexAt w x rest x9 dx fL al) (h1 : ∀ q ∈ rest, q.1 ≠ al) (h2 : ∀ q ∈ rest, q.1 ≠ dx) (h3 : al ≠ dx) :
    MutCd w 650 770 (.ref 83) [.ref x9] ((al, PySem.W.listOf [Value.int p tp].toArray n) :: (dx, dictOf [⟨PyData.keyHash w.params (Str.ofString "lineno"), .str (Str.ofString "lineno") t1, .int ln t2⟩, ⟨PyData.keyHash w.params (Str.ofString "instream"), .str (Str.ofString "instream") t3, .ref fL⟩, ⟨PyData.keyHash w.params (Str.ofString "whitespace"), .str (Str.ofString "whitespace") t4, .str (Str.ofString "\n\t\x0d ") t5⟩, ⟨PyData.keyHash w.params (Str.ofString "pushback"), .str (Str.ofString "pushback") t6, .ref pb⟩] 4) :: rest) (fun r news' => ∃ t' t'' ln' s1 s2 s3 s4 s5 s6, r = .str (Txt.slice x (some p) (some (p + 1))) t' ∧ news' = (al, PySem.W.listOf [Value.int (p + (Txt.slice x (some p) (some (p + 1))).length) t''].toArray n) :: (dx, dictOf [⟨PyData.keyHash w.params (Str.ofString "lineno"), .str (Str.ofString "lineno") s1, .int ln' s2⟩, ⟨PyData.keyHash w.params (Str.ofString "instream"), .str (Str.ofString "instream") s3, .ref fL⟩, ⟨PyData.keyHash w.params (Str.ofString "whitespace"), .str (Str.ofString "whitespace") s4, .str (Str.ofString "\n\t\x0d ") s5⟩, ⟨PyData.keyHash w.params (Str.ofString "pushback"), .str (Str.ofString "pushback") s6, .ref pb⟩] 4) :: rest ∧ ln' = (if (Txt.slice x (some p) (some (p + 1)) == Str.ofString "\n") = true then ln + 1 else ln)) := by
  obtain ⟨dL, tr, fR, fd, sl, fo, c1, oc1, cT, oT, cA, oA, a1, a2, a3, a4, a5, a6, a7, a8⟩ := hS
  obtain ⟨oc, od, fd2, sl2, rfl⟩ := a8.1
  unfold MutCd
  k_fill
  intro loose mean mg mb dp un gd cn cs a ccd cl outer A₀ base h₀ L m s Q E B F X N T hk hd hu hret
  k_dflt (refine' code_def ?k1 ?k2 ?k3 ?k4 ?k5 ?kA ?kF ?kK ?k6 ?k7 ?k8 ?k9 ?kB ?_ ?c2 ?c3 ?c4 ?c5; (case kA => exact rfl); (case kF => exact rfl); (case kK => assumption); (case k1 => k_asm); (case k2 => k_asm); (case k3 => k_asm); (case k4 => k_asm); (case k5 => k_asm); (case k6 => k_is); (case k7 => k_is); (case k8 => ktr_room); (case k9 => first | exact BindsTo.of_eq rfl | exact binds_K (by k_in) rfl (by k_is) rfl rfl rfl); (case c5 => decide); (case kB => exact locs rfl); (case c2 => exact rfl); (case c3 => exact rfl); (case c4 => exact rfl); k_whole; intro g' L' h' FG' F' N' B' X' T'; (try dsimp only); (try k_fold))
  refine wpAny_mono (E := nE) ?_ (fun _ _ z => z) (fun _ _ z => z.elim)
  have codeHd : CodeHd g' 269 265 := codeHd_of_K X' (by kernel_rfl)
  k_steps
  · rename (_ == _) = true => hq
    rename Fr _ _ _ _ => F8
    rename News _ _ _ _ => N8
    exact hret _ _ _ _ ⟨_, _, _, _, _, _, _, _, _, rfl, rfl, (if_pos hq).symm⟩ F8 N8
  · rename (_ == _) = false => hq
    rename Fr _ _ _ _ => F8
    rename News _ _ _ _ => N8
    exact hret _ _ _ _ ⟨_, _, _, _, _, _, _, _, _, rfl, rfl, (if_neg (by rw [hq]; decide)).symm⟩ F8 N8
end Mine
end partN2
section partN3
open PySem PySem.W PyProof.Rows PySem.Calls
set_option Elab.async false
set_option maxRecDepth 100000
set_option maxHeartbeats 1000000
namespace Mine
theorem reset_N3 : True := by
  w_top off
  k_with_none
  trivial
theorem words_N3 : True := by
  k_with "k_ne" => (refine neN ?_; first | with_reducible assumption | exact Ne.symm (by with_reducible assumption) | exact Nat.ne_of_lt (by with_reducible assumption) | exact Nat.ne_of_gt (by with_reducible assumption) | (refine' Nat.ne_of_lt (And.left ?hZ9); (case hZ9 => with_reducible assumption)) | (refine' Nat.ne_of_lt (And.left (And.right ?hZ9)); (case hZ9 => with_reducible assumption)) | (refine' Nat.ne_of_lt (And.left (And.right (And.right ?hZ9))); (case hZ9 => with_reducible assumption)) | (refine' Nat.ne_of_lt (And.left (And.right (And.right (And.right ?hZ9)))); (case hZ9 => with_reducible assumption)) | (refine' Nat.ne_of_lt (And.left (And.right (And.right (And.right (And.right ?hZ9))))); (case hZ9 => with_reducible assumption)) | (refine' Nat.ne_of_lt (And.left (And.right (And.right (And.right (And.right (And.right ?hZ9)))))); (case hZ9 => with_reducible assumption)) | (refine' Nat.ne_of_lt (And.left (And.right (And.right (And.right (And.right (And.right (And.right ?hZ9))))))); (case hZ9 => with_reducible assumption)) | (refine' Nat.ne_of_lt (And.left (And.right (And.right (And.right (And.right (And.right (And.right (And.right ?hZ9)))))))); (case hZ9 => with_reducible assumption)) | (refine' Nat.ne_of_lt (And.left (And.right (And.right (And.right (And.right (And.right (And.right (And.right (And.right ?hZ9))))))))); (case hZ9 => with_reducible assumption)) | (refine' Nat.ne_of_gt (And.left ?hZ9); (case hZ9 => with_reducible assumption)) | (refine' Nat.ne_of_gt (And.left (And.right ?hZ9)); (case hZ9 => with_reducible assumption)) | (refine' Nat.ne_of_gt (And.left (And.right (And.right ?hZ9))); (case hZ9 => with_reducible assumption)) | (refine' Nat.ne_of_gt (And.left (And.right (And.right (And.right ?hZ9)))); (case hZ9 => with_reducible assumption)) | (refine' Nat.ne_of_gt (And.left (And.right (And.right (And.right (And.right ?hZ9))))); (case hZ9 => with_reducible assumption)) | (refine' Nat.ne_of_gt (And.left (And.right (And.right (And.right (And.right (And.right ?hZ9)))))); (case hZ9 => with_reducible assumption)) | (refine' Nat.ne_of_gt (And.left (And.right (And.right (And.right (And.right (And.right (And.right ?hZ9))))))); (case hZ9 => with_reducible assumption)) | (refine' Nat.ne_of_gt (And.left (And.right (And.right (And.right (And.right (And.right (And.right (And.right ?hZ9)))))))); (case hZ9 => with_reducible assumption)) | (refine' Nat.ne_of_gt (And.left (And.right (And.right (And.right (And.right (And.right (And.right (And.right (And.right ?hZ9))))))))); (case hZ9 => with_reducible assumption)) | ((try dsimp only); omega))
  k_with "callWith ref" => (k_here; (with_reducible show wpAny _ _ (callWith _ (Value.ref _) _ (backTo _ (starEach (_ :: _) _)) []) _ _ _); k_dflt (refine' callWith_K ?k1Z9 ?k2Z9 ?_; (case k1Z9 => k_asm); (case k2Z9 => k_is); k_whole))
  trivial
theorem lines_N3_1 : True := by
  k_with "exec For" => ((k_here; k_dflt (refine' for_open ?_ ?hsZ9; (case hsZ9 => (intro _; rfl)))))
  k_with "call type:type" => ((k_here; (with_reducible show wpAny _ _ (call (Value.type "type") [Value.ref _]) _ _ _); (rename News _ _ _ _ => kN9Z); k_dflt (refine' kto_cont (T := "list") ⟨_, (kN9Z (_, PySem.W.listOf _ _) ?hmZ9).1, rfl⟩ ?nZ9 ?_; (case hmZ9 => k_mem); (case nZ9 => decide +kernel); k_whole)))
  k_with "k_mem" => (assumption)
  k_with "k_all" => (first | assumption | exact ne_all (by assumption) | exact ne_all' (by assumption) | exact ne_all_le (by assumption) (by omega))
  k_with "ktr_units" => (((try simp only [units_in1, units_deeper, Around.mark_units, units_under_make]); (try dsimp only [ktrTop]); first | decide | (refine' Nat.lt_of_lt_of_le (Nat.add_lt_add_right ?h9Z9 3) ?g9Z9; (case h9Z9 => assumption); (case g9Z9 => decide)) | omega))
  k_with "ktr_room" => (((try simp only [depth_under_make, depth_under_kw, depth_in1, depth_deeper, depth_caller]); (try dsimp only [ktrTop]); first | decide | (refine' Nat.lt_of_lt_of_le (Nat.succ_lt_succ ?h9Z9) ?g9Z9; (case h9Z9 => assumption); (case g9Z9 => decide)) | omega | (simp only [recursionLimit]; omega)))
  k_with "subscriptTail" => ((k_here; (with_reducible show wpAny _ _ (subscriptTail _ (PySem.Expr.Slice (some _) none none _) (Value.str _ _) (Value.ref _)) _ _ _); (with_reducible rename Fr _ _ _ _ => F9Z); (with_reducible rename News _ _ _ _ => N9Z); (refine slice_strN_sn (hsz := ?hszZ9) (s := ⟨_, _, _, _, _⟩) F9Z N9Z ?_); (case hszZ9 => first | assumption | (rw [sizeLine_eq]; omega)); intro _ _ _ _ _))
  k_with "subscriptTail" => ((k_here; (with_reducible show wpAny _ _ (subscriptTail _ (PySem.Expr.Slice (some _) (some _) none _) (Value.str _ _) (Value.ref _)) _ _ _); (with_reducible rename Fr _ _ _ _ => F9Z); (with_reducible rename News _ _ _ _ => N9Z); (refine slice_strN_ss (hsz := ?hszZ9) (s := ⟨_, _, _, _, _⟩) F9Z N9Z ?_); (case hszZ9 => first | assumption | (rw [sizeLine_eq]; omega)); intro _ _ _ _ _))
  k_with "subscriptTail" => ((k_here; (with_reducible show wpAny _ _ (subscriptTail _ (PySem.Expr.Slice none (some _) none _) (Value.str _ _) (Value.ref _)) _ _ _); (with_reducible rename Fr _ _ _ _ => F9Z); (with_reducible rename News _ _ _ _ => N9Z); (refine slice_strN_ns (hsz := ?hszZ9) (s := ⟨_, _, _, _, _⟩) F9Z N9Z ?_); (case hszZ9 => first | assumption | (rw [sizeLine_eq]; omega)); intro _ _ _ _ _))
  k_with "call builtin:len" => ((k_here; (with_reducible show wpAny _ _ (call (Value.builtin "len") [Value.str _ _]) _ _ _); (refine SBL.len ?hlnZ9 ?_); (case hlnZ9 => omega)))
  k_with "k_all" => (((apply ne_cons); (first | assumption | exact Ne.symm (by assumption) | omega); k_all))
  k_with "k_mem" => (first | (apply List.mem_cons_of_mem; assumption) | (apply List.mem_cons_of_mem; apply List.mem_cons_of_mem; assumption) | (apply List.mem_cons_of_mem; apply List.mem_cons_of_mem; apply List.mem_cons_of_mem; assumption) | (apply List.mem_cons_of_mem; apply List.mem_cons_of_mem; apply List.mem_cons_of_mem; apply List.mem_cons_of_mem; assumption))
  k_with "getMethod ref" => ((k_here; k_dflt (refine' fn_method_N ?k1Z9 ?k2Z9 ?k3Z9 ?_; (case k1Z9 => k_asm); (case k2Z9 => k_mem); (case k3Z9 => k_mem); k_whole); (try dsimp only)))
  k_with "call ref" => ((k_here; (with_reducible rename ReadOk _ _ _ _ _ _ _ _ _ _ _ => hRO9Z); k_dflt (refine' MutCt.u2E (hRO9Z.2 _ _ _ _ _ ?q1Z9 ?q2Z9 ?q3Z9 ?q4Z9 ?q5Z9) ?k1Z9 ?k2Z9 ?k3Z9 ?k4Z9 ?k5Z9 ?k6Z9 ?k7Z9 ?k8Z9 ?_; (case k1Z9 => k_asm); (case k2Z9 => k_asm); (case k3Z9 => k_asm); (case k4Z9 => k_asm); (case k5Z9 => k_asm); (case k6Z9 => first | rfl | assumption); (case k7Z9 => ktr_room); (case k8Z9 => ktr_units); (case q1Z9 => k_mem); (case q2Z9 => k_mem); (case q3Z9 => k_mem); (case q4Z9 => k_mem); (case q5Z9 => k_all)); intro _ _ _ _ _ _; (try dsimp only); (try k_sweep)))
  trivial
theorem pop0 {prog : Program} {w : World} {A : Around} {E : Value → Shared → Prop} {s : Shared} {h₀ : Heap} {L D : Addr} {m : Str → Option Value} {news news' : List (Addr × Obj)} {n : Nat} {u : Tok} {vs : List Value} {y : Value} {Q : Value → Shared → Prop} (F : Fr h₀ L s.heap m) (N : News h₀ L s.heap news)
    (U : Upd D (PySem.W.listOf (y :: vs).toArray n) (PySem.W.listOf vs.toArray (n + 1)) news news') (hz : vs.length ≤ 1000) (h : ∀ h', Fr h₀ L h' m → News h₀ L h' news' → Q y { s with heap := h' }) : wpAny (model prog w) A (call (.builtin "list.pop") [.ref D, .int 0 u]) Q E s :=
  kl_popAt (p := []) (q := vs) (k := 0) F N (by decide) (by simp [seqIndex?]) rfl U (by simp only [List.length_cons, sizeLine_eq]; omega) h
theorem lines_N3_2 : True := by
  k_with "call builtin:list.pop" => ((k_here; k_dflt (refine' pop0 ?FZ9 ?NZ9 ?UZ9 ?zZ9 ?_; (case FZ9 => k_asm); (case NZ9 => k_asm); (case UZ9 => k_upd); (case zZ9 => omega)); intro _ _ N9Z; (try dsimp only [List.nil_append, List.cons_append] at N9Z)))
  trivial
theorem push_ct (w : World) (x9 dx fL pb : Addr) (ln : Int) (t1 t2 t3 t4 t5 t6 : Tok) (n : Nat) (vs : List Value) (rest : List (Addr × Obj)) (y : Str) (ty : Tok) (h1 : (x9, instObj 100 dx) ∈ rest) (h2 : (dx, dictOf [⟨PyData.keyHash w.params (Str.ofString "lineno"), .str (Str.ofString "lineno") t1, .int ln t2⟩, ⟨PyData.keyHash w.params (Str.ofString "instream"), .str (Str.ofString "instream") t3, .ref fL⟩, ⟨PyData.keyHash w.params (Str.ofString "whitespace"), .str (Str.ofString "whitespace") t4, .str (Str.ofString "\n\t\x0d ") t5⟩, ⟨PyData.keyHash w.params (Str.ofString "pushback"), .str (Str.ofString "pushback") t6, .ref pb⟩] 4) ∈ rest) (h3 : ∀ q ∈ rest, q.1 ≠ pb) (hn : vs.length ≤ 1000) :
    MutCt w 650 770 (.ref 97) [.ref x9, .str y ty] [] ((pb, PySem.W.listOf vs.toArray n) :: rest) (fun r news' => r = .none ∧ ∃ n', news' = (pb, PySem.W.listOf (vs ++ [Value.str y ty]).toArray n') :: rest) := by
  unfold MutCt
  k_fill
  intro loose mean mg mb dp un gd cn cs a ccd cl outer A₀ base h₀ L m s Q E B F X N T hk hd hu hret
  refine wpAny_call ?_
  k_dflt (refine' code_def ?k1 ?k2 ?k3 ?k4 ?k5 ?kA ?kF ?kK ?k6 ?k7 ?k8 ?k9 ?kB ?_ ?c2 ?c3 ?c4 ?c5; (case kA => exact rfl); (case kF => exact rfl); (case kK => assumption); (case k1 => k_asm); (case k2 => k_asm); (case k3 => k_asm); (case k4 => k_asm); (case k5 => k_asm); (case k6 => k_is); (case k7 => k_is); (case k8 => ktr_room); (case k9 => first | exact BindsTo.of_eq rfl | exact binds_K (by k_in) rfl (by k_is) rfl rfl rfl); (case c5 => decide); (case kB => exact locs rfl); (case c2 => exact rfl); (case c3 => exact rfl); (case c4 => exact rfl); k_whole; intro g' L' h' FG' F' N' B' X' T'; (try dsimp only); (try k_fold))
  refine wpAny_mono (E := nE) ?_ (fun _ _ z => z) (fun _ _ z => z.elim)
  k_steps
  rename Fr _ _ _ _ => F8
  rename News _ _ _ _ => N8
  rw [List.push_toArray] at N8
  exact hret _ _ _ _ ⟨rfl, _, rfl⟩ F8 N8
theorem pop_ct (w : World) (x9 dx fL pb : Addr) (ln : Int) (t1 t2 t3 t4 t5 t6 : Tok) (n : Nat) (vs : List Value) (rest : List (Addr × Obj)) (y : Str) (ty : Tok) (h1 : (x9, instObj 100 dx) ∈ rest) (h2 : (dx, dictOf [⟨PyData.keyHash w.params (Str.ofString "lineno"), .str (Str.ofString "lineno") t1, .int ln t2⟩, ⟨PyData.keyHash w.params (Str.ofString "instream"), .str (Str.ofString "instream") t3, .ref fL⟩, ⟨PyData.keyHash w.params (Str.ofString "whitespace"), .str (Str.ofString "whitespace") t4, .str (Str.ofString "\n\t\x0d ") t5⟩, ⟨PyData.keyHash w.params (Str.ofString "pushback"), .str (Str.ofString "pushback") t6, .ref pb⟩] 4) ∈ rest) (h3 : ∀ q ∈ rest, q.1 ≠ pb) (hn : vs.length ≤ 1000) :
    MutCt w 650 770 (.ref 90) [.ref x9] [] ((pb, PySem.W.listOf (Value.str y ty :: vs).toArray n) :: rest) (fun r news' => r = .str y ty ∧ ∃ n', news' = (pb, PySem.W.listOf vs.toArray n') :: rest) := by
  unfold MutCt
  k_fill
  intro loose mean mg mb dp un gd cn cs a ccd cl outer A₀ base h₀ L m s Q E B F X N T hk hd hu hret
  refine wpAny_call ?_
  k_dflt (refine' code_def ?k1 ?k2 ?k3 ?k4 ?k5 ?kA ?kF ?kK ?k6 ?k7 ?k8 ?k9 ?kB ?_ ?c2 ?c3 ?c4 ?c5; (case kA => exact rfl); (case kF => exact rfl); (case kK => assumption); (case k1 => k_asm); (case k2 => k_asm); (case k3 => k_asm); (case k4 => k_asm); (case k5 => k_asm); (case k6 => k_is); (case k7 => k_is); (case k8 => ktr_room); (case k9 => first | exact BindsTo.of_eq rfl | exact binds_K (by k_in) rfl (by k_is) rfl rfl rfl); (case c5 => decide); (case kB => exact locs rfl); (case c2 => exact rfl); (case c3 => exact rfl); (case c4 => exact rfl); k_whole; intro g' L' h' FG' F' N' B' X' T'; (try dsimp only); (try k_fold))
  refine wpAny_mono (E := nE) ?_ (fun _ _ z => z) (fun _ _ z => z.elim)
  k_steps
  rename Fr _ _ _ _ => F8
  rename News _ _ _ _ => N8
  exact hret _ _ _ _ ⟨rfl, _, rfl⟩ F8 N8
end Mine
end partN3
section partN4
open PySem PySem.W PyProof.Rows PySem.Calls
set_option Elab.async false
set_option maxRecDepth 100000
set_option maxHeartbeats 1000000
namespace Mine
theorem reset_N4 : True := by
  w_top off
  k_with_none
  trivial
theorem st1_eq (c d : Nat) : (st [c] == st [d]) = decide (c = d) := by
  by_cases h : c = d
  · subst h; rw [decide_eq_true rfl]; exact beq_self_eq_true _
  · rw [decide_eq_false h]; exact beq_eq_false_iff_ne.mpr (fun e => h (by have := congrArg (fun x : Str => x.cps.toList) e; simpa using this))
noncomputable def isFn (o : Obj) : Bool := match o.data with | .func _ => true | _ => false
theorem isFn_get {o : Obj} (h : isFn o = true) : ∃ fd, o.data = .func fd := by
  unfold isFn at h
  split at h
  · exact ⟨_, by assumption⟩
  · cases h
theorem str_go {target : PySem.Expr} {it : Addr} {s : Shared} {M : Model} {A : Around} {x : Str} {t : Tok} {Q : Unit → Shared → Prop} {E : Value → Shared → Prop} (hq : Q () s) : wpAny M A (letOwnedTupleGo target (.ref it) (.str x t)) Q E s := by
  unfold letOwnedTupleGo
  split
  · exact wpAny_pure hq
  · exact wpAny_pure hq
  · exact wpAny_pure hq
noncomputable def nlN (c : Nat) (ln : Int) : Int := if c = 10 then ln + 1 else ln
theorem rc_st (w : World) (l : List Nat) (hl : l.length ≤ 1000) (x9 dx fL pb al : Addr) (p : Nat) (ln : Int) (tp t1 t2 t3 t4 t5 t6 : Tok) (n : Nat) (rest : List (Addr × Obj)) (c : Nat) (r : List Nat) (hdr : l.drop p = c :: r) (hS : LexAt w (st l) rest x9 dx fL al) (h1 : ∀ q ∈ rest, q.1 ≠ al) (h2 : ∀ q ∈ rest, q.1 ≠ dx) (h3 : al ≠ dx) :
    MutCt w 650 770 (.ref 83) [.ref x9] [] ((al, PySem.W.listOf [Value.int (p : Int) tp].toArray n) :: (dx, dictOf [⟨PyData.keyHash w.params (Str.ofString "lineno"), .str (Str.ofString "lineno") t1, .int ln t2⟩, ⟨PyData.keyHash w.params (Str.ofString "instream"), .str (Str.ofString "instream") t3, .ref fL⟩, ⟨PyData.keyHash w.params (Str.ofString "whitespace"), .str (Str.ofString "whitespace") t4, .str (Str.ofString "\n\t\x0d ") t5⟩, ⟨PyData.keyHash w.params (Str.ofString "pushback"), .str (Str.ofString "pushback") t6, .ref pb⟩] 4) :: rest) (fun r news' => ∃ t' t'' s1 s2 s3 s4 s5 s6, r = .str (st [c]) t' ∧ news' = (al, PySem.W.listOf [Value.int ((p + 1 : Nat) : Int) t''].toArray n) :: (dx, dictOf [⟨PyData.keyHash w.params (Str.ofString "lineno"), .str (Str.ofString "lineno") s1, .int (nlN c ln) s2⟩, ⟨PyData.keyHash w.params (Str.ofString "instream"), .str (Str.ofString "instream") s3, .ref fL⟩, ⟨PyData.keyHash w.params (Str.ofString "whitespace"), .str (Str.ofString "whitespace") s4, .str (Str.ofString "\n\t\x0d ") s5⟩, ⟨PyData.keyHash w.params (Str.ofString "pushback"), .str (Str.ofString "pushback") s6, .ref pb⟩] 4) :: rest) :=
  (rc_cd w (st l) (by rw [st_len]; exact hl) x9 dx fL pb al p ln tp t1 t2 t3 t4 t5 t6 n rest hS h1 h2 h3).ct.mono fun v news' hv => by
    obtain ⟨t', t'', ln', s1, s2, s3, s4, s5, s6, rfl, rfl, rfl⟩ := hv
    rw [slice_one l p c r hdr]
    have e5 : (if (st [c] == Str.ofString "
") = true then ln + 1 else ln) = nlN c ln := by
      rw [show Str.ofString "
" = st [10] from rfl, st1_eq]
      unfold nlN
      by_cases h : c = 10 <;> simp [h]
    rw [e5]
    exact ⟨_, _, _, _, _, _, _, _, rfl, rfl⟩
theorem ci_turn {w : World} {l : List Nat} (hl : l.length ≤ 1000) {x9 dx fL pb al it q : Addr} {p : Nat} {ln : Int} {tp t1 t2 t3 t4 t5 t6 ts : Tok} {n : Nat} {rest : List (Addr × Obj)}
    {loose : List Str} {mean : ExcName → Option Value} {mg mb : Str → Option Value} {dp un : Nat} {gd : Option (List Code)} {cn : Str} {cs : Scope} {a : Addr} {ccd : Value} {cl : List (Str × Addr)} {outer : List Env} {A₀ : Around} {base h₀ : Heap} {L : Addr} {m : Str → Option Value} {s : Shared} {env : Env} {target : PySem.Expr} {body : List Stmt} {Q : Flow → Shared → Prop} {k : Nat}
    (B : Below A₀ base outer h₀) (F : Fr h₀ L s.heap m) (X : (Mine.mkK.heap_1 w.params).In h₀) (N : News h₀ L s.heap ((al, PySem.W.listOf [Value.int p tp].toArray n) :: (dx, dictOf [⟨PyData.keyHash w.params (Str.ofString "lineno"), .str (Str.ofString "lineno") t1, .int ln t2⟩, ⟨PyData.keyHash w.params (Str.ofString "instream"), .str (Str.ofString "instream") t3, .ref fL⟩, ⟨PyData.keyHash w.params (Str.ofString "whitespace"), .str (Str.ofString "whitespace") t4, .str (Str.ofString "\n\t\x0d ") t5⟩, ⟨PyData.keyHash w.params (Str.ofString "pushback"), .str (Str.ofString "pushback") t6, .ref pb⟩] 4) :: (it, ciObj (.ref q) (.str ⟨#[]⟩ ts)) :: (q, methodObj (.ref 83) (.ref x9)) :: rest)) (T : Top topProg loose mean mg mb h₀) (hk : cs.kind = .function)
    (hd : dp < 650) (hu : un < 760) (hS : LexAt w (st l) rest x9 dx fL al) (h1 : ∀ y ∈ rest, y.1 ≠ al) (h2 : ∀ y ∈ rest, y.1 ≠ dx) (h3 : al ≠ dx) (h4 : it ≠ al) (h5 : it ≠ dx) (h6 : q ≠ al) (h7 : q ≠ dx) (h8 : q ≠ it) (h9 : ∀ y ∈ rest, y.1 ≠ it)
    (hgo : ∀ c r t h' tk' t'' s1 s2 s3 s4 s5 s6, l.drop p = c :: r → Fr h₀ L h' m → News h₀ L h' ((al, PySem.W.listOf [Value.int ((p + 1 : Nat) : Int) t''].toArray n) :: (dx, dictOf [⟨PyData.keyHash w.params (Str.ofString "lineno"), .str (Str.ofString "lineno") s1, .int (nlN c ln) s2⟩, ⟨PyData.keyHash w.params (Str.ofString "instream"), .str (Str.ofString "instream") s3, .ref fL⟩, ⟨PyData.keyHash w.params (Str.ofString "whitespace"), .str (Str.ofString "whitespace") s4, .str (Str.ofString "\n\t\x0d ") s5⟩, ⟨PyData.keyHash w.params (Str.ofString "pushback"), .str (Str.ofString "pushback") s6, .ref pb⟩] 4) :: (it, ciObj (.ref q) (.str ⟨#[]⟩ ts)) :: (q, methodObj (.ref 83) (.ref x9)) :: rest) →
      wpAny (model PySem.Challenge.rw_re0168_01.prog w) (ktrTop dp un gd cn cs L a ccd cl outer) (assign target env (.str (st [c]) t)) (fun _ s₂ => wpAny (model PySem.Challenge.rw_re0168_01.prog w) (ktrTop dp un gd cn cs L a ccd cl outer) (execs body env) (fun f s₃ => match f with
      | .next | .cont => FRest PySem.Challenge.rw_re0168_01.prog w (ktrTop dp un gd cn cs L a ccd cl outer) env target body Q (.ref it) k s₃
      | .brk => Q .next s₃
      | .ret v => Q (.ret v) s₃) nE s₂) nE { s with heap := h', toks := tk' })
    (hstop : ∀ h' tk' t'' s1 s2 s3 s4 s5 s6, l.drop p = [] → Fr h₀ L h' m → News h₀ L h' ((al, PySem.W.listOf [Value.int (p : Int) t''].toArray n) :: (dx, dictOf [⟨PyData.keyHash w.params (Str.ofString "lineno"), .str (Str.ofString "lineno") s1, .int ln s2⟩, ⟨PyData.keyHash w.params (Str.ofString "instream"), .str (Str.ofString "instream") s3, .ref fL⟩, ⟨PyData.keyHash w.params (Str.ofString "whitespace"), .str (Str.ofString "whitespace") s4, .str (Str.ofString "\n\t\x0d ") s5⟩, ⟨PyData.keyHash w.params (Str.ofString "pushback"), .str (Str.ofString "pushback") s6, .ref pb⟩] 4) :: (q, methodObj (.ref 83) (.ref x9)) :: rest) → Q .next { s with heap := h', toks := tk' }) :
    FRest PySem.Challenge.rw_re0168_01.prog w (ktrTop dp un gd cn cs L a ccd cl outer) env target body Q (.ref it) (k + 1) s := by
  have hit := (N _ (.tail _ (.tail _ (.head _)))).1
  have hq := (N _ (.tail _ (.tail _ (.tail _ (.head _))))).1
  obtain ⟨fo, hfo, hq9⟩ := any_some (show ((Mine.mkK.heap_1 w.params).lookup 83).any isFn = true by kernel_rfl)
  obtain ⟨fd, hfd⟩ := isFn_get hq9
  have hf := F.keep _ _ (X _ _ hfo)
  refine ci_next (ts := ts) (q := q) (f := 83) (self := .ref x9) rfl hit hq hf hfd ?_
  have RC := rc_cd w (st l) (by rw [st_len]; exact hl) x9 dx fL pb al p ln tp t1 t2 t3 t4 t5 t6 n ((it, ciObj (.ref q) (.str ⟨#[]⟩ ts)) :: (q, methodObj (.ref 83) (.ref x9)) :: rest)
    (hS.mono (fun _ hy => .tail _ (.tail _ hy))) (ne_cons h4 (ne_cons h6 h1)) (ne_cons h5 (ne_cons h7 h2)) h3
  refine codeAny_mono (RC loose mean mg mb dp (un + 1) gd cn cs a ccd cl outer A₀ base h₀ L m s (fun v s₁ => ∃ h' tk' news', s₁ = { s with heap := h', toks := tk' } ∧ (∃ t' t'' ln' s1 s2 s3 s4 s5 s6, v = .str (Txt.slice (st l) (some (p : Int)) (some ((p : Int) + 1))) t' ∧ news' = (al, PySem.W.listOf [Value.int ((p : Int) + (Txt.slice (st l) (some (p : Int)) (some ((p : Int) + 1))).length) t''].toArray n) :: (dx, dictOf [⟨PyData.keyHash w.params (Str.ofString "lineno"), .str (Str.ofString "lineno") s1, .int ln' s2⟩, ⟨PyData.keyHash w.params (Str.ofString "instream"), .str (Str.ofString "instream") s3, .ref fL⟩, ⟨PyData.keyHash w.params (Str.ofString "whitespace"), .str (Str.ofString "whitespace") s4, .str (Str.ofString "\n\t\x0d ") s5⟩, ⟨PyData.keyHash w.params (Str.ofString "pushback"), .str (Str.ofString "pushback") s6, .ref pb⟩] 4) :: (it, ciObj (.ref q) (.str ⟨#[]⟩ ts)) :: (q, methodObj (.ref 83) (.ref x9)) :: rest ∧ ln' = (if (Txt.slice (st l) (some (p : Int)) (some ((p : Int) + 1)) == Str.ofString "
") = true then ln + 1 else ln)) ∧ Fr h₀ L h' m ∧ News h₀ L h' news') nE B F X N T hk hd (by omega) ?_) (fun r s₁ hr => ?_)
  · rintro r h' tk' news' ⟨t', t'', ln', s1, s2, s3, s4, s5, s6, e1, e2, e3⟩ F' N'
    exact ⟨h', tk', news', rfl, ⟨t', t'', ln', s1, s2, s3, s4, s5, s6, e1, e2, e3⟩, F', N'⟩
  · rcases r with e | (v | _ | _ | _)
    · exact hr
    · exact hr
    · exact hr
    · exact hr
    obtain ⟨h', tk', news', rfl, ⟨t', t'', ln', s1, s2, s3, s4, s5, s6, rfl, rfl, rfl⟩, F', N'⟩ := hr
    refine ⟨_, _, rfl, (N' _ (.tail _ (.tail _ (.head _)))).1, (N' _ (.tail _ (.tail _ (.tail _ (.head _))))).1, F'.keep _ _ (X _ _ hfo), fun hc h'' hx => ?_, fun hc => ?_⟩
    · have hdr : l.drop p = [] := by
        cases hdr : l.drop p with
        | nil => rfl
        | cons c r => rw [slice_one l p c r hdr] at hc; cases hc
      rw [slice_end l p hdr] at N'
      obtain ⟨-, hLi, hIn⟩ := N' _ (.tail _ (.tail _ (.head _)))
      have hk9 : ∀ b o, b ≠ it → h'.get? b = some o → h''.get? b = some o := fun b o hb e => hx b o hb e
      refine hstop h'' tk' t'' s1 s2 s3 s4 s5 s6 hdr ⟨?_, fun b o e => hk9 b o (fun q => by subst q; rw [hIn] at e; cases e) (F'.keep b o e), F'.above⟩ ?_
      · obtain ⟨o, es, ep, e1, e2, e3⟩ := F'.ns
        exact ⟨o, es, ep, hk9 _ _ (Ne.symm hLi) e1, e2, e3⟩
      · have key : ∀ y ∈ ((al, PySem.W.listOf [Value.int (p : Int) t''].toArray n) :: (dx, dictOf [⟨PyData.keyHash w.params (Str.ofString "lineno"), .str (Str.ofString "lineno") s1, .int ln s2⟩, ⟨PyData.keyHash w.params (Str.ofString "instream"), .str (Str.ofString "instream") s3, .ref fL⟩, ⟨PyData.keyHash w.params (Str.ofString "whitespace"), .str (Str.ofString "whitespace") s4, .str (Str.ofString "\n\t\x0d ") s5⟩, ⟨PyData.keyHash w.params (Str.ofString "pushback"), .str (Str.ofString "pushback") s6, .ref pb⟩] 4) :: (q, methodObj (.ref 83) (.ref x9)) :: rest), y.1 ≠ it := ne_cons (Ne.symm h4) (ne_cons (Ne.symm h5) (ne_cons h8 h9))
        intro y hy
        have hy' := N' y (by
          rw [st_len]
          rcases List.mem_cons.mp hy with rfl | hy
          · refine List.mem_cons.mpr (.inl ?_)
            simp
          · refine .tail _ ?_
            rcases List.mem_cons.mp hy with rfl | hy
            · exact .head _
            · exact .tail _ (.tail _ hy))
        exact ⟨hk9 _ _ (key y hy) hy'.1, hy'.2⟩
    · cases hdr : l.drop p with
      | nil => exact absurd (slice_end l p hdr) hc
      | cons c r =>
        rw [slice_one l p c r hdr] at N' ⊢
        dsimp only
        refine str_go (hgo c r t' h' tk' t'' s1 s2 s3 s4 s5 s6 hdr F' ?_)
        have e5 : (if (st [c] == Str.ofString "
") = true then ln + 1 else ln) = nlN c ln := by
          rw [show Str.ofString "
" = st [10] from rfl, st1_eq]
          unfold nlN
          by_cases h : c = 10 <;> simp [h]
        rw [e5] at N'
        exact N'
end Mine
end partN4
section partN5
open PySem PySem.W PyProof.Rows PySem.Calls
set_option Elab.async false
set_option maxRecDepth 100000
set_option maxHeartbeats 1000000
namespace Mine
theorem reset_N5 : True := by
  w_top off
  k_with_none
  trivial
theorem words_N5 : True := by
  k_with "k_ne" => (refine neN ?_; first | with_reducible assumption | exact Ne.symm (by with_reducible assumption) | exact Nat.ne_of_lt (by with_reducible assumption) | exact Nat.ne_of_gt (by with_reducible assumption) | (refine' Nat.ne_of_lt (And.left ?hZ9); (case hZ9 => with_reducible assumption)) | (refine' Nat.ne_of_lt (And.left (And.right ?hZ9)); (case hZ9 => with_reducible assumption)) | (refine' Nat.ne_of_lt (And.left (And.right (And.right ?hZ9))); (case hZ9 => with_reducible assumption)) | (refine' Nat.ne_of_lt (And.left (And.right (And.right (And.right ?hZ9)))); (case hZ9 => with_reducible assumption)) | (refine' Nat.ne_of_lt (And.left (And.right (And.right (And.right (And.right ?hZ9))))); (case hZ9 => with_reducible assumption)) | (refine' Nat.ne_of_lt (And.left (And.right (And.right (And.right (And.right (And.right ?hZ9)))))); (case hZ9 => with_reducible assumption)) | (refine' Nat.ne_of_lt (And.left (And.right (And.right (And.right (And.right (And.right (And.right ?hZ9))))))); (case hZ9 => with_reducible assumption)) | (refine' Nat.ne_of_lt (And.left (And.right (And.right (And.right (And.right (And.right (And.right (And.right ?hZ9)))))))); (case hZ9 => with_reducible assumption)) | (refine' Nat.ne_of_lt (And.left (And.right (And.right (And.right (And.right (And.right (And.right (And.right (And.right ?hZ9))))))))); (case hZ9 => with_reducible assumption)) | (refine' Nat.ne_of_gt (And.left ?hZ9); (case hZ9 => with_reducible assumption)) | (refine' Nat.ne_of_gt (And.left (And.right ?hZ9)); (case hZ9 => with_reducible assumption)) | (refine' Nat.ne_of_gt (And.left (And.right (And.right ?hZ9))); (case hZ9 => with_reducible assumption)) | (refine' Nat.ne_of_gt (And.left (And.right (And.right (And.right ?hZ9)))); (case hZ9 => with_reducible assumption)) | (refine' Nat.ne_of_gt (And.left (And.right (And.right (And.right (And.right ?hZ9))))); (case hZ9 => with_reducible assumption)) | (refine' Nat.ne_of_gt (And.left (And.right (And.right (And.right (And.right (And.right ?hZ9)))))); (case hZ9 => with_reducible assumption)) | (refine' Nat.ne_of_gt (And.left (And.right (And.right (And.right (And.right (And.right (And.right ?hZ9))))))); (case hZ9 => with_reducible assumption)) | (refine' Nat.ne_of_gt (And.left (And.right (And.right (And.right (And.right (And.right (And.right (And.right ?hZ9)))))))); (case hZ9 => with_reducible assumption)) | (refine' Nat.ne_of_gt (And.left (And.right (And.right (And.right (And.right (And.right (And.right (And.right (And.right ?hZ9))))))))); (case hZ9 => with_reducible assumption)) | ((try dsimp only); omega))
  k_with "callWith ref" => (k_here; (with_reducible show wpAny _ _ (callWith _ (Value.ref _) _ (backTo _ (starEach (_ :: _) _)) []) _ _ _); k_dflt (refine' callWith_K ?k1Z9 ?k2Z9 ?_; (case k1Z9 => k_asm); (case k2Z9 => k_is); k_whole))
  trivial
theorem lines_N5_1 : True := by
  k_with "exec For" => ((k_here; k_dflt (refine' for_open ?_ ?hsZ9; (case hsZ9 => (intro _; rfl)))))
  k_with "call type:type" => ((k_here; (with_reducible show wpAny _ _ (call (Value.type "type") [Value.ref _]) _ _ _); (rename News _ _ _ _ => kN9Z); k_dflt (refine' kto_cont (T := "list") ⟨_, (kN9Z (_, PySem.W.listOf _ _) ?hmZ9).1, rfl⟩ ?nZ9 ?_; (case hmZ9 => k_mem); (case nZ9 => decide +kernel); k_whole)))
  k_with "k_mem" => (assumption)
  k_with "k_all" => (first | assumption | exact ne_all (by assumption) | exact ne_all' (by assumption) | exact ne_all_le (by assumption) (by omega))
  k_with "ktr_units" => (((try simp only [units_in1, units_deeper, Around.mark_units, units_under_make]); (try dsimp only [ktrTop]); first | decide | (refine' Nat.lt_of_lt_of_le (Nat.add_lt_add_right ?h9Z9 3) ?g9Z9; (case h9Z9 => assumption); (case g9Z9 => decide)) | omega))
  k_with "ktr_room" => (((try simp only [depth_under_make, depth_under_kw, depth_in1, depth_deeper, depth_caller]); (try dsimp only [ktrTop]); first | decide | (refine' Nat.lt_of_lt_of_le (Nat.succ_lt_succ ?h9Z9) ?g9Z9; (case h9Z9 => assumption); (case g9Z9 => decide)) | omega | (simp only [recursionLimit]; omega)))
  k_with "subscriptTail" => ((k_here; (with_reducible show wpAny _ _ (subscriptTail _ (PySem.Expr.Slice (some _) none none _) (Value.str _ _) (Value.ref _)) _ _ _); (with_reducible rename Fr _ _ _ _ => F9Z); (with_reducible rename News _ _ _ _ => N9Z); (refine slice_strN_sn (hsz := ?hszZ9) (s := ⟨_, _, _, _, _⟩) F9Z N9Z ?_); (case hszZ9 => first | assumption | (rw [sizeLine_eq]; omega)); intro _ _ _ _ _))
  k_with "subscriptTail" => ((k_here; (with_reducible show wpAny _ _ (subscriptTail _ (PySem.Expr.Slice (some _) (some _) none _) (Value.str _ _) (Value.ref _)) _ _ _); (with_reducible rename Fr _ _ _ _ => F9Z); (with_reducible rename News _ _ _ _ => N9Z); (refine slice_strN_ss (hsz := ?hszZ9) (s := ⟨_, _, _, _, _⟩) F9Z N9Z ?_); (case hszZ9 => first | assumption | (rw [sizeLine_eq]; omega)); intro _ _ _ _ _))
  k_with "subscriptTail" => ((k_here; (with_reducible show wpAny _ _ (subscriptTail _ (PySem.Expr.Slice none (some _) none _) (Value.str _ _) (Value.ref _)) _ _ _); (with_reducible rename Fr _ _ _ _ => F9Z); (with_reducible rename News _ _ _ _ => N9Z); (refine slice_strN_ns (hsz := ?hszZ9) (s := ⟨_, _, _, _, _⟩) F9Z N9Z ?_); (case hszZ9 => first | assumption | (rw [sizeLine_eq]; omega)); intro _ _ _ _ _))
  k_with "call builtin:len" => ((k_here; (with_reducible show wpAny _ _ (call (Value.builtin "len") [Value.str _ _]) _ _ _); (refine SBL.len ?hlnZ9 ?_); (case hlnZ9 => omega)))
  k_with "k_all" => (((apply ne_cons); (first | assumption | exact Ne.symm (by assumption) | omega); k_all))
  k_with "k_mem" => (first | (apply List.mem_cons_of_mem; assumption) | (apply List.mem_cons_of_mem; apply List.mem_cons_of_mem; assumption) | (apply List.mem_cons_of_mem; apply List.mem_cons_of_mem; apply List.mem_cons_of_mem; assumption) | (apply List.mem_cons_of_mem; apply List.mem_cons_of_mem; apply List.mem_cons_of_mem; apply List.mem_cons_of_mem; assumption))
  k_with "getMethod ref" => ((k_here; k_dflt (refine' fn_method_N ?k1Z9 ?k2Z9 ?k3Z9 ?_; (case k1Z9 => k_asm); (case k2Z9 => k_mem); (case k3Z9 => k_mem); k_whole); (try dsimp only)))
  k_with "call ref" => ((k_here; (with_reducible rename ReadOk _ _ _ _ _ _ _ _ _ _ _ => hRO9Z); k_dflt (refine' MutCt.u2E (hRO9Z.2 _ _ _ _ _ ?q1Z9 ?q2Z9 ?q3Z9 ?q4Z9 ?q5Z9) ?k1Z9 ?k2Z9 ?k3Z9 ?k4Z9 ?k5Z9 ?k6Z9 ?k7Z9 ?k8Z9 ?_; (case k1Z9 => k_asm); (case k2Z9 => k_asm); (case k3Z9 => k_asm); (case k4Z9 => k_asm); (case k5Z9 => k_asm); (case k6Z9 => first | rfl | assumption); (case k7Z9 => ktr_room); (case k8Z9 => ktr_units); (case q1Z9 => k_mem); (case q2Z9 => k_mem); (case q3Z9 => k_mem); (case q4Z9 => k_mem); (case q5Z9 => k_all)); intro _ _ _ _ _ _; (try dsimp only); (try k_sweep)))
  k_with "call ref" => ((k_here; k_dflt (refine' MutCt.u8E (rc_st _ _ ?hllZ9 _ _ _ _ _ _ _ _ _ _ _ _ _ _ _ _ _ _ ?hdrZ9 ?hSZ9 ?q1Z9 ?q2Z9 ?q3Z9) ?k1Z9 ?k2Z9 ?k3Z9 ?k4Z9 ?k5Z9 ?k6Z9 ?k7Z9 ?k8Z9 ?_; (case k1Z9 => k_asm); (case k2Z9 => k_asm); (case k3Z9 => k_asm); (case k4Z9 => k_asm); (case hdrZ9 => assumption); (case hllZ9 => assumption); (case hSZ9 => first | assumption | exact LexAt.mono (by assumption) (fun _ hp => .tail _ (.tail _ hp))); (case q1Z9 => k_all); (case q2Z9 => k_all); (case q3Z9 => assumption); (case k5Z9 => k_asm); (case k6Z9 => first | rfl | assumption); (case k7Z9 => ktr_room); (case k8Z9 => ktr_units)); intro _ _ _ _ _ _ _ _ _ _ _ _; (try dsimp only); (try k_sweep)))
  k_with "callWith ref" => ((k_here; (with_reducible show wpAny _ _ (callWith _ _ _ (backTo _ (starEach [] _)) []) _ _ _); k_dflt (refine' callWith_K0 ?k1Z9 ?k2Z9 ?_; (case k1Z9 => k_in); (case k2Z9 => k_is); k_whole); (try dsimp only [List.nil_append, List.cons_append])))
  trivial
theorem add_st {prog : Program} {w : World} {A : Around} {E : Value → Shared → Prop} {s : Shared} {a b : List Nat} {t u : Tok} {Q : Value → Shared → Prop} (hsz : a.length + b.length ≤ 100000) (h : ∀ t' tk, Q (.str (st (a ++ b)) t') { s with toks := tk }) : wpAny (model prog w) A (binaryOp .Add (.str (st a) t) (.str (st b) u)) Q E s :=
  PyProof.Rows.add_str (fun t' tk => by
    have e : st a ++ st b = st (a ++ b) := congrArg Str.mk (List.append_toArray a b)
    rw [e]; exact h t' tk) (by rw [st_len, st_len, sizeLine_eq]; omega)
theorem iadd_st {prog : Program} {w : World} {A : Around} {E : Value → Shared → Prop} {s : Shared} {a b : List Nat} {t u : Tok} {Q : Value → Shared → Prop} (hsz : a.length + b.length ≤ 100000) (h : ∀ t' tk, Q (.str (st (a ++ b)) t') { s with toks := tk }) : wpAny (model prog w) A (inplaceOp .Add (.str (st a) t) (.str (st b) u)) Q E s :=
  PyProof.Rows.iadd_str (fun t' tk => by
    have e : st a ++ st b = st (a ++ b) := congrArg Str.mk (List.append_toArray a b)
    rw [e]; exact h t' tk) (by rw [st_len, st_len, sizeLine_eq]; omega)
theorem lines_N5_2 : True := by
  k_with "binaryOp Add str str" => ((k_here; k_dflt (refine' add_st ?szZ9 ?_; (case szZ9 => ((try simp only [List.length_cons, List.length_nil, List.length_append]); omega))); intro _ _))
  k_with "inplaceOp Add str str" => ((k_here; k_dflt (refine' iadd_st ?szZ9 ?_; (case szZ9 => ((try simp only [List.length_cons, List.length_nil, List.length_append]); omega))); intro _ _))
  trivial
noncomputable def LtAll (l : List (Addr × Obj)) (d : Addr) : Prop := ∀ p ∈ l, p.1 < d
theorem grab {h₀ h : Heap} {L : Addr} {m : Str → Option Value} (F : Fr h₀ L h m) : ∃ m₀, m₀ = m ∧ Fr h₀ L h m₀ := ⟨_, rfl, F⟩
theorem drop3 {α : Type} {a b c : α} {rest : List α} : ∀ p ∈ a :: b :: rest, p ∈ a :: b :: c :: rest := by
  repeat' first | exact sub_nil | exact sub_refl | (refine' sub_cons ?h9 ?_; (case h9 => repeat' first | exact List.Mem.head _ | apply List.Mem.tail)) | refine sub_tail ?_
theorem n_ct : Str.ofString "ch" ≠ Str.ofString "token" := by decide
noncomputable abbrev tfr (it x9 : Addr) (tok : List Nat) (tt : Tok) (v : Option Value) : Str → Option Value := fun y => if y = Str.ofString "ch" then v else if y = Str.ofString "token" then some (.str (st tok) tt) else if y = Str.ofString "fiter" then some (.ref it) else if y = Str.ofString "self" then some (.ref x9) else none
theorem fr_ch (it x9 : Addr) (tok : List Nat) (tt : Tok) (v : Option Value) (x : Value) : (fun y => if y = Str.ofString "ch" then some x else tfr it x9 tok tt v y) = tfr it x9 tok tt (some x) := by
  funext y
  by_cases e : y = Str.ofString "ch"
  · simp only [tfr, if_pos e]
  · simp only [tfr, if_neg e]
theorem fr_tok (it x9 : Addr) (tok tok' : List Nat) (tt tt' : Tok) (v : Option Value) : (fun y => if y = Str.ofString "token" then some (.str (st tok') tt') else tfr it x9 tok tt v y) = tfr it x9 tok' tt' v := by
  funext y
  by_cases e : y = Str.ofString "ch"
  · have : ¬ y = Str.ofString "token" := fun e2 => n_ct (e.symm.trans e2)
    simp only [tfr, if_pos e, if_neg this]
  · by_cases e2 : y = Str.ofString "token"
    · simp only [tfr, if_neg e, if_pos e2]
    · simp only [tfr, if_neg e, if_neg e2]
theorem fr_both {h₀ h : Heap} {L it x9 : Addr} {tok tok' : List Nat} {tt tt' : Tok} {v : Option Value} {x : Value} (F : Fr h₀ L h (fun y => if y = Str.ofString "token" then some (.str (st tok') tt') else if y = Str.ofString "ch" then some x else tfr it x9 tok tt v y)) : Fr h₀ L h (tfr it x9 tok' tt' (some x)) := by
  have e : (fun y => if y = Str.ofString "token" then some (Value.str (st tok') tt') else if y = Str.ofString "ch" then some x else tfr it x9 tok tt v y) = tfr it x9 tok' tt' (some x) := by
    rw [← fr_tok it x9 tok tok' tt tt' (some x), ← fr_ch it x9 tok tt v x]
  rw [← e]
  exact F
theorem fr_0 (it x9 : Addr) (tt : Tok) : (fun y => if y = Str.ofString "fiter" then some (Value.ref it) else if y = Str.ofString "token" then some (.str (st []) tt) else List.lookup y [(Str.ofString "self", Value.ref x9)]) = tfr it x9 [] tt none := by
  funext y
  by_cases e : y = Str.ofString "ch"
  · subst e; rfl
  · by_cases e2 : y = Str.ofString "token"
    · subst e2; rfl
    · by_cases e3 : y = Str.ofString "fiter"
      · subst e3; rfl
      · by_cases e4 : y = Str.ofString "self"
        · subst e4; rfl
        · simp only [tfr, if_neg e, if_neg e2, if_neg e3, if_neg e4, List.lookup, beq_false_of_ne e4]
theorem fr_0' {h₀ h : Heap} {L it x9 : Addr} {tt : Tok} (F : Fr h₀ L h (fun y => if y = Str.ofString "fiter" then some (Value.ref it) else if y = Str.ofString "token" then some (.str (st []) tt) else List.lookup y [(Str.ofString "self", Value.ref x9)])) : ∃ tt, Fr h₀ L h (tfr it x9 [] tt none) := ⟨tt, fr_0 it x9 tt ▸ F⟩
theorem fr_ch' {h₀ h : Heap} {L it x9 : Addr} {tok : List Nat} {tt : Tok} {v : Option Value} {x : Value} (F : Fr h₀ L h (fun y => if y = Str.ofString "ch" then some x else tfr it x9 tok tt v y)) : Fr h₀ L h (tfr it x9 tok tt (some x)) := fr_ch it x9 tok tt v x ▸ F
theorem fr_tok' {h₀ h : Heap} {L it x9 : Addr} {tok tok' : List Nat} {tt tt' : Tok} {v : Option Value} (F : Fr h₀ L h (fun y => if y = Str.ofString "token" then some (.str (st tok') tt') else tfr it x9 tok tt v y)) : Fr h₀ L h (tfr it x9 tok' tt' v) := fr_tok it x9 tok tok' tt tt' v ▸ F
theorem fr_three {h₀ h : Heap} {L it x9 : Addr} {tok tok' : List Nat} {tt tt' : Tok} {v : Option Value} {x x' : Value} (F : Fr h₀ L h (fun y => if y = Str.ofString "token" then some (.str (st tok') tt') else if y = Str.ofString "ch" then some x else if y = Str.ofString "ch" then some x' else tfr it x9 tok tt v y)) : Fr h₀ L h (tfr it x9 tok' tt' (some x)) := by
  have e : (fun y => if y = Str.ofString "token" then some (Value.str (st tok') tt') else if y = Str.ofString "ch" then some x else if y = Str.ofString "ch" then some x' else tfr it x9 tok tt v y) = tfr it x9 tok' tt' (some x) := by
    rw [← fr_tok it x9 tok tok' tt tt' (some x), ← fr_ch it x9 tok tt v x]
    funext y
    by_cases e : y = Str.ofString "ch"
    · simp only [if_pos e]
    · simp only [if_neg e]
  rw [← e]
  exact F
theorem nlN_ne {c : Nat} {ln : Int} (h : c ≠ 10) : nlN c ln = ln := if_neg h
theorem drop4 {α : Type} {a b c d : α} {rest : List α} : ∀ p ∈ a :: b :: rest, p ∈ a :: b :: c :: d :: rest := by
  repeat' first | exact sub_nil | exact sub_refl | (refine' sub_cons ?h9 ?_; (case h9 => repeat' first | exact List.Mem.head _ | apply List.Mem.tail)) | refine sub_tail ?_
theorem reord {h₀ h : Heap} {L : Addr} {a b c d : Addr × Obj} {rest : List (Addr × Obj)} (N : News h₀ L h (a :: b :: c :: d :: rest)) : News h₀ L h (c :: d :: a :: b :: rest) := news_sub N (by
  repeat' first | exact sub_nil | exact sub_refl | (refine' sub_cons ?h9 ?_; (case h9 => repeat' first | exact List.Mem.head _ | apply List.Mem.tail)) | refine sub_tail ?_
)
theorem it_facts {al dx it q : Addr} {oa od oq : Obj} {rest : List (Addr × Obj)} (l8 : al < q ∧ dx < q ∧ AllLt q rest) (l9 : ∀ p ∈ (q, oq) :: (al, oa) :: (dx, od) :: rest, p.1 < it) : it ≠ al ∧ it ≠ dx ∧ q ≠ al ∧ q ≠ dx ∧ q ≠ it ∧ ∀ y ∈ rest, y.1 ≠ it :=
  ⟨Nat.ne_of_gt (l9 _ (.tail _ (.head _))), Nat.ne_of_gt (l9 _ (.tail _ (.tail _ (.head _)))), Nat.ne_of_gt l8.1, Nat.ne_of_gt l8.2.1, Nat.ne_of_lt (l9 _ (.head _)), fun y hy => Nat.ne_of_lt (l9 _ (.tail _ (.tail _ (.tail _ hy))))⟩
noncomputable def plain (tok : List Nat) : Prop := ∀ c ∈ tok, c ≠ 34 ∧ c ≠ 92 ∧ c ≠ 10
noncomputable def escs : List Nat → List Nat
  | [] => []
  | c :: r => 92 :: c :: escs r
theorem escs_le (l : List Nat) : l.length ≤ (escs l).length := by
  induction l with
  | nil => exact Nat.le_refl _
  | cons c r ih => simp only [escs, List.length_cons]; omega
/-- a token stands at the head of what is left -/
noncomputable def TokAt (r0 tok : List Nat) (used : Nat) (nls : Int) : Prop :=
  (r0 = [] ∧ tok = [] ∧ used = 0 ∧ nls = 0) ∨ (∃ r, r0 = 34 :: (tok ++ 34 :: r) ∧ plain tok ∧ used = tok.length + 2 ∧ nls = 0) ∨ (∃ c tok' r, tok = c :: tok' ∧ r0 = 92 :: c :: (escs tok' ++ 10 :: r) ∧ plain tok ∧ used = 2 * tok'.length + 3 ∧ nls = 1)
theorem with_P {P : Nat → Shared → Prop} {k : Nat} {s : Shared} (h : ∀ P', P' = P → P' k s) : P k s := h P rfl
theorem iter_K {prog : Program} {w : World} {A : Around} {E : Value → Shared → Prop} {s : Shared} {h₀ : Heap} {L q : Addr} {m : Str → Option Value} {news : List (Addr × Obj)} {f self : Value} {ts : Tok} {Q : Value → Shared → Prop} (F : Fr h₀ L s.heap m) (N : News h₀ L s.heap news) (hm : (q, methodObj f self) ∈ news)
    (h : ∀ it h', Fr h₀ L h' m → News h₀ L h' ((it, ciObj (.ref q) (.str ⟨#[]⟩ ts)) :: news) → LtAll news it → Q (.ref it) { s with heap := h' }) : wpAny (model prog w) A (call (.builtin "iter") [.ref q, .str ⟨#[]⟩ ts]) Q E s :=
  iter_make (N _ hm).1 (h _ _ (F.push _) (News.push F N _ rfl) (fun p hp => Heap.lt_size (N p hp).1))
theorem lines_N5_3 : True := by
  k_with "call builtin:iter" => ((k_here; k_dflt (refine' iter_K ?FZ9 ?NZ9 ?mZ9 ?_; (case FZ9 => k_asm); (case NZ9 => k_asm); (case mZ9 => k_mem); k_whole); intro _ _ _ _ _; skip))
  trivial
theorem tru0b {prog : Program} {w : World} {A : Around} {E : Value → Shared → Prop} {s : Shared} {h₀ : Heap} {L D : Addr} {news : List (Addr × Obj)} {n : Nat} {Q : Bool → Shared → Prop} (N : News h₀ L s.heap news) (hm : (D, PySem.W.listOf ([] : List Value).toArray n) ∈ news)
    (h : Q false { s with toks := s.toks + 1 + 1 }) : wpAny (model prog w) A (truthy (.ref D)) Q E s :=
  wpAny_truthy_list (items := #[]) ⟨_, (N _ hm).1, rfl, _, rfl⟩ (by decide) h
theorem lines_N5_4 : True := by
  k_with "truthy ref" => ((k_here; (with_reducible show wpAny _ _ (truthy (Value.ref _)) _ _ _); k_dflt (refine' tru0b ?NZ9 ?mZ9 ?_; (case NZ9 => k_asm); (case mZ9 => k_mem); k_whole)))
  trivial
theorem get_t (w : World) (l : List Nat) (hl : l.length ≤ 1000) (x9 dx fL pb al : Addr) (p : Nat) (ln : Int) (tp t1 t2 t3 t4 t5 t6 : Tok) (n na : Nat) (rest : List (Addr × Obj)) (h1 : (x9, instObj 100 dx) ∈ rest) (h2 : (pb, PySem.W.listOf ([] : List Value).toArray n) ∈ rest) (hS : LexAt w (st l) rest x9 dx fL al) (h3 : ∀ q ∈ rest, q.1 ≠ al) (h4 : ∀ q ∈ rest, q.1 ≠ dx) (h5 : al ≠ dx)
    (pre r0 tok : List Nat) (used p1 : Nat) (nls ln1 : Int) (hpre : pre = [] ∨ pre = [10]) (hdr : l.drop p = pre ++ r0) (htok : TokAt r0 tok used nls) (hp1 : p1 = p + pre.length + used) (hln1 : ln1 = ln + pre.length + nls) :
    MutCt w 640 740 (.ref 90) [.ref x9] [] ((al, PySem.W.listOf [Value.int p tp].toArray na) :: (dx, dictOf [⟨PyData.keyHash w.params (Str.ofString "lineno"), .str (Str.ofString "lineno") t1, .int ln t2⟩, ⟨PyData.keyHash w.params (Str.ofString "instream"), .str (Str.ofString "instream") t3, .ref fL⟩, ⟨PyData.keyHash w.params (Str.ofString "whitespace"), .str (Str.ofString "whitespace") t4, .str (Str.ofString "\n\t\x0d ") t5⟩, ⟨PyData.keyHash w.params (Str.ofString "pushback"), .str (Str.ofString "pushback") t6, .ref pb⟩] 4) :: rest) (Cps fun K => ∀ t' t'' s1 s2 s3 s4 s5 s6, K (.str (st tok) t') ((al, PySem.W.listOf [Value.int p1 t''].toArray na) :: (dx, dictOf [⟨PyData.keyHash w.params (Str.ofString "lineno"), .str (Str.ofString "lineno") s1, .int ln1 s2⟩, ⟨PyData.keyHash w.params (Str.ofString "instream"), .str (Str.ofString "instream") s3, .ref fL⟩, ⟨PyData.keyHash w.params (Str.ofString "whitespace"), .str (Str.ofString "whitespace") s4, .str (Str.ofString "\n\t\x0d ") s5⟩, ⟨PyData.keyHash w.params (Str.ofString "pushback"), .str (Str.ofString "pushback") s6, .ref pb⟩] 4) :: rest)) := by
  unfold MutCt
  k_fill
  intro loose mean mg mb dp un gd cn cs a ccd cl outer A₀ base h₀ L m s Q E B F X N T hk hd hu hret
  refine wpAny_call ?_
  k_dflt (refine' code_def ?k1 ?k2 ?k3 ?k4 ?k5 ?kA ?kF ?kK ?k6 ?k7 ?k8 ?k9 ?kB ?_ ?c2 ?c3 ?c4 ?c5; (case kA => exact rfl); (case kF => exact rfl); (case kK => assumption); (case k1 => k_asm); (case k2 => k_asm); (case k3 => k_asm); (case k4 => k_asm); (case k5 => k_asm); (case k6 => k_is); (case k7 => k_is); (case k8 => ktr_room); (case k9 => first | exact BindsTo.of_eq rfl | exact binds_K (by k_in) rfl (by k_is) rfl rfl rfl); (case c5 => decide); (case kB => exact locs rfl); (case c2 => exact rfl); (case c3 => exact rfl); (case c4 => exact rfl); k_whole; intro g' L' h' FG' F' N' B' X' T'; (try dsimp only); (try k_fold))
  refine wpAny_mono (E := nE) ?_ (fun _ _ z => z) (fun _ _ z => z.elim)
  k_steps
  rename Fr _ _ _ _ => F8
  rename News _ _ _ _ => N8
  rename (_ ∧ _ ∧ AllLt _ _) => l8
  rename LtAll _ _ => l9
  obtain ⟨f1, f2, f3, f4, f5, f6⟩ := it_facts l8 l9
  have N9 := reord N8
  rename_i q hx1 it hx2 hx3
  obtain ⟨tt, F9⟩ := fr_0' F8
  refine iter_self (N9 _ (.tail _ (.tail _ (.head _)))).1 rfl ⟨3, ?_⟩
  refine with_P (P := FRest _ _ _ _ _ _ _ _) (fun P hP => ?_)
  clear N8 l8 l9 F8
  have main : ∀ (k : Nat) (p : Nat) (ln : Int) (used : Nat) (nls : Int) (r0 : List Nat) (v : Option Value) (h : Heap) (tk : Nat) (tp t1 t2 t3 t4 t5 t6 ts tt : Tok), l.drop p = r0 → TokAt r0 tok used nls → p1 = p + used → ln1 = ln + nls → Fr g' L' h (tfr it x9 [] tt v) → News g' L' h ((al, PySem.W.listOf [Value.int p tp].toArray na) :: (dx, dictOf [⟨PyData.keyHash w.params (Str.ofString "lineno"), .str (Str.ofString "lineno") t1, .int ln t2⟩, ⟨PyData.keyHash w.params (Str.ofString "instream"), .str (Str.ofString "instream") t3, .ref fL⟩, ⟨PyData.keyHash w.params (Str.ofString "whitespace"), .str (Str.ofString "whitespace") t4, .str (Str.ofString "\n\t\x0d ") t5⟩, ⟨PyData.keyHash w.params (Str.ofString "pushback"), .str (Str.ofString "pushback") t6, .ref pb⟩] 4) :: (it, ciObj (.ref q) (.str ⟨#[]⟩ ts)) :: (q, methodObj (.ref 83) (.ref x9)) :: rest) → P (k + 1) { s with heap := h, toks := tk } := by
    clear F9 N9 hdr htok hp1 hln1
    intro k p ln used nls r0 v h tk tp t1 t2 t3 t4 t5 t6 ts tt hdr htok hp1 hln1 F7 N7
    rcases htok with ⟨rfl, rfl, rfl, rfl⟩ | ⟨r, rfl, hpl, rfl, rfl⟩ | ⟨c, tok', r, rfl, rfl, hpl, rfl, rfl⟩
    · rw [hP]
      k_dflt (refine' ci_turn hl ?k1 ?k2 ?k3 ?k4 ?k5 ?k6 ?k7 ?k8 hS h3 h4 h5 f1 f2 f3 f4 f5 f6 ?go ?stop; (case k1 => k_asm); (case k2 => exact F7); (case k3 => k_asm); (case k4 => exact N7); (case k5 => k_asm); (case k6 => first | rfl | assumption); (case k7 => ktr_room); (case k8 => ktr_units))

      case go =>
        intro c r t h' tk' t'' s1 s2 s3 s4 s5 s6 hd'
        rw [hdr] at hd'; cases hd'
      case stop =>
        intro h' tk' t'' s1 s2 s3 s4 s5 s6 hd' F6 N6
        clear F7 N7
        dsimp only
        k_steps
        clear F6 N6
        rename Fr _ _ _ _ => F5
        rename News _ _ _ _ => N5
        obtain rfl : p1 = p := by omega
        obtain rfl : ln1 = ln := by omega
        exact hret _ _ _ _ (fun K k => k _ _ _ _ _ _ _ _) F5 (news_sub N5 drop3)
    · rw [hP]
      k_dflt (refine' ci_turn hl ?k1 ?k2 ?k3 ?k4 ?k5 ?k6 ?k7 ?k8 hS h3 h4 h5 f1 f2 f3 f4 f5 f6 ?go ?stop; (case k1 => k_asm); (case k2 => exact F7); (case k3 => k_asm); (case k4 => exact N7); (case k5 => k_asm); (case k6 => first | rfl | assumption); (case k7 => ktr_room); (case k8 => ktr_units))

      case stop =>
        intro h' tk' t'' s1 s2 s3 s4 s5 s6 hd'
        rw [hdr] at hd'; cases hd'
      case go =>
        intro c r' t h' tk' t'' s1 s2 s3 s4 s5 s6 hd'
        have hnx := drop_next hdr
        rw [hdr] at hd'
        obtain ⟨rfl, rfl⟩ := List.cons.inj hd'
        intro F6 N6
        clear F7 N7
        k_steps
        all_goals (try (rename (_ = false) => ha9; exact absurd ha9 (by decide +kernel)))
        all_goals (try (rename (_ = true) => ha9; exact absurd ha9 (by decide +kernel)))
        rename Fr _ _ _ _ => F5
        rename News _ _ _ _ => N5
        (try clear F6)
        (try clear N6)
        have F4 := fr_ch' F5
        clear F5
        rw [nlN_ne (by decide)] at N5
        refine iter_self (N5 _ (.tail _ (.tail _ (.head _)))).1 rfl ⟨tok.length + 1, ?_⟩
        refine with_P (P := FRest _ _ _ _ _ _ _ _) (fun P2 hP2 => ?_)
        have htl : tok.length ≤ 1000 := by
          have := congrArg List.length hnx
          rw [List.length_append, List.length_drop] at this
          omega
        have inner : ∀ (todo done : List Nat) (p : Nat) (v : Option Value) (h : Heap) (tk : Nat) (tp t1 t2 t3 t4 t5 t6 ts tt : Tok), l.drop p = todo ++ 34 :: r → done ++ todo = tok → plain todo → p1 = p + todo.length + 1 → Fr g' L' h (tfr it x9 done tt v) → News g' L' h ((al, PySem.W.listOf [Value.int p tp].toArray na) :: (dx, dictOf [⟨PyData.keyHash w.params (Str.ofString "lineno"), .str (Str.ofString "lineno") t1, .int ln t2⟩, ⟨PyData.keyHash w.params (Str.ofString "instream"), .str (Str.ofString "instream") t3, .ref fL⟩, ⟨PyData.keyHash w.params (Str.ofString "whitespace"), .str (Str.ofString "whitespace") t4, .str (Str.ofString "\n\t\x0d ") t5⟩, ⟨PyData.keyHash w.params (Str.ofString "pushback"), .str (Str.ofString "pushback") t6, .ref pb⟩] 4) :: (it, ciObj (.ref q) (.str ⟨#[]⟩ ts)) :: (q, methodObj (.ref 83) (.ref x9)) :: rest) → P2 (todo.length + 1) { s with heap := h, toks := tk } := by
          clear F4 N5 hdr hnx hd' hpl hp1
          intro todo
          induction todo with
          | nil =>
            intro done p v h tk tp t1 t2 t3 t4 t5 t6 ts tt hdr hdn hpl hp1 F7 N7
            rw [hP2]
            k_dflt (refine' ci_turn hl ?k1 ?k2 ?k3 ?k4 ?k5 ?k6 ?k7 ?k8 hS h3 h4 h5 f1 f2 f3 f4 f5 f6 ?go ?stop; (case k1 => k_asm); (case k2 => exact F7); (case k3 => k_asm); (case k4 => exact N7); (case k5 => k_asm); (case k6 => first | rfl | assumption); (case k7 => ktr_room); (case k8 => ktr_units))

            case stop =>
              intro h' tk' t'' s1 s2 s3 s4 s5 s6 hd'
              rw [hdr] at hd'; cases hd'
            case go =>
            intro c r' t h' tk' t'' s1 s2 s3 s4 s5 s6 hd'
            rw [hdr] at hd'
            obtain ⟨rfl, rfl⟩ := List.cons.inj hd'
            intro F6 N6
            clear F7 N7
            k_steps
            (all_goals (try (rename (_ = false) => ha9; exact absurd ha9 (by decide +kernel))))
            (all_goals (try (rename (_ = true) => ha9; exact absurd ha9 (by decide +kernel))))
            rename Fr _ _ _ _ => F5
            rename News _ _ _ _ => N5
            rw [nlN_ne (by decide)] at N5
            obtain rfl : p1 = p + 1 := by simpa using hp1
            obtain rfl : ln1 = ln := by omega
            rw [List.append_nil] at hdn
            subst hdn
            exact hret _ _ _ _ (fun K k => k _ _ _ _ _ _ _ _) F5 (news_sub N5 drop4)
          | cons c todo ih =>
            intro done p v h tk tp t1 t2 t3 t4 t5 t6 ts tt hdr hdn hpl hp1 F7 N7
            rw [hP2]
            k_dflt (refine' ci_turn hl ?k1 ?k2 ?k3 ?k4 ?k5 ?k6 ?k7 ?k8 hS h3 h4 h5 f1 f2 f3 f4 f5 f6 ?go ?stop; (case k1 => k_asm); (case k2 => exact F7); (case k3 => k_asm); (case k4 => exact N7); (case k5 => k_asm); (case k6 => first | rfl | assumption); (case k7 => ktr_room); (case k8 => ktr_units))

            case stop =>
              intro h' tk' t'' s1 s2 s3 s4 s5 s6 hd'
              rw [hdr] at hd'; cases hd'
            case go =>
            intro c' r' t h' tk' t'' s1 s2 s3 s4 s5 s6 hd'
            have hnx := drop_next hdr
            rw [hdr] at hd'
            obtain ⟨rfl, rfl⟩ := List.cons.inj hd'
            intro F6 N6
            obtain ⟨hc1, hc2, hc3⟩ := hpl _ (.head _)
            have e1 : ¬ ((st [c] == st [34]) = true) := by rw [st1_eq, decide_eq_false hc1]; decide
            have e2 : ¬ ((st [c] == st [92]) = true) := by rw [st1_eq, decide_eq_false hc2]; decide
            have hdl : done.length ≤ 1000 := by have := congrArg List.length hdn; rw [List.length_append] at this; omega
            clear F7 N7
            k_steps
            all_goals (try (rename (_ = true) => ha9; exact absurd ha9 e1))
            all_goals (try (rename (_ = true) => ha9; exact absurd ha9 e2))
            rename Fr _ _ _ _ => F5
            rename News _ _ _ _ => N5
            have F4 := fr_both F5
            rw [nlN_ne hc3] at N5
            exact (congrFun (congrFun hP2 _) _).mp (ih (done ++ [c]) (p + 1) _ _ _ _ _ _ _ _ _ _ _ _ hnx (by simpa using hdn) (fun x hx => hpl x (.tail _ hx)) (by simp only [List.length_cons] at hp1; omega) F4 N5)
        exact inner tok [] (p + 1) _ _ _ _ _ _ _ _ _ _ _ _ hnx rfl hpl (by omega) F4 N5
    · rw [hP]
      k_dflt (refine' ci_turn hl ?k1 ?k2 ?k3 ?k4 ?k5 ?k6 ?k7 ?k8 hS h3 h4 h5 f1 f2 f3 f4 f5 f6 ?go ?stop; (case k1 => k_asm); (case k2 => exact F7); (case k3 => k_asm); (case k4 => exact N7); (case k5 => k_asm); (case k6 => first | rfl | assumption); (case k7 => ktr_room); (case k8 => ktr_units))

      case stop =>
        intro h' tk' t'' s1 s2 s3 s4 s5 s6 hd'
        rw [hdr] at hd'; cases hd'
      case go =>
        intro c1 r' t h' tk' t'' s1 s2 s3 s4 s5 s6 hd'
        have hnx := drop_next hdr
        have hnx2 := drop_next hnx
        rw [hdr] at hd'
        obtain ⟨rfl, rfl⟩ := List.cons.inj hd'
        intro F6 N6
        obtain ⟨hc1, hc2, hc3⟩ := hpl _ (.head _)
        clear F7 N7
        k_steps
        (all_goals (try (rename (_ = false) => ha9; exact absurd ha9 (by decide +kernel))))
        (all_goals (try (rename (_ = true) => ha9; exact absurd ha9 (by decide +kernel))))
        rename Fr _ _ _ _ => F5
        rename News _ _ _ _ => N5
        have F4 := fr_three F5
        clear F5
        rw [nlN_ne hc3, nlN_ne (by decide)] at N5
        refine iter_self (N5 _ (.tail _ (.tail _ (.head _)))).1 rfl ⟨tok'.length + 1, ?_⟩
        refine with_P (P := FRest _ _ _ _ _ _ _ _) (fun P2 hP2 => ?_)
        have htl : (c :: tok').length ≤ 1000 := by
          have := congrArg List.length hnx2
          rw [List.length_append, List.length_drop] at this
          have e9 : tok'.length ≤ (escs tok').length := escs_le tok'
          rw [List.length_cons] at this ⊢
          omega
        have inner : ∀ (todo done : List Nat) (p : Nat) (v : Option Value) (h : Heap) (tk : Nat) (tp t1 t2 t3 t4 t5 t6 ts tt : Tok), l.drop p = escs todo ++ 10 :: r → done ++ todo = c :: tok' → plain todo → p1 = p + 2 * todo.length + 1 → Fr g' L' h (tfr it x9 done tt v) → News g' L' h ((al, PySem.W.listOf [Value.int p tp].toArray na) :: (dx, dictOf [⟨PyData.keyHash w.params (Str.ofString "lineno"), .str (Str.ofString "lineno") t1, .int ln t2⟩, ⟨PyData.keyHash w.params (Str.ofString "instream"), .str (Str.ofString "instream") t3, .ref fL⟩, ⟨PyData.keyHash w.params (Str.ofString "whitespace"), .str (Str.ofString "whitespace") t4, .str (Str.ofString "\n\t\x0d ") t5⟩, ⟨PyData.keyHash w.params (Str.ofString "pushback"), .str (Str.ofString "pushback") t6, .ref pb⟩] 4) :: (it, ciObj (.ref q) (.str ⟨#[]⟩ ts)) :: (q, methodObj (.ref 83) (.ref x9)) :: rest) → P2 (todo.length + 1) { s with heap := h, toks := tk } := by
          clear F4 N5 hdr hnx hnx2 hd' hpl hp1
          intro todo
          induction todo with
          | nil =>
            intro done p v h tk tp t1 t2 t3 t4 t5 t6 ts tt hdr hdn hpl hp1 F7 N7
            rw [hP2]
            k_dflt (refine' ci_turn hl ?k1 ?k2 ?k3 ?k4 ?k5 ?k6 ?k7 ?k8 hS h3 h4 h5 f1 f2 f3 f4 f5 f6 ?go ?stop; (case k1 => k_asm); (case k2 => exact F7); (case k3 => k_asm); (case k4 => exact N7); (case k5 => k_asm); (case k6 => first | rfl | assumption); (case k7 => ktr_room); (case k8 => ktr_units))

            case stop =>
              intro h' tk' t'' s1 s2 s3 s4 s5 s6 hd'
              rw [hdr] at hd'; cases hd'
            case go =>
            intro c0 r' t h' tk' t'' s1 s2 s3 s4 s5 s6 hd'
            rw [hdr] at hd'
            obtain ⟨rfl, rfl⟩ := List.cons.inj hd'
            intro F6 N6
            clear F7 N7
            k_steps
            (all_goals (try (rename (_ = false) => ha9; exact absurd ha9 (by decide +kernel))))
            (all_goals (try (rename (_ = true) => ha9; exact absurd ha9 (by decide +kernel))))
            rename Fr _ _ _ _ => F5
            rename News _ _ _ _ => N5
            rw [show nlN 10 ln = ln + 1 from rfl] at N5
            obtain rfl : p1 = p + 1 := by simpa using hp1
            obtain rfl : ln1 = ln + 1 := by omega
            rw [List.append_nil] at hdn
            subst hdn
            exact hret _ _ _ _ (fun K k => k _ _ _ _ _ _ _ _) F5 (news_sub N5 drop4)
          | cons c0 todo ih =>
            intro done p v h tk tp t1 t2 t3 t4 t5 t6 ts tt hdr hdn hpl hp1 F7 N7
            rw [hP2]
            k_dflt (refine' ci_turn hl ?k1 ?k2 ?k3 ?k4 ?k5 ?k6 ?k7 ?k8 hS h3 h4 h5 f1 f2 f3 f4 f5 f6 ?go ?stop; (case k1 => k_asm); (case k2 => exact F7); (case k3 => k_asm); (case k4 => exact N7); (case k5 => k_asm); (case k6 => first | rfl | assumption); (case k7 => ktr_room); (case k8 => ktr_units))

            case stop =>
              intro h' tk' t'' s1 s2 s3 s4 s5 s6 hd'
              rw [hdr] at hd'; cases hd'
            case go =>
            intro c' r' t h' tk' t'' s1 s2 s3 s4 s5 s6 hd'
            have hnx := drop_next hdr
            have hnx2 := drop_next hnx
            rw [hdr] at hd'
            obtain ⟨rfl, rfl⟩ := List.cons.inj hd'
            intro F6 N6
            obtain ⟨hc1, hc2, hc3⟩ := hpl _ (.head _)
            have hdl : done.length ≤ 1000 := by have := congrArg List.length hdn; rw [List.length_append] at this; omega
            clear F7 N7
            k_steps
            (all_goals (try (rename (_ = false) => ha9; exact absurd ha9 (by decide +kernel))))
            (all_goals (try (rename (_ = true) => ha9; exact absurd ha9 (by decide +kernel))))
            rename Fr _ _ _ _ => F5
            rename News _ _ _ _ => N5
            have F4 := fr_three F5
            rw [nlN_ne hc3, nlN_ne (by decide)] at N5
            exact (congrFun (congrFun hP2 _) _).mp (ih (done ++ [c0]) (p + 1 + 1) _ _ _ _ _ _ _ _ _ _ _ _ hnx2 (by simpa using hdn) (fun x hx => hpl x (.tail _ hx)) (by simp only [List.length_cons] at hp1; omega) F4 N5)
        exact inner tok' [c] (p + 1 + 1) _ _ _ _ _ _ _ _ _ _ _ _ hnx2 rfl (fun x hx => hpl x (.tail _ hx)) (by omega) F4 N5
  rcases hpre with rfl | rfl
  · exact main 2 p ln used nls r0 _ _ _ _ _ _ _ _ _ _ _ _ hdr htok (by simpa using hp1) (by simpa using hln1) F9 N9
  · rw [hP]
    k_dflt (refine' ci_turn hl ?k1 ?k2 ?k3 ?k4 ?k5 ?k6 ?k7 ?k8 hS h3 h4 h5 f1 f2 f3 f4 f5 f6 ?go ?stop; (case k1 => k_asm); (case k2 => exact F9); (case k3 => k_asm); (case k4 => exact N9); (case k5 => k_asm); (case k6 => first | rfl | assumption); (case k7 => ktr_room); (case k8 => ktr_units))
    case stop =>
      intro h' tk' t'' s1 s2 s3 s4 s5 s6 hd'
      rw [hdr] at hd'; cases hd'
    case go =>
      intro c1 r' t h' tk' t'' s1 s2 s3 s4 s5 s6 hd'
      have hnx := drop_next hdr
      rw [hdr] at hd'
      obtain ⟨rfl, rfl⟩ := List.cons.inj hd'
      intro F6 N6
      clear F9 N9
      k_steps
      (all_goals (try (rename (_ = false) => ha9; exact absurd ha9 (by decide +kernel))))
      (all_goals (try (rename (_ = true) => ha9; exact absurd ha9 (by decide +kernel))))
      rename Fr _ _ _ _ => F5
      rename News _ _ _ _ => N5
      have F4 := fr_ch' F5
      rw [show nlN 10 ln = ln + 1 from rfl] at N5
      simp only [List.length_cons, List.length_nil] at hp1 hln1
      exact (congrFun (congrFun hP _) _).mp (main 1 (p + 1) (ln + 1) used nls r0 _ _ _ _ _ _ _ _ _ _ _ _ hnx htok (by omega) (by omega) F4 N5)
end Mine
end partN5
section partPlain
open PySem PySem.W PyProof.Rows PySem.Calls
set_option Elab.async false
set_option maxRecDepth 100000
set_option maxHeartbeats 1000000
namespace Mine
theorem reset_Plain : True := by
  w_top off
  k_with_none
  trivial
inductive Fm where
  | lit (c : Nat)
  | con (f g : Fm)
  | dis (f g : Fm)
noncomputable def Fm.enc : Fm → List Nat
  | .lit c => [c]
  | .con f g => 38 :: (f.enc ++ g.enc)
  | .dis f g => 124 :: (f.enc ++ g.enc)
noncomputable def Fm.mask : Fm → Nat
  | .lit c => maskN c
  | .con f g => f.mask &&& g.mask
  | .dis f g => f.mask ||| g.mask
noncomputable def Fm.sz : Fm → Nat
  | .lit _ => 1
  | .con f g => f.sz + g.sz + 1
  | .dis f g => f.sz + g.sz + 1
noncomputable def Fm.In (S : List Nat) : Fm → Prop
  | .lit c => c ∈ S
  | .con f g => f.In S ∧ g.In S
  | .dis f g => f.In S ∧ g.In S
theorem Fm.enc_len (f : Fm) : f.enc.length = f.sz := by
  induction f with
  | lit c => rfl
  | con f g hf hg => simp [Fm.enc, Fm.sz, hf, hg]
  | dis f g hf hg => simp [Fm.enc, Fm.sz, hf, hg]
theorem Fm.sz_pos (f : Fm) : 0 < f.sz := by cases f <;> simp [Fm.sz]
theorem Fm.In.mono {S S' : List Nat} (h : ∀ c ∈ S, c ∈ S') {f : Fm} (hf : f.In S) : f.In S' := by
  induction f with
  | lit c => exact h _ hf
  | con f g ihf ihg => exact ⟨ihf hf.1, ihg hf.2⟩
  | dis f g ihf ihg => exact ⟨ihf hf.1, ihg hf.2⟩
noncomputable def szs (ws : List (Nat × Fm)) : Nat := (ws.map (·.2.sz)).sum
theorem szs_append (a b : List (Nat × Fm)) : szs (a ++ b) = szs a + szs b := by simp [szs]
inductive Res where
  | opn (m : Nat)
  | cls (m : Nat) (ls : List Nat)
noncomputable def sett (tab : List (Nat × Nat)) : Nat := (tab.map (·.2)).foldl (fun a c => a &&& maskN c) 65535
noncomputable def clash (p q : Nat × Nat) : Res :=
  if p.1 = 60 ∧ q.1 = 60 then .cls 0 [] else if p.1 = 62 ∧ q.1 = 62 then .cls 65535 [] else .cls (maskN (if p.1 = 60 then p.2 else q.2)) [if p.1 = 60 then p.2 else q.2]
noncomputable def br (ws : List (Nat × Fm)) (tab : List (Nat × Nat)) : Res :=
  match ws with
  | [] => .opn (sett tab)
  | (s, .lit c) :: ws => match tab.find? (fun p => lowN p.2 == lowN c) with
    | none => br ws (tab ++ [(s, c)])
    | some p => if p.2 = c then br ws tab else clash p (s, c)
  | (s, .con f g) :: ws => br (ws ++ [(s, f), (s, g)]) tab
  | (s, .dis f g) :: ws => match br (ws ++ [(s, f)]) tab with
    | .opn m => .opn m
    | .cls m1 l1 => match br (ws ++ [(s, g)]) tab with
      | .opn m => .opn m
      | .cls m2 l2 => .cls (if s = 60 then m1 ||| m2 else m1 &&& m2) (l1 ++ l2)
termination_by szs ws
decreasing_by all_goals (simp [szs, Fm.sz]; try omega)
theorem br_nil (tab : List (Nat × Nat)) : br [] tab = .opn (sett tab) := by rw [br]
theorem br_new {s c : Nat} {ws : List (Nat × Fm)} {tab : List (Nat × Nat)} (h : tab.find? (fun p => lowN p.2 == lowN c) = none) : br ((s, .lit c) :: ws) tab = br ws (tab ++ [(s, c)]) := by rw [br, h]
theorem br_old {s c : Nat} {ws : List (Nat × Fm)} {tab : List (Nat × Nat)} {p : Nat × Nat} (h : tab.find? (fun p => lowN p.2 == lowN c) = some p) (hp : p.2 = c) : br ((s, .lit c) :: ws) tab = br ws tab := by rw [br, h]; exact if_pos hp
theorem br_clash {s c : Nat} {ws : List (Nat × Fm)} {tab : List (Nat × Nat)} {p : Nat × Nat} (h : tab.find? (fun p => lowN p.2 == lowN c) = some p) (hp : p.2 ≠ c) : br ((s, .lit c) :: ws) tab = clash p (s, c) := by rw [br, h]; exact if_neg hp
theorem br_con {s : Nat} {f g : Fm} {ws : List (Nat × Fm)} {tab : List (Nat × Nat)} : br ((s, .con f g) :: ws) tab = br (ws ++ [(s, f), (s, g)]) tab := by rw [br]
theorem br_dis {s : Nat} {f g : Fm} {ws : List (Nat × Fm)} {tab : List (Nat × Nat)} : br ((s, .dis f g) :: ws) tab = (match br (ws ++ [(s, f)]) tab with
    | .opn m => .opn m
    | .cls m1 l1 => match br (ws ++ [(s, g)]) tab with
      | .opn m => .opn m
      | .cls m2 l2 => .cls (if s = 60 then m1 ||| m2 else m1 &&& m2) (l1 ++ l2)) := by rw [br]
/-- all of a side's words and entries hold at a setting -/
noncomputable def AllAt (sd : Nat) (ws : List (Nat × Fm)) (tab : List (Nat × Nat)) (i : Nat) : Prop := (∀ w ∈ ws, w.1 = sd → w.2.mask.testBit i = true) ∧ ∀ p ∈ tab, p.1 = sd → (maskN p.2).testBit i = true
noncomputable def Fm.has (x : Nat) : Fm → Prop
  | .lit c => c = x
  | .con f g => f.has x ∨ g.has x
  | .dis f g => f.has x ∨ g.has x
noncomputable def Occ (sd : Nat) (ws : List (Nat × Fm)) (tab : List (Nat × Nat)) (x : Nat) : Prop := (∃ w ∈ ws, w.1 = sd ∧ w.2.has x) ∨ (sd, x) ∈ tab
noncomputable def opp (c : Nat) : Nat := if c < 97 then c + 32 else c - 32
noncomputable def WsOk (ws : List (Nat × Fm)) : Prop := ∀ w ∈ ws, (w.1 = 60 ∨ w.1 = 62) ∧ w.2.In letters
theorem mask_opp : ∀ c ∈ letters, ∀ i, i < 16 → (maskN (opp c)).testBit i = !(maskN c).testBit i := by
  refine letters_cases ?_ ?_ ?_ ?_ ?_ ?_ ?_ ?_ <;> decide
theorem opp_of : ∀ c ∈ letters, ∀ d ∈ letters, lowN c = lowN d → c ≠ d → c = opp d := by decide
theorem opp_mem : ∀ c ∈ letters, opp c ∈ letters := by decide
theorem opp_opp : ∀ c ∈ letters, opp (opp c) = c := by decide
noncomputable def Reads (P : Nat → Prop) (ls : List Nat) : Prop := P 0 ∧ P 65535 ∧ (∀ a b, P a → P b → P (a ||| b)) ∧ (∀ a b, P a → P b → P (a &&& b)) ∧ ∀ x ∈ ls, P (maskN x)
structure ClsOk (m : Nat) (ls : List Nat) (ws : List (Nat × Fm)) (tab : List (Nat × Nat)) : Prop where
  one : ∀ i, i < 16 → AllAt 60 ws tab i → m.testBit i = true
  two : ∀ i, i < 16 → AllAt 62 ws tab i → m.testBit i = false
  occ : ∀ x ∈ ls, x ∈ letters ∧ Occ 60 ws tab x ∧ Occ 62 ws tab (opp x)
  dep : ∀ P, Reads P ls → P m
theorem WsOk.snoc {ws : List (Nat × Fm)} {s : Nat} {f : Fm} (h : WsOk ws) (hs : s = 60 ∨ s = 62) (hf : f.In letters) : WsOk (ws ++ [(s, f)]) := by
  intro w hw
  rcases List.mem_append.mp hw with hw | hw
  · exact h w hw
  · rw [List.mem_singleton] at hw; subst hw; exact ⟨hs, hf⟩
theorem TabOk.snoc {tab : List (Nat × Nat)} {s c : Nat} (h : TabOk tab) (hs : s = 60 ∨ s = 62) (hc : c ∈ letters) : TabOk (tab ++ [(s, c)]) := by
  intro w hw
  rcases List.mem_append.mp hw with hw | hw
  · exact h w hw
  · rw [List.mem_singleton] at hw; subst hw; exact ⟨hs, hc⟩
theorem ClsOk.pass {m : Nat} {ls : List Nat} {ws ws' : List (Nat × Fm)} {tab tab' : List (Nat × Nat)} (h : ClsOk m ls ws' tab') (ha : ∀ sd i, AllAt sd ws tab i → AllAt sd ws' tab' i) (ho : ∀ sd x, Occ sd ws' tab' x → Occ sd ws tab x) : ClsOk m ls ws tab :=
  ⟨fun i hi hA => h.one i hi (ha _ _ hA), fun i hi hA => h.two i hi (ha _ _ hA), fun x hx => ⟨(h.occ x hx).1, ho _ _ (h.occ x hx).2.1, ho _ _ (h.occ x hx).2.2⟩, h.dep⟩
theorem ones : ∀ i, i < 16 → Nat.testBit 65535 i = true := by decide
theorem clash_ok {p : Nat × Nat} {s c : Nat} {ws : List (Nat × Fm)} {tab : List (Nat × Nat)} (hp : p ∈ tab) (hpo : (p.1 = 60 ∨ p.1 = 62) ∧ p.2 ∈ letters) (hs : s = 60 ∨ s = 62) (hc : c ∈ letters) (hl : lowN p.2 = lowN c) (hne : p.2 ≠ c) :
    ∃ m ls, clash p (s, c) = .cls m ls ∧ ClsOk m ls ((s, .lit c) :: ws) tab := by
  obtain ⟨p1, p2⟩ := p
  dsimp only at *
  have e1 := opp_of _ hpo.2 _ hc hl hne
  have e2 := opp_of _ hc _ hpo.2 hl.symm (Ne.symm hne)
  rcases hpo.1 with rfl | rfl <;> rcases hs with rfl | rfl
  · refine ⟨0, [], rfl, fun i hi hA => ?_, fun i hi _ => (by simp), fun x hx => (by cases hx), fun P h => h.1⟩
    have a1 := hA.1 _ (.head _) rfl
    have a2 := hA.2 _ hp rfl
    dsimp only [Fm.mask] at a1 a2
    rw [e1, mask_opp c hc i hi, a1] at a2
    cases a2
  · refine ⟨maskN p2, [p2], rfl, fun i hi hA => hA.2 _ hp rfl, fun i hi hA => ?_, fun x hx => ?_, fun P h => h.2.2.2.2 _ (.head _)⟩
    · have a1 := hA.1 _ (.head _) rfl
      dsimp only [Fm.mask] at a1
      rw [e1, mask_opp c hc i hi, a1]; rfl
    · rw [List.mem_singleton] at hx; subst hx
      exact ⟨hpo.2, .inr hp, .inl ⟨_, .head _, rfl, e2⟩⟩
  · refine ⟨maskN c, [c], rfl, fun i hi hA => hA.1 _ (.head _) rfl, fun i hi hA => ?_, fun x hx => ?_, fun P h => h.2.2.2.2 _ (.head _)⟩
    · have a2 := hA.2 _ hp rfl
      dsimp only at a2
      rw [e2, mask_opp _ hpo.2 i hi, a2]; rfl
    · rw [List.mem_singleton] at hx; subst hx
      refine ⟨hc, .inl ⟨_, .head _, rfl, rfl⟩, .inr ?_⟩
      rw [← e1]; exact hp
  · refine ⟨65535, [], rfl, fun i hi _ => ones i hi, fun i hi hA => ?_, fun x hx => (by cases hx), fun P h => h.2.1⟩
    have a1 := hA.1 _ (.head _) rfl
    have a2 := hA.2 _ hp rfl
    dsimp only [Fm.mask] at a1 a2
    rw [e1, mask_opp c hc i hi, a1] at a2
    cases a2
theorem cls_ok (n : Nat) : ∀ (ws : List (Nat × Fm)) (tab : List (Nat × Nat)) (m : Nat) (ls : List Nat), szs ws ≤ n → WsOk ws → TabOk tab → br ws tab = .cls m ls → ClsOk m ls ws tab := by
  induction n with
  | zero =>
    intro ws tab m ls hn hw ht hb
    cases ws with
    | nil => rw [br_nil] at hb; cases hb
    | cons x ws => have := x.2.sz_pos; simp [szs] at hn; omega
  | succ n ih =>
    intro ws tab m ls hn hw ht hb
    match ws, hw, hn, hb with
    | [], hw, hn, hb => rw [br_nil] at hb; cases hb
    | (s, .lit c) :: ws, hw, hn, hb =>
      have hws : WsOk ws := fun w h => hw w (.tail _ h)
      obtain ⟨hs, hc⟩ := hw _ (.head _)
      have hn' : szs ws ≤ n := by simp [szs, Fm.sz] at hn ⊢; omega
      cases hf : tab.find? (fun p => lowN p.2 == lowN c) with
      | none =>
        rw [br_new hf] at hb
        refine (ih _ _ _ _ hn' hws (ht.snoc hs hc) hb).pass ?_ ?_
        · rintro sd i ⟨h1, h2⟩
          refine ⟨fun w hw => h1 w (.tail _ hw), fun p hp => ?_⟩
          rcases List.mem_append.mp hp with hp | hp
          · exact h2 p hp
          · rw [List.mem_singleton] at hp; subst hp; exact h1 _ (.head _)
        · rintro sd x (⟨w, hw, h⟩ | h)
          · exact .inl ⟨w, .tail _ hw, h⟩
          · rcases List.mem_append.mp h with h | h
            · exact .inr h
            · rw [List.mem_singleton] at h; cases h; exact .inl ⟨_, .head _, rfl, rfl⟩
      | some p =>
        have hp := List.mem_of_find?_eq_some hf
        have hq := List.find?_some hf
        by_cases he : p.2 = c
        · rw [br_old hf he] at hb
          refine (ih _ _ _ _ hn' hws ht hb).pass (fun sd i hA => ⟨fun w hw => hA.1 w (.tail _ hw), hA.2⟩) ?_
          rintro sd x (⟨w, hw, h⟩ | h)
          · exact .inl ⟨w, .tail _ hw, h⟩
          · exact .inr h
        · rw [br_clash hf he] at hb
          obtain ⟨m', ls', e, ok⟩ := clash_ok (ws := ws) hp (ht _ hp) hs hc (by simpa using hq) he
          rw [e] at hb; cases hb
          exact ok
    | (s, .con f g) :: ws, hw, hn, hb =>
      have hws : WsOk ws := fun w h => hw w (.tail _ h)
      obtain ⟨hs, hc⟩ := hw _ (.head _)
      rw [br_con] at hb
      have hw2 : WsOk (ws ++ [(s, f), (s, g)]) := by
        have := (hws.snoc hs hc.1).snoc hs hc.2
        rwa [List.append_assoc] at this
      refine (ih _ _ _ _ (by rw [szs_append]; simp [szs, Fm.sz] at hn ⊢; omega) hw2 ht hb).pass ?_ ?_
      · rintro sd i ⟨h1, h2⟩
        refine ⟨fun w hw => ?_, h2⟩
        rcases List.mem_append.mp hw with hw | hw
        · exact h1 w (.tail _ hw)
        · intro e
          simp only [List.mem_cons, List.not_mem_nil, or_false] at hw
          have := h1 (s, .con f g) (.head _) (by rcases hw with rfl | rfl <;> exact e)
          simp only [Fm.mask, Nat.testBit_and, Bool.and_eq_true] at this
          rcases hw with rfl | rfl
          · exact this.1
          · exact this.2
      · rintro sd x (⟨w, hw, h, hx⟩ | h)
        · rcases List.mem_append.mp hw with hw | hw
          · exact .inl ⟨w, .tail _ hw, h, hx⟩
          · simp only [List.mem_cons, List.not_mem_nil, or_false] at hw
            rcases hw with rfl | rfl
            · exact .inl ⟨_, .head _, h, .inl hx⟩
            · exact .inl ⟨_, .head _, h, .inr hx⟩
        · exact .inr h
    | (s, .dis f g) :: ws, hw, hn, hb =>
      have hws : WsOk ws := fun w h => hw w (.tail _ h)
      obtain ⟨hs, hc⟩ := hw _ (.head _)
      rw [br_dis] at hb
      have k1 : szs (ws ++ [(s, f)]) ≤ n := by rw [szs_append]; simp [szs, Fm.sz] at hn ⊢; omega
      have k2 : szs (ws ++ [(s, g)]) ≤ n := by rw [szs_append]; simp [szs, Fm.sz] at hn ⊢; omega
      cases e1 : br (ws ++ [(s, f)]) tab with
      | opn m => rw [e1] at hb; cases hb
      | cls m1 l1 =>
        cases e2 : br (ws ++ [(s, g)]) tab with
        | opn m => rw [e1, e2] at hb; cases hb
        | cls m2 l2 =>
          rw [e1, e2] at hb
          have o1 := ih _ _ _ _ k1 (hws.snoc hs hc.1) ht e1
          have o2 := ih _ _ _ _ k2 (hws.snoc hs hc.2) ht e2
          have same : ∀ (h : Fm) sd i, sd ≠ s → AllAt sd ((s, .dis f g) :: ws) tab i → AllAt sd (ws ++ [(s, h)]) tab i := by
            rintro h sd i hne ⟨h1, h2⟩
            refine ⟨fun w hw => ?_, h2⟩
            rcases List.mem_append.mp hw with hw | hw
            · exact h1 w (.tail _ hw)
            · rw [List.mem_singleton] at hw; subst hw; exact fun e => absurd e.symm hne
          have split : ∀ i, AllAt s ((s, .dis f g) :: ws) tab i → AllAt s (ws ++ [(s, f)]) tab i ∨ AllAt s (ws ++ [(s, g)]) tab i := by
            rintro i ⟨h1, h2⟩
            have := h1 _ (.head _) rfl
            simp only [Fm.mask, Nat.testBit_or, Bool.or_eq_true] at this
            rcases this with t | t
            · refine .inl ⟨fun w hw => ?_, h2⟩
              rcases List.mem_append.mp hw with hw | hw
              · exact h1 w (.tail _ hw)
              · rw [List.mem_singleton] at hw; subst hw; exact fun _ => t
            · refine .inr ⟨fun w hw => ?_, h2⟩
              rcases List.mem_append.mp hw with hw | hw
              · exact h1 w (.tail _ hw)
              · rw [List.mem_singleton] at hw; subst hw; exact fun _ => t
          have oc1 : ∀ sd x, Occ sd (ws ++ [(s, f)]) tab x → Occ sd ((s, .dis f g) :: ws) tab x := by
            rintro sd x (⟨w, hw, h, hx⟩ | h)
            · rcases List.mem_append.mp hw with hw | hw
              · exact .inl ⟨w, .tail _ hw, h, hx⟩
              · rw [List.mem_singleton] at hw; subst hw; exact .inl ⟨_, .head _, h, .inl hx⟩
            · exact .inr h
          have oc2 : ∀ sd x, Occ sd (ws ++ [(s, g)]) tab x → Occ sd ((s, .dis f g) :: ws) tab x := by
            rintro sd x (⟨w, hw, h, hx⟩ | h)
            · rcases List.mem_append.mp hw with hw | hw
              · exact .inl ⟨w, .tail _ hw, h, hx⟩
              · rw [List.mem_singleton] at hw; subst hw; exact .inl ⟨_, .head _, h, .inr hx⟩
            · exact .inr h
          have occ : ∀ x ∈ l1 ++ l2, x ∈ letters ∧ Occ 60 ((s, .dis f g) :: ws) tab x ∧ Occ 62 ((s, .dis f g) :: ws) tab (opp x) := by
            intro x hx
            rcases List.mem_append.mp hx with hx | hx
            · obtain ⟨a, b, c⟩ := o1.occ x hx; exact ⟨a, oc1 _ _ b, oc1 _ _ c⟩
            · obtain ⟨a, b, c⟩ := o2.occ x hx; exact ⟨a, oc2 _ _ b, oc2 _ _ c⟩
          rcases hs with rfl | rfl
          · cases hb
            refine ⟨fun i hi hA => ?_, fun i hi hA => ?_, occ, fun P h => ?_⟩
            · rw [if_pos rfl, Nat.testBit_or]
              rcases split i hA with h | h
              · rw [o1.one i hi h]; rfl
              · rw [o2.one i hi h, Bool.or_true]
            · rw [if_pos rfl, Nat.testBit_or, o1.two i hi (same f _ _ (by decide) hA), o2.two i hi (same g _ _ (by decide) hA)]; rfl
            · rw [if_pos rfl]
              exact h.2.2.1 _ _ (o1.dep P ⟨h.1, h.2.1, h.2.2.1, h.2.2.2.1, fun x hx => h.2.2.2.2 x (List.mem_append_left _ hx)⟩) (o2.dep P ⟨h.1, h.2.1, h.2.2.1, h.2.2.2.1, fun x hx => h.2.2.2.2 x (List.mem_append_right _ hx)⟩)
          · cases hb
            refine ⟨fun i hi hA => ?_, fun i hi hA => ?_, occ, fun P h => ?_⟩
            · rw [if_neg (by decide), Nat.testBit_and, o1.one i hi (same f _ _ (by decide) hA), o2.one i hi (same g _ _ (by decide) hA)]; rfl
            · rw [if_neg (by decide), Nat.testBit_and]
              rcases split i hA with h | h
              · rw [o1.two i hi h]; rfl
              · rw [o2.two i hi h, Bool.and_false]
            · rw [if_neg (by decide)]
              exact h.2.2.2.1 _ _ (o1.dep P ⟨h.1, h.2.1, h.2.2.1, h.2.2.2.1, fun x hx => h.2.2.2.2 x (List.mem_append_left _ hx)⟩) (o2.dep P ⟨h.1, h.2.1, h.2.2.1, h.2.2.2.1, fun x hx => h.2.2.2.2 x (List.mem_append_right _ hx)⟩)
noncomputable def Apart (tab : List (Nat × Nat)) : Prop := ∀ p ∈ tab, ∀ q ∈ tab, lowN p.2 = lowN q.2 → p.2 = q.2
theorem Apart.snoc {tab : List (Nat × Nat)} {s c : Nat} (h : Apart tab) (hn : tab.find? (fun p => lowN p.2 == lowN c) = none) : Apart (tab ++ [(s, c)]) := by
  have hn' : ∀ p ∈ tab, lowN p.2 ≠ lowN c := fun p hp e => by
    have := List.find?_eq_none.mp hn p hp
    simp [e] at this
  intro p hp q hq e
  rcases List.mem_append.mp hp with hp | hp <;> rcases List.mem_append.mp hq with hq | hq
  · exact h p hp q hq e
  · rw [List.mem_singleton] at hq; subst hq; exact absurd e (hn' p hp)
  · rw [List.mem_singleton] at hp; subst hp; exact absurd e.symm (hn' q hq)
  · rw [List.mem_singleton] at hp hq; subst hp hq; rfl
structure OpnOk (m : Nat) (ws : List (Nat × Fm)) (tab : List (Nat × Nat)) : Prop where
  ok : ∃ tab', m = sett tab' ∧ TabOk tab' ∧ Apart tab' ∧ (∀ p ∈ tab, p ∈ tab') ∧ ∀ i, (∀ p ∈ tab', (maskN p.2).testBit i = true) → ∀ w ∈ ws, w.2.mask.testBit i = true
theorem opn_ok (n : Nat) : ∀ (ws : List (Nat × Fm)) (tab : List (Nat × Nat)) (m : Nat), szs ws ≤ n → WsOk ws → TabOk tab → Apart tab → br ws tab = .opn m → OpnOk m ws tab := by
  induction n with
  | zero =>
    intro ws tab m hn hw ht ha hb
    cases ws with
    | nil => rw [br_nil] at hb; cases hb; exact ⟨tab, rfl, ht, ha, fun _ h => h, fun _ _ w hw => by cases hw⟩
    | cons x ws => have := x.2.sz_pos; simp [szs] at hn; omega
  | succ n ih =>
    intro ws tab m hn hw ht ha hb
    match ws, hw, hn, hb with
    | [], hw, hn, hb => rw [br_nil] at hb; cases hb; exact ⟨tab, rfl, ht, ha, fun _ h => h, fun _ _ w hw => by cases hw⟩
    | (s, .lit c) :: ws, hw, hn, hb =>
      have hws : WsOk ws := fun w h => hw w (.tail _ h)
      obtain ⟨hs, hc⟩ := hw _ (.head _)
      have hn' : szs ws ≤ n := by simp [szs, Fm.sz] at hn ⊢; omega
      cases hf : tab.find? (fun p => lowN p.2 == lowN c) with
      | none =>
        rw [br_new hf] at hb
        obtain ⟨tab', e, t1, t2, t3, t4⟩ := ih _ _ _ hn' hws (ht.snoc hs hc) (ha.snoc hf) hb
        refine ⟨tab', e, t1, t2, fun p hp => t3 p (List.mem_append_left _ hp), fun i hi w hw => ?_⟩
        rcases List.mem_cons.mp hw with rfl | hw
        · exact hi (s, c) (t3 _ (List.mem_append_right _ (.head _)))
        · exact t4 i hi w hw
      | some p =>
        have hp := List.mem_of_find?_eq_some hf
        by_cases he : p.2 = c
        · rw [br_old hf he] at hb
          obtain ⟨tab', e, t1, t2, t3, t4⟩ := ih _ _ _ hn' hws ht ha hb
          refine ⟨tab', e, t1, t2, t3, fun i hi w hw => ?_⟩
          rcases List.mem_cons.mp hw with rfl | hw
          · have := hi p (t3 _ hp)
            rw [he] at this; exact this
          · exact t4 i hi w hw
        · rw [br_clash hf he] at hb
          unfold clash at hb
          split at hb
          · cases hb
          · split at hb <;> cases hb
    | (s, .con f g) :: ws, hw, hn, hb =>
      have hws : WsOk ws := fun w h => hw w (.tail _ h)
      obtain ⟨hs, hc⟩ := hw _ (.head _)
      rw [br_con] at hb
      have hw2 : WsOk (ws ++ [(s, f), (s, g)]) := by
        have := (hws.snoc hs hc.1).snoc hs hc.2
        rwa [List.append_assoc] at this
      obtain ⟨tab', e, t1, t2, t3, t4⟩ := ih _ _ _ (by rw [szs_append]; simp [szs, Fm.sz] at hn ⊢; omega) hw2 ht ha hb
      refine ⟨tab', e, t1, t2, t3, fun i hi w hw => ?_⟩
      rcases List.mem_cons.mp hw with rfl | hw
      · simp only [Fm.mask, Nat.testBit_and, Bool.and_eq_true]
        exact ⟨t4 i hi (s, f) (List.mem_append_right _ (.head _)), t4 i hi (s, g) (List.mem_append_right _ (.tail _ (.head _)))⟩
      · exact t4 i hi w (List.mem_append_left _ hw)
    | (s, .dis f g) :: ws, hw, hn, hb =>
      have hws : WsOk ws := fun w h => hw w (.tail _ h)
      obtain ⟨hs, hc⟩ := hw _ (.head _)
      rw [br_dis] at hb
      have k1 : szs (ws ++ [(s, f)]) ≤ n := by rw [szs_append]; simp [szs, Fm.sz] at hn ⊢; omega
      have k2 : szs (ws ++ [(s, g)]) ≤ n := by rw [szs_append]; simp [szs, Fm.sz] at hn ⊢; omega
      cases e1 : br (ws ++ [(s, f)]) tab with
      | opn m' =>
        rw [e1] at hb; cases hb
        obtain ⟨tab', e, t1, t2, t3, t4⟩ := ih _ _ _ k1 (hws.snoc hs hc.1) ht ha e1
        refine ⟨tab', e, t1, t2, t3, fun i hi w hw => ?_⟩
        rcases List.mem_cons.mp hw with rfl | hw
        · simp only [Fm.mask, Nat.testBit_or, Bool.or_eq_true]
          exact .inl (t4 i hi (s, f) (List.mem_append_right _ (.head _)))
        · exact t4 i hi w (List.mem_append_left _ hw)
      | cls m1 l1 =>
        cases e2 : br (ws ++ [(s, g)]) tab with
        | cls m2 l2 => rw [e1, e2] at hb; cases hb
        | opn m' =>
          rw [e1, e2] at hb; cases hb
          obtain ⟨tab', e, t1, t2, t3, t4⟩ := ih _ _ _ k2 (hws.snoc hs hc.2) ht ha e2
          refine ⟨tab', e, t1, t2, t3, fun i hi w hw => ?_⟩
          rcases List.mem_cons.mp hw with rfl | hw
          · simp only [Fm.mask, Nat.testBit_or, Bool.or_eq_true]
            exact .inr (t4 i hi (s, g) (List.mem_append_right _ (.head _)))
          · exact t4 i hi w (List.mem_append_left _ hw)
end Mine
end partPlain
section partPlain2
open PySem PySem.W PyProof.Rows PySem.Calls
set_option Elab.async false
set_option maxRecDepth 100000
set_option maxHeartbeats 1000000
namespace Mine
theorem reset_Plain2 : True := by
  w_top off
  k_with_none
  trivial
noncomputable abbrev lettersA : List Nat := [97, 65, 98, 66, 99, 67]
noncomputable abbrev lettersB : List Nat := [98, 66, 99, 67, 100, 68]
theorem has_in {S : List Nat} {x : Nat} {f : Fm} (h : f.In S) (hx : f.has x) : x ∈ S := by
  induction f with
  | lit c => cases hx; exact h
  | con f g ihf ihg => rcases hx with hx | hx; exact ihf h.1 hx; exact ihg h.2 hx
  | dis f g ihf ihg => rcases hx with hx | hx; exact ihf h.1 hx; exact ihg h.2 hx
theorem has_enc {x : Nat} {f : Fm} (hx : f.has x) : x ∈ f.enc := by
  induction f with
  | lit c => cases hx; exact .head _
  | con f g ihf ihg => rcases hx with hx | hx; exact .tail _ (List.mem_append_left _ (ihf hx)); exact .tail _ (List.mem_append_right _ (ihg hx))
  | dis f g ihf ihg => rcases hx with hx | hx; exact .tail _ (List.mem_append_left _ (ihf hx)); exact .tail _ (List.mem_append_right _ (ihg hx))
theorem maskN_lt : ∀ c ∈ letters, maskN c < 2 ^ 16 := by decide
theorem mask_lt {f : Fm} (h : f.In letters) : f.mask < 2 ^ 16 := by
  induction f with
  | lit c => exact maskN_lt c h
  | con f g ihf ihg => exact Nat.and_lt_two_pow _ (ihg h.2)
  | dis f g ihf ihg => exact Nat.or_lt_two_pow (ihf h.1) (ihg h.2)
theorem bit_hi {m i : Nat} (h : m < 2 ^ 16) (hi : 16 ≤ i) : m.testBit i = false := Nat.testBit_lt_two_pow (Nat.lt_of_lt_of_le h (Nat.pow_le_pow_right (by decide) hi))
theorem foldl_bit (i : Nat) : ∀ (cs : List Nat) (z : Nat), (cs.foldl (fun a c => a &&& maskN c) z).testBit i = (z.testBit i && cs.all fun c => (maskN c).testBit i)
  | [], z => by simp
  | c :: cs, z => by rw [List.foldl_cons, foldl_bit i cs, Nat.testBit_and, List.all_cons, Bool.and_assoc]
theorem sett_bit (tab : List (Nat × Nat)) (i : Nat) : (sett tab).testBit i = true ↔ Nat.testBit 65535 i = true ∧ ∀ p ∈ tab, (maskN p.2).testBit i = true := by
  unfold sett
  rw [foldl_bit, Bool.and_eq_true, List.all_eq_true]
  constructor
  · rintro ⟨a, b⟩; exact ⟨a, fun p hp => b _ (List.mem_map_of_mem hp)⟩
  · rintro ⟨a, b⟩; refine ⟨a, fun c hc => ?_⟩
    obtain ⟨p, hp, rfl⟩ := List.mem_map.mp hc
    exact b p hp
theorem pick_bit (ba bb bc bd : Bool) : ∀ c ∈ letters, (c = 97 → ba = true) → (c = 65 → ba = false) → (c = 98 → bb = true) → (c = 66 → bb = false) → (c = 99 → bc = true) → (c = 67 → bc = false) → (c = 100 → bd = true) → (c = 68 → bd = false) →
    (maskN c).testBit (ba.toNat + 2 * bb.toNat + 4 * bc.toNat + 8 * bd.toNat) = true := by
  revert ba bb bc bd
  decide
theorem pick_lt (ba bb bc bd : Bool) : Nat.testBit 65535 (ba.toNat + 2 * bb.toNat + 4 * bc.toNat + 8 * bd.toNat) = true := by
  revert ba bb bc bd; decide
theorem sett_ne {tab : List (Nat × Nat)} (ht : TabOk tab) (ha : Apart tab) : sett tab ≠ 0 := by
  let q : Nat → Bool := fun c => (tab.map (·.2)).contains c
  have hq : ∀ p ∈ tab, q p.2 = true := fun p hp => by
    show (tab.map (·.2)).contains p.2 = true
    rw [List.contains_iff_mem]; exact List.mem_map_of_mem hp
  have hno : ∀ p ∈ tab, ∀ d, lowN p.2 = lowN d → p.2 ≠ d → q d = false := fun p hp d hl hne => by
    cases e : q d with
    | false => rfl
    | true =>
      have : d ∈ tab.map (·.2) := List.contains_iff_mem.mp e
      obtain ⟨p', hp', rfl⟩ := List.mem_map.mp this
      exact absurd (ha p hp p' hp' hl) hne
  intro h0
  have key : (sett tab).testBit ((q 97).toNat + 2 * (q 98).toNat + 4 * (q 99).toNat + 8 * (q 100).toNat) = true := by
    refine (sett_bit tab _).mpr ⟨pick_lt _ _ _ _, fun p hp => ?_⟩
    have h1 := hq p hp
    refine pick_bit _ _ _ _ p.2 (ht p hp).2 (fun e => e ▸ h1) (fun e => hno p hp 97 (by rw [e]; decide) (by rw [e]; decide)) (fun e => e ▸ h1) (fun e => hno p hp 98 (by rw [e]; decide) (by rw [e]; decide)) (fun e => e ▸ h1) (fun e => hno p hp 99 (by rw [e]; decide) (by rw [e]; decide)) (fun e => e ▸ h1) (fun e => hno p hp 100 (by rw [e]; decide) (by rw [e]; decide))
  rw [h0, Nat.zero_testBit] at key
  cases key
theorem sett_lt (tab : List (Nat × Nat)) : ∀ i, (sett tab).testBit i = true → i < 16 := by
  intro i h
  have := ((sett_bit tab i).mp h).1
  by_cases hi : i < 16
  · exact hi
  · rw [bit_hi (by decide) (by omega)] at this; cases this
theorem start_ok {f g : Fm} (hf : f.In lettersA) (hg : g.In lettersB) : WsOk [(60, f), (62, g)] := by
  intro w hw
  simp only [List.mem_cons, List.not_mem_nil, or_false] at hw
  rcases hw with rfl | rfl
  · exact ⟨.inl rfl, hf.mono (by decide)⟩
  · exact ⟨.inr rfl, hg.mono (by decide)⟩
theorem all60 {f g : Fm} {i : Nat} (h : f.mask.testBit i = true) : AllAt 60 [(60, f), (62, g)] [] i := by
  refine ⟨fun w hw e => ?_, fun p hp => by cases hp⟩
  simp only [List.mem_cons, List.not_mem_nil, or_false] at hw
  rcases hw with rfl | rfl
  · exact h
  · exact absurd (show (62 : Nat) = 60 from e) (by decide)
theorem all62 {f g : Fm} {i : Nat} (h : g.mask.testBit i = true) : AllAt 62 [(60, f), (62, g)] [] i := by
  refine ⟨fun w hw e => ?_, fun p hp => by cases hp⟩
  simp only [List.mem_cons, List.not_mem_nil, or_false] at hw
  rcases hw with rfl | rfl
  · exact absurd (show (60 : Nat) = 62 from e) (by decide)
  · exact h
theorem both_opn {f g : Fm} (hf : f.In lettersA) (hg : g.In lettersB) (hb : f.mask &&& g.mask ≠ 0) : ∃ m, br [(60, f), (62, g)] [] = .opn m ∧ m ≠ 0 ∧ m &&& (f.mask &&& g.mask) = m := by
  have hw := start_ok hf hg
  cases e : br [(60, f), (62, g)] [] with
  | cls m ls =>
    have ok := cls_ok _ _ _ _ _ (Nat.le_refl _) hw (fun p hp => by cases hp) e
    refine absurd (Nat.eq_of_testBit_eq fun i => ?_) hb
    rw [Nat.zero_testBit, Nat.testBit_and]
    by_cases hi : i < 16
    · cases h1 : f.mask.testBit i with
      | false => rfl
      | true =>
        cases h2 : g.mask.testBit i with
        | false => rfl
        | true =>
          have a := ok.one i hi (all60 h1)
          have b := ok.two i hi (all62 h2)
          rw [a] at b; cases b
    · rw [bit_hi (mask_lt (hw _ (.head _)).2) (by omega)]; rfl
  | opn m =>
    obtain ⟨tab', rfl, t1, t2, t3, t4⟩ := opn_ok _ _ _ _ (Nat.le_refl _) hw (fun p hp => by cases hp) (fun p hp => by cases hp) e
    refine ⟨_, rfl, sett_ne t1 t2, Nat.eq_of_testBit_eq fun i => ?_⟩
    rw [Nat.testBit_and]
    cases h : (sett tab').testBit i with
    | false => rfl
    | true =>
      have hall := ((sett_bit tab' i).mp h).2
      rw [Nat.testBit_and, t4 i hall _ (.head _), t4 i hall _ (.tail _ (.head _))]; rfl
noncomputable def PA (m : Nat) : Prop := ∀ i, i < 15 → i % 2 = 0 → m.testBit (i + 1) = m.testBit i
noncomputable def PD (m : Nat) : Prop := ∀ i, i < 8 → m.testBit (i + 8) = m.testBit i
theorem pa_mask : ∀ c ∈ lettersB, PA (maskN c) := by unfold PA; decide
theorem pd_mask : ∀ c ∈ lettersA, PD (maskN c) := by unfold PD; decide
theorem bits_a : ∀ i, i < 16 → Nat.testBit 43690 (i + 1) = Nat.testBit 21845 i := by decide
theorem bits_e : ∀ i, i < 16 → Nat.testBit 21845 i = true → i < 15 ∧ i % 2 = 0 := by decide
theorem bits_l : ∀ i, i < 16 → Nat.testBit 255 i = decide (i < 8) := by decide
theorem both_cls {f g : Fm} (hf : f.In lettersA) (hg : g.In lettersB) (hb : f.mask &&& g.mask = 0) : ∃ m ls, br [(60, f), (62, g)] [] = .cls m ls ∧ m &&& f.mask = f.mask ∧ m &&& g.mask = 0 ∧ (m &&& 43690) / 2 = m &&& 21845 ∧ m / 256 = m &&& 255 ∧ ∀ x ∈ ls, x ∈ letters ∧ x ∈ f.enc ∧ opp x ∈ g.enc := by
  have hw := start_ok hf hg
  cases e : br [(60, f), (62, g)] [] with
  | opn m =>
    obtain ⟨tab', rfl, t1, t2, t3, t4⟩ := opn_ok _ _ _ _ (Nat.le_refl _) hw (fun p hp => by cases hp) (fun p hp => by cases hp) e
    refine absurd (Nat.eq_of_testBit_eq fun i => ?_) (sett_ne t1 t2)
    rw [Nat.zero_testBit]
    cases h : (sett tab').testBit i with
    | false => rfl
    | true =>
      have hall := ((sett_bit tab' i).mp h).2
      have : (f.mask &&& g.mask).testBit i = true := by rw [Nat.testBit_and, t4 i hall _ (.head _), t4 i hall _ (.tail _ (.head _))]; rfl
      rw [hb, Nat.zero_testBit] at this; cases this
  | cls m ls =>
    have ok := cls_ok _ _ _ _ _ (Nat.le_refl _) hw (fun p hp => by cases hp) e
    have hx : ∀ x ∈ ls, x ∈ letters ∧ f.has x ∧ g.has (opp x) := fun x hx => by
      obtain ⟨h1, h2, h3⟩ := ok.occ x hx
      refine ⟨h1, ?_, ?_⟩
      · rcases h2 with ⟨w, hw, e, h⟩ | h
        · simp only [List.mem_cons, List.not_mem_nil, or_false] at hw
          rcases hw with rfl | rfl
          · exact h
          · exact absurd (show (62 : Nat) = 60 from e) (by decide)
        · cases h
      · rcases h3 with ⟨w, hw, e, h⟩ | h
        · simp only [List.mem_cons, List.not_mem_nil, or_false] at hw
          rcases hw with rfl | rfl
          · exact absurd (show (60 : Nat) = 62 from e) (by decide)
          · exact h
        · cases h
    have inA : ∀ x ∈ ls, x ∈ lettersA := fun x h => has_in hf (hx x h).2.1
    have inB : ∀ x ∈ ls, x ∈ lettersB := fun x h => by
      have h1 := has_in hg (hx x h).2.2
      have h2 := (hx x h).1
      revert h1
      exact (show ∀ x ∈ letters, opp x ∈ lettersB → x ∈ lettersB by decide) x h2
    have hlt : m < 2 ^ 16 := ok.dep (fun m => m < 2 ^ 16) ⟨by decide, by decide, fun a b ha hb => Nat.or_lt_two_pow ha hb, fun a b ha hb => Nat.and_lt_two_pow _ hb, fun x h => maskN_lt x (hx x h).1⟩
    have hPA : PA m := ok.dep PA ⟨by unfold PA; decide, by unfold PA; decide, fun a b ha hb i h1 h2 => by rw [Nat.testBit_or, Nat.testBit_or, ha i h1 h2, hb i h1 h2], fun a b ha hb i h1 h2 => by rw [Nat.testBit_and, Nat.testBit_and, ha i h1 h2, hb i h1 h2], fun x h => pa_mask x (inB x h)⟩
    have hPD : PD m := ok.dep PD ⟨by unfold PD; decide, by unfold PD; decide, fun a b ha hb i h1 => by rw [Nat.testBit_or, Nat.testBit_or, ha i h1, hb i h1], fun a b ha hb i h1 => by rw [Nat.testBit_and, Nat.testBit_and, ha i h1, hb i h1], fun x h => pd_mask x (inA x h)⟩
    refine ⟨m, ls, rfl, Nat.eq_of_testBit_eq fun i => ?_, Nat.eq_of_testBit_eq fun i => ?_, Nat.eq_of_testBit_eq fun i => ?_, Nat.eq_of_testBit_eq fun i => ?_, fun x h => ⟨(hx x h).1, has_enc (hx x h).2.1, has_enc (hx x h).2.2⟩⟩
    · rw [Nat.testBit_and]
      by_cases hi : i < 16
      · cases h : f.mask.testBit i with
        | false => rw [Bool.and_false]
        | true => rw [ok.one i hi (all60 h)]; rfl
      · rw [bit_hi (mask_lt (hw _ (.head _)).2) (by omega), Bool.and_false]
    · rw [Nat.testBit_and, Nat.zero_testBit]
      by_cases hi : i < 16
      · cases h : g.mask.testBit i with
        | false => rw [Bool.and_false]
        | true => rw [ok.two i hi (all62 h)]; rfl
      · rw [bit_hi hlt (by omega)]; rfl
    · rw [show (m &&& 43690) / 2 = (m &&& 43690) / 2 ^ 1 from rfl, Nat.testBit_div_two_pow, Nat.testBit_and, Nat.testBit_and]
      by_cases hi : i < 16
      · rw [Nat.add_comm] at *
        rw [Nat.add_comm, bits_a i hi]
        cases h : Nat.testBit 21845 i with
        | false => rw [Bool.and_false, Bool.and_false]
        | true => rw [Bool.and_true, Bool.and_true]; exact hPA i (bits_e i hi h).1 (bits_e i hi h).2
      · rw [bit_hi hlt (by omega), bit_hi hlt (by omega)]; rfl
    · rw [show m / 256 = m / 2 ^ 8 from rfl, Nat.testBit_div_two_pow, Nat.testBit_and]
      by_cases hi : i < 16
      · rw [bits_l i hi]
        by_cases h8 : i < 8
        · rw [decide_eq_true h8, Bool.and_true]; exact hPD i h8
        · rw [decide_eq_false h8, Bool.and_false]; exact bit_hi hlt (by omega)
      · rw [bit_hi hlt (by omega), bit_hi hlt (by omega)]; rfl
end Mine
end partPlain2
section partB0
open PySem PySem.W PyProof.Rows PySem.Calls
set_option Elab.async false
set_option maxRecDepth 100000
set_option maxHeartbeats 1000000
namespace Mine
theorem reset_B0 : True := by
  w_top off
  k_with_none
  trivial
section
variable {prog : Program} {w : World} {A : Around} {E : Value → Shared → Prop} {s : Shared} {value slice : PySem.Expr} {l : List Nat} {t : Tok} {h₀ : Heap} {L : Addr} {m : Str → Option Value} {news : List (Addr × Obj)} {Q : Value → Shared → Prop}
theorem item_at {p c : Nat} {r : List Nat} (hd : l.drop p = c :: r) : Txt.item (st l) (p : Int) = st [c] := by
  have hlt : p < l.length := by
    by_cases h : p < l.length
    · exact h
    · rw [List.drop_of_length_le (by omega)] at hd; cases hd
  have hg : l[p]? = some c := by
    have := congrArg (fun x : List Nat => x[0]?) hd
    simpa using this
  unfold Txt.item Txt.charAt seqIndex?
  have e : (if (p : Int) < 0 then (p : Int) + ((st l).length : Int) else (p : Int)) = p := if_neg (by omega)
  simp only [e]
  rw [if_pos (by rw [st_len]; simp; exact hlt)]
  simp [hg]
theorem item_st {p c : Nat} {r : List Nat} {i : Int} {u : Tok} (hi : i = (p : Int)) (hd : l.drop p = c :: r) (hp : l.length ≤ 100000)
    (h : ∀ t' tk, Q (.str (st [c]) t') { s with toks := tk })
    (hs : subscripted slice false (.str (st l) t) (.int i u) = operate [.str (st l) t, .int i u] (getItem (.str (st l) t) (.int i u)) := by with_unfolding_all rfl)
    (ht : ∀ r, letTemporaryGo value (.str (st l) t) r = pure () := by intro _; with_unfolding_all rfl) :
    wpAny (model prog w) A (subscriptTail value slice (.str (st l) t) (.int i u)) Q E s := by
  have hlt : p < l.length := by
    by_cases h : p < l.length
    · exact h
    · rw [List.drop_of_length_le (by omega)] at hd; cases hd
  refine item_str (fitsSsize_of (N := 9223372036854775808) (by omega) (by omega) (Int.le_refl _)) (by rw [st_len]; omega) (by rw [st_len]; omega) (fun _ => ?_) hs ht
  subst hi
  rw [item_at hd]
  exact h _ _
theorem cut_ss {a b : Nat} {i j : Int} {ui uj : Tok} {x : List Nat} (hi : i = (a : Int)) (hj : j = (b : Int)) (hx : (l.drop a).take (b - a) = x) (hF : Fr h₀ L s.heap m) (hN : News h₀ L s.heap news) (hsz : l.length ≤ 100000) (h : ∀ h' t' k, Fr h₀ L h' m → News h₀ L h' news → Q (.str (st x) t') { s with heap := h', toks := k })
    (hs : subscripted slice false (.str (st l) t) (.ref s.heap.objs.size) = operate [.ref s.heap.objs.size, .str (st l) t] (getItem (.str (st l) t) (.ref s.heap.objs.size)) := by with_unfolding_all rfl)
    (ht : ∀ r, letTemporaryGo value (.str (st l) t) r = pure () := by intro _; with_unfolding_all rfl) :
    wpAny (model prog w) A (subscriptTail value slice (.str (st l) t) (.ref s.heap.objs.size)) Q E { s with heap := s.heap.push { cls := .type "slice", data := .fields #[.int i ui, .int j uj, .none] } } :=
  slice_strN_ss hF hN (fun h' t' k F N => by subst hi hj hx; rw [slice_ss]; exact h h' t' k F N) hs ht (by rw [st_len, sizeLine_eq]; omega)
theorem cut_sn {a : Nat} {i : Int} {ui : Tok} {x : List Nat} (hi : i = (a : Int)) (hx : l.drop a = x) (hF : Fr h₀ L s.heap m) (hN : News h₀ L s.heap news) (hsz : l.length ≤ 100000) (h : ∀ h' t' k, Fr h₀ L h' m → News h₀ L h' news → Q (.str (st x) t') { s with heap := h', toks := k })
    (hs : subscripted slice false (.str (st l) t) (.ref s.heap.objs.size) = operate [.ref s.heap.objs.size, .str (st l) t] (getItem (.str (st l) t) (.ref s.heap.objs.size)) := by with_unfolding_all rfl)
    (ht : ∀ r, letTemporaryGo value (.str (st l) t) r = pure () := by intro _; with_unfolding_all rfl) :
    wpAny (model prog w) A (subscriptTail value slice (.str (st l) t) (.ref s.heap.objs.size)) Q E { s with heap := s.heap.push { cls := .type "slice", data := .fields #[.int i ui, .none, .none] } } :=
  slice_strN_sn hF hN (fun h' t' k F N => by subst hi hx; rw [slice_sn]; exact h h' t' k F N) hs ht (by rw [st_len, sizeLine_eq]; omega)
end
/-- the signs of a word -/
noncomputable abbrev signs : List Nat := [97, 65, 98, 66, 99, 67, 100, 68, 38, 124, 60, 62]
theorem sgn_ct (w : World) (t : Tok) (news : List (Addr × Obj)) : ∀ c ∈ signs, PureCt w 690 990 277 [.str (st [c]) t] [] news (fun r => ∃ tk, r = .int ((symN c : Nat) : Int) tk) := by
  intro c hc
  simp only [signs, List.mem_cons, List.not_mem_nil, or_false] at hc
  rcases hc with rfl | rfl | rfl | rfl | rfl | rfl | rfl | rfl | rfl | rfl | rfl | rfl
  · exact sym_al w t news
  · exact sym_Au w t news
  · exact sym_bl w t news
  · exact sym_Bu w t news
  · exact sym_cl w t news
  · exact sym_Cu w t news
  · exact sym_dl w t news
  · exact sym_Du w t news
  · exact sym_amp w t news
  · exact sym_bar w t news
  · exact sym_lt w t news
  · exact sym_gt w t news
theorem sgn0_ct (w : World) (t : Tok) (news : List (Addr × Obj)) : PureCt w 690 990 277 [.str (st []) t] [] news (fun r => ∃ tk, r = .int 0 tk) := sym_nil w t news
theorem letter_sign {c : Nat} (h : c ∈ letters) : c ∈ signs := List.mem_append_left [38, 124, 60, 62] h
theorem letter_sym : ∀ c ∈ letters, symN c = 256 + c := by decide
end Mine
end partB0
section partB1
open PySem PySem.W PyProof.Rows PySem.Calls
set_option Elab.async false
set_option maxRecDepth 100000
set_option maxHeartbeats 1000000
namespace Mine
theorem reset_B1 : True := by
  w_top off
  k_with_none
  trivial
theorem words_B1 : True := by
  k_with "k_ne" => (refine neN ?_; first | with_reducible assumption | exact Ne.symm (by with_reducible assumption) | exact Nat.ne_of_lt (by with_reducible assumption) | exact Nat.ne_of_gt (by with_reducible assumption) | (refine' Nat.ne_of_lt (And.left ?hZ9); (case hZ9 => with_reducible assumption)) | (refine' Nat.ne_of_lt (And.left (And.right ?hZ9)); (case hZ9 => with_reducible assumption)) | (refine' Nat.ne_of_lt (And.left (And.right (And.right ?hZ9))); (case hZ9 => with_reducible assumption)) | (refine' Nat.ne_of_lt (And.left (And.right (And.right (And.right ?hZ9)))); (case hZ9 => with_reducible assumption)) | (refine' Nat.ne_of_lt (And.left (And.right (And.right (And.right (And.right ?hZ9))))); (case hZ9 => with_reducible assumption)) | (refine' Nat.ne_of_lt (And.left (And.right (And.right (And.right (And.right (And.right ?hZ9)))))); (case hZ9 => with_reducible assumption)) | (refine' Nat.ne_of_lt (And.left (And.right (And.right (And.right (And.right (And.right (And.right ?hZ9))))))); (case hZ9 => with_reducible assumption)) | (refine' Nat.ne_of_lt (And.left (And.right (And.right (And.right (And.right (And.right (And.right (And.right ?hZ9)))))))); (case hZ9 => with_reducible assumption)) | (refine' Nat.ne_of_lt (And.left (And.right (And.right (And.right (And.right (And.right (And.right (And.right (And.right ?hZ9))))))))); (case hZ9 => with_reducible assumption)) | (refine' Nat.ne_of_gt (And.left ?hZ9); (case hZ9 => with_reducible assumption)) | (refine' Nat.ne_of_gt (And.left (And.right ?hZ9)); (case hZ9 => with_reducible assumption)) | (refine' Nat.ne_of_gt (And.left (And.right (And.right ?hZ9))); (case hZ9 => with_reducible assumption)) | (refine' Nat.ne_of_gt (And.left (And.right (And.right (And.right ?hZ9)))); (case hZ9 => with_reducible assumption)) | (refine' Nat.ne_of_gt (And.left (And.right (And.right (And.right (And.right ?hZ9))))); (case hZ9 => with_reducible assumption)) | (refine' Nat.ne_of_gt (And.left (And.right (And.right (And.right (And.right (And.right ?hZ9)))))); (case hZ9 => with_reducible assumption)) | (refine' Nat.ne_of_gt (And.left (And.right (And.right (And.right (And.right (And.right (And.right ?hZ9))))))); (case hZ9 => with_reducible assumption)) | (refine' Nat.ne_of_gt (And.left (And.right (And.right (And.right (And.right (And.right (And.right (And.right ?hZ9)))))))); (case hZ9 => with_reducible assumption)) | (refine' Nat.ne_of_gt (And.left (And.right (And.right (And.right (And.right (And.right (And.right (And.right (And.right ?hZ9))))))))); (case hZ9 => with_reducible assumption)) | ((try dsimp only); omega))
  k_with "callWith ref" => (k_here; (with_reducible show wpAny _ _ (callWith _ (Value.ref _) _ (backTo _ (starEach (_ :: _) _)) []) _ _ _); k_dflt (refine' callWith_K ?k1Z9 ?k2Z9 ?_; (case k1Z9 => k_asm); (case k2Z9 => k_is); k_whole))
  trivial
theorem lines_B1_1 : True := by
  k_with "exec While Compare cons nil" => ((k_here; k_dflt (refine' while_open ?_)))
  k_with "ktr_units" => (((try simp only [units_in1, units_deeper, Around.mark_units, units_under_make]); (try dsimp only [ktrTop]); first | decide | (refine' Nat.lt_of_lt_of_le (Nat.add_lt_add_right ?h9Z9 3) ?g9Z9; (case h9Z9 => assumption); (case g9Z9 => decide)) | omega))
  k_with "ktr_room" => (((try simp only [depth_under_make, depth_under_kw, depth_in1, depth_deeper, depth_caller]); (try dsimp only [ktrTop]); first | decide | (refine' Nat.lt_of_lt_of_le (Nat.succ_lt_succ ?h9Z9) ?g9Z9; (case h9Z9 => assumption); (case g9Z9 => decide)) | omega | (simp only [recursionLimit]; omega)))
  k_with "subscriptTail" => ((k_here; (with_reducible show wpAny _ _ (subscriptTail _ _ (Value.str (st _) _) (Value.int _ _)) _ _ _); k_dflt (refine' item_st ?hiZ9 ?hdZ9 ?hpZ9 ?_; (case hiZ9 => first | rfl | assumption); (case hdZ9 => first | assumption | rfl); (case hpZ9 => ((try simp only [List.length_cons, List.length_append, Fm.enc_len, List.length_nil]); omega))); intro _ _))
  k_with "subscriptTail Name Name str int" => ((k_here; (with_reducible show wpAny _ _ (subscriptTail _ _ (Value.str (st _) _) (Value.int _ _)) _ _ _); k_dflt (refine' item_st ?hiZ9 ?hdZ9 ?hpZ9 ?_; (case hiZ9 => first | rfl | assumption); (case hdZ9 => first | assumption | rfl); (case hpZ9 => ((try simp only [List.length_cons, List.length_append, Fm.enc_len, List.length_nil]); omega))); intro _ _))
  k_with "subscriptTail Name Constant str int" => ((k_here; (with_reducible show wpAny _ _ (subscriptTail _ _ (Value.str (st _) _) (Value.int _ _)) _ _ _); k_dflt (refine' item_st ?hiZ9 ?hdZ9 ?hpZ9 ?_; (case hiZ9 => first | rfl | assumption); (case hdZ9 => first | assumption | rfl); (case hpZ9 => ((try simp only [List.length_cons, List.length_append, Fm.enc_len, List.length_nil]); omega))); intro _ _))
  k_with "call ref" => ((k_here; first
      | (with_reducible show wpAny _ _ (call (Value.ref 277) _) _ _ _; k_dflt (refine' PureCt.useE (sgn_ct _ _ _ _ ?hcmZ9) ?k1Z9 ?k2Z9 ?k3Z9 ?k4Z9 ?k5Z9 ?k6Z9 ?k7Z9 ?k8Z9 ?_; (case hcmZ9 => first | assumption | decide); (case k1Z9 => k_asm); (case k2Z9 => k_asm); (case k3Z9 => k_asm); (case k4Z9 => k_asm); (case k5Z9 => k_asm); (case k6Z9 => first | rfl | assumption); (case k7Z9 => ktr_room); (case k8Z9 => ktr_units)); intro h9Z tk9Z _ F9Z N9Z)
      | (k_dflt (refine' PureCt.useV (term_ct _ _ _ _) ?k1Z9 ?k2Z9 ?k3Z9 ?k4Z9 ?k5Z9 ?k6Z9 ?k7Z9 ?k8Z9 ?_; (case k1Z9 => k_asm); (case k2Z9 => k_asm); (case k3Z9 => k_asm); (case k4Z9 => k_asm); (case k5Z9 => k_asm); (case k6Z9 => first | rfl | assumption); (case k7Z9 => ktr_room); (case k8Z9 => ktr_units)); intro h9Z tk9Z F9Z N9Z); (try dsimp only); (try k_sweep)))
  trivial
theorem fr2_up {a b : Str} {u v u' v' : Option Value} {g : Str → Option Value} : (fun y => if y = a then u' else if y = b then v' else if y = a then u else if y = b then v else g y) = fun y => if y = a then u' else if y = b then v' else g y := by
  funext y
  by_cases h1 : y = a
  · simp only [if_pos h1]
  · by_cases h2 : y = b
    · simp only [if_neg h1, if_pos h2]
    · simp only [if_neg h1, if_neg h2]
noncomputable abbrev hfr (x : Str) (t : Tok) (p k : Nat) (t1 t2 : Tok) : Str → Option Value := fun y => if y = Str.ofString "place" then some (.int (p : Int) t1) else if y = Str.ofString "wanted" then some (.int (k : Int) t2) else List.lookup y [(Str.ofString "word", Value.str x t)]
theorem hfr_0 {h₀ h : Heap} {L : Addr} {x : Str} {t t1 t2 : Tok} (F : Fr h₀ L h (fun y => if y = Str.ofString "place" then some (.int 2 t1) else if y = Str.ofString "wanted" then some (.int 1 t2) else List.lookup y [(Str.ofString "word", Value.str x t)])) : ∃ t1 t2, Fr h₀ L h (hfr x t 2 1 t1 t2) := ⟨_, _, F⟩
theorem hfr_up {h₀ h : Heap} {L : Addr} {x : Str} {t t1 t2 t1' t2' : Tok} {p k p' k' : Nat} {a b : Int} (F : Fr h₀ L h (fun y => if y = Str.ofString "place" then some (.int a t1') else if y = Str.ofString "wanted" then some (.int b t2') else hfr x t p k t1 t2 y)) (ha : a = (p' : Int)) (hb : b = (k' : Int)) : Fr h₀ L h (hfr x t p' k' t1' t2') := by
  subst ha hb
  have e := fr2_up (a := Str.ofString "place") (b := Str.ofString "wanted") (u := some (.int (p : Int) t1)) (v := some (.int (k : Int) t2)) (u' := some (.int (p' : Int) t1')) (v' := some (.int (k' : Int) t2')) (g := fun y => List.lookup y [(Str.ofString "word", Value.str x t)])
  unfold hfr
  rw [← e]
  exact F
noncomputable def encs (fs : List Fm) : List Nat := fs.flatMap Fm.enc
theorem in_two {S : List Nat} {f g : Fm} {fs : List Fm} (h : f.In S ∧ g.In S) (hr : ∀ x ∈ fs, Fm.In S x) : ∀ x ∈ f :: g :: fs, Fm.In S x := fun x hx => by
  rcases List.mem_cons.mp hx with rfl | hx
  · exact h.1
  · rcases List.mem_cons.mp hx with rfl | hx
    · exact h.2
    · exact hr x hx
theorem half_ct (w : World) (sd op : Nat) (f g : Fm) (hf : f.In letters) (hz : f.sz + g.sz ≤ 100) (t : Tok) (news : List (Addr × Obj)) :
    PureCt w 680 980 284 [.str (st (sd :: op :: (f.enc ++ g.enc))) t] [] news (fun r => ∃ tk, r = .int ((2 + f.sz : Nat) : Int) tk) := by
  generalize hl : sd :: op :: (f.enc ++ g.enc) = l
  have hll : l.length ≤ 200 := by subst hl; simp only [List.length_cons, List.length_append, Fm.enc_len]; omega
  unfold PureCt
  k_fill
  intro loose mean mg mb dp un gd cn cs a ccd cl outer A₀ base h₀ L m s Q E B F X N T hk hd hu hret
  refine wpAny_call ?_
  k_dflt (refine' code_def ?k1 ?k2 ?k3 ?k4 ?k5 ?kA ?kF ?kK ?k6 ?k7 ?k8 ?k9 ?kB ?_ ?c2 ?c3 ?c4 ?c5; (case kA => exact rfl); (case kF => exact rfl); (case kK => assumption); (case k1 => k_asm); (case k2 => k_asm); (case k3 => k_asm); (case k4 => k_asm); (case k5 => k_asm); (case k6 => k_is); (case k7 => k_is); (case k8 => ktr_room); (case k9 => first | exact BindsTo.of_eq rfl | exact binds_K (by k_in) rfl (by k_is) rfl rfl rfl); (case c5 => decide); (case kB => exact locs rfl); (case c2 => exact rfl); (case c3 => exact rfl); (case c4 => exact rfl); k_whole; intro g' L' h' FG' F' N' B' X' T'; (try dsimp only); (try k_fold))
  refine wpAny_mono (E := nE) ?_ (fun _ _ z => z) (fun _ _ z => z.elim)
  k_steps
  rename Fr _ _ _ _ => F9
  rename News _ _ _ _ => N9
  obtain ⟨t1, t2, F8⟩ := hfr_0 F9
  clear F9
  refine ⟨f.sz + 1, ?_⟩
  refine with_P (P := WRest _ _ _ _ _ _ _) (fun P hP => ?_)
  have loop : ∀ (k : Nat) (fs : List Fm) (p : Nat) (h : Heap) (tk : Nat) (t1 t2 : Tok), (fs.map Fm.sz).sum = k → (∀ f ∈ fs, f.In letters) → l.drop p = encs fs ++ g.enc → 2 + f.sz = p + k → Fr g' L' h (hfr (st l) t p fs.length t1 t2) → News g' L' h news → P (k + 1) { s with heap := h, toks := tk } := by
    clear F8 N9
    intro k
    induction k with
    | zero =>
      intro fs p h tk t1 t2 hk hin hd hp F7 N7
      have : fs = [] := by
        cases fs with
        | nil => rfl
        | cons f fs => have := f.sz_pos; simp at hk; omega
      subst this
      rw [hP]
      refine WRest.go ?_
      k_steps
      · obtain rfl : p = 2 + f.sz := by omega
        exact hret _ _ _ ⟨_, rfl⟩ (by assumption) (by assumption)
    | succ k ih =>
      intro fs p h tk t1 t2 hk hin hd hp F7 N7
      rw [hP]
      refine WRest.go ?_
      cases fs with
      | nil => simp at hk
      | cons f1 fs =>
        cases f1 with
        | lit c =>
          have hdr : l.drop p = c :: (encs fs ++ g.enc) := by rw [hd]; simp [encs, Fm.enc]
          have hc : c ∈ signs := letter_sign (hin _ (.head _))
          have hs := letter_sym c (hin _ (.head _))
          k_steps
          · rename Fr _ _ _ _ => F5
            rename News _ _ _ _ => N5
            dsimp only
            refine (congrFun (congrFun hP _) _).mp (ih fs (p + 1) _ _ _ _ ?_ ?_ ?_ ?_ (hfr_up F5 ?_ ?_) N5)
            · simp [Fm.sz] at hk ⊢; omega
            · exact fun f hf => hin f (.tail _ hf)
            · rw [drop_next hdr]
              try simp [encs]
            · omega
            · simp
            · (try rw [hs]); simp; try omega
          · rename ¬ (_ < _) => ha; exact absurd (by simp) ha
        | con f2 f3 =>
          have hdr : l.drop p = 38 :: (encs (f2 :: f3 :: fs) ++ g.enc) := by rw [hd]; simp [encs, Fm.enc]
          
          k_steps
          · rename Fr _ _ _ _ => F5
            rename News _ _ _ _ => N5
            dsimp only
            refine (congrFun (congrFun hP _) _).mp (ih (f2 :: f3 :: fs) (p + 1) _ _ _ _ ?_ ?_ ?_ ?_ (hfr_up F5 ?_ ?_) N5)
            · simp [Fm.sz] at hk ⊢; omega
            · exact in_two (hin _ (.head _)) fun f hf => hin f (.tail _ hf)
            · rw [drop_next hdr]
              try simp [encs]
            · omega
            · simp
            · (try rw [hs]); simp; try omega
          · rename ¬ (_ < _) => ha; exact absurd (by simp) ha
        | dis f2 f3 =>
          have hdr : l.drop p = 124 :: (encs (f2 :: f3 :: fs) ++ g.enc) := by rw [hd]; simp [encs, Fm.enc]
          
          k_steps
          · rename Fr _ _ _ _ => F5
            rename News _ _ _ _ => N5
            dsimp only
            refine (congrFun (congrFun hP _) _).mp (ih (f2 :: f3 :: fs) (p + 1) _ _ _ _ ?_ ?_ ?_ ?_ (hfr_up F5 ?_ ?_) N5)
            · simp [Fm.sz] at hk ⊢; omega
            · exact in_two (hin _ (.head _)) fun f hf => hin f (.tail _ hf)
            · rw [drop_next hdr]
              try simp [encs]
            · omega
            · simp
            · (try rw [hs]); simp; try omega
          · rename ¬ (_ < _) => ha; exact absurd (by simp) ha
  exact loop f.sz [f] 2 _ _ _ _ (by simp) (fun _ h => by rw [List.mem_singleton] at h; subst h; exact hf) (by subst hl; simp [encs]) rfl F8 N9
end Mine
end partB1
section partB2
open PySem PySem.W PyProof.Rows PySem.Calls
set_option Elab.async false
set_option maxRecDepth 100000
set_option maxHeartbeats 1000000
namespace Mine
theorem reset_B2 : True := by
  w_top off
  k_with_none
  trivial
noncomputable def off (d : Addr) (news : List (Addr × Obj)) : List (Addr × Obj) := news.filter (fun p => decide (p.1 ≠ d))
theorem mem_off {d : Addr} {news : List (Addr × Obj)} {p : Addr × Obj} : p ∈ off d news ↔ p ∈ news ∧ p.1 ≠ d := by simp [off]
theorem updF_mem {d : Addr} {o : Obj} {news : List (Addr × Obj)} {g : Obj → List (Addr × Obj)} (U : UpdF d o news g) : (d, o) ∈ news := by
  obtain ⟨pre, post, rfl, -, -, -⟩ := U.split
  exact List.mem_append_right _ (.head _)
theorem updF_one {d : Addr} {o : Obj} {news : List (Addr × Obj)} {g : Obj → List (Addr × Obj)} (U : UpdF d o news g) {p : Addr × Obj} (hp : p ∈ news) (h : p.1 = d) : p = (d, o) := by
  obtain ⟨pre, post, rfl, -, a, b⟩ := U.split
  rcases List.mem_append.mp hp with hp | hp
  · exact absurd h (a p hp)
  · rcases List.mem_cons.mp hp with rfl | hp
    · rfl
    · exact absurd h (b p hp)
theorem updF_back {d : Addr} {o : Obj} {news : List (Addr × Obj)} {g : Obj → List (Addr × Obj)} (U : UpdF d o news g) (o' : Obj) : ∀ p ∈ g o', p ∈ (d, o') :: off d news := by
  obtain ⟨pre, post, rfl, e, a, b⟩ := U.split
  rw [e]
  intro p hp
  rcases List.mem_append.mp hp with hp | hp
  · exact .tail _ (mem_off.mpr ⟨List.mem_append_left _ hp, a p hp⟩)
  · rcases List.mem_cons.mp hp with rfl | hp
    · exact .head _
    · exact .tail _ (mem_off.mpr ⟨List.mem_append_right _ (.tail _ hp), b p hp⟩)
theorem updF_sub {d : Addr} {o : Obj} {news : List (Addr × Obj)} {g : Obj → List (Addr × Obj)} (U : UpdF d o news g) : ∀ p ∈ (d, o) :: off d news, p ∈ news := by
  intro p hp
  rcases List.mem_cons.mp hp with rfl | hp
  · exact updF_mem U
  · exact (mem_off.mp hp).1
/-- a contract, its ledger laid otherwise -/
theorem MutCt.sub {w : World} {d u : Nat} {f : Value} {args : List Value} {kw : List (Str × Value)} {news news₁ : List (Addr × Obj)} {P P' : Value → List (Addr × Obj) → Prop} (C : MutCt w d u f args kw news₁ P) (h1 : ∀ p ∈ news₁, p ∈ news) (h2 : ∀ r n, P r n → ∃ n', P' r n' ∧ ∀ p ∈ n', p ∈ n) : MutCt w d u f args kw news P' :=
  fun loose mean mg mb dp un gd cn cs a ccd cl outer A₀ base h₀ L m s Q E B F X N T hk hd hu hret => C loose mean mg mb dp un gd cn cs a ccd cl outer A₀ base h₀ L m s Q E B F X (news_sub N h1) T hk hd hu (fun r h' tk' n hp F' N' => by
    obtain ⟨n', hp', hs⟩ := h2 r n hp
    exact hret r h' tk' n' hp' F' (news_sub N' hs))
theorem MutCt.subC {w : World} {d u : Nat} {f : Value} {args : List Value} {kw : List (Str × Value)} {news news₁ : List (Addr × Obj)} {P : (Value → List (Addr × Obj) → Prop) → Prop} {P' : Value → List (Addr × Obj) → Prop} (C : MutCt w d u f args kw news₁ (Cps P)) (h1 : ∀ p ∈ news₁, p ∈ news) (h2 : P fun r n => ∃ n', P' r n' ∧ ∀ p ∈ n', p ∈ n) : MutCt w d u f args kw news P' :=
  C.sub h1 fun _ _ hp => hp _ h2
theorem inst_ne_list {x d pb : Addr} {vs : List Value} {n : Nat} {c : Addr} : ((x, instObj c d) : Addr × Obj) ≠ (pb, PySem.W.listOf vs.toArray n) := by
  intro e
  have := congrArg (fun p : Addr × Obj => p.2.cls) e
  cases this
theorem dict_ne_list {x pb : Addr} {es : List DictEntry} {k : Nat} {vs : List Value} {n : Nat} : ((x, dictOf es k) : Addr × Obj) ≠ (pb, PySem.W.listOf vs.toArray n) := by
  intro e
  have := congrArg (fun p : Addr × Obj => p.2.cls) e
  injection this with h
  exact absurd h (by decide)
theorem off_inst {x d pb c : Addr} {vs : List Value} {n : Nat} {news : List (Addr × Obj)} {g : Obj → List (Addr × Obj)} (U : UpdF pb (PySem.W.listOf vs.toArray n) news g) (h : (x, instObj c d) ∈ news) : (x, instObj c d) ∈ off pb news :=
  mem_off.mpr ⟨h, fun e => inst_ne_list (updF_one U h e)⟩
theorem off_dict {x pb : Addr} {es : List DictEntry} {k : Nat} {vs : List Value} {n : Nat} {news : List (Addr × Obj)} {g : Obj → List (Addr × Obj)} (U : UpdF pb (PySem.W.listOf vs.toArray n) news g) (h : (x, dictOf es k) ∈ news) : (x, dictOf es k) ∈ off pb news :=
  mem_off.mpr ⟨h, fun e => dict_ne_list (updF_one U h e)⟩
/-- wrappers -/
theorem push_U (w : World) {x9 dx fL pb : Addr} {ln : Int} {t1 t2 t3 t4 t5 t6 : Tok} {n : Nat} {vs : List Value} {news : List (Addr × Obj)} {g : Obj → List (Addr × Obj)} (y : Str) (ty : Tok) (U : UpdF pb (PySem.W.listOf vs.toArray n) news g) (h1 : (x9, instObj 100 dx) ∈ news) (h2 : (dx, dictOf [⟨PyData.keyHash w.params (Str.ofString "lineno"), .str (Str.ofString "lineno") t1, .int ln t2⟩, ⟨PyData.keyHash w.params (Str.ofString "instream"), .str (Str.ofString "instream") t3, .ref fL⟩, ⟨PyData.keyHash w.params (Str.ofString "whitespace"), .str (Str.ofString "whitespace") t4, .str (Str.ofString "\n\t\x0d ") t5⟩, ⟨PyData.keyHash w.params (Str.ofString "pushback"), .str (Str.ofString "pushback") t6, .ref pb⟩] 4) ∈ news) (hn : vs.length ≤ 1000) :
    MutCt w 650 770 (.ref 97) [.ref x9, .str y ty] [] news (fun r n' => ∃ k, r = .none ∧ n' = g (PySem.W.listOf (vs ++ [Value.str y ty]).toArray k)) :=
  (push_ct w x9 dx fL pb ln t1 t2 t3 t4 t5 t6 n vs (off pb news) y ty (off_inst U h1) (off_dict U h2) (fun q hq => (mem_off.mp hq).2) hn).sub (updF_sub U) (by
    rintro r n ⟨rfl, k, rfl⟩
    exact ⟨_, ⟨k, rfl, rfl⟩, updF_back U _⟩)
theorem pop_U (w : World) {x9 dx fL pb : Addr} {ln : Int} {t1 t2 t3 t4 t5 t6 : Tok} {n : Nat} {vs : List Value} {news : List (Addr × Obj)} {g : Obj → List (Addr × Obj)} {y : Str} {ty : Tok} (U : UpdF pb (PySem.W.listOf (Value.str y ty :: vs).toArray n) news g) (h1 : (x9, instObj 100 dx) ∈ news) (h2 : (dx, dictOf [⟨PyData.keyHash w.params (Str.ofString "lineno"), .str (Str.ofString "lineno") t1, .int ln t2⟩, ⟨PyData.keyHash w.params (Str.ofString "instream"), .str (Str.ofString "instream") t3, .ref fL⟩, ⟨PyData.keyHash w.params (Str.ofString "whitespace"), .str (Str.ofString "whitespace") t4, .str (Str.ofString "\n\t\x0d ") t5⟩, ⟨PyData.keyHash w.params (Str.ofString "pushback"), .str (Str.ofString "pushback") t6, .ref pb⟩] 4) ∈ news) (hn : vs.length ≤ 1000) :
    MutCt w 650 770 (.ref 90) [.ref x9] [] news (fun r n' => ∃ k, r = .str y ty ∧ n' = g (PySem.W.listOf vs.toArray k)) :=
  (pop_ct w x9 dx fL pb ln t1 t2 t3 t4 t5 t6 n vs (off pb news) y ty (off_inst U h1) (off_dict U h2) (fun q hq => (mem_off.mp hq).2) hn).sub (updF_sub U) (by
    rintro r n ⟨rfl, k, rfl⟩
    exact ⟨_, ⟨k, rfl, rfl⟩, updF_back U _⟩)
theorem end_U (w : World) {x9 dx fL pb al : Addr} {tp t1 t2 t3 t4 t5 t6 : Tok} {ln : Int} {n na : Nat} {news r0 : List (Addr × Obj)} {g : Obj → List (Addr × Obj)} {g2 : Obj → Obj → List (Addr × Obj)} (U1 : UpdF al (PySem.W.listOf [Value.int 0 tp].toArray na) news g) (U2 : ∀ o, UpdF dx (dictOf [⟨PyData.keyHash w.params (Str.ofString "lineno"), .str (Str.ofString "lineno") t1, .int ln t2⟩, ⟨PyData.keyHash w.params (Str.ofString "instream"), .str (Str.ofString "instream") t3, .ref fL⟩, ⟨PyData.keyHash w.params (Str.ofString "whitespace"), .str (Str.ofString "whitespace") t4, .str (Str.ofString "\n\t\x0d ") t5⟩, ⟨PyData.keyHash w.params (Str.ofString "pushback"), .str (Str.ofString "pushback") t6, .ref pb⟩] 4) (g o) (g2 o))
    (h2 : (pb, PySem.W.listOf ([] : List Value).toArray n) ∈ news) (n1 : @Ne Nat pb al) (n2 : @Ne Nat pb dx) (h1 : (x9, instObj 100 dx) ∈ r0) (hS : LexAt w (st []) r0 x9 dx fL al) (h3 : ∀ q ∈ r0, q.1 ≠ al) (h4 : ∀ q ∈ r0, q.1 ≠ dx) (h5 : @Ne Nat al dx) (hr : ∀ q ∈ r0, q ∈ news) :
    MutCt w 640 740 (.ref 90) [.ref x9] [] news (fun r n' => ∃ t' o o', r = .str (st []) t' ∧ n' = g2 o o') := by
  have key : ∀ q ∈ r0, q ∈ off al (off dx news) := fun q hq => mem_off.mpr ⟨mem_off.mpr ⟨hr q hq, h4 q hq⟩, h3 q hq⟩
  have hdx : (dx, dictOf [⟨PyData.keyHash w.params (Str.ofString "lineno"), .str (Str.ofString "lineno") t1, .int ln t2⟩, ⟨PyData.keyHash w.params (Str.ofString "instream"), .str (Str.ofString "instream") t3, .ref fL⟩, ⟨PyData.keyHash w.params (Str.ofString "whitespace"), .str (Str.ofString "whitespace") t4, .str (Str.ofString "\n\t\x0d ") t5⟩, ⟨PyData.keyHash w.params (Str.ofString "pushback"), .str (Str.ofString "pushback") t6, .ref pb⟩] 4) ∈ news := by
    have := updF_back U1 default _ (updF_mem (U2 default))
    rcases List.mem_cons.mp this with e | h
    · exact absurd (congrArg Prod.fst e).symm h5
    · exact (mem_off.mp h).1
  refine (get_t w [] (by decide) x9 dx fL pb al 0 ln tp t1 t2 t3 t4 t5 t6 n na (off al (off dx news)) (key _ h1) (mem_off.mpr ⟨mem_off.mpr ⟨h2, n2⟩, n1⟩) (hS.mono key) (fun q hq => (mem_off.mp hq).2) (fun q hq => (mem_off.mp (mem_off.mp hq).1).2) h5 [] [] [] 0 0 0 ln (.inl rfl) rfl (.inl ⟨rfl, rfl, rfl, rfl⟩) rfl (by simp)).subC ?_ ?_
  · intro p hp
    rcases List.mem_cons.mp hp with rfl | hp
    · exact updF_mem U1
    · rcases List.mem_cons.mp hp with rfl | hp
      · exact hdx
      · exact (mem_off.mp (mem_off.mp hp).1).1
  · intro t' t'' s1 s2 s3 s4 s5 s6
    refine ⟨g2 (PySem.W.listOf [Value.int ((0 : Nat) : Int) t''].toArray na) (dictOf [⟨PyData.keyHash w.params (Str.ofString "lineno"), .str (Str.ofString "lineno") s1, .int ln s2⟩, ⟨PyData.keyHash w.params (Str.ofString "instream"), .str (Str.ofString "instream") s3, .ref fL⟩, ⟨PyData.keyHash w.params (Str.ofString "whitespace"), .str (Str.ofString "whitespace") s4, .str (Str.ofString "\n\t\x0d ") s5⟩, ⟨PyData.keyHash w.params (Str.ofString "pushback"), .str (Str.ofString "pushback") s6, .ref pb⟩] 4), ⟨t', PySem.W.listOf [Value.int ((0 : Nat) : Int) t''].toArray na, dictOf [⟨PyData.keyHash w.params (Str.ofString "lineno"), .str (Str.ofString "lineno") s1, .int ln s2⟩, ⟨PyData.keyHash w.params (Str.ofString "instream"), .str (Str.ofString "instream") s3, .ref fL⟩, ⟨PyData.keyHash w.params (Str.ofString "whitespace"), .str (Str.ofString "whitespace") s4, .str (Str.ofString "\n\t\x0d ") s5⟩, ⟨PyData.keyHash w.params (Str.ofString "pushback"), .str (Str.ofString "pushback") s6, .ref pb⟩] 4, rfl, rfl⟩, fun p hp => ?_⟩
    have := updF_back (U2 _) _ p hp
    rcases List.mem_cons.mp this with e | h
    · rw [e]; exact .tail _ (.head _)
    · obtain ⟨h, hne⟩ := mem_off.mp h
      rcases List.mem_cons.mp (updF_back U1 _ p h) with e | h
      · rw [e]; exact .head _
      · obtain ⟨h, hne2⟩ := mem_off.mp h
        exact .tail _ (.tail _ (mem_off.mpr ⟨mem_off.mpr ⟨h, hne⟩, hne2⟩))
theorem setS_U (w : World) {tb td hl : Addr} {hh : Int} {th : Tok} {nd n : Nat} {vs : List Value} {tab : List (Nat × Nat)} {sd c : Nat} {t t' : Tok} {news r0 : List (Addr × Obj)} {g : Obj → List (Addr × Obj)} {p : Nat × Nat} (hf : tab.find? (fun p => lowN p.2 == lowN c) = some p) (U : UpdF hl (PySem.W.listOf vs.toArray n) news g)
    (h1 : (tb, instObj 237 td) ∈ news) (h2 : (td, dictOf [⟨hh, .str (Str.ofString "_headers") th, .ref hl⟩] nd) ∈ news) (hv : TabIs r0 vs tab) (hr : ∀ q ∈ r0, q ∈ news) (hne : ∀ q ∈ r0, q.1 ≠ hl) (ht : TabOk tab) (hsd : sd = 60 ∨ sd = 62) (hc : c ∈ letters) (hn : vs.length ≤ 100) :
    MutCt w 660 800 (.ref 227) [.ref tb, .str (st [c]) t, .str (st [sd, c]) t'] [] news (fun r n' => ∃ t'', r = .str (st [p.1, p.2]) t'' ∧ n' = news) :=
  (set_some w tb td hl hh th nd n vs tab sd c t t' (off hl news) p hf (off_inst U h1) (off_dict U h2) (fun q hq => (mem_off.mp hq).2) (hv.mono fun q hq => mem_off.mpr ⟨hr q hq, hne q hq⟩) ht hsd hc hn).sub (updF_sub U) (by
    rintro r n ⟨⟨t'', rfl⟩, rfl⟩
    refine ⟨_, ⟨t'', rfl, rfl⟩, fun q hq => ?_⟩
    by_cases e : q.1 = hl
    · rw [updF_one U hq e]; exact .head _
    · exact .tail _ (mem_off.mpr ⟨hq, e⟩))
theorem setN_U (w : World) {tb td hl : Addr} {hh : Int} {th : Tok} {nd n : Nat} {vs : List Value} {tab : List (Nat × Nat)} {sd c : Nat} {t t' : Tok} {news r0 : List (Addr × Obj)} {g : Obj → List (Addr × Obj)} (hf : tab.find? (fun p => lowN p.2 == lowN c) = none) (U : UpdF hl (PySem.W.listOf vs.toArray n) news g)
    (h1 : (tb, instObj 237 td) ∈ news) (h2 : (td, dictOf [⟨hh, .str (Str.ofString "_headers") th, .ref hl⟩] nd) ∈ news) (hv : TabIs r0 vs tab) (hr : ∀ q ∈ r0, q ∈ news) (hne : ∀ q ∈ r0, q.1 ≠ hl) (ht : TabOk tab) (hsd : sd = 60 ∨ sd = 62) (hc : c ∈ letters) (hn : vs.length ≤ 100) :
    MutCt w 660 800 (.ref 227) [.ref tb, .str (st [c]) t, .str (st [sd, c]) t'] [] news (fun r n' => ∃ a k, r = .str (st [sd, c]) t' ∧ n' = (a, tupO [.str (st [c]) t, .str (st [sd, c]) t']) :: g (PySem.W.listOf (vs ++ [Value.ref a]).toArray k) ∧ ∀ p ∈ news, p.1 < a) :=
  (set_none w tb td hl hh th nd n vs tab sd c t t' (off hl news) hf (off_inst U h1) (off_dict U h2) (fun q hq => (mem_off.mp hq).2) (hv.mono fun q hq => mem_off.mpr ⟨hr q hq, hne q hq⟩) ht hsd hc hn).sub (updF_sub U) (by
    rintro r n ⟨rfl, a, k, rfl, hlt, hall⟩
    refine ⟨_, ⟨a, k, rfl, rfl, fun q hq => ?_⟩, fun q hq => ?_⟩
    · by_cases e : q.1 = hl
      · rw [e]; exact hlt
      · exact hall q (mem_off.mpr ⟨hq, e⟩)
    · rcases List.mem_cons.mp hq with rfl | hq
      · exact .head _
      · exact .tail _ (updF_back U _ q hq))
end Mine
end partB2
section partB3
open PySem PySem.W PyProof.Rows PySem.Calls
set_option Elab.async false
set_option maxRecDepth 100000
set_option maxHeartbeats 1000000
namespace Mine
theorem reset_B3 : True := by
  w_top off
  k_with_none
  trivial
theorem words_B3 : True := by
  k_with "k_ne" => (refine neN ?_; first | with_reducible assumption | exact Ne.symm (by with_reducible assumption) | exact Nat.ne_of_lt (by with_reducible assumption) | exact Nat.ne_of_gt (by with_reducible assumption) | (refine' Nat.ne_of_lt (And.left ?hZ9); (case hZ9 => with_reducible assumption)) | (refine' Nat.ne_of_lt (And.left (And.right ?hZ9)); (case hZ9 => with_reducible assumption)) | (refine' Nat.ne_of_lt (And.left (And.right (And.right ?hZ9))); (case hZ9 => with_reducible assumption)) | (refine' Nat.ne_of_lt (And.left (And.right (And.right (And.right ?hZ9)))); (case hZ9 => with_reducible assumption)) | (refine' Nat.ne_of_lt (And.left (And.right (And.right (And.right (And.right ?hZ9))))); (case hZ9 => with_reducible assumption)) | (refine' Nat.ne_of_lt (And.left (And.right (And.right (And.right (And.right (And.right ?hZ9)))))); (case hZ9 => with_reducible assumption)) | (refine' Nat.ne_of_lt (And.left (And.right (And.right (And.right (And.right (And.right (And.right ?hZ9))))))); (case hZ9 => with_reducible assumption)) | (refine' Nat.ne_of_lt (And.left (And.right (And.right (And.right (And.right (And.right (And.right (And.right ?hZ9)))))))); (case hZ9 => with_reducible assumption)) | (refine' Nat.ne_of_lt (And.left (And.right (And.right (And.right (And.right (And.right (And.right (And.right (And.right ?hZ9))))))))); (case hZ9 => with_reducible assumption)) | (refine' Nat.ne_of_gt (And.left ?hZ9); (case hZ9 => with_reducible assumption)) | (refine' Nat.ne_of_gt (And.left (And.right ?hZ9)); (case hZ9 => with_reducible assumption)) | (refine' Nat.ne_of_gt (And.left (And.right (And.right ?hZ9))); (case hZ9 => with_reducible assumption)) | (refine' Nat.ne_of_gt (And.left (And.right (And.right (And.right ?hZ9)))); (case hZ9 => with_reducible assumption)) | (refine' Nat.ne_of_gt (And.left (And.right (And.right (And.right (And.right ?hZ9))))); (case hZ9 => with_reducible assumption)) | (refine' Nat.ne_of_gt (And.left (And.right (And.right (And.right (And.right (And.right ?hZ9)))))); (case hZ9 => with_reducible assumption)) | (refine' Nat.ne_of_gt (And.left (And.right (And.right (And.right (And.right (And.right (And.right ?hZ9))))))); (case hZ9 => with_reducible assumption)) | (refine' Nat.ne_of_gt (And.left (And.right (And.right (And.right (And.right (And.right (And.right (And.right ?hZ9)))))))); (case hZ9 => with_reducible assumption)) | (refine' Nat.ne_of_gt (And.left (And.right (And.right (And.right (And.right (And.right (And.right (And.right (And.right ?hZ9))))))))); (case hZ9 => with_reducible assumption)) | ((try dsimp only); omega))
  k_with "callWith ref" => (k_here; (with_reducible show wpAny _ _ (callWith _ (Value.ref _) _ (backTo _ (starEach (_ :: _) _)) []) _ _ _); k_dflt (refine' callWith_K ?k1Z9 ?k2Z9 ?_; (case k1Z9 => k_asm); (case k2Z9 => k_is); k_whole))
  trivial
theorem lines_B3_1 : True := by
  k_with "exec While Compare cons nil" => ((k_here; k_dflt (refine' while_open ?_)))
  k_with "exec While UnaryOp cons nil" => ((k_here; k_dflt (refine' while_open ?_)))
  k_with "ktr_units" => (((try simp only [units_in1, units_deeper, Around.mark_units, units_under_make]); (try dsimp only [ktrTop]); first | decide | (refine' Nat.lt_of_lt_of_le (Nat.add_lt_add_right ?h9Z9 3) ?g9Z9; (case h9Z9 => assumption); (case g9Z9 => decide)) | omega))
  k_with "ktr_room" => (((try simp only [depth_under_make, depth_under_kw, depth_in1, depth_deeper, depth_caller]); (try dsimp only [ktrTop]); first | decide | (refine' Nat.lt_of_lt_of_le (Nat.succ_lt_succ ?h9Z9) ?g9Z9; (case h9Z9 => assumption); (case g9Z9 => decide)) | omega | (simp only [recursionLimit]; omega)))
  k_with "k_mem" => (first | exact List.Mem.head _ | assumption | (refine' List.Mem.tail _ ?_; k_mem))
  k_with "k_all" => (first | assumption | exact List.forall_mem_nil _ | (refine' List.forall_mem_cons.mpr ⟨?aZ9, ?bZ9⟩; (case aZ9 => k_ne); (case bZ9 => k_all)))
  k_with "callWith ref" => ((k_here; (with_reducible show wpAny _ _ (callWith _ _ _ (backTo _ (starEach [] _)) []) _ _ _); k_dflt (refine' callWith_K0 ?k1Z9 ?k2Z9 ?_; (case k1Z9 => k_in); (case k2Z9 => k_is); k_whole); (try dsimp only [List.nil_append, List.cons_append])))
  k_with "call ref" => ((k_here; (first
      | (with_reducible show wpAny _ _ (call (Value.ref 90) _) _ _ _; k_dflt (refine' MutCt.u1E (pop_U _ ?UZ9 ?m1Z9 ?m2Z9 ?zZ9) ?k1Z9 ?k2Z9 ?k3Z9 ?k4Z9 ?k5Z9 ?k6Z9 ?k7Z9 ?k8Z9 ?_; (case k1Z9 => k_asm); (case k2Z9 => k_asm); (case k3Z9 => k_asm); (case k4Z9 => k_asm); (case m1Z9 => k_mem); (case m2Z9 => k_mem); (case UZ9 => k_updF); (case zZ9 => ((try simp only [List.length_cons, List.length_append, List.length_nil]); omega)); (case k5Z9 => k_asm); (case k6Z9 => first | rfl | assumption); (case k7Z9 => ktr_room); (case k8Z9 => ktr_units)); intro h9Z tk9Z _ F9Z N9Z)
      | (with_reducible show wpAny _ _ (call (Value.ref 90) _) _ _ _; k_dflt (refine' MutCt.u3E (end_U _ ?UZ9 ?U2Z9 ?m2Z9 ?n1Z9 ?n2Z9 ?m1Z9 ?hSZ9 ?q3Z9 ?q4Z9 ?q5Z9 ?hrZ9) ?k1Z9 ?k2Z9 ?k3Z9 ?k4Z9 ?k5Z9 ?k6Z9 ?k7Z9 ?k8Z9 ?_; (case k1Z9 => k_asm); (case k2Z9 => k_asm); (case k3Z9 => k_asm); (case k4Z9 => k_asm); (case hSZ9 => assumption); (case UZ9 => k_updF); (case U2Z9 => (intro _; k_updF)); (case m2Z9 => k_mem); (case n1Z9 => omega); (case n2Z9 => omega); (case m1Z9 => k_mem); (case q3Z9 => assumption); (case q4Z9 => assumption); (case q5Z9 => omega); (case hrZ9 => (intro _ hq9Z; (repeat (first | exact hq9Z | apply List.Mem.tail)))); (case k5Z9 => k_asm); (case k6Z9 => first | rfl | assumption); (case k7Z9 => ktr_room); (case k8Z9 => ktr_units)); intro h9Z tk9Z _ _ _ F9Z N9Z)); (try dsimp only); (try k_sweep)))
  trivial
theorem st_ne {x : List Nat} (h : x ≠ []) : ¬ ((st x == Str.ofString "") = true) := by
  intro e
  rw [show Str.ofString "" = st [] from rfl, beq_iff_eq] at e
  exact h (by have := congrArg (fun x : Str => x.cps.toList) e; simpa using this)
noncomputable abbrev rfr (a x9 : Addr) (v : Value) : Str → Option Value := fun y => if y = Str.ofString "word" then some v else if y = Str.ofString "rest" then some (.ref a) else List.lookup y [(Str.ofString "line", Value.ref x9)]
theorem rfr_up {h₀ h : Heap} {L a x9 : Addr} {v v' : Value} (F : Fr h₀ L h (fun y => if y = Str.ofString "word" then some v' else rfr a x9 v y)) : Fr h₀ L h (rfr a x9 v') := by
  have e : (fun y => if y = Str.ofString "word" then some v' else rfr a x9 v y) = rfr a x9 v' := by
    funext y
    by_cases h : y = Str.ofString "word"
    · simp only [rfr, if_pos h]
    · simp only [rfr, if_neg h]
  rw [← e]; exact F
theorem drop123 {α : Type} {a b c d : α} {rest : List α} : ∀ p ∈ a :: rest, p ∈ a :: b :: c :: d :: rest := by
  repeat' first | exact sub_nil | exact sub_refl | (refine' sub_cons ?h9 ?_; (case h9 => repeat' first | exact List.Mem.head _ | apply List.Mem.tail)) | refine sub_tail ?_
theorem rest_ct (w : World) (x9 dx fL pb al : Addr) (ln : Int) (tp t1 t2 t3 t4 t5 t6 : Tok) (n na : Nat) (vs : List Value) (ws : List (List Nat)) (rest : List (Addr × Obj)) (hv : StrsAre vs (ws.map st)) (hne : ∀ x ∈ ws, x ≠ []) (h1 : (x9, instObj 100 dx) ∈ rest) (hS : LexAt w (st []) rest x9 dx fL al) (h3 : ∀ q ∈ rest, q.1 ≠ al) (h4 : ∀ q ∈ rest, q.1 ≠ dx) (h6 : ∀ q ∈ rest, q.1 ≠ pb) (h5 : @Ne Nat al dx) (h7 : @Ne Nat pb al) (h8 : @Ne Nat pb dx) (hn : vs.length ≤ 100) :
    MutCt w 630 730 (.ref 291) [.ref x9] [] ((pb, PySem.W.listOf vs.toArray n) :: (al, PySem.W.listOf [Value.int 0 tp].toArray na) :: (dx, dictOf [⟨PyData.keyHash w.params (Str.ofString "lineno"), .str (Str.ofString "lineno") t1, .int ln t2⟩, ⟨PyData.keyHash w.params (Str.ofString "instream"), .str (Str.ofString "instream") t3, .ref fL⟩, ⟨PyData.keyHash w.params (Str.ofString "whitespace"), .str (Str.ofString "whitespace") t4, .str (Str.ofString "\n\t\x0d ") t5⟩, ⟨PyData.keyHash w.params (Str.ofString "pushback"), .str (Str.ofString "pushback") t6, .ref pb⟩] 4) :: rest) (fun r news' => ∃ a k, r = .ref a ∧ news' = (a, PySem.W.listOf vs.toArray k) :: rest ∧ ∀ p ∈ rest, p.1 < a) := by
  unfold MutCt
  k_fill
  intro loose mean mg mb dp un gd cn cs a ccd cl outer A₀ base h₀ L m s Q E B F X N T hk hd hu hret
  refine wpAny_call ?_
  k_dflt (refine' code_def ?k1 ?k2 ?k3 ?k4 ?k5 ?kA ?kF ?kK ?k6 ?k7 ?k8 ?k9 ?kB ?_ ?c2 ?c3 ?c4 ?c5; (case kA => exact rfl); (case kF => exact rfl); (case kK => assumption); (case k1 => k_asm); (case k2 => k_asm); (case k3 => k_asm); (case k4 => k_asm); (case k5 => k_asm); (case k6 => k_is); (case k7 => k_is); (case k8 => ktr_room); (case k9 => first | exact BindsTo.of_eq rfl | exact binds_K (by k_in) rfl (by k_is) rfl rfl rfl); (case c5 => decide); (case kB => exact locs rfl); (case c2 => exact rfl); (case c3 => exact rfl); (case c4 => exact rfl); k_whole; intro g' L' h' FG' F' N' B' X' T'; (try dsimp only); (try k_fold))
  refine wpAny_mono (E := nE) ?_ (fun _ _ z => z) (fun _ _ z => z.elim)
  k_steps
  cases vs with
  | nil =>
    k_steps
    rename (_ ∧ _ ∧ _ ∧ AllLt _ _) => l8
    refine ⟨1, WRest.go ?_⟩
    k_steps
    exact hret _ _ _ _ ⟨_, _, rfl, rfl, allLt_all l8.2.2.2⟩ (by assumption) (news_sub (by assumption) drop123)
  | cons v vs =>
    cases ws with
    | nil => cases hv
    | cons y0 ys =>
    obtain ⟨t0, rfl, hv'⟩ : ∃ t0, v = .str (st y0) t0 ∧ StrsAre vs (ys.map st) := by cases hv with | cons h => exact ⟨_, rfl, h⟩
    have hn' : vs.length ≤ 99 := by simp only [List.length_cons] at hn; omega
    k_steps
    rename Fr _ _ _ _ => F5
    rename News _ _ _ _ => N5
    rename (_ ∧ _ ∧ _ ∧ AllLt _ _) => l8
    refine ⟨vs.length + 2, ?_⟩
    refine with_P (P := WRest _ _ _ _ _ _ _) (fun P hP => ?_)
    have loop : ∀ (l9 : Addr) (l8 : @LT.lt Nat _ pb l9 ∧ @LT.lt Nat _ al l9 ∧ @LT.lt Nat _ dx l9 ∧ AllLt l9 rest) (todo : List Value) (yd : List (List Nat)) (done : List Value) (y : List Nat) (ty : Tok) (h : Heap) (tk k n : Nat), StrsAre todo (yd.map st) → y ≠ [] → (∀ x ∈ yd, x ≠ []) → done ++ Value.str (st y) ty :: todo = Value.str (st y0) t0 :: vs → Fr g' L' h (rfr l9 x9 (.str (st y) ty)) → News g' L' h ((l9, PySem.W.listOf done.toArray k) :: (pb, PySem.W.listOf todo.toArray n) :: (al, PySem.W.listOf [Value.int 0 tp].toArray na) :: (dx, dictOf [⟨PyData.keyHash w.params (Str.ofString "lineno"), .str (Str.ofString "lineno") t1, .int ln t2⟩, ⟨PyData.keyHash w.params (Str.ofString "instream"), .str (Str.ofString "instream") t3, .ref fL⟩, ⟨PyData.keyHash w.params (Str.ofString "whitespace"), .str (Str.ofString "whitespace") t4, .str (Str.ofString "\n\t\x0d ") t5⟩, ⟨PyData.keyHash w.params (Str.ofString "pushback"), .str (Str.ofString "pushback") t6, .ref pb⟩] 4) :: rest) → P (todo.length + 2) { s with heap := h, toks := tk } := by
      clear F5 N5 hv hne hv' l8
      intro l9 l8 todo
      have hrl : ∀ p ∈ rest, p.1 ≠ l9 := ne_all (allLt_all l8.2.2.2)
      induction todo with
      | nil =>
        intro yd done y ty h tk k n hv hy hne hd F7 N7
        have e1 := st_ne hy
        have hdl : done.length ≤ 100 := by have := congrArg List.length hd; simp at this hn; omega
        rw [hP]
        refine WRest.go ?_
        k_steps
        · rename Fr _ _ _ _ => F6
          rename News _ _ _ _ => N6
          dsimp only
          rw [List.push_toArray, hd] at N6
          refine WRest.go (n := 0) ?_
          k_steps
          exact hret _ _ _ _ ⟨_, _, rfl, rfl, allLt_all l8.2.2.2⟩ (by assumption) (news_sub (by assumption) drop123)
        · rename _ = false => ha
          exact absurd ha (by rw [bne, Bool.not_eq_false']; exact e1)
      | cons v todo ih =>
        intro yd done y ty h tk k n hv hy hne hd F7 N7
        cases yd with
        | nil => cases hv
        | cons y1 yd =>
        obtain ⟨t1', rfl, hv'⟩ : ∃ t1', v = .str (st y1) t1' ∧ StrsAre todo (yd.map st) := by cases hv with | cons h => exact ⟨_, rfl, h⟩
        have e1 := st_ne hy
        have hdl : done.length + todo.length ≤ 100 := by have := congrArg List.length hd; simp at this hn; omega
        rw [hP]
        refine WRest.go ?_
        k_steps
        · rename Fr _ _ _ _ => F6
          rename News _ _ _ _ => N6
          dsimp only
          rw [List.push_toArray] at N6
          exact (congrFun (congrFun hP _) _).mp (ih yd (done ++ [Value.str (st y) ty]) y1 t1' _ _ _ _ hv' (hne _ (.head _)) (fun x hx => hne x (.tail _ hx)) (by simpa using hd) (rfr_up F6) N6)
        · rename _ = false => ha
          exact absurd ha (by rw [bne, Bool.not_eq_false']; exact e1)
    exact loop _ l8 vs ys [] y0 t0 _ _ _ _ hv' (hne _ (.head _)) (fun x hx => hne x (.tail _ hx)) rfl F5 N5
end Mine
end partB3
section partB4
open PySem PySem.W PyProof.Rows PySem.Calls
set_option Elab.async false
set_option maxRecDepth 100000
set_option maxHeartbeats 1000000
namespace Mine
theorem reset_B4 : True := by
  w_top off
  k_with_none
  trivial
theorem words_B4 : True := by
  k_with "k_ne" => (refine neN ?_; first | with_reducible assumption | exact Ne.symm (by with_reducible assumption) | exact Nat.ne_of_lt (by with_reducible assumption) | exact Nat.ne_of_gt (by with_reducible assumption) | (refine' Nat.ne_of_lt (And.left ?hZ9); (case hZ9 => with_reducible assumption)) | (refine' Nat.ne_of_lt (And.left (And.right ?hZ9)); (case hZ9 => with_reducible assumption)) | (refine' Nat.ne_of_lt (And.left (And.right (And.right ?hZ9))); (case hZ9 => with_reducible assumption)) | (refine' Nat.ne_of_lt (And.left (And.right (And.right (And.right ?hZ9)))); (case hZ9 => with_reducible assumption)) | (refine' Nat.ne_of_lt (And.left (And.right (And.right (And.right (And.right ?hZ9))))); (case hZ9 => with_reducible assumption)) | (refine' Nat.ne_of_lt (And.left (And.right (And.right (And.right (And.right (And.right ?hZ9)))))); (case hZ9 => with_reducible assumption)) | (refine' Nat.ne_of_lt (And.left (And.right (And.right (And.right (And.right (And.right (And.right ?hZ9))))))); (case hZ9 => with_reducible assumption)) | (refine' Nat.ne_of_lt (And.left (And.right (And.right (And.right (And.right (And.right (And.right (And.right ?hZ9)))))))); (case hZ9 => with_reducible assumption)) | (refine' Nat.ne_of_lt (And.left (And.right (And.right (And.right (And.right (And.right (And.right (And.right (And.right ?hZ9))))))))); (case hZ9 => with_reducible assumption)) | (refine' Nat.ne_of_gt (And.left ?hZ9); (case hZ9 => with_reducible assumption)) | (refine' Nat.ne_of_gt (And.left (And.right ?hZ9)); (case hZ9 => with_reducible assumption)) | (refine' Nat.ne_of_gt (And.left (And.right (And.right ?hZ9))); (case hZ9 => with_reducible assumption)) | (refine' Nat.ne_of_gt (And.left (And.right (And.right (And.right ?hZ9)))); (case hZ9 => with_reducible assumption)) | (refine' Nat.ne_of_gt (And.left (And.right (And.right (And.right (And.right ?hZ9))))); (case hZ9 => with_reducible assumption)) | (refine' Nat.ne_of_gt (And.left (And.right (And.right (And.right (And.right (And.right ?hZ9)))))); (case hZ9 => with_reducible assumption)) | (refine' Nat.ne_of_gt (And.left (And.right (And.right (And.right (And.right (And.right (And.right ?hZ9))))))); (case hZ9 => with_reducible assumption)) | (refine' Nat.ne_of_gt (And.left (And.right (And.right (And.right (And.right (And.right (And.right (And.right ?hZ9)))))))); (case hZ9 => with_reducible assumption)) | (refine' Nat.ne_of_gt (And.left (And.right (And.right (And.right (And.right (And.right (And.right (And.right (And.right ?hZ9))))))))); (case hZ9 => with_reducible assumption)) | ((try dsimp only); omega))
  k_with "callWith ref" => (k_here; (with_reducible show wpAny _ _ (callWith _ (Value.ref _) _ (backTo _ (starEach (_ :: _) _)) []) _ _ _); k_dflt (refine' callWith_K ?k1Z9 ?k2Z9 ?_; (case k1Z9 => k_asm); (case k2Z9 => k_is); k_whole))
  trivial
theorem lines_B4_1 : True := by
  k_with "exec While Compare cons nil" => ((k_here; k_dflt (refine' while_open ?_)))
  k_with "exec While UnaryOp cons nil" => ((k_here; k_dflt (refine' while_open ?_)))
  k_with "ktr_units" => (((try simp only [units_in1, units_deeper, Around.mark_units, units_under_make]); (try dsimp only [ktrTop]); first | decide | (refine' Nat.lt_of_lt_of_le (Nat.add_lt_add_right ?h9Z9 3) ?g9Z9; (case h9Z9 => assumption); (case g9Z9 => decide)) | omega))
  k_with "ktr_room" => (((try simp only [depth_under_make, depth_under_kw, depth_in1, depth_deeper, depth_caller]); (try dsimp only [ktrTop]); first | decide | (refine' Nat.lt_of_lt_of_le (Nat.succ_lt_succ ?h9Z9) ?g9Z9; (case h9Z9 => assumption); (case g9Z9 => decide)) | omega | (simp only [recursionLimit]; omega)))
  k_with "k_mem" => (first | exact List.Mem.head _ | assumption | (refine' List.Mem.tail _ ?_; k_mem))
  k_with "k_all" => (first | assumption | exact List.forall_mem_nil _ | (refine' List.forall_mem_cons.mpr ⟨?aZ9, ?bZ9⟩; (case aZ9 => k_ne); (case bZ9 => k_all)))
  k_with "callWith ref" => ((k_here; (with_reducible show wpAny _ _ (callWith _ _ _ (backTo _ (starEach [] _)) []) _ _ _); k_dflt (refine' callWith_K0 ?k1Z9 ?k2Z9 ?_; (case k1Z9 => k_in); (case k2Z9 => k_is); k_whole); (try dsimp only [List.nil_append, List.cons_append])))
  k_with "call ref" => ((k_here; (first
      | (with_reducible show wpAny _ _ (call (Value.ref 253) _) _ _ _; k_dflt (refine' PureCt.useE (mask_ct _ _ _ _ ?hcmZ9) ?k1Z9 ?k2Z9 ?k3Z9 ?k4Z9 ?k5Z9 ?k6Z9 ?k7Z9 ?k8Z9 ?_; (case k1Z9 => k_asm); (case k2Z9 => k_asm); (case k3Z9 => k_asm); (case k4Z9 => k_asm); (case hcmZ9 => assumption); (case k5Z9 => k_asm); (case k6Z9 => first | rfl | assumption); (case k7Z9 => ktr_room); (case k8Z9 => ktr_units)); intro _ _ _ _ _)); (try dsimp only); (try k_sweep)))
  k_with "subscriptTail" => ((k_here; (with_reducible show wpAny _ _ (subscriptTail _ _ (Value.str (st _) _) (Value.int _ _)) _ _ _); k_dflt (refine' item_st ?hiZ9 ?hdZ9 ?hpZ9 ?_; (case hiZ9 => first | rfl | assumption); (case hdZ9 => first | assumption | rfl); (case hpZ9 => ((try simp only [List.length_cons, List.length_append, Fm.enc_len, List.length_nil]); omega))); intro _ _))
  k_with "subscriptTail Name Name str int" => ((k_here; (with_reducible show wpAny _ _ (subscriptTail _ _ (Value.str (st _) _) (Value.int _ _)) _ _ _); k_dflt (refine' item_st ?hiZ9 ?hdZ9 ?hpZ9 ?_; (case hiZ9 => first | rfl | assumption); (case hdZ9 => first | assumption | rfl); (case hpZ9 => ((try simp only [List.length_cons, List.length_append, Fm.enc_len, List.length_nil]); omega))); intro _ _))
  k_with "subscriptTail Name Constant str int" => ((k_here; (with_reducible show wpAny _ _ (subscriptTail _ _ (Value.str (st _) _) (Value.int _ _)) _ _ _); k_dflt (refine' item_st ?hiZ9 ?hdZ9 ?hpZ9 ?_; (case hiZ9 => first | rfl | assumption); (case hdZ9 => first | assumption | rfl); (case hpZ9 => ((try simp only [List.length_cons, List.length_append, Fm.enc_len, List.length_nil]); omega))); intro _ _))
  trivial
noncomputable def resV : Res → List Value → Prop
  | .opn m, vs => ∃ t1 t2, vs = [.bool false, .int (m : Int) t1, .str (st []) t2]
  | .cls m ls, vs => ∃ t1 t2, vs = [.bool true, .int (m : Int) t1, .str (st ls) t2]
theorem drop23 {α : Type} {a b c : α} {rest : List α} : ∀ p ∈ a :: rest, p ∈ a :: b :: c :: rest := by
  repeat' first | exact sub_nil | exact sub_refl | (refine' sub_cons ?h9 ?_; (case h9 => repeat' first | exact List.Mem.head _ | apply List.Mem.tail)) | refine sub_tail ?_
theorem clash_ll (w : World) (p2 q2 : Nat) (hp : p2 ∈ letters) (hq : q2 ∈ letters) (t t' : Tok) (news : List (Addr × Obj)) :
    MutCt w 650 750 (.ref 298) [.str (st [60, p2]) t, .str (st [60, q2]) t'] [] news (fun r n' => ∃ a k vs, r = .ref a ∧ resV (clash (60, p2) (60, q2)) vs ∧ n' = (a, PySem.W.listOf vs.toArray k) :: news ∧ ∀ p ∈ news, p.1 < a) := by
  unfold MutCt
  k_fill
  intro loose mean mg mb dp un gd cn cs a ccd cl outer A₀ base h₀ L m s Q E B F X N T hk hd hu hret
  refine wpAny_call ?_
  k_dflt (refine' code_def ?k1 ?k2 ?k3 ?k4 ?k5 ?kA ?kF ?kK ?k6 ?k7 ?k8 ?k9 ?kB ?_ ?c2 ?c3 ?c4 ?c5; (case kA => exact rfl); (case kF => exact rfl); (case kK => assumption); (case k1 => k_asm); (case k2 => k_asm); (case k3 => k_asm); (case k4 => k_asm); (case k5 => k_asm); (case k6 => k_is); (case k7 => k_is); (case k8 => ktr_room); (case k9 => first | exact BindsTo.of_eq rfl | exact binds_K (by k_in) rfl (by k_is) rfl rfl rfl); (case c5 => decide); (case kB => exact locs rfl); (case c2 => exact rfl); (case c3 => exact rfl); (case c4 => exact rfl); k_whole; intro g' L' h' FG' F' N' B' X' T'; (try dsimp only); (try k_fold))
  refine wpAny_mono (E := nE) ?_ (fun _ _ z => z) (fun _ _ z => z.elim)
  k_steps
  rename (_ ∧ _ ∧ AllLt _ _) => l8
  refine hret _ _ _ _ ⟨_, _, _, rfl, ⟨_, _, rfl⟩, rfl, allLt_all l8.2.2⟩ (by assumption) (news_sub (by assumption) drop23)
theorem clash_lg (w : World) (p2 q2 : Nat) (hp : p2 ∈ letters) (hq : q2 ∈ letters) (t t' : Tok) (news : List (Addr × Obj)) :
    MutCt w 650 750 (.ref 298) [.str (st [60, p2]) t, .str (st [62, q2]) t'] [] news (fun r n' => ∃ a k vs, r = .ref a ∧ resV (clash (60, p2) (62, q2)) vs ∧ n' = (a, PySem.W.listOf vs.toArray k) :: news ∧ ∀ p ∈ news, p.1 < a) := by
  unfold MutCt
  k_fill
  intro loose mean mg mb dp un gd cn cs a ccd cl outer A₀ base h₀ L m s Q E B F X N T hk hd hu hret
  refine wpAny_call ?_
  k_dflt (refine' code_def ?k1 ?k2 ?k3 ?k4 ?k5 ?kA ?kF ?kK ?k6 ?k7 ?k8 ?k9 ?kB ?_ ?c2 ?c3 ?c4 ?c5; (case kA => exact rfl); (case kF => exact rfl); (case kK => assumption); (case k1 => k_asm); (case k2 => k_asm); (case k3 => k_asm); (case k4 => k_asm); (case k5 => k_asm); (case k6 => k_is); (case k7 => k_is); (case k8 => ktr_room); (case k9 => first | exact BindsTo.of_eq rfl | exact binds_K (by k_in) rfl (by k_is) rfl rfl rfl); (case c5 => decide); (case kB => exact locs rfl); (case c2 => exact rfl); (case c3 => exact rfl); (case c4 => exact rfl); k_whole; intro g' L' h' FG' F' N' B' X' T'; (try dsimp only); (try k_fold))
  refine wpAny_mono (E := nE) ?_ (fun _ _ z => z) (fun _ _ z => z.elim)
  k_steps
  rename (_ ∧ _ ∧ _ ∧ AllLt _ _) => l8
  refine hret _ _ _ _ ⟨_, _, _, rfl, ⟨_, _, rfl⟩, rfl, allLt_all l8.2.2.2⟩ (by assumption) (news_sub (by assumption) drop123)
theorem clash_gl (w : World) (p2 q2 : Nat) (hp : p2 ∈ letters) (hq : q2 ∈ letters) (t t' : Tok) (news : List (Addr × Obj)) :
    MutCt w 650 750 (.ref 298) [.str (st [62, p2]) t, .str (st [60, q2]) t'] [] news (fun r n' => ∃ a k vs, r = .ref a ∧ resV (clash (62, p2) (60, q2)) vs ∧ n' = (a, PySem.W.listOf vs.toArray k) :: news ∧ ∀ p ∈ news, p.1 < a) := by
  unfold MutCt
  k_fill
  intro loose mean mg mb dp un gd cn cs a ccd cl outer A₀ base h₀ L m s Q E B F X N T hk hd hu hret
  refine wpAny_call ?_
  k_dflt (refine' code_def ?k1 ?k2 ?k3 ?k4 ?k5 ?kA ?kF ?kK ?k6 ?k7 ?k8 ?k9 ?kB ?_ ?c2 ?c3 ?c4 ?c5; (case kA => exact rfl); (case kF => exact rfl); (case kK => assumption); (case k1 => k_asm); (case k2 => k_asm); (case k3 => k_asm); (case k4 => k_asm); (case k5 => k_asm); (case k6 => k_is); (case k7 => k_is); (case k8 => ktr_room); (case k9 => first | exact BindsTo.of_eq rfl | exact binds_K (by k_in) rfl (by k_is) rfl rfl rfl); (case c5 => decide); (case kB => exact locs rfl); (case c2 => exact rfl); (case c3 => exact rfl); (case c4 => exact rfl); k_whole; intro g' L' h' FG' F' N' B' X' T'; (try dsimp only); (try k_fold))
  refine wpAny_mono (E := nE) ?_ (fun _ _ z => z) (fun _ _ z => z.elim)
  k_steps
  rename (_ ∧ _ ∧ _ ∧ AllLt _ _) => l8
  refine hret _ _ _ _ ⟨_, _, _, rfl, ⟨_, _, rfl⟩, rfl, allLt_all l8.2.2.2⟩ (by assumption) (news_sub (by assumption) drop123)
theorem clash_gg (w : World) (p2 q2 : Nat) (hp : p2 ∈ letters) (hq : q2 ∈ letters) (t t' : Tok) (news : List (Addr × Obj)) :
    MutCt w 650 750 (.ref 298) [.str (st [62, p2]) t, .str (st [62, q2]) t'] [] news (fun r n' => ∃ a k vs, r = .ref a ∧ resV (clash (62, p2) (62, q2)) vs ∧ n' = (a, PySem.W.listOf vs.toArray k) :: news ∧ ∀ p ∈ news, p.1 < a) := by
  unfold MutCt
  k_fill
  intro loose mean mg mb dp un gd cn cs a ccd cl outer A₀ base h₀ L m s Q E B F X N T hk hd hu hret
  refine wpAny_call ?_
  k_dflt (refine' code_def ?k1 ?k2 ?k3 ?k4 ?k5 ?kA ?kF ?kK ?k6 ?k7 ?k8 ?k9 ?kB ?_ ?c2 ?c3 ?c4 ?c5; (case kA => exact rfl); (case kF => exact rfl); (case kK => assumption); (case k1 => k_asm); (case k2 => k_asm); (case k3 => k_asm); (case k4 => k_asm); (case k5 => k_asm); (case k6 => k_is); (case k7 => k_is); (case k8 => ktr_room); (case k9 => first | exact BindsTo.of_eq rfl | exact binds_K (by k_in) rfl (by k_is) rfl rfl rfl); (case c5 => decide); (case kB => exact locs rfl); (case c2 => exact rfl); (case c3 => exact rfl); (case c4 => exact rfl); k_whole; intro g' L' h' FG' F' N' B' X' T'; (try dsimp only); (try k_fold))
  refine wpAny_mono (E := nE) ?_ (fun _ _ z => z) (fun _ _ z => z.elim)
  k_steps
  rename (_ ∧ _ ∧ _ ∧ AllLt _ _) => l8
  refine hret _ _ _ _ ⟨_, _, _, rfl, ⟨_, _, rfl⟩, rfl, allLt_all l8.2.2.2⟩ (by assumption) (news_sub (by assumption) drop123)
end Mine
end partB4
section partB5
open PySem PySem.W PyProof.Rows PySem.Calls
set_option Elab.async false
set_option maxRecDepth 100000
set_option maxHeartbeats 1000000
namespace Mine
theorem reset_B5 : True := by
  w_top off
  k_with_none
  trivial
/-- the table of codes is full -/
noncomputable def Code265 (news : List (Addr × Obj)) : Prop := ∃ c1 c2 oc1, (265, tabObj #[rawInt 215, rawInt 4, .ref c1, rawInt 219, rawInt 13, .ref c2]) ∈ news ∧ (c1, oc1) ∈ news ∧ CodeQ oc1
theorem Code265.mono {news news' : List (Addr × Obj)} (h : Code265 news) (hs : ∀ p ∈ news, p ∈ news') : Code265 news' :=
  let ⟨c1, c2, oc1, a, b, c⟩ := h
  ⟨c1, c2, oc1, hs _ a, hs _ b, c⟩
theorem code_off {d : Addr} {news : List (Addr × Obj)} (h : Code265 news) (hd : ∀ p ∈ news, p.1 ≠ d) : Code265 (off d news) := h.mono fun p hp => mem_off.mpr ⟨hp, hd p hp⟩
/-- a lexer without text: its parts stand in the tail -/
structure LexIn (w : World) (x9 dx fL pb pl al : Addr) (rest : List (Addr × Obj)) : Prop where
  lex : LexAt w (st []) rest x9 dx fL al
  inst : (x9, instObj 100 dx) ∈ rest
  npb : ∀ q ∈ rest, q.1 ≠ pb
  npl : ∀ q ∈ rest, q.1 ≠ pl
  nal : ∀ q ∈ rest, q.1 ≠ al
  ndx : ∀ q ∈ rest, q.1 ≠ dx
  e1 : @Ne Nat pb pl
  e2 : @Ne Nat pb al
  e3 : @Ne Nat pb dx
  e4 : @Ne Nat pl al
  e5 : @Ne Nat pl dx
  e6 : @Ne Nat al dx
theorem line_b (w : World) (t : Tok) (pl : Addr) (o : Obj) (rest : List (Addr × Obj)) (hc : Code265 rest) (hpl : ∀ q ∈ rest, q.1 ≠ pl) :
    MutCt w 600 600 (.ref 270) [.str (st []) t] [] ((pl, o) :: rest) (Cps fun K => ∀ pb x9 dx fL al tp t1 t2 t3 t4 t5 t6 rest', LexIn w x9 dx fL pb pl al rest' → (∀ p ∈ rest, p ∈ rest') → K (.ref x9) ((pb, PySem.W.listOf ([] : List Value).toArray 0) :: (pl, o) :: (al, PySem.W.listOf [Value.int 0 tp].toArray 0) :: (dx, dictOf [⟨PyData.keyHash w.params (Str.ofString "lineno"), .str (Str.ofString "lineno") t1, .int 1 t2⟩, ⟨PyData.keyHash w.params (Str.ofString "instream"), .str (Str.ofString "instream") t3, .ref fL⟩, ⟨PyData.keyHash w.params (Str.ofString "whitespace"), .str (Str.ofString "whitespace") t4, .str (Str.ofString "\n\t\x0d ") t5⟩, ⟨PyData.keyHash w.params (Str.ofString "pushback"), .str (Str.ofString "pushback") t6, .ref pb⟩] 4) :: rest')) := by
  obtain ⟨c1, c2, oc1, h1, h2, h3⟩ := hc
  refine (line_hit w (st []) (by decide) t c1 c2 oc1 ((pl, o) :: rest) (.tail _ h1) (.tail _ h2) h3).subC (fun _ h => h) ?_
  intro pb x9 dx t1 t2 t3 t4 t5 t6 fL dL tr fR fd sl fo al tk cA oA cT oT g0 g1 g2 g3 g4 g5 g6 g7 g8 hR
  have q0 : @LT.lt Nat _ pl cT := g0 _ (.head _)
  have hr0 : ∀ p ∈ rest, @LT.lt Nat _ p.1 cT := fun p hp => g0 p (.tail _ hp)
  have key : ∀ (d : Nat), @LT.lt Nat _ cT d → ∀ p ∈ rest, @Ne Nat p.1 d := fun d hd p hp => Nat.ne_of_lt (Nat.lt_trans (hr0 p hp) hd)
  have dxpb : @LT.lt Nat _ dx pb := Nat.lt_trans g7 g8
  have dLpb : @LT.lt Nat _ dL pb := Nat.lt_trans g6 dxpb
  have fLpb : @LT.lt Nat _ fL pb := Nat.lt_trans g5 dLpb
  have fRpb : @LT.lt Nat _ fR pb := Nat.lt_trans g4 fLpb
  have alpb : @LT.lt Nat _ al pb := Nat.lt_trans g3 fRpb
  have cApb : @LT.lt Nat _ cA pb := Nat.lt_trans g2 alpb
  have cTpb : @LT.lt Nat _ cT pb := Nat.lt_trans g1 cApb
  have plpb : @LT.lt Nat _ pl pb := Nat.lt_trans q0 cTpb
  have fLdx : @LT.lt Nat _ fL dx := Nat.lt_trans g5 g6
  have fRdx : @LT.lt Nat _ fR dx := Nat.lt_trans g4 fLdx
  have aldx : @LT.lt Nat _ al dx := Nat.lt_trans g3 fRdx
  have cAdx : @LT.lt Nat _ cA dx := Nat.lt_trans g2 aldx
  have cTdx : @LT.lt Nat _ cT dx := Nat.lt_trans g1 cAdx
  have pldx : @LT.lt Nat _ pl dx := Nat.lt_trans q0 cTdx
  have cTal : @LT.lt Nat _ cT al := Nat.lt_trans g1 g2
  have plal : @LT.lt Nat _ pl al := Nat.lt_trans q0 cTal
  have alfL : @LT.lt Nat _ al fL := Nat.lt_trans g3 g4
  have aldL : @LT.lt Nat _ al dL := Nat.lt_trans alfL g5
  have alx9 : @LT.lt Nat _ al x9 := Nat.lt_trans aldx g7
  have plcA : @LT.lt Nat _ pl cA := Nat.lt_trans q0 g1
  have plfR : @LT.lt Nat _ pl fR := Nat.lt_trans plal g3
  have plfL : @LT.lt Nat _ pl fL := Nat.lt_trans plfR g4
  have pldL : @LT.lt Nat _ pl dL := Nat.lt_trans plfL g5
  have plx9 : @LT.lt Nat _ pl x9 := Nat.lt_trans pldx g7
  refine ⟨_, fun K k => k pb x9 dx fL al tk t1 t2 t3 t4 t5 t6 ((x9, instObj 100 dx) :: (dL, dictOf [⟨PyData.keyHash w.params (Str.ofString "read"), .str (Str.ofString "read") tr, .ref fR⟩] 1) :: (fL, (⟨.type "function", some dL, .func fd, sl⟩ : Obj)) :: (fR, fo) :: (cA, oA) :: (cT, oT) :: rest)
    ⟨⟨dL, tr, fR, fd, sl, fo, c1, oc1, cT, oT, cA, oA, (.head _), (.tail _ (.head _)), (.tail _ (.tail _ (.head _))), (.tail _ (.tail _ (.tail _ (.head _)))), (.tail _ (.tail _ (.tail _ (.tail _ (.tail _ (.tail _ h2)))))), (.tail _ (.tail _ (.tail _ (.tail _ (.tail _ (.head _)))))), (.tail _ (.tail _ (.tail _ (.tail _ (.head _))))), hR⟩, (.head _), (ne_cons (Nat.ne_of_lt g8) (ne_cons (Nat.ne_of_lt dLpb) (ne_cons (Nat.ne_of_lt fLpb) (ne_cons (Nat.ne_of_lt fRpb) (ne_cons (Nat.ne_of_lt cApb) (ne_cons (Nat.ne_of_lt cTpb) (key _ cTpb))))))), (ne_cons (Nat.ne_of_gt plx9) (ne_cons (Nat.ne_of_gt pldL) (ne_cons (Nat.ne_of_gt plfL) (ne_cons (Nat.ne_of_gt plfR) (ne_cons (Nat.ne_of_gt plcA) (ne_cons (Nat.ne_of_gt q0) hpl)))))), (ne_cons (Nat.ne_of_gt alx9) (ne_cons (Nat.ne_of_gt aldL) (ne_cons (Nat.ne_of_gt alfL) (ne_cons (Nat.ne_of_gt g3) (ne_cons (Nat.ne_of_lt g2) (ne_cons (Nat.ne_of_lt cTal) (key _ cTal))))))), (ne_cons (Nat.ne_of_gt g7) (ne_cons (Nat.ne_of_lt g6) (ne_cons (Nat.ne_of_lt fLdx) (ne_cons (Nat.ne_of_lt fRdx) (ne_cons (Nat.ne_of_lt cAdx) (ne_cons (Nat.ne_of_lt cTdx) (key _ cTdx))))))), Nat.ne_of_gt plpb, Nat.ne_of_gt alpb, Nat.ne_of_gt dxpb, Nat.ne_of_lt plal, Nat.ne_of_lt pldx, Nat.ne_of_lt aldx⟩ (fun p hp => .tail _ (.tail _ (.tail _ (.tail _ (.tail _ (.tail _ hp)))))), ?_⟩
  repeat' first | exact sub_nil | exact sub_refl | (refine' sub_cons ?h9 ?_; (case h9 => repeat' first | exact List.Mem.head _ | apply List.Mem.tail)) | refine sub_tail ?_
theorem clash_ct (w : World) (p q : Nat × Nat) (hp : (p.1 = 60 ∨ p.1 = 62) ∧ p.2 ∈ letters) (hq : (q.1 = 60 ∨ q.1 = 62) ∧ q.2 ∈ letters) (t t' : Tok) (news : List (Addr × Obj)) :
    MutCt w 650 750 (.ref 298) [.str (st [p.1, p.2]) t, .str (st [q.1, q.2]) t'] [] news (fun r n' => ∃ a k vs, r = .ref a ∧ resV (clash p q) vs ∧ n' = (a, PySem.W.listOf vs.toArray k) :: news ∧ ∀ p ∈ news, p.1 < a) := by
  obtain ⟨p1, p2⟩ := p
  obtain ⟨q1, q2⟩ := q
  dsimp only at *
  rcases hp.1 with rfl | rfl <;> rcases hq.1 with rfl | rfl
  · exact clash_ll w p2 q2 hp.2 hq.2 t t' news
  · exact clash_lg w p2 q2 hp.2 hq.2 t t' news
  · exact clash_gl w p2 q2 hp.2 hq.2 t t' news
  · exact clash_gg w p2 q2 hp.2 hq.2 t t' news
end Mine
end partB5
section partB6
open PySem PySem.W PyProof.Rows PySem.Calls
set_option Elab.async false
set_option maxRecDepth 100000
set_option maxHeartbeats 1000000
namespace Mine
theorem reset_B6 : True := by
  w_top off
  k_with_none
  trivial
theorem updF_same {d : Addr} {o : Obj} {news : List (Addr × Obj)} {g : Obj → List (Addr × Obj)} (U : UpdF d o news g) : g o = news := by
  obtain ⟨pre, post, rfl, e, -, -⟩ := U.split
  exact e o
theorem updF_into {d : Addr} {o : Obj} {news : List (Addr × Obj)} {g : Obj → List (Addr × Obj)} (U : UpdF d o news g) : ∀ p ∈ g o, p ∈ news := fun p hp => by rw [updF_same U] at hp; exact hp
/-- what get_token gives off a queue -/
noncomputable def TokR (qs : List Value) (x : Str) (t : Tok) (oa od : Obj) (o1 o2 o3 : Obj) : Prop :=
  match qs with
  | [] => x = st [] ∧ ∃ k, o1 = PySem.W.listOf ([] : List Value).toArray k
  | v :: vs => v = .str x t ∧ (∃ k, o1 = PySem.W.listOf vs.toArray k) ∧ o2 = oa ∧ o3 = od
theorem tok_U (w : World) {x9 dx fL pb pl al : Addr} {tp t1 t2 t3 t4 t5 t6 : Tok} {ln : Int} {n na : Nat} {qs : List Value} {xs : List Str} {news r0 : List (Addr × Obj)} {g1 : Obj → List (Addr × Obj)} {g2 : Obj → Obj → List (Addr × Obj)} {g3 : Obj → Obj → Obj → List (Addr × Obj)} (hL : LexIn w x9 dx fL pb pl al r0) (hr : ∀ q ∈ r0, q ∈ news) (hqs : StrsAre qs xs) (hn : qs.length ≤ 1000)
    (U1 : UpdF pb (PySem.W.listOf qs.toArray n) news g1) (U2 : ∀ o, UpdF al (PySem.W.listOf [Value.int 0 tp].toArray na) (g1 o) (g2 o)) (U3 : ∀ o o', UpdF dx (dictOf [⟨PyData.keyHash w.params (Str.ofString "lineno"), .str (Str.ofString "lineno") t1, .int ln t2⟩, ⟨PyData.keyHash w.params (Str.ofString "instream"), .str (Str.ofString "instream") t3, .ref fL⟩, ⟨PyData.keyHash w.params (Str.ofString "whitespace"), .str (Str.ofString "whitespace") t4, .str (Str.ofString "\n\t\x0d ") t5⟩, ⟨PyData.keyHash w.params (Str.ofString "pushback"), .str (Str.ofString "pushback") t6, .ref pb⟩] 4) (g2 o o') (g3 o o')) :
    MutCt w 640 740 (.ref 90) [.ref x9] [] news (fun r n' => ∃ x t o1 o2 o3, r = .str x t ∧ TokR qs x t (PySem.W.listOf [Value.int 0 tp].toArray na) (dictOf [⟨PyData.keyHash w.params (Str.ofString "lineno"), .str (Str.ofString "lineno") t1, .int ln t2⟩, ⟨PyData.keyHash w.params (Str.ofString "instream"), .str (Str.ofString "instream") t3, .ref fL⟩, ⟨PyData.keyHash w.params (Str.ofString "whitespace"), .str (Str.ofString "whitespace") t4, .str (Str.ofString "\n\t\x0d ") t5⟩, ⟨PyData.keyHash w.params (Str.ofString "pushback"), .str (Str.ofString "pushback") t6, .ref pb⟩] 4) o1 o2 o3 ∧ n' = g3 o1 o2 o3) := by
  have hdx : (dx, dictOf [⟨PyData.keyHash w.params (Str.ofString "lineno"), .str (Str.ofString "lineno") t1, .int ln t2⟩, ⟨PyData.keyHash w.params (Str.ofString "instream"), .str (Str.ofString "instream") t3, .ref fL⟩, ⟨PyData.keyHash w.params (Str.ofString "whitespace"), .str (Str.ofString "whitespace") t4, .str (Str.ofString "\n\t\x0d ") t5⟩, ⟨PyData.keyHash w.params (Str.ofString "pushback"), .str (Str.ofString "pushback") t6, .ref pb⟩] 4) ∈ news := updF_into U1 _ (updF_into (U2 _) _ (updF_mem (U3 (PySem.W.listOf qs.toArray n) (PySem.W.listOf [Value.int 0 tp].toArray na))))
  cases qs with
  | nil =>
    have V2 := U2 (PySem.W.listOf ([] : List Value).toArray n)
    rw [updF_same U1] at V2
    refine (end_U w (r0 := r0) V2 (fun o => U3 (PySem.W.listOf ([] : List Value).toArray n) o) (updF_mem U1) hL.e2 hL.e3 hL.inst hL.lex hL.nal hL.ndx hL.e6 hr).sub (fun _ h => h) ?_
    rintro r m ⟨t', o, o', rfl, rfl⟩
    exact ⟨_, ⟨_, t', _, _, _, rfl, ⟨rfl, _, rfl⟩, rfl⟩, fun _ h => h⟩
  | cons v vs =>
    obtain ⟨x, t, rfl⟩ : ∃ x t, v = .str x t := by cases hqs with | cons h => exact ⟨_, _, rfl⟩
    have hn' : vs.length ≤ 1000 := by simp only [List.length_cons] at hn; omega
    intro loose mean mg mb dp un gd cn cs a ccd cl outer A₀ base h₀ L m s Q E B F X N T hk hd hu hret
    refine ((pop_U w U1 (hr _ hL.inst) hdx hn').sub (fun _ h => h) ?_) loose mean mg mb dp un gd cn cs a ccd cl outer A₀ base h₀ L m s Q E B F X N T hk (by omega) (by omega) hret
    rintro r m ⟨k, rfl, rfl⟩
    refine ⟨_, ⟨x, t, _, _, _, rfl, ⟨rfl, ⟨k, rfl⟩, rfl, rfl⟩, rfl⟩, fun p hp => ?_⟩
    exact updF_into (U2 _) _ (updF_into (U3 _ _) _ hp)
/-- the branch's fixed parts -/
structure BrIn (w : World) (x9 dx fL pb pl al tb td : Addr) (hh : Int) (th : Tok) (rest R : List (Addr × Obj)) (pv : List Value) (tab : List (Nat × Nat)) : Prop where
  lexIn : LexIn w x9 dx fL pb pl al R
  tbi : (tb, instObj 237 td) ∈ R
  tdi : (td, dictOf [⟨hh, .str (Str.ofString "_headers") th, .ref pl⟩] 1) ∈ R
  tab : TabIs R pv tab
  sub : ∀ p ∈ rest, p ∈ R
theorem LexIn.cons {w : World} {x9 dx fL pb pl al a : Addr} {o : Obj} {R : List (Addr × Obj)} (h : LexIn w x9 dx fL pb pl al R) (h1 : @Ne Nat a pb) (h2 : @Ne Nat a pl) (h3 : @Ne Nat a al) (h4 : @Ne Nat a dx) : LexIn w x9 dx fL pb pl al ((a, o) :: R) :=
  ⟨h.lex.mono fun _ hp => .tail _ hp, .tail _ h.inst, ne_cons h1 h.npb, ne_cons h2 h.npl, ne_cons h3 h.nal, ne_cons h4 h.ndx, h.e1, h.e2, h.e3, h.e4, h.e5, h.e6⟩
theorem BrIn.cons {w : World} {x9 dx fL pb pl al tb td a : Addr} {hh : Int} {th : Tok} {rest R : List (Addr × Obj)} {pv : List Value} {tab : List (Nat × Nat)} {o : Obj} (h : BrIn w x9 dx fL pb pl al tb td hh th rest R pv tab) (h1 : @Ne Nat a pb) (h2 : @Ne Nat a pl) (h3 : @Ne Nat a al) (h4 : @Ne Nat a dx) : BrIn w x9 dx fL pb pl al tb td hh th rest ((a, o) :: R) pv tab :=
  ⟨h.lexIn.cons h1 h2 h3 h4, .tail _ h.tbi, .tail _ h.tdi, h.tab.mono fun _ hp => .tail _ hp, fun p hp => .tail _ (h.sub p hp)⟩
theorem cls_len (n : Nat) : ∀ (ws : List (Nat × Fm)) (tab : List (Nat × Nat)) (m : Nat) (ls : List Nat), szs ws ≤ n → br ws tab = .cls m ls → ls.length ≤ 2 ^ n := by
  induction n with
  | zero =>
    intro ws tab m ls hn hb
    cases ws with
    | nil => rw [br_nil] at hb; cases hb
    | cons x ws => have := x.2.sz_pos; simp [szs] at hn; omega
  | succ n ih =>
    intro ws tab m ls hn hb
    match ws, hn, hb with
    | [], hn, hb => rw [br_nil] at hb; cases hb
    | (s, .lit c) :: ws, hn, hb =>
      have hn' : szs ws ≤ n := by simp [szs, Fm.sz] at hn ⊢; omega
      have hp := Nat.pow_le_pow_right (n := 2) (by decide) (Nat.le_succ n)
      cases hf : tab.find? (fun p => lowN p.2 == lowN c) with
      | none => rw [br_new hf] at hb; exact Nat.le_trans (ih _ _ _ _ hn' hb) hp
      | some p =>
        by_cases he : p.2 = c
        · rw [br_old hf he] at hb; exact Nat.le_trans (ih _ _ _ _ hn' hb) hp
        · rw [br_clash hf he] at hb
          have h1 : ls.length ≤ 1 := by
            unfold clash at hb
            split at hb
            · cases hb; simp
            · split at hb <;> cases hb <;> simp
          exact Nat.le_trans h1 (Nat.one_le_two_pow)
    | (s, .con f g) :: ws, hn, hb =>
      rw [br_con] at hb
      have hp := Nat.pow_le_pow_right (n := 2) (by decide) (Nat.le_succ n)
      exact Nat.le_trans (ih _ _ _ _ (by rw [szs_append]; simp [szs, Fm.sz] at hn ⊢; omega) hb) hp
    | (s, .dis f g) :: ws, hn, hb =>
      rw [br_dis] at hb
      have k1 : szs (ws ++ [(s, f)]) ≤ n := by rw [szs_append]; simp [szs, Fm.sz] at hn ⊢; omega
      have k2 : szs (ws ++ [(s, g)]) ≤ n := by rw [szs_append]; simp [szs, Fm.sz] at hn ⊢; omega
      cases e1 : br (ws ++ [(s, f)]) tab with
      | opn m => rw [e1] at hb; cases hb
      | cls m1 l1 =>
        cases e2 : br (ws ++ [(s, g)]) tab with
        | opn m => rw [e1, e2] at hb; cases hb
        | cls m2 l2 =>
          rw [e1, e2] at hb
          cases hb
          have := ih _ _ _ _ k1 e1
          have := ih _ _ _ _ k2 e2
          rw [List.length_append, Nat.pow_succ]
          omega
end Mine
end partB6
section partB7
open PySem PySem.W PyProof.Rows PySem.Calls
set_option Elab.async false
set_option maxRecDepth 100000
set_option maxHeartbeats 4000000
namespace Mine
theorem reset_B7 : True := by
  w_top off
  k_with_none
  trivial
theorem words_B7 : True := by
  k_with "k_ne" => (refine neN ?_; first | with_reducible assumption | exact Ne.symm (by with_reducible assumption) | exact Nat.ne_of_lt (by with_reducible assumption) | exact Nat.ne_of_gt (by with_reducible assumption) | (refine' Nat.ne_of_lt (And.left ?hZ9); (case hZ9 => with_reducible assumption)) | (refine' Nat.ne_of_lt (And.left (And.right ?hZ9)); (case hZ9 => with_reducible assumption)) | (refine' Nat.ne_of_lt (And.left (And.right (And.right ?hZ9))); (case hZ9 => with_reducible assumption)) | (refine' Nat.ne_of_lt (And.left (And.right (And.right (And.right ?hZ9)))); (case hZ9 => with_reducible assumption)) | (refine' Nat.ne_of_lt (And.left (And.right (And.right (And.right (And.right ?hZ9))))); (case hZ9 => with_reducible assumption)) | (refine' Nat.ne_of_lt (And.left (And.right (And.right (And.right (And.right (And.right ?hZ9)))))); (case hZ9 => with_reducible assumption)) | (refine' Nat.ne_of_lt (And.left (And.right (And.right (And.right (And.right (And.right (And.right ?hZ9))))))); (case hZ9 => with_reducible assumption)) | (refine' Nat.ne_of_lt (And.left (And.right (And.right (And.right (And.right (And.right (And.right (And.right ?hZ9)))))))); (case hZ9 => with_reducible assumption)) | (refine' Nat.ne_of_lt (And.left (And.right (And.right (And.right (And.right (And.right (And.right (And.right (And.right ?hZ9))))))))); (case hZ9 => with_reducible assumption)) | (refine' Nat.ne_of_gt (And.left ?hZ9); (case hZ9 => with_reducible assumption)) | (refine' Nat.ne_of_gt (And.left (And.right ?hZ9)); (case hZ9 => with_reducible assumption)) | (refine' Nat.ne_of_gt (And.left (And.right (And.right ?hZ9))); (case hZ9 => with_reducible assumption)) | (refine' Nat.ne_of_gt (And.left (And.right (And.right (And.right ?hZ9)))); (case hZ9 => with_reducible assumption)) | (refine' Nat.ne_of_gt (And.left (And.right (And.right (And.right (And.right ?hZ9))))); (case hZ9 => with_reducible assumption)) | (refine' Nat.ne_of_gt (And.left (And.right (And.right (And.right (And.right (And.right ?hZ9)))))); (case hZ9 => with_reducible assumption)) | (refine' Nat.ne_of_gt (And.left (And.right (And.right (And.right (And.right (And.right (And.right ?hZ9))))))); (case hZ9 => with_reducible assumption)) | (refine' Nat.ne_of_gt (And.left (And.right (And.right (And.right (And.right (And.right (And.right (And.right ?hZ9)))))))); (case hZ9 => with_reducible assumption)) | (refine' Nat.ne_of_gt (And.left (And.right (And.right (And.right (And.right (And.right (And.right (And.right (And.right ?hZ9))))))))); (case hZ9 => with_reducible assumption)) | ((try dsimp only); omega))
  k_with "callWith ref" => (k_here; (with_reducible show wpAny _ _ (callWith _ (Value.ref _) _ (backTo _ (starEach (_ :: _) _)) []) _ _ _); k_dflt (refine' callWith_K ?k1Z9 ?k2Z9 ?_; (case k1Z9 => k_asm); (case k2Z9 => k_is); k_whole))
  trivial
theorem lines_B7_1 : True := by
  k_with "k_in" => (((with_reducible rename Fr _ _ _ _ => kiFZ); (with_reducible rename Frag.In _ _ => kiXZ); exact Frag.In.keeps kiXZ (Fr.keep kiFZ)))
  k_with "exec While Compare cons nil" => ((k_here; k_dflt (refine' while_open ?_)))
  k_with "exec While UnaryOp cons nil" => ((k_here; k_dflt (refine' while_open ?_)))
  k_with "k_mem" => (first | exact List.Mem.head _ | assumption | (refine' List.Mem.tail _ ?_; k_mem))
  k_with "k_all" => (first | assumption | exact List.forall_mem_nil _ | (refine' List.forall_mem_cons.mpr ⟨?aZ9, ?bZ9⟩; (case aZ9 => k_ne); (case bZ9 => k_all)))
  k_with "callWith ref" => ((k_here; (with_reducible show wpAny _ _ (callWith _ _ _ (backTo _ (starEach [] _)) []) _ _ _); k_dflt (refine' callWith_K0 ?k1Z9 ?k2Z9 ?_; (case k1Z9 => k_in); (case k2Z9 => k_is); k_whole); (try dsimp only [List.nil_append, List.cons_append])))
  k_with "ktr_units" => (((try simp only [units_in1, units_deeper, Around.mark_units, units_under_make]); (try dsimp only [ktrTop]); first | decide | (refine' Nat.lt_of_lt_of_le (Nat.add_lt_add_right ?h9Z9 3) ?g9Z9; (case h9Z9 => assumption); (case g9Z9 => decide)) | omega))
  k_with "ktr_room" => (((try simp only [depth_under_make, depth_under_kw, depth_in1, depth_deeper, depth_caller]); (try dsimp only [ktrTop]); first | decide | (refine' Nat.lt_of_lt_of_le (Nat.succ_lt_succ ?h9Z9) ?g9Z9; (case h9Z9 => assumption); (case g9Z9 => decide)) | omega | (simp only [recursionLimit]; omega)))
  trivial
theorem tab_letters {tab : List (Nat × Nat)} (h : TabOk tab) : ∀ c ∈ tab.map (·.2), c ∈ letters := by
  intro c hc
  obtain ⟨p, hp, rfl⟩ := List.mem_map.mp hc
  exact (h p hp).2
theorem strs_keys {ks : List Value} {tab : List (Nat × Nat)} (h : StrsAre ks (tab.map fun p => (⟨#[p.2]⟩ : Str))) : StrsAre ks ((tab.map (·.2)).map fun c => (⟨#[c]⟩ : Str)) := by rw [List.map_map]; exact h
noncomputable abbrev wst (p : Nat × Fm) : List Nat := p.1 :: p.2.enc
noncomputable def BranchOk (w : World) (n : Nat) : Prop := ∀ (ws : List (Nat × Fm)) (tab : List (Nat × Nat)) (wl pl : Addr) (wv pv : List Value) (nw np : Nat) (rest : List (Addr × Obj)), szs ws ≤ n → WsOk ws → TabOk tab → StrsAre wv (ws.map fun p => st (wst p)) → TabIs rest pv tab → (wl, PySem.W.listOf wv.toArray nw) ∈ rest → (∀ q ∈ rest, q.1 ≠ pl) → Code265 rest → tab.length + n ≤ 60 → n ≤ 14 →
  MutCt w (590 - n) (590 - 10 * n) (.ref 312) [.ref wl, .ref pl] [] ((pl, PySem.W.listOf pv.toArray np) :: rest) (fun r n' => ∃ a k vs, r = .ref a ∧ resV (br ws tab) vs ∧ n' = (a, PySem.W.listOf vs.toArray k) :: rest ∧ ∀ p ∈ rest, p.1 < a)
noncomputable def BrAll (w : World) (n : Nat) : Prop := ∀ m, m < n → BranchOk w m
theorem len_szs (ws : List (Nat × Fm)) : ws.length ≤ szs ws := by
  induction ws with
  | nil => exact Nat.le_refl _
  | cons x ws ih => have := x.2.sz_pos; simp [szs] at ih ⊢; omega
theorem perm6 {α : Type} {a b c d e f : α} {rest : List α} : ∀ p ∈ c :: d :: e :: f :: a :: b :: rest, p ∈ a :: b :: c :: d :: e :: f :: rest := by
  repeat' first | exact sub_nil | exact sub_refl | (refine' sub_cons ?h9 ?_; (case h9 => repeat' first | exact List.Mem.head _ | apply List.Mem.tail)) | refine sub_tail ?_
theorem st1_of {a b : Nat} (h : st [a] = st [b]) : a = b := by
  have := congrArg (fun x : Str => x.cps.toList) h
  simpa using this
theorem head3 {α : Type} {a b c d : α} {rest R : List α} (h : ∀ p ∈ rest, p ∈ R) : ∀ p ∈ a :: rest, p ∈ a :: b :: c :: d :: R := by
  intro p hp
  simp only [List.mem_cons] at hp ⊢
  rcases hp with hp | hp
  · exact .inl hp
  · simp [h p hp]
theorem head4 {α : Type} {a b c d e : α} {rest R : List α} (h : ∀ p ∈ rest, p ∈ R) : ∀ p ∈ a :: rest, p ∈ a :: b :: c :: d :: e :: R := by
  intro p hp
  simp only [List.mem_cons] at hp ⊢
  rcases hp with hp | hp
  · exact .inl hp
  · simp [h p hp]
theorem perm5 {α : Type} {a b c d e : α} {rest : List α} : ∀ p ∈ b :: c :: d :: e :: a :: rest, p ∈ a :: b :: c :: d :: e :: rest := by
  repeat' first | exact sub_nil | exact sub_refl | (refine' sub_cons ?h9 ?_; (case h9 => repeat' first | exact List.Mem.head _ | apply List.Mem.tail)) | refine sub_tail ?_
theorem BrIn.snoc {w : World} {x9 dx fL pb pl al tb td a : Addr} {hh : Int} {th t1 t2 : Tok} {s c : Nat} {rest R : List (Addr × Obj)} {pv : List Value} {tab : List (Nat × Nat)} (h : BrIn w x9 dx fL pb pl al tb td hh th rest R pv tab) (h1 : @Ne Nat a pb) (h2 : @Ne Nat a pl) (h3 : @Ne Nat a al) (h4 : @Ne Nat a dx) : BrIn w x9 dx fL pb pl al tb td hh th rest ((a, tupO [.str (st [c]) t1, .str (st [s, c]) t2]) :: R) (pv ++ [.ref a]) (tab ++ [(s, c)]) :=
  ⟨h.lexIn.cons h1 h2 h3 h4, .tail _ h.tbi, .tail _ h.tdi, (h.tab.mono fun _ hp => .tail _ hp).snoc (.head _), fun p hp => .tail _ (h.sub p hp)⟩
theorem clash_ct2 (w : World) (p1 p2 q1 q2 : Nat) (h1 : p1 = 60 ∨ p1 = 62) (h2 : p2 ∈ letters) (h3 : q1 = 60 ∨ q1 = 62) (h4 : q2 ∈ letters) (t t' : Tok) (news : List (Addr × Obj)) :
    MutCt w 650 750 (.ref 298) [.str (st [p1, p2]) t, .str (st [q1, q2]) t'] [] news (fun r n' => ∃ a k vs, r = .ref a ∧ resV (clash (p1, p2) (q1, q2)) vs ∧ n' = (a, PySem.W.listOf vs.toArray k) :: news ∧ ∀ p ∈ news, p.1 < a) :=
  clash_ct w (p1, p2) (q1, q2) ⟨h1, h2⟩ ⟨h3, h4⟩ t t' news
theorem cap_for {prog : Program} {w : World} {A : Around} {env : Env} {target : PySem.Expr} {body : List Stmt} {Q : Flow → Shared → Prop} {l : Addr} {s : Shared} {h₀ : Heap} {L : Addr} {m : Str → Option Value} {a b : List Nat} {t1 t2 : Tok} {k : Nat} {rest R : List (Addr × Obj)} {pb pl al dx : Nat} (F : Fr h₀ L s.heap m) (N : News h₀ L s.heap ((l, PySem.W.listOf [Value.str (st a) t1, Value.str (st b) t2].toArray k) :: rest)) (hx : pb < l ∧ pl < l ∧ al < l ∧ dx < l ∧ AllLt l R)
    (H : ∀ lh tA tB k', Fr h₀ L s.heap m → News h₀ L s.heap ((lh, PySem.W.listOf [Value.str (st a) tA, Value.str (st b) tB].toArray k') :: rest) → (pb < lh ∧ pl < lh ∧ al < lh ∧ dx < lh ∧ AllLt lh R) → ForAt prog w A env target body Q (.ref lh) s) : ForAt prog w A env target body Q (.ref l) s := H _ _ _ _ F N hx
theorem two_ok {ws : List (Nat × Fm)} {s : Nat} {f g : Fm} (h : WsOk ws) (hs : s = 60 ∨ s = 62) (hf : f.In letters) (hg : g.In letters) : WsOk (ws ++ [(s, f), (s, g)]) := by
  have := (h.snoc hs hf).snoc hs hg
  rwa [List.append_assoc] at this
theorem permR {α : Type} {a b c d e : α} {rest : List α} : ∀ p ∈ b :: d :: e :: a :: c :: rest, p ∈ a :: b :: c :: d :: e :: rest := by
  repeat' first | exact sub_nil | exact sub_refl | (refine' sub_cons ?h9 ?_; (case h9 => repeat' first | exact List.Mem.head _ | apply List.Mem.tail)) | refine sub_tail ?_
theorem wst_ne (ws : List (Nat × Fm)) : ∀ x ∈ ws.map wst, x ≠ [] := by
  intro x hx
  obtain ⟨p, _, rfl⟩ := List.mem_map.mp hx
  exact List.cons_ne_nil _ _
theorem perm7 {α : Type} {a b c d e f : α} {rest : List α} : ∀ p ∈ a :: d :: e :: f :: rest, p ∈ a :: b :: c :: d :: e :: f :: rest := by
  repeat' first | exact sub_nil | exact sub_refl | (refine' sub_cons ?h9 ?_; (case h9 => repeat' first | exact List.Mem.head _ | apply List.Mem.tail)) | refine sub_tail ?_
theorem perm8 {α : Type} {a b c d e f g : α} {rest : List α} : ∀ p ∈ a :: d :: e :: f :: g :: rest, p ∈ a :: b :: c :: d :: e :: f :: g :: rest := by
  repeat' first | exact sub_nil | exact sub_refl | (refine' sub_cons ?h9 ?_; (case h9 => repeat' first | exact List.Mem.head _ | apply List.Mem.tail)) | refine sub_tail ?_
section
variable {prog : Program} {w : World} {A : Around} {E : Value → Shared → Prop} {s : Shared} {h₀ : Heap} {L : Addr} {m : Str → Option Value} {news : List (Addr × Obj)} {Q : Value → Shared → Prop}
theorem item_ld {value slice : PySem.Expr} {a : Addr} {vs : List Value} {n : Nat} {k : Int} {u : Tok} {v : Value} (N : News h₀ L s.heap news) (hm : (a, PySem.W.listOf vs.toArray n) ∈ news) (h0 : 0 ≤ k) (hf : k < 2 ^ 63) (hx : vs[k.toNat]? = some v) (h : Q v s)
    (hs : subscripted slice false (.ref a) (.int k u) = operate [.ref a, .int k u] (getItem (.ref a) (.int k u)) := by with_unfolding_all rfl) (hg : ∀ r, letTemporaryGo value (.ref a) r = pure () := by intro _; with_unfolding_all rfl) :
    wpAny (model prog w) A (subscriptTail value slice (.ref a) (.int k u)) Q E s :=
  item_listL ⟨_, (N _ hm).1, rfl, _, rfl⟩ h0 hf hx h hs hg
theorem slice_ld {value slice : PySem.Expr} {l : Addr} {vs zs : List Value} {n : Nat} {vl vu : Value} {lo hi : Option Int} (F : Fr h₀ L s.heap m) (N : News h₀ L s.heap news) (hm : (l, PySem.W.listOf vs.toArray n) ∈ news) (pl : IsPart vl lo) (pu : IsPart vu hi) (e : (slicePick vs.toArray lo hi none).toList = zs) (hz : vs.length ≤ 1000)
    (h : ∀ D h', Fr h₀ L h' m → News h₀ L h' ((D, PySem.W.listOf zs.toArray 0) :: news) → (∀ p ∈ news, p.1 < D) → Q (.ref D) { s with heap := h' })
    (hs : subscripted slice false (.ref l) (.ref s.heap.objs.size) = operate [.ref s.heap.objs.size, .ref l] (getItem (.ref l) (.ref s.heap.objs.size)) := by with_unfolding_all rfl) (ht : ∀ r, letTemporaryGo value (.ref l) r = pure () := by intro _; with_unfolding_all rfl) :
    wpAny (model prog w) A (subscriptTail value slice (.ref l) (.ref s.heap.objs.size)) Q E { s with heap := s.heap.push { cls := .type "slice", data := .fields #[vl, vu, .none] } } :=
  kmk_slice_lit F N ⟨_, (N _ hm).1, rfl, _, rfl⟩ pl pu e h hs ht (by rw [List.size_toArray, sizeLine_eq]; omega)
theorem slice_l1 {value slice : PySem.Expr} {l : Addr} {v1 v2 : Value} {n : Nat} {t : Tok} (F : Fr h₀ L s.heap m) (N : News h₀ L s.heap news) (hm : (l, PySem.W.listOf [v1, v2].toArray n) ∈ news)
    (h : ∀ D h', Fr h₀ L h' m → News h₀ L h' ((D, PySem.W.listOf [v1].toArray 0) :: news) → (∀ p ∈ news, p.1 < D) → Q (.ref D) { s with heap := h' })
    (hs : subscripted slice false (.ref l) (.ref s.heap.objs.size) = operate [.ref s.heap.objs.size, .ref l] (getItem (.ref l) (.ref s.heap.objs.size)) := by with_unfolding_all rfl) (ht : ∀ r, letTemporaryGo value (.ref l) r = pure () := by intro _; with_unfolding_all rfl) :
    wpAny (model prog w) A (subscriptTail value slice (.ref l) (.ref s.heap.objs.size)) Q E { s with heap := s.heap.push { cls := .type "slice", data := .fields #[.none, .int 1 t, .none] } } :=
  slice_ld F N hm .none (.int 1 t) (by rw [kmk_pick_nat (a := 0) (b := 1) _ (by rfl)]; rfl) (by simp) h hs ht
theorem slice_l2 {value slice : PySem.Expr} {l : Addr} {v1 v2 : Value} {n : Nat} {t : Tok} (F : Fr h₀ L s.heap m) (N : News h₀ L s.heap news) (hm : (l, PySem.W.listOf [v1, v2].toArray n) ∈ news)
    (h : ∀ D h', Fr h₀ L h' m → News h₀ L h' ((D, PySem.W.listOf [v2].toArray 0) :: news) → (∀ p ∈ news, p.1 < D) → Q (.ref D) { s with heap := h' })
    (hs : subscripted slice false (.ref l) (.ref s.heap.objs.size) = operate [.ref s.heap.objs.size, .ref l] (getItem (.ref l) (.ref s.heap.objs.size)) := by with_unfolding_all rfl) (ht : ∀ r, letTemporaryGo value (.ref l) r = pure () := by intro _; with_unfolding_all rfl) :
    wpAny (model prog w) A (subscriptTail value slice (.ref l) (.ref s.heap.objs.size)) Q E { s with heap := s.heap.push { cls := .type "slice", data := .fields #[.int 1 t, .none, .none] } } :=
  slice_ld F N hm (.int 1 t) .none (by rw [kmk_pick_nat (a := 1) (b := 2) _ (by rfl)]; rfl) (by simp) h hs ht
theorem add_ld {l b : Addr} {vs ws : List Value} {n k : Nat} (F : Fr h₀ L s.heap m) (N : News h₀ L s.heap news) (h1 : (l, PySem.W.listOf vs.toArray n) ∈ news) (h2 : (b, PySem.W.listOf ws.toArray k) ∈ news) (hz : vs.length + ws.length ≤ 1000)
    (h : ∀ D h', Fr h₀ L h' m → News h₀ L h' ((D, PySem.W.listOf (vs ++ ws).toArray 0) :: news) → (∀ p ∈ news, p.1 < D) → Q (.ref D) { s with heap := h' }) : wpAny (model prog w) A (binaryOp .Add (.ref l) (.ref b)) Q E s :=
  add_arrays F N ⟨_, (N _ h1).1, rfl, _, rfl⟩ ⟨_, (N _ h2).1, rfl, _, rfl⟩ (fun h' F' N' => h _ h' F' N' fun p hp => Heap.lt_size (N p hp).1) (by rw [List.size_toArray, List.size_toArray, sizeLine_eq]; omega)
end
theorem bitAnd_nat (a b : Nat) : Builtin.bitAnd (a : Int) (b : Int) = ((a &&& b : Nat) : Int) := bitAnd_pp (Int.natCast_nonneg a) (Int.natCast_nonneg b)
theorem bitNot_two (x : Int) : Builtin.bitNot (Builtin.bitNot x) = x := by unfold Builtin.bitNot; omega
theorem bitOr_nat (a b : Nat) : Builtin.bitOr (a : Int) (b : Int) = ((a ||| b : Nat) : Int) := by
  unfold Builtin.bitOr
  rw [bitAnd_nn (by unfold Builtin.bitNot; omega) (by unfold Builtin.bitNot; omega), bitNot_two, bitNot_two, bitNot_two]
  rfl
theorem resV_or {a b : Nat} {ls : List Nat} {t1 t2 : Tok} : resV (.cls (if (60 : Nat) = 60 then a ||| b else a &&& b) ls) [.bool true, .int (Builtin.bitOr (a : Int) (b : Int)) t1, .str (st ls) t2] := ⟨_, _, by rw [if_pos rfl, bitOr_nat]⟩
theorem resV_and {a b : Nat} {ls : List Nat} {t1 t2 : Tok} : resV (.cls (if (62 : Nat) = 60 then a ||| b else a &&& b) ls) [.bool true, .int (Builtin.bitAnd (a : Int) (b : Int)) t1, .str (st ls) t2] := ⟨_, _, by rw [if_neg (by decide), bitAnd_nat]⟩
theorem head5 {α : Type} {a b c d e f : α} {rest R : List α} (h : ∀ p ∈ rest, p ∈ R) : ∀ p ∈ a :: rest, p ∈ a :: b :: c :: d :: e :: f :: R := by
  intro p hp
  simp only [List.mem_cons] at hp ⊢
  rcases hp with hp | hp
  · exact .inl hp
  · simp [h p hp]
noncomputable abbrev bfr (x : Str) (t : Tok) (x9 tb : Addr) (u : Str → Option Value) : Str → Option Value := fun y => if y = Str.ofString "word" then some (.str x t) else if y = Str.ofString "line" then some (.ref x9) else if y = Str.ofString "table" then some (.ref tb) else u y
theorem bfr_of {h₀ h : Heap} {L x9 tb : Addr} {x : Str} {t : Tok} {m : Str → Option Value} (F : Fr h₀ L h m) (h1 : m (Str.ofString "word") = some (.str x t)) (h2 : m (Str.ofString "line") = some (.ref x9)) (h3 : m (Str.ofString "table") = some (.ref tb)) : Fr h₀ L h (bfr x t x9 tb m) := by
  have e : m = bfr x t x9 tb m := by
    funext y
    by_cases a1 : y = Str.ofString "word"
    · subst a1; rw [h1]; rfl
    · by_cases a2 : y = Str.ofString "line"
      · subst a2; rw [h2]; rfl
      · by_cases a3 : y = Str.ofString "table"
        · subst a3; rw [h3]; rfl
        · simp only [bfr, if_neg a1, if_neg a2, if_neg a3]
  rw [← e]; exact F
theorem lines_B7_2 : True := by
  k_with "call ref" => ((k_here; (first
      | (with_reducible show wpAny _ _ (call (Value.ref 90) _) _ _ _; k_dflt (refine' MutCt.u5R (tok_U _ ?hLZ9 ?hrZ9 ?hqZ9 ?zZ9 ?UZ9 ?U2Z9 ?U3Z9) ?k1Z9 ?k2Z9 ?k3Z9 ?k4Z9 ?k5Z9 ?k6Z9 ?k7Z9 ?k8Z9 ?_; (case k1Z9 => k_asm); (case k2Z9 => k_asm); (case k3Z9 => k_asm); (case k4Z9 => k_asm); (case hLZ9 => assumption); (case UZ9 => k_updF); (case U2Z9 => (intro _; k_updF)); (case U3Z9 => (intro _ _; k_updF)); (case hrZ9 => (intro q9Z hq9Z; (repeat (first | exact hq9Z | apply List.Mem.tail)))); (case hqZ9 => assumption); (case zZ9 => ((try simp only [List.length_cons, List.length_append, List.length_nil]); omega)); (case k5Z9 => k_asm); (case k6Z9 => first | rfl | assumption); (case k7Z9 => ktr_room); (case k8Z9 => ktr_units)); intro h9Z tk9Z _ t9Z _ _ _ hq9Z F9Z N9Z)
      | (with_reducible show wpAny _ _ (call (Value.ref 97) _) _ _ _; k_dflt (refine' MutCt.u1E (push_U _ _ _ ?UZ9 ?m1Z9 ?m2Z9 ?zZ9) ?k1Z9 ?k2Z9 ?k3Z9 ?k4Z9 ?k5Z9 ?k6Z9 ?k7Z9 ?k8Z9 ?_; (case k1Z9 => k_asm); (case k2Z9 => k_asm); (case k3Z9 => k_asm); (case k4Z9 => k_asm); (case m1Z9 => k_mem); (case m2Z9 => k_mem); (case UZ9 => k_updF); (case zZ9 => ((try simp only [List.length_cons, List.length_append, List.length_nil]); omega)); (case k5Z9 => k_asm); (case k6Z9 => first | rfl | assumption); (case k7Z9 => ktr_room); (case k8Z9 => ktr_units)); intro h9Z tk9Z k9Z F9Z N9Z)
      | (with_reducible show wpAny _ _ (call (Value.ref 277) _) _ _ _; k_dflt (refine' PureCt.useE (sgn0_ct _ _ _) ?k1Z9 ?k2Z9 ?k3Z9 ?k4Z9 ?k5Z9 ?k6Z9 ?k7Z9 ?k8Z9 ?_; (case k1Z9 => k_asm); (case k2Z9 => k_asm); (case k3Z9 => k_asm); (case k4Z9 => k_asm); (case k5Z9 => k_asm); (case k6Z9 => first | rfl | assumption); (case k7Z9 => ktr_room); (case k8Z9 => ktr_units)); intro h9Z tk9Z t9Z F9Z N9Z)
      | (with_reducible show wpAny _ _ (call (Value.ref 277) _) _ _ _; k_dflt (refine' PureCt.useE (sgn_ct _ _ _ _ ?hcmZ9) ?k1Z9 ?k2Z9 ?k3Z9 ?k4Z9 ?k5Z9 ?k6Z9 ?k7Z9 ?k8Z9 ?_; (case k1Z9 => k_asm); (case k2Z9 => k_asm); (case k3Z9 => k_asm); (case k4Z9 => k_asm); (case hcmZ9 => first | assumption | decide); (case k5Z9 => k_asm); (case k6Z9 => first | rfl | assumption); (case k7Z9 => ktr_room); (case k8Z9 => ktr_units)); intro h9Z tk9Z t9Z F9Z N9Z)
      | (with_reducible show wpAny _ _ (call (Value.ref 62) _) _ _ _; k_dflt (refine' PureCt.useV (iseof_ct _ _ _ _) ?k1Z9 ?k2Z9 ?k3Z9 ?k4Z9 ?k5Z9 ?k6Z9 ?k7Z9 ?k8Z9 ?_; (case k1Z9 => k_asm); (case k2Z9 => k_asm); (case k3Z9 => k_asm); (case k4Z9 => k_asm); (case k5Z9 => k_asm); (case k6Z9 => first | rfl | assumption); (case k7Z9 => ktr_room); (case k8Z9 => ktr_units)); intro h9Z tk9Z F9Z N9Z)
      | (with_reducible show wpAny _ _ (call (Value.ref 55) _) _ _ _; k_dflt (refine' PureCt.useV (nonterm_ct _ _ _ _) ?k1Z9 ?k2Z9 ?k3Z9 ?k4Z9 ?k5Z9 ?k6Z9 ?k7Z9 ?k8Z9 ?_; (case k1Z9 => k_asm); (case k2Z9 => k_asm); (case k3Z9 => k_asm); (case k4Z9 => k_asm); (case k5Z9 => k_asm); (case k6Z9 => first | rfl | assumption); (case k7Z9 => ktr_room); (case k8Z9 => ktr_units)); intro h9Z tk9Z F9Z N9Z)
      | (with_reducible show wpAny _ _ (call (Value.ref 189) _) _ _ _; k_dflt (refine' MutCt.u3R (keys_ct _ _ _ _ _ _ _ _ _ _ _ ?h1Z9 ?h2Z9 ?h3Z9 ?hnZ9 ?hvZ9) ?k1Z9 ?k2Z9 ?k3Z9 ?k4Z9 ?k5Z9 ?k6Z9 ?k7Z9 ?k8Z9 ?_; (case k1Z9 => k_asm); (case k2Z9 => k_asm); (case k3Z9 => k_asm); (case k4Z9 => k_asm); (case h1Z9 => k_mem); (case h2Z9 => k_mem); (case h3Z9 => k_mem); (case hvZ9 => exact TabIs.mono (by assumption) (fun _ hp => by repeat (first | exact hp | apply List.Mem.tail))); (case hnZ9 => first | assumption | omega); (case k5Z9 => k_asm); (case k6Z9 => first | rfl | assumption); (case k7Z9 => ktr_room); (case k8Z9 => ktr_units)); intro h9Z tk9Z a9Z k9Z _ _ F9Z N9Z)
      | (with_reducible show wpAny _ _ (call (Value.ref 305) _) _ _ _; k_dflt (refine' PureCt.useE (setting_ct _ _ _ _ _ _ ?hmZ9 ?hcZ9 ?hvZ9) ?k1Z9 ?k2Z9 ?k3Z9 ?k4Z9 ?k5Z9 ?k6Z9 ?k7Z9 ?k8Z9 ?_; (case k1Z9 => k_asm); (case k2Z9 => k_asm); (case k3Z9 => k_asm); (case k4Z9 => k_asm); (case hvZ9 => exact strs_keys (by assumption)); (case hmZ9 => k_mem); (case hcZ9 => exact tab_letters (by assumption)); (case k5Z9 => k_asm); (case k6Z9 => first | rfl | assumption); (case k7Z9 => ktr_room); (case k8Z9 => ktr_units)); intro h9Z tk9Z t9Z F9Z N9Z)
      | (with_reducible show wpAny _ _ (call (Value.ref 284) _) _ _ _; k_dflt (refine' PureCt.useE (half_ct _ _ _ _ _ ?hfZ9 ?hzZ9 _ _) ?k1Z9 ?k2Z9 ?k3Z9 ?k4Z9 ?k5Z9 ?k6Z9 ?k7Z9 ?k8Z9 ?_; (case k1Z9 => k_asm); (case k2Z9 => k_asm); (case k3Z9 => k_asm); (case k4Z9 => k_asm); (case hfZ9 => assumption); (case hzZ9 => omega); (case k5Z9 => k_asm); (case k6Z9 => first | rfl | assumption); (case k7Z9 => ktr_room); (case k8Z9 => ktr_units)); intro h9Z tk9Z t9Z F9Z N9Z)
      | (with_reducible show wpAny _ _ (call (Value.ref 227) _) _ _ _; k_dflt (refine' MutCt.u1E (setS_U _ ?hfZ9 ?UZ9 ?h1Z9 ?h2Z9 ?hvZ9 ?hrZ9 ?hneZ9 ?htZ9 ?hsdZ9 ?hcZ9 ?hnZ9) ?k1Z9 ?k2Z9 ?k3Z9 ?k4Z9 ?k5Z9 ?k6Z9 ?k7Z9 ?k8Z9 ?_; (case k1Z9 => k_asm); (case k2Z9 => k_asm); (case k3Z9 => k_asm); (case k4Z9 => k_asm); (case hfZ9 => assumption); (case h1Z9 => k_mem); (case h2Z9 => k_mem); (case UZ9 => k_updF); (case hvZ9 => assumption); (case hrZ9 => (intro q9Z hq9Z; (repeat (first | exact hq9Z | apply List.Mem.tail)))); (case hneZ9 => assumption); (case htZ9 => assumption); (case hsdZ9 => assumption); (case hcZ9 => assumption); (case hnZ9 => omega); (case k5Z9 => k_asm); (case k6Z9 => first | rfl | assumption); (case k7Z9 => ktr_room); (case k8Z9 => ktr_units)); intro h9Z tk9Z t9Z F9Z N9Z)
      | (with_reducible show wpAny _ _ (call (Value.ref 227) _) _ _ _; k_dflt (refine' MutCt.u2S (setN_U _ ?hfZ9 ?UZ9 ?h1Z9 ?h2Z9 ?hvZ9 ?hrZ9 ?hneZ9 ?htZ9 ?hsdZ9 ?hcZ9 ?hnZ9) ?k1Z9 ?k2Z9 ?k3Z9 ?k4Z9 ?k5Z9 ?k6Z9 ?k7Z9 ?k8Z9 ?_; (case k1Z9 => k_asm); (case k2Z9 => k_asm); (case k3Z9 => k_asm); (case k4Z9 => k_asm); (case hfZ9 => assumption); (case h1Z9 => k_mem); (case h2Z9 => k_mem); (case UZ9 => k_updF); (case hvZ9 => assumption); (case hrZ9 => (intro q9Z hq9Z; (repeat (first | exact hq9Z | apply List.Mem.tail)))); (case hneZ9 => assumption); (case htZ9 => assumption); (case hsdZ9 => assumption); (case hcZ9 => assumption); (case hnZ9 => omega); (case k5Z9 => k_asm); (case k6Z9 => first | rfl | assumption); (case k7Z9 => ktr_room); (case k8Z9 => ktr_units)); intro h9Z tk9Z a9Z k9Z hl9Z F9Z N9Z; (have q1Z : @LT.lt Nat _ _ _ := hl9Z _ (List.Mem.head _); have q2Z : @LT.lt Nat _ _ _ := hl9Z _ (List.Mem.tail _ (List.Mem.head _)); have q3Z : @LT.lt Nat _ _ _ := hl9Z _ (List.Mem.tail _ (List.Mem.tail _ (List.Mem.head _))); have q4Z : @LT.lt Nat _ _ _ := hl9Z _ (List.Mem.tail _ (List.Mem.tail _ (List.Mem.tail _ (List.Mem.head _)))); (try dsimp only at q1Z q2Z q3Z q4Z)))
      | (with_reducible show wpAny _ _ (call (Value.ref 298) _) _ _ _; k_dflt (refine' MutCt.u3RS (clash_ct2 _ _ _ _ _ ?h1Z9 ?h2Z9 ?h3Z9 ?h4Z9 _ _ _) ?k1Z9 ?k2Z9 ?k3Z9 ?k4Z9 ?k5Z9 ?k6Z9 ?k7Z9 ?k8Z9 ?_; (case k1Z9 => k_asm); (case k2Z9 => k_asm); (case k3Z9 => k_asm); (case k4Z9 => k_asm); (case h1Z9 => assumption); (case h2Z9 => assumption); (case h3Z9 => assumption); (case h4Z9 => assumption); (case k5Z9 => k_asm); (case k6Z9 => first | rfl | assumption); (case k7Z9 => ktr_room); (case k8Z9 => ktr_units)); intro h9Z tk9Z a9Z k9Z _ _ hl9Z F9Z N9Z)
      | (with_reducible show wpAny _ _ (call (Value.ref 201) _) _ _ _; k_dflt (refine' MutCt.u2S (items_ct _ _ _ _ _ _ _ _ _ _ ?h1Z9 ?h2Z9 ?h3Z9 ?hnZ9) ?k1Z9 ?k2Z9 ?k3Z9 ?k4Z9 ?k5Z9 ?k6Z9 ?k7Z9 ?k8Z9 ?_; (case k1Z9 => k_asm); (case k2Z9 => k_asm); (case k3Z9 => k_asm); (case k4Z9 => k_asm); (case h1Z9 => k_mem); (case h2Z9 => k_mem); (case h3Z9 => k_mem); (case hnZ9 => omega); (case k5Z9 => k_asm); (case k6Z9 => first | rfl | assumption); (case k7Z9 => ktr_room); (case k8Z9 => ktr_units)); intro h9Z tk9Z a9Z k9Z hl9Z F9Z N9Z)); (try dsimp only); (try k_sweep)))
  k_with "subscriptTail" => ((k_here; (with_reducible show wpAny _ _ (subscriptTail _ _ (Value.str (st _) _) (Value.int _ _)) _ _ _); k_dflt (refine' item_st ?hiZ9 ?hdZ9 ?hpZ9 ?_; (case hiZ9 => first | rfl | assumption); (case hdZ9 => first | assumption | rfl); (case hpZ9 => ((try simp only [List.length_cons, List.length_append, Fm.enc_len, List.length_nil]); omega))); intro _ _))
  k_with "subscriptTail Name Name str int" => ((k_here; (with_reducible show wpAny _ _ (subscriptTail _ _ (Value.str (st _) _) (Value.int _ _)) _ _ _); k_dflt (refine' item_st ?hiZ9 ?hdZ9 ?hpZ9 ?_; (case hiZ9 => first | rfl | assumption); (case hdZ9 => first | assumption | rfl); (case hpZ9 => ((try simp only [List.length_cons, List.length_append, Fm.enc_len, List.length_nil]); omega))); intro _ _))
  k_with "subscriptTail Name Constant str int" => ((k_here; (with_reducible show wpAny _ _ (subscriptTail _ _ (Value.str (st _) _) (Value.int _ _)) _ _ _); k_dflt (refine' item_st ?hiZ9 ?hdZ9 ?hpZ9 ?_; (case hiZ9 => first | rfl | assumption); (case hdZ9 => first | assumption | rfl); (case hpZ9 => ((try simp only [List.length_cons, List.length_append, Fm.enc_len, List.length_nil]); omega))); intro _ _))
  k_with "subscriptTail Name Slice str ref" => ((k_here; (with_reducible show wpAny _ _ (subscriptTail _ (PySem.Expr.Slice (some _) (some _) none _) (Value.str (st _) _) (Value.ref _)) _ _ _); (with_reducible rename Fr _ _ _ _ => F9Z); (with_reducible rename News _ _ _ _ => N9Z); k_dflt (refine' cut_ss (s := ⟨_, _, _, _, _⟩) ?hiZ9 ?hjZ9 ?hxZ9 F9Z N9Z ?hszZ9 ?_; (case hiZ9 => first | rfl | assumption); (case hjZ9 => first | rfl | assumption); (case hxZ9 => first | assumption | rfl); (case hszZ9 => ((try simp only [List.length_cons, List.length_append, Fm.enc_len, List.length_nil]); omega))); intro _ _ _ _ _))
  k_with "subscriptTail Name Slice str ref" => ((k_here; (with_reducible show wpAny _ _ (subscriptTail _ (PySem.Expr.Slice (some _) none none _) (Value.str (st _) _) (Value.ref _)) _ _ _); (with_reducible rename Fr _ _ _ _ => F9Z); (with_reducible rename News _ _ _ _ => N9Z); k_dflt (refine' cut_sn (s := ⟨_, _, _, _, _⟩) ?hiZ9 ?hxZ9 F9Z N9Z ?hszZ9 ?_; (case hiZ9 => first | rfl | assumption); (case hxZ9 => first | assumption | rfl); (case hszZ9 => ((try simp only [List.length_cons, List.length_append, Fm.enc_len, List.length_nil]); omega))); intro _ _ _ _ _))
  k_with "binaryOp Add str str" => ((k_here; k_dflt (refine' add_st ?szZ9 ?_; (case szZ9 => ((try simp only [List.length_cons, List.length_nil, List.length_append]); omega))); intro _ _))
  k_with "inplaceOp Add str str" => ((k_here; k_dflt (refine' iadd_st ?szZ9 ?_; (case szZ9 => ((try simp only [List.length_cons, List.length_nil, List.length_append]); omega))); intro _ _))
  k_with "exec For" => ((k_here; k_dflt (refine' for_open ?_ ?hsZ9; (case hsZ9 => (intro _; rfl)))))
  k_with "subscriptTail" => ((k_here; (with_reducible show wpAny _ _ (subscriptTail _ _ (Value.ref _) (Value.int _ _)) _ _ _); k_dflt (refine' item_ld ?NZ9 ?mZ9 ?h0Z9 ?hfZ9 ?hxZ9 ?_; (case NZ9 => k_asm); (case mZ9 => k_mem); (case h0Z9 => decide); (case hfZ9 => decide); (case hxZ9 => rfl); k_whole)))
  k_with "subscriptTail Name Constant ref int" => ((k_here; (with_reducible show wpAny _ _ (subscriptTail _ _ (Value.ref _) (Value.int _ _)) _ _ _); k_dflt (refine' item_ld ?NZ9 ?mZ9 ?h0Z9 ?hfZ9 ?hxZ9 ?_; (case NZ9 => k_asm); (case mZ9 => k_mem); (case h0Z9 => decide); (case hfZ9 => decide); (case hxZ9 => rfl); k_whole)))
  k_with "subscriptTail Name Slice ref ref" => ((k_here; (with_reducible show wpAny _ _ (subscriptTail _ (PySem.Expr.Slice none (some _) none _) (Value.ref _) (Value.ref _)) _ _ _); (with_reducible rename Fr _ _ _ _ => F9Z); (with_reducible rename News _ _ _ _ => N9Z); k_dflt (refine' slice_l1 (s := ⟨_, _, _, _, _⟩) F9Z N9Z ?mZ9 ?_; (case mZ9 => k_mem); k_whole); intro _ _ F9Z N9Z l9Z; (try k_lt l9Z)))
  k_with "subscriptTail Name Slice ref ref" => ((k_here; (with_reducible show wpAny _ _ (subscriptTail _ (PySem.Expr.Slice (some _) none none _) (Value.ref _) (Value.ref _)) _ _ _); (with_reducible rename Fr _ _ _ _ => F9Z); (with_reducible rename News _ _ _ _ => N9Z); k_dflt (refine' slice_l2 (s := ⟨_, _, _, _, _⟩) F9Z N9Z ?mZ9 ?_; (case mZ9 => k_mem); k_whole); intro _ _ F9Z N9Z l9Z; (try k_lt l9Z)))
  k_with "binaryOp Add ref ref" => ((k_here; k_dflt (refine' add_ld ?FZ9 ?NZ9 ?m1Z9 ?m2Z9 ?zZ9 ?_; (case FZ9 => k_asm); (case NZ9 => k_asm); (case m1Z9 => k_mem); (case m2Z9 => k_mem); (case zZ9 => ((try simp only [List.length_cons, List.length_nil]); omega)); k_whole); intro _ _ _ _ l9Z; (try k_lt l9Z)))
  trivial
theorem room_ih {dp n mm : Nat} (h : dp < 590 - n) (hm : mm + 1 ≤ n) : dp + 1 < 590 - mm := by omega
theorem units_ih {un n mm : Nat} (h : un < 590 - 10 * n) (hm : mm + 1 ≤ n) (hn : n ≤ 14) : un + 3 < 590 - 10 * mm := by omega
theorem branch_step (w : World) (n : Nat) (IH : BrAll w n) : BranchOk w n := by
  intro ws tab wl pl wv pv nw np rest hn hw ht hv hpv hwl hpl hcode htab hn14
  unfold MutCt
  k_fill
  intro loose mean mg mb dp un gd cn cs a ccd cl outer A₀ base h₀ L m s Q E B F X N T hk hd hu hret
  have hd9 : dp < 590 := Nat.lt_of_lt_of_le hd (Nat.sub_le _ _)
  have hu9 : un < 590 := Nat.lt_of_lt_of_le hu (Nat.sub_le _ _)
  refine wpAny_call ?_
  k_dflt (refine' code_def ?k1 ?k2 ?k3 ?k4 ?k5 ?kA ?kF ?kK ?k6 ?k7 ?k8 ?k9 ?kB ?_ ?c2 ?c3 ?c4 ?c5; (case kA => exact rfl); (case kF => exact rfl); (case kK => assumption); (case k1 => k_asm); (case k2 => k_asm); (case k3 => k_asm); (case k4 => k_asm); (case k5 => k_asm); (case k6 => k_is); (case k7 => k_is); (case k8 => ktr_room); (case k9 => first | exact BindsTo.of_eq rfl | exact binds_K (by k_in) rfl (by k_is) rfl rfl rfl); (case c5 => decide); (case kB => exact locs rfl); (case c2 => exact rfl); (case c3 => exact rfl); (case c4 => exact rfl); k_whole; intro g' L' h' FG' F' N' B' X' T'; (try dsimp only); (try k_fold))
  refine wpAny_mono (E := nE) ?_ (fun _ _ z => z) (fun _ _ z => z.elim)
  k_steps
  k_dflt (refine' MutCt.useC (line_b w _ _ _ _ hcode hpl) ?k1 ?k2 ?k3 ?k4 ?k5 ?k6 ?k7 ?k8 ?_; (case k1 => k_asm); (case k2 => k_asm); (case k3 => k_asm); (case k4 => k_asm); (case k5 => k_asm); (case k6 => first | rfl | assumption); (case k7 => ktr_room); (case k8 => ktr_units))
  intro h1 tk1 pb x9 dx fL al tp t1 t2 t3 t4 t5 t6 R hX hsub F1 N1
  have n1 := hX.npb
  have n2 := hX.npl
  have n3 := hX.nal
  have n4 := hX.ndx
  have e1 := hX.e1
  have e2 := hX.e2
  have e3 := hX.e3
  have e4 := hX.e4
  have e5 := hX.e5
  have e6 := hX.e6
  have hin := hX.inst
  have hwl' := hsub _ hwl
  have hwn : wv.length ≤ 14 := by have := len_szs ws; have := hv.length; rw [List.length_map] at this; omega
  (try dsimp only)
  (try k_sweep)
  k_steps
  rename Fr _ _ _ _ => F9
  rename News _ _ _ _ => N9
  refine for_led2 (Str.ofString "word") (Str.ofString "word") (vs := wv) (fun i news' => ∃ k, news' = (pb, PySem.W.listOf (wv.take i).toArray k) :: (pl, PySem.W.listOf pv.toArray np) :: (al, PySem.W.listOf [Value.int 0 tp].toArray 0) :: (dx, dictOf [⟨PyData.keyHash w.params (Str.ofString "lineno"), .str (Str.ofString "lineno") t1, .int 1 t2⟩, ⟨PyData.keyHash w.params (Str.ofString "instream"), .str (Str.ofString "instream") t3, .ref fL⟩, ⟨PyData.keyHash w.params (Str.ofString "whitespace"), .str (Str.ofString "whitespace") t4, .str (Str.ofString "\n\t\x0d ") t5⟩, ⟨PyData.keyHash w.params (Str.ofString "pushback"), .str (Str.ofString "pushback") t6, .ref pb⟩] 4) :: R) rfl F9 N9 ⟨_, rfl⟩ ?_ ?_ ?_
  · rintro i news h ⟨k, rfl⟩ _ N
    exact ⟨_, (N _ (.tail _ (.tail _ (.tail _ (.tail _ hwl'))))).1, rfl, _, rfl⟩
  · rintro i v u news₁ h tk I oI hi ha hlt hL ⟨k, rfl⟩ F1 N1
    obtain ⟨x, t, hx, rfl⟩ := hv.get hi
    have l1 : @LT.lt Nat _ pb I := hlt _ (.head _)
    have l2 : @LT.lt Nat _ pl I := hlt _ (.tail _ (.head _))
    have l3 : @LT.lt Nat _ al I := hlt _ (.tail _ (.tail _ (.head _)))
    have l4 : @LT.lt Nat _ dx I := hlt _ (.tail _ (.tail _ (.tail _ (.head _))))
    have l5 : ∀ q ∈ R, q.1 ≠ I := fun q hq => Nat.ne_of_lt (hlt _ (.tail _ (.tail _ (.tail _ (.tail _ hq)))))
    clear F9 N9 hlt
    have hi9 : (wv.take i).length ≤ 14 := by rw [List.length_take]; omega
    k_steps
    rename Fr _ _ _ _ => F8
    rename News _ _ _ _ => N8
    have et : wv.take i ++ [Value.str x t] = wv.take (i + 1) := by rw [List.take_add_one, hi]; rfl
    rw [et] at N8
    refine ⟨_, _, _, _, rfl, F8, N8, rfl, ?_, _, rfl⟩
    intro y hy1 hy2
    simp [fr2, hy1, hy2]
  · rintro u news₁ h tk ⟨k, rfl⟩ ha F1 N1
    clear F9 N9
    rw [List.take_length] at N1
    k_steps
    k_dflt (refine' MutCt.u4S (new_ct w pl np pv tab _ ?m1 ?m2 ht) ?k1 ?k2 ?k3 ?k4 ?k5 ?k6 ?k7 ?k8 ?_; (case k1 => k_asm); (case k2 => k_asm); (case k3 => k_asm); (case k4 => k_asm); (case m1 => k_mem); (case m2 => exact (hpv.mono hsub).mono (fun _ hp => .tail _ (.tail _ (.tail _ (.tail _ hp))))); (case k5 => k_asm); (case k6 => first | rfl | assumption); (case k7 => ktr_room); (case k8 => ktr_units))
    intro h2 tk2 tb td hh th g12 F2 N2
    have g1 := g12.1
    have g2 := g12.2
    clear g12
    have a1 : @LT.lt Nat _ pb td := g1 _ (.head _)
    have a2 : @LT.lt Nat _ pl td := g1 _ (.tail _ (.head _))
    have a3 : @LT.lt Nat _ al td := g1 _ (.tail _ (.tail _ (.head _)))
    have a4 : @LT.lt Nat _ dx td := g1 _ (.tail _ (.tail _ (.tail _ (.head _))))
    have g2' : @LT.lt Nat _ td tb := g2
    have N3 : News g' L' h2 ((pb, PySem.W.listOf wv.toArray k) :: (pl, PySem.W.listOf pv.toArray np) :: (al, PySem.W.listOf [Value.int 0 tp].toArray 0) :: (dx, dictOf [⟨PyData.keyHash w.params (Str.ofString "lineno"), .str (Str.ofString "lineno") t1, .int 1 t2⟩, ⟨PyData.keyHash w.params (Str.ofString "instream"), .str (Str.ofString "instream") t3, .ref fL⟩, ⟨PyData.keyHash w.params (Str.ofString "whitespace"), .str (Str.ofString "whitespace") t4, .str (Str.ofString "\n\t\x0d ") t5⟩, ⟨PyData.keyHash w.params (Str.ofString "pushback"), .str (Str.ofString "pushback") t6, .ref pb⟩] 4) :: (tb, instObj 237 td) :: (td, dictOf [⟨hh, .str (Str.ofString "_headers") th, .ref pl⟩] 1) :: R) := news_sub N2 perm6
    have hB : BrIn w x9 dx fL pb pl al tb td hh th rest ((tb, instObj 237 td) :: (td, dictOf [⟨hh, .str (Str.ofString "_headers") th, .ref pl⟩] 1) :: R) pv tab :=
      ⟨(hX.cons (by omega) (by omega) (by omega) (by omega)).cons (by omega) (by omega) (by omega) (by omega), .head _, .tail _ (.head _), (hpv.mono hsub).mono fun _ hp => .tail _ (.tail _ hp), fun p hp => .tail _ (.tail _ (hsub p hp))⟩
    generalize (tb, instObj 237 td) :: (td, dictOf [⟨hh, .str (Str.ofString "_headers") th, .ref pl⟩] 1) :: R = R2 at N3 hB
    clear N2 N1 F1 hin hwl' n1 n2 n3 n4 hsub hX g1
    have hX := hB.lexIn
    have n1 := hX.npb
    have n2 := hX.npl
    have n3 := hX.nal
    have n4 := hX.ndx
    have hin := hX.inst
    (try dsimp only)
    (try k_sweep)
    k_steps
    rename Fr _ _ _ _ => F9
    rename News _ _ _ _ => N9
    rename TokR _ _ _ _ _ _ _ _ => hq
    have F8 := bfr_of F9 rfl rfl rfl
    clear F9
    refine ⟨n + 1, ?_⟩
    refine with_P (P := WRest _ _ _ _ _ _ _) (fun P hP => ?_)
    have hret' : ∀ (a : Addr) (k : Nat) (vs : List Value) (h' : Heap) (tk' : Nat), resV (br ws tab) vs → (∀ p ∈ rest, p.1 < a) → Fr h₀ L h' m → News h₀ L h' ((a, PySem.W.listOf vs.toArray k) :: rest) → Q (.ref a) { s with heap := h', toks := tk' } := fun a k vs h' tk' hv hl F N => hret _ h' tk' _ ⟨a, k, vs, rfl, hv, rfl, hl⟩ F N
    generalize hres : br ws tab = res at hret'
    clear hret
    have fin : ∀ (j : Nat) (tab' : List (Nat × Nat)) (pv' : List Value) (np' n1' : Nat) (o2 o3 : Obj) (t : Tok) (u : Str → Option Value) (R : List (Addr × Obj)) (h : Heap) (tk : Nat), .opn (sett tab') = res → TabOk tab' → tab'.length ≤ 60 → BrIn w x9 dx fL pb pl al tb td hh th rest R pv' tab' → Fr g' L' h (bfr (st []) t x9 tb u) → News g' L' h ((pb, PySem.W.listOf ([] : List Value).toArray n1') :: (pl, PySem.W.listOf pv'.toArray np') :: (al, o2) :: (dx, o3) :: R) → P (j + 1) { s with heap := h, toks := tk } := by
      clear F8 N9 hq hB hX n1 n2 n3 n4 hin
      intro j tab' pv' np' n1' o2 o3 t u R h tk hb' ht' htl hB F7 N7
      have hX := hB.lexIn
      have htbi := hB.tbi
      have htdi := hB.tdi
      have htabi := hB.tab
      have hpl9 : pv'.length ≤ 100 := by rw [hB.tab.length]; omega
      rw [hP]
      refine WRest.go ?_
      k_steps
      rename (_ ∧ _ ∧ _ ∧ _ ∧ _ ∧ AllLt _ _) => l8
      subst hb'
      rename News _ _ _ _ => N9
      exact hret' _ _ _ _ _ ⟨_, _, rfl⟩ (fun p hp => allLt_all l8.2.2.2.2.2 _ (hB.sub p hp)) (by assumption) (news_sub N9 (head5 hB.sub))
    have loop : ∀ (mm : Nat) (ws' : List (Nat × Fm)) (tab' : List (Nat × Nat)) (pv' qv : List Value) (np' na' : Nat) (x : Str) (t tp t1 t2 t3 t4 t5 t6 : Tok) (ln : Int) (o1 o2 o3 : Obj) (u : Str → Option Value) (R : List (Addr × Obj)) (h : Heap) (tk : Nat), szs ws' ≤ mm → mm ≤ n → WsOk ws' → TabOk tab' → tab'.length + mm ≤ 60 → br ws' tab' = res → StrsAre qv (ws'.map fun p => st (wst p)) → TokR qv x t (PySem.W.listOf [Value.int 0 tp].toArray na') (dictOf [⟨PyData.keyHash w.params (Str.ofString "lineno"), .str (Str.ofString "lineno") t1, .int ln t2⟩, ⟨PyData.keyHash w.params (Str.ofString "instream"), .str (Str.ofString "instream") t3, .ref fL⟩, ⟨PyData.keyHash w.params (Str.ofString "whitespace"), .str (Str.ofString "whitespace") t4, .str (Str.ofString "\n\t\x0d ") t5⟩, ⟨PyData.keyHash w.params (Str.ofString "pushback"), .str (Str.ofString "pushback") t6, .ref pb⟩] 4) o1 o2 o3 → BrIn w x9 dx fL pb pl al tb td hh th rest R pv' tab' → Fr g' L' h (bfr x t x9 tb u) → News g' L' h ((pb, o1) :: (pl, PySem.W.listOf pv'.toArray np') :: (al, o2) :: (dx, o3) :: R) → P (mm + 1) { s with heap := h, toks := tk } := by
      clear F8 N9 hq hB hX n1 n2 n3 n4 hin hres
      intro mm
      induction mm with
      | zero =>
        intro ws' tab' pv' qv np' na' x t tp t1 t2 t3 t4 t5 t6 ln o1 o2 o3 u R h tk hsz hmm hw' ht' htl hbr hqv hq hB
        cases ws' with
        | cons y ws' => have := y.2.sz_pos; simp [szs] at hsz; omega
        | nil =>
          cases hqv
          obtain ⟨rfl, k, rfl⟩ := hq
          intro F7 N7
          rw [br_nil] at hbr
          exact fin 0 tab' pv' np' k o2 o3 t u R h tk hbr ht' (by omega) hB F7 N7
      | succ mm ihl =>
        intro ws' tab' pv' qv np' na' x t tp t1 t2 t3 t4 t5 t6 ln o1 o2 o3 u R h tk hsz hmm hw' ht' htl hbr hqv hq hB
        match ws', hsz, hw', hbr, hqv with
        | [], hsz, hw', hbr, hqv =>
          cases hqv
          obtain ⟨rfl, k, rfl⟩ := hq
          intro F7 N7
          rw [br_nil] at hbr
          exact fin (mm + 1) tab' pv' np' k o2 o3 t u R h tk hbr ht' (by omega) hB F7 N7
        | (s9, f9) :: cur, hsz, hw', hbr, hqv =>
          have h60 : tab'.length + mm ≤ 60 := Nat.le_of_succ_le htl
          have hmn : mm ≤ n := Nat.le_of_succ_le hmm
          have h14m : mm ≤ 14 := Nat.le_trans hmn hn14
          obtain ⟨v0, qv, t0, rfl, rfl, hqv'⟩ : ∃ v0 qv' t0, qv = v0 :: qv' ∧ v0 = .str (st (wst (s9, f9))) t0 ∧ StrsAre qv' (cur.map fun p => st (wst p)) := by cases hqv with | cons h => exact ⟨_, _, _, rfl, rfl, h⟩
          obtain ⟨hqe, ⟨nq, rfl⟩, rfl, rfl⟩ := hq
          cases hqe
          clear hqv
          have hX := hB.lexIn
          have n1 := hX.npb
          have n2 := hX.npl
          have n3 := hX.nal
          have n4 := hX.ndx
          have hin := hX.inst
          have htbi := hB.tbi
          have htdi := hB.tdi
          have htabi := hB.tab
          have hws : WsOk cur := fun w h => hw' w (.tail _ h)
          obtain ⟨hs9, hf9⟩ := hw' _ (.head _)
          dsimp only at hs9 hf9
          have hql : qv.length ≤ 20 := by
            have a := len_szs cur; have b := hqv'.length; rw [List.length_map] at b
            simp [szs] at hsz a; omega
          have hpl9 : pv'.length ≤ 60 := by rw [htabi.length]; omega
          cases f9 with
          | lit c =>
            intro F7 N7
            have hc : c ∈ letters := hf9
            have hcs : c ∈ signs := letter_sign hc
            have hs := letter_sym c hc
            have hw1 : (([s9, c] : List Nat).drop 1).take (2 - 1) = [c] := rfl
            have hd1 : ([s9, c] : List Nat).drop 1 = c :: [] := rfl
            have hn' : szs cur ≤ mm := by simp [szs, Fm.sz] at hsz ⊢; omega
            dsimp only [wst, Fm.enc] at F7
            rw [hP]
            refine WRest.go ?_
            cases hf : tab'.find? (fun p => lowN p.2 == lowN c) with
            | none =>
              k_steps
              · rename (_ != _) = true => ha
                exact absurd ha (by simp)
              · rename Fr _ _ _ _ => F6
                rename News _ _ _ _ => N6
                rename TokR _ _ _ _ _ _ _ _ => hq6
                dsimp only
                have F5 := bfr_of F6 rfl rfl rfl
                refine (congrFun (congrFun hP _) _).mp (ihl cur (tab' ++ [(s9, c)]) _ qv _ _ _ _ _ _ _ _ _ _ _ _ _ _ _ _ _ _ _ hn' (by first | with_reducible assumption | omega) hws (ht'.snoc hs9 hc) (by rw [List.length_append, List.length_singleton]; omega) ((br_new hf).symm.trans hbr) hqv' hq6 (hB.snoc ?_ ?_ ?_ ?_) F5 (news_sub N6 perm5))
                all_goals omega
            | some p =>
              obtain ⟨hp1, hp2⟩ := ht' p (List.mem_of_find?_eq_some hf)
              have hpe : ([p.1, p.2] : List Nat).drop 1 = p.2 :: [] := rfl
              k_steps
              · rename (_ != _) = true => ha
                rename (∀ p : Addr × Obj, p ∈ _ → p.1 < _) => hl6
                rename News _ _ _ _ => N6
                rename resV _ _ => hv6
                have hne : p.2 ≠ c := fun e => absurd ha (by simp [e])
                rw [show clash (p.1, p.2) (s9, c) = res from ((br_clash hf hne).symm.trans hbr)] at hv6
                exact hret' _ _ _ _ _ hv6 (fun p hp => hl6 _ (List.Mem.tail _ (List.Mem.tail _ (List.Mem.tail _ (List.Mem.tail _ (hB.sub p hp)))))) (by assumption) (news_sub N6 (head4 hB.sub))
              · rename (_ != _) = false => ha
                rename Fr _ _ _ _ => F6
                rename News _ _ _ _ => N6
                rename TokR _ _ _ _ _ _ _ _ => hq6
                dsimp only
                have F5 := bfr_of F6 rfl rfl rfl
                have he : p.2 = c := st1_of (by simpa using ha)
                exact (congrFun (congrFun hP _) _).mp (ihl cur tab' _ qv _ _ _ _ _ _ _ _ _ _ _ _ _ _ _ _ _ _ _ hn' (by first | with_reducible assumption | omega) hws ht' (by first | with_reducible assumption | omega) ((br_old hf he).symm.trans hbr) hqv' hq6 hB F5 N6)
          | con f g =>
            intro F7 N7
            obtain ⟨hf, hg⟩ : f.In letters ∧ g.In letters := hf9
            have hz2 : f.sz + g.sz ≤ 14 := by simp [szs, Fm.sz] at hsz; omega
            have hfl : f.enc.length ≤ 14 := by rw [f.enc_len]; omega
            have hgl : g.enc.length ≤ 14 := by rw [g.enc_len]; omega
            have hw1 : ((s9 :: 38 :: (f.enc ++ g.enc)).drop 1).take (2 - 1) = [38] := rfl
            have hd0 : (s9 :: 38 :: (f.enc ++ g.enc)).drop 0 = s9 :: (38 :: (f.enc ++ g.enc)) := rfl
            have hd1 : (s9 :: 38 :: (f.enc ++ g.enc)).drop 1 = 38 :: (f.enc ++ g.enc) := rfl
            have hc1 : ((s9 :: 38 :: (f.enc ++ g.enc)).drop 2).take (2 + f.sz - 2) = f.enc := by rw [Nat.add_sub_cancel_left]; exact List.take_left' f.enc_len
            have hc2 : (s9 :: 38 :: (f.enc ++ g.enc)).drop (2 + f.sz) = g.enc := by rw [Nat.add_comm]; exact List.drop_left' f.enc_len
            dsimp only [wst, Fm.enc] at F7
            rw [hP]
            refine WRest.go ?_
            k_steps
            rename Fr _ _ _ _ => F9
            rename News _ _ _ _ => N9
            rename (_ ∧ _ ∧ _ ∧ _ ∧ AllLt _ _) => l8
            refine cap_for F9 N9 l8 (fun lh tA tB k' F8 N8 l8 => ?_)
            clear F9 N9
            have l81 := ltN l8.1
            have l82 := ltN l8.2.1
            have l83 := ltN l8.2.2.1
            have l84 := ltN l8.2.2.2.1
            have l85 := l8.2.2.2.2
            clear l8
            have l86 : ∀ p ∈ R, p.1 ≠ lh := ne_all (allLt_all l85)
            have hv2 : StrsAre [Value.str (st (s9 :: f.enc)) tA, Value.str (st (s9 :: g.enc)) tB] (([(s9, f), (s9, g)] : List (Nat × Fm)).map fun p => st (wst p)) := .cons (.cons .nil)
            refine for_led2 (Str.ofString "half") (Str.ofString "half") (vs := [Value.str (st (s9 :: f.enc)) tA, Value.str (st (s9 :: g.enc)) tB]) (fun i news' => ∃ k, news' = (lh, PySem.W.listOf [Value.str (st (s9 :: f.enc)) tA, Value.str (st (s9 :: g.enc)) tB].toArray k') :: (pb, PySem.W.listOf (qv ++ [Value.str (st (s9 :: f.enc)) tA, Value.str (st (s9 :: g.enc)) tB].take i).toArray k) :: (pl, PySem.W.listOf pv'.toArray np') :: (al, PySem.W.listOf [Value.int 0 tp].toArray na') :: (dx, dictOf [⟨PyData.keyHash w.params (Str.ofString "lineno"), .str (Str.ofString "lineno") t1, .int ln t2⟩, ⟨PyData.keyHash w.params (Str.ofString "instream"), .str (Str.ofString "instream") t3, .ref fL⟩, ⟨PyData.keyHash w.params (Str.ofString "whitespace"), .str (Str.ofString "whitespace") t4, .str (Str.ofString "\n\t\x0d ") t5⟩, ⟨PyData.keyHash w.params (Str.ofString "pushback"), .str (Str.ofString "pushback") t6, .ref pb⟩] 4) :: R) rfl F8 N8 ⟨_, by rw [List.take_zero, List.append_nil]⟩ ?_ ?_ ?_
            · rintro i news h ⟨k, rfl⟩ _ N
              exact ⟨_, (N _ (.head _)).1, rfl, _, rfl⟩
            · rintro i v u' news₁ h tk I oI hi ha hlt hL ⟨k, rfl⟩ F1 N1
              obtain ⟨xx, tx, hx, rfl⟩ := hv2.get hi
              have m0 : @LT.lt Nat _ lh I := hlt _ (.head _)
              have m1 : @LT.lt Nat _ pb I := hlt _ (.tail _ (.head _))
              have m2 : @LT.lt Nat _ pl I := hlt _ (.tail _ (.tail _ (.head _)))
              have m3 : @LT.lt Nat _ al I := hlt _ (.tail _ (.tail _ (.tail _ (.head _))))
              have m4 : @LT.lt Nat _ dx I := hlt _ (.tail _ (.tail _ (.tail _ (.tail _ (.head _)))))
              have m5 : ∀ q ∈ R, q.1 ≠ I := fun q hq => Nat.ne_of_lt (hlt _ (.tail _ (.tail _ (.tail _ (.tail _ (.tail _ hq))))))
              clear F8 N8 hlt
              have hi9 : (List.take i [Value.str (st (s9 :: f.enc)) tA, Value.str (st (s9 :: g.enc)) tB]).length ≤ 2 := by rw [List.length_take]; exact Nat.min_le_right _ _
              k_steps
              rename Fr _ _ _ _ => F6
              rename News _ _ _ _ => N6
              have et : (qv ++ [Value.str (st (s9 :: f.enc)) tA, Value.str (st (s9 :: g.enc)) tB].take i) ++ [Value.str xx tx] = qv ++ [Value.str (st (s9 :: f.enc)) tA, Value.str (st (s9 :: g.enc)) tB].take (i + 1) := by rw [List.take_add_one, hi, List.append_assoc]; rfl
              rw [et] at N6
              refine ⟨_, _, _, _, rfl, F6, N6, rfl, ?_, _, rfl⟩
              intro y hy1 hy2
              simp [fr2, hy1, hy2]
            · rintro u' news₁ h tk ⟨k, rfl⟩ ha F1 N1
              clear F8 N8
              rw [List.take_length] at N1
              have hqq := StrsAre.append hqv' hv2
              k_steps
              rename Fr _ _ _ _ => F6
              rename News _ _ _ _ => N6
              rename TokR _ _ _ _ _ _ _ _ => hq6
              dsimp only
              have F5 := bfr_of F6 rfl rfl rfl
              rw [← List.map_append] at hqq
              exact (congrFun (congrFun hP _) _).mp (ihl (cur ++ [(s9, f), (s9, g)]) tab' _ _ _ _ _ _ _ _ _ _ _ _ _ _ _ _ _ _ _ _ _ (by rw [szs_append]; simp [szs, Fm.sz] at hsz ⊢; omega) (by first | with_reducible assumption | omega) (two_ok hws hs9 hf hg) ht' (by first | with_reducible assumption | omega) (br_con.symm.trans hbr) hqq hq6 hB F5 (news_sub N6 fun _ h => .tail _ h))
          | dis f g =>
            intro F7 N7
            obtain ⟨hf, hg⟩ : f.In letters ∧ g.In letters := hf9
            have hz2 : f.sz + g.sz ≤ 14 := by simp [szs, Fm.sz] at hsz; omega
            have hfl : f.enc.length ≤ 14 := by rw [f.enc_len]; omega
            have hgl : g.enc.length ≤ 14 := by rw [g.enc_len]; omega
            have hw1 : ((s9 :: 124 :: (f.enc ++ g.enc)).drop 1).take (2 - 1) = [124] := rfl
            have hd0 : (s9 :: 124 :: (f.enc ++ g.enc)).drop 0 = s9 :: (124 :: (f.enc ++ g.enc)) := rfl
            have hd1 : (s9 :: 124 :: (f.enc ++ g.enc)).drop 1 = 124 :: (f.enc ++ g.enc) := rfl
            have hc1 : ((s9 :: 124 :: (f.enc ++ g.enc)).drop 2).take (2 + f.sz - 2) = f.enc := by rw [Nat.add_sub_cancel_left]; exact List.take_left' f.enc_len
            have hc2 : (s9 :: 124 :: (f.enc ++ g.enc)).drop (2 + f.sz) = g.enc := by rw [Nat.add_comm]; exact List.drop_left' f.enc_len
            dsimp only [wst, Fm.enc] at F7
            rw [hP]
            refine WRest.go ?_
            k_steps
            k_dflt (refine' MutCt.u2S ((rest_ct w x9 dx fL pb al ln tp t1 t2 t3 t4 t5 t6 _ _ qv (cur.map wst) _ ?hv ?hne ?h1 ?hS ?h3 ?h4 ?h6 ?h5 ?h7 ?h8 ?hn).sub permR (fun r n hp => ⟨n, hp, fun _ h => h⟩)) ?k1 ?k2 ?k3 ?k4 ?k5 ?k6 ?k7 ?k8 ?_; (case k1 => k_asm); (case k2 => k_asm); (case k3 => k_asm); (case k4 => k_asm); (case hv => (rw [List.map_map]; exact hqv')); (case hne => exact wst_ne _); (case h1 => k_mem); (case hS => exact hX.lex.mono (fun _ hp => .tail _ (.tail _ hp))); (case h3 => k_all); (case h4 => k_all); (case h6 => k_all); (case h5 => omega); (case h7 => omega); (case h8 => omega); (case hn => omega); (case k5 => k_asm); (case k6 => first | rfl | assumption); (case k7 => ktr_room); (case k8 => ktr_units))
            intro h3 tk3 lr kr hlr F3 N3
            have r1 : @LT.lt Nat _ _ lr := hlr _ (List.Mem.head _)
            have r2 : @LT.lt Nat _ pl lr := hlr _ (List.Mem.tail _ (List.Mem.head _))
            have r3 : ∀ p ∈ R, p.1 ≠ lr := fun p hp => Nat.ne_of_lt (hlr p (List.Mem.tail _ (List.Mem.tail _ hp)))
            dsimp only at r1 r2
            (try dsimp only)
            (try k_sweep)
            k_steps
            have k1sz : szs (cur ++ [(s9, f)]) ≤ mm := by rw [szs_append]; simp [szs, Fm.sz] at hsz ⊢; omega
            have k2sz : szs (cur ++ [(s9, g)]) ≤ mm := by rw [szs_append]; simp [szs, Fm.sz] at hsz ⊢; omega
            k_dflt (refine' MutCt.u3RS (IH mm hmm (cur ++ [(s9, f)]) tab' _ _ _ pv' _ _ _ k1sz (hws.snoc hs9 hf) ht' ?hv ?hpv ?hwl ?hpl ?hcode (by first | with_reducible assumption | omega) (by first | with_reducible assumption | omega)) ?k1 ?k2 ?k3 ?k4 ?k5 ?k6 ?k7 ?k8 ?_; (case k1 => k_asm); (case k2 => k_asm); (case k3 => k_asm); (case k4 => k_asm); (case hpv => exact htabi.mono (fun _ hp => by repeat (first | exact hp | apply List.Mem.tail))); (case hwl => k_mem); (case hv => (rw [List.map_append]; exact StrsAre.append hqv' (.cons .nil))); (case hpl => exact ne_all (by assumption)); (case hcode => exact hcode.mono (fun p hp => by (have hp9 := hB.sub p hp); repeat (first | exact hp9 | apply List.Mem.tail))); (case k5 => k_asm); (case k6 => first | rfl | assumption); (case k7 => exact room_ih hd (by assumption)); (case k8 => exact units_ih hu (by assumption) (by assumption)))
            intro h4 tk4 a1 k1 vs1 hv1 ha1 F4 N4
            have N5 := news_sub N4 perm7
            have b1 : @LT.lt Nat _ lr a1 := ha1 _ (List.Mem.tail _ (List.Mem.tail _ (List.Mem.head _)))
            have b2 : @LT.lt Nat _ _ a1 := ha1 _ (List.Mem.tail _ (List.Mem.tail _ (List.Mem.tail _ (List.Mem.head _))))
            have b3 : @LT.lt Nat _ pl a1 := ha1 _ (List.Mem.tail _ (List.Mem.tail _ (List.Mem.tail _ (List.Mem.tail _ (List.Mem.head _)))))
            have b4 : ∀ p ∈ R, p.1 < a1 := fun p hp => ha1 p (List.Mem.tail _ (List.Mem.tail _ (List.Mem.tail _ (List.Mem.tail _ (List.Mem.tail _ hp)))))
            dsimp only at b2
            clear ha1 N4
            (try dsimp only)
            (try k_sweep)
            refine held ?_
            intro R9 kk9
            cases e1 : br (cur ++ [(s9, f)]) tab' with
            | opn m1 =>
              rw [e1] at hv1
              obtain ⟨t7, t8, rfl⟩ := hv1
              have hbr' : Res.opn m1 = res := by rw [← hbr, br_dis, e1]
              subst hbr'
              refine Held.go kk9 ?_
              clear kk9
              k_steps
              rename News _ _ _ _ => N6
              exact hret' _ _ _ _ _ ⟨_, _, rfl⟩ (fun p hp => b4 p (hB.sub p hp)) (by assumption) (news_sub N6 (head3 hB.sub))
            | cls m1 l1 =>
              have hl1 := cls_len mm _ _ _ _ k1sz e1
              have h14 : 2 ^ mm ≤ 16384 := Nat.pow_le_pow_right (n := 2) (by decide) h14m
              rw [e1] at hv1
              obtain ⟨t7, t8, rfl⟩ := hv1
              refine Held.go kk9 ?_
              clear kk9
              k_steps
              k_dflt (refine' MutCt.u3RS (IH mm hmm (cur ++ [(s9, g)]) tab' _ _ _ pv' _ _ _ k2sz (hws.snoc hs9 hg) ht' ?hv ?hpv ?hwl ?hpl ?hcode (by first | with_reducible assumption | omega) (by first | with_reducible assumption | omega)) ?k1 ?k2 ?k3 ?k4 ?k5 ?k6 ?k7 ?k8 ?_; (case k1 => k_asm); (case k2 => k_asm); (case k3 => k_asm); (case k4 => k_asm); (case hpv => exact htabi.mono (fun _ hp => by repeat (first | exact hp | apply List.Mem.tail))); (case hwl => k_mem); (case hv => (rw [List.map_append]; exact StrsAre.append hqv' (.cons .nil))); (case hpl => exact ne_all (by assumption)); (case hcode => exact hcode.mono (fun p hp => by (have hp9 := hB.sub p hp); repeat (first | exact hp9 | apply List.Mem.tail))); (case k5 => k_asm); (case k6 => first | rfl | assumption); (case k7 => exact room_ih hd (by assumption)); (case k8 => exact units_ih hu (by assumption) (by assumption)))
              intro h5 tk5 a2 k2 vs2 hv2 ha2 F4 N4
              have N6 := news_sub N4 perm8
              have d1 : @LT.lt Nat _ a1 a2 := ha2 _ (List.Mem.tail _ (List.Mem.tail _ (List.Mem.head _)))
              have d2 : ∀ p ∈ R, p.1 < a2 := fun p hp => ha2 p (List.Mem.tail _ (List.Mem.tail _ (List.Mem.tail _ (List.Mem.tail _ (List.Mem.tail _ (List.Mem.tail _ hp))))))
              clear ha2 N4
              (try dsimp only)
              (try k_sweep)
              refine held ?_
              intro R9 kk9
              cases e2 : br (cur ++ [(s9, g)]) tab' with
              | opn m2 =>
                rw [e2] at hv2
                obtain ⟨t9, t0, rfl⟩ := hv2
                have hbr' : Res.opn m2 = res := by rw [← hbr, br_dis, e1, e2]
                subst hbr'
                refine Held.go kk9 ?_
                clear kk9
                k_steps
                rename News _ _ _ _ => N7
                exact hret' _ _ _ _ _ ⟨_, _, rfl⟩ (fun p hp => d2 p (hB.sub p hp)) (by assumption) (news_sub N7 (head4 hB.sub))
              | cls m2 l2 =>
                have hl2 := cls_len mm _ _ _ _ k2sz e2
                rw [e2] at hv2
                obtain ⟨t9, t0, rfl⟩ := hv2
                have hbr' : Res.cls (if s9 = 60 then m1 ||| m2 else m1 &&& m2) (l1 ++ l2) = res := by rw [← hbr, br_dis, e1, e2]
                subst hbr'
                rcases hs9 with rfl | rfl
                · refine Held.go kk9 ?_
                  clear kk9
                  k_steps
                  rename (_ ∧ _ ∧ _ ∧ _ ∧ _ ∧ AllLt _ _) => l9
                  rename News _ _ _ _ => N7
                  refine hret' _ _ _ _ _ ?hv9 (fun p hp => allLt_all l9.2.2.2.2.2 _ (hB.sub p hp)) (by assumption) (news_sub N7 (head5 hB.sub))
                  case hv9 =>
                    exact resV_or
                · refine Held.go kk9 ?_
                  clear kk9
                  k_steps
                  rename (_ ∧ _ ∧ _ ∧ _ ∧ _ ∧ AllLt _ _) => l9
                  rename News _ _ _ _ => N7
                  refine hret' _ _ _ _ _ ?hv9 (fun p hp => allLt_all l9.2.2.2.2.2 _ (hB.sub p hp)) (by assumption) (news_sub N7 (head5 hB.sub))
                  case hv9 =>
                    exact resV_and
    exact loop n ws tab pv wv np 0 _ _ _ _ _ _ _ _ _ _ _ _ _ _ _ _ _ hn (Nat.le_refl _) hw ht htab hres hv hq hB F8 N9
theorem branch_all (w : World) : ∀ n, BranchOk w n := by
  have all : ∀ n, BrAll w n := by
    intro n
    induction n with
    | zero => intro m h; exact absurd h (Nat.not_lt_zero _)
    | succ n ih => exact fun m h => branch_step w m fun k hk => ih k (Nat.lt_of_lt_of_le hk (Nat.le_of_lt_succ h))
  exact fun n => all (n + 1) n (Nat.lt_succ_self n)
end Mine
end partB7
section partW1
open PySem PySem.W PyProof.Rows PySem.Calls
set_option Elab.async false
set_option maxRecDepth 100000
set_option maxHeartbeats 1000000
namespace Mine
theorem reset_W1 : True := by
  w_top off
  k_with_none
  trivial
theorem words_W1 : True := by
  k_with "k_ne" => (refine neN ?_; first | with_reducible assumption | exact Ne.symm (by with_reducible assumption) | exact Nat.ne_of_lt (by with_reducible assumption) | exact Nat.ne_of_gt (by with_reducible assumption) | (refine' Nat.ne_of_lt (And.left ?hZ9); (case hZ9 => with_reducible assumption)) | (refine' Nat.ne_of_lt (And.left (And.right ?hZ9)); (case hZ9 => with_reducible assumption)) | (refine' Nat.ne_of_lt (And.left (And.right (And.right ?hZ9))); (case hZ9 => with_reducible assumption)) | (refine' Nat.ne_of_lt (And.left (And.right (And.right (And.right ?hZ9)))); (case hZ9 => with_reducible assumption)) | (refine' Nat.ne_of_lt (And.left (And.right (And.right (And.right (And.right ?hZ9))))); (case hZ9 => with_reducible assumption)) | (refine' Nat.ne_of_lt (And.left (And.right (And.right (And.right (And.right (And.right ?hZ9)))))); (case hZ9 => with_reducible assumption)) | (refine' Nat.ne_of_lt (And.left (And.right (And.right (And.right (And.right (And.right (And.right ?hZ9))))))); (case hZ9 => with_reducible assumption)) | (refine' Nat.ne_of_lt (And.left (And.right (And.right (And.right (And.right (And.right (And.right (And.right ?hZ9)))))))); (case hZ9 => with_reducible assumption)) | (refine' Nat.ne_of_lt (And.left (And.right (And.right (And.right (And.right (And.right (And.right (And.right (And.right ?hZ9))))))))); (case hZ9 => with_reducible assumption)) | (refine' Nat.ne_of_gt (And.left ?hZ9); (case hZ9 => with_reducible assumption)) | (refine' Nat.ne_of_gt (And.left (And.right ?hZ9)); (case hZ9 => with_reducible assumption)) | (refine' Nat.ne_of_gt (And.left (And.right (And.right ?hZ9))); (case hZ9 => with_reducible assumption)) | (refine' Nat.ne_of_gt (And.left (And.right (And.right (And.right ?hZ9)))); (case hZ9 => with_reducible assumption)) | (refine' Nat.ne_of_gt (And.left (And.right (And.right (And.right (And.right ?hZ9))))); (case hZ9 => with_reducible assumption)) | (refine' Nat.ne_of_gt (And.left (And.right (And.right (And.right (And.right (And.right ?hZ9)))))); (case hZ9 => with_reducible assumption)) | (refine' Nat.ne_of_gt (And.left (And.right (And.right (And.right (And.right (And.right (And.right ?hZ9))))))); (case hZ9 => with_reducible assumption)) | (refine' Nat.ne_of_gt (And.left (And.right (And.right (And.right (And.right (And.right (And.right (And.right ?hZ9)))))))); (case hZ9 => with_reducible assumption)) | (refine' Nat.ne_of_gt (And.left (And.right (And.right (And.right (And.right (And.right (And.right (And.right (And.right ?hZ9))))))))); (case hZ9 => with_reducible assumption)) | ((try dsimp only); omega))
  k_with "callWith ref" => (k_here; (with_reducible show wpAny _ _ (callWith _ (Value.ref _) _ (backTo _ (starEach (_ :: _) _)) []) _ _ _); k_dflt (refine' callWith_K ?k1Z9 ?k2Z9 ?_; (case k1Z9 => k_asm); (case k2Z9 => k_is); k_whole))
  trivial
theorem lines_W1_1 : True := by
  k_with "exec For" => ((k_here; k_dflt (refine' for_open ?_ ?hsZ9; (case hsZ9 => (intro _; rfl)))))
  k_with "exec For Tuple Call" => ((k_here; k_dflt (refine' for_open ?_ ?hsZ9; (case hsZ9 => (intro _; rfl)))))
  k_with "exec For Tuple Call cons nil" => ((k_here; k_dflt (refine' for_open ?_ ?hsZ9; (case hsZ9 => (intro _; rfl)))))
  k_with "exec For Name Call" => ((k_here; k_dflt (refine' for_open ?_ ?hsZ9; (case hsZ9 => (intro _; rfl)))))
  k_with "exec For Name Call cons nil" => ((k_here; k_dflt (refine' for_open ?_ ?hsZ9; (case hsZ9 => (intro _; rfl)))))
  k_with "ktr_units" => (((try simp only [units_in1, units_deeper, Around.mark_units, units_under_make]); (try dsimp only [ktrTop]); first | decide | (refine' Nat.lt_of_lt_of_le (Nat.add_lt_add_right ?h9Z9 3) ?g9Z9; (case h9Z9 => assumption); (case g9Z9 => decide)) | omega))
  k_with "ktr_room" => (((try simp only [depth_under_make, depth_under_kw, depth_in1, depth_deeper, depth_caller]); (try dsimp only [ktrTop]); first | decide | (refine' Nat.lt_of_lt_of_le (Nat.succ_lt_succ ?h9Z9) ?g9Z9; (case h9Z9 => assumption); (case g9Z9 => decide)) | omega | (simp only [recursionLimit]; omega)))
  k_with "k_mem" => (first | exact List.Mem.head _ | assumption | (refine' List.Mem.tail _ ?_; k_mem))
  k_with "k_all" => (first | assumption | exact List.forall_mem_nil _ | (refine' List.forall_mem_cons.mpr ⟨?aZ9, ?bZ9⟩; (case aZ9 => k_ne); (case bZ9 => k_all)))
  k_with "callWith ref" => ((k_here; (with_reducible show wpAny _ _ (callWith _ _ _ (backTo _ (starEach [] _)) []) _ _ _); k_dflt (refine' callWith_K0 ?k1Z9 ?k2Z9 ?_; (case k1Z9 => k_in); (case k2Z9 => k_is); k_whole); (try dsimp only [List.nil_append, List.cons_append])))
  k_with "eval ListComp" => ((k_here; k_dflt (refine' ListComp_T1 (F₀ := by k_asm) (by with_unfolding_all rfl) (by decide) (by rfl) (by decide) (by rfl) ?_)))
  trivial
theorem lit_q : Str.ofString "\"" = st [34] := by decide +kernel
theorem lit_s : Str.ofString "\\" = st [92] := by decide +kernel
theorem lit_n : Str.ofString "\n" = st [10] := by decide +kernel
theorem lit_qn : Str.ofString "\"\n" = st [34, 10] := by decide +kernel
theorem add_sx {prog : Program} {w : World} {A : Around} {E : Value → Shared → Prop} {s : Shared} {x y : Str} {a b : List Nat} {t u : Tok} {Q : Value → Shared → Prop} (hx : x = st a) (hy : y = st b) (hsz : a.length + b.length ≤ 100000) (h : ∀ t' tk, Q (.str (st (a ++ b)) t') { s with toks := tk }) : wpAny (model prog w) A (binaryOp .Add (.str x t) (.str y u)) Q E s := by
  subst hx hy; exact add_st hsz h
theorem lines_W1_2 : True := by
  k_with "binaryOp Add str str" => ((k_here; k_dflt (refine' add_sx ?hxZ9 ?hyZ9 ?szZ9 ?_; (case hxZ9 => first | exact lit_q | exact lit_s | exact rfl); (case hyZ9 => first | exact lit_n | exact lit_qn | exact rfl); (case szZ9 => ((try simp only [List.length_cons, List.length_nil, List.length_append]); omega))); intro _ _))
  k_with "inplaceOp Add str str" => ((k_here; k_dflt (refine' iadd_st ?szZ9 ?_; (case szZ9 => ((try simp only [List.length_cons, List.length_nil, List.length_append]); omega))); intro _ _))
  trivial
theorem kstrs {vs : List Value} {ws : List Str} (h : StrsAre vs ws) : PyProof.Rows.StrsAre vs ws := by
  induction h with
  | nil => exact .nil
  | cons _ ih => exact .cons _ _ ih
theorem st_app (a b : List Nat) : st a ++ st b = st (a ++ b) := congrArg Str.mk (List.append_toArray a b)
theorem join_st : ∀ ws : List (List Nat), Str.join (st []) (ws.map st) = st ws.flatten
  | [] => rfl
  | [a] => by simp [Str.join]
  | a :: b :: r => by
    have ih := join_st (b :: r)
    show st a ++ st [] ++ Str.join (st []) ((b :: r).map st) = _
    rw [ih, st_app, st_app, List.append_nil]
    simp
theorem flat_escs (la : List Nat) : (la.map fun c => [92, c]).flatten = escs la := by
  induction la with
  | nil => rfl
  | cons c r ih => simp only [List.map_cons, List.flatten_cons, ih, escs]; rfl
theorem escs_len (la : List Nat) : (escs la).length = 2 * la.length := by
  induction la with
  | nil => rfl
  | cons c r ih => simp only [escs, List.length_cons, ih]; omega
theorem sum_two (la : List Nat) : ((la.map fun c => st [92, c]).map (·.length)).sum = 2 * la.length := by
  induction la with
  | nil => rfl
  | cons c r ih => simp only [List.map_cons, List.sum_cons, ih, List.length_cons]; show 2 + _ = _; omega
theorem join_esc {prog : Program} {w : World} {A : Around} {E : Value → Shared → Prop} {s : Shared} {h₀ : Heap} {L D : Addr} {news : List (Addr × Obj)} {ys : List Value} {la : List Nat} {t : Tok} {Q : Value → Shared → Prop} (N : News h₀ L s.heap news) (hm : (D, LCg.lst ys) ∈ news) (hy : StrsAre ys (la.map fun c => st [92, c])) (hla : la.length ≤ 100)
    (h : ∀ t' tk, Q (.str (st (escs la)) t') { s with toks := tk }) : wpAny (model prog w) A (call (.builtin "str.join") [.str (Str.ofString "") t, .ref D]) Q E s := by
  refine PyProof.Rows.join_list (ys := la.map fun c => st [92, c]) ⟨_, (N _ hm).1, rfl, _, rfl⟩ (kstrs hy) (by rw [sum_two, List.length_map, show (Str.ofString "").length = 0 from rfl]; omega) (fun t' k => ?_)
  have e : Txt.join (Str.ofString "") (la.map fun c => st [92, c]) = st (escs la) := by
    have e0 : Txt.join (Str.ofString "") (la.map fun c => st [92, c]) = Str.join (st []) (la.map fun c => st [92, c]) := eq_of_beq (join_closes rfl)
    rw [e0]
    rw [← flat_escs, ← join_st, List.map_map]; rfl
  rw [e]; exact h t' k
theorem lines_W1_3 : True := by
  k_with "call builtin:str.join" => ((k_here; k_dflt (refine' join_esc ?NZ9 ?mZ9 ?hyZ9 ?hlZ9 ?_; (case NZ9 => k_asm); (case mZ9 => k_mem); (case hyZ9 => assumption); (case hlZ9 => assumption)); intro _ _))
  trivial
noncomputable def wr (b : Bool) (a : List Nat) : List Nat := if b = true then 34 :: (a ++ [34, 10]) else escs a ++ [10]
noncomputable abbrev tfw (acc : List Nat) (t : Tok) (sty : Int) (ts : Tok) (u : Str → Option Value) : Str → Option Value := fun y => if y = Str.ofString "text" then some (.str (st acc) t) else if y = Str.ofString "style" then some (.int sty ts) else u y
theorem tfw_of {h₀ h : Heap} {L : Addr} {acc : List Nat} {t ts : Tok} {sty : Int} {m : Str → Option Value} (F : Fr h₀ L h m) (h1 : m (Str.ofString "text") = some (.str (st acc) t)) (h2 : m (Str.ofString "style") = some (.int sty ts)) : Fr h₀ L h (tfw acc t sty ts m) := by
  have e : m = tfw acc t sty ts m := by
    funext y
    by_cases a1 : y = Str.ofString "text"
    · subst a1; rw [h1]; rfl
    · by_cases a2 : y = Str.ofString "style"
      · subst a2; rw [h2]; rfl
      · simp only [tfw, if_neg a1, if_neg a2]
  rw [← e]; exact F
noncomputable def Wr (a b : List Nat) : Nat → List Nat → Prop
  | 0, acc => acc = []
  | 1, acc => ∃ b1, acc = wr b1 a
  | _, acc => ∃ b1 b2, acc = wr b1 a ++ wr b2 b
theorem written_ct (w : World) (pl : Addr) (la lb : List Nat) (ta tb ts : Tok) (sty : Int) (np : Nat) (hs : 0 ≤ sty) (hs2 : sty ≤ 1000000000) (ha : la.length ≤ 100) (hb : lb.length ≤ 100) (ha1 : (st la).cps.all (· < 128) = true) (hb1 : (st lb).cps.all (· < 128) = true) (news : List (Addr × Obj)) (hpl : (pl, PySem.W.listOf [Value.str (st la) ta, Value.str (st lb) tb].toArray np) ∈ news) :
    MutCt w 630 730 (.ref 263) [.ref pl, .int sty ts] [] news (fun r n' => ∃ t b1 b2, r = .str (st (wr b1 la ++ wr b2 lb)) t ∧ n' = news) := by
  unfold MutCt
  k_fill
  intro loose mean mg mb dp un gd cn cs a ccd cl outer A₀ base h₀ L m s Q E B F X N T hk hd hu hret
  refine wpAny_call ?_
  k_dflt (refine' code_def ?k1 ?k2 ?k3 ?k4 ?k5 ?kA ?kF ?kK ?k6 ?k7 ?k8 ?k9 ?kB ?_ ?c2 ?c3 ?c4 ?c5; (case kA => exact rfl); (case kF => exact rfl); (case kK => assumption); (case k1 => k_asm); (case k2 => k_asm); (case k3 => k_asm); (case k4 => k_asm); (case k5 => k_asm); (case k6 => k_is); (case k7 => k_is); (case k8 => ktr_room); (case k9 => first | exact BindsTo.of_eq rfl | exact binds_K (by k_in) rfl (by k_is) rfl rfl rfl); (case c5 => decide); (case kB => exact locs rfl); (case c2 => exact rfl); (case c3 => exact rfl); (case c4 => exact rfl); k_whole; intro g' L' h' FG' F' N' B' X' T'; (try dsimp only); (try k_fold))
  refine wpAny_mono (E := nE) ?_ (fun _ _ z => z) (fun _ _ z => z.elim)
  k_steps
  rename Fr _ _ _ _ => F9
  rename News _ _ _ _ => N9
  refine for_enum (n := np) (vs := [Value.str (st la) ta, Value.str (st lb) tb]) (fun i m' news' => news' = news ∧ ∃ acc t, Wr la lb i acc ∧ m' (Str.ofString "text") = some (.str (st acc) t) ∧ m' (Str.ofString "style") = some (.int sty ts)) rfl F9 N9 ?_ ?_ ?_ ?_
  · exact ⟨rfl, [], _, rfl, rfl, rfl⟩
  · rintro i m news ⟨rfl, _⟩
    exact hpl
  · rintro i v t m₁ news₁ h tk TT e it oe oi hi hadr hlt g1 g2 g3 ⟨rfl, acc, t', hW, hm1, hm2⟩ F1 N1
    have F2 := tfw_of F1 hm1 hm2
    clear F9 N9 F1
    match i, hi, hW with
    | 0, hi, hW =>
      cases hi
      cases hW
      k_steps
      · rename Fr _ _ _ _ => F6
        rename News _ _ _ _ => N6
        refine ⟨_, _, _, _, rfl, F6, news_sub N6 (fun _ h => .tail _ h), rfl, rfl, _, _, ?_, rfl, rfl⟩
        exact ⟨true, by simp [wr]⟩
      · refine ⟨st la, ta, _, rfl, rfl, ha1, by (show la.length ≤ _; omega), (by assumption), (by assumption), fun g => ?_⟩
        suffices key : ∀ k i ys, la.length = i + k → StrsAre ys ((la.take i).map fun c => st [92, c]) → LCg.CompRest _ _ _ _ _ _ _ _ _ _ _ _ _ _ _ k i ys _ by
          exact key la.length 0 [] (by omega) .nil
        intro k
        induction k with
        | zero =>
          intro i ys hi hys
          refine LCg.CompRest.zero ?_
          intro D1 hx1 tk1 F1 N1 off1
          dsimp only
          rw [List.take_of_length_le (by omega)] at hys
          have hel := escs_len la
          k_steps
          rename Fr _ _ _ _ => F6
          rename News _ _ _ _ => N6
          refine ⟨_, _, _, _, rfl, F6, news_sub N6 (fun _ h => .tail _ (.tail _ h)), rfl, rfl, _, _, ?_, rfl, rfl⟩
          exact ⟨false, by simp [wr]⟩
        | succ k ih =>
          intro i ys hi hys
          refine LCg.CompRest.succ ?_
          intro v I' oI' C' oC' D' m' hx' tk' E' hv hC' hx1 F1 N1 off' ne'
          obtain ⟨c, uc, hc, rfl⟩ := hv
          have hc' : la[i]? = some c := by simpa using hc
          k_steps
          rename Fr _ _ _ _ => F8
          rename News _ _ _ _ => N8
          refine LCg.CompEnd.intro F8 N8 _ (fun p hp => hp) off' trivial (ih (i + 1) _ (by omega) ?_)
          rw [List.take_add_one, hc', Option.toList_some, List.map_append]
          exact hys.append (.cons .nil)
    | 1, hi, hW =>
      cases hi
      obtain ⟨b1, rfl⟩ := hW
      have hwl : (wr b1 la).length ≤ 300 := by have := escs_len la; unfold wr; split <;> simp <;> omega
      k_steps
      · rename Fr _ _ _ _ => F6
        rename News _ _ _ _ => N6
        refine ⟨_, _, _, _, rfl, F6, news_sub N6 (fun _ h => .tail _ h), rfl, rfl, _, _, ?_, rfl, rfl⟩
        exact ⟨b1, true, by simp [wr]⟩
      · refine ⟨st lb, tb, _, rfl, rfl, hb1, by (show lb.length ≤ _; omega), (by assumption), (by assumption), fun g => ?_⟩
        suffices key : ∀ k i ys, lb.length = i + k → StrsAre ys ((lb.take i).map fun c => st [92, c]) → LCg.CompRest _ _ _ _ _ _ _ _ _ _ _ _ _ _ _ k i ys _ by
          exact key lb.length 0 [] (by omega) .nil
        intro k
        induction k with
        | zero =>
          intro i ys hi hys
          refine LCg.CompRest.zero ?_
          intro D1 hx1 tk1 F1 N1 off1
          dsimp only
          rw [List.take_of_length_le (by omega)] at hys
          have hel := escs_len lb
          k_steps
          rename Fr _ _ _ _ => F6
          rename News _ _ _ _ => N6
          refine ⟨_, _, _, _, rfl, F6, news_sub N6 (fun _ h => .tail _ (.tail _ h)), rfl, rfl, _, _, ?_, rfl, rfl⟩
          exact ⟨b1, false, by simp [wr]⟩
        | succ k ih =>
          intro i ys hi hys
          refine LCg.CompRest.succ ?_
          intro v I' oI' C' oC' D' m' hx' tk' E' hv hC' hx1 F1 N1 off' ne'
          obtain ⟨c, uc, hc, rfl⟩ := hv
          have hc' : lb[i]? = some c := by simpa using hc
          k_steps
          rename Fr _ _ _ _ => F8
          rename News _ _ _ _ => N8
          refine LCg.CompEnd.intro F8 N8 _ (fun p hp => hp) off' trivial (ih (i + 1) _ (by omega) ?_)
          rw [List.take_add_one, hc', Option.toList_some, List.map_append]
          exact hys.append (.cons .nil)
    | i + 2, hi, _ => simp at hi
  · rintro m₁ news₁ h tk ⟨rfl, acc, t', ⟨b1, b2, rfl⟩, hm1, hm2⟩ ha9 F1 N1
    have F2 := tfw_of F1 hm1 hm2
    clear F9 N9 F1
    k_steps
    rename Fr _ _ _ _ => F6
    rename News _ _ _ _ => N6
    exact hret _ _ _ _ ⟨_, b1, b2, rfl, rfl⟩ (by assumption) (by assumption)
end Mine
end partW1
section partTk
open PySem PySem.W PyProof.Rows PySem.Calls
set_option Elab.async false
set_option maxRecDepth 100000
set_option maxHeartbeats 1000000
namespace Mine
theorem reset_Tk : True := by
  w_top off
  k_with_none
  trivial
noncomputable def Step (l : List Nat) (p : Nat) (ln : Int) (tok : List Nat) (p1 : Nat) (ln1 : Int) : Prop := ∃ pre r0 used nls, (pre = [] ∨ pre = [10]) ∧ l.drop p = pre ++ r0 ∧ TokAt r0 tok used nls ∧ p1 = p + pre.length + used ∧ ln1 = ln + (pre.length : Int) + nls
theorem drop_by {l pre r x : List Nat} {p k : Nat} (hd : l.drop p = pre ++ (x ++ r)) (hk : k = pre.length + x.length) : l.drop (p + k) = r := by
  rw [← List.drop_drop, hd, hk, ← List.append_assoc, List.drop_left' (by simp)]
theorem step_one {b : Bool} {c : Nat} {a l pre R : List Nat} {p : Nat} {ln : Int} (hp : plain (c :: a)) (hpre : pre = [] ∨ pre = [10]) (hd : l.drop p = pre ++ (wr b (c :: a) ++ R)) :
    ∃ p1 n1 pre1, Step l p ln (c :: a) p1 n1 ∧ (pre1 = [] ∨ pre1 = [10]) ∧ l.drop p1 = pre1 ++ R ∧ n1 + (pre1.length : Int) = ln + (pre.length : Int) + 1 := by
  cases b with
  | true =>
    have e : wr true (c :: a) ++ R = (34 :: ((c :: a) ++ [34])) ++ (10 :: R) := by simp [wr]
    rw [e] at hd
    refine ⟨p + pre.length + ((c :: a).length + 2), ln + (pre.length : Int) + 0, [10], ⟨pre, _, _, _, hpre, hd, .inr (.inl ⟨10 :: R, by simp, hp, rfl, rfl⟩), rfl, rfl⟩, .inr rfl, ?_, by simp⟩
    rw [Nat.add_assoc, drop_by hd (by simp)]
    rfl
  | false =>
    have e : wr false (c :: a) ++ R = (92 :: c :: (escs a ++ [10])) ++ R := by simp [wr, escs]
    rw [e] at hd
    refine ⟨p + pre.length + (2 * a.length + 3), ln + (pre.length : Int) + 1, [], ⟨pre, _, _, _, hpre, hd, .inr (.inr ⟨c, a, R, rfl, by simp, hp, rfl, rfl⟩), rfl, rfl⟩, .inl rfl, ?_, by simp⟩
    rw [Nat.add_assoc, drop_by hd (by simp [escs_len])]
    rfl
theorem steps (b1 b2 : Bool) {c1 c2 : Nat} {a b : List Nat} (ha : plain (c1 :: a)) (hb : plain (c2 :: b)) : ∃ p1 p2 p3 n1 n2, Step (wr b1 (c1 :: a) ++ wr b2 (c2 :: b)) 0 1 (c1 :: a) p1 n1 ∧ Step (wr b1 (c1 :: a) ++ wr b2 (c2 :: b)) p1 n1 (c2 :: b) p2 n2 ∧ Step (wr b1 (c1 :: a) ++ wr b2 (c2 :: b)) p2 n2 [] p3 3 := by
  obtain ⟨p1, n1, pre1, s1, h1, d1, e1⟩ := step_one (b := b1) (l := wr b1 (c1 :: a) ++ wr b2 (c2 :: b)) (pre := []) (p := 0) (ln := 1) (R := wr b2 (c2 :: b)) ha (.inl rfl) rfl
  obtain ⟨p2, n2, pre2, s2, h2, d2, e2⟩ := step_one (b := b2) (l := wr b1 (c1 :: a) ++ wr b2 (c2 :: b)) (pre := pre1) (p := p1) (ln := n1) (R := []) hb h1 (by rw [d1, List.append_nil])
  refine ⟨p1, p2, _, n1, n2, s1, s2, pre2, [], 0, 0, h2, d2, .inl ⟨rfl, rfl, rfl, rfl⟩, rfl, ?_⟩
  simp only [List.length_nil] at e1
  omega
theorem wr_len (b : Bool) (a : List Nat) : (wr b a).length ≤ 2 * a.length + 3 := by
  have := escs_len a
  cases b <;> simp [wr] <;> omega
theorem enc_signs {f : Fm} (hf : f.In letters) : ∀ c ∈ f.enc, c ∈ signs := by
  induction f with
  | lit c => intro x hx; rw [List.mem_singleton.mp hx]; exact letter_sign hf
  | con f g ihf ihg =>
    intro x hx
    rcases List.mem_cons.mp hx with rfl | hx
    · decide
    · rcases List.mem_append.mp hx with hx | hx
      · exact ihf hf.1 x hx
      · exact ihg hf.2 x hx
  | dis f g ihf ihg =>
    intro x hx
    rcases List.mem_cons.mp hx with rfl | hx
    · decide
    · rcases List.mem_append.mp hx with hx | hx
      · exact ihf hf.1 x hx
      · exact ihg hf.2 x hx
theorem word_signs {s : Nat} {f : Fm} (hs : s ∈ signs) (hf : f.In letters) : ∀ c ∈ s :: f.enc, c ∈ signs := by
  intro c hc
  rcases List.mem_cons.mp hc with rfl | hc
  · exact hs
  · exact enc_signs hf c hc
theorem plain_of {l : List Nat} (h : ∀ c ∈ l, c ∈ signs) : plain l := fun c hc => (show ∀ c ∈ signs, c ≠ 34 ∧ c ≠ 92 ∧ c ≠ 10 by decide) c (h c hc)
theorem ascii_of {l : List Nat} (h : ∀ c ∈ l, c < 128) : (st l).cps.all (· < 128) = true := by
  rw [Array.all_eq_true]
  intro i hi
  have hi' : i < l.length := by simpa using hi
  have : (st l).cps[i] = l[i] := by simp
  rw [this, decide_eq_true_eq]
  exact h _ (List.getElem_mem _)
theorem ascii_signs {l : List Nat} (h : ∀ c ∈ l, c ∈ signs) : (st l).cps.all (· < 128) = true := ascii_of fun c hc => (show ∀ c ∈ signs, c < 128 by decide) c (h c hc)
theorem ascii_letters {l : List Nat} (h : ∀ c ∈ l, c ∈ letters) : (st l).cps.all (· < 128) = true := ascii_of fun c hc => (show ∀ c ∈ letters, c < 128 by decide) c (h c hc)
end Mine
end partTk
section partD1
open PySem PySem.W PyProof.Rows PySem.Calls
set_option Elab.async false
set_option maxRecDepth 100000
set_option maxHeartbeats 1000000
namespace Mine
theorem reset_D1 : True := by
  w_top off
  k_with_none
  trivial
theorem words_D1 : True := by
  k_with "k_ne" => (refine neN ?_; first | with_reducible assumption | exact Ne.symm (by with_reducible assumption) | exact Nat.ne_of_lt (by with_reducible assumption) | exact Nat.ne_of_gt (by with_reducible assumption) | (refine' Nat.ne_of_lt (And.left ?hZ9); (case hZ9 => with_reducible assumption)) | (refine' Nat.ne_of_lt (And.left (And.right ?hZ9)); (case hZ9 => with_reducible assumption)) | (refine' Nat.ne_of_lt (And.left (And.right (And.right ?hZ9))); (case hZ9 => with_reducible assumption)) | (refine' Nat.ne_of_lt (And.left (And.right (And.right (And.right ?hZ9)))); (case hZ9 => with_reducible assumption)) | (refine' Nat.ne_of_lt (And.left (And.right (And.right (And.right (And.right ?hZ9))))); (case hZ9 => with_reducible assumption)) | (refine' Nat.ne_of_lt (And.left (And.right (And.right (And.right (And.right (And.right ?hZ9)))))); (case hZ9 => with_reducible assumption)) | (refine' Nat.ne_of_lt (And.left (And.right (And.right (And.right (And.right (And.right (And.right ?hZ9))))))); (case hZ9 => with_reducible assumption)) | (refine' Nat.ne_of_lt (And.left (And.right (And.right (And.right (And.right (And.right (And.right (And.right ?hZ9)))))))); (case hZ9 => with_reducible assumption)) | (refine' Nat.ne_of_lt (And.left (And.right (And.right (And.right (And.right (And.right (And.right (And.right (And.right ?hZ9))))))))); (case hZ9 => with_reducible assumption)) | (refine' Nat.ne_of_gt (And.left ?hZ9); (case hZ9 => with_reducible assumption)) | (refine' Nat.ne_of_gt (And.left (And.right ?hZ9)); (case hZ9 => with_reducible assumption)) | (refine' Nat.ne_of_gt (And.left (And.right (And.right ?hZ9))); (case hZ9 => with_reducible assumption)) | (refine' Nat.ne_of_gt (And.left (And.right (And.right (And.right ?hZ9)))); (case hZ9 => with_reducible assumption)) | (refine' Nat.ne_of_gt (And.left (And.right (And.right (And.right (And.right ?hZ9))))); (case hZ9 => with_reducible assumption)) | (refine' Nat.ne_of_gt (And.left (And.right (And.right (And.right (And.right (And.right ?hZ9)))))); (case hZ9 => with_reducible assumption)) | (refine' Nat.ne_of_gt (And.left (And.right (And.right (And.right (And.right (And.right (And.right ?hZ9))))))); (case hZ9 => with_reducible assumption)) | (refine' Nat.ne_of_gt (And.left (And.right (And.right (And.right (And.right (And.right (And.right (And.right ?hZ9)))))))); (case hZ9 => with_reducible assumption)) | (refine' Nat.ne_of_gt (And.left (And.right (And.right (And.right (And.right (And.right (And.right (And.right (And.right ?hZ9))))))))); (case hZ9 => with_reducible assumption)) | ((try dsimp only); omega))
  k_with "callWith ref" => (k_here; (with_reducible show wpAny _ _ (callWith _ (Value.ref _) _ (backTo _ (starEach (_ :: _) _)) []) _ _ _); k_dflt (refine' callWith_K ?k1Z9 ?k2Z9 ?_; (case k1Z9 => k_asm); (case k2Z9 => k_is); k_whole))
  trivial
theorem lines_D1_1 : True := by
  k_with "exec For" => ((k_here; k_dflt (refine' for_open ?_ ?hsZ9; (case hsZ9 => (intro _; rfl)))))
  k_with "exec For Tuple Call" => ((k_here; k_dflt (refine' for_open ?_ ?hsZ9; (case hsZ9 => (intro _; rfl)))))
  k_with "exec For Tuple Call cons nil" => ((k_here; k_dflt (refine' for_open ?_ ?hsZ9; (case hsZ9 => (intro _; rfl)))))
  k_with "exec For Name Call" => ((k_here; k_dflt (refine' for_open ?_ ?hsZ9; (case hsZ9 => (intro _; rfl)))))
  k_with "exec For Name Call cons nil" => ((k_here; k_dflt (refine' for_open ?_ ?hsZ9; (case hsZ9 => (intro _; rfl)))))
  k_with "ktr_units" => (((try simp only [units_in1, units_deeper, Around.mark_units, units_under_make]); (try dsimp only [ktrTop]); first | decide | (refine' Nat.lt_of_lt_of_le (Nat.add_lt_add_right ?h9Z9 3) ?g9Z9; (case h9Z9 => assumption); (case g9Z9 => decide)) | omega))
  k_with "ktr_room" => (((try simp only [depth_under_make, depth_under_kw, depth_in1, depth_deeper, depth_caller]); (try dsimp only [ktrTop]); first | decide | (refine' Nat.lt_of_lt_of_le (Nat.succ_lt_succ ?h9Z9) ?g9Z9; (case h9Z9 => assumption); (case g9Z9 => decide)) | omega | (simp only [recursionLimit]; omega)))
  k_with "k_mem" => (first | exact List.Mem.head _ | assumption | (refine' List.Mem.tail _ ?_; k_mem))
  k_with "k_all" => (first | assumption | exact List.forall_mem_nil _ | (refine' List.forall_mem_cons.mpr ⟨?aZ9, ?bZ9⟩; (case aZ9 => k_ne); (case bZ9 => k_all)))
  k_with "callWith ref" => ((k_here; (with_reducible show wpAny _ _ (callWith _ _ _ (backTo _ (starEach [] _)) []) _ _ _); k_dflt (refine' callWith_K0 ?k1Z9 ?k2Z9 ?_; (case k1Z9 => k_in); (case k2Z9 => k_is); k_whole); (try dsimp only [List.nil_append, List.cons_append])))
  k_with "eval ListComp" => ((k_here; k_dflt (refine' LCg.ListComp_U (F₀ := by k_asm) (by with_unfolding_all rfl) (by decide) (by rfl) (by decide) (by rfl) ?_)))
  k_with "exec Assign cons ListComp" => ((k_here; k_dflt (refine LCg.Assign_ListComp_U (F₀ := by k_asm) (by rfl) (by with_unfolding_all rfl) (by with_unfolding_all rfl) (by decide) (by rfl) (by decide) (by rfl) (by rfl) (by rfl) ?_)))
  k_with "call ref" => ((k_here; (first
      | (with_reducible show wpAny _ _ (call (Value.ref 253) _) _ _ _; k_dflt (refine' PureCt.useE (mask_ct _ _ _ _ ?hcmZ9) ?k1Z9 ?k2Z9 ?k3Z9 ?k4Z9 ?k5Z9 ?k6Z9 ?k7Z9 ?k8Z9 ?_; (case k1Z9 => k_asm); (case k2Z9 => k_asm); (case k3Z9 => k_asm); (case k4Z9 => k_asm); (case hcmZ9 => assumption); (case k5Z9 => k_asm); (case k6Z9 => first | rfl | assumption); (case k7Z9 => ktr_room); (case k8Z9 => ktr_units)); intro _ _ _ _ _)); (try dsimp only); (try k_sweep)))
  k_with "subscriptTail" => ((k_here; (with_reducible show wpAny _ _ (subscriptTail _ _ (Value.str (st _) _) (Value.int _ _)) _ _ _); k_dflt (refine' item_st ?hiZ9 ?hdZ9 ?hpZ9 ?_; (case hiZ9 => first | rfl | assumption); (case hdZ9 => first | assumption | rfl); (case hpZ9 => ((try simp only [List.length_cons, List.length_append, Fm.enc_len, List.length_nil]); omega))); intro _ _))
  k_with "subscriptTail Name Name str int" => ((k_here; (with_reducible show wpAny _ _ (subscriptTail _ _ (Value.str (st _) _) (Value.int _ _)) _ _ _); k_dflt (refine' item_st ?hiZ9 ?hdZ9 ?hpZ9 ?_; (case hiZ9 => first | rfl | assumption); (case hdZ9 => first | assumption | rfl); (case hpZ9 => ((try simp only [List.length_cons, List.length_append, Fm.enc_len, List.length_nil]); omega))); intro _ _))
  k_with "subscriptTail Name Constant str int" => ((k_here; (with_reducible show wpAny _ _ (subscriptTail _ _ (Value.str (st _) _) (Value.int _ _)) _ _ _); k_dflt (refine' item_st ?hiZ9 ?hdZ9 ?hpZ9 ?_; (case hiZ9 => first | rfl | assumption); (case hdZ9 => first | assumption | rfl); (case hpZ9 => ((try simp only [List.length_cons, List.length_append, Fm.enc_len, List.length_nil]); omega))); intro _ _))
  k_with "subscriptTail" => ((k_here; (with_reducible show wpAny _ _ (subscriptTail _ _ (Value.ref _) (Value.int _ _)) _ _ _); k_dflt (refine' itm_ld ?NZ9 ?mZ9 ?h0Z9 ?hfZ9 ?hxZ9 ?_; (case NZ9 => k_asm); (case mZ9 => k_mem); (case h0Z9 => omega); (case hfZ9 => omega); (case hxZ9 => first | assumption | rfl); k_whole)))
  k_with "subscriptTail Name Name ref int" => ((k_here; (with_reducible show wpAny _ _ (subscriptTail _ _ (Value.ref _) (Value.int _ _)) _ _ _); k_dflt (refine' itm_ld ?NZ9 ?mZ9 ?h0Z9 ?hfZ9 ?hxZ9 ?_; (case NZ9 => k_asm); (case mZ9 => k_mem); (case h0Z9 => omega); (case hfZ9 => omega); (case hxZ9 => first | assumption | rfl); k_whole)))
  k_with "subscriptTail Name Constant ref int" => ((k_here; (with_reducible show wpAny _ _ (subscriptTail _ _ (Value.ref _) (Value.int _ _)) _ _ _); k_dflt (refine' itm_ld ?NZ9 ?mZ9 ?h0Z9 ?hfZ9 ?hxZ9 ?_; (case NZ9 => k_asm); (case mZ9 => k_mem); (case h0Z9 => omega); (case hfZ9 => omega); (case hxZ9 => first | assumption | rfl); k_whole)))
  trivial
theorem lit_amp : Str.ofString "&" = st [38] := by decide +kernel
theorem lit_bar : Str.ofString "|" = st [124] := by decide +kernel
theorem lines_D1_2 : True := by
  k_with "call builtin:list.pop" => ((k_here; k_dflt (refine' pop2_ld ?FZ9 ?NZ9 ?hkZ9 ?hzZ9 ?UZ9 ?_; (case FZ9 => k_asm); (case NZ9 => k_asm); (case UZ9 => k_upd); (case hkZ9 => omega); (case hzZ9 => omega); k_whole); intro _ _ _))
  k_with "binaryOp Add str str" => ((k_here; k_dflt (refine' add_sx ?hxZ9 ?hyZ9 ?szZ9 ?_; (case hxZ9 => first | exact lit_amp | exact lit_bar | exact rfl); (case hyZ9 => exact rfl); (case szZ9 => ((try simp only [List.length_cons, List.length_nil, List.length_append]); omega))); intro _ _))
  k_with "setItem ref int" => ((k_here; k_dflt (refine' set_ld ?FZ9 ?NZ9 ?hkZ9 ?hzZ9 ?UZ9 ?_; (case FZ9 => k_asm); (case NZ9 => k_asm); (case UZ9 => k_upd); (case hkZ9 => omega); (case hzZ9 => omega); k_whole); intro _ _ _))
  k_with "setItem ref int str" => ((k_here; k_dflt (refine' set_ld ?FZ9 ?NZ9 ?hkZ9 ?hzZ9 ?UZ9 ?_; (case FZ9 => k_asm); (case NZ9 => k_asm); (case UZ9 => k_upd); (case hkZ9 => omega); (case hzZ9 => omega); k_whole); intro _ _ _))
  k_with "setItem ref int int" => ((k_here; k_dflt (refine' set_ld ?FZ9 ?NZ9 ?hkZ9 ?hzZ9 ?UZ9 ?_; (case FZ9 => k_asm); (case NZ9 => k_asm); (case UZ9 => k_upd); (case hkZ9 => omega); (case hzZ9 => omega); k_whole); intro _ _ _))
  trivial
inductive IntsN : List Value → List Nat → Prop
  | nil : IntsN [] []
  | cons {x : Nat} {t : Tok} {vs : List Value} {xs : List Nat} : IntsN vs xs → IntsN (.int (x : Int) t :: vs) (x :: xs)
theorem IntsN.append {vs ws : List Value} {xs ys : List Nat} (h : IntsN vs xs) (g : IntsN ws ys) : IntsN (vs ++ ws) (xs ++ ys) := by
  induction h with
  | nil => exact g
  | cons _ ih => exact .cons ih
theorem StrsAre.cut {vs : List Value} {xs ys : List Str} (h : StrsAre vs (xs ++ ys)) : ∃ v1 v2, vs = v1 ++ v2 ∧ StrsAre v1 xs ∧ StrsAre v2 ys := by
  induction xs generalizing vs with
  | nil => exact ⟨[], vs, rfl, .nil, h⟩
  | cons x xs ih =>
    cases h with
    | cons h =>
      obtain ⟨v1, v2, rfl, a, b⟩ := ih h
      exact ⟨_ :: v1, v2, rfl, .cons a, b⟩
theorem IntsN.cut {vs : List Value} {xs ys : List Nat} (h : IntsN vs (xs ++ ys)) : ∃ v1 v2, vs = v1 ++ v2 ∧ IntsN v1 xs ∧ IntsN v2 ys := by
  induction xs generalizing vs with
  | nil => exact ⟨[], vs, rfl, .nil, h⟩
  | cons x xs ih =>
    cases h with
    | cons h =>
      obtain ⟨v1, v2, rfl, a, b⟩ := ih h
      exact ⟨_ :: v1, v2, rfl, .cons a, b⟩
theorem IntsN.length {vs : List Value} {xs : List Nat} (h : IntsN vs xs) : vs.length = xs.length := by
  induction h with
  | nil => rfl
  | cons _ ih => simp [ih]
theorem fs_cut {fs : List Fm} {p : Nat} (hp : p + 1 < fs.length) : ∃ A f g B, fs = A ++ f :: g :: B ∧ A.length = p := by
  refine ⟨fs.take p, fs[p], fs[p + 1], fs.drop (p + 2), ?_, by rw [List.length_take]; omega⟩
  rw [← List.drop_eq_getElem_cons, ← List.drop_eq_getElem_cons, List.take_append_drop]
theorem two_cut {A B : List Fm} {f g : Fm} {rv mv : List Value} (h1 : StrsAre rv ((A ++ f :: g :: B).map fun f => st f.enc)) (h2 : IntsN mv ((A ++ f :: g :: B).map Fm.mask)) :
    ∃ ra rb ma mb t1 t2 s1 s2, rv = ra ++ .str (st f.enc) t1 :: .str (st g.enc) t2 :: rb ∧ mv = ma ++ .int (f.mask : Int) s1 :: .int (g.mask : Int) s2 :: mb ∧ ra.length = A.length ∧ ma.length = A.length ∧ rb.length = B.length ∧ mb.length = B.length ∧
      StrsAre ra (A.map fun f => st f.enc) ∧ StrsAre rb (B.map fun f => st f.enc) ∧ IntsN ma (A.map Fm.mask) ∧ IntsN mb (B.map Fm.mask) := by
  rw [List.map_append] at h1 h2
  obtain ⟨ra, r2, rfl, a1, a2⟩ := h1.cut
  obtain ⟨ma, m2, rfl, b1, b2⟩ := h2.cut
  cases a2 with
  | cons a2 => cases a2 with
    | cons a2 => cases b2 with
      | cons b2 => cases b2 with
        | cons b2 => exact ⟨ra, _, ma, _, _, _, _, _, rfl, rfl, by simpa using a1.length, by simpa using b1.length, by simpa using a2.length, by simpa using b2.length, a1, a2, b1, b2⟩
theorem off1_mem {D : Addr} : ∀ {l : List (Addr × Obj)}, LCg.Off1 D l → ∀ q ∈ l, q.1 ≠ D
  | [], _, q, h => by cases h
  | p :: l, x, q, h => by
    rcases List.mem_cons.mp h with rfl | h
    · exact x.1
    · exact off1_mem x.2 q h
theorem in_join {S : List Nat} {A B : List Fm} {f g j : Fm} (h : ∀ x ∈ A ++ f :: g :: B, Fm.In S x) (hj : Fm.In S f → Fm.In S g → Fm.In S j) : ∀ x ∈ A ++ j :: B, Fm.In S x := by
  intro x hx
  rcases List.mem_append.mp hx with hx | hx
  · exact h x (List.mem_append_left _ hx)
  · rcases List.mem_cons.mp hx with rfl | hx
    · exact hj (h f (List.mem_append_right _ (.head _))) (h g (List.mem_append_right _ (.tail _ (.head _))))
    · exact h x (List.mem_append_right _ (.tail _ (.tail _ hx)))
theorem or_cons {a b : Nat} {t : Tok} {vs : List Value} {xs : List Nat} (h : IntsN vs xs) : IntsN (.int (Builtin.bitOr (a : Int) (b : Int)) t :: vs) ((a ||| b) :: xs) := by
  have e : Builtin.bitOr (a : Int) (b : Int) = ((a ||| b : Nat) : Int) := by
    have e2 : ∀ x : Int, Builtin.bitNot (Builtin.bitNot x) = x := fun x => by unfold Builtin.bitNot; omega
    unfold Builtin.bitOr
    rw [bitAnd_nn (by unfold Builtin.bitNot; omega) (by unfold Builtin.bitNot; omega), e2, e2, e2]
    rfl
  rw [e]; exact .cons h
theorem sum_lits (ds : List Nat) : (ds.map (Fm.sz ∘ Fm.lit)).sum = ds.length := by
  induction ds with
  | nil => rfl
  | cons d ds ih => rw [List.map_cons, List.sum_cons, ih]; show 1 + _ = _; simp; omega
noncomputable def DrawJ (S : List Nat) (ca D1 D2 : Addr) (R : List (Addr × Obj)) (i : Nat) (m' : Str → Option Value) (news' : List (Addr × Obj)) : Prop :=
  ∃ (fs : List Fm) (rv mv : List Value) (k1 k2 : Nat), fs.length = 4 - i ∧ (∀ f ∈ fs, f.In S) ∧ (fs.map Fm.sz).sum = 4 + i ∧ StrsAre rv (fs.map fun f => st f.enc) ∧ IntsN mv (fs.map Fm.mask) ∧ news' = (D2, PySem.W.listOf mv.toArray k2) :: (D1, PySem.W.listOf rv.toArray k1) :: R ∧
    m' (Str.ofString "rows") = some (.ref D1) ∧ m' (Str.ofString "masks") = some (.ref D2) ∧ m' (Str.ofString "cells") = some (.ref ca)
noncomputable abbrev dfr (ca D1 D2 : Addr) (u : Str → Option Value) : Str → Option Value := fun y => if y = Str.ofString "rows" then some (.ref D1) else if y = Str.ofString "masks" then some (.ref D2) else if y = Str.ofString "cells" then some (.ref ca) else u y
theorem dfr_of {h₀ h : Heap} {L ca D1 D2 : Addr} {m : Str → Option Value} (F : Fr h₀ L h m) (h1 : m (Str.ofString "rows") = some (.ref D1)) (h2 : m (Str.ofString "masks") = some (.ref D2)) (h3 : m (Str.ofString "cells") = some (.ref ca)) : Fr h₀ L h (dfr ca D1 D2 m) := by
  have e : m = dfr ca D1 D2 m := by
    funext y
    by_cases a1 : y = Str.ofString "rows"
    · subst a1; rw [h1]; rfl
    · by_cases a2 : y = Str.ofString "masks"
      · subst a2; rw [h2]; rfl
      · by_cases a3 : y = Str.ofString "cells"
        · subst a3; rw [h3]; rfl
        · simp only [dfr, if_neg a1, if_neg a2, if_neg a3]
  rw [← e]; exact F
theorem S_letters {S : List Nat} (hS : S = [97, 65, 98, 66, 99, 67] ∨ S = [98, 66, 99, 67, 100, 68]) : ∀ c ∈ S, c ∈ letters := by rcases hS with rfl | rfl <;> decide
theorem hold_it {P : Prop} (h : id P) : P := h
theorem pick_S {S : List Nat} (hS : S = [97, 65, 98, 66, 99, 67] ∨ S = [98, 66, 99, 67, 100, 68]) {p : Nat} (hp : p < 6) : ∃ d r, S.drop p = d :: r ∧ d ∈ S := by
  have hl : S.length = 6 := by rcases hS with rfl | rfl <;> rfl
  exact ⟨S[p], S.drop (p + 1), List.drop_eq_getElem_cons (by omega), List.getElem_mem _⟩
theorem lines_D1_3 : True := by
  k_with "CompSrc" => ((k_here; refine hold_it ?_))
  trivial
theorem drawn_ct (w : World) (S : List Nat) (hS : S = [97, 65, 98, 66, 99, 67] ∨ S = [98, 66, 99, 67, 100, 68]) (ca : Addr) (c0 c1 c2 c3 : Int) (u0 u1 u2 u3 ts : Tok) (nc : Nat) (h0 : 0 ≤ c0) (h1 : 0 ≤ c1) (h2 : 0 ≤ c2) (h3 : 0 ≤ c3) (b0 : c0 ≤ 100000000) (b1 : c1 ≤ 100000000) (b2 : c2 ≤ 100000000) (b3 : c3 ≤ 100000000) (news : List (Addr × Obj)) (hcl : (ca, PySem.W.listOf [Value.int c0 u0, Value.int c1 u1, Value.int c2 u2, Value.int c3 u3].toArray nc) ∈ news) :
    MutCt w 630 730 (.ref 258) [.ref ca, .str (st S) ts] [] news (fun r n' => ∃ (a : Addr) (f : Fm) (t1 t2 : Tok), r = .ref a ∧ f.In S ∧ f.sz = 7 ∧ n' = (a, tupO [.str (st f.enc) t1, .int (f.mask : Int) t2]) :: news ∧ ∀ p ∈ news, @LT.lt Nat _ p.1 a) := by
  unfold MutCt
  k_fill
  intro loose mean mg mb dp un gd cn cs a ccd cl outer A₀ base h₀ L m s Q E B F X N T hk hd hu hret
  refine wpAny_call ?_
  k_dflt (refine' code_defC ?k1 ?k2 ?k3 ?k4 ?k5 ?kA ?kF ?kK ?k6 ?k7 ?k8 ?k9 ?kB ?kD ?_ ?c2 ?c3 ?c4; (case kA => exact rfl); (case kF => exact rfl); (case kK => assumption); (case k1 => k_asm); (case k2 => k_asm); (case k3 => k_asm); (case k4 => k_asm); (case k5 => k_asm); (case k6 => k_is); (case k7 => k_is); (case k8 => ktr_room); (case k9 => first | exact BindsTo.of_eq rfl | exact binds_K (by k_in) rfl (by k_is) rfl rfl rfl); (case kB => exact rfl); (case kD => decide +kernel); (case c2 => exact rfl); (case c3 => exact rfl); (case c4 => exact rfl); k_whole; intro g' L' h' tk' cells' FG' F' N' Y' B' X' T' l1; (try k_lt l1); k_cells Y'; (try simp only [List.cons_append, List.nil_append] at N'); (try dsimp only); (try k_fold))
  refine wpAny_mono (E := nE) ?_ (fun _ _ z => z) (fun _ _ z => z.elim)
  k_steps
  rename Fr _ _ _ _ => F9
  rename News _ _ _ _ => N9
  unfold id
  refine LCg.CompSrc.ledger rfl F9 N9 (.tail _ hcl) (by rw [sizeLine_eq]; simp) ?_
  intro g9
  have hcv : ∀ (i : Nat) (v : Value), ([Value.int c0 u0, Value.int c1 u1, Value.int c2 u2, Value.int c3 u3] : List Value)[i]? = some v → ∃ c uc, (0 : Int) ≤ c ∧ c ≤ 100000000 ∧ v = Value.int c uc := by
    intro i v hv
    match i, hv with
    | 0, hv => cases hv; exact ⟨_, _, h0, b0, rfl⟩
    | 1, hv => cases hv; exact ⟨_, _, h1, b1, rfl⟩
    | 2, hv => cases hv; exact ⟨_, _, h2, b2, rfl⟩
    | 3, hv => cases hv; exact ⟨_, _, h3, b3, rfl⟩
    | i + 4, hv => simp at hv
  suffices key : ∀ k i ys (ds : List Nat), 4 = i + k → ds.length = i → (∀ d ∈ ds, d ∈ S) → StrsAre ys (ds.map fun d => st [d]) → LCg.CompRest _ _ _ _ _ _ _ _ _ _ _ _ _ _ _ k i ys _ by
    exact key 4 0 [] [] (by omega) rfl (fun _ h => by cases h) .nil
  clear F9 N9
  intro k
  induction k with
  | zero =>
    intro i ys ds hi hdl hds hys
    refine LCg.CompRest.zero ?_
    intro D1 hx1 tk1 F1 N1 off1
    dsimp only
    k_steps
    unfold id
    rename Fr _ _ _ _ => F9
    rename News _ _ _ _ => N9
    refine LCg.CompSrc.ledger rfl F9 N9 (.head _) (by rw [sizeLine_eq, List.size_toArray, hys.length, List.length_map]; omega) ?_
    intro g8
    rw [List.size_toArray]
    suffices key : ∀ k j zs, ys.length = j + k → IntsN zs ((ds.take j).map maskN) → LCg.CompRest _ _ _ _ _ _ _ _ _ _ _ _ _ _ _ k j zs _ by
      exact key ys.length 0 [] (by omega) .nil
    clear F9 N9
    intro k
    induction k with
    | zero =>
      intro j zs hj hzs
      refine LCg.CompRest.zero ?_
      intro D2 hx2 tk2 F2 N2 off2
      dsimp only
      k_steps
      rename IsRange _ _ _ _ _ _ _ _ => hR
      rename Fr _ _ _ _ => F9
      rename News _ _ _ _ => N9
      rw [List.take_of_length_le (by rw [hys.length, List.length_map] at hj; omega)] at hzs
      have off3 : @Ne Nat D1 D2 := off2.1
      refine for_rng (n := 3) (fun i m' news' => DrawJ S ca D1 D2 news i m' news') rfl F9 (news_sub N9 drop3) ?_ hR (by decide) (by decide) (fun _ _ => rfl) ?_ ?_
      · refine ⟨ds.map Fm.lit, ys, zs, _, _, ?_, ?_, ?_, ?_, ?_, rfl, rfl, rfl, rfl⟩
        · rw [List.length_map]; omega
        · intro f hf
          obtain ⟨d, hd, rfl⟩ := List.mem_map.mp hf
          exact hds d hd
        · rw [List.map_map, sum_lits]; omega
        · rw [List.map_map]; exact hys
        · rw [List.map_map]; exact hzs
      · intro i ti m₁ news₁ h tk I oI hi3 hadr hlt hL hJ9
        clear F9 N9
        refine held ?_
        intro R9 kk9
        obtain ⟨fs, rv, mv, k1, k2, q1, q2, q3, q4, q5, rfl, q6, q7, q8⟩ := hJ9
        have g1 : @LT.lt Nat _ D2 I := hlt _ (.head _)
        have g2 : @LT.lt Nat _ D1 I := hlt _ (.tail _ (.head _))
        have g3 : ∀ q ∈ news, q.1 ≠ I := fun q hq => Nat.ne_of_lt (hlt _ (.tail _ (.tail _ hq)))
        have g4 : ∀ q ∈ news, q.1 ≠ D2 := off1_mem off2.2.2
        have g5 : ∀ q ∈ news, q.1 ≠ D1 := off1_mem off1.2
        clear hlt
        obtain ⟨c, uc, hcc, hc0, hci⟩ : ∃ c uc, (0 : Int) ≤ c ∧ c ≤ 100000000 ∧ ([Value.int c0 u0, Value.int c1 u1, Value.int c2 u2, Value.int c3 u3] : List Value)[((i : Nat) : Int).toNat]? = some (Value.int c uc) := by
          match i, hi3 with
          | 0, _ => exact ⟨_, _, h0, b0, rfl⟩
          | 1, _ => exact ⟨_, _, h1, b1, rfl⟩
          | 2, _ => exact ⟨_, _, h2, b2, rfl⟩
          | i + 3, h => omega
        have hdv : (0 : Int) < 3 - (i : Int) := by omega
        have hp0 : 0 ≤ Int.fmod (Int.fdiv c 12) (3 - (i : Int)) := Int.fmod_nonneg_of_pos _ hdv
        have hp1 : Int.fmod (Int.fdiv c 12) (3 - (i : Int)) < 3 - (i : Int) := Int.fmod_lt_of_pos _ hdv
        obtain ⟨pz, hpz⟩ : ∃ pz : Nat, Int.fmod (Int.fdiv c 12) (3 - (i : Int)) = (pz : Int) := ⟨_, (Int.toNat_of_nonneg hp0).symm⟩
        obtain ⟨FA, f, g, FB, rfl, hFA⟩ := fs_cut (fs := fs) (p := pz) (by omega)
        obtain ⟨ra, rb, ma, mb, y1, y2, z1, z2, rfl, rfl, l1, l2, l3, l4, w1, w2, w3, w4⟩ := two_cut q4 q5
        have hlen : FA.length + FB.length ≤ 2 := by simp at q1; omega
        have hx1 : (ra ++ Value.str (st f.enc) y1 :: rb)[(Int.fmod (Int.fdiv c 12) (3 - (i : Int))).toNat]? = some (Value.str (st f.enc) y1) := by rw [hpz, Int.toNat_natCast, ← hFA, ← l1]; simp
        have hx1' : (ra ++ Value.str (st f.enc) y1 :: Value.str (st g.enc) y2 :: rb)[(Int.fmod (Int.fdiv c 12) (3 - (i : Int))).toNat]? = some (Value.str (st f.enc) y1) := by rw [hpz, Int.toNat_natCast, ← hFA, ← l1]; simp
        have hx2 : (ma ++ Value.int (f.mask : Int) z1 :: mb)[(Int.fmod (Int.fdiv c 12) (3 - (i : Int))).toNat]? = some (Value.int (f.mask : Int) z1) := by rw [hpz, Int.toNat_natCast, ← hFA, ← l2]; simp
        have hsz : f.enc.length ≤ 100 ∧ g.enc.length ≤ 100 := by
          rw [f.enc_len, g.enc_len]; simp at q3; omega
        have hsf := hsz.1
        have hsg := hsz.2
        clear hsz
        refine Held.go kk9 ?_
        clear kk9
        intro F1 N1
        have F2 := dfr_of F1 q6 q7 q8
        clear F1
        k_steps
        · rename Fr _ _ _ _ => F6
          rename News _ _ _ _ => N6
          refine ⟨_, _, _, _, rfl, F6, N6, rfl, FA ++ Fm.con f g :: FB, _, _, _, _, ?_, ?_, ?_, ?_, ?_, rfl, rfl, rfl, rfl⟩
          · simp only [List.length_append, List.length_cons] at q1 ⊢; omega
          · exact in_join q2 (fun a b => ⟨a, b⟩)
          · simp only [List.map_append, List.map_cons, List.sum_append, List.sum_cons, Fm.sz] at q3 ⊢; omega
          · rw [List.map_append]; exact w1.append (.cons w2)
          · rw [List.map_append]; exact w3.append (.cons w4)
        · rename Fr _ _ _ _ => F6
          rename News _ _ _ _ => N6
          refine ⟨_, _, _, _, rfl, F6, N6, rfl, FA ++ Fm.dis f g :: FB, _, _, _, _, ?_, ?_, ?_, ?_, ?_, rfl, rfl, rfl, rfl⟩
          · simp only [List.length_append, List.length_cons] at q1 ⊢; omega
          · exact in_join q2 (fun a b => ⟨a, b⟩)
          · simp only [List.map_append, List.map_cons, List.sum_append, List.sum_cons, Fm.sz] at q3 ⊢; omega
          · rw [List.map_append]; exact w1.append (.cons w2)
          · rw [List.map_append]; exact w3.append (or_cons w4)
      · intro m₁ news₁ h tk hJ9 ha9
        clear F9 N9
        refine held ?_
        intro R9 kk9
        obtain ⟨fs, rv, mv, k1, k2, q1, q2, q3, q4, q5, rfl, q6, q7, q8⟩ := hJ9
        obtain ⟨f, rfl⟩ : ∃ f, fs = [f] := by
          match fs, q1 with
          | [f], _ => exact ⟨f, rfl⟩
        obtain ⟨y1, rfl⟩ : ∃ y1, rv = [Value.str (st f.enc) y1] := by cases q4 with | cons h => cases h; exact ⟨_, rfl⟩
        obtain ⟨z1, rfl⟩ : ∃ z1, mv = [Value.int (f.mask : Int) z1] := by cases q5 with | cons h => cases h; exact ⟨_, rfl⟩
        refine Held.go kk9 ?_
        clear kk9
        intro F1 N1
        have F2 := dfr_of F1 q6 q7 q8
        clear F1
        k_steps
        rename Fr _ _ _ _ => F6
        rename News _ _ _ _ => N6
        rename (_ ∧ _ ∧ AllLt _ _) => l9
        refine hret _ _ _ ((_, tupO [.str (st f.enc) y1, .int (f.mask : Int) z1]) :: news) ⟨_, f, y1, z1, rfl, q2 f (.head _), by simpa using q3, rfl, allLt_all l9.2.2⟩ F6 (news_sub N6 ?_)
        intro p hp
        rcases List.mem_cons.mp hp with rfl | hp
        · exact .head _
        · exact .tail _ (.tail _ (.tail _ hp))
    | succ k ih =>
      intro j zs hj hzs
      refine LCg.CompRest.succ ?_
      intro v I' oI' C' oC' D' m' hx' tk' E' hv hC' hx1 F1 N1 off' ne'
      obtain ⟨x, t, hx, rfl⟩ := hys.get (i := j) (v := v) (by simpa using hv)
      obtain ⟨d, hdj, rfl⟩ : ∃ d, ds[j]? = some d ∧ x = st [d] := by
        rw [List.getElem?_map] at hx
        cases hq : ds[j]? with
        | none => rw [hq] at hx; cases hx
        | some d => rw [hq] at hx; exact ⟨d, rfl, (Option.some.inj hx).symm⟩
      have hdl : d ∈ letters := S_letters hS _ (hds d (List.mem_of_getElem? hdj))
      k_steps
      rename Fr _ _ _ _ => F8
      rename News _ _ _ _ => N8
      refine LCg.CompEnd.intro F8 N8 _ (fun p hp => hp) off' (.inr ⟨_, .head _, rfl, _, rfl⟩) (ih (j + 1) _ (by omega) ?_)
      rw [List.take_add_one, hdj, Option.toList_some, List.map_append]
      exact hzs.append (.cons .nil)
  | succ k ih =>
    intro i ys ds hi hdl hds hys
    refine LCg.CompRest.succ ?_
    intro v I' oI' C' oC' D' m' hx' tk' E' hv hC' hx1 F1 N1 off' ne'
    obtain ⟨c, uc, hcc, hc0, rfl⟩ := hcv i v (by simpa using hv)
    have hp : Int.fmod c 6 = ((Int.fmod c 6).toNat : Int) := (Int.toNat_of_nonneg (Int.fmod_nonneg_of_pos c (by decide))).symm
    have hlt : (Int.fmod c 6).toNat < 6 := by have := Int.fmod_lt_of_pos c (show (0 : Int) < 6 by decide); omega
    obtain ⟨d, r, hd, hdS⟩ := pick_S hS hlt
    have hSl : S.length ≤ 6 := by rcases hS with rfl | rfl <;> decide
    k_steps
    rename Fr _ _ _ _ => F8
    rename News _ _ _ _ => N8
    refine LCg.CompEnd.intro F8 N8 _ (fun p hp => hp) off' (.inr ⟨_, .tail _ hcl, rfl, _, rfl⟩) (ih (i + 1) _ (ds ++ [d]) (by omega) (by simp [hdl]) ?_ ?_)
    · intro x hx
      rcases List.mem_append.mp hx with hx | hx
      · exact hds x hx
      · rw [List.mem_singleton] at hx; subst hx; exact hdS
    · rw [List.map_append]; exact hys.append (.cons .nil)
end Mine
end partD1
section partK1
open PySem PySem.W PyProof.Rows PySem.Calls
set_option Elab.async false
set_option maxRecDepth 100000
set_option maxHeartbeats 1000000
namespace Mine
theorem reset_K1 : True := by
  w_top off
  k_with_none
  trivial
theorem words_K1 : True := by
  k_with "k_ne" => (refine neN ?_; first | with_reducible assumption | exact Ne.symm (by with_reducible assumption) | exact Nat.ne_of_lt (by with_reducible assumption) | exact Nat.ne_of_gt (by with_reducible assumption) | (refine' Nat.ne_of_lt (And.left ?hZ9); (case hZ9 => with_reducible assumption)) | (refine' Nat.ne_of_lt (And.left (And.right ?hZ9)); (case hZ9 => with_reducible assumption)) | (refine' Nat.ne_of_lt (And.left (And.right (And.right ?hZ9))); (case hZ9 => with_reducible assumption)) | (refine' Nat.ne_of_lt (And.left (And.right (And.right (And.right ?hZ9)))); (case hZ9 => with_reducible assumption)) | (refine' Nat.ne_of_lt (And.left (And.right (And.right (And.right (And.right ?hZ9))))); (case hZ9 => with_reducible assumption)) | (refine' Nat.ne_of_lt (And.left (And.right (And.right (And.right (And.right (And.right ?hZ9)))))); (case hZ9 => with_reducible assumption)) | (refine' Nat.ne_of_lt (And.left (And.right (And.right (And.right (And.right (And.right (And.right ?hZ9))))))); (case hZ9 => with_reducible assumption)) | (refine' Nat.ne_of_lt (And.left (And.right (And.right (And.right (And.right (And.right (And.right (And.right ?hZ9)))))))); (case hZ9 => with_reducible assumption)) | (refine' Nat.ne_of_lt (And.left (And.right (And.right (And.right (And.right (And.right (And.right (And.right (And.right ?hZ9))))))))); (case hZ9 => with_reducible assumption)) | (refine' Nat.ne_of_gt (And.left ?hZ9); (case hZ9 => with_reducible assumption)) | (refine' Nat.ne_of_gt (And.left (And.right ?hZ9)); (case hZ9 => with_reducible assumption)) | (refine' Nat.ne_of_gt (And.left (And.right (And.right ?hZ9))); (case hZ9 => with_reducible assumption)) | (refine' Nat.ne_of_gt (And.left (And.right (And.right (And.right ?hZ9)))); (case hZ9 => with_reducible assumption)) | (refine' Nat.ne_of_gt (And.left (And.right (And.right (And.right (And.right ?hZ9))))); (case hZ9 => with_reducible assumption)) | (refine' Nat.ne_of_gt (And.left (And.right (And.right (And.right (And.right (And.right ?hZ9)))))); (case hZ9 => with_reducible assumption)) | (refine' Nat.ne_of_gt (And.left (And.right (And.right (And.right (And.right (And.right (And.right ?hZ9))))))); (case hZ9 => with_reducible assumption)) | (refine' Nat.ne_of_gt (And.left (And.right (And.right (And.right (And.right (And.right (And.right (And.right ?hZ9)))))))); (case hZ9 => with_reducible assumption)) | (refine' Nat.ne_of_gt (And.left (And.right (And.right (And.right (And.right (And.right (And.right (And.right (And.right ?hZ9))))))))); (case hZ9 => with_reducible assumption)) | ((try dsimp only); omega))
  k_with "callWith ref" => (k_here; (with_reducible show wpAny _ _ (callWith _ (Value.ref _) _ (backTo _ (starEach (_ :: _) _)) []) _ _ _); k_dflt (refine' callWith_K ?k1Z9 ?k2Z9 ?_; (case k1Z9 => k_asm); (case k2Z9 => k_is); k_whole))
  trivial
theorem lines_K1_1 : True := by
  k_with "ktr_units" => (((try simp only [units_in1, units_deeper, Around.mark_units, units_under_make]); (try dsimp only [ktrTop]); first | decide | (refine' Nat.lt_of_lt_of_le (Nat.add_lt_add_right ?h9Z9 3) ?g9Z9; (case h9Z9 => assumption); (case g9Z9 => decide)) | omega))
  k_with "ktr_room" => (((try simp only [depth_under_make, depth_under_kw, depth_in1, depth_deeper, depth_caller]); (try dsimp only [ktrTop]); first | decide | (refine' Nat.lt_of_lt_of_le (Nat.succ_lt_succ ?h9Z9) ?g9Z9; (case h9Z9 => assumption); (case g9Z9 => decide)) | omega | (simp only [recursionLimit]; omega)))
  k_with "k_mem" => (first | exact List.Mem.head _ | assumption | (refine' List.Mem.tail _ ?_; k_mem))
  k_with "k_all" => (first | assumption | exact List.forall_mem_nil _ | (refine' List.forall_mem_cons.mpr ⟨?aZ9, ?bZ9⟩; (case aZ9 => k_ne); (case bZ9 => k_all)))
  k_with "callWith ref" => ((k_here; (with_reducible show wpAny _ _ (callWith _ _ _ (backTo _ (starEach [] _)) []) _ _ _); k_dflt (refine' callWith_K0 ?k1Z9 ?k2Z9 ?_; (case k1Z9 => k_in); (case k2Z9 => k_is); k_whole); (try dsimp only [List.nil_append, List.cons_append])))
  trivial
/-- a contract where a list of the ghost heap is read -/
noncomputable def MutCtL (w : World) (d u : Nat) (l : Addr) (vs : List Value) (f : Value) (args : List Value) (kw : List (Str × Value)) (news : List (Addr × Obj)) (P : Value → List (Addr × Obj) → Prop) : Prop :=
  ∀ (loose : List Str) (mean : ExcName → Option Value) (mg mb : Str → Option Value) (dp un : Nat) (gd : Option (List Code)) (cn : Str) (cs : Scope) (a : Addr) (ccd : Value) (cl : List (Str × Addr)) (outer : List Env) (A₀ : Around) (base h₀ : Heap) (L : Addr) (m : Str → Option Value) (s : Shared) (Q E : Value → Shared → Prop),
    h₀.IsList l vs.toArray → Below A₀ base outer h₀ → Fr h₀ L s.heap m → (Mine.mkK.heap_1 w.params).In h₀ → News h₀ L s.heap news → Top topProg loose mean mg mb h₀ → cs.kind = .function →
    dp < d → un < u → (∀ r h' tk' news', P r news' → Fr h₀ L h' m → News h₀ L h' news' → Q r { s with heap := h', toks := tk' }) →
    wpAny (model PySem.Challenge.rw_re0168_01.prog w) (ktrTop dp un gd cn cs L a ccd cl outer) (PySem.call f args kw) Q E s
theorem MutCtL.use {w : World} {d u : Nat} {l : Addr} {vs : List Value} {f : Value} {args : List Value} {kw : List (Str × Value)} {news : List (Addr × Obj)} {P : Value → List (Addr × Obj) → Prop} (C : MutCtL w d u l vs f args kw news P)
    {loose : List Str} {mean : ExcName → Option Value} {mg mb : Str → Option Value} {dp un : Nat} {gd : Option (List Code)} {cn : Str} {cs : Scope} {a : Addr} {ccd : Value} {cl : List (Str × Addr)} {outer : List Env} {A₀ : Around} {base h₀ : Heap} {L : Addr} {m : Str → Option Value} {s : Shared} {Q E : Value → Shared → Prop}
    (S : h₀.IsList l vs.toArray) (B : Below A₀ base outer h₀) (F : Fr h₀ L s.heap m) (X : (Mine.mkK.heap_1 w.params).In h₀) (N : News h₀ L s.heap news) (T : Top topProg loose mean mg mb h₀) (hk : cs.kind = .function) (hd : dp < d) (hu : un < u)
    (ret : ∀ r h' tk' news', P r news' → Fr h₀ L h' m → News h₀ L h' news' → Q r { s with heap := h', toks := tk' }) :
    wpAny (model PySem.Challenge.rw_re0168_01.prog w) (ktrTop dp un gd cn cs L a ccd cl outer) (PySem.call f args kw) Q E s :=
  C loose mean mg mb dp un gd cn cs a ccd cl outer A₀ base h₀ L m s Q E S B F X N T hk hd hu ret
theorem MutCtL.useC {w : World} {d u : Nat} {l : Addr} {vs : List Value} {f : Value} {args : List Value} {kw : List (Str × Value)} {news : List (Addr × Obj)} {P : (Value → List (Addr × Obj) → Prop) → Prop} (C : MutCtL w d u l vs f args kw news (Cps P))
    {loose : List Str} {mean : ExcName → Option Value} {mg mb : Str → Option Value} {dp un : Nat} {gd : Option (List Code)} {cn : Str} {cs : Scope} {a : Addr} {ccd : Value} {cl : List (Str × Addr)} {outer : List Env} {A₀ : Around} {base h₀ : Heap} {L : Addr} {m : Str → Option Value} {s : Shared} {Q E : Value → Shared → Prop}
    (S : h₀.IsList l vs.toArray) (B : Below A₀ base outer h₀) (F : Fr h₀ L s.heap m) (X : (Mine.mkK.heap_1 w.params).In h₀) (N : News h₀ L s.heap news) (T : Top topProg loose mean mg mb h₀) (hk : cs.kind = .function) (hd : dp < d) (hu : un < u)
    (ret : ∀ h' tk', P (fun r n' => Fr h₀ L h' m → News h₀ L h' n' → Q r { s with heap := h', toks := tk' })) :
    wpAny (model PySem.Challenge.rw_re0168_01.prog w) (ktrTop dp un gd cn cs L a ccd cl outer) (PySem.call f args kw) Q E s :=
  C loose mean mg mb dp un gd cn cs a ccd cl outer A₀ base h₀ L m s Q E S B F X N T hk hd hu fun _ h' tk' _ hp F N => hp _ (ret h' tk') F N
theorem ints_get {vs : List Value} {ns : List Int} (h : IntsAre vs ns) : ∀ {i : Nat} {v : Value}, vs[i]? = some v → ∃ n t, v = .int n t ∧ n ∈ ns := by
  induction h with
  | nil => intro i v hv; simp at hv
  | cons n t _ ih =>
    intro i v hv
    cases i with
    | zero => simp at hv; exact ⟨n, t, hv.symm, .head _⟩
    | succ i => obtain ⟨n', t', e, hm⟩ := ih (i := i) (by simpa using hv); exact ⟨n', t', e, .tail _ hm⟩
theorem pick_mem {its : Array Value} {lo hi st : Option Int} {v : Value} (h : v ∈ (slicePick its lo hi st).toList) : v ∈ its.toList := by
  unfold slicePick at h
  rw [List.toList_toArray, List.mem_filterMap] at h
  obtain ⟨i, _, hi⟩ := h
  exact Array.mem_toList_iff.mpr (Array.mem_of_getElem? hi)
theorem ints_mem {vs : List Value} {ns : List Int} (h : IntsAre vs ns) {v : Value} (hv : v ∈ vs) : ∃ n t, v = .int n t := by
  obtain ⟨i, hi⟩ := List.getElem?_of_mem hv
  obtain ⟨n, t, e, _⟩ := ints_get h hi
  exact ⟨n, t, e⟩
theorem ints_snoc {vs : List Value} {ns : List Int} (h : IntsAre vs ns) (n : Int) (t : Tok) : IntsAre (vs ++ [.int n t]) (ns ++ [n]) := by
  induction h with
  | nil => exact .cons n t .nil
  | cons n' t' _ ih => exact .cons n' t' ih
theorem sum_bound : ∀ (l : List Int), (∀ x ∈ l, 0 ≤ x ∧ x < 1000000) → 0 ≤ l.sum ∧ l.sum ≤ 1000000 * l.length
  | [], _ => by simp
  | x :: l, h => by
    have := sum_bound l fun y hy => h y (.tail _ hy)
    have hx := h x (.head _)
    rw [List.sum_cons, List.length_cons]
    omega
theorem lines_K1_2 : True := by
  k_with "eval ListComp" => ((k_here; (with_reducible show wpAny _ _ (eval (PySem.Expr.ListComp _ [⟨PySem.Expr.Name _ _, _, _, _⟩] _ _) _) _ _ _); k_dflt (refine' LCg.ListComp_U (F₀ := by k_asm) (by with_unfolding_all rfl) (by decide) (by rfl) (by decide) (by rfl) ?_)))
  k_with "eval ListComp" => ((k_here; (with_reducible show wpAny _ _ (eval (PySem.Expr.ListComp _ [⟨PySem.Expr.Tuple _ _ _, _, _, _⟩] _ _) _) _ _ _); k_dflt (refine' ListComp_E (by with_unfolding_all rfl) (by rfl) (by decide) ?_)))
  k_with "subscriptTail Name Slice ref ref" => ((k_here; (rename Fr _ _ _ _ => F9Z); (rename News _ _ _ _ => N9Z); (rename Heap.IsList _ _ _ => S9Z); k_dflt (refine' kmk_slice3_lit F9Z N9Z (S9Z.at fun o e => F9Z.keep _ o e) ?pZ9 ?qZ9 ?kZ9 ?z0Z9 rfl ?_ ?sZ9 ?tZ9 ?zZ9; (case pZ9 => exact IsPart.int _ _); (case qZ9 => exact IsPart.int _ _); (case kZ9 => exact IsPart.int _ _); (case z0Z9 => decide); (case sZ9 => with_unfolding_all rfl); (case tZ9 => (intro _; with_unfolding_all rfl)); (case zZ9 => assumption)); intro _ _ F9Z N9Z _; (try dsimp only)))
  k_with "call builtin:sum" => ((k_here; (with_reducible show wpAny _ _ (call (Value.builtin "sum") [Value.ref _]) _ _ _); (rename News _ _ _ _ => kN9Z); (with_unfolding_all refine' sumK ?k0Z9 ?k1Z9 kN9Z ?k3Z9 ?k4Z9 ?_; (case k0Z9 => with_unfolding_all rfl); (case k1Z9 => k_asm); (case k3Z9 => exact ⟨_, (kN9Z (_, PySem.W.listOf _ _) (by k_mem)).1, rfl, _, rfl⟩); (case k4Z9 => assumption); k_whole); intro _ _ _ _ _))
  trivial
noncomputable abbrev ownV (o0 o1 o2 o3 o4 o5 o6 o7 : Tok) : List Value := [.int 0 o0, .int 14 o1, .int 7 o2, .int 4 o3, .int 19 o4, .int 4 o5, .int 1 o6, .int 3 o7]
theorem own_get (o0 o1 o2 o3 o4 o5 o6 o7 : Tok) {i : Nat} {v : Value} (h : (ownV o0 o1 o2 o3 o4 o5 o6 o7)[i]? = some v) : i < 8 ∧ ∃ n t, v = .int n t ∧ 0 ≤ n ∧ n ≤ 19 := by
  match i, h with
  | 0, h => cases h; exact ⟨by decide, _, _, rfl, by decide, by decide⟩
  | 1, h => cases h; exact ⟨by decide, _, _, rfl, by decide, by decide⟩
  | 2, h => cases h; exact ⟨by decide, _, _, rfl, by decide, by decide⟩
  | 3, h => cases h; exact ⟨by decide, _, _, rfl, by decide, by decide⟩
  | 4, h => cases h; exact ⟨by decide, _, _, rfl, by decide, by decide⟩
  | 5, h => cases h; exact ⟨by decide, _, _, rfl, by decide, by decide⟩
  | 6, h => cases h; exact ⟨by decide, _, _, rfl, by decide, by decide⟩
  | 7, h => cases h; exact ⟨by decide, _, _, rfl, by decide, by decide⟩
  | i + 8, h => simp at h
/-- eight small ints -/
noncomputable abbrev CellsP (news : List (Addr × Obj)) (K : Value → List (Addr × Obj) → Prop) : Prop := ∀ (D : Addr) (c0 c1 c2 c3 c4 c5 c6 c7 : Int) (t0 t1 t2 t3 t4 t5 t6 t7 : Tok),
  (0 ≤ c0 ∧ c0 ≤ 100000000) → (0 ≤ c1 ∧ c1 ≤ 100000000) → (0 ≤ c2 ∧ c2 ≤ 100000000) → (0 ≤ c3 ∧ c3 ≤ 100000000) → (0 ≤ c4 ∧ c4 ≤ 100000000) → (0 ≤ c5 ∧ c5 ≤ 100000000) → (0 ≤ c6 ∧ c6 ≤ 100000000) → (0 ≤ c7 ∧ c7 ≤ 100000000) → (∀ p ∈ news, @LT.lt Nat _ p.1 D) →
  K (.ref D) ((D, PySem.W.listOf [Value.int c0 t0, Value.int c1 t1, Value.int c2 t2, Value.int c3 t3, Value.int c4 t4, Value.int c5 t5, Value.int c6 t6, Value.int c7 t7].toArray 8) :: news)
theorem ints_cons {ys : List Value} {cs : List Int} {n : Nat} (h : IntsAre ys cs) (hl : cs.length = n + 1) (hb : ∀ c ∈ cs, 0 ≤ c ∧ c ≤ 100000000) {G : Prop}
    (k : ∀ c t ys' cs', ys = .int c t :: ys' → IntsAre ys' cs' → cs'.length = n → (0 ≤ c ∧ c ≤ 100000000) → (∀ c ∈ cs', 0 ≤ c ∧ c ≤ 100000000) → G) : G := by
  cases h with
  | nil => cases hl
  | cons c t h => exact k c t _ _ rfl h (Nat.succ.inj hl) (hb _ (.head _)) fun c hc => hb c (.tail _ hc)
theorem ints_nil {ys : List Value} {cs : List Int} (h : IntsAre ys cs) (hl : cs.length = 0) : ys = [] := by
  cases h with
  | nil => rfl
  | cons c t h => cases hl
theorem cells_of {D : Addr} {ys : List Value} {cs : List Int} {news : List (Addr × Obj)} (h : IntsAre ys cs) (hl : cs.length = 8) (hb : ∀ c ∈ cs, 0 ≤ c ∧ c ≤ 100000000) (hn : ∀ p ∈ news, @LT.lt Nat _ p.1 D) : Cps (CellsP news) (.ref D) ((D, LCg.lst ys) :: news) := by
  intro K k
  refine ints_cons h hl hb ?_
  intro c0 t0 y0 s0 e0 h0 l0 b0 hb0
  refine ints_cons h0 l0 hb0 ?_
  intro c1 t1 y1 s1 e1 h1 l1 b1 hb1
  refine ints_cons h1 l1 hb1 ?_
  intro c2 t2 y2 s2 e2 h2 l2 b2 hb2
  refine ints_cons h2 l2 hb2 ?_
  intro c3 t3 y3 s3 e3 h3 l3 b3 hb3
  refine ints_cons h3 l3 hb3 ?_
  intro c4 t4 y4 s4 e4 h4 l4 b4 hb4
  refine ints_cons h4 l4 hb4 ?_
  intro c5 t5 y5 s5 e5 h5 l5 b5 hb5
  refine ints_cons h5 l5 hb5 ?_
  intro c6 t6 y6 s6 e6 h6 l6 b6 hb6
  refine ints_cons h6 l6 hb6 ?_
  intro c7 t7 y7 s7 e7 h7 l7 b7 hb7
  have e8 := ints_nil h7 l7
  rw [e0, e1, e2, e3, e4, e5, e6, e7, e8]
  exact k D c0 c1 c2 c3 c4 c5 c6 c7 t0 t1 t2 t3 t4 t5 t6 t7 b0 b1 b2 b3 b4 b5 b6 b7 hn
theorem hold_it2 {P : Prop} (h : id P) : P := h
theorem lines_K1_3 : True := by
  k_with "CompSrc" => ((k_here; refine hold_it2 ?_))
  trivial
theorem cells_ct (w : World) (sa oa : Addr) (svs : List Value) (sns : List Int) (hi : IntsAre svs sns) (hl : svs.length ≤ 63) (o0 o1 o2 o3 o4 o5 o6 o7 : Tok) (no : Nat) (news : List (Addr × Obj)) (hoa : (oa, PySem.W.listOf (ownV o0 o1 o2 o3 o4 o5 o6 o7).toArray no) ∈ news) :
    MutCtL w 630 730 sa svs (.ref 246) [.ref sa, .ref oa] [] news (Cps (CellsP news)) := by
  unfold MutCtL
  k_fill
  intro loose mean mg mb dp un gd cn cs a ccd cl outer A₀ base h₀ L m s Q E hS B F X N T hk hd hu hret
  refine wpAny_call ?_
  k_dflt (refine' code_defC ?k1 ?k2 ?k3 ?k4 ?k5 ?kA ?kF ?kK ?k6 ?k7 ?k8 ?k9 ?kB ?kD ?_ ?c2 ?c3 ?c4; (case kA => exact rfl); (case kF => exact rfl); (case kK => assumption); (case k1 => k_asm); (case k2 => k_asm); (case k3 => k_asm); (case k4 => k_asm); (case k5 => k_asm); (case k6 => k_is); (case k7 => k_is); (case k8 => ktr_room); (case k9 => first | exact BindsTo.of_eq rfl | exact binds_K (by k_in) rfl (by k_is) rfl rfl rfl); (case kB => exact rfl); (case kD => decide +kernel); (case c2 => exact rfl); (case c3 => exact rfl); (case c4 => exact rfl); k_whole; intro g' L' h' tk' cells' FG' F' N' Y' B' X' T' l1; (try k_lt l1); k_cells Y'; (try simp only [List.cons_append, List.nil_append] at N'); (try dsimp only); (try k_fold))
  refine wpAny_mono (E := nE) ?_ (fun _ _ z => z) (fun _ _ z => z.elim)
  have hSg : g'.IsList sa svs.toArray := hS.at fun o e => FG'.keep _ o e
  clear hS
  k_steps
  rename Fr _ _ _ _ => F9
  rename News _ _ _ _ => N9
  refine comp_enum (fun i ys => ∃ cs, IntsAre ys cs ∧ cs.length = i ∧ ∀ c ∈ cs, 0 ≤ c ∧ c ≤ 100000000) rfl F9 N9 (.tail _ (.tail _ hoa)) (by decide) rfl rfl rfl (by decide) (show 8 ≤ sizeLine by decide) ⟨[], .nil, rfl, fun c h => by cases h⟩ ?_ ?_
  · rintro i v t ys e it C D oe oi oC m₂ h tk hv ⟨cs, hcs, hcl, hcb⟩ hoC hx hx2 F1 N1 g1 g2 g3 g4 g5
    obtain ⟨hi8, num, tn, rfl, hn0, hn1⟩ := own_get _ _ _ _ _ _ _ _ hv
    clear F9 N9
    k_steps
    rename Fr _ _ _ _ => F9
    rename News _ _ _ _ => N9
    unfold id
    generalize hpk : slicePick svs.toArray (some (i : Int)) (some (2 * 8)) (some 8) = pk at N9 ⊢
    have hps : pk.size ≤ 63 := by
      have := slicePick_size_le svs.toArray (some (i : Int)) (some (2 * 8)) (some 8)
      rw [hpk, List.size_toArray] at this; exact Nat.le_trans this hl
    have hpm : ∀ (j : Nat) (v : Value), pk[j]? = some v → ∃ n t, v = Value.int n t := fun j v hv => by
      refine ints_mem hi ?_
      have h9 : v ∈ pk.toList := Array.mem_toList_iff.mpr (Array.mem_of_getElem? hv)
      rw [← hpk] at h9
      exact pick_mem h9
    refine LCg.CompSrc.ledger rfl F9 N9 (.head _) (by rw [sizeLine_eq]; omega) ?_
    intro g9
    suffices key : ∀ k j zs (ms : List Int), pk.size = j + k → IntsAre zs ms → ms.length = j → (∀ x ∈ ms, 0 ≤ x ∧ x < 1000000) → LCg.CompRest _ _ _ _ _ _ _ _ _ _ _ _ _ _ _ k j zs _ by
      exact key pk.size 0 [] [] (by omega) .nil rfl (fun _ h => by cases h)
    clear F9 N9
    intro k
    induction k with
    | zero =>
      intro j zs ms hj hzs hml hmb
      refine LCg.CompRest.zero ?_
      intro D1 hx1 tk1 F1 N1 off1
      dsimp only
      k_steps
      rename Fr _ _ _ _ => F6
      rename News _ _ _ _ => N6
      have hsb := sum_bound ms hmb
      have hm63 : ms.length ≤ 63 := by omega
      refine ⟨_, _, rfl, F6, news_sub N6 ?_, cs ++ [num + ms.sum], ints_snoc hcs _ _, by simp [hcl], ?_⟩
      · intro p hp
        exact .tail _ (.tail _ hp)
      · intro c hc
        rcases List.mem_append.mp hc with hc | hc
        · exact hcb c hc
        · rw [List.mem_singleton] at hc; subst hc
          have : (1000000 : Int) * (ms.length : Int) ≤ 63000000 := by omega
          omega
    | succ k ih =>
      intro j zs ms hj hzs hml hmb
      refine LCg.CompRest.succ ?_
      intro v I' oI' C' oC' D' m' hx' tk' E' hv hC' hx1 F1 N1 off' ne'
      obtain ⟨n, tn', rfl⟩ := hpm j v hv
      k_steps
      rename Fr _ _ _ _ => F8
      rename News _ _ _ _ => N8
      refine LCg.CompEnd.intro F8 N8 _ (fun p hp => hp) off' (.inr ⟨_, .head _, rfl, _, rfl⟩) (ih (j + 1) _ (ms ++ [Int.fmod n 1000000]) (by omega) (ints_snoc hzs _ _) (by simp [hml]) ?_)
      intro x hx
      rcases List.mem_append.mp hx with hx | hx
      · exact hmb x hx
      · rw [List.mem_singleton] at hx; subst hx
        exact ⟨Int.fmod_nonneg_of_pos n (by decide), Int.fmod_lt_of_pos n (by decide)⟩
  · rintro ys D h tk ⟨cs, hcs, hcl, hcb⟩ hyl F1 N1 g1
    k_steps
    rename Fr _ _ _ _ => F6
    rename News _ _ _ _ => N6
    refine hret _ _ _ _ (cells_of hcs hcl hcb fun p hp => g1 p (.tail _ (.tail _ hp))) F6 (news_sub N6 ?_)
    intro p hp
    rcases List.mem_cons.mp hp with rfl | hp
    · exact .head _
    · exact .tail _ (.tail _ (.tail _ hp))
end Mine
end partK1
section partLW
open PySem PySem.W PyProof.Rows PySem.Calls
set_option Elab.async false
set_option maxRecDepth 100000
set_option maxHeartbeats 4000000
namespace Mine
theorem reset_LW : True := by
  w_top off
  k_with_none
  trivial
theorem words_LW : True := by
  k_with "k_ne" => (refine neN ?_; first | with_reducible assumption | exact Ne.symm (by with_reducible assumption) | exact Nat.ne_of_lt (by with_reducible assumption) | exact Nat.ne_of_gt (by with_reducible assumption) | (refine' Nat.ne_of_lt (And.left ?hZ9); (case hZ9 => with_reducible assumption)) | (refine' Nat.ne_of_lt (And.left (And.right ?hZ9)); (case hZ9 => with_reducible assumption)) | (refine' Nat.ne_of_lt (And.left (And.right (And.right ?hZ9))); (case hZ9 => with_reducible assumption)) | (refine' Nat.ne_of_lt (And.left (And.right (And.right (And.right ?hZ9)))); (case hZ9 => with_reducible assumption)) | (refine' Nat.ne_of_lt (And.left (And.right (And.right (And.right (And.right ?hZ9))))); (case hZ9 => with_reducible assumption)) | (refine' Nat.ne_of_lt (And.left (And.right (And.right (And.right (And.right (And.right ?hZ9)))))); (case hZ9 => with_reducible assumption)) | (refine' Nat.ne_of_lt (And.left (And.right (And.right (And.right (And.right (And.right (And.right ?hZ9))))))); (case hZ9 => with_reducible assumption)) | (refine' Nat.ne_of_lt (And.left (And.right (And.right (And.right (And.right (And.right (And.right (And.right ?hZ9)))))))); (case hZ9 => with_reducible assumption)) | (refine' Nat.ne_of_lt (And.left (And.right (And.right (And.right (And.right (And.right (And.right (And.right (And.right ?hZ9))))))))); (case hZ9 => with_reducible assumption)) | (refine' Nat.ne_of_gt (And.left ?hZ9); (case hZ9 => with_reducible assumption)) | (refine' Nat.ne_of_gt (And.left (And.right ?hZ9)); (case hZ9 => with_reducible assumption)) | (refine' Nat.ne_of_gt (And.left (And.right (And.right ?hZ9))); (case hZ9 => with_reducible assumption)) | (refine' Nat.ne_of_gt (And.left (And.right (And.right (And.right ?hZ9)))); (case hZ9 => with_reducible assumption)) | (refine' Nat.ne_of_gt (And.left (And.right (And.right (And.right (And.right ?hZ9))))); (case hZ9 => with_reducible assumption)) | (refine' Nat.ne_of_gt (And.left (And.right (And.right (And.right (And.right (And.right ?hZ9)))))); (case hZ9 => with_reducible assumption)) | (refine' Nat.ne_of_gt (And.left (And.right (And.right (And.right (And.right (And.right (And.right ?hZ9))))))); (case hZ9 => with_reducible assumption)) | (refine' Nat.ne_of_gt (And.left (And.right (And.right (And.right (And.right (And.right (And.right (And.right ?hZ9)))))))); (case hZ9 => with_reducible assumption)) | (refine' Nat.ne_of_gt (And.left (And.right (And.right (And.right (And.right (And.right (And.right (And.right (And.right ?hZ9))))))))); (case hZ9 => with_reducible assumption)) | ((try dsimp only); omega))
  k_with "callWith ref" => (k_here; (with_reducible show wpAny _ _ (callWith _ (Value.ref _) _ (backTo _ (starEach (_ :: _) _)) []) _ _ _); k_dflt (refine' callWith_K ?k1Z9 ?k2Z9 ?_; (case k1Z9 => k_asm); (case k2Z9 => k_is); k_whole))
  trivial
theorem lines_LW_1 : True := by
  k_with "ktr_units" => (((try simp only [units_in1, units_deeper, Around.mark_units, units_under_make]); (try dsimp only [ktrTop]); first | decide | (refine' Nat.lt_of_lt_of_le (Nat.add_lt_add_right ?h9Z9 3) ?g9Z9; (case h9Z9 => assumption); (case g9Z9 => decide)) | omega))
  k_with "ktr_room" => (((try simp only [depth_under_make, depth_under_kw, depth_in1, depth_deeper, depth_caller]); (try dsimp only [ktrTop]); first | decide | (refine' Nat.lt_of_lt_of_le (Nat.succ_lt_succ ?h9Z9) ?g9Z9; (case h9Z9 => assumption); (case g9Z9 => decide)) | omega | (simp only [recursionLimit]; omega)))
  k_with "k_mem" => (first | exact List.Mem.head _ | assumption | (refine' List.Mem.tail _ ?_; k_mem))
  k_with "k_all" => (first | assumption | exact List.forall_mem_nil _ | (refine' List.forall_mem_cons.mpr ⟨?aZ9, ?bZ9⟩; (case aZ9 => k_ne); (case bZ9 => k_all)))
  k_with "callWith ref" => ((k_here; (with_reducible show wpAny _ _ (callWith _ _ _ (backTo _ (starEach [] _)) []) _ _ _); k_dflt (refine' callWith_K0 ?k1Z9 ?k2Z9 ?_; (case k1Z9 => k_in); (case k2Z9 => k_is); k_whole); (try dsimp only [List.nil_append, List.cons_append])))
  k_with "k_in" => (((with_reducible rename Fr _ _ _ _ => kiFZ); (with_reducible rename Frag.In _ _ => kiXZ); exact Frag.In.keeps kiXZ (Fr.keep kiFZ)))
  trivial
noncomputable def TokMark : Prop := True
theorem tok_any {M : Model} {α : Type} {A : Around} {t : Sem α} {Q : α → Shared → Prop} {E : Value → Shared → Prop} {h : Heap} {g : Array GenState} {d : Drawn} {os : OsState} {X : Nat} (H : ∀ tk, wpAny M A t Q E ⟨h, g, d, tk, os⟩) : wpAny M A t Q E ⟨h, g, d, X + 1, os⟩ := H (X + 1)
theorem lines_LW_2 : True := by
  k_with "execs cons" => ((k_here; (with_reducible rename TokMark => tm9Z); (with_reducible refine tok_any ?_); intro _))
  k_with "execs nil" => ((k_here; (with_reducible rename TokMark => tm9Z); (with_reducible refine tok_any ?_); intro _))
  trivial
theorem lit_A : Str.ofString "aAbBcC" = st lettersA := by decide +kernel
theorem lit_B : Str.ofString "bBcCdD" = st lettersB := by decide +kernel
noncomputable abbrev DrawnP (S : List Nat) (news : List (Addr × Obj)) (K : Value → List (Addr × Obj) → Prop) : Prop := ∀ (a : Addr) (f : Fm) (t1 t2 : Tok), f.In S → f.sz = 7 → (∀ p ∈ news, @LT.lt Nat _ p.1 a) → K (.ref a) ((a, tupO [.str (st f.enc) t1, .int (f.mask : Int) t2]) :: news)
theorem drawnA_ct (w : World) (ca : Addr) (c0 c1 c2 c3 : Int) (u0 u1 u2 u3 ts : Tok) (nc : Nat) (h0 : 0 ≤ c0 ∧ c0 ≤ 100000000) (h1 : 0 ≤ c1 ∧ c1 ≤ 100000000) (h2 : 0 ≤ c2 ∧ c2 ≤ 100000000) (h3 : 0 ≤ c3 ∧ c3 ≤ 100000000) (news : List (Addr × Obj)) (hcl : (ca, PySem.W.listOf [Value.int c0 u0, Value.int c1 u1, Value.int c2 u2, Value.int c3 u3].toArray nc) ∈ news) :
    MutCt w 630 730 (.ref 258) [.ref ca, .str (Str.ofString "aAbBcC") ts] [] news (Cps (DrawnP lettersA news)) := by
  rw [lit_A]
  refine (drawn_ct w lettersA (.inl rfl) ca c0 c1 c2 c3 u0 u1 u2 u3 ts nc h0.1 h1.1 h2.1 h3.1 h0.2 h1.2 h2.2 h3.2 news hcl).mono ?_
  rintro r n ⟨a, f, t1, t2, rfl, h1, h2, rfl, h3⟩ K k
  exact k a f t1 t2 h1 h2 h3
theorem drawnB_ct (w : World) (ca : Addr) (c0 c1 c2 c3 : Int) (u0 u1 u2 u3 ts : Tok) (nc : Nat) (h0 : 0 ≤ c0 ∧ c0 ≤ 100000000) (h1 : 0 ≤ c1 ∧ c1 ≤ 100000000) (h2 : 0 ≤ c2 ∧ c2 ≤ 100000000) (h3 : 0 ≤ c3 ∧ c3 ≤ 100000000) (news : List (Addr × Obj)) (hcl : (ca, PySem.W.listOf [Value.int c0 u0, Value.int c1 u1, Value.int c2 u2, Value.int c3 u3].toArray nc) ∈ news) :
    MutCt w 630 730 (.ref 258) [.ref ca, .str (Str.ofString "bBcCdD") ts] [] news (Cps (DrawnP lettersB news)) := by
  rw [lit_B]
  refine (drawn_ct w lettersB (.inr rfl) ca c0 c1 c2 c3 u0 u1 u2 u3 ts nc h0.1 h1.1 h2.1 h3.1 h0.2 h1.2 h2.2 h3.2 news hcl).mono ?_
  rintro r n ⟨a, f, t1, t2, rfl, h1, h2, rfl, h3⟩ K k
  exact k a f t1 t2 h1 h2 h3
theorem lit_lt : Str.ofString "<" = st [60] := by decide +kernel
theorem lit_gt : Str.ofString ">" = st [62] := by decide +kernel
theorem lines_LW_3 : True := by
  k_with "binaryOp Add str str" => ((k_here; k_dflt (refine' add_sx ?hxZ9 ?hyZ9 ?szZ9 ?_; (case hxZ9 => first | exact lit_lt | exact lit_gt | exact rfl); (case hyZ9 => exact rfl); (case szZ9 => ((try simp only [List.length_cons, List.length_nil, List.length_append, Fm.enc_len]); omega))); intro _ _))
  k_with "call builtin:sum" => ((k_here; (with_reducible show wpAny _ _ (call (Value.builtin "sum") [Value.ref _]) _ _ _); (rename News _ _ _ _ => kN9Z); (with_unfolding_all refine' sumK ?k0Z9 ?k1Z9 kN9Z ?k3Z9 ?k4Z9 ?_; (case k0Z9 => with_unfolding_all rfl); (case k1Z9 => k_asm); (case k3Z9 => exact ⟨_, (kN9Z (_, PySem.W.listOf _ _) (by k_mem)).1, rfl, _, rfl⟩); (case k4Z9 => exact .cons _ _ (.cons _ _ (.cons _ _ (.cons _ _ (.cons _ _ (.cons _ _ (.cons _ _ (.cons _ _ .nil)))))))); k_whole); intro _ _ _ _ _; (try simp only [List.sum_cons, List.sum_nil])))
  trivial
section
variable {prog : Program} {w : World} {A : Around} {E : Value → Shared → Prop} {s : Shared} {h₀ : Heap} {L : Addr} {news : List (Addr × Obj)}
theorem ne_three {a b : Addr} {x y z z' : Str} {t1 t2 t3 u1 u2 u3 : Tok} {n k : Nat} {Q : Value → Shared → Prop} (N : News h₀ L s.heap news) (ma : (a, PySem.W.listOf [Value.str x t1, Value.str y t2, Value.str z t3].toArray k) ∈ news) (mb : (b, PySem.W.listOf [Value.str x u1, Value.str y u2, Value.str z' u3].toArray n) ∈ news) (hz : z = z') (ox : PyData.strOk x = true) (oy : PyData.strOk y = true) (oz : PyData.strOk z = true) (hu : A.units + 64 < cLine) (h : Q (.bool false) s) :
    wpAny (model prog w) A (compareOp .NotEq (.ref a) (.ref b)) Q E s := by
  subst hz
  refine kqd_ne (xs := [Value.str x t1, Value.str y t2, Value.str z t3]) (ys := [Value.str x u1, Value.str y u2, Value.str z u3]) (n₁ := news) (n₂ := news) N ma rfl rfl (DatAll.cons (DatIn.str _ _) (DatAll.cons (DatIn.str _ _) (DatAll.cons (DatIn.str _ _) DatAll.nil))) (fun _ h => h) mb rfl rfl (DatAll.cons (DatIn.str _ _) (DatAll.cons (DatIn.str _ _) (DatAll.cons (DatIn.str _ _) DatAll.nil))) (fun _ h => h) ?_ ?_ hu (by simpa using h)
  · intro d hd
    simp only [List.mem_cons, List.not_mem_nil, or_false] at hd
    rcases hd with rfl | rfl | rfl <;> assumption
  · intro d hd
    simp only [List.mem_cons, List.not_mem_nil, or_false] at hd
    rcases hd with rfl | rfl | rfl <;> assumption
end
theorem ok_ascii {x : Str} (h : x.cps.all (· < 128) = true) : PyData.strOk x = true := by
  unfold PyData.strOk
  rw [Array.all_eq_true] at h ⊢
  intro i hi
  have := h i hi
  simp at this ⊢
  omega
theorem ok_word {S : List Nat} {s : Nat} {f : Fm} (hS : ∀ c ∈ S, c ∈ letters) (hs : s ∈ signs) (hf : f.In S) : PyData.strOk (st (s :: f.enc)) = true := ok_ascii (ascii_signs (word_signs hs (hf.mono hS)))
theorem ok_nil : PyData.strOk (st []) = true := by decide +kernel
theorem lit_nil : st [] = Str.ofString "" := by decide +kernel
theorem lines_LW_4 : True := by
  k_with "compareOp NotEq ref ref" => ((k_here; (rename News _ _ _ _ => kN9Z); k_dflt (refine' ne_three kN9Z ?maZ9 ?mbZ9 lit_nil ?oxZ9 ?oyZ9 ok_nil ?huZ9 ?_; (case maZ9 => k_mem); (case mbZ9 => k_mem); (case oxZ9 => exact ok_word (S := lettersA) (by decide) (by decide) (by assumption)); (case oyZ9 => exact ok_word (S := lettersB) (by decide) (by decide) (by assumption)); (case huZ9 => ke_room); k_whole)))
  trivial
theorem text_len' {b1 b2 : Bool} {f g : Fm} (hf : f.sz = 7) (hg : g.sz = 7) : (wr b1 (60 :: f.enc) ++ wr b2 (62 :: g.enc)).length ≤ 1000 := by
  have q1 := wr_len b1 (60 :: f.enc)
  have q2 := wr_len b2 (62 :: g.enc)
  simp only [List.length_cons, Fm.enc_len] at q1 q2
  rw [List.length_append]; omega
theorem get_s {w : World} {l : List Nat} {x9 dx fL pb al : Addr} {p : Nat} {ln : Int} {tp t1 t2 t3 t4 t5 t6 : Tok} {n na : Nat} {rest : List (Addr × Obj)} {tok : List Nat} {p1 : Nat} {ln1 : Int} (hst : Step l p ln tok p1 ln1) (hl : l.length ≤ 1000) (h1 : (x9, instObj 100 dx) ∈ rest) (h2 : (pb, PySem.W.listOf ([] : List Value).toArray n) ∈ rest) (hS : LexAt w (st l) rest x9 dx fL al) (h3 : ∀ q ∈ rest, q.1 ≠ al) (h4 : ∀ q ∈ rest, q.1 ≠ dx) (h5 : al ≠ dx) :
    MutCt w 640 740 (.ref 90) [.ref x9] [] ((al, PySem.W.listOf [Value.int p tp].toArray na) :: (dx, dictOf [⟨PyData.keyHash w.params (Str.ofString "lineno"), .str (Str.ofString "lineno") t1, .int ln t2⟩, ⟨PyData.keyHash w.params (Str.ofString "instream"), .str (Str.ofString "instream") t3, .ref fL⟩, ⟨PyData.keyHash w.params (Str.ofString "whitespace"), .str (Str.ofString "whitespace") t4, .str (Str.ofString "\n\t\x0d ") t5⟩, ⟨PyData.keyHash w.params (Str.ofString "pushback"), .str (Str.ofString "pushback") t6, .ref pb⟩] 4) :: rest) (Cps fun K => ∀ t' t'' s1 s2 s3 s4 s5 s6, K (.str (st tok) t') ((al, PySem.W.listOf [Value.int p1 t''].toArray na) :: (dx, dictOf [⟨PyData.keyHash w.params (Str.ofString "lineno"), .str (Str.ofString "lineno") s1, .int ln1 s2⟩, ⟨PyData.keyHash w.params (Str.ofString "instream"), .str (Str.ofString "instream") s3, .ref fL⟩, ⟨PyData.keyHash w.params (Str.ofString "whitespace"), .str (Str.ofString "whitespace") s4, .str (Str.ofString "\n\t\x0d ") s5⟩, ⟨PyData.keyHash w.params (Str.ofString "pushback"), .str (Str.ofString "pushback") s6, .ref pb⟩] 4) :: rest)) := by
  obtain ⟨pre, r0, used, nls, a1, a2, a3, a4, a5⟩ := hst
  exact get_t w l hl x9 dx fL pb al p ln tp t1 t2 t3 t4 t5 t6 n na rest h1 h2 hS h3 h4 h5 pre r0 tok used p1 nls ln1 a1 a2 a3 a4 a5
theorem perm_in {α : Type} {a d i c e : α} {R : List α} : ∀ p ∈ a :: d :: i :: c :: e :: R, p ∈ i :: c :: e :: a :: d :: R := by
  repeat' first | exact sub_nil | exact sub_refl | (refine' sub_cons ?h9 ?_; (case h9 => repeat' first | exact List.Mem.head _ | apply List.Mem.tail)) | refine sub_tail ?_
theorem perm_out {α : Type} {a d i c e : α} {R : List α} : ∀ p ∈ i :: c :: e :: a :: d :: R, p ∈ a :: d :: i :: c :: e :: R := by
  repeat' first | exact sub_nil | exact sub_refl | (refine' sub_cons ?h9 ?_; (case h9 => repeat' first | exact List.Mem.head _ | apply List.Mem.tail)) | refine sub_tail ?_
theorem ne3 {a I C D : Addr} {oI oC oD : Obj} {R : List (Addr × Obj)} (h : (@Ne Nat a I) ∧ (@Ne Nat a C) ∧ (@Ne Nat a D)) (hR : ∀ q ∈ R, @Ne Nat q.1 a) : ∀ q ∈ (I, oI) :: (C, oC) :: (D, oD) :: R, q.1 ≠ a := by
  intro q hq
  rcases List.mem_cons.mp hq with rfl | hq
  · exact Ne.symm h.1
  · rcases List.mem_cons.mp hq with rfl | hq
    · exact Ne.symm h.2.1
    · rcases List.mem_cons.mp hq with rfl | hq
      · exact Ne.symm h.2.2
      · exact hR q hq
theorem law_perm {α : Type} {pb x9 dx dL fL c2 fR c1 al cA cT t W ln sc ft : α} : ∀ p ∈ al :: dx :: [pb, x9, dL, fL, c2, fR, c1, cA, cT, t, W, ln, sc, ft], p ∈ [pb, x9, dx, dL, fL, c2, fR, c1, al, cA, cT, t, W, ln, sc, ft] := by
  repeat' first | exact sub_nil | exact sub_refl | (refine' sub_cons ?h9 ?_; (case h9 => repeat' first | exact List.Mem.head _ | apply List.Mem.tail)) | refine sub_tail ?_
theorem cut_led {h₀ h : Heap} {L : Addr} {a d : Addr × Obj} {R : List (Addr × Obj)} (N : News h₀ L h (a :: d :: R)) {G : Prop} (k : ∀ R', R' = R → News h₀ L h (a :: d :: R') → G) : G := k R rfl N
theorem led_mems {α : Type} {R : List α} {pb x9 dL fL c2 fR c1 cA cT t W ln sc ft : α} (h : R = [pb, x9, dL, fL, c2, fR, c1, cA, cT, t, W, ln, sc, ft]) {G : Prop} (k : pb ∈ R → x9 ∈ R → dL ∈ R → fL ∈ R → c2 ∈ R → fR ∈ R → c1 ∈ R → cA ∈ R → cT ∈ R → t ∈ R → W ∈ R → ln ∈ R → sc ∈ R → ft ∈ R → G) : G := by
  subst h
  exact k (.head _) (.tail _ (.head _)) (.tail _ (.tail _ (.head _))) (.tail _ (.tail _ (.tail _ (.head _)))) (.tail _ (.tail _ (.tail _ (.tail _ (.head _))))) (.tail _ (.tail _ (.tail _ (.tail _ (.tail _ (.head _)))))) (.tail _ (.tail _ (.tail _ (.tail _ (.tail _ (.tail _ (.head _))))))) (.tail _ (.tail _ (.tail _ (.tail _ (.tail _ (.tail _ (.tail _ (.head _)))))))) (.tail _ (.tail _ (.tail _ (.tail _ (.tail _ (.tail _ (.tail _ (.tail _ (.head _))))))))) (.tail _ (.tail _ (.tail _ (.tail _ (.tail _ (.tail _ (.tail _ (.tail _ (.tail _ (.head _)))))))))) (.tail _ (.tail _ (.tail _ (.tail _ (.tail _ (.tail _ (.tail _ (.tail _ (.tail _ (.tail _ (.head _))))))))))) (.tail _ (.tail _ (.tail _ (.tail _ (.tail _ (.tail _ (.tail _ (.tail _ (.tail _ (.tail _ (.tail _ (.head _)))))))))))) (.tail _ (.tail _ (.tail _ (.tail _ (.tail _ (.tail _ (.tail _ (.tail _ (.tail _ (.tail _ (.tail _ (.tail _ (.head _))))))))))))) (.tail _ (.tail _ (.tail _ (.tail _ (.tail _ (.tail _ (.tail _ (.tail _ (.tail _ (.tail _ (.tail _ (.tail _ (.tail _ (.head _))))))))))))))
theorem steps_fg (b1 b2 : Bool) {f g : Fm} (hf : f.In lettersA) (hg : g.In lettersB) {G : Prop} (k : ∀ p1 p2 p3 n1 n2, Step (wr b1 (60 :: f.enc) ++ wr b2 (62 :: g.enc)) 0 1 (60 :: f.enc) p1 n1 → Step (wr b1 (60 :: f.enc) ++ wr b2 (62 :: g.enc)) p1 n1 (62 :: g.enc) p2 n2 → Step (wr b1 (60 :: f.enc) ++ wr b2 (62 :: g.enc)) p2 n2 [] p3 3 → G) : G := by
  obtain ⟨p1, p2, p3, n1, n2, s1, s2, s3⟩ : ∃ p1 p2 p3 n1 n2, Step (wr b1 (60 :: f.enc) ++ wr b2 (62 :: g.enc)) 0 1 (60 :: f.enc) p1 n1 ∧ Step (wr b1 (60 :: f.enc) ++ wr b2 (62 :: g.enc)) p1 n1 (62 :: g.enc) p2 n2 ∧ Step (wr b1 (60 :: f.enc) ++ wr b2 (62 :: g.enc)) p2 n2 [] p3 3 := steps b1 b2 (plain_of (word_signs (by decide) (hf.mono (by decide)))) (plain_of (word_signs (by decide) (hg.mono (by decide))))
  exact k p1 p2 p3 n1 n2 s1 s2 s3
theorem text_len {b1 b2 : Bool} {f g : Fm} (hf : f.sz = 7) (hg : g.sz = 7) : (st (wr b1 (60 :: f.enc) ++ wr b2 (62 :: g.enc))).length ≤ 1000 := by
  have q1 := wr_len b1 (60 :: f.enc)
  have q2 := wr_len b2 (62 :: g.enc)
  simp only [List.length_cons, Fm.enc_len] at q1 q2
  rw [st_len, List.length_append]; omega
theorem law_keep {α : Type} {w a b c d e f x y z t : α} : ∀ p ∈ [t, w, x, y, z], p ∈ [w, a, b, c, d, e, f, x, y, z, t] := by
  repeat' first | exact sub_nil | exact sub_refl | (refine' sub_cons ?h9 ?_; (case h9 => repeat' first | exact List.Mem.head _ | apply List.Mem.tail)) | refine sub_tail ?_
theorem notin_known {prog : Program} {w : World} {A : Around} {E : Value → Shared → Prop} {s : Shared} {c : Nat} {l : List Nat} {t u : Tok} {Q : Value → Shared → Prop} (e : c ∈ l) (h : Q (.bool false) s) : wpAny (model prog w) A (compareOp .NotIn (.str ⟨#[c]⟩ u) (.str (st l) t)) Q E s := by
  refine P.notIn_str ?_
  rw [StrLaws.found_one, decide_eq_true (by simpa using e)]
  exact h
theorem in_low {prog : Program} {w : World} {A : Around} {E : Value → Shared → Prop} {s : Shared} {c : Nat} {b : Bool} {t u : Tok} {Q : Value → Shared → Prop} (hm : c ∈ letters) (e : decide (97 ≤ c) = b) (h : Q (.bool b) s) : wpAny (model prog w) A (compareOp .In (.str ⟨#[c]⟩ u) (.str (Str.ofString "abcd") t)) Q E s := by
  refine P.in_str ?_
  rw [StrLaws.found_one, (show ∀ c ∈ letters, decide (c ∈ (Str.ofString "abcd").cps.toList) = decide (97 ≤ c) by refine letters_cases ?_ ?_ ?_ ?_ ?_ ?_ ?_ ?_ <;> decide +kernel) c hm, e]
  exact h
theorem up_txt : ∀ c ∈ letters, 97 ≤ c → Txt.upper ⟨#[c]⟩ = ⟨#[opp c]⟩ := by
  refine letters_cases ?_ ?_ ?_ ?_ ?_ ?_ ?_ ?_ <;> decide +kernel
theorem dn_txt : ∀ c ∈ letters, ¬ 97 ≤ c → Txt.lower ⟨#[c]⟩ = ⟨#[opp c]⟩ := by
  refine letters_cases ?_ ?_ ?_ ?_ ?_ ?_ ?_ ?_ <;> decide +kernel
theorem up_fit : ∀ c ∈ letters, Builtin.Str.tooLong (Txt.upper ⟨#[c]⟩).length = false := by
  refine letters_cases ?_ ?_ ?_ ?_ ?_ ?_ ?_ ?_ <;> decide +kernel
theorem lines_LW_5 : True := by
  k_with "compareOp NotIn str str" => ((k_here; k_dflt (refine' notin_known ?eZ9 ?_; (case eZ9 => with_reducible assumption); k_whole)))
  k_with "compareOp In str str" => ((k_here; k_dflt (first
      | (refine' in_low (b := true) ?mZ9 ?eZ9 ?_; (case mZ9 => with_reducible assumption); (case eZ9 => exact decide_eq_true (by with_reducible assumption)); k_whole)
      | (refine' in_low (b := false) ?mZ9 ?eZ9 ?_; (case mZ9 => with_reducible assumption); (case eZ9 => exact decide_eq_false (by with_reducible assumption)); k_whole))))
  k_with "call builtin:str.upper" => ((k_here; (with_reducible show wpAny _ _ (call (Value.builtin "str.upper") [Value.str _ _]) _ _ _); (refine KXw.upper (up_txt _ ?hmZ9 ?hZ9) (up_fit _ ?hmZ9) ?_); (case hmZ9 => assumption); (case hZ9 => assumption); intro _ _))
  k_with "call builtin:str.lower" => ((k_here; (with_reducible show wpAny _ _ (call (Value.builtin "str.lower") [Value.str _ _]) _ _ _); (refine KXw.lower (dn_txt _ ?hmZ9 ?hZ9) (low_fit _ ?hmZ9) ?_); (case hmZ9 => assumption); (case hZ9 => assumption); intro _ _))
  trivial
theorem and_known {prog : Program} {w : World} {A : Around} {E : Value → Shared → Prop} {s : Shared} {a b c : Int} {t u : Tok} {Q : Value → Shared → Prop} (e : Builtin.bitAnd a b = c) (h : Q (.int c s.toks) { s with toks := s.toks + 1 }) : wpAny (model prog w) A (binaryOp .BitAnd (.int a t) (.int b u)) Q E s := by
  subst e; exact and_int h
theorem lines_LW_6 : True := by
  k_with "binaryOp BitAnd int int" => ((k_here; k_dflt (refine' and_known ?eZ9 ?_; (case eZ9 => with_reducible assumption); k_whole)))
  trivial
theorem ne_known {prog : Program} {w : World} {A : Around} {E : Value → Shared → Prop} {s : Shared} {a b : Int} {t u : Tok} {Q : Value → Shared → Prop} (e : a = b) (h : Q (.bool false) s) : wpAny (model prog w) A (compareOp .NotEq (.int a t) (.int b u)) Q E s := by
  subst e; exact P.ne_int (by simpa using h)
theorem lines_LW_7 : True := by
  k_with "compareOp NotEq int int" => ((k_here; k_dflt (refine' ne_known ?eZ9 ?_; (case eZ9 => first | with_reducible rfl | with_reducible assumption); k_whole)))
  trivial
theorem known_opn {f g m : Nat} (hb : f &&& g ≠ 0) (h1 : m ≠ 0) (h2 : m &&& (f &&& g) = m) : ∃ z n : Int, (m : Int) = n ∧ n ≠ 0 ∧ z ≠ 0 ∧ Builtin.bitAnd (f : Int) (g : Int) = z ∧ Builtin.bitAnd n z = n :=
  ⟨((f &&& g : Nat) : Int), (m : Int), rfl, by omega, by omega, bitAnd_nat f g, by rw [bitAnd_nat, h2]⟩
theorem known_cls {f g m : Nat} (hb : f &&& g = 0) (h1 : m &&& f = f) (h2 : m &&& g = 0) (h3 : (m &&& 43690) / 2 = m &&& 21845) (h4 : m / 256 = m &&& 255) : ∃ n a b c : Int, (m : Int) = n ∧ Builtin.bitAnd (f : Int) (g : Int) = 0 ∧ Builtin.bitAnd n (f : Int) = (f : Int) ∧ Builtin.bitAnd n (g : Int) = 0 ∧ Builtin.bitAnd n 43690 = a ∧ Builtin.bitAnd n 21845 = b ∧ Builtin.bitAnd n 255 = c ∧ Int.fdiv a 2 = b ∧ Int.fdiv n 256 = c := by
  refine ⟨(m : Int), ((m &&& 43690 : Nat) : Int), ((m &&& 21845 : Nat) : Int), ((m &&& 255 : Nat) : Int), rfl, ?_, ?_, ?_, bitAnd_nat m 43690, bitAnd_nat m 21845, bitAnd_nat m 255, ?_, ?_⟩
  · rw [bitAnd_nat, hb]; rfl
  · rw [bitAnd_nat, h1]
  · rw [bitAnd_nat, h2]; rfl
  · rw [← h3, Int.fdiv_eq_ediv_of_nonneg _ (by decide)]; omega
  · rw [← h4, Int.fdiv_eq_ediv_of_nonneg _ (by decide)]; omega
noncomputable abbrev TwoP (f g : Fm) (R : List (Addr × Obj)) (K : Value → List (Addr × Obj) → Prop) : Prop :=
  (∀ (a : Addr) (k : Nat) (z n : Int) (u1 u2 : Tok), (∀ p ∈ R, @LT.lt Nat _ p.1 a) → n ≠ 0 → z ≠ 0 → Builtin.bitAnd (f.mask : Int) (g.mask : Int) = z → Builtin.bitAnd n z = n → K (.ref a) ((a, PySem.W.listOf [Value.bool false, Value.int n u1, Value.str (st []) u2].toArray k) :: R)) ∧
  (∀ (a : Addr) (k : Nat) (n x1 x2 x3 : Int) (ls : List Nat) (u1 u2 : Tok), (∀ p ∈ R, @LT.lt Nat _ p.1 a) → Builtin.bitAnd (f.mask : Int) (g.mask : Int) = 0 → Builtin.bitAnd n (f.mask : Int) = (f.mask : Int) → Builtin.bitAnd n (g.mask : Int) = 0 → Builtin.bitAnd n 43690 = x1 → Builtin.bitAnd n 21845 = x2 → Builtin.bitAnd n 255 = x3 → Int.fdiv x1 2 = x2 → Int.fdiv n 256 = x3 → ls.length ≤ 16384 → (∀ x ∈ ls, x ∈ letters ∧ x ∈ f.enc ∧ opp x ∈ g.enc) → K (.ref a) ((a, PySem.W.listOf [Value.bool true, Value.int n u1, Value.str (st ls) u2].toArray k) :: R))
theorem branch_two (w : World) {f g : Fm} (hf : f.In lettersA) (hg : g.In lettersB) (zf : f.sz = 7) (zg : g.sz = 7) {wl pl : Addr} {t1 t2 : Tok} {nw np : Nat} {R : List (Addr × Obj)} (mW : (wl, PySem.W.listOf [Value.str (st (60 :: f.enc)) t1, Value.str (st (62 :: g.enc)) t2].toArray nw) ∈ R) (hpl : ∀ q ∈ R, q.1 ≠ pl) (hc : Code265 R) :
    MutCt w 576 450 (.ref 312) [.ref wl, .ref pl] [] ((pl, PySem.W.listOf ([] : List Value).toArray np) :: R) (Cps (TwoP f g R)) := by
  have hsz : szs [(60, f), (62, g)] ≤ 14 := by simp [szs, zf, zg]
  refine (branch_all w 14 [(60, f), (62, g)] [] wl pl [Value.str (st (60 :: f.enc)) t1, Value.str (st (62 :: g.enc)) t2] [] nw np R hsz (start_ok hf hg) (fun p hp => by cases hp) (.cons (.cons .nil)) .nil mW hpl hc (by decide) (by decide)).mono ?_
  rintro r n' ⟨a, k, vs, rfl, hv, rfl, ha⟩ K h
  by_cases hb : f.mask &&& g.mask = 0
  · obtain ⟨m, ls, e, e1, e2, e3, e4, e5⟩ := both_cls hf hg hb
    have hl := cls_len 14 _ _ _ _ hsz e
    rw [e] at hv
    obtain ⟨u1, u2, rfl⟩ := hv
    obtain ⟨n, x1, x2, x3, rfl, g2, g3, g4, g5, g6, g7, g8, g9⟩ := known_cls hb e1 e2 e3 e4
    exact h.2 a k _ x1 x2 x3 ls u1 u2 ha g2 g3 g4 g5 g6 g7 g8 g9 hl e5
  · obtain ⟨m, e, e1, e2⟩ := both_opn hf hg hb
    rw [e] at hv
    obtain ⟨u1, u2, rfl⟩ := hv
    obtain ⟨z, n, rfl, e4, e5, e6, e7⟩ := known_opn hb e1 e2
    exact h.1 a k z _ u1 u2 ha e4 e5 e6 e7
theorem keep_branch {α : Type} {p a b c d e : α} {R : List α} : ∀ q ∈ p :: R, q ∈ p :: a :: b :: c :: d :: e :: R := by
  intro q hq
  simp only [List.mem_cons] at hq ⊢
  rcases hq with h | h <;> simp [h]
theorem lines_LW_8 : True := by
  k_with "eval ListComp" => ((k_here; (with_reducible show wpAny _ _ (eval (PySem.Expr.ListComp _ [⟨_, _, [], _⟩] _ _) _) _ _ _); k_dflt (refine' LCg.ListComp_U (F₀ := by k_asm) (by with_unfolding_all rfl) (by decide) (by rfl) (by decide) (by rfl) ?_)))
  k_with "eval ListComp" => ((k_here; (with_reducible show wpAny _ _ (eval (PySem.Expr.ListComp _ [⟨_, _, [_], _⟩] _ _) _) _ _ _); k_dflt (refine' ListComp_TT (F₀ := by k_asm) (by with_unfolding_all rfl) (by decide) (by rfl) (by decide) (by rfl) ?_)))
  k_with "call ref" => ((k_here; refine held ?_; intro _ _))
  k_with "CompSrc" => ((k_here; refine held ?_; intro _ _))
  k_with "call ref" => ((k_here; (first
      | (with_reducible show wpAny _ _ (call (Value.ref 258) _) _ _ _; k_dflt (refine' MutCt.useC (drawnA_ct _ _ _ _ _ _ _ _ _ _ _ _ ?h0Z9 ?h1Z9 ?h2Z9 ?h3Z9 _ ?m1Z9) ?k1Z9 ?k2Z9 ?k3Z9 ?k4Z9 ?k5Z9 ?k6Z9 ?k7Z9 ?k8Z9 ?_; (case k1Z9 => k_asm); (case k2Z9 => k_asm); (case k3Z9 => k_asm); (case k4Z9 => k_asm); (case m1Z9 => k_mem); (case h0Z9 => assumption); (case h1Z9 => assumption); (case h2Z9 => assumption); (case h3Z9 => assumption); (case k5Z9 => k_asm); (case k6Z9 => first | rfl | assumption); (case k7Z9 => ktr_room); (case k8Z9 => ktr_units)); intro h9Z tk9Z a9Z f9Z t8Z t9Z hf9Z hz9Z l9Z F9Z N9Z; (try k_lt l9Z))
      | (with_reducible show wpAny _ _ (call (Value.ref 258) _) _ _ _; k_dflt (refine' MutCt.useC (drawnB_ct _ _ _ _ _ _ _ _ _ _ _ _ ?h0Z9 ?h1Z9 ?h2Z9 ?h3Z9 _ ?m1Z9) ?k1Z9 ?k2Z9 ?k3Z9 ?k4Z9 ?k5Z9 ?k6Z9 ?k7Z9 ?k8Z9 ?_; (case k1Z9 => k_asm); (case k2Z9 => k_asm); (case k3Z9 => k_asm); (case k4Z9 => k_asm); (case m1Z9 => k_mem); (case h0Z9 => assumption); (case h1Z9 => assumption); (case h2Z9 => assumption); (case h3Z9 => assumption); (case k5Z9 => k_asm); (case k6Z9 => first | rfl | assumption); (case k7Z9 => ktr_room); (case k8Z9 => ktr_units)); intro h9Z tk9Z a9Z f9Z t8Z t9Z hf9Z hz9Z l9Z F9Z N9Z; (try k_lt l9Z))
      | (with_reducible show wpAny _ _ (call (Value.ref 246) _) _ _ _; k_dflt (refine' MutCtL.useC (cells_ct _ _ _ _ _ ?hiZ9 ?hlZ9 _ _ _ _ _ _ _ _ _ _ ?hoZ9) ?kSZ9 ?k1Z9 ?k2Z9 ?k3Z9 ?k4Z9 ?k5Z9 ?k6Z9 ?k7Z9 ?k8Z9 ?_; (case k1Z9 => k_asm); (case k2Z9 => k_asm); (case k3Z9 => k_asm); (case k4Z9 => k_asm); (case kSZ9 => assumption); (case hiZ9 => assumption); (case hlZ9 => assumption); (case hoZ9 => k_mem); (case k5Z9 => k_asm); (case k6Z9 => first | rfl | assumption); (case k7Z9 => ktr_room); (case k8Z9 => ktr_units)); intro h9Z tk9Z _ _ _ _ _ _ _ _ _ _ _ _ _ _ _ _ _ _ _ _ _ _ _ _ _ l9Z F9Z N9Z; (try k_lt l9Z))); (try dsimp only); (try k_sweep)))
  trivial
set_option maxHeartbeats 20000000 in
theorem law_holds : PySem.Challenge.rw_re0168_01.Holds := by
  w_on
  refine holds_law ws (fun said => ?_)
  refine holds_open (q := vw) (loose := loose) (Xt := fun s => xlAt vw [] s && recOk [] s) (XP := XL vw []) (Yf := Hook.obs (kmHook Mine.mkK.heap_1 asK asK_ok [265])) (Ya := Hook.val (kmHook Mine.mkK.heap_1 asK asK_ok [265])) (YP := Hook.says (kmHook Mine.mkK.heap_1 asK asK_ok [265])) (N := 6406) (left_T "special-get-raises" (fun w b => by cases b; exact run_f w; exact run_t w)) (Hook.of (kmHook Mine.mkK.heap_1 asK asK_ok [265])) (Hook.keeps (kmHook Mine.mkK.heap_1 asK asK_ok [265])) (fun s e => xl_of s (Bool.and_eq_true_iff.mp e).1) XL.keeps (by rfl) (by rfl) (by rfl) (fun s e => recFacts_of (Bool.and_eq_true_iff.mp e).2) (by rfl) (by assumption) (by decide +kernel) ⟨rfl,rfl,rfl,rfl,rfl, by decide +kernel⟩ ?hw ?hc
  case hw => w_witness2
  k_go0
  refine wpAny_mono (E := nE) ?_ (fun _ _ z => z) (fun _ _ z => z.elim)
  rename IntsAre _ _ => hI
  rename (¬ _ < _) => hcond
  rename Heap.IsList (ghostOf _ _) _ _ => hSc
  have hlen := hI.length
  have hl63 : _ ≤ 63 := Nat.le_of_not_lt fun h => hcond (Int.ofNat_lt.mpr (hlen ▸ h))
  k_steps
  rename Held _ _ => k9
  refine Held.go k9 ?_
  clear k9
  (with_reducible show wpAny _ _ (call (Value.ref 263) _) _ _ _; k_dflt (refine' MutCt.u3E (written_ct _ _ _ _ _ _ _ _ _ ?hs ?hs2 ?ha ?hb ?ha1 ?hb1 _ ?hpl) ?k1 ?k2 ?k3 ?k4 ?k5 ?k6 ?k7 ?k8 ?_; (case k1 => k_asm); (case k2 => k_asm); (case k3 => k_asm); (case k4 => k_asm); (case hpl => k_mem); (case hs => omega); (case hs2 => omega); (case ha => ((try simp only [List.length_cons, List.length_nil, List.length_append, Fm.enc_len]); omega)); (case hb => ((try simp only [List.length_cons, List.length_nil, List.length_append, Fm.enc_len]); omega)); (case ha1 => exact ascii_signs (word_signs (by decide) (Fm.In.mono (S := lettersA) (by decide) (by assumption)))); (case hb1 => exact ascii_signs (word_signs (by decide) (Fm.In.mono (S := lettersB) (by decide) (by assumption)))); (case k5 => k_asm); (case k6 => first | rfl | assumption); (case k7 => ktr_room); (case k8 => ktr_units)); intro h9 tk9 t9 b1 b2 F9 N9)
  k_steps
  rename Held _ _ => k9
  refine Held.go k9 ?_
  clear k9
  rename News _ _ _ _ => N9
  rename Fr _ _ _ _ => F9
  have N8 := news_sub N9 law_keep
  rename Fm.In lettersA _ => hfA
  rename Fm.In lettersB _ => hgB
  clear N9
  k_dflt (refine' MutCt.useC (line_new _ _ ?hx _ _ ?hne) ?k1 ?k2 ?k3 ?k4 ?k5 ?k6 ?k7 ?k8 ?_; (case k1 => k_asm); (case k2 => k_asm); (case k3 => k_asm); (case k4 => exact N8); (case hne => k_all); (case k5 => k_asm); (case k6 => first | rfl | assumption); (case k7 => ktr_room); (case k8 => ktr_units))
  case hx => exact text_len (by assumption) (by assumption)
  intro h3 tk3 pb x9 dx s1 s2 s3 s4 s5 s6 fL dL tr fR fd sl c2 oc2 fo c1 oc1 al s7 cA oA cT oT g0 g1 g2 g3 g4 g5 g6 g7 g8 g9' g10 g11 hq hR F3 N3
  have cT_al : @LT.lt Nat _ cT al := Nat.lt_trans g2 g3
  have al_fR : @LT.lt Nat _ al fR := Nat.lt_trans g4 g5
  have al_c2 : @LT.lt Nat _ al c2 := Nat.lt_trans al_fR g6
  have al_fL : @LT.lt Nat _ al fL := Nat.lt_trans al_c2 g7
  have al_dL : @LT.lt Nat _ al dL := Nat.lt_trans al_fL g8
  have al_dx : @LT.lt Nat _ al dx := Nat.lt_trans al_dL g9'
  have al_x9 : @LT.lt Nat _ al x9 := Nat.lt_trans al_dx g10
  have al_pb : @LT.lt Nat _ al pb := Nat.lt_trans al_x9 g11
  have fL_dx : @LT.lt Nat _ fL dx := Nat.lt_trans g8 g9'
  have c2_dx : @LT.lt Nat _ c2 dx := Nat.lt_trans g7 fL_dx
  have fR_dx : @LT.lt Nat _ fR dx := Nat.lt_trans g6 c2_dx
  have c1_dx : @LT.lt Nat _ c1 dx := Nat.lt_trans g5 fR_dx
  have cA_dx : @LT.lt Nat _ cA dx := Nat.lt_trans g3 al_dx
  have cT_dx : @LT.lt Nat _ cT dx := Nat.lt_trans g2 cA_dx
  have dx_pb : @LT.lt Nat _ dx pb := Nat.lt_trans g10 g11
  have z_cT := ltN (g0 _ (.tail _ (.head _)))
  dsimp only at z_cT
  have z_cA := Nat.lt_trans z_cT g2
  have z_al := Nat.lt_trans z_cA g3
  have z_c1 := Nat.lt_trans z_al g4
  have z_fR := Nat.lt_trans z_c1 g5
  have z_c2 := Nat.lt_trans z_fR g6
  have z_fL := Nat.lt_trans z_c2 g7
  have z_dL := Nat.lt_trans z_fL g8
  have z_dx := Nat.lt_trans z_dL g9'
  have z_x9 := Nat.lt_trans z_dx g10
  have z_pb := Nat.lt_trans z_x9 g11
  have gT := g0
  (try k_lt g0)
  (try dsimp only)
  (try k_sweep)
  k_steps
  rename Held _ _ => k9
  refine Held.go k9 ?_
  clear k9
  rename IsRange _ _ _ _ _ _ _ _ => hRg
  rename Fr _ _ _ _ => F9
  rename News _ _ _ _ => N9
  rename (_ = Data.cell (some (Value.ref x9))) => hdl
  refine cut_led (news_sub N9 law_perm) ?_
  intro R hRe N8
  clear N9
  refine led_mems hRe ?_
  intro mpb mx9 mdL mfL mc2 mfR mc1 mcA mcT mt mW mln msc mft
  have hLx : LexAt _ _ R x9 dx fL al := ⟨dL, tr, fR, fd, sl, fo, c1, oc1, cT, oT, cA, oA, mx9, mdL, mfL, mfR, mc1, mcT, mcA, hR⟩
  have hal : ∀ q ∈ R, @Ne Nat q.1 al := by
    have q0 := Nat.lt_trans (ltN (gT _ (.head _))) cT_al
    have q1 := Nat.lt_trans (ltN (gT _ (.tail _ (.head _)))) cT_al
    have q2 := Nat.lt_trans (ltN (gT _ (.tail _ (.tail _ (.head _))))) cT_al
    have q3 := Nat.lt_trans (ltN (gT _ (.tail _ (.tail _ (.tail _ (.head _)))))) cT_al
    have q9 := Nat.lt_trans g1 cT_al
    dsimp only at q0 q1 q2 q3
    rw [hRe]; k_all
  have hdx : ∀ q ∈ R, @Ne Nat q.1 dx := by
    have q0 := Nat.lt_trans (ltN (gT _ (.head _))) cT_dx
    have q1 := Nat.lt_trans (ltN (gT _ (.tail _ (.head _)))) cT_dx
    have q2 := Nat.lt_trans (ltN (gT _ (.tail _ (.tail _ (.head _))))) cT_dx
    have q3 := Nat.lt_trans (ltN (gT _ (.tail _ (.tail _ (.tail _ (.head _)))))) cT_dx
    have q9 := Nat.lt_trans g1 cT_dx
    dsimp only at q0 q1 q2 q3
    rw [hRe]; k_all
  have had : @Ne Nat al dx := Nat.ne_of_lt al_dx
  refine steps_fg b1 b2 hfA hgB ?_
  intro p1 p2 p3 n1 n2 st1 st2 st3
  refine LCg.CompSrc.range rfl F9 N8 hRg (by decide) (n := 3) rfl (by rw [sizeLine_eq]; omega) ?_
  intro g9
  clear F9 N8
  (try dsimp only)
  refine LCg.CompRest.succ ?_
  intro v I' oI' C' oC' D' m' hx' tk' E' hv hC' hx1 F1 N1 off' ne'
  k_steps
  rename Held _ _ => k9
  refine Held.go k9 ?_
  clear k9
  k_dflt (refine' MutCt.useC (get_s st1 (text_len' (by assumption) (by assumption)) (.tail _ (.tail _ (.tail _ mx9))) (.tail _ (.tail _ (.tail _ mpb))) (hLx.mono fun _ h => .tail _ (.tail _ (.tail _ h))) ?h3 ?h4 had) ?k1 ?k2 ?k3 ?k4 ?k5 ?k6 ?k7 ?k8 ?_; (case k1 => k_asm); (case k2 => k_asm); (case k3 => k_asm); (case k4 => (have N3 := news_sub N1 perm_in; exact N3)); (case h3 => exact ne3 off'.1 hal); (case h4 => exact ne3 off'.2.1 hdx); (case k5 => k_asm); (case k6 => first | rfl | assumption); (case k7 => ktr_room); (case k8 => ktr_units))
  clear F1 N1
  intro h4 tk4 y1 y2 y3 y4 y5 y6 y7 y8 F4 N4
  have hmark1 : True := trivial
  apply LCg.CompEnd.intro F4 N4 _ perm_out off' trivial
  clear F4 N4 hC' hx1
  refine LCg.CompRest.succ ?_
  intro v I' oI' C' oC' D' m' hx' tk' E' hv hC' hx1 F1 N1 off' ne'
  k_steps
  rename Held _ _ => k9
  refine Held.go k9 ?_
  clear k9
  k_dflt (refine' MutCt.useC (get_s st2 (text_len' (by assumption) (by assumption)) (.tail _ (.tail _ (.tail _ mx9))) (.tail _ (.tail _ (.tail _ mpb))) (hLx.mono fun _ h => .tail _ (.tail _ (.tail _ h))) ?h3 ?h4 had) ?k1 ?k2 ?k3 ?k4 ?k5 ?k6 ?k7 ?k8 ?_; (case k1 => k_asm); (case k2 => k_asm); (case k3 => k_asm); (case k4 => (have N3 := news_sub N1 perm_in; exact N3)); (case h3 => exact ne3 off'.1 hal); (case h4 => exact ne3 off'.2.1 hdx); (case k5 => k_asm); (case k6 => first | rfl | assumption); (case k7 => ktr_room); (case k8 => ktr_units))
  clear F1 N1
  intro h4 tk4 y1 y2 y3 y4 y5 y6 y7 y8 F4 N4
  have hmark1 : True := trivial
  apply LCg.CompEnd.intro F4 N4 _ perm_out off' trivial
  clear F4 N4 hC' hx1
  refine LCg.CompRest.succ ?_
  intro v I' oI' C' oC' D' m' hx' tk' E' hv hC' hx1 F1 N1 off' ne'
  k_steps
  rename Held _ _ => k9
  refine Held.go k9 ?_
  clear k9
  k_dflt (refine' MutCt.useC (get_s st3 (text_len' (by assumption) (by assumption)) (.tail _ (.tail _ (.tail _ mx9))) (.tail _ (.tail _ (.tail _ mpb))) (hLx.mono fun _ h => .tail _ (.tail _ (.tail _ h))) ?h3 ?h4 had) ?k1 ?k2 ?k3 ?k4 ?k5 ?k6 ?k7 ?k8 ?_; (case k1 => k_asm); (case k2 => k_asm); (case k3 => k_asm); (case k4 => (have N3 := news_sub N1 perm_in; exact N3)); (case h3 => exact ne3 off'.1 hal); (case h4 => exact ne3 off'.2.1 hdx); (case k5 => k_asm); (case k6 => first | rfl | assumption); (case k7 => ktr_room); (case k8 => ktr_units))
  clear F1 N1
  intro h4 tk4 y1 y2 y3 y4 y5 y6 y7 y8 F4 N4
  have hmark1 : True := trivial
  apply LCg.CompEnd.intro F4 N4 _ perm_out off' trivial
  clear F4 N4 hC' hx1
  refine LCg.CompRest.zero ?_
  intro D h9 tk9 F9 N9 off9
  (try dsimp only)
  k_steps
  have tm9 : TokMark := trivial
  rename Held _ _ => k9
  refine Held.go k9 ?_
  clear k9
  rename News _ _ _ _ => N9
  rename (_ ∧ _ ∧ _ ∧ _ ∧ _ ∧ AllLt _ R) => l8
  have N8 := news_sub N9 keep_branch
  clear N9
  k_dflt (refine' MutCt.useC (branch_two _ hfA hgB (by assumption) (by assumption) mW (fun q hq => Nat.ne_of_lt (allLt_all l8.2.2.2.2.2 q hq)) ⟨c1, c2, oc1, mt, mc1, hq⟩) ?k1 ?k2 ?k3 ?k4 ?k5 ?k6 ?k7 ?k8 ?_; (case k1 => k_asm); (case k2 => k_asm); (case k3 => k_asm); (case k4 => exact N8); (case k5 => k_asm); (case k6 => first | rfl | assumption); (case k7 => ktr_room); (case k8 => ktr_units))
  intro h5 tk5
  refine ⟨?_, ?_⟩
  · intro a k z n u1 u2 ha e4 e5 e6 e7 F5 N5
    (try dsimp only)
    (try k_sweep)
    k_steps
  · intro a k n x1 x2 x3 ls u1 u2 ha g2 g3 g4 g5 g6 g7 g8 g9 hl e5 F5 N5
    (try dsimp only)
    (try k_sweep)
    k_steps
    refine ⟨st ls, u2, _, rfl, rfl, ascii_letters (fun c hc => (e5 c hc).1), (show ls.length ≤ 100000 from Nat.le_trans hl (by decide)), (by assumption), (by assumption), fun g => ?_⟩
    suffices key : ∀ k i, ls.length = i + k → LCt.CompRestT _ _ _ _ _ _ _ _ _ _ _ _ _ _ _ _ k i [] _ by
      exact key ls.length 0 (by omega)
    rename Fr _ _ _ _ => F9
    rename News _ _ _ _ => N9
    clear F9 N9
    intro k
    induction k with
    | zero =>
      intro i hi
      refine LCt.CompRestT.zero ?_
      intro D1 hx1 tk1 F1 N1 off1
      dsimp only
      k_steps
    | succ k ih =>
      intro i hi
      refine LCt.CompRestT.succ ?_
      intro v I' oI' C' oC' D' m' hx' tk' E' hv hC' hx1 F1 N1 off' ne'
      obtain ⟨c, uc, hc, rfl⟩ := hv
      have hc' : ls[i]? = some c := by simpa using hc
      obtain ⟨y1, y2, y3⟩ := e5 c (List.mem_of_getElem? hc')
      by_cases h97 : 97 ≤ c
      · k_steps
        exact LCg.CompEnd.intro F1 N1 _ (fun p hp => hp) off' trivial (ih (i + 1) (by omega))
      · k_steps
        exact LCg.CompEnd.intro F1 N1 _ (fun p hp => hp) off' trivial (ih (i + 1) (by omega))
end Mine
end partLW
set_option Elab.async false
theorem PySem.Challenge.cw_re0168_01_holds : PySem.Challenge.rw_re0168_01.Holds := by
  exact Mine.law_holds
