import PyProof.Rows.All
import Wide.All
import OpenK.AllK
import Wide.FinOn
import PySem.Challenge.RW_tc0063_01
open PySem PySem.W PyProof.Rows PySem.Calls
set_option Elab.async false
set_option maxRecDepth 100000
set_option linter.all false
set_option genSizeOf false
namespace Mine
set_option maxHeartbeats 8000000
noncomputable def pick (l : List Stmt) : List Nat → List Stmt
  | [] => []
  | i :: r => (l[i]?).toList ++ pick l r
noncomputable def viewL : Program := { PySem.Challenge.pw_tc0063_01 with main := { PySem.Challenge.pw_tc0063_01.main with body := pick PySem.Challenge.pw_tc0063_01.main.body [0, 1, 3, 4, 5, 10, 12, 13, 14, 16, 18, 19, 20, 21, 22, 23, 24] } }
noncomputable def looseL : List Str := ["bisect_right", "bisect_left", "tspecials", "_name_disallowed_re", "_value_disallowed_re", "_formatparam"]
theorem said0 : OpenLaw.wellSaid PySem.Challenge.rw_tc0063_01 = true := by
  unfold OpenLaw.wellSaid OpenRow.wellSaid OpenRow.partSaid looksOpen
  repeat' (with_reducible refine look_both ?_ ?_)
  all_goals first
    | (rw [PySem.W.Fast.te8326940854005059898, PySem.W.Fast.te13343964577679436407]; decide +kernel)
    | (rw [PySem.W.Fast.te17119622794617984870]; decide +kernel)
    | (rw [PySem.W.Fast.te8377067652309620493]; decide +kernel)
    | (rw [PySem.W.Fast.te16286561074155671207]; decide +kernel)
    | (rw [PySem.W.Fast.te11788848310118352699]; decide +kernel)
    | (rw [PySem.W.Fast.te8179353310426384613]; decide +kernel)
    | (rw [PySem.W.Fast.te10501279942588096481]; decide +kernel)
    | (rw [PySem.W.Fast.te9558739934217749035]; decide +kernel)
    | decide +kernel
noncomputable def buildT : List Obj → BT → Nat → Option (BT × Nat)
  | [], t, n => some (t, n)
  | o :: l, t, n => match ((t.ins n o).get n).isSome with
    | true => buildT l (t.ins n o) (n + 1)
    | false => none
theorem buildT_spec {life : Life} : ∀ {l : List Obj} {t t' : BT} {n n' : Nat} {xs : Array Obj}, buildT l t n = some (t', n') → absHeap t n life = ⟨xs, life⟩ → absHeap t' n' life = ⟨xs ++ l.toArray, life⟩
  | [], t, t', n, n', xs, h, e => by
    cases h; rw [e]; simp
  | o :: l, t, t', n, n', xs, h, e => by
    unfold buildT at h
    cases hs : ((t.ins n o).get n).isSome with
    | false => rw [hs] at h; cases h
    | true =>
      rw [hs] at h
      have := buildT_spec (life := life) (xs := xs.push o) h (by rw [absHeap_ins hs, e]; rfl)
      rw [this]; simp
noncomputable def toT (s : Shared) : Option SharedT := (buildT s.heap.objs.toList .nil 0).map fun x => ⟨x.1, x.2, s.heap.life, s.gens, s.drawn, s.toks, s.os⟩
theorem toT_spec {s : Shared} {T : SharedT} (h : toT s = some T) : T.abs = s := by
  unfold toT at h
  obtain ⟨⟨t, n⟩, h1, rfl⟩ := Option.map_eq_some_iff.mp h
  have := buildT_spec (life := s.heap.life) (xs := #[]) h1 rfl
  unfold SharedT.abs
  dsimp only
  rw [this]
  simp
noncomputable def topRunG (thr okf : Thread → Bool) (st : SharedT → Thread → Option (SharedT × Thread)) : Nat → SharedT → Thread → Option SharedT
  | 0, _, _ => none
  | n + 1, s, t => match thr t with
    | true => some s
    | false => match okf t with
      | false => none
      | true => match st s t with
        | some x => topRunG thr okf st n x.1 x.2
        | none => none
theorem topRunG_spec {tb : String → Option Builtin} {p : Program} {w : World} {n₀ : Nat} {ann : Option Value} : ∀ {n : Nat} {s s' : SharedT} {t : Thread}, topRunG through (stepOk n₀ ann) (stepT (denote tb) p w) n s t = some s' → topRun tb p w n₀ ann n s.abs t = some s'.abs
  | 0, _, _, _, h => by cases h
  | n + 1, s, s', t, h => by
    unfold topRunG at h
    unfold topRun
    cases ht : through t with
    | true => rw [ht] at h; cases h; rfl
    | false =>
      rw [ht] at h
      cases hk : stepOk n₀ ann t with
      | false => rw [hk] at h; cases h
      | true =>
        rw [hk] at h
        cases hs : stepT (denote tb) p w s t with
        | none => rw [hs] at h; cases h
        | some r =>
          obtain ⟨s₂, t₂⟩ := r
          rw [hs] at h
          dsimp only
          rw [stepT_spec hs]
          exact topRunG_spec h
noncomputable def impRunG (st : SharedT → Thread → Option (SharedT × Thread)) : Nat → SharedT → Thread → Option SharedT
  | 0, _, _ => none
  | n + 1, s, t => match t.atExitBegin with
    | some [] => some s
    | some (_ :: _) => none
    | none => match st s t with
      | some x => impRunG st n x.1 x.2
      | none => none
theorem impRunG_spec {tb : String → Option Builtin} {p : Program} {w : World} : ∀ {n : Nat} {s s' : SharedT} {t : Thread}, impRunG (stepT (denote tb) p w) n s t = some s' → importEnds tb p w n s.abs t = some s'.abs
  | 0, _, _, _, h => by cases h
  | n + 1, s, s', t, h => by
    unfold impRunG at h
    unfold importEnds
    cases he : t.atExitBegin with
    | some l =>
      rw [he] at h
      cases l with
      | nil => cases h; rfl
      | cons _ _ => cases h
    | none =>
      rw [he] at h
      cases hs : stepT (denote tb) p w s t with
      | none => rw [hs] at h; cases h
      | some r =>
        obtain ⟨s₂, t₂⟩ := r
        rw [hs] at h
        dsimp only
        rw [stepT_spec hs]
        exact impRunG_spec h
noncomputable def topEndT (tb : String → Option Builtin) (p : Program) (w : World) (N : Nat) (s₀ : Shared) : Option Shared :=
  match s₀.heap.isNs mainGlobals && s₀.gens.size == 0 with
  | true => (toT s₀).bind fun T => (topRunG through (stepOk s₀.heap.objs.size (s₀.heap.nsMap mainGlobals "__annotations__")) (stepT (denote tb) p w) N T (topStub p)).bind fun T₁ =>
    match staticsOk (importedModules p.main.body) s₀.heap T₁.abs.heap && namesBound p T₁.abs.heap && gensDone T₁.abs && laidKept s₀.heap T₁.abs.heap with
      | true => some T₁.abs
      | false => none
  | false => none
theorem topEndT_spec {tb : String → Option Builtin} {p : Program} {w : World} {N : Nat} {s₀ s : Shared} (h : topEndT tb p w N s₀ = some s) : topFrom tb p w N s₀ = some s := by
  unfold topEndT at h
  unfold topFrom
  cases h0 : s₀.heap.isNs mainGlobals && s₀.gens.size == 0 with
  | false => rw [h0] at h; cases h
  | true =>
    rw [h0] at h
    dsimp only at h ⊢
    obtain ⟨T, hT, h⟩ := Option.bind_eq_some_iff.mp h
    obtain ⟨T₁, h1, h⟩ := Option.bind_eq_some_iff.mp h
    have := topRunG_spec h1
    rw [toT_spec hT] at this
    rw [this]
    exact h
noncomputable def openEndsT (tb : String → Option Builtin) (p : Program) (w : World) (N : Nat) : Option Shared :=
  (toT (start (opening p)).1).bind fun T => (impRunG (stepT (denote tb) (opening p) w) N T (start (opening p)).2).bind fun T₁ => (fenceModules? p T₁.abs).bind (topEndT tb p w N)
theorem openEndsT_spec {tb : String → Option Builtin} {p : Program} {w : World} {N : Nat} {s : Shared} (h : openEndsT tb p w N = some s) : openEnds tb p w N = some s := by
  unfold openEndsT at h
  obtain ⟨T, hT, h⟩ := Option.bind_eq_some_iff.mp h
  obtain ⟨T₁, h1, h⟩ := Option.bind_eq_some_iff.mp h
  obtain ⟨s₀, h2, h⟩ := Option.bind_eq_some_iff.mp h
  have := impRunG_spec h1
  rw [toT_spec hT] at this
  unfold openEnds fencedOpening
  rw [this]
  show ((fenceModules? p T₁.abs).bind (topFrom tb p w N)) = some s
  rw [h2]
  exact topEndT_spec h
theorem map_of {α β : Type} {x y : Option α} {f : α → β} {b : β} (h : x.map f = some b) (k : ∀ a, x = some a → y = some a) : y.map f = some b := by
  obtain ⟨a, e, rfl⟩ := Option.map_eq_some_iff.mp h
  rw [k a e]; rfl
local macro_rules | `(tactic| o_law) => `(tactic| refine holds_law said0 fun said => ?_)
local macro_rules | `(tactic| o_head $H) => `(tactic| (
  refine holds_open (q := viewL) (loose := looseL) (Xt := fun s => xlAt viewL [] s && recOk (RowW.records PySem.Challenge.rw_tc0063_01.row.toRowW) s) (XP := XL viewL []) (Yf := Hook.obs $H) (Ya := Hook.val $H) (YP := Hook.says $H) (N := 3630) ?hl (Hook.of $H) (Hook.keeps $H) (fun s e => xl_of s (Bool.and_eq_true_iff.mp e).1) XL.keeps (by rfl) (by rfl) (by rfl) (fun s e => recFacts_of (Bool.and_eq_true_iff.mp e).2) (by first | rfl | fail "open_line: no head takes a call that writes beside a table") (by first | assumption | decide +kernel) (by decide +kernel) ⟨rfl, rfl, rfl, rfl, rfl, by decide +kernel⟩ ?hw ?hc
  (case hl => (
    intro w
    refine map_of ?_ fun s h => openEndsT_spec h
    unfold openEndsT topEndT
    rw [PySem.W.Fast.te10156331382660048174, PySem.W.Fast.te6613529449190102663, PySem.W.Fast.te1435165496053646825, PySem.W.Fast.te14289696077712309145, PySem.W.Fast.te14364793385576792824, PySem.W.Fast.te11892475500146522536, PySem.W.Fast.te4187177175401517315]
    kernel_rfl))))
open_top hd for PySem.Challenge.rw_tc0063_01
set_option maxHeartbeats 1000000
local macro_rules | `(tactic| omega) => `(tactic| first
  | assumption
  | exact Nat.le_trans (by assumption) (by decide)
  | exact Nat.lt_of_le_of_lt (by assumption) (by decide)
  | exact Nat.le_of_lt (by assumption)
  | exact Nat.lt_of_lt_of_le (by assumption) (by decide)
  | lia
  | omega (config := {}))
local macro_rules | `(tactic| omega +splitNatSub) => `(tactic| first
  | assumption
  | exact Nat.le_trans (by assumption) (by decide)
  | exact Nat.lt_of_le_of_lt (by assumption) (by decide)
  | exact Nat.le_of_lt (by assumption)
  | exact Nat.lt_of_lt_of_le (by assumption) (by decide)
  | omega (config := {}))
noncomputable abbrev PRG := PySem.Challenge.rw_tc0063_01.row.prog
noncomputable abbrev KF (w : World) : Frag := hd.heap_1 w.params
noncomputable abbrev NoE : Value → Shared → Prop := fun _ _ => False
noncomputable abbrev Le (g g' : Heap) : Prop := ∀ b o, g.get? b = some o → g'.get? b = some o
theorem Le.rfl {g : Heap} : Le g g := fun _ _ e => e
theorem Le.tr {a b c : Heap} (x : Le a b) (y : Le b c) : Le a c := fun _ _ e => y _ _ (x _ _ e)

inductive PV where
  | rng (n : Int) | none | bool (b : Bool) | int (i : Int) | str (s : Str) | list (l : List PV) | tup (l : List PV) | val (v : Value)

mutual
inductive Rd (g : Heap) : Value → PV → Prop
  | none : Rd g .none .none
  | bool (b) : Rd g (.bool b) (.bool b)
  | int (i t) : Rd g (.int i t) (.int i)
  | str (s t) : Rd g (.str s t) (.str s)
  | list {a vs l} : g.PlainList a vs.toArray → RdL g vs l → Rd g (.ref a) (.list l)
  | tup {a vs l} : g.IsTuple a vs.toArray → RdL g vs l → Rd g (.ref a) (.tup l)
  | val (v) : Rd g v (.val v)
  | rng {a n t u x} : g.get? a = some { cls := .type "range", data := .fields #[.int 0 t, .int n u, .int 1 x] } → Rd g (.ref a) (.rng n)
inductive RdL (g : Heap) : List Value → List PV → Prop
  | nil : RdL g [] []
  | cons {v vs p ps} : Rd g v p → RdL g vs ps → RdL g (v :: vs) (p :: ps)
end

theorem isList_le {g g' : Heap} {a xs} (L : Le g g') (h : g.IsList a xs) : g'.IsList a xs := let ⟨o, e, r⟩ := h; ⟨o, L _ _ e, r⟩
theorem isTuple_le {g g' : Heap} {a xs} (L : Le g g') (h : g.IsTuple a xs) : g'.IsTuple a xs := let ⟨o, e, r⟩ := h; ⟨o, L _ _ e, r⟩
mutual
theorem Rd.mono {g g' : Heap} (L : Le g g') : ∀ {v p}, Rd g v p → Rd g' v p
  | _, _, .none => .none
  | _, _, .bool b => .bool b
  | _, _, .int i t => .int i t
  | _, _, .str s t => .str s t
  | _, _, .list h r => .list (h.at fun o e => L _ _ e) (RdL.mono L r)
  | _, _, .tup h r => .tup (isTuple_le L h) (RdL.mono L r)
  | _, _, .val v => .val v
  | _, _, .rng h => .rng (L _ _ h)
theorem RdL.mono {g g' : Heap} (L : Le g g') : ∀ {vs ps}, RdL g vs ps → RdL g' vs ps
  | _, _, .nil => .nil
  | _, _, .cons h r => .cons (Rd.mono L h) (RdL.mono L r)
end
theorem RdL.length {g : Heap} : ∀ {vs ps}, RdL g vs ps → vs.length = ps.length
  | _, _, .nil => rfl
  | _, _, .cons _ r => by simp [RdL.length r]
theorem RdL.get {g : Heap} : ∀ {vs ps}, RdL g vs ps → ∀ {i : Nat} {p}, ps[i]? = some p → ∃ v, vs[i]? = some v ∧ Rd g v p
  | _, _, .cons h _, 0, p, e => by simp at e; subst e; exact ⟨_, rfl, h⟩
  | _, _, .cons _ r, i + 1, p, e => by simpa using RdL.get r (i := i) (by simpa using e)
theorem RdL.append {g : Heap} : ∀ {vs ps ws qs}, RdL g vs ps → RdL g ws qs → RdL g (vs ++ ws) (ps ++ qs)
  | _, _, _, _, .nil, y => y
  | _, _, _, _, .cons h r, y => .cons h (RdL.append r y)

inductive Ent where
  | frame (vars : List (Str × PV))
  | cell (v : Option PV)
  | list (l : List PV)
  | dict (fs : List (Str × PV))
  | is (P : Obj → Prop)

noncomputable def Ent.ok (g : Heap) : Ent → Obj → Prop
  | .frame vars, o => ∃ (m : Str → Option Value) (es : Array DictEntry) (ep : Nat), o.data = .dict es ep ∧ StrKeys es ∧ (∀ n, nsFind es n = m n) ∧ ∀ x p, vars.lookup x = some p → ∃ v, m x = some v ∧ Rd g v p
  | .cell .none, o => o.data = .cell .none
  | .cell (some p), o => ∃ v, o.data = .cell (some v) ∧ Rd g v p
  | .list l, o => ∃ vs n, o = listOf vs.toArray n ∧ RdL g vs l
  | .dict fs, o => ∃ (m : Str → Option Value) (es : Array DictEntry) (ep : Nat), o.data = .dict es ep ∧ StrKeys es ∧ UniqKeys es ∧ (∀ n, nsFind es n = m n) ∧ (∀ x p, fs.lookup x = some p → ∃ v, m x = some v ∧ Rd g v p) ∧ ∀ x, fs.lookup x = .none → m x = .none
  | .is P, o => P o

theorem Ent.ok.mono {g g' : Heap} (L : Le g g') : ∀ {e : Ent} {o}, e.ok g o → e.ok g' o
  | .frame _, _, ⟨m, es, ep, a, b, c, d⟩ => ⟨m, es, ep, a, b, c, fun x q e => let ⟨v, h1, h2⟩ := d x q e; ⟨v, h1, h2.mono L⟩⟩
  | .cell .none, _, h => h
  | .cell (some _), _, ⟨v, h, r⟩ => ⟨v, h, r.mono L⟩
  | .list _, _, ⟨vs, n, e, r⟩ => ⟨vs, n, e, r.mono L⟩
  | .dict _, _, ⟨m, es, ep, a, b, u, c, d, f⟩ => ⟨m, es, ep, a, b, u, c, fun x q e => let ⟨v, h1, h2⟩ := d x q e; ⟨v, h1, h2.mono L⟩, f⟩
  | .is _, _, h => h
structure Bs (w : World) (g : Heap) : Prop where
  k : (KF w).In g
  lim : g.NoLimit
  bn : ∃ mb, g.Ns builtinsNs mb ∧ ∀ x : Str, x ≠ "__name__" → mb x = bootBuiltins x
  gl : ∃ mg, g.Ns mainGlobals mg
theorem Bs.mono {w : World} {g g' : Heap} (L : Le g g') (b : Bs w g) : Bs w g' :=
  ⟨b.k.keeps L, b.lim.keeps L, let ⟨mb, h, r⟩ := b.bn; ⟨mb, h.keeps L, r⟩, let ⟨mg, h⟩ := b.gl; ⟨mg, h.keeps L⟩⟩

noncomputable abbrev Led := List (Addr × Ent)
noncomputable abbrev Ext := OsState × Array GenState
structure HS (w : World) (os : Ext) (g : Heap) (M : Led) (s : Shared) : Prop where
  bs : Bs w g
  keep : Le g s.heap
  at_ : ∀ p ∈ M, ∃ o, s.heap.get? p.1 = some o ∧ p.2.ok g o
  off : ∀ p ∈ M, g.get? p.1 = .none
  nd : (M.map (·.1)).Nodup
  eos : s.os = os.1
  egens : s.gens = os.2

section
variable {w : World} {os : Ext} {g : Heap} {M M' : Led} {s s' : Shared}

theorem HS.to (H : HS w os g M s) (D : List Addr)
    (hk : ∀ b o, s.heap.get? b = some o → b ∉ D → s'.heap.get? b = some o)
    (hD : ∀ b ∈ D, b ∈ M.map (·.1))
    (hM : ∀ p ∈ M', p.1 ∈ M.map (·.1) ∨ s.heap.get? p.1 = .none)
    (hnd : (M'.map (·.1)).Nodup)
    (hat : ∀ g', Le g g' → (∀ b o, s'.heap.get? b = some o → b ∉ M'.map (·.1) → g'.get? b = some o) → ∀ p ∈ M', ∃ o, s'.heap.get? p.1 = some o ∧ p.2.ok g' o)
    (hos : s'.os = s.os) (hb : s'.gens = s.gens) :
    ∃ g', Le g g' ∧ HS w os g' M' s' ∧ ∀ b o, s'.heap.get? b = some o → b ∉ M'.map (·.1) → g'.get? b = some o := by
  have hL : Le g (hideAll s'.heap (M'.map (·.1))) := fun b o e => by
    have hb' : b ∉ M.map (·.1) := fun q => by
      obtain ⟨p, hp, rfl⟩ := List.mem_map.mp q
      rw [H.off p hp] at e; cases e
    refine hideAll_get _ (hk b o (H.keep b o e) fun q => hb' (hD b q)) fun q => ?_
    obtain ⟨p, hp, rfl⟩ := List.mem_map.mp q
    rcases hM p hp with h | h
    · exact hb' h
    · rw [H.keep _ _ e] at h; cases h
  have hG : ∀ b o, s'.heap.get? b = some o → b ∉ M'.map (·.1) → (hideAll s'.heap (M'.map (·.1))).get? b = some o := fun b o e n => hideAll_get _ e n
  exact ⟨_, hL, ⟨H.bs.mono hL, fun b o e => of_hideAll _ e, hat _ hL hG, fun p hp => hideAll_none _ (List.mem_map_of_mem hp), hnd, hos.trans H.eos, hb.trans H.egens⟩, hG⟩

theorem HS.grow (H : HS w os g M s) (hk : Le s.heap s'.heap) (hos : s'.os = s.os) (hb : s'.gens = s.gens) :
    ∃ g', Le g g' ∧ HS w os g' M s' ∧ ∀ b o, s'.heap.get? b = some o → b ∉ M.map (·.1) → g'.get? b = some o :=
  H.to [] (fun b o e _ => hk b o e) (fun _ h => nomatch h) (fun p hp => .inl (List.mem_map_of_mem hp)) H.nd
    (fun _ L _ p hp => let ⟨o, e, r⟩ := H.at_ p hp; ⟨o, hk _ _ e, r.mono L⟩) hos hb

theorem HS.fresh (H : HS w os g M s) : s.heap.objs.size ∉ M.map (·.1) := fun q => by
  obtain ⟨p, hp, e⟩ := List.mem_map.mp q
  obtain ⟨o, h, _⟩ := H.at_ p hp
  exact absurd (Heap.lt_size h) (by rw [e]; exact Nat.lt_irrefl _)

theorem HS.push (H : HS w os g M s) (o : Obj) (hf : o.isFreed = false) (tk : Nat) :
    ∃ g', Le g g' ∧ HS w os g' M { s with heap := s.heap.push o, toks := tk } ∧ g'.get? s.heap.objs.size = some o := by
  obtain ⟨g', L, H', G⟩ := H.grow (s' := { s with heap := s.heap.push o, toks := tk }) (fun b o e => Heap.get?_push_of_some _ e) rfl rfl
  exact ⟨g', L, H', G _ _ (Heap.get?_push_size _ hf) H.fresh⟩

theorem get_none_of_size {h : Heap} {a : Addr} (hz : h.objs.size ≤ a) : h.get? a = .none := by
  cases q : h.get? a with
  | none => rfl
  | some o => exact absurd (Heap.lt_size q) (Nat.not_lt.mpr hz)

theorem HS.new (H : HS w os g M s) {a : Addr} {e : Ent} (ha : s.heap.get? a = .none) (hk : Le s.heap s'.heap)
    (hat : ∀ g', Le g g' → (∀ b o, s'.heap.get? b = some o → b ≠ a → b ∉ M.map (·.1) → g'.get? b = some o) → ∃ o, s'.heap.get? a = some o ∧ e.ok g' o)
    (hos : s'.os = s.os) (hb : s'.gens = s.gens) :
    ∃ g', Le g g' ∧ HS w os g' ((a, e) :: M) s' ∧ ∀ b o, s'.heap.get? b = some o → b ≠ a → b ∉ M.map (·.1) → g'.get? b = some o := by
  have hna : a ∉ M.map (·.1) := fun q => by
    obtain ⟨p, hp, e⟩ := List.mem_map.mp q
    obtain ⟨o, h, _⟩ := H.at_ p hp
    rw [e, ha] at h; cases h
  obtain ⟨g', L, H', G⟩ := H.to (M' := (a, e) :: M) (s' := s') [] (fun b o e _ => hk b o e) (fun _ h => nomatch h)
    (fun p hp => by
      rcases List.mem_cons.mp hp with rfl | hp
      · exact .inr ha
      · exact .inl (List.mem_map_of_mem hp)) (List.nodup_cons.mpr ⟨hna, H.nd⟩)
    (fun g' L G p hp => by
      rcases List.mem_cons.mp hp with rfl | hp
      · exact hat g' L fun b o e n1 n2 => G b o e (by
          rw [List.map_cons]; exact fun q => (List.mem_cons.mp q).elim n1 n2)
      · obtain ⟨o, e, r⟩ := H.at_ p hp; exact ⟨o, hk _ _ e, r.mono L⟩) hos hb
  exact ⟨g', L, H', fun b o e n1 n2 => G b o e (by rw [List.map_cons]; exact fun q => (List.mem_cons.mp q).elim n1 n2)⟩

noncomputable def setE : Led → Nat → Ent → Led
  | [], _, _ => []
  | p :: M, 0, e => (p.1, e) :: M
  | p :: M, n + 1, e => p :: setE M n e
theorem setE_keys : ∀ (M : Led) (i : Nat) (e : Ent), (setE M i e).map (·.1) = M.map (·.1)
  | [], _, _ => rfl
  | _ :: _, 0, _ => rfl
  | p :: M, n + 1, e => by simp [setE, setE_keys M n e]
theorem setE_mem {e e₀ : Ent} {a : Addr} : ∀ {M : Led} {i : Nat}, (M.map (·.1)).Nodup → M[i]? = some (a, e₀) → ∀ {p}, p ∈ setE M i e → p = (a, e) ∨ (p ∈ M ∧ p.1 ≠ a) := by
  intro M
  induction M with
  | nil => intro i _ h; simp at h
  | cons q M ih =>
    intro i hn h p hp
    rw [List.map_cons, List.nodup_cons] at hn
    cases i with
    | zero =>
      have hq : q = (a, e₀) := by simpa using h
      subst hq
      rcases List.mem_cons.mp hp with r | hp
      · exact .inl r
      · refine .inr ⟨.tail _ hp, fun z => hn.1 ?_⟩
        show a ∈ _
        rw [← z]; exact List.mem_map_of_mem (f := (·.1)) hp
    | succ i =>
      have h' : M[i]? = some (a, e₀) := by simpa using h
      rcases List.mem_cons.mp hp with rfl | hp
      · refine .inr ⟨.head _, fun z => hn.1 ?_⟩
        rw [z]; exact List.mem_map_of_mem (f := (·.1)) (List.mem_of_getElem? h')
      · rcases ih hn.2 h' hp with r | r
        · exact .inl r
        · exact .inr ⟨.tail _ r.1, r.2⟩

theorem HS.set (H : HS w os g M s) {i : Nat} {a : Addr} {e₀ e : Ent} (hi : M[i]? = some (a, e₀))
    (hk : ∀ b o, s.heap.get? b = some o → b ≠ a → s'.heap.get? b = some o)
    (hat : ∀ g', Le g g' → (∀ b o, s'.heap.get? b = some o → b ∉ M.map (·.1) → g'.get? b = some o) → ∃ o, s'.heap.get? a = some o ∧ e.ok g' o)
    (hos : s'.os = s.os) (hb : s'.gens = s.gens) :
    ∃ g', Le g g' ∧ HS w os g' (setE M i e) s' ∧ ∀ b o, s'.heap.get? b = some o → b ∉ M.map (·.1) → g'.get? b = some o := by
  have hm : a ∈ M.map (·.1) := List.mem_map_of_mem (f := (·.1)) (List.mem_of_getElem? hi)
  have hK := setE_keys M i e
  obtain ⟨g', L, H', G⟩ := H.to (M' := setE M i e) (s' := s') [a] (fun b o e n => hk b o e fun q => n (by rw [q]; exact .head _))
    (fun b hb => by rw [List.mem_singleton.mp hb]; exact hm)
    (fun p hp => .inl (by rw [← hK]; exact List.mem_map_of_mem hp)) (by rw [hK]; exact H.nd)
    (fun g' L G p hp => by
      rcases setE_mem H.nd hi hp with rfl | ⟨hp, hne⟩
      · exact hat g' L fun b o e n => G b o e (by rw [hK]; exact n)
      · obtain ⟨o, e, r⟩ := H.at_ p hp; exact ⟨o, hk _ _ e hne, r.mono L⟩) hos hb
  exact ⟨g', L, H', fun b o e n => G b o e (by rw [hK]; exact n)⟩
theorem HS.get (H : HS w os g M s) {i : Nat} {a : Addr} {e : Ent} (hi : M[i]? = some (a, e)) : ∃ o, s.heap.get? a = some o ∧ e.ok g o := H.at_ _ (List.mem_of_getElem? hi)
theorem HS.perm (H : HS w os g M s) (hp : M.Perm M') : HS w os g M' s :=
  ⟨H.bs, H.keep, fun p h => H.at_ p (hp.mem_iff.mpr h), fun p h => H.off p (hp.mem_iff.mpr h), (hp.map _).nodup_iff.mp H.nd, H.eos, H.egens⟩
theorem HS.toks (H : HS w os g M s) (tk : Nat) : HS w os g M { s with toks := tk } := ⟨H.bs, H.keep, H.at_, H.off, H.nd, H.eos, H.egens⟩
theorem HS.kin (H : HS w os g M s) : (KF w).In s.heap := H.bs.k.keeps H.keep
theorem HS.lim (H : HS w os g M s) : s.heap.NoLimit := H.bs.lim.keeps H.keep
theorem HS.drop (H : HS w os g M s) (hs : M'.Sublist M) : ∃ g', Le g g' ∧ HS w os g' M' s ∧ ∀ b o, s.heap.get? b = some o → b ∉ M'.map (·.1) → g'.get? b = some o :=
  H.to [] (fun _ _ e _ => e) (fun _ h => nomatch h) (fun p hp => .inl (List.mem_map_of_mem (hs.subset hp))) ((hs.map _).nodup H.nd)
    (fun _ L _ p hp => let ⟨o, e, r⟩ := H.at_ p (hs.subset hp); ⟨o, e, r.mono L⟩) rfl rfl
end

structure Rm (A : Around) (n : Nat) : Prop where
  hd : A.handled = .none
  dp : A.depth + n < recursionLimit
  un : A.units + 8 * n + 8 < cLine
theorem Rm.deeper {A : Around} {n : Nat} (r : Rm A (n + 1)) (env : Env) : Rm (A.deeper env) n :=
  ⟨r.hd, by have := r.dp; show A.depth + 1 + n < _; omega, by have := r.un; show A.units + 3 + 8 * n + 8 < _; omega⟩
theorem Rm.le {A : Around} {n m : Nat} (r : Rm A n) (h : m ≤ n) : Rm A m :=
  ⟨r.hd, by have := r.dp; omega, by have := r.un; omega⟩
theorem Rm.in1 {A : Around} {n : Nat} (r : Rm A (n + 1)) : Rm A.in1 n :=
  ⟨r.hd, by have := r.dp; show A.depth + n < _; omega, by have := r.un; show A.units + 1 + 8 * n + 8 < _; omega⟩
set_option maxHeartbeats 1000000
section
variable (w : World) (os : Ext) (n : Nat)

noncomputable def PE (env : Env) (M : Led) (e : Expr) (p : PV) : Prop :=
  ∀ (A : Around), Rm A n → ∀ (g : Heap) (s : Shared) (Q : Value → Shared → Prop), HS w os g M s →
    (∀ v g' s', Le g g' → HS w os g' M s' → Rd g' v p → Q v s') → wpAny (model PRG w) A (eval e env) Q NoE s
noncomputable def PT (env : Env) (M : Led) (e : Expr) (b : Bool) : Prop :=
  ∀ (A : Around), Rm A n → ∀ (g : Heap) (s : Shared) (Q : Bool → Shared → Prop), HS w os g M s →
    (∀ g' s', Le g g' → HS w os g' M s' → Q b s') → wpAny (model PRG w) A (isTrue e env (eval e env)) Q NoE s
noncomputable def PL (env : Env) (M : Led) (pos : Pos) (es : List Expr) (ps : List PV) : Prop :=
  ∀ (A : Around), Rm A n → ∀ (g : Heap) (s : Shared) (Q : List Value → Shared → Prop), HS w os g M s →
    (∀ vs g' s', Le g g' → HS w os g' M s' → RdL g' vs ps → Q vs s') → wpAny (model PRG w) A (spliced (backTo pos (starEach es env))) Q NoE s
noncomputable def OP (M : Led) (t : List Value → Sem Value) (ps : List PV) (r : PV) : Prop :=
  ∀ (A : Around), Rm A n → ∀ (g : Heap) (s : Shared) (Q : Value → Shared → Prop) (vs : List Value), HS w os g M s → RdL g vs ps →
    (∀ v g' s', Le g g' → HS w os g' M s' → Rd g' v r → Q v s') → wpAny (model PRG w) A (t vs) Q NoE s
noncomputable def bo (op : Operator) : List Value → Sem Value | [a, b] => binaryOp op a b | _ => unsupported ""
noncomputable def co (op : CmpOp) : List Value → Sem Value | [a, b] => compareOp op a b | _ => unsupported ""
end

structure EnvOk (env : Env) : Prop where
  kind : env.scope.kind = .function
  gl : env.globals = mainGlobals
  bn : env.builtins = builtinsNs

section
variable {w : World} {os : Ext} {n : Nat} {env : Env} {M : Led} {pos : Pos}

theorem PE.cint {i : Int} {k : Nat} : PE w os n env M (.Constant (.int i) k pos) (.int i) := fun _ _ g _ _ H k => wpAny_Constant_int (k _ g _ Le.rfl (H.toks _) (.int _ _))
theorem PE.cstr {x : Str} {k : Nat} : PE w os n env M (.Constant (.str x) k pos) (.str x) := fun _ _ g _ _ H k => wpAny_Constant_str (k _ g _ Le.rfl (H.toks _) (.str _ _))
theorem PE.cbool {b : Bool} {k : Nat} : PE w os n env M (.Constant (.bool b) k pos) (.bool b) := fun _ _ g _ _ H k => wpAny_Constant_bool (k _ g _ Le.rfl H (.bool _))
theorem PE.cnone {k : Nat} : PE w os n env M (.Constant .none k pos) .none := fun _ _ g _ _ H k => wpAny_Constant_none (k _ g _ Le.rfl H .none)

theorem HS.ns {g : Heap} {s : Shared} (H : HS w os g M s) {i : Nat} {a : Addr} {vars : List (Str × PV)} (hi : M[i]? = some (a, .frame vars)) :
    ∃ m, s.heap.Ns a m ∧ ∀ x p, vars.lookup x = some p → ∃ v, m x = some v ∧ Rd g v p := by
  obtain ⟨o, ho, m, es, ep, h1, h2, h3, h4⟩ := H.get hi
  exact ⟨m, ⟨o, es, ep, ho, h1, h2, h3⟩, h4⟩
theorem HS.cel {g : Heap} {s : Shared} (H : HS w os g M s) {i : Nat} {a : Addr} {p : PV} (hi : M[i]? = some (a, .cell (some p))) :
    ∃ v, s.heap.IsCell a (some v) ∧ Rd g v p := by
  obtain ⟨o, ho, v, h1, h2⟩ := H.get hi
  exact ⟨v, ⟨o, ho, h1⟩, h2⟩

noncomputable def Nm (w : World) (os : Ext) (env : Env) (M : Led) (x : Str) (p : PV) : Prop :=
  ∀ (A : Around) (g : Heap) (s : Shared) (Q : Value → Shared → Prop), HS w os g M s → (∀ v, Rd g v p → Q v s) → wpAny (model PRG w) A (loadName env x) Q NoE s
theorem Nm.loc (hk : env.scope.kind = .function) {x : Str} {i : Nat} {vars : List (Str × PV)} {p : PV} (hx : env.kindOf x = some .local)
    (hi : M[i]? = some (env.locals, .frame vars)) (hv : vars.lookup x = some p) : Nm w os env M x p := fun _ _ _ _ H k => by
  obtain ⟨m, h1, h2⟩ := H.ns hi
  obtain ⟨v, h3, h4⟩ := h2 _ _ hv
  exact wpAny_loadName_local hk hx h1 h3 (k v h4)
theorem Nm.cel (hk : env.scope.kind = .function) {x : Str} {i : Nat} {c : Addr} {p : PV} (hx : env.kindOf x = some .cell) (hc : env.cells.lookup x = some c)
    (hi : M[i]? = some (c, .cell (some p))) : Nm w os env M x p := fun _ _ _ _ H k => by
  obtain ⟨v, h1, h2⟩ := H.cel hi
  exact wpAny_loadName_cell hk hx hc h1 (k v h2)
theorem Nm.fre (hk : env.scope.kind = .function) {x : Str} {i : Nat} {c : Addr} {p : PV} (hx : env.kindOf x = some .free) (hc : env.cells.lookup x = some c)
    (hi : M[i]? = some (c, .cell (some p))) (hd : (x == ("__classdict__" : Str)) = false) : Nm w os env M x p := fun _ _ _ _ H k => by
  obtain ⟨v, h1, h2⟩ := H.cel hi
  exact wpAny_loadName_free hk hx hc h1 (k v h2) hd
theorem PE.name {x : Str} {p : PV} (h : Nm w os env M x p) (hd : (x == ("__debug__" : Str)) = false) : PE w os n env M (.Name x pos) p :=
  fun A _ g s _ H k => wpAny_Name (h A g s _ H fun v r => k v g s Le.rfl H r) hd
theorem PE.glob (hE : EnvOk env) {x : Str} {v : Value} (hx : env.kindOf x = some .globalImplicit) (e : nsIn (KF w) mainGlobals x = some (some v)) (hd : (x == ("__debug__" : Str)) = false) :
    PE w os n env M (.Name x pos) (.val v) := fun A _ g s _ H k => by
  obtain ⟨mg, h⟩ := H.bs.gl
  exact Name_function_global hE.kind hx (loadGlobal_global (by rw [hE.gl]; exact h.keeps H.keep) (mg_of H.bs.k h e) (k v g s Le.rfl H (.val v))) hd
theorem PE.bui (hE : EnvOk env) {x : Str} {v : Value} (hx : env.kindOf x = some .globalImplicit) (e : nsIn (KF w) mainGlobals x = some none) (hb : bootBuiltins x = some v) (hn : x ≠ "__name__")
    (hd : (x == ("__debug__" : Str)) = false) : PE w os n env M (.Name x pos) (.val v) := fun A _ g s _ H k => by
  obtain ⟨mg, h⟩ := H.bs.gl
  obtain ⟨mb, h', hb'⟩ := H.bs.bn
  exact Name_function_global hE.kind hx (loadGlobal_builtin (by rw [hE.gl]; exact h.keeps H.keep) (mg_none_of H.bs.k h e) (by rw [hE.bn]; exact h'.keeps H.keep) ((hb' x hn).trans hb) (k v g s Le.rfl H (.val v))) hd

theorem PE.bin {l r : Expr} {op : Operator} {p q z : PV} (hl : PE w os n env M l p) (hr : PE w os n env M r q) (ho : OP w os n M (bo op) [p, q] z) : PE w os n env M (.BinOp l op r pos) z :=
  fun A rm g s _ H k => wpAny_BinOp (hl A rm g s _ H fun a g₁ s₁ L₁ H₁ r₁ => hr A rm g₁ s₁ _ H₁ fun b g₂ s₂ L₂ H₂ r₂ =>
    ho A rm g₂ s₂ _ [a, b] H₂ (.cons (r₁.mono L₂) (.cons r₂ .nil)) fun v g₃ s₃ L₃ H₃ r₃ => k v g₃ s₃ (L₁.tr (L₂.tr L₃)) H₃ r₃)
theorem PE.cmp {l r : Expr} {op : CmpOp} {p q z : PV} (hl : PE w os n env M l p) (hr : PE w os n env M r q) (ho : OP w os n M (co op) [p, q] z) (hb : behindInMarks op r = false) :
    PE w os n env M (.Compare l [op] [r] pos) z :=
  fun A rm g s _ H k => wpAny_Compare1 (hl A rm g s _ H fun a g₁ s₁ L₁ H₁ r₁ => hr A rm g₁ s₁ _ H₁ fun b g₂ s₂ L₂ H₂ r₂ =>
    ho A rm g₂ s₂ _ [a, b] H₂ (.cons (r₁.mono L₂) (.cons r₂ .nil)) fun v g₃ s₃ L₃ H₃ r₃ => k v g₃ s₃ (L₁.tr (L₂.tr L₃)) H₃ r₃) hb
theorem PT.cmp {l r : Expr} {op : CmpOp} {p q : PV} {z : Bool} (hl : PE w os n env M l p) (hr : PE w os n env M r q) (ho : OP w os n M (co op) [p, q] (.bool z)) (hb : behindInMarks op r = false) :
    PT w os n env M (.Compare l [op] [r] pos) z :=
  fun A rm g s _ H k => wpAny_isTrue_Compare1 (hl A rm g s _ H fun a g₁ s₁ L₁ H₁ r₁ => hr A rm g₁ s₁ _ H₁ fun b g₂ s₂ L₂ H₂ r₂ =>
    ho A rm g₂ s₂ _ [a, b] H₂ (.cons (r₁.mono L₂) (.cons r₂ .nil)) fun v g₃ s₃ L₃ H₃ r₃ => by cases r₃; exact wpAny_truthy_bool (k g₃ s₃ (L₁.tr (L₂.tr L₃)) H₃)) hb
theorem PT.not {x : Expr} {b : Bool} (h : PT w os n env M x b) : PT w os n env M (.UnaryOp .Not x pos) (!b) :=
  fun A rm g s _ H k => wpAny_isTrue_Not (h A rm g s _ H k)
theorem PT.bval {e : Expr} {b : Bool} (h : PE w os n env M e (.bool b)) (he : ∀ whole, isTrue e env whole = do let v ← whole; standAt e.pos; holding [v] (truthy v)) : PT w os n env M e b :=
  fun A rm g s _ H k => wpAny_isTrue_value (h A rm g s _ H fun v g' s' L H' r => by cases r; exact wpAny_truthy_bool (k g' s' L H')) (he _)
theorem PT.and2 {x y : Expr} {a b : Bool} (hx : PT w os n env M x a) (hy : a = true → PT w os n env M y b) : PT w os n env M (.BoolOp .And [x, y] pos) (a && b) :=
  fun A rm g s _ H k => wpAny_isTrue_BoolOp (wpAny_allTrue_And_cons (hx A rm g s _ H fun g₁ s₁ L₁ H₁ => by
    cases a with
    | false => exact k g₁ s₁ L₁ H₁
    | true => exact wpAny_allTrue_And_cons (hy rfl A rm g₁ s₁ _ H₁ fun g₂ s₂ L₂ H₂ => by
        cases b with
        | false => exact k g₂ s₂ (L₁.tr L₂) H₂
        | true => exact wpAny_allTrue_And_nil (k g₂ s₂ (L₁.tr L₂) H₂))))
theorem PE.ifexp {t x y : Expr} {b : Bool} {p : PV} (ht : PT w os n env M t b) (hx : b = true → PE w os n env M x p) (hy : b = false → PE w os n env M y p) : PE w os n env M (.IfExp t x y pos) p :=
  fun A rm g s _ H k => wpAny_IfExp (ht A rm g s _ H fun g₁ s₁ L₁ H₁ => by
    cases b with
    | true => exact hx rfl A rm g₁ s₁ _ H₁ fun v g₂ s₂ L₂ H₂ r => k v g₂ s₂ (L₁.tr L₂) H₂ r
    | false => exact hy rfl A rm g₁ s₁ _ H₁ fun v g₂ s₂ L₂ H₂ r => k v g₂ s₂ (L₁.tr L₂) H₂ r)
theorem PE.and2 {x y : Expr} {a b : Bool} (hx : PE w os n env M x (.bool a)) (hy : a = true → PE w os n env M y (.bool b)) : PE w os n env M (.BoolOp .And [x, y] pos) (.bool (a && b)) :=
  fun A rm g s _ H k => wpAny_And2 (hx A rm g s _ H fun v g₁ s₁ L₁ H₁ r => by
    cases r
    refine wpAny_truthy_bool ?_
    cases a with
    | true => exact hy rfl A rm g₁ s₁ _ H₁ fun v g₂ s₂ L₂ H₂ r => k v g₂ s₂ (L₁.tr L₂) H₂ r
    | false => exact k _ g₁ s₁ L₁ H₁ (.bool _))

theorem PL.nil : PL w os n env M pos [] [] := fun _ _ g s _ H k => spliced_none (k [] g s Le.rfl H .nil)
theorem PL.cons {e : Expr} {es : List Expr} {p : PV} {ps : List PV} (he : PE w os n env M e p) (h : PL w os n env M pos es ps) (hs : starEach (e :: es) env = (false, eval e env) :: starEach es env) :
    PL w os n env M pos (e :: es) (p :: ps) := fun A rm g s _ H k => by
  rw [hs]
  exact spliced_cons (he A rm g s _ H fun v g₁ s₁ L₁ H₁ r₁ => h A rm g₁ s₁ _ H₁ fun vs g₂ s₂ L₂ H₂ r₂ => k _ g₂ s₂ (L₁.tr L₂) H₂ (.cons (r₁.mono L₂) r₂))

theorem OP.add_int {a b : Int} : OP w os n M (bo .Add) [.int a, .int b] (.int (a + b)) := fun _ _ g s _ _ H r k => by
  cases r with | cons r₁ r => cases r with | cons r₂ r => cases r; cases r₁; cases r₂; exact PyProof.Rows.add_int (k _ g _ Le.rfl (H.toks _) (.int _ _))
theorem OP.sub_int {a b : Int} : OP w os n M (bo .Sub) [.int a, .int b] (.int (a - b)) := fun _ _ g s _ _ H r k => by
  cases r with | cons r₁ r => cases r with | cons r₂ r => cases r; cases r₁; cases r₂; exact PyProof.Rows.sub_int (k _ g _ Le.rfl (H.toks _) (.int _ _))
theorem OP.mod_int {a b : Int} (hb : b ≠ 0) : OP w os n M (bo .Mod) [.int a, .int b] (.int (a.fmod b)) := fun _ _ g s _ _ H r k => by
  cases r with | cons r₁ r => cases r with | cons r₂ r => cases r; cases r₁; cases r₂; exact mod_int' hb (k _ g _ Le.rfl (H.toks _) (.int _ _))
theorem OP.add_str {a b : Str} (hz : a.length + b.length ≤ sizeLine) : OP w os n M (bo .Add) [.str a, .str b] (.str (a ++ b)) := fun _ _ g s _ _ H r k => by
  cases r with | cons r₁ r => cases r with | cons r₂ r => cases r; cases r₁; cases r₂; exact PyProof.Rows.add_str (fun _ _ => k _ g _ Le.rfl (H.toks _) (.str _ _)) hz
theorem OP.lt_int {a b : Int} : OP w os n M (co .Lt) [.int a, .int b] (.bool (decide (a < b))) := fun _ _ g s _ _ H r k => by
  cases r with | cons r₁ r => cases r with | cons r₂ r => cases r; cases r₁; cases r₂; exact PyProof.Rows.lt_int (k _ g _ Le.rfl H (.bool _))
theorem OP.eq_int {a b : Int} : OP w os n M (co .Eq) [.int a, .int b] (.bool (a == b)) := fun _ _ g s _ _ H r k => by
  cases r with | cons r₁ r => cases r with | cons r₂ r => cases r; cases r₁; cases r₂; exact PyProof.Rows.eq_int (k _ g _ Le.rfl H (.bool _))
theorem OP.eq_str {a b : Str} : OP w os n M (co .Eq) [.str a, .str b] (.bool (a == b)) := fun _ _ g s _ _ H r k => by
  cases r with | cons r₁ r => cases r with | cons r₂ r => cases r; cases r₁; cases r₂; exact PyProof.Rows.eq_str (k _ g _ Le.rfl H (.bool _))
end
set_option maxHeartbeats 1000000
section
variable {w : World} {os : Ext} {n : Nat} {env : Env} {M : Led} {pos : Pos}

theorem Env.noE {α : Type} {A : Around} {t : Sem α} {Q : α → Shared → Prop} {E : Value → Shared → Prop} {s : Shared} (h : wpAny (model PRG w) A t Q NoE s) : wpAny (model PRG w) A t Q E s :=
  wpAny_mono h (fun _ _ x => x) fun _ _ x => x.elim

structure ItOk (w : World) (os : Ext) (g₀ : Heap) (ps : List PV) (it : Value) (I : Addr) (ent : Nat → Ent) : Prop where
  again : ∀ (A : Around) (M : Led) (g : Heap) (s : Shared) (Q : Value → Shared → Prop) (i : Nat), A.handled = .none → Le g₀ g → HS w os g ((I, ent i) :: M) s → Q it s → wpAny (model PRG w) A (pyIter it) Q NoE s
  item : ∀ (A : Around) (M : Led) (g : Heap) (s : Shared) (Q : Option Value → Shared → Prop) (i : Nat) (p : PV), A.handled = .none → Le g₀ g → HS w os g ((I, ent i) :: M) s → ps[i]? = some p →
    (∀ v g' s', Le g g' → HS w os g' ((I, ent (i + 1)) :: M) s' → Rd g' v p → Q (some v) s') → wpAny (model PRG w) A (pyNext it) Q NoE s
  stop : ∀ (A : Around) (M : Led) (g : Heap) (s : Shared) (Q : Option Value → Shared → Prop), A.handled = .none → Le g₀ g → HS w os g ((I, ent ps.length) :: M) s →
    (∀ g' s', Le g g' → HS w os g' M s' → Q .none s') → wpAny (model PRG w) A (pyNext it) Q NoE s
  noTup : ∀ (A : Around) (M : Led) (g : Heap) (s : Shared) (Q : Unit → Shared → Prop) (i : Nat) (tgt : Expr) (v : Value), Le g₀ g → HS w os g ((I, ent i) :: M) s → Q () s → wpAny (model PRG w) A (letOwnedTupleGo tgt it v) Q NoE s
noncomputable def IterOf (w : World) (os : Ext) (p : PV) (ps : List PV) : Prop :=
  ∀ (A : Around) (M : Led) (g : Heap) (s : Shared) (Q : Value → Shared → Prop) (x : Value), A.handled = .none → HS w os g M s → Rd g x p →
    (∀ it I ent g' s', Le g g' → HS w os g' ((I, ent 0) :: M) s' → ItOk w os g' ps it I ent → Q it s') → wpAny (model PRG w) A (pyIter x) Q NoE s

noncomputable def lit (l : Addr) (i : Nat) : Ent := .is fun o => o.cls = .type "list_iterator" ∧ o.data = .fields #[.ref l, .int i 0]
noncomputable def tit (l : Addr) (i : Nat) : Ent := .is fun o => o.cls = .type "tuple_iterator" ∧ o.data = .fields #[.ref l, .int i 0]
noncomputable def sit (x : Str) (t : Tok) (i : Nat) : Ent := .is fun o => o.cls = .type "str_ascii_iterator" ∧ o.data = .fields #[.str x t, .int i 0]
noncomputable def rit (k : Nat) (i : Nat) : Ent := .is fun o => o = { cls := .type "range_iterator", data := .fields #[rawInt (i : Int), rawInt ((k : Int) - i), rawInt 1] }

theorem HS.headIs {g : Heap} {s : Shared} {a : Addr} {P : Obj → Prop} (H : HS w os g ((a, .is P) :: M) s) : ∃ o, s.heap.get? a = some o ∧ P o := H.at_ _ (.head _)
theorem HS.sameBut {g : Heap} {s : Shared} {a : Addr} {e e' : Ent} {h' : Heap} {tk : Nat} (H : HS w os g ((a, e) :: M) s) (hs : Heap.SameBut a s.heap h')
    (hat : ∀ g', Le g g' → ∃ o, h'.get? a = some o ∧ e'.ok g' o) : ∃ g', Le g g' ∧ HS w os g' ((a, e') :: M) { s with heap := h', toks := tk } := by
  obtain ⟨g', L, H', _⟩ := H.set (i := 0) (e := e') (s' := { s with heap := h', toks := tk }) rfl (fun b o e n => (hs.2 b n).trans e) (fun g' L _ => hat g' L) rfl rfl
  exact ⟨g', L, H'⟩
theorem HS.dropHead {g : Heap} {s : Shared} {a : Addr} {e : Ent} {h' : Heap} (H : HS w os g ((a, e) :: M) s) (hs : ∀ b o, b ≠ a → s.heap.get? b = some o → h'.get? b = some o) :
    ∃ g', Le g g' ∧ HS w os g' M { s with heap := h' } := by
  have hn := List.nodup_cons.mp H.nd
  have H2 : HS w os g M s := ⟨H.bs, H.keep, fun p hp => H.at_ p (.tail _ hp), fun p hp => H.off p (.tail _ hp), hn.2, H.eos, H.egens⟩
  have hk : Le g h' := fun b o e => hs b o (fun q => by subst q; rw [H.off _ (.head _)] at e; cases e) (H.keep b o e)
  exact ⟨g, Le.rfl, ⟨H.bs, hk, fun p hp => by
    obtain ⟨o, e, r⟩ := H2.at_ p hp
    exact ⟨o, hs _ _ (fun q => hn.1 (by show a ∈ _; rw [← q]; exact List.mem_map_of_mem (f := (·.1)) hp)) e, r⟩, H2.off, H2.nd, H.eos, H.egens⟩⟩
theorem HS.tail {g : Heap} {s : Shared} {p : Addr × Ent} (H : HS w os g (p :: M) s) : HS w os g M s :=
  ⟨H.bs, H.keep, fun p hp => H.at_ p (.tail _ hp), fun p hp => H.off p (.tail _ hp), (List.nodup_cons.mp H.nd).2, H.eos, H.egens⟩

theorem pushEnt {g : Heap} {s : Shared} {e : Ent} {tk : Nat} (H : HS w os g M s) (o : Obj) (hf : o.isFreed = false) (he : ∀ g', Le g g' → e.ok g' o) :
    ∃ g', Le g g' ∧ HS w os g' ((s.heap.objs.size, e) :: M) { s with heap := s.heap.push o, toks := tk } := by
  obtain ⟨g', L, H', _⟩ := H.new (a := s.heap.objs.size) (e := e) (s' := { s with heap := s.heap.push o, toks := tk }) (get_none_of_size (Nat.le_refl _)) (fun b o e => Heap.get?_push_of_some _ e)
    (fun g' L _ => ⟨o, Heap.get?_push_size _ hf, he g' L⟩) rfl rfl
  exact ⟨g', L, H'⟩

theorem noTup_of {A : Around} {s : Shared} {I : Addr} {o : Obj} {nm : String} {tgt : Expr} {v : Value} {Q : Unit → Shared → Prop} (ho : s.heap.get? I = some o) (hc : o.cls = .type nm)
    (hn : ["enumerate", "zip", "dict_itemiterator", "dict_reverseitemiterator", "odict_iterator", "itertools.zip_longest", "itertools.pairwise"].contains nm = false) (hq : Q () s) :
    wpAny (model PRG w) A (letOwnedTupleGo tgt (.ref I) v) Q NoE s := by
  have key : wpAny (model PRG w) A (do
      let (.ref r, .ref a) := (Value.ref I, v) | return
      let o ← load r
      match o.cls, o.data with
      | .type n, .fields vs =>
        if ["enumerate", "zip", "dict_itemiterator", "dict_reverseitemiterator", "odict_iterator", "itertools.zip_longest", "itertools.pairwise"].contains n && vs[0]? == some (rawInt a) then
          rule "for.unpacks-the-owned-tuple"
          updateField r 0 .none
      | _, _ => pure ()) Q NoE s := by
    cases v <;> first | exact wpAny_pure hq | skip
    refine wpAny_bind (wpAny_load ho ?_)
    rw [hc]
    cases o.data <;> first | exact wpAny_pure hq | skip
    dsimp only
    rw [hn, Bool.false_and, if_neg (by decide)]
    exact wpAny_pure hq
  unfold letOwnedTupleGo
  split <;> first | exact key | exact wpAny_pure hq

theorem IterOf.list {ps : List PV} : IterOf w os (.list ps) ps := fun A M g s Q x hh H r k => by
  cases r with | @list l vs _ hl hr =>
  refine wpAny_pyIter_list (isList_le H.keep hl.isList) ?_
  obtain ⟨g', L, H'⟩ := pushEnt (e := lit l 0) (tk := s.toks) H { cls := .type "list_iterator", data := .fields #[.ref l, .int 0 0] } rfl fun _ _ => ⟨rfl, rfl⟩
  refine k _ _ (lit l) g' _ L H' ⟨?_, ?_, ?_, ?_⟩
  · intro A M g₁ s₁ Q i hh L₁ H₁ hq
    obtain ⟨o, ho, h1, h2⟩ := H₁.headIs
    exact wpAny_pyIter_listiter (i := i) ⟨o, ho, h1, h2⟩ hq
  · intro A M g₁ s₁ Q i p hh L₁ H₁ hp kk
    obtain ⟨o, ho, h1, h2⟩ := H₁.headIs
    obtain ⟨v, hv, rv⟩ := hr.get hp
    refine wpAny_pyNext_list_item (i := i) ⟨o, ho, h1, h2⟩ (isList_le (Le.tr L (Le.tr L₁ H₁.keep)) hl.isList) (x := v) (by simpa using hv) fun h' hi hs => ?_
    obtain ⟨o', e', h1', h2'⟩ := hi
    obtain ⟨g₂, L₂, H₂⟩ := H₁.sameBut (e' := lit l (i + 1)) (tk := s₁.toks) hs fun _ _ => ⟨o', e', h1', h2'⟩
    exact kk v g₂ _ L₂ H₂ (rv.mono (Le.tr L (Le.tr L₁ L₂)))
  · intro A M g₁ s₁ Q hh L₁ H₁ kk
    obtain ⟨o, ho, h1, h2⟩ := H₁.headIs
    refine wpAny_pyNext_list_end hh ⟨o, ho, h1, h2⟩ (isList_le (Le.tr L (Le.tr L₁ H₁.keep)) hl.isList) (by have := hr.length; simp; omega) fun h' hs => ?_
    obtain ⟨g₂, L₂, H₂⟩ := H₁.dropHead hs
    exact kk g₂ _ L₂ H₂
  · intro A M g₁ s₁ Q i tgt v L₁ H₁ hq
    obtain ⟨o, ho, h1, h2⟩ := H₁.headIs
    exact noTup_of ho h1 (by decide) hq

theorem IterOf.tup {ps : List PV} : IterOf w os (.tup ps) ps := fun A M g s Q x hh H r k => by
  cases r with | @tup l vs _ hl hr =>
  refine wpAny_pyIter_tuple (isTuple_le H.keep hl) ?_
  obtain ⟨g', L, H'⟩ := pushEnt (e := tit l 0) (tk := s.toks) H { cls := .type "tuple_iterator", data := .fields #[.ref l, .int 0 0] } rfl fun _ _ => ⟨rfl, rfl⟩
  refine k _ _ (tit l) g' _ L H' ⟨?_, ?_, ?_, ?_⟩
  · intro A M g₁ s₁ Q i hh L₁ H₁ hq
    obtain ⟨o, ho, h1, h2⟩ := H₁.headIs
    exact wpAny_pyIter_tupleiter (i := i) ⟨o, ho, h1, h2⟩ hq
  · intro A M g₁ s₁ Q i p hh L₁ H₁ hp kk
    obtain ⟨o, ho, h1, h2⟩ := H₁.headIs
    obtain ⟨v, hv, rv⟩ := hr.get hp
    refine wpAny_pyNext_tuple_item (i := i) ⟨o, ho, h1, h2⟩ (isTuple_le (Le.tr L (Le.tr L₁ H₁.keep)) hl) (x := v) (by simpa using hv) fun h' hi hs => ?_
    obtain ⟨o', e', h1', h2'⟩ := hi
    obtain ⟨g₂, L₂, H₂⟩ := H₁.sameBut (e' := tit l (i + 1)) (tk := s₁.toks) hs fun _ _ => ⟨o', e', h1', h2'⟩
    exact kk v g₂ _ L₂ H₂ (rv.mono (Le.tr L (Le.tr L₁ L₂)))
  · intro A M g₁ s₁ Q hh L₁ H₁ kk
    obtain ⟨o, ho, h1, h2⟩ := H₁.headIs
    refine wpAny_pyNext_tuple_end hh ⟨o, ho, h1, h2⟩ (isTuple_le (Le.tr L (Le.tr L₁ H₁.keep)) hl) (by have := hr.length; simp; omega) fun h' hs => ?_
    obtain ⟨g₂, L₂, H₂⟩ := H₁.dropHead hs
    exact kk g₂ _ L₂ H₂
  · intro A M g₁ s₁ Q i tgt v L₁ H₁ hq
    obtain ⟨o, ho, h1, h2⟩ := H₁.headIs
    exact noTup_of ho h1 (by decide) hq

theorem IterOf.rng {m : Int} (hm : m < 2 ^ 62) (hm0 : -(2 ^ 62) ≤ m) : IterOf w os (.rng m) ((List.range m.toNat).map fun i => PV.int (i : Nat)) := fun A M g s Q x hh H r k => by
  cases r with | @rng l _ t u x hl =>
  refine wpAny_pyIter_range (s := s) (r := l) (a := 0) (b := m) (c := 1) (t := t) (u := u) (v := x) (H.keep _ _ hl) (small_one (by omega) (by omega) (by omega) hm) ?_
  have hsz : Builtin.Range.rangeSize 0 m 1 = (m.toNat : Int) := by rw [rangeSize_one]; split <;> omega
  rw [hsz]
  obtain ⟨g', L, H'⟩ := pushEnt (e := rit m.toNat 0) (tk := s.toks) H { cls := .type "range_iterator", data := .fields #[rawInt 0, rawInt (m.toNat : Int), rawInt 1] } rfl fun _ _ => by show _ = _; simp
  refine k _ _ (rit m.toNat) g' _ L H' ⟨?_, ?_, ?_, ?_⟩
  · intro A M g₁ s₁ Q i hh L₁ H₁ hq
    obtain ⟨o, ho, h1⟩ := H₁.headIs
    subst h1
    exact wpAny_pyIter_rangeiter ho hq
  · intro A M g₁ s₁ Q i p hh L₁ H₁ hp kk
    obtain ⟨o, ho, h1⟩ := H₁.headIs
    subst h1
    have hi : i < m.toNat := by
      have := List.getElem?_eq_some_iff.mp hp
      obtain ⟨hi, _⟩ := this
      simpa using hi
    have hpe : p = .int (i : Nat) := by
      rw [List.getElem?_map, List.getElem?_range hi] at hp
      simpa using hp.symm
    subst hpe
    refine wpAny_pyNext_range_item (x := (i : Int)) (left := (m.toNat : Int) - i) (step := 1) ho (by omega) fun h' hi' hs => ?_
    obtain ⟨g₂, L₂, H₂⟩ := H₁.sameBut (e' := rit m.toNat (i + 1)) (tk := s₁.toks + 1) hs fun _ _ => ⟨_, hi', by
      show ({ cls := .type "range_iterator", data := .fields #[rawInt ((i : Int) + 1), rawInt ((m.toNat : Int) - i - 1), rawInt 1] } : Obj) = _
      have e1 : ((i : Int) + 1) = ((i + 1 : Nat) : Int) := by omega
      have e2 : ((m.toNat : Int) - i - 1) = (m.toNat : Int) - ((i + 1 : Nat) : Int) := by omega
      rw [e1, e2]⟩
    exact kk _ g₂ _ L₂ H₂ (.int _ _)
  · intro A M g₁ s₁ Q hh L₁ H₁ kk
    obtain ⟨o, ho, h1⟩ := H₁.headIs
    subst h1
    refine wpAny_pyNext_range_end hh ho (by simp) fun h' hs => ?_
    obtain ⟨g₂, L₂, H₂⟩ := H₁.dropHead hs
    exact kk g₂ _ L₂ H₂
  · intro A M g₁ s₁ Q i tgt v L₁ H₁ hq
    obtain ⟨o, ho, h1⟩ := H₁.headIs
    subst h1
    exact noTup_of ho rfl (by decide) hq

theorem IterOf.str {x : Str} (hx : x.cps.all (· < 128) = true) : IterOf w os (.str x) (x.cps.toList.map fun c => PV.str ⟨#[c]⟩) := fun A M g s Q v hh H r k => by
  cases r with | str _ t =>
  refine wpAny_pyIter_ascii hx ?_
  obtain ⟨g', L, H'⟩ := pushEnt (e := sit x t 0) (tk := s.toks) H { cls := .type "str_ascii_iterator", data := .fields #[.str x t, .int 0 0] } rfl fun _ _ => ⟨rfl, rfl⟩
  refine k _ _ (sit x t) g' _ L H' ⟨?_, ?_, ?_, ?_⟩
  · intro A M g₁ s₁ Q i hh L₁ H₁ hq
    obtain ⟨o, ho, h1, h2⟩ := H₁.headIs
    exact wpAny_pyIter_striter_ascii (i := i) ⟨o, ho, h1, h2⟩ hq
  · intro A M g₁ s₁ Q i p hh L₁ H₁ hp kk
    obtain ⟨o, ho, h1, h2⟩ := H₁.headIs
    rw [List.getElem?_map, Option.map_eq_some_iff] at hp
    obtain ⟨c, hc, rfl⟩ := hp
    refine wpAny_pyNext_ascii_item (i := i) (c := c) ⟨o, ho, h1, h2⟩ (by simpa using hc) fun h' hi hs => ?_
    obtain ⟨o', e', h1', h2'⟩ := hi
    obtain ⟨g₂, L₂, H₂⟩ := H₁.sameBut (e' := sit x t (i + 1)) (tk := s₁.toks + 1) hs fun _ _ => ⟨o', e', h1', h2'⟩
    exact kk _ g₂ _ L₂ H₂ (.str _ _)
  · intro A M g₁ s₁ Q hh L₁ H₁ kk
    obtain ⟨o, ho, h1, h2⟩ := H₁.headIs
    refine wpAny_pyNext_ascii_end hh ⟨o, ho, h1, h2⟩ (by simp) fun h' hs => ?_
    obtain ⟨g₂, L₂, H₂⟩ := H₁.dropHead hs
    exact kk g₂ _ L₂ H₂
  · intro A M g₁ s₁ Q i tgt v L₁ H₁ hq
    obtain ⟨o, ho, h1, h2⟩ := H₁.headIs
    exact noTup_of ho h1 (by decide) hq
end
set_option maxHeartbeats 1000000
section
variable {w : World} {os : Ext} {n : Nat} {env : Env} {M : Led} {pos : Pos}

noncomputable def PTs (w : World) (os : Ext) (n : Nat) (env : Env) (M : Led) (ifs : List Expr) (b : Bool) : Prop :=
  ∀ (A : Around), Rm A n → ∀ (g : Heap) (s : Shared) (Q : Bool → Shared → Prop), HS w os g M s →
    (∀ g' s', Le g g' → HS w os g' M s' → Q b s') → wpAny (model PRG w) A (forIn ifs true fun c r => if r = true then do let ok ← isTrue c env (eval c env); pure (ForInStep.yield ok) else pure (ForInStep.yield r)) Q NoE s
theorem PTs.nil : PTs w os n env M [] true := fun _ _ g s _ H k => wpAny_tests_nil (k g s Le.rfl H)
theorem PTs.one {c : Expr} {b : Bool} (h : PT w os n env M c b) : PTs w os n env M [c] b := fun A rm g s _ H k => wpAny_tests_one (h A rm g s _ H k)

noncomputable def Tgt (w : World) (os : Ext) (cenv : Env) (tgt : Expr) (T : Option PV → Led) : Prop :=
  ∀ (A : Around), A.handled = .none → ∀ (p₁ p₂ : Addr × Ent) (M : Led) (g : Heap) (s : Shared) (Q : Unit → Shared → Prop) (v : Value) (p : PV) (old : Option PV), HS w os g (p₁ :: p₂ :: (T old ++ M)) s → Rd g v p →
    (∀ g' s', Le g g' → HS w os g' (p₁ :: p₂ :: (T (some p) ++ M)) s' → Q () s') → wpAny (model PRG w) A (assign tgt cenv v) Q NoE s

theorem nsFrame {g' : Heap} {h' : Heap} {a : Addr} {m : Str → Option Value} {vars : List (Str × PV)} (hn : h'.Ns a m) (hv : ∀ x p, vars.lookup x = some p → ∃ v, m x = some v ∧ Rd g' v p) :
    ∃ o, h'.get? a = some o ∧ (Ent.frame vars).ok g' o := let ⟨o, es, ep, h1, h2, h3, h4⟩ := hn; ⟨o, h1, m, es, ep, h2, h3, h4, hv⟩

theorem Tgt.loc {cenv : Env} {x : Str} {px : Pos} (hk : cenv.scope.kind = .function) (hx : cenv.kindOf x = some .local) :
    Tgt w os cenv (.Name x px) fun o => match o with | .none => [(cenv.locals, .frame [])] | some p => [(cenv.locals, .frame [(x, p)])] := by
  intro A hh p₁ p₂ M g s Q v p old H r k
  have key : ∀ vars, HS w os g (p₁ :: p₂ :: ((cenv.locals, .frame vars) :: M)) s → wpAny (model PRG w) A (assign (.Name x px) cenv v) Q NoE s := by
    intro vars H
    obtain ⟨m, hn, -⟩ := H.ns (i := 2) rfl
    refine wpAny_assign_Name (wpAny_storeName_local hx hn (fun h' hn' hs => ?_) (by rw [hk]; rfl))
    obtain ⟨g', L, H', -⟩ := H.set (i := 2) (e := .frame [(x, p)]) (s' := { s with heap := h', toks := s.toks + 1 }) rfl (fun b o e n => (hs.2 b n).trans e)
      (fun g' L _ => nsFrame hn' fun y q e => by
        rw [List.lookup_cons] at e
        cases hb : y == x with
        | true => rw [hb] at e; cases e; exact ⟨v, by rw [if_pos (beq_iff_eq.mp hb)], r.mono L⟩
        | false => rw [hb] at e; cases e) rfl rfl
    exact k g' _ L H'
  cases old with
  | none => exact key _ H
  | some q => exact key _ H

theorem Tgt.cel {cenv : Env} {x : Str} {px : Pos} {c : Addr} (hk : cenv.scope.kind = .function) (hx : cenv.kindOf x = some .cell) (hc : cenv.cells.lookup x = some c) :
    Tgt w os cenv (.Name x px) fun o => [(cenv.locals, .frame []), (c, .cell o)] := by
  intro A hh p₁ p₂ M g s Q v p old H r k
  obtain ⟨o, ho, hd⟩ := H.get (i := 3) (a := c) (e := .cell old) rfl
  have hcell : ∃ v₀, s.heap.IsCell c v₀ := by
    cases old with
    | none => exact ⟨_, o, ho, hd⟩
    | some q => obtain ⟨v, hd, -⟩ := hd; exact ⟨_, o, ho, hd⟩
  obtain ⟨v₀, hcell⟩ := hcell
  refine wpAny_assign_Name (wpAny_storeName_cell hk hx hc hcell fun h' hn' hs => ?_)
  obtain ⟨o', ho', hd'⟩ := hn'
  obtain ⟨g', L, H', -⟩ := H.set (i := 3) (a := c) (e := .cell (some p)) (s' := { s with heap := h' }) rfl (fun b o e n => (hs.2 b n).trans e)
    (fun g' L _ => ⟨o', ho', v, hd', r.mono L⟩) rfl rfl
  exact k g' _ L H'

theorem HS.append {g : Heap} {s : Shared} {D : Addr} {l : List PV} {i : Nat} (H : HS w os g M s) (hi : M[i]? = some (D, .list l)) {A : Around} {v : Value} {p : PV} {Q : Value → Shared → Prop} (r : Rd g v p) (hz : l.length ≤ sizeLine)
    (k : ∀ g' s', Le g g' → HS w os g' (setE M i (.list (l ++ [p]))) s' → Q .none s') : wpAny (model PRG w) A (call (.builtin "list.append") [.ref D, v]) Q NoE s := by
  obtain ⟨o, ho, vs, m, rfl, hr⟩ := H.get hi
  refine wpAny_list_append_plain ⟨m, ho⟩ (fun h' hp hs => ?_) (by have := hr.length; simp; omega)
  obtain ⟨m', ho'⟩ := hp
  obtain ⟨g', L, H', -⟩ := H.set (i := i) (e := .list (l ++ [p])) (s' := { s with heap := h' }) hi (fun b o e n => (hs.2 b n).trans e)
    (fun g' L _ => ⟨_, ho', vs ++ [v], m', by simp, (hr.mono L).append (.cons (r.mono L) .nil)⟩) rfl rfl
  exact k g' _ L H'

theorem comp_core {elt tgt iter : Expr} {ifs : List Expr} {scope : Scope} {it : Value} {I D : Addr} {ent : Nat → Ent} {g₀ : Heap} {cenv : Env} {T : Option PV → Led} {α : Type} {ps : List α} {enc : α → PV} {t : α → Bool} {f : α → PV}
    (hT : Tgt w os cenv tgt T) (hI : ItOk w os g₀ (ps.map enc) it I ent) (hz : ps.length ≤ sizeLine)
    (hts : ∀ p ∈ ps, ∀ (e : Ent) (l : List PV), PTs w os n cenv ((I, e) :: (D, .list l) :: (T (some (enc p)) ++ M)) ifs (t p))
    (hel : ∀ p ∈ ps, t p = true → ∀ (e : Ent) (l : List PV), PE w os n cenv ((I, e) :: (D, .list l) :: (T (some (enc p)) ++ M)) elt (f p))
    (hlt : ∀ v, letOwnedTupleGo tgt it v = pure ())
    {A : Around} (rm : Rm A n) {g : Heap} {s : Shared} {R : Result → Shared → Prop} (L₀ : Le g₀ g) (H : HS w os g ((I, ent 0) :: (D, .list []) :: (T .none ++ M)) s)
    (k : ∀ g' s' o, Le g g' → HS w os g' ((D, .list ((ps.filter t).map f)) :: (T o ++ M)) s' → R (.ok .next) s') :
    codeAny (model PRG w) A (.compLoop (.ListComp elt [⟨tgt, iter, ifs, 0⟩] scope pos) 0 it (.ref D) cenv) R s := by
  refine codeAny_compLoop_tests (fun m s₁ => ∃ g₁ i o, m = ps.length - i ∧ i ≤ ps.length ∧ Le g g₁ ∧ HS w os g₁ ((I, ent i) :: (D, .list (((ps.take i).filter t).map f)) :: (T o ++ M)) s₁)
    ?_ ps.length ⟨g, 0, .none, by simp, by simp, Le.rfl, by simpa using H⟩ ?_
  · rintro m s₁ ⟨g₁, i, o, rfl, hi, L₁, H₁⟩
    by_cases hlt : i < ps.length
    · obtain ⟨p, hp⟩ : ∃ p, ps[i]? = some p := ⟨_, List.getElem?_eq_getElem hlt⟩
      have hmem : p ∈ ps := List.mem_of_getElem? hp
      refine wpAny_mono (hI.item A _ g₁ s₁ (fun r s₂ => ∃ v, r = some v ∧ ∃ g₂, Le g₁ g₂ ∧ HS w os g₂ ((I, ent (i + 1)) :: (D, .list (((ps.take i).filter t).map f)) :: (T o ++ M)) s₂ ∧ Rd g₂ v (enc p)) i (enc p) rm.hd (L₀.tr L₁) H₁ (by rw [List.getElem?_map, hp]; rfl)
        fun v g₂ s₂ L₂ H₂ r₂ => ⟨v, rfl, g₂, L₂, H₂, r₂⟩) ?_ fun _ _ x => x.elim
      rintro r s₂ ⟨v, rfl, g₂, L₂, H₂, r₂⟩
      refine Env.noE (hT A rm.hd _ _ M g₂ s₂ _ v (enc p) o H₂ r₂ fun g₃ s₃ L₃ H₃ => ?_)
      refine Env.noE (hts p hmem _ _ A rm g₃ s₃ _ H₃ fun g₄ s₄ L₄ H₄ => ?_)
      have htk : ps.take (i + 1) = ps.take i ++ [p] := by rw [List.take_add_one, hp]; rfl
      cases htp : t p with
      | false =>
        rw [if_neg (by decide)]
        refine ⟨ps.length - (i + 1), by omega, g₄, i + 1, some (enc p), rfl, hlt, L₁.tr (L₂.tr (L₃.tr L₄)), ?_⟩
        rw [htk, List.filter_append, List.filter_cons, htp]
        simpa using H₄
      | true =>
        rw [if_pos rfl]
        refine Env.noE (hel p hmem htp _ _ A rm g₄ s₄ _ H₄ fun u g₅ s₅ L₅ H₅ r₅ => ?_)
        refine Env.noE (H₅.append (i := 1) rfl r₅ (by
          have h1 := List.length_filter_le t (ps.take i)
          have h2 := List.length_take_le i ps
          rw [List.length_map]; omega) fun g₆ s₆ L₆ H₆ => ?_)
        refine ⟨ps.length - (i + 1), by omega, g₆, i + 1, some (enc p), rfl, hlt, L₁.tr (L₂.tr (L₃.tr (L₄.tr (L₅.tr L₆)))), ?_⟩
        rw [htk, List.filter_append, List.filter_cons, htp]
        simpa [setE] using H₆
    · have hi' : i = ps.length := by omega
      subst hi'
      refine wpAny_mono (hI.stop A _ g₁ s₁ (fun r s₂ => r = .none ∧ ∃ g₂, Le g₁ g₂ ∧ HS w os g₂ ((D, .list (((ps.take ps.length).filter t).map f)) :: (T o ++ M)) s₂) rm.hd (L₀.tr L₁) (by rw [List.length_map]; exact H₁) fun g₂ s₂ L₂ H₂ => ⟨rfl, g₂, L₂, H₂⟩) ?_ fun _ _ x => x.elim
      rintro r s₂ ⟨rfl, g₂, L₂, H₂⟩
      rw [List.take_length] at H₂
      exact k g₂ s₂ o (L₁.tr L₂) H₂
  · exact hlt

theorem compStart_core {elt tgt iter : Expr} {ifs : List Expr} {scope : Scope} {it : Value} {I D : Addr} {ent : Nat → Ent} {g₀ : Heap} {cenv : Env} {T : Option PV → Led} {α : Type} {ps : List α} {enc : α → PV} {t : α → Bool} {f : α → PV}
    (hT : Tgt w os cenv tgt T) (hI : ItOk w os g₀ (ps.map enc) it I ent) (hz : ps.length ≤ sizeLine)
    (hts : ∀ p ∈ ps, ∀ (e : Ent) (l : List PV), PTs w os n cenv ((I, e) :: (D, .list l) :: (T (some (enc p)) ++ M)) ifs (t p))
    (hel : ∀ p ∈ ps, t p = true → ∀ (e : Ent) (l : List PV), PE w os n cenv ((I, e) :: (D, .list l) :: (T (some (enc p)) ++ M)) elt (f p))
    (hlt : ∀ v, letOwnedTupleGo tgt it v = pure ())
    {A : Around} (rm : Rm A n) {g : Heap} {s : Shared} {R : Result → Shared → Prop} (L₀ : Le g₀ g) (H : HS w os g ((I, ent 0) :: (D, .list []) :: (T .none ++ M)) s)
    (k : ∀ g' s' o, Le g g' → HS w os g' ((D, .list ((ps.filter t).map f)) :: (T o ++ M)) s' → R (.ok .next) s') :
    codeAny (model PRG w) A (.compStart (.ListComp elt [⟨tgt, iter, ifs, 0⟩] scope pos) 0 it (.ref D) cenv) R s := by
  have go : codeAny (model PRG w) A (.compLoop (.ListComp elt [⟨tgt, iter, ifs, 0⟩] scope pos) 0 it (.ref D) cenv) R s := comp_core hT hI hz hts hel hlt rm L₀ H k
  exact codeAny_compStart_list go (Env.noE (hI.again A _ g s _ 0 rm.hd L₀ H go))

noncomputable def dictObj : Obj := { cls := .type "dict", data := .dict #[] }
noncomputable def cellObj : Obj := { cls := .type "cell", data := .cell .none }
theorem newEnv0 {scope : Scope} {cl : List (Str × Addr)} (hk : scope.kind = .function) (hc : ∀ y ∈ scope.names, y.2 ≠ .cell) {A : Around} {s : Shared} {Q : Env → Shared → Prop}
    (h : ∀ h', h'.Ns s.heap.objs.size (fun _ => .none) → Heap.SameBut s.heap.objs.size (s.heap.push dictObj) h' → Q (newEnv scope s.heap.objs.size env.globals cl env.qual .none .none (some env) builtinsNs) { s with heap := h' }) :
    wpAny (model PRG w) A (newFunctionEnv scope env.globals cl [] env.qual .none .none (some env)) Q NoE s :=
  wpAny_newFunctionEnv hc (fun _ h => nomatch h) (fun h' hn hs => h h' hn hs) hk

theorem newEnv1 {scope : Scope} {cl : List (Str × Addr)} {y : Str} (hc : ∀ k, cellsFrom k scope.names cl = (y, k) :: cl) (hp : ∀ h, pushCells h scope.names = h.push cellObj) {A : Around} {s : Shared} {Q : Env → Shared → Prop}
    (h : Q (newEnv scope s.heap.objs.size env.globals ((y, s.heap.objs.size + 1) :: cl) env.qual .none .none (some env) builtinsNs) { s with heap := (s.heap.push dictObj).push cellObj }) :
    wpAny (model PRG w) A (newFunctionEnv scope env.globals cl [] env.qual .none .none (some env)) Q NoE s := by
  simp only [newFunctionEnv, Option.isSome_some, if_true]
  refine wpAny_bind (wpAny_alloc ?_)
  refine wpAny_bind (wpAny_layCells _ (fun name kind cells => by cases hkc : kind == NameKind.cell <;> simp [hkc]) _ _ _ _ ?_)
  rw [hc, hp]
  simp only [Heap.size_push]
  refine wpAny_bind ?_
  rw [List.forIn_nil]
  exact wpAny_pure (wpAny_pure h)

theorem PE.lcomp {elt iter : Expr} {ifs : List Expr} {x : Str} {px : Pos} {scope : Scope} {cl : List (Str × Addr)} {src : PV} {α : Type} {ps : List α} {enc : α → PV} {t : α → Bool} {f : α → PV}
    (hsrc : PE w os n env M iter src) (hit : IterOf w os src (ps.map enc)) (hz : ps.length ≤ sizeLine)
    (hfs : ∀ v, foldedSetIterable iter env v = pure v) (hcl : closureFor scope env = pure cl) (hk : scope.kind = .function)
    (hnc : ∀ y ∈ scope.names, y.2 ≠ .cell) (hnl : ∀ y ∈ scope.names, y.2 = .local → scope.names.lookup y.1 = some .local) (hx : scope.names.lookup x = some .local)
    (hts : ∀ p ∈ ps, ∀ (I : Addr) (e : Ent) (D : Addr) (l : List PV) (C : Addr), PTs w os n (compEnvC scope cl C env) ((I, e) :: (D, .list l) :: (C, .frame [(x, enc p)]) :: M) ifs (t p))
    (hel : ∀ p ∈ ps, t p = true → ∀ (I : Addr) (e : Ent) (D : Addr) (l : List PV) (C : Addr), PE w os n (compEnvC scope cl C env) ((I, e) :: (D, .list l) :: (C, .frame [(x, enc p)]) :: M) elt (f p)) :
    PE w os n env M (.ListComp elt [⟨.Name x px, iter, ifs, 0⟩] scope pos) (.list ((ps.filter t).map f)) := by
  intro A rm g s Q H k
  show wpAny _ _ (comprehension _ scope env _ (newList []) false (eval iter env)) _ _ _
  refine wpAny_comprehension_free (g := ⟨.Name x px, iter, ifs, 0⟩) (gs := []) rfl hfs hcl hk hnl ?_
  refine hsrc A rm g s _ H fun xv g₁ s₁ L₁ H₁ r₁ => ?_
  refine hit A M g₁ s₁ _ xv rm.hd H₁ r₁ fun it I ent g₂ s₂ L₂ H₂ hI => ?_
  refine wpAny_newList ?_ (by simp)
  obtain ⟨g₃, L₃, H₃⟩ := pushEnt (e := .list []) (tk := s₂.toks) H₂ { cls := .type "list", data := .seq [].toArray } rfl fun _ _ => ⟨[], 0, rfl, .nil⟩
  refine newEnv0 hk hnc fun h' hn hs => ?_
  obtain ⟨g₄, L₄, H₄, -⟩ := H₃.new (a := (s₂.heap.push { cls := .type "list", data := .seq [].toArray }).objs.size) (e := .frame [])
    (s' := { heap := h', gens := s₂.gens, drawn := s₂.drawn, toks := s₂.toks, os := s₂.os }) (get_none_of_size (Nat.le_refl _))
    (fun b o e => (hs.2 b (Nat.ne_of_lt (Heap.lt_size e))).trans (Heap.get?_push_of_some _ e))
    (fun g' L _ => nsFrame hn fun _ _ e => nomatch e) rfl rfl
  have H₅ := H₄.perm (M' := (I, ent 0) :: (s₂.heap.objs.size, .list []) :: (((s₂.heap.push { cls := .type "list", data := .seq [].toArray }).objs.size, Ent.frame []) :: M)) (by
    refine List.Perm.trans (List.Perm.swap _ _ _) ?_
    refine List.Perm.trans (List.Perm.cons _ (List.Perm.swap _ _ _)) ?_
    exact List.Perm.swap _ _ _)
  have hx' : (compEnvC scope cl (s₂.heap.push { cls := .type "list", data := .seq [].toArray }).objs.size env).kindOf x = some .local := lookup_relabel_local hx
  have hI' : ItOk w os g₄ (ps.map enc) it I ent := ⟨fun A M g s Q i h1 h2 => hI.again A M g s Q i h1 (L₃.tr (L₄.tr h2)), fun A M g s Q i p h1 h2 => hI.item A M g s Q i p h1 (L₃.tr (L₄.tr h2)),
    fun A M g s Q h1 h2 => hI.stop A M g s Q h1 (L₃.tr (L₄.tr h2)), fun A M g s Q i tgt v h2 => hI.noTup A M g s Q i tgt v (L₃.tr (L₄.tr h2))⟩
  refine compStart_core (M := M) (Tgt.loc (w := w) (os := os) (cenv := compEnvC scope cl (s₂.heap.push { cls := .type "list", data := .seq [].toArray }).objs.size env) hk hx') hI' hz
    (fun p hp e l => hts p hp I e _ l _) (fun p hp htp e l => hel p hp htp I e _ l _) (fun v => rfl) rm Le.rfl H₅ fun g₆ s₆ o L₆ H₆ => ?_
  have fin : ∀ vars, HS w os g₆ ((s₂.heap.objs.size, .list ((ps.filter t).map f)) :: ((s₂.heap.push { cls := .type "list", data := .seq [].toArray }).objs.size, Ent.frame vars) :: M) s₆ →
      compPost (model PRG w) A NoE .none Q (.ref s₂.heap.objs.size) (s₂.heap.push { cls := .type "list", data := .seq [].toArray }).objs.size (.ok .next) s₆ := by
    intro vars H₆
    obtain ⟨m, hm, -⟩ := H₆.ns (i := 1) rfl
    refine ⟨m, hm, fun h'' hs'' => ?_⟩
    have H₇ := H₆.perm (List.Perm.swap _ _ _)
    obtain ⟨g₈, L₈, H₈⟩ := H₇.dropHead (h' := h'') fun b o n e => (hs''.2 b n).trans e
    obtain ⟨g₉, L₉, H₉, G₉⟩ := H₈.drop (M' := M) (List.sublist_cons_self _ _)
    obtain ⟨o, ho, vs, z, rfl, hr⟩ := H₈.at_ _ (.head _)
    refine k _ g₉ _ (L₁.tr (L₂.tr (L₃.tr (L₄.tr (L₆.tr (L₈.tr L₉)))))) H₉ (.list ⟨z, G₉ _ _ ho ?_⟩ (hr.mono L₉))
    exact (List.nodup_cons.mp H₈.nd).1
  cases o with
  | none => exact fin _ H₆
  | some p => exact fin _ H₆

theorem PE.lcompC {elt iter : Expr} {ifs : List Expr} {x : Str} {px : Pos} {scope : Scope} {cl : List (Str × Addr)} {src : PV} {α : Type} {ps : List α} {enc : α → PV} {t : α → Bool} {f : α → PV}
    (hsrc : PE w os n env M iter src) (hit : IterOf w os src (ps.map enc)) (hz : ps.length ≤ sizeLine)
    (hfs : ∀ v, foldedSetIterable iter env v = pure v) (hcl : closureFor scope env = pure cl) (hk : scope.kind = .function)
    (hc : ∀ k, cellsFrom k scope.names cl = (x, k) :: cl) (hp : ∀ h, pushCells h scope.names = h.push cellObj) (hnl : ∀ y ∈ scope.names, y.2 = .local → scope.names.lookup y.1 = some .local)
    (hx : (relabel scope env).names.lookup x = some .cell)
    (hts : ∀ p ∈ ps, ∀ (I : Addr) (e : Ent) (D : Addr) (l : List PV) (C c : Addr), PTs w os n (compEnvC scope ((x, c) :: cl) C env) ((I, e) :: (D, .list l) :: (C, .frame []) :: (c, .cell (some (enc p))) :: M) ifs (t p))
    (hel : ∀ p ∈ ps, t p = true → ∀ (I : Addr) (e : Ent) (D : Addr) (l : List PV) (C c : Addr), PE w os n (compEnvC scope ((x, c) :: cl) C env) ((I, e) :: (D, .list l) :: (C, .frame []) :: (c, .cell (some (enc p))) :: M) elt (f p)) :
    PE w os n env M (.ListComp elt [⟨.Name x px, iter, ifs, 0⟩] scope pos) (.list ((ps.filter t).map f)) := by
  intro A rm g s Q H k
  show wpAny _ _ (comprehension _ scope env _ (newList []) false (eval iter env)) _ _ _
  refine wpAny_comprehension_free (g := ⟨.Name x px, iter, ifs, 0⟩) (gs := []) rfl hfs hcl hk hnl ?_
  refine hsrc A rm g s _ H fun xv g₁ s₁ L₁ H₁ r₁ => ?_
  refine hit A M g₁ s₁ _ xv rm.hd H₁ r₁ fun it I ent g₂ s₂ L₂ H₂ hI => ?_
  refine wpAny_newList ?_ (by simp)
  obtain ⟨g₃, L₃, H₃⟩ := pushEnt (e := .list []) (tk := s₂.toks) H₂ { cls := .type "list", data := .seq [].toArray } rfl fun _ _ => ⟨[], 0, rfl, .nil⟩
  refine newEnv1 hc hp ?_
  obtain ⟨g₃', L₃', H₃'⟩ := pushEnt (e := .frame []) (tk := s₂.toks) H₃ dictObj rfl fun _ _ => ⟨fun _ => .none, #[], 0, rfl, (fun _ h => by simp at h), (fun _ => rfl), fun _ _ e => nomatch e⟩
  obtain ⟨g₄, L₄, H₄⟩ := pushEnt (e := .cell .none) (tk := s₂.toks) H₃' cellObj rfl fun _ _ => rfl
  simp only [Heap.size_push] at H₄ ⊢
  have H₅ := H₄.perm (M' := (I, ent 0) :: (s₂.heap.objs.size, .list []) :: (s₂.heap.objs.size + 1, Ent.frame []) :: (s₂.heap.objs.size + 1 + 1, Ent.cell .none) :: M) (by
    refine List.Perm.symm ?_
    refine List.Perm.trans (List.Perm.swap _ _ _) ?_
    refine List.Perm.trans (List.Perm.cons _ (List.Perm.swap _ _ _)) ?_
    refine List.Perm.trans (List.Perm.cons _ (List.Perm.cons _ (List.Perm.swap _ _ _))) ?_
    refine List.Perm.trans (List.Perm.swap _ _ _) ?_
    refine List.Perm.trans (List.Perm.cons _ (List.Perm.swap _ _ _)) ?_
    exact List.Perm.swap _ _ _)
  have hI' : ItOk w os g₄ (ps.map enc) it I ent := ⟨fun A M g s Q i h1 h2 => hI.again A M g s Q i h1 (L₃.tr (L₃'.tr (L₄.tr h2))), fun A M g s Q i p h1 h2 => hI.item A M g s Q i p h1 (L₃.tr (L₃'.tr (L₄.tr h2))),
    fun A M g s Q h1 h2 => hI.stop A M g s Q h1 (L₃.tr (L₃'.tr (L₄.tr h2))), fun A M g s Q i tgt v h2 => hI.noTup A M g s Q i tgt v (L₃.tr (L₃'.tr (L₄.tr h2)))⟩
  refine compStart_core (M := M) (Tgt.cel (w := w) (os := os) (c := s₂.heap.objs.size + 1 + 1) (cenv := compEnvC scope ((x, s₂.heap.objs.size + 1 + 1) :: cl) (s₂.heap.objs.size + 1) env) hk hx (by simp [compEnvC])) hI' hz
    (fun p hp e l => hts p hp I e _ l _ _) (fun p hp htp e l => hel p hp htp I e _ l _ _) (fun v => rfl) rm Le.rfl H₅ fun g₆ s₆ o L₆ H₆ => ?_
  obtain ⟨m, hm, -⟩ := H₆.ns (i := 1) rfl
  refine ⟨m, hm, fun h'' hs'' => ?_⟩
  have H₇ := H₆.perm (List.Perm.swap _ _ _)
  obtain ⟨g₈, L₈, H₈⟩ := H₇.dropHead (h' := h'') fun b o n e => (hs''.2 b n).trans e
  obtain ⟨g₉, L₉, H₉, G₉⟩ := H₈.drop (M' := M) ((List.sublist_cons_self _ _).trans (List.sublist_cons_self _ _))
  obtain ⟨o, ho, vs, z, rfl, hr⟩ := H₈.at_ _ (.head _)
  refine k _ g₉ _ (L₁.tr (L₂.tr (L₃.tr (L₃'.tr (L₄.tr (L₆.tr (L₈.tr L₉))))))) H₉ (.list ⟨z, G₉ _ _ ho ?_⟩ (hr.mono L₉))
  exact fun q => (List.nodup_cons.mp H₈.nd).1 (.tail _ q)
end
set_option maxHeartbeats 1000000
section
variable {w : World} {os : Ext} {n : Nat} {env : Env} {M : Led} {pos : Pos}

noncomputable abbrev cf (f : Value) : List Value → Sem Value := fun vs => call f vs
noncomputable def LV (w : World) (os : Ext) (M : Led) (p : PV) (ps : List PV) : Prop :=
  ∀ (g : Heap) (s : Shared) (v : Value), HS w os g M s → Rd g v p → ∃ a vs, v = .ref a ∧ s.heap.PlainList a vs.toArray ∧ RdL g vs ps
theorem LV.imm {ps : List PV} : LV w os M (.list ps) ps := fun g s v H r => by
  cases r with | @list a vs _ h r => exact ⟨a, vs, rfl, h.at fun o e => H.keep _ _ e, r⟩
theorem LV.mut {ps : List PV} {i : Nat} {a : Addr} (hi : M[i]? = some (a, .list ps)) : LV w os M (.val (.ref a)) ps := fun g s v H r => by
  cases r
  obtain ⟨o, ho, vs, m, rfl, hr⟩ := H.get hi
  exact ⟨a, vs, rfl, ⟨m, ho⟩, hr⟩

theorem HS.grow' {g : Heap} {s s' : Shared} (H : HS w os g M s) (hk : Le s.heap s'.heap) (hos : s'.os = s.os) (hg : s'.gens = s.gens) : ∃ g', Le g g' ∧ HS w os g' M s' := by
  obtain ⟨g', L, H', _⟩ := H.grow hk hos hg
  exact ⟨g', L, H'⟩

theorem OP.len {p : PV} {ps : List PV} (hv : LV w os M p ps) (hz : ps.length < 2 ^ 40) : OP w os n M (cf (.builtin "len")) [p] (.int ps.length) := fun A rm g s Q vs H r k => by
  cases r with | cons r₁ r =>
  cases r
  obtain ⟨a, us, rfl, h, r⟩ := hv g s _ H r₁
  have := r.length
  refine call_len_list h.isList (by simp; omega) ?_
  simp only [List.size_toArray, this]
  exact k _ g _ Le.rfl (H.toks _) (.int _ _)
theorem OP.len_str {x : Str} (hz : x.length < 2 ^ 40) : OP w os n M (cf (.builtin "len")) [.str x] (.int x.length) := fun A rm g s Q vs H r k => by
  cases r with | cons r₁ r =>
  cases r
  cases r₁
  exact PyProof.Rows.len_str (by omega) (k _ g _ Le.rfl (H.toks _) (.int _ _))

theorem RdL.ints {g : Heap} : ∀ {vs : List Value} {ns : List Int}, RdL g vs (ns.map .int) → IntsAre vs ns
  | [], [], _ => .nil
  | [], _ :: _, h => nomatch h
  | _ :: _, [], h => nomatch h
  | _ :: _, _ :: _, .cons (.int _ _) r => by constructor; exact RdL.ints r

theorem preSum_eq (ns : List Int) : ∀ j, preSum (fun i => ns.getD i 0) j = (ns.take j).sum
  | 0 => rfl
  | j + 1 => by rw [preSum, preSum_eq ns j, PySem.sum_take_succ]
theorem sum_bound {B : Int} : ∀ (ns : List Int), (∀ x ∈ ns, -B ≤ x ∧ x ≤ B) → -(B * ns.length) ≤ ns.sum ∧ ns.sum ≤ B * ns.length
  | [], _ => by simp
  | x :: r, h => by
    have h1 := h x (.head _)
    have h2 := sum_bound r fun y hy => h y (.tail _ hy)
    simp only [List.sum_cons, List.length_cons]
    have : B * ((r.length + 1 : Nat) : Int) = B * r.length + B := by rw [Int.natCast_add, Int.mul_add]; simp
    rw [this]
    omega

noncomputable def Small (ns : List Int) : Prop := (∀ x ∈ ns, -(2 ^ 40) ≤ x ∧ x ≤ 2 ^ 40) ∧ ns.length ≤ 1000

theorem OP.sum {p : PV} {ns : List Int} (hv : LV w os M p (ns.map .int)) (hs : Small ns) : OP w os n M (cf (.builtin "sum")) [p] (.int ns.sum) := fun A rm g s Q vs H r k => by
  cases r with | cons r₁ r =>
  cases r
  obtain ⟨a, us, rfl, h, r⟩ := hv g s _ H r₁
  have hl := h.isList
  have hI := r.ints
  have hlen : us.length = ns.length := by have := r.length; simpa using this
  refine call_sum_walkS (wpAny_pyIter_list hl ?_)
  have hne : a ≠ s.heap.objs.size := by obtain ⟨o, ho, _⟩ := hl; exact Nat.ne_of_lt (Heap.lt_size ho)
  have W := (Walks.list (prog := PRG) (w := w) (A := A.in1) rm.hd s.heap.objs.size a hne us.toArray).toS
  refine ⟨s.heap.objs.size, _, _, _, _, _, _, fun i => ns.getD i 0, rfl, W, ⟨⟨_, Heap.get?_push_size _ rfl, rfl, rfl⟩, isList_le (fun b o e => Heap.get?_push_of_some _ e) hl⟩, ?_, ?_, ?_, ?_⟩
  · intro b hb
    obtain ⟨o, ho, _⟩ := hl
    have := Heap.lt_size ho
    show b < (s.heap.push _).objs.size
    rw [Heap.size_push]
    rcases List.mem_cons.mp hb with rfl | hb
    · exact Nat.lt_succ_self _
    · rw [List.mem_singleton.mp hb]; exact Nat.lt_succ_of_lt this
  · intro i v hv
    have hi : i < ns.length := by
      have := (Array.getElem?_eq_some_iff.mp hv).1
      simp at this; omega
    obtain ⟨t, ht⟩ := hI.get i ns[i] (List.getElem?_eq_getElem hi)
    rw [List.getElem?_toArray, ht] at hv
    cases hv
    exact ⟨t, by simp [List.getD_eq_getElem?_getD, List.getElem?_eq_getElem hi]⟩
  · intro j hj
    simp only [List.size_toArray, hlen] at hj
    have hL := hs.2
    constructor
    · have : ns.getD j 0 ∈ ns := by simp [List.getD_eq_getElem?_getD, List.getElem?_eq_getElem hj]
      have := hs.1 _ this
      show -(2 ^ 63) ≤ ns.getD j 0 ∧ ns.getD j 0 < 2 ^ 63
      exact ⟨by omega, by omega⟩
    · rw [preSum_eq]
      have := sum_bound (B := 2 ^ 40) (ns.take (j + 1)) fun x hx => hs.1 x (List.mem_of_mem_take hx)
      have h2 : (ns.take (j + 1)).length ≤ 1000 := by rw [List.length_take]; omega
      have h3 : ((2 : Int) ^ 40) * (ns.take (j + 1)).length ≤ 2 ^ 40 * 1000 := by
        apply Int.mul_le_mul_of_nonneg_left
        · exact_mod_cast h2
        · decide
      exact ⟨by omega, by omega⟩
  · intro s' t' hm
    have e : preSum (fun i => ns.getD i 0) us.toArray.size = ns.sum := by rw [preSum_eq]; simp [hlen]
    rw [e]
    obtain ⟨g', L, H'⟩ := H.grow' (s' := s') (fun b o e => hm.heap b o (by simp; exact Nat.ne_of_lt (Heap.lt_size e)) (Heap.get?_push_of_some _ e)) hm.os hm.gens
    exact k _ g' s' L H' (.int _ _)

noncomputable def minI (ns : List Int) : Int := ns.getD (argBest (fun i j => decide (ns.getD i 0 < ns.getD j 0)) (ns.length - 1)) 0
theorem argBest_le (bt : Nat → Nat → Bool) : ∀ k, argBest bt k ≤ k
  | 0 => Nat.le_refl _
  | k + 1 => by unfold argBest; split; exact Nat.le_refl _; exact Nat.le_succ_of_le (argBest_le bt k)
theorem argBest_min (f : Nat → Int) : ∀ k j, j ≤ k → f (argBest (fun i j => decide (f i < f j)) k) ≤ f j
  | 0, j, h => by have : j = 0 := by omega
                  subst this; exact Int.le_refl _
  | k + 1, j, h => by
    have ih := argBest_min f k
    unfold argBest
    by_cases hj : j = k + 1
    · subst hj
      split
      · exact Int.le_refl _
      · rename_i q; simp at q; omega
    · have := ih j (by omega)
      split
      · rename_i q; simp at q; omega
      · exact this
theorem OP.min {p : PV} {ns : List Int} (hv : LV w os M p (ns.map .int)) (hne : 0 < ns.length) : OP w os n M (cf (.builtin "min")) [p] (.int (minI ns)) := fun A rm g s Q vs H r k => by
  cases r with | cons r₁ r =>
  cases r
  obtain ⟨a, us, rfl, h, r⟩ := hv g s _ H r₁
  have hl := h.isList
  have hI := r.ints
  have hlen : us.length = ns.length := by have := r.length; simpa using this
  refine call_min_walkS (wpAny_pyIter_list hl ?_)
  have hne' : a ≠ s.heap.objs.size := by obtain ⟨o, ho, _⟩ := hl; exact Nat.ne_of_lt (Heap.lt_size ho)
  have W := (Walks.list (prog := PRG) (w := w) (A := A.in1) rm.hd s.heap.objs.size a hne' us.toArray).toS
  have hval : ∀ (i : Nat) (v : Value), us.toArray[i]? = some v → ∃ t, v = Value.int (ns.getD i 0) t := by
    intro i v hv
    have hi : i < ns.length := by
      have := (Array.getElem?_eq_some_iff.mp hv).1
      simp at this; omega
    obtain ⟨t, ht⟩ := hI.get i ns[i] (List.getElem?_eq_getElem hi)
    rw [List.getElem?_toArray, ht] at hv
    cases hv
    exact ⟨t, by simp [List.getD_eq_getElem?_getD, List.getElem?_eq_getElem hi]⟩
  refine ⟨s.heap.objs.size, _, _, _, _, _, _, _, rfl, W, ⟨⟨_, Heap.get?_push_size _ rfl, rfl, rfl⟩, isList_le (fun b o e => Heap.get?_push_of_some _ e) hl⟩, ?_, ?_, CmpOf.ints_lt (fun i => ns.getD i 0) hval, ?_⟩
  · intro b hb
    obtain ⟨o, ho, _⟩ := hl
    have := Heap.lt_size ho
    show b < (s.heap.push _).objs.size
    rw [Heap.size_push]
    rcases List.mem_cons.mp hb with rfl | hb
    · exact Nat.lt_succ_self _
    · rw [List.mem_singleton.mp hb]; exact Nat.lt_succ_of_lt this
  · simp; omega
  · intro v s' hP hm
    obtain ⟨t, rfl⟩ := hval _ _ hP
    obtain ⟨g', L, H'⟩ := H.grow' (s' := s') (fun b o e => hm.heap b o (by simp; exact Nat.ne_of_lt (Heap.lt_size e)) (Heap.get?_push_of_some _ e)) hm.os hm.gens
    have e : ns.getD (argBest (fun i j => decide (ns.getD i 0 < ns.getD j 0)) (us.toArray.size - 1)) 0 = minI ns := by unfold minI; rw [List.size_toArray, hlen]
    rw [e]
    exact k _ g' s' L H' (.int _ _)

theorem OP.range1 {m : Int} : OP w os n M (cf (.type "range")) [.int m] (.rng m) := fun A rm g s Q vs H r k => by
  cases r with | cons r₁ r =>
  cases r
  cases r₁
  refine call_range_1 ?_
  obtain ⟨g', L, H', G⟩ := H.push { cls := .type "range", data := .fields #[.int 0 s.toks, .int m _, .int 1 (s.toks + 1)] } rfl (s.toks + 1 + 1)
  exact k _ g' _ L H' (.rng G)
theorem OP.gt_int {a b : Int} : OP w os n M (co .Gt) [.int a, .int b] (.bool (decide (b < a))) := fun _ _ g s _ _ H r k => by
  cases r with | cons r₁ r => cases r with | cons r₂ r => cases r; cases r₁; cases r₂; exact PyProof.Rows.gt_int (k _ g _ Le.rfl H (.bool _))
theorem OP.floordiv_int {a b : Int} (hb : b ≠ 0) (hp : Builtin.divisionGoesByPylong a b = false) : OP w os n M (bo .FloorDiv) [.int a, .int b] (.int (a.fdiv b)) := fun _ _ g s _ _ H r k => by
  cases r with | cons r₁ r => cases r with | cons r₂ r => cases r; cases r₁; cases r₂; exact PyProof.Rows.floordiv_int hb (k _ g _ Le.rfl (H.toks _) (.int _ _)) (.inl hp)

theorem callB {fv : Value} (hf : ∀ a, fv ≠ .ref a) {e : Expr} {es : List Expr} {ps : List PV} {r : PV} (ha : PL w os n env M pos (e :: es) ps) (hs : starEach (e :: es) env = (false, eval e env) :: starEach es env)
    (hp : (backTo pos (starEach (e :: es) env)).any (·.1) = false) (hop : OP w os n M (cf fv) ps r)
    {A : Around} (rm : Rm A n) {g : Heap} {s : Shared} {Q : Value → Shared → Prop} (H : HS w os g M s)
    (k : ∀ v g' s', Le g g' → HS w os g' M s' → Rd g' v r → Q v s') : wpAny (model PRG w) A (callWith pos fv [] (backTo pos (starEach (e :: es) env)) []) Q NoE s := by
  refine callWith_of (P := fun _ => True) (by rw [hp]; rfl) (fun h _ => ⟨.machine, .inr (.inl rfl), ?_⟩) ?_
  · refine Looks.of_pure ?_
    unfold keeperOf
    cases fv <;> first | rfl | exact absurd rfl (hf _)
  · rw [hs]
    refine evalArgs_plain ?_
    have := ha A rm g s (fun vs s' => True ∧ wpAny (model PRG w) A (call fv ([] ++ vs) []) Q NoE s') H fun vs g₁ s₁ L₁ H₁ r₁ =>
      ⟨trivial, hop A rm g₁ s₁ _ vs H₁ r₁ fun v g₂ s₂ L₂ H₂ r₂ => k v g₂ s₂ (L₁.tr L₂) H₂ r₂⟩
    rw [hs] at this
    exact this

theorem PE.callB {f : Str} {np : Pos} {fv : Value} (hfn : PE w os n env M (.Name f np) (.val fv)) (hf : ∀ a, fv ≠ .ref a) {e : Expr} {es : List Expr} {ps : List PV} {r : PV}
    (ha : PL w os n env M pos (e :: es) ps) (hop : OP w os n M (cf fv) ps r) (hs : starEach (e :: es) env = (false, eval e env) :: starEach es env)
    (hp : (backTo pos (starEach (e :: es) env)).any (·.1) = false) : PE w os n env M (.Call (.Name f np) (e :: es) [] pos) r :=
  fun A rm g s Q H k => wpAny_Call_NameR (hfn A rm g s _ H fun v g₁ s₁ L₁ H₁ r₁ => by
    cases r₁
    exact Mine.callB hf ha hs hp hop rm H₁ fun v g₂ s₂ L₂ H₂ r₂ => k v g₂ s₂ (L₁.tr L₂) H₂ r₂)

theorem PE.callF {f : Str} {np : Pos} {a : Addr} (hfn : PE w os n env M (.Name f np) (.val (.ref a))) (hkp : keepIn (KF w) (.ref a) = true) {e : Expr} {es : List Expr} {ps : List PV} {r : PV}
    (ha : PL w os n env M pos (e :: es) ps) (hop : OP w os n M (cf (.ref a)) ps r) (hs : starEach (e :: es) env = (false, eval e env) :: starEach es env)
    (hp : (backTo pos (starEach es env)).any (·.1) = false) : PE w os n env M (.Call (.Name f np) (e :: es) [] pos) r :=
  fun A rm g s Q H k => wpAny_Call_NameR (hfn A rm g s _ H fun v g₁ s₁ L₁ H₁ r₁ => by
    cases r₁
    exact callWith_K H₁.bs.k hkp (ha A rm g₁ s₁ _ H₁ fun vs g₂ s₂ L₂ H₂ r₂ => ⟨H₂.kin, hop A rm g₂ s₂ _ vs H₂ r₂ fun v g₃ s₃ L₃ H₃ r₃ => k v g₃ s₃ (L₁.tr (L₂.tr L₃)) H₃ r₃⟩) hs hp)
end
set_option maxHeartbeats 1000000
section
variable {w : World} {os : Ext} {n : Nat} {env : Env} {M : Led} {pos : Pos}

theorem cellsFrom_names : ∀ (names : List (Str × NameKind)) (k k' : Nat) (acc acc' : List (Str × Addr)), acc.map (·.1) = acc'.map (·.1) → (cellsFrom k names acc).map (·.1) = (cellsFrom k' names acc').map (·.1)
  | [], _, _, _, _, h => h
  | (x, kd) :: r, k, k', acc, acc', h => by
    unfold cellsFrom
    split
    · exact cellsFrom_names r _ _ _ _ (by simp [h])
    · exact cellsFrom_names r _ _ _ _ h
theorem lookup_of_mem {α : Type} : ∀ {l : List (Str × α)}, (l.map (·.1)).Nodup → ∀ {y}, y ∈ l → l.lookup y.1 = some y.2
  | x :: r, hn, y, hm => by
    rw [List.map_cons, List.nodup_cons] at hn
    rw [List.lookup_cons]
    rcases List.mem_cons.mp hm with rfl | hm
    · simp
    · have : (y.1 == x.1) = false := by
        apply beq_eq_false_iff_ne.mpr
        intro e
        exact hn.1 (by rw [← e]; exact List.mem_map_of_mem (f := (·.1)) hm)
      rw [this]; exact lookup_of_mem hn.2 hm

theorem enterCode {fa : Addr} {name qual : Str} {params : Arguments} {body : List Stmt} {scope : Scope} {dV kV doc pm cdv ct oc : Value} {an od : Option Addr} {osl : Array (Option Value)} {g : Heap} {s : Shared} {A : Around}
    {vs : List Value} {binds : List (Str × Value)} {vars : List (Str × PV)} {cv : Str → Option PV} {R : Result → Shared → Prop}
    (ho : (KF w).lookup fa = some ⟨oc, od, .func (fnOf name qual params body scope dV kV doc pm an cdv ct), osl⟩) (hcd : codeIn (KF w) cdv qual = true)
    (hb : bindArgs (fnOf name qual params body scope dV kV doc pm an cdv ct) ⟨vs, []⟩ = pure binds)
    (hkind : (binds.all fun y => scope.names.lookup y.1 == some .local || scope.names.lookup y.1 == some .cell) = true) (hnd : ((cellsFrom 0 scope.names []).map (·.1)).Nodup)
    (hv : ∀ x p, vars.lookup x = some p → ∃ v, bindL (fun y => scope.names.lookup y) binds (fun _ => .none) x = some v ∧ Rd g v p)
    (hcv : ∀ x ∈ (cellsFrom 0 scope.names []).map (·.1), ∀ (o : Obj), o.data = .cell (bindC (fun y => scope.names.lookup y) binds (fun _ => .none) x) → (Ent.cell (cv x)).ok g o)
    (rm : Rm A (n + 1)) (H : HS w os g M s)
    (k : ∀ (L : Addr) (s' : Shared) (g' : Heap), Rm (A.deeper (envOfC qual scope L fa cdv)) n → Le g g' → HS w os g' ((L, .frame vars) :: ((cellsFrom (L + 1) scope.names []).map fun y => (y.2, Ent.cell (cv y.1))) ++ M) s' →
      wpAny (model PRG w) (A.deeper (envOfC qual scope L fa cdv)) (execs body (envOfC qual scope L fa cdv)) (fun fl s'' => R (.ok (.ret (match fl with | .ret v => v | _ => .none))) s'') NoE s')
    (hco : scope.isCoroutine = false := by rfl) (hgen : scope.isGenerator = false := by rfl) (hk : scope.kind = .function := by rfl) :
    codeAny (model PRG w) A (.call (.ref fa) ⟨vs, []⟩) R s := by
  have hkK := hkind
  refine (codeAny_call_cells (fd := fnOf name qual params body scope dV kV doc pm an cdv ct) (by have := rm.dp; omega +splitNatSub) (H.kin _ _ ho) rfl H.lim (codeRec_of H.kin hcd) rfl hb rfl (kindsX hkind _) (fun s₁ X => ?_) hco hgen hk)
  obtain ⟨h₁, tk₁, rfl⟩ := X.toInCall.same
  have hnm : ∀ y ∈ cellsFrom (s.heap.objs.size + 1) scope.names [], y.1 ∈ (cellsFrom 0 scope.names []).map (·.1) := fun y hy => by
    rw [cellsFrom_names scope.names 0 (s.heap.objs.size + 1) [] [] rfl]; exact List.mem_map_of_mem (f := (·.1)) hy
  have hnd' : ((cellsFrom (s.heap.objs.size + 1) scope.names []).map (·.1)).Nodup := by rw [← cellsFrom_names scope.names 0 (s.heap.objs.size + 1) [] [] rfl]; exact hnd
  have hMlt : ∀ p ∈ M, p.1 < s.heap.objs.size := fun p hp => by obtain ⟨o, e, _⟩ := H.at_ p hp; exact Heap.lt_size e
  have hab : ∀ y ∈ cellsFrom (s.heap.objs.size + 1) scope.names [], s.heap.objs.size < y.2 := fun y hy => X.above y.1 y.2 hy
  obtain ⟨g', L', H', -⟩ := H.to (M' := (s.heap.objs.size, .frame vars) :: ((cellsFrom (s.heap.objs.size + 1) scope.names []).map fun y => (y.2, Ent.cell (cv y.1))) ++ M)
    (s' := { heap := h₁, gens := s.gens, drawn := s.drawn, toks := tk₁, os := s.os }) [] (fun b o e _ => X.toInCall.keep b o e) (fun _ h => nomatch h)
    (fun p hp => by
      rcases List.mem_append.mp hp with hp | hp
      · right
        rcases List.mem_cons.mp hp with rfl | hp
        · exact get_none_of_size (Nat.le_refl _)
        · obtain ⟨y, hy, rfl⟩ := List.mem_map.mp hp
          exact get_none_of_size (Nat.le_of_lt (hab y hy))
      · exact .inl (List.mem_map_of_mem hp))
    (by
      rw [List.map_append, List.map_cons, List.map_map]
      refine List.nodup_append.mpr ⟨List.nodup_cons.mpr ⟨fun q => ?_, ?_⟩, H.nd, fun a ha b hb e => ?_⟩
      · obtain ⟨y, hy, e⟩ := List.mem_map.mp q
        exact absurd (hab y hy) (by have e' : y.2 = s.heap.objs.size := e; rw [e']; exact Nat.lt_irrefl _)
      · exact (List.pairwise_map.mpr (X.apart.imp fun h => h))
      · subst e
        obtain ⟨p, hp, rfl⟩ := List.mem_map.mp hb
        have h1 := hMlt p hp
        rcases List.mem_cons.mp ha with e | ha
        · exact absurd h1 (by rw [e]; exact Nat.lt_irrefl _)
        · obtain ⟨y, hy, e⟩ := List.mem_map.mp ha
          have h2 := hab y hy
          have e' : y.2 = p.1 := e
          rw [e'] at h2
          exact absurd (Nat.lt_trans h1 h2) (Nat.lt_irrefl _))
    (fun g' Lg _ p hp => by
      rcases List.mem_append.mp hp with hp | hp
      · rcases List.mem_cons.mp hp with rfl | hp
        · obtain ⟨o, es, ep, h1, h2, h3, h4⟩ := X.toInCall.ns
          refine ⟨o, h1, _, es, ep, h2, h3, h4, fun x p e => ?_⟩
          obtain ⟨v, e1, e2⟩ := hv x p e
          exact ⟨v, e1, e2.mono Lg⟩
        · obtain ⟨y, hy, rfl⟩ := List.mem_map.mp hp
          obtain ⟨o, h1, h2⟩ := X.cell y.1 y.2 (lookup_of_mem hnd' hy)
          exact ⟨o, h1, (hcv y.1 (hnm y hy) o h2).mono Lg⟩
      · obtain ⟨o, e, r⟩ := H.at_ p hp
        exact ⟨o, X.toInCall.keep _ _ e, r.mono Lg⟩) rfl rfl
  exact wpAny_mono (k s.heap.objs.size _ g' (rm.deeper _) L' H') (fun _ _ x => x) fun _ _ x => x.elim

theorem enterC {fa : Addr} {name qual : Str} {params : Arguments} {body : List Stmt} {scope : Scope} {dV kV doc pm cdv ct oc : Value} {an od : Option Addr} {osl : Array (Option Value)} {g : Heap} {s : Shared} {A : Around}
    {vs : List Value} {binds : List (Str × Value)} {vars : List (Str × PV)} {cv : Str → Option PV} {Q : Value → Shared → Prop}
    (ho : (KF w).lookup fa = some ⟨oc, od, .func (fnOf name qual params body scope dV kV doc pm an cdv ct), osl⟩) (hcd : codeIn (KF w) cdv qual = true)
    (hb : bindArgs (fnOf name qual params body scope dV kV doc pm an cdv ct) ⟨vs, []⟩ = pure binds)
    (hkind : (binds.all fun y => scope.names.lookup y.1 == some .local || scope.names.lookup y.1 == some .cell) = true) (hnd : ((cellsFrom 0 scope.names []).map (·.1)).Nodup)
    (hv : ∀ x p, vars.lookup x = some p → ∃ v, bindL (fun y => scope.names.lookup y) binds (fun _ => .none) x = some v ∧ Rd g v p)
    (hcv : ∀ x ∈ (cellsFrom 0 scope.names []).map (·.1), ∀ (o : Obj), o.data = .cell (bindC (fun y => scope.names.lookup y) binds (fun _ => .none) x) → (Ent.cell (cv x)).ok g o)
    (rm : Rm A (n + 1)) (H : HS w os g M s)
    (k : ∀ (L : Addr) (s' : Shared) (g' : Heap), Rm (A.deeper (envOfC qual scope L fa cdv)) n → Le g g' → HS w os g' ((L, .frame vars) :: ((cellsFrom (L + 1) scope.names []).map fun y => (y.2, Ent.cell (cv y.1))) ++ M) s' →
      wpAny (model PRG w) (A.deeper (envOfC qual scope L fa cdv)) (execs body (envOfC qual scope L fa cdv)) (fun fl s'' => Q (match fl with | .ret v => v | _ => .none) s'') NoE s')
    (hco : scope.isCoroutine = false := by rfl) (hgen : scope.isGenerator = false := by rfl) (hk : scope.kind = .function := by rfl) :
    wpAny (model PRG w) A (call (.ref fa) vs) Q NoE s :=
  wpAny_call (enterCode ho hcd hb hkind hnd hv hcv rm H k hco hgen hk)
theorem X.ret {e : Expr} {p : PV} {p' : Pos} {rest : List Stmt} {A : Around} {g : Heap} {s : Shared} {Q : Flow → Shared → Prop} (he : PE w os n env M e p) (rm : Rm A n) (H : HS w os g M s)
    (k : ∀ v g' s', Le g g' → HS w os g' M s' → Rd g' v p → Q (.ret v) s') : wpAny (model PRG w) A (execs (.Return (some e) p' :: rest) env) Q NoE s :=
  wpAny_execs_cons (wpAny_Return_some (he A rm g s _ H k))
end
set_option maxHeartbeats 1000000
section
variable {w : World} {os : Ext} {n : Nat} {env : Env} {M : Led} {pos : Pos}
theorem memIdx {p : Addr × Ent} (h : p ∈ M) : ∃ i : Nat, M[i]? = some p := by
  obtain ⟨i, hi, e⟩ := List.getElem_of_mem h
  exact ⟨i, by rw [List.getElem?_eq_getElem hi, e]⟩
theorem Nm.locM (hk : env.scope.kind = .function) {x : Str} {vars : List (Str × PV)} {p : PV} (hx : env.kindOf x = some .local)
    (hi : (env.locals, Ent.frame vars) ∈ M) (hv : vars.lookup x = some p) : Nm w os env M x p := let ⟨_, h⟩ := memIdx hi; Nm.loc hk hx h hv
theorem Nm.celM (hk : env.scope.kind = .function) {x : Str} {c : Addr} {p : PV} (hx : env.kindOf x = some .cell) (hc : env.cells.lookup x = some c)
    (hi : (c, Ent.cell (some p)) ∈ M) : Nm w os env M x p := let ⟨_, h⟩ := memIdx hi; Nm.cel hk hx hc h
theorem Nm.freM (hk : env.scope.kind = .function) {x : Str} {c : Addr} {p : PV} (hx : env.kindOf x = some .free) (hc : env.cells.lookup x = some c)
    (hi : (c, Ent.cell (some p)) ∈ M) (hd : (x == ("__classdict__" : Str)) = false) : Nm w os env M x p := let ⟨_, h⟩ := memIdx hi; Nm.fre hk hx hc h hd
theorem PE.lmap {elt iter : Expr} {x : Str} {px : Pos} {scope : Scope} {cl : List (Str × Addr)} {src : PV} {α : Type} {ps : List α} {enc : α → PV} {f : α → PV}
    (hsrc : PE w os n env M iter src) (hit : IterOf w os src (ps.map enc)) (hz : ps.length ≤ sizeLine)
    (hfs : ∀ v, foldedSetIterable iter env v = pure v) (hcl : closureFor scope env = pure cl) (hk : scope.kind = .function)
    (hnc : ∀ y ∈ scope.names, y.2 ≠ .cell) (hnl : ∀ y ∈ scope.names, y.2 = .local → scope.names.lookup y.1 = some .local) (hx : scope.names.lookup x = some .local)
    (hel : ∀ p ∈ ps, ∀ (I : Addr) (e : Ent) (D : Addr) (l : List PV) (C : Addr), PE w os n (compEnvC scope cl C env) ((I, e) :: (D, .list l) :: (C, .frame [(x, enc p)]) :: M) elt (f p)) :
    PE w os n env M (.ListComp elt [⟨.Name x px, iter, [], 0⟩] scope pos) (.list (ps.map f)) := by
  have := PE.lcomp (elt := elt) (ifs := []) (px := px) (pos := pos) (t := fun _ => true) hsrc hit hz hfs hcl hk hnc hnl hx (fun _ _ _ _ _ _ _ => PTs.nil) (fun p hp _ => hel p hp)
  rwa [List.filter_eq_self.mpr (by simp)] at this
theorem PE.lmapC {elt iter : Expr} {x : Str} {px : Pos} {scope : Scope} {cl : List (Str × Addr)} {src : PV} {α : Type} {ps : List α} {enc : α → PV} {f : α → PV}
    (hsrc : PE w os n env M iter src) (hit : IterOf w os src (ps.map enc)) (hz : ps.length ≤ sizeLine)
    (hfs : ∀ v, foldedSetIterable iter env v = pure v) (hcl : closureFor scope env = pure cl) (hk : scope.kind = .function)
    (hc : ∀ k, cellsFrom k scope.names cl = (x, k) :: cl) (hp : ∀ h, pushCells h scope.names = h.push cellObj) (hnl : ∀ y ∈ scope.names, y.2 = .local → scope.names.lookup y.1 = some .local)
    (hx : (relabel scope env).names.lookup x = some .cell)
    (hel : ∀ p ∈ ps, ∀ (I : Addr) (e : Ent) (D : Addr) (l : List PV) (C c : Addr), PE w os n (compEnvC scope ((x, c) :: cl) C env) ((I, e) :: (D, .list l) :: (C, .frame []) :: (c, .cell (some (enc p))) :: M) elt (f p)) :
    PE w os n env M (.ListComp elt [⟨.Name x px, iter, [], 0⟩] scope pos) (.list (ps.map f)) := by
  have := PE.lcompC (elt := elt) (ifs := []) (px := px) (pos := pos) (t := fun _ => true) hsrc hit hz hfs hcl hk hc hp hnl hx (fun _ _ _ _ _ _ _ _ => PTs.nil) (fun p hp _ => hel p hp)
  rwa [List.filter_eq_self.mpr (by simp)] at this
theorem PE.as {e : Expr} {p q : PV} (h : PE w os n env M e p) (hq : p = q) : PE w os n env M e q := hq ▸ h
end
set_option maxHeartbeats 1000000
section
variable {M : Model} {A : Around} {R : GenEnd} {Y : Protocol} {n : Nat} {s₀ : Shared} {c : Code} {fs : List Frame} {s : Shared} {env : Env}
  {K : Flow → Sem Fin} {H : Value → Sem Fin} {gd : Bool → Bool} {lv : List Value → List Value}

theorem seg_If {test : Expr} {body orelse : List Stmt} {pos : Pos}
    (h : wpAny M (A.over c fs) (isTrue test env (eval test env)) (fun b s' => if b = true then Seg M A R Y n s₀ c ((execs body env).wrap K H gd lv) fs s' else Seg M A R Y n s₀ c ((execs orelse env).wrap K H gd lv) fs s')
      (fun x s' => Seg M A R Y n s₀ c (H x) fs s') s) : Seg M A R Y n s₀ c ((exec (.If test body orelse pos) env).wrap K H gd lv) fs s := by
  show Seg M A R Y n s₀ c (.at pos fun _ => (isTrue test env (eval test env) >>= fun b => if b = true then execs body env else execs orelse env).wrap K H gd lv) fs s
  refine seg_at ?_
  rw [Sem.bind_eq_wrap', Sem.wrap_wrap]
  refine seg_wrap (wpAny_mono h (fun b s' hb => ?_) fun x s' hx => hx)
  cases b with
  | true => rw [if_pos rfl] at hb; show Seg _ _ _ _ _ _ _ (Sem.wrap _ _ _ _ (if true = true then _ else _)) _ _; rw [if_pos rfl]; exact hb
  | false => rw [if_neg Bool.false_ne_true] at hb; show Seg _ _ _ _ _ _ _ (Sem.wrap _ _ _ _ (if false = true then _ else _)) _ _; rw [if_neg Bool.false_ne_true]; exact hb

noncomputable def ownK (env : Env) (K : Flow → Sem Fin) (H : Value → Sem Fin) (gd : Bool → Bool) (lv : List Value → List Value) : Result → Sem Fin := fun r =>
  ((match r with | .ok f => (.pure f : Sem Flow) | .error e => .raise e).onRaise fun (x : Value) => do
    if (← field x 1) == Value.none then unsupported "frame.own-activation:exception-without-traceback"
    setFlight x env.frame).wrap K H gd lv

theorem seg_For {target iter : Expr} {body orelse : List Stmt} {pos : Pos} (hfs : ∀ x, foldedSetIterable iter env x = pure x)
    (h : wpAny M (A.over c fs) (eval iter env) (fun x s₁ => wpAny M (A.over c fs) (pyIter x) (fun it s₂ => ∀ p l,
      Seg M A R Y n s₀ (.forLoop target it body orelse env) (M.den (.forLoop target it body orelse env)) (.ret (ownK env K H gd lv) none (gd false) l c p [] :: fs) s₂) (fun x s' => Seg M A R Y n s₀ c (H x) fs s') s₁)
      (fun x s' => Seg M A R Y n s₀ c (H x) fs s') s) : Seg M A R Y n s₀ c ((exec (.For target iter body orelse pos) env).wrap K H gd lv) fs s := by
  show Seg M A R Y n s₀ c (.at pos fun _ => (eval iter env >>= fun y => foldedSetIterable iter env y >>= fun x => standAt iter.pos >>= fun _ => holding [x] (pyIter x) >>= fun it => runOwn (.forLoop target it body orelse env) env).wrap K H gd lv) fs s
  refine seg_at ?_
  rw [Sem.bind_eq_wrap', Sem.wrap_wrap]
  refine seg_wrap (wpAny_mono h (fun x s' hx => ?_) fun _ _ hx => hx)
  rw [hfs]
  show Seg M A R Y n s₀ c (.at iter.pos fun _ => (holding [x] (pyIter x) >>= fun it => runOwn (.forLoop target it body orelse env) env).wrap K H gd lv) fs s'
  refine seg_at ?_
  rw [Sem.bind_eq_wrap', Sem.wrap_wrap]
  refine seg_wrap (wpAny_holding (wpAny_mono hx (fun it s'' hi => ?_) fun _ _ hx => hx))
  exact seg_call fun p => hi p _

theorem seg_wrap' {α : Type} {m : Sem α} {K : α → Sem Fin} {H : Value → Sem Fin} {gd lv}
    (h : wpAny M (A.over c fs) m (fun a s' => Seg M A R Y n s₀ c (K a) fs s') (fun _ _ => False) s) : Seg M A R Y n s₀ c (m.wrap K H gd lv) fs s :=
  seg_wrap (wpAny_mono h (fun _ _ x => x) fun _ _ x => x.elim)
end
section
variable {prog : Program} {w : World} {A : Around} {R : GenEnd} {Y : Protocol} {n : Nat} {s₀ : Shared} {fs : List Frame} {s : Shared} {env : Env}

noncomputable def noteH (env : Env) : Value → Sem Fin := fun e => (do noteFrame e env; theTreesLotGoes e : Sem Unit).wrap (fun _ => .raise e) .raise id id
theorem seg_forLoop {target : Expr} {it : Value} {body : List Stmt}
    (h : wpAny (model prog w) (A.over (.forLoop target it body [] env) fs) (pyNext it) (fun r s' => match r with
      | .none => Seg (model prog w) A R Y n s₀ (.block [] env) (.pure (.done .next)) fs s'
      | some v => wpAny (model prog w) (A.over (.forLoop target it body [] env) fs) (letOwnedTupleGo target it v) (fun _ s₁ => wpAny (model prog w) (A.over (.forLoop target it body [] env) fs) (assign target env v) (fun _ s₂ =>
          Seg (model prog w) A R Y n s₀ (.forLoop target it body [] env) ((execs body env).wrap (fun f => match f with
            | .next | .cont => .pure (.again (.forLoop target it body [] env))
            | .brk => .pure (.done .next)
            | .ret v => .pure (.done (.ret v))) (noteH env) id id) fs s₂) (fun _ _ => False) s₁) (fun _ _ => False) s') (fun _ _ => False) s) :
    Seg (model prog w) A R Y n s₀ (.forLoop target it body [] env) ((model prog w).den (.forLoop target it body [] env)) fs s := by
  show Seg _ A R Y n s₀ _ ((forTurn target it body [] env).onRaise (fun x => do noteFrame x env; theTreesLotGoes x)) fs s
  unfold forTurn
  rw [Sem.onRaise_eq_wrap]
  show Seg _ A R Y n s₀ _ (.at target.pos fun _ => (((pyNext it).onRaise fun _ => standAt { target.pos with line := 0 }) >>= _).wrap _ _ _ _) fs s
  refine seg_at ?_
  rw [Sem.bind_eq_wrap', Sem.wrap_wrap, Sem.onRaise_eq_wrap, Sem.wrap_wrap]
  refine seg_wrap' (wpAny_mono h (fun r s' hr => ?_) fun _ _ x => x)
  cases r with
  | none => exact seg_again rfl hr
  | some v =>
    show Seg _ A R Y n s₀ _ ((letOwnedTupleGo target it v >>= _).wrap _ _ _ _) fs s'
    rw [Sem.bind_eq_wrap', Sem.wrap_wrap]
    refine seg_wrap' (wpAny_mono hr (fun _ s₁ h₁ => ?_) fun _ _ x => x)
    show Seg _ A R Y n s₀ _ ((assign target env v >>= _).wrap _ _ _ _) fs s₁
    rw [Sem.bind_eq_wrap', Sem.wrap_wrap]
    refine seg_wrap' (wpAny_mono h₁ (fun _ s₂ h₂ => ?_) fun _ _ x => x)
    rw [Sem.bind_eq_wrap', Sem.wrap_wrap]
    rw [Sem.wrap_congr (execs body env) _ _ (K' := fun f => match f with
            | .next | .cont => .pure (.again (.forLoop target it body [] env))
            | .brk => .pure (.done .next)
            | .ret v => .pure (.done (.ret v))) (H' := noteH env)
        (fun f => by cases f <;> rfl)
        (fun e => by first | exact Sem.bind_eq_wrap _ _ | (show (do noteFrame e env; theTreesLotGoes e : Sem Unit).bind (fun _ => .raise e) = _; rw [Sem.bind_eq_wrap]; rfl))]
    exact h₂
end
set_option maxHeartbeats 1000000
section
variable {w : World} {os : Ext} {n : Nat} {env : Env} {M M' : Led} {pos : Pos}

theorem forLoopG {A : Around} {s : Shared} {R : Result → Shared → Prop} {target : Expr} {it : Value} {body orelse : List Stmt} (I : Nat → Shared → Prop)
    (turn : ∀ n s, I n s → wpAny (model PRG w) A (pyNext it) (fun r s₁ => match r with
      | .none => wpAny (model PRG w) A (execs orelse env) (fun f s₃ => R (.ok f) s₃) NoE s₁
      | some v => wpAny (model PRG w) A (letOwnedTupleGo target it v) (fun _ s₁' => wpAny (model PRG w) A (assign target env v) (fun _ s₂ => wpAny (model PRG w) A (execs body env) (fun f s₃ => match f with
          | .next | .cont => ∃ m, m < n ∧ I m s₃
          | .brk => R (.ok .next) s₃
          | .ret v => R (.ok (.ret v)) s₃) NoE s₂) NoE s₁') NoE s₁) NoE s)
    (n : Nat) (h : I n s) : codeAny (model PRG w) A (.forLoop target it body orelse env) R s := by
  refine codeAny_loop' rfl I (fun n s hI => ?_) n h
  show wpAny _ _ ((forTurn target it body orelse env).onRaise (fun x => do noteFrame x env; theTreesLotGoes x)) _ _ s
  refine Env.noE (wpAny_onRaise ?_)
  simp only [forTurn]
  refine wpAny_bind (wpAny_standAt (wpAny_bind (wpAny_onRaise (wpAny_mono (turn n s hI) (fun r s₁ h₁ => ?_) fun _ _ h' => h'.elim))))
  cases r with
  | none => exact wpAny_pure (.inr ⟨rfl, codeAny_block (wpAny_mono h₁ (fun _ _ x => x) fun _ _ x => x.elim)⟩)
  | some v =>
    refine wpAny_bind (wpAny_mono h₁ (fun _ s₁' h₁' => ?_) fun _ _ h' => h'.elim)
    refine wpAny_bind (wpAny_mono h₁' (fun _ s₂ h₂ => wpAny_bind (wpAny_mono h₂ (fun f s₃ h₃ => ?_) fun _ _ h' => h'.elim)) fun _ _ h' => h'.elim)
    cases f with
    | next => exact wpAny_pure (.inl ⟨rfl, h₃⟩)
    | cont => exact wpAny_pure (.inl ⟨rfl, h₃⟩)
    | brk => exact wpAny_pure h₃
    | ret v => exact wpAny_pure h₃

noncomputable def ST (w : World) (os : Ext) (n : Nat) (env : Env) (M : Led) (st : Stmt) (M' : Led) : Prop :=
  ∀ (A : Around), Rm A n → ∀ (g : Heap) (s : Shared) (Q : Flow → Shared → Prop), HS w os g M s →
    (∀ g' s', Le g g' → HS w os g' M' s' → Q .next s') → wpAny (model PRG w) A (exec st env) Q NoE s
noncomputable def SS (w : World) (os : Ext) (n : Nat) (env : Env) (M : Led) (ss : List Stmt) (M' : Led) : Prop :=
  ∀ (A : Around), Rm A n → ∀ (g : Heap) (s : Shared) (Q : Flow → Shared → Prop), HS w os g M s →
    (∀ g' s', Le g g' → HS w os g' M' s' → Q .next s') → wpAny (model PRG w) A (execs ss env) Q NoE s
theorem SS.nil : SS w os n env M [] M := fun _ _ g s _ H k => wpAny_execs_nil (k g s Le.rfl H)
theorem SS.cons {st : Stmt} {ss : List Stmt} {M₁ : Led} (h : ST w os n env M st M₁) (hs : SS w os n env M₁ ss M') : SS w os n env M (st :: ss) M' := fun A rm g s Q H k =>
  wpAny_execs_cons (h A rm g s _ H fun g₁ s₁ L₁ H₁ => hs A rm g₁ s₁ Q H₁ fun g₂ s₂ L₂ H₂ => k g₂ s₂ (L₁.tr L₂) H₂)
theorem X.next {st : Stmt} {rest : List Stmt} {A : Around} {g : Heap} {s : Shared} {Q : Flow → Shared → Prop} (h : ST w os n env M st M') (rm : Rm A n) (H : HS w os g M s)
    (k : ∀ g' s', Le g g' → HS w os g' M' s' → wpAny (model PRG w) A (execs rest env) Q NoE s') : wpAny (model PRG w) A (execs (st :: rest) env) Q NoE s :=
  wpAny_execs_cons (h A rm g s _ H k)
theorem ST.ifTrue {t : Expr} {body orelse : List Stmt} {b : Bool} (ht : PT w os n env M t b) (h1 : b = true → SS w os n env M body M') (h2 : b = false → SS w os n env M orelse M') : ST w os n env M (.If t body orelse pos) M' :=
  fun A rm g s Q H k => wpAny_If (ht A rm g s _ H fun g₁ s₁ L₁ H₁ => by
    cases b with
    | true => exact h1 rfl A rm g₁ s₁ Q H₁ fun g₂ s₂ L₂ H₂ => k g₂ s₂ (L₁.tr L₂) H₂
    | false => exact h2 rfl A rm g₁ s₁ Q H₁ fun g₂ s₂ L₂ H₂ => k g₂ s₂ (L₁.tr L₂) H₂)
theorem X.if {t : Expr} {body orelse rest : List Stmt} {b : Bool} {A : Around} {g : Heap} {s : Shared} {Q : Flow → Shared → Prop} (ht : PT w os n env M t b) (rm : Rm A n) (H : HS w os g M s)
    (k : ∀ g' s', Le g g' → HS w os g' M s' → wpAny (model PRG w) A (execs (if b = true then body else orelse) env) (fun f s' => match f with | .next => wpAny (model PRG w) A (execs rest env) Q NoE s' | f => Q f s') NoE s') :
    wpAny (model PRG w) A (execs (.If t body orelse pos :: rest) env) Q NoE s :=
  wpAny_execs_cons (wpAny_If (ht A rm g s _ H fun g₁ s₁ L₁ H₁ => by
    have := k g₁ s₁ L₁ H₁
    cases b with
    | true => exact this
    | false => exact this))

noncomputable def SN (w : World) (os : Ext) (env : Env) (M : Led) (x : Str) (p : PV) (M' : Led) : Prop :=
  ∀ (A : Around) (g : Heap) (s : Shared) (Q : Unit → Shared → Prop) (v : Value), HS w os g M s → Rd g v p → (∀ g' s', Le g g' → HS w os g' M' s' → Q () s') → wpAny (model PRG w) A (storeName env x v) Q NoE s
theorem SN.loc (hk : env.scope.kind = .function) {x : Str} {i : Nat} {vars : List (Str × PV)} {p : PV} (hx : env.kindOf x = some .local) (hi : M[i]? = some (env.locals, .frame vars)) :
    SN w os env M x p (setE M i (.frame ((x, p) :: vars))) := fun A g s Q v H r k => by
  obtain ⟨m, hn, hv⟩ := H.ns hi
  refine wpAny_storeName_local hx hn (fun h' hn' hs => ?_) (by rw [hk]; rfl)
  obtain ⟨g', L, H', -⟩ := H.set (i := i) (e := .frame ((x, p) :: vars)) (s' := { s with heap := h', toks := s.toks + 1 }) hi (fun b o e n => (hs.2 b n).trans e)
    (fun g' L _ => nsFrame hn' fun y q e => by
      rw [List.lookup_cons] at e
      cases hb : y == x with
      | true => rw [hb] at e; cases e; exact ⟨v, by rw [if_pos (beq_iff_eq.mp hb)], r.mono L⟩
      | false =>
        rw [hb] at e
        obtain ⟨u, e1, e2⟩ := hv y q e
        exact ⟨u, by rw [if_neg (beq_eq_false_iff_ne.mp hb)]; exact e1, e2.mono L⟩) rfl rfl
  exact k g' _ L H'
theorem SN.cel (hk : env.scope.kind = .function) {x : Str} {i : Nat} {c : Addr} {p : PV} {old : Option PV} (hx : env.kindOf x = some .cell) (hc : env.cells.lookup x = some c) (hi : M[i]? = some (c, .cell old)) :
    SN w os env M x p (setE M i (.cell (some p))) := fun A g s Q v H r k => by
  obtain ⟨o, ho, hd⟩ := H.get hi
  have hcell : ∃ v₀, s.heap.IsCell c v₀ := by
    cases old with
    | none => exact ⟨_, o, ho, hd⟩
    | some q => obtain ⟨v, hd, -⟩ := hd; exact ⟨_, o, ho, hd⟩
  obtain ⟨v₀, hcell⟩ := hcell
  refine wpAny_storeName_cell hk hx hc hcell fun h' hn' hs => ?_
  obtain ⟨o', ho', hd'⟩ := hn'
  obtain ⟨g', L, H', -⟩ := H.set (i := i) (a := c) (e := .cell (some p)) (s' := { s with heap := h' }) hi (fun b o e n => (hs.2 b n).trans e) (fun g' L _ => ⟨o', ho', v, hd', r.mono L⟩) rfl rfl
  exact k g' _ L H'
theorem ST.assign {x : Str} {px : Pos} {e : Expr} {p : PV} (he : PE w os n env M e p) (hs : SN w os env M x p M') (hsw : swapsWith e (some (.Name x px)) pos.line env = pure false) :
    ST w os n env M (.Assign [.Name x px] e pos) M' := fun A rm g s Q H k =>
  wpAny_Assign_Name (he A rm g s _ H fun v g₁ s₁ L₁ H₁ r₁ => hs A g₁ s₁ _ v H₁ r₁ fun g₂ s₂ L₂ H₂ => k g₂ s₂ (L₁.tr L₂) H₂) hsw
noncomputable def io (op : Operator) : List Value → Sem Value | [a, b] => inplaceOp op a b | _ => unsupported ""
theorem ST.aug {x : Str} {px : Pos} {op : Operator} {e : Expr} {a b p : PV} (ha : Nm w os env M x a) (he : PE w os n env M e b) (ho : OP w os n M (io op) [a, b] p) (hs : SN w os env M x p M') :
    ST w os n env M (.AugAssign (.Name x px) op e pos) M' := fun A rm g s Q H k =>
  wpAny_AugAssign_Name (ha A g s _ H fun v r => he A rm g s _ H fun u g₁ s₁ L₁ H₁ r₁ => ho A rm g₁ s₁ _ [v, u] H₁ (.cons (r.mono L₁) (.cons r₁ .nil)) fun z g₂ s₂ L₂ H₂ r₂ =>
    hs A g₂ s₂ _ z H₂ r₂ fun g₃ s₃ L₃ H₃ => k g₃ s₃ (L₁.tr (L₂.tr L₃)) H₃)
theorem OP.iadd_int {a b : Int} : OP w os n M (io .Add) [.int a, .int b] (.int (a + b)) := fun _ _ g s _ _ H r k => by
  cases r with | cons r₁ r => cases r with | cons r₂ r => cases r; cases r₁; cases r₂; exact wpAny_iadd_int (k _ g _ Le.rfl (H.toks _) (.int _ _))
theorem OP.isub_int {a b : Int} : OP w os n M (io .Sub) [.int a, .int b] (.int (a - b)) := fun _ _ g s _ _ H r k => by
  cases r with | cons r₁ r => cases r with | cons r₂ r => cases r; cases r₁; cases r₂; exact PyProof.Rows.isub_int (k _ g _ Le.rfl (H.toks _) (.int _ _))
theorem OP.iadd_str {a b : Str} (hz : a.length + b.length ≤ sizeLine) : OP w os n M (io .Add) [.str a, .str b] (.str (a ++ b)) := fun _ _ g s _ _ H r k => by
  cases r with | cons r₁ r => cases r with | cons r₂ r => cases r; cases r₁; cases r₂; exact PyProof.Rows.iadd_str (fun _ _ => k _ g _ Le.rfl (H.toks _) (.str _ _)) hz
theorem ST.expr {e : Expr} {p : PV} (he : ∀ (A : Around), Rm A n → ∀ (g : Heap) (s : Shared) (Q : Value → Shared → Prop), HS w os g M s → (∀ v g' s', Le g g' → HS w os g' M' s' → Rd g' v p → Q v s') → wpAny (model PRG w) A (eval e env) Q NoE s)
    (hi : interactive env = false) (hsw : swapsWith e .none pos.line env = pure false) : ST w os n env M (.Expr e pos) M' := fun A rm g s Q H k =>
  wpAny_Expr_any (he A rm g s _ H fun _ g' s' L H' _ => k g' s' L H') hi hsw

theorem HS.weaken {g : Heap} {s : Shared} (H : HS w os g M s) {i : Nat} {a : Addr} {vars vars' : List (Str × PV)} (hi : M[i]? = some (a, .frame vars)) (hv : ∀ y ∈ vars', vars.lookup y.1 = some y.2) :
    HS w os g (setE M i (.frame vars')) s := by
  refine ⟨H.bs, H.keep, fun p hp => ?_, fun p hp => ?_, by rw [setE_keys]; exact H.nd, H.eos, H.egens⟩
  · rcases setE_mem H.nd hi hp with rfl | ⟨hp, -⟩
    · obtain ⟨o, ho, m, es, ep, h1, h2, h3, h4⟩ := H.get hi
      exact ⟨o, ho, m, es, ep, h1, h2, h3, fun x p e => h4 x p (hv _ (mem_of_lookup e))⟩
    · exact H.at_ p hp
  · rcases setE_mem H.nd hi hp with rfl | ⟨hp, -⟩
    · exact H.off (a, .frame vars) (List.mem_of_getElem? hi)
    · exact H.off p hp

theorem assign_pair {x y : Str} {px py tp : Pos} {k₁ : Nat} {p q : PV} {M₁ : Led} (hx : SN w os env M x p M₁) (hy : SN w os env M₁ y q M') {A : Around} (hh : A.handled = .none) {g : Heap} {s : Shared} {Q : Unit → Shared → Prop} {v : Value}
    (H : HS w os g M s) (r : Rd g v (.tup [p, q])) (k : ∀ g' s', Le g g' → HS w os g' M' s' → Q () s') :
    wpAny (model PRG w) A (assign (.Tuple [.Name x px, .Name y py] k₁ tp) env v) Q NoE s := by
  cases r with | @tup t vs _ ht hr =>
  cases hr with | @cons v₁ _ _ _ r₁ hr =>
  cases hr with | @cons v₂ _ _ _ r₂ hr =>
  cases hr
  refine wpAny_assign_Tuple hh (isTuple_le H.keep ht) rfl rfl fun h' he => ?_
  have hk : Le s.heap h' := fun b o e => he b o (Nat.ne_of_lt (Heap.lt_size e)) e
  obtain ⟨g₁, L₁, H₁⟩ := H.grow' (s' := { s with heap := h' }) hk rfl rfl
  refine wpAny_assignInOrder_more (wpAny_assign_Name (hx A g₁ _ _ v₁ H₁ (r₁.mono L₁) fun g₂ s₂ L₂ H₂ => ?_))
  refine wpAny_assignInOrder_more (wpAny_assign_Name (hy A g₂ s₂ _ v₂ H₂ (r₂.mono (L₁.tr L₂)) fun g₃ s₃ L₃ H₃ => ?_))
  exact wpAny_assignInOrder_none (k g₃ s₃ (L₁.tr (L₂.tr L₃)) H₃)

theorem sizeLine_ge {k : Nat} (h : k ≤ 1000000) : k ≤ sizeLine := by rw [sizeLine_eq]; omega
theorem tupNew {es : List Expr} {ps : List PV} {k₁ : Nat} (ha : PL w os n env M pos es ps) (hz : ps.length ≤ 1000) {A : Around} (rm : Rm A n) {g : Heap} {s : Shared} {Q : Value → Shared → Prop} (H : HS w os g M s)
    (k : ∀ (T : Addr) g' s', Le g g' → HS w os g' M s' → Rd g' (.ref T) (.tup ps) → T ∉ M.map (·.1) → (∀ o, g.get? T ≠ some o) → Q (.ref T) s') : wpAny (model PRG w) A (eval (.Tuple es k₁ pos) env) Q NoE s := by
  refine wpAny_Tuple_spliced (ha A rm g s _ H fun vs g₁ s₁ L₁ H₁ r₁ => ?_)
  refine ⟨by rw [r₁.length]; exact sizeLine_ge (by omega), ?_⟩
  obtain ⟨g₂, L₂, H₂, G₂⟩ := H₁.push { cls := .type "tuple", data := .seq vs.toArray } rfl s₁.toks
  exact k _ g₂ _ (L₁.tr L₂) H₂ (.tup ⟨_, G₂, rfl, 0, rfl⟩ (r₁.mono L₂)) H₁.fresh fun o h => Nat.lt_irrefl _ (Heap.lt_size (H₁.keep _ _ (L₁ _ _ h)))
theorem PE.tup {es : List Expr} {ps : List PV} {k₁ : Nat} (ha : PL w os n env M pos es ps) (hz : ps.length ≤ 1000) : PE w os n env M (.Tuple es k₁ pos) (.tup ps) :=
  fun A rm g s Q H k => tupNew ha hz rm H fun T g' s' L H' r _ _ => k _ g' s' L H' r
theorem PE.lst {es : List Expr} {ps : List PV} (ha : PL w os n env M pos es ps) (hz : ps.length ≤ 1000) : PE w os n env M (.List es pos) (.list ps) := fun A rm g s Q H k => by
  refine wpAny_List_spliced (ha A rm g s _ H fun vs g₁ s₁ L₁ H₁ r₁ => ?_)
  refine ⟨by rw [r₁.length]; exact sizeLine_ge (by omega), ?_⟩
  obtain ⟨g₂, L₂, H₂, G₂⟩ := H₁.push { cls := .type "list", data := .seq vs.toArray } rfl s₁.toks
  exact k _ g₂ _ (L₁.tr L₂) H₂ (.list ⟨0, G₂⟩ (r₁.mono L₂))
end
set_option maxHeartbeats 1000000
section
variable {w : World} {os : Ext} {n : Nat} {env : Env} {M M' : Led} {pos : Pos}

noncomputable def OPM (w : World) (os : Ext) (n : Nat) (M : Led) (t : List Value → Sem Value) (ps : List PV) (r : PV) (M' : Led) : Prop :=
  ∀ (A : Around), Rm A n → ∀ (g : Heap) (s : Shared) (Q : Value → Shared → Prop) (vs : List Value), HS w os g M s → RdL g vs ps →
    (∀ v g' s', Le g g' → HS w os g' M' s' → Rd g' v r → Q v s') → wpAny (model PRG w) A (t vs) Q NoE s
theorem OP.m {t : List Value → Sem Value} {ps : List PV} {r : PV} (h : OP w os n M t ps r) : OPM w os n M t ps r M := h
theorem OPM.op {t : List Value → Sem Value} {ps : List PV} {r : PV} (h : OPM w os n M t ps r M) : OP w os n M t ps r := h
noncomputable def PEX (w : World) (os : Ext) (n : Nat) (env : Env) (M : Led) (e : Expr) (p : PV) (M' : Led) : Prop :=
  ∀ (A : Around), Rm A n → ∀ (g : Heap) (s : Shared) (Q : Value → Shared → Prop), HS w os g M s →
    (∀ v g' s', Le g g' → HS w os g' M' s' → Rd g' v p → Q v s') → wpAny (model PRG w) A (eval e env) Q NoE s
theorem PE.x {e : Expr} {p : PV} (h : PE w os n env M e p) : PEX w os n env M e p M := h
theorem PEX.pe {e : Expr} {p : PV} (h : PEX w os n env M e p M) : PE w os n env M e p := h

noncomputable def Ty (w : World) (os : Ext) (M : Led) (p : PV) (T : String) : Prop :=
  ∀ (g : Heap) (s : Shared) (v : Value), HS w os g M s → Rd g v p → s.TypeIs v T ∧ ∀ a, v = .ref a → ∃ ob, s.heap.get? a = some ob ∧ ob.dict = none
theorem Ty.str {x : Str} : Ty w os M (.str x) "str" := fun g s v H r => by
  cases r; exact ⟨typeIs_str _ _ _, nofun⟩
theorem Ty.list {p : PV} {ps : List PV} (h : LV w os M p ps) : Ty w os M p "list" := fun g s v H r => by
  obtain ⟨a, vs, rfl, h, -⟩ := h g s v H r
  obtain ⟨m, ho⟩ := h
  exact ⟨⟨_, ho, rfl⟩, fun b e => by cases e; exact ⟨_, ho, rfl⟩⟩

theorem callBm {id : String} {e : Expr} {es : List Expr} {ps : List PV} {p r : PV} {ov : Value} (ha : PL w os n env M pos (e :: es) ps) (hs : starEach (e :: es) env = (false, eval e env) :: starEach es env)
    (hp : (backTo pos (starEach (e :: es) env)).any (·.1) = false) (hop : OPM w os n M (cf (.builtin id)) (p :: ps) r M')
    {A : Around} (rm : Rm A n) {g : Heap} {s : Shared} {Q : Value → Shared → Prop} (H : HS w os g M s) (ro : Rd g ov p)
    (k : ∀ v g' s', Le g g' → HS w os g' M' s' → Rd g' v r → Q v s') : wpAny (model PRG w) A (callWith pos (.builtin id) [ov] (backTo pos (starEach (e :: es) env)) []) Q NoE s := by
  refine callWith_of (P := fun _ => True) (by rw [hp]; rfl) (fun h _ => ⟨.machine, .inr (.inl rfl), Looks.of_pure (by unfold keeperOf; rfl)⟩) ?_
  rw [hs]
  refine evalArgs_plain ?_
  have := ha A rm g s (fun vs s' => True ∧ wpAny (model PRG w) A (call (.builtin id) ([ov] ++ vs) []) Q NoE s') H fun vs g₁ s₁ L₁ H₁ r₁ =>
    ⟨trivial, hop A rm g₁ s₁ _ (ov :: vs) H₁ (.cons (ro.mono L₁) r₁) fun v g₂ s₂ L₂ H₂ r₂ => k v g₂ s₂ (L₁.tr L₂) H₂ r₂⟩
  rw [hs] at this
  exact this
theorem callBm0 {id : String} {p r : PV} {ov : Value} (hop : OPM w os n M (cf (.builtin id)) [p] r M')
    {A : Around} (rm : Rm A n) {g : Heap} {s : Shared} {Q : Value → Shared → Prop} (H : HS w os g M s) (ro : Rd g ov p)
    (k : ∀ v g' s', Le g g' → HS w os g' M' s' → Rd g' v r → Q v s') : wpAny (model PRG w) A (callWith pos (.builtin id) [ov] (backTo pos (starEach [] env)) []) Q NoE s := by
  refine callWith_of (P := fun _ => True) rfl (fun h _ => ⟨.machine, .inr (.inl rfl), Looks.of_pure (by unfold keeperOf; rfl)⟩) (PySem.evalArgs_none ⟨trivial, ?_⟩)
  exact hop A rm g s _ [ov] H (.cons ro .nil) k

theorem PEX.meth {o : Expr} {name : Str} {apos : Pos} {T id : String} {e : Expr} {es : List Expr} {p r : PV} {ps : List PV} (ho : PE w os n env M o p) (hT : Ty w os M p T) (ha : PL w os n env M pos (e :: es) ps)
    (hop : OPM w os n M (cf (.builtin id)) (p :: ps) r M') (pa : PlainAttrs T) (slot : Slot T name id) (hty : typeOf (.builtin id) = pure (.type "method_descriptor"))
    (hbase : attributeBase o name env (eval o env) = eval o env)
    (hfew : ((backTo pos (starEach (e :: es) env)).all (fun x => !x.1) && (backToKw pos (keywordEach [] env)).all (fun x => x.1.isSome)
      && decide ((e :: es).length + ([] : List Keyword).length + (if ([] : List Keyword).isEmpty then 0 else 1) < 30)) = true)
    (hline : (apos.endLine == pos.line) = true) (hs : starEach (e :: es) env = (false, eval e env) :: starEach es env) (hp : (backTo pos (starEach (e :: es) env)).any (·.1) = false) :
    PEX w os n env M (.Call (.Attribute o name apos) (e :: es) [] pos) r M' := fun A rm g s Q H k =>
  wpAny_Call_method hbase hfew hline pa slot hty (ho A rm g s _ H fun v g₁ s₁ L₁ H₁ r₁ =>
    ⟨(hT g₁ s₁ v H₁ r₁).1, (hT g₁ s₁ v H₁ r₁).2, callBm ha hs hp hop rm H₁ r₁ fun v g₂ s₂ L₂ H₂ r₂ => k v g₂ s₂ (L₁.tr L₂) H₂ r₂⟩)
theorem PEX.meth0 {o : Expr} {name : Str} {apos : Pos} {T id : String} {p r : PV} (ho : PE w os n env M o p) (hT : Ty w os M p T)
    (hop : OPM w os n M (cf (.builtin id)) [p] r M') (pa : PlainAttrs T) (slot : Slot T name id) (hty : typeOf (.builtin id) = pure (.type "method_descriptor"))
    (hbase : attributeBase o name env (eval o env) = eval o env) (hline : (apos.endLine == pos.line) = true) :
    PEX w os n env M (.Call (.Attribute o name apos) [] [] pos) r M' := fun A rm g s Q H k =>
  wpAny_Call_method hbase rfl hline pa slot hty (ho A rm g s _ H fun v g₁ s₁ L₁ H₁ r₁ =>
    ⟨(hT g₁ s₁ v H₁ r₁).1, (hT g₁ s₁ v H₁ r₁).2, callBm0 hop rm H₁ r₁ fun v g₂ s₂ L₂ H₂ r₂ => k v g₂ s₂ (L₁.tr L₂) H₂ r₂⟩)

theorem OPM.append {i : Nat} {D : Addr} {l : List PV} {p : PV} (hi : M[i]? = some (D, .list l)) (hz : l.length ≤ 1000) : OPM w os n M (cf (.builtin "list.append")) [.val (.ref D), p] .none (setE M i (.list (l ++ [p]))) := fun A rm g s Q vs H r k => by
  cases r with | cons r₁ r => cases r with | cons r₂ r => cases r; cases r₁
                                                          exact H.append hi r₂ (sizeLine_ge (by omega +splitNatSub)) fun g' s' L H' => k .none g' s' L H' .none
theorem OP.notin1 {x : Str} {c : Nat} {y : Str} (hy : y = ⟨#[c]⟩) : OP w os n M (co .NotIn) [.str y, .str x] (.bool (!decide (c ∈ x.cps.toList))) := fun A rm g s Q vs H r k => by
  cases r with | cons r₁ r => cases r with | cons r₂ r => cases r; cases r₁; cases r₂
                                                          subst hy
                                                          refine PyProof.Rows.notIn_str ?_
                                                          rw [StrLaws.found_one]
                                                          exact k _ g _ Le.rfl H (.bool _)
theorem OP.in1 {x : Str} {c : Nat} {y : Str} (hy : y = ⟨#[c]⟩) : OP w os n M (co .In) [.str y, .str x] (.bool (decide (c ∈ x.cps.toList))) := fun A rm g s Q vs H r k => by
  cases r with | cons r₁ r => cases r with | cons r₂ r => cases r; cases r₁; cases r₂
                                                          subst hy
                                                          refine PyProof.Rows.in_str ?_
                                                          rw [StrLaws.found_one]
                                                          exact k _ g _ Le.rfl H (.bool _)
theorem OP.isNone {p : PV} (hp : ∀ g v, Rd g v p → v ≠ .none) : OP w os n M (co .Is) [p, .none] (.bool false) := fun A rm g s Q vs H r k => by
  cases r with | cons r₁ r => cases r with | cons r₂ r => cases r; cases r₂; exact is_none_ne (hp _ _ r₁) (k _ g _ Le.rfl H (.bool _))
theorem OP.isntNone {p : PV} (hp : ∀ g v, Rd g v p → v ≠ .none) : OP w os n M (co .IsNot) [p, .none] (.bool true) := fun A rm g s Q vs H r k => by
  cases r with | cons r₁ r => cases r with | cons r₂ r => cases r; cases r₂; exact isnot_none_ne (hp _ _ r₁) (k _ g _ Le.rfl H (.bool _))
theorem OP.noneIs : OP w os n M (co .Is) [.none, .none] (.bool true) := fun A rm g s Q vs H r k => by
  cases r with | cons r₁ r => cases r with | cons r₂ r => cases r; cases r₁; cases r₂; exact is_none_none (k _ g _ Le.rfl H (.bool _))
theorem OP.ne_int {a b : Int} : OP w os n M (co .NotEq) [.int a, .int b] (.bool (a != b)) := fun _ _ g s _ _ H r k => by
  cases r with | cons r₁ r => cases r with | cons r₂ r => cases r; cases r₁; cases r₂; exact PyProof.Rows.ne_int (k _ g _ Le.rfl H (.bool _))
theorem OP.isntBool {a b : Bool} : OP w os n M (co .IsNot) [.bool a, .bool b] (.bool (a != b)) := fun _ _ g s _ _ H r k => by
  cases r with | cons r₁ r => cases r with | cons r₂ r => cases r; cases r₁; cases r₂; exact isnot_bool (k _ g _ Le.rfl H (.bool _))

noncomputable def subS (x : Str) (a b : Nat) : Str := ⟨((x.cps.toList.drop a).take (b - a)).toArray⟩
theorem nat_nn (a : Nat) : ¬ ((a : Int) < 0) := Int.not_lt.mpr (Int.natCast_nonneg a)
theorem maxmin (a len : Nat) : max (0 : Int) (min (a : Int) (len : Int)) = ((min a len : Nat) : Int) := by omega +splitNatSub
theorem idx_gen (a b len : Nat) : Builtin.Str.strSliceIndices (some (a : Int)) (some (b : Int)) 1 len = (List.range (min b len - min a len)).map (fun k => min a len + k) := by
  by_cases hab : min a len ≤ min b len
  · rw [← StrLaws.strSliceIndices_plain hab (Nat.min_le_right b len)]
    have e : ∀ c : Nat, min (min c len) len = min c len := fun c => Nat.min_eq_left (Nat.min_le_right c len)
    simp only [Builtin.Str.strSliceIndices, nat_nn, if_false, maxmin, e, show ((1 : Int) > 0) = True from by simp, if_true]
  · have h0 : min b len - min a len = 0 := Nat.sub_eq_zero_of_le (Nat.le_of_lt (Nat.lt_of_not_le hab))
    have hlt : ¬ (((min a len : Nat) : Int) < ((min b len : Nat) : Int)) := fun h => hab (Nat.le_of_lt (Int.ofNat_lt.mp h))
    rw [h0]
    simp only [Builtin.Str.strSliceIndices, sliceRange, nat_nn, if_false, maxmin, show ((1 : Int) > 0) = True from by simp, if_true, hlt]
    simp
theorem sub_gen {α : Type} (l : List α) (a b : Nat) : (l.drop (min a l.length)).take (min b l.length - min a l.length) = (l.drop a).take (b - a) := by
  by_cases ha : a ≤ l.length
  · rw [Nat.min_eq_left ha]
    by_cases hb : b ≤ l.length
    · rw [Nat.min_eq_left hb]
    · rw [Nat.min_eq_right (by omega +splitNatSub), List.take_of_length_le (by simp), List.take_of_length_le (by simp; omega +splitNatSub)]
  · rw [Nat.min_eq_right (show l.length ≤ a by omega +splitNatSub), List.drop_eq_nil_of_le (Nat.le_refl _), List.drop_eq_nil_of_le (show l.length ≤ a by omega +splitNatSub)]
    simp
theorem sliced_gen (x : Str) (a b : Nat) : (Builtin.Str.strSliceIndices (some (a : Int)) (some (b : Int)) 1 x.length).filterMap (x.cps[·]?) = (x.cps.toList.drop a).take (b - a) := by
  have hl : x.length = x.cps.toList.length := by simp [Str.length]
  rw [idx_gen, hl, ← sub_gen]
  have h := StrLaws.picks x.cps.toList (min b x.cps.toList.length - min a x.cps.toList.length) (min a x.cps.toList.length) (by omega +splitNatSub)
  simpa using h
theorem post_slice {x : Str} {t : Tok} {l u : Option (Int × Tok)} {a b : Nat} {Q : Value → Shared → Prop} {s : Shared} (hz : x.length ≤ sizeLine)
    (e : slicePicked x l u none = (Builtin.Str.strSliceIndices (some (a : Int)) (some (b : Int)) 1 x.length))
    (h : ∀ t' k, Q (.str (subS x a b) t') { s with toks := k }) : (sliceMade x t l u none).post Q s := by
  unfold sliceMade
  have hsub := sliced_gen x a b
  have hl : x.length = x.cps.toList.length := by simp [Str.length]
  have hlen : (Builtin.Str.strSliceIndices (some (a : Int)) (some (b : Int)) 1 x.length).length = min b x.length - min a x.length := by rw [idx_gen]; simp
  rw [e]
  by_cases hw : min b x.length - min a x.length = x.length
  · rw [if_pos (by rw [hlen, hw]; simp)]
    have : subS x a b = x := by
      unfold subS
      rw [← sub_gen, ← hl, hw, show min a x.length = 0 by omega +splitNatSub, List.drop_zero, hl, List.take_length]
    have h' := h t s.toks
    rw [this] at h'
    exact h'
  · rw [if_neg (by rw [hlen]; simp [hw])]
    have h' := h s.toks (s.toks + 1)
    unfold subS at h'
    rw [← hsub] at h'
    refine ⟨?_, h'⟩
    rw [hsub]
    simp [Str.length] at hz ⊢
    omega +splitNatSub
theorem PE.sliceAB {v lo hi : Expr} {sp : Pos} {x : Str} {a b : Nat} (hv : PE w os n env M v (.str x)) (hlo : PE w os n env M lo (.int a)) (hhi : PE w os n env M hi (.int b)) (hz : x.length ≤ 100000)
    (ht : ∀ o r, letTemporaryGo v o r = pure ()) : PE w os n env M (.Subscript v (.Slice (some lo) (some hi) none sp) pos) (.str (subS x a b)) := fun A rm g s Q H k => by
  refine wpAny_Subscript_str_slice (hv A rm g s _ H fun v₁ g₁ s₁ L₁ H₁ r₁ => ?_) ht
  rw [evalPart_some]
  refine hlo A rm g₁ s₁ _ H₁ fun v₂ g₂ s₂ L₂ H₂ r₂ => ?_
  rw [evalPart_some]
  refine hhi A rm g₂ s₂ _ H₂ fun v₃ g₃ s₃ L₃ H₃ r₃ => ?_
  cases r₁ with | str _ t =>
  cases r₂ with | int _ t₂ =>
  cases r₃ with | int _ t₃ =>
  obtain ⟨g₄, L₄, H₄, -⟩ := H₃.push { cls := .type "slice", data := .fields #[.int a t₂, .int b t₃, .none] } rfl s₃.toks
  refine ⟨x, t, some (a, t₂), some (b, t₃), rfl, rfl, rfl, post_slice (a := a) (b := b) (sizeLine_ge (by omega +splitNatSub)) rfl fun t' tk => ?_⟩
  exact k _ g₄ _ (L₁.tr (L₂.tr (L₃.tr L₄))) (H₄.toks tk) (.str _ _)
theorem PE.sliceA {v lo : Expr} {sp : Pos} {x : Str} {a : Nat} (hv : PE w os n env M v (.str x)) (hlo : PE w os n env M lo (.int a)) (hz : x.length ≤ 100000)
    (ht : ∀ o r, letTemporaryGo v o r = pure ()) : PE w os n env M (.Subscript v (.Slice (some lo) none none sp) pos) (.str (subS x a x.length)) := fun A rm g s Q H k => by
  refine wpAny_Subscript_str_slice (hv A rm g s _ H fun v₁ g₁ s₁ L₁ H₁ r₁ => ?_) ht
  rw [evalPart_some]
  refine hlo A rm g₁ s₁ _ H₁ fun v₂ g₂ s₂ L₂ H₂ r₂ => ?_
  rw [evalPart_none]
  refine wpAny_pure ?_
  cases r₁ with | str _ t =>
  cases r₂ with | int _ t₂ =>
  obtain ⟨g₄, L₄, H₄, -⟩ := H₂.push { cls := .type "slice", data := .fields #[.int a t₂, .none, .none] } rfl s₂.toks
  refine ⟨x, t, some (a, t₂), none, rfl, rfl, rfl, post_slice (a := a) (b := x.length) (sizeLine_ge (by omega +splitNatSub)) (StrLaws.sliceIdx_none_hi _ _) fun t' tk => ?_⟩
  exact k _ g₄ _ (L₁.tr (L₂.tr L₄)) (H₄.toks tk) (.str _ _)

noncomputable def joinE (xs : List Str) : Str := ⟨(xs.flatMap fun x => x.cps.toList).toArray⟩
theorem txtJoinE (xs : List Str) : Txt.join ⟨#[]⟩ xs = joinE xs := by
  have key : ∀ (xs : List Str) (acc : Array Nat), (xs.foldl (fun acc p => acc ++ (⟨#[]⟩ : Str).cps ++ p.cps) acc) = acc ++ (xs.flatMap fun x => x.cps.toList).toArray := by
    intro xs
    induction xs with
    | nil => intro acc; simp
    | cons y ys ih => intro acc; rw [List.foldl_cons, ih]; apply Array.ext'; simp
  cases xs with
  | nil => rfl
  | cons y ys =>
    show (⟨ys.foldl (fun acc p => acc ++ (⟨#[]⟩ : Str).cps ++ p.cps) y.cps⟩ : Str) = _
    rw [key]
    unfold joinE
    congr 1
    apply Array.ext'
    simp
theorem RdL.strs {g : Heap} : ∀ {vs : List Value} {xs : List Str}, RdL g vs (xs.map .str) → ∃ l : List (Str × Tok), vs = strValues l ∧ l.map (·.1) = xs
  | [], [], _ => ⟨[], rfl, rfl⟩
  | [], _ :: _, h => nomatch h
  | _ :: _, [], h => nomatch h
  | _ :: _, _ :: _, .cons (.str x t) r => let ⟨l, e1, e2⟩ := RdL.strs r; ⟨(x, t) :: l, by rw [e1]; rfl, by simp [e2]⟩
theorem OP.joinE {p : PV} {xs : List Str} (hv : LV w os M p (xs.map .str)) (hB : ∀ y ∈ xs, y.length ≤ 1000) (hl : xs.length ≤ 1000) : OP w os n M (cf (.builtin "str.join")) [.str ⟨#[]⟩, p] (.str (Mine.joinE xs)) := fun A rm g s Q vs H r k => by
  cases r with | cons r₁ r => cases r with | cons r₂ r =>
  cases r; cases r₁ with | str _ t =>
  obtain ⟨a, us, rfl, h, r⟩ := hv g s _ H r₂
  obtain ⟨l, rfl, hl'⟩ := r.strs
  refine SC.join h.isList hl' ?_ fun t' tk => ?_
  · unfold JoinOk
    rw [StrLaws.joinFits (B := 1000) hB (by
      have : (⟨#[]⟩ : Str).length = 0 := rfl
      rw [this]; omega +splitNatSub)]
    rfl
  · rw [txtJoinE]
    exact k _ g _ Le.rfl (H.toks tk) (.str _ _)
end
set_option maxHeartbeats 1000000
section
variable {w : World} {os : Ext} {n : Nat} {env : Env} {M M' : Led} {pos : Pos}
theorem listNew {es : List Expr} {ps : List PV} (ha : PL w os n env M pos es ps) (hz : ps.length ≤ 1000) {A : Around} (rm : Rm A n) {g : Heap} {s : Shared} {Q : Value → Shared → Prop} (H : HS w os g M s)
    (k : ∀ (R : Addr) g' s', Le g g' → HS w os g' ((R, .list ps) :: M) s' → Q (.ref R) s') : wpAny (model PRG w) A (eval (.List es pos) env) Q NoE s := by
  refine wpAny_List_spliced (ha A rm g s _ H fun vs g₁ s₁ L₁ H₁ r₁ => ?_)
  refine ⟨by rw [r₁.length]; exact sizeLine_ge (by omega), ?_⟩
  obtain ⟨g₂, L₂, H₂⟩ := pushEnt (e := .list ps) (tk := s₁.toks) H₁ { cls := .type "list", data := .seq vs.toArray } rfl fun _ L => ⟨vs, 0, rfl, r₁.mono L⟩
  exact k _ g₂ _ (L₁.tr L₂) H₂
theorem X.newList {x : Str} {px lp : Pos} {es : List Expr} {ps : List PV} {rest : List Stmt} {i : Nat} {vars : List (Str × PV)} (ha : PL w os n env M lp es ps) (hz : ps.length ≤ 1000)
    (hk : env.scope.kind = .function) (hx : env.kindOf x = some .local) (hi : M[i]? = some (env.locals, .frame vars)) (hsw : swapsWith (.List es lp) (some (.Name x px)) pos.line env = pure false)
    {A : Around} (rm : Rm A n) {g : Heap} {s : Shared} {Q : Flow → Shared → Prop} (H : HS w os g M s)
    (k : ∀ (R : Addr) g' s', Le g g' → HS w os g' ((R, .list ps) :: setE M i (.frame ((x, .val (.ref R)) :: vars))) s' → wpAny (model PRG w) A (execs rest env) Q NoE s') :
    wpAny (model PRG w) A (execs (.Assign [.Name x px] (.List es lp) pos :: rest) env) Q NoE s := by
  refine wpAny_execs_cons (wpAny_Assign_Name (listNew ha hz rm H fun R g₁ s₁ L₁ H₁ => ?_) hsw)
  exact SN.loc (i := i + 1) hk hx hi A g₁ s₁ _ (.ref R) H₁ (.val _) fun g₂ s₂ L₂ H₂ => k R g₂ s₂ (L₁.tr L₂) H₂
theorem ST.exprX {e : Expr} {p : PV} (he : PEX w os n env M e p M') (hi : interactive env = false) (hsw : swapsWith e .none pos.line env = pure false) : ST w os n env M (.Expr e pos) M' := ST.expr he hi hsw
theorem HS.perm' {g : Heap} {s : Shared} (H : HS w os g M s) (hp : M.Perm M') : HS w os g M' s := H.perm hp
theorem X.end {A : Around} {s : Shared} {Q : Flow → Shared → Prop} (k : Q .next s) : wpAny (model PRG w) A (execs [] env) Q NoE s := wpAny_execs_nil k
theorem bv_nil {g : Heap} {m : Str → Option Value} : ∀ x p, ([] : List (Str × PV)).lookup x = some p → ∃ v, m x = some v ∧ Rd g v p := fun _ _ e => nomatch e
theorem bv_cons {g : Heap} {m : Str → Option Value} {y : Str} {p : PV} {v : Value} {vars : List (Str × PV)} (e : m y = some v) (r : Rd g v p) (h : ∀ x q, vars.lookup x = some q → ∃ v, m x = some v ∧ Rd g v q) :
    ∀ x q, ((y, p) :: vars).lookup x = some q → ∃ v, m x = some v ∧ Rd g v q := fun x q eq => by
  rw [List.lookup_cons] at eq
  cases hb : x == y with
  | true => rw [hb] at eq; cases eq; exact ⟨v, by rw [beq_iff_eq.mp hb]; exact e, r⟩
  | false => rw [hb] at eq; exact h x q eq
theorem wv_nil {vars : List (Str × PV)} : ∀ y ∈ ([] : List (Str × PV)), vars.lookup y.1 = some y.2 := fun _ h => nomatch h
theorem wv_cons {vars vs : List (Str × PV)} {y : Str} {p : PV} (e : vars.lookup y = some p) (h : ∀ z ∈ vs, vars.lookup z.1 = some z.2) : ∀ z ∈ (y, p) :: vs, vars.lookup z.1 = some z.2 := fun z hz => by
  rcases List.mem_cons.mp hz with rfl | hz
  · exact e
  · exact h z hz
end
set_option maxHeartbeats 1000000
section
variable {w : World} {os : Ext} {n : Nat} {env : Env} {M M' : Led} {pos : Pos}
noncomputable def instE (C dx : Addr) : Ent := .is fun o => o.cls = .ref C ∧ notCls o = true ∧ o.dict = some dx
theorem lookIn_of {o : Obj} {es : Array DictEntry} {ep : Nat} {m : Str → Option Value} {x : Str} (hd : o.data = .dict es ep) (hk : StrKeys es) (hm : nsFind es x = m x) : lookIn x o = some (m x) := by
  unfold lookIn
  rw [hd]
  dsimp only
  unfold nsFind findBy at hm
  rw [← Array.find?_toList] at hm
  rw [← hm]
  cases q : es.toList.find? (fun e => e.key.isStr x) with
  | some e => rfl
  | none =>
    have : es.toList.any (·.refKey) = false := by
      rw [List.any_eq_false]
      intro e he
      obtain ⟨n, t, hkey⟩ := hk e (Array.mem_toList_iff.mp he)
      unfold DictEntry.refKey
      rw [hkey]
      simp
    simp [this]
structure DictR (g : Heap) (fs : List (Str × PV)) (o : Obj) : Prop where
  some_ : ∀ x p, fs.lookup x = some p → ∃ v, lookIn x o = some (some v) ∧ Rd g v p
  none_ : ∀ x, fs.lookup x = .none → lookIn x o = some .none
theorem HS.dictR {g : Heap} {s : Shared} (H : HS w os g M s) {dx : Addr} {fs : List (Str × PV)} (hd : (dx, Ent.dict fs) ∈ M) : ∃ o, s.heap.get? dx = some o ∧ DictR g fs o := by
  obtain ⟨o, ho, m, es, ep, h1, h2, hu, h3, h4, h5⟩ := H.at_ _ hd
  refine ⟨o, ho, ⟨fun x p e => ?_, fun x e => ?_⟩⟩
  · obtain ⟨v, e1, r⟩ := h4 x p e
    exact ⟨v, by rw [lookIn_of h1 h2 (h3 x), e1], r⟩
  · rw [lookIn_of h1 h2 (h3 x), h5 x e]
theorem HS.inst {g : Heap} {s : Shared} (H : HS w os g M s) {x C dx : Addr} {fs : List (Str × PV)} (hx : (x, instE C dx) ∈ M) (hd : (dx, Ent.dict fs) ∈ M) :
    ∃ ox od, W.InstAt s.heap x ox C (some od) ∧ DictR g fs od ∧ ox.dict = some dx ∧ s.heap.get? dx = some od := by
  obtain ⟨od, ho, R⟩ := H.dictR hd
  obtain ⟨ox, hox, h1, h2, h3⟩ := H.at_ _ hx
  exact ⟨ox, od, ⟨hox, h1, h2, by rw [h3]; exact ho⟩, R, h3, ho⟩

theorem PE.attr {o : Expr} {name : Str} {x C dx : Addr} {fs : List (Str × PV)} {p : PV} {attr : Option Value} (ho : PE w os n env M o (.val (.ref x))) (hx : (x, instE C dx) ∈ M) (hd : (dx, Ent.dict fs) ∈ M)
    (hv : fs.lookup name = some p) (hp : ∀ g v, Rd g v p → handedIn v = true)
    (hga : findIn (KF w) (.ref C) "__getattribute__" = some (some (.builtin "object.__getattribute__"))) (hdct : hasDictIn (KF w) C = true) (hf : findIn (KF w) (.ref C) name = some attr) (hng : noGet (KF w) attr = true)
    (he : eval (o.Attribute name pos) env = (do
        let ov ← eval o env
        standAt pos.atName
        let r ← holding [ov] (getAttr ov name true)
        letTemporaryGo o ov r
        pure r)) : PE w os n env M (.Attribute o name pos) p := fun A rm g s Q H k =>
  Attribute_any_ (ho A rm g s _ H fun v g₁ s₁ L₁ H₁ r₁ => by
    cases r₁
    obtain ⟨ox, od, I, R, -, -⟩ := H₁.inst hx hd
    obtain ⟨v, e, r⟩ := R.some_ name p hv
    exact get_value H₁.kin I hga (findObj_own hdct hf hng e) (hp _ _ r) (k v g₁ _ L₁ (H₁.toks _) r)) he
theorem HS.ns1 {g : Heap} {s : Shared} (H : HS w os g M s) {i : Nat} {dx : Addr} {fs : List (Str × PV)} (hd : M[i]? = some (dx, .dict fs)) :
    ∃ m, s.heap.Ns1 dx m ∧ (∀ x p, fs.lookup x = some p → ∃ v, m x = some v ∧ Rd g v p) ∧ ∀ x, fs.lookup x = .none → m x = .none := by
  obtain ⟨o, ho, m, es, ep, h1, h2, hu, h3, h4, h5⟩ := H.get hd
  exact ⟨m, ⟨o, es, ep, ho, h1, h2, hu, h3⟩, h4, h5⟩
theorem lookup_none_of {α : Type} {fs : List (Str × α)} {x : Str} (h : x ∉ fs.map (·.1)) : fs.lookup x = .none := by
  induction fs with
  | nil => rfl
  | cons p ps ih =>
    rw [List.map_cons, List.mem_cons, not_or] at h
    obtain ⟨y, q⟩ := p
    rw [List.lookup_cons, beq_eq_false_iff_ne.mpr h.1]
    exact ih h.2
theorem within_of {α : Type} {fs : List (Str × α)} {m : Str → Option Value} (h : ∀ x, fs.lookup x = .none → m x = .none) : Within m (fs.map (·.1)) := fun y hy => by
  exact Classical.byContradiction fun q => hy (h y (lookup_none_of q))
theorem HS.putName {g : Heap} {s : Shared} (H : HS w os g M s) {i : Nat} {dx : Addr} {fs fs' : List (Str × PV)} {name : Str} {p : PV} {v : Value} {A : Around} {Q : Unit → Shared → Prop} (hd : M[i]? = some (dx, .dict fs)) (r : Rd g v p)
    (h1 : ∀ x q, fs'.lookup x = some q → (x = name ∧ q = p) ∨ (x ≠ name ∧ fs.lookup x = some q)) (h2 : ∀ x, fs'.lookup x = .none → x ≠ name ∧ fs.lookup x = .none) (hz : fs'.length ≤ 1000)
    (k : ∀ g' s' o, Le g g' → HS w os g' (setE M i (.dict fs')) s' → s'.heap.get? dx = some o → o.data.pastItsLine = .none → Q () s') : wpAny (model PRG w) A (nsSet dx name v) Q NoE s := by
  obtain ⟨m, hn, hm1, hm2⟩ := H.ns1 hd
  refine wpAny_nsSet1 hn fun h' hn' hs => ?_
  obtain ⟨o, es, ep, ho, e1, e2, e3, e4⟩ := id hn'
  have hm1' : ∀ g', Le g g' → ∀ x q, fs'.lookup x = some q → ∃ u, (if x = name then some v else m x) = some u ∧ Rd g' u q := fun g' L x q e => by
    rcases h1 x q e with ⟨rfl, rfl⟩ | ⟨hne, e⟩
    · exact ⟨v, if_pos rfl, r.mono L⟩
    · obtain ⟨u, e1, r⟩ := hm1 x q e
      exact ⟨u, by rw [if_neg hne]; exact e1, r.mono L⟩
  have hm2' : ∀ x, fs'.lookup x = .none → (if x = name then some v else m x) = .none := fun x e => by
    obtain ⟨hne, e⟩ := h2 x e
    rw [if_neg hne]; exact hm2 x e
  obtain ⟨g', L, H', -⟩ := H.set (i := i) (e := .dict fs') (s' := { s with heap := h', toks := s.toks + 1 }) hd (fun b o e n => (hs.2 b n).trans e)
    (fun g' L _ => ⟨o, ho, _, es, ep, e1, e2, e3, e4, hm1' g' L, hm2'⟩) rfl rfl
  have hc := hn'.count (within_of hm2')
  refine k g' _ o L H' ho ?_
  obtain ⟨o₂, es₂, ep₂, ho₂, hd₂, hc₂⟩ := hc
  rw [ho] at ho₂; cases ho₂
  rw [hd₂]
  refine pastItsLine_dict ?_
  rw [List.length_map] at hc₂
  have := sizeLine_ge (k := 1000) (by decide)
  omega

noncomputable def putF : List (Str × PV) → Str → PV → List (Str × PV)
  | [], x, p => [(x, p)]
  | (y, q) :: r, x, p => if x == y then (y, p) :: r else (y, q) :: putF r x p
theorem putF_some {x : Str} {p : PV} : ∀ {fs : List (Str × PV)} {z : Str} {q : PV}, (putF fs x p).lookup z = some q → (z = x ∧ q = p) ∨ (z ≠ x ∧ fs.lookup z = some q)
  | [], z, q, e => by
    unfold putF at e
    rw [List.lookup_cons] at e
    cases hb : z == x with
    | true => rw [hb] at e; cases e; exact .inl ⟨beq_iff_eq.mp hb, rfl⟩
    | false => rw [hb] at e; cases e
  | (y, u) :: r, z, q, e => by
    unfold putF at e
    cases hxy : x == y with
    | true =>
      rw [hxy, if_pos rfl, List.lookup_cons] at e
      have hxy' := beq_iff_eq.mp hxy
      cases hb : z == y with
      | true => rw [hb] at e; cases e; exact .inl ⟨by rw [hxy']; exact beq_iff_eq.mp hb, rfl⟩
      | false =>
        rw [hb] at e
        refine .inr ⟨by rw [hxy']; exact beq_eq_false_iff_ne.mp hb, ?_⟩
        rw [List.lookup_cons, hb]; exact e
    | false =>
      rw [hxy, if_neg (by decide), List.lookup_cons] at e
      cases hb : z == y with
      | true =>
        rw [hb] at e
        refine .inr ⟨fun q => ?_, by rw [List.lookup_cons, hb]; exact e⟩
        rw [beq_iff_eq.mp hb] at q
        exact beq_eq_false_iff_ne.mp hxy q.symm
      | false =>
        rw [hb] at e
        rcases putF_some e with h | ⟨h1, h2⟩
        · exact .inl h
        · exact .inr ⟨h1, by rw [List.lookup_cons, hb]; exact h2⟩
theorem putF_none {x : Str} {p : PV} : ∀ {fs : List (Str × PV)} {z : Str}, (putF fs x p).lookup z = .none → z ≠ x ∧ fs.lookup z = .none
  | [], z, e => by
    unfold putF at e
    rw [List.lookup_cons] at e
    cases hb : z == x with
    | true => rw [hb] at e; cases e
    | false => exact ⟨beq_eq_false_iff_ne.mp hb, rfl⟩
  | (y, u) :: r, z, e => by
    unfold putF at e
    cases hxy : x == y with
    | true =>
      rw [hxy, if_pos rfl, List.lookup_cons] at e
      cases hb : z == y with
      | true => rw [hb] at e; cases e
      | false =>
        rw [hb] at e
        exact ⟨by rw [beq_iff_eq.mp hxy]; exact beq_eq_false_iff_ne.mp hb, by rw [List.lookup_cons, hb]; exact e⟩
    | false =>
      rw [hxy, if_neg (by decide), List.lookup_cons] at e
      cases hb : z == y with
      | true => rw [hb] at e; cases e
      | false =>
        rw [hb] at e
        obtain ⟨h1, h2⟩ := putF_none e
        exact ⟨h1, by rw [List.lookup_cons, hb]; exact h2⟩
theorem putF_len {x : Str} {p : PV} : ∀ {fs : List (Str × PV)}, (putF fs x p).length ≤ fs.length + 1
  | [] => by simp [putF]
  | (y, u) :: r => by
    unfold putF
    split
    · simp
    · have := putF_len (x := x) (p := p) (fs := r)
      simp only [List.length_cons]; omega

theorem HS.setAttr {g : Heap} {s : Shared} (H : HS w os g M s) {i : Nat} {x C dx : Addr} {fs : List (Str × PV)} {name : Str} {p : PV} {v : Value} {A : Around} {Q : Unit → Shared → Prop}
    (hx : (x, instE C dx) ∈ M) (hd : M[i]? = some (dx, .dict fs)) (r : Rd g v p) (hz : fs.length ≤ 100)
    (hsa : findIn (KF w) (.ref C) "__setattr__" = some (some (.builtin "object.__setattr__"))) (hp : plainOver (KF w) C = true) (hf0 : findIn (KF w) (.ref C) name = some .none) (hh : hasDictIn (KF w) C = true)
    (k : ∀ g' s', Le g g' → HS w os g' (setE M i (.dict (putF fs name p))) s' → Q () s') : wpAny (model PRG w) A (setAttr (.ref x) name v) Q NoE s := by
  obtain ⟨ox, od, I, R, hod, hdx⟩ := H.inst hx (List.mem_of_getElem? hd)
  have H₁ := H.toks (s.toks + 1)
  refine set_plain H.kin I hsa (osa_open (s := { s with toks := s.toks + 1 }) H₁.kin I hp (by unfold takerIn; rw [hf0]; rfl) fun b => ?_)
  obtain ⟨cd, hc, hd'⟩ := any_some hh
  have X := H₁.kin
  obtain ⟨hx, hcl, hn, -⟩ := I
  obtain ⟨oc, odi, oda, osl⟩ := ox
  dsimp only at hcl hod
  subst hcl hod
  refine wpAny_bind (wpAny_pure (wpAny_bind (wpAny_bind (wpAny_loadPart hx (wpAny_bind ((looks_clsIn X hc).here ?_))))))
  rw [hd']
  refine wpAny_pure (a := some dx) (wpAny_bind (wpAny_pure (wpAny_bind (Env.noE ?_))))
  refine H₁.putName hd r (fun _ _ => putF_some) (fun _ => putF_none) (by have := putF_len (x := name) (p := p) (fs := fs); omega) fun g' s' o L H' ho hpl => ?_
  exact wpAny_bind (wpAny_lookBehind ho hpl (wpAny_pure (k g' s' L H')))
theorem ST.setattr {o value : Expr} {name : Str} {apos : Pos} {i : Nat} {x C dx : Addr} {fs : List (Str × PV)} {p : PV} (hv : PE w os n env M value p) (ho : PE w os n env M o (.val (.ref x)))
    (hx : (x, instE C dx) ∈ M) (hd : M[i]? = some (dx, .dict fs)) (hz : fs.length ≤ 100)
    (hsa : findIn (KF w) (.ref C) "__setattr__" = some (some (.builtin "object.__setattr__"))) (hp : plainOver (KF w) C = true) (hf0 : findIn (KF w) (.ref C) name = some .none) (hh : hasDictIn (KF w) C = true)
    (hsw : swapsWith value (some (.Attribute o name apos)) pos.line env = pure false) : ST w os n env M (.Assign [.Attribute o name apos] value pos) (setE M i (.dict (putF fs name p))) := fun A rm g s Q H k =>
  plainObj_wpAny_Assign_Attribute (hv A rm g s _ H fun v g₁ s₁ L₁ H₁ r₁ => ho A rm g₁ s₁ _ H₁ fun ov g₂ s₂ L₂ H₂ r₂ => by
    cases r₂
    exact H₂.setAttr hx hd (r₁.mono L₂) hz hsa hp hf0 hh fun g₃ s₃ L₃ H₃ => k g₃ s₃ (L₁.tr (L₂.tr L₃)) H₃) hsw
theorem ST.augattr {o value : Expr} {op : Operator} {name : Str} {apos : Pos} {i : Nat} {x C dx : Addr} {fs : List (Str × PV)} {a b p : PV} {attr : Option Value} (ho : PE w os n env M o (.val (.ref x))) (hv : PE w os n env M value b)
    (hx : (x, instE C dx) ∈ M) (hd : M[i]? = some (dx, .dict fs)) (hz : fs.length ≤ 100) (ha : fs.lookup name = some a) (hop : OP w os n M (io op) [a, b] p) (hap : ∀ g v, Rd g v a → handedIn v = true)
    (hga : findIn (KF w) (.ref C) "__getattribute__" = some (some (.builtin "object.__getattribute__"))) (hdct : hasDictIn (KF w) C = true) (hf : findIn (KF w) (.ref C) name = some attr) (hng : noGet (KF w) attr = true)
    (hsa : findIn (KF w) (.ref C) "__setattr__" = some (some (.builtin "object.__setattr__"))) (hp : plainOver (KF w) C = true) (hf0 : findIn (KF w) (.ref C) name = some .none) (hh : hasDictIn (KF w) C = true) :
    ST w os n env M (.AugAssign (.Attribute o name apos) op value pos) (setE M i (.dict (putF fs name p))) := fun A rm g s Q H k =>
  wpAny_AugAssign_AttributeAny (ho A rm g s _ H fun v g₁ s₁ L₁ H₁ r₁ => by
    cases r₁
    obtain ⟨ox, od, I, R, -, -⟩ := H₁.inst hx (List.mem_of_getElem? hd)
    obtain ⟨v, e, r⟩ := R.some_ name a ha
    refine get_value H₁.kin I hga (findObj_own hdct hf hng e) (hap _ _ r) ?_
    refine hv A rm g₁ _ _ (H₁.toks _) fun u g₂ s₂ L₂ H₂ r₂ => ?_
    show wpAny (model PRG w) A (io op [v, u]) _ _ _
    refine hop A rm g₂ s₂ _ [v, u] H₂ (.cons (r.mono L₂) (.cons r₂ .nil)) fun z g₃ s₃ L₃ H₃ r₃ => ?_
    exact H₃.setAttr hx hd r₃ hz hsa hp hf0 hh fun g₄ s₄ L₄ H₄ => k g₄ s₄ (L₁.tr (L₂.tr (L₃.tr L₄))) H₄)

theorem PEX.methF {o : Expr} {name : Str} {apos : Pos} {x C dx f : Addr} {fs : List (Str × PV)} {e : Expr} {es : List Expr} {ps : List PV} {r : PV} (ho : PE w os n env M o (.val (.ref x))) (hx : (x, instE C dx) ∈ M) (hd : (dx, Ent.dict fs) ∈ M)
    (ha : PL w os n env M pos (e :: es) ps) (hop : OPM w os n M (cf (.ref f)) (.val (.ref x) :: ps) r M') (hno : fs.lookup name = .none)
    (hga : findIn (KF w) (.ref C) "__getattribute__" = some (some (.builtin "object.__getattribute__"))) (hk : findIn (KF w) (.ref C) "__getattr__" = some .none)
    (hf : findIn (KF w) (.ref C) name = some (some (.ref f))) (ht : typeIn (KF w) (.ref f) = some (.type "function")) (hkp : keepIn (KF w) (.ref f) = true)
    (hs : starEach (e :: es) env = (false, eval e env) :: starEach es env) (hp : (backTo pos (starEach es env)).any (·.1) = false) {pl : Sem Bool}
    (he : eval (.Call (.Attribute o name apos) (e :: es) [] pos) env = (do
      let ov ← eval o env
      standAt apos.atName
      let (f, first) ← holding [ov] (getMethod ov name pl)
      callWith pos f first (backTo pos (starEach (e :: es) env)) [])) :
    PEX w os n env M (.Call (.Attribute o name apos) (e :: es) [] pos) r M' := fun A rm g s Q H k =>
  MethodCall_ (pl := pl) (ho A rm g s _ H fun v g₁ s₁ L₁ H₁ r₁ => by
    cases r₁
    obtain ⟨ox, od, I, R, -, -⟩ := H₁.inst hx hd
    refine method_fn H₁.kin I hga hk hf ht (by unfold shadowIn; dsimp only; rw [R.none_ name hno]; rfl) ?_
    refine callWith_K H₁.bs.k hkp (ha A rm g₁ s₁ _ H₁ fun vs g₂ s₂ L₂ H₂ r₂ => ⟨H₂.kin, ?_⟩) hs hp
    exact hop A rm g₂ s₂ _ (.ref x :: vs) H₂ (.cons (.val _) r₂) fun v g₃ s₃ L₃ H₃ r₃ => k v g₃ s₃ (L₁.tr (L₂.tr L₃)) H₃ r₃) he
theorem PEX.methF0 {o : Expr} {name : Str} {apos : Pos} {x C dx f : Addr} {fs : List (Str × PV)} {r : PV} (ho : PE w os n env M o (.val (.ref x))) (hx : (x, instE C dx) ∈ M) (hd : (dx, Ent.dict fs) ∈ M)
    (hop : OPM w os n M (cf (.ref f)) [.val (.ref x)] r M') (hno : fs.lookup name = .none)
    (hga : findIn (KF w) (.ref C) "__getattribute__" = some (some (.builtin "object.__getattribute__"))) (hk : findIn (KF w) (.ref C) "__getattr__" = some .none)
    (hf : findIn (KF w) (.ref C) name = some (some (.ref f))) (ht : typeIn (KF w) (.ref f) = some (.type "function")) (hkp : keepIn (KF w) (.ref f) = true) {pl : Sem Bool}
    (he : eval (.Call (.Attribute o name apos) [] [] pos) env = (do
      let ov ← eval o env
      standAt apos.atName
      let (f, first) ← holding [ov] (getMethod ov name pl)
      callWith pos f first (backTo pos (starEach [] env)) [])) :
    PEX w os n env M (.Call (.Attribute o name apos) [] [] pos) r M' := fun A rm g s Q H k =>
  MethodCall_ (pl := pl) (ho A rm g s _ H fun v g₁ s₁ L₁ H₁ r₁ => by
    cases r₁
    obtain ⟨ox, od, I, R, -, -⟩ := H₁.inst hx hd
    refine method_fn H₁.kin I hga hk hf ht (by unfold shadowIn; dsimp only; rw [R.none_ name hno]; rfl) ?_
    refine callWith_K0 H₁.kin hkp ?_
    exact hop A rm g₁ s₁ _ [.ref x] H₁ (.cons (.val _) .nil) fun v g₃ s₃ L₃ H₃ r₃ => k v g₃ s₃ (L₁.tr L₃) H₃ r₃) he
end
set_option maxHeartbeats 1000000
section
open PySem.Builtin PySem.Builtin.ObjectAttr
namespace Fn
theorem ga : typeLookup (.type "function") "__getattribute__" = pure (some (.builtin "object.__getattribute__")) := by rw [typeLookup_type, builtinLookup_eq_fast]; kernel_rfl
theorem gattr : typeLookup (.type "function") "__getattr__" = pure none := by rw [typeLookup_type, builtinLookup_eq_fast]; kernel_rfl
theorem read : typeLookup (.type "function") "read" = pure none := by rw [typeLookup_type, builtinLookup_eq_fast]; kernel_rfl
theorem sa : typeLookup (.type "function") "__setattr__" = pure (some (.builtin "object.__setattr__")) := by rw [typeLookup_type, builtinLookup_eq_fast]; kernel_rfl
theorem slot_ga : Slot "function" "__getattribute__" "object.__getattribute__" :=
  .of (owner := "object") (n := "__getattribute__") ga (by decide +kernel) (by decide +kernel) (by decide +kernel)
    (by first | exact .inl (by decide +kernel) | exact .inr (by decide +kernel)) (by rw [isSubtype_type]; kernel_rfl)
theorem entry_ga : entryFor table "object.__getattribute__" = some Builtin.«object.__getattribute__» := entryFor_of_tree (by kernel_rfl)
theorem args_ga (a b : Value) : argsOk "object.__getattribute__" ⟨[a, b], []⟩ := by unfold argsOk; kernel_rfl
theorem slot_sa : Slot "function" "__setattr__" "object.__setattr__" :=
  .of (owner := "object") (n := "__setattr__") sa (by decide +kernel) (by decide +kernel) (by decide +kernel)
    (by first | exact .inl (by decide +kernel) | exact .inr (by decide +kernel)) (by rw [isSubtype_type]; kernel_rfl)
theorem mro : mroOf (.type "function") = pure [.type "function", .type "object"] := by kernel_rfl
theorem passFn (self : Value) : refuseLoop self "__setattr__" [.type "function", .type "object"] = pure () := by kernel_rfl
theorem hasD : typeHasDict (.type "function") = true := by decide +kernel
theorem finA : finalisedInACycleAlone "function" = false := by decide +kernel
end Fn
section
variable {prog : Program} {w : World} {A : Around} {E : Value → Shared → Prop} {h : Heap} {g : Array GenState} {d : Drawn} {t : Nat} {os : OsState} {T dT : Addr} {md : Str → Option Value} {fd : FuncData} {sl : Array (Option Value)}
theorem fn_entry {name : Str} {tk : Tok} {v : Value} {Q : Fin → Shared → Prop} (hM : h.get? T = some { cls := .type "function", dict := some dT, data := .func fd, slots := sl }) {od : Obj} (hdx : h.get? dT = some od) (hlk : nsLook name od = pure (some v)) (hnm : typeLookup (.type "function") name = pure none)
    (hq : Q (.done (.ret v)) ⟨h, g, d, t, os⟩) : wpAny (model prog w) A (Builtin.«object.__getattribute__» ⟨[.ref T, .str name tk], []⟩) Q E ⟨h, g, d, t, os⟩ := by
  have hT : (⟨h, g, d, t, os⟩ : Shared).TypeIs (.ref T) "function" := ⟨_, hM, rfl⟩
  repeat (any_goals (first | assumption | with_reducible apply wpAny_nsGet_known | with_reducible apply wpAny_loadPart_known | wp_step))
theorem fn_getMethod {name : Str} {v : Value} {pl : Sem Bool} {Q : Value × List Value → Shared → Prop} (hM : h.get? T = some { cls := .type "function", dict := some dT, data := .func fd, slots := sl }) {od : Obj} (hdx : h.get? dT = some od) (hlk : nsLook name od = pure (some v)) (hnm : typeLookup (.type "function") name = pure none)
    (hh : handedOut v = pure v) (hq : Q (v, []) ⟨h, g, d, t + 1, os⟩) : wpAny (model prog w) A (getMethod (.ref T) name pl) Q E ⟨h, g, d, t, os⟩ := by
  have hT : (⟨h, g, d, t, os⟩ : Shared).TypeIs (.ref T) "function" := ⟨_, hM, rfl⟩
  have hT1 : (⟨h, g, d, t + 1, os⟩ : Shared).TypeIs (.ref T) "function" := ⟨_, hM, rfl⟩
  have f4 := Fn.slot_ga.bind (.ref T)
  have L0 : Looks (model prog w) h (typeOf (.ref T)) (.type "function") := (Looks.ld hM).andThen .now
  have key : wpAny (model prog w) A (getAttr (.ref T) name) (fun v s' => Q (v, []) s') E ⟨h, g, d, t, os⟩ := by
    unfold getAttr getAttrBy
    refine wpAny_bind (wpAny_mkText (wpAny_holding (wpAny_bind (L0.at (wpAny_bind ((Looks.of_pure Fn.ga).at ?_))))))
    show wpAny _ _ (getAttrByItsOwn _ _ _ _ _ _) _ _ _
    unfold getAttrByItsOwn
    refine wpAny_bind (wpAny_pure (wpAny_bind (wpAny_attempt (wpAny_holding ?_))))
    show wpAny _ _ (boundAndCalled _ _ _) _ _ _
    unfold boundAndCalled
    rw [f4]
    refine wpAny_bind (wpAny_pure (wpAny_call (codeAny_call_builtin Fn.slot_ga.plain Fn.entry_ga (Fn.slot_ga.check _ _ _ _ _ _ _ _ hT1 (Fn.args_ga _ _) (fn_entry hM hdx hlk hnm ?_)))))
    show wpAny _ _ (handedOut v) _ _ _
    rw [hh]; exact wpAny_pure hq
  unfold getMethod specialOf
  refine wpAny_bind (wpAny_bind (L0.at ((Looks.of_pure Fn.ga).at ?_)))
  dsimp only
  rw [PySem.F.canon_object_ga, if_neg (by decide)]
  refine wpAny_bind (wpAny_bind (L0.at ((Looks.of_pure Fn.gattr).at ?_)))
  refine wpAny_bind (wpAny_bind (L0.at ((Looks.of_pure hnm).at ?_)))
  exact wpAny_bind (wpAny_mono key (fun _ _ z => wpAny_pure z) fun _ _ z => z)
end
section
variable {w : World} {os : Ext} {n : Nat} {env : Env} {M M' : Led} {pos : Pos}
noncomputable abbrev fnObj (dd : Option Addr) (fd : FuncData) : Obj := { cls := .type "function", dict := dd, data := .func fd }
noncomputable def fnE (dd : Option Addr) (fd : FuncData) : Ent := .is fun o => o = fnObj dd fd
theorem fn_setAttr {g : Heap} {s : Shared} {T : Addr} {fd : FuncData} {name : Str} {v : Value} {p : PV} {A : Around} {Q : Unit → Shared → Prop} (H : HS w os g ((T, fnE .none fd) :: M) s) (r : Rd g v p) (hnm : typeLookup (.type "function") name = pure none)
    (k : ∀ dT g' s', Le g g' → HS w os g' ((dT, .dict [(name, p)]) :: (T, fnE (some dT) fd) :: M) s' → Q () s') : wpAny (model PRG w) A (setAttr (.ref T) name v) Q NoE s := by
  obtain ⟨o, hT, rfl⟩ := H.at_ _ (.head _)
  have L0 : ∀ {h : Heap} {o : Obj}, h.get? T = some o → o.cls = .type "function" → Looks (model PRG w) h (typeOf (.ref T)) (.type "function") := fun ho hc => hc ▸ (Looks.ld ho).andThen .now
  refine wpAny_bind (wpAny_mkText (wpAny_bind (wpAny_bind (wpAny_bind ((L0 hT rfl).at ((Looks.of_pure Fn.sa).at (wpAny_holding ?_)))))))
  rw [PySem.F.store_object.slot.bind]
  refine wpAny_bind (wpAny_pure (wpAny_bind (wpAny_call ?_)))
  have hT1 : ∀ {gg dd tt oo}, (⟨s.heap, gg, dd, tt, oo⟩ : Shared).TypeIs (.ref T) "function" := ⟨_, hT, rfl⟩
  refine codeAny_call_builtin Fn.slot_sa.plain PySem.F.store_object.entry (Fn.slot_sa.check _ _ _ _ _ _ _ _ hT1 (PySem.F.store_object.args _ _ _) ?_)
  rw [List.cons_append, List.nil_append, osa_eq, refuse_eq]
  refine wpAny_bind (wpAny_bind ((L0 hT rfl).at (wpAny_bind ((Looks.of_pure Fn.mro).at ?_))))
  rw [Fn.passFn]
  refine wpAny_pure (wpAny_bind ((L0 hT rfl).at (wpAny_bind ((Looks.of_pure hnm).at (wpAny_bind (wpAny_pure ?_))))))
  show wpAny _ _ (storeInOwnDict _ _ _ _ _ _) _ _ _
  unfold storeInOwnDict
  refine wpAny_bind (wpAny_pure ?_)
  refine wpAny_bind ?_
  show wpAny _ _ (instanceDict T true) _ _ _
  unfold instanceDict
  refine wpAny_bind (wpAny_loadPart hT ?_)
  dsimp only
  rw [Fn.hasD]
  refine wpAny_bind (wpAny_alloc (wpAny_bind (wpAny_update (Heap.get?_push_of_some _ hT) ?_)))
  unfold dictMade
  dsimp only
  rw [Fn.finA]
  have hTd : T < s.heap.objs.size := Heap.lt_size hT
  obtain ⟨g₁, L₁, H₁, -⟩ := H.to (M' := (s.heap.objs.size, .dict []) :: (T, fnE (some s.heap.objs.size) fd) :: M)
    (s' := { s with heap := (s.heap.push dictObj).update T fun o => { o with dict := some s.heap.objs.size }, toks := s.toks + 1 }) [T]
    (fun b o e hn => ((Heap.SameBut.update (s.heap.push dictObj) T _).2 b (fun q => hn (by rw [q]; exact .head _))).trans (Heap.get?_push_of_some _ e))
    (fun b hb => by rw [List.mem_singleton.mp hb]; exact .head _)
    (fun q hq => by
      rcases List.mem_cons.mp hq with rfl | hq
      · exact .inr (get_none_of_size (Nat.le_refl _))
      · refine .inl ?_
        rcases List.mem_cons.mp hq with rfl | hq
        · exact .head _
        · exact .tail _ (List.mem_map_of_mem hq))
    (by
      refine List.nodup_cons.mpr ⟨?_, H.nd⟩
      exact H.fresh)
    (fun g' Lg _ q hq => by
      rcases List.mem_cons.mp hq with rfl | hq
      · refine ⟨dictObj, ((Heap.SameBut.update (s.heap.push dictObj) T _).2 _ (Nat.ne_of_gt hTd)).trans (Heap.get?_push_size _ rfl), fun _ => .none, #[], 0, rfl, (fun _ h => by simp at h), List.Pairwise.nil, (fun _ => rfl), (fun x p e => by cases e), fun _ _ => rfl⟩
      rcases List.mem_cons.mp hq with rfl | hq
      · exact ⟨_, Heap.get?_update_self _ (Heap.get?_push_of_some _ hT) rfl, rfl⟩
      · obtain ⟨o, ho, r⟩ := H.at_ q (.tail _ hq)
        refine ⟨o, ((Heap.SameBut.update (s.heap.push dictObj) T _).2 _ (fun e => ?_)).trans (Heap.get?_push_of_some _ ho), r.mono Lg⟩
        exact (List.nodup_cons.mp H.nd).1 (by show T ∈ _; rw [← e]; exact List.mem_map_of_mem (f := (·.1)) hq)) rfl rfl
  refine wpAny_pure (a := some s.heap.objs.size) ?_
  refine wpAny_bind (wpAny_pure (wpAny_bind (Env.noE ?_)))
  refine H₁.putName (i := 0) (fs' := [(name, p)]) rfl (r.mono L₁) ?_ ?_ (by simp) fun g₂ s₂ o L₂ H₂ ho hpl => ?_
  · intro x q e
    rw [List.lookup_cons] at e
    cases hb : x == name with
    | true => rw [hb] at e; cases e; exact .inl ⟨beq_iff_eq.mp hb, rfl⟩
    | false => rw [hb] at e; cases e
  · intro x e
    rw [List.lookup_cons] at e
    cases hb : x == name with
    | true => rw [hb] at e; cases e
    | false => exact ⟨beq_eq_false_iff_ne.mp hb, rfl⟩
  · exact wpAny_bind (wpAny_lookBehind ho hpl (wpAny_pure (wpAny_pure (wpAny_pure (k _ g₂ s₂ (L₁.tr L₂) H₂)))))
end
end
set_option maxHeartbeats 1000000
section
variable {w : World} {os : Ext} {n : Nat} {env : Env} {M M' : Led} {pos : Pos}

theorem pop0_arr (y : Value) (l : List Value) : (y :: l).toArray.eraseIdxIfInBounds 0 = l.toArray := by
  have := kl_erase [] l y
  simpa using this
theorem mapSeq_pop0 (y : Value) (ys : List Value) (m : Nat) : Obj.mapSeq (fun xs => xs.eraseIdxIfInBounds 0) (listOf (y :: ys).toArray m) = listOf ys.toArray (m + 1) := by
  have e : ((y :: ys).toArray.eraseIdxIfInBounds 0) = ys.toArray := pop0_arr y ys
  have e2 : (ys.toArray.size == (y :: ys).toArray.size) = false := by simp
  show ({ cls := _, dict := _, data := Data.seq ((y :: ys).toArray.eraseIdxIfInBounds 0) (if (((y :: ys).toArray.eraseIdxIfInBounds 0).size == (y :: ys).toArray.size) = true then m else m + 1), slots := _ } : Obj) = _
  rw [e, e2]
  rfl
theorem OPM.pop0 {i : Nat} {D : Addr} {l : List PV} {p : PV} (hi : M[i]? = some (D, .list (p :: l))) (hz : l.length ≤ 10000) : OPM w os n M (cf (.builtin "list.pop")) [.val (.ref D), .int 0] p (setE M i (.list l)) := fun A rm g s Q vs H r k => by
  cases r with | cons r₁ r => cases r with | cons r₂ r =>
  cases r; cases r₁; cases r₂ with | int _ u =>
  obtain ⟨o, ho, us, m, rfl, hr⟩ := H.get hi
  cases hr with | @cons y ys _ _ ry hr =>
  have hlen := hr.length
  refine call_meets PySem.F.slot_list_pop ⟨_, ho, rfl⟩ PySem.F.entry_list_pop (PySem.F.args_list_pop_2 _ _) (PySem.MeetsSeq.list_pop_at D _ m 0 u 0 y (by rfl) (by simp [seqIndex?]) (by simp) (sizeLine_ge (by simp; omega +splitNatSub))) ⟨ho, ?_⟩
  obtain ⟨g', L, H', -⟩ := H.set (i := i) (a := D) (e := .list l) (s' := { s with heap := s.heap.update D (Obj.mapSeq fun xs => xs.eraseIdxIfInBounds 0) }) hi (fun b o e n => ((Heap.SameBut.update ..).2 b n).trans e)
    (fun g' L _ => ⟨_, Heap.get?_update_self _ ho rfl, ys, _, by
      exact mapSeq_pop0 y ys m, hr.mono L⟩) rfl rfl
  exact k y g' _ L H' (ry.mono L)
theorem PT.list {e : Expr} {p : PV} {ps : List PV} (h : PE w os n env M e p) (hv : LV w os M p ps) (hz : ps.length ≤ 100000) (he : ∀ whole, isTrue e env whole = do let v ← whole; standAt e.pos; holding [v] (truthy v)) : PT w os n env M e (!ps.isEmpty) :=
  fun A rm g s _ H k => wpAny_isTrue_value (h A rm g s _ H fun v g₁ s₁ L₁ H₁ r₁ => by
    obtain ⟨a, vs, rfl, hl, r⟩ := hv g₁ s₁ v H₁ r₁
    have hlen := r.length
    refine wpAny_truthy_list hl.isList (by simp; omega +splitNatSub) ?_
    have : (!vs.toArray.isEmpty) = (!ps.isEmpty) := by
      cases vs with
      | nil => cases ps with
        | nil => rfl
        | cons => cases hlen
      | cons => cases ps with
        | nil => cases hlen
        | cons => simp
    rw [this]
    exact k g₁ _ L₁ (H₁.toks _)) (he _)
theorem X.retX {e : Expr} {p : PV} {p' : Pos} {rest : List Stmt} {A : Around} {g : Heap} {s : Shared} {Q : Flow → Shared → Prop} (he : PEX w os n env M e p M') (rm : Rm A n) (H : HS w os g M s)
    (k : ∀ v g' s', Le g g' → HS w os g' M' s' → Rd g' v p → Q (.ret v) s') : wpAny (model PRG w) A (execs (.Return (some e) p' :: rest) env) Q NoE s :=
  wpAny_execs_cons (wpAny_Return_some (he A rm g s _ H k))
theorem ST.assignX {x : Str} {px : Pos} {e : Expr} {p : PV} {M₁ : Led} (he : PEX w os n env M e p M₁) (hs : SN w os env M₁ x p M') (hsw : swapsWith e (some (.Name x px)) pos.line env = pure false) :
    ST w os n env M (.Assign [.Name x px] e pos) M' := fun A rm g s Q H k =>
  wpAny_Assign_Name (he A rm g s _ H fun v g₁ s₁ L₁ H₁ r₁ => hs A g₁ s₁ _ v H₁ r₁ fun g₂ s₂ L₂ H₂ => k g₂ s₂ (L₁.tr L₂) H₂) hsw

theorem OPM.under {t : List Value → Sem Value} {ps : List PV} {r : PV} {D D' : Led} (h : ∀ N : Led, OPM w os n (D ++ N) t ps r (D' ++ N)) (B N : Led) : OPM w os n (B ++ (D ++ N)) t ps r (B ++ (D' ++ N)) := fun A rm g s Q vs H rr k => by
  have hp : ∀ E : Led, (B ++ (E ++ N)).Perm (E ++ (B ++ N)) := fun E => by
    rw [← List.append_assoc, ← List.append_assoc]
    exact List.Perm.append_right _ List.perm_append_comm
  exact h (B ++ N) A rm g s Q vs (H.perm (hp D)) rr fun v g' s' L H' r' => k v g' s' L (H'.perm (hp D').symm) r'
end
set_option maxHeartbeats 1000000
section
open PySem.Builtin
namespace Ci
theorem slot_iter : Slot "callable_iterator" "__iter__" "callable_iterator.__iter__" :=
  .of (owner := "callable_iterator") (n := "__iter__") (by rw [typeLookup_type, builtinLookup_eq_fast]; kernel_rfl) (by decide +kernel) (by decide +kernel) (by decide +kernel)
    (by first | exact .inl (by decide +kernel) | exact .inr (by decide +kernel)) (by rw [isSubtype_type]; kernel_rfl)
theorem slot_next : Slot "callable_iterator" "__next__" "callable_iterator.__next__" :=
  .of (owner := "callable_iterator") (n := "__next__") (by rw [typeLookup_type, builtinLookup_eq_fast]; kernel_rfl) (by decide +kernel) (by decide +kernel) (by decide +kernel)
    (by first | exact .inl (by decide +kernel) | exact .inr (by decide +kernel)) (by rw [isSubtype_type]; kernel_rfl)
theorem entry_next : entryFor table "callable_iterator.__next__" = some Builtin.«callable_iterator.__next__» := entryFor_of_tree (by kernel_rfl)
theorem entry_iter : entryFor table "callable_iterator.__iter__" = some Builtin.«dict_keyiterator.__iter__» :=
  entryFor_alias (id' := "dict_keyiterator.__iter__") (by kernel_rfl) rfl (by decide +kernel) (by kernel_rfl)
theorem args_iter (a : Value) : argsOk "callable_iterator.__iter__" ⟨[a], []⟩ := by unfold argsOk; kernel_rfl
theorem args_next (a : Value) : argsOk "callable_iterator.__next__" ⟨[a], []⟩ := by unfold argsOk; kernel_rfl
theorem kind : builtinKind "iter" = none := by decide +kernel
theorem plain : plainId "iter" = true := by decide +kernel
theorem entry : entryFor table "iter" = some Builtin.«iter» := entryFor_of_tree (by kernel_rfl)
theorem args2 (a b : Value) : argsOk "iter" ⟨[a, b], []⟩ := by unfold argsOk; kernel_rfl
theorem meth_call : typeLookup (.type "method") "__call__" = pure (some (.builtin "method.__call__")) := by rw [typeLookup_type, builtinLookup_eq_fast]; kernel_rfl
theorem next_none : True := trivial
end Ci
noncomputable def citE (q : Addr) : Ent := .is fun o => ∃ t, o = { cls := .type "callable_iterator", data := .fields #[.ref q, .str ⟨#[]⟩ t, .bool false] }
noncomputable def citX : Ent := .is fun o => o = { cls := .type "callable_iterator", data := .fields #[.none, .none, .bool true] }
section
variable {w : World} {os : Ext} {n : Nat} {env : Env} {M M' : Led} {pos : Pos}
theorem boundNew {o : Expr} {name : Str} {x C dx f : Addr} {fs : List (Str × PV)} (ho : PE w os n env M o (.val (.ref x))) (hx : (x, instE C dx) ∈ M) (hd : (dx, Ent.dict fs) ∈ M) (hno : fs.lookup name = .none)
    (hga : findIn (KF w) (.ref C) "__getattribute__" = some (some (.builtin "object.__getattribute__"))) (hk : findIn (KF w) (.ref C) "__getattr__" = some .none) (hh : hasDictIn (KF w) C = true)
    (hf : findIn (KF w) (.ref C) name = some (some (.ref f))) (ht : typeIn (KF w) (.ref f) = some (.type "function")) (hgf : specialIn (KF w) (.ref f) "__get__" = some (some (.builtin "function.__get__"))) (htk : takesIn (KF w) (.ref f) = some false)
    (hc : copiedNames.contains name = false)
    (he : eval (o.Attribute name pos) env = (do
        let ov ← eval o env
        standAt pos.atName
        let r ← holding [ov] (getAttr ov name true)
        letTemporaryGo o ov r
        pure r))
    {A : Around} (rm : Rm A n) {g : Heap} {s : Shared} {Q : Value → Shared → Prop} (H : HS w os g M s)
    (k : ∀ q g' s', Le g g' → HS w os g' M s' → g'.get? q = some (methodObj (.ref f) (.ref x)) → Q (.ref q) s') : wpAny (model PRG w) A (eval (.Attribute o name pos) env) Q NoE s :=
  Attribute_any_ (ho A rm g s _ H fun v g₁ s₁ L₁ H₁ r₁ => by
    cases r₁
    obtain ⟨ox, od, I, R, -, -⟩ := H₁.inst hx hd
    refine get_bind H₁.kin I hga (findObj_fn hh hf hgf htk hc (R.none_ name hno)) hk (wpAny_call (fn_get (s := { s₁ with toks := s₁.toks + 1 }) (H₁.toks (s₁.toks + 1)).kin ht ?_))
    obtain ⟨g₂, L₂, H₂, G₂⟩ := H₁.push (methodObj (.ref f) (.ref x)) rfl (s₁.toks + 1)
    show wpAny _ _ (handedOut _) _ _ _
    exact wpAny_pure (k _ g₂ _ (L₁.tr L₂) H₂ G₂)) he
theorem iter2 {q : Addr} {t : Tok} {f x : Addr} {A : Around} {g : Heap} {s : Shared} {Q : Value → Shared → Prop} (H : HS w os g M s) (hq : g.get? q = some (methodObj (.ref f) (.ref x)))
    (k : ∀ F g' s', Le g g' → HS w os g' ((F, citE q) :: M) s' → Q (.ref F) s') : wpAny (model PRG w) A (call (.builtin "iter") [.ref q, .str ⟨#[]⟩ t]) Q NoE s := by
  refine call_function_entry Ci.kind Ci.plain Ci.entry (Ci.args2 _ _) ?_
  unfold Builtin.«iter»
  refine wpAny_bind (m := someArgs "iter" 1 2 _) (wpAny_pure ?_)
  dsimp only
  have hq' := H.keep _ _ hq
  refine wpAny_bind (wpAny_specialOf (T := "method") ⟨_, hq', rfl⟩ Ci.meth_call ?_)
  refine wpAny_bind (wpAny_rule (wpAny_bind ?_))
  simp only [newFields]
  refine wpAny_newObj_type ?_ (by size_fits)
  obtain ⟨g', L', H'⟩ := pushEnt (e := citE q) (tk := s.toks) H { cls := .type "callable_iterator", data := .fields #[.ref q, .str ⟨#[]⟩ t, .bool false] } rfl fun _ _ => ⟨t, rfl⟩
  exact wpAny_pure ⟨_, rfl, k _ g' _ L' H'⟩

noncomputable def OPC (w : World) (os : Ext) (n : Nat) (M : Led) (f : Value) (ps : List PV) (r : PV) (M' : Led) : Prop :=
  ∀ (A : Around), Rm A n → ∀ (g : Heap) (s : Shared) (R : Result → Shared → Prop) (vs : List Value), HS w os g M s → RdL g vs ps →
    (∀ v g' s', Le g g' → HS w os g' M' s' → Rd g' v r → R (.ok (.ret v)) s') → codeAny (model PRG w) A (.call f ⟨vs, []⟩) R s
theorem OPC.m {f : Value} {ps : List PV} {r : PV} (h : OPC w os n M f ps r M') : OPM w os n M (cf f) ps r M' := fun A rm g s Q vs H rr k => wpAny_call (h A rm g s _ vs H rr fun v g' s' L H' r' => k v g' s' L H' r')
theorem OPC.under {f : Value} {ps : List PV} {r : PV} {D D' : Led} (h : ∀ N : Led, OPC w os n (D ++ N) f ps r (D' ++ N)) (B N : Led) : OPC w os n (B ++ (D ++ N)) f ps r (B ++ (D' ++ N)) := fun A rm g s Q vs H rr k => by
  have hp : ∀ E : Led, (B ++ (E ++ N)).Perm (E ++ (B ++ N)) := fun E => by
    rw [← List.append_assoc, ← List.append_assoc]
    exact List.Perm.append_right _ List.perm_append_comm
  exact h (B ++ N) A rm g s Q vs (H.perm (hp D)) rr fun v g' s' L H' r' => k v g' s' L (H'.perm (hp D').symm) r'
theorem wpAny_borrowed {Mo : Model} {A : Around} {E : Value → Shared → Prop} {s : Shared} {f : Value} {vs : List Value} {Q : Value → Shared → Prop}
    (hc : codeAny Mo A (.call f ⟨vs, []⟩) (fun r s' => match r with | .ok (.ret v) => Q v s' | .ok _ => False | .error e => E e s') s) : wpAny Mo A (callBorrowed f vs) Q E s := fun Γ p hΓ => by
  have h := hc _ p rfl (hΓ.enter (.call f ⟨vs, []⟩) none p (by intro x; cases x))
  show wpCode Mo (Γ.enter _ none p) (fun r s' => Sem.wp Mo Γ _ _ _ p s') p s
  refine (congrArg (fun F => wpCode Mo (Γ.enter (.call f ⟨vs, []⟩) none p) F p s) (funext fun r => funext fun s' => ?_)).mp h
  cases r with
  | error e => rfl
  | ok f => cases f <;> rfl
theorem cit_again {F q : Addr} {A : Around} {g : Heap} {s : Shared} {Q : Value → Shared → Prop} (H : HS w os g M s) (hF : (F, citE q) ∈ M) (hq : Q (.ref F) s) : wpAny (model PRG w) A (pyIter (.ref F)) Q NoE s := by
  obtain ⟨o, ho, t, rfl⟩ := H.at_ _ hF
  have hT : s.TypeIs (.ref F) "callable_iterator" := ⟨_, ho, rfl⟩
  refine wpAny_pyIter_slot hT Ci.slot_iter (wpAny_call_entry Ci.slot_iter hT Ci.entry_iter ?_ (Ci.args_iter _))
  show wpAny _ _ (ret (.ref F)) _ _ s
  exact wpAny_pure ⟨_, rfl, "callable_iterator", _, hT, Ci.slot_next.lookup, hq⟩
set_option maxHeartbeats 1000000 in
theorem cit_next {F q f x : Addr} {i : Nat} {y : Str} {A : Around} (rm : Rm A (n + 1)) {g : Heap} {s : Shared} {Q : Option Value → Shared → Prop} (H : HS w os g M s) (hi : M[i]? = some (F, citE q)) (hi' : M'[i]? = some (F, citE q)) (hq : g.get? q = some (methodObj (.ref f) (.ref x)))
    (hff : ∃ o fd, (KF w).lookup f = some o ∧ o.data = .func fd) (hop : OPC w os n M (.ref f) [.val (.ref x)] (.str y) M')
    (item : y ≠ ⟨#[]⟩ → ∀ v g' s', Le g g' → HS w os g' M' s' → Rd g' v (.str y) → Q (some v) s') (stop : y = ⟨#[]⟩ → ∀ g' s', Le g g' → HS w os g' (setE M' i citX) s' → Q .none s') :
    wpAny (model PRG w) A (pyNext (.ref F)) Q NoE s := by
  obtain ⟨o, ho, t, rfl⟩ := H.get hi
  have hT : s.TypeIs (.ref F) "callable_iterator" := ⟨_, ho, rfl⟩
  have hq' := H.keep _ _ hq
  obtain ⟨of, fd, hf1, hf2⟩ := hff
  have hf' := H.kin _ _ hf1
  unfold pyNext
  refine wpAny_bind (wpAny_attempt (wpAny_callSpecial?_slot (name := Str.ofString "__next__") hT Ci.slot_next (wpAny_call_entry Ci.slot_next hT Ci.entry_next ?_ (Ci.args_next _))))
  show wpAny _ A.in1 (Builtin.«callable_iterator.__next__» ⟨[.ref F], []⟩) _ _ s
  unfold Builtin.«callable_iterator.__next__»
  refine wpAny_bind (m := slotArgs "__next__" 0 _) (wpAny_pure ?_)
  dsimp only
  refine wpAny_bind (wpAny_field ho rfl (x := .bool false) rfl ?_)
  rw [if_neg (by decide)]
  refine wpAny_bind (wpAny_field ho rfl (x := .ref q) rfl ?_)
  refine wpAny_bind (wpAny_attempt ?_)
  unfold callOutOfASlot
  have hb : Looks (model PRG w) s.heap (borrowsExactly (.ref q)) true := by
    unfold borrowsExactly
    refine (Looks.ld hq').andThen ?_
    show Looks _ _ (do match (← load f).data with | .func _ => pure true | _ => pure false) true
    refine (Looks.ld hf').andThen ?_
    rw [hf2]; exact .now
  refine wpAny_bind (hb.at ?_)
  rw [if_pos rfl]
  refine wpAny_borrowed (PySem.W.method_call hq' (hop A.in1 rm.in1 g s _ [.ref x] H (.cons (.val _) .nil) fun v g₁ s₁ L₁ H₁ r₁ => ?_))
  cases r₁ with | str _ t₁ =>
  obtain ⟨o₁, ho₁, t', rfl⟩ := H₁.get hi'
  dsimp only
  refine wpAny_bind (wpAny_field ho₁ rfl (x := .bool false) rfl ?_)
  rw [if_neg (by decide)]
  refine wpAny_bind (wpAny_field ho₁ rfl (x := .str ⟨#[]⟩ t') rfl (wpAny_bind (wpAny_holding (PyProof.Rows.eqBool_str ?_))))
  by_cases hy : y = ⟨#[]⟩
  · subst hy
    rw [beq_self_eq_true, if_neg (by decide)]
    refine wpAny_bind (wpAny_rule (wpAny_bind (wpAny_bind (wpAny_field ho₁ rfl (x := .ref q) rfl (wpAny_bind ?_)))))
    have hb₁ : Looks (model PRG w) s₁.heap (borrowsExactly (.ref q)) true := by
      have hq₁ := H₁.keep _ _ (L₁ _ _ hq)
      have hf₁ := H₁.kin _ _ hf1
      unfold borrowsExactly
      refine (Looks.ld hq₁).andThen ?_
      show Looks _ _ (do match (← load f).data with | .func _ => pure true | _ => pure false) true
      refine (Looks.ld hf₁).andThen ?_
      rw [hf2]; exact .now
    unfold slotLetsGo
    refine wpAny_bind (hb₁.at ?_)
    rw [if_pos rfl]
    have e1 := Heap.get?_update_self (h := s₁.heap) (Obj.mapFields fun z => z.setIfInBounds 0 Value.none) ho₁ rfl
    have e2 := Heap.get?_update_self (Obj.mapFields fun z => z.setIfInBounds 1 Value.none) e1 rfl
    have e3 := Heap.get?_update_self (Obj.mapFields fun z => z.setIfInBounds 2 (Value.bool true)) e2 rfl
    refine wpAny_pure (wpAny_bind (wpAny_setField ho₁ rfl (by simp) (wpAny_bind (wpAny_setField e1 rfl (by simp) (wpAny_setField e2 rfl (by simp) ?_)))))
    obtain ⟨g₂, L₂, H₂, -⟩ := H₁.set (i := i) (a := F) (e := citX) (s' := { s₁ with heap := ((s₁.heap.update F (Obj.mapFields fun z => z.setIfInBounds 0 Value.none)).update F (Obj.mapFields fun z => z.setIfInBounds 1 Value.none)).update F (Obj.mapFields fun z => z.setIfInBounds 2 (Value.bool true)) }) hi'
      (fun b o e n => ((Heap.SameBut.update ..).2 b n).trans (((Heap.SameBut.update ..).2 b n).trans (((Heap.SameBut.update ..).2 b n).trans e)))
      (fun g' L _ => ⟨_, e3, rfl⟩) rfl rfl
    generalize (((s₁.heap.update F (Obj.mapFields fun z => z.setIfInBounds 0 Value.none)).update F (Obj.mapFields fun z => z.setIfInBounds 1 Value.none)).update F (Obj.mapFields fun z => z.setIfInBounds 2 (Value.bool true))) = h₂ at H₂ ⊢
    have fin : ∀ h', Le h₂ h' → Q .none { s₁ with heap := h' } := fun h' hk => by
      obtain ⟨g₃, L₃, H₃⟩ := H₂.grow' (s' := { s₁ with heap := h' }) hk rfl rfl
      exact stop rfl g₃ _ (L₁.tr (L₂.tr L₃)) H₃
    show wpAny _ _ (newExc (.type "StopIteration") [] >>= _) _ _ _
    refine wpAny_bind ?_
    simp only [newExc, newTuple]
    refine wpAny_bind (wpAny_newObj_type ?_ (by size_fits))
    refine wpAny_bind (m := firstArgMember _ _) (wpAny_of_eq (a := Value.none) (by first | rfl | (simp only [firstArgMember]; rfl)) ?_)
    refine wpAny_newObj_type ?_ (by size_fits)
    simp only [raiseNew]
    refine wpAny_bind (wpAny_bind (wpAny_handled ?_))
    first | rw [show A.in1.handled = none from rm.hd] | rw [rm.hd]
    refine wpAny_pure (wpAny_throw ?_)
    refine wpAny_bind (wpAny_isInstance (T := "StopIteration") (b := true) ⟨_, Heap.get?_push_size _ rfl, rfl⟩ isSubtype_stop ?_)
    exact wpAny_pure (fin _ fun b o hb => Heap.get?_push_of_some _ (Heap.get?_push_of_some _ hb))
  · rw [beq_eq_false_iff_ne.mpr (Ne.symm hy), if_pos (by decide)]
    exact wpAny_pure ⟨_, rfl, wpAny_pure (item hy _ g₁ s₁ L₁ H₁ (.str _ _))⟩
theorem cit_done {F : Addr} {A : Around} (rm : Rm A n) {g : Heap} {s : Shared} {Q : Option Value → Shared → Prop} (H : HS w os g M s) (hF : (F, citX) ∈ M) (stop : ∀ g' s', Le g g' → HS w os g' M s' → Q .none s') :
    wpAny (model PRG w) A (pyNext (.ref F)) Q NoE s := by
  obtain ⟨o, ho, rfl⟩ := H.at_ _ hF
  have hT : s.TypeIs (.ref F) "callable_iterator" := ⟨_, ho, rfl⟩
  have fin : ∀ h', Le s.heap h' → Q .none { s with heap := h' } := fun h' hk => by
    obtain ⟨g₃, L₃, H₃⟩ := H.grow' (s' := { s with heap := h' }) hk rfl rfl
    exact stop g₃ _ L₃ H₃
  unfold pyNext
  refine wpAny_bind (wpAny_attempt (wpAny_callSpecial?_slot (name := Str.ofString "__next__") hT Ci.slot_next (wpAny_call_entry Ci.slot_next hT Ci.entry_next ?_ (Ci.args_next _))))
  show wpAny _ A.in1 (Builtin.«callable_iterator.__next__» ⟨[.ref F], []⟩) _ _ s
  unfold Builtin.«callable_iterator.__next__»
  refine wpAny_bind (m := slotArgs "__next__" 0 _) (wpAny_pure ?_)
  dsimp only
  refine wpAny_bind (wpAny_field ho rfl (x := .bool true) rfl ?_)
  rw [if_pos (by decide)]
  refine wpAny_bind (wpAny_rule (wpAny_bind ?_))
  show wpAny _ _ (newExc (.type "StopIteration") [] >>= _) _ _ _
  refine wpAny_bind ?_
  simp only [newExc, newTuple]
  refine wpAny_bind (wpAny_newObj_type ?_ (by size_fits))
  refine wpAny_bind (m := firstArgMember _ _) (wpAny_of_eq (a := Value.none) (by first | rfl | (simp only [firstArgMember]; rfl)) ?_)
  refine wpAny_newObj_type ?_ (by size_fits)
  simp only [raiseNew]
  refine wpAny_bind (wpAny_bind (wpAny_handled ?_))
  first | rw [show A.in1.handled = none from rm.hd] | rw [rm.hd]
  refine wpAny_pure (wpAny_throw ?_)
  refine wpAny_bind (wpAny_isInstance (T := "StopIteration") (b := true) ⟨_, Heap.get?_push_size _ rfl, rfl⟩ isSubtype_stop ?_)
  exact wpAny_pure (fin _ fun b o hb => Heap.get?_push_of_some _ (Heap.get?_push_of_some _ hb))
end
end
set_option maxHeartbeats 1000000
section
variable {w : World} {os : Ext} {n : Nat} {env : Env} {M M' : Led} {pos : Pos}
theorem tailB {A : Around} {s : Shared} {value slice : Expr} {o i : Value} {T id : String} {Q : Value → Shared → Prop} (hT : s.TypeIs o T)
    (hl : typeLookup (.type T) "__getitem__" = pure (some (.builtin id))) (h : wpAny (model PRG w) A (getItem o i) Q NoE s)
    (hs : subscripted slice false o i = operate [o, i] (getItem o i)) : wpAny (model PRG w) A (subscriptTail value slice o i) Q NoE s := by
  unfold subscriptTail
  refine wpAny_bind ?_
  rw [getitemInPython_of_ne hT.not_modules]
  refine wpAny_bind (wpAny_specialOf hT hl ?_)
  refine wpAny_pure (wpAny_bind ?_)
  rw [hs]
  exact wpAny_operating (wpAny_mono h (fun r s₃ h₃ => wpAny_bind (wpAny_letTemporaryGo (wpAny_pure h₃))) fun _ _ x => x)
theorem PE.itemL {v i : Expr} {p r : PV} {ps : List PV} {j : Nat} (hv : PE w os n env M v p) (hl : LV w os M p ps) (hi : PE w os n env M i (.int j)) (hj : ps[j]? = some r) (hz : ps.length ≤ 100000)
    (hs : ∀ o k, subscripted i false o k = operate [o, k] (getItem o k)) : PE w os n env M (.Subscript v i pos) r := fun A rm g s Q H k =>
  Subscript_ (hv A rm g s _ H fun o g₁ s₁ L₁ H₁ r₁ => hi A rm g₁ s₁ _ H₁ fun iv g₂ s₂ L₂ H₂ r₂ => by
    obtain ⟨a, vs, rfl, hp, rv⟩ := hl g₂ s₂ o H₂ (r₁.mono L₂)
    cases r₂ with | int _ t =>
    obtain ⟨x, hx, rx⟩ := rv.get hj
    have hlt := (List.getElem?_eq_some_iff.mp hj).1
    refine tailB hp.isList.typeIs list_getitem_lookup (getItem_listL hp.isList (by omega) (by omega) (by simpa using hx) ?_) (hs _ _)
    exact k x g₂ s₂ (L₁.tr L₂) H₂ rx)
theorem PE.itemT {v i : Expr} {r : PV} {ps : List PV} {j : Nat} (hv : PE w os n env M v (.tup ps)) (hi : PE w os n env M i (.int j)) (hj : ps[j]? = some r) (hz : ps.length ≤ 100000)
    (hs : ∀ o k, subscripted i false o k = operate [o, k] (getItem o k)) : PE w os n env M (.Subscript v i pos) r := fun A rm g s Q H k =>
  Subscript_ (hv A rm g s _ H fun o g₁ s₁ L₁ H₁ r₁ => hi A rm g₁ s₁ _ H₁ fun iv g₂ s₂ L₂ H₂ r₂ => by
    cases r₁ with | @tup a vs _ ht hr =>
    cases r₂ with | int _ t =>
    obtain ⟨x, hx, rx⟩ := hr.get hj
    have hlt := (List.getElem?_eq_some_iff.mp hj).1
    have hlen := hr.length
    have ht' : IsTup s₂.heap a vs.toArray := isTuple_le (L₂.tr H₂.keep) ht
    refine tailB ht'.typeIs slot_tuple_getitem.lookup (getItem_tuple ht' (by omega) (by omega) (j := j) ?_ (by simpa using hx) ?_) (hs _ _)
    · unfold seqIndex?
      simp
      omega
    · exact k x g₂ s₂ (L₁.tr L₂) H₂ (rx.mono L₂))
end
set_option maxHeartbeats 1000000
section
variable {w : World} {os : Ext} {n : Nat} {env : Env} {M M' : Led} {pos : Pos}
noncomputable def whileF {σ : Type} (tb : σ → Bool) (next : σ → σ) : Nat → σ → σ
  | 0, a => a
  | k + 1, a => if tb a = true then whileF tb next k (next a) else a
theorem X.while {σ : Type} {MI : σ → Led} {tb : σ → Bool} {next : σ → σ} {meas : σ → Nat} {St : σ → Prop} {t : Expr} {body rest : List Stmt} (ht : ∀ a, St a → PT w os n env (MI a) t (tb a))
    (hb : ∀ a, St a → tb a = true → SS w os n env (MI a) body (MI (next a))) (hS : ∀ a, St a → tb a = true → St (next a)) (hm : ∀ a, St a → tb a = true → meas (next a) < meas a)
    {A : Around} (rm : Rm A n) {g : Heap} {s : Shared} {Q : Flow → Shared → Prop} {a : σ} (ha : St a) {kf : Nat} (hkf : meas a ≤ kf) (H : HS w os g (MI a) s)
    (k : ∀ g' s', Le g g' → St (whileF tb next kf a) → HS w os g' (MI (whileF tb next kf a)) s' → wpAny (model PRG w) A (execs rest env) Q NoE s') :
    wpAny (model PRG w) A (execs (.While t body [] pos :: rest) env) Q NoE s := by
  refine wpAny_execs_cons (wpAny_While ?_)
  refine codeAny_whileLoop (fun m s' => ∃ b g' kb, m = meas b ∧ St b ∧ meas b ≤ kb ∧ whileF tb next kb b = whileF tb next kf a ∧ Le g g' ∧ HS w os g' (MI b) s') ?_ (meas a) ⟨a, g, kf, rfl, ha, hkf, rfl, Le.rfl, H⟩
  rintro m s' ⟨b, g', kb, rfl, hb', hkb, hw, L', H'⟩
  refine Env.noE (ht b hb' A rm g' s' _ H' fun g₁ s₁ L₁ H₁ => ?_)
  cases htb : tb b with
  | true =>
    rw [if_pos rfl]
    refine Env.noE (hb b hb' htb A rm g₁ s₁ _ H₁ fun g₂ s₂ L₂ H₂ => ?_)
    have hlt := hm b hb' htb
    obtain ⟨kc, rfl⟩ : ∃ kc, kb = kc + 1 := ⟨kb - 1, by omega⟩
    refine ⟨meas (next b), hlt, next b, g₂, kc, rfl, hS b hb' htb, by omega, ?_, L'.tr (L₁.tr L₂), H₂⟩
    rw [← hw]; show _ = if tb b = true then _ else _
    rw [htb, if_pos rfl]
  | false =>
    rw [if_neg (by decide)]
    refine wpAny_execs_nil ?_
    have e : whileF tb next kb b = b := by
      cases kb with
      | zero => rfl
      | succ kc => show (if tb b = true then _ else _) = _; rw [htb, if_neg (by decide)]
    rw [e] at hw
    subst hw
    exact k g₁ s₁ (L'.tr L₁) hb' H₁
end
set_option maxHeartbeats 1000000
section
variable {w : World} {os : Ext} {n : Nat} {env : Env} {M M' : Led} {pos : Pos}
theorem enterD {fa : Addr} {name qual : Str} {params : Arguments} {body : List Stmt} {scope : Scope} {dV kV doc pm cdv ct oc : Value} {an od : Option Addr} {osl : Array (Option Value)} {g : Heap} {s : Shared} {A : Around}
    {args : Args} {binds : List (Str × Value)} {vars : List (Str × PV)} {R : Result → Shared → Prop}
    (ho : (KF w).lookup fa = some ⟨oc, od, .func (fnOf name qual params body scope dV kV doc pm an cdv ct), osl⟩) (hcd : codeIn (KF w) cdv qual = true)
    (hb : BindsTo s (fnOf name qual params body scope dV kV doc pm an cdv ct) args binds) (hloc : ∀ y ∈ binds, scope.names.lookup y.1 = some .local) (hnc : ∀ z ∈ scope.names, z.2 ≠ .cell)
    (hv : ∀ x p, vars.lookup x = some p → ∃ v, binds.reverse.lookup x = some v ∧ Rd g v p)
    (rm : Rm A (n + 1)) (H : HS w os g M s)
    (k : ∀ (L : Addr) (s' : Shared) (g' : Heap), Rm (A.deeper (envOf qual scope L fa cdv)) n → Le g g' → HS w os g' ((L, .frame vars) :: M) s' →
      wpAny (model PRG w) (A.deeper (envOf qual scope L fa cdv)) (execs body (envOf qual scope L fa cdv)) (fun fl s'' => R (.ok (.ret (match fl with | .ret v => v | _ => .none))) s'') NoE s')
    (hco : scope.isCoroutine = false := by rfl) (hgen : scope.isGenerator = false := by rfl) (hk : scope.kind = .function := by rfl) :
    codeAny (model PRG w) A (.call (.ref fa) args) R s := by
  refine codeAny_call_def (fd := fnOf name qual params body scope dV kV doc pm an cdv ct) (body := body) (binds := binds) (by have := rm.dp; omega +splitNatSub) (H.kin _ _ ho) rfl H.lim (codeRec_of H.kin hcd) rfl hb hnc hloc (fun h₁ hns hk₁ => ?_) hco hgen hk
  obtain ⟨g', L', H', -⟩ := H.new (a := s.heap.objs.size) (e := .frame vars) (s' := { s with heap := h₁, toks := s.toks + binds.length }) (get_none_of_size (Nat.le_refl _)) hk₁
    (fun g' L _ => nsFrame hns fun x p e => by
      obtain ⟨v, e1, r⟩ := hv x p e
      exact ⟨v, e1, r.mono L⟩) rfl rfl
  exact wpAny_mono (k s.heap.objs.size _ g' (rm.deeper _) L' H') (fun _ _ x => x) fun _ _ x => x.elim
theorem PE.callD {f : Str} {np : Pos} {a : Addr} {P : Obj → Prop} (hfn : PE w os n env M (.Name f np) (.val (.ref a))) (hR : (a, Ent.is P) ∈ M) (hP : ∀ o, P o → ∃ fd, o.data = .func fd) {e : Expr} {es : List Expr} {ps : List PV} {r : PV}
    (ha : PL w os n env M pos (e :: es) ps) (hop : OP w os n M (cf (.ref a)) ps r) (hs : starEach (e :: es) env = (false, eval e env) :: starEach es env)
    (hp : (backTo pos (starEach (e :: es) env)).any (·.1) = false) : PE w os n env M (.Call (.Name f np) (e :: es) [] pos) r :=
  fun A rm g s Q H k => wpAny_Call_NameR (hfn A rm g s _ H fun v g₁ s₁ L₁ H₁ r₁ => by
    cases r₁
    refine callWith_of (P := fun h => ∃ o fd, h.get? a = some o ∧ o.data = .func fd) (by rw [hp]; rfl) (fun h ⟨o, fd, h1, h2⟩ => ⟨.frame, .inl rfl, ?_⟩) ?_
    · unfold keeperOf
      refine (Looks.ld h1).andThen ?_
      rw [h2]; exact .now
    · rw [hs]
      refine evalArgs_plain ?_
      have := ha A rm g₁ s₁ (fun vs s' => (∃ o fd, s'.heap.get? a = some o ∧ o.data = .func fd) ∧ wpAny (model PRG w) A (call (.ref a) ([] ++ vs) []) Q NoE s') H₁ fun vs g₂ s₂ L₂ H₂ r₂ =>
        ⟨by
          obtain ⟨o, ho, hPo⟩ := H₂.at_ _ hR
          obtain ⟨fd, hfd⟩ := hP o hPo
          exact ⟨o, fd, ho, hfd⟩, hop A rm g₂ s₂ _ vs H₂ r₂ fun v g₃ s₃ L₃ H₃ r₃ => k v g₃ s₃ (L₁.tr (L₂.tr L₃)) H₃ r₃⟩
      rw [hs] at this
      exact this)
theorem OP.lt_bool {a b : Bool} : OP w os n M (co .Lt) [.bool a, .bool b] (.bool (!a && b)) := fun _ _ g s _ _ H r k => by
  cases r with | cons r₁ r => cases r with | cons r₂ r => cases r; cases r₁; cases r₂; exact PyProof.Rows.lt_bool (by cases a <;> cases b <;> exact k _ g _ Le.rfl H (.bool _))
end
set_option maxHeartbeats 1000000
inductive Site where
  | start
  | mid (i : Nat) (esc : Bool) (pos : Nat)
  | fin
noncomputable def tr : List Nat → Nat → Bool → Nat → List ((Nat × List Nat) × Site)
  | [], _, esc, pos => if esc then [((pos, [92]), .fin)] else []
  | c :: cs, i, true, _ => ((i, [92, c]), .mid (i + 1) true i) :: tr cs (i + 1) false i
  | c :: cs, i, false, _ => if c = 92 then tr cs (i + 1) true i else ((i, [c]), .mid (i + 1) false i) :: tr cs (i + 1) false i
noncomputable def itemPV (p : Nat × List Nat) : PV := .tup [.int p.1, .str ⟨p.2.toArray⟩]

noncomputable def enumE (it : Addr) (i : Nat) : Ent := .is fun o => ∃ old, o = { cls := .type "enumerate", data := .fields #[.none, .bool false, .ref it, rawInt (i : Int), .none, old] }
noncomputable def MgS (L e it : Addr) (x : Str) (t : Tok) : Site → Led
  | .start => [(L, .frame [("addr", .val (.str x t))])]
  | .mid i esc pos => [(L, .frame [("escape", .bool esc), ("pos", .int pos), ("addr", .val (.str x t))]), (e, enumE it i), (it, sit x t i)]
  | .fin => [(L, .frame [])]
noncomputable abbrev keysG (L e it : Addr) (x : Str) (t : Tok) (st : Site) : List Addr := (MgS L e it x t st).map (·.1)

noncomputable def Ent.bare (e : Ent) : Prop := ∀ g g' o, e.ok g o → e.ok g' o
theorem MgS.bare {L e it : Addr} {x : Str} {t : Tok} : ∀ {st : Site}, ∀ p ∈ MgS L e it x t st, p.2.bare
  | .start, p, hp => by
    cases List.mem_singleton.mp hp
    rintro g g' o ⟨m, es, ep, a, b, c, d⟩
    refine ⟨m, es, ep, a, b, c, fun y q h => ?_⟩
    obtain ⟨v, h1, h2⟩ := d y q h
    have : q = .val (.str x t) := by
      rw [List.lookup_cons] at h; split at h <;> simp_all
    subst this; cases h2; exact ⟨_, h1, .val _⟩
  | .mid i esc pos, p, hp => by
    rcases List.mem_cons.mp hp with rfl | hp
    · rintro g g' o ⟨m, es, ep, a, b, c, d⟩
      refine ⟨m, es, ep, a, b, c, fun y q h => ?_⟩
      obtain ⟨v, h1, h2⟩ := d y q h
      have : q = .bool esc ∨ q = .int pos ∨ q = .val (.str x t) := by
        rw [List.lookup_cons] at h
        split at h
        · simp_all
        · rw [List.lookup_cons] at h
          split at h
          · simp_all
          · rw [List.lookup_cons] at h
            split at h <;> simp_all
      rcases this with rfl | rfl | rfl <;> cases h2 <;> exact ⟨_, h1, by constructor⟩
    · rcases List.mem_cons.mp hp with rfl | hp
      · exact fun _ _ _ h => h
      · cases List.mem_singleton.mp hp; exact fun _ _ _ h => h
  | .fin, p, hp => by
    cases List.mem_singleton.mp hp
    rintro g g' o ⟨m, es, ep, a, b, c, d⟩
    exact ⟨m, es, ep, a, b, c, fun _ _ h => nomatch h⟩

section
variable (w : World) (x : Str) (t : Tok) (L e it : Addr)
noncomputable def RunInv (st : Site) (s : Shared) : Prop := HS w (s.os, s.gens) (hideAll s.heap (keysG L e it x t st)) (MgS L e it x t st) s
noncomputable def PostG (st st' : Site) (p : Nat × List Nat) (s₀ s' : Shared) (v : Value) : Prop :=
  ∃ g' T, v = .ref T ∧ (s₀.heap.get? T = .none ∨ T ∈ keysG L e it x t st) ∧ Le (hideAll s₀.heap (keysG L e it x t st)) g' ∧ HS w (s₀.os, s₀.gens) g' (MgS L e it x t st') s' ∧ Rd g' v (itemPV p) ∧
    ∀ a ∈ keysG L e it x t st', a ∈ keysG L e it x t st ∨ s₀.heap.get? a = .none
noncomputable def EndG (st : Site) (s₀ s' : Shared) : Prop := ∃ g', Le (hideAll s₀.heap (keysG L e it x t st)) g' ∧ HS w (s₀.os, s₀.gens) g' (MgS L e it x t .fin) s'
noncomputable def TT : List ((Nat × List Nat) × Site) := tr x.cps.toList 0 false 0
noncomputable def siteAt (j : Nat) : Site := match j with | 0 => .start | j + 1 => ((TT x)[j]?.map (·.2)).getD .fin
noncomputable def YG : Protocol := fun n s₀ v s' kap => ∃ j p st, j + 1 + n = (TT x).length ∧ (TT x)[j]? = some (p, st) ∧ PostG w x t L e it (siteAt x j) st p s₀ s' v ∧ ∀ s'', RunInv w x t L e it st s'' → kap (.send .none) s''
noncomputable def PG : Nat → Shared → Shared → Prop := fun n s₀ s₁ => n = 0 ∧ EndG w x t L e it (siteAt x (TT x).length) s₀ s₁
noncomputable def RG : GenEnd := fun n s₀ r s₁ => r = .ok (.ret .none) ∧ PG w x t L e it n s₀ s₁
end

section
variable {w : World} {x : Str} {t : Tok} {L e it : Addr} {os : Ext} {M : Led}
theorem HS.run {g : Heap} {s : Shared} {st : Site} (H : HS w os g (M ++ MgS L e it x t st) s) : RunInv w x t L e it st s := by
  have hsub : (MgS L e it x t st).Sublist (M ++ MgS L e it x t st) := List.sublist_append_right _ _
  have hL : Le g (hideAll s.heap (keysG L e it x t st)) := fun b o h => hideAll_get _ (H.keep b o h) fun q => by
    obtain ⟨p, hp, rfl⟩ := List.mem_map.mp q
    rw [H.off p (hsub.subset hp)] at h; cases h
  refine ⟨H.bs.mono hL, fun b o h => of_hideAll _ h, fun p hp => ?_, fun p hp => hideAll_none _ (List.mem_map_of_mem hp), (hsub.map _).nodup H.nd, rfl, rfl⟩
  obtain ⟨o, ho, r⟩ := H.at_ p (hsub.subset hp)
  exact ⟨o, ho, r.mono hL⟩

theorem HS.post {g : Heap} {s₀ s' : Shared} {st st' : Site} {p : Nat × List Nat} {v : Value} (H : HS w os g (M ++ MgS L e it x t st) s₀) (P : PostG w x t L e it st st' p s₀ s' v) :
    ∃ g', Le g g' ∧ HS w os g' (M ++ MgS L e it x t st') s' ∧ Rd g' v (itemPV p) := by
  obtain ⟨g', T, rfl, hT, hL, H', r, hkeys⟩ := P
  have hMlt : ∀ q ∈ M, q.1 ∉ keysG L e it x t st := fun q hq h => by
    have hnd := H.nd
    rw [List.map_append] at hnd
    exact (List.nodup_append.mp hnd).2.2 q.1 (List.mem_map_of_mem hq) q.1 h rfl
  have hMold : ∀ q ∈ M, ∃ o, s₀.heap.get? q.1 = some o ∧ s'.heap.get? q.1 = some o ∧ q.2.ok g o := fun q hq => by
    obtain ⟨o, ho, r⟩ := H.at_ q (List.mem_append_left _ hq)
    exact ⟨o, ho, H'.keep _ _ (hL _ _ (hideAll_get _ ho (hMlt q hq))), r⟩
  have hMk' : ∀ q ∈ M, q.1 ∉ keysG L e it x t st' := fun q hq h => by
    obtain ⟨o, ho, _⟩ := hMold q hq
    rcases hkeys _ h with h | h
    · exact hMlt q hq h
    · rw [ho] at h; cases h
  obtain ⟨g'', L'', H'', G''⟩ := H.to (M' := M ++ MgS L e it x t st') (s' := s') (D := keysG L e it x t st)
    (fun b o h n => H'.keep _ _ (hL _ _ (hideAll_get _ h n)))
    (fun b hb => by rw [List.map_append]; exact List.mem_append_right _ hb)
    (fun q hq => by
      rcases List.mem_append.mp hq with hq | hq
      · exact .inl (List.mem_map_of_mem (List.mem_append_left _ hq))
      · rcases hkeys _ (List.mem_map_of_mem (f := (·.1)) hq) with h | h
        · left; rw [List.map_append]; exact List.mem_append_right _ h
        · exact .inr h)
    (by
      rw [List.map_append]
      have hnd := H.nd
      rw [List.map_append] at hnd
      refine List.nodup_append.mpr ⟨(List.nodup_append.mp hnd).1, H'.nd, fun a ha b hb e => ?_⟩
      subst e
      obtain ⟨q, hq, rfl⟩ := List.mem_map.mp ha
      exact hMk' q hq hb)
    (fun g'' Lg _ q hq => by
      rcases List.mem_append.mp hq with hq | hq
      · obtain ⟨o, _, h2, r⟩ := hMold q hq
        exact ⟨o, h2, r.mono Lg⟩
      · obtain ⟨o, ho, r⟩ := H'.at_ q hq
        exact ⟨o, ho, MgS.bare q hq _ _ _ r⟩) (H'.eos) (H'.egens)
  refine ⟨g'', L'', H'', ?_⟩
  cases r with | @tup _ vs _ ht hr =>
  have hTM : T ∉ (M ++ MgS L e it x t st').map (·.1) := fun h => by
    rw [List.map_append] at h
    rcases List.mem_append.mp h with h | h
    · obtain ⟨q, hq, e⟩ := List.mem_map.mp h
      rcases hT with hT | hT
      · obtain ⟨o, ho, _⟩ := hMold q hq
        rw [e, hT] at ho; cases ho
      · exact hMlt q hq (by rw [e]; exact hT)
    · obtain ⟨q, hq, e⟩ := List.mem_map.mp h
      obtain ⟨o, ho, _⟩ := ht
      have := H'.off q hq
      rw [e, ho] at this; cases this
  refine Rd.tup (vs := vs) ?_ ?_
  · obtain ⟨o, ho, r⟩ := ht
    exact ⟨o, G'' _ _ (H'.keep _ _ ho) hTM, r⟩
  · cases hr with | cons r₁ hr => cases hr with | cons r₂ hr => cases hr; cases r₁; cases r₂; exact .cons (.int _ _) (.cons (.str _ _) .nil)
end
set_option maxHeartbeats 1000000
section
variable {w : World} {A : Around} {R : GenEnd} {Y : Protocol} {n m : Nat} {s₀ : Shared} {c : Code} {fs : List Frame} {s : Shared} {env : Env}
  {K : Flow → Sem PySem.Fin} {H' : Value → Sem PySem.Fin} {gd : Bool → Bool} {lv : List Value → List Value} {os : Ext} {M M' : Led} {g : Heap}
theorem seg_ST {st : Stmt} {rest : List Stmt} (h : ST w os m env M st M') (rm : Rm (A.over c fs) m) (H : HS w os g M s)
    (k : ∀ g' s', Le g g' → HS w os g' M' s' → Seg (model PRG w) A R Y n s₀ c (Sem.wrap K H' gd lv (execs rest env)) fs s') :
    Seg (model PRG w) A R Y n s₀ c (Sem.wrap K H' gd lv (execs (st :: rest) env)) fs s :=
  seg_execs_cons (seg_wrap' (wpAny_mono (h _ rm g s (fun f s' => f = .next ∧ Seg (model PRG w) A R Y n s₀ c (Sem.wrap K H' gd lv (execs rest env)) fs s') H fun g' s' L h => ⟨rfl, k g' s' L h⟩)
    (fun f s' h => by obtain ⟨rfl, h⟩ := h; exact h) fun _ _ x => x.elim))

structure LR (w : World) (x : Str) (t : Tok) (L e it : Addr) (j : Nat) (M : Led) (s₀ s : Shared) (g : Heap) : Prop where
  le : Le (hideAll s₀.heap (keysG L e it x t (siteAt x j))) g
  hs : HS w (s₀.os, s₀.gens) g M s
  ks : ∀ a ∈ M.map (·.1), a ∈ keysG L e it x t (siteAt x j) ∨ s₀.heap.get? a = .none
  jl : j ≤ (TT x).length
theorem siteAt_some {x : Str} {j : Nat} {p st} (h : (TT x)[j]? = some (p, st)) : siteAt x (j + 1) = st := by
  show ((TT x)[j]?.map (·.2)).getD .fin = st
  rw [h]; rfl

theorem seg_yield_site {x : Str} {t : Tok} {L e it : Addr} {j : Nat} {p : Nat × List Nat} {st : Site} {rest : List ((Nat × List Nat) × Site)} {es : List Expr} {k : Nat} {tp yp pos : Pos}
    (hT : (TT x).drop j = (p, st) :: rest) (lr : LR w x t L e it j M s₀ s g) (hp : PL w (s₀.os, s₀.gens) m env M tp es [.int p.1, .str ⟨p.2.toArray⟩]) (rm : Rm (A.over c fs) m)
    (hw : ∀ g' s', HS w (s₀.os, s₀.gens) g' M s' → HS w (s₀.os, s₀.gens) g' (MgS L e it x t st) s') (hk : ∀ a ∈ keysG L e it x t st, a ∈ M.map (·.1))
    (hfs : splitAtGen fs = none) (hgd : gd false = false) (hfg : fs.any Frame.guarded = false) (hco : env.scope.isCoroutine = false) (hin : interactive env = false)
    (next : ∀ s'', RunInv w x t L e it st s'' → Seg (model PRG w) A (RG w x t L e it) (YG w x t L e it) ((TT x).length - (j + 1)) s'' c (K .next) fs s'') :
    Seg (model PRG w) A (RG w x t L e it) (YG w x t L e it) ((TT x).length - j) s₀ c (Sem.wrap K H' gd lv (exec (.Expr (.Yield (some (.Tuple es k tp)) yp) pos) env)) fs s := by
  have hj : j < (TT x).length := by
    apply Nat.lt_of_not_le; intro h
    rw [List.drop_eq_nil_of_le h] at hT; cases hT
  obtain ⟨n, hn⟩ : ∃ n, (TT x).length - j = n + 1 := ⟨(TT x).length - j - 1, by omega +splitNatSub⟩
  have hn' : (TT x).length - (j + 1) = n := by omega +splitNatSub
  have hget : (TT x)[j]? = some (p, st) := by
    have : (((TT x).drop j)[0]?) = some (p, st) := by rw [hT]; rfl
    simpa using this
  rw [hn]; rw [hn'] at next
  refine seg_Expr_Yield hfs hgd hfg (Env.noE (tupNew hp (by simp) rm lr.hs fun T g' s' L' H' r hT' hTn => ?_)) hco hin
  intro kap hkap
  refine ⟨j, p, st, by omega +splitNatSub, hget, ⟨g', T, rfl, ?_, lr.le.tr L', hw _ _ H', r, fun a ha => lr.ks a (hk a ha)⟩, fun s'' hs'' => hkap .none s'' (next s'' hs'')⟩
  cases q : s₀.heap.get? T with
  | none => exact .inl rfl
  | some o => exact .inr (Classical.byContradiction fun hc => absurd (lr.le _ _ (hideAll_get _ q hc)) (hTn o))

noncomputable def enumO (it : Addr) (i : Nat) (v : Value) (T : Addr) : Ent := .is fun o => o = { cls := .type "enumerate", dict := none, data := .fields #[rawInt T, .bool false, .ref it, rawInt i, .none, v], slots := #[] }
theorem enum_turn {A : Around} {E : Value → Shared → Prop} {x : Str} {t : Tok} {L e it : Addr} {i ch : Nat} {elts : List Expr} {k₁ : Nat} {tp : Pos} {vars : List (Str × PV)} (hh : A.handled = none)
    (H : HS w os g ((L, .frame vars) :: (e, enumE it i) :: (it, sit x t i) :: M) s) (hx : x.cps[i]? = some ch) {Q : Option Value → Shared → Prop}
    (kk : ∀ v s₁, wpAny (model PRG w) A (letOwnedTupleGo (.Tuple elts k₁ tp) (.ref e) v) (fun _ s₂ => ∃ g', Le g g' ∧ HS w os g' ((L, .frame vars) :: (e, enumE it (i + 1)) :: (it, sit x t (i + 1)) :: M) s₂ ∧ Rd g' v (.tup [.int i, .str ⟨#[ch]⟩])) NoE s₁ → Q (some v) s₁) :
    wpAny (model PRG w) A (pyNext (.ref e)) Q E s := by
  obtain ⟨oe, he, old, rfl⟩ := H.at_ (e, enumE it i) (.tail _ (.head _))
  obtain ⟨oi, hi, h1, h2⟩ := H.at_ (it, sit x t i) (.tail _ (.tail _ (.head _)))
  have hnd := H.nd
  simp only [List.map_cons, List.nodup_cons, List.mem_cons, not_or] at hnd
  obtain ⟨⟨hLe, hLi, hLM⟩, ⟨hei, heM⟩, hiM, hMn⟩ := hnd
  have hlt : i < x.cps.size := (Array.getElem?_eq_some_iff.mp hx).1
  refine wpAny_pyNext_enum_itemD (Draws.strAscii (A := A.in1) hh it x t) he ⟨oi, hi, h1, h2⟩ hlt hei (by simpa using hei) ?_
  rintro u h' tk ⟨c', u', hc', rfl⟩ hout hst htup hsz hk
  rw [hx] at hc'; cases hc'
  refine kk _ _ ?_
  obtain ⟨oi', hi', h1', h2'⟩ := hst
  obtain ⟨g₁, L₁, H₁, G₁⟩ := H.to (M' := (L, .frame vars) :: (e, enumO it (i + 1) (.str ⟨#[ch]⟩ u') s.heap.objs.size) :: (it, sit x t (i + 1)) :: M) (s' := { heap := h', gens := s.gens, drawn := s.drawn, toks := tk + 1, os := s.os }) [e, it]
    (fun b o e n => by simp at n; exact hk b o n.1 n.2 e)
    (fun b hb => by rcases List.mem_cons.mp hb with rfl | hb
                    · exact .tail _ (.head _)
                    · rw [List.mem_singleton.mp hb]; exact .tail _ (.tail _ (.head _)))
    (fun p hp => .inl (List.mem_map_of_mem (f := (·.1)) hp |> fun h => by simpa using h)) H.nd
    (fun g' Lg _ p hp => by
      rcases List.mem_cons.mp hp with rfl | hp
      · obtain ⟨o, ho, r⟩ := H.at_ _ (.head _)
        exact ⟨o, hk _ _ hLe hLi ho, r.mono Lg⟩
      rcases List.mem_cons.mp hp with rfl | hp
      · exact ⟨_, hout, rfl⟩
      rcases List.mem_cons.mp hp with rfl | hp
      · exact ⟨oi', hi', h1', h2'⟩
      · obtain ⟨o, ho, r⟩ := H.at_ p (.tail _ (.tail _ (.tail _ hp)))
        refine ⟨o, hk _ _ (fun q => heM ?_) (fun q => hiM ?_) ho, r.mono Lg⟩
        · rw [← q]; exact List.mem_map_of_mem (f := (·.1)) hp
        · rw [← q]; exact List.mem_map_of_mem (f := (·.1)) hp) rfl rfl
  refine wpAny_letOwnedTupleGo_enum hout fun h₂ he₂ hs₂ => ?_
  obtain ⟨g₂, L₂, H₂, -⟩ := H₁.set (i := 1) (a := e) (e := enumE it (i + 1)) (s' := { heap := h₂, gens := s.gens, drawn := s.drawn, toks := tk + 1, os := s.os }) rfl
    (fun b o e n => (hs₂.2 b n).trans e) (fun g' _ _ => ⟨_, he₂, _, rfl⟩) rfl rfl
  refine ⟨g₂, L₁.tr L₂, H₂, .tup (vs := [.int i tk, .str ⟨#[ch]⟩ u']) ⟨_, L₂ _ _ (G₁ _ _ htup ?_), rfl, _, rfl⟩ (.cons (.int _ _) (.cons (.str _ _) .nil))⟩
  exact H.fresh
theorem enum_stop {A : Around} {E : Value → Shared → Prop} {x : Str} {t : Tok} {L e it : Addr} {vars : List (Str × PV)} (hh : A.handled = none)
    (H : HS w os g ((L, .frame vars) :: (e, enumE it x.cps.size) :: (it, sit x t x.cps.size) :: M) s) {Q : Option Value → Shared → Prop}
    (kk : ∀ g' s', Le g g' → HS w os g' ((L, .frame vars) :: M) s' → Q .none s') : wpAny (model PRG w) A (pyNext (.ref e)) Q E s := by
  obtain ⟨oe, he, old, rfl⟩ := H.at_ (e, enumE it x.cps.size) (.tail _ (.head _))
  obtain ⟨oi, hi, h1, h2⟩ := H.at_ (it, sit x t x.cps.size) (.tail _ (.tail _ (.head _)))
  refine wpAny_pyNext_enum_endD (Draws.strAscii (A := A.in1) hh it x t) he ⟨oi, hi, h1, h2⟩ fun h' hs => ?_
  have H₂ := H.perm (M' := (it, sit x t x.cps.size) :: (L, .frame vars) :: (e, enumE it x.cps.size) :: M) ((List.Perm.cons _ (List.Perm.swap _ _ _)).trans (List.Perm.swap _ _ _))
  obtain ⟨g₁, L₁, H₁⟩ := H₂.dropHead (h' := h') fun b o n e => hs b o n e
  obtain ⟨g₂, L₂, H₃, -⟩ := H₁.drop (M' := (L, .frame vars) :: M) (List.Sublist.cons₂ _ (List.sublist_cons_self _ _))
  exact kk g₂ _ (L₁.tr L₂) H₃
end
set_option maxHeartbeats 1000000
section
variable {w : World} {A : Around} {fs : List Frame} {env : Env} {x : Str} {t : Tok} {L e it : Addr} {body : List Stmt} {m : Nat}
noncomputable def midV (esc : Bool) (pos : Nat) (x : Str) (t : Tok) : List (Str × PV) := [("escape", .bool esc), ("pos", .int pos), ("addr", .val (.str x t))]
theorem gen_loop {k₁ : Nat} {px py tp : Pos} (hk : env.scope.kind = .function) (hl : env.locals = L) (hp : env.kindOf "pos" = some .local) (hc : env.kindOf "ch" = some .local)
    (hh : (A.over (.forLoop (.Tuple [.Name "pos" px, .Name "ch" py] k₁ tp) (.ref e) body [] env) fs).handled = .none)
    (turn : ∀ (i ch : Nat) (esc : Bool) (pos j : Nat) (s₀ s : Shared) (g : Heap), x.cps[i]? = some ch → (TT x).drop j = tr (ch :: x.cps.toList.drop (i + 1)) i esc pos →
      LR w x t L e it j [(L, .frame [("ch", .str ⟨#[ch]⟩), ("pos", .int i), ("escape", .bool esc), ("addr", .val (.str x t))]), (e, enumE it (i + 1)), (it, sit x t (i + 1))] s₀ s g →
      (∀ (esc' : Bool) (j' : Nat) (s₀' s' : Shared) (g' : Heap), (TT x).drop j' = tr (x.cps.toList.drop (i + 1)) (i + 1) esc' i → LR w x t L e it j' (MgS L e it x t (.mid (i + 1) esc' i)) s₀' s' g' →
        Seg (model PRG w) A (RG w x t L e it) (YG w x t L e it) ((TT x).length - j') s₀' (.forLoop (.Tuple [.Name "pos" px, .Name "ch" py] k₁ tp) (.ref e) body [] env)
          ((model PRG w).den (.forLoop (.Tuple [.Name "pos" px, .Name "ch" py] k₁ tp) (.ref e) body [] env)) fs s') →
      Seg (model PRG w) A (RG w x t L e it) (YG w x t L e it) ((TT x).length - j) s₀ (.forLoop (.Tuple [.Name "pos" px, .Name "ch" py] k₁ tp) (.ref e) body [] env)
        ((execs body env).wrap (fun f => match f with
            | .next | .cont => .pure (.again (.forLoop (.Tuple [.Name "pos" px, .Name "ch" py] k₁ tp) (.ref e) body [] env))
            | .brk => .pure (.done .next)
            | .ret v => .pure (.done (.ret v))) (noteH env) id id) fs s)
    (fin : ∀ (esc : Bool) (pos j : Nat) (s₀ s : Shared) (g : Heap), (TT x).drop j = (if esc then [((pos, [92]), .fin)] else []) → LR w x t L e it j [(L, .frame (midV esc pos x t))] s₀ s g →
      Seg (model PRG w) A (RG w x t L e it) (YG w x t L e it) ((TT x).length - j) s₀ (.block [] env) (.pure (.done .next)) fs s) :
    ∀ (r i : Nat) (esc : Bool) (pos j : Nat) (s₀ s : Shared) (g : Heap), r = x.cps.size - i → i ≤ x.cps.size → (TT x).drop j = tr (x.cps.toList.drop i) i esc pos → LR w x t L e it j (MgS L e it x t (.mid i esc pos)) s₀ s g →
      Seg (model PRG w) A (RG w x t L e it) (YG w x t L e it) ((TT x).length - j) s₀ (.forLoop (.Tuple [.Name "pos" px, .Name "ch" py] k₁ tp) (.ref e) body [] env)
          ((model PRG w).den (.forLoop (.Tuple [.Name "pos" px, .Name "ch" py] k₁ tp) (.ref e) body [] env)) fs s := by
  intro r
  induction r with
  | zero =>
    intro i esc pos j s₀ s g hr hi hT lr
    have hi' : i = x.cps.size := by omega +splitNatSub
    subst hi'
    have h0 : x.cps.toList.drop x.cps.size = [] := List.drop_eq_nil_of_le (by simp)
    rw [h0] at hT
    refine seg_forLoop (enum_stop hh lr.hs fun g' s' L' H' => ?_)
    exact fin esc pos j s₀ s' g' hT ⟨lr.le.tr L', H', fun a ha => lr.ks a (by
      rcases List.mem_cons.mp ha with rfl | ha
      · exact .head _
      · cases ha), lr.jl⟩
  | succ r ih =>
    intro i esc pos j s₀ s g hr hi hT lr
    have hlt : i < x.cps.size := by omega +splitNatSub
    obtain ⟨ch, hch⟩ : ∃ ch, x.cps[i]? = some ch := ⟨_, Array.getElem?_eq_getElem hlt⟩
    have hd : x.cps.toList.drop i = ch :: x.cps.toList.drop (i + 1) := by
      rw [List.drop_eq_getElem_cons (by simpa using hlt)]
      rw [Array.getElem?_eq_getElem hlt] at hch
      cases hch; simp
    rw [hd] at hT
    refine seg_forLoop (enum_turn (M := []) (elts := [.Name "pos" px, .Name "ch" py]) (k₁ := k₁) (tp := tp) hh lr.hs hch fun v s₁ h₁ => ?_)
    refine wpAny_mono h₁ (fun _ s₂ h₂ => ?_) fun _ _ x => x.elim
    obtain ⟨g₂, L₂, H₂, r₂⟩ := h₂
    refine Env.noE (assign_pair (SN.loc (i := 0) hk hp (by rw [hl]; rfl)) (SN.loc (i := 0) hk hc (by rw [hl]; rfl)) hh H₂ r₂ fun g₃ s₃ L₃ H₃ => ?_)
    have H₄ := H₃.weaken (i := 0) (a := L) (vars' := [("ch", .str ⟨#[ch]⟩), ("pos", .int i), ("escape", .bool esc), ("addr", .val (.str x t))]) rfl (by
      intro y hy
      simp only [List.mem_cons, List.not_mem_nil, or_false] at hy
      rcases hy with rfl | rfl | rfl | rfl <;> rfl)
    refine turn i ch esc pos j s₀ s₃ g₃ hch hT ⟨lr.le.tr (L₂.tr L₃), H₄, fun a ha => lr.ks a ha, lr.jl⟩ ?_
    intro esc' j' s₀' s' g' hT' lr'
    exact ih (i + 1) esc' i j' s₀' s' g' (by omega +splitNatSub) hlt hT' lr'
end
set_option maxHeartbeats 1000000
section
variable {w : World} {A : Around} {x : Str} {t : Tok} {L e it : Addr} {os : Ext} {M : Led} {g : Heap} {s : Shared}

theorem next_genQ {prog : Program} {E : Value → Shared → Prop} {a : Addr} {g n : Nat} {gs : GenState} {P : Nat → Shared → Shared → Prop} {Y : Protocol} {Q : Option Value → Shared → Prop} (hh : A.handled = none)
    (hl : s.heap.NoLimit) (hroom : A.depth < recursionLimit) (hg : s.heap.IsGen a g) (hgs : s.gens[g]? = some gs)
    (hgo : gs.Goes (model prog w) A.in1 (fun n s₀ r s₁ => r = .ok (.ret .none) ∧ P n s₀ s₁) Y n (.send .none) (s.setGen g .running))
    (hY : ∀ v s₁ gs', gs'.bare = true → Y (n - 1) (s.setGen g .running) v s₁ (fun r' s'' => match n with
        | 0 => False
        | m + 1 => gs'.Goes (model prog w) A.in1 (fun n s₀ r s₁ => r = .ok (.ret .none) ∧ P n s₀ s₁) Y m r' s'') → Q (some v) (s₁.setGen g gs'))
    (hP : ∀ s₁, P n (s.setGen g .running) s₁ → ∀ h', (∀ b o, s₁.heap.get? b = some o → h'.get? b = some o) → Q none { s₁.setGen g .finished with heap := h' }) :
    wpAny (model prog w) A (pyNext (.ref a)) Q E s := by
  unfold pyNext
  refine wpAny_bind (wpAny_attempt (wpAny_callSpecial?_slot (name := Str.ofString "__next__") hg.typeIs slot_gen_next
    (wpAny_call_entry slot_gen_next hg.typeIs entry_gen_next ?_ (args_gen_next _))))
  show wpAny _ A.in1 (Builtin.Generator.genWake (.ref a) (.send .none)) _ _ s
  unfold Builtin.Generator.genWake
  refine wpAny_bind (wpAny_holding (wpAny_genNumber hg (wpAny_bind (wpAny_genState hgs ?_))))
  cases gs with
  | running => exact hgo.elim
  | finished => exact hgo.elim
  | _ =>
    refine wpAny_bind (wpAny_roomToWake hl hroom ?_)
    show wpAny _ A.in1 (.resume g (.send .none) [] _) _ _ s
    refine wpAny_resumeQ hgs hgo (fun x s₁ hx => ?_) (fun v s₁ gs' hb hv => ?_)
    · obtain ⟨rfl, hp⟩ := hx
      show wpAny _ A.in1 (newExc (.type "StopIteration") [] >>= _) _ _ _
      refine wpAny_bind ?_
      simp only [newExc, newTuple]
      refine wpAny_bind (wpAny_newObj_type ?_ (by size_fits))
      refine wpAny_bind (m := firstArgMember _ _) (wpAny_of_eq (a := Value.none) (by first | rfl | (simp only [firstArgMember]; rfl)) ?_)
      refine wpAny_newObj_type ?_ (by size_fits)
      simp only [raiseNew]
      refine wpAny_bind (wpAny_bind (wpAny_handled ?_))
      first | rw [show A.in1.handled = none from hh] | rw [hh]
      refine wpAny_throw ?_
      refine wpAny_bind (wpAny_isInstance (T := "StopIteration") (b := true) ⟨_, Heap.get?_push_size _ rfl, rfl⟩ isSubtype_stop ?_)
      exact wpAny_pure (hP s₁ hp _ fun b o hb => Heap.get?_push_of_some _ (Heap.get?_push_of_some _ hb))
    · exact wpAny_pure ⟨v, rfl, wpAny_pure (hY v s₁ gs' hb hv)⟩

theorem HS.setGen (H : HS w os g M s) (i : Nat) (gs : GenState) : HS w (os.1, os.2.setIfInBounds i gs) g M (s.setGen i gs) :=
  ⟨H.bs, H.keep, H.at_, H.off, H.nd, H.eos, by show s.gens.setIfInBounds i gs = _; rw [H.egens]⟩
theorem HS.post0 {s' : Shared} {st : Site} (H : HS w os g (M ++ MgS L e it x t st) s) (P : EndG w x t L e it st s s') : ∃ g', Le g g' ∧ HS w os g' M s' := by
  obtain ⟨g', hL, H'⟩ := P
  have hMlt : ∀ q ∈ M, q.1 ∉ keysG L e it x t st := fun q hq h => by
    have hnd := H.nd
    rw [List.map_append] at hnd
    exact (List.nodup_append.mp hnd).2.2 q.1 (List.mem_map_of_mem hq) q.1 h rfl
  obtain ⟨g'', L'', H'', -⟩ := H.to (M' := M) (s' := s') (D := keysG L e it x t st)
    (fun b o h n => H'.keep _ _ (hL _ _ (hideAll_get _ h n)))
    (fun b hb => by rw [List.map_append]; exact List.mem_append_right _ hb)
    (fun q hq => .inl (List.mem_map_of_mem (List.mem_append_left _ hq)))
    (by
      have hnd := H.nd
      rw [List.map_append] at hnd
      exact (List.nodup_append.mp hnd).1)
    (fun g'' Lg _ q hq => by
      obtain ⟨o, ho, r⟩ := H.at_ q (List.mem_append_left _ hq)
      exact ⟨o, H'.keep _ _ (hL _ _ (hideAll_get _ ho (hMlt q hq))), r.mono Lg⟩) H'.eos H'.egens
  exact ⟨g'', L'', H''⟩

theorem set_set {α : Type} (a : Array α) (i : Nat) (u v : α) : (a.setIfInBounds i u).setIfInBounds i v = a.setIfInBounds i v := by simp

theorem gen_draw {E : Value → Shared → Prop} {a : Addr} {gi j : Nat} {gs : GenState} {Q : Option Value → Shared → Prop} {n : Nat} (rm : Rm A n) (hG : g.IsGen a gi) (hgs : os.2[gi]? = some gs)
    (H : HS w os g (M ++ MgS L e it x t (siteAt x j)) s) (hj : j ≤ (TT x).length)
    (hgo : gs.Goes (model PRG w) A.in1 (RG w x t L e it) (YG w x t L e it) ((TT x).length - j) (.send .none) (s.setGen gi .running))
    (item : ∀ p st v g' s' gs', (TT x)[j]? = some (p, st) → Le g g' → HS w (os.1, os.2.setIfInBounds gi gs') g' (M ++ MgS L e it x t st) s' → Rd g' v (itemPV p) → gs'.bare = true →
      (∀ s'', RunInv w x t L e it st s'' → gs'.Goes (model PRG w) A.in1 (RG w x t L e it) (YG w x t L e it) ((TT x).length - (j + 1)) (.send .none) s'') → Q (some v) s')
    (stop : ∀ g' s', j = (TT x).length → Le g g' → HS w (os.1, os.2.setIfInBounds gi .finished) g' M s' → Q .none s') :
    wpAny (model PRG w) A (pyNext (.ref a)) Q E s := by
  have hgs' : s.gens[gi]? = some gs := by rw [H.egens]; exact hgs
  have H₀ := H.setGen gi .running
  refine next_genQ rm.hd H.lim (by have := rm.dp; omega) (hG.keeps fun b o h => H.keep b o h) hgs' (P := PG w x t L e it) (Y := YG w x t L e it) (n := (TT x).length - j) hgo ?_ ?_
  · rintro v s₁ gs' hb ⟨j', p, st, hj', hget, P, kap⟩
    have hjlt := (List.getElem?_eq_some_iff.mp hget).1
    by_cases hjK : j = (TT x).length
    · exfalso
      subst hjK
      have hz : (TT x).length - (TT x).length = 0 := by omega
      rw [hz] at kap
      obtain ⟨g₁, T, -, -, -, H₁, -⟩ := P
      exact kap s₁ (HS.run (M := []) H₁)
    · obtain ⟨m, hm⟩ : ∃ m, (TT x).length - j = m + 1 := ⟨(TT x).length - j - 1, by omega⟩
      rw [hm] at kap hj'
      have hjj : j' = j := by omega
      subst hjj
      obtain ⟨g₁, L₁, H₁, r₁⟩ := H₀.post P
      have H₂ := H₁.setGen gi gs'
      refine item p st v g₁ _ gs' hget L₁ (by rw [← set_set os.2 gi .running gs']; exact H₂) r₁ hb fun s'' hs'' => ?_
      have hm' : (TT x).length - (j' + 1) = m := by omega
      rw [hm']
      exact kap s'' hs''
  · rintro s₁ ⟨h0, hE⟩ h' hk
    have hjK : j = (TT x).length := by omega
    obtain ⟨g₁, L₁, H₁⟩ := H₀.post0 (by rw [hjK]; exact hE)
    have H₂ := H₁.setGen gi .finished
    obtain ⟨g₂, L₂, H₃⟩ := H₂.grow' (s' := { s₁.setGen gi .finished with heap := h' }) hk rfl rfl
    exact stop g₂ _ hjK (L₁.tr L₂) (by rw [← set_set os.2 gi .running .finished]; exact H₃)
end
set_option maxHeartbeats 1000000
theorem fillK_G6 (w : World) (h : Heap) : PySem.Challenge.rw_tc0063_01.row.prog = PySem.Challenge.rw_tc0063_01.row.prog ∧ ((hd.heap_1 w.params).In h → (hd.heap_1 w.params).In h) := by
  k_fill
  exact ⟨rfl, id⟩
local macro_rules | `(tactic| walk_at "kis") => `(tactic| (dsimp only [KF]; k_is))
local macro_rules | `(tactic| walk_at "nm") => `(tactic| first
  | exact PE.name (Nm.locM (by rfl) (by rfl) (by k_mem) (by rfl)) (by decide +kernel)
  | exact PE.name (Nm.celM (by rfl) (by rfl) (by rfl) (by k_mem)) (by decide +kernel)
  | exact PE.name (Nm.freM (by rfl) (by rfl) (by rfl) (by k_mem) (by decide +kernel)) (by decide +kernel)
  | exact PE.glob ⟨by rfl, by rfl, by rfl⟩ (by rfl) (by walk_at "kis") (by decide +kernel)
  | exact PE.bui ⟨by rfl, by rfl, by rfl⟩ (by rfl) (by walk_at "kis") (by boot_by_name) (by decide) (by decide +kernel))
section
variable {w : World} {os : Ext} {M : Led} {g : Heap} {s : Shared} {x : Str} {t : Tok} {env : Env}
theorem store_sz {i : Nat} {y : Str} {vars : List (Str × PV)} {A : Around} {v : Value} {p : PV} {Q : Unit → Shared → Prop} (hk : env.scope.kind = .function) (hx : env.kindOf y = some .local) (hi : M[i]? = some (env.locals, .frame vars))
    (H : HS w os g M s) (r : Rd g v p) (k : ∀ g' s', Le g g' → HS w os g' (setE M i (.frame ((y, p) :: vars))) s' → s'.heap.objs.size = s.heap.objs.size → Q () s') : wpAny (model PRG w) A (storeName env y v) Q NoE s := by
  obtain ⟨m, hn, hv⟩ := H.ns hi
  refine wpAny_storeName_local hx hn (fun h' hn' hs => ?_) (by rw [hk]; rfl)
  obtain ⟨g', L, H', -⟩ := H.set (i := i) (e := .frame ((y, p) :: vars)) (s' := { s with heap := h', toks := s.toks + 1 }) hi (fun b o e n => (hs.2 b n).trans e)
    (fun g' L _ => nsFrame hn' fun z q e => by
      rw [List.lookup_cons] at e
      cases hb : z == y with
      | true => rw [hb] at e; cases e; exact ⟨v, by rw [if_pos (beq_iff_eq.mp hb)], r.mono L⟩
      | false =>
        rw [hb] at e
        obtain ⟨u, e1, e2⟩ := hv z q e
        exact ⟨u, by rw [if_neg (beq_eq_false_iff_ne.mp hb)]; exact e1, e2.mono L⟩) rfl rfl
  exact k g' _ L H' hs.1


theorem bui_sz (hE : EnvOk env) {y : Str} {v : Value} {A : Around} {Q : Value → Shared → Prop} {pos : Pos} (H : HS w os g M s) (hx : env.kindOf y = some .globalImplicit) (e : nsIn (KF w) mainGlobals y = some none) (hb : bootBuiltins y = some v) (hn : y ≠ "__name__")
    (hd : (y == ("__debug__" : Str)) = false) (k : Q v s) : wpAny (model PRG w) A (eval (.Name y pos) env) Q NoE s := by
  obtain ⟨mg, h⟩ := H.bs.gl
  obtain ⟨mb, h', hb'⟩ := H.bs.bn
  exact Name_function_global hE.kind hx (loadGlobal_builtin (by rw [hE.gl]; exact h.keeps H.keep) (mg_none_of H.bs.k h e) (by rw [hE.bn]; exact h'.keeps H.keep) ((hb' y hn).trans hb) k) hd

theorem enterG {fa : Addr} {name qual : Str} {params : Arguments} {body : List Stmt} {scope : Scope} {dV kV doc pm cdv ct oc : Value} {an od : Option Addr} {osl : Array (Option Value)} {A : Around}
    {v : Value} {p : PV} {y : Str} {Q : Value → Shared → Prop}
    (ho : (KF w).lookup fa = some ⟨oc, od, .func (fnOf name qual params body scope dV kV doc pm an cdv ct), osl⟩) (hcd : codeIn (KF w) cdv qual = true)
    (hb : bindArgs (fnOf name qual params body scope dV kV doc pm an cdv ct) ⟨[v], []⟩ = pure [(y, v)]) (hloc : scope.names.lookup y = some .local) (hnc : ∀ z ∈ scope.names, z.2 ≠ .cell)
    (rm : Rm A 1) (H : HS w os g M s) (r : Rd g v p)
    (k : ∀ a L gs g' s', Le g g' → HS w (os.1, os.2.push gs) g' ((L, .frame [(y, p)]) :: M) s' → g'.IsGen a os.2.size → gs = .fresh (.func body (envOf qual scope L fa cdv)) → Q (.ref a) s')
    (hco : scope.isCoroutine = false := by rfl) (hgen : scope.isGenerator = true := by rfl) (hk : scope.kind = .function := by rfl) :
    wpAny (model PRG w) A (call (.ref fa) [v]) Q NoE s := by
  refine wpAny_call (codeAny_call_generator (fd := fnOf name qual params body scope dV kV doc pm an cdv ct) (by have := rm.dp; omega) (H.kin _ _ ho) rfl hco hgen rfl (codeRec_of H.kin hcd) ?_)
  rw [hb]
  refine wpAny_pure ?_
  refine wpAny_newFunctionEnv hnc (fun z hz => by cases List.mem_singleton.mp hz; exact hloc) (fun h' hn hs => ?_) hk
  obtain ⟨g₁, L₁, H₁, -⟩ := H.new (a := s.heap.objs.size) (e := .frame [(y, p)]) (s' := { s with heap := h', toks := s.toks + [(y, v)].length }) (get_none_of_size (Nat.le_refl _))
    (fun b o e => (hs.2 b (Nat.ne_of_lt (Heap.lt_size e))).trans (Heap.get?_push_of_some _ e))
    (fun g' L _ => nsFrame hn fun z q e => by
      rw [List.lookup_cons] at e
      cases hb : z == y with
      | true => rw [hb] at e; cases e; exact ⟨v, by show List.lookup z [(y, v)] = _; rw [List.lookup_cons, hb], r.mono L⟩
      | false => rw [hb] at e; cases e) rfl rfl
  refine ⟨H₁.lim, ?_⟩
  obtain ⟨g₂, L₂, H₂, G₂⟩ := H₁.push { cls := .type "generator", data := .fields #[.int s.gens.size 0, .str name (s.toks + [(y, v)].length), .str qual (s.toks + [(y, v)].length + 1)] } rfl (s.toks + [(y, v)].length + 1 + 1)
  refine k _ s.heap.objs.size _ g₂ _ (L₁.tr L₂) (?_ : HS w (os.1, os.2.push _) g₂ _ { heap := _, gens := s.gens.push (.fresh (.func body (envOf qual scope s.heap.objs.size fa cdv))), drawn := _, toks := _, os := _ }) (by
    have hg : g₂.IsGen _ s.gens.size := ⟨_, _, _, G₂, rfl, rfl, rfl⟩
    rw [H.egens] at hg; exact hg) rfl
  exact ⟨H₂.bs, H₂.keep, H₂.at_, H₂.off, H₂.nd, H₂.eos, by show s.gens.push _ = _; rw [H.egens]⟩

theorem iter_call {A : Around} {Q : Value → Shared → Prop} (rm : Rm A 3) (H : HS w os g M s) (hx : x.cps.all (· < 128) = true)
    (k : ∀ a L gs g' s', Le g g' → HS w (os.1, os.2.push gs) g' (M ++ MgS L 0 0 x t .start) s' → g'.IsGen a os.2.size → gs.bare = true →
      (∀ A', Rm A' 3 → ∀ s'', RunInv w x t L 0 0 .start s'' → gs.Goes (model PRG w) A'.in1 (RG w x t L (s''.heap.objs.size + 1) s''.heap.objs.size) (YG w x t L (s''.heap.objs.size + 1) s''.heap.objs.size) (TT x).length (.send .none) s'') → Q (.ref a) s') :
    wpAny (model PRG w) A (call (.ref 45) [.str x t]) Q NoE s := by
  refine enterG (y := "addr") (by walk_at "kis") (by walk_at "kis") (by rfl) (by rfl) (by decide +kernel) (rm.le (by omega)) H (.val (.str x t)) ?_
  intro a L gs g' s' L' H' hg hgs
  refine k a L gs g' s' L' (H'.perm (List.perm_append_singleton _ _).symm) hg (by rw [hgs]; rfl) ?_
  intro A' rm' s'' hR
  rw [hgs]
  refine ⟨rfl, seg_func ?_⟩
  have hs₀ : RunInv w x t L 0 0 .start s'' := hR
  obtain ⟨sz, hsz⟩ : ∃ sz, sz = s''.heap.objs.size := ⟨_, rfl⟩
  rw [← hsz]
  unfold RunInv at hR
  refine seg_execs_cons (seg_wrap' (wpAny_Assign_Name (wpAny_Constant_int ?_) (by rfl)))
  refine store_sz (i := 0) (p := .int (0 : Nat)) (by rfl) (by rfl) (by rfl) (hR.toks _) (.int _ _) fun g₁ s₁ L₁ H₁ hs₁ => ?_
  refine seg_execs_cons (seg_wrap' (wpAny_Assign_Name (wpAny_Constant_bool ?_) (by rfl)))
  refine store_sz (i := 0) (p := .bool false) (by rfl) (by rfl) (by rfl) H₁ (.bool _) fun g₂ s₂ L₂ H₂ hs₂ => ?_
  refine seg_execs_cons (seg_For (by intro v; rfl) ?_)
  have hsz₂ : s₂.heap.objs.size = sz := by rw [hs₂, hs₁, hsz]
  change HS w _ g₂ [(L, .frame [("escape", .bool false), ("pos", .int (0 : Nat)), ("addr", .val (.str x t))])] s₂ at H₂
  refine Env.noE (wpAny_Call_NameR (bui_sz ⟨by rfl, by rfl, by rfl⟩ H₂ (by rfl) (by walk_at "kis") (by boot_by_name) (by decide) (by decide +kernel) ?_))
  refine callWith_of (P := fun _ => True) (by rfl) (fun h _ => ⟨.machine, .inr (.inl rfl), Looks.of_pure (by rfl)⟩) ?_
  refine evalArgs_plain (spliced_cons (wpAny_Name ?_ (by decide +kernel)))
  refine Nm.locM (p := .val (.str x t)) (by rfl) (by rfl) (by k_mem) (by rfl) _ g₂ s₂ _ H₂ fun v r => ?_
  cases r
  refine spliced_none ⟨trivial, ?_⟩
  refine call_enumerate_str fun h₃ he hi hsz₃ hk₃ => ?_
  rw [hsz₂] at he hi hsz₃ ⊢
  obtain ⟨g₃, L₃, H₃, -⟩ := H₂.to (M' := MgS L (sz + 1) sz x t (.mid 0 false 0)) (s' := { s₂ with heap := h₃ }) [] (fun b o e _ => hk₃ b o e) (fun _ h => nomatch h)
    (fun p hp => by
      rcases List.mem_cons.mp hp with rfl | hp
      · exact .inl (.head _)
      rcases List.mem_cons.mp hp with rfl | hp
      · exact .inr (get_none_of_size (by rw [hsz₂]; exact Nat.le_succ _))
      · cases List.mem_singleton.mp hp
        exact .inr (get_none_of_size (by rw [hsz₂]; exact Nat.le_refl _)))
    (by
      have : L < sz := by
        obtain ⟨o, ho, -⟩ := H₂.at_ _ (.head _)
        rw [← hsz₂]; exact Heap.lt_size ho
      refine List.nodup_cons.mpr ⟨?_, List.nodup_cons.mpr ⟨?_, List.nodup_cons.mpr ⟨List.not_mem_nil, List.nodup_nil⟩⟩⟩
      · simp only [List.map_cons, List.map_nil, List.mem_cons, List.not_mem_nil, or_false]
        exact fun h => h.elim (Nat.ne_of_lt (Nat.lt_succ_of_lt this)) (Nat.ne_of_lt this)
      · simp only [List.map_cons, List.map_nil, List.mem_cons, List.not_mem_nil, or_false]
        exact Nat.succ_ne_self _)
    (fun g' Lg _ p hp => by
      rcases List.mem_cons.mp hp with rfl | hp
      · obtain ⟨o, ho, r⟩ := H₂.at_ _ (.head _)
        exact ⟨o, hk₃ _ _ ho, r.mono Lg⟩
      rcases List.mem_cons.mp hp with rfl | hp
      · exact ⟨_, he, _, rfl⟩
      · cases List.mem_singleton.mp hp
        obtain ⟨o, ho, h1, h2⟩ := hi
        exact ⟨o, ho, by rw [h1]; simp [strIterType, hx], h2⟩) rfl rfl
  refine wpAny_pyIter_enum he fun pp ll => ?_
  have lr₀ : LR w x t L (sz + 1) sz 0 (MgS L (sz + 1) sz x t (.mid 0 false 0)) s'' { s₂ with heap := h₃ } g₃ := ⟨L₁.tr (L₂.tr L₃), H₃, fun a ha => by
    rcases List.mem_cons.mp ha with rfl | ha
    · exact .inl (.head _)
    rcases List.mem_cons.mp ha with rfl | ha
    · exact .inr (get_none_of_size (by rw [← hsz]; exact Nat.le_succ _))
    · cases List.mem_singleton.mp ha
      exact .inr (get_none_of_size (by rw [← hsz]; exact Nat.le_refl _)), Nat.zero_le _⟩
  have rmo : ∀ (c c' : Code) (k : Result → Sem PySem.Fin) (h : Bool) (l : List Value) (p : Pos), c.weight = 0 → c.cUnits = 0 → c'.weight = 1 → c'.cUnits = 3 → Rm (A'.in1.over c [Frame.ret k none h l c' p []]) 1 := by
    intro c c' k h l p h1 h2 h3 h4
    refine ⟨rm'.hd, ?_, ?_⟩
    · have := rm'.dp
      show A'.depth + (c'.weight + 0) + c.weight + 1 < _
      omega
    · have := rm'.un
      show A'.units + 1 + (c'.cUnits + 0) + c.cUnits + 8 * 1 + 8 < _
      omega
  have rmf : ∀ (c' : Code), c'.weight = 1 → c'.cUnits = 3 → Rm (A'.in1.over c' []) 1 := by
    intro c' h3 h4
    refine ⟨rm'.hd, ?_, ?_⟩
    · have := rm'.dp
      show A'.depth + 0 + c'.weight + 1 < _
      omega
    · have := rm'.un
      show A'.units + 1 + 0 + c'.cUnits + 8 * 1 + 8 < _
      omega
  have hbs : (Str.ofString "\\") = ⟨#[92]⟩ := by rfl
  refine gen_loop (L := L) (by rfl) (by rfl) (by rfl) (by rfl) ?_ ?_ ?_ x.cps.size 0 false 0 0 s'' _ g₃ rfl (Nat.zero_le _) rfl lr₀
  · exact rm'.hd
  · intro i ch esc pos j s₀ s g hch hT lr ih
    have hT1 : ∀ {p st rest}, (TT x).drop j = (p, st) :: rest → (TT x).drop (j + 1) = rest ∧ siteAt x (j + 1) = st ∧ j + 1 ≤ (TT x).length := by
      intro p st rest h
      refine ⟨?_, ?_, ?_⟩
      · rw [← List.drop_drop (i := 1), h]; rfl
      · refine siteAt_some (p := p) ?_
        have : (((TT x).drop j)[0]?) = some (p, st) := by rw [h]; rfl
        simpa using this
      · have := congrArg List.length h
        simp at this
        omega
    refine seg_execs_cons (seg_If (Env.noE (PT.bval (b := esc) (by walk_at "nm") (by intro _; rfl) _ (rmo _ _ _ _ _ _ rfl rfl rfl rfl) g s _ lr.hs fun g₄ s₄ L₄ H₄ => ?_)))
    have lr₄ : LR w x t L (sz + 1) sz j _ s₀ s₄ g₄ := ⟨lr.le.tr L₄, H₄, lr.ks, lr.jl⟩
    cases esc with
    | true =>
      rw [if_pos rfl]
      obtain ⟨hT', hst, hjl⟩ := hT1 hT
      refine seg_execs_cons (seg_yield_site hT lr₄ (PL.cons (by walk_at "nm") (PL.cons (PE.as (PE.bin PE.cstr (by walk_at "nm") (OP.add_str (sizeLine_ge (Nat.le_trans (m := 2) (Nat.le_of_eq (by rfl)) (by decide))))) (by rfl)) PL.nil (by rfl)) (by rfl)) (rmo _ _ _ _ _ _ rfl rfl rfl rfl) ?_ ?_ (by rfl) (by rfl) (by rfl) (by rfl) (by rfl) ?_)
      · intro g₅ s₅ H₅
        exact H₅.weaken (i := 0) (a := L) rfl (by
          intro y hy
          simp only [List.mem_cons, List.not_mem_nil, or_false] at hy
          rcases hy with rfl | rfl | rfl <;> rfl)
      · exact fun a h => h
      · intro s₅ h₅
        unfold RunInv at h₅
        refine seg_ST (ST.assign PE.cbool (SN.loc (i := 0) (by rfl) (by rfl) (by rfl)) (by rfl)) (rmo _ _ _ _ _ _ rfl rfl rfl rfl) h₅ fun g₆ s₆ L₆ H₆ => ?_
        refine seg_execs_nil (seg_execs_nil (seg_again rfl (ih false (j + 1) s₅ s₆ g₆ hT' ⟨by rw [hst]; exact L₆, ?_, by rw [hst]; exact fun a h => .inl h, hjl⟩)))
        exact H₆.weaken (i := 0) (a := L) rfl (by
          intro y hy
          simp only [List.mem_cons, List.not_mem_nil, or_false] at hy
          rcases hy with rfl | rfl | rfl <;> rfl)
    | false =>
      rw [if_neg (by decide)]
      refine seg_execs_cons (seg_If (Env.noE (PT.cmp (by walk_at "nm") PE.cstr OP.eq_str (by rfl) _ (rmo _ _ _ _ _ _ rfl rfl rfl rfl) g₄ s₄ _ H₄ fun g₅ s₅ L₅ H₅ => ?_)))
      have lr₅ : LR w x t L (sz + 1) sz j _ s₀ s₅ g₅ := ⟨lr₄.le.tr L₅, H₅, lr.ks, lr.jl⟩
      by_cases hc : ch = 92
      · subst hc
        rw [if_pos (by rfl)]
        refine seg_ST (ST.assign PE.cbool (SN.loc (i := 0) (by rfl) (by rfl) (by rfl)) (by rfl)) (rmo _ _ _ _ _ _ rfl rfl rfl rfl) H₅ fun g₆ s₆ L₆ H₆ => ?_
        refine seg_execs_nil (seg_execs_nil (seg_execs_nil (seg_again rfl (ih true j s₀ s₆ g₆ hT ⟨lr₅.le.tr L₆, ?_, lr.ks, lr.jl⟩))))
        exact H₆.weaken (i := 0) (a := L) rfl (by
          intro y hy
          simp only [List.mem_cons, List.not_mem_nil, or_false] at hy
          rcases hy with rfl | rfl | rfl <;> rfl)
      · have hne : ((⟨#[ch]⟩ : Str) == Str.ofString "\\") = false := by
          rw [hbs]; exact beq_eq_false_iff_ne.mpr fun e => hc (by injection e with e; simpa using e)
        rw [hne, if_neg (by decide)]
        have hT₂ : (TT x).drop j = ((i, [ch]), .mid (i + 1) false i) :: tr (x.cps.toList.drop (i + 1)) (i + 1) false i := by
          rw [hT]; show (if ch = 92 then _ else _) = _; rw [if_neg hc]
        obtain ⟨hT', hst, hjl⟩ := hT1 hT₂
        refine seg_execs_cons (seg_yield_site hT₂ lr₅ (PL.cons (by walk_at "nm") (PL.cons (by walk_at "nm") PL.nil (by rfl)) (by rfl)) (rmo _ _ _ _ _ _ rfl rfl rfl rfl) ?_ ?_ (by rfl) (by rfl) (by rfl) (by rfl) (by rfl) ?_)
        · intro g₆ s₆ H₆
          exact H₆.weaken (i := 0) (a := L) rfl (by
            intro y hy
            simp only [List.mem_cons, List.not_mem_nil, or_false] at hy
            rcases hy with rfl | rfl | rfl <;> rfl)
        · exact fun a h => h
        · intro s₆ h₆
          refine seg_execs_nil (seg_execs_nil (seg_execs_nil (seg_again rfl (ih false (j + 1) s₆ s₆ _ hT' ⟨by rw [hst]; exact Le.rfl, h₆, by rw [hst]; exact fun a h => .inl h, hjl⟩))))
  · intro esc pos j s₀ s g hT lr
    refine seg_leaf (.ok .next) ?_
    change Seg _ _ _ _ _ _ _ (Sem.wrap _ _ _ _ (execs [_] _)) _ _
    refine seg_execs_cons (seg_If (Env.noE (PT.bval (b := esc) (by walk_at "nm") (by intro _; rfl) _ (rmf _ rfl rfl) g s _ lr.hs fun g₄ s₄ L₄ H₄ => ?_)))
    have lr₄ : LR w x t L (sz + 1) sz j _ s₀ s₄ g₄ := ⟨lr.le.tr L₄, H₄, lr.ks, lr.jl⟩
    cases esc with
    | true =>
      rw [if_pos rfl]
      have hjK : (TT x).length - (j + 1) = 0 ∧ (TT x).length = j + 1 := by
        have := congrArg List.length hT
        simp at this
        omega
      have hst : siteAt x (j + 1) = .fin := siteAt_some (p := (pos, [92])) (by
        have : (((TT x).drop j)[0]?) = some ((pos, [92]), Site.fin) := by rw [hT]; rfl
        simpa using this)
      refine seg_execs_cons (seg_yield_site (p := (pos, [92])) hT lr₄ (PL.cons (by walk_at "nm") (PL.cons PE.cstr PL.nil (by rfl)) (by rfl)) (rmf _ rfl rfl) ?_ ?_ (by rfl) (by rfl) (by rfl) (by rfl) (by rfl) ?_)
      · intro g₅ s₅ H₅
        exact H₅.weaken (i := 0) (a := L) rfl (by intro y hy; cases hy)
      · exact fun a h => h
      · intro s₅ h₅
        refine seg_execs_nil (seg_execs_nil (seg_end (.ok (.ret .none)) ⟨rfl, ?_⟩))
        refine ⟨hjK.1, _, ?_, h₅⟩
        rw [hjK.2, hst]; exact Le.rfl
    | false =>
      rw [if_neg (by decide)]
      have hjK : (TT x).length ≤ j := by
        have := congrArg List.length hT
        simp at this
        omega
      refine seg_execs_nil (seg_execs_nil (seg_end (.ok (.ret .none)) ⟨rfl, ?_⟩))
      refine ⟨by omega, g₄, ?_, H₄.weaken (i := 0) (a := L) rfl (by intro y hy; cases hy)⟩
      have hj : j = (TT x).length := Nat.le_antisymm lr.jl hjK
      rw [← hj]; exact lr₄.le
end
set_option maxHeartbeats 1000000
structure Xt (os os' : Ext) : Prop where
  o : os'.1 = os.1
  b : AllBare os.2 → AllBare os'.2
theorem Xt.rfl {os : Ext} : Xt os os := ⟨Eq.refl _, id⟩
theorem Xt.tr {a b c : Ext} (x : Xt a b) (y : Xt b c) : Xt a c := ⟨y.o.trans x.o, y.b ∘ x.b⟩
theorem Xt.push {os : Ext} {gs : GenState} (h : gs.bare = true) : Xt os (os.1, os.2.push gs) := ⟨Eq.refl _, fun b => b.push h⟩
theorem Xt.set {os : Ext} {i : Nat} {gs : GenState} (h : gs.bare = true) : Xt os (os.1, os.2.setIfInBounds i gs) := ⟨Eq.refl _, fun b y hy => by
  obtain ⟨j, hj, rfl⟩ := Array.mem_iff_getElem.mp hy
  have hj' : j < os.2.size := by simpa using hj
  show (os.2.setIfInBounds i gs)[j].bare = true
  rw [Array.getElem_setIfInBounds hj']
  split
  · exact h
  · exact b _ (Array.getElem_mem _)⟩

section
variable {w : World} {os : Ext} {n : Nat} {env : Env} {M : Led} {pos : Pos}
theorem iterGen {f y : Str} {np yp : Pos} {x : Str} (hfn : PE w os n env M (.Name f np) (.val (.ref 45))) (hkp : keepIn (KF w) (.ref 45) = true) (ha : PE w os n env M (.Name y yp) (.str x)) (hx : x.cps.all (· < 128) = true)
    {A : Around} (rm : Rm A n) (hn : 3 ≤ n) {g : Heap} {s : Shared} {Q : Value → Shared → Prop} (H : HS w os g M s)
    (k : ∀ t a L gs g' s', Le g g' → HS w (os.1, os.2.push gs) g' (M ++ MgS L 0 0 x t .start) s' → g'.IsGen a os.2.size → gs.bare = true →
      (∀ A', Rm A' 3 → ∀ s'', RunInv w x t L 0 0 .start s'' → gs.Goes (model PRG w) A'.in1 (RG w x t L (s''.heap.objs.size + 1) s''.heap.objs.size) (YG w x t L (s''.heap.objs.size + 1) s''.heap.objs.size) (TT x).length (.send .none) s'') → Q (.ref a) s') :
    wpAny (model PRG w) A (eval (.Call (.Name f np) [.Name y yp] [] pos) env) Q NoE s :=
  wpAny_Call_NameR (hfn A rm g s _ H fun v g₁ s₁ L₁ H₁ r₁ => by
    cases r₁
    exact callWith_K H₁.bs.k hkp (PL.cons ha PL.nil (by rfl) A rm g₁ s₁ _ H₁ fun vs g₂ s₂ L₂ H₂ r₂ => ⟨H₂.kin, by
      cases r₂ with | cons r₁ r₂ =>
      cases r₂
      cases r₁ with | str _ t =>
      exact iter_call (rm.le hn) H₂ hx fun a L gs g' s' L' H' h1 h2 h3 => k t a L gs g' s' (L₁.tr (L₂.tr L')) H' h1 h2 h3⟩) (by rfl) (by rfl))

noncomputable def items (x : Str) : List (Nat × List Nat) := (TT x).map (·.1)
noncomputable def foldG {σ : Type} (step : σ → Nat × List Nat → Except PV σ) : σ → List (Nat × List Nat) → Except PV σ
  | a, [] => .ok a
  | a, p :: ps => match step a p with
    | .ok b => foldG step b ps
    | .error r => .error r

noncomputable def GAt (w : World) (A : Around) (x : Str) (t : Tok) (L a gi : Nat) (j : Nat) (os : Ext) (g : Heap) (M : Led) (s : Shared) : Prop :=
  ∃ e it gs, g.IsGen a gi ∧ os.2[gi]? = some gs ∧ HS w os g (M ++ MgS L e it x t (siteAt x j)) s ∧
    gs.Goes (model PRG w) A.in1 (RG w x t L e it) (YG w x t L e it) ((TT x).length - j) (.send .none) (s.setGen gi .running)


theorem noTup_gen {A : Around} {s : Shared} {a gi : Nat} {tgt : Expr} {v : Value} {Q : Unit → Shared → Prop} (h : s.heap.IsGen a gi) (hq : Q () s) : wpAny (model PRG w) A (letOwnedTupleGo tgt (.ref a) v) Q NoE s := by
  obtain ⟨o, nm, qn, ho, hc, hd, hs⟩ := h
  exact noTup_of ho hc (by decide) hq
theorem itemPV_eq (p : Nat × List Nat) : itemPV p = .tup [.int p.1, .str ⟨p.2.toArray⟩] := rfl

theorem tr_length : ∀ (l : List Nat) (i : Nat) (esc : Bool) (pos : Nat), (tr l i esc pos).length ≤ l.length + 1
  | [], _, true, _ => by simp [tr]
  | [], _, false, _ => by simp [tr]
  | c :: cs, i, true, pos => by
    have := tr_length cs (i + 1) false i
    simp only [tr, List.length_cons]; omega +splitNatSub
  | c :: cs, i, false, pos => by
    have h1 := tr_length cs (i + 1) false i
    have h2 := tr_length cs (i + 1) true i
    unfold tr
    split
    · simp only [List.length_cons]; omega +splitNatSub
    · simp only [List.length_cons]; omega +splitNatSub
theorem TT_length (x : Str) : (TT x).length ≤ x.length + 1 := by
  have := tr_length x.cps.toList 0 false 0
  have e : x.length = x.cps.toList.length := by simp [Str.length]
  rw [e]; exact this

theorem forGen {σ : Type} {A : Around} (rm : Rm A n) {x : Str} {t : Tok} {L a gi : Nat} {Mσ : σ → Led} {asg : σ → Nat × List Nat → Led} {M' : Led} {step : σ → Nat × List Nat → Except PV σ} {Q : Result → Shared → Prop}
    {k₁ : Nat} {tp px py : Pos} {u v : Str} {body : List Stmt} {os₀ : Ext} {g₀ : Heap} {F : Except PV σ}
    (hasg : ∀ a p os' G, ∃ M₁, SN w os' env (Mσ a ++ G) u (.int p.1) M₁ ∧ SN w os' env M₁ v (.str ⟨p.2.toArray⟩) (asg a p ++ G))
    (Iv : Nat → σ → Prop) (hIv : ∀ j a p b, Iv j a → step a p = .ok b → Iv (j + 1) b)
    (hb : ∀ a p j os' G (g : Heap) (s : Shared) (Q : Flow → Shared → Prop), j < (TT x).length → Iv j a → HS w os' g (asg a p ++ G) s → (∀ b, step a p = .ok b → ∀ g' s', Le g g' → HS w os' g' (Mσ b ++ G) s' → Q .next s') →
      (∀ r, step a p = .error r → ∀ z g' s', Le g g' → HS w os' g' (M' ++ G) s' → Rd g' z r → Q (.ret z) s') → wpAny (model PRG w) A (execs body env) Q NoE s)
    (hok : ∀ os' g' s' b, Iv (TT x).length b → F = .ok b → Xt os₀ os' → Le g₀ g' → HS w os' g' (Mσ b) s' → Q (.ok .next) s')
    (her : ∀ os' g' s' r z, F = .error r → Xt os₀ os' → Le g₀ g' → HS w os' g' M' s' → Rd g' z r → Q (.ok (.ret z)) s')
    (j : Nat) (c : σ) (os : Ext) (g : Heap) (s : Shared) (hX : Xt os₀ os) (hL : Le g₀ g) (h : GAt w A x t L a gi j os g (Mσ c) s) (hj : j ≤ (TT x).length) (hIj : Iv j c) (hF : foldG step c ((items x).drop j) = F) :
    codeAny (model PRG w) A (.forLoop (.Tuple [.Name u px, .Name v py] k₁ tp) (.ref a) body [] env) Q s := by
  refine forLoopG (fun m s => ∃ j c os g, m = (TT x).length - j ∧ j ≤ (TT x).length ∧ Xt os₀ os ∧ Le g₀ g ∧ GAt w A x t L a gi j os g (Mσ c) s ∧ Iv j c ∧ foldG step c ((items x).drop j) = F) ?_ ((TT x).length - j) ⟨j, c, os, g, rfl, hj, hX, hL, h, hIj, hF⟩
  rintro m s ⟨j, c, os, g, rfl, hj, hX, hL, ⟨e, it, gs, hG, hgs, H, hgo⟩, hIj, hF⟩
  refine gen_draw rm hG hgs H hj hgo ?_ ?_
  · intro p st y g₁ s₁ gs₁ hget L₁ H₁ r₁ hb₁ hgo₁
    refine noTup_gen (hG.keeps fun b o h => H₁.keep _ _ (L₁ _ _ h)) ?_
    obtain ⟨M₁, hn1, hn2⟩ := hasg c p (os.1, os.2.setIfInBounds gi gs₁) (MgS L e it x t st)
    rw [itemPV_eq] at r₁
    refine assign_pair hn1 hn2 rm.hd H₁ r₁ fun g₂ s₂ L₂ H₂ => ?_
    have hd : (items x).drop j = p :: (items x).drop (j + 1) := by
      have hlt := (List.getElem?_eq_some_iff.mp hget).1
      have hl : j < (items x).length := by simpa [items] using hlt
      rw [List.drop_eq_getElem_cons hl]
      congr 1
      have := List.getElem?_eq_getElem hl
      have h2 : (items x)[j]? = some p := by unfold items; rw [List.getElem?_map, hget]; rfl
      rw [h2] at this
      exact (Option.some.inj this).symm
    rw [hd] at hF
    have hX' : Xt os₀ (os.1, os.2.setIfInBounds gi gs₁) := hX.tr (Xt.set hb₁)
    have hjlt := (List.getElem?_eq_some_iff.mp hget).1
    refine hb c p j _ _ g₂ s₂ _ hjlt hIj H₂ ?_ ?_
    · intro b hs g₃ s₃ L₃ H₃
      refine ⟨(TT x).length - (j + 1), by omega +splitNatSub, j + 1, b, _, g₃, rfl, hjlt, hX', hL.tr (L₁.tr (L₂.tr L₃)), ⟨e, it, gs₁, hG.keeps fun b o h => L₃ _ _ (L₂ _ _ (L₁ _ _ h)), ?_, ?_, ?_⟩, hIv j c p b hIj hs, ?_⟩
      · have := (Array.getElem?_eq_some_iff.mp hgs).1
        simp [this]
      · rw [siteAt_some hget]; exact H₃
      · refine hgo₁ _ ?_
        have := (H₃.setGen gi .running)
        exact this.run
      · show foldG step b _ = F
        rw [← hF, foldG, hs]
    · intro r hs z g₃ s₃ L₃ H₃ r₃
      obtain ⟨g₄, L₄, H₄, -⟩ := H₃.drop (M' := M') (List.sublist_append_left _ _)
      refine her _ g₄ s₃ r z ?_ hX' (hL.tr (L₁.tr (L₂.tr (L₃.tr L₄)))) H₄ (r₃.mono L₄)
      rw [← hF, foldG, hs]
  · intro g₁ s₁ hjK L₁ H₁
    refine wpAny_execs_nil (hok _ g₁ s₁ c (hjK ▸ hIj) ?_ (hX.tr (Xt.set rfl)) (hL.tr L₁) H₁)
    have : (items x).drop j = [] := List.drop_eq_nil_of_le (by simp [items]; omega +splitNatSub)
    rw [this] at hF
    exact hF.symm

theorem X.forGen {σ : Type} {A : Around} (rm : Rm A n) (hn : 3 ≤ n) {x : Str} {Mσ : σ → Led} {asg : σ → Nat × List Nat → Led} {M' : Led} {step : σ → Nat × List Nat → Except PV σ} {Q : Flow → Shared → Prop} {c : σ}
    {k₁ : Nat} {tp px py : Pos} {u v f y : Str} {np yp cp : Pos} {body rest : List Stmt} {g : Heap} {s : Shared}
    (hfn : PE w os n env (Mσ c) (.Name f np) (.val (.ref 45))) (hkp : keepIn (KF w) (.ref 45) = true) (ha : PE w os n env (Mσ c) (.Name y yp) (.str x)) (hx : x.cps.all (· < 128) = true)
    (hasg : ∀ a p os' G, ∃ M₁, SN w os' env (Mσ a ++ G) u (.int p.1) M₁ ∧ SN w os' env M₁ v (.str ⟨p.2.toArray⟩) (asg a p ++ G))
    (Iv : Nat → σ → Prop) (hIv : ∀ j a p b, Iv j a → step a p = .ok b → Iv (j + 1) b) (hI0 : Iv 0 c)
    (hb : ∀ a p j os' G (g : Heap) (s : Shared) (Q : Flow → Shared → Prop), j < (TT x).length → Iv j a → HS w os' g (asg a p ++ G) s → (∀ b, step a p = .ok b → ∀ g' s', Le g g' → HS w os' g' (Mσ b ++ G) s' → Q .next s') →
      (∀ r, step a p = .error r → ∀ z g' s', Le g g' → HS w os' g' (M' ++ G) s' → Rd g' z r → Q (.ret z) s') → wpAny (model PRG w) A (execs body env) Q NoE s)
    (H : HS w os g (Mσ c) s)
    (hok : ∀ os' g' s' b, Iv (TT x).length b → foldG step c (items x) = .ok b → Xt os os' → Le g g' → HS w os' g' (Mσ b) s' → wpAny (model PRG w) A (execs rest env) Q NoE s')
    (her : ∀ os' g' s' r z, foldG step c (items x) = .error r → Xt os os' → Le g g' → HS w os' g' M' s' → Rd g' z r → Q (.ret z) s') :
    wpAny (model PRG w) A (execs (.For (.Tuple [.Name u px, .Name v py] k₁ tp) (.Call (.Name f np) [.Name y yp] [] cp) body [] pos :: rest) env) Q NoE s := by
  refine wpAny_execs_cons (wpAny_For ?_ (by intro v; rfl))
  refine iterGen hfn hkp ha hx rm hn H fun t a L gs g₁ s₁ L₁ H₁ hG hb₁ hgo => ?_
  refine wpAny_pyIter_gen (hG.keeps fun b o h => H₁.keep _ _ h) ?_
  have hgs : (os.2.push gs)[os.2.size]? = some gs := by simp
  exact Mine.forGen (Q := fun r s' => match r with
      | .ok f => (match f with | .next => wpAny (model PRG w) A (execs rest env) Q NoE s' | f => Q f s')
      | .error e => cameBackBy (model PRG w) A env NoE e s') rm (F := foldG step c (items x)) hasg Iv hIv hb hok her 0 c (os.1, os.2.push gs) g₁ s₁ (Xt.push hb₁) L₁
    ⟨s₁.heap.objs.size + 1, s₁.heap.objs.size, gs, hG, hgs, H₁, hgo A (rm.le hn) _ (H₁.setGen os.2.size .running).run⟩ (Nat.zero_le _) hI0 rfl
end
set_option maxHeartbeats 1000000
section
variable {w : World} {os : Ext} {M : Led}
noncomputable def shiftS (ns : List Int) (m : Nat) : Int := (ns.map fun c => Int.fmod (c + (m : Int)) 4).sum
noncomputable def hopelessI (ns : List Int) : Bool := decide (ns.sum < minI ((List.range 4).map fun m => shiftS ns m))
theorem small_mod {α : Type} (ns : List α) (f : α → Int) (h : ns.length ≤ 1000) : Small (ns.map fun c => Int.fmod (f c) 4) := ⟨fun x hx => by
  obtain ⟨y, _, rfl⟩ := List.mem_map.mp hx
  have := Int.fmod_eq_emod_of_nonneg (f y) (show (0 : Int) ≤ 4 by decide)
  rw [this]; omega, by simpa using h⟩
theorem hopeless_ok {ns : List Int} (hs : Small ns) : OP w os 6 M (cf (.ref 286)) [.list (ns.map .int)] (.bool (hopelessI ns)) := by
  intro A rm g s Q vs H r k
  cases r with | cons r₁ r =>
  cases r
  refine enterC (n := 5) (fa := 286) (vars := []) (cv := fun _ => some (.list (ns.map .int))) (by walk_at "kis") (by walk_at "kis") (by rfl) (by rfl) (by decide +kernel) ?_ ?_ rm H ?_
  · intro x p e; cases e
  · intro x hx o ho
    cases List.mem_singleton.mp (show x ∈ [Str.ofString "purses"] from hx)
    exact ⟨_, ho, r₁⟩
  · intro L s' g' rm' L' H'
    change HS w os g' ((L, .frame []) :: (L + 1, .cell (some (.list (ns.map .int)))) :: M) s' at H'
    refine X.ret (p := .bool (hopelessI ns)) ?_ rm' H' ?_
    · refine PE.cmp (p := .int (minI ((List.range 4).map fun m => shiftS ns m))) (q := .int ns.sum) ?_ ?_ OP.gt_int (by rfl)
      · refine PE.callB (by walk_at "nm") (by intro a; exact nofun) (PL.cons ?_ PL.nil (by rfl)) (OP.min (LV.imm (ps := ((List.range 4).map fun m => shiftS ns m).map .int)) (by simp)) (by rfl) (by rfl)
        rw [List.map_map]
        refine PE.lmapC (cl := [(Str.ofString "purses", L + 1)]) (enc := fun i : Nat => PV.int i) (ps := List.range 4) ?_ (IterOf.rng (m := 4) (by decide) (by decide)) (by simp [sizeLine]) (by intro v; rfl) (by rfl) (by rfl) (by intro k; rfl) (by intro h; rfl) (by decide +kernel) (by rfl) ?_
        · exact PE.callB (by walk_at "nm") (by intro a; exact nofun) (PL.cons PE.cint PL.nil (by rfl)) OP.range1 (by rfl) (by rfl)
        · intro m hm I e D l C c
          refine PE.callB (by walk_at "nm") (by intro a; exact nofun) (PL.cons ?_ PL.nil (by rfl)) (OP.sum (LV.imm (ps := (ns.map fun c => Int.fmod (c + (m : Int)) 4).map .int)) (small_mod ns _ hs.2)) (by rfl) (by rfl)
          rw [List.map_map]
          refine PE.lmap (cl := [(Str.ofString "more", c)]) (enc := PV.int) (ps := ns) (by walk_at "nm") IterOf.list ?_ (by intro v; rfl) (by rfl) (by rfl) (by decide +kernel) (by decide +kernel) (by rfl) ?_
          · have := hs.2; simp [sizeLine]; omega
          · intro x hx I e D l C
            exact PE.bin (PE.bin (by walk_at "nm") (by walk_at "nm") OP.add_int) PE.cint (OP.mod_int (by decide))
      · refine PE.callB (by walk_at "nm") (by intro a; exact nofun) (PL.cons (by walk_at "nm") PL.nil (by rfl)) (OP.sum LV.imm hs) (by rfl) (by rfl)
    · intro v g'' s'' L'' H'' r
      obtain ⟨g₃, L₃, H₃, -⟩ := H''.drop (M' := M) ((List.sublist_cons_self _ _).trans (List.sublist_cons_self _ _))
      exact k v g₃ s'' (L'.tr (L''.tr L₃)) H₃ (r.mono L₃)
end
set_option maxHeartbeats 1000000
section
variable {w : World} {os : Ext} {n : Nat} {M : Led}
noncomputable def OPX (w : World) (os : Ext) (n : Nat) (M : Led) (t : List Value → Sem Value) (ps : List PV) (r : PV) : Prop :=
  ∀ (A : Around), Rm A n → ∀ (g : Heap) (s : Shared) (Q : Value → Shared → Prop) (vs : List Value), HS w os g M s → RdL g vs ps →
    (∀ os' v g' s', Xt os os' → Le g g' → HS w os' g' M s' → Rd g' v r → Q v s') → wpAny (model PRG w) A (t vs) Q NoE s

noncomputable abbrev SSt := Nat × Option Nat × List Str
noncomputable def sstep (x : Str) (a : SSt) (p : Nat × List Nat) : Except PV SSt :=
  if ((⟨p.2.toArray⟩ : Str) == Str.ofString "\"") = true then
    match a.2.1 with
    | .none => .ok (a.1, some p.1, a.2.2)
    | some o => .ok (p.1 + 1, .none, if ((a.1 : Int) != o) = true then a.2.2 ++ [subS x a.1 o] else a.2.2)
  else .ok a
noncomputable def opPV : Option Nat → PV | .none => .none | some o => .int o
noncomputable def stripOf (x : Str) : Except PV SSt → Str
  | .ok a => joinE (if a.1 < x.length then a.2.2 ++ [subS x a.1 x.length] else a.2.2)
  | .error _ => x
noncomputable def stripS (x : Str) : Str := if (34 ∈ x.cps.toList) then stripOf x (foldG (sstep x) (0, .none, []) (items x)) else x
noncomputable def Msp (L R : Addr) (M : Led) (x : Str) (a : SSt) : Led :=
  (R, .list (a.2.2.map .str)) :: (L, .frame [("start", .int a.1), ("open_pos", opPV a.2.1), ("result", .val (.ref R)), ("addr", .str x)]) :: M
noncomputable def Asp (L R : Addr) (M : Led) (x : Str) (a : SSt) (p : Nat × List Nat) : Led :=
  (R, .list (a.2.2.map .str)) :: (L, .frame [("ch", .str ⟨p.2.toArray⟩), ("pos", .int p.1), ("start", .int a.1), ("open_pos", opPV a.2.1), ("result", .val (.ref R)), ("addr", .str x)]) :: M

theorem subS_le (x : Str) (a b : Nat) : (subS x a b).length ≤ x.length := by
  have e : x.length = x.cps.toList.length := by simp [Str.length]
  have : (subS x a b).length = ((x.cps.toList.drop a).take (b - a)).length := by simp [subS, Str.length]
  rw [this, List.length_take, List.length_drop, e]; omega
theorem strip_ok {x : Str} (hx : x.cps.all (· < 128) = true) (hz : x.length ≤ 500) : OPX w os 6 M (cf (.ref 52)) [.str x] (.str (stripS x)) := by
  intro A rm g s Q vs H r k
  cases r with | cons r₁ r =>
  cases r
  refine enterC (n := 5) (fa := 52) (vars := [("addr", .str x)]) (cv := fun _ => .none) (by walk_at "kis") (by walk_at "kis") (by rfl) (by rfl) (by decide +kernel) (bv_cons (by rfl) r₁ bv_nil) ?_ rm H ?_
  · intro y hy o ho
    cases hy
  · intro L s' g' rm' L' H'
    change HS w os g' ((L, .frame [("addr", .str x)]) :: M) s' at H'
    refine X.if (PT.cmp PE.cstr (by walk_at "nm") (OP.notin1 (c := 34) (by rfl)) (by rfl)) rm' H' fun g₁ s₁ L₁ H₁ => ?_
    by_cases h34 : 34 ∉ x.cps.toList
    · rw [decide_eq_false h34, Bool.not_false, if_pos rfl]
      refine X.ret (by walk_at "nm") rm' H₁ fun v g₂ s₂ L₂ H₂ r₂ => ?_
      obtain ⟨g₃, L₃, H₃, -⟩ := H₂.drop (M' := M) (List.sublist_cons_self _ _)
      refine k os v g₃ s₂ Xt.rfl (L'.tr (L₁.tr (L₂.tr L₃))) H₃ ?_
      have : stripS x = x := by unfold stripS; rw [if_neg h34]
      rw [this]; exact r₂.mono L₃
    · replace h34 := Classical.byContradiction (fun q => h34 q)
      rw [decide_eq_true h34, Bool.not_true, if_neg Bool.false_ne_true]
      refine X.end ?_
      have hst : stripS x = stripOf x (foldG (sstep x) (0, .none, []) (items x)) := by unfold stripS; rw [if_pos h34]
      refine X.next (ST.assign PE.cint (SN.loc (i := 0) (by rfl) (by rfl) (by rfl)) (by rfl)) rm' H₁ fun g₂ s₂ L₂ H₂ => ?_
      refine X.next (ST.assign PE.cnone (SN.loc (i := 0) (by rfl) (by rfl) (by rfl)) (by rfl)) rm' H₂ fun g₃ s₃ L₃ H₃ => ?_
      refine X.newList (i := 0) PL.nil (by decide) (by rfl) (by rfl) (by rfl) (by rfl) rm' H₃ fun R g₄ s₄ L₄ H₄ => ?_
      have H₅ : HS w os g₄ (Msp L R M x (0, .none, [])) s₄ := H₄.weaken (i := 1) (a := L) rfl (wv_cons (by rfl) (wv_cons (by rfl) (wv_cons (by rfl) (wv_cons (by rfl) wv_nil))))
      refine X.forGen (Mσ := Msp L R M x) (asg := Asp L R M x) (M' := []) (step := sstep x) rm' (by decide) (by walk_at "nm") (by walk_at "kis") (by walk_at "nm") hx ?_ (fun j a => a.2.2.length ≤ j ∧ ∀ y ∈ a.2.2, y.length ≤ 500) ?_ ⟨Nat.zero_le _, fun _ h => absurd h List.not_mem_nil⟩ ?_ H₅ ?_ ?_
      · intro a p os' G
        exact ⟨_, SN.loc (i := 1) (by rfl) (by rfl) (by rfl), SN.loc (i := 1) (by rfl) (by rfl) (by rfl)⟩
      · rintro j ⟨st, op, res⟩ p b hj hs
        unfold sstep at hs
        dsimp only at hj
        split at hs
        · split at hs
          · cases hs; exact ⟨Nat.le_succ_of_le hj.1, hj.2⟩
          · cases hs; dsimp only; split
            · refine ⟨by rw [List.length_append]; simp; omega, fun y hy => ?_⟩
              rcases List.mem_append.mp hy with hy | hy
              · exact hj.2 y hy
              · cases List.mem_singleton.mp hy
                have := subS_le x st ‹Nat›
                omega
            · exact ⟨Nat.le_succ_of_le hj.1, hj.2⟩
        · cases hs; exact ⟨Nat.le_succ_of_le hj.1, hj.2⟩
      · rintro ⟨st, op, res⟩ p j os' G g₆ s₆ Q' hj hjr H₆ hn he
        have hrl : res.length ≤ 1000 := by
          have := TT_length x
          dsimp only at hjr
          omega
        change HS w os' g₆ ((R, .list (res.map .str)) :: (L, .frame [("ch", .str ⟨p.2.toArray⟩), ("pos", .int p.1), ("start", .int st), ("open_pos", opPV op), ("result", .val (.ref R)), ("addr", .str x)]) :: (M ++ G)) s₆ at H₆
        refine X.if (PT.cmp (by walk_at "nm") PE.cstr OP.eq_str (by rfl)) rm' H₆ fun g₇ s₇ L₇ H₇ => ?_
        cases hq : ((⟨p.2.toArray⟩ : Str) == Str.ofString "\"") with
        | false =>
          rw [if_neg (by decide)]
          refine X.end (X.end ?_)
          refine hn (st, op, res) (by unfold sstep; rw [hq]; rfl) g₇ s₇ L₇ ?_
          exact H₇.weaken (i := 1) (a := L) rfl (wv_cons (by rfl) (wv_cons (by rfl) (wv_cons (by rfl) (wv_cons (by rfl) wv_nil))))
        | true =>
          rw [if_pos rfl]
          cases op with
          | none =>
            refine X.if (PT.cmp (by walk_at "nm") PE.cnone OP.noneIs (by rfl)) rm' H₇ fun g₈ s₈ L₈ H₈ => ?_
            rw [if_pos rfl]
            refine X.next (ST.assign (by walk_at "nm") (SN.loc (i := 1) (by rfl) (by rfl) (by rfl)) (by rfl)) rm' H₈ fun g₉ s₉ L₉ H₉ => ?_
            refine X.end (X.end (X.end ?_))
            refine hn (st, some p.1, res) (by unfold sstep; rw [hq]; rfl) g₉ s₉ (L₇.tr (L₈.tr L₉)) ?_
            exact H₉.weaken (i := 1) (a := L) rfl (wv_cons (by rfl) (wv_cons (by rfl) (wv_cons (by rfl) (wv_cons (by rfl) wv_nil))))
          | some o =>
            change HS w os' g₇ ((R, .list (res.map .str)) :: (L, .frame [("ch", .str ⟨p.2.toArray⟩), ("pos", .int p.1), ("start", .int st), ("open_pos", .int o), ("result", .val (.ref R)), ("addr", .str x)]) :: (M ++ G)) s₇ at H₇
            refine X.if (PT.cmp (by walk_at "nm") PE.cnone (OP.isNone (by intro g v r; cases r; nofun)) (by rfl)) rm' H₇ fun g₈ s₈ L₈ H₈ => ?_
            rw [if_neg (by decide)]
            refine X.next (M' := (R, .list ((if ((st : Int) != o) = true then res ++ [subS x st o] else res).map .str)) :: (L, .frame [("ch", .str ⟨p.2.toArray⟩), ("pos", .int p.1), ("start", .int st), ("open_pos", .int o), ("result", .val (.ref R)), ("addr", .str x)]) :: (M ++ G))
              (ST.ifTrue (PT.cmp (by walk_at "nm") (by walk_at "nm") OP.ne_int (by rfl)) (fun hb => ?_) (fun hb => ?_)) rm' H₈ fun g₉ s₉ L₉ H₉ => ?_
            · rw [if_pos hb, List.map_append]
              refine SS.cons (ST.exprX (PEX.meth (p := .val (.ref R)) (T := "list") (id := "list.append") (ps := [.str (subS x st o)]) (by walk_at "nm") (Ty.list (LV.mut (i := 0) rfl)) (PL.cons (PE.sliceAB (by walk_at "nm") (by walk_at "nm") (by walk_at "nm") (by omega) (by intro _ _; rfl)) PL.nil (by rfl))
                (OPM.append (i := 0) rfl (by simpa using hrl)) F.plainAttrs_list F.slot_list_append F.type_list_append (by rfl) (by rfl) (by rfl) (by rfl) (by rfl)) (by rfl) (by rfl)) SS.nil
            · rw [if_neg (by rw [hb]; decide)]
              exact SS.nil
            refine X.next (ST.assign (PE.bin (by walk_at "nm") PE.cint OP.add_int) (SN.loc (i := 1) (by rfl) (by rfl) (by rfl)) (by rfl)) rm' H₉ fun g₁₀ s₁₀ L₁₀ H₁₀ => ?_
            refine X.next (ST.assign PE.cnone (SN.loc (i := 1) (by rfl) (by rfl) (by rfl)) (by rfl)) rm' H₁₀ fun g₁₁ s₁₁ L₁₁ H₁₁ => ?_
            refine X.end (X.end (X.end ?_))
            refine hn (p.1 + 1, .none, _) (by unfold sstep; rw [hq]; rfl) g₁₁ s₁₁ (L₇.tr (L₈.tr (L₉.tr (L₁₀.tr L₁₁)))) ?_
            exact H₁₁.weaken (i := 1) (a := L) rfl (wv_cons (by rfl) (wv_cons (by rfl) (wv_cons (by rfl) (wv_cons (by rfl) wv_nil))))
      · rintro os' g₆ s₆ ⟨st, op, res⟩ hI hF hX L₆ H₆
        change HS w os' g₆ ((R, .list (res.map .str)) :: (L, .frame [("start", .int st), ("open_pos", opPV op), ("result", .val (.ref R)), ("addr", .str x)]) :: M) s₆ at H₆
        refine X.next (M' := (R, .list ((if st < x.length then res ++ [subS x st x.length] else res).map .str)) :: (L, .frame [("start", .int st), ("open_pos", opPV op), ("result", .val (.ref R)), ("addr", .str x)]) :: M)
              (ST.ifTrue (PT.cmp (by walk_at "nm") (PE.callB (by walk_at "nm") (by intro a; exact nofun) (PL.cons (by walk_at "nm") PL.nil (by rfl)) (OP.len_str (by omega)) (by rfl) (by rfl)) OP.lt_int (by rfl)) (fun hb => ?_) (fun hb => ?_)) rm' H₆ fun g₉ s₉ L₉ H₉ => ?_
        · rw [if_pos (by simpa using hb), List.map_append]
          refine SS.cons (ST.exprX (PEX.meth (p := .val (.ref R)) (T := "list") (id := "list.append") (ps := [.str (subS x st x.length)]) (by walk_at "nm") (Ty.list (LV.mut (i := 0) rfl)) (PL.cons (PE.sliceA (by walk_at "nm") (by walk_at "nm") (by omega) (by intro _ _; rfl)) PL.nil (by rfl))
                (OPM.append (i := 0) rfl (by have := TT_length x; have := hI.1; simp at this ⊢; omega)) F.plainAttrs_list F.slot_list_append F.type_list_append (by rfl) (by rfl) (by rfl) (by rfl) (by rfl)) (by rfl) (by rfl)) SS.nil
        · rw [if_neg (by simpa using hb)]
          exact SS.nil
        · refine X.ret (p := .str (joinE (if st < x.length then res ++ [subS x st x.length] else res))) ?_ rm' H₉ fun v g₁₀ s₁₀ L₁₀ H₁₀ r₁₀ => ?_
          · refine (PEX.meth (p := .str ⟨#[]⟩) (T := "str") (id := "str.join") (ps := [.val (.ref R)]) (PE.as PE.cstr (by rfl)) Ty.str (PL.cons (by walk_at "nm") PL.nil (by rfl)) (OP.joinE (LV.mut (i := 0) rfl) ?_ ?_).m
              F.plainAttrs_str F.slot_str_join F.type_str_join (by rfl) (by rfl) (by rfl) (by rfl) (by rfl)).pe
            · intro y hy
              split at hy
              · rcases List.mem_append.mp hy with hy | hy
                · have := hI.2 y hy; omega
                · cases List.mem_singleton.mp hy
                  have := subS_le x st x.length
                  omega
              · have := hI.2 y hy; omega
            · have := TT_length x
              have := hI.1
              dsimp only at this
              split
              · rw [List.length_append]; simp; omega
              · omega
          · obtain ⟨g₁₁, L₁₁, H₁₁, -⟩ := H₁₀.drop (M' := M) ((List.sublist_cons_self _ _).trans (List.sublist_cons_self _ _))
            refine k os' v g₁₁ s₁₀ hX (L'.tr (L₁.tr (L₂.tr (L₃.tr (L₄.tr (L₆.tr (L₉.tr (L₁₀.tr L₁₁)))))))) H₁₁ ?_
            rw [hst, hF]
            exact r₁₀.mono L₁₁
      · intro os' g₆ s₆ rr z hF hX L₆ H₆ r₆
        exfalso
        revert hF
        have : ∀ l c r, foldG (sstep x) c l ≠ .error r := by
          intro l
          induction l with
          | nil => intro c r h; cases h
          | cons p ps ih =>
            intro c r h
            unfold foldG at h
            split at h
            · exact ih _ _ h
            · rename_i q
              unfold sstep at q
              split at q
              · split at q <;> cases q
              · cases q
        exact this _ _ _
end
set_option maxHeartbeats 1000000
section
variable {w : World} {os : Ext} {n : Nat} {M M' : Led} {env : Env} {pos : Pos}
noncomputable def PEO (w : World) (os : Ext) (n : Nat) (env : Env) (M : Led) (e : Expr) (p : PV) : Prop :=
  ∀ (A : Around), Rm A n → ∀ (g : Heap) (s : Shared) (Q : Value → Shared → Prop), HS w os g M s →
    (∀ os' v g' s', Xt os os' → Le g g' → HS w os' g' M s' → Rd g' v p → Q v s') → wpAny (model PRG w) A (eval e env) Q NoE s
theorem PEO.callF {f : Str} {np : Pos} {a : Addr} (hfn : PE w os n env M (.Name f np) (.val (.ref a))) (hkp : keepIn (KF w) (.ref a) = true) {e : Expr} {es : List Expr} {ps : List PV} {r : PV}
    (ha : PL w os n env M pos (e :: es) ps) (hop : OPX w os n M (cf (.ref a)) ps r) (hs : starEach (e :: es) env = (false, eval e env) :: starEach es env)
    (hp : (backTo pos (starEach es env)).any (·.1) = false) : PEO w os n env M (.Call (.Name f np) (e :: es) [] pos) r :=
  fun A rm g s Q H k => wpAny_Call_NameR (hfn A rm g s _ H fun v g₁ s₁ L₁ H₁ r₁ => by
    cases r₁
    exact callWith_K H₁.bs.k hkp (ha A rm g₁ s₁ _ H₁ fun vs g₂ s₂ L₂ H₂ r₂ => ⟨H₂.kin, hop A rm g₂ s₂ _ vs H₂ r₂ fun os' v g₃ s₃ X₃ L₃ H₃ r₃ => k os' v g₃ s₃ X₃ (L₁.tr (L₂.tr L₃)) H₃ r₃⟩) hs hp)
theorem X.assignO {x : Str} {px : Pos} {e : Expr} {p : PV} {rest : List Stmt} (he : PEO w os n env M e p) (hs : ∀ os', SN w os' env M x p M') (hsw : swapsWith e (some (.Name x px)) pos.line env = pure false)
    {A : Around} (rm : Rm A n) {g : Heap} {s : Shared} {Q : Flow → Shared → Prop} (H : HS w os g M s)
    (k : ∀ os' g' s', Xt os os' → Le g g' → HS w os' g' M' s' → wpAny (model PRG w) A (execs rest env) Q NoE s') : wpAny (model PRG w) A (execs (.Assign [.Name x px] e pos :: rest) env) Q NoE s :=
  wpAny_execs_cons (wpAny_Assign_Name (he A rm g s _ H fun os' v g₁ s₁ X₁ L₁ H₁ r₁ => hs os' A g₁ s₁ _ v H₁ r₁ fun g₂ s₂ L₂ H₂ => k os' g₂ s₂ X₁ (L₁.tr L₂) H₂) hsw)

noncomputable def cstep (a : Int) (p : Nat × List Nat) : Except PV Int :=
  if ((⟨p.2.toArray⟩ : Str) == Str.ofString "(") = true then .ok (a + 1)
  else if ((⟨p.2.toArray⟩ : Str) == Str.ofString ")") = true then if decide (a - 1 < 0) = true then .error (.bool false) else .ok (a - 1)
  else .ok a
noncomputable def chkOf : Except PV Int → Bool
  | .ok a => a == 0
  | .error _ => false
noncomputable def chkS (x : Str) : Bool := chkOf (foldG cstep 0 (items (stripS x)))
noncomputable def Mck (L : Addr) (M : Led) (x : Str) (a : Int) : Led := (L, .frame [("opens", .int a), ("addr", .str x)]) :: M
noncomputable def Ack (L : Addr) (M : Led) (x : Str) (a : Int) (p : Nat × List Nat) : Led := (L, .frame [("ch", .str ⟨p.2.toArray⟩), ("pos", .int p.1), ("opens", .int a), ("addr", .str x)]) :: M

theorem check_ok {x : Str} (hx : x.cps.all (· < 128) = true) (hz : x.length ≤ 500) (hy : (stripS x).cps.all (· < 128) = true) : OPX w os 8 M (cf (.ref 59)) [.str x] (.bool (chkS x)) := by
  intro A rm g s Q vs H r k
  cases r with | cons r₁ r =>
  cases r
  refine enterC (n := 7) (fa := 59) (vars := [("addr", .str x)]) (cv := fun _ => .none) (by walk_at "kis") (by walk_at "kis") (by rfl) (by rfl) (by decide +kernel) (bv_cons (by rfl) r₁ bv_nil) ?_ rm H ?_
  · intro y hy o ho
    cases hy
  · intro L s' g' rm' L' H'
    change HS w os g' ((L, .frame [("addr", .str x)]) :: M) s' at H'
    refine X.assignO (PEO.callF (by walk_at "nm") (by walk_at "kis") (PL.cons (by walk_at "nm") PL.nil (by rfl)) (fun A rm => strip_ok hx hz A (rm.le (by decide))) (by rfl) (by rfl)) (fun os' => SN.loc (i := 0) (by rfl) (by rfl) (by rfl)) (by rfl) rm' H' fun os₁ g₁ s₁ X₁ L₁ H₁ => ?_
    refine X.next (ST.assign PE.cint (SN.loc (i := 0) (by rfl) (by rfl) (by rfl)) (by rfl)) rm' H₁ fun g₂ s₂ L₂ H₂ => ?_
    have H₃ : HS w os₁ g₂ (Mck L M (stripS x) 0) s₂ := H₂.weaken (i := 0) (a := L) rfl (wv_cons (by rfl) (wv_cons (by rfl) wv_nil))
    refine X.forGen (Mσ := Mck L M (stripS x)) (asg := Ack L M (stripS x)) (M' := M) (step := cstep) rm' (by decide) (by walk_at "nm") (by walk_at "kis") (by walk_at "nm") hy ?_ (fun _ _ => True) (fun _ _ _ _ _ _ => trivial) trivial ?_ H₃ ?_ ?_
    · intro a p os' G
      exact ⟨_, SN.loc (i := 0) (by rfl) (by rfl) (by rfl), SN.loc (i := 0) (by rfl) (by rfl) (by rfl)⟩
    · intro a p j os' G g₆ s₆ Q' _ _ H₆ hn he
      change HS w os' g₆ ((L, .frame [("ch", .str ⟨p.2.toArray⟩), ("pos", .int p.1), ("opens", .int a), ("addr", .str (stripS x))]) :: (M ++ G)) s₆ at H₆
      refine X.if (PT.cmp (by walk_at "nm") PE.cstr OP.eq_str (by rfl)) rm' H₆ fun g₇ s₇ L₇ H₇ => ?_
      cases hq : ((⟨p.2.toArray⟩ : Str) == Str.ofString "(") with
      | true =>
        rw [if_pos rfl]
        refine X.next (ST.aug (Nm.loc (i := 0) (by rfl) (by rfl) (by rfl) (by rfl)) PE.cint OP.iadd_int (SN.loc (i := 0) (by rfl) (by rfl) (by rfl))) rm' H₇ fun g₈ s₈ L₈ H₈ => ?_
        refine X.end (X.end ?_)
        refine hn (a + 1) (by unfold cstep; rw [hq]; rfl) g₈ s₈ (L₇.tr L₈) ?_
        exact H₈.weaken (i := 0) (a := L) rfl (wv_cons (by rfl) (wv_cons (by rfl) wv_nil))
      | false =>
        rw [if_neg (by decide)]
        refine X.if (PT.cmp (by walk_at "nm") PE.cstr OP.eq_str (by rfl)) rm' H₇ fun g₈ s₈ L₈ H₈ => ?_
        cases hq' : ((⟨p.2.toArray⟩ : Str) == Str.ofString ")") with
        | false =>
          rw [if_neg (by decide)]
          refine X.end (X.end (X.end ?_))
          refine hn a (by unfold cstep; rw [hq, hq']; rfl) g₈ s₈ (L₇.tr L₈) ?_
          exact H₈.weaken (i := 0) (a := L) rfl (wv_cons (by rfl) (wv_cons (by rfl) wv_nil))
        | true =>
          rw [if_pos rfl]
          refine X.next (ST.aug (Nm.loc (i := 0) (by rfl) (by rfl) (by rfl) (by rfl)) PE.cint OP.isub_int (SN.loc (i := 0) (by rfl) (by rfl) (by rfl))) rm' H₈ fun g₉ s₉ L₉ H₉ => ?_
          refine X.if (PT.cmp (by walk_at "nm") PE.cint OP.lt_int (by rfl)) rm' H₉ fun g₁₀ s₁₀ L₁₀ H₁₀ => ?_
          cases hq'' : decide (a - 1 < 0) with
          | true =>
            rw [if_pos rfl]
            refine X.ret PE.cbool rm' H₁₀ fun v g₁₁ s₁₁ L₁₁ H₁₁ r₁₁ => ?_
            obtain ⟨g₁₂, L₁₂, H₁₂, -⟩ := H₁₁.drop (M' := M ++ G) (List.sublist_cons_self _ _)
            exact he (.bool false) (by unfold cstep; rw [hq, hq', hq'']; rfl) v g₁₂ s₁₁ (L₇.tr (L₈.tr (L₉.tr (L₁₀.tr (L₁₁.tr L₁₂))))) H₁₂ (r₁₁.mono L₁₂)
          | false =>
            rw [if_neg (by decide)]
            refine X.end (X.end (X.end (X.end ?_)))
            refine hn (a - 1) (by unfold cstep; rw [hq, hq', hq'']; rfl) g₁₀ s₁₀ (L₇.tr (L₈.tr (L₉.tr L₁₀))) ?_
            exact H₁₀.weaken (i := 0) (a := L) rfl (wv_cons (by rfl) (wv_cons (by rfl) wv_nil))
    · intro os' g₆ s₆ a _ hF hX L₆ H₆
      change HS w os' g₆ ((L, .frame [("opens", .int a), ("addr", .str (stripS x))]) :: M) s₆ at H₆
      refine X.ret (PE.cmp (by walk_at "nm") PE.cint OP.eq_int (by rfl)) rm' H₆ fun v g₇ s₇ L₇ H₇ r₇ => ?_
      obtain ⟨g₈, L₈, H₈, -⟩ := H₇.drop (M' := M) (List.sublist_cons_self _ _)
      refine k os' v g₈ s₇ (X₁.tr hX) (L'.tr (L₁.tr (L₂.tr (L₆.tr (L₇.tr L₈))))) H₈ ?_
      have : chkS x = (a == 0) := by unfold chkS; rw [hF]; rfl
      rw [this]; exact r₇.mono L₈
    · intro os' g₆ s₆ r z hF hX L₆ H₆ r₆
      refine k os' z g₆ s₆ (X₁.tr hX) (L'.tr (L₁.tr (L₂.tr L₆))) H₆ ?_
      have e1 : chkS x = false := by unfold chkS; rw [hF]; rfl
      rw [e1]
      have : ∀ l c r, foldG cstep c l = .error r → r = .bool false := by
        intro l
        induction l with
        | nil => intro c r h; cases h
        | cons p ps ih =>
          intro c r h
          unfold foldG at h
          split at h
          · exact ih _ _ h
          · rename_i q
            cases h
            unfold cstep at q
            split at q
            · cases q
            · split at q
              · split at q
                · cases q; rfl
                · cases q
              · cases q
      rw [this _ _ _ hF] at r₆
      exact r₆
end
set_option maxHeartbeats 1000000
section
variable {w : World} {os : Ext} {n : Nat} {M M' : Led} {env : Env} {pos : Pos}
noncomputable def ch1 (c : Nat) : Str := ⟨#[c]⟩
structure Desk where
  (I dI P T dT Rf c D c' : Addr)
  fd : FuncData
  qual : Str
noncomputable def readBody (p : Nat → Pos) : Expr := .IfExp (.Name "signs" (p 0)) (.Call (.Attribute (.Name "signs" (p 1)) "pop" (p 2)) [.Constant (.int 0) 0 (p 3)] [] (p 4)) (.Constant (.str "") 0 (p 5)) (p 6)
noncomputable def RfP (qual : Str) (c c' : Addr) (o : Obj) : Prop := ∃ params p scope pm ctv, o = kla_obj "<lambda>" qual params (readBody p) scope [("signs", c)] pm c' ctv ∧
  (∀ v, bindArgs (kla_fn "<lambda>" qual params (readBody p) scope [("signs", c)] pm (.ref c') ctv) ⟨[v], []⟩ = pure [(Str.ofString "size", v)]) ∧ scope.kind = .function ∧ scope.isGenerator = false ∧ scope.isCoroutine = false ∧
  scope.names.lookup (Str.ofString "size") = some .local ∧ scope.names.lookup (Str.ofString "signs") = some .free ∧ (∀ x ∈ scope.names, x.2 ≠ .cell) ∧ ((p 2).endLine == (p 4).line) = true
noncomputable def codeE (qual : Str) : Ent := .is fun oc => ∃ vs tq, oc.data = .fields vs ∧ vs[1]? = some (.str qual tq)
noncomputable def wsp : Str := "\n\t\r "
noncomputable def deskL (d : Desk) (signs : List Nat) (ln : Int) (pb : List Str) : Led :=
  [(d.D, .list (signs.map fun c => .str (ch1 c))), (d.dI, .dict [("lineno", .int ln), ("instream", .val (.ref d.T)), ("whitespace", .str wsp), ("pushback", .val (.ref d.P))]), (d.P, .list (pb.map .str)), (d.I, instE 115 d.dI),
   (d.T, fnE (some d.dT) d.fd), (d.dT, .dict [("read", .val (.ref d.Rf))]), (d.Rf, .is (RfP d.qual d.c d.c')), (d.c, .cell (some (.val (.ref d.D)))), (d.c', codeE d.qual)]
noncomputable def hd1 : List Nat → Str | [] => ⟨#[]⟩ | c :: _ => ch1 c

theorem read_ok {d : Desk} {signs : List Nat} {ln : Int} {pb : List Str} (hz : signs.length ≤ 1000) {N : Led} : OPM w os (n + 1) (deskL d signs ln pb ++ N) (cf (.ref d.Rf)) [.int 1] (.str (hd1 signs)) (deskL d signs.tail ln pb ++ N) := by
  intro A rm g s Q vs H r k
  cases r with | cons r₁ r =>
  cases r
  cases r₁ with | int _ u =>
  obtain ⟨oR, hR, params, p, scope, pm, ctv, rfl, hb, hk, hgen, hco, hsz, hsg, hnc, hline⟩ := H.at_ (d.Rf, .is (RfP d.qual d.c d.c')) (List.mem_of_getElem? (i := 6) rfl)
  obtain ⟨oc, hc, cvs, tq, hc1, hc2⟩ := H.at_ (d.c', codeE d.qual) (List.mem_of_getElem? (i := 8) rfl)
  refine wpAny_call (kla_callFunE (by have := rm.dp; omega) hR rfl hco hgen rfl ⟨_, oc, cvs, tq, rfl, hc, hc1, hc2⟩ ?_)
  show wpAny _ _ (bindArgs (kla_fn _ _ _ _ _ _ _ _ _) ⟨[Value.int 1 u], []⟩) _ _ _
  rw [hb]
  refine wpAny_pure (wpAny_newFunctionEnv hnc (fun z hz => by cases List.mem_singleton.mp hz; exact hsz) (fun h' hn hs => ?_) hk)
  obtain ⟨g₁, L₁, H₁, -⟩ := H.new (a := s.heap.objs.size) (e := .frame []) (s' := { s with heap := h', toks := s.toks + 1 }) (get_none_of_size (Nat.le_refl _))
    (fun b o e => (hs.2 b (Nat.ne_of_lt (Heap.lt_size e))).trans (Heap.get?_push_of_some _ e)) (fun g' L _ => nsFrame hn fun _ _ e => nomatch e) rfl rfl
  refine ⟨H₁.lim, kla_codeExpr ?_⟩
  show wpAny _ (A.deeper (envX d.qual scope s.heap.objs.size d.Rf (.ref d.c') [("signs", d.c)])) (eval (readBody p) (envX d.qual scope s.heap.objs.size d.Rf (.ref d.c') [("signs", d.c)])) _ _ _
  have rm' := rm.deeper (envX d.qual scope s.heap.objs.size d.Rf (.ref d.c') [("signs", d.c)])
  have hnm : ∀ {px : Pos}, PE w os n (envX d.qual scope s.heap.objs.size d.Rf (.ref d.c') [("signs", d.c)]) ((s.heap.objs.size, Ent.frame []) :: (deskL d signs ln pb ++ N)) (.Name "signs" px) (.val (.ref d.D)) :=
    fun {px} => PE.name (Nm.fre (i := 8) hk hsg (by rfl) (by rfl) (by decide +kernel)) (by decide +kernel)
  refine wpAny_IfExp (Env.noE (PT.list hnm (LV.mut (i := 1) rfl) (by simp; omega) (by intro _; rfl) _ rm' g₁ _ _ H₁ fun g₂ s₂ L₂ H₂ => ?_))
  cases signs with
  | nil =>
    show wpAny _ _ _ _ _ _
    refine Env.noE (PE.cstr (x := "") _ rm' g₂ s₂ _ H₂ fun v g₃ s₃ L₃ H₃ r₃ => ?_)
    obtain ⟨g₄, L₄, H₄, -⟩ := H₃.drop (M' := deskL d [] ln pb ++ N) (List.sublist_cons_self _ _)
    exact k v g₄ s₃ (L₁.tr (L₂.tr (L₃.tr L₄))) H₄ (r₃.mono L₄)
  | cons c cs =>
    show wpAny _ _ _ _ _ _
    refine Env.noE (PEX.meth (p := .val (.ref d.D)) (T := "list") (id := "list.pop") (ps := [.int 0]) (r := .str (ch1 c)) (M' := (s.heap.objs.size, Ent.frame []) :: (deskL d cs ln pb ++ N)) hnm (Ty.list (LV.mut (i := 1) rfl)) (PL.cons PE.cint PL.nil (by rfl)) (OPM.pop0 (i := 1) rfl (by simp at hz ⊢; omega))
      F.plainAttrs_list F.slot_list_pop F.type_list_pop (by rfl) (by rfl) hline (by rfl) (by rfl) _ rm' g₂ s₂ _ H₂ fun v g₃ s₃ L₃ H₃ r₃ => ?_)
    obtain ⟨g₄, L₄, H₄, -⟩ := H₃.drop (M' := deskL d cs ln pb ++ N) (List.sublist_cons_self _ _)
    exact k v g₄ s₃ (L₁.tr (L₂.tr (L₃.tr L₄))) H₄ (r₃.mono L₄)
end
set_option maxHeartbeats 1000000
section
variable {w : World} {os : Ext} {n : Nat} {M M' : Led} {env : Env} {pos : Pos}
noncomputable def bareS (c : Nat) : Str := Str.ofString "\\" ++ ch1 c
noncomputable def quotedS (c : Nat) (way : Int) : Str := Str.ofString "\"" ++ (if (way == 2 && !decide (c ∈ (Str.ofString "\"\\").cps.toList)) = true then ch1 c else bareS c) ++ Str.ofString "\""
noncomputable def lastS (c : Nat) : Str := if (!decide (c ∈ (Str.ofString "\t \"\\").cps.toList)) = true then ch1 c else bareS c
noncomputable def spelledL (c : Nat) (way : Int) : List Str := [bareS c, quotedS c way, quotedS c way, lastS c]
theorem spelled_ok {c j : Nat} {r : Str} (hj : (spelledL c j)[j]? = some r) : OP w os (n + 2) M (cf (.ref 281)) [.str (ch1 c), .int j] (.str r) := by
  intro A rm g s Q vs H rr k
  cases rr with | cons r₁ rr => cases rr with | cons r₂ rr =>
  cases rr
  refine enterC (n := n + 1) (fa := 281) (vars := [("name", .str (ch1 c)), ("way", .int j)]) (cv := fun _ => .none) (by walk_at "kis") (by walk_at "kis") (by rfl) (by rfl) (by decide +kernel) (bv_cons (by rfl) r₁ (bv_cons (by rfl) r₂ bv_nil)) ?_ rm H ?_
  · intro y hy o ho
    cases hy
  · intro L s' g' rm' L' H'
    change HS w os g' ((L, .frame [("name", .str (ch1 c)), ("way", .int j)]) :: M) s' at H'
    refine X.next (ST.assign (PE.bin PE.cstr (by walk_at "nm") (OP.add_str (sizeLine_ge (Nat.le_trans (m := 2) (Nat.le_of_eq (by rfl)) (by decide))))) (SN.loc (i := 0) (by rfl) (by rfl) (by rfl)) (by rfl)) rm' H' fun g₁ s₁ L₁ H₁ => ?_
    change HS w os g₁ ((L, .frame [("bare", .str (bareS c)), ("name", .str (ch1 c)), ("way", .int j)]) :: M) s₁ at H₁
    have hb2 : (bareS c).length = 2 := by rfl
    refine X.next (ST.assign (p := .str (quotedS c j)) ?_ (SN.loc (i := 0) (by rfl) (by rfl) (by rfl)) (by rfl)) rm' H₁ fun g₂ s₂ L₂ H₂ => ?_
    · refine PE.bin (PE.bin PE.cstr (PE.ifexp (p := .str (if ((j : Int) == 2 && !decide (c ∈ (Str.ofString "\"\\").cps.toList)) = true then ch1 c else bareS c)) (PT.and2 (PT.cmp (by walk_at "nm") PE.cint OP.eq_int (by rfl)) (fun _ => PT.cmp (by walk_at "nm") PE.cstr (OP.notin1 (c := c) (by rfl)) (by rfl))) (fun h => ?_) (fun h => ?_)) (OP.add_str ?_)) PE.cstr (OP.add_str ?_)
      · rw [if_pos h]; walk_at "nm"
      · rw [if_neg (by rw [h]; decide)]; walk_at "nm"
      · have h2 : (if ((j : Int) == 2 && !decide (c ∈ (Str.ofString "\"\\").cps.toList)) = true then ch1 c else bareS c).length ≤ 2 := by
          split
          · show (1 : Nat) ≤ 2; decide
          · exact Nat.le_of_eq hb2
        have h1 : (Str.ofString "\"").length = 1 := by rfl
        exact sizeLine_ge (by omega)
      · have h2 : (Str.ofString "\"" ++ (if ((j : Int) == 2 && !decide (c ∈ (Str.ofString "\"\\").cps.toList)) = true then ch1 c else bareS c)).length ≤ 3 := by
          split
          · show (2 : Nat) ≤ 3; decide
          · exact Nat.le_of_eq (by rfl)
        have h1 : (Str.ofString "\"").length = 1 := by rfl
        exact sizeLine_ge (by omega)
    · change HS w os g₂ ((L, .frame [("quoted", .str (quotedS c j)), ("bare", .str (bareS c)), ("name", .str (ch1 c)), ("way", .int j)]) :: M) s₂ at H₂
      refine X.ret (p := .str r) (PE.itemL (p := .list ((spelledL c j).map .str)) (ps := (spelledL c j).map .str) (PE.lst (PL.cons (by walk_at "nm") (PL.cons (by walk_at "nm") (PL.cons (by walk_at "nm") (PL.cons
        (PE.ifexp (PT.cmp (by walk_at "nm") PE.cstr (OP.notin1 (c := c) (by rfl)) (by rfl)) (fun h => ?_) (fun h => ?_)) PL.nil (by rfl)) (by rfl)) (by rfl)) (by rfl)) (by show (4 : Nat) ≤ 1000; decide)) LV.imm (by walk_at "nm") (by rw [List.getElem?_map, hj]; rfl) (by show (4 : Nat) ≤ 100000; decide) (by intro o k; with_unfolding_all rfl)) rm' H₂ fun v g₃ s₃ L₃ H₃ r₃ => ?_
      · have e : lastS c = ch1 c := by unfold lastS; rw [if_pos h]
        rw [e]; walk_at "nm"
      · have e : lastS c = bareS c := by unfold lastS; rw [if_neg (by rw [h]; decide)]
        rw [e]; walk_at "nm"
      · obtain ⟨g₄, L₄, H₄, -⟩ := H₃.drop (M' := M) (List.sublist_cons_self _ _)
        exact k v g₄ s₃ (L'.tr (L₁.tr (L₂.tr (L₃.tr L₄)))) H₄ (r₃.mono L₄)
end
set_option maxHeartbeats 1000000
section
variable {w : World} {os : Ext} {n : Nat} {M M' : Led} {env : Env} {pos : Pos}
theorem PEX.fnMeth {o : Expr} {name : Str} {apos : Pos} {T dT Rf : Addr} {fd : FuncData} {fs : List (Str × PV)} {P : Obj → Prop} {e : Expr} {es : List Expr} {ps : List PV} {r : PV} (ho : PE w os n env M o (.val (.ref T))) (hT : (T, fnE (some dT) fd) ∈ M) (hd : (dT, Ent.dict fs) ∈ M)
    (hv : fs.lookup name = some (.val (.ref Rf))) (hnm : typeLookup (.type "function") name = pure none) (hR : (Rf, Ent.is P) ∈ M) (hP : ∀ o, P o → ∃ fd, o.data = .func fd) (ha : PL w os n env M pos (e :: es) ps) (hop : OPM w os n M (cf (.ref Rf)) ps r M')
    (hs : starEach (e :: es) env = (false, eval e env) :: starEach es env) (hp : (backTo pos (starEach (e :: es) env)).any (·.1) = false) {pl : Sem Bool}
    (he : eval (.Call (.Attribute o name apos) (e :: es) [] pos) env = (do
      let ov ← eval o env
      standAt apos.atName
      let (f, first) ← holding [ov] (getMethod ov name pl)
      callWith pos f first (backTo pos (starEach (e :: es) env)) [])) :
    PEX w os n env M (.Call (.Attribute o name apos) (e :: es) [] pos) r M' := fun A rm g s Q H k =>
  MethodCall_ (pl := pl) (ho A rm g s _ H fun v g₁ s₁ L₁ H₁ r₁ => by
    cases r₁
    obtain ⟨oT, hT', rfl⟩ := H₁.at_ _ hT
    obtain ⟨od, hod, R⟩ := H₁.dictR hd
    obtain ⟨v, e1, rv⟩ := R.some_ name _ hv
    cases rv
    obtain ⟨h₁, gg, dd, tk, oo⟩ := s₁
    refine fn_getMethod hT' hod (nsLook_of e1) hnm rfl ?_
    refine callWith_of (P := fun h => ∃ o fd, h.get? Rf = some o ∧ o.data = .func fd) (by rw [hp]; rfl) (fun h ⟨o, fd, h1, h2⟩ => ⟨.frame, .inl rfl, ?_⟩) ?_
    · unfold keeperOf
      refine (Looks.ld h1).andThen ?_
      rw [h2]; exact .now
    · rw [hs]
      refine evalArgs_plain ?_
      have := ha A rm g₁ _ (fun vs s' => (∃ o fd, s'.heap.get? Rf = some o ∧ o.data = .func fd) ∧ wpAny (model PRG w) A (call (.ref Rf) ([] ++ vs) []) Q NoE s') (H₁.toks (tk + 1)) fun vs g₂ s₂ L₂ H₂ r₂ =>
        ⟨by
          obtain ⟨o, ho, hPo⟩ := H₂.at_ _ hR
          obtain ⟨fd, hfd⟩ := hP o hPo
          exact ⟨o, fd, ho, hfd⟩, hop A rm g₂ s₂ _ vs H₂ r₂ fun v g₃ s₃ L₃ H₃ r₃ => k v g₃ s₃ (L₁.tr (L₂.tr L₃)) H₃ r₃⟩
      rw [hs] at this
      exact this) he

noncomputable def nl1 : List Nat → Int | [] => 0 | c :: _ => if c = 10 then 1 else 0
theorem readchar_ok {d : Desk} {signs : List Nat} {ln : Int} {pb : List Str} (hz : signs.length ≤ 1000) {N : Led} :
    OPC w os (n + 2) (deskL d signs ln pb ++ N) (.ref 98) [.val (.ref d.I)] (.str (hd1 signs)) (deskL d signs.tail (ln + nl1 signs) pb ++ N) := by
  intro A rm g s Q vs H r k
  cases r with | cons r₁ r =>
  cases r
  cases r₁
  refine enterCode (n := n + 1) (fa := 98) (vars := [("self", .val (.ref d.I))]) (cv := fun _ => .none) (by walk_at "kis") (by walk_at "kis") (by rfl) (by rfl) (by decide +kernel) (bv_cons (by rfl) (.val _) bv_nil) ?_ rm H ?_
  · intro y hy o ho
    cases hy
  · intro L s' g' rm' L' H'
    change HS w os g' ((L, .frame [("self", .val (.ref d.I))]) :: (deskL d signs ln pb ++ N)) s' at H'
    refine X.next (ST.assignX (M₁ := (L, .frame [("self", .val (.ref d.I))]) :: (deskL d signs.tail ln pb ++ N)) (PEX.fnMeth (T := d.T) (Rf := d.Rf) (fs := [("read", .val (.ref d.Rf))]) (P := RfP d.qual d.c d.c')
        (PE.attr (x := d.I) (C := 115) (dx := d.dI) (by walk_at "nm") (List.mem_of_getElem? (i := 4) rfl) (List.mem_of_getElem? (i := 2) rfl) (by rfl) (by intro g v r; cases r; rfl) (by walk_at "kis") (by walk_at "kis") (by walk_at "kis") (by walk_at "kis") (by rfl))
        (List.mem_of_getElem? (i := 5) rfl) (List.mem_of_getElem? (i := 6) rfl) (by rfl) Fn.read (List.mem_of_getElem? (i := 7) rfl) (by rintro o ⟨_, _, _, _, _, rfl, _⟩; exact ⟨_, rfl⟩) (PL.cons PE.cint PL.nil (by rfl))
        (OPM.under (fun N => read_ok hz) [(L, .frame [("self", .val (.ref d.I))])] N) (by rfl) (by rfl) (by rfl)) (SN.loc (i := 0) (by rfl) (by rfl) (by rfl)) (by rfl)) rm' H' fun g₁ s₁ L₁ H₁ => ?_
    change HS w os g₁ ((L, .frame [("ch", .str (hd1 signs)), ("self", .val (.ref d.I))]) :: (deskL d signs.tail ln pb ++ N)) s₁ at H₁
    refine X.next (M' := (L, .frame [("ch", .str (hd1 signs)), ("self", .val (.ref d.I))]) :: (deskL d signs.tail (ln + nl1 signs) pb ++ N)) (ST.ifTrue (PT.cmp (by walk_at "nm") PE.cstr OP.eq_str (by rfl)) (fun hb => ?_) (fun hb => ?_)) rm' H₁ fun g₂ s₂ L₂ H₂ => ?_
    · have hn : nl1 signs = 1 := by
        cases signs with
        | nil => exact absurd hb (by decide +kernel)
        | cons c cs =>
          have : c = 10 := by
            have := beq_iff_eq.mp hb
            have e : Str.ofString "\n" = ⟨#[10]⟩ := by rfl
            rw [e] at this
            unfold hd1 ch1 at this
            injection this with this
            simpa using this
          exact if_pos this
      rw [hn]
      exact SS.cons (ST.augattr (i := 2) (x := d.I) (C := 115) (dx := d.dI) (a := .int ln) (b := .int 1) (p := .int (ln + 1)) (by walk_at "nm") PE.cint (List.mem_of_getElem? (i := 4) rfl) rfl (by simp) (by rfl) OP.iadd_int (by intro g v r; cases r; rfl)
        (by walk_at "kis") (by walk_at "kis") (by walk_at "kis") (by walk_at "kis") (by walk_at "kis") (by walk_at "kis") (by walk_at "kis") (by walk_at "kis")) SS.nil
    · have hn : nl1 signs = 0 := by
        cases signs with
        | nil => rfl
        | cons c cs =>
          have : ¬ c = 10 := fun h => by
            subst h
            have e : (hd1 (10 :: cs) == Str.ofString "\n") = true := by rfl
            rw [e] at hb; cases hb
          exact if_neg this
      rw [hn, Int.add_zero]
      exact SS.nil
    refine X.ret (by walk_at "nm") rm' H₂ fun v g₃ s₃ L₃ H₃ r₃ => ?_
    obtain ⟨g₄, L₄, H₄, -⟩ := H₃.drop (M' := deskL d signs.tail (ln + nl1 signs) pb ++ N) (List.sublist_cons_self _ _)
    exact k v g₄ s₃ (L'.tr (L₁.tr (L₂.tr (L₃.tr L₄)))) H₄ (r₃.mono L₄)
end
set_option maxHeartbeats 1000000
section
variable {w : World} {os : Ext} {n : Nat} {M M' : Led} {env : Env} {pos : Pos}
theorem push_ok {d : Desk} {signs : List Nat} {ln : Int} {pb : List Str} {x : Str} (hz : pb.length ≤ 1000) {N : Led} :
    OPM w os (n + 2) (deskL d signs ln pb ++ N) (cf (.ref 112)) [.val (.ref d.I), .str x] .none (deskL d signs ln (pb ++ [x]) ++ N) := by
  intro A rm g s Q vs H r k
  cases r with | cons r₁ r => cases r with | cons r₂ r =>
  cases r
  cases r₁
  refine enterC (n := n + 1) (fa := 112) (vars := [("self", .val (.ref d.I)), ("token", .str x)]) (cv := fun _ => .none) (by walk_at "kis") (by walk_at "kis") (by rfl) (by rfl) (by decide +kernel) (bv_cons (by rfl) (.val _) (bv_cons (by rfl) r₂ bv_nil)) ?_ rm H ?_
  · intro y hy o ho
    cases hy
  · intro L s' g' rm' L' H'
    change HS w os g' ((L, .frame [("self", .val (.ref d.I)), ("token", .str x)]) :: (deskL d signs ln pb ++ N)) s' at H'
    refine X.next (M' := (L, .frame [("self", .val (.ref d.I)), ("token", .str x)]) :: (deskL d signs ln (pb ++ [x]) ++ N)) (ST.exprX (PEX.meth (p := .val (.ref d.P)) (T := "list") (id := "list.append") (ps := [.str x]) (r := .none)
        (PE.attr (x := d.I) (C := 115) (dx := d.dI) (by walk_at "nm") (List.mem_of_getElem? (i := 4) rfl) (List.mem_of_getElem? (i := 2) rfl) (by rfl) (by intro g v r; cases r; rfl) (by walk_at "kis") (by walk_at "kis") (by walk_at "kis") (by walk_at "kis") (by rfl))
        (Ty.list (LV.mut (i := 3) rfl)) (PL.cons (by walk_at "nm") PL.nil (by rfl)) ?_
        F.plainAttrs_list F.slot_list_append F.type_list_append (by rfl) (by rfl) (by rfl) (by rfl) (by rfl)) (by rfl) (by rfl)) rm' H' fun g₁ s₁ L₁ H₁ => ?_
    · have := OPM.append (w := w) (os := os) (n := n + 1) (M := (L, .frame [("self", .val (.ref d.I)), ("token", .str x)]) :: (deskL d signs ln pb ++ N)) (i := 3) (D := d.P) (l := pb.map .str) (p := .str x) rfl (by simpa using hz)
      rw [show (pb.map PV.str ++ [PV.str x]) = (pb ++ [x]).map PV.str by simp] at this
      exact this
    · refine X.end ?_
      obtain ⟨g₄, L₄, H₄, -⟩ := H₁.drop (M' := deskL d signs ln (pb ++ [x]) ++ N) (List.sublist_cons_self _ _)
      exact k .none g₄ s₁ (L'.tr (L₁.tr L₄)) H₄ .none
end
set_option maxHeartbeats 1000000
section
variable {w : World} {os : Ext} {n : Nat} {M M' : Led} {env : Env} {pos : Pos}
noncomputable def isWs (c : Nat) : Bool := decide (c ∈ wsp.cps.toList)
noncomputable def nlC (c : Nat) : Int := if c = 10 then 1 else 0
noncomputable def escd (c : Nat) (r : List Nat) (ln : Int) : List Nat × List Nat × Int := if c = 92 then (r.take 1, r.tail, ln + nl1 r) else ([c], r, ln)
theorem escd_len (c : Nat) (r : List Nat) (ln : Int) : (escd c r ln).2.1.length ≤ r.length := by
  unfold escd; split <;> simp
noncomputable def lexR (stop : Nat → Bool) : Nat → List Nat → Int → List Nat → List Nat × Int × List Nat × Bool
  | 0, s, ln, tok => (s, ln, tok, false)
  | _ + 1, [], ln, tok => ([], ln, tok, false)
  | k + 1, c :: r, ln, tok => if stop c = true then (r, ln + nlC c, tok, true) else lexR stop k (escd c r (ln + nlC c)).2.1 (escd c r (ln + nlC c)).2.2 (tok ++ (escd c r (ln + nlC c)).1)
theorem nl1_cons (c : Nat) (r : List Nat) : nl1 (c :: r) = nlC c := rfl
noncomputable def tkS (l : List Nat) : Str := ⟨l.toArray⟩
theorem tkS_ch1 (c : Nat) : ch1 c = tkS [c] := rfl
theorem tkS_app (a b : List Nat) : tkS a ++ tkS b = tkS (a ++ b) := by
  show (⟨a.toArray ++ b.toArray⟩ : Str) = ⟨(a ++ b).toArray⟩
  simp
theorem hd1_tk (l : List Nat) : hd1 l = tkS (l.take 1) := by cases l <;> rfl

noncomputable def Mgt (d : Desk) (L F q : Addr) (tok : List Nat) (signs : List Nat) (ln : Int) (pb : List Str) (N : Led) : Led :=
  (F, citE q) :: (L, .frame [("fiter", .val (.ref F)), ("token", .str (tkS tok)), ("self", .val (.ref d.I))]) :: (deskL d signs ln pb ++ N)
noncomputable def Agt (d : Desk) (L F q : Addr) (ch : Str) (tok : List Nat) (signs : List Nat) (ln : Int) (pb : List Str) (N : Led) : Led :=
  (F, citE q) :: (L, .frame [("ch", .str ch), ("fiter", .val (.ref F)), ("token", .str (tkS tok)), ("self", .val (.ref d.I))]) :: (deskL d signs ln pb ++ N)
noncomputable def Xgt (d : Desk) (L F : Addr) (tok : List Nat) (ln : Int) (pb : List Str) (N : Led) : Led :=
  (F, citX) :: (L, .frame [("fiter", .val (.ref F)), ("token", .str (tkS tok)), ("self", .val (.ref d.I))]) :: (deskL d [] ln pb ++ N)

theorem cit_notup {F q : Addr} {tgt : Expr} {v : Value} {A : Around} {g : Heap} {s : Shared} {Q : Unit → Shared → Prop} (H : HS w os g M s) (hF : (F, citE q) ∈ M) (hq : Q () s) : wpAny (model PRG w) A (letOwnedTupleGo tgt (.ref F) v) Q NoE s := by
  obtain ⟨o, ho, t, rfl⟩ := H.at_ _ hF
  exact noTup_of ho rfl (by decide) hq

theorem X.forCit {d : Desk} {L F q : Addr} {pb : List Str} {N : Led} {A : Around} (rm : Rm A (n + 3)) {px : Pos} {body : List Stmt} {R : Result → Shared → Prop} {g₀ : Heap} {σ : Type} {tokOf : σ → List Nat} {signsOf : σ → List Nat} {lnOf : σ → Int}
    (hL : env.locals = L) (hk : env.scope.kind = .function) (hc : env.kindOf "ch" = some .local) (hq : g₀.get? q = some (methodObj (.ref 98) (.ref d.I))) (hff : ∃ o fd, (KF w).lookup 98 = some o ∧ o.data = .func fd)
    (St : σ → Prop) (hz : ∀ a, St a → (signsOf a).length ≤ 1000)
    (turn : ∀ a c r g s (Q : Flow → Shared → Prop), St a → signsOf a = c :: r → Le g₀ g → HS w os g (Agt d L F q (ch1 c) (tokOf a) r (lnOf a + nlC c) pb N) s →
      (∀ b g' s' fl, St b → (signsOf b).length ≤ r.length → (fl = .next ∨ fl = .cont) → Le g₀ g' → HS w os g' (Mgt d L F q (tokOf b) (signsOf b) (lnOf b) pb N) s' → Q fl s') →
      (∀ b g' s', St b → signsOf b = [] → Le g₀ g' → HS w os g' (Xgt d L F (tokOf b) (lnOf b) pb N) s' → Q .next s') →
      (∀ v s', R (.ok (.ret v)) s' → Q (.ret v) s') → wpAny (model PRG w) A (execs body env) Q NoE s)
    (stop : ∀ a g s, St a → signsOf a = [] → Le g₀ g → HS w os g (Xgt d L F (tokOf a) (lnOf a) pb N) s → R (.ok .next) s)
    (a : σ) (g : Heap) (s : Shared) (ha : St a) (hg : Le g₀ g) (H : HS w os g (Mgt d L F q (tokOf a) (signsOf a) (lnOf a) pb N) s) : codeAny (model PRG w) A (.forLoop (.Name "ch" px) (.ref F) body [] env) R s := by
  refine forLoopG (fun m s => (∃ a g, m = (signsOf a).length + 1 ∧ St a ∧ Le g₀ g ∧ HS w os g (Mgt d L F q (tokOf a) (signsOf a) (lnOf a) pb N) s) ∨
    (∃ a g, m = 0 ∧ St a ∧ signsOf a = [] ∧ Le g₀ g ∧ HS w os g (Xgt d L F (tokOf a) (lnOf a) pb N) s)) ?_ ((signsOf a).length + 1) (.inl ⟨a, g, rfl, ha, hg, H⟩)
  rintro m s (⟨a, g, rfl, ha, hg, H⟩ | ⟨a, g, rfl, ha, hs, hg, H⟩)
  rotate_left
  · exact cit_done rm H (.head _) fun g₁ s₁ L₁ H₁ => wpAny_execs_nil (stop a g₁ s₁ ha hs (hg.tr L₁) H₁)
  have hread : OPC w os (n + 2) (Mgt d L F q (tokOf a) (signsOf a) (lnOf a) pb N) (.ref 98) [.val (.ref d.I)] (.str (hd1 (signsOf a))) (Mgt d L F q (tokOf a) (signsOf a).tail (lnOf a + nl1 (signsOf a)) pb N) :=
    OPC.under (fun N => readchar_ok (hz a ha)) [(F, citE q), (L, .frame [("fiter", .val (.ref F)), ("token", .str (tkS (tokOf a))), ("self", .val (.ref d.I))])] N
  refine cit_next (n := n + 2) (M' := Mgt d L F q (tokOf a) (signsOf a).tail (lnOf a + nl1 (signsOf a)) pb N) (i := 0) rm H rfl rfl (hg _ _ hq) hff hread ?_ ?_
  · intro hne v g₁ s₁ L₁ H₁ r₁
    cases hs : signsOf a with
    | nil => rw [hs] at hne; exact absurd rfl hne
    | cons c r =>
      rw [hs] at H₁ r₁
      refine cit_notup H₁ (.head _) ?_
      refine wpAny_assign_Name (SN.loc (i := 1) hk hc (by rw [hL]; rfl) A g₁ s₁ _ v H₁ r₁ fun g₂ s₂ L₂ H₂ => ?_)
      refine turn a c r g₂ s₂ _ ha hs (hg.tr (L₁.tr L₂)) H₂ ?_ ?_ ?_
      · rintro b g₃ s₃ fl hb hlen hfl L₃ H₃
        have : ∃ m, m < (c :: r).length + 1 ∧ ((∃ a g, m = (signsOf a).length + 1 ∧ St a ∧ Le g₀ g ∧ HS w os g (Mgt d L F q (tokOf a) (signsOf a) (lnOf a) pb N) s₃) ∨
            (∃ a g, m = 0 ∧ St a ∧ signsOf a = [] ∧ Le g₀ g ∧ HS w os g (Xgt d L F (tokOf a) (lnOf a) pb N) s₃)) :=
          ⟨_, by simp; omega, .inl ⟨b, g₃, rfl, hb, L₃, H₃⟩⟩
        rcases hfl with rfl | rfl <;> exact this
      · intro b g₃ s₃ hb hbs L₃ H₃
        exact ⟨0, Nat.succ_pos _, .inr ⟨b, g₃, rfl, hb, hbs, L₃, H₃⟩⟩
      · intro v s₃ hr
        exact hr
  · intro he g₁ s₁ L₁ H₁
    have hs : signsOf a = [] := by
      cases h : signsOf a with
      | nil => rfl
      | cons c r =>
        rw [h] at he
        have := congrArg Str.length he
        simp [hd1, ch1, Str.length] at this
    refine wpAny_execs_nil (stop a g₁ s₁ ha hs (hg.tr L₁) ?_)
    rw [hs] at H₁
    simp only [nl1, Int.add_zero] at H₁
    exact H₁
end
set_option maxHeartbeats 1000000
section
variable {w : World} {os : Ext} {n : Nat} {M M' : Led} {env : Env} {pos : Pos}
structure GtEnv (env : Env) (L : Addr) : Prop where
  k : env.scope.kind = .function
  l : env.locals = L
  ch : env.kindOf "ch" = some .local
  tok : env.kindOf "token" = some .local
  self : env.kindOf "self" = some .local
theorem esc_ok {d : Desk} {L F q : Addr} {c : Nat} {tok r : List Nat} {ln : Int} {pb : List Str} {N : Led} (E : GtEnv env L) (hz : r.length ≤ 1000) {p1 p2 p3 p4 p5 p6 p7 p8 p9 : Pos} {pl : Sem Bool}
    (he : eval (.Call (.Attribute (.Name "self" p5) "_read_char" p6) [] [] p7) env = (do
      let ov ← eval (.Name "self" p5) env
      standAt p6.atName
      let (f, first) ← holding [ov] (getMethod ov "_read_char" pl)
      callWith p7 f first (backTo p7 (starEach [] env)) []))
    (hsw : swapsWith (.Call (.Attribute (.Name "self" p5) "_read_char" p6) [] [] p7) (some (.Name "ch" p4)) p8.line env = pure false) :
    ST w os (n + 2) env (Agt d L F q (ch1 c) tok r ln pb N) (.If (.Compare (.Name "ch" p1) [.Eq] [.Constant (.str "\\") 0 p2] p3) [.Assign [.Name "ch" p4] (.Call (.Attribute (.Name "self" p5) "_read_char" p6) [] [] p7) p8] [] p9)
      (Agt d L F q (tkS (escd c r ln).1) tok (escd c r ln).2.1 (escd c r ln).2.2 pb N) := by
  have hself : ∀ {px : Pos}, PE w os (n + 2) env (Agt d L F q (ch1 c) tok r ln pb N) (.Name "self" px) (.val (.ref d.I)) := fun {px} => PE.name (Nm.loc (i := 1) E.k E.self (by rw [E.l]; rfl) (by rfl)) (by decide +kernel)
  have hch : ∀ {px : Pos}, PE w os (n + 2) env (Agt d L F q (ch1 c) tok r ln pb N) (.Name "ch" px) (.str (ch1 c)) := fun {px} => PE.name (Nm.loc (i := 1) E.k E.ch (by rw [E.l]; rfl) (by rfl)) (by decide +kernel)
  refine ST.ifTrue (PT.cmp hch PE.cstr OP.eq_str (by rfl)) (fun hb => ?_) (fun hb => ?_)
  · have hc : c = 92 := by
      have := beq_iff_eq.mp hb
      have e : Str.ofString "\\" = ⟨#[92]⟩ := by rfl
      rw [e] at this
      unfold ch1 at this
      injection this with this
      simpa using this
    subst hc
    have hcall : PEX w os (n + 2) env (Agt d L F q (ch1 92) tok r ln pb N) (.Call (.Attribute (.Name "self" p5) "_read_char" p6) [] [] p7) (.str (hd1 r)) (Agt d L F q (ch1 92) tok r.tail (ln + nl1 r) pb N) :=
      PEX.methF0 (x := d.I) (C := 115) (dx := d.dI) (f := 98) hself (List.mem_of_getElem? (i := 5) rfl) (List.mem_of_getElem? (i := 3) rfl)
        (OPC.m (OPC.under (fun N => readchar_ok hz) [(F, citE q), (L, .frame [("ch", .str (ch1 92)), ("fiter", .val (.ref F)), ("token", .str (tkS tok)), ("self", .val (.ref d.I))])] N)) (by rfl)
        (by walk_at "kis") (by walk_at "kis") (by walk_at "kis") (by walk_at "kis") (by walk_at "kis") he
    refine SS.cons (M₁ := Agt d L F q (hd1 r) tok r.tail (ln + nl1 r) pb N) (fun A rm g s Q H k => ST.assignX hcall (SN.loc (i := 1) E.k E.ch (by rw [E.l]; rfl)) hsw A rm g s Q H fun g₁ s₁ L₁ H₁ => k g₁ s₁ L₁ ?_) ?_
    · exact H₁.weaken (i := 1) (a := L) rfl (wv_cons (by rfl) (wv_cons (by rfl) (wv_cons (by rfl) (wv_cons (by rfl) wv_nil))))
    · rw [hd1_tk]; exact SS.nil
  · have hc : ¬ c = 92 := fun h => by
      subst h
      have e : (ch1 92 == Str.ofString "\\") = true := by rfl
      rw [e] at hb; cases hb
    have : escd c r ln = ([c], r, ln) := if_neg hc
    rw [this]
    exact SS.nil
theorem tok_ok {d : Desk} {L F q : Addr} {t tok r : List Nat} {ln : Int} {pb : List Str} {N : Led} (E : GtEnv env L) (hz : tok.length ≤ 100000) (ht : t.length ≤ 100000) {p1 p2 p3 : Pos} :
    ST w os n env (Agt d L F q (tkS t) tok r ln pb N) (.AugAssign (.Name "token" p1) .Add (.Name "ch" p2) p3) (Mgt d L F q (tok ++ t) r ln pb N) := fun A rm g s Q H k =>
  ST.aug (a := .str (tkS tok)) (b := .str (tkS t)) (p := .str (tkS (tok ++ t))) (Nm.loc (i := 1) E.k E.tok (by rw [E.l]; rfl) (by rfl)) (PE.name (Nm.loc (i := 1) E.k E.ch (by rw [E.l]; rfl) (by rfl)) (by decide +kernel))
    (by rw [← tkS_app]; exact OP.iadd_str (sizeLine_ge (by simp [tkS, Str.length]; omega))) (SN.loc (i := 1) E.k E.tok (by rw [E.l]; rfl)) A rm g s Q H fun g₁ s₁ L₁ H₁ => k g₁ s₁ L₁
      (H₁.weaken (i := 1) (a := L) rfl (wv_cons (by rfl) (wv_cons (by rfl) (wv_cons (by rfl) wv_nil))))
end
set_option maxHeartbeats 1000000
section
variable {w : World} {os : Ext} {n : Nat} {M M' : Led} {env : Env} {pos : Pos}
theorem lexR_nil {stopf : Nat → Bool} {k : Nat} {ln : Int} {tok : List Nat} : lexR stopf k [] ln tok = ([], ln, tok, false) := by cases k <;> rfl
theorem lexR_cons {stop : Nat → Bool} {k c : Nat} {r tok : List Nat} {ln : Int} : lexR stop (k + 1) (c :: r) ln tok = if stop c = true then (r, ln + nlC c, tok, true) else lexR stop k (escd c r (ln + nlC c)).2.1 (escd c r (ln + nlC c)).2.2 (tok ++ (escd c r (ln + nlC c)).1) := rfl
theorem inner_ok {d : Desk} {L F q : Addr} {pb : List Str} {N : Led} (E : GtEnv env L) (hfi : env.kindOf "fiter" = some .local) {stopf : Nat → Bool} {test : Expr} (ht : ∀ c tok r ln, PT w os (n + 3) env (Agt d L F q (ch1 c) tok r ln pb N) test (stopf c))
    {px pf pt pr p1 p2 p3 p4 p5 p6 p7 p8 p9 pa pb' pc pi : Pos} {pl : Sem Bool} {g₀ : Heap} (hq : g₀.get? q = some (methodObj (.ref 98) (.ref d.I))) (hff : ∃ o fd, (KF w).lookup 98 = some o ∧ o.data = .func fd)
    (he : eval (.Call (.Attribute (.Name "self" p5) "_read_char" p6) [] [] p7) env = (do
      let ov ← eval (.Name "self" p5) env
      standAt p6.atName
      let (f, first) ← holding [ov] (getMethod ov "_read_char" pl)
      callWith p7 f first (backTo p7 (starEach [] env)) []))
    (hsw : swapsWith (.Call (.Attribute (.Name "self" p5) "_read_char" p6) [] [] p7) (some (.Name "ch" p4)) p8.line env = pure false)
    {A : Around} (rm : Rm A (n + 3)) {k : Nat} {signs tok : List Nat} {ln : Int} {g : Heap} {s : Shared} {Q : Flow → Shared → Prop} (hz : signs.length ≤ 1000) (hzt : tok.length + signs.length ≤ 2000) (hkk : signs.length ≤ k) (hg : Le g₀ g) (H : HS w os g (Mgt d L F q tok signs ln pb N) s)
    (found : ∀ s' l' t', lexR stopf k signs ln tok = (s', l', t', true) → ∀ v g' s'', Le g₀ g' → HS w os g' (deskL d s' l' pb ++ N) s'' → Rd g' v (.str (tkS t')) → Q (.ret v) s'')
    (ended : ∀ l' t', lexR stopf k signs ln tok = ([], l', t', false) → ∀ g' s'', Le g₀ g' → HS w os g' (Xgt d L F t' l' pb N) s'' → Q .next s'') :
    wpAny (model PRG w) A (exec (.For (.Name "ch" px) (.Name "fiter" pf) [.If test [.Return (some (.Name "token" pt)) pr] [.If (.Compare (.Name "ch" p1) [.Eq] [.Constant (.str "\\") 0 p2] p3) [.Assign [.Name "ch" p4] (.Call (.Attribute (.Name "self" p5) "_read_char" p6) [] [] p7) p8] [] p9] pi,
      .AugAssign (.Name "token" pa) .Add (.Name "ch" pb') pc] [] pos) env) Q NoE s := by
  refine wpAny_For ?_ (by intro v; rfl)
  refine PE.name (n := n + 3) (Nm.loc (i := 1) E.k hfi (by rw [E.l]; rfl) (by rfl)) (by decide +kernel) A rm g s _ H fun v g₁ s₁ L₁ H₁ r₁ => ?_
  cases r₁
  refine cit_again H₁ (.head _) ?_
  refine X.forCit (σ := List Nat × List Nat × Int) (tokOf := fun a => a.1) (signsOf := fun a => a.2.1) (lnOf := fun a => a.2.2) (g₀ := g₀) rm E.l E.k E.ch hq hff
    (fun a => a.2.1.length ≤ 1000 ∧ a.1.length + a.2.1.length ≤ 2000 ∧ ∃ k', a.2.1.length ≤ k' ∧ lexR stopf k' a.2.1 a.2.2 a.1 = lexR stopf k signs ln tok) (fun a h => h.1) ?_ ?_ (tok, signs, ln) g₁ s₁ ⟨hz, hzt, k, hkk, rfl⟩ (hg.tr L₁) H₁
  · rintro ⟨t, sg, l⟩ c r g₂ s₂ Q' ⟨h1, h2, k', h3, h4⟩ hs hg₂ H₂ hn hx hr
    dsimp only at h1 h2 h3 h4 hs H₂
    subst hs
    obtain ⟨k'', rfl⟩ : ∃ k'', k' = k'' + 1 := ⟨k' - 1, by simp at h3; omega⟩
    rw [lexR_cons] at h4
    have hrl : r.length ≤ 1000 := by simp at h1; omega
    refine X.if (ht c t r (l + nlC c)) rm H₂ fun g₃ s₃ L₃ H₃ => ?_
    cases hst : stopf c with
    | true =>
      rw [if_pos rfl]
      rw [hst, if_pos rfl] at h4
      refine X.ret (PE.name (Nm.loc (i := 1) E.k E.tok (by rw [E.l]; rfl) (by rfl)) (by decide +kernel)) rm H₃ fun v g₄ s₄ L₄ H₄ r₄ => ?_
      obtain ⟨g₅, L₅, H₅, -⟩ := H₄.drop (M' := deskL d r (l + nlC c) pb ++ N) ((List.sublist_cons_self _ _).trans (List.sublist_cons_self _ _))
      exact hr v s₄ (found r (l + nlC c) t h4.symm v g₅ s₄ (hg₂.tr (L₃.tr (L₄.tr L₅))) H₅ (r₄.mono L₅))
    | false =>
      rw [if_neg (by decide)]
      rw [hst, if_neg (by decide)] at h4
      refine X.next ((esc_ok (n := n + 1) E hrl he hsw)) rm H₃ fun g₄ s₄ L₄ H₄ => ?_
      refine X.end ?_
      have he1 := escd_len c r (l + nlC c)
      have he2 : (escd c r (l + nlC c)).1.length + (escd c r (l + nlC c)).2.1.length ≤ r.length + 1 := by
        unfold escd
        split
        · cases r with
          | nil => simp
          | cons x y => simp; omega
        · simp; omega
      refine X.next (tok_ok E (by simp at h2; omega) (by omega)) rm H₄ fun g₅ s₅ L₅ H₅ => ?_
      refine X.end ?_
      refine hn (t ++ (escd c r (l + nlC c)).1, (escd c r (l + nlC c)).2.1, (escd c r (l + nlC c)).2.2) g₅ s₅ .next ⟨?_, ?_, k'', ?_, h4⟩ he1 (.inl rfl) (hg₂.tr (L₃.tr (L₄.tr L₅))) H₅
      · dsimp only; omega
      · dsimp only; rw [List.length_append]; simp at h2; omega
      · dsimp only; simp at h3; omega
  · rintro ⟨t, sg, l⟩ g₂ s₂ ⟨h1, h2, k', h3, h4⟩ hs hg₂ H₂
    dsimp only at hs h4 H₂
    subst hs
    rw [lexR_nil] at h4
    exact ended l t h4.symm g₂ s₂ hg₂ H₂
end
set_option maxHeartbeats 1000000
section
variable {w : World} {os : Ext} {n : Nat} {M M' : Led} {env : Env} {pos : Pos}
noncomputable def lexG : Nat → List Nat → Int → List Nat × List Nat × Int
  | 0, s, ln => ([], s, ln)
  | _ + 1, [], ln => ([], [], ln)
  | k + 1, c :: r, ln =>
    if isWs c = true then lexG k r (ln + nlC c)
    else if (c == 34) = true then ((lexR (· == 34) k r (ln + nlC c) []).2.2.1, (lexR (· == 34) k r (ln + nlC c) []).1, (lexR (· == 34) k r (ln + nlC c) []).2.1)
    else ((lexR isWs k (escd c r (ln + nlC c)).2.1 (escd c r (ln + nlC c)).2.2 (escd c r (ln + nlC c)).1).2.2.1, (lexR isWs k (escd c r (ln + nlC c)).2.1 (escd c r (ln + nlC c)).2.2 (escd c r (ln + nlC c)).1).1, (lexR isWs k (escd c r (ln + nlC c)).2.1 (escd c r (ln + nlC c)).2.2 (escd c r (ln + nlC c)).1).2.1)
theorem lexG_cons {k c : Nat} {r : List Nat} {ln : Int} : lexG (k + 1) (c :: r) ln =
    if isWs c = true then lexG k r (ln + nlC c)
    else if (c == 34) = true then ((lexR (· == 34) k r (ln + nlC c) []).2.2.1, (lexR (· == 34) k r (ln + nlC c) []).1, (lexR (· == 34) k r (ln + nlC c) []).2.1)
    else ((lexR isWs k (escd c r (ln + nlC c)).2.1 (escd c r (ln + nlC c)).2.2 (escd c r (ln + nlC c)).1).2.2.1, (lexR isWs k (escd c r (ln + nlC c)).2.1 (escd c r (ln + nlC c)).2.2 (escd c r (ln + nlC c)).1).1, (lexR isWs k (escd c r (ln + nlC c)).2.1 (escd c r (ln + nlC c)).2.2 (escd c r (ln + nlC c)).1).2.1) := rfl
theorem ch1_eq {c k : Nat} {y : Str} (hy : y = ⟨#[k]⟩) : (ch1 c == y) = (c == k) := by
  subst hy
  rw [Bool.eq_iff_iff, beq_iff_eq, beq_iff_eq]
  constructor
  · intro h
    injection h with h
    simpa using h
  · rintro rfl; rfl

theorem getpb_ok {d : Desk} {signs : List Nat} {ln : Int} {x : Str} {pb : List Str} (hz : pb.length ≤ 1000) {N : Led} :
    OPM w os (n + 6) (deskL d signs ln (x :: pb) ++ N) (cf (.ref 105)) [.val (.ref d.I)] (.str x) (deskL d signs ln pb ++ N) := by
  intro A rm g s Q vs H r k
  cases r with | cons r₁ r =>
  cases r
  cases r₁
  refine enterC (n := n + 5) (fa := 105) (vars := [("self", .val (.ref d.I))]) (cv := fun _ => .none) (by walk_at "kis") (by walk_at "kis") (by rfl) (by rfl) (by decide +kernel) (bv_cons (by rfl) (.val _) bv_nil) ?_ rm H ?_
  · intro y hy o ho
    cases hy
  · intro L s' g' rm' L' H'
    change HS w os g' ((L, .frame [("self", .val (.ref d.I))]) :: (deskL d signs ln (x :: pb) ++ N)) s' at H'
    refine X.if (PT.list (ps := (x :: pb).map .str) (PE.attr (x := d.I) (C := 115) (dx := d.dI) (by walk_at "nm") (List.mem_of_getElem? (i := 4) rfl) (List.mem_of_getElem? (i := 2) rfl) (by rfl) (by intro g v r; cases r; rfl) (by walk_at "kis") (by walk_at "kis") (by walk_at "kis") (by walk_at "kis") (by rfl))
      (LV.mut (i := 3) rfl) (by simp; omega) (by intro _; rfl)) rm' H' fun g₁ s₁ L₁ H₁ => ?_
    rw [if_pos (by rfl)]
    refine X.retX (M' := (L, .frame [("self", .val (.ref d.I))]) :: (deskL d signs ln pb ++ N)) (p := .str x) (PEX.meth (p := .val (.ref d.P)) (T := "list") (id := "list.pop") (ps := [.int 0])
        (PE.attr (x := d.I) (C := 115) (dx := d.dI) (by walk_at "nm") (List.mem_of_getElem? (i := 4) rfl) (List.mem_of_getElem? (i := 2) rfl) (by rfl) (by intro g v r; cases r; rfl) (by walk_at "kis") (by walk_at "kis") (by walk_at "kis") (by walk_at "kis") (by rfl))
        (Ty.list (LV.mut (i := 3) rfl)) (PL.cons PE.cint PL.nil (by rfl)) (OPM.pop0 (i := 3) rfl (by simp; omega))
        F.plainAttrs_list F.slot_list_pop F.type_list_pop (by rfl) (by rfl) (by rfl) (by rfl) (by rfl)) rm' H₁ fun v g₂ s₂ L₂ H₂ r₂ => ?_
    obtain ⟨g₄, L₄, H₄, -⟩ := H₂.drop (M' := deskL d signs ln pb ++ N) (List.sublist_cons_self _ _)
    exact k v g₄ s₂ (L'.tr (L₁.tr (L₂.tr L₄))) H₄ (r₂.mono L₄)
theorem get_ok {d : Desk} {signs : List Nat} {ln : Int} {kf : Nat} (hz : signs.length ≤ 1000) (hkf : signs.length ≤ kf) {N : Led} :
    OPM w os (n + 6) (deskL d signs ln [] ++ N) (cf (.ref 105)) [.val (.ref d.I)] (.str (tkS (lexG kf signs ln).1)) (deskL d (lexG kf signs ln).2.1 (lexG kf signs ln).2.2 [] ++ N) := by
  intro A rm g s Q vs H r k
  cases r with | cons r₁ r =>
  cases r
  cases r₁
  refine enterC (n := n + 5) (fa := 105) (vars := [("self", .val (.ref d.I))]) (cv := fun _ => .none) (by walk_at "kis") (by walk_at "kis") (by rfl) (by rfl) (by decide +kernel) (bv_cons (by rfl) (.val _) bv_nil) ?_ rm H ?_
  · intro y hy o ho
    cases hy
  · intro L s' g' rm' L' H'
    change HS w os g' ((L, .frame [("self", .val (.ref d.I))]) :: (deskL d signs ln [] ++ N)) s' at H'
    refine X.if (PT.list (ps := []) (PE.attr (x := d.I) (C := 115) (dx := d.dI) (by walk_at "nm") (List.mem_of_getElem? (i := 4) rfl) (List.mem_of_getElem? (i := 2) rfl) (by rfl) (by intro g v r; cases r; rfl) (by walk_at "kis") (by walk_at "kis") (by walk_at "kis") (by walk_at "kis") (by rfl))
      (LV.mut (i := 3) rfl) (by simp) (by intro _; rfl)) rm' H' fun g₁ s₁ L₁ H₁ => ?_
    rw [if_neg (by decide)]
    refine X.end ?_
    refine X.next (ST.assign PE.cstr (SN.loc (i := 0) (by rfl) (by rfl) (by rfl)) (by rfl)) rm' H₁ fun g₂ s₂ L₂ H₂ => ?_
    refine wpAny_execs_cons (wpAny_Assign_Name ?_ (by rfl))
    refine wpAny_Call_NameR ((PE.bui (n := n + 5) (v := .builtin "iter") ⟨by rfl, by rfl, by rfl⟩ (by rfl) (by walk_at "kis") (by boot_by_name) (by decide) (by decide +kernel)) _ rm' g₂ s₂ _ H₂ fun v g₃ s₃ L₃ H₃ r₃ => ?_)
    cases r₃
    refine callWith_of (P := fun _ => True) (by rfl) (fun h _ => ⟨.machine, .inr (.inl rfl), Looks.of_pure (by rfl)⟩) ?_
    refine evalArgs_plain (spliced_cons (boundNew (n := n + 5) (x := d.I) (C := 115) (dx := d.dI) (f := 98) (by walk_at "nm") (List.mem_of_getElem? (i := 4) rfl) (List.mem_of_getElem? (i := 2) rfl) (by rfl)
      (by walk_at "kis") (by walk_at "kis") (by walk_at "kis") (by walk_at "kis") (by walk_at "kis") (by walk_at "kis") (by walk_at "kis") (by decide +kernel) (by rfl) rm' H₃ fun q g₄ s₄ L₄ H₄ hq => ?_))
    show wpAny _ _ (spliced (backTo _ (starEach [.Constant (.str "") 0 _] _))) _ _ _
    refine PL.cons (n := n + 5) (PE.cstr (x := "")) PL.nil (by rfl) _ rm' g₄ s₄ _ H₄ fun vs g₅ s₅ L₅ H₅ r₅ => ⟨trivial, ?_⟩
    cases r₅ with | cons r₅ r₆ =>
    cases r₆
    cases r₅
    refine iter2 H₅ (L₅ _ _ hq) fun F g₆ s₆ L₆ H₆ => ?_
    refine SN.loc (i := 1) (by rfl) (by rfl) (by rfl) _ g₆ s₆ _ _ H₆ (.val _) fun g₇ s₇ L₇ H₇ => ?_
    have H₈ : HS w os g₇ (Mgt d L F q [] signs ln [] N) s₇ := H₇.weaken (i := 1) (a := L) rfl (wv_cons (by rfl) (wv_cons (by rfl) (wv_cons (by rfl) wv_nil)))
    have hq₇ := L₇ _ _ (L₆ _ _ (L₅ _ _ hq))
    have L₀ : Le g g₇ := L'.tr (L₁.tr (L₂.tr (L₃.tr (L₄.tr (L₅.tr (L₆.tr L₇))))))
    have hff : ∃ o fd, (KF w).lookup 98 = some o ∧ o.data = .func fd := ⟨⟨_, _, .func (fnOf _ _ _ _ _ _ _ _ _ _ _ _), _⟩, _, by walk_at "kis", rfl⟩
    refine wpAny_execs_cons (wpAny_For ?_ (by intro v; rfl))
    refine PE.name (n := n + 5) (Nm.loc (i := 1) (by rfl) (by rfl) (by rfl) (by rfl)) (by decide +kernel) _ rm' g₇ s₇ _ H₈ fun v g₈ s₈ L₈ H₉ r₉ => ?_
    cases r₉
    refine cit_again H₉ (.head _) ?_
    refine X.forCit (n := n + 2) (d := d) (σ := List Nat × List Nat × Int) (tokOf := fun a => a.1) (signsOf := fun a => a.2.1) (lnOf := fun a => a.2.2) (g₀ := g₇) rm' (by rfl) (by rfl) (by rfl) hq₇ hff
      (fun a => a.2.1.length ≤ 1000 ∧ ((a.1 = [] ∧ ∃ k', a.2.1.length ≤ k' ∧ lexG k' a.2.1 a.2.2 = lexG kf signs ln) ∨ (a.2.1 = [] ∧ a = lexG kf signs ln))) (fun a h => h.1) ?_ ?_ ([], signs, ln) g₈ s₈ ⟨hz, .inl ⟨rfl, kf, hkf, rfl⟩⟩ L₈ H₉
    · rintro ⟨t, sg, l⟩ c r g₁₀ s₁₀ Q' ⟨h1, h2⟩ hs hg₁₀ H₁₀ hn hx hr
      dsimp only at h1 h2 hs H₁₀
      subst hs
      rcases h2 with ⟨rfl, k', hk', hG⟩ | ⟨h2, -⟩
      rotate_left
      · cases h2
      obtain ⟨k'', rfl⟩ : ∃ k'', k' = k'' + 1 := ⟨k' - 1, by simp at hk'; omega⟩
      rw [lexG_cons] at hG
      have hrl : r.length ≤ 1000 := by simp at h1; omega
      have hrk : r.length ≤ k'' := by simp at hk'; omega
      refine X.if (PT.cmp (PE.name (Nm.loc (i := 1) (by rfl) (by rfl) (by rfl) (by rfl)) (by decide +kernel)) (PE.attr (x := d.I) (C := 115) (dx := d.dI) (PE.name (Nm.loc (i := 1) (by rfl) (by rfl) (by rfl) (by rfl)) (by decide +kernel)) (List.mem_of_getElem? (i := 5) rfl) (List.mem_of_getElem? (i := 3) rfl) (by rfl) (by intro g v r; cases r; rfl) (by walk_at "kis") (by walk_at "kis") (by walk_at "kis") (by walk_at "kis") (by rfl))
        (OP.in1 (c := c) (by rfl)) (by rfl)) rm' H₁₀ fun g₁₁ s₁₁ L₁₁ H₁₁ => ?_
      cases hw : isWs c with
      | true =>
        rw [hw, if_pos rfl] at hG
        rw [show decide (c ∈ wsp.cps.toList) = true from hw, if_pos rfl]
        refine wpAny_execs_cons (wpAny_Continue ?_)
        refine hn ([], r, l + nlC c) g₁₁ s₁₁ .cont ⟨hrl, .inl ⟨rfl, k'', hrk, hG⟩⟩ (Nat.le_refl _) (.inr rfl) (hg₁₀.tr L₁₁) ?_
        exact H₁₁.weaken (i := 1) (a := L) rfl (wv_cons (by rfl) (wv_cons (by rfl) (wv_cons (by rfl) wv_nil)))
      | false =>
        rw [hw, if_neg (by decide)] at hG
        rw [show decide (c ∈ wsp.cps.toList) = false from hw, if_neg (by decide)]
        refine X.end ?_
        refine X.if (PT.cmp (PE.name (Nm.loc (i := 1) (by rfl) (by rfl) (by rfl) (by rfl)) (by decide +kernel)) PE.cstr OP.eq_str (by rfl)) rm' H₁₁ fun g₁₂ s₁₂ L₁₂ H₁₂ => ?_
        rw [ch1_eq (k := 34) (by rfl)]
        cases h34 : (c == 34) with
        | true =>
          rw [h34, if_pos rfl] at hG
          rw [if_pos rfl]
          have H₁₃ : HS w os g₁₂ (Mgt d L F q [] r (l + nlC c) [] N) s₁₂ := H₁₂.weaken (i := 1) (a := L) rfl (wv_cons (by rfl) (wv_cons (by rfl) (wv_cons (by rfl) wv_nil)))
          refine wpAny_execs_cons (inner_ok (n := n + 2) (stopf := fun x => x == 34) (k := k'') (g₀ := g₇) ⟨by rfl, by rfl, by rfl, by rfl, by rfl⟩ (by rfl) (fun c tok r ln => ?_) hq₇ hff (by rfl) (by rfl) rm' hrl (by simp; omega) hrk (hg₁₀.tr (L₁₁.tr L₁₂)) H₁₃ ?_ ?_)
          · show PT w os _ _ _ _ (c == 34)
            rw [← ch1_eq (c := c) (k := 34) (y := Str.ofString "\"") (by rfl)]
            exact PT.cmp (PE.name (Nm.loc (i := 1) (by rfl) (by rfl) (by rfl) (by rfl)) (by decide +kernel)) PE.cstr OP.eq_str (by rfl)
          · intro s'' l' t' hR v g₁₃ s₁₃ L₁₃ H₁₃ r₁₃
            rw [hR] at hG
            refine hr v s₁₃ ?_
            rw [← hG] at k
            exact k v g₁₃ s₁₃ (L₀.tr L₁₃) H₁₃ r₁₃
          · intro l' t' hR g₁₃ s₁₃ L₁₃ H₁₃
            rw [hR] at hG
            refine X.end (X.end ?_)
            refine hx (t', [], l') g₁₃ s₁₃ ⟨Nat.zero_le _, .inr ⟨rfl, hG⟩⟩ rfl L₁₃ H₁₃
        | false =>
          rw [h34, if_neg (by decide)] at hG
          rw [if_neg (by decide)]
          refine X.next (esc_ok (n := n + 3) ⟨by rfl, by rfl, by rfl, by rfl, by rfl⟩ hrl (by rfl) (by rfl)) rm' H₁₂ fun g₁₃ s₁₃ L₁₃ H₁₃ => ?_
          have he1 := escd_len c r (l + nlC c)
          have he2 : (escd c r (l + nlC c)).1.length ≤ 1 := by
            unfold escd
            split
            · cases r <;> simp
            · simp
          refine X.next (tok_ok (tok := []) ⟨by rfl, by rfl, by rfl, by rfl, by rfl⟩ (by simp) (by omega)) rm' H₁₃ fun g₁₄ s₁₄ L₁₄ H₁₄ => ?_
          rw [List.nil_append] at H₁₄
          refine wpAny_execs_cons (inner_ok (n := n + 2) (stopf := isWs) (k := k'') (g₀ := g₇) ⟨by rfl, by rfl, by rfl, by rfl, by rfl⟩ (by rfl) (fun c tok r ln => ?_) hq₇ hff (by rfl) (by rfl) rm' (by omega) (by omega) (by omega) (hg₁₀.tr (L₁₁.tr (L₁₂.tr (L₁₃.tr L₁₄)))) H₁₄ ?_ ?_)
          · exact PT.cmp (PE.name (Nm.loc (i := 1) (by rfl) (by rfl) (by rfl) (by rfl)) (by decide +kernel)) (PE.attr (x := d.I) (C := 115) (dx := d.dI) (PE.name (Nm.loc (i := 1) (by rfl) (by rfl) (by rfl) (by rfl)) (by decide +kernel)) (List.mem_of_getElem? (i := 5) rfl) (List.mem_of_getElem? (i := 3) rfl) (by rfl) (by intro g v r; cases r; rfl) (by walk_at "kis") (by walk_at "kis") (by walk_at "kis") (by walk_at "kis") (by rfl))
              (OP.in1 (c := c) (by rfl)) (by rfl)
          · intro s'' l' t' hR v g₁₅ s₁₅ L₁₅ H₁₅ r₁₅
            rw [hR] at hG
            refine hr v s₁₅ ?_
            rw [← hG] at k
            exact k v g₁₅ s₁₅ (L₀.tr L₁₅) H₁₅ r₁₅
          · intro l' t' hR g₁₅ s₁₅ L₁₅ H₁₅
            rw [hR] at hG
            refine X.end (X.end ?_)
            exact hx (t', [], l') g₁₅ s₁₅ ⟨Nat.zero_le _, .inr ⟨rfl, hG⟩⟩ rfl L₁₅ H₁₅
    · rintro ⟨t, sg, l⟩ g₁₀ s₁₀ ⟨h1, h2⟩ hs hg₁₀ H₁₀
      dsimp only at h1 h2 hs H₁₀
      subst hs
      have hG : (t, [], l) = lexG kf signs ln := by
        rcases h2 with ⟨rfl, k', hk', hG⟩ | ⟨-, hG⟩
        · rw [← hG]; cases k' <;> rfl
        · exact hG
      dsimp only
      refine X.ret (n := n + 5) (PE.name (Nm.loc (i := 1) (by rfl) (by rfl) (by rfl) (by rfl)) (by decide +kernel)) rm' H₁₀ fun v g₁₁ s₁₁ L₁₁ H₁₁ r₁₁ => ?_
      obtain ⟨g₁₂, L₁₂, H₁₂, -⟩ := H₁₁.drop (M' := deskL d [] l [] ++ N) ((List.sublist_cons_self _ _).trans (List.sublist_cons_self _ _))
      rw [← hG] at k
      exact k v g₁₂ s₁₁ (L₀.tr (hg₁₀.tr (L₁₁.tr L₁₂))) H₁₂ (r₁₁.mono L₁₂)
end
set_option maxHeartbeats 1000000
section
variable {w : World} {os : Ext} {n : Nat} {M M' : Led} {env : Env} {pos : Pos}
noncomputable def halfL (kt : Nat → Bool) (x : Bool) (a : Nat × Nat) : Nat × Nat := if (!kt ((a.1 + a.2) / 2) && x) = true then ((a.1 + a.2) / 2 + 1, a.2) else (a.1, (a.1 + a.2) / 2)
noncomputable def halfR (kt : Nat → Bool) (x : Bool) (a : Nat × Nat) : Nat × Nat := if (!x && kt ((a.1 + a.2) / 2)) = true then (a.1, (a.1 + a.2) / 2) else ((a.1 + a.2) / 2 + 1, a.2)
noncomputable def goesOn (a : Nat × Nat) : Bool := decide (a.1 < a.2)
noncomputable def bisL (kt : Nat → Bool) (x : Bool) (m : Nat) : Nat := (whileF goesOn (halfL kt x) m (0, m)).1
noncomputable def bisR (kt : Nat → Bool) (x : Bool) (m : Nat) : Nat := (whileF goesOn (halfR kt x) m (0, m)).1
theorem lt_nat (a : Nat × Nat) : OP w os n M (co .Lt) [.int a.1, .int a.2] (.bool (goesOn a)) := by
  have h := OP.lt_int (w := w) (os := os) (n := n) (M := M) (a := (a.1 : Int)) (b := (a.2 : Int))
  rw [show decide ((a.1 : Int) < a.2) = goesOn a by unfold goesOn; simp] at h
  exact h
theorem bisL_ok {m : Nat} {x : Bool} {kt : Nat → Bool} {Kf : Addr} {P : Obj → Prop} (hm : m ≤ 1000) (hP : ∀ o, P o → ∃ fd, o.data = .func fd) (hK : (Kf, Ent.is P) ∈ M)
    (hkey : ∀ (p : Addr × Ent) (i : Nat), i < m → OP w os n (p :: M) (cf (.ref Kf)) [.int i] (.bool (kt i)))
    {A : Around} (rm : Rm A (n + 1)) {g : Heap} {s : Shared} {R : Result → Shared → Prop} {l : Value} (H : HS w os g M s) (r : Rd g l (.list ((List.range m).map fun i => PV.int (i : Nat))))
    (k : ∀ v g' s', Le g g' → HS w os g' M s' → Rd g' v (.int (bisL kt x m)) → R (.ok (.ret v)) s') :
    codeAny (model PRG w) A (.call (.ref 77) ⟨[l, .bool x], [("key", .ref Kf)]⟩) R s := by
  refine enterD (n := n) (fa := 77) (binds := [("a", l), ("x", .bool x), ("lo", .int 0 _), ("hi", .none), ("key", .ref Kf)]) (vars := [("a", .list ((List.range m).map fun i => PV.int (i : Nat))), ("x", .bool x), ("lo", .int (0 : Nat)), ("hi", .none), ("key", .val (.ref Kf))]) (by walk_at "kis") (by walk_at "kis") (binds_K H.kin (by rfl) (by walk_at "kis") (by rfl) (by rfl) (by rfl)) ?_ (by decide +kernel) ?_ rm H ?_
  · intro y hy
    simp only [List.mem_cons, List.not_mem_nil, or_false] at hy
    rcases hy with rfl | rfl | rfl | rfl | rfl <;> rfl
  · exact bv_cons (by rfl) r (bv_cons (by rfl) (.bool _) (bv_cons (by rfl) (.int _ _) (bv_cons (by rfl) .none (bv_cons (by rfl) (.val _) bv_nil))))
  · intro L s' g' rm' L' H'
    refine X.if (PT.cmp (by walk_at "nm") PE.cint OP.lt_int (by rfl)) rm' H' fun g₁ s₁ L₁ H₁ => ?_
    rw [if_neg (by decide)]
    refine X.end ?_
    refine X.if (PT.cmp (by walk_at "nm") PE.cnone OP.noneIs (by rfl)) rm' H₁ fun g₂ s₂ L₂ H₂ => ?_
    rw [if_pos rfl]
    refine X.next (ST.assign (PE.callB (by walk_at "nm") (by intro a; exact nofun) (PL.cons (by walk_at "nm") PL.nil (by rfl)) (OP.len LV.imm (by simp; omega)) (by rfl) (by rfl)) (SN.loc (i := 0) (by rfl) (by rfl) (by rfl)) (by rfl)) rm' H₂ fun g₃ s₃ L₃ H₃ => ?_
    refine X.end ?_
    have H₄ : HS w os g₃ ((L, .frame [("lo", .int (0 : Nat)), ("hi", .int (m : Nat)), ("a", .list ((List.range m).map fun i => PV.int (i : Nat))), ("x", .bool x), ("key", .val (.ref Kf))]) :: M) s₃ := by
      rw [List.length_map, List.length_range] at H₃
      exact H₃.weaken (i := 0) (a := L) rfl (wv_cons (by rfl) (wv_cons (by rfl) (wv_cons (by rfl) (wv_cons (by rfl) (wv_cons (by rfl) wv_nil)))))
    refine X.if (PT.cmp (by walk_at "nm") PE.cnone (OP.isNone (by intro g v r; cases r; nofun)) (by rfl)) rm' H₄ fun g₅ s₅ L₅ H₅ => ?_
    rw [if_neg (by decide)]
    refine X.while (σ := Nat × Nat) (MI := fun a => (L, .frame [("lo", .int a.1), ("hi", .int a.2), ("a", .list ((List.range m).map fun i => PV.int (i : Nat))), ("x", .bool x), ("key", .val (.ref Kf))]) :: M) (tb := goesOn) (next := halfL kt x) (meas := fun a => a.2 - a.1) (St := fun a => a.1 ≤ a.2 ∧ a.2 ≤ m)
      (fun a ha => PT.cmp (by walk_at "nm") (by walk_at "nm") (lt_nat a) (by rfl)) ?_ ?_ ?_ rm' (a := (0, m)) ⟨Nat.zero_le _, Nat.le_refl _⟩ (kf := m) (by simp) H₅ fun g₆ s₆ L₆ hS H₆ => ?_
    · rintro ⟨lo, hi⟩ ⟨h1, h2⟩ hg
      have hlt : lo < hi := by simpa [goesOn] using hg
      have hmid : (lo + hi) / 2 < m := by omega
      refine SS.cons (M₁ := (L, .frame [("mid", .int ((lo + hi) / 2 : Nat)), ("lo", .int lo), ("hi", .int hi), ("a", .list ((List.range m).map fun i => PV.int (i : Nat))), ("x", .bool x), ("key", .val (.ref Kf))]) :: M) ?_ ?_
      · have e : Int.fdiv ((lo : Int) + hi) 2 = (((lo + hi) / 2 : Nat) : Int) := by
          rw [Int.fdiv_eq_ediv_of_nonneg _ (by decide)]; omega
        have h := OP.floordiv_int (w := w) (os := os) (n := n) (M := (L, Ent.frame [("lo", .int lo), ("hi", .int hi), ("a", .list ((List.range m).map fun i => PV.int (i : Nat))), ("x", .bool x), ("key", .val (.ref Kf))]) :: M) (a := (lo : Int) + hi) (b := 2) (by decide) (by rfl)
        rw [e] at h
        exact ST.assign (PE.bin (PE.bin (by walk_at "nm") (by walk_at "nm") OP.add_int) PE.cint h) (SN.loc (i := 0) (by rfl) (by rfl) (by rfl)) (by rfl)
      · have hW : LV w os ((L, Ent.frame [("mid", .int ((lo + hi) / 2 : Nat)), ("lo", .int lo), ("hi", .int hi), ("a", .list ((List.range m).map fun i => PV.int (i : Nat))), ("x", .bool x), ("key", .val (.ref Kf))]) :: M) (.list ((List.range m).map fun i => PV.int (i : Nat))) ((List.range m).map fun i => PV.int (i : Nat)) := LV.imm
        refine SS.cons (ST.ifTrue (PT.cmp (PE.callD (by walk_at "nm") (.tail _ hK) hP (PL.cons (PE.itemL (by walk_at "nm") hW (by walk_at "nm") (j := (lo + hi) / 2) (r := .int ((lo + hi) / 2 : Nat)) (by rw [List.getElem?_map, List.getElem?_range hmid]; rfl) (by simp; omega) (by intro o k; rfl)) PL.nil (by rfl)) (hkey _ _ hmid) (by rfl) (by rfl)) (by walk_at "nm") OP.lt_bool (by rfl)) (fun hb => ?_) (fun hb => ?_)) SS.nil
        · have e : halfL kt x (lo, hi) = ((lo + hi) / 2 + 1, hi) := by unfold halfL; rw [if_pos hb]
          rw [e]
          refine SS.cons ?_ SS.nil
          intro A rm g s Q H k
          refine ST.assign (PE.bin (by walk_at "nm") PE.cint OP.add_int) (SN.loc (i := 0) (by rfl) (by rfl) (by rfl)) (by rfl) A rm g s Q H fun g₁ s₁ L₁ H₁ => k g₁ s₁ L₁ ?_
          exact H₁.weaken (i := 0) (a := L) rfl (wv_cons (by rfl) (wv_cons (by rfl) (wv_cons (by rfl) (wv_cons (by rfl) (wv_cons (by rfl) wv_nil)))))
        · have e : halfL kt x (lo, hi) = (lo, (lo + hi) / 2) := by unfold halfL; rw [if_neg (by rw [hb]; decide)]
          rw [e]
          refine SS.cons ?_ SS.nil
          intro A rm g s Q H k
          refine ST.assign (by walk_at "nm") (SN.loc (i := 0) (by rfl) (by rfl) (by rfl)) (by rfl) A rm g s Q H fun g₁ s₁ L₁ H₁ => k g₁ s₁ L₁ ?_
          exact H₁.weaken (i := 0) (a := L) rfl (wv_cons (by rfl) (wv_cons (by rfl) (wv_cons (by rfl) (wv_cons (by rfl) (wv_cons (by rfl) wv_nil)))))
    · rintro ⟨lo, hi⟩ ⟨h1, h2⟩ hg
      have hlt : lo < hi := by simpa [goesOn] using hg
      dsimp only at h2
      unfold halfL
      split
      · exact ⟨by dsimp only; omega, h2⟩
      · exact ⟨by dsimp only; omega, by dsimp only; omega⟩
    · rintro ⟨lo, hi⟩ ⟨h1, h2⟩ hg
      have hlt : lo < hi := by simpa [goesOn] using hg
      unfold halfL
      split <;> dsimp only <;> omega
    · change HS w os g₆ ((L, .frame [("lo", .int (bisL kt x m)), ("hi", .int (whileF goesOn (halfL kt x) m (0, m)).2), ("a", .list ((List.range m).map fun i => PV.int (i : Nat))), ("x", .bool x), ("key", .val (.ref Kf))]) :: M) s₆ at H₆
      refine X.end ?_
      refine X.ret (p := .int (bisL kt x m)) (PE.name (Nm.loc (i := 0) (by rfl) (by rfl) (by rfl) (by rfl)) (by decide +kernel)) rm' H₆ fun v g₇ s₇ L₇ H₇ r₇ => ?_
      obtain ⟨g₈, L₈, H₈, -⟩ := H₇.drop (M' := M) (List.sublist_cons_self _ _)
      exact k v g₈ s₇ (L'.tr (L₁.tr (L₂.tr (L₃.tr (L₅.tr (L₆.tr (L₇.tr L₈))))))) H₈ (r₇.mono L₈)
end
set_option maxHeartbeats 1000000
section
variable {w : World} {os : Ext} {n : Nat} {M M' : Led} {env : Env} {pos : Pos}
theorem bisR_ok {m : Nat} {x : Bool} {kt : Nat → Bool} {Kf : Addr} {P : Obj → Prop} (hm : m ≤ 1000) (hP : ∀ o, P o → ∃ fd, o.data = .func fd) (hK : (Kf, Ent.is P) ∈ M)
    (hkey : ∀ (p : Addr × Ent) (i : Nat), i < m → OP w os n (p :: M) (cf (.ref Kf)) [.int i] (.bool (kt i)))
    {A : Around} (rm : Rm A (n + 1)) {g : Heap} {s : Shared} {R : Result → Shared → Prop} {l : Value} (H : HS w os g M s) (r : Rd g l (.list ((List.range m).map fun i => PV.int (i : Nat))))
    (k : ∀ v g' s', Le g g' → HS w os g' M s' → Rd g' v (.int (bisR kt x m)) → R (.ok (.ret v)) s') :
    codeAny (model PRG w) A (.call (.ref 68) ⟨[l, .bool x], [("key", .ref Kf)]⟩) R s := by
  refine enterD (n := n) (fa := 68) (binds := [("a", l), ("x", .bool x), ("lo", .int 0 _), ("hi", .none), ("key", .ref Kf)]) (vars := [("a", .list ((List.range m).map fun i => PV.int (i : Nat))), ("x", .bool x), ("lo", .int (0 : Nat)), ("hi", .none), ("key", .val (.ref Kf))]) (by walk_at "kis") (by walk_at "kis") (binds_K H.kin (by rfl) (by walk_at "kis") (by rfl) (by rfl) (by rfl)) ?_ (by decide +kernel) ?_ rm H ?_
  · intro y hy
    simp only [List.mem_cons, List.not_mem_nil, or_false] at hy
    rcases hy with rfl | rfl | rfl | rfl | rfl <;> rfl
  · exact bv_cons (by rfl) r (bv_cons (by rfl) (.bool _) (bv_cons (by rfl) (.int _ _) (bv_cons (by rfl) .none (bv_cons (by rfl) (.val _) bv_nil))))
  · intro L s' g' rm' L' H'
    refine X.if (PT.cmp (by walk_at "nm") PE.cint OP.lt_int (by rfl)) rm' H' fun g₁ s₁ L₁ H₁ => ?_
    rw [if_neg (by decide)]
    refine X.end ?_
    refine X.if (PT.cmp (by walk_at "nm") PE.cnone OP.noneIs (by rfl)) rm' H₁ fun g₂ s₂ L₂ H₂ => ?_
    rw [if_pos rfl]
    refine X.next (ST.assign (PE.callB (by walk_at "nm") (by intro a; exact nofun) (PL.cons (by walk_at "nm") PL.nil (by rfl)) (OP.len LV.imm (by simp; omega)) (by rfl) (by rfl)) (SN.loc (i := 0) (by rfl) (by rfl) (by rfl)) (by rfl)) rm' H₂ fun g₃ s₃ L₃ H₃ => ?_
    refine X.end ?_
    have H₄ : HS w os g₃ ((L, .frame [("lo", .int (0 : Nat)), ("hi", .int (m : Nat)), ("a", .list ((List.range m).map fun i => PV.int (i : Nat))), ("x", .bool x), ("key", .val (.ref Kf))]) :: M) s₃ := by
      rw [List.length_map, List.length_range] at H₃
      exact H₃.weaken (i := 0) (a := L) rfl (wv_cons (by rfl) (wv_cons (by rfl) (wv_cons (by rfl) (wv_cons (by rfl) (wv_cons (by rfl) wv_nil)))))
    refine X.if (PT.cmp (by walk_at "nm") PE.cnone (OP.isNone (by intro g v r; cases r; nofun)) (by rfl)) rm' H₄ fun g₅ s₅ L₅ H₅ => ?_
    rw [if_neg (by decide)]
    refine X.while (σ := Nat × Nat) (MI := fun a => (L, .frame [("lo", .int a.1), ("hi", .int a.2), ("a", .list ((List.range m).map fun i => PV.int (i : Nat))), ("x", .bool x), ("key", .val (.ref Kf))]) :: M) (tb := goesOn) (next := halfR kt x) (meas := fun a => a.2 - a.1) (St := fun a => a.1 ≤ a.2 ∧ a.2 ≤ m)
      (fun a ha => PT.cmp (by walk_at "nm") (by walk_at "nm") (lt_nat a) (by rfl)) ?_ ?_ ?_ rm' (a := (0, m)) ⟨Nat.zero_le _, Nat.le_refl _⟩ (kf := m) (by simp) H₅ fun g₆ s₆ L₆ hS H₆ => ?_
    · rintro ⟨lo, hi⟩ ⟨h1, h2⟩ hg
      have hlt : lo < hi := by simpa [goesOn] using hg
      have hmid : (lo + hi) / 2 < m := by omega
      refine SS.cons (M₁ := (L, .frame [("mid", .int ((lo + hi) / 2 : Nat)), ("lo", .int lo), ("hi", .int hi), ("a", .list ((List.range m).map fun i => PV.int (i : Nat))), ("x", .bool x), ("key", .val (.ref Kf))]) :: M) ?_ ?_
      · have e : Int.fdiv ((lo : Int) + hi) 2 = (((lo + hi) / 2 : Nat) : Int) := by
          rw [Int.fdiv_eq_ediv_of_nonneg _ (by decide)]; omega
        have h := OP.floordiv_int (w := w) (os := os) (n := n) (M := (L, Ent.frame [("lo", .int lo), ("hi", .int hi), ("a", .list ((List.range m).map fun i => PV.int (i : Nat))), ("x", .bool x), ("key", .val (.ref Kf))]) :: M) (a := (lo : Int) + hi) (b := 2) (by decide) (by rfl)
        rw [e] at h
        exact ST.assign (PE.bin (PE.bin (by walk_at "nm") (by walk_at "nm") OP.add_int) PE.cint h) (SN.loc (i := 0) (by rfl) (by rfl) (by rfl)) (by rfl)
      · have hW : LV w os ((L, Ent.frame [("mid", .int ((lo + hi) / 2 : Nat)), ("lo", .int lo), ("hi", .int hi), ("a", .list ((List.range m).map fun i => PV.int (i : Nat))), ("x", .bool x), ("key", .val (.ref Kf))]) :: M) (.list ((List.range m).map fun i => PV.int (i : Nat))) ((List.range m).map fun i => PV.int (i : Nat)) := LV.imm
        refine SS.cons (ST.ifTrue (PT.cmp (by walk_at "nm") (PE.callD (by walk_at "nm") (.tail _ hK) hP (PL.cons (PE.itemL (by walk_at "nm") hW (by walk_at "nm") (j := (lo + hi) / 2) (r := .int ((lo + hi) / 2 : Nat)) (by rw [List.getElem?_map, List.getElem?_range hmid]; rfl) (by simp; omega) (by intro o k; rfl)) PL.nil (by rfl)) (hkey _ _ hmid) (by rfl) (by rfl)) OP.lt_bool (by rfl)) (fun hb => ?_) (fun hb => ?_)) SS.nil
        · have e : halfR kt x (lo, hi) = (lo, (lo + hi) / 2) := by unfold halfR; rw [if_pos hb]
          rw [e]
          refine SS.cons ?_ SS.nil
          intro A rm g s Q H k
          refine ST.assign (by walk_at "nm") (SN.loc (i := 0) (by rfl) (by rfl) (by rfl)) (by rfl) A rm g s Q H fun g₁ s₁ L₁ H₁ => k g₁ s₁ L₁ ?_
          exact H₁.weaken (i := 0) (a := L) rfl (wv_cons (by rfl) (wv_cons (by rfl) (wv_cons (by rfl) (wv_cons (by rfl) (wv_cons (by rfl) wv_nil)))))
        · have e : halfR kt x (lo, hi) = ((lo + hi) / 2 + 1, hi) := by unfold halfR; rw [if_neg (by rw [hb]; decide)]
          rw [e]
          refine SS.cons ?_ SS.nil
          intro A rm g s Q H k
          refine ST.assign (PE.bin (by walk_at "nm") PE.cint OP.add_int) (SN.loc (i := 0) (by rfl) (by rfl) (by rfl)) (by rfl) A rm g s Q H fun g₁ s₁ L₁ H₁ => k g₁ s₁ L₁ ?_
          exact H₁.weaken (i := 0) (a := L) rfl (wv_cons (by rfl) (wv_cons (by rfl) (wv_cons (by rfl) (wv_cons (by rfl) (wv_cons (by rfl) wv_nil)))))
    · rintro ⟨lo, hi⟩ ⟨h1, h2⟩ hg
      have hlt : lo < hi := by simpa [goesOn] using hg
      dsimp only at h2
      unfold halfR
      split
      · exact ⟨by dsimp only; omega, by dsimp only; omega⟩
      · exact ⟨by dsimp only; omega, h2⟩
    · rintro ⟨lo, hi⟩ ⟨h1, h2⟩ hg
      have hlt : lo < hi := by simpa [goesOn] using hg
      unfold halfR
      split <;> dsimp only <;> omega
    · change HS w os g₆ ((L, .frame [("lo", .int (bisR kt x m)), ("hi", .int (whileF goesOn (halfR kt x) m (0, m)).2), ("a", .list ((List.range m).map fun i => PV.int (i : Nat))), ("x", .bool x), ("key", .val (.ref Kf))]) :: M) s₆ at H₆
      refine X.end ?_
      refine X.ret (p := .int (bisR kt x m)) (PE.name (Nm.loc (i := 0) (by rfl) (by rfl) (by rfl) (by rfl)) (by decide +kernel)) rm' H₆ fun v g₇ s₇ L₇ H₇ r₇ => ?_
      obtain ⟨g₈, L₈, H₈, -⟩ := H₇.drop (M' := M) (List.sublist_cons_self _ _)
      exact k v g₈ s₇ (L'.tr (L₁.tr (L₂.tr (L₃.tr (L₅.tr (L₆.tr (L₇.tr L₈))))))) H₈ (r₇.mono L₈)
end
set_option maxHeartbeats 1000000
section
open PySem.Builtin PySem.Builtin.Re
namespace Rp
theorem plainAttrs : PlainAttrs "re.Pattern" :=
  ⟨⟨"object.__getattribute__", by rw [typeLookup_type, builtinLookup_eq_fast]; kernel_rfl, by decide +kernel⟩, by rw [typeLookup_type, builtinLookup_eq_fast]; kernel_rfl⟩
theorem slot : Slot "re.Pattern" "search" "re.Pattern.search" :=
  .of (owner := "re.Pattern") (n := "search") (by rw [typeLookup_type, builtinLookup_eq_fast]; kernel_rfl) (by decide +kernel) (by decide +kernel) (by decide +kernel)
    (by first | exact .inl (by decide +kernel) | exact .inr (by decide +kernel)) (by rw [isSubtype_type]; kernel_rfl)
theorem type : typeOf (.builtin "re.Pattern.search") = pure (.type "method_descriptor") := by show builtinType _ = _; rw [builtinType_eq_fast]; kernel_rfl
theorem entry : entryFor table "re.Pattern.search" = some Builtin.«re.Pattern.search» := entryFor_of_tree (by kernel_rfl)
theorem args2 (a b : Value) : argsOk "re.Pattern.search" ⟨[a, b], []⟩ := by unfold argsOk; kernel_rfl
end Rp
noncomputable def drv : Nat → Sre.M → Option Sre.M
  | 0, _ => none
  | k + 1, m => if (m.runFor reTurnSteps).outcome.isSome then some (m.runFor reTurnSteps) else drv k (m.runFor reTurnSteps)
theorem reDrive_of {w : World} {A : Around} {E : Value → Shared → Prop} {s : Shared} {Q : Sre.M → Shared → Prop} {m' : Sre.M} : ∀ (k turns : Nat) (m : Sre.M), drv k m = some m' → k ≤ turns → Q m' s → wpAny (model PRG w) A (reDrive turns m) Q E s
  | 0, _, _, h, _, _ => nomatch h
  | k + 1, 0, _, _, h, _ => absurd h (by omega)
  | k + 1, turns + 1, m, h, hk, hq => by
    unfold drv at h
    unfold reDrive
    dsimp only
    split at h
    next hs => cases h; rw [if_pos hs]; exact wpAny_pure hq
    next hs => rw [if_neg hs]; exact wpAny_bind (wpAny_rule (reDrive_of k turns _ h (by omega) hq))
theorem rules_of {w : World} {A : Around} {E : Value → Shared → Prop} {s : Shared} {Q : PUnit → Shared → Prop} {f : Nat → PUnit → Sem (ForInStep PUnit)} (hf : ∀ i Q, Q (.yield ⟨⟩) s → wpAny (model PRG w) A (f i ⟨⟩) Q E s) : ∀ l : List Nat, Q ⟨⟩ s → wpAny (model PRG w) A (forIn l ⟨⟩ f) Q E s
  | [], h => by rw [List.forIn_nil]; exact wpAny_pure h
  | i :: l, h => by
    rw [List.forIn_cons]
    exact wpAny_bind (hf i _ (rules_of hf l h))
theorem run_failed {w : World} {A : Around} {E : Value → Shared → Prop} {s : Shared} {Q : Option Sre.M → Shared → Prop} {m : Sre.M} {k : Nat} (hk : k ≤ 1000) (h : (drv k m).map (·.outcome) = some (some .failed)) (hq : Q none s) : wpAny (model PRG w) A (reRunToEnd m) Q E s := by
  obtain ⟨m', hm, ho⟩ := Option.map_eq_some_iff.mp h
  unfold reRunToEnd
  refine wpAny_bind (reDrive_of k _ m hm (by omega) ?_)
  refine wpAny_bind (rules_of (fun i Q hQ => ?_) _ ?_)
  · split
    · exact wpAny_bind (wpAny_rule (wpAny_pure hQ))
    · exact wpAny_pure hQ
  · rw [ho]
    exact wpAny_pure hq
noncomputable def codeOf (items : Array Value) : Array Nat := (items.map reRawOf).map (·.toNat)
theorem OP.search {w : World} {os : Ext} {n : Nat} {M : Led} {a b : Addr} {x : Str} {v0 v1 v3 v4 : Value} {items : Array Value} {k : Nat}
    (ha : (KF w).lookup a = some { cls := .type "re.Pattern", data := .fields #[v0, v1, .int 0 0, v3, v4, .ref b, .int 0 0] }) (hb : (KF w).lookup b = some { cls := .type "tuple", data := .seq items }) (hk : k ≤ 1000) 
    (h : (drv k (Sre.forSearch (codeOf items) x.cps 0 0 x.cps.size false)).map (·.outcome) = some (some .failed)) (hx : x.cps.size ≤ 1000) : OP w os n M (cf (.builtin "re.Pattern.search")) [.val (.ref a), .str x] .none := fun A rm g s Q vs H r kq => by
  cases r with | cons r₁ r => cases r with | cons r₂ r =>
  cases r; cases r₁; cases r₂ with | str _ t =>
  have ha' := H.kin _ _ ha
  have hb' := H.kin _ _ hb
  refine wpAny_call (codeAny_call_builtin Rp.slot.plain Rp.entry (Rp.slot.check _ _ _ _ _ _ _ _ ⟨_, ha', rfl⟩ (Rp.args2 _ _) ?_))
  unfold Builtin.«re.Pattern.search» reTarget
  refine wpAny_bind ?_
  dsimp only
  refine wpAny_bind (m := reNamed _ _ _ _ _ _) (wpAny_pure (a := ([some (Value.str x t), none, none] : List (Option Value))) ?_)
  dsimp only
  refine wpAny_bind (m := pure (0 : Int)) (wpAny_pure ?_)
  refine wpAny_bind (wpAny_pure ?_)
  refine wpAny_bind (wpAny_fieldsOf ha' rfl ?_)
  refine wpAny_bind (m := reTextOf _) (wpAny_pure (a := (x.cps, 0)) ?_)
  dsimp only
  refine wpAny_bind (m := pure _) (wpAny_pure ?_)
  refine wpAny_bind ?_
  unfold reRawItems
  refine wpAny_bind (wpAny_seqItems hb' rfl ?_)
  refine wpAny_pure (wpAny_pure ?_)
  dsimp only
  have e1 : Min.min (2 ^ 63 - 1 : Int).toNat x.cps.size = x.cps.size := by
    have : (2 ^ 63 - 1 : Int).toNat = 9223372036854775807 := by decide
    rw [this]; omega
  have e2 : Min.min (Int.toNat 0) x.cps.size = 0 := by simp
  rw [e1, e2]
  unfold reAnswer
  refine wpAny_bind (run_failed hk h ?_)
  exact wpAny_pure (kq _ g _ Le.rfl H .none)
end
set_option maxHeartbeats 1000000
section
variable {w : World} {os : Ext} {n : Nat} {env : Env} {M : Led} {pos : Pos}
structure ItOkL (w : World) (os : Ext) (D₀ : Addr) (ps : List PV) (it : Value) (I : Addr) (ent : Nat → Ent) : Prop where
  again : ∀ (A : Around) (M : Led) (g : Heap) (s : Shared) (Q : Value → Shared → Prop) (i : Nat), A.handled = .none → (D₀, Ent.list ps) ∈ M → HS w os g ((I, ent i) :: M) s → Q it s → wpAny (model PRG w) A (pyIter it) Q NoE s
  item : ∀ (A : Around) (M : Led) (g : Heap) (s : Shared) (Q : Option Value → Shared → Prop) (i : Nat) (p : PV), A.handled = .none → (D₀, Ent.list ps) ∈ M → HS w os g ((I, ent i) :: M) s → ps[i]? = some p →
    (∀ v g' s', Le g g' → HS w os g' ((I, ent (i + 1)) :: M) s' → Rd g' v p → Q (some v) s') → wpAny (model PRG w) A (pyNext it) Q NoE s
  stop : ∀ (A : Around) (M : Led) (g : Heap) (s : Shared) (Q : Option Value → Shared → Prop), A.handled = .none → (D₀, Ent.list ps) ∈ M → HS w os g ((I, ent ps.length) :: M) s →
    (∀ g' s', Le g g' → HS w os g' M s' → Q .none s') → wpAny (model PRG w) A (pyNext it) Q NoE s
theorem IterL.list {D₀ : Addr} {ps : List PV} (hD : (D₀, Ent.list ps) ∈ M) (A : Around) (g : Heap) (s : Shared) (Q : Value → Shared → Prop) (H : HS w os g M s)
    (k : ∀ it I ent g' s', Le g g' → HS w os g' ((I, ent 0) :: M) s' → ItOkL w os D₀ ps it I ent → Q it s') : wpAny (model PRG w) A (pyIter (.ref D₀)) Q NoE s := by
  obtain ⟨o, ho, vs, m, rfl, hr⟩ := H.at_ _ hD
  refine wpAny_pyIter_list (items := vs.toArray) ⟨_, ho, rfl, m, rfl⟩ ?_
  obtain ⟨g', L, H'⟩ := pushEnt (e := lit D₀ 0) (tk := s.toks) H { cls := .type "list_iterator", data := .fields #[.ref D₀, .int 0 0] } rfl fun _ _ => ⟨rfl, rfl⟩
  refine k _ _ (lit D₀) g' _ L H' ⟨?_, ?_, ?_⟩
  · intro A M g₁ s₁ Q i hh hD₁ H₁ hq
    obtain ⟨o, ho, h1, h2⟩ := H₁.headIs
    exact wpAny_pyIter_listiter (i := i) ⟨o, ho, h1, h2⟩ hq
  · intro A M g₁ s₁ Q i p hh hD₁ H₁ hp kk
    obtain ⟨o, ho, h1, h2⟩ := H₁.headIs
    obtain ⟨o₂, ho₂, vs₂, m₂, rfl, hr₂⟩ := H₁.at_ _ (.tail _ hD₁)
    obtain ⟨v, hv, rv⟩ := hr₂.get hp
    refine wpAny_pyNext_list_item (i := i) ⟨o, ho, h1, h2⟩ (items := vs₂.toArray) ⟨_, ho₂, rfl, m₂, rfl⟩ (x := v) (by simpa using hv) fun h' hi hs => ?_
    obtain ⟨o', e', h1', h2'⟩ := hi
    obtain ⟨g₂, L₂, H₂⟩ := H₁.sameBut (e' := lit D₀ (i + 1)) (tk := s₁.toks) hs fun _ _ => ⟨o', e', h1', h2'⟩
    exact kk v g₂ _ L₂ H₂ (rv.mono L₂)
  · intro A M g₁ s₁ Q hh hD₁ H₁ kk
    obtain ⟨o, ho, h1, h2⟩ := H₁.headIs
    obtain ⟨o₂, ho₂, vs₂, m₂, rfl, hr₂⟩ := H₁.at_ _ (.tail _ hD₁)
    refine wpAny_pyNext_list_end hh ⟨o, ho, h1, h2⟩ (items := vs₂.toArray) ⟨_, ho₂, rfl, m₂, rfl⟩ (by have := hr₂.length; simp; omega) fun h' hs => ?_
    obtain ⟨g₂, L₂, H₂⟩ := H₁.dropHead hs
    exact kk g₂ _ L₂ H₂
theorem comp_coreL {elt tgt iter : Expr} {ifs : List Expr} {scope : Scope} {it : Value} {I D : Addr} {ent : Nat → Ent} {D₀ : Addr} {cenv : Env} {T : Option PV → Led} {α : Type} {ps : List α} {enc : α → PV} {t : α → Bool} {f : α → PV}
    (hT : Tgt w os cenv tgt T) (hI : ItOkL w os D₀ (ps.map enc) it I ent) (hz : ps.length ≤ sizeLine) (hD : (D₀, Ent.list (ps.map enc)) ∈ M)
    (hts : ∀ p ∈ ps, ∀ (e : Ent) (l : List PV), PTs w os n cenv ((I, e) :: (D, .list l) :: (T (some (enc p)) ++ M)) ifs (t p))
    (hel : ∀ p ∈ ps, t p = true → ∀ (e : Ent) (l : List PV), PE w os n cenv ((I, e) :: (D, .list l) :: (T (some (enc p)) ++ M)) elt (f p))
    (hlt : ∀ v, letOwnedTupleGo tgt it v = pure ())
    {A : Around} (rm : Rm A n) {g : Heap} {s : Shared} {R : Result → Shared → Prop} (H : HS w os g ((I, ent 0) :: (D, .list []) :: (T .none ++ M)) s)
    (k : ∀ g' s' o, Le g g' → HS w os g' ((D, .list ((ps.filter t).map f)) :: (T o ++ M)) s' → R (.ok .next) s') :
    codeAny (model PRG w) A (.compLoop (.ListComp elt [⟨tgt, iter, ifs, 0⟩] scope pos) 0 it (.ref D) cenv) R s := by
  refine codeAny_compLoop_tests (fun m s₁ => ∃ g₁ i o, m = ps.length - i ∧ i ≤ ps.length ∧ Le g g₁ ∧ HS w os g₁ ((I, ent i) :: (D, .list (((ps.take i).filter t).map f)) :: (T o ++ M)) s₁)
    ?_ ps.length ⟨g, 0, .none, by simp, by simp, Le.rfl, by simpa using H⟩ ?_
  · rintro m s₁ ⟨g₁, i, o, rfl, hi, L₁, H₁⟩
    by_cases hlt : i < ps.length
    · obtain ⟨p, hp⟩ : ∃ p, ps[i]? = some p := ⟨_, List.getElem?_eq_getElem hlt⟩
      have hmem : p ∈ ps := List.mem_of_getElem? hp
      refine wpAny_mono (hI.item A _ g₁ s₁ (fun r s₂ => ∃ v, r = some v ∧ ∃ g₂, Le g₁ g₂ ∧ HS w os g₂ ((I, ent (i + 1)) :: (D, .list (((ps.take i).filter t).map f)) :: (T o ++ M)) s₂ ∧ Rd g₂ v (enc p)) i (enc p) rm.hd (.tail _ (List.mem_append_right _ hD)) H₁ (by rw [List.getElem?_map, hp]; rfl)
        fun v g₂ s₂ L₂ H₂ r₂ => ⟨v, rfl, g₂, L₂, H₂, r₂⟩) ?_ fun _ _ x => x.elim
      rintro r s₂ ⟨v, rfl, g₂, L₂, H₂, r₂⟩
      refine Env.noE (hT A rm.hd _ _ M g₂ s₂ _ v (enc p) o H₂ r₂ fun g₃ s₃ L₃ H₃ => ?_)
      refine Env.noE (hts p hmem _ _ A rm g₃ s₃ _ H₃ fun g₄ s₄ L₄ H₄ => ?_)
      have htk : ps.take (i + 1) = ps.take i ++ [p] := by rw [List.take_add_one, hp]; rfl
      cases htp : t p with
      | false =>
        rw [if_neg (by decide)]
        refine ⟨ps.length - (i + 1), by omega, g₄, i + 1, some (enc p), rfl, hlt, L₁.tr (L₂.tr (L₃.tr L₄)), ?_⟩
        rw [htk, List.filter_append, List.filter_cons, htp]
        simpa using H₄
      | true =>
        rw [if_pos rfl]
        refine Env.noE (hel p hmem htp _ _ A rm g₄ s₄ _ H₄ fun u g₅ s₅ L₅ H₅ r₅ => ?_)
        refine Env.noE (H₅.append (i := 1) rfl r₅ (by
          have h1 := List.length_filter_le t (ps.take i)
          have h2 := List.length_take_le i ps
          rw [List.length_map]; omega) fun g₆ s₆ L₆ H₆ => ?_)
        refine ⟨ps.length - (i + 1), by omega, g₆, i + 1, some (enc p), rfl, hlt, L₁.tr (L₂.tr (L₃.tr (L₄.tr (L₅.tr L₆)))), ?_⟩
        rw [htk, List.filter_append, List.filter_cons, htp]
        simpa [setE] using H₆
    · have hi' : i = ps.length := by omega
      subst hi'
      refine wpAny_mono (hI.stop A _ g₁ s₁ (fun r s₂ => r = .none ∧ ∃ g₂, Le g₁ g₂ ∧ HS w os g₂ ((D, .list (((ps.take ps.length).filter t).map f)) :: (T o ++ M)) s₂) rm.hd (.tail _ (List.mem_append_right _ hD)) (by rw [List.length_map]; exact H₁) fun g₂ s₂ L₂ H₂ => ⟨rfl, g₂, L₂, H₂⟩) ?_ fun _ _ x => x.elim
      rintro r s₂ ⟨rfl, g₂, L₂, H₂⟩
      rw [List.take_length] at H₂
      exact k g₂ s₂ o (L₁.tr L₂) H₂
  · exact hlt

theorem compStart_coreL {elt tgt iter : Expr} {ifs : List Expr} {scope : Scope} {it : Value} {I D : Addr} {ent : Nat → Ent} {D₀ : Addr} {cenv : Env} {T : Option PV → Led} {α : Type} {ps : List α} {enc : α → PV} {t : α → Bool} {f : α → PV}
    (hT : Tgt w os cenv tgt T) (hI : ItOkL w os D₀ (ps.map enc) it I ent) (hz : ps.length ≤ sizeLine) (hD : (D₀, Ent.list (ps.map enc)) ∈ M)
    (hts : ∀ p ∈ ps, ∀ (e : Ent) (l : List PV), PTs w os n cenv ((I, e) :: (D, .list l) :: (T (some (enc p)) ++ M)) ifs (t p))
    (hel : ∀ p ∈ ps, t p = true → ∀ (e : Ent) (l : List PV), PE w os n cenv ((I, e) :: (D, .list l) :: (T (some (enc p)) ++ M)) elt (f p))
    (hlt : ∀ v, letOwnedTupleGo tgt it v = pure ())
    {A : Around} (rm : Rm A n) {g : Heap} {s : Shared} {R : Result → Shared → Prop} (H : HS w os g ((I, ent 0) :: (D, .list []) :: (T .none ++ M)) s)
    (k : ∀ g' s' o, Le g g' → HS w os g' ((D, .list ((ps.filter t).map f)) :: (T o ++ M)) s' → R (.ok .next) s') :
    codeAny (model PRG w) A (.compStart (.ListComp elt [⟨tgt, iter, ifs, 0⟩] scope pos) 0 it (.ref D) cenv) R s := by
  have go : codeAny (model PRG w) A (.compLoop (.ListComp elt [⟨tgt, iter, ifs, 0⟩] scope pos) 0 it (.ref D) cenv) R s := comp_coreL hT hI hz hD hts hel hlt rm H k
  exact codeAny_compStart_list go (Env.noE (hI.again A _ g s _ 0 rm.hd (.tail _ (List.mem_append_right _ hD)) H go))

theorem PE.lcompL {elt iter : Expr} {ifs : List Expr} {x : Str} {px : Pos} {scope : Scope} {cl : List (Str × Addr)} {D₀ : Addr} {α : Type} {ps : List α} {enc : α → PV} {t : α → Bool} {f : α → PV}
    (hsrc : PE w os n env M iter (.val (.ref D₀))) (hD : (D₀, Ent.list (ps.map enc)) ∈ M) (hz : ps.length ≤ sizeLine)
    (hfs : ∀ v, foldedSetIterable iter env v = pure v) (hcl : closureFor scope env = pure cl) (hk : scope.kind = .function)
    (hnc : ∀ y ∈ scope.names, y.2 ≠ .cell) (hnl : ∀ y ∈ scope.names, y.2 = .local → scope.names.lookup y.1 = some .local) (hx : scope.names.lookup x = some .local)
    (hts : ∀ p ∈ ps, ∀ (I : Addr) (e : Ent) (D : Addr) (l : List PV) (C : Addr), PTs w os n (compEnvC scope cl C env) ((I, e) :: (D, .list l) :: (C, .frame [(x, enc p)]) :: M) ifs (t p))
    (hel : ∀ p ∈ ps, t p = true → ∀ (I : Addr) (e : Ent) (D : Addr) (l : List PV) (C : Addr), PE w os n (compEnvC scope cl C env) ((I, e) :: (D, .list l) :: (C, .frame [(x, enc p)]) :: M) elt (f p)) :
    PE w os n env M (.ListComp elt [⟨.Name x px, iter, ifs, 0⟩] scope pos) (.list ((ps.filter t).map f)) := by
  intro A rm g s Q H k
  show wpAny _ _ (comprehension _ scope env _ (newList []) false (eval iter env)) _ _ _
  refine wpAny_comprehension_free (g := ⟨.Name x px, iter, ifs, 0⟩) (gs := []) rfl hfs hcl hk hnl ?_
  refine hsrc A rm g s _ H fun xv g₁ s₁ L₁ H₁ r₁ => ?_
  cases r₁
  refine IterL.list hD A g₁ s₁ _ H₁ fun it I ent g₂ s₂ L₂ H₂ hI => ?_
  refine wpAny_newList ?_ (by simp)
  obtain ⟨g₃, L₃, H₃⟩ := pushEnt (e := .list []) (tk := s₂.toks) H₂ { cls := .type "list", data := .seq [].toArray } rfl fun _ _ => ⟨[], 0, rfl, .nil⟩
  refine newEnv0 hk hnc fun h' hn hs => ?_
  obtain ⟨g₄, L₄, H₄, -⟩ := H₃.new (a := (s₂.heap.push { cls := .type "list", data := .seq [].toArray }).objs.size) (e := .frame [])
    (s' := { heap := h', gens := s₂.gens, drawn := s₂.drawn, toks := s₂.toks, os := s₂.os }) (get_none_of_size (Nat.le_refl _))
    (fun b o e => (hs.2 b (Nat.ne_of_lt (Heap.lt_size e))).trans (Heap.get?_push_of_some _ e))
    (fun g' L _ => nsFrame hn fun _ _ e => nomatch e) rfl rfl
  have H₅ := H₄.perm (M' := (I, ent 0) :: (s₂.heap.objs.size, .list []) :: (((s₂.heap.push { cls := .type "list", data := .seq [].toArray }).objs.size, Ent.frame []) :: M)) (by
    refine List.Perm.trans (List.Perm.swap _ _ _) ?_
    refine List.Perm.trans (List.Perm.cons _ (List.Perm.swap _ _ _)) ?_
    exact List.Perm.swap _ _ _)
  have hx' : (compEnvC scope cl (s₂.heap.push { cls := .type "list", data := .seq [].toArray }).objs.size env).kindOf x = some .local := lookup_relabel_local hx
  refine compStart_coreL (M := M) (Tgt.loc (w := w) (os := os) (cenv := compEnvC scope cl (s₂.heap.push { cls := .type "list", data := .seq [].toArray }).objs.size env) hk hx') hI hz hD
    (fun p hp e l => hts p hp I e _ l _) (fun p hp htp e l => hel p hp htp I e _ l _) (fun v => rfl) rm H₅ fun g₆ s₆ o L₆ H₆ => ?_
  have fin : ∀ vars, HS w os g₆ ((s₂.heap.objs.size, .list ((ps.filter t).map f)) :: ((s₂.heap.push { cls := .type "list", data := .seq [].toArray }).objs.size, Ent.frame vars) :: M) s₆ →
      compPost (model PRG w) A NoE .none Q (.ref s₂.heap.objs.size) (s₂.heap.push { cls := .type "list", data := .seq [].toArray }).objs.size (.ok .next) s₆ := by
    intro vars H₆
    obtain ⟨m, hm, -⟩ := H₆.ns (i := 1) rfl
    refine ⟨m, hm, fun h'' hs'' => ?_⟩
    have H₇ := H₆.perm (List.Perm.swap _ _ _)
    obtain ⟨g₈, L₈, H₈⟩ := H₇.dropHead (h' := h'') fun b o n e => (hs''.2 b n).trans e
    obtain ⟨g₉, L₉, H₉, G₉⟩ := H₈.drop (M' := M) (List.sublist_cons_self _ _)
    obtain ⟨o, ho, vs, z, rfl, hr⟩ := H₈.at_ _ (.head _)
    refine k _ g₉ _ (L₁.tr (L₂.tr (L₃.tr (L₄.tr (L₆.tr (L₈.tr L₉)))))) H₉ (.list ⟨z, G₉ _ _ ho ?_⟩ (hr.mono L₉))
    exact (List.nodup_cons.mp H₈.nd).1
  cases o with
  | none => exact fin _ H₆
  | some p => exact fin _ H₆

end
set_option maxHeartbeats 1000000
section
variable {w : World} {os : Ext} {n : Nat} {M M' : Led} {env : Env} {pos : Pos}
theorem OP.typeOf {p : PV} {T : String} (hT : Ty w os M p T) (hn : (Value.type T == Value.type "builtin_function_or_method") = false) : OP w os n M (cf (.type "type")) [p] (.val (.type T)) := fun A rm g s Q vs H r k => by
  cases r with | cons r₁ r => cases r; exact call_type_of (hT g s _ H r₁).1 hn (k _ g _ Le.rfl H (.val _))
theorem OP.isType {T : String} : OP w os n M (co .Is) [.val (.type T), .val (.type T)] (.bool true) := fun A rm g s Q vs H r k => by
  cases r with | cons r₁ r => cases r with | cons r₂ r => cases r; cases r₁; cases r₂; exact wpAny_is_self (by rfl) (k _ g _ Le.rfl H (.bool _))
theorem OP.isntType {T : String} : OP w os n M (co .IsNot) [.val (.type T), .val (.type T)] (.bool false) := fun A rm g s Q vs H r k => by
  cases r with | cons r₁ r => cases r with | cons r₂ r => cases r; cases r₁; cases r₂; exact wpAny_isNot_self (by rfl) (k _ g _ Le.rfl H (.bool _))
theorem PT.none {e : Expr} (h : PE w os n env M e .none) (he : ∀ whole, isTrue e env whole = do let v ← whole; standAt e.pos; holding [v] (truthy v)) : PT w os n env M e false :=
  fun A rm g s _ H k => wpAny_isTrue_value (h A rm g s _ H fun v g₁ s₁ L₁ H₁ r₁ => by
    cases r₁
    exact wpAny_pure (k g₁ _ L₁ H₁)) (he _)
noncomputable def okc (b : Bool) (c : Nat) : Prop := if b then c ∈ [97, 98, 99, 100, 65, 66, 67, 68] else c ∈ [9, 32, 34, 35, 40, 41, 92, 97]
theorem Ty.pat {a : Addr} {o : Obj} (ha : (KF w).lookup a = some o) (hc : o.cls = .type "re.Pattern") (hd : o.dict = .none) : Ty w os M (.val (.ref a)) "re.Pattern" := fun g s v H r => by
  cases r
  have ha' := H.kin _ _ ha
  exact ⟨⟨_, ha', hc⟩, fun b e => by cases e; exact ⟨_, ha', hd⟩⟩
theorem search_name {c : Nat} (hc : okc true c) : OP w os n M (cf (.builtin "re.Pattern.search")) [.val (.ref 129), .str (ch1 c)] .none := by
  refine OP.search (k := 100) (by walk_at "kis") (by walk_at "kis") (by decide) ?_ (by show (1 : Nat) ≤ 1000; decide)
  unfold okc at hc
  rw [if_pos rfl] at hc
  simp only [List.mem_cons, List.not_mem_nil, or_false] at hc
  rcases hc with rfl | rfl | rfl | rfl | rfl | rfl | rfl | rfl <;> kernel_rfl
theorem search_val {c : Nat} (hc : okc false c) : OP w os n M (cf (.builtin "re.Pattern.search")) [.val (.ref 134), .str (ch1 c)] .none := by
  refine OP.search (k := 100) (by walk_at "kis") (by walk_at "kis") (by decide) ?_ (by show (1 : Nat) ≤ 1000; decide)
  unfold okc at hc
  rw [if_neg (by decide)] at hc
  simp only [List.mem_cons, List.not_mem_nil, or_false] at hc
  rcases hc with rfl | rfl | rfl | rfl | rfl | rfl | rfl | rfl <;> kernel_rfl
theorem conv_ok {T : Addr} {b : Bool} {c : Nat} (hc : okc b c) {A : Around} (rm : Rm A (n + 1)) {g : Heap} {s : Shared} {Q : Value → Shared → Prop} {v : Value} (H : HS w os g M s) (r : Rd g v (.str (ch1 c)))
    (k : ∀ v g' s', Le g g' → HS w os g' M s' → Rd g' v (.str (ch1 c)) → Q v s') : wpAny (model PRG w) A (call (.ref 164) [.ref T, v] [("name", .bool b)]) Q NoE s := by
  refine wpAny_call (enterD (n := n) (fa := 164) (binds := [("self", .ref T), ("value", v), ("name", .bool b)]) (vars := [("self", .val (.ref T)), ("value", .str (ch1 c)), ("name", .bool b)]) (by walk_at "kis") (by walk_at "kis") (BindsTo.of_eq (by rfl)) ?_ (by decide +kernel) ?_ rm H ?_)
  · intro y hy
    simp only [List.mem_cons, List.not_mem_nil, or_false] at hy
    rcases hy with rfl | rfl | rfl <;> rfl
  · exact bv_cons (by rfl) (.val _) (bv_cons (by rfl) r (bv_cons (by rfl) (.bool _) bv_nil))
  · intro L s' g' rm' L' H'
    refine X.if (PT.cmp (PE.callB (by walk_at "nm") (by intro a; exact nofun) (PL.cons (by walk_at "nm") PL.nil (by rfl)) (OP.typeOf Ty.str (by rfl)) (by rfl) (by rfl)) (by walk_at "nm") OP.isType (by rfl)) rm' H' fun g₁ s₁ L₁ H₁ => ?_
    rw [if_pos rfl]
    cases b
    · refine X.next (ST.assign (p := .val (.ref 134)) (PE.ifexp (b := false) (PT.bval (by walk_at "nm") (by intro _; rfl)) (fun h => nomatch h) (fun _ => by walk_at "nm")) (SN.loc (i := 0) (by rfl) (by rfl) (by rfl)) (by rfl)) rm' H₁ fun g₂ s₂ L₂ H₂ => ?_
      refine X.if (PT.none (PEX.meth (p := .val (.ref 134)) (T := "re.Pattern") (id := "re.Pattern.search") (ps := [.str (ch1 c)]) (r := .none) (by walk_at "nm") (Ty.pat (by walk_at "kis") (by rfl) (by rfl)) (PL.cons (by walk_at "nm") PL.nil (by rfl)) (search_val hc).m
        Rp.plainAttrs Rp.slot Rp.type (by rfl) (by rfl) (by rfl) (by rfl) (by rfl)).pe (by intro _; rfl)) rm' H₂ fun g₃ s₃ L₃ H₃ => ?_
      rw [if_neg (by decide)]
      refine X.end ?_
      refine X.ret (p := .str (ch1 c)) (by walk_at "nm") rm' H₃ fun v g₄ s₄ L₄ H₄ r₄ => ?_
      obtain ⟨g₅, L₅, H₅, -⟩ := H₄.drop (M' := M) (List.sublist_cons_self _ _)
      exact k v g₅ s₄ (L'.tr (L₁.tr (L₂.tr (L₃.tr (L₄.tr L₅))))) H₅ (r₄.mono L₅)
    · refine X.next (ST.assign (p := .val (.ref 129)) (PE.ifexp (b := true) (PT.bval (by walk_at "nm") (by intro _; rfl)) (fun _ => by walk_at "nm") (fun h => nomatch h)) (SN.loc (i := 0) (by rfl) (by rfl) (by rfl)) (by rfl)) rm' H₁ fun g₂ s₂ L₂ H₂ => ?_
      refine X.if (PT.none (PEX.meth (p := .val (.ref 129)) (T := "re.Pattern") (id := "re.Pattern.search") (ps := [.str (ch1 c)]) (r := .none) (by walk_at "nm") (Ty.pat (by walk_at "kis") (by rfl) (by rfl)) (PL.cons (by walk_at "nm") PL.nil (by rfl)) (search_name hc).m
        Rp.plainAttrs Rp.slot Rp.type (by rfl) (by rfl) (by rfl) (by rfl) (by rfl)).pe (by intro _; rfl)) rm' H₂ fun g₃ s₃ L₃ H₃ => ?_
      rw [if_neg (by decide)]
      refine X.end ?_
      refine X.ret (p := .str (ch1 c)) (by walk_at "nm") rm' H₃ fun v g₄ s₄ L₄ H₄ r₄ => ?_
      obtain ⟨g₅, L₅, H₅, -⟩ := H₄.drop (M' := M) (List.sublist_cons_self _ _)
      exact k v g₅ s₄ (L'.tr (L₁.tr (L₂.tr (L₃.tr (L₄.tr L₅))))) H₅ (r₄.mono L₅)
end
set_option maxHeartbeats 1000000
section
variable {w : World} {os : Ext} {n : Nat} {M M' : Led} {env : Env} {pos : Pos}
noncomputable def lowc (c : Nat) : Nat := if c < 97 then c + 32 else c
noncomputable def upc (c : Nat) : Nat := if c < 97 then c else c - 32
theorem okc_low {c : Nat} (h : okc true c) : okc true (lowc c) := by
  unfold okc at h
  rw [if_pos rfl] at h
  simp only [List.mem_cons, List.not_mem_nil, or_false] at h
  rcases h with rfl | rfl | rfl | rfl | rfl | rfl | rfl | rfl <;> (unfold okc lowc; simp)
theorem lower_ch {c : Nat} (h : okc true c) : Txt.lower (ch1 c) = ch1 (lowc c) := by
  unfold okc at h
  rw [if_pos rfl] at h
  simp only [List.mem_cons, List.not_mem_nil, or_false] at h
  rcases h with rfl | rfl | rfl | rfl | rfl | rfl | rfl | rfl <;> kernel_rfl
theorem upper_ch {c : Nat} (h : okc true c) : Txt.upper (ch1 c) = ch1 (upc c) := by
  unfold okc at h
  rw [if_pos rfl] at h
  simp only [List.mem_cons, List.not_mem_nil, or_false] at h
  rcases h with rfl | rfl | rfl | rfl | rfl | rfl | rfl | rfl <;> kernel_rfl
theorem OP.lower {c : Nat} (h : okc true c) : OP w os n M (cf (.builtin "str.lower")) [.str (ch1 c)] (.str (ch1 (lowc c))) := fun A rm g s Q vs H r k => by
  cases r with | cons r₁ r =>
  cases r; cases r₁ with | str _ t =>
  refine SCL.lower (by show (1 : Nat) ≤ 5592405; decide) fun _ => ?_
  rw [lower_ch h]
  exact k _ g _ Le.rfl (H.toks _) (.str _ _)
theorem OP.upper {c : Nat} (h : okc true c) : OP w os n M (cf (.builtin "str.upper")) [.str (ch1 c)] (.str (ch1 (upc c))) := fun A rm g s Q vs H r k => by
  cases r with | cons r₁ r =>
  cases r; cases r₁ with | str _ t =>
  refine SCL.upper (by show (1 : Nat) ≤ 5592405; decide) fun _ => ?_
  rw [upper_ch h]
  exact k _ g _ Le.rfl (H.toks _) (.str _ _)
theorem PE.lower {o : Expr} {apos : Pos} {c : Nat} (ho : PE w os n env M o (.str (ch1 c))) (h : okc true c) (hbase : attributeBase o "lower" env (eval o env) = eval o env) (hline : (apos.endLine == pos.line) = true) :
    PE w os n env M (.Call (.Attribute o "lower" apos) [] [] pos) (.str (ch1 (lowc c))) := (PEX.meth0 ho Ty.str (OP.lower h).m F.plainAttrs_str F.slot_str_lower F.type_str_lower hbase hline).pe
theorem PE.upper {o : Expr} {apos : Pos} {c : Nat} (ho : PE w os n env M o (.str (ch1 c))) (h : okc true c) (hbase : attributeBase o "upper" env (eval o env) = eval o env) (hline : (apos.endLine == pos.line) = true) :
    PE w os n env M (.Call (.Attribute o "upper" apos) [] [] pos) (.str (ch1 (upc c))) := (PEX.meth0 ho Ty.str (OP.upper h).m F.plainAttrs_str F.slot_str_upper F.type_str_upper hbase hline).pe
theorem PE.conv {o e : Expr} {apos cp kp : Pos} {kk : Nat} {T dT : Addr} {fs : List (Str × PV)} {b : Bool} {c : Nat} (ho : PE w os (n + 1) env M o (.val (.ref T))) (hx : (T, instE 263 dT) ∈ M) (hd : (dT, Ent.dict fs) ∈ M) (hno : fs.lookup (Str.ofString "_convert_string_type") = .none)
    (he : PE w os (n + 1) env M e (.str (ch1 c))) (hc : okc b c) {pl : Sem Bool}
    (hs : starEach [e] env = (false, eval e env) :: starEach [] env)
    (hev : eval (.Call (.Attribute o "_convert_string_type" apos) [e] [⟨some "name", .Constant (.bool b) kk cp, kp⟩] pos) env = (do
      let ov ← eval o env
      standAt apos.atName
      let (f, first) ← holding [ov] (getMethod ov "_convert_string_type" pl)
      callWith pos f first (backTo pos (starEach [e] env)) (backToKw pos (keywordEach [⟨some "name", .Constant (.bool b) kk cp, kp⟩] env)))) :
    PE w os (n + 1) env M (.Call (.Attribute o "_convert_string_type" apos) [e] [⟨some "name", .Constant (.bool b) kk cp, kp⟩] pos) (.str (ch1 c)) := fun A rm g s Q H k =>
  methodCall_KW (pl := pl) (ho A rm g s _ H fun v g₁ s₁ L₁ H₁ r₁ => by
    cases r₁
    obtain ⟨ox, od, I, R, -, -⟩ := H₁.inst hx hd
    refine method_fn (f := 164) H₁.kin I (by walk_at "kis") (by walk_at "kis") (by walk_at "kis") (by walk_at "kis") (by unfold shadowIn; dsimp only; rw [R.none_ _ hno]; rfl) ?_
    refine callWith_KW (K := KF w) (h₀ := g₁) H₁.bs.k (by walk_at "kis") (by rfl) ?_ (by rw [hs]; rfl) hs
    have := PL.cons (pos := pos) he PL.nil hs A rm g₁ s₁ (fun vs s₁ => wpAny (model PRG w) A (evalAll ((backToKw pos (keywordEach [⟨some "name", .Constant (.bool b) kk cp, kp⟩] env)).map (·.2)))
      (fun ks s₂ => (KF w).In s₂.heap ∧ wpAny (model PRG w) A (call (.ref 164) ([.ref T] ++ vs) (((backToKw pos (keywordEach [⟨some "name", .Constant (.bool b) kk cp, kp⟩] env)).filterMap (·.1)).zip ks)) Q NoE s₂) NoE s₁) H₁
    refine this fun vs g₂ s₂ L₂ H₂ r₂ => ?_
    cases r₂ with | cons r₃ r₂ =>
    cases r₂
    refine evalAll_cons (wpAny_bind (wpAny_Constant_bool (wpAny_bind (wpAny_standAt (wpAny_pure (evalAll_nil ⟨H₂.kin, ?_⟩))))))
    exact conv_ok hc rm H₂ r₃ fun v g₄ s₄ L₄ H₄ r₄ => k v g₄ s₄ (L₁.tr (L₂.tr L₄)) H₄ r₄) hev
end
set_option maxHeartbeats 1000000
section
variable {w : World} {os : Ext} {n : Nat} {M M' : Led} {env : Env} {pos : Pos}
structure Hdr where
  (T dT D : Addr)
noncomputable def rowP (r : Nat × Nat) : PV := .tup [.str (ch1 r.1), .str (ch1 r.2)]
noncomputable def hdrL (h : Hdr) (rows : List (Nat × Nat)) : Led := [(h.D, .list (rows.map rowP)), (h.dT, .dict [("_headers", .val (.ref h.D))]), (h.T, instE 263 h.dT)]
theorem ch1_beq (a b : Nat) : (ch1 a == ch1 b) = (a == b) := by
  by_cases h : a = b
  · subst h; simp
  · rw [beq_eq_false_iff_ne.mpr h]
    apply beq_eq_false_iff_ne.mpr
    intro e
    have := congrArg Str.cps e
    simp [ch1] at this
    exact h this
noncomputable def okRows (rows : List (Nat × Nat)) : Prop := (∀ r ∈ rows, okc true r.1 ∧ okc false r.2) ∧ rows.length ≤ 1000
noncomputable def under (rows : List (Nat × Nat)) (c : Nat) : List Nat := (rows.filter fun r => lowc r.1 == lowc c).map (·.2)
theorem getall_ok {h : Hdr} {rows : List (Nat × Nat)} {c : Nat} (hr : okRows rows) (hc : okc true c) {N : Led} : OP w os (n + 2) (hdrL h rows ++ N) (cf (.ref 202)) [.val (.ref h.T), .str (ch1 c)] (.list ((under rows c).map fun x => .str (ch1 x))) := by
  intro A rm g s Q vs H r k
  cases r with | cons r₁ r => cases r with | cons r₂ r =>
  cases r
  cases r₁
  refine enterC (n := n + 1) (fa := 202) (vars := [("self", .val (.ref h.T))]) (cv := fun _ => some (.str (ch1 c))) (by walk_at "kis") (by walk_at "kis") (by rfl) (by rfl) (by decide +kernel) (bv_cons (by rfl) (.val _) bv_nil) ?_ rm H ?_
  · intro y hy o ho
    cases List.mem_singleton.mp (show y ∈ [Str.ofString "name"] from hy)
    exact ⟨_, ho, r₂⟩
  · intro L s' g' rm' L' H'
    change HS w os g' ((L, .frame [("self", .val (.ref h.T))]) :: (L + 1, .cell (some (.str (ch1 c)))) :: (hdrL h rows ++ N)) s' at H'
    refine X.next (ST.assign (p := .str (ch1 (lowc c))) (PE.conv (T := h.T) (dT := h.dT) (by walk_at "nm") (List.mem_of_getElem? (i := 4) rfl) (List.mem_of_getElem? (i := 3) rfl) (by rfl) (PE.lower (c := c) (by walk_at "nm") hc (by rfl) (by rfl)) (okc_low hc) (by rfl) (by rfl)) (SN.cel (i := 1) (by rfl) (by rfl) (by rfl) (by rfl)) (by rfl)) rm' H' fun g₁ s₁ L₁ H₁ => ?_
    change HS w os g₁ ((L, .frame [("self", .val (.ref h.T))]) :: (L + 1, .cell (some (.str (ch1 (lowc c))))) :: (hdrL h rows ++ N)) s₁ at H₁
    refine X.ret (p := .list ((under rows c).map fun x => .str (ch1 x))) ?_ rm' H₁ fun v g₂ s₂ L₂ H₂ r₂ => ?_
    · unfold under
      rw [List.map_map]
      refine PE.lcompL (D₀ := h.D) (ps := rows) (enc := rowP) (t := fun r => lowc r.1 == lowc c) (f := fun r => .str (ch1 r.2)) (cl := [(Str.ofString "name", L + 1)]) (PE.attr (x := h.T) (C := 263) (dx := h.dT) (by walk_at "nm") (List.mem_of_getElem? (i := 4) rfl) (List.mem_of_getElem? (i := 3) rfl) (by rfl) (by intro g v r; cases r; rfl) (by walk_at "kis") (by walk_at "kis") (by walk_at "kis") (by walk_at "kis") (by rfl)) (List.mem_of_getElem? (i := 2) rfl) (sizeLine_ge (by have := hr.2; omega)) (by intro v; rfl) (by rfl) (by rfl) (by decide +kernel) (by decide +kernel) (by rfl) ?_ ?_
      · intro p hp I e D l C
        have h1 := (hr.1 p hp).1
        rw [← ch1_beq]
        exact PTs.one (PT.cmp (PE.lower (c := p.1) (PE.itemT (j := 0) (ps := [.str (ch1 p.1), .str (ch1 p.2)]) (by walk_at "nm") PE.cint rfl (by show (2 : Nat) ≤ 100000; decide) (by intro o k; rfl)) h1 (by rfl) (by rfl)) (by walk_at "nm") OP.eq_str (by rfl))
      · intro p hp _ I e D l C
        exact PE.itemT (j := 1) (ps := [.str (ch1 p.1), .str (ch1 p.2)]) (by walk_at "nm") PE.cint rfl (by show (2 : Nat) ≤ 100000; decide) (by intro o k; rfl)
    · obtain ⟨g₃, L₃, H₃, -⟩ := H₂.drop (M' := hdrL h rows ++ N) ((List.sublist_cons_self _ _).trans (List.sublist_cons_self _ _))
      exact k v g₃ s₂ (L'.tr (L₁.tr (L₂.tr L₃))) H₃ (r₂.mono L₃)
end
set_option maxHeartbeats 1000000
section
variable {w : World} {os : Ext} {n : Nat} {env : Env} {M M' : Led} {pos : Pos}
noncomputable def PPt (w : World) (os : Ext) (n : Nat) (env : Env) (M : Led) (e : Option Expr) (k : Option Int) : Prop :=
  ∀ (A : Around), Rm A n → ∀ (g : Heap) (s : Shared) (Q : Value → Shared → Prop), HS w os g M s →
    (∀ v g' s', Le g g' → HS w os g' M s' → IsPart v k → Q v s') → wpAny (model PRG w) A (evalPart e env) Q NoE s
theorem PPt.none : PPt w os n env M .none .none := fun A rm g s Q H k => by rw [evalPart_none]; exact wpAny_pure (k _ g s Le.rfl H .none)
theorem PPt.some {e : Expr} {i : Int} (he : PE w os n env M e (.int i)) : PPt w os n env M (some e) (some i) := fun A rm g s Q H k => by
  rw [evalPart_some]
  exact he A rm g s _ H fun v g' s' L H' r => by cases r; exact k _ g' s' L H' (.int _ _)
noncomputable def pickP (ps : List PV) (lo hi st : Option Int) : List PV :=
  (sliceRange (sliceBounds lo hi st ps.length).1 (sliceBounds lo hi st ps.length).2.1 (sliceBounds lo hi st ps.length).2.2).filterMap (ps[·]?)
theorem RdL.none_of {g : Heap} {vs : List Value} {ps : List PV} (h : RdL g vs ps) {i : Nat} (e : ps[i]? = .none) : vs[i]? = .none := by
  rw [List.getElem?_eq_none_iff] at e ⊢
  rw [h.length]; exact e
theorem RdL.places {g : Heap} {vs : List Value} {ps : List PV} (h : RdL g vs ps) : ∀ js : List Nat, RdL g (js.filterMap (vs[·]?)) (js.filterMap (ps[·]?))
  | [] => .nil
  | j :: js => by
    have ih := RdL.places h js
    cases hn : ps[j]? with
    | some p =>
      obtain ⟨v, hv, r⟩ := h.get hn
      simp only [List.filterMap_cons, hn, hv]
      exact .cons r ih
    | none =>
      simp only [List.filterMap_cons, hn, h.none_of hn]
      exact ih
theorem RdL.pick {g : Heap} {vs : List Value} {ps : List PV} (h : RdL g vs ps) (lo hi st : Option Int) : RdL g (slicePick vs.toArray lo hi st).toList (pickP ps lo hi st) := by
  have e : (slicePick vs.toArray lo hi st).toList = (sliceRange (sliceBounds lo hi st ps.length).1 (sliceBounds lo hi st ps.length).2.1 (sliceBounds lo hi st ps.length).2.2).filterMap (vs[·]?) := by
    simp [slicePick, h.length]
  rw [e]
  exact h.places _
theorem tailO {A : Around} {s : Shared} {value slice : Expr} {o i : Value} {T id : String} {ops : List Value} {Q : Value → Shared → Prop} (hT : s.TypeIs o T)
    (hl : typeLookup (.type T) "__getitem__" = pure (some (.builtin id))) (h : wpAny (model PRG w) A (getItem o i) Q NoE s)
    (hs : subscripted slice false o i = operate ops (getItem o i)) : wpAny (model PRG w) A (subscriptTail value slice o i) Q NoE s := by
  unfold subscriptTail
  refine wpAny_bind ?_
  rw [getitemInPython_of_ne hT.not_modules]
  refine wpAny_bind (wpAny_specialOf hT hl ?_)
  refine wpAny_pure (wpAny_bind ?_)
  rw [hs]
  exact wpAny_operating (wpAny_mono h (fun r s₃ h₃ => wpAny_bind (wpAny_letTemporaryGo (wpAny_pure h₃))) fun _ _ x => x)
theorem sliceCore {value : Expr} {lower upper : Option Expr} {p : Pos} {q : PV} {ps : List PV} {lo hi : Option Int} (hv : PE w os n env M value q) (hl : LV w os M q ps) (hlo : PPt w os n env M lower lo) (hhi : PPt w os n env M upper hi) (hz : ps.length ≤ 1000)
    {A : Around} (rm : Rm A n) {g : Heap} {s : Shared} {Q : Value → Shared → Prop} (H : HS w os g M s)
    (k : ∀ g₃ s₃ vl vu vs, Le g g₃ → HS w os g₃ M s₃ → RdL g₃ vs (pickP ps lo hi .none) →
      Q (.ref (s₃.heap.objs.size + 1)) { s₃ with heap := (s₃.heap.push { cls := .type "slice", data := .fields #[vl, vu, .none] }).push { cls := .type "list", data := .seq vs.toArray } }) :
    wpAny (model PRG w) A (eval (.Subscript value (.Slice lower upper .none p) pos) env) Q NoE s := by
  refine Subscript_ (hv A rm g s _ H fun o g₁ s₁ L₁ H₁ r₁ => wpAny_Slice (hlo A rm g₁ s₁ _ H₁ fun vl g₂ s₂ L₂ H₂ pl => hhi A rm g₂ s₂ _ H₂ fun vu g₃ s₃ L₃ H₃ pu => ?_))
  rw [evalPart_none]
  refine wpAny_pure ?_
  obtain ⟨a, vs, rfl, hp, rv⟩ := hl g₃ s₃ o H₃ (r₁.mono (L₂.tr L₃))
  have hlen := rv.length
  refine tailO (ops := [.ref s₃.heap.objs.size, .ref a]) (hp.isList.push _).typeIs list_getitem_lookup (wpAny_getItem_list_slice (hp.isList.push _) (Heap.IsSliceOf.new ..) pl pu .none (by simp) ?_ (sizeLine_ge (by simp; omega))) rfl
  rw [Heap.size_push]
  have := k g₃ s₃ vl vu (slicePick vs.toArray lo hi .none).toList (L₁.tr (L₂.tr L₃)) H₃ (rv.pick _ _ _)
  rwa [Array.toArray_toList] at this
theorem sliceStep {value st : Expr} {lower upper : Option Expr} {p : Pos} {q : PV} {ps : List PV} {lo hi : Option Int} {z : Int} (hv : PE w os n env M value q) (hl : LV w os M q ps) (hlo : PPt w os n env M lower lo) (hhi : PPt w os n env M upper hi) (hst : PE w os n env M st (.int z)) (h0 : z ≠ 0) (hz : ps.length ≤ 1000)
    {A : Around} (rm : Rm A n) {g : Heap} {s : Shared} {Q : Value → Shared → Prop} (H : HS w os g M s)
    (k : ∀ g₃ s₃ vl vu vz vs, Le g g₃ → HS w os g₃ M s₃ → RdL g₃ vs (pickP ps lo hi (some z)) →
      Q (.ref (s₃.heap.objs.size + 1)) { s₃ with heap := (s₃.heap.push { cls := .type "slice", data := .fields #[vl, vu, vz] }).push { cls := .type "list", data := .seq vs.toArray } }) :
    wpAny (model PRG w) A (eval (.Subscript value (.Slice lower upper (some st) p) pos) env) Q NoE s := by
  refine Subscript_ (hv A rm g s _ H fun o g₁ s₁ L₁ H₁ r₁ => wpAny_Slice (hlo A rm g₁ s₁ _ H₁ fun vl g₂ s₂ L₂ H₂ pl => hhi A rm g₂ s₂ _ H₂ fun vu g₃ s₃ L₃ H₃ pu => ?_))
  refine (PPt.some hst) A rm g₃ s₃ _ H₃ fun vz g₄ s₄ L₄ H₄ pz => ?_
  obtain ⟨a, vs, rfl, hp, rv⟩ := hl g₄ s₄ o H₄ (r₁.mono (L₂.tr (L₃.tr L₄)))
  have hlen := rv.length
  refine tailO (ops := [.ref a, .ref s₄.heap.objs.size]) (hp.isList.push _).typeIs list_getitem_lookup (wpAny_getItem_list_slice (hp.isList.push _) (Heap.IsSliceOf.new ..) pl pu pz (by intro e; cases e; exact h0 rfl) ?_ (sizeLine_ge (by simp; omega))) rfl
  rw [Heap.size_push]
  have := k g₄ s₄ vl vu vz (slicePick vs.toArray lo hi (some z)).toList (L₁.tr (L₂.tr (L₃.tr L₄))) H₄ (rv.pick _ _ _)
  rwa [Array.toArray_toList] at this
theorem PE.sliceL {value : Expr} {lower upper : Option Expr} {p : Pos} {q : PV} {ps rs : List PV} {lo hi : Option Int} (hv : PE w os n env M value q) (hl : LV w os M q ps) (hlo : PPt w os n env M lower lo) (hhi : PPt w os n env M upper hi) (hz : ps.length ≤ 1000)
    (hr : pickP ps lo hi .none = rs) : PE w os n env M (.Subscript value (.Slice lower upper .none p) pos) (.list rs) := fun A rm g s Q H k => by
  subst hr
  refine sliceCore hv hl hlo hhi hz rm H fun g₃ s₃ vl vu vs L₃ H₃ r₃ => ?_
  obtain ⟨g₄, L₄, H₄, -⟩ := H₃.push { cls := .type "slice", data := .fields #[vl, vu, .none] } rfl s₃.toks
  obtain ⟨g₅, L₅, H₅, G₅⟩ := H₄.push { cls := .type "list", data := .seq vs.toArray } rfl s₃.toks
  rw [Heap.size_push] at G₅
  exact k _ g₅ _ (L₃.tr (L₄.tr L₅)) H₅ (.list ⟨0, G₅⟩ (r₃.mono (L₄.tr L₅)))
theorem PE.sliceS {value st : Expr} {lower upper : Option Expr} {p : Pos} {q : PV} {ps rs : List PV} {lo hi : Option Int} {z : Int} (hv : PE w os n env M value q) (hl : LV w os M q ps) (hlo : PPt w os n env M lower lo) (hhi : PPt w os n env M upper hi) (hst : PE w os n env M st (.int z)) (h0 : z ≠ 0) (hz : ps.length ≤ 1000)
    (hr : pickP ps lo hi (some z) = rs) : PE w os n env M (.Subscript value (.Slice lower upper (some st) p) pos) (.list rs) := fun A rm g s Q H k => by
  subst hr
  refine sliceStep hv hl hlo hhi hst h0 hz rm H fun g₃ s₃ vl vu vz vs L₃ H₃ r₃ => ?_
  obtain ⟨g₄, L₄, H₄, -⟩ := H₃.push { cls := .type "slice", data := .fields #[vl, vu, vz] } rfl s₃.toks
  obtain ⟨g₅, L₅, H₅, G₅⟩ := H₄.push { cls := .type "list", data := .seq vs.toArray } rfl s₃.toks
  rw [Heap.size_push] at G₅
  exact k _ g₅ _ (L₃.tr (L₄.tr L₅)) H₅ (.list ⟨0, G₅⟩ (r₃.mono (L₄.tr L₅)))
theorem sliceNew {value : Expr} {lower upper : Option Expr} {p : Pos} {q : PV} {ps rs : List PV} {lo hi : Option Int} (hv : PE w os n env M value q) (hl : LV w os M q ps) (hlo : PPt w os n env M lower lo) (hhi : PPt w os n env M upper hi) (hz : ps.length ≤ 1000)
    (hr : pickP ps lo hi .none = rs) {A : Around} (rm : Rm A n) {g : Heap} {s : Shared} {Q : Value → Shared → Prop} (H : HS w os g M s)
    (k : ∀ (R : Addr) g' s', Le g g' → HS w os g' ((R, .list rs) :: M) s' → Q (.ref R) s') : wpAny (model PRG w) A (eval (.Subscript value (.Slice lower upper .none p) pos) env) Q NoE s := by
  subst hr
  refine sliceCore hv hl hlo hhi hz rm H fun g₃ s₃ vl vu vs L₃ H₃ r₃ => ?_
  obtain ⟨g₄, L₄, H₄, -⟩ := H₃.push { cls := .type "slice", data := .fields #[vl, vu, .none] } rfl s₃.toks
  obtain ⟨g₅, L₅, H₅⟩ := pushEnt (e := .list (pickP ps lo hi .none)) (tk := s₃.toks) H₄ { cls := .type "list", data := .seq vs.toArray } rfl fun _ L => ⟨vs, 0, rfl, r₃.mono (L₄.tr L)⟩
  simp only [Heap.size_push] at H₅
  exact k _ g₅ _ (L₃.tr (L₄.tr L₅)) H₅
theorem pick_all (ps : List PV) : pickP ps .none .none .none = ps := by
  have h := sliceRange_one 0 ps.length
  unfold pickP sliceBounds
  simp only [Option.getD_none, show (1 : Int) > 0 by decide, if_true]
  simp only [Int.natCast_zero] at h
  show (sliceRange 0 (ps.length : Int) 1).filterMap _ = _
  rw [h]
  have := pick_run ps.toArray 0 (ps.length - 0)
  simp only [List.getElem?_toArray] at this
  rw [this]; simp
theorem pick_tail (p : PV) (ps : List PV) : pickP (p :: ps) (some 1) .none .none = ps := by
  have h := sliceRange_one 1 (p :: ps).length
  have e : min (1 : Int) ((p :: ps).length : Int) = 1 := by simp only [List.length_cons]; omega
  unfold pickP sliceBounds
  simp only [Option.getD_none, show (1 : Int) > 0 by decide, if_true, show ¬ ((1 : Int) < 0) by decide, if_false]
  rw [show Min.min (1 : Int) ((p :: ps).length : Int) = 1 from e, show Max.max (0 : Int) 1 = 1 by decide]
  rw [show ((1 : Nat) : Int) = 1 from rfl] at h
  rw [h]
  have := pick_run (p :: ps).toArray 1 ((p :: ps).length - 1)
  simp only [List.getElem?_toArray] at this
  rw [this]; simp
end
set_option maxHeartbeats 1000000
section
variable {w : World} {os : Ext} {n : Nat} {M M' : Led} {env : Env} {pos : Pos}
theorem items_ok {h : Hdr} {rows : List (Nat × Nat)} (hr : okRows rows) {N : Led} : OP w os (n + 1) (hdrL h rows ++ N) (cf (.ref 227)) [.val (.ref h.T)] (.list (rows.map rowP)) := by
  intro A rm g s Q vs H r k
  cases r with | cons r₁ r =>
  cases r
  cases r₁
  refine enterC (n := n) (fa := 227) (vars := [("self", .val (.ref h.T))]) (cv := fun _ => .none) (by walk_at "kis") (by walk_at "kis") (by rfl) (by rfl) (by decide +kernel) (bv_cons (by rfl) (.val _) bv_nil) ?_ rm H ?_
  · intro y hy o ho
    cases hy
  · intro L s' g' rm' L' H'
    change HS w os g' ((L, .frame [("self", .val (.ref h.T))]) :: (hdrL h rows ++ N)) s' at H'
    refine X.ret (p := .list (rows.map rowP)) ?_ rm' H' fun v g₂ s₂ L₂ H₂ r₂ => ?_
    · exact PE.sliceL (lo := .none) (hi := .none) (PE.attr (x := h.T) (C := 263) (dx := h.dT) (by walk_at "nm") (List.mem_of_getElem? (i := 3) rfl) (List.mem_of_getElem? (i := 2) rfl) (by rfl) (by intro g v r; cases r; rfl) (by walk_at "kis") (by walk_at "kis") (by walk_at "kis") (by walk_at "kis") (by rfl)) (LV.mut (i := 1) rfl) PPt.none PPt.none (by rw [List.length_map]; exact hr.2) (pick_all _)
    · obtain ⟨g₃, L₃, H₃, -⟩ := H₂.drop (M' := hdrL h rows ++ N) (List.sublist_cons_self _ _)
      exact k v g₃ s₂ (L'.tr (L₂.tr L₃)) H₃ (r₂.mono L₃)
end
set_option maxHeartbeats 1000000
section
variable {w : World} {os : Ext} {n : Nat} {env : Env} {M M' : Led} {pos : Pos}
theorem extract_all (items new : Array Value) : items.extract 0 (0 : Int).toNat ++ new ++ items.extract (max (0 : Int) (items.size : Int)).toNat items.size = new := by
  have : (Max.max (0 : Int) (items.size : Int)).toNat = items.size := by omega
  rw [this]
  apply Array.ext'
  simp
theorem mapSeq_all (items new : List Value) (m : Nat) : ∃ m', Obj.mapSeq (fun xs => xs.extract 0 (0 : Int).toNat ++ new.toArray ++ xs.extract (Max.max (0 : Int) (items.toArray.size : Int)).toNat xs.size) (listOf items.toArray m) = listOf new.toArray m' := by
  refine ⟨if (new.toArray.size == items.toArray.size) = true then m else m + 1, ?_⟩
  have e := extract_all items.toArray new.toArray
  show ({ cls := _, dict := _, data := Data.seq (items.toArray.extract 0 (0 : Int).toNat ++ new.toArray ++ items.toArray.extract (Max.max (0 : Int) (items.toArray.size : Int)).toNat items.toArray.size) (if ((items.toArray.extract 0 (0 : Int).toNat ++ new.toArray ++ items.toArray.extract (Max.max (0 : Int) (items.toArray.size : Int)).toNat items.toArray.size).size == items.toArray.size) = true then m else m + 1), slots := _ } : Obj) = _
  rw [show items.toArray.extract 0 (0 : Int).toNat ++ new.toArray ++ items.toArray.extract (Max.max (0 : Int) (items.toArray.size : Int)).toNat items.toArray.size = new.toArray from e]
theorem HS.setAll {g : Heap} {s : Shared} {A : Around} {Q : Unit → Shared → Prop} {i : Nat} {D sl : Addr} {l ps : List PV} {v : Value} (H : HS w os g M s) (hi : M[i]? = some (D, .list l)) (hs : s.heap.IsSliceOf sl .none .none .none) (r : Rd g v (.list ps)) (hl : l.length ≤ 10000) (hz : ps.length ≤ 10000)
    (k : ∀ g' s', Le g g' → HS w os g' (setE M i (.list ps)) s' → Q () s') : wpAny (model PRG w) A (setItem (.ref D) (.ref sl) v) Q NoE s := by
  obtain ⟨o, ho, vs, m, rfl, hr⟩ := H.get hi
  cases r with | @list a us _ hp ru =>
  have hu : s.heap.IsList a us.toArray := isList_le H.keep hp.isList
  have hlen := hr.length
  have hlen2 := ru.length
  obtain ⟨os', hos, hcs, hds⟩ := id hs
  have hTs : s.TypeIs (.ref sl) "slice" := ⟨os', hos, hcs⟩
  have hTD : s.TypeIs (.ref D) "list" := ⟨_, ho, rfl⟩
  obtain ⟨ou, hou, hcu, nu, hdu⟩ := id hu
  unfold setItem
  refine wpAny_holding ?_
  refine wpAny_bind (wpAny_sequenceKey hTD (by decide) ?_)
  refine wpAny_bind (wpAny_callSpecial?_slot (name := Str.ofString "__setitem__") hTD PySem.F.slot_list_setitem
    (wpAny_call_entry PySem.F.slot_list_setitem hTD PySem.F.entry_list_setitem ?_ (PySem.F.args_list_setitem_3 _ _ _)))
  show wpAny _ _ (Builtin.List.listSubscript? (.ref sl) >>= _) _ _ s
  refine wpAny_bind ?_
  unfold Builtin.List.listSubscript?
  refine wpAny_bind (wpAny_specialOf hTs slice_no_index ?_)
  simp only [Option.isNone_none, if_true]
  refine wpAny_pure ?_
  dsimp only
  refine wpAny_bind (wpAny_typeOf hTs ?_)
  rw [if_neg (by decide)]
  rw [listSliceParts_eq]
  refine wpAny_bind (wpAny_bind (wpAny_field hos hds (x := .none) rfl (wpAny_bind (wpAny_listPart .none ?_))))
  rw [if_neg (by decide)]
  refine wpAny_bind (wpAny_field hos hds (x := .none) rfl (wpAny_bind (wpAny_listPart .none ?_)))
  refine wpAny_bind (wpAny_field hos hds (x := .none) rfl (wpAny_bind (wpAny_listPart .none (wpAny_pure ?_))))
  have items : ∀ {Q' : Array Value → Shared → Prop} {A' E'}, Q' us.toArray s → wpAny (model PRG w) A' (Builtin.List.listItems (.ref a)) Q' E' s := fun h => by
    unfold Builtin.List.listItems
    exact wpAny_bind (wpAny_seqItems hou hdu (wpAny_pure h))
  have hne : D ≠ a := fun e => by
    obtain ⟨z, hz'⟩ := hp
    have := H.off _ (List.mem_of_getElem? hi)
    rw [e, hz'] at this; cases this
  have hsame : Builtin.List.listSameRef (.ref D) (.ref a) = false := by
    show (D == a) = false
    exact beq_eq_false_iff_ne.mpr hne
  rw [hsame, if_neg (by decide)]
  refine wpAny_bind ?_
  unfold Builtin.List.listAllItems
  refine wpAny_bind (wpAny_typeOf (T := "list") ⟨ou, hou, hcu⟩ ?_)
  rw [if_pos (by decide)]
  refine items ?_
  refine wpAny_bind (m := Builtin.List.listItems (.ref D)) ?_
  unfold Builtin.List.listItems
  refine wpAny_bind (wpAny_seqItems ho rfl (wpAny_pure ?_))
  refine wpAny_bind (wpAny_of_eq (sliceIndices_raw .none .none .none vs.toArray.size (by simp)) ?_)
  have eb : sliceBounds .none .none .none vs.toArray.size = ((0 : Int), (vs.toArray.size : Int), (1 : Int)) := by
    unfold sliceBounds
    simp only [Option.getD_none, show (1 : Int) > 0 by decide, if_true]
  rw [eb]
  dsimp only
  rw [if_pos (by decide)]
  refine wpAny_bind (wpAny_rule ?_)
  have hbig : Builtin.List.listTooLong (vs.toArray.size + us.toArray.size) = false := by
    unfold Builtin.List.listTooLong
    rw [decide_eq_false_iff_not, sizeLine_eq]
    simp only [List.size_toArray]
    omega
  rw [hbig, if_neg (by decide)]
  obtain ⟨m', hm⟩ := mapSeq_all vs us m
  refine wpAny_bind (m := Builtin.List.listUpdate _ _) ?_
  unfold Builtin.List.listUpdate
  refine wpAny_updateSeq ho rfl ?_ (by rw [sizeLine_eq]; simp; omega) ?_
  · refine wpAny_bind (wpAny_letGo (wpAny_pure ⟨.none, rfl, wpAny_pure ?_⟩))
    obtain ⟨g', L, H', -⟩ := H.set (i := i) (a := D) (e := .list ps) (s' := { s with heap := s.heap.update D (Obj.mapSeq fun xs => xs.extract 0 (0 : Int).toNat ++ us.toArray ++ xs.extract (Max.max (0 : Int) (vs.toArray.size : Int)).toNat xs.size) }) hi (fun b o e n => ((Heap.SameBut.update ..).2 b n).trans e)
      (fun g' L _ => ⟨_, Heap.get?_update_self _ ho rfl, us, m', hm, ru.mono L⟩) rfl rfl
    exact k g' _ L H'
  · rw [show vs.toArray.extract 0 (0 : Int).toNat ++ us.toArray ++ vs.toArray.extract (Max.max (0 : Int) (vs.toArray.size : Int)).toNat vs.toArray.size = us.toArray from extract_all _ _, sizeLine_eq]
    simp; omega
theorem ST.setAll {o value : Expr} {sp pos' : Pos} {i : Nat} {D : Addr} {l ps : List PV} (hv : PE w os n env M value (.list ps)) (ho : PE w os n env M o (.val (.ref D))) (hi : M[i]? = some (D, .list l)) (hl : l.length ≤ 10000) (hz : ps.length ≤ 10000)
    (hsw : swapsWith value (some (.Subscript o (.Slice .none .none .none sp) pos')) pos.line env = pure false) :
    ST w os n env M (.Assign [.Subscript o (.Slice .none .none .none sp) pos'] value pos) (setE M i (.list ps)) := fun A rm g s Q H k => by
  refine wpAny_Assign_Subscript (hv A rm g s _ H fun v g₁ s₁ L₁ H₁ r₁ => ho A rm g₁ s₁ _ H₁ fun ov g₂ s₂ L₂ H₂ r₂ => wpAny_Slice ?_) hsw
  rw [evalPart_none]
  refine wpAny_pure (wpAny_pure (wpAny_pure ?_))
  cases r₂
  obtain ⟨g₃, L₃, H₃, -⟩ := H₂.push { cls := .type "slice", data := .fields #[.none, .none, .none] } rfl s₂.toks
  exact H₃.setAll hi (Heap.IsSliceOf.new ..) (r₁.mono (L₂.tr L₃)) hl hz fun g' s' L H' => k g' s' (L₁.tr (L₂.tr (L₃.tr L))) H'
end
set_option maxHeartbeats 1000000
section
variable {w : World} {os : Ext} {n : Nat} {M M' : Led} {env : Env} {pos : Pos}
noncomputable def without (rows : List (Nat × Nat)) (c : Nat) : List (Nat × Nat) := rows.filter fun r => lowc r.1 != lowc c
theorem ch1_bne (a b : Nat) : (ch1 a != ch1 b) = (a != b) := by
  show (!(ch1 a == ch1 b)) = !(a == b)
  rw [ch1_beq]
theorem OP.ne_str {a b : Str} : OP w os n M (co .NotEq) [.str a, .str b] (.bool (a != b)) := fun _ _ g s _ _ H r k => by
  cases r with | cons r₁ r => cases r with | cons r₂ r => cases r; cases r₁; cases r₂; exact PyProof.Rows.ne_str (k _ g _ Le.rfl H (.bool _))
theorem okRows_without {rows : List (Nat × Nat)} {c : Nat} (h : okRows rows) : okRows (without rows c) := by
  refine ⟨fun r hr => h.1 r (List.mem_filter.mp hr).1, ?_⟩
  have := List.length_filter_le (fun r : Nat × Nat => lowc r.1 != lowc c) rows
  have := h.2
  unfold without
  omega
theorem delitem_ok {h : Hdr} {rows : List (Nat × Nat)} {c : Nat} (hr : okRows rows) (hc : okc true c) {N : Led} : OPM w os (n + 2) (hdrL h rows ++ N) (cf (.ref 183)) [.val (.ref h.T), .str (ch1 c)] .none (hdrL h (without rows c) ++ N) := by
  intro A rm g s Q vs H r k
  cases r with | cons r₁ r => cases r with | cons r₂ r =>
  cases r
  cases r₁
  refine enterC (n := n + 1) (fa := 183) (vars := [("self", .val (.ref h.T))]) (cv := fun _ => some (.str (ch1 c))) (by walk_at "kis") (by walk_at "kis") (by rfl) (by rfl) (by decide +kernel) (bv_cons (by rfl) (.val _) bv_nil) ?_ rm H ?_
  · intro y hy o ho
    cases List.mem_singleton.mp (show y ∈ [Str.ofString "name"] from hy)
    exact ⟨_, ho, r₂⟩
  · intro L s' g' rm' L' H'
    change HS w os g' ((L, .frame [("self", .val (.ref h.T))]) :: (L + 1, .cell (some (.str (ch1 c)))) :: (hdrL h rows ++ N)) s' at H'
    refine X.next (ST.assign (p := .str (ch1 (lowc c))) (PE.conv (T := h.T) (dT := h.dT) (by walk_at "nm") (List.mem_of_getElem? (i := 4) rfl) (List.mem_of_getElem? (i := 3) rfl) (by rfl) (PE.lower (c := c) (by walk_at "nm") hc (by rfl) (by rfl)) (okc_low hc) (by rfl) (by rfl)) (SN.cel (i := 1) (by rfl) (by rfl) (by rfl) (by rfl)) (by rfl)) rm' H' fun g₁ s₁ L₁ H₁ => ?_
    change HS w os g₁ ((L, .frame [("self", .val (.ref h.T))]) :: (L + 1, .cell (some (.str (ch1 (lowc c))))) :: (hdrL h rows ++ N)) s₁ at H₁
    refine X.next (ST.setAll (i := 2) (D := h.D) (l := rows.map rowP) (ps := (without rows c).map rowP) ?_ (PE.attr (x := h.T) (C := 263) (dx := h.dT) (by walk_at "nm") (List.mem_of_getElem? (i := 4) rfl) (List.mem_of_getElem? (i := 3) rfl) (by rfl) (by intro g v r; cases r; rfl) (by walk_at "kis") (by walk_at "kis") (by walk_at "kis") (by walk_at "kis") (by rfl)) rfl (by have := hr.2; rw [List.length_map]; omega) (by have := (okRows_without (c := c) hr).2; rw [List.length_map]; omega) (by rfl)) rm' H₁ fun g₂ s₂ L₂ H₂ => ?_
    · refine PE.lcompL (D₀ := h.D) (ps := rows) (enc := rowP) (t := fun r => lowc r.1 != lowc c) (f := rowP) (cl := [(Str.ofString "name", L + 1)]) (PE.attr (x := h.T) (C := 263) (dx := h.dT) (by walk_at "nm") (List.mem_of_getElem? (i := 4) rfl) (List.mem_of_getElem? (i := 3) rfl) (by rfl) (by intro g v r; cases r; rfl) (by walk_at "kis") (by walk_at "kis") (by walk_at "kis") (by walk_at "kis") (by rfl)) (List.mem_of_getElem? (i := 2) rfl) (sizeLine_ge (by have := hr.2; omega)) (by intro v; rfl) (by rfl) (by rfl) (by decide +kernel) (by decide +kernel) (by rfl) ?_ ?_
      · intro p hp I e D l C
        have h1 := (hr.1 p hp).1
        rw [← ch1_bne]
        exact PTs.one (PT.cmp (PE.lower (c := p.1) (PE.itemT (j := 0) (ps := [.str (ch1 p.1), .str (ch1 p.2)]) (by walk_at "nm") PE.cint rfl (by show (2 : Nat) ≤ 100000; decide) (by intro o k; rfl)) h1 (by rfl) (by rfl)) (by walk_at "nm") OP.ne_str (by rfl))
      · intro p hp _ I e D l C
        exact by walk_at "nm"
    · change HS w os g₂ ((L, .frame [("self", .val (.ref h.T))]) :: (L + 1, .cell (some (.str (ch1 (lowc c))))) :: (hdrL h (without rows c) ++ N)) s₂ at H₂
      refine X.end ?_
      obtain ⟨g₃, L₃, H₃, -⟩ := H₂.drop (M' := hdrL h (without rows c) ++ N) ((List.sublist_cons_self _ _).trans (List.sublist_cons_self _ _))
      exact k .none g₃ s₂ (L'.tr (L₁.tr (L₂.tr L₃))) H₃ .none
end
set_option maxHeartbeats 1000000
section
variable {w : World} {os : Ext} {n : Nat} {M M' : Led} {env : Env} {pos : Pos}
theorem OP.join1 {p : PV} {z x : Str} (hv : LV w os M p [.str x]) (hx : x.length ≤ 1000) (hz : z.length ≤ 1000) : OP w os n M (cf (.builtin "str.join")) [.str z, p] (.str x) := fun A rm g s Q vs H r k => by
  cases r with | cons r₁ r => cases r with | cons r₂ r =>
  cases r; cases r₁ with | str _ t =>
  obtain ⟨a, us, rfl, h, r⟩ := hv g s _ H r₂
  obtain ⟨l, rfl, hl'⟩ := RdL.strs (xs := [x]) r
  refine SC.join h.isList hl' ?_ fun t' tk => ?_
  · unfold JoinOk
    rw [StrLaws.joinFits (B := 1000) (by simpa using hx) (by simp; omega)]
    rfl
  · rw [show Txt.join z [x] = x from rfl]
    exact k _ g _ Le.rfl (H.toks tk) (.str _ _)
theorem dictAt0 {h : Heap} {d : Addr} (hd : h.get? d = some dictObj) : h.DictAt (strKind PRG w) d ([] : List (Str × Value)) 0 := by
  refine ⟨dictObj, #[], hd, ⟨rfl, rfl, rfl⟩, rfl, ?_, ?_, ?_⟩
  · intro e he; simp at he
  · constructor
  · simp
theorem X.forNone {o : Expr} {d : Addr} {apos cp : Pos} {tgt : Expr} {body rest : List Stmt} (ho : PE w os n env M o (.val (.ref d))) (hds : (d == sysModules) = false)
    (hbase : attributeBase o "items" env (eval o env) = eval o env) (hline : (apos.endLine == cp.line) = true) (hfs : ∀ v, foldedSetIterable (.Call (.Attribute o "items" apos) [] [] cp) env v = pure v)
    {A : Around} (rm : Rm A n) {g : Heap} {s : Shared} {Q : Flow → Shared → Prop} (H : HS w os g M s) (hd : g.get? d = some dictObj)
    (k : ∀ g' s', Le g g' → HS w os g' M s' → wpAny (model PRG w) A (execs rest env) Q NoE s') :
    wpAny (model PRG w) A (execs (.For tgt (.Call (.Attribute o "items" apos) [] [] cp) body [] pos :: rest) env) Q NoE s := by
  refine wpAny_execs_cons (wpAny_For ?_ hfs)
  refine wpAny_Call_method (T := "dict") (id := "dict.items") hbase rfl hline PySem.F.plainAttrs_dict PySem.F.slot_dict_items PySem.F.type_dict_items (ho A rm g s _ H fun v g₁ s₁ L₁ H₁ r₁ => ?_)
  cases r₁
  have hd₁ : s₁.heap.get? d = some dictObj := H₁.keep _ _ (L₁ _ _ hd)
  refine ⟨⟨_, hd₁, rfl⟩, fun a e => by cases e; exact ⟨_, hd₁, rfl⟩, ?_⟩
  refine callWith_of (P := fun _ => True) rfl (fun h _ => ⟨.machine, .inr (.inl rfl), Looks.of_pure (by unfold keeperOf; rfl)⟩) (PySem.evalArgs_none ⟨trivial, ?_⟩)
  refine call_meetsIn PySem.F.slot_dict_items ⟨_, hd₁, rfl⟩ PySem.F.entry_dict_items (PySem.F.args_dict_items_1 _) (meets_dict_items (strKind PRG w) d hds) ⟨⟨[], (dictAt0 hd₁).dictOf⟩, ?_⟩
  obtain ⟨g₂, L₂, H₂, G₂⟩ := H₁.push { cls := .type "dict_items", data := .fields #[.ref d] } rfl s₁.toks
  have hv := H₂.keep _ _ G₂
  have hd₂ := H₂.keep _ _ (L₂ _ _ (L₁ _ _ hd))
  refine wpAny_pyIter_items (knd := strKind PRG w) (s := { s₁ with heap := s₁.heap.push { cls := .type "dict_items", data := .fields #[.ref d] } }) ⟨_, hv, rfl, rfl⟩ (dictAt0 hd₂) ?_
  obtain ⟨g₃, L₃, H₃⟩ := pushEnt (e := .is fun o => o = { cls := .type "dict_itemiterator", data := .fields #[.none, .bool false, .ref d, .int 0 0, .int 0 0, .int 0 0, .none, .none] }) (tk := s₁.toks) H₂ { cls := .type "dict_itemiterator", data := .fields #[.none, .bool false, .ref d, .int 0 0, .int 0 0, .int 0 0, .none, .none] } rfl fun _ _ => rfl
  refine forLoopG (fun _ s' => ∃ g', Le g g' ∧ HS w os g' (((s₁.heap.push { cls := .type "dict_items", data := .fields #[.ref d] }).objs.size, .is fun o => o = { cls := .type "dict_itemiterator", data := .fields #[.none, .bool false, .ref d, .int 0 0, .int 0 0, .int 0 0, .none, .none] }) :: M) s') ?_ 0 ⟨g₃, L₁.tr (L₂.tr L₃), H₃⟩
  rintro _ s' ⟨g', L', H'⟩
  obtain ⟨oi, hoi, rfl⟩ := H'.headIs
  refine wpAny_pyNext_items_end (knd := strKind PRG w) (kvs := ([] : List (Str × Value))) rm.hd hoi (dictAt0 (H'.keep _ _ (L' _ _ hd))) rfl fun h' he => ?_
  obtain ⟨g₄, L₄, H₄⟩ := H'.dropHead (h' := h') (fun b o hb e => he b o hb e)
  exact wpAny_execs_nil (k g₄ _ (L'.tr L₄) H₄)
end
set_option maxHeartbeats 1000000
section
variable {w : World} {os : Ext} {n : Nat} {M M' : Led} {env : Env} {pos : Pos}
theorem enterK {fa : Addr} {name qual : Str} {params : Arguments} {body : List Stmt} {scope : Scope} {dV kV doc pm cdv ct oc : Value} {an od : Option Addr} {osl : Array (Option Value)} {g : Heap} {s : Shared} {A : Around}
    {vs : List Value} {bs : List (Str × Value)} {kw : Str} {vars : List (Str × PV)} {R : Result → Shared → Prop}
    (ho : (KF w).lookup fa = some ⟨oc, od, .func (fnOf name qual params body scope dV kV doc pm an cdv ct), osl⟩) (hcd : codeIn (KF w) cdv qual = true)
    (hb : bindArgs (fnOf name qual params body scope dV kV doc pm an cdv ct) ⟨vs, []⟩ = (alloc dictObj >>= fun d => pure (bs ++ [(kw, Value.ref d)]))) (hloc : ∀ d : Addr, ∀ y ∈ bs ++ [(kw, Value.ref d)], scope.names.lookup y.1 = some .local) (hnc : ∀ z ∈ scope.names, z.2 ≠ .cell)
    (hv : ∀ (d : Addr) g', Le g g' → ∀ x p, ((kw, PV.val (.ref d)) :: vars).lookup x = some p → ∃ v, (bs ++ [(kw, Value.ref d)]).reverse.lookup x = some v ∧ Rd g' v p)
    (rm : Rm A (n + 1)) (H : HS w os g M s)
    (k : ∀ (L d : Addr) (s' : Shared) (g' : Heap), Rm (A.deeper (envOf qual scope L fa cdv)) n → Le g g' → g'.get? d = some dictObj → d ≠ sysModules → HS w os g' ((L, .frame ((kw, .val (.ref d)) :: vars)) :: M) s' →
      wpAny (model PRG w) (A.deeper (envOf qual scope L fa cdv)) (execs body (envOf qual scope L fa cdv)) (fun fl s'' => R (.ok (.ret (match fl with | .ret v => v | _ => .none))) s'') NoE s')
    (hfa : 1 ≤ fa)
    (hco : scope.isCoroutine = false := by rfl) (hgen : scope.isGenerator = false := by rfl) (hk : scope.kind = .function := by rfl) :
    codeAny (model PRG w) A (.call (.ref fa) ⟨vs, []⟩) R s := by
  refine codeAny_call_function (fd := fnOf name qual params body scope dV kV doc pm an cdv ct) (body := body) (by have := rm.dp; omega) (H.kin _ _ ho) rfl hco hgen rfl (codeRec_of H.kin hcd) ?_
  rw [hb]
  refine wpAny_bind (wpAny_alloc (wpAny_pure ?_))
  obtain ⟨g₁, L₁, H₁, G₁⟩ := H.push dictObj rfl s.toks
  have hne : s.heap.objs.size ≠ sysModules := fun e => by
    have h1 := Heap.lt_size (H.kin _ _ ho)
    rw [e] at h1
    exact absurd h1 (Nat.not_lt.mpr hfa)
  refine wpAny_newFunctionEnv hnc (hloc _) (fun h' hn hs => ?_) hk
  obtain ⟨g₂, L₂, H₂, -⟩ := H₁.new (a := (s.heap.push dictObj).objs.size) (e := .frame ((kw, .val (.ref s.heap.objs.size)) :: vars)) (s' := { s with heap := h', toks := s.toks + (bs ++ [(kw, Value.ref s.heap.objs.size)]).length }) (get_none_of_size (Nat.le_refl _))
    (fun b o e => (hs.2 b (Nat.ne_of_lt (Heap.lt_size e))).trans (Heap.get?_push_of_some _ e)) (fun g' L _ => nsFrame hn (hv _ g' (L₁.tr L))) rfl rfl
  refine ⟨H₂.lim, codeAny_func ?_⟩
  exact wpAny_mono (k _ s.heap.objs.size _ g₂ (rm.deeper _) (L₁.tr L₂) (L₂ _ _ G₁) hne H₂) (fun _ _ x => x) fun _ _ x => x.elim
theorem add_ok {h : Hdr} {rows : List (Nat × Nat)} {c x : Nat} (hr : okRows rows) (hl : rows.length ≤ 900) (hc : okc true c) (hx : okc false x) {N : Led} :
    OPM w os (n + 2) (hdrL h rows ++ N) (cf (.ref 260)) [.val (.ref h.T), .str (ch1 c), .str (ch1 x)] .none (hdrL h (rows ++ [(c, x)]) ++ N) := by
  intro A rm g s Q vs H r k
  cases r with | cons r₁ r => cases r with | cons r₂ r => cases r with | cons r₃ r =>
  cases r
  cases r₁
  cases r₂ with | str _ t₂ =>
  cases r₃ with | str _ t₃ =>
  refine wpAny_call (enterK (n := n + 1) (fa := 260) (bs := [("self", .ref h.T), ("_name", .str (ch1 c) t₂), ("_value", .str (ch1 x) t₃)]) (kw := "_params") (vars := [("self", .val (.ref h.T)), ("_name", .str (ch1 c)), ("_value", .str (ch1 x))]) (by walk_at "kis") (by walk_at "kis") (by rfl) ?_ (by decide +kernel) ?_ rm H ?_ (by decide))
  · intro d y hy
    simp only [List.cons_append, List.nil_append, List.mem_cons, List.not_mem_nil, or_false] at hy
    rcases hy with rfl | rfl | rfl | rfl <;> rfl
  · intro d g' L
    exact bv_cons (by rfl) (.val _) (bv_cons (by rfl) (.val _) (bv_cons (by rfl) (.str _ _) (bv_cons (by rfl) (.str _ _) bv_nil)))
  · intro L d s' g' rm' L' hd hds H'
    refine X.newList (ps := []) (i := 0) PL.nil (by show (0 : Nat) ≤ 1000; decide) (by rfl) (by rfl) rfl (by rfl) rm' H' fun P g₁ s₁ L₁ H₁ => ?_
    change HS w os g₁ ((P, .list []) :: (L, .frame [("parts", .val (.ref P)), ("_params", .val (.ref d)), ("self", .val (.ref h.T)), ("_name", .str (ch1 c)), ("_value", .str (ch1 x))]) :: (hdrL h rows ++ N)) s₁ at H₁
    refine X.if (PT.cmp (by walk_at "nm") PE.cnone (OP.isntNone (by intro g v r; cases r; nofun)) (by rfl)) rm' H₁ fun g₂ s₂ L₂ H₂ => ?_
    rw [if_pos rfl]
    refine X.next (ST.assign (p := .str (ch1 x)) (PE.conv (T := h.T) (dT := h.dT) (by walk_at "nm") (List.mem_of_getElem? (i := 4) rfl) (List.mem_of_getElem? (i := 3) rfl) (by rfl) (by walk_at "nm") hx (by rfl) (by rfl)) (SN.loc (i := 1) (by rfl) (by rfl) (by rfl)) (by rfl)) rm' H₂ fun g₃ s₃ L₃ H₃ => ?_
    change HS w os g₃ ((P, .list []) :: (L, .frame [("_value", .str (ch1 x)), ("parts", .val (.ref P)), ("_params", .val (.ref d)), ("self", .val (.ref h.T)), ("_name", .str (ch1 c)), ("_value", .str (ch1 x))]) :: (hdrL h rows ++ N)) s₃ at H₃
    refine X.next (ST.exprX (PEX.meth (p := .val (.ref P)) (T := "list") (id := "list.append") (ps := [.str (ch1 x)]) (r := .none) (by walk_at "nm")
        (Ty.list (LV.mut (i := 0) rfl)) (PL.cons (by walk_at "nm") PL.nil (by rfl)) (OPM.append (i := 0) (l := []) rfl (by simp))
        F.plainAttrs_list F.slot_list_append F.type_list_append (by rfl) (by rfl) (by rfl) (by rfl) (by rfl)) (by rfl) (by rfl)) rm' H₃ fun g₄ s₄ L₄ H₄ => ?_
    change HS w os g₄ ((P, .list [.str (ch1 x)]) :: (L, .frame [("_value", .str (ch1 x)), ("parts", .val (.ref P)), ("_params", .val (.ref d)), ("self", .val (.ref h.T)), ("_name", .str (ch1 c)), ("_value", .str (ch1 x))]) :: (hdrL h rows ++ N)) s₄ at H₄
    refine X.end ?_
    refine X.forNone (by walk_at "nm") (beq_eq_false_iff_ne.mpr hds) (by rfl) (by rfl) (by intro v; rfl) rm' H₄ (L₄ _ _ (L₃ _ _ (L₂ _ _ (L₁ _ _ hd)))) fun g₅ s₅ L₅ H₅ => ?_
    refine X.next (M' := (P, .list [.str (ch1 x)]) :: (L, .frame [("_value", .str (ch1 x)), ("parts", .val (.ref P)), ("_params", .val (.ref d)), ("self", .val (.ref h.T)), ("_name", .str (ch1 c)), ("_value", .str (ch1 x))]) :: (hdrL h (rows ++ [(c, x)]) ++ N))
      (ST.exprX (PEX.meth (p := .val (.ref h.D)) (T := "list") (id := "list.append") (ps := [rowP (c, x)]) (r := .none)
        (PE.attr (x := h.T) (C := 263) (dx := h.dT) (by walk_at "nm") (List.mem_of_getElem? (i := 4) rfl) (List.mem_of_getElem? (i := 3) rfl) (by rfl) (by intro g v r; cases r; rfl) (by walk_at "kis") (by walk_at "kis") (by walk_at "kis") (by walk_at "kis") (by rfl))
        (Ty.list (LV.mut (i := 2) rfl)) (PL.cons (PE.tup (ps := [.str (ch1 c), .str (ch1 x)]) (PL.cons (PE.conv (T := h.T) (dT := h.dT) (by walk_at "nm") (List.mem_of_getElem? (i := 4) rfl) (List.mem_of_getElem? (i := 3) rfl) (by rfl) (by walk_at "nm") hc (by rfl) (by rfl))
          (PL.cons (PEX.meth (p := .str "; ") (T := "str") (id := "str.join") (ps := [.val (.ref P)]) (r := .str (ch1 x)) PE.cstr Ty.str (PL.cons (by walk_at "nm") PL.nil (by rfl)) (OP.join1 (LV.mut (i := 0) rfl) (by show (1 : Nat) ≤ 1000; decide) (by show (2 : Nat) ≤ 1000; decide)).m
            F.plainAttrs_str F.slot_str_join F.type_str_join (by rfl) (by rfl) (by rfl) (by rfl) (by rfl)).pe PL.nil (by rfl)) (by rfl)) (by show (2 : Nat) ≤ 1000; decide)) PL.nil (by rfl)) ?_
        F.plainAttrs_list F.slot_list_append F.type_list_append (by rfl) (by rfl) (by rfl) (by rfl) (by rfl)) (by rfl) (by rfl)) rm' H₅ fun g₆ s₆ L₆ H₆ => ?_
    · have := OPM.append (w := w) (os := os) (n := n + 1) (M := (P, .list [.str (ch1 x)]) :: (L, .frame [("_value", .str (ch1 x)), ("parts", .val (.ref P)), ("_params", .val (.ref d)), ("self", .val (.ref h.T)), ("_name", .str (ch1 c)), ("_value", .str (ch1 x))]) :: (hdrL h rows ++ N)) (i := 2) (D := h.D) (l := rows.map rowP) (p := rowP (c, x)) rfl (by rw [List.length_map]; exact hr.2)
      rw [show rows.map rowP ++ [rowP (c, x)] = (rows ++ [(c, x)]).map rowP by simp] at this
      exact this
    · refine X.end ?_
      obtain ⟨g₇, L₇, H₇, -⟩ := H₆.drop (M' := hdrL h (rows ++ [(c, x)]) ++ N) ((List.sublist_cons_self _ _).trans (List.sublist_cons_self _ _))
      exact k .none g₇ s₆ (L'.tr (L₁.tr (L₂.tr (L₃.tr (L₄.tr (L₅.tr (L₆.tr L₇))))))) H₇ .none
end
set_option maxHeartbeats 1000000
section
variable {w : World} {os : Ext} {n : Nat} {M M' : Led} {env : Env} {pos : Pos}
theorem Rm.mkC {A : Around} {C : Addr} {rest : List Value} {kw : List (Str × Value)} (r : Rm A (n + 1)) : Rm (A.under (.builtin "type.__call__" ⟨.ref C :: rest, kw⟩)) n :=
  ⟨r.hd, by have := r.dp; show A.depth + Code.weight (.builtin "type.__call__" ⟨.ref C :: rest, kw⟩) + n < _; have e : Code.weight (.builtin "type.__call__" ⟨.ref C :: rest, kw⟩) = 1 := (by rfl); omega,
   by have := r.un; show A.units + Code.cUnits (.builtin "type.__call__" ⟨.ref C :: rest, kw⟩) + 8 * n + 8 < _; have e : Code.cUnits (.builtin "type.__call__" ⟨.ref C :: rest, kw⟩) = 1 := (by rfl); omega⟩
theorem makeC {A : Around} {C fI : Addr} {rest : List Value} {kw : List (Str × Value)} {g : Heap} {s : Shared} {R : Result → Shared → Prop} (hm : makesIn (KF w) C = true) (hi : findIn (KF w) (.ref C) "__init__" = some (some (.ref fI))) (hf : typeIn (KF w) (.ref fI) = some (.type "function"))
    (rm : Rm A (n + 1)) (H : HS w os g M s)
    (k : ∀ A' x dx g' s', Rm A' n → Le g g' → HS w os g' ((dx, .dict []) :: (x, instE C dx) :: M) s' → codeAny (model PRG w) A' (.call (.ref fI) ⟨.ref x :: rest, kw⟩) (InitBack x R) s') : codeAny (model PRG w) A (.call (.ref C) ⟨rest, kw⟩) R s := by
  obtain ⟨hh, gg, d, t, oo⟩ := s
  refine make_core (makes_of H.kin hm) (looks_findIn H.kin hi) (fun self => bind_fn H.kin self hf) (.inl rfl) ?_
  obtain ⟨g₁, L₁, H₁⟩ := pushEnt (e := .dict []) (tk := t) H emptyDict rfl fun _ _ => ⟨fun _ => .none, #[], 0, rfl, (fun _ h => by simp at h), List.Pairwise.nil, (fun _ => rfl), (fun x p e => by cases e), fun _ _ => rfl⟩
  obtain ⟨g₂, L₂, H₂⟩ := pushEnt (e := instE C hh.objs.size) (tk := t) H₁ (instObj C hh.objs.size) rfl fun _ _ => ⟨rfl, rfl, rfl⟩
  dsimp only at H₂
  rw [Heap.size_push] at H₂
  exact k _ _ _ g₂ _ rm.mkC (L₁.tr L₂) (H₂.perm (List.Perm.swap _ _ _))
theorem X.forNoneL {it tgt : Expr} {D : Addr} {body rest : List Stmt} (ho : PE w os n env M it (.val (.ref D))) (hD : (D, Ent.list []) ∈ M) (hfs : ∀ v, foldedSetIterable it env v = pure v)
    {A : Around} (rm : Rm A n) {g : Heap} {s : Shared} {Q : Flow → Shared → Prop} (H : HS w os g M s)
    (k : ∀ g' s', Le g g' → HS w os g' M s' → wpAny (model PRG w) A (execs rest env) Q NoE s') :
    wpAny (model PRG w) A (execs (.For tgt it body [] pos :: rest) env) Q NoE s := by
  refine wpAny_execs_cons (wpAny_For (ho A rm g s _ H fun v g₁ s₁ L₁ H₁ r₁ => ?_) hfs)
  cases r₁
  refine IterL.list hD A g₁ s₁ _ H₁ fun itv I ent g₂ s₂ L₂ H₂ hI => ?_
  refine forLoopG (fun _ s' => ∃ g', Le g g' ∧ HS w os g' ((I, ent 0) :: M) s') ?_ 0 ⟨g₂, L₁.tr L₂, H₂⟩
  rintro _ s' ⟨g', L', H'⟩
  exact hI.stop A M g' s' _ rm.hd hD H' fun g₄ s₄ L₄ H₄ => wpAny_execs_nil (k g₄ _ (L'.tr L₄) H₄)
theorem hinit_ok {A : Around} {T dT D : Addr} (rm : Rm A (n + 2)) {g : Heap} {s : Shared} {R : Result → Shared → Prop} (H : HS w os g ((dT, .dict []) :: (T, instE 263 dT) :: M) s) {i : Nat} (hi : M[i]? = some (D, .list []))
    (k : ∀ g' s', Le g g' → HS w os g' ((dT, .dict [("_headers", .val (.ref D))]) :: (T, instE 263 dT) :: M) s' → R (.ok (.ret .none)) s') :
    codeAny (model PRG w) A (.call (.ref 157) ⟨[.ref T, .ref D], []⟩) R s := by
  refine enterD (n := n + 1) (fa := 157) (binds := [("self", .ref T), ("headers", .ref D)]) (vars := [("self", .val (.ref T)), ("headers", .val (.ref D))]) (by walk_at "kis") (by walk_at "kis") (binds_K H.kin (by rfl) (by walk_at "kis") (by rfl) (by rfl) (by rfl)) ?_ (by decide +kernel) ?_ rm H ?_
  · intro y hy
    simp only [List.mem_cons, List.not_mem_nil, or_false] at hy
    rcases hy with rfl | rfl <;> rfl
  · exact bv_cons (by rfl) (.val _) (bv_cons (by rfl) (.val _) bv_nil)
  · intro L s' g' rm' L' H'
    refine X.next (ST.assign (p := .val (.ref D)) (PE.ifexp (b := true) (PT.cmp (by walk_at "nm") PE.cnone (OP.isntNone (by intro g v r; cases r; nofun)) (by rfl)) (fun _ => by walk_at "nm") (fun h => nomatch h)) (SN.loc (i := 0) (by rfl) (by rfl) (by rfl)) (by rfl)) rm' H' fun g₁ s₁ L₁ H₁ => ?_
    change HS w os g₁ ((L, .frame [("headers", .val (.ref D)), ("self", .val (.ref T)), ("headers", .val (.ref D))]) :: (dT, .dict []) :: (T, instE 263 dT) :: M) s₁ at H₁
    have hD : ∀ (p q r : Addr × Ent), (p :: q :: r :: M)[i + 3]? = some (D, .list []) := fun p q r => by simpa using hi
    refine X.if (PT.cmp (PE.callB (by walk_at "nm") (by intro a; exact nofun) (PL.cons (by walk_at "nm") PL.nil (by rfl)) (OP.typeOf (Ty.list (LV.mut (hD _ _ _))) (by rfl)) (by rfl) (by rfl)) (by walk_at "nm") OP.isntType (by rfl)) rm' H₁ fun g₂ s₂ L₂ H₂ => ?_
    rw [if_neg (by decide)]
    refine X.end ?_
    refine X.next (ST.setattr (i := 1) (x := T) (C := 263) (dx := dT) (fs := []) (p := .val (.ref D)) (by walk_at "nm") (by walk_at "nm") (List.mem_of_getElem? (i := 2) rfl) rfl (by show (0 : Nat) ≤ 100; decide) (by walk_at "kis") (by walk_at "kis") (by walk_at "kis") (by walk_at "kis") (by rfl)) rm' H₂ fun g₃ s₃ L₃ H₃ => ?_
    change HS w os g₃ ((L, .frame [("headers", .val (.ref D)), ("self", .val (.ref T)), ("headers", .val (.ref D))]) :: (dT, .dict [("_headers", .val (.ref D))]) :: (T, instE 263 dT) :: M) s₃ at H₃
    refine X.if (PT.bval PE.cbool (by intro _; rfl)) rm' H₃ fun g₄ s₄ L₄ H₄ => ?_
    rw [if_pos rfl]
    refine X.forNoneL (D := D) (by walk_at "nm") (List.mem_of_getElem? (hD _ _ _)) (by intro v; rfl) rm' H₄ fun g₅ s₅ L₅ H₅ => ?_
    refine X.end ?_
    refine X.end ?_
    obtain ⟨g₆, L₆, H₆, -⟩ := H₅.drop (List.sublist_cons_self _ _)
    exact k g₆ s₅ (L'.tr (L₁.tr (L₂.tr (L₃.tr (L₄.tr (L₅.tr L₆)))))) H₆
end
set_option maxHeartbeats 1000000
section
variable {w : World} {os : Ext} {n : Nat} {env : Env} {M M' : Led} {pos : Pos}
theorem RdL.ofGet {g : Heap} : ∀ {vs : List Value} {ps : List PV}, vs.length = ps.length → (∀ (j : Nat) (v : Value), vs[j]? = some v → ∃ p, ps[j]? = some p ∧ Rd g v p) → RdL g vs ps
  | [], [], _, _ => .nil
  | [], _ :: _, h, _ => nomatch h
  | _ :: _, [], h, _ => nomatch h
  | v :: vs, p :: ps, h, k => by
    obtain ⟨q, e, r⟩ := k 0 v rfl
    cases e
    exact .cons r (RdL.ofGet (by simpa using h) fun j u e => by simpa using k (j + 1) u (by simpa using e))
theorem RdL.signs {g : Heap} {x : Str} {acc : Array Value} (h : ItemsOf (SignAt x) acc x.cps.size) : RdL g acc.toList (x.cps.toList.map fun c => .str (ch1 c)) := by
  refine RdL.ofGet (by simp [h.1]) fun j v e => ?_
  obtain ⟨c, u, hc, rfl⟩ := h.2 j v (by simpa using e)
  refine ⟨.str (ch1 c), ?_, .str _ _⟩
  rw [List.getElem?_map, Array.getElem?_toList, hc]; rfl
theorem listStrNew {x : Str} {v : Value} (hx : x.cps.size ≤ 10000) {A : Around} (rm : Rm A n) {g : Heap} {s : Shared} {Q : Value → Shared → Prop} (H : HS w os g M s) (r : Rd g v (.str x))
    (k : ∀ (R : Addr) g' s', Le g g' → HS w os g' ((R, .list (x.cps.toList.map fun c => .str (ch1 c))) :: M) s' → Q (.ref R) s') : wpAny (model PRG w) A (call (.type "list") [v]) Q NoE s := by
  cases r with | str _ t =>
  refine call_list_str rm.hd x t (hn := sizeLine_ge (by omega)) fun h' tk acc' c' hk hS' hacc => ?_
  obtain ⟨g₁, L₁, H₁, -⟩ := H.new (a := s.heap.objs.size) (e := .list (x.cps.toList.map fun c => .str (ch1 c))) (s' := { s with heap := h', toks := tk }) (get_none_of_size (Nat.le_refl _)) hk
    (fun g' L _ => ⟨_, hS', acc'.toList, c', by simp, RdL.signs hacc⟩) rfl rfl
  exact k _ g₁ _ L₁ H₁
theorem OP.listStr {x : Str} (hx : x.cps.size ≤ 10000) : OP w os n M (cf (.type "list")) [.str x] (.list (x.cps.toList.map fun c => .str (ch1 c))) := fun A rm g s Q vs H r k => by
  cases r with | cons r₁ r =>
  cases r; cases r₁ with | str _ t =>
  refine call_list_str rm.hd x t (hn := sizeLine_ge (by omega)) fun h' tk acc' c' hk hS' hacc => ?_
  obtain ⟨g₁, L₁, H₁, G₁⟩ := H.grow (s' := { s with heap := h', toks := tk }) hk rfl rfl
  refine k _ g₁ _ L₁ H₁ (.list (vs := acc'.toList) ⟨c', ?_⟩ (RdL.signs hacc))
  have := G₁ _ _ hS' H.fresh
  simpa using this
theorem OP.listRange {m : Nat} (hm : m ≤ 10000) : OP w os n M (cf (.type "list")) [.rng m] (.list ((List.range m).map fun i => .int (i : Nat))) := fun A rm g s Q vs H r k => by
  cases r with | cons r₁ r =>
  cases r; cases r₁ with | @rng a _ t u x ha =>
  have ha' := H.keep _ _ ha
  have e1 : Builtin.Range.rangeSize 0 (m : Int) 1 = m := by unfold Builtin.Range.rangeSize; simp; omega
  refine call_list_range (a := 0) (b := m) (c := 1) (n := m) rm.hd ha' ?_ e1 (by omega) fun h' tk acc' c' hk hS' hacc => ?_
  · exact small_one (by decide) (by decide) (by omega) (by omega)
  obtain ⟨g₁, L₁, H₁, G₁⟩ := H.grow (s' := { s with heap := h', toks := tk }) hk rfl rfl
  refine k _ g₁ _ L₁ H₁ (.list (vs := acc'.toList) ⟨c', ?_⟩ (RdL.ofGet (by simp [hacc.1]) fun j v e => ?_))
  · have := G₁ _ _ hS' H.fresh
    simpa using this
  · have hj : j < m := by
      have := (List.getElem?_eq_some_iff.mp e).1
      have h2 := hacc.1
      simp at this
      omega
    obtain ⟨t, rfl⟩ := hacc.2 j v (by simpa using e)
    refine ⟨.int (j : Nat), ?_, ?_⟩
    · rw [List.getElem?_map, List.getElem?_range hj]; rfl
    · have : (0 : Int) + j * 1 = j := by omega
      rw [this]; exact .int _ _
theorem lamNew {params : Arguments} {body : Expr} {scope : Scope} {clos : List (Str × Addr)} {c P : Addr} {ps : Array Value} {i : Nat} (hdef : defaultsOf params env = ([], [])) (hcl : closureFor scope env = pure clos) (hge0 : env.globals = mainGlobals) (hcode : env.code = .ref c)
    (hi : M[i]? = some (P, .is fun o => o = tabObj ps)) (ht : TriplesOk ps.toList) (hnf : codeAmong pos ps.toList = none)
    {A : Around} {g : Heap} {s : Shared} {Q : Value → Shared → Prop} (H : HS w os g M s) (C : CodeHd g c P) (hb : ∀ mg, s.heap.Ns mainGlobals mg → s.heap.BuiltinsAt mg P)
    (k : ∀ (F c' : Addr) (pm ctv : Value) g' s', Le g g' → HS w os g' ((F, .is fun o => o = kla_obj "<lambda>" (env.qual ++ "<lambda>") params body scope clos pm c' ctv) :: (c', codeE (env.qual ++ "<lambda>")) :: setE M i (.is fun o => o = tabObj (ps ++ #[rawInt pos.line, rawInt pos.col, .ref c']))) s' → Q (.ref F) s') :
    wpAny (model PRG w) A (eval (.Lambda params body scope pos) env) Q NoE s := by
  obtain ⟨mg, hmg⟩ := H.bs.gl
  have hg := hmg.keeps H.keep
  obtain ⟨oP, hP, rfl⟩ := H.get hi
  have hgP : mainGlobals ≠ P := fun e => by
    obtain ⟨o, es, ep, ho, hd, -⟩ := hg
    rw [e, hP] at ho; cases ho; cases hd
  refine kla_eval hdef (kla_makeFunction hcl hge0 hg hcode (C.keeps H.keep) hP ht hnf hgP (hb mg hg) fun c' ctv h' tk hx hge hlt hrec hP' => ?_)
  have hmem : P ∈ M.map (·.1) := List.mem_map_of_mem (f := (·.1)) (List.mem_of_getElem? hi)
  obtain ⟨cc, oc, vsc, tq, ec, hoc, hdc, hq⟩ := hrec
  cases ec
  have hMlt : ∀ q ∈ M.map (·.1), q < s.heap.objs.size := fun q hq => by
    obtain ⟨p, hp, rfl⟩ := List.mem_map.mp hq
    obtain ⟨o, e, _⟩ := H.at_ p hp
    exact Heap.lt_size e
  obtain ⟨g', L', H', -⟩ := H.to (M' := (h'.objs.size, .is fun o => o = kla_obj "<lambda>" (env.qual ++ "<lambda>") params body scope clos ((mg "__name__").getD .none) c' ctv) :: (c', codeE (env.qual ++ "<lambda>")) :: setE M i (.is fun o => o = tabObj (ps ++ #[rawInt pos.line, rawInt pos.col, .ref c'])))
    (s' := { s with heap := h'.push (kla_obj "<lambda>" (env.qual ++ "<lambda>") params body scope clos ((mg "__name__").getD .none) c' ctv), toks := tk }) [P]
    (fun b o e hn => Heap.get?_push_of_some _ (hx b o (fun q => hn (by rw [q]; exact .head _)) e))
    (fun b hb => by rw [List.mem_singleton.mp hb]; exact hmem)
    (fun p hp => by
      rcases List.mem_cons.mp hp with rfl | hp
      · exact .inr (get_none_of_size (Nat.le_of_lt (Nat.lt_of_le_of_lt hge hlt)))
      rcases List.mem_cons.mp hp with rfl | hp
      · exact .inr (get_none_of_size hge)
      · refine .inl ?_
        rw [← setE_keys M i (.is fun o => o = tabObj (ps ++ #[rawInt pos.line, rawInt pos.col, .ref c']))]
        exact List.mem_map_of_mem hp)
    (by
      rw [List.map_cons, List.map_cons, setE_keys]
      refine List.nodup_cons.mpr ⟨fun q => ?_, List.nodup_cons.mpr ⟨fun q => ?_, H.nd⟩⟩
      · rcases List.mem_cons.mp q with e | q
        · exact absurd hlt (by rw [show c' = h'.objs.size from e.symm]; exact Nat.lt_irrefl _)
        · exact absurd (Nat.lt_of_lt_of_le (hMlt _ q) hge) (Nat.not_lt.mpr (Nat.le_of_lt hlt))
      · exact absurd (hMlt _ q) (Nat.not_lt.mpr hge))
    (fun g' Lg _ p hp => by
      rcases List.mem_cons.mp hp with rfl | hp
      · exact ⟨_, Heap.get?_push_size _ rfl, rfl⟩
      rcases List.mem_cons.mp hp with rfl | hp
      · exact ⟨oc, Heap.get?_push_of_some _ hoc, vsc, tq, hdc, hq⟩
      rcases setE_mem H.nd hi hp with rfl | ⟨hp, hne⟩
      · exact ⟨_, Heap.get?_push_of_some _ hP', rfl⟩
      · obtain ⟨o, e, r⟩ := H.at_ p hp
        exact ⟨o, Heap.get?_push_of_some _ (hx _ _ hne e), r.mono Lg⟩) rfl rfl
  exact k _ _ _ _ g' _ L' H'
end
set_option maxHeartbeats 1000000
section
variable {w : World} {os : Ext} {n : Nat} {M M' : Led} {env : Env} {pos : Pos}
theorem callBk {f : Str} {np : Pos} {fv : Value} (hfn : PE w os n env M (.Name f np) (.val fv)) (hf : ∀ a, fv ≠ .ref a) {e : Expr} {es : List Expr} {ps : List PV}
    (ha : PL w os n env M pos (e :: es) ps) (hs : starEach (e :: es) env = (false, eval e env) :: starEach es env) (hp : (backTo pos (starEach (e :: es) env)).any (·.1) = false)
    {A : Around} (rm : Rm A n) {g : Heap} {s : Shared} {Q : Value → Shared → Prop} (H : HS w os g M s)
    (k : ∀ vs g' s', Le g g' → HS w os g' M s' → RdL g' vs ps → wpAny (model PRG w) A (call fv vs) Q NoE s') : wpAny (model PRG w) A (eval (.Call (.Name f np) (e :: es) [] pos) env) Q NoE s :=
  wpAny_Call_NameR (hfn A rm g s _ H fun v g₁ s₁ L₁ H₁ r₁ => by
    cases r₁
    refine callWith_of (P := fun _ => True) (by rw [hp]; rfl) (fun h _ => ⟨.machine, .inr (.inl rfl), ?_⟩) ?_
    · refine Looks.of_pure ?_
      unfold keeperOf
      cases fv <;> first | rfl | exact absurd rfl (hf _)
    · rw [hs]
      refine evalArgs_plain ?_
      have := ha A rm g₁ s₁ (fun vs s' => True ∧ wpAny (model PRG w) A (call fv ([] ++ vs) []) Q NoE s') H₁ fun vs g₂ s₂ L₂ H₂ r₂ => ⟨trivial, k vs g₂ s₂ (L₁.tr L₂) H₂ r₂⟩
      rw [hs] at this
      exact this)
theorem callFk {f : Str} {np : Pos} {a : Addr} (hfn : PE w os n env M (.Name f np) (.val (.ref a))) (hkp : keepIn (KF w) (.ref a) = true) {e : Expr} {es : List Expr} {ps : List PV}
    (ha : PL w os n env M pos (e :: es) ps) (hs : starEach (e :: es) env = (false, eval e env) :: starEach es env) (hp : (backTo pos (starEach es env)).any (·.1) = false)
    {A : Around} (rm : Rm A n) {g : Heap} {s : Shared} {Q : Value → Shared → Prop} (H : HS w os g M s)
    (k : ∀ vs g' s', Le g g' → HS w os g' M s' → RdL g' vs ps → wpAny (model PRG w) A (call (.ref a) vs) Q NoE s') : wpAny (model PRG w) A (eval (.Call (.Name f np) (e :: es) [] pos) env) Q NoE s :=
  wpAny_Call_NameR (hfn A rm g s _ H fun v g₁ s₁ L₁ H₁ r₁ => by
    cases r₁
    exact callWith_K H₁.bs.k hkp (ha A rm g₁ s₁ _ H₁ fun vs g₂ s₂ L₂ H₂ r₂ => ⟨H₂.kin, k vs g₂ s₂ (L₁.tr L₂) H₂ r₂⟩) hs hp)
noncomputable def lexF (ln : Int) (T P : Addr) : List (Str × PV) := [("lineno", .int ln), ("instream", .val (.ref T)), ("whitespace", .str wsp), ("pushback", .val (.ref P))]
theorem lexinit_ok {A : Around} {I dI T : Addr} (rm : Rm A (n + 1)) {g : Heap} {s : Shared} {R : Result → Shared → Prop} (H : HS w os g ((dI, .dict []) :: (I, instE 115 dI) :: M) s)
    (k : ∀ P g' s', Le g g' → HS w os g' ((P, .list []) :: (dI, .dict (lexF 1 T P)) :: (I, instE 115 dI) :: M) s' → R (.ok (.ret .none)) s') :
    codeAny (model PRG w) A (.call (.ref 91) ⟨[.ref I, .ref T], []⟩) R s := by
  refine enterD (n := n) (fa := 91) (binds := [("self", .ref I), ("fp", .ref T)]) (vars := [("self", .val (.ref I)), ("fp", .val (.ref T))]) (by walk_at "kis") (by walk_at "kis") (BindsTo.of_eq (by rfl)) ?_ (by decide +kernel) ?_ rm H ?_
  · intro y hy
    simp only [List.mem_cons, List.not_mem_nil, or_false] at hy
    rcases hy with rfl | rfl <;> rfl
  · exact bv_cons (by rfl) (.val _) (bv_cons (by rfl) (.val _) bv_nil)
  · intro L s' g' rm' L' H'
    refine X.next (ST.setattr (i := 1) (x := I) (C := 115) (dx := dI) (fs := []) (p := .int 1) PE.cint (by walk_at "nm") (List.mem_of_getElem? (i := 2) rfl) rfl (by show (0 : Nat) ≤ 100; decide) (by walk_at "kis") (by walk_at "kis") (by walk_at "kis") (by walk_at "kis") (by rfl)) rm' H' fun g₁ s₁ L₁ H₁ => ?_
    change HS w os g₁ ((L, .frame [("self", .val (.ref I)), ("fp", .val (.ref T))]) :: (dI, .dict [("lineno", .int 1)]) :: (I, instE 115 dI) :: M) s₁ at H₁
    refine X.next (ST.setattr (i := 1) (x := I) (C := 115) (dx := dI) (fs := [("lineno", .int 1)]) (p := .val (.ref T)) (by walk_at "nm") (by walk_at "nm") (List.mem_of_getElem? (i := 2) rfl) rfl (by show (1 : Nat) ≤ 100; decide) (by walk_at "kis") (by walk_at "kis") (by walk_at "kis") (by walk_at "kis") (by rfl)) rm' H₁ fun g₂ s₂ L₂ H₂ => ?_
    change HS w os g₂ ((L, .frame [("self", .val (.ref I)), ("fp", .val (.ref T))]) :: (dI, .dict [("lineno", .int 1), ("instream", .val (.ref T))]) :: (I, instE 115 dI) :: M) s₂ at H₂
    refine X.next (ST.setattr (i := 1) (x := I) (C := 115) (dx := dI) (fs := [("lineno", .int 1), ("instream", .val (.ref T))]) (p := .str wsp) PE.cstr (by walk_at "nm") (List.mem_of_getElem? (i := 2) rfl) rfl (by show (2 : Nat) ≤ 100; decide) (by walk_at "kis") (by walk_at "kis") (by walk_at "kis") (by walk_at "kis") (by rfl)) rm' H₂ fun g₃ s₃ L₃ H₃ => ?_
    change HS w os g₃ ((L, .frame [("self", .val (.ref I)), ("fp", .val (.ref T))]) :: (dI, .dict [("lineno", .int 1), ("instream", .val (.ref T)), ("whitespace", .str wsp)]) :: (I, instE 115 dI) :: M) s₃ at H₃
    refine wpAny_execs_cons (plainObj_wpAny_Assign_Attribute (listNew (ps := []) PL.nil (by show (0 : Nat) ≤ 1000; decide) rm' H₃ fun P g₄ s₄ L₄ H₄ => ?_) (by rfl))
    refine (PE.name (p := .val (.ref I)) (Nm.loc (i := 1) (by rfl) (by rfl) (by rfl) (by rfl)) (by decide +kernel)) _ rm' g₄ s₄ _ H₄ fun ov g₅ s₅ L₅ H₅ r₅ => ?_
    cases r₅
    refine H₅.setAttr (i := 2) (x := I) (C := 115) (dx := dI) (fs := [("lineno", .int 1), ("instream", .val (.ref T)), ("whitespace", .str wsp)]) (p := .val (.ref P)) (List.mem_of_getElem? (i := 3) rfl) rfl (.val _) (by show (3 : Nat) ≤ 100; decide) (by walk_at "kis") (by walk_at "kis") (by walk_at "kis") (by walk_at "kis") fun g₆ s₆ L₆ H₆ => ?_
    change HS w os g₆ ((P, .list []) :: (L, .frame [("self", .val (.ref I)), ("fp", .val (.ref T))]) :: (dI, .dict (lexF 1 T P)) :: (I, instE 115 dI) :: M) s₆ at H₆
    refine X.end ?_
    obtain ⟨g₇, L₇, H₇, -⟩ := H₆.drop (M' := (P, .list []) :: (dI, .dict (lexF 1 T P)) :: (I, instE 115 dI) :: M) (List.Sublist.cons_cons _ (List.sublist_cons_self _ _))
    exact k P g₇ s₆ (L'.tr (L₁.tr (L₂.tr (L₃.tr (L₄.tr (L₅.tr (L₆.tr L₇))))))) H₇
end
set_option maxHeartbeats 1000000
section
variable {w : World} {os : Ext} {n : Nat} {M M' : Led} {env : Env} {pos : Pos}
noncomputable def Bm (g : Heap) : Prop := ∃ o, g.get? 4 = some o ∧ o.cls = .type "module" ∧ o.dict = some builtinsNs ∧ o.data = .plain
theorem Bm.mono {g g' : Heap} (L : Le g g') (h : Bm g) : Bm g' := let ⟨o, e, r⟩ := h; ⟨o, L _ _ e, r⟩
theorem HS.bat {g : Heap} {s : Shared} (H : HS w os g M s) (hB : Bm g) {P : Addr} (h1 : (4 : Addr) ≠ P) {mg : Str → Option Value} (hm : s.heap.Ns mainGlobals mg) : s.heap.BuiltinsAt mg P := by
  obtain ⟨o, e, h2, h3, h4⟩ := hB
  refine ⟨4, o, ?_, by decide, by decide, h1, H.keep _ _ e, h2, h3, h4⟩
  exact mg_of H.kin hm (by walk_at "kis")
theorem codeHd269 {g : Heap} (b : Bs w g) : CodeHd g 273 269 := by
  have h := b.k 273 _ (by walk_at "kis")
  exact ⟨_, _, _, _, _, _, _, _, _, h, rfl, rfl, rfl, rfl, rfl, rfl, rfl, rfl, by decide⟩
theorem codeHd298 {g : Heap} (b : Bs w g) : CodeHd g 300 298 := by
  have h := b.k 300 _ (by walk_at "kis")
  exact ⟨_, _, _, _, _, _, _, _, _, h, rfl, rfl, rfl, rfl, rfl, rfl, rfl, rfl, by decide⟩
noncomputable def tabE (ps : Array Value) : Ent := .is fun o => o = tabObj ps
theorem HS.re {g : Heap} {s : Shared} (H : HS w os g M s) (hs : ∀ p ∈ M', ∃ q ∈ M, q.1 = p.1 ∧ ∀ g o, q.2.ok g o → p.2.ok g o) (hn : (M'.map (·.1)).Nodup) : ∃ g', Le g g' ∧ HS w os g' M' s ∧ ∀ b o, s.heap.get? b = some o → b ∉ M'.map (·.1) → g'.get? b = some o := by
  obtain ⟨g', L, H', G'⟩ := H.to (M' := M') (s' := s) [] (fun _ _ e _ => e) (fun _ h => nomatch h)
    (fun p hp => by
      obtain ⟨q, hq, e, -⟩ := hs p hp
      refine .inl ?_
      rw [← e]; exact List.mem_map_of_mem hq) hn
    (fun g' L _ p hp => by
      obtain ⟨q, hq, e, h⟩ := hs p hp
      obtain ⟨o, ho, r⟩ := H.at_ q hq
      refine ⟨o, ?_, h g' o (r.mono L)⟩
      rw [← e]; exact ho) rfl rfl
  exact ⟨g', L, H', G'⟩
theorem deskFin {P dI I dT T Rf c₂ c₁ D L C b : Addr} {fd : FuncData} {e5 e7 e9 e11 : Ent} {q : Str} {cs : List Nat} {N : Led} {g : Heap} {s : Shared}
    (H : HS w os g ((P, .list []) :: (dI, .dict (lexF 1 T P)) :: (I, instE 115 dI) :: (dT, .dict [("read", .val (.ref Rf))]) :: (T, fnE (some dT) fd) :: (Rf, e5) :: (c₂, codeE q) :: (c₁, e7) :: (D, .list (cs.map fun c => .str (ch1 c))) :: (L, e9) :: (C, .cell (some (.val (.ref D)))) :: (b, e11) :: N) s)
    (hR : ∀ g o, e5.ok g o → RfP q C c₂ o) : ∃ g' d, Le g g' ∧ HS w os g' (deskL d cs 1 [] ++ N) s ∧ I = d.I ∧ ∀ o, s.heap.get? b = some o → g'.get? b = some o := by
  obtain ⟨g', L', H', G'⟩ := H.re (M' := deskL ⟨I, dI, P, T, dT, Rf, C, D, c₂, fd, q⟩ cs 1 [] ++ N) (fun p hp => by
    rcases List.mem_append.mp hp with hp | hp
    · simp only [deskL, List.mem_cons, List.not_mem_nil, or_false] at hp
      rcases hp with rfl | rfl | rfl | rfl | rfl | rfl | rfl | rfl | rfl
      · exact ⟨_, List.mem_of_getElem? (i := 8) rfl, rfl, fun _ _ h => h⟩
      · exact ⟨_, List.mem_of_getElem? (i := 1) rfl, rfl, fun _ _ h => h⟩
      · exact ⟨_, List.mem_of_getElem? (i := 0) rfl, rfl, fun _ _ h => h⟩
      · exact ⟨_, List.mem_of_getElem? (i := 2) rfl, rfl, fun _ _ h => h⟩
      · exact ⟨_, List.mem_of_getElem? (i := 4) rfl, rfl, fun _ _ h => h⟩
      · exact ⟨_, List.mem_of_getElem? (i := 3) rfl, rfl, fun _ _ h => h⟩
      · exact ⟨_, List.mem_of_getElem? (i := 5) rfl, rfl, hR⟩
      · exact ⟨_, List.mem_of_getElem? (i := 10) rfl, rfl, fun _ _ h => h⟩
      · exact ⟨_, List.mem_of_getElem? (i := 6) rfl, rfl, fun _ _ h => h⟩
    · exact ⟨p, List.mem_append_right [_, _, _, _, _, _, _, _, _, _, _, _] hp, rfl, fun _ _ h => h⟩) (by
    let f : Nat → Addr := fun i => [P, dI, I, dT, T, Rf, c₂, c₁, D, L, C, b].getD i 0
    have h0 : ([0, 1, 2, 3, 4, 5, 6, 7, 8, 9, 10, 11].map f ++ N.map (·.1)).Nodup := H.nd
    have h1 : ([0, 1, 2, 3, 4, 5, 6, 8, 10].map f ++ N.map (·.1)).Nodup := (((by decide : [0, 1, 2, 3, 4, 5, 6, 8, 10].Sublist [0, 1, 2, 3, 4, 5, 6, 7, 8, 9, 10, 11]).map f).append_right _).nodup h0
    exact (((by decide : [0, 1, 2, 3, 4, 5, 6, 8, 10].Perm [8, 1, 0, 2, 4, 3, 5, 10, 6]).map f).append_right _).nodup_iff.mp h1)
  refine ⟨g', _, L', H', rfl, fun o ho => G' b o ho fun hm => ?_⟩
  let f : Nat → Addr := fun i => [P, dI, I, dT, T, Rf, c₂, c₁, D, L, C, b].getD i 0
  have h0 : ([0, 1, 2, 3, 4, 5, 6, 7, 8, 9, 10, 11].map f ++ N.map (·.1)).Nodup := H.nd
  have h1 : ([11, 0, 1, 2, 3, 4, 5, 6, 7, 8, 9, 10].map f ++ N.map (·.1)).Nodup := (((by decide : [0, 1, 2, 3, 4, 5, 6, 7, 8, 9, 10, 11].Perm [11, 0, 1, 2, 3, 4, 5, 6, 7, 8, 9, 10]).map f).append_right _).nodup_iff.mp h0
  have h2 : b ∉ [0, 1, 2, 3, 4, 5, 6, 7, 8, 9, 10].map f ++ N.map (·.1) := (List.nodup_cons.mp h1).1
  have hm' : b ∈ [8, 1, 0, 2, 4, 3, 5, 10, 6].map f ++ N.map (·.1) := hm
  refine h2 ?_
  rcases List.mem_append.mp hm' with q | q
  · obtain ⟨i, hi, e⟩ := List.mem_map.mp q
    refine List.mem_append_left _ (List.mem_map.mpr ⟨i, ?_, e⟩)
    have : ∀ i ∈ [8, 1, 0, 2, 4, 3, 5, 10, 6], i ∈ [0, 1, 2, 3, 4, 5, 6, 7, 8, 9, 10] := by decide
    exact this i hi
  · exact List.mem_append_right _ q
noncomputable def Tb (g : Heap) (a : Addr) : Prop := ∃ ps, g.get? a = some (tabObj ps)
theorem Tb.mono {g g' : Heap} {a : Addr} (L : Le g g') (h : Tb g a) : Tb g' a := let ⟨ps, e⟩ := h; ⟨ps, L _ _ e⟩
theorem desk_ok {x : Str} (hx : x.cps.size ≤ 1000) {A : Around} (rm : Rm A (n + 4)) {g : Heap} {s : Shared} {Q : Value → Shared → Prop} {v : Value} {N : Led} (H : HS w os g ((269, tabE #[]) :: N) s) (r : Rd g v (.str x)) (hB : Bm g)
    (k : ∀ (d : Desk) g' s', Le g g' → HS w os g' (deskL d x.cps.toList 1 [] ++ N) s' → Tb g' 269 → Q (.ref d.I) s') : wpAny (model PRG w) A (call (.ref 274) [v]) Q NoE s := by
  refine enterC (n := n + 3) (fa := 274) (vars := [("text", .str x)]) (cv := fun _ => .none) (by walk_at "kis") (by walk_at "kis") (by rfl) (by rfl) (by decide +kernel) (bv_cons (by rfl) r bv_nil) ?_ rm H ?_
  · intro y hy o ho
    cases List.mem_singleton.mp (show y ∈ [Str.ofString "signs"] from hy)
    exact ho
  · intro L s' g' rm' L' H'
    change HS w os g' ((L, .frame [("text", .str x)]) :: (L + 1, .cell .none) :: (269, tabE #[]) :: N) s' at H'
    refine wpAny_execs_cons (wpAny_Assign_Name (callBk (by walk_at "nm") (by intro a; exact nofun) (PL.cons (by walk_at "nm") PL.nil (by rfl)) (by rfl) (by rfl) rm' H' fun vs g₁ s₁ L₁ H₁ r₁ => ?_) (by rfl))
    cases r₁ with | cons r₂ r₁ =>
    cases r₁
    refine listStrNew (by omega) rm' H₁ r₂ fun D g₂ s₂ L₂ H₂ => ?_
    refine SN.cel (i := 2) (c := L + 1) (p := .val (.ref D)) (by rfl) (by rfl) (by rfl) (by rfl) _ g₂ s₂ _ (.ref D) H₂ (.val _) fun g₃ s₃ L₃ H₃ => ?_
    change HS w os g₃ ((D, .list (x.cps.toList.map fun c => .str (ch1 c))) :: (L, .frame [("text", .str x)]) :: (L + 1, .cell (some (.val (.ref D)))) :: (269, tabE #[]) :: N) s₃ at H₃
    refine wpAny_execs_cons (wpAny_Assign_Name (lamNew (c := 273) (P := 269) (ps := #[]) (i := 3) (clos := []) (by rfl) (by rfl) (by rfl) (by rfl) rfl trivial (by rfl) H₃ (codeHd269 H₃.bs) (fun mg hm => H₃.bat (hB.mono (L'.tr (L₁.tr (L₂.tr L₃)))) (by decide) hm) fun T c₁ pm ctv g₄ s₄ L₄ H₄ => ?_) (by rfl))
    refine SN.loc (i := 3) (p := .val (.ref T)) (by rfl) (by rfl) (by rfl) _ g₄ s₄ _ (.ref T) H₄ (.val _) fun g₅ s₅ L₅ H₅ => ?_
    refine wpAny_execs_cons (plainObj_wpAny_Assign_Attribute (lamNew (c := 273) (P := 269) (i := 5) (clos := [("signs", L + 1)]) (by rfl) (by rfl) (by rfl) (by rfl) rfl (by exact trivial) (by rfl) H₅ (codeHd269 H₅.bs) (fun mg hm => H₅.bat (hB.mono (L'.tr (L₁.tr (L₂.tr (L₃.tr (L₄.tr L₅)))))) (by decide) hm) fun Rf c₂ pm₂ ctv₂ g₆ s₆ L₆ H₆ => ?_) (by rfl))
    refine (PE.name (n := n + 3) (p := .val (.ref T)) (Nm.loc (i := 5) (by rfl) (by rfl) (by rfl) (by rfl)) (by decide +kernel)) _ rm' g₆ s₆ _ H₆ fun ov g₇ s₇ L₇ H₇ r₇ => ?_
    cases r₇
    have H₈ := H₇.perm (List.perm_middle (l₁ := [_, _]))
    refine fn_setAttr (p := .val (.ref Rf)) H₈ (.val _) Fn.read fun dT g₉ s₉ L₉ H₉ => ?_
    refine wpAny_execs_cons (wpAny_Return_some (callFk (a := 115) (ps := [.val (.ref T)]) (by walk_at "nm") (by walk_at "kis") (PL.cons (PE.name (Nm.loc (i := 6) (by rfl) (by rfl) (by rfl) (by rfl)) (by decide +kernel)) PL.nil (by rfl)) (by rfl) (by rfl) rm' H₉ fun vs g₁₀ s₁₀ L₁₀ H₁₀ r₁₀ => ?_))
    cases r₁₀ with | cons r₁₁ r₁₀ =>
    cases r₁₀; cases r₁₁
    refine wpAny_call (makeC (fI := 91) (by walk_at "kis") (by walk_at "kis") (by walk_at "kis") (n := n + 2) rm' H₁₀ fun A' I dI g₁₂ s₁₂ rm₁₂ L₁₂ H₁₂ => ?_)
    refine lexinit_ok (n := n + 1) rm₁₂ H₁₂ fun P g₁₃ s₁₃ L₁₃ H₁₃ => ⟨rfl, ?_⟩
    obtain ⟨ot, hot, hoe⟩ := H₁₃.at_ (269, _) (List.mem_of_getElem? (i := 11) rfl)
    obtain ⟨g₁₄, d, L₁₄, H₁₄, hI, hTb⟩ := deskFin (q := "_law_desk" ++ ".<locals>." ++ "<lambda>") H₁₃ (fun _ o h => by
      refine ⟨_, fun n => match n with | 0 => ⟨232, 45, 232, 50⟩ | 1 => ⟨232, 29, 232, 34⟩ | 2 => ⟨232, 29, 232, 38⟩ | 3 => ⟨232, 39, 232, 40⟩ | 4 => ⟨232, 29, 232, 41⟩ | 5 => ⟨232, 56, 232, 58⟩ | _ => ⟨232, 29, 232, 58⟩, _, pm₂, ctv₂, h, ?_⟩
      exact ⟨by intro v; rfl, by rfl, by rfl, by rfl, by rfl, by rfl, by decide +kernel, by decide⟩)
    subst hI
    exact k d g₁₄ s₁₃ (L'.tr (L₁.tr (L₂.tr (L₃.tr (L₄.tr (L₅.tr (L₆.tr (L₇.tr (L₉.tr (L₁₀.tr (L₁₂.tr (L₁₃.tr L₁₄)))))))))))) H₁₄ ⟨_, (hTb ot hot).trans (congrArg some hoe)⟩
end
set_option maxHeartbeats 1000000
section
variable {w : World} {os : Ext} {n : Nat} {env : Env} {M M' : Led} {pos : Pos}
theorem compStartD {elt : Expr} {gens : List Comprehension} {scope : Scope} {d : Nat} {it acc : Value} {g : Comprehension} {A : Around} {R : Result → Shared → Prop} {s : Shared} (hg : gens[d]? = some g) (ha : g.is_async = 0)
    (h0 : codeAny (model PRG w) A (.compLoop (.ListComp elt gens scope pos) d it acc env) R s)
    (h : wpAny (model PRG w) A (pyIter it) (fun it' s' => codeAny (model PRG w) A (.compLoop (.ListComp elt gens scope pos) d it' acc env) R s')
      (notedBy (model PRG w) A env fun x s' => R (.error x) s') s) :
    codeAny (model PRG w) A (.compStart (.ListComp elt gens scope pos) d it acc env) R s := by
  refine codeAny_of_tree ?_
  show wpAny _ _ ((compStart (.ListComp elt gens scope pos) d it acc env).onRaise (fun x => do noteFrame x env; standAt theWindowsPlace)) _ _ s
  refine wpAny_notedAt ?_
  unfold compStart
  have hcl : (clausesOf (.ListComp elt gens scope pos))[d]? = some g := hg
  rw [hcl]
  simp only [Option.elim_some, ha, bne_self_eq_false, Bool.false_eq_true, if_false]
  refine wpAny_bind (wpAny_askSetting (wpAny_ite ?_))
  split
  · first
      | exact wpAny_bind (wpAny_pure (wpAny_pure (And.intro rfl h0)))
      | exact wpAny_pure (And.intro rfl h0)
  · first
      | exact wpAny_bind (wpAny_rule (wpAny_bind (wpAny_standAt (wpAny_bind (wpAny_mono h (fun it' s' h' => wpAny_pure (And.intro rfl h')) fun _ _ x => x)))))
      | exact wpAny_bind (wpAny_rule (wpAny_bind (wpAny_mono h (fun it' s' h' => wpAny_pure (And.intro rfl h')) fun _ _ x => x)))
theorem compLevel {elt iter : Expr} {gens : List Comprehension} {scope : Scope} {cenv : Env} {d : Nat} {it : Value} {I D : Addr} {ent : Nat → Ent} {g₀ : Heap} {x : Str} {px : Pos} {emit : Sem Unit} {F : List (Str × PV)} {α : Type} {ps : List α} {enc : α → PV} {f : α → List PV} (B : Nat)
    (hturn : ∀ it, compTurn (.ListComp elt gens scope pos) d it (.ref D) cenv = (standAt iter.pos >>= fun _ => pyNext it >>= fun r => match r with
      | none => pure (.done .next)
      | some v => letOwnedTupleGo (.Name x px) it v >>= fun _ => assign (.Name x px) cenv v >>= fun _ => emit >>= fun _ => again (.compLoop (.ListComp elt gens scope pos) d it (.ref D) cenv)))
    (hk : cenv.scope.kind = .function) (hx : cenv.kindOf x = some .local) (hF : ∀ y ∈ F, (y.1 == x) = false)
    (hI : ItOk w os g₀ (ps.map enc) it I ent)
    (hemit : ∀ p ∈ ps, ∀ (e : Ent) (l : List PV) (A : Around), Rm A n → ∀ (g : Heap) (s : Shared) (Q : Unit → Shared → Prop), HS w os g ((I, e) :: (D, .list l) :: (cenv.locals, .frame ((x, enc p) :: F)) :: M) s → l.length ≤ B →
      (∀ g' s' vars, Le g g' → HS w os g' ((I, e) :: (D, .list (l ++ f p)) :: (cenv.locals, .frame vars) :: M) s' → (∀ y ∈ F, vars.lookup y.1 = some y.2) → Q () s') → wpAny (model PRG w) A emit Q NoE s)
    {l₀ : List PV} (hsz : l₀.length + (ps.flatMap f).length ≤ B)
    {A : Around} (rm : Rm A n) {g : Heap} {s : Shared} {R : Result → Shared → Prop} (L₀ : Le g₀ g) {vars₀ : List (Str × PV)} (H : HS w os g ((I, ent 0) :: (D, .list l₀) :: (cenv.locals, .frame vars₀) :: M) s) (hv₀ : ∀ y ∈ F, vars₀.lookup y.1 = some y.2)
    (k : ∀ g' s' vars, Le g g' → HS w os g' ((D, .list (l₀ ++ ps.flatMap f)) :: (cenv.locals, .frame vars) :: M) s' → (∀ y ∈ F, vars.lookup y.1 = some y.2) → R (.ok .next) s') :
    codeAny (model PRG w) A (.compLoop (.ListComp elt gens scope pos) d it (.ref D) cenv) R s := by
  refine codeAny_loop rfl (fun m s₁ => ∃ g₁ i vars, m = ps.length - i ∧ i ≤ ps.length ∧ Le g g₁ ∧ HS w os g₁ ((I, ent i) :: (D, .list (l₀ ++ (ps.take i).flatMap f)) :: (cenv.locals, .frame vars) :: M) s₁ ∧ ∀ y ∈ F, vars.lookup y.1 = some y.2) (fun m s₁ hI₁ => ?_) ps.length
    ⟨g, 0, vars₀, by simp, by simp, Le.rfl, by simpa using H, hv₀⟩
  obtain ⟨g₁, i, vars, rfl, hi, L₁, H₁, hv⟩ := hI₁
  show wpAny _ A ((compTurn (.ListComp elt gens scope pos) d it (.ref D) cenv).onRaise (fun x => do noteFrame x cenv; theTreesLotGoes x)) _ _ s₁
  refine wpAny_noted ?_
  rw [hturn]
  refine wpAny_bind (wpAny_standAt (wpAny_bind ?_))
  by_cases hlt : i < ps.length
  · obtain ⟨p, hp⟩ : ∃ p, ps[i]? = some p := ⟨_, List.getElem?_eq_getElem hlt⟩
    have hmem : p ∈ ps := List.mem_of_getElem? hp
    refine Env.noE (hI.item A _ g₁ s₁ _ i (enc p) rm.hd (L₀.tr L₁) H₁ (by rw [List.getElem?_map, hp]; rfl) fun v g₂ s₂ L₂ H₂ r₂ => ?_)
    dsimp only
    refine wpAny_bind (Env.noE (hI.noTup A _ g₂ s₂ _ (i + 1) _ v (L₀.tr (L₁.tr L₂)) H₂ ?_))
    refine wpAny_bind (Env.noE (wpAny_assign_Name (SN.loc (i := 2) hk hx rfl A g₂ s₂ _ v H₂ r₂ fun g₃ s₃ L₃ H₃ => ?_)))
    have H₄ := H₃.weaken (i := 2) (a := cenv.locals) (vars' := (x, enc p) :: F) rfl (fun y hy => by
      rcases List.mem_cons.mp hy with rfl | hy
      · simp
      · rw [List.lookup_cons, hF y hy]
        exact hv y hy)
    have htk : ps.take (i + 1) = ps.take i ++ [p] := by rw [List.take_add_one, hp]; rfl
    have hle : ((ps.take i).flatMap f).length ≤ (ps.flatMap f).length := by
      have : ps.flatMap f = (ps.take i).flatMap f ++ (ps.drop i).flatMap f := by rw [← List.flatMap_append, List.take_append_drop]
      rw [this, List.length_append]; omega
    refine wpAny_bind (Env.noE (hemit p hmem _ _ A rm g₃ s₃ _ H₄ (by rw [List.length_append]; omega) fun g₅ s₅ vars₅ L₅ H₅ hv₅ => ?_))
    refine wpAny_pure ⟨rfl, ps.length - (i + 1), by omega, g₅, i + 1, vars₅, rfl, hlt, L₁.tr (L₂.tr (L₃.tr L₅)), ?_, hv₅⟩
    rw [htk, List.flatMap_append]
    simpa using H₅
  · have hi' : i = ps.length := by omega
    subst hi'
    refine Env.noE (hI.stop A _ g₁ s₁ _ rm.hd (L₀.tr L₁) (by rw [List.length_map]; exact H₁) fun g₂ s₂ L₂ H₂ => ?_)
    rw [List.take_length] at H₂
    exact wpAny_pure (k g₂ s₂ vars (L₁.tr L₂) H₂ hv)
end
set_option maxHeartbeats 1000000
section
variable {w : World} {os : Ext} {n : Nat} {env : Env} {M M' : Led} {pos : Pos}
noncomputable def rangeP (m : Nat) : List PV := (List.range m).map fun i => .int (i : Nat)
noncomputable def emitF (elt iter2 : Expr) (gens : List Comprehension) (scope : Scope) (pos : Pos) (d : Nat) (acc : Value) (cenv : Env) : Sem Unit :=
  eval iter2 cenv >>= fun x => standAt iter2.pos >>= fun _ => foldedSetIterable iter2 cenv x >>= fun x => holding [x] (pyIter x) >>= fun it => runOwn (.compStart (.ListComp elt gens scope pos) d it acc cenv) cenv >>= fun _ => pure ()
noncomputable def emitA (elt : Expr) (acc : Value) (cenv : Env) : Sem Unit := eval elt cenv >>= fun x => call (.builtin "list.append") [acc, x] >>= fun _ => pure ()
theorem turn3_0 (elt t1 t2 t3 e1 e2 e3 : Expr) (scope : Scope) (pos : Pos) (it acc : Value) (cenv : Env) :
    compTurn (.ListComp elt [⟨t1, e1, [], 0⟩, ⟨t2, e2, [], 0⟩, ⟨t3, e3, [], 0⟩] scope pos) 0 it acc cenv = (standAt e1.pos >>= fun _ => pyNext it >>= fun r => match r with
      | none => pure (.done .next)
      | some v => letOwnedTupleGo t1 it v >>= fun _ => assign t1 cenv v >>= fun _ => emitF elt e2 [⟨t1, e1, [], 0⟩, ⟨t2, e2, [], 0⟩, ⟨t3, e3, [], 0⟩] scope pos 1 acc cenv >>= fun _ => again (.compLoop (.ListComp elt [⟨t1, e1, [], 0⟩, ⟨t2, e2, [], 0⟩, ⟨t3, e3, [], 0⟩] scope pos) 0 it acc cenv)) := by
  unfold emitF; simp only [bind_assoc, pure_bind]; rfl
theorem turn3_1 (elt t1 t2 t3 e1 e2 e3 : Expr) (scope : Scope) (pos : Pos) (it acc : Value) (cenv : Env) :
    compTurn (.ListComp elt [⟨t1, e1, [], 0⟩, ⟨t2, e2, [], 0⟩, ⟨t3, e3, [], 0⟩] scope pos) 1 it acc cenv = (standAt e2.pos >>= fun _ => pyNext it >>= fun r => match r with
      | none => pure (.done .next)
      | some v => letOwnedTupleGo t2 it v >>= fun _ => assign t2 cenv v >>= fun _ => emitF elt e3 [⟨t1, e1, [], 0⟩, ⟨t2, e2, [], 0⟩, ⟨t3, e3, [], 0⟩] scope pos 2 acc cenv >>= fun _ => again (.compLoop (.ListComp elt [⟨t1, e1, [], 0⟩, ⟨t2, e2, [], 0⟩, ⟨t3, e3, [], 0⟩] scope pos) 1 it acc cenv)) := by
  unfold emitF; simp only [bind_assoc, pure_bind]; rfl
theorem turn3_2 (elt t1 t2 t3 e1 e2 e3 : Expr) (scope : Scope) (pos : Pos) (it acc : Value) (cenv : Env) :
    compTurn (.ListComp elt [⟨t1, e1, [], 0⟩, ⟨t2, e2, [], 0⟩, ⟨t3, e3, [], 0⟩] scope pos) 2 it acc cenv = (standAt e3.pos >>= fun _ => pyNext it >>= fun r => match r with
      | none => pure (.done .next)
      | some v => letOwnedTupleGo t3 it v >>= fun _ => assign t3 cenv v >>= fun _ => emitA elt acc cenv >>= fun _ => again (.compLoop (.ListComp elt [⟨t1, e1, [], 0⟩, ⟨t2, e2, [], 0⟩, ⟨t3, e3, [], 0⟩] scope pos) 2 it acc cenv)) := by rfl
theorem emitFor {elt iter2 : Expr} {gens : List Comprehension} {scope : Scope} {cenv : Env} {d : Nat} {acc : Value} {g2 : Comprehension} {p2 : PV} {qs : List PV} (hsrc : PE w os n cenv M iter2 p2) (hit : IterOf w os p2 qs) (hg : gens[d]? = some g2) (ha : g2.is_async = 0)
    (hfs : ∀ v, foldedSetIterable iter2 cenv v = pure v) {A : Around} (rm : Rm A n) {g : Heap} {s : Shared} {Q : Unit → Shared → Prop} (H : HS w os g M s)
    (k : ∀ it I ent g' s', Le g g' → HS w os g' ((I, ent 0) :: M) s' → ItOk w os g' qs it I ent → ∀ R : Result → Shared → Prop, (∀ f s'', Q () s'' → R (.ok f) s'') → codeAny (model PRG w) A (.compLoop (.ListComp elt gens scope pos) d it acc cenv) R s') :
    wpAny (model PRG w) A (emitF elt iter2 gens scope pos d acc cenv) Q NoE s := by
  unfold emitF
  refine wpAny_bind (hsrc A rm g s _ H fun x g₁ s₁ L₁ H₁ r₁ => wpAny_bind (wpAny_standAt (wpAny_bind (wpAny_of_eq (hfs x) (wpAny_bind (wpAny_holding (hit A M g₁ s₁ _ x rm.hd H₁ r₁ fun it I ent g₂ s₂ L₂ H₂ hI => ?_)))))))
  refine wpAny_bind (wpAny_runOwn ?_)
  have go : codeAny (model PRG w) A (.compLoop (.ListComp elt gens scope pos) d it acc cenv) (fun r s' => match r with | .ok f => wpAny (model PRG w) A (pure ()) Q NoE s' | .error e => cameBackBy (model PRG w) A cenv NoE e s') s₂ :=
    k it I ent g₂ s₂ (L₁.tr L₂) H₂ hI _ fun f s'' h => wpAny_pure h
  exact compStartD hg ha go (Env.noE (hI.again A M g₂ s₂ _ 0 rm.hd Le.rfl H₂ go))
theorem emitApp {elt : Expr} {cenv : Env} {D : Addr} {i : Nat} {l : List PV} {p : PV} (he : PE w os n cenv M elt p) (hi : M[i]? = some (D, .list l)) (hz : l.length ≤ 100000)
    {A : Around} (rm : Rm A n) {g : Heap} {s : Shared} {Q : Unit → Shared → Prop} (H : HS w os g M s)
    (k : ∀ g' s', Le g g' → HS w os g' (setE M i (.list (l ++ [p]))) s' → Q () s') :
    wpAny (model PRG w) A (emitA elt (.ref D) cenv) Q NoE s := by
  unfold emitA
  refine wpAny_bind (he A rm g s _ H fun v g₁ s₁ L₁ H₁ r₁ => wpAny_bind ?_)
  exact H₁.append hi r₁ (sizeLine_ge (by omega)) fun g₂ s₂ L₂ H₂ => wpAny_pure (k g₂ s₂ (L₁.tr L₂) H₂)
theorem flat_le {α β : Type} {B : Nat} {f : α → List β} : ∀ {l : List α}, (∀ x, (f x).length ≤ B) → (l.flatMap f).length ≤ l.length * B
  | [], _ => by simp
  | x :: l, h => by
    have h1 := flat_le (l := l) h
    have h2 := h x
    rw [List.flatMap_cons, List.length_append, List.length_cons, Nat.add_mul, Nat.one_mul]; omega
theorem flat_one {α β : Type} (f : α → β) (l : List α) : (l.flatMap fun x => [f x]) = l.map f := by
  induction l with
  | nil => rfl
  | cons x l ih => rw [List.flatMap_cons, ih]; rfl
end
set_option maxHeartbeats 1000000
mutual
noncomputable def toD : PV → PyData
  | .none | .rng _ | .val _ => .none
  | .bool b => .bool b
  | .int i => .int i
  | .str s => .str s
  | .list l => .list (toDs l)
  | .tup l => .tuple (toDs l)
noncomputable def toDs : List PV → List PyData
  | [] => []
  | p :: ps => toD p :: toDs ps
end
mutual
noncomputable def plainP : PV → Bool
  | .rng _ | .val _ => false
  | .none | .bool _ | .int _ | .str _ => true
  | .list l | .tup l => plainPs l
noncomputable def plainPs : List PV → Bool
  | [] => true
  | p :: ps => plainP p && plainPs ps
end
mutual
theorem Rd.reads {g : Heap} : ∀ {v : Value} {p : PV}, Rd g v p → plainP p = true → ∃ as, PySem.Reads g v (toD p) as
  | _, _, .none, _ => ⟨_, .none⟩
  | _, _, .bool b, _ => ⟨_, .bool b⟩
  | _, _, .int i t, _ => ⟨_, .int i t⟩
  | _, _, .str s t, _ => ⟨_, .str s t⟩
  | _, _, .list h r, hp => by
    obtain ⟨as, ha⟩ := RdL.reads r hp
    obtain ⟨n, ho⟩ := h
    exact ⟨_, .list ho rfl rfl (by simpa using ha)⟩
  | _, _, .tup h r, hp => by
    obtain ⟨as, ha⟩ := RdL.reads r hp
    obtain ⟨o, ho, hc, n, hd⟩ := h
    exact ⟨_, .tuple ho hc hd (by simpa using ha)⟩
  | _, _, .val v, hp => by simp [plainP] at hp
  | _, _, .rng h, hp => by simp [plainP] at hp
theorem RdL.reads {g : Heap} : ∀ {vs : List Value} {ps : List PV}, RdL g vs ps → plainPs ps = true → ∃ as, PySem.ReadsAll g vs (toDs ps) as
  | _, _, .nil, _ => ⟨_, .nil⟩
  | _, _, .cons h r, hp => by
    simp only [plainPs, Bool.and_eq_true] at hp
    obtain ⟨as, ha⟩ := Rd.reads h hp.1
    obtain ⟨bs, hb⟩ := RdL.reads r hp.2
    exact ⟨_, .cons ha hb⟩
end
section
variable {w : World} {os : Ext} {n : Nat} {env : Env} {M M' : Led} {pos : Pos}
theorem LV.reads {p : PV} {ps : List PV} (hp : LV w os M p ps) (h : plainPs ps = true) {g : Heap} {s : Shared} {v : Value} (H : HS w os g M s) (r : Rd g v p) : ∃ as, PySem.Reads s.heap v (.list (toDs ps)) as := by
  obtain ⟨a, vs, rfl, ⟨m, ho⟩, rv⟩ := hp g s v H r
  obtain ⟨as, ha⟩ := (rv.mono H.keep).reads h
  exact ⟨_, .list ho rfl rfl (by simpa using ha)⟩
noncomputable def lay (ps : List PV) : Bool := plainPs ps && PySem.SeqAt.shaped (.list (toDs ps))
theorem OP.eqL {p q : PV} {ps qs : List PV} {b : Bool} (hp : LV w os M p ps) (hq : LV w os M q qs) (h1 : lay ps = true) (h2 : lay qs = true) (hn : 7 ≤ n) (hb : PyData.eqvAll (toDs ps) (toDs qs) = b) : OP w os n M (co .Eq) [p, q] (.bool b) := fun A rm g s Q vs H r k => by
  cases r with | cons r₁ r => cases r with | cons r₂ r =>
  cases r
  unfold lay at h1 h2
  rw [Bool.and_eq_true] at h1 h2
  obtain ⟨as, ha⟩ := hp.reads h1.1 H r₁
  obtain ⟨bs, hb'⟩ := hq.reads h2.1 H r₂
  refine eq_dataH ha hb' h1.2 h2.2 (by have := rm.un; omega) ?_
  have e : PyData.eqv (.list (toDs ps)) (.list (toDs qs)) = b := by rw [← hb]; simp only [PyData.eqv]
  rw [e]
  exact k _ g _ Le.rfl H (.bool _)
theorem OP.neL {p q : PV} {ps qs : List PV} {b : Bool} (hp : LV w os M p ps) (hq : LV w os M q qs) (h1 : lay ps = true) (h2 : lay qs = true) (hn : 7 ≤ n) (hb : PyData.eqvAll (toDs ps) (toDs qs) = b) : OP w os n M (co .NotEq) [p, q] (.bool (!b)) := fun A rm g s Q vs H r k => by
  cases r with | cons r₁ r => cases r with | cons r₂ r =>
  cases r
  unfold lay at h1 h2
  rw [Bool.and_eq_true] at h1 h2
  obtain ⟨as, ha⟩ := hp.reads h1.1 H r₁
  obtain ⟨bs, hb'⟩ := hq.reads h2.1 H r₂
  refine ne_dataH ha hb' h1.2 h2.2 (by have := rm.un; omega) ?_
  have e : PyData.eqv (.list (toDs ps)) (.list (toDs qs)) = b := by rw [← hb]; simp only [PyData.eqv]
  rw [e]
  exact k _ g _ Le.rfl H (.bool _)
theorem eqv_nil (ps : List PV) : PyData.eqvAll (toDs ps) (toDs []) = ps.isEmpty := by
  cases ps <;> simp [toDs, PyData.eqvAll]
mutual
noncomputable def depP : PV → Nat
  | .list l | .tup l => depPs l + 1
  | _ => 0
noncomputable def depPs : List PV → Nat
  | [] => 0
  | p :: ps => Max.max (depP p) (depPs ps)
end
theorem lay_flat {ps : List PV} (h1 : plainPs ps = true) (h2 : PyData.canLayAll0 (toDs ps) = true) (h3 : PyData.depthAll (toDs ps) ≤ 60) : lay ps = true := by
  unfold lay PySem.SeqAt.shaped
  rw [h1, Bool.true_and]
  simp only [PyData.canLay0, PyData.depth, h2, Bool.true_and]
  exact decide_eq_true (by omega)
theorem lay_map {α : Type} {l : List α} {f : α → PV} (h1 : ∀ x ∈ l, plainP (f x) = true) (h2 : ∀ x ∈ l, PyData.canLay0 (toD (f x)) = true) (h3 : ∀ x ∈ l, PyData.depth (toD (f x)) ≤ 60) : lay (l.map f) = true := by
  refine lay_flat ?_ ?_ ?_
  · induction l with
    | nil => rfl
    | cons x l ih => simp only [List.map_cons, plainPs, h1 x (.head _), Bool.true_and]; exact ih (fun y hy => h1 y (.tail _ hy)) (fun y hy => h2 y (.tail _ hy)) fun y hy => h3 y (.tail _ hy)
  · induction l with
    | nil => rfl
    | cons x l ih => simp only [List.map_cons, toDs, PyData.canLayAll0, h2 x (.head _), Bool.true_and]; exact ih (fun y hy => h1 y (.tail _ hy)) (fun y hy => h2 y (.tail _ hy)) fun y hy => h3 y (.tail _ hy)
  · induction l with
    | nil => simp [toDs, PyData.depthAll]
    | cons x l ih =>
      simp only [List.map_cons, toDs, PyData.depthAll]
      exact Nat.max_le.mpr ⟨h3 x (.head _), ih (fun y hy => h1 y (.tail _ hy)) (fun y hy => h2 y (.tail _ hy)) fun y hy => h3 y (.tail _ hy)⟩
end
set_option maxHeartbeats 1000000
section
variable {w : World} {os : Ext} {n : Nat} {env : Env} {M M' : Led} {pos pos' : Pos}
noncomputable def CompOk (w : World) (os : Ext) (n : Nat) (env : Env) (M : Led) (e iter : Expr) (scope : Scope) (pos : Pos) (res : List PV) : Prop :=
  ∀ (A : Around), Rm A n → ∀ (g : Heap) (s : Shared) (Q : Value → Shared → Prop) (use : Option (Value → Sem Unit)), HS w os g M s →
    (∀ (D C : Addr) vars g' s', Le g g' → HS w os g' ((D, .list res) :: (C, .frame vars) :: M) s' → compPost (model PRG w) A NoE use Q (.ref D) C (.ok .next) s') →
    wpAny (model PRG w) A (comprehension e scope env pos (newList []) false (eval iter env) use) Q NoE s
theorem CompOk.pe {elt target iter : Expr} {ifs : List Expr} {gs : List Comprehension} {scope : Scope} {res : List PV} (h : CompOk w os n env M (.ListComp elt (⟨target, iter, ifs, 0⟩ :: gs) scope pos) iter scope iter.pos res) :
    PE w os n env M (.ListComp elt (⟨target, iter, ifs, 0⟩ :: gs) scope pos) (.list res) := fun A rm g s Q H k => by
  show wpAny _ _ (comprehension _ scope env _ (newList []) false (eval iter env)) _ _ _
  refine h A rm g s Q .none H fun D C vars g₆ s₆ L₆ H₆ => ?_
  obtain ⟨m, hm, -⟩ := H₆.ns (i := 1) rfl
  refine ⟨m, hm, fun h'' hs'' => ?_⟩
  have H₇ := H₆.perm (List.Perm.swap _ _ _)
  obtain ⟨g₈, L₈, H₈⟩ := H₇.dropHead (h' := h'') fun b o n e => (hs''.2 b n).trans e
  obtain ⟨g₉, L₉, H₉, G₉⟩ := H₈.drop (M' := M) (List.sublist_cons_self _ _)
  obtain ⟨o, ho, vs, z, rfl, hr⟩ := H₈.at_ _ (.head _)
  refine k _ g₉ _ (L₆.tr (L₈.tr L₉)) H₉ (.list ⟨z, G₉ _ _ ho ?_⟩ (hr.mono L₉))
  exact (List.nodup_cons.mp H₈.nd).1
theorem ST.assignU {elt target iter : Expr} {ifs : List Expr} {gs : List Comprehension} {scope : Scope} {res : List PV} {x : Str} {px sp : Pos} {i : Nat} {vars : List (Str × PV)} (h : CompOk w os n env M (.ListComp elt (⟨target, iter, ifs, 0⟩ :: gs) scope pos) iter scope iter.pos res)
    (hsw : swapsWith (.ListComp elt (⟨target, iter, ifs, 0⟩ :: gs) scope pos) (some (.Name x px)) sp.line env = pure true) (hk : env.scope.kind = .function) (hx : env.kindOf x = some .local) (hi : M[i]? = some (env.locals, .frame vars)) :
    ST w os n env M (.Assign [.Name x px] (.ListComp elt (⟨target, iter, ifs, 0⟩ :: gs) scope pos) sp) (setE M i (.frame ((x, .list res) :: vars))) := fun A rm g s Q H k => by
  rw [exec_Assign_Name_used _ _ _ _ hsw]
  refine wpAny_bind (wpAny_standAt (wpAny_bind ?_))
  show wpAny _ A (do let _ ← comprehension (.ListComp elt (⟨target, iter, ifs, 0⟩ :: gs) scope pos) scope env iter.pos (newList []) false (eval iter env) (some (PySem.assign (.Name x px) env))) _ _ s
  refine wpAny_bind (h A rm g s (fun _ s' => wpAny (model PRG w) A (pure ()) (fun _ s' => wpAny (model PRG w) A (pure Flow.next) Q NoE s') NoE s') (some (PySem.assign (.Name x px) env)) H fun D C vs g₆ s₆ L₆ H₆ => ?_)
  show wpAny _ _ (PySem.assign (.Name x px) env (.ref D)) _ _ _
  obtain ⟨o, ho, us, z, rfl, hr⟩ := H₆.at_ _ (.head _)
  obtain ⟨g₇, L₇, H₇, G₇⟩ := H₆.drop (M' := (C, .frame vs) :: M) (List.sublist_cons_self _ _)
  have rD : Rd g₇ (.ref D) (.list res) := .list ⟨z, G₇ _ _ ho (List.nodup_cons.mp H₆.nd).1⟩ (hr.mono L₇)
  refine wpAny_assign_Name (SN.loc (i := i + 1) hk hx (by simpa using hi) A g₇ s₆ _ (.ref D) H₇ rD fun g₈ s₈ L₈ H₈ => ?_)
  change HS w os g₈ ((C, .frame vs) :: setE M i (.frame ((x, .list res) :: vars))) s₈ at H₈
  obtain ⟨m, hm, -⟩ := H₈.ns (i := 0) rfl
  refine ⟨m, hm, fun h'' hs'' => ?_⟩
  obtain ⟨g₉, L₉, H₉⟩ := H₈.dropHead (h' := h'') fun b o n e => (hs''.2 b n).trans e
  exact wpAny_pure (wpAny_pure (k g₉ _ (L₆.tr (L₇.tr (L₈.tr L₉))) H₉))
theorem CompOk.lcomp {elt iter : Expr} {ifs : List Expr} {x : Str} {px : Pos} {scope : Scope} {cl : List (Str × Addr)} {src : PV} {α : Type} {ps : List α} {enc : α → PV} {t : α → Bool} {f : α → PV}
    (hsrc : PE w os n env M iter src) (hit : IterOf w os src (ps.map enc)) (hz : ps.length ≤ sizeLine)
    (hfs : ∀ v, foldedSetIterable iter env v = pure v) (hcl : closureFor scope env = pure cl) (hk : scope.kind = .function)
    (hnc : ∀ y ∈ scope.names, y.2 ≠ .cell) (hnl : ∀ y ∈ scope.names, y.2 = .local → scope.names.lookup y.1 = some .local) (hx : scope.names.lookup x = some .local)
    (hts : ∀ p ∈ ps, ∀ (I : Addr) (e : Ent) (D : Addr) (l : List PV) (C : Addr), PTs w os n (compEnvC scope cl C env) ((I, e) :: (D, .list l) :: (C, .frame [(x, enc p)]) :: M) ifs (t p))
    (hel : ∀ p ∈ ps, t p = true → ∀ (I : Addr) (e : Ent) (D : Addr) (l : List PV) (C : Addr), PE w os n (compEnvC scope cl C env) ((I, e) :: (D, .list l) :: (C, .frame [(x, enc p)]) :: M) elt (f p)) :
    CompOk w os n env M (.ListComp elt [⟨.Name x px, iter, ifs, 0⟩] scope pos) iter scope pos' ((ps.filter t).map f) := by
  intro A rm g s Q use H k
  refine wpAny_comprehension_free (g := ⟨.Name x px, iter, ifs, 0⟩) (gs := []) rfl hfs hcl hk hnl ?_
  refine hsrc A rm g s _ H fun xv g₁ s₁ L₁ H₁ r₁ => ?_
  refine hit A M g₁ s₁ _ xv rm.hd H₁ r₁ fun it I ent g₂ s₂ L₂ H₂ hI => ?_
  refine wpAny_newList ?_ (by simp)
  obtain ⟨g₃, L₃, H₃⟩ := pushEnt (e := .list []) (tk := s₂.toks) H₂ { cls := .type "list", data := .seq [].toArray } rfl fun _ _ => ⟨[], 0, rfl, .nil⟩
  refine newEnv0 hk hnc fun h' hn hs => ?_
  obtain ⟨g₄, L₄, H₄, -⟩ := H₃.new (a := (s₂.heap.push { cls := .type "list", data := .seq [].toArray }).objs.size) (e := .frame [])
    (s' := { heap := h', gens := s₂.gens, drawn := s₂.drawn, toks := s₂.toks, os := s₂.os }) (get_none_of_size (Nat.le_refl _))
    (fun b o e => (hs.2 b (Nat.ne_of_lt (Heap.lt_size e))).trans (Heap.get?_push_of_some _ e))
    (fun g' L _ => nsFrame hn fun _ _ e => nomatch e) rfl rfl
  have H₅ := H₄.perm (M' := (I, ent 0) :: (s₂.heap.objs.size, .list []) :: (((s₂.heap.push { cls := .type "list", data := .seq [].toArray }).objs.size, Ent.frame []) :: M)) (by
    refine List.Perm.trans (List.Perm.swap _ _ _) ?_
    refine List.Perm.trans (List.Perm.cons _ (List.Perm.swap _ _ _)) ?_
    exact List.Perm.swap _ _ _)
  have hx' : (compEnvC scope cl (s₂.heap.push { cls := .type "list", data := .seq [].toArray }).objs.size env).kindOf x = some .local := lookup_relabel_local hx
  have hI' : ItOk w os g₄ (ps.map enc) it I ent := ⟨fun A M g s Q i h1 h2 => hI.again A M g s Q i h1 (L₃.tr (L₄.tr h2)), fun A M g s Q i p h1 h2 => hI.item A M g s Q i p h1 (L₃.tr (L₄.tr h2)),
    fun A M g s Q h1 h2 => hI.stop A M g s Q h1 (L₃.tr (L₄.tr h2)), fun A M g s Q i tgt v h2 => hI.noTup A M g s Q i tgt v (L₃.tr (L₄.tr h2))⟩
  refine compStart_core (M := M) (Tgt.loc (w := w) (os := os) (cenv := compEnvC scope cl (s₂.heap.push { cls := .type "list", data := .seq [].toArray }).objs.size env) hk hx') hI' hz
    (fun p hp e l => hts p hp I e _ l _) (fun p hp htp e l => hel p hp htp I e _ l _) (fun v => rfl) rm Le.rfl H₅ fun g₆ s₆ o L₆ H₆ => ?_
  cases o with
  | none => exact k _ _ _ g₆ s₆ (L₁.tr (L₂.tr (L₃.tr (L₄.tr L₆)))) H₆
  | some p => exact k _ _ _ g₆ s₆ (L₁.tr (L₂.tr (L₃.tr (L₄.tr L₆)))) H₆
theorem CompOk.comp3 {elt e1 e2 e3 : Expr} {x1 x2 x3 : Str} {q1 q2 q3 : Pos} {scope : Scope} {cl : List (Str × Addr)} {n1 : Nat} {n2 : Nat → Nat} {n3 : Nat → Nat → Nat} {v : Nat → Nat → Nat → PV}
    (hb1 : n1 ≤ 30) (hb2 : ∀ a, n2 a ≤ 30) (hb3 : ∀ a b, n3 a b ≤ 30)
    (hs1 : PE w os n env M e1 (.rng n1)) (hfs1 : ∀ v, foldedSetIterable e1 env v = pure v) (hcl : closureFor scope env = pure cl) (hk : scope.kind = .function)
    (hnc : ∀ y ∈ scope.names, y.2 ≠ .cell) (hnl : ∀ y ∈ scope.names, y.2 = .local → scope.names.lookup y.1 = some .local)
    (hx1 : scope.names.lookup x1 = some .local) (hx2 : scope.names.lookup x2 = some .local) (hx3 : scope.names.lookup x3 = some .local) (h21 : (x1 == x2) = false) (h31 : (x1 == x3) = false) (h32 : (x2 == x3) = false)
    (hfs2 : ∀ C v, foldedSetIterable e2 (compEnvC scope cl C env) v = pure v) (hfs3 : ∀ C v, foldedSetIterable e3 (compEnvC scope cl C env) v = pure v)
    (hs2 : ∀ a, a < n1 → ∀ (p q : Addr × Ent) (C : Addr), PE w os n (compEnvC scope cl C env) (p :: q :: (C, .frame [(x1, .int (a : Nat))]) :: M) e2 (.rng (n2 a)))
    (hs3 : ∀ a b, a < n1 → b < n2 a → ∀ (p q r : Addr × Ent) (C : Addr), PE w os n (compEnvC scope cl C env) (p :: q :: (C, .frame [(x2, .int (b : Nat)), (x1, .int (a : Nat))]) :: r :: M) e3 (.rng (n3 a b)))
    (hel : ∀ a b c, a < n1 → b < n2 a → c < n3 a b → ∀ (p q r t : Addr × Ent) (C : Addr), PE w os n (compEnvC scope cl C env) (p :: q :: (C, .frame [(x3, .int (c : Nat)), (x2, .int (b : Nat)), (x1, .int (a : Nat))]) :: r :: t :: M) elt (v a b c)) :
    CompOk w os n env M (.ListComp elt [⟨.Name x1 q1, e1, [], 0⟩, ⟨.Name x2 q2, e2, [], 0⟩, ⟨.Name x3 q3, e3, [], 0⟩] scope pos) e1 scope pos' ((List.range n1).flatMap fun a => (List.range (n2 a)).flatMap fun b => (List.range (n3 a b)).map (v a b)) := by
  intro A rm g s Q use H k
  refine wpAny_comprehension_free (g := ⟨.Name x1 q1, e1, [], 0⟩) (gs := [⟨.Name x2 q2, e2, [], 0⟩, ⟨.Name x3 q3, e3, [], 0⟩]) rfl hfs1 hcl hk hnl ?_
  refine hs1 A rm g s _ H fun xv g₁ s₁ L₁ H₁ r₁ => ?_
  refine IterOf.rng (m := n1) (by omega) (by omega) A M g₁ s₁ _ xv rm.hd H₁ r₁ fun it I ent g₂ s₂ L₂ H₂ hI => ?_
  refine wpAny_newList ?_ (by simp)
  obtain ⟨g₃, L₃, H₃⟩ := pushEnt (e := .list []) (tk := s₂.toks) H₂ { cls := .type "list", data := .seq [].toArray } rfl fun _ _ => ⟨[], 0, rfl, .nil⟩
  refine newEnv0 hk hnc fun h' hn hs => ?_
  obtain ⟨g₄, L₄, H₄, -⟩ := H₃.new (a := (s₂.heap.push { cls := .type "list", data := .seq [].toArray }).objs.size) (e := .frame [])
    (s' := { heap := h', gens := s₂.gens, drawn := s₂.drawn, toks := s₂.toks, os := s₂.os }) (get_none_of_size (Nat.le_refl _))
    (fun b o e => (hs.2 b (Nat.ne_of_lt (Heap.lt_size e))).trans (Heap.get?_push_of_some _ e))
    (fun g' L _ => nsFrame hn fun _ _ e => nomatch e) rfl rfl
  have H₅ := H₄.perm (M' := (I, ent 0) :: (s₂.heap.objs.size, .list []) :: (((s₂.heap.push { cls := .type "list", data := .seq [].toArray }).objs.size, Ent.frame []) :: M)) (by
    refine List.Perm.trans (List.Perm.swap _ _ _) ?_
    refine List.Perm.trans (List.Perm.cons _ (List.Perm.swap _ _ _)) ?_
    exact List.Perm.swap _ _ _)
  generalize hC : (s₂.heap.push { cls := .type "list", data := .seq [].toArray }).objs.size = C at *
  generalize hD : s₂.heap.objs.size = D at *
  have hx1' : (compEnvC scope cl C env).kindOf x1 = some .local := lookup_relabel_local hx1
  have hx2' : (compEnvC scope cl C env).kindOf x2 = some .local := lookup_relabel_local hx2
  have hx3' : (compEnvC scope cl C env).kindOf x3 = some .local := lookup_relabel_local hx3
  have hI' : ItOk w os g₄ ((List.range n1).map fun i => PV.int (i : Nat)) it I ent := ⟨fun A M g s Q i h1 h2 => hI.again A M g s Q i h1 (L₃.tr (L₄.tr h2)), fun A M g s Q i p h1 h2 => hI.item A M g s Q i p h1 (L₃.tr (L₄.tr h2)),
    fun A M g s Q h1 h2 => hI.stop A M g s Q h1 (L₃.tr (L₄.tr h2)), fun A M g s Q i tgt v h2 => hI.noTup A M g s Q i tgt v (L₃.tr (L₄.tr h2))⟩
  have hl3 : ∀ a b, ((List.range (n3 a b)).flatMap fun c => [v a b c]).length ≤ 30 := fun a b => by rw [flat_one, List.length_map, List.length_range]; exact hb3 a b
  have hl2 : ∀ a, ((List.range (n2 a)).flatMap fun b => (List.range (n3 a b)).flatMap fun c => [v a b c]).length ≤ 900 := fun a => by
    have h1 := flat_le (l := List.range (n2 a)) (hl3 a)
    have h2 := hb2 a
    rw [List.length_range] at h1
    omega
  have hl1 : ((List.range n1).flatMap fun a => (List.range (n2 a)).flatMap fun b => (List.range (n3 a b)).flatMap fun c => [v a b c]).length ≤ 27000 := by
    have h1 := flat_le (l := List.range n1) hl2
    rw [List.length_range] at h1
    omega
  have go : ∀ R : Result → Shared → Prop, (∀ g' s' vars, Le g₄ g' → HS w os g' ((D, .list ((List.range n1).flatMap fun a => (List.range (n2 a)).flatMap fun b => (List.range (n3 a b)).flatMap fun c => [v a b c])) :: (C, .frame vars) :: M) s' → R (.ok .next) s') →
      codeAny (model PRG w) A (.compLoop (.ListComp elt [⟨.Name x1 q1, e1, [], 0⟩, ⟨.Name x2 q2, e2, [], 0⟩, ⟨.Name x3 q3, e3, [], 0⟩] scope pos) 0 it (.ref D) (compEnvC scope cl C env)) R { heap := h', gens := s₂.gens, drawn := s₂.drawn, toks := s₂.toks, os := s₂.os } := by
    intro R hR
    refine compLevel (iter := e1) (B := 27000) (F := []) (ps := List.range n1) (enc := fun i : Nat => PV.int i) (f := fun a => (List.range (n2 a)).flatMap fun b => (List.range (n3 a b)).flatMap fun c => [v a b c]) (l₀ := []) (M := M)
      (fun it => turn3_0 _ _ _ _ _ _ _ _ _ it _ _) hk hx1' (fun _ h => nomatch h) hI' ?_ (by rw [List.length_nil]; omega) rm Le.rfl H₅ (fun _ h => nomatch h) fun g' s' vars L H _ => hR g' s' vars L (by rw [List.nil_append] at H; exact H)
    intro a ha e l A rm g s Q H hl kk
    have ha' := List.mem_range.mp ha
    refine emitFor (hs2 a ha' _ _ C) (IterOf.rng (m := n2 a) (by have := hb2 a; omega) (by omega)) rfl rfl (hfs2 C) rm H fun it2 I2 ent2 g₆ s₆ L₆ H₆ hI2 R2 hR2 => ?_
    have H₆' := H₆.perm (M' := (I2, ent2 0) :: (D, .list l) :: (C, .frame [(x1, .int (a : Nat))]) :: (I, e) :: M) (List.Perm.cons _ (List.Perm.trans (List.Perm.swap _ _ _) (List.Perm.cons _ (List.Perm.swap _ _ _))))
    refine compLevel (iter := e2) (B := 27900) (F := [(x1, .int (a : Nat))]) (ps := List.range (n2 a)) (enc := fun i : Nat => PV.int i) (f := fun b => (List.range (n3 a b)).flatMap fun c => [v a b c]) (l₀ := l) (M := (I, e) :: M)
      (fun it => turn3_1 _ _ _ _ _ _ _ _ _ it _ _) hk hx2' (fun y hy => by cases List.mem_singleton.mp hy; exact h21) hI2 ?_ (by have := hl2 a; omega) rm Le.rfl H₆' (fun y hy => by cases List.mem_singleton.mp hy; simp) fun g' s' vars L H hv => hR2 _ _ (kk g' s' vars (L₆.tr L) (H.perm (List.Perm.trans (List.Perm.cons _ (List.Perm.swap _ _ _)) (List.Perm.swap _ _ _))) (fun _ h => nomatch h))
    intro b hb e' l' A rm g s Q H hl' kk'
    have hb' := List.mem_range.mp hb
    refine emitFor (hs3 a b ha' hb' _ _ _ C) (IterOf.rng (m := n3 a b) (by have := hb3 a b; omega) (by omega)) rfl rfl (hfs3 C) rm H fun it3 I3 ent3 g₇ s₇ L₇ H₇ hI3 R3 hR3 => ?_
    have H₇' := H₇.perm (M' := (I3, ent3 0) :: (D, .list l') :: (C, .frame [(x2, .int (b : Nat)), (x1, .int (a : Nat))]) :: (I2, e') :: (I, e) :: M) (List.Perm.cons _ (List.Perm.trans (List.Perm.swap _ _ _) (List.Perm.cons _ (List.Perm.swap _ _ _))))
    refine compLevel (iter := e3) (B := 28000) (F := [(x2, .int (b : Nat)), (x1, .int (a : Nat))]) (ps := List.range (n3 a b)) (enc := fun i : Nat => PV.int i) (f := fun c => [v a b c]) (l₀ := l') (M := (I2, e') :: (I, e) :: M)
      (fun it => turn3_2 _ _ _ _ _ _ _ _ _ it _ _) hk hx3' (fun y hy => by
        simp only [List.mem_cons, List.not_mem_nil, or_false] at hy
        rcases hy with rfl | rfl
        · exact h32
        · exact h31) hI3 ?_ (by have := hl3 a b; omega) rm Le.rfl H₇' (fun y hy => by
        simp only [List.mem_cons, List.not_mem_nil, or_false] at hy
        rcases hy with rfl | rfl
        · simp
        · rw [List.lookup_cons, h21]; simp) fun g' s' vars L H hv => hR3 _ _ (kk' g' s' vars (L₇.tr L) (H.perm (List.Perm.trans (List.Perm.cons _ (List.Perm.swap _ _ _)) (List.Perm.swap _ _ _))) (fun y hy => by cases List.mem_singleton.mp hy; exact hv _ (.tail _ (.head _))))
    intro c hc e'' l'' A rm g s Q H hl'' kk''
    have hc' := List.mem_range.mp hc
    exact emitApp (i := 1) (hel a b c ha' hb' hc' _ _ _ _ C) rfl (by omega) rm H fun g' s' L H => kk'' g' s' _ L H (fun y hy => by
        simp only [List.mem_cons, List.not_mem_nil, or_false] at hy
        rcases hy with rfl | rfl
        · rw [List.lookup_cons, h32]; simp
        · rw [List.lookup_cons, h31, List.lookup_cons, h21]; simp)
  have fin : ∀ R : Result → Shared → Prop, True := fun _ => trivial
  have fl : ((List.range n1).flatMap fun a => (List.range (n2 a)).flatMap fun b => (List.range (n3 a b)).flatMap fun c => [v a b c]) = ((List.range n1).flatMap fun a => (List.range (n2 a)).flatMap fun b => (List.range (n3 a b)).map (v a b)) := by simp only [flat_one]
  have key : ∀ g₆ s₆ vars, Le g₄ g₆ → HS w os g₆ ((D, .list ((List.range n1).flatMap fun a => (List.range (n2 a)).flatMap fun b => (List.range (n3 a b)).flatMap fun c => [v a b c])) :: (C, .frame vars) :: M) s₆ → compPost (model PRG w) A NoE use Q (.ref D) C (.ok .next) s₆ := by
    intro g₆ s₆ vars L₆ H₆
    rw [fl] at H₆
    exact k _ _ _ g₆ s₆ (L₁.tr (L₂.tr (L₃.tr (L₄.tr L₆)))) H₆
  have go' := go _ key
  exact compStartD rfl rfl go' (Env.noE (hI'.again A _ g₄ _ _ 0 rm.hd Le.rfl H₅ go'))
end
set_option maxHeartbeats 1000000
section
variable {w : World} {os : Ext} {n : Nat} {M M' : Led} {env : Env} {pos : Pos}
noncomputable abbrev Way := Nat × Nat × Nat
noncomputable def waysL (m : Nat) : List Way := (List.range (m + 1)).flatMap fun a => (List.range (m + 1 - a)).flatMap fun b => (List.range (m + 1 - a - b)).map fun c => (a, b, c)
noncomputable def encW (m : Nat) (y : Way) : PV := .tup [.int (y.1 : Nat), .int (y.2.1 : Nat), .int (y.2.2 : Nat), .int ((m : Int) - y.1 - y.2.1 - y.2.2)]
noncomputable def takeW (p0 p1 p2 p3 : Int) (m : Nat) (y : Way) : List Int := [p0 - y.1, p1 - y.2.1, p2 - y.2.2, p3 - ((m : Int) - y.1 - y.2.1 - y.2.2)]
noncomputable def ruinedB (p0 p1 p2 p3 : Int) (m : Nat) : Bool := (waysL m).any fun y => hopelessI (takeW p0 p1 p2 p3 m y)
theorem ways_map (m : Nat) : ((List.range (m + 1)).flatMap fun a => (List.range (m + 1 - a)).flatMap fun b => (List.range (m + 1 - a - b)).map fun c => encW m (a, b, c)) = (waysL m).map (encW m) := by
  unfold waysL
  simp only [List.map_flatMap, List.map_map]
  rfl
theorem way_le {m : Nat} {y : Way} (h : y ∈ waysL m) : y.1 ≤ m ∧ y.2.1 ≤ m ∧ y.2.2 ≤ m := by
  unfold waysL at h
  simp only [List.mem_flatMap, List.mem_map, List.mem_range] at h
  obtain ⟨a, ha, b, hb, c, hc, rfl⟩ := h
  dsimp only
  omega +splitNatSub
theorem OP.le {t : List Value → Sem Value} {ps : List PV} {r : PV} {a b : Nat} (h : OP w os a M t ps r) (hab : a ≤ b) : OP w os b M t ps r := fun A rm g s Q vs H rr k => h A (rm.le hab) g s Q vs H rr k
theorem ruined_ok {p0 p1 p2 p3 : Int} {m : Nat} (hm : m ≤ 20) (hp : ∀ x ∈ [p0, p1, p2, p3], -1000 ≤ x ∧ x ≤ 1000) : OP w os (n + 10) M (cf (.ref 291)) [.list ([p0, p1, p2, p3].map .int), .int (m : Nat)] (.bool (ruinedB p0 p1 p2 p3 m)) := by
  intro A rm g s Q vs H r k
  cases r with | cons r₁ r => cases r with | cons r₂ r =>
  cases r
  refine enterC (n := n + 9) (fa := 291) (vars := []) (cv := fun x => if x = "purses" then some (.list ([p0, p1, p2, p3].map .int)) else some (.int (m : Nat))) (by walk_at "kis") (by walk_at "kis") (by rfl) (by rfl) (by decide +kernel) (fun x p e => nomatch e) ?_ rm H ?_
  · intro x hx o ho
    rcases List.mem_cons.mp (show x ∈ [Str.ofString "many", Str.ofString "purses"] from hx) with rfl | hx
    · rw [if_neg (by decide)]
      exact ⟨_, ho, r₂⟩
    · cases List.mem_singleton.mp hx
      rw [if_pos rfl]
      exact ⟨_, ho, r₁⟩
  · intro L s' g' rm' L' H'
    change HS w os g' ((L, .frame []) :: (L + 2, .cell (some (.int (m : Nat)))) :: (L + 1, .cell (some (.list ([p0, p1, p2, p3].map .int)))) :: M) s' at H'
    refine X.next (ST.assignU (i := 0) (res := (waysL m).map (encW m)) ?_ (by rfl) (by rfl) (by rfl) rfl) rm' H' fun g₁ s₁ L₁ H₁ => ?_
    · rw [← ways_map]
      refine CompOk.comp3 (cl := [("many", L + 2)]) (n1 := m + 1) (n2 := fun a => m + 1 - a) (n3 := fun a b => m + 1 - a - b) (v := fun a b c => encW m (a, b, c)) (by omega +splitNatSub) (fun a => by omega +splitNatSub) (fun a b => by omega +splitNatSub) ?_ (by intro v; rfl) (by rfl) (by rfl) (by decide +kernel) (by decide +kernel) (by rfl) (by rfl) (by rfl) (by rfl) (by rfl) (by rfl) (by intro C v; rfl) (by intro C v; rfl) ?_ ?_ ?_
      · exact PE.callB (by walk_at "nm") (by intro a; exact nofun) (PL.cons (PE.bin (by walk_at "nm") PE.cint OP.add_int) PL.nil (by rfl)) OP.range1 (by rfl) (by rfl)
      · intro a ha p q C
        refine PE.as (PE.callB (by walk_at "nm") (by intro a; exact nofun) (PL.cons (PE.bin (PE.bin (by walk_at "nm") PE.cint OP.add_int) (by walk_at "nm") OP.sub_int) PL.nil (by rfl)) OP.range1 (by rfl) (by rfl)) ?_
        congr 1; omega +splitNatSub
      · intro a b ha hb p q r C
        refine PE.as (PE.callB (by walk_at "nm") (by intro a; exact nofun) (PL.cons (PE.bin (PE.bin (PE.bin (by walk_at "nm") PE.cint OP.add_int) (by walk_at "nm") OP.sub_int) (by walk_at "nm") OP.sub_int) PL.nil (by rfl)) OP.range1 (by rfl) (by rfl)) ?_
        congr 1; omega +splitNatSub
      · intro a b c ha hb hc p q r t C
        exact PE.tup (PL.cons (by walk_at "nm") (PL.cons (by walk_at "nm") (PL.cons (by walk_at "nm") (PL.cons (PE.bin (PE.bin (PE.bin (by walk_at "nm") (by walk_at "nm") OP.sub_int) (by walk_at "nm") OP.sub_int) (by walk_at "nm") OP.sub_int) PL.nil (by rfl)) (by rfl)) (by rfl)) (by rfl)) (by show (4 : Nat) ≤ 1000; decide)
    · change HS w os g₁ ((L, .frame [("ways", .list ((waysL m).map (encW m)))]) :: (L + 2, .cell (some (.int (m : Nat)))) :: (L + 1, .cell (some (.list ([p0, p1, p2, p3].map .int)))) :: M) s₁ at H₁
      have hres : (((waysL m).filter fun y => hopelessI (takeW p0 p1 p2 p3 m y)).map (encW m)).isEmpty = !ruinedB p0 p1 p2 p3 m := by
        unfold ruinedB
        rw [List.isEmpty_map]
        generalize waysL m = l
        induction l with
        | nil => rfl
        | cons y l ih =>
          rw [List.filter_cons, List.any_cons]
          cases hopelessI (takeW p0 p1 p2 p3 m y) with
          | true => simp
          | false => simpa using ih
      refine X.ret (p := .bool (ruinedB p0 p1 p2 p3 m)) ?_ rm' H₁ fun v g₂ s₂ L₂ H₂ r₂ => ?_
      · refine PE.as (PE.cmp (p := .list (((waysL m).filter fun y => hopelessI (takeW p0 p1 p2 p3 m y)).map (encW m))) (z := .bool (!!ruinedB p0 p1 p2 p3 m)) ?_ (PE.lst (ps := []) PL.nil (by show (0 : Nat) ≤ 1000; decide)) (OP.neL LV.imm LV.imm (lay_map (fun y _ => rfl) (fun y _ => rfl) (fun y _ => by show (1 : Nat) ≤ 60; decide)) (by rfl) (by omega +splitNatSub) ((eqv_nil _).trans hres)) (by rfl)) (by rw [Bool.not_not])
        refine PE.lcompC (ps := waysL m) (enc := encW m) (t := fun y => hopelessI (takeW p0 p1 p2 p3 m y)) (f := encW m) (cl := [("purses", L + 1)]) (by walk_at "nm") IterOf.list ?_ (by intro v; rfl) (by rfl) (by rfl) (by intro k; rfl) (by intro h; rfl) (by decide +kernel) (by rfl) ?_ ?_
        · have h1 : ∀ a b, ((List.range (m + 1 - a - b)).map fun c => ((a, b, c) : Way)).length ≤ 21 := fun a b => by rw [List.length_map, List.length_range]; omega +splitNatSub
          have h2 : ∀ a, ((List.range (m + 1 - a)).flatMap fun b => (List.range (m + 1 - a - b)).map fun c => ((a, b, c) : Way)).length ≤ 441 := fun a => by
            have := flat_le (l := List.range (m + 1 - a)) (h1 a)
            rw [List.length_range] at this; omega +splitNatSub
          have h3 := flat_le (l := List.range (m + 1)) h2
          rw [List.length_range] at h3
          have : (waysL m).length ≤ 9261 := Nat.le_trans h3 (by omega +splitNatSub)
          exact sizeLine_ge (by omega +splitNatSub)
        · intro y hy I e D l C c
          have hy' := way_le hy
          refine PTs.one (PT.bval (PE.callF (a := 286) (ps := [.list ((takeW p0 p1 p2 p3 m y).map .int)]) (by walk_at "nm") (by walk_at "kis") (PL.cons ?_ PL.nil (by rfl)) (OP.le (hopeless_ok ⟨fun x hx => ?_, by show (4 : Nat) ≤ 1000; decide⟩) (by omega +splitNatSub)) (by rfl) (by rfl)) (by intro _; rfl))
          · refine PE.as (PE.lmap (cl := [("way", c), ("purses", L + 1)]) (enc := fun i : Nat => PV.int i) (ps := List.range 4) (f := fun k => .int ((takeW p0 p1 p2 p3 m y).getD k 0)) (PE.callB (by walk_at "nm") (by intro a; exact nofun) (PL.cons PE.cint PL.nil (by rfl)) OP.range1 (by rfl) (by rfl)) (IterOf.rng (m := 4) (by decide) (by decide)) (sizeLine_ge (by simp)) (by intro v; rfl) (by rfl) (by rfl) (by decide +kernel) (by decide +kernel) (by rfl) ?_) (by rfl)
            intro k hk I' e' D' l' C'
            have hk' := List.mem_range.mp hk
            have hcases : k = 0 ∨ k = 1 ∨ k = 2 ∨ k = 3 := by omega +splitNatSub
            have hq : ∃ q r : Int, [p0, p1, p2, p3][k]? = some q ∧ [(y.1 : Int), y.2.1, y.2.2, (m : Int) - y.1 - y.2.1 - y.2.2][k]? = some r ∧ (takeW p0 p1 p2 p3 m y).getD k 0 = q - r := by
              rcases hcases with rfl | rfl | rfl | rfl
              · exact ⟨_, _, rfl, rfl, rfl⟩
              · exact ⟨_, _, rfl, rfl, rfl⟩
              · exact ⟨_, _, rfl, rfl, rfl⟩
              · exact ⟨_, _, rfl, rfl, rfl⟩
            obtain ⟨q, r, hq, hr, e⟩ := hq
            rw [e]
            have hr' : [PV.int (y.1 : Nat), .int (y.2.1 : Nat), .int (y.2.2 : Nat), .int ((m : Int) - y.1 - y.2.1 - y.2.2)][k]? = some (.int r) := by
              have : ([(y.1 : Int), y.2.1, y.2.2, (m : Int) - y.1 - y.2.1 - y.2.2].map PV.int)[k]? = some (.int r) := by rw [List.getElem?_map, hr]; rfl
              exact this
            exact PE.bin (PE.itemL (by walk_at "nm") LV.imm (by walk_at "nm") (j := k) (r := .int q) (by rw [List.getElem?_map, hq]; rfl) (by simp) (by intro o k; rfl)) (PE.itemT (ps := [.int (y.1 : Nat), .int (y.2.1 : Nat), .int (y.2.2 : Nat), .int ((m : Int) - y.1 - y.2.1 - y.2.2)]) (by walk_at "nm") (by walk_at "nm") (j := k) (r := .int r) hr' (by show (4 : Nat) ≤ 100000; decide) (by intro o k; rfl)) OP.sub_int
          · unfold takeW at hx
            have h0 := hp p0 (by simp)
            have h1 := hp p1 (by simp)
            have h2 := hp p2 (by simp)
            have h3 := hp p3 (by simp)
            simp only [List.mem_cons, List.not_mem_nil, or_false] at hx
            rcases hx with rfl | rfl | rfl | rfl <;> omega +splitNatSub
        · intro y hy _ I e D l C c
          exact by walk_at "nm"
      · obtain ⟨g₃, L₃, H₃, -⟩ := H₂.drop (M' := M) ((List.sublist_cons_self _ _).trans ((List.sublist_cons_self _ _).trans (List.sublist_cons_self _ _)))
        exact k v g₃ s₂ (L'.tr (L₁.tr (L₂.tr L₃))) H₃ (r₂.mono L₃)
end
set_option maxHeartbeats 1000000
section
variable {w : World} {os : Ext} {n : Nat} {env : Env} {M M' : Led} {pos pos' : Pos}
theorem ST.forS {x : Str} {px : Pos} {iter : Expr} {body : List Stmt} {src : PV} {ps : List PV} {MI : Nat → Led} {MA : Nat → PV → Led} (hsrc : PE w os n env (MI 0) iter src) (hit : IterOf w os src ps) (hfs : ∀ v, foldedSetIterable iter env v = pure v)
    (hn : ∀ i p t, ps[i]? = some p → SN w os env (t :: MI i) x p (t :: MA i p)) (hb : ∀ i p t, ps[i]? = some p → SS w os n env (t :: MA i p) body (t :: MI (i + 1))) :
    ST w os n env (MI 0) (.For (.Name x px) iter body [] pos) (MI ps.length) := fun A rm g s Q H k => by
  refine wpAny_For (hsrc A rm g s _ H fun v g₁ s₁ L₁ H₁ r₁ => ?_) hfs
  refine hit A _ g₁ s₁ _ v rm.hd H₁ r₁ fun it I ent g₂ s₂ L₂ H₂ hI => ?_
  refine forLoopG (fun m s' => ∃ g' i, m = ps.length - i ∧ i ≤ ps.length ∧ Le g₂ g' ∧ HS w os g' ((I, ent i) :: MI i) s') ?_ ps.length ⟨g₂, 0, by simp, by simp, Le.rfl, H₂⟩
  rintro m s' ⟨g', i, rfl, hi, L', H'⟩
  by_cases hlt : i < ps.length
  · obtain ⟨p, hp⟩ : ∃ p, ps[i]? = some p := ⟨_, List.getElem?_eq_getElem hlt⟩
    refine hI.item A _ g' s' _ i p rm.hd L' H' hp fun v g₃ s₃ L₃ H₃ r₃ => ?_
    refine hI.noTup A _ g₃ s₃ _ (i + 1) _ v (L'.tr L₃) H₃ ?_
    refine wpAny_assign_Name (hn i p _ hp A g₃ s₃ _ v H₃ r₃ fun g₄ s₄ L₄ H₄ => ?_)
    refine hb i p _ hp A rm g₄ s₄ _ H₄ fun g₅ s₅ L₅ H₅ => ?_
    exact ⟨ps.length - (i + 1), by omega, g₅, i + 1, rfl, hlt, L'.tr (L₃.tr (L₄.tr L₅)), H₅⟩
  · have hi' : i = ps.length := by omega
    subst hi'
    exact hI.stop A _ g' s' _ rm.hd L' H' fun g₃ s₃ L₃ H₃ => wpAny_execs_nil (k g₃ s₃ (L₁.tr (L₂.tr (L'.tr L₃))) H₃)
noncomputable def CompOkX (w : World) (os : Ext) (n : Nat) (env : Env) (M : Led) (e iter : Expr) (scope : Scope) (pos : Pos) (res : List PV) (M' : Led) : Prop :=
  ∀ (A : Around), Rm A n → ∀ (g : Heap) (s : Shared) (Q : Value → Shared → Prop) (use : Option (Value → Sem Unit)), HS w os g M s →
    (∀ (D C : Addr) vars g' s', Le g g' → HS w os g' ((D, .list res) :: (C, .frame vars) :: M') s' → compPost (model PRG w) A NoE use Q (.ref D) C (.ok .next) s') →
    wpAny (model PRG w) A (comprehension e scope env pos (newList []) false (eval iter env) use) Q NoE s
theorem CompOkX.pe {elt target iter : Expr} {ifs : List Expr} {gs : List Comprehension} {scope : Scope} {res : List PV} (h : CompOkX w os n env M (.ListComp elt (⟨target, iter, ifs, 0⟩ :: gs) scope pos) iter scope iter.pos res M') :
    PEX w os n env M (.ListComp elt (⟨target, iter, ifs, 0⟩ :: gs) scope pos) (.list res) M' := fun A rm g s Q H k => by
  show wpAny _ _ (comprehension _ scope env _ (newList []) false (eval iter env)) _ _ _
  refine h A rm g s Q .none H fun D C vars g₆ s₆ L₆ H₆ => ?_
  obtain ⟨m, hm, -⟩ := H₆.ns (i := 1) rfl
  refine ⟨m, hm, fun h'' hs'' => ?_⟩
  have H₇ := H₆.perm (List.Perm.swap _ _ _)
  obtain ⟨g₈, L₈, H₈⟩ := H₇.dropHead (h' := h'') fun b o n e => (hs''.2 b n).trans e
  obtain ⟨g₉, L₉, H₉, G₉⟩ := H₈.drop (M' := M') (List.sublist_cons_self _ _)
  obtain ⟨o, ho, vs, z, rfl, hr⟩ := H₈.at_ _ (.head _)
  refine k _ g₉ _ (L₆.tr (L₈.tr L₉)) H₉ (.list ⟨z, G₉ _ _ ho ?_⟩ (hr.mono L₉))
  exact (List.nodup_cons.mp H₈.nd).1
theorem CompOkX.new {elt target iter : Expr} {ifs : List Expr} {gs : List Comprehension} {scope : Scope} {res : List PV} (h : CompOkX w os n env M (.ListComp elt (⟨target, iter, ifs, 0⟩ :: gs) scope pos) iter scope iter.pos res M')
    {A : Around} (rm : Rm A n) {g : Heap} {s : Shared} {Q : Value → Shared → Prop} (H : HS w os g M s) (k : ∀ (D : Addr) g' s', Le g g' → HS w os g' ((D, .list res) :: M') s' → Q (.ref D) s') : wpAny (model PRG w) A (eval (.ListComp elt (⟨target, iter, ifs, 0⟩ :: gs) scope pos) env) Q NoE s := by
  show wpAny _ _ (comprehension _ scope env _ (newList []) false (eval iter env)) _ _ _
  refine h A rm g s Q .none H fun D C vars g₆ s₆ L₆ H₆ => ?_
  obtain ⟨m, hm, -⟩ := H₆.ns (i := 1) rfl
  refine ⟨m, hm, fun h'' hs'' => ?_⟩
  have H₇ := H₆.perm (List.Perm.swap _ _ _)
  obtain ⟨g₈, L₈, H₈⟩ := H₇.dropHead (h' := h'') fun b o n e => (hs''.2 b n).trans e
  exact k _ g₈ _ (L₆.tr L₈) H₈
theorem ST.assignUX {elt target iter : Expr} {ifs : List Expr} {gs : List Comprehension} {scope : Scope} {res : List PV} {x : Str} {px sp : Pos} {i : Nat} {vars : List (Str × PV)} (h : CompOkX w os n env M (.ListComp elt (⟨target, iter, ifs, 0⟩ :: gs) scope pos) iter scope iter.pos res M')
    (hsw : swapsWith (.ListComp elt (⟨target, iter, ifs, 0⟩ :: gs) scope pos) (some (.Name x px)) sp.line env = pure true) (hk : env.scope.kind = .function) (hx : env.kindOf x = some .local) (hi : M'[i]? = some (env.locals, .frame vars)) :
    ST w os n env M (.Assign [.Name x px] (.ListComp elt (⟨target, iter, ifs, 0⟩ :: gs) scope pos) sp) (setE M' i (.frame ((x, .list res) :: vars))) := fun A rm g s Q H k => by
  rw [exec_Assign_Name_used _ _ _ _ hsw]
  refine wpAny_bind (wpAny_standAt (wpAny_bind ?_))
  show wpAny _ A (do let _ ← comprehension (.ListComp elt (⟨target, iter, ifs, 0⟩ :: gs) scope pos) scope env iter.pos (newList []) false (eval iter env) (some (PySem.assign (.Name x px) env))) _ _ s
  refine wpAny_bind (h A rm g s (fun _ s' => wpAny (model PRG w) A (pure ()) (fun _ s' => wpAny (model PRG w) A (pure Flow.next) Q NoE s') NoE s') (some (PySem.assign (.Name x px) env)) H fun D C vs g₆ s₆ L₆ H₆ => ?_)
  show wpAny _ _ (PySem.assign (.Name x px) env (.ref D)) _ _ _
  obtain ⟨o, ho, us, z, rfl, hr⟩ := H₆.at_ _ (.head _)
  obtain ⟨g₇, L₇, H₇, G₇⟩ := H₆.drop (M' := (C, .frame vs) :: M') (List.sublist_cons_self _ _)
  have rD : Rd g₇ (.ref D) (.list res) := .list ⟨z, G₇ _ _ ho (List.nodup_cons.mp H₆.nd).1⟩ (hr.mono L₇)
  refine wpAny_assign_Name (SN.loc (i := i + 1) hk hx (by simpa using hi) A g₇ s₆ _ (.ref D) H₇ rD fun g₈ s₈ L₈ H₈ => ?_)
  change HS w os g₈ ((C, .frame vs) :: setE M' i (.frame ((x, .list res) :: vars))) s₈ at H₈
  obtain ⟨m, hm, -⟩ := H₈.ns (i := 0) rfl
  refine ⟨m, hm, fun h'' hs'' => ?_⟩
  obtain ⟨g₉, L₉, H₉⟩ := H₈.dropHead (h' := h'') fun b o n e => (hs''.2 b n).trans e
  exact wpAny_pure (wpAny_pure (k g₉ _ (L₆.tr (L₇.tr (L₈.tr L₉))) H₉))
theorem CompOk.x {e iter : Expr} {scope : Scope} {res : List PV} (h : CompOk w os n env M e iter scope pos res) : CompOkX w os n env M e iter scope pos res M := h
theorem comp_coreX {elt tgt iter : Expr} {scope : Scope} {it : Value} {I D : Addr} {ent : Nat → Ent} {g₀ : Heap} {cenv : Env} {T : Option PV → Led} {ps : List PV} {f : Nat → PV} {MM : Nat → Led}
    (hT : Tgt w os cenv tgt T) (hI : ItOk w os g₀ ps it I ent) (hz : ps.length ≤ 1000)
    (hel : ∀ (i : Nat) (p : PV), ps[i]? = some p → ∀ (e : Ent) (l : List PV), PEX w os n cenv ((I, e) :: (D, .list l) :: (T (some p) ++ MM i)) elt (f i) ((I, e) :: (D, .list l) :: (T (some p) ++ MM (i + 1))))
    (hlt : ∀ v, letOwnedTupleGo tgt it v = pure ())
    {A : Around} (rm : Rm A n) {g : Heap} {s : Shared} {R : Result → Shared → Prop} (L₀ : Le g₀ g) (H : HS w os g ((I, ent 0) :: (D, .list []) :: (T .none ++ MM 0)) s)
    (k : ∀ g' s' o, Le g g' → HS w os g' ((D, .list ((List.range ps.length).map f)) :: (T o ++ MM ps.length)) s' → R (.ok .next) s') :
    codeAny (model PRG w) A (.compLoop (.ListComp elt [⟨tgt, iter, [], 0⟩] scope pos) 0 it (.ref D) cenv) R s := by
  refine codeAny_compLoop_tests (fun m s₁ => ∃ g₁ i o, m = ps.length - i ∧ i ≤ ps.length ∧ Le g g₁ ∧ HS w os g₁ ((I, ent i) :: (D, .list ((List.range i).map f)) :: (T o ++ MM i)) s₁)
    ?_ ps.length ⟨g, 0, .none, by simp, by simp, Le.rfl, by simpa using H⟩ ?_
  · rintro m s₁ ⟨g₁, i, o, rfl, hi, L₁, H₁⟩
    by_cases hlt : i < ps.length
    · obtain ⟨p, hp⟩ : ∃ p, ps[i]? = some p := ⟨_, List.getElem?_eq_getElem hlt⟩
      refine wpAny_mono (hI.item A _ g₁ s₁ (fun r s₂ => ∃ v, r = some v ∧ ∃ g₂, Le g₁ g₂ ∧ HS w os g₂ ((I, ent (i + 1)) :: (D, .list ((List.range i).map f)) :: (T o ++ MM i)) s₂ ∧ Rd g₂ v p) i p rm.hd (L₀.tr L₁) H₁ hp
        fun v g₂ s₂ L₂ H₂ r₂ => ⟨v, rfl, g₂, L₂, H₂, r₂⟩) ?_ fun _ _ x => x.elim
      rintro r s₂ ⟨v, rfl, g₂, L₂, H₂, r₂⟩
      refine Env.noE (hT A rm.hd _ _ _ g₂ s₂ _ v p o H₂ r₂ fun g₃ s₃ L₃ H₃ => ?_)
      refine Env.noE (wpAny_tests_nil ?_)
      rw [if_pos rfl]
      refine Env.noE (hel i p hp _ _ A rm g₃ s₃ _ H₃ fun u g₅ s₅ L₅ H₅ r₅ => ?_)
      refine Env.noE (H₅.append (i := 1) rfl r₅ (sizeLine_ge (by rw [List.length_map, List.length_range]; omega)) fun g₆ s₆ L₆ H₆ => ?_)
      refine ⟨ps.length - (i + 1), by omega, g₆, i + 1, some p, rfl, hlt, L₁.tr (L₂.tr (L₃.tr (L₅.tr L₆))), ?_⟩
      rw [List.range_succ, List.map_append]
      exact H₆
    · have hi' : i = ps.length := by omega
      subst hi'
      refine wpAny_mono (hI.stop A _ g₁ s₁ (fun r s₂ => r = .none ∧ ∃ g₂, Le g₁ g₂ ∧ HS w os g₂ ((D, .list ((List.range ps.length).map f)) :: (T o ++ MM ps.length)) s₂) rm.hd (L₀.tr L₁) H₁ fun g₂ s₂ L₂ H₂ => ⟨rfl, g₂, L₂, H₂⟩) ?_ fun _ _ x => x.elim
      rintro r s₂ ⟨rfl, g₂, L₂, H₂⟩
      exact k g₂ s₂ o (L₁.tr L₂) H₂
  · exact hlt
theorem CompOkX.lcomp {elt iter : Expr} {x : Str} {px : Pos} {scope : Scope} {cl : List (Str × Addr)} {src : PV} {ps : List PV} {f : Nat → PV} {MM : Nat → Led}
    (hsrc : PE w os n env (MM 0) iter src) (hit : IterOf w os src ps) (hz : ps.length ≤ 1000)
    (hfs : ∀ v, foldedSetIterable iter env v = pure v) (hcl : closureFor scope env = pure cl) (hk : scope.kind = .function)
    (hnc : ∀ y ∈ scope.names, y.2 ≠ .cell) (hnl : ∀ y ∈ scope.names, y.2 = .local → scope.names.lookup y.1 = some .local) (hx : scope.names.lookup x = some .local)
    (hel : ∀ (i : Nat) (p : PV), ps[i]? = some p → ∀ (I : Addr) (e : Ent) (D : Addr) (l : List PV) (C : Addr), PEX w os n (compEnvC scope cl C env) ((I, e) :: (D, .list l) :: (C, .frame [(x, p)]) :: MM i) elt (f i) ((I, e) :: (D, .list l) :: (C, .frame [(x, p)]) :: MM (i + 1))) :
    CompOkX w os n env (MM 0) (.ListComp elt [⟨.Name x px, iter, [], 0⟩] scope pos) iter scope pos' ((List.range ps.length).map f) (MM ps.length) := by
  intro A rm g s Q use H k
  refine wpAny_comprehension_free (g := ⟨.Name x px, iter, [], 0⟩) (gs := []) rfl hfs hcl hk hnl ?_
  refine hsrc A rm g s _ H fun xv g₁ s₁ L₁ H₁ r₁ => ?_
  refine hit A _ g₁ s₁ _ xv rm.hd H₁ r₁ fun it I ent g₂ s₂ L₂ H₂ hI => ?_
  refine wpAny_newList ?_ (by simp)
  obtain ⟨g₃, L₃, H₃⟩ := pushEnt (e := .list []) (tk := s₂.toks) H₂ { cls := .type "list", data := .seq [].toArray } rfl fun _ _ => ⟨[], 0, rfl, .nil⟩
  refine newEnv0 hk hnc fun h' hn hs => ?_
  obtain ⟨g₄, L₄, H₄, -⟩ := H₃.new (a := (s₂.heap.push { cls := .type "list", data := .seq [].toArray }).objs.size) (e := .frame [])
    (s' := { heap := h', gens := s₂.gens, drawn := s₂.drawn, toks := s₂.toks, os := s₂.os }) (get_none_of_size (Nat.le_refl _))
    (fun b o e => (hs.2 b (Nat.ne_of_lt (Heap.lt_size e))).trans (Heap.get?_push_of_some _ e))
    (fun g' L _ => nsFrame hn fun _ _ e => nomatch e) rfl rfl
  have H₅ := H₄.perm (M' := (I, ent 0) :: (s₂.heap.objs.size, .list []) :: (((s₂.heap.push { cls := .type "list", data := .seq [].toArray }).objs.size, Ent.frame []) :: MM 0)) (by
    refine List.Perm.trans (List.Perm.swap _ _ _) ?_
    refine List.Perm.trans (List.Perm.cons _ (List.Perm.swap _ _ _)) ?_
    exact List.Perm.swap _ _ _)
  have hx' : (compEnvC scope cl (s₂.heap.push { cls := .type "list", data := .seq [].toArray }).objs.size env).kindOf x = some .local := lookup_relabel_local hx
  have hI' : ItOk w os g₄ ps it I ent := ⟨fun A M g s Q i h1 h2 => hI.again A M g s Q i h1 (L₃.tr (L₄.tr h2)), fun A M g s Q i p h1 h2 => hI.item A M g s Q i p h1 (L₃.tr (L₄.tr h2)),
    fun A M g s Q h1 h2 => hI.stop A M g s Q h1 (L₃.tr (L₄.tr h2)), fun A M g s Q i tgt v h2 => hI.noTup A M g s Q i tgt v (L₃.tr (L₄.tr h2))⟩
  have go := comp_coreX (pos := pos) (elt := elt) (iter := iter) (scope := scope) (MM := MM) (f := f) (Tgt.loc (px := px) (w := w) (os := os) (cenv := compEnvC scope cl (s₂.heap.push { cls := .type "list", data := .seq [].toArray }).objs.size env) hk hx') hI' hz
    (fun i p hp e l => hel i p hp I e _ l _) (fun v => rfl) rm Le.rfl H₅ (R := compPost (model PRG w) A NoE use Q (.ref s₂.heap.objs.size) (s₂.heap.push { cls := .type "list", data := .seq [].toArray }).objs.size) fun g₆ s₆ o L₆ H₆ => by
      cases o with
      | none => exact k _ _ _ g₆ s₆ (L₁.tr (L₂.tr (L₃.tr (L₄.tr L₆)))) H₆
      | some p => exact k _ _ _ g₆ s₆ (L₁.tr (L₂.tr (L₃.tr (L₄.tr L₆)))) H₆
  exact codeAny_compStart_list go (Env.noE (hI'.again A _ g₄ _ _ 0 rm.hd Le.rfl H₅ go))
end
set_option maxHeartbeats 1000000
section
variable {w : World} {os : Ext} {n : Nat} {env : Env} {M M' : Led} {pos pos' : Pos}
theorem PE.itemS {v i : Expr} {x : Str} {j : Nat} {c : Nat} (hv : PE w os n env M v (.str x)) (hi : PE w os n env M i (.int j)) (hj : j < x.length) (hz : x.length ≤ 1000) (hc : Txt.item x (j : Int) = ch1 c)
    (hs : ∀ o k, subscripted i false o k = operate [o, k] (getItem o k)) (ht : ∀ t r, letTemporaryGo v (.str x t) r = pure ()) : PE w os n env M (.Subscript v i pos) (.str (ch1 c)) := fun A rm g s Q H k =>
  Subscript_ (hv A rm g s _ H fun o g₁ s₁ L₁ H₁ r₁ => hi A rm g₁ s₁ _ H₁ fun iv g₂ s₂ L₂ H₂ r₂ => by
    cases r₁ with | str _ t =>
    cases r₂ with | int _ u =>
    refine item_str (fitsSsize_of (N := 9223372036854775808) (by omega) (by omega) (Int.le_refl _)) (by omega) (by omega) (fun _ => ?_) (hs _ _) (ht _)
    rw [hc]
    exact k _ g₂ _ (L₁.tr L₂) (H₂.toks _) (.str _ _))
theorem OP.addL {p q : PV} {ps qs : List PV} (hp : LV w os M p ps) (hq : LV w os M q qs) (hz : ps.length + qs.length ≤ 10000) : OP w os n M (bo .Add) [p, q] (.list (ps ++ qs)) := fun A rm g s Q vs H r k => by
  cases r with | cons r₁ r => cases r with | cons r₂ r =>
  cases r
  obtain ⟨a, us, rfl, ⟨m, ho⟩, ru⟩ := hp g s _ H r₁
  obtain ⟨b, ws, rfl, ⟨m2, ho2⟩, rw'⟩ := hq g s _ H r₂
  have e : us.toArray ++ ws.toArray = (us ++ ws).toArray := by simp
  refine concat_meets ⟨_, ho, rfl⟩ ⟨_, ho2, rfl⟩ noFill_list_add seq_list_add PySem.F.slot_list_add PySem.F.entry_list_add (PySem.F.args_list_add_2 _ _) (list_addW a b us.toArray ws.toArray m m2 _ _ _ _ (sizeLine_ge (by
    have := ru.length
    have := rw'.length
    simp; omega))) ⟨ho, ho2, ?_⟩
  rw [e]
  obtain ⟨g', L, H', G⟩ := H.push { cls := .type "list", data := .seq (us ++ ws).toArray } rfl s.toks
  exact k _ g' _ L H' (.list ⟨0, G⟩ ((ru.append rw').mono L))
theorem OP.max2 {a b : Int} : OP w os n M (cf (.builtin "max")) [.int a, .int b] (.int (if b > a then b else a)) := fun A rm g s Q vs H r k => by
  cases r with | cons r₁ r => cases r with | cons r₂ r =>
  cases r; cases r₁; cases r₂
  refine max_two_ints rm.hd fun h' tk hk => ?_
  obtain ⟨g', L, H'⟩ := H.grow' (s' := { s with heap := h', toks := tk }) hk rfl rfl
  refine k _ g' _ L H' ?_
  split
  · exact .int _ _
  · exact .int _ _
theorem boolAnd {x : Expr} {es : List Expr} {a : Bool} (hx : PE w os n env M x (.bool a)) {A : Around} (rm : Rm A n) {g : Heap} {s : Shared} {Q : Value → Shared → Prop} (H : HS w os g M s) (hes : es ≠ [])
    (h0 : a = false → ∀ g' s', Le g g' → HS w os g' M s' → Q (.bool false) s') (h1 : a = true → ∀ g' s', Le g g' → HS w os g' M s' → wpAny (model PRG w) A (boolOp pos .And (evalEach es env)) Q NoE s') :
    wpAny (model PRG w) A (boolOp pos .And (evalEach (x :: es) env)) Q NoE s := by
  cases es with
  | nil => exact absurd rfl hes
  | cons y es =>
    show wpAny _ A (do
      let v ← eval x env
      standAt pos
      let t ← holding [v] (truthy v)
      match BoolOp.And, t with
      | .And, false | .Or, true => pure v
      | _, _ => boolOp pos .And (evalEach (y :: es) env)) _ _ _
    refine wpAny_bind (hx A rm g s _ H fun v g₁ s₁ L₁ H₁ r₁ => wpAny_bind (wpAny_standAt (wpAny_bind (wpAny_holding ?_))))
    cases r₁
    refine wpAny_truthy_bool ?_
    cases a with
    | false => exact wpAny_pure (h0 rfl g₁ s₁ L₁ H₁)
    | true => exact h1 rfl g₁ s₁ L₁ H₁
theorem boolLast {x : Expr} {a : Bool} (hx : PE w os n env M x (.bool a)) {A : Around} (rm : Rm A n) {g : Heap} {s : Shared} {Q : Value → Shared → Prop} (H : HS w os g M s)
    (h : ∀ g' s', Le g g' → HS w os g' M s' → Q (.bool a) s') : wpAny (model PRG w) A (boolOp pos .And (evalEach [x] env)) Q NoE s := by
  show wpAny _ A (eval x env) _ _ _
  exact hx A rm g s _ H fun v g₁ s₁ L₁ H₁ r₁ => by cases r₁; exact h g₁ s₁ L₁ H₁
theorem PE.and3 {x y z : Expr} {a b c : Bool} (hx : PE w os n env M x (.bool a)) (hy : a = true → PE w os n env M y (.bool b)) (hz : a = true → b = true → PE w os n env M z (.bool c)) : PE w os n env M (.BoolOp .And [x, y, z] pos) (.bool (a && (b && c))) :=
  fun A rm g s Q H k => by
    show wpAny _ A (boolOp pos .And (evalEach [x, y, z] env)) _ _ _
    refine boolAnd hx rm H (by simp) (fun ha g₁ s₁ L₁ H₁ => by subst ha; exact k _ g₁ s₁ L₁ H₁ (.bool _)) fun ha g₁ s₁ L₁ H₁ => ?_
    refine boolAnd (hy ha) rm H₁ (by simp) (fun hb g₂ s₂ L₂ H₂ => by subst ha hb; exact k _ g₂ s₂ (L₁.tr L₂) H₂ (.bool _)) fun hb g₂ s₂ L₂ H₂ => ?_
    exact boolLast (hz ha hb) rm H₂ fun g₃ s₃ L₃ H₃ => by subst ha hb; exact k _ g₃ s₃ (L₁.tr (L₂.tr L₃)) H₃ (.bool _)
theorem PE.and4 {x y z u : Expr} {a b c d : Bool} (hx : PE w os n env M x (.bool a)) (hy : a = true → PE w os n env M y (.bool b)) (hz : a = true → b = true → PE w os n env M z (.bool c)) (hu : a = true → b = true → c = true → PE w os n env M u (.bool d)) : PE w os n env M (.BoolOp .And [x, y, z, u] pos) (.bool (a && (b && (c && d)))) :=
  fun A rm g s Q H k => by
    show wpAny _ A (boolOp pos .And (evalEach [x, y, z, u] env)) _ _ _
    refine boolAnd hx rm H (by simp) (fun ha g₁ s₁ L₁ H₁ => by subst ha; exact k _ g₁ s₁ L₁ H₁ (.bool _)) fun ha g₁ s₁ L₁ H₁ => ?_
    refine boolAnd (hy ha) rm H₁ (by simp) (fun hb g₂ s₂ L₂ H₂ => by subst ha hb; exact k _ g₂ s₂ (L₁.tr L₂) H₂ (.bool _)) fun hb g₂ s₂ L₂ H₂ => ?_
    refine boolAnd (hz ha hb) rm H₂ (by simp) (fun hc g₃ s₃ L₃ H₃ => by subst ha hb hc; exact k _ g₃ s₃ (L₁.tr (L₂.tr L₃)) H₃ (.bool _)) fun hc g₃ s₃ L₃ H₃ => ?_
    exact boolLast (hu ha hb hc) rm H₃ fun g₄ s₄ L₄ H₄ => by subst ha hb hc; exact k _ g₄ s₄ (L₁.tr (L₂.tr (L₃.tr L₄))) H₄ (.bool _)
theorem PE.not {e : Expr} {b : Bool} (h : PE w os n env M e (.bool b)) : PE w os n env M (.UnaryOp .Not e pos) (.bool (!b)) := fun A rm g s Q H k => by
  show wpAny _ _ (do let v ← eval e env; standAt pos; holding [v] (unaryOp .Not v)) _ _ _
  refine wpAny_bind (h A rm g s _ H fun v g₁ s₁ L₁ H₁ r₁ => wpAny_bind (wpAny_standAt (wpAny_holding ?_)))
  cases r₁
  unfold unaryOp
  refine wpAny_holding ?_
  exact wpAny_bind (wpAny_truthy_bool (wpAny_pure (k _ g₁ s₁ L₁ H₁ (.bool _))))
theorem OP.notinL {p x : PV} {ps : List PV} {b : Bool} (hp : LV w os M p ps) (h1 : lay ps = true) (hx : lay [x] = true) (hn : 8 ≤ n) (hb : ((toDs ps).any fun y => PyData.eqv y (toD x)) = b) : OP w os n M (co .NotIn) [x, p] (.bool (!b)) := fun A rm g s Q vs H r k => by
  cases r with | cons r₁ r => cases r with | cons r₂ r =>
  cases r
  unfold lay at h1 hx
  rw [Bool.and_eq_true] at h1 hx
  simp only [plainPs, Bool.and_true, toDs] at hx
  obtain ⟨as, ha⟩ := hp.reads h1.1 H r₂
  obtain ⟨bs, hb'⟩ := (r₁.mono H.keep).reads hx.1
  have c1 : PyData.canLayAll0 (toDs ps) = true := by
    have := h1.2; unfold PySem.SeqAt.shaped at this; rw [Bool.and_eq_true] at this; simpa only [PyData.canLay0] using this.1
  have c2 : PyData.canLay0 (toD x) = true := by
    have := hx.2; unfold PySem.SeqAt.shaped at this; rw [Bool.and_eq_true] at this; simpa only [PyData.canLay0, PyData.canLayAll0, Bool.and_true] using this.1
  have c3 : PyData.depthAll (toDs ps) ≤ 63 := by
    have := h1.2; unfold PySem.SeqAt.shaped at this; rw [Bool.and_eq_true] at this
    have := of_decide_eq_true this.2
    simp only [PyData.depth] at this; omega
  refine SeqAt.notIn_list_reads ha hb' c1 c2 (by have := rm.un; have := Nat.min_le_left (PyData.depthAll (toDs ps)) (toD x).depth; omega) ?_
  rw [hb]
  exact k _ g _ Le.rfl H (.bool _)
theorem OP.inL {p x : PV} {ps : List PV} {b : Bool} (hp : LV w os M p ps) (h1 : lay ps = true) (hx : lay [x] = true) (hn : 8 ≤ n) (hb : ((toDs ps).any fun y => PyData.eqv y (toD x)) = b) : OP w os n M (co .In) [x, p] (.bool b) := fun A rm g s Q vs H r k => by
  cases r with | cons r₁ r => cases r with | cons r₂ r =>
  cases r
  unfold lay at h1 hx
  rw [Bool.and_eq_true] at h1 hx
  simp only [plainPs, Bool.and_true, toDs] at hx
  obtain ⟨as, ha⟩ := hp.reads h1.1 H r₂
  obtain ⟨bs, hb'⟩ := (r₁.mono H.keep).reads hx.1
  have c1 : PyData.canLayAll0 (toDs ps) = true := by
    have := h1.2; unfold PySem.SeqAt.shaped at this; rw [Bool.and_eq_true] at this; simpa only [PyData.canLay0] using this.1
  have c2 : PyData.canLay0 (toD x) = true := by
    have := hx.2; unfold PySem.SeqAt.shaped at this; rw [Bool.and_eq_true] at this; simpa only [PyData.canLay0, PyData.canLayAll0, Bool.and_true] using this.1
  have c3 : PyData.depthAll (toDs ps) ≤ 63 := by
    have := h1.2; unfold PySem.SeqAt.shaped at this; rw [Bool.and_eq_true] at this
    have := of_decide_eq_true this.2
    simp only [PyData.depth] at this; omega
  refine SeqAt.in_list_reads ha hb' c1 c2 (by have := rm.un; have := Nat.min_le_left (PyData.depthAll (toDs ps)) (toD x).depth; omega) ?_
  rw [hb]
  exact k _ g _ Le.rfl H (.bool _)
theorem OP.index {p : PV} {xs : List Str} {x : Str} {j : Nat} (hp : LV w os M p (xs.map .str)) (hj : xs[j]? = some x) (hno : ∀ m < j, xs[m]? ≠ some x) (hz : xs.length ≤ 1000) : OP w os n M (cf (.builtin "list.index")) [p, .str x] (.int j) := fun A rm g s Q vs H r k => by
  cases r with | cons r₁ r => cases r with | cons r₂ r =>
  cases r; cases r₂ with | str _ t =>
  obtain ⟨a, us, rfl, ⟨m, ho⟩, ru⟩ := hp g s _ H r₁
  have hlen : us.length = xs.length := by have := ru.length; simpa using this
  have hjl : j < xs.length := (List.getElem?_eq_some_iff.mp hj).1
  have at_ : ∀ (i : Nat) (y : Value), us[i]? = some y → ∃ z u, xs[i]? = some z ∧ y = .str z u := fun i y hy => by
    have hi : i < xs.length := by rw [← hlen]; exact (List.getElem?_eq_some_iff.mp hy).1
    obtain ⟨v, hv, rv⟩ := ru.get (i := i) (p := .str xs[i]) (by rw [List.getElem?_map, List.getElem?_eq_getElem hi]; rfl)
    rw [hy] at hv; cases hv
    cases rv with | str _ u => exact ⟨_, u, List.getElem?_eq_getElem hi, rfl⟩
  let e : Value → Bool := fun y => match y with | .str z _ => z == x | _ => false
  refine call_meets PySem.F.slot_list_index ⟨_, ho, rfl⟩ PySem.F.entry_list_index (PySem.F.args_list_index_2 _ _)
    (PySem.MeetsSeq.list_index a us.toArray m (.str x t) e (fun y hy => ?_) j (by simp; omega) (by omega) ?_ ?_) ⟨ho, ?_⟩
  · obtain ⟨i, hi⟩ := List.getElem?_of_mem (by simpa using hy : y ∈ us)
    obtain ⟨z, u, -, rfl⟩ := at_ i y hi
    exact eqGives_str z x u t
  · have hl : j < us.length := by omega
    obtain ⟨z, u, hz', hy⟩ := at_ j us[j] (List.getElem?_eq_getElem hl)
    show e (us.toArray[j]) = true
    simp only [List.getElem_toArray]
    rw [hy]
    show (z == x) = true
    rw [hj] at hz'; cases hz'; simp
  · intro i hi hij
    have hl : i < us.length := by simpa using hi
    obtain ⟨z, u, hz', hy⟩ := at_ i us[i] (List.getElem?_eq_getElem hl)
    show e (us.toArray[i]) = false
    simp only [List.getElem_toArray]
    rw [hy]
    show (z == x) = false
    apply beq_eq_false_iff_ne.mpr
    rintro rfl
    exact hno i hij hz'
  · exact k _ g _ Le.rfl (H.toks _) (.int _ _)
theorem OP.count {x y : Str} : OP w os n M (cf (.builtin "str.count")) [.str x, .str y] (.int (Txt.count x y)) := fun A rm g s Q vs H r k => by
  cases r with | cons r₁ r => cases r with | cons r₂ r =>
  cases r; cases r₁; cases r₂
  exact SC.count (k _ g _ Le.rfl (H.toks _) (.int _ _))
end
set_option maxHeartbeats 1000000
section
variable {w : World} {os : Ext} {n : Nat} {env : Env} {M M' : Led} {pos pos' : Pos}
theorem HS.freezeF {g : Heap} {s : Shared} {D a : Addr} {l : List PV} {i : Nat} {vars : List (Str × PV)} {x : Str} (H : HS w os g ((D, .list l) :: M) s) (hi : M[i]? = some (a, .frame vars)) (hx : vars.lookup x = some (.val (.ref D))) :
    ∃ g', Le g g' ∧ HS w os g' (setE M i (.frame ((x, .list l) :: vars))) s := by
  have hn := List.nodup_cons.mp H.nd
  obtain ⟨g', L, H', -⟩ := H.to (M' := setE M i (.frame ((x, .list l) :: vars))) (s' := s) [] (fun _ _ e _ => e) (fun _ h => nomatch h)
    (fun p hp => by
      refine .inl (.tail _ ?_)
      rw [← setE_keys M i (.frame ((x, .list l) :: vars))]; exact List.mem_map_of_mem hp) (by rw [setE_keys]; exact hn.2)
    (fun g' L G p hp => by
      rcases setE_mem hn.2 hi hp with rfl | ⟨hp, -⟩
      · obtain ⟨o, ho, m, es, ep, h1, h2, h3, h4⟩ := H.at_ _ (.tail _ (List.mem_of_getElem? hi))
        refine ⟨o, ho, m, es, ep, h1, h2, h3, fun y p e => ?_⟩
        rw [List.lookup_cons] at e
        cases hb : y == x with
        | true =>
          rw [hb] at e; cases e
          have hyx := beq_iff_eq.mp hb
          subst hyx
          obtain ⟨v, e1, r⟩ := h4 y _ hx
          cases r
          obtain ⟨oD, hoD, us, z, rfl, hr⟩ := H.at_ _ (.head _)
          refine ⟨_, e1, .list ⟨z, G _ _ hoD ?_⟩ (hr.mono L)⟩
          rw [setE_keys]; exact hn.1
        | false =>
          rw [hb] at e
          obtain ⟨v, e1, r⟩ := h4 y p e
          exact ⟨v, e1, r.mono L⟩
      · obtain ⟨o, ho, r⟩ := H.at_ p (.tail _ hp)
        exact ⟨o, ho, r.mono L⟩) rfl rfl
  exact ⟨g', L, H'⟩
theorem HS.freezeC {g : Heap} {s : Shared} {D c : Addr} {l : List PV} {i : Nat} (H : HS w os g ((D, .list l) :: M) s) (hi : M[i]? = some (c, .cell (some (.val (.ref D))))) :
    ∃ g', Le g g' ∧ HS w os g' (setE M i (.cell (some (.list l)))) s := by
  have hn := List.nodup_cons.mp H.nd
  obtain ⟨g', L, H', -⟩ := H.to (M' := setE M i (.cell (some (.list l)))) (s' := s) [] (fun _ _ e _ => e) (fun _ h => nomatch h)
    (fun p hp => by
      refine .inl (.tail _ ?_)
      rw [← setE_keys M i (.cell (some (.list l)))]; exact List.mem_map_of_mem hp) (by rw [setE_keys]; exact hn.2)
    (fun g' L G p hp => by
      rcases setE_mem hn.2 hi hp with rfl | ⟨hp, -⟩
      · obtain ⟨o, ho, v, hd, r⟩ := H.at_ _ (.tail _ (List.mem_of_getElem? hi))
        cases r
        obtain ⟨oD, hoD, us, z, rfl, hr⟩ := H.at_ _ (.head _)
        refine ⟨o, ho, _, hd, .list ⟨z, G _ _ hoD ?_⟩ (hr.mono L)⟩
        rw [setE_keys]; exact hn.1
      · obtain ⟨o, ho, r⟩ := H.at_ p (.tail _ hp)
        exact ⟨o, ho, r.mono L⟩) rfl rfl
  exact ⟨g', L, H'⟩
theorem ST.del {o i : Expr} {dp : Pos} {T dT C f : Addr} {fs : List (Str × PV)} {p r : PV} (ho : PE w os n env M o (.val (.ref T))) (hi : PE w os n env M i p) (hx : (T, instE C dT) ∈ M) (hd : (dT, Ent.dict fs) ∈ M)
    (hq : noSeq (KF w) C = true) (hs : findIn (KF w) (.ref C) "__delitem__" = some (some (.ref f))) (hf : typeIn (KF w) (.ref f) = some (.type "function")) (hop : OPM w os n M (cf (.ref f)) [.val (.ref T), p] r M') :
    ST w os n env M (.Delete [.Subscript o i dp] pos) M' := fun A rm g s Q H k => by
  refine wpAny_Delete (wpAny_deleteEach_cons (wpAny_delete_Subscript (ho A rm g s _ H fun ov g₁ s₁ L₁ H₁ r₁ => hi A rm g₁ s₁ _ H₁ fun iv g₂ s₂ L₂ H₂ r₂ => ?_)))
  cases r₁
  obtain ⟨ox, od, I, R, -, -⟩ := H₂.inst hx hd
  unfold delItem sequenceKey
  refine wpAny_holding (wpAny_bind (wpAny_bind (I.type.here ?_)))
  refine wpAny_bind ((anyM_none H₂.kin hq).here ?_)
  rw [if_pos (show (!false) = true from rfl)]
  refine wpAny_pure (wpAny_bind (special_fn H₂.kin I hs hf ?_))
  exact hop A rm g₂ s₂ _ [.ref T, iv] H₂ (.cons (.val _) (.cons r₂ .nil)) fun v g₃ s₃ L₃ H₃ r₃ => wpAny_pure (wpAny_deleteEach_nil (k g₃ s₃ (L₁.tr (L₂.tr L₃)) H₃))
theorem setItem_listOf {A : Around} {s : Shared} {l : Addr} {us : List Value} {m j : Nat} {k : Int} {t : Tok} {v : Value} {Q : Unit → Shared → Prop} (hk : k = (j : Int)) (ho : s.heap.get? l = some (listOf us.toArray m)) (hj : j < us.length) (hz : us.length ≤ 10000)
    (hQ : Q () { s with heap := s.heap.update l (Obj.mapSeq (·.setIfInBounds j v)) }) : wpAny (model PRG w) A (setItem (.ref l) (.int k t) v) Q NoE s := by
  have hl : s.heap.IsList l us.toArray := ⟨_, ho, rfl, m, rfl⟩
  unfold setItem
  refine wpAny_holding ?_
  refine wpAny_bind (wpAny_sequenceKey hl.typeIs (by decide) ?_)
  refine wpAny_bind (wpAny_callSpecial?_slot (name := Str.ofString "__setitem__") hl.typeIs slot_list_setitem
    (wpAny_call_entry slot_list_setitem hl.typeIs entry_list_setitem ?_ (args_list_setitem _ _ _)))
  have h0 : 0 ≤ k := by omega
  have hfit : k < 2 ^ 63 := by omega
  have hn : k < us.toArray.size := by simp; omega
  show wpAny _ _ (Builtin.List.listSubscript? (.int k t) >>= _) _ _ s
  refine wpAny_bind (wpAny_listSubscript_int (fitsIndex_of h0 hfit) ?_)
  clear hfit
  subst hk
  have hj' : j < us.toArray.size := by simpa using hj
  have hx' : us.toArray[j]? = some us.toArray[j] := Array.getElem?_eq_getElem hj'
  show wpAny _ _ ((seqItemAt l j >>= fun r => pure (r.map (j, ·))) >>= _) _ _ s
  refine wpAny_bind (wpAny_bind (wpAny_seqItemAt ho rfl (wpAny_pure ?_)))
  rw [hx']
  show wpAny _ _ (setSeqItemAt l j v >>= _) _ _ s
  refine wpAny_bind (wpAny_setSeqItemAt ho rfl ?_)
  first
    | exact wpAny_bind (wpAny_pure (wpAny_pure ⟨.none, rfl, wpAny_pure hQ⟩))
    | exact wpAny_pure ⟨.none, rfl, wpAny_pure hQ⟩
theorem mapSeq_set (us : List Value) (m j : Nat) (v : Value) : ∃ m', Obj.mapSeq (·.setIfInBounds j v) (listOf us.toArray m) = listOf (us.set j v).toArray m' := by
  refine ⟨if (((us.toArray.setIfInBounds j v).size == us.toArray.size) = true) then m else m + 1, ?_⟩
  have e : us.toArray.setIfInBounds j v = (us.set j v).toArray := by simp
  show ({ cls := _, dict := _, data := Data.seq (us.toArray.setIfInBounds j v) (if ((us.toArray.setIfInBounds j v).size == us.toArray.size) = true then m else m + 1), slots := _ } : Obj) = _
  rw [e]
theorem RdL.set {g : Heap} : ∀ {vs : List Value} {ps : List PV}, RdL g vs ps → ∀ {j : Nat} {v : Value} {p : PV}, Rd g v p → RdL g (vs.set j v) (ps.set j p)
  | _, _, .nil, _, _, _, _ => .nil
  | _, _, .cons _ r, 0, _, _, h => .cons h r
  | _, _, .cons h₁ r, j + 1, _, _, h => .cons h₁ (RdL.set r h)
theorem ST.augItem {o i e : Expr} {op : Operator} {ap : Pos} {D : Addr} {j q : Nat} {l : List PV} {a b r : PV} (ho : PE w os n env M o (.val (.ref D))) (hi : PE w os n env M i (.int j)) (hM : M[q]? = some (D, .list l)) (hj : l[j]? = some a) (hz : l.length ≤ 1000) (he : PE w os n env M e b) (hop : OP w os n M (io op) [a, b] r)
    (ha : ∀ ov iv new, augStore i ov iv new = (do holding [new, ov, iv] (setItem ov iv new); release [new, ov, iv] []; pure .next)) : ST w os n env M (.AugAssign (.Subscript o i ap) op e pos) (setE M q (.list (l.set j r))) := fun A rm g s Q H k => by
  refine wpAny_AugAssign_Subscript_any (ho A rm g s _ H fun ov g₁ s₁ L₁ H₁ r₁ => hi A rm g₁ s₁ _ H₁ fun iv g₂ s₂ L₂ H₂ r₂ => ?_) ha
  cases r₁
  cases r₂ with | int _ t =>
  obtain ⟨oD, hoD, us, m, rfl, hr⟩ := H₂.get hM
  obtain ⟨v, hv, rv⟩ := hr.get hj
  have hlt := (List.getElem?_eq_some_iff.mp hj).1
  have hlen := hr.length
  refine getItem_listL (l := us) ⟨_, hoD, rfl, m, rfl⟩ (by omega) (by omega) (by simpa using hv) ?_
  refine he A rm g₂ s₂ _ H₂ fun u g₃ s₃ L₃ H₃ r₃ => ?_
  show wpAny (model PRG w) A (io op [v, u]) _ _ _
  refine hop A rm g₃ s₃ _ [v, u] H₃ (.cons (rv.mono L₃) (.cons r₃ .nil)) fun z g₄ s₄ L₄ H₄ r₄ => ?_
  obtain ⟨oD', hoD', us', m', rfl, hr'⟩ := H₄.get hM
  have hlen' := hr'.length
  refine setItem_listOf (j := j) rfl hoD' (by omega) (by omega) ?_
  obtain ⟨m'', hm⟩ := mapSeq_set us' m' j z
  obtain ⟨g₅, L₅, H₅, -⟩ := H₄.set (i := q) (e := .list (l.set j r)) (s' := { s₄ with heap := s₄.heap.update D (Obj.mapSeq (·.setIfInBounds j z)) }) hM (fun b o e n => ((Heap.SameBut.update ..).2 b n).trans e)
    (fun g' L _ => ⟨_, Heap.get?_update_self _ hoD' rfl, us'.set j z, m'', hm, (hr'.mono L).set (r₄.mono L)⟩) rfl rfl
  exact k g₅ _ (L₁.tr (L₂.tr (L₃.tr (L₄.tr L₅)))) H₅
end
set_option maxHeartbeats 1000000
noncomputable def runB {σ : Type} (step : σ → σ × Bool) : Nat → σ → σ
  | 0, a => a
  | k + 1, a => if (step a).2 = true then (step a).1 else runB step k (step a).1
section
variable {w : World} {os : Ext} {n : Nat} {env : Env} {M M' : Led} {pos pos' : Pos}
theorem rngIter {m : Int} (hm : m < 2 ^ 62) (hm0 : -(2 ^ 62) ≤ m) {A : Around} {g : Heap} {s : Shared} {Q : Value → Shared → Prop} {x : Value} (H : HS w os g M s) (r : Rd g x (.rng m))
    (k : ∀ I g' s', Le g g' → HS w os g' ((I, rit m.toNat 0) :: M) s' → Q (.ref I) s') : wpAny (model PRG w) A (pyIter x) Q NoE s := by
  cases r with | @rng l _ t u x hl =>
  refine wpAny_pyIter_range (s := s) (r := l) (a := 0) (b := m) (c := 1) (t := t) (u := u) (v := x) (H.keep _ _ hl) (small_one (by omega) (by omega) (by omega) hm) ?_
  have hsz : Builtin.Range.rangeSize 0 m 1 = (m.toNat : Int) := by rw [rangeSize_one]; split <;> omega
  rw [hsz]
  obtain ⟨g', L, H'⟩ := pushEnt (e := rit m.toNat 0) (tk := s.toks) H { cls := .type "range_iterator", data := .fields #[rawInt 0, rawInt (m.toNat : Int), rawInt 1] } rfl fun _ _ => by show _ = _; simp
  exact k _ g' _ L H'
theorem rngItem {I : Addr} {q i : Nat} {A : Around} {g : Heap} {s : Shared} {Q : Option Value → Shared → Prop} (H : HS w os g ((I, rit q i) :: M) s) (hi : i < q)
    (k : ∀ v g' s', Le g g' → HS w os g' ((I, rit q (i + 1)) :: M) s' → Rd g' v (.int (i : Nat)) → Q (some v) s') : wpAny (model PRG w) A (pyNext (.ref I)) Q NoE s := by
  obtain ⟨o, ho, h1⟩ := H.headIs
  subst h1
  refine wpAny_pyNext_range_item (x := (i : Int)) (left := (q : Int) - i) (step := 1) ho (by omega) fun h' hi' hs => ?_
  obtain ⟨g₂, L₂, H₂⟩ := H.sameBut (e' := rit q (i + 1)) (tk := s.toks + 1) hs fun _ _ => ⟨_, hi', by
    show ({ cls := .type "range_iterator", data := .fields #[rawInt ((i : Int) + 1), rawInt ((q : Int) - i - 1), rawInt 1] } : Obj) = _
    have e1 : ((i : Int) + 1) = ((i + 1 : Nat) : Int) := by omega
    have e2 : ((q : Int) - i - 1) = (q : Int) - ((i + 1 : Nat) : Int) := by omega
    rw [e1, e2]⟩
  exact k _ g₂ _ L₂ H₂ (.int _ _)
theorem rngStop {I : Addr} {q : Nat} {A : Around} (hh : A.handled = .none) {g : Heap} {s : Shared} {Q : Option Value → Shared → Prop} (H : HS w os g ((I, rit q q) :: M) s)
    (k : ∀ g' s', Le g g' → HS w os g' M s' → Q .none s') : wpAny (model PRG w) A (pyNext (.ref I)) Q NoE s := by
  obtain ⟨o, ho, h1⟩ := H.headIs
  subst h1
  refine wpAny_pyNext_range_end hh ho (by simp) fun h' hs => ?_
  obtain ⟨g₂, L₂, H₂⟩ := H.dropHead hs
  exact k g₂ _ L₂ H₂
theorem X.forBrk {σ : Type} {x : Str} {px : Pos} {iter : Expr} {body rest : List Stmt} {N : Nat} {MI : σ → Led} {MA : σ → Nat → Led} {step : σ → σ × Bool} {St : Nat → σ → Prop} {a₀ : σ} (hsrc : PE w os n env (MI a₀) iter (.rng N)) (hN : N ≤ 10000) (hfs : ∀ v, foldedSetIterable iter env v = pure v)
    (hn : ∀ os' a i t, SN w os' env (t :: MI a) x (.int (i : Nat)) (t :: MA a i))
    (hb : ∀ a i t os' (A : Around), Rm A n → ∀ (g : Heap) (s : Shared) (Q : Flow → Shared → Prop), i < N → St i a → HS w os' g (t :: MA a i) s →
      (∀ os'' g' s', Xt os' os'' → Le g g' → HS w os'' g' (t :: MI (step a).1) s' → Q (if (step a).2 = true then .brk else .next) s') → wpAny (model PRG w) A (execs body env) Q NoE s)
    (hS : ∀ i a, i < N → St i a → (step a).2 = false → St (i + 1) (step a).1) (h₀ : St 0 a₀)
    {A : Around} (rm : Rm A n) {g : Heap} {s : Shared} {Q : Flow → Shared → Prop} (H : HS w os g (MI a₀) s)
    (k : ∀ os' g' s', Xt os os' → Le g g' → HS w os' g' (MI (runB step N a₀)) s' → True → wpAny (model PRG w) A (execs rest env) Q NoE s') :
    wpAny (model PRG w) A (execs (.For (.Name x px) iter body [] pos :: rest) env) Q NoE s := by
  refine wpAny_execs_cons (wpAny_For (hsrc A rm g s _ H fun v g₁ s₁ L₁ H₁ r₁ => ?_) hfs)
  refine rngIter (by omega) (by omega) H₁ r₁ fun I g₂ s₂ L₂ H₂ => ?_
  rw [Int.toNat_natCast] at H₂
  refine forLoopG (fun m s' => ∃ os' g' i a, m = N - i ∧ i ≤ N ∧ St i a ∧ runB step (N - i) a = runB step N a₀ ∧ Xt os os' ∧ Le g₂ g' ∧ HS w os' g' ((I, rit N i) :: MI a) s') ?_ N ⟨os, g₂, 0, a₀, by simp, by simp, h₀, by simp, Xt.rfl, Le.rfl, H₂⟩
  rintro m s' ⟨os', g', i, a, rfl, hi, ha, hrun, X', L', H'⟩
  by_cases hlt : i < N
  · refine rngItem H' hlt fun v g₃ s₃ L₃ H₃ r₃ => ?_
    obtain ⟨o, ho, h1⟩ := H₃.headIs
    subst h1
    refine noTup_of ho rfl (by decide) ?_
    refine wpAny_assign_Name (hn os' a i _ A g₃ s₃ _ v H₃ r₃ fun g₄ s₄ L₄ H₄ => ?_)
    refine hb a i _ os' A rm g₄ s₄ _ hlt ha H₄ fun os'' g₅ s₅ X₅ L₅ H₅ => ?_
    have hstep : runB step (N - i) a = if (step a).2 = true then (step a).1 else runB step (N - (i + 1)) (step a).1 := by
      rw [show N - i = (N - (i + 1)) + 1 by omega]; rfl
    cases hbk : (step a).2 with
    | true =>
      rw [if_pos rfl]
      rw [hbk, if_pos rfl] at hstep
      rw [hstep] at hrun
      obtain ⟨g₆, L₆, H₆, -⟩ := H₅.drop (M' := MI (step a).1) (List.sublist_cons_self _ _)
      rw [hrun] at H₆
      exact k os'' g₆ s₅ (X'.tr X₅) (L₁.tr (L₂.tr (L'.tr (L₃.tr (L₄.tr (L₅.tr L₆)))))) H₆ trivial
    | false =>
      rw [if_neg (by decide)]
      rw [hbk, if_neg (by decide)] at hstep
      exact ⟨N - (i + 1), by omega, os'', g₅, i + 1, (step a).1, rfl, hlt, hS i a hlt ha hbk, hstep.symm.trans hrun, X'.tr X₅, L'.tr (L₃.tr (L₄.tr L₅)), H₅⟩
  · have hi' : i = N := by omega
    subst hi'
    refine rngStop rm.hd H' fun g₃ s₃ L₃ H₃ => wpAny_execs_nil ?_
    have : runB step (i - i) a = a := by rw [Nat.sub_self]; rfl
    rw [this] at hrun
    rw [hrun] at H₃
    exact k os' g₃ s₃ X' (L₁.tr (L₂.tr (L'.tr L₃))) H₃ trivial
end
set_option maxHeartbeats 1000000
section
variable {w : World} {os : Ext} {n : Nat} {M M' : Led} {env : Env} {pos : Pos}
theorem instD {d : Desk} {signs : List Nat} {ln : Int} {pb : List Str} {B N : Led} : (d.I, instE 115 d.dI) ∈ B ++ (deskL d signs ln pb ++ N) := List.mem_append_right _ (List.mem_append_left _ (List.mem_of_getElem? (i := 3) rfl))
theorem dictD {d : Desk} {signs : List Nat} {ln : Int} {pb : List Str} {B N : Led} : (d.dI, Ent.dict [("lineno", .int ln), ("instream", .val (.ref d.T)), ("whitespace", .str wsp), ("pushback", .val (.ref d.P))]) ∈ B ++ (deskL d signs ln pb ++ N) := List.mem_append_right _ (List.mem_append_left _ (List.mem_of_getElem? (i := 1) rfl))
theorem PEX.push {o e : Expr} {apos : Pos} {d : Desk} {signs : List Nat} {ln : Int} {pb : List Str} {x : Str} {B N : Led} (hM : M = B ++ (deskL d signs ln pb ++ N)) (hM' : M' = B ++ (deskL d signs ln (pb ++ [x]) ++ N)) (ho : PE w os (n + 2) env M o (.val (.ref d.I))) (he : PE w os (n + 2) env M e (.str x)) (hz : pb.length ≤ 1000) {pl : Sem Bool}
    (hs : starEach [e] env = (false, eval e env) :: starEach [] env)
    (hev : eval (.Call (.Attribute o "push_token" apos) [e] [] pos) env = (do
      let ov ← eval o env
      standAt apos.atName
      let (f, first) ← holding [ov] (getMethod ov "push_token" pl)
      callWith pos f first (backTo pos (starEach [e] env)) [])) :
    PEX w os (n + 2) env M (.Call (.Attribute o "push_token" apos) [e] [] pos) .none M' := by
  subst hM hM'
  exact PEX.methF (f := 112) (C := 115) (dx := d.dI) ho instD dictD (PL.cons he PL.nil hs) (OPM.under (fun N => push_ok (n := n) hz) B N) (by rfl) (by walk_at "kis") (by walk_at "kis") (by walk_at "kis") (by walk_at "kis") (by walk_at "kis") hs (by rfl) hev
theorem PEX.getpb {o : Expr} {apos : Pos} {d : Desk} {signs : List Nat} {ln : Int} {pb : List Str} {x : Str} {B N : Led} (hM : M = B ++ (deskL d signs ln (x :: pb) ++ N)) (hM' : M' = B ++ (deskL d signs ln pb ++ N)) (ho : PE w os (n + 6) env M o (.val (.ref d.I))) (hz : pb.length ≤ 1000) {pl : Sem Bool}
    (hev : eval (.Call (.Attribute o "get_token" apos) [] [] pos) env = (do
      let ov ← eval o env
      standAt apos.atName
      let (f, first) ← holding [ov] (getMethod ov "get_token" pl)
      callWith pos f first (backTo pos (starEach [] env)) [])) :
    PEX w os (n + 6) env M (.Call (.Attribute o "get_token" apos) [] [] pos) (.str x) M' := by
  subst hM hM'
  exact PEX.methF0 (f := 105) (C := 115) (dx := d.dI) ho instD dictD (OPM.under (fun N => getpb_ok (n := n) hz) B N) (by rfl) (by walk_at "kis") (by walk_at "kis") (by walk_at "kis") (by walk_at "kis") (by walk_at "kis") hev
theorem PEX.get {o : Expr} {apos : Pos} {d : Desk} {signs : List Nat} {ln : Int} {kf : Nat} {B N : Led} (hM : M = B ++ (deskL d signs ln [] ++ N)) (hM' : M' = B ++ (deskL d (lexG kf signs ln).2.1 (lexG kf signs ln).2.2 [] ++ N)) (ho : PE w os (n + 6) env M o (.val (.ref d.I))) (hz : signs.length ≤ 1000) (hkf : signs.length ≤ kf) {pl : Sem Bool}
    (hev : eval (.Call (.Attribute o "get_token" apos) [] [] pos) env = (do
      let ov ← eval o env
      standAt apos.atName
      let (f, first) ← holding [ov] (getMethod ov "get_token" pl)
      callWith pos f first (backTo pos (starEach [] env)) [])) :
    PEX w os (n + 6) env M (.Call (.Attribute o "get_token" apos) [] [] pos) (.str (tkS (lexG kf signs ln).1)) M' := by
  subst hM hM'
  exact PEX.methF0 (f := 105) (C := 115) (dx := d.dI) ho instD dictD (OPM.under (fun N => get_ok (n := n) hz hkf) B N) (by rfl) (by walk_at "kis") (by walk_at "kis") (by walk_at "kis") (by walk_at "kis") (by walk_at "kis") hev
theorem instH {h : Hdr} {rows : List (Nat × Nat)} {B N : Led} : (h.T, instE 263 h.dT) ∈ B ++ (hdrL h rows ++ N) := List.mem_append_right _ (List.mem_append_left _ (List.mem_of_getElem? (i := 2) rfl))
theorem dictH {h : Hdr} {rows : List (Nat × Nat)} {B N : Led} : (h.dT, Ent.dict [("_headers", .val (.ref h.D))]) ∈ B ++ (hdrL h rows ++ N) := List.mem_append_right _ (List.mem_append_left _ (List.mem_of_getElem? (i := 1) rfl))
theorem PE.getall {o e : Expr} {apos : Pos} {h : Hdr} {rows : List (Nat × Nat)} {c : Nat} {B N : Led} (hM : M = B ++ (hdrL h rows ++ N)) (hr : okRows rows) (hc : okc true c) (ho : PE w os (n + 2) env M o (.val (.ref h.T))) (he : PE w os (n + 2) env M e (.str (ch1 c))) {pl : Sem Bool}
    (hs : starEach [e] env = (false, eval e env) :: starEach [] env)
    (hev : eval (.Call (.Attribute o "get_all" apos) [e] [] pos) env = (do
      let ov ← eval o env
      standAt apos.atName
      let (f, first) ← holding [ov] (getMethod ov "get_all" pl)
      callWith pos f first (backTo pos (starEach [e] env)) [])) :
    PE w os (n + 2) env M (.Call (.Attribute o "get_all" apos) [e] [] pos) (.list ((under rows c).map fun x => .str (ch1 x))) := by
  subst hM
  exact (PEX.methF (f := 202) (C := 263) (dx := h.dT) ho instH dictH (PL.cons he PL.nil hs) (OPM.under (D := hdrL h rows) (D' := hdrL h rows) (fun N => (getall_ok (n := n) hr hc).m) B N) (by rfl) (by walk_at "kis") (by walk_at "kis") (by walk_at "kis") (by walk_at "kis") (by walk_at "kis") hs (by rfl) hev).pe
theorem PEX.add {o e1 e2 : Expr} {apos : Pos} {h : Hdr} {rows : List (Nat × Nat)} {c x : Nat} {B N : Led} (hM : M = B ++ (hdrL h rows ++ N)) (hM' : M' = B ++ (hdrL h (rows ++ [(c, x)]) ++ N)) (hr : okRows rows) (hl : rows.length ≤ 900) (hc : okc true c) (hx : okc false x)
    (ho : PE w os (n + 2) env M o (.val (.ref h.T))) (he : PL w os (n + 2) env M pos [e1, e2] [.str (ch1 c), .str (ch1 x)]) {pl : Sem Bool}
    (hs : starEach [e1, e2] env = (false, eval e1 env) :: starEach [e2] env) (hp : (backTo pos (starEach [e2] env)).any (·.1) = false)
    (hev : eval (.Call (.Attribute o "add_header" apos) [e1, e2] [] pos) env = (do
      let ov ← eval o env
      standAt apos.atName
      let (f, first) ← holding [ov] (getMethod ov "add_header" pl)
      callWith pos f first (backTo pos (starEach [e1, e2] env)) [])) :
    PEX w os (n + 2) env M (.Call (.Attribute o "add_header" apos) [e1, e2] [] pos) .none M' := by
  subst hM hM'
  exact PEX.methF (f := 260) (C := 263) (dx := h.dT) ho instH dictH he (OPM.under (fun N => add_ok (n := n) hr hl hc hx) B N) (by rfl) (by walk_at "kis") (by walk_at "kis") (by walk_at "kis") (by walk_at "kis") (by walk_at "kis") hs hp hev
theorem assign_four {x y z u : Str} {px py pz pu tp : Pos} {k₁ : Nat} {p q r t : PV} {M₁ M₂ M₃ : Led} (hx : SN w os env M x p M₁) (hy : SN w os env M₁ y q M₂) (hz : SN w os env M₂ z r M₃) (hu : SN w os env M₃ u t M') {A : Around} (hh : A.handled = .none) {g : Heap} {s : Shared} {Q : Unit → Shared → Prop} {v : Value}
    (H : HS w os g M s) (rv : Rd g v (.tup [p, q, r, t])) (k : ∀ g' s', Le g g' → HS w os g' M' s' → Q () s') :
    wpAny (model PRG w) A (assign (.Tuple [.Name x px, .Name y py, .Name z pz, .Name u pu] k₁ tp) env v) Q NoE s := by
  cases rv with | @tup t vs _ ht hr =>
  cases hr with | @cons v₁ _ _ _ r₁ hr =>
  cases hr with | @cons v₂ _ _ _ r₂ hr =>
  cases hr with | @cons v₃ _ _ _ r₃ hr =>
  cases hr with | @cons v₄ _ _ _ r₄ hr =>
  cases hr
  refine wpAny_assign_Tuple hh (isTuple_le H.keep ht) rfl rfl fun h' he => ?_
  have hk : Le s.heap h' := fun b o e => he b o (Nat.ne_of_lt (Heap.lt_size e)) e
  obtain ⟨g₁, L₁, H₁⟩ := H.grow' (s' := { s with heap := h' }) hk rfl rfl
  refine wpAny_assignInOrder_more (wpAny_assign_Name (hx A g₁ _ _ v₁ H₁ (r₁.mono L₁) fun g₂ s₂ L₂ H₂ => ?_))
  refine wpAny_assignInOrder_more (wpAny_assign_Name (hy A g₂ s₂ _ v₂ H₂ (r₂.mono (L₁.tr L₂)) fun g₃ s₃ L₃ H₃ => ?_))
  refine wpAny_assignInOrder_more (wpAny_assign_Name (hz A g₃ s₃ _ v₃ H₃ (r₃.mono (L₁.tr (L₂.tr L₃))) fun g₄ s₄ L₄ H₄ => ?_))
  refine wpAny_assignInOrder_more (wpAny_assign_Name (hu A g₄ s₄ _ v₄ H₄ (r₄.mono (L₁.tr (L₂.tr (L₃.tr L₄)))) fun g₅ s₅ L₅ H₅ => ?_))
  exact wpAny_assignInOrder_none (k g₅ s₅ (L₁.tr (L₂.tr (L₃.tr (L₄.tr L₅)))) H₅)
end
set_option maxHeartbeats 1000000
structure TS where
  (rows : List (Nat × Nat)) (pb : List Nat) (left : List Int) (taken wrongs : Nat)
structure TP where
  (ps : List Int) (bank : Nat) (nms : List Nat) (piece t0 t1 : Str) (back : Bool)
noncomputable def undI (rows : List (Nat × Nat)) (c : Nat) : List Nat := (rows.filter fun r => lowc r.1 == lowc c).map (·.2)
noncomputable def TS.ring (a : TS) (i : Nat) : Nat := a.pb.getD i 0
noncomputable def TS.crowd (a : TS) (i : Nat) : List Nat := undI a.rows (a.ring i)
noncomputable def TS.told (a : TS) : Bool := !(a.crowd 0).isEmpty && (decide ((a.crowd 0 ++ a.crowd 1).length > 1) && (a.crowd 3).isEmpty)
noncomputable def TS.stops (a : TS) : Bool := a.told && decide (a.left.sum < ((a.crowd 1 ++ a.crowd 2 ++ a.crowd 2).length : Int))
noncomputable def TS.hd0 (a : TS) : Nat := (a.crowd 0).headD 0
noncomputable def TS.rot (a : TS) : List Nat := [a.ring 1, a.ring 2, a.ring 3, a.ring 0]
noncomputable def stepT (a : TS) : TS × Bool :=
  if a.stops = true then ({ a with pb := [], wrongs := a.wrongs + 1 }, true)
  else if a.told = true then ({ rows := (a.rows.filter fun r => lowc r.1 != lowc (upc (a.ring 0))) ++ (a.crowd 0).tail.map (fun i => (a.ring 0, i)) ++ [(upc (a.ring 3), a.hd0)], pb := a.rot, left := a.left.set a.hd0 (a.left.getD a.hd0 0 - 1), taken := a.taken + 1, wrongs := a.wrongs + 1 }, false)
  else ({ a with pb := a.rot, wrongs := a.wrongs + 1 }, false)
noncomputable def TP.nm (P : TP) (i : Nat) : Nat := P.nms.getD i 0
noncomputable def TP.rowsN (P : TP) (rows : List (Nat × Nat)) : List (Nat × Nat) := rows.map fun r => (r.1, P.nm r.2)
noncomputable def TP.part (P : TP) (row : List Nat) : Str := if P.back = true then "(" ++ joinE (row.map fun i => ")\\" ++ ch1 (P.nm i)) else joinE (row.map fun i => "(\\" ++ ch1 (P.nm i)) ++ ")"
noncomputable def TP.parts (P : TP) (a : TS) : List Str := if P.back = true then [P.part (a.crowd 2), P.part (a.crowd 1), P.part (a.crowd 0)] else [P.part (a.crowd 0), P.part (a.crowd 1), P.part (a.crowd 2)]
noncomputable def TP.text (P : TP) (a : TS) : Str := (P.parts a).getD 0 "" ++ P.piece ++ (P.parts a).getD 1 "" ++ P.t0 ++ (P.parts a).getD 2 "" ++ P.t1
structure Gd (P : TP) (a : TS) : Prop where
  rows : ∀ r ∈ a.rows, okc true r.1 ∧ r.2 < 4
  len : a.rows.length ≤ 100
  pb : ∃ r0 r1 r2 r3, a.pb = [r0, r1, r2, r3] ∧ okc true r0 ∧ okc true r1 ∧ okc true r2 ∧ okc true r3
  left : ∃ x0 x1 x2 x3, a.left = [x0, x1, x2, x3] ∧ ∀ x ∈ a.left, -2000 ≤ x ∧ x ≤ 2000
  wr : a.wrongs ≤ 500
  chk : chkS (P.text a) = a.told
  asc : (P.text a).cps.all (· < 128) = true
  asc' : (stripS (P.text a)).cps.all (· < 128) = true
  sz : (P.text a).length ≤ 500
structure Ok (P : TP) : Prop where
  ps : ∃ x0 x1 x2 x3, P.ps = [x0, x1, x2, x3] ∧ ∀ x ∈ P.ps, -1000 ≤ x ∧ x ≤ 1000
  bank : P.bank < 4
  nms : ∃ c0 c1 c2 c3, P.nms = [c0, c1, c2, c3]
  okn : ∀ i, i < 4 → okc false (P.nm i)
  inj : ∀ i j, i < 4 → j < 4 → P.nm i = P.nm j → i = j
  piece : P.piece.length ≤ 20
  t0 : P.t0.length ≤ 20
  t1 : P.t1.length ≤ 20
noncomputable def TP.letter (P : TP) (ps : List Int) (k : Nat) : Nat := 97 + (Int.fmod (ps.getD k 0 - ps.getD P.bank 0) 4).toNat
noncomputable def TP.rows0 (P : TP) (i : Nat) : List (Nat × Nat) := ((List.range i).filter (· != P.bank)).map fun k => (P.letter P.ps k, k)
noncomputable def TP.start (P : TP) : TS := ⟨P.rows0 4, [97, 98, 99, 100], P.ps, 0, 0⟩
noncomputable def TP.N (P : TP) : Nat := 8 + P.ps.sum.toNat
noncomputable def TP.fin (P : TP) : TS := runB stepT P.N P.start
noncomputable def TP.bad (P : TP) (a : TS) (k : Nat) : Bool := (k != P.bank) && !((undI a.rows (P.letter a.left k)).contains k)
noncomputable def TP.good (P : TP) (a : TS) : Bool := decide (a.rows.length = 3) && (hopelessI a.left && !(List.range 4).any (P.bad a))
noncomputable def Reach (a₀ : TS) : Nat → TS → Prop
  | 0, a => a = a₀
  | i + 1, b => ∃ a, Reach a₀ i a ∧ (stepT a).2 = false ∧ b = (stepT a).1
structure Fd (P : TP) (a : TS) : Prop where
  rows : ∀ r ∈ a.rows, okc true r.1 ∧ r.2 < 4
  len : a.rows.length ≤ 100
  left : ∃ x0 x1 x2 x3, a.left = [x0, x1, x2, x3] ∧ ∀ x ∈ a.left, -2000 ≤ x ∧ x ≤ 2000
  wr : a.wrongs ≤ 500
section
variable {w : World} {os : Ext} {n : Nat} {M M' : Led} {env : Env} {pos : Pos}
theorem und_map (P : TP) (rows : List (Nat × Nat)) (c : Nat) : under (P.rowsN rows) c = (undI rows c).map P.nm := by
  unfold under undI TP.rowsN
  induction rows with
  | nil => rfl
  | cons r rows ih =>
    simp only [List.map_cons, List.filter_cons]
    cases lowc r.1 == lowc c with
    | true => simp only [if_true, List.map_cons]; rw [ih]
    | false => simp only [Bool.false_eq_true, if_false]; exact ih
theorem okRowsN {P : TP} (hP : Ok P) {rows : List (Nat × Nat)} (hr : ∀ r ∈ rows, okc true r.1 ∧ r.2 < 4) (hl : rows.length ≤ 100) : okRows (P.rowsN rows) := by
  refine ⟨fun r h => ?_, by unfold TP.rowsN; rw [List.length_map]; omega⟩
  obtain ⟨q, hq, rfl⟩ := List.mem_map.mp h
  exact ⟨(hr q hq).1, hP.okn _ (hr q hq).2⟩
noncomputable def frT (P : TP) (Lf W : Addr) (h : Hdr) (taken : Nat) : List (Str × PV) :=
  [("left", .val (.ref Lf)), ("given", .val (.ref h.D)), ("taken", .int (taken : Nat)), ("wrong", .val (.ref W)), ("purses", .list (P.ps.map .int)), ("bank", .int (P.bank : Nat)), ("names", .list (P.nms.map fun c => .str (ch1 c))), ("piece", .str P.piece), ("tail", .tup [.str P.t0, .str P.t1]), ("back", .bool P.back)]
noncomputable def MTv (P : TP) (L cT cD Lf W : Addr) (h : Hdr) (d : Desk) (signs : List Nat) (ln : Int) (N : Led) (vars : List (Str × PV)) (a : TS) : Led :=
  (L, .frame vars) :: (cT, .cell (some (.val (.ref h.T)))) :: (cD, .cell (some (.val (.ref d.I)))) :: (Lf, .list (a.left.map .int)) :: (W, .list (List.replicate a.wrongs (.bool false))) :: (hdrL h (P.rowsN a.rows) ++ (deskL d signs ln (a.pb.map ch1) ++ N))
noncomputable def MT (P : TP) (L cT cD Lf W : Addr) (h : Hdr) (d : Desk) (signs : List Nat) (ln : Int) (N : Led) (a : TS) : Led := MTv P L cT cD Lf W h d signs ln N (frT P Lf W h a.taken) a
noncomputable def namesT : List Str := ["left", "given", "taken", "wrong", "purses", "bank", "names", "piece", "tail", "back"]
theorem frT_self {P : TP} {Lf W : Addr} {h : Hdr} {taken : Nat} : ∀ y ∈ frT P Lf W h taken, (frT P Lf W h taken).lookup y.1 = some y.2 :=
  wv_cons (by rfl) (wv_cons (by rfl) (wv_cons (by rfl) (wv_cons (by rfl) (wv_cons (by rfl) (wv_cons (by rfl) (wv_cons (by rfl) (wv_cons (by rfl) (wv_cons (by rfl) (wv_cons (by rfl) wv_nil)))))))))
theorem frT_names {P : TP} {Lf W : Addr} {h : Hdr} {taken : Nat} : ∀ y ∈ frT P Lf W h taken, y.1 ∈ namesT := fun y hy => by
  have : (frT P Lf W h taken).map (·.1) = namesT := rfl
  rw [← this]; exact List.mem_map_of_mem hy
theorem frT_pre {P : TP} {Lf W : Addr} {h : Hdr} {taken : Nat} : ∀ {pre : List (Str × PV)}, ((pre.map (·.1)).all fun x => !namesT.contains x) = true → ∀ y ∈ frT P Lf W h taken, (pre ++ frT P Lf W h taken).lookup y.1 = some y.2
  | [], _, y, hy => frT_self y hy
  | q :: pre, hp, y, hy => by
    rw [List.map_cons, List.all_cons, Bool.and_eq_true] at hp
    rw [List.cons_append, List.lookup_cons]
    have hne : (y.1 == q.1) = false := by
      apply beq_eq_false_iff_ne.mpr
      intro e
      have h1 := frT_names y hy
      rw [e] at h1
      have h2 := hp.1
      rw [List.contains_iff_mem.mpr h1] at h2
      cases h2
    rw [hne]
    exact frT_pre hp.2 y hy
theorem MT_weak {P : TP} {L cT cD Lf W : Addr} {h : Hdr} {d : Desk} {signs : List Nat} {ln : Int} {N : Led} {vars : List (Str × PV)} {a : TS} {t : Addr × Ent} {g : Heap} {s : Shared} (H : HS w os g (t :: MTv P L cT cD Lf W h d signs ln N vars a) s) (hv : ∀ y ∈ frT P Lf W h a.taken, vars.lookup y.1 = some y.2) : HS w os g (t :: MT P L cT cD Lf W h d signs ln N a) s :=
  H.weaken (i := 1) (a := L) rfl hv
theorem SS.weakT {P : TP} {L cT cD Lf W : Addr} {h : Hdr} {d : Desk} {signs : List Nat} {ln : Int} {N : Led} {vars : List (Str × PV)} {a : TS} {t : Addr × Ent} {ss : List Stmt} (hs : SS w os n env M ss (t :: MTv P L cT cD Lf W h d signs ln N vars a)) (hv : ∀ y ∈ frT P Lf W h a.taken, vars.lookup y.1 = some y.2) :
    SS w os n env M ss (t :: MT P L cT cD Lf W h d signs ln N a) := fun A rm g s Q H k => hs A rm g s Q H fun g' s' L' H' => k g' s' L' (MT_weak H' hv)
theorem rows0_succ (P : TP) (i : Nat) : P.rows0 (i + 1) = P.rows0 i ++ (if (i != P.bank) = true then [(P.letter P.ps i, i)] else []) := by
  unfold TP.rows0
  rw [List.range_succ, List.filter_append, List.map_append, List.filter_cons, List.filter_nil]
  split <;> rfl
theorem letter_ok {P : TP} {ps : List Int} {k : Nat} : okc true (P.letter ps k) := by
  unfold TP.letter
  have h1 := Int.fmod_eq_emod_of_nonneg (ps.getD k 0 - ps.getD P.bank 0) (show (0 : Int) ≤ 4 by decide)
  rw [h1]
  have h2 := Int.emod_nonneg (ps.getD k 0 - ps.getD P.bank 0) (show (4 : Int) ≠ 0 by decide)
  have h3 := Int.emod_lt_of_pos (ps.getD k 0 - ps.getD P.bank 0) (show (0 : Int) < 4 by decide)
  generalize (ps.getD k 0 - ps.getD P.bank 0) % 4 = z at h2 h3
  have : z = 0 ∨ z = 1 ∨ z = 2 ∨ z = 3 := by omega
  unfold okc
  rw [if_pos rfl]
  rcases this with rfl | rfl | rfl | rfl <;> decide
theorem rows0_ok (P : TP) (i : Nat) (hi : i ≤ 4) : (∀ r ∈ P.rows0 i, okc true r.1 ∧ r.2 < 4) ∧ (P.rows0 i).length ≤ 4 := by
  unfold TP.rows0
  refine ⟨fun r hr => ?_, ?_⟩
  · obtain ⟨q, hq, rfl⟩ := List.mem_map.mp hr
    exact ⟨letter_ok, by have := List.mem_range.mp (List.mem_filter.mp hq).1; dsimp only; omega⟩
  · rw [List.length_map]
    have := List.length_filter_le (fun x => x != P.bank) (List.range i)
    rw [List.length_range] at this; omega
theorem ps_get {l : List Int} {i : Nat} (h : i < l.length) : (l.map PV.int)[i]? = some (.int (l.getD i 0)) := by
  rw [List.getElem?_map, List.getElem?_eq_getElem h, List.getD_eq_getElem?_getD, List.getElem?_eq_getElem h]; rfl
theorem nm_get {l : List Nat} {i : Nat} (h : i < l.length) : (l.map fun c => PV.str (ch1 c))[i]? = some (.str (ch1 (l.getD i 0))) := by
  rw [List.getElem?_map, List.getElem?_eq_getElem h, List.getD_eq_getElem?_getD, List.getElem?_eq_getElem h]; rfl
theorem fmod4 (z : Int) : 0 ≤ Int.fmod z 4 ∧ Int.fmod z 4 < 4 := by
  have h1 := Int.fmod_eq_emod_of_nonneg z (show (0 : Int) ≤ 4 by decide)
  rw [h1]; omega
theorem abcd {j : Nat} (h : j < 4) : Txt.item "abcd" (j : Int) = ch1 (97 + j) := by
  have : j = 0 ∨ j = 1 ∨ j = 2 ∨ j = 3 := by omega
  rcases this with rfl | rfl | rfl | rfl <;> rfl
theorem ABCD {j : Nat} (h : j < 4) : Txt.item "ABCD" (j : Int) = ch1 (65 + j) := by
  have : j = 0 ∨ j = 1 ∨ j = 2 ∨ j = 3 := by omega
  rcases this with rfl | rfl | rfl | rfl <;> rfl
theorem PE.spot {l1 l2 k b : Expr} {p1 p2 p3 p4 p5 : Pos} {kk : Nat} {p : PV} {l : List Int} {i bank : Nat} (h1 : PE w os n env M l1 p) (h2 : PE w os n env M l2 p) (hl : LV w os M p (l.map .int)) (hk : PE w os n env M k (.int (i : Nat))) (hb : PE w os n env M b (.int (bank : Nat))) (hi : i < l.length) (hbk : bank < l.length) (hz : l.length ≤ 1000)
    (hs1 : ∀ o q, subscripted k false o q = operate [o, q] (getItem o q)) (hs2 : ∀ o q, subscripted b false o q = operate [o, q] (getItem o q)) :
    PE w os n env M (.BinOp (.BinOp (.Subscript l1 k p1) .Sub (.Subscript l2 b p2) p3) .Mod (.Constant (.int 4) kk p4) p5) (.int ((Int.fmod (l.getD i 0 - l.getD bank 0) 4).toNat : Nat)) := by
  refine PE.as (PE.bin (PE.bin (PE.itemL h1 hl hk (ps_get hi) (by rw [List.length_map]; omega) hs1) (PE.itemL h2 hl hb (ps_get hbk) (by rw [List.length_map]; omega) hs2) OP.sub_int) PE.cint (OP.mod_int (by decide))) ?_
  congr 1
  have := fmod4 (l.getD i 0 - l.getD bank 0)
  omega
theorem joinE_len {B : Nat} : ∀ {xs : List Str}, (∀ y ∈ xs, y.length ≤ B) → (joinE xs).length ≤ B * xs.length
  | [], _ => by simp [joinE, Str.length]
  | x :: xs, h => by
    have h1 := joinE_len (xs := xs) fun y hy => h y (.tail _ hy)
    have h2 := h x (.head _)
    have e : (joinE (x :: xs)).length = x.length + (joinE xs).length := by simp [joinE, Str.length]
    rw [e, List.length_cons, Nat.mul_add, Nat.mul_one]; omega
theorem len3 (a b c : Nat) : ((⟨#[a, b]⟩ : Str) ++ ch1 c).length ≤ 3 := by
  show (3 : Nat) ≤ 3; exact Nat.le_refl _
theorem undI_len (rows : List (Nat × Nat)) (c : Nat) : (undI rows c).length ≤ rows.length := by
  unfold undI
  rw [List.length_map]
  exact List.length_filter_le _ _
noncomputable def cwP (P : TP) (row : List Nat) : PV := .list (row.map fun i => .str (ch1 (P.nm i)))
theorem PE.neg {e : Expr} {i : Int} (h : PE w os n env M e (.int i)) : PE w os n env M (.UnaryOp .USub e pos) (.int (-i)) := fun A rm g s Q H k =>
  wpAny_UnaryOp (h A rm g s _ H fun v g₁ s₁ L₁ H₁ r₁ => by cases r₁; exact PyProof.Rows.neg_int (k _ g₁ _ L₁ (H₁.toks _) (.int _ _)))
theorem OPX.le {t : List Value → Sem Value} {ps : List PV} {r : PV} {a b : Nat} (h : OPX w os a M t ps r) (hab : a ≤ b) : OPX w os b M t ps r := fun A rm g s Q vs H rr k => h A (rm.le hab) g s Q vs H rr k
theorem app_len (a b : Str) : (a ++ b).length = a.length + b.length := by
  show (a.cps ++ b.cps).size = _
  simp [Str.length]
theorem parts_get (P : TP) (a : TS) {j : Nat} (hj : j < 3) : ((P.parts a).map PV.str)[j]? = some (.str ((P.parts a).getD j "")) := by
  have h3 : (P.parts a).length = 3 := by unfold TP.parts; split <;> rfl
  rw [List.getElem?_map, List.getElem?_eq_getElem (by omega), List.getD_eq_getElem?_getD, List.getElem?_eq_getElem (by omega)]; rfl
theorem MT_weakV {P : TP} {L cT cD Lf W : Addr} {h : Hdr} {d : Desk} {signs : List Nat} {ln : Int} {N : Led} {vars vars' : List (Str × PV)} {a : TS} {t : Addr × Ent} {g : Heap} {s : Shared} (H : HS w os g (t :: MTv P L cT cD Lf W h d signs ln N vars a) s) (hv : ∀ y ∈ vars', vars.lookup y.1 = some y.2) : HS w os g (t :: MTv P L cT cD Lf W h d signs ln N vars' a) s :=
  H.weaken (i := 1) (a := L) rfl hv
theorem SS.weakV {P : TP} {L cT cD Lf W : Addr} {h : Hdr} {d : Desk} {signs : List Nat} {ln : Int} {N : Led} {vars vars' : List (Str × PV)} {a : TS} {t t' : Addr × Ent} {ss : List Stmt} (hs : SS w os n env M ss (t' :: t :: MTv P L cT cD Lf W h d signs ln N vars a)) (hv : ∀ y ∈ vars', vars.lookup y.1 = some y.2) :
    SS w os n env M ss (t' :: t :: MTv P L cT cD Lf W h d signs ln N vars' a) := fun A rm g s Q H k => hs A rm g s Q H fun g' s' L' H' => k g' s' L' (H'.weaken (i := 2) (a := L) rfl hv)
theorem okc_up {c : Nat} (h : okc true c) : okc true (upc c) := by
  unfold okc at h
  rw [if_pos rfl] at h
  simp only [List.mem_cons, List.not_mem_nil, or_false] at h
  rcases h with rfl | rfl | rfl | rfl | rfl | rfl | rfl | rfl <;> (unfold okc upc; simp)
theorem without_map (P : TP) (rows : List (Nat × Nat)) (c : Nat) : without (P.rowsN rows) c = P.rowsN (rows.filter fun r => lowc r.1 != lowc c) := by
  unfold without TP.rowsN
  induction rows with
  | nil => rfl
  | cons r rows ih =>
    simp only [List.map_cons, List.filter_cons]
    cases lowc r.1 != lowc c with
    | true => simp only [if_true, List.map_cons]; rw [ih]
    | false => simp only [Bool.false_eq_true, if_false]; exact ih
theorem undI_mem {rows : List (Nat × Nat)} {c x : Nat} (h : x ∈ undI rows c) (hr : ∀ r ∈ rows, okc true r.1 ∧ r.2 < 4) : x < 4 := by
  unfold undI at h
  obtain ⟨r, h1, rfl⟩ := List.mem_map.mp h
  exact (hr r (List.mem_filter.mp h1).1).2
theorem lay_cw {P : TP} (hP : Ok P) {row : List Nat} (h : ∀ x ∈ row, x < 4) : lay (row.map fun i => .str (ch1 (P.nm i))) = true := by
  refine lay_map (fun y _ => rfl) (fun y hy => ?_) (fun y _ => by show (0 : Nat) ≤ 60; decide)
  have := hP.okn y (h y hy)
  unfold okc at this
  rw [if_neg (by decide)] at this
  simp only [List.mem_cons, List.not_mem_nil, or_false] at this
  simp only [toD, PyData.canLay0]
  rcases this with h | h | h | h | h | h | h | h <;> rw [h] <;> decide +kernel
theorem okRowsN' {P : TP} (hP : Ok P) {rows : List (Nat × Nat)} (hr : ∀ r ∈ rows, okc true r.1 ∧ r.2 < 4) : (∀ r ∈ P.rowsN rows, okc true r.1 ∧ okc false r.2) ∧ (rows.length ≤ 1000 → (P.rowsN rows).length ≤ 1000) := by
  refine ⟨fun r h => ?_, fun h => by unfold TP.rowsN; rw [List.length_map]; exact h⟩
  obtain ⟨q, hq, rfl⟩ := List.mem_map.mp h
  exact ⟨(hr q hq).1, hP.okn _ (hr q hq).2⟩
theorem ch1_inj {a b : Nat} (h : ch1 a = ch1 b) : a = b := by
  have := congrArg Str.cps h
  simpa [ch1] using this
theorem index_ok {P : TP} (hP : Ok P) (hl : P.nms.length = 4) {y : Nat} (hy : y < 4) : OPM w os n M (cf (.builtin "list.index")) [.list (P.nms.map fun c => .str (ch1 c)), .str (ch1 (P.nm y))] (.int (y : Nat)) M := by
  have e : (P.nms.map fun c => PV.str (ch1 c)) = (P.nms.map ch1).map .str := by rw [List.map_map]; rfl
  rw [e]
  have at_ : ∀ i, i < 4 → (P.nms.map ch1)[i]? = some (ch1 (P.nm i)) := fun i hi => by
    rw [List.getElem?_map, List.getElem?_eq_getElem (by omega)]
    unfold TP.nm
    rw [List.getD_eq_getElem?_getD, List.getElem?_eq_getElem (by omega)]; rfl
  refine (OP.index (xs := P.nms.map ch1) (j := y) LV.imm (at_ y hy) (fun m hm e' => ?_) (by rw [List.length_map]; omega)).m
  rw [at_ m (by omega)] at e'
  have := hP.inj m y (by omega) hy (ch1_inj (Option.some.inj e'))
  omega
noncomputable def MTw (P : TP) (L cT cD Lf W : Addr) (h : Hdr) (d : Desk) (signs : List Nat) (ln : Int) (N : Led) (vars : List (Str × PV)) (a : TS) (ws : List Bool) : Led :=
  (L, .frame vars) :: (cT, .cell (some (.val (.ref h.T)))) :: (cD, .cell (some (.val (.ref d.I)))) :: (Lf, .list (a.left.map .int)) :: (W, .list (ws.map .bool)) :: (hdrL h (P.rowsN a.rows) ++ (deskL d signs ln (a.pb.map ch1) ++ N))
theorem any_str {P : TP} (hP : Ok P) {k : Nat} (hk : k < 4) : ∀ {row : List Nat}, (∀ x ∈ row, x < 4) → ((toDs (row.map fun i => .str (ch1 (P.nm i)))).any fun y => PyData.eqv y (toD (.str (ch1 (P.nm k))))) = row.contains k
  | [], _ => rfl
  | x :: row, h => by
    have ih := any_str hP hk (row := row) fun y hy => h y (.tail _ hy)
    simp only [List.map_cons, toDs, List.any_cons, ih, List.contains_cons]
    congr 1
    simp only [toD, PyData.eqv]
    rw [ch1_beq]
    by_cases e : x = k
    · subst e; simp
    · have h1 : P.nm x ≠ P.nm k := fun q => e (hP.inj x k (h x (.head _)) hk q)
      rw [beq_eq_false_iff_ne.mpr h1]
      exact (beq_eq_false_iff_ne.mpr fun q => e q.symm).symm
theorem undI_low (rows : List (Nat × Nat)) {j : Nat} (hj : j < 4) : undI rows (65 + j) = undI rows (97 + j) := by
  unfold undI
  have : lowc (65 + j) = lowc (97 + j) := by unfold lowc; rw [if_pos (by omega), if_neg (by omega)]; omega
  rw [this]
theorem eqv_rows : ∀ l : List (Nat × Nat), PyData.eqvAll (toDs (l.map rowP)) (toDs (l.map rowP)) = true
  | [] => by simp [toDs, PyData.eqvAll]
  | r :: l => by
    simp only [List.map_cons, toDs, PyData.eqvAll, eqv_rows l, Bool.and_true]
    simp [rowP, toD, toDs, PyData.eqv, PyData.eqvAll]
theorem lay_rows {rows : List (Nat × Nat)} (h : okRows rows) : lay (rows.map rowP) = true := by
  refine lay_map (fun y _ => rfl) (fun y hy => ?_) (fun y _ => by simp [rowP, toD, toDs, PyData.depth, PyData.depthAll])
  have h1 := (h.1 y hy).1
  have h2 := (h.1 y hy).2
  unfold okc at h1 h2
  rw [if_pos rfl] at h1
  rw [if_neg (by decide)] at h2
  simp only [List.mem_cons, List.not_mem_nil, or_false] at h1 h2
  simp only [rowP, toD, toDs, PyData.canLay0, PyData.canLayAll0, Bool.and_true, Bool.and_eq_true]
  refine ⟨?_, ?_⟩
  · rcases h1 with h | h | h | h | h | h | h | h <;> rw [h] <;> decide +kernel
  · rcases h2 with h | h | h | h | h | h | h | h <;> rw [h] <;> decide +kernel
theorem any_true : ∀ ws : List Bool, ((toDs (ws.map .bool)).any fun y => PyData.eqv y (toD (.bool true))) = ws.any id
  | [] => rfl
  | b :: ws => by
    simp only [List.map_cons, toDs, List.any_cons, any_true ws, id]
    simp only [toD, PyData.eqv]
    cases b <;> rfl
theorem lay_bools (ws : List Bool) : lay (ws.map .bool) = true := lay_map (fun y _ => rfl) (fun y _ => by simp only [toD, PyData.canLay0]) (fun y _ => by simp [toD, PyData.depth])
theorem okc65 {j : Nat} (h : j < 4) : okc true (65 + j) := by
  have : j = 0 ∨ j = 1 ∨ j = 2 ∨ j = 3 := by omega
  unfold okc
  rw [if_pos rfl]
  rcases this with rfl | rfl | rfl | rfl <;> decide
end
set_option maxHeartbeats 0
section
variable {w : World} {os : Ext} {n : Nat} {M M' : Led} {env : Env} {pos : Pos}
theorem splicedStep {e : Expr} {es : List Expr} {A : Around} {s : Shared} {Q : List Value → Shared → Prop} (hs : starEach (e :: es) env = (false, eval e env) :: starEach es env)
    (h : wpAny (model PRG w) A (eval e env) (fun v s₁ => wpAny (model PRG w) A (spliced (backTo pos (starEach es env))) (fun vs s₂ => Q (v :: vs) s₂) NoE s₁) NoE s) : wpAny (model PRG w) A (spliced (backTo pos (starEach (e :: es) env))) Q NoE s := by
  rw [hs]; exact spliced_cons h
theorem thief_ok {P : TP} (hP : Ok P) (hG : ∀ i a, i < P.N → Reach P.start i a → Gd P a) (hF : Fd P P.fin) (hN : P.N ≤ 400) {d : Desk} {signs : List Nat} {ln : Int} {N : Led} {A : Around} (rm : Rm A (n + 13)) {g : Heap} {s : Shared} {Q : Value → Shared → Prop} {vs : List Value}
    (H : HS w os g (deskL d signs ln [] ++ N) s) (r : RdL g vs [.list (P.ps.map .int), .int (P.bank : Nat), .list (P.nms.map fun c => .str (ch1 c)), .val (.ref d.I), .str P.piece, .tup [.str P.t0, .str P.t1], .bool P.back])
    (k : ∀ os' v g' s', Xt os os' → Le g g' → HS w os' g' (deskL d signs ln (P.fin.pb.map ch1) ++ N) s' → Rd g' v (.tup [.int (P.fin.taken : Nat), .bool (P.good P.fin)]) → Q v s') : wpAny (model PRG w) A (call (.ref 296) vs) Q NoE s := by
  cases r with | cons r₁ r => cases r with | cons r₂ r => cases r with | cons r₃ r => cases r with | cons r₄ r => cases r with | cons r₅ r => cases r with | cons r₆ r => cases r with | cons r₇ r =>
  cases r; cases r₄
  obtain ⟨x0, x1, x2, x3, hps, hpb⟩ := hP.ps
  obtain ⟨c0, c1, c2, c3, hnms⟩ := hP.nms
  refine enterC (n := n + 12) (fa := 296) (vars := [("purses", .list (P.ps.map .int)), ("bank", .int (P.bank : Nat)), ("names", .list (P.nms.map fun c => .str (ch1 c))), ("piece", .str P.piece), ("tail", .tup [.str P.t0, .str P.t1]), ("back", .bool P.back)]) (cv := fun x => if x = "desk" then some (.val (.ref d.I)) else .none) (by walk_at "kis") (by walk_at "kis") (by rfl) (by rfl) (by decide +kernel)
    (bv_cons (by rfl) r₁ (bv_cons (by rfl) r₂ (bv_cons (by rfl) r₃ (bv_cons (by rfl) r₅ (bv_cons (by rfl) r₆ (bv_cons (by rfl) r₇ bv_nil)))))) ?_ rm H ?_
  · intro x hx o ho
    rcases List.mem_cons.mp (show x ∈ [Str.ofString "table", Str.ofString "desk"] from hx) with rfl | hx
    · rw [if_neg (by decide)]
      exact ho
    · cases List.mem_singleton.mp hx
      rw [if_pos rfl]
      exact ⟨_, ho, .val _⟩
  · intro L s' g' rm' L' H'
    change HS w os g' ((L, .frame [("purses", .list (P.ps.map .int)), ("bank", .int (P.bank : Nat)), ("names", .list (P.nms.map fun c => .str (ch1 c))), ("piece", .str P.piece), ("tail", .tup [.str P.t0, .str P.t1]), ("back", .bool P.back)]) :: (L + 2, .cell .none) :: (L + 1, .cell (some (.val (.ref d.I)))) :: (deskL d signs ln [] ++ N)) s' at H'
    refine wpAny_execs_cons (Assign_Tuple (wpAny_Tuple_spliced ?_) (by rfl) (by rfl))
    refine splicedStep (by rfl) (sliceNew (q := .list (P.ps.map .int)) (ps := P.ps.map .int) (lo := .none) (hi := .none) (by walk_at "nm") LV.imm PPt.none PPt.none (by rw [List.length_map, hps]; show (4 : Nat) ≤ 1000; decide) (pick_all _) rm' H' fun Lf g₁ s₁ L₁ H₁ => ?_)
    refine splicedStep (by rfl) (listNew (ps := []) PL.nil (by show (0 : Nat) ≤ 1000; decide) rm' H₁ fun D g₂ s₂ L₂ H₂ => ?_)
    refine splicedStep (by rfl) (wpAny_Constant_int ?_)
    have H₃ := H₂.toks (s₂.toks + 1)
    refine splicedStep (by rfl) (listNew (ps := []) PL.nil (by show (0 : Nat) ≤ 1000; decide) rm' H₃ fun W g₄ s₄ L₄ H₄ => ?_)
    refine spliced_none ?_
    refine ⟨by show (4 : Nat) ≤ _; exact sizeLine_ge (by decide), ?_⟩
    obtain ⟨g₅, L₅, H₅, G₅⟩ := H₄.push { cls := .type "tuple", data := .seq #[.ref Lf, .ref D, .int 0 s₂.toks, .ref W] } rfl s₄.toks
    refine assign_four (p := .val (.ref Lf)) (q := .val (.ref D)) (r := .int (0 : Nat)) (t := .val (.ref W)) (SN.loc (i := 3) (by rfl) (by rfl) (by rfl)) (SN.loc (i := 3) (by rfl) (by rfl) (by rfl)) (SN.loc (i := 3) (by rfl) (by rfl) (by rfl)) (SN.loc (i := 3) (by rfl) (by rfl) (by rfl)) rm'.hd H₅ (.tup ⟨_, G₅, rfl, 0, rfl⟩ (.cons (.val _) (.cons (.val _) (.cons (.int _ _) (.cons (.val _) .nil))))) fun g₆ s₆ L₆ H₆ => ?_
    have H₇ : HS w os g₆ ((W, .list []) :: (D, .list []) :: (Lf, .list (P.ps.map .int)) :: (L, .frame [("left", .val (.ref Lf)), ("given", .val (.ref D)), ("taken", .int (0 : Nat)), ("wrong", .val (.ref W)), ("purses", .list (P.ps.map .int)), ("bank", .int (P.bank : Nat)), ("names", .list (P.nms.map fun c => .str (ch1 c))), ("piece", .str P.piece), ("tail", .tup [.str P.t0, .str P.t1]), ("back", .bool P.back)]) :: (L + 2, .cell .none) :: (L + 1, .cell (some (.val (.ref d.I)))) :: (deskL d signs ln [] ++ N)) s₆ :=
      H₆.weaken (i := 3) (a := L) rfl (wv_cons (by rfl) (wv_cons (by rfl) (wv_cons (by rfl) (wv_cons (by rfl) (wv_cons (by rfl) (wv_cons (by rfl) (wv_cons (by rfl) (wv_cons (by rfl) (wv_cons (by rfl) (wv_cons (by rfl) wv_nil))))))))))
    refine wpAny_execs_cons (wpAny_Assign_Name (callFk (a := 263) (ps := [.val (.ref D)]) (by walk_at "nm") (by walk_at "kis") (PL.cons (by walk_at "nm") PL.nil (by rfl)) (by rfl) (by rfl) rm' H₇ fun vs g₈ s₈ L₈ H₈ r₈ => ?_) (by rfl))
    cases r₈ with | cons r₉ r₈ =>
    cases r₈; cases r₉
    refine wpAny_call (makeC (fI := 157) (by walk_at "kis") (by walk_at "kis") (by walk_at "kis") (n := n + 11) rm' H₈ fun A' T dT g₁₀ s₁₀ rm₁₀ L₁₀ H₁₀ => ?_)
    refine hinit_ok (n := n + 9) rm₁₀ H₁₀ (i := 1) rfl fun g₁₁ s₁₁ L₁₁ H₁₁ => ⟨rfl, ?_⟩
    refine SN.cel (i := 6) (c := L + 2) (p := .val (.ref T)) (by rfl) (by rfl) (by rfl) (by rfl) _ g₁₁ s₁₁ _ (.ref T) H₁₁ (.val _) fun g₁₂ s₁₂ L₁₂ H₁₂ => ?_
    let h : Hdr := ⟨T, dT, D⟩
    have H₁₃ : HS w os g₁₂ (MT P L (L + 2) (L + 1) Lf W h d signs ln N ⟨[], [], P.ps, 0, 0⟩) s₁₂ := by
      refine H₁₂.perm ?_
      let E : Nat → Addr × Ent := fun i => [(dT, Ent.dict [("_headers", .val (.ref D))]), (T, instE 263 dT), (W, .list []), (D, .list []), (Lf, .list (P.ps.map .int)), (L, .frame (frT P Lf W h 0)), (L + 2, .cell (some (.val (.ref T)))), (L + 1, .cell (some (.val (.ref d.I))))].getD i (0, .cell .none)
      have := ((by decide : List.Perm [0, 1, 2, 3, 4, 5, 6, 7] [5, 6, 7, 4, 2, 3, 0, 1]).map E).append_right (deskL d signs ln [] ++ N)
      exact this
    have hlen4 : P.ps.length = 4 := by rw [hps]; rfl
    have hnlen : P.nms.length = 4 := by rw [hnms]; rfl
    refine X.next (ST.forS (MI := fun i => MT P L (L + 2) (L + 1) Lf W h d signs ln N ⟨P.rows0 i, [], P.ps, 0, 0⟩) (MA := fun i p => MTv P L (L + 2) (L + 1) Lf W h d signs ln N (("k", p) :: frT P Lf W h 0) ⟨P.rows0 i, [], P.ps, 0, 0⟩) (src := .rng 4)
      (PE.callB (by walk_at "nm") (by intro a; exact nofun) (PL.cons PE.cint PL.nil (by rfl)) OP.range1 (by rfl) (by rfl)) (IterOf.rng (m := 4) (by decide) (by decide)) (by intro v; rfl) (fun i p t hp => SN.loc (i := 1) (by rfl) (by rfl) (by rfl)) (fun i p t hp => ?_)) rm' H₁₃ fun g₁₄ s₁₄ L₁₄ H₁₄ => ?_
    · have hi : i < 4 := by
        have := (List.getElem?_eq_some_iff.mp hp).1
        simpa using this
      have hpe : p = .int (i : Nat) := by
        rw [List.getElem?_map, List.getElem?_range (by simpa using hi)] at hp
        simpa using hp.symm
      subst hpe
      refine SS.cons (ST.ifTrue (PT.cmp (by walk_at "nm") (by walk_at "nm") OP.ne_int (by rfl)) (fun hb => ?_) (fun hb => ?_)) SS.nil
      · have hb' : (i != P.bank) = true := by
          rw [bne_iff_ne] at hb ⊢
          intro e; exact hb (by rw [e])
        refine SS.weakT (vars := ("k", .int (i : Nat)) :: frT P Lf W h 0) ?_ (frT_pre (pre := [("k", .int (i : Nat))]) (by rfl))
        have hro := rows0_ok P i (by omega)
        refine SS.cons (ST.exprX (PEX.add (n := n + 10) (h := h) (rows := P.rowsN (P.rows0 i)) (c := P.letter P.ps i) (x := P.nm i)
          (B := [t, (L, .frame (("k", .int (i : Nat)) :: frT P Lf W h 0)), (L + 2, .cell (some (.val (.ref h.T)))), (L + 1, .cell (some (.val (.ref d.I)))), (Lf, .list (P.ps.map .int)), (W, .list [])]) (N := deskL d signs ln [] ++ N) rfl (by
            rw [rows0_succ, if_pos hb']
            unfold MTv TP.rowsN
            rw [List.map_append]
            rfl) (okRowsN hP hro.1 (by have := hro.2; omega)) (by unfold TP.rowsN; rw [List.length_map]; have := hro.2; omega) letter_ok (hP.okn i hi) (by walk_at "nm")
          (PL.cons (PE.itemS (j := (Int.fmod (P.ps.getD i 0 - P.ps.getD P.bank 0) 4).toNat) PE.cstr (PE.spot (by walk_at "nm") (by walk_at "nm") LV.imm (by walk_at "nm") (by walk_at "nm") (by omega) (by have := hP.bank; omega) (by omega) (by intro o k; rfl) (by intro o k; rfl)) (by have := fmod4 (P.ps.getD i 0 - P.ps.getD P.bank 0); show _ < 4; omega) (by show (4 : Nat) ≤ 1000; decide) (abcd (by have := fmod4 (P.ps.getD i 0 - P.ps.getD P.bank 0); omega)) (by intro o k; rfl) (by intro t r; rfl))
            (PL.cons (PE.itemL (by walk_at "nm") LV.imm (by walk_at "nm") (nm_get (by omega)) (by rw [List.length_map]; omega) (by intro o k; rfl)) PL.nil (by rfl)) (by rfl)) (by rfl) (by rfl) (by rfl)) (by rfl) (by rfl)) SS.nil
      · have hb' : ¬ (i != P.bank) = true := by
          intro e
          rw [bne_iff_ne] at e
          have : ((i : Int) != (P.bank : Int)) = true := by rw [bne_iff_ne]; omega
          rw [this] at hb; cases hb
        refine SS.weakT (vars := ("k", .int (i : Nat)) :: frT P Lf W h 0) ?_ (frT_pre (pre := [("k", .int (i : Nat))]) (by rfl))
        rw [rows0_succ, if_neg hb', List.append_nil]
        exact SS.nil
    change HS w os g₁₄ (MT P L (L + 2) (L + 1) Lf W h d signs ln N ⟨P.rows0 4, [97, 98, 99, 100].take 0, P.ps, 0, 0⟩) s₁₄ at H₁₄
    refine X.next (ST.forS (MI := fun i => MT P L (L + 2) (L + 1) Lf W h d signs ln N ⟨P.rows0 4, [97, 98, 99, 100].take i, P.ps, 0, 0⟩) (MA := fun i p => MTv P L (L + 2) (L + 1) Lf W h d signs ln N (("letter", p) :: frT P Lf W h 0) ⟨P.rows0 4, [97, 98, 99, 100].take i, P.ps, 0, 0⟩) (src := .str "abcd")
      PE.cstr (IterOf.str (x := "abcd") (by decide +kernel)) (by intro v; rfl) (fun i p t hp => SN.loc (i := 1) (by rfl) (by rfl) (by rfl)) (fun i p t hp => ?_)) rm' H₁₄ fun g₁₅ s₁₅ L₁₅ H₁₅ => ?_
    · have hi : i < 4 := (List.getElem?_eq_some_iff.mp hp).1
      refine SS.weakT (vars := ("letter", p) :: frT P Lf W h 0) ?_ (frT_pre (pre := [("letter", p)]) (by rfl))
      obtain ⟨c, rfl, hmap⟩ : ∃ c, p = .str (ch1 c) ∧ ([97, 98, 99, 100].take i).map ch1 ++ [ch1 c] = ([97, 98, 99, 100].take (i + 1)).map ch1 := by
        have : i = 0 ∨ i = 1 ∨ i = 2 ∨ i = 3 := by omega
        rcases this with rfl | rfl | rfl | rfl
        · exact ⟨97, (Option.some.inj hp).symm, rfl⟩
        · exact ⟨98, (Option.some.inj hp).symm, rfl⟩
        · exact ⟨99, (Option.some.inj hp).symm, rfl⟩
        · exact ⟨100, (Option.some.inj hp).symm, rfl⟩
      exact SS.cons (ST.exprX (PEX.push (n := n + 10) (d := d) (signs := signs) (ln := ln) (pb := ([97, 98, 99, 100].take i).map ch1) (x := ch1 c)
          (B := [t, (L, .frame (("letter", .str (ch1 c)) :: frT P Lf W h 0)), (L + 2, .cell (some (.val (.ref h.T)))), (L + 1, .cell (some (.val (.ref d.I)))), (Lf, .list (P.ps.map .int)), (W, .list [])] ++ hdrL h (P.rowsN (P.rows0 4))) (N := N) rfl (by rw [hmap]; rfl) (by walk_at "nm") (by walk_at "nm") (by rw [List.length_map]; have := List.length_take_le i [97, 98, 99, 100]; omega) (by rfl) (by rfl)) (by rfl) (by rfl)) SS.nil
    change HS w os g₁₅ (MT P L (L + 2) (L + 1) Lf W h d signs ln N P.start) s₁₅ at H₁₅
    have hsum : Small P.ps := ⟨fun x hx => by have := hpb x hx; constructor <;> omega, by omega⟩
    refine X.forBrk (σ := TS) (N := P.N) (MI := fun a => MT P L (L + 2) (L + 1) Lf W h d signs ln N a) (MA := fun a i => MTv P L (L + 2) (L + 1) Lf W h d signs ln N (("step", .int (i : Nat)) :: frT P Lf W h a.taken) a) (step := stepT) (St := Reach P.start) (a₀ := P.start) ?_ (by omega) (by intro v; rfl) (fun os' a i t => SN.loc (i := 1) (by rfl) (by rfl) (by rfl)) ?_ (fun i a _ hR hb => ⟨a, hR, hb, rfl⟩) rfl rm' H₁₅ fun os' g₁₆ s₁₆ X₁₆ L₁₆ H₁₆ hend => ?_
    · refine PE.as (PE.callB (by walk_at "nm") (by intro a; exact nofun) (PL.cons (PE.bin PE.cint (PE.callB (by walk_at "nm") (by intro a; exact nofun) (PL.cons (PE.callB (by walk_at "nm") (by intro a; exact nofun) (PL.cons (by walk_at "nm") PL.nil (by rfl)) (OP.sum LV.imm hsum) (by rfl) (by rfl)) (PL.cons PE.cint PL.nil (by rfl)) (by rfl)) OP.max2 (by rfl) (by rfl)) OP.add_int) PL.nil (by rfl)) OP.range1 (by rfl) (by rfl)) ?_
      congr 1
      unfold TP.N
      split <;> omega
    · intro a i t os' A rm g s Q hi hR Hb kk
      have G := hG i a hi hR
      obtain ⟨r0, r1, r2, r3, hpbq, o0, o1, o2, o3⟩ := G.pb
      obtain ⟨rows, pb, left, taken, wrongs⟩ := a
      dsimp only at hpbq
      subst hpbq
      have hro := G.rows
      have hrl := G.len
      dsimp only at hro hrl
      have hok := okRowsN hP hro hrl
      have hul : ∀ c, (undI rows c).length ≤ 100 := fun c => Nat.le_trans (undI_len rows c) hrl
      refine X.next (ST.assignUX (i := 1) (M' := t :: MTv P L (L + 2) (L + 1) Lf W h d signs ln N (("step", .int (i : Nat)) :: frT P Lf W h taken) ⟨rows, [], left, taken, wrongs⟩) (res := [.str (ch1 r0), .str (ch1 r1), .str (ch1 r2), .str (ch1 r3)]) ?_ (by rfl) (by rfl) (by rfl) rfl) rm Hb fun g₁ s₁ L₁ H₁ => ?_
      · refine CompOkX.lcomp (MM := fun j => t :: MTv P L (L + 2) (L + 1) Lf W h d signs ln N (("step", .int (i : Nat)) :: frT P Lf W h taken) ⟨rows, [r0, r1, r2, r3].drop j, left, taken, wrongs⟩) (f := fun j => .str (ch1 ([r0, r1, r2, r3].getD j 0))) (src := .rng 4) (cl := [("desk", L + 1)])
          (PE.callB (by walk_at "nm") (by intro a; exact nofun) (PL.cons PE.cint PL.nil (by rfl)) OP.range1 (by rfl) (by rfl)) (IterOf.rng (m := 4) (by decide) (by decide)) (by show (4 : Nat) ≤ 1000; decide) (by intro v; rfl) (by rfl) (by rfl) (by decide +kernel) (by decide +kernel) (by rfl) ?_
        intro j p hp I e D' l C
        have hj : j < 4 := (List.getElem?_eq_some_iff.mp hp).1
        have hmap : ch1 ([r0, r1, r2, r3].getD j 0) :: ([r0, r1, r2, r3].drop (j + 1)).map ch1 = ([r0, r1, r2, r3].drop j).map ch1 := by
          have : j = 0 ∨ j = 1 ∨ j = 2 ∨ j = 3 := by omega
          rcases this with rfl | rfl | rfl | rfl <;> rfl
        exact PEX.getpb (n := n + 6) (d := d) (signs := signs) (ln := ln) (pb := ([r0, r1, r2, r3].drop (j + 1)).map ch1) (x := ch1 ([r0, r1, r2, r3].getD j 0))
          (B := [(I, e), (D', .list l), (C, .frame [("spot", p)]), t, (L, .frame (("step", .int (i : Nat)) :: frT P Lf W h taken)), (L + 2, .cell (some (.val (.ref h.T)))), (L + 1, .cell (some (.val (.ref d.I)))), (Lf, .list (left.map .int)), (W, .list (List.replicate wrongs (.bool false)))] ++ hdrL h (P.rowsN rows)) (N := N)
          (by rw [hmap]; rfl) rfl (by walk_at "nm") (by rw [List.length_map, List.length_drop]; show 4 - (j + 1) ≤ 1000; omega) (by rfl)
      change HS w os' g₁ (t :: MTv P L (L + 2) (L + 1) Lf W h d signs ln N (("ring", .list [.str (ch1 r0), .str (ch1 r1), .str (ch1 r2), .str (ch1 r3)]) :: ("step", .int (i : Nat)) :: frT P Lf W h taken) ⟨rows, [], left, taken, wrongs⟩) s₁ at H₁
      refine X.next (ST.assignU (i := 1) (res := [cwP P (undI rows r0), cwP P (undI rows r1), cwP P (undI rows r2), cwP P (undI rows r3)]) ?_ (by rfl) (by rfl) (by rfl) rfl) rm H₁ fun g₂ s₂ L₂ H₂ => ?_
      · refine CompOk.lcomp (ps := [r0, r1, r2, r3]) (enc := fun c => .str (ch1 c)) (t := fun _ => true) (f := fun c => cwP P (undI rows c)) (cl := [("table", L + 2)]) (by walk_at "nm") IterOf.list (sizeLine_ge (by show (4 : Nat) ≤ _; decide)) (by intro v; rfl) (by rfl) (by rfl) (by decide +kernel) (by decide +kernel) (by rfl) (fun _ _ _ _ _ _ _ => PTs.nil) ?_
        intro c hc _ I e D' l C
        have hco : okc true c := by
          simp only [List.mem_cons, List.not_mem_nil, or_false] at hc
          rcases hc with rfl | rfl | rfl | rfl <;> assumption
        refine PE.as (PE.getall (n := n + 10) (h := h) (rows := P.rowsN rows) (c := c) (B := [(I, e), (D', .list l), (C, .frame [("letter", .str (ch1 c))]), t, (L, .frame (("ring", .list [.str (ch1 r0), .str (ch1 r1), .str (ch1 r2), .str (ch1 r3)]) :: ("step", .int (i : Nat)) :: frT P Lf W h taken)), (L + 2, .cell (some (.val (.ref h.T)))), (L + 1, .cell (some (.val (.ref d.I)))), (Lf, .list (left.map .int)), (W, .list (List.replicate wrongs (.bool false)))]) (N := deskL d signs ln [] ++ N) rfl hok hco (by walk_at "nm") (by walk_at "nm") (by rfl) (by rfl)) ?_
        unfold cwP
        rw [und_map, List.map_map]
        rfl
      change HS w os' g₂ (t :: MTv P L (L + 2) (L + 1) Lf W h d signs ln N (("crowd", .list [cwP P (undI rows r0), cwP P (undI rows r1), cwP P (undI rows r2), cwP P (undI rows r3)]) :: ("ring", .list [.str (ch1 r0), .str (ch1 r1), .str (ch1 r2), .str (ch1 r3)]) :: ("step", .int (i : Nat)) :: frT P Lf W h taken) ⟨rows, [], left, taken, wrongs⟩) s₂ at H₂
      refine X.next (ST.ifTrue (M' := t :: MTv P L (L + 2) (L + 1) Lf W h d signs ln N (("parts", .list ((P.parts ⟨rows, [r0, r1, r2, r3], left, taken, wrongs⟩).map .str)) :: ("crowd", .list [cwP P (undI rows r0), cwP P (undI rows r1), cwP P (undI rows r2), cwP P (undI rows r3)]) :: ("ring", .list [.str (ch1 r0), .str (ch1 r1), .str (ch1 r2), .str (ch1 r3)]) :: ("step", .int (i : Nat)) :: frT P Lf W h taken) ⟨rows, [], left, taken, wrongs⟩)
        (PT.bval (by walk_at "nm") (by intro _; rfl)) (fun hb => ?_) (fun hb => ?_)) rm H₂ fun g₃ s₃ L₃ H₃ => ?_
      · have hparts : (P.parts ⟨rows, [r0, r1, r2, r3], left, taken, wrongs⟩).map PV.str = [.str (P.part (undI rows r2)), .str (P.part (undI rows r1)), .str (P.part (undI rows r0))] := by unfold TP.parts; rw [if_pos hb]; rfl
        rw [hparts]
        refine SS.cons (ST.assignU (i := 1) ?_ (by rfl) (by rfl) (by rfl) rfl) SS.nil
        refine CompOk.lcomp (ps := [undI rows r2, undI rows r1, undI rows r0]) (enc := cwP P) (t := fun _ => true) (f := fun row => .str (P.part row)) (cl := []) (PE.sliceS (lo := some 2) (hi := .none) (z := -1) (by walk_at "nm") LV.imm (PPt.some PE.cint) PPt.none (PE.neg PE.cint) (by decide) (by show (4 : Nat) ≤ 1000; decide) (by rfl)) IterOf.list (sizeLine_ge (by show (3 : Nat) ≤ _; decide)) (by intro v; rfl) (by rfl) (by rfl) (by decide +kernel) (by decide +kernel) (by rfl) (fun _ _ _ _ _ _ _ => PTs.nil) ?_
        intro row hrow _ I e D' l C
        have hrl' : row.length ≤ 100 := by
          simp only [List.mem_cons, List.not_mem_nil, or_false] at hrow
          rcases hrow with rfl | rfl | rfl <;> exact hul _
        have hpart : P.part row = "(" ++ joinE (row.map fun i => ")\\" ++ ch1 (P.nm i)) := by unfold TP.part; rw [if_pos hb]
        rw [hpart]
        have hjl := joinE_len (B := 3) (xs := row.map fun i => ")\\" ++ ch1 (P.nm i)) (fun y hy => by obtain ⟨i, _, rfl⟩ := List.mem_map.mp hy; exact len3 41 92 _)
        rw [List.length_map] at hjl
        refine PE.bin PE.cstr (PEX.meth (p := .str ⟨#[]⟩) (T := "str") (id := "str.join") (ps := [.list ((row.map fun i => ")\\" ++ ch1 (P.nm i)).map .str)]) PE.cstr Ty.str (PL.cons ?_ PL.nil (by rfl)) (OP.joinE LV.imm (fun y hy => by obtain ⟨i, _, rfl⟩ := List.mem_map.mp hy; exact Nat.le_trans (len3 41 92 _) (by decide)) (by rw [List.length_map]; omega)).m
            F.plainAttrs_str F.slot_str_join F.type_str_join (by rfl) (by rfl) (by rfl) (by rfl) (by rfl)).pe (OP.add_str (sizeLine_ge (by show 1 + _ ≤ _; omega)))
        rw [List.map_map]
        refine PE.lmap (cl := []) (ps := row) (enc := fun i => .str (ch1 (P.nm i))) (by walk_at "nm") IterOf.list (sizeLine_ge (by omega)) (by intro v; rfl) (by rfl) (by rfl) (by decide +kernel) (by decide +kernel) (by rfl) ?_
        intro x hx I e D l C
        exact PE.bin PE.cstr (by walk_at "nm") (OP.add_str (sizeLine_ge (by show 2 + 1 ≤ _; decide)))
      · have hb0 : ¬ P.back = true := by rw [hb]; decide
        have hparts : (P.parts ⟨rows, [r0, r1, r2, r3], left, taken, wrongs⟩).map PV.str = [.str (P.part (undI rows r0)), .str (P.part (undI rows r1)), .str (P.part (undI rows r2))] := by unfold TP.parts; rw [if_neg hb0]; rfl
        rw [hparts]
        refine SS.cons (ST.assignU (i := 1) ?_ (by rfl) (by rfl) (by rfl) rfl) SS.nil
        refine CompOk.lcomp (ps := [undI rows r0, undI rows r1, undI rows r2]) (enc := cwP P) (t := fun _ => true) (f := fun row => .str (P.part row)) (cl := []) (PE.sliceL (lo := .none) (hi := some 3) (by walk_at "nm") LV.imm PPt.none (PPt.some PE.cint) (by show (4 : Nat) ≤ 1000; decide) (by rfl)) IterOf.list (sizeLine_ge (by show (3 : Nat) ≤ _; decide)) (by intro v; rfl) (by rfl) (by rfl) (by decide +kernel) (by decide +kernel) (by rfl) (fun _ _ _ _ _ _ _ => PTs.nil) ?_
        intro row hrow _ I e D' l C
        have hrl' : row.length ≤ 100 := by
          simp only [List.mem_cons, List.not_mem_nil, or_false] at hrow
          rcases hrow with rfl | rfl | rfl <;> exact hul _
        have hpart : P.part row = joinE (row.map fun i => "(\\" ++ ch1 (P.nm i)) ++ ")" := by unfold TP.part; rw [if_neg hb0]
        rw [hpart]
        have hjl := joinE_len (B := 3) (xs := row.map fun i => "(\\" ++ ch1 (P.nm i)) (fun y hy => by obtain ⟨i, _, rfl⟩ := List.mem_map.mp hy; exact len3 40 92 _)
        rw [List.length_map] at hjl
        refine PE.bin (PEX.meth (p := .str ⟨#[]⟩) (T := "str") (id := "str.join") (ps := [.list ((row.map fun i => "(\\" ++ ch1 (P.nm i)).map .str)]) PE.cstr Ty.str (PL.cons ?_ PL.nil (by rfl)) (OP.joinE LV.imm (fun y hy => by obtain ⟨i, _, rfl⟩ := List.mem_map.mp hy; exact Nat.le_trans (len3 40 92 _) (by decide)) (by rw [List.length_map]; omega)).m
            F.plainAttrs_str F.slot_str_join F.type_str_join (by rfl) (by rfl) (by rfl) (by rfl) (by rfl)).pe PE.cstr (OP.add_str (sizeLine_ge (by show _ + 1 ≤ _; omega)))
        rw [List.map_map]
        refine PE.lmap (cl := []) (ps := row) (enc := fun i => .str (ch1 (P.nm i))) (by walk_at "nm") IterOf.list (sizeLine_ge (by omega)) (by intro v; rfl) (by rfl) (by rfl) (by decide +kernel) (by decide +kernel) (by rfl) ?_
        intro x hx I e D l C
        exact PE.bin PE.cstr (by walk_at "nm") (OP.add_str (sizeLine_ge (by show 2 + 1 ≤ _; decide)))
      have hsz := G.sz
      unfold TP.text at hsz
      simp only [app_len] at hsz
      have hck : ∀ os'', OPX w os'' (n + 12) (t :: MTv P L (L + 2) (L + 1) Lf W h d signs ln N (("parts", .list ((P.parts ⟨rows, [r0, r1, r2, r3], left, taken, wrongs⟩).map .str)) :: ("crowd", .list [cwP P (undI rows r0), cwP P (undI rows r1), cwP P (undI rows r2), cwP P (undI rows r3)]) :: ("ring", .list [.str (ch1 r0), .str (ch1 r1), .str (ch1 r2), .str (ch1 r3)]) :: ("step", .int (i : Nat)) :: frT P Lf W h taken) ⟨rows, [], left, taken, wrongs⟩) (cf (.ref 59)) [.str (P.text ⟨rows, [r0, r1, r2, r3], left, taken, wrongs⟩)] (.bool (TS.told ⟨rows, [r0, r1, r2, r3], left, taken, wrongs⟩)) := fun os'' => by
        rw [← G.chk]; exact OPX.le (check_ok G.asc G.sz G.asc') (by omega)
      refine X.assignO (PEO.callF (a := 59) (by walk_at "nm") (by walk_at "kis") (PL.cons ?_ PL.nil (by rfl)) (hck os') (by rfl) (by rfl)) (fun os'' => SN.loc (i := 1) (by rfl) (by rfl) (by rfl)) (by rfl) rm H₃ fun os₄ g₄ s₄ X₄ L₄ H₄ => ?_
      · refine PE.bin (PE.bin (PE.bin (PE.bin (PE.bin (PE.itemL (by walk_at "nm") LV.imm PE.cint (j := 0) (parts_get P _ (by decide)) ?_ (by intro o k; rfl)) (by walk_at "nm") (OP.add_str (sizeLine_ge ?_))) (PE.itemL (by walk_at "nm") LV.imm PE.cint (j := 1) (parts_get P _ (by decide)) ?_ (by intro o k; rfl)) (OP.add_str (sizeLine_ge ?_))) (PE.itemT (ps := [.str P.t0, .str P.t1]) (by walk_at "nm") PE.cint (j := 0) rfl (by show (2 : Nat) ≤ 100000; decide) (by intro o k; rfl)) (OP.add_str (sizeLine_ge ?_))) (PE.itemL (by walk_at "nm") LV.imm PE.cint (j := 2) (parts_get P _ (by decide)) ?_ (by intro o k; rfl)) (OP.add_str (sizeLine_ge ?_))) (PE.itemT (ps := [.str P.t0, .str P.t1]) (by walk_at "nm") PE.cint (j := 1) rfl (by show (2 : Nat) ≤ 100000; decide) (by intro o k; rfl)) (OP.add_str (sizeLine_ge ?_))
        all_goals first
          | ((try simp only [app_len]); omega)
          | (rw [List.length_map]; unfold TP.parts; split <;> (show (3 : Nat) ≤ 100000; decide))
      have hu4 : ∀ c, ∀ x ∈ undI rows c, x < 4 := fun c x hx => undI_mem hx hro
      have hcw : ∀ (c j : Nat) (M : Led), (c, j) ∈ [(r0, 0), (r1, 1), (r2, 2), (r3, 3)] → True := fun _ _ _ _ => trivial
      change HS w os₄ g₄ (t :: MTv P L (L + 2) (L + 1) Lf W h d signs ln N (("told", .bool (TS.told ⟨rows, [r0, r1, r2, r3], left, taken, wrongs⟩)) :: ("parts", .list ((P.parts ⟨rows, [r0, r1, r2, r3], left, taken, wrongs⟩).map .str)) :: ("crowd", .list [cwP P (undI rows r0), cwP P (undI rows r1), cwP P (undI rows r2), cwP P (undI rows r3)]) :: ("ring", .list [.str (ch1 r0), .str (ch1 r1), .str (ch1 r2), .str (ch1 r3)]) :: ("step", .int (i : Nat)) :: frT P Lf W h taken) ⟨rows, [], left, taken, wrongs⟩) s₄ at H₄
      have htd : TS.told ⟨rows, [r0, r1, r2, r3], left, taken, wrongs⟩ = (!(undI rows r0).isEmpty && (decide ((undI rows r0 ++ undI rows r1).length > 1) && (undI rows r3).isEmpty)) := rfl
      generalize htold : TS.told ⟨rows, [r0, r1, r2, r3], left, taken, wrongs⟩ = tb at htd H₄
      refine X.next (M' := t :: MTv P L (L + 2) (L + 1) Lf W h d signs ln N (("told", .bool tb) :: ("parts", .list ((P.parts ⟨rows, [r0, r1, r2, r3], left, taken, wrongs⟩).map .str)) :: ("crowd", .list [cwP P (undI rows r0), cwP P (undI rows r1), cwP P (undI rows r2), cwP P (undI rows r3)]) :: ("ring", .list [.str (ch1 r0), .str (ch1 r1), .str (ch1 r2), .str (ch1 r3)]) :: ("step", .int (i : Nat)) :: frT P Lf W h taken) ⟨rows, [], left, taken, wrongs + 1⟩)
        (ST.exprX (PEX.meth (p := .val (.ref W)) (T := "list") (id := "list.append") (ps := [.bool false]) (r := .none) (by walk_at "nm") (Ty.list (LV.mut (i := 5) rfl)) (PL.cons ?_ PL.nil (by rfl)) ?_ F.plainAttrs_list F.slot_list_append F.type_list_append (by rfl) (by rfl) (by rfl) (by rfl) (by rfl)) (by rfl) (by rfl)) rm H₄ fun g₅ s₅ L₅ H₅ => ?_
      · refine PE.as (PE.cmp (by walk_at "nm") (PE.and3 (a := !(undI rows r0).isEmpty) (b := decide ((undI rows r0 ++ undI rows r1).length > 1)) (c := (undI rows r3).isEmpty) ?_ (fun _ => ?_) (fun _ _ => ?_)) OP.isntBool (by rfl)) (by rw [htd, bne_self_eq_false])
        · exact PE.cmp (PE.itemL (by walk_at "nm") LV.imm PE.cint (j := 0) (r := cwP P (undI rows r0)) rfl (by show (4 : Nat) ≤ 100000; decide) (by intro o k; rfl)) (PE.lst (ps := []) PL.nil (by show (0 : Nat) ≤ 1000; decide)) (OP.neL LV.imm LV.imm (lay_cw hP (hu4 r0)) (by rfl) (by omega) ((eqv_nil _).trans (by rw [List.isEmpty_map]))) (by rfl)
        · refine PE.as (PE.cmp (PE.callB (by walk_at "nm") (by intro a; exact nofun) (PL.cons (PE.bin (PE.itemL (by walk_at "nm") LV.imm PE.cint (j := 0) (r := cwP P (undI rows r0)) rfl (by show (4 : Nat) ≤ 100000; decide) (by intro o k; rfl)) (PE.itemL (by walk_at "nm") LV.imm PE.cint (j := 1) (r := cwP P (undI rows r1)) rfl (by show (4 : Nat) ≤ 100000; decide) (by intro o k; rfl)) (OP.addL LV.imm LV.imm (by simp only [List.length_map]; have := hul r0; have := hul r1; omega))) PL.nil (by rfl)) (OP.len LV.imm (by simp only [List.length_append, List.length_map]; have := hul r0; have := hul r1; omega)) (by rfl) (by rfl)) PE.cint OP.gt_int (by rfl)) ?_
          congr 1
          simp only [List.length_append, List.length_map, decide_eq_decide]
          omega
        · exact PE.cmp (PE.itemL (by walk_at "nm") LV.imm PE.cint (j := 3) (r := cwP P (undI rows r3)) rfl (by show (4 : Nat) ≤ 100000; decide) (by intro o k; rfl)) (PE.lst (ps := []) PL.nil (by show (0 : Nat) ≤ 1000; decide)) (OP.eqL LV.imm LV.imm (lay_cw hP (hu4 r3)) (by rfl) (by omega) ((eqv_nil _).trans (by rw [List.isEmpty_map]))) (by rfl)
      · have hw := G.wr
        dsimp only at hw
        have := OPM.append (w := w) (os := os₄) (n := n + 12) (M := t :: MTv P L (L + 2) (L + 1) Lf W h d signs ln N (("told", .bool tb) :: ("parts", .list ((P.parts ⟨rows, [r0, r1, r2, r3], left, taken, wrongs⟩).map .str)) :: ("crowd", .list [cwP P (undI rows r0), cwP P (undI rows r1), cwP P (undI rows r2), cwP P (undI rows r3)]) :: ("ring", .list [.str (ch1 r0), .str (ch1 r1), .str (ch1 r2), .str (ch1 r3)]) :: ("step", .int (i : Nat)) :: frT P Lf W h taken) ⟨rows, [], left, taken, wrongs⟩) (i := 5) (D := W) (l := List.replicate wrongs (.bool false)) (p := .bool false) rfl (by rw [List.length_replicate]; omega)
        rw [← List.replicate_succ'] at this
        exact this
      obtain ⟨z0, z1, z2, z3, hz, hzb⟩ := G.left
      dsimp only at hz hzb
      have hsl : Small left := ⟨fun x hx => by have := hzb x hx; constructor <;> omega, by rw [hz]; show (4 : Nat) ≤ 1000; decide⟩
      refine X.if (b := tb && decide (left.sum < ((undI rows r1 ++ undI rows r2 ++ undI rows r2).length : Int))) (PT.and2 (PT.bval (by walk_at "nm") (by intro _; rfl)) (fun _ => PT.cmp (PE.callB (by walk_at "nm") (by intro a; exact nofun) (PL.cons (by walk_at "nm") PL.nil (by rfl)) (OP.sum (LV.mut (i := 4) rfl) hsl) (by rfl) (by rfl))
          (PE.as (PE.callB (by walk_at "nm") (by intro a; exact nofun) (PL.cons (PE.bin (PE.bin (PE.itemL (by walk_at "nm") LV.imm PE.cint (j := 1) (r := cwP P (undI rows r1)) rfl (by show (4 : Nat) ≤ 100000; decide) (by intro o k; rfl)) (PE.itemL (by walk_at "nm") LV.imm PE.cint (j := 2) (r := cwP P (undI rows r2)) rfl (by show (4 : Nat) ≤ 100000; decide) (by intro o k; rfl)) (OP.addL LV.imm LV.imm (by simp only [List.length_map]; have := hul r1; have := hul r2; omega))) (PE.itemL (by walk_at "nm") LV.imm PE.cint (j := 2) (r := cwP P (undI rows r2)) rfl (by show (4 : Nat) ≤ 100000; decide) (by intro o k; rfl)) (OP.addL LV.imm LV.imm (by simp only [List.length_map, List.length_append]; have := hul r1; have := hul r2; omega))) PL.nil (by rfl)) (OP.len LV.imm (by simp only [List.length_append, List.length_map]; have := hul r1; have := hul r2; omega)) (by rfl) (by rfl)) (by congr 1; simp only [List.length_append, List.length_map])) OP.lt_int (by rfl))) rm H₅ fun g₆ s₆ L₆ H₆ => ?_
      have hstops : TS.stops ⟨rows, [r0, r1, r2, r3], left, taken, wrongs⟩ = (tb && decide (left.sum < ((undI rows r1 ++ undI rows r2 ++ undI rows r2).length : Int))) := by unfold TS.stops; rw [htold]; rfl
      rw [← hstops]
      by_cases hst : TS.stops ⟨rows, [r0, r1, r2, r3], left, taken, wrongs⟩ = true
      · rw [if_pos hst]
        have hstep : stepT ⟨rows, [r0, r1, r2, r3], left, taken, wrongs⟩ = (⟨rows, [], left, taken, wrongs + 1⟩, true) := by unfold stepT; rw [if_pos hst]
        rw [hstep] at kk
        refine wpAny_execs_cons (wpAny_Break ?_)
        exact kk os₄ g₆ s₆ X₄ (L₁.tr (L₂.tr (L₃.tr (L₄.tr (L₅.tr L₆))))) (MT_weak H₆ (frT_pre (pre := [("told", .bool tb), ("parts", _), ("crowd", _), ("ring", _), ("step", _)]) (by rfl)))
      · rw [if_neg hst]
        refine X.end ?_
        obtain ⟨a2, ha2⟩ : ∃ a2 : TS, a2 = if tb = true then ⟨(rows.filter fun r => lowc r.1 != lowc (upc r0)) ++ (undI rows r0).tail.map (fun i => (r0, i)) ++ [(upc r3, (undI rows r0).headD 0)], [], left.set ((undI rows r0).headD 0) (left.getD ((undI rows r0).headD 0) 0 - 1), taken + 1, wrongs + 1⟩ else ⟨rows, [], left, taken, wrongs + 1⟩ := ⟨_, rfl⟩
        have hstep : stepT ⟨rows, [r0, r1, r2, r3], left, taken, wrongs⟩ = (⟨a2.rows, [r1, r2, r3, r0], a2.left, a2.taken, a2.wrongs⟩, false) := by
          unfold stepT
          rw [if_neg hst, htold, ha2]
          split <;> rfl
        rw [hstep] at kk
        refine X.next (ST.ifTrue (M' := t :: MTv P L (L + 2) (L + 1) Lf W h d signs ln N (("ring", .list [.str (ch1 r0), .str (ch1 r1), .str (ch1 r2), .str (ch1 r3)]) :: frT P Lf W h a2.taken) ⟨a2.rows, [], a2.left, a2.taken, a2.wrongs⟩) (PT.bval (by walk_at "nm") (by intro _; rfl)) (fun hb => ?_) (fun hb => ?_)) rm H₆ fun g₇ s₇ L₇ H₇ => ?_
        · rw [if_pos hb] at ha2
          subst ha2
          rw [hb] at htd
          have hne : undI rows r0 ≠ [] := fun e => by rw [e] at htd; cases htd
          obtain ⟨y0, ys, hys⟩ := List.exists_cons_of_ne_nil hne
          have hy4 : y0 < 4 := hu4 r0 y0 (by rw [hys]; exact .head _)
          have hys4 : ∀ y ∈ ys, y < 4 := fun y hy => hu4 r0 y (by rw [hys]; exact .tail _ hy)
          have hyl : ys.length ≤ 100 := by have := hul r0; rw [hys, List.length_cons] at this; omega
          rw [show (undI rows r0).tail = ys by rw [hys]; rfl, show (undI rows r0).headD 0 = y0 by rw [hys]; rfl]
          have hro1 : ∀ r ∈ rows.filter (fun r => lowc r.1 != lowc (upc r0)), okc true r.1 ∧ r.2 < 4 := fun r hr => hro r (List.mem_filter.mp hr).1
          have hrl1 : (rows.filter (fun r => lowc r.1 != lowc (upc r0))).length ≤ 100 := Nat.le_trans (List.length_filter_le _ _) hrl
          intro A rm g s Q H k
          have H₀ := MT_weakV (vars' := ("crowd", .list [cwP P (undI rows r0), cwP P (undI rows r1), cwP P (undI rows r2), cwP P (undI rows r3)]) :: ("ring", .list [.str (ch1 r0), .str (ch1 r1), .str (ch1 r2), .str (ch1 r3)]) :: frT P Lf W h taken) H (wv_cons (by rfl) (wv_cons (by rfl) (frT_pre (pre := [("told", _), ("parts", _), ("crowd", _), ("ring", _), ("step", _)]) (by rfl))))
          refine X.next (M' := t :: MTv P L (L + 2) (L + 1) Lf W h d signs ln N (("crowd", .list [cwP P (undI rows r0), cwP P (undI rows r1), cwP P (undI rows r2), cwP P (undI rows r3)]) :: ("ring", .list [.str (ch1 r0), .str (ch1 r1), .str (ch1 r2), .str (ch1 r3)]) :: frT P Lf W h taken) ⟨rows.filter (fun r => lowc r.1 != lowc (upc r0)) ++ (ys.take 0).map (fun i => (r0, i)), [], left, taken, wrongs + 1⟩)
            (ST.del (T := h.T) (C := 263) (dT := h.dT) (f := 183) (p := .str (ch1 (upc r0))) (r := .none) (by walk_at "nm") (PE.upper (c := r0) (PE.itemL (by walk_at "nm") LV.imm PE.cint (j := 0) (r := .str (ch1 r0)) rfl (by show (4 : Nat) ≤ 100000; decide) (by intro o k; rfl)) o0 (by rfl) (by rfl)) (List.mem_of_getElem? (i := 8) rfl) (List.mem_of_getElem? (i := 7) rfl) (by walk_at "kis") (by walk_at "kis") (by walk_at "kis") ?_) rm H₀ fun g₁ s₁ L₁ H₁ => ?_
          · have := OPM.under (w := w) (os := os₄) (n := n + 12) (fun N => delitem_ok (n := n + 10) (h := h) hok (okc_up o0) (N := N)) [t, (L, .frame (("crowd", .list [cwP P (undI rows r0), cwP P (undI rows r1), cwP P (undI rows r2), cwP P (undI rows r3)]) :: ("ring", .list [.str (ch1 r0), .str (ch1 r1), .str (ch1 r2), .str (ch1 r3)]) :: frT P Lf W h taken)), (L + 2, .cell (some (.val (.ref h.T)))), (L + 1, .cell (some (.val (.ref d.I)))), (Lf, .list (left.map .int)), (W, .list (List.replicate (wrongs + 1) (.bool false)))] (deskL d signs ln [] ++ N)
            rw [without_map] at this
            simp only [List.take_zero, List.map_nil, List.append_nil]
            exact this
          refine X.next (ST.forS (MI := fun j => t :: MTv P L (L + 2) (L + 1) Lf W h d signs ln N (("crowd", .list [cwP P (undI rows r0), cwP P (undI rows r1), cwP P (undI rows r2), cwP P (undI rows r3)]) :: ("ring", .list [.str (ch1 r0), .str (ch1 r1), .str (ch1 r2), .str (ch1 r3)]) :: frT P Lf W h taken) ⟨rows.filter (fun r => lowc r.1 != lowc (upc r0)) ++ (ys.take j).map (fun i => (r0, i)), [], left, taken, wrongs + 1⟩)
              (MA := fun j p => t :: MTv P L (L + 2) (L + 1) Lf W h d signs ln N (("name", p) :: ("crowd", .list [cwP P (undI rows r0), cwP P (undI rows r1), cwP P (undI rows r2), cwP P (undI rows r3)]) :: ("ring", .list [.str (ch1 r0), .str (ch1 r1), .str (ch1 r2), .str (ch1 r3)]) :: frT P Lf W h taken) ⟨rows.filter (fun r => lowc r.1 != lowc (upc r0)) ++ (ys.take j).map (fun i => (r0, i)), [], left, taken, wrongs + 1⟩)
              (ps := ys.map fun i => .str (ch1 (P.nm i))) (PE.sliceL (lo := some 1) (hi := .none) (PE.itemL (by walk_at "nm") LV.imm PE.cint (j := 0) (r := cwP P (undI rows r0)) rfl (by show (4 : Nat) ≤ 100000; decide) (by intro o k; rfl)) LV.imm (PPt.some PE.cint) PPt.none (by rw [List.length_map]; have := hul r0; omega) (by rw [hys]; exact pick_tail _ _)) IterOf.list (by intro v; rfl) (fun j p q hp => SN.loc (i := 2) (by rfl) (by rfl) (by rfl)) (fun j p q hp => ?_)) rm H₁ fun g₂ s₂ L₂ H₂ => ?_
          · have hj : j < ys.length := by
              have := (List.getElem?_eq_some_iff.mp hp).1
              rwa [List.length_map] at this
            have hpe : p = .str (ch1 (P.nm ys[j])) := by
              rw [List.getElem?_map, List.getElem?_eq_getElem hj] at hp
              exact (Option.some.inj hp).symm
            subst hpe
            have htk : ys.take (j + 1) = ys.take j ++ [ys[j]] := by rw [List.take_add_one, List.getElem?_eq_getElem hj]; rfl
            have hro2 : ∀ r ∈ rows.filter (fun r => lowc r.1 != lowc (upc r0)) ++ (ys.take j).map (fun i => (r0, i)), okc true r.1 ∧ r.2 < 4 := fun r hr => by
              rcases List.mem_append.mp hr with hr | hr
              · exact hro1 r hr
              · obtain ⟨z, hz, rfl⟩ := List.mem_map.mp hr
                exact ⟨o0, hys4 z (List.mem_of_mem_take hz)⟩
            have hrl2 : (rows.filter (fun r => lowc r.1 != lowc (upc r0)) ++ (ys.take j).map (fun i => (r0, i))).length ≤ 200 := by
              rw [List.length_append, List.length_map]
              have := List.length_take_le j ys
              omega
            refine SS.weakV (vars := ("name", .str (ch1 (P.nm ys[j]))) :: ("crowd", .list [cwP P (undI rows r0), cwP P (undI rows r1), cwP P (undI rows r2), cwP P (undI rows r3)]) :: ("ring", .list [.str (ch1 r0), .str (ch1 r1), .str (ch1 r2), .str (ch1 r3)]) :: frT P Lf W h taken) ?_ (wv_cons (by rfl) (wv_cons (by rfl) (frT_pre (pre := [("name", _), ("crowd", _), ("ring", _)]) (by rfl))))
            refine SS.cons (ST.exprX (PEX.add (n := n + 10) (h := h) (rows := P.rowsN (rows.filter (fun r => lowc r.1 != lowc (upc r0)) ++ (ys.take j).map (fun i => (r0, i)))) (c := r0) (x := P.nm ys[j])
              (B := [q, t, (L, .frame (("name", .str (ch1 (P.nm ys[j]))) :: ("crowd", .list [cwP P (undI rows r0), cwP P (undI rows r1), cwP P (undI rows r2), cwP P (undI rows r3)]) :: ("ring", .list [.str (ch1 r0), .str (ch1 r1), .str (ch1 r2), .str (ch1 r3)]) :: frT P Lf W h taken)), (L + 2, .cell (some (.val (.ref h.T)))), (L + 1, .cell (some (.val (.ref d.I)))), (Lf, .list (left.map .int)), (W, .list (List.replicate (wrongs + 1) (.bool false)))]) (N := deskL d signs ln [] ++ N) rfl (by
                rw [htk, List.map_append, ← List.append_assoc]
                unfold MTv TP.rowsN
                rw [List.map_append]
                rfl) ⟨(okRowsN' hP hro2).1, (okRowsN' hP hro2).2 (by omega)⟩ (by unfold TP.rowsN; rw [List.length_map]; omega) o0 (hP.okn _ (hys4 _ (List.getElem_mem hj))) (by walk_at "nm")
              (PL.cons (PE.itemL (by walk_at "nm") LV.imm PE.cint (j := 0) (r := .str (ch1 r0)) rfl (by show (4 : Nat) ≤ 100000; decide) (by intro o k; rfl)) (PL.cons (by walk_at "nm") PL.nil (by rfl)) (by rfl)) (by rfl) (by rfl) (by rfl)) (by rfl) (by rfl)) SS.nil
          rw [List.length_map, List.take_length] at H₂
          have hro3 : ∀ r ∈ rows.filter (fun r => lowc r.1 != lowc (upc r0)) ++ ys.map (fun i => (r0, i)), okc true r.1 ∧ r.2 < 4 := fun r hr => by
            rcases List.mem_append.mp hr with hr | hr
            · exact hro1 r hr
            · obtain ⟨z, hz, rfl⟩ := List.mem_map.mp hr
              exact ⟨o0, hys4 z hz⟩
          have hrl3 : (rows.filter (fun r => lowc r.1 != lowc (upc r0)) ++ ys.map (fun i => (r0, i))).length ≤ 200 := by
            rw [List.length_append, List.length_map]; omega
          refine X.next (M' := t :: MTv P L (L + 2) (L + 1) Lf W h d signs ln N (("crowd", .list [cwP P (undI rows r0), cwP P (undI rows r1), cwP P (undI rows r2), cwP P (undI rows r3)]) :: ("ring", .list [.str (ch1 r0), .str (ch1 r1), .str (ch1 r2), .str (ch1 r3)]) :: frT P Lf W h taken) ⟨rows.filter (fun r => lowc r.1 != lowc (upc r0)) ++ ys.map (fun i => (r0, i)) ++ [(upc r3, y0)], [], left, taken, wrongs + 1⟩)
            (ST.exprX (PEX.add (n := n + 10) (h := h) (rows := P.rowsN (rows.filter (fun r => lowc r.1 != lowc (upc r0)) ++ ys.map (fun i => (r0, i)))) (c := upc r3) (x := P.nm y0)
              (B := [t, (L, .frame (("crowd", .list [cwP P (undI rows r0), cwP P (undI rows r1), cwP P (undI rows r2), cwP P (undI rows r3)]) :: ("ring", .list [.str (ch1 r0), .str (ch1 r1), .str (ch1 r2), .str (ch1 r3)]) :: frT P Lf W h taken)), (L + 2, .cell (some (.val (.ref h.T)))), (L + 1, .cell (some (.val (.ref d.I)))), (Lf, .list (left.map .int)), (W, .list (List.replicate (wrongs + 1) (.bool false)))]) (N := deskL d signs ln [] ++ N) rfl (by
                unfold MTv TP.rowsN
                rw [List.map_append]
                rfl) ⟨(okRowsN' hP hro3).1, (okRowsN' hP hro3).2 (by omega)⟩ (by unfold TP.rowsN; rw [List.length_map]; omega) (okc_up o3) (hP.okn _ hy4) (by walk_at "nm")
              (PL.cons (PE.upper (c := r3) (PE.itemL (by walk_at "nm") LV.imm PE.cint (j := 3) (r := .str (ch1 r3)) rfl (by show (4 : Nat) ≤ 100000; decide) (by intro o k; rfl)) o3 (by rfl) (by rfl)) (PL.cons (PE.itemL (PE.itemL (by walk_at "nm") LV.imm PE.cint (j := 0) (r := cwP P (undI rows r0)) rfl (by show (4 : Nat) ≤ 100000; decide) (by intro o k; rfl)) LV.imm PE.cint (j := 0) (r := .str (ch1 (P.nm y0))) (by rw [hys]; rfl) (by rw [List.length_map]; have := hul r0; omega) (by intro o k; rfl)) PL.nil (by rfl)) (by rfl)) (by rfl) (by rfl) (by rfl)) (by rfl) (by rfl)) rm H₂ fun g₃ s₃ L₃ H₃ => ?_
          have hll : left.length = 4 := by rw [hz]; rfl
          refine X.next (M' := t :: MTv P L (L + 2) (L + 1) Lf W h d signs ln N (("crowd", .list [cwP P (undI rows r0), cwP P (undI rows r1), cwP P (undI rows r2), cwP P (undI rows r3)]) :: ("ring", .list [.str (ch1 r0), .str (ch1 r1), .str (ch1 r2), .str (ch1 r3)]) :: frT P Lf W h taken) ⟨rows.filter (fun r => lowc r.1 != lowc (upc r0)) ++ ys.map (fun i => (r0, i)) ++ [(upc r3, y0)], [], left.set y0 (left.getD y0 0 - 1), taken, wrongs + 1⟩)
            (fun A rm g s Q H k => ST.augItem (D := Lf) (q := 4) (j := y0) (l := left.map .int) (a := .int (left.getD y0 0)) (b := .int 1) (r := .int (left.getD y0 0 - 1)) (by walk_at "nm") (PEX.meth (p := .list (P.nms.map fun c => .str (ch1 c))) (T := "list") (id := "list.index") (ps := [.str (ch1 (P.nm y0))]) (r := .int (y0 : Nat)) (by walk_at "nm") (Ty.list LV.imm)
                (PL.cons (PE.itemL (PE.itemL (by walk_at "nm") LV.imm PE.cint (j := 0) (r := cwP P (undI rows r0)) rfl (by show (4 : Nat) ≤ 100000; decide) (by intro o k; rfl)) LV.imm PE.cint (j := 0) (r := .str (ch1 (P.nm y0))) (by rw [hys]; rfl) (by rw [List.length_map]; have := hul r0; omega) (by intro o k; rfl)) PL.nil (by rfl)) (index_ok hP hnlen hy4)
                F.plainAttrs_list F.slot_list_index F.type_list_index (by rfl) (by rfl) (by rfl) (by rfl) (by rfl)).pe rfl (ps_get (by omega)) (by rw [List.length_map]; omega) PE.cint OP.isub_int (by intro _ _ _; rfl) A rm g s Q H fun g' s' L' H' => k g' s' L' (by
                  rw [← List.map_set] at H'
                  exact H')) rm H₃ fun g₄ s₄ L₄ H₄ => ?_
          refine X.next (ST.aug (Nm.loc (i := 1) (by rfl) (by rfl) (by rfl) (by rfl)) PE.cint OP.iadd_int (SN.loc (i := 1) (by rfl) (by rfl) (by rfl))) rm H₄ fun g₅ s₅ L₅ H₅ => ?_
          refine X.end (k g₅ s₅ (L₁.tr (L₂.tr (L₃.tr (L₄.tr L₅)))) ?_)
          exact H₅.weaken (i := 1) (a := L) rfl (wv_cons (by rfl) (wv_cons (by rfl) (wv_cons (by rfl) (wv_cons (by rfl) (wv_cons (by rfl) (wv_cons (by rfl) (wv_cons (by rfl) (wv_cons (by rfl) (wv_cons (by rfl) (wv_cons (by rfl) (wv_cons (by rfl) wv_nil)))))))))))
        · have hb' : ¬ tb = true := by rw [hb]; decide
          rw [if_neg hb'] at ha2
          subst ha2
          intro A rm g s Q H k
          exact wpAny_execs_nil (k g s Le.rfl (MT_weakV H (wv_cons (by rfl) (frT_pre (pre := [("told", _), ("parts", _), ("crowd", _), ("ring", _), ("step", _)]) (by rfl)))))
        refine X.next (ST.forS (MI := fun j => t :: MTv P L (L + 2) (L + 1) Lf W h d signs ln N (("ring", .list [.str (ch1 r0), .str (ch1 r1), .str (ch1 r2), .str (ch1 r3)]) :: frT P Lf W h a2.taken) ⟨a2.rows, [r1, r2, r3, r0].take j, a2.left, a2.taken, a2.wrongs⟩)
          (MA := fun j p => t :: MTv P L (L + 2) (L + 1) Lf W h d signs ln N (("letter", p) :: ("ring", .list [.str (ch1 r0), .str (ch1 r1), .str (ch1 r2), .str (ch1 r3)]) :: frT P Lf W h a2.taken) ⟨a2.rows, [r1, r2, r3, r0].take j, a2.left, a2.taken, a2.wrongs⟩) (ps := [.str (ch1 r1), .str (ch1 r2), .str (ch1 r3), .str (ch1 r0)])
          (PE.bin (PE.sliceL (lo := some 1) (hi := .none) (rs := [.str (ch1 r1), .str (ch1 r2), .str (ch1 r3)]) (by walk_at "nm") LV.imm (PPt.some PE.cint) PPt.none (by show (4 : Nat) ≤ 1000; decide) (pick_tail _ _)) (PE.sliceL (lo := .none) (hi := some 1) (rs := [.str (ch1 r0)]) (by walk_at "nm") LV.imm PPt.none (PPt.some PE.cint) (by show (4 : Nat) ≤ 1000; decide) (by rfl)) (OP.addL LV.imm LV.imm (by show (4 : Nat) ≤ 10000; decide))) IterOf.list (by intro v; rfl) (fun j p q hp => SN.loc (i := 2) (by rfl) (by rfl) (by rfl)) (fun j p q hp => ?_)) rm H₇ fun g₈ s₈ L₈ H₈ => ?_
        · have hj : j < 4 := (List.getElem?_eq_some_iff.mp hp).1
          refine SS.weakV (vars := ("letter", p) :: ("ring", .list [.str (ch1 r0), .str (ch1 r1), .str (ch1 r2), .str (ch1 r3)]) :: frT P Lf W h a2.taken) ?_ (wv_cons (by rfl) (frT_pre (pre := [("letter", _), ("ring", _)]) (by rfl)))
          obtain ⟨c, rfl, hmap⟩ : ∃ c, p = .str (ch1 c) ∧ ([r1, r2, r3, r0].take j).map ch1 ++ [ch1 c] = ([r1, r2, r3, r0].take (j + 1)).map ch1 := by
            have : j = 0 ∨ j = 1 ∨ j = 2 ∨ j = 3 := by omega
            rcases this with rfl | rfl | rfl | rfl
            · exact ⟨r1, (Option.some.inj hp).symm, rfl⟩
            · exact ⟨r2, (Option.some.inj hp).symm, rfl⟩
            · exact ⟨r3, (Option.some.inj hp).symm, rfl⟩
            · exact ⟨r0, (Option.some.inj hp).symm, rfl⟩
          exact SS.cons (ST.exprX (PEX.push (n := n + 10) (d := d) (signs := signs) (ln := ln) (pb := ([r1, r2, r3, r0].take j).map ch1) (x := ch1 c)
            (B := [q, t, (L, .frame (("letter", .str (ch1 c)) :: ("ring", .list [.str (ch1 r0), .str (ch1 r1), .str (ch1 r2), .str (ch1 r3)]) :: frT P Lf W h a2.taken)), (L + 2, .cell (some (.val (.ref h.T)))), (L + 1, .cell (some (.val (.ref d.I)))), (Lf, .list (a2.left.map .int)), (W, .list (List.replicate a2.wrongs (.bool false)))] ++ hdrL h (P.rowsN a2.rows)) (N := N) rfl (by rw [hmap]; rfl) (by walk_at "nm") (by walk_at "nm") (by rw [List.length_map]; have := List.length_take_le j [r1, r2, r3, r0]; omega) (by rfl) (by rfl)) (by rfl) (by rfl)) SS.nil
        change HS w os₄ g₈ (t :: MTv P L (L + 2) (L + 1) Lf W h d signs ln N (("ring", .list [.str (ch1 r0), .str (ch1 r1), .str (ch1 r2), .str (ch1 r3)]) :: frT P Lf W h a2.taken) ⟨a2.rows, [r1, r2, r3, r0], a2.left, a2.taken, a2.wrongs⟩) s₈ at H₈
        refine X.end ?_
        exact kk os₄ g₈ s₈ X₄ (L₁.tr (L₂.tr (L₃.tr (L₄.tr (L₅.tr (L₆.tr (L₇.tr L₈))))))) (MT_weak H₈ (frT_pre (pre := [("ring", _)]) (by rfl)))
    · -- the end
      clear hend
      change HS w os' g₁₆ (MT P L (L + 2) (L + 1) Lf W h d signs ln N P.fin) s₁₆ at H₁₆
      have hk : ∀ v g' s', Le g g' → HS w os' g' (deskL d signs ln (P.fin.pb.map ch1) ++ N) s' → Rd g' v (.tup [.int (P.fin.taken : Nat), .bool (P.good P.fin)]) → Q v s' := fun v g' s' Lx Hx rx => k os' v g' s' X₁₆ Lx Hx rx
      clear k
      generalize P.fin = fin at H₁₆ hF hk
      obtain ⟨rows, pb, left, taken, wrongs⟩ := fin
      have hro := hF.rows
      have hrl := hF.len
      have hwr := hF.wr
      obtain ⟨z0, z1, z2, z3, hz, hzb⟩ := hF.left
      dsimp only at hro hrl hwr hz hzb
      have hok := okRowsN hP hro hrl
      have hll : left.length = 4 := by rw [hz]; rfl
      have H₁₇ : HS w os' g₁₆ (MTw P L (L + 2) (L + 1) Lf W h d signs ln N (frT P Lf W h taken) ⟨rows, pb, left, taken, wrongs⟩ (List.replicate wrongs false ++ (List.range 0).map (P.bad ⟨rows, pb, left, taken, wrongs⟩))) s₁₆ := by
        have : MTw P L (L + 2) (L + 1) Lf W h d signs ln N (frT P Lf W h taken) ⟨rows, pb, left, taken, wrongs⟩ (List.replicate wrongs false ++ (List.range 0).map (P.bad ⟨rows, pb, left, taken, wrongs⟩)) = MT P L (L + 2) (L + 1) Lf W h d signs ln N ⟨rows, pb, left, taken, wrongs⟩ := by
          unfold MTw MT MTv
          rw [List.range_zero, List.map_nil, List.append_nil, List.map_replicate]
        rw [this]; exact H₁₆
      refine X.next (ST.forS (MI := fun j => MTw P L (L + 2) (L + 1) Lf W h d signs ln N (frT P Lf W h taken) ⟨rows, pb, left, taken, wrongs⟩ (List.replicate wrongs false ++ (List.range j).map (P.bad ⟨rows, pb, left, taken, wrongs⟩)))
        (MA := fun j p => MTw P L (L + 2) (L + 1) Lf W h d signs ln N (("k", p) :: frT P Lf W h taken) ⟨rows, pb, left, taken, wrongs⟩ (List.replicate wrongs false ++ (List.range j).map (P.bad ⟨rows, pb, left, taken, wrongs⟩))) (src := .rng 4)
        (PE.callB (by walk_at "nm") (by intro a; exact nofun) (PL.cons PE.cint PL.nil (by rfl)) OP.range1 (by rfl) (by rfl)) (IterOf.rng (m := 4) (by decide) (by decide)) (by intro v; rfl) (fun i p t hp => SN.loc (i := 1) (by rfl) (by rfl) (by rfl)) (fun i p t hp => ?_)) rm' H₁₇ fun g₁₈ s₁₈ L₁₈ H₁₈ => ?_
      · have hi : i < 4 := (List.getElem?_eq_some_iff.mp hp).1
        have hpe : p = .int (i : Nat) := by
          rw [List.getElem?_map, List.getElem?_range (by simpa using hi)] at hp
          simpa using hp.symm
        subst hpe
        have hf4 := fmod4 (left.getD i 0 - left.getD P.bank 0)
        have hbl := hP.bank
        intro A rm g s Q H k
        refine X.next (M' := t :: MTw P L (L + 2) (L + 1) Lf W h d signs ln N (("k", .int (i : Nat)) :: frT P Lf W h taken) ⟨rows, pb, left, taken, wrongs⟩ (List.replicate wrongs false ++ (List.range (i + 1)).map (P.bad ⟨rows, pb, left, taken, wrongs⟩)))
          (ST.exprX (PEX.meth (p := .val (.ref W)) (T := "list") (id := "list.append") (ps := [.bool (P.bad ⟨rows, pb, left, taken, wrongs⟩ i)]) (r := .none) (by walk_at "nm") (Ty.list (LV.mut (i := 5) rfl)) (PL.cons ?_ PL.nil (by rfl)) ?_ F.plainAttrs_list F.slot_list_append F.type_list_append (by rfl) (by rfl) (by rfl) (by rfl) (by rfl)) (by rfl) (by rfl)) rm H fun g₁ s₁ L₁ H₁ => ?_
        · refine PE.as (PE.and2 (PE.cmp (by walk_at "nm") (by walk_at "nm") OP.ne_int (by rfl)) (fun _ => PE.cmp (PE.itemL (by walk_at "nm") LV.imm (by walk_at "nm") (nm_get (by omega)) (by rw [List.length_map]; omega) (by intro o k; rfl))
            (PE.getall (n := n + 10) (h := h) (rows := P.rowsN rows) (c := 65 + (Int.fmod (left.getD i 0 - left.getD P.bank 0) 4).toNat) (B := [t, (L, .frame (("k", .int (i : Nat)) :: frT P Lf W h taken)), (L + 2, .cell (some (.val (.ref h.T)))), (L + 1, .cell (some (.val (.ref d.I)))), (Lf, .list (left.map .int)), (W, .list ((List.replicate wrongs false ++ (List.range i).map (P.bad ⟨rows, pb, left, taken, wrongs⟩)).map .bool))]) (N := deskL d signs ln (pb.map ch1) ++ N) rfl hok (okc65 (by omega)) (by walk_at "nm")
              (PE.itemS (j := (Int.fmod (left.getD i 0 - left.getD P.bank 0) 4).toNat) PE.cstr (PE.spot (l := left) (p := .val (.ref Lf)) (by walk_at "nm") (by walk_at "nm") (LV.mut (i := 4) rfl) (by walk_at "nm") (by walk_at "nm") (by omega) (by omega) (by omega) (by intro o k; rfl) (by intro o k; rfl)) (by show _ < 4; omega) (by show (4 : Nat) ≤ 1000; decide) (ABCD (by omega)) (by intro o k; rfl) (by intro t r; rfl)) (by rfl) (by rfl))
            (OP.notinL (b := (undI rows (P.letter left i)).contains i) LV.imm (by
              rw [und_map, List.map_map]
              exact lay_cw hP fun x hx => undI_mem hx hro) (lay_cw (row := [i]) hP (by intro x hx; cases List.mem_singleton.mp hx; exact hi)) (by omega) (by
              rw [und_map, List.map_map, undI_low rows (by omega)]
              exact any_str hP hi fun x hx => undI_mem hx hro)) (by rfl))) ?_
          unfold TP.bad
          congr 2
          rw [Bool.eq_iff_iff, bne_iff_ne, bne_iff_ne]
          omega
        · have := OPM.append (w := w) (os := os') (n := n + 12) (M := t :: MTw P L (L + 2) (L + 1) Lf W h d signs ln N (("k", .int (i : Nat)) :: frT P Lf W h taken) ⟨rows, pb, left, taken, wrongs⟩ (List.replicate wrongs false ++ (List.range i).map (P.bad ⟨rows, pb, left, taken, wrongs⟩))) (i := 5) (D := W) (l := (List.replicate wrongs false ++ (List.range i).map (P.bad ⟨rows, pb, left, taken, wrongs⟩)).map .bool) (p := .bool (P.bad ⟨rows, pb, left, taken, wrongs⟩ i)) rfl (by simp only [List.length_map, List.length_append, List.length_replicate, List.length_range]; omega)
          rw [show (List.replicate wrongs false ++ (List.range i).map (P.bad ⟨rows, pb, left, taken, wrongs⟩)).map PV.bool ++ [PV.bool (P.bad ⟨rows, pb, left, taken, wrongs⟩ i)] = (List.replicate wrongs false ++ (List.range (i + 1)).map (P.bad ⟨rows, pb, left, taken, wrongs⟩)).map PV.bool by
            simp only [List.range_succ, List.map_append, List.append_assoc, List.map_cons, List.map_nil]] at this
          exact this
        · exact X.end (k g₁ s₁ L₁ (H₁.weaken (i := 1) (a := L) rfl (frT_pre (pre := [("k", _)]) (by rfl))))
      have H₁₉ : HS w os' g₁₈ ((Lf, .list (left.map .int)) :: (L, .frame (frT P Lf W h taken)) :: (L + 2, .cell (some (.val (.ref h.T)))) :: (L + 1, .cell (some (.val (.ref d.I)))) :: (W, .list ((List.replicate wrongs false ++ (List.range 4).map (P.bad ⟨rows, pb, left, taken, wrongs⟩)).map .bool)) :: (hdrL h (P.rowsN rows) ++ (deskL d signs ln (pb.map ch1) ++ N))) s₁₈ :=
        H₁₈.perm (List.perm_middle (l₁ := [_, _, _]))
      obtain ⟨g₂₀, L₂₀, H₂₀⟩ := H₁₉.freezeF (i := 0) (a := L) (x := "left") rfl (by rfl)
      change HS w os' g₂₀ ((L, .frame (("left", .list (left.map .int)) :: frT P Lf W h taken)) :: (L + 2, .cell (some (.val (.ref h.T)))) :: (L + 1, .cell (some (.val (.ref d.I)))) :: (W, .list ((List.replicate wrongs false ++ (List.range 4).map (P.bad ⟨rows, pb, left, taken, wrongs⟩)).map .bool)) :: (hdrL h (P.rowsN rows) ++ (deskL d signs ln (pb.map ch1) ++ N))) s₁₈ at H₂₀
      have hsl : Small left := ⟨fun x hx => by have := hzb x hx; constructor <;> omega, by rw [hz]; show (4 : Nat) ≤ 1000; decide⟩
      refine X.ret (p := .tup [.int (taken : Nat), .bool (P.good ⟨rows, pb, left, taken, wrongs⟩)]) ?_ rm' H₂₀ fun v g₂₁ s₂₁ L₂₁ H₂₁ r₂₁ => ?_
      · refine PE.tup (PL.cons (by walk_at "nm") (PL.cons ?_ PL.nil (by rfl)) (by rfl)) (by show (2 : Nat) ≤ 1000; decide)
        refine PE.as (PE.and4 (b := true) (c := hopelessI left) (d := !((List.replicate wrongs false ++ (List.range 4).map (P.bad ⟨rows, pb, left, taken, wrongs⟩)).any id)) (PE.cmp (PE.callB (by walk_at "nm") (by intro a; exact nofun) (PL.cons (by walk_at "nm") PL.nil (by rfl)) (OP.len (LV.mut (i := 4) rfl) (by rw [List.length_map]; unfold TP.rowsN; rw [List.length_map]; omega)) (by rfl) (by rfl)) PE.cint OP.eq_int (by rfl)) (fun _ => ?_) (fun _ _ => ?_) (fun _ _ _ => ?_)) ?_
        · exact PE.cmp (PEX.methF0 (f := 227) (C := 263) (x := h.T) (dx := h.dT) (r := .list ((P.rowsN rows).map rowP)) (by walk_at "nm") (List.mem_of_getElem? (i := 6) rfl) (List.mem_of_getElem? (i := 5) rfl)
            (OPM.under (w := w) (os := os') (n := n + 12) (D := hdrL h (P.rowsN rows)) (D' := hdrL h (P.rowsN rows)) (fun N => (items_ok (n := n + 11) hok (N := N)).m) [(L, .frame (("left", .list (left.map .int)) :: frT P Lf W h taken)), (L + 2, .cell (some (.val (.ref h.T)))), (L + 1, .cell (some (.val (.ref d.I)))), (W, .list ((List.replicate wrongs false ++ (List.range 4).map (P.bad ⟨rows, pb, left, taken, wrongs⟩)).map .bool))] (deskL d signs ln (pb.map ch1) ++ N))
            (by rfl) (by walk_at "kis") (by walk_at "kis") (by walk_at "kis") (by walk_at "kis") (by walk_at "kis") (by rfl)).pe (by walk_at "nm") (OP.eqL LV.imm (LV.mut (i := 4) rfl) (lay_rows hok) (lay_rows hok) (by omega) (eqv_rows _)) (by rfl)
        · exact PE.callF (a := 286) (ps := [.list (left.map .int)]) (by walk_at "nm") (by walk_at "kis") (PL.cons (by walk_at "nm") PL.nil (by rfl)) (OP.le (hopeless_ok hsl) (by omega)) (by rfl) (by rfl)
        · exact PE.not (PE.cmp PE.cbool (by walk_at "nm") (OP.inL (LV.mut (i := 3) rfl) (lay_bools _) (by rfl) (by omega) (any_true _)) (by rfl))
        · unfold TP.good
          have e1 : ((List.replicate wrongs false ++ (List.range 4).map (P.bad ⟨rows, pb, left, taken, wrongs⟩)).any id) = (List.range 4).any (P.bad ⟨rows, pb, left, taken, wrongs⟩) := by
            rw [List.any_append, List.any_map]
            have : (List.replicate wrongs false).any id = false := by
              rw [List.any_eq_false]; intro x hx; rw [List.eq_of_mem_replicate hx]; decide
            rw [this, Bool.false_or]; rfl
          rw [e1, List.length_map]
          unfold TP.rowsN
          rw [List.length_map, Bool.true_and]
          congr 2
          rw [Bool.eq_iff_iff, beq_iff_eq, decide_eq_true_iff]
          dsimp only
          omega
      · obtain ⟨g₂₂, L₂₂, H₂₂, -⟩ := H₂₁.drop (M' := deskL d signs ln (pb.map ch1) ++ N) (List.sublist_append_right [_, _, _, _, _, _, _] _)
        exact hk v g₂₂ s₂₁ (L'.tr (L₁.tr (L₂.tr (L₄.tr (L₅.tr (L₆.tr (L₈.tr (L₁₀.tr (L₁₁.tr (L₁₂.tr (L₁₄.tr (L₁₅.tr (L₁₆.tr (L₁₈.tr (L₂₀.tr (L₂₁.tr L₂₂)))))))))))))))) H₂₂ (r₂₁.mono L₂₂)
end
set_option maxHeartbeats 1000000
section
variable {w : World} {os : Ext} {n : Nat} {M M' : Led} {env : Env} {pos : Pos}
theorem pick_map {α : Type} (f : α → PV) (l : List α) (lo hi st : Option Int) : pickP (l.map f) lo hi st = ((sliceRange (sliceBounds lo hi st l.length).1 (sliceBounds lo hi st l.length).2.1 (sliceBounds lo hi st l.length).2.2).filterMap (l[·]?)).map f := by
  unfold pickP
  rw [List.length_map, List.map_filterMap]
  congr 1
  funext i
  rw [List.getElem?_map]
theorem pick_from (ps : List PV) (a : Nat) (ha : a ≤ ps.length) : pickP ps (some (a : Int)) .none .none = ps.drop a := by
  have h := sliceRange_one a ps.length
  have e : min (a : Int) (ps.length : Int) = a := by omega
  unfold pickP sliceBounds
  simp only [Option.getD_none, show (1 : Int) > 0 by decide, if_true, show ¬ ((a : Int) < 0) by omega, if_false]
  rw [show Min.min (a : Int) (ps.length : Int) = a from e, show Max.max (0 : Int) (a : Int) = a by omega]
  rw [h]
  have := pick_run ps.toArray a (ps.length - a)
  simp only [List.getElem?_toArray] at this
  rw [this, List.take_of_length_le (by simp)]
theorem pick_upto (ps : List PV) (b : Nat) : pickP ps .none (some (b : Int)) .none = ps.take b := by
  have h := sliceRange_one 0 (min b ps.length)
  have e : min (b : Int) (ps.length : Int) = ((min b ps.length : Nat) : Int) := by omega
  unfold pickP sliceBounds
  simp only [Option.getD_none, show (1 : Int) > 0 by decide, if_true, show ¬ ((b : Int) < 0) by omega, if_false]
  rw [show Min.min (b : Int) (ps.length : Int) = ((min b ps.length : Nat) : Int) from e, show Max.max (0 : Int) ((min b ps.length : Nat) : Int) = ((min b ps.length : Nat) : Int) by omega]
  rw [show ((0 : Nat) : Int) = 0 from rfl] at h
  rw [h]
  have := pick_run ps.toArray 0 (min b ps.length - 0)
  simp only [List.getElem?_toArray] at this
  rw [this]
  simp [List.take_eq_take_iff]
theorem PE.cnat {b : Nat} {i : Int} {k : Nat} (h : i = (b : Int)) : PE w os n env M (.Constant (.int i) k pos) (.int (b : Int)) := h ▸ PE.cint
theorem OP.mod_nat {a b : Nat} (hb : 0 < b) : OP w os n M (bo .Mod) [.int (a : Nat), .int (b : Nat)] (.int ((a % b : Nat) : Int)) := by
  have h := OP.mod_int (w := w) (os := os) (n := n) (M := M) (a := (a : Int)) (b := (b : Int)) (by omega)
  rw [Int.fmod_eq_emod_of_nonneg _ (by omega)] at h
  exact h
theorem pylong_small (a : Int) {b : Nat} (hb : b < 1073741824) : Builtin.divisionGoesByPylong a (b : Int) = false := by
  unfold Builtin.divisionGoesByPylong
  dsimp only
  have h : (if ((b : Int) == 0) = true then 0 else (b : Int).natAbs.log2 / 30 + 1) ≤ 1 := by
    split
    · decide
    · rename_i h0
      have hb0 : b ≠ 0 := fun e => h0 (by rw [e]; rfl)
      have : b.log2 < 30 := (Nat.log2_lt hb0).mpr (by omega)
      rw [Int.natAbs_natCast]
      omega
  rw [Bool.and_eq_false_iff]
  left
  rw [decide_eq_false_iff_not]
  omega
theorem OP.div_nat {a b : Nat} (hb : 0 < b) (hp' : b < 1073741824) : OP w os n M (bo .FloorDiv) [.int (a : Nat), .int (b : Nat)] (.int ((a / b : Nat) : Int)) := by
  have h := OP.floordiv_int (w := w) (os := os) (n := n) (M := M) (a := (a : Int)) (b := (b : Int)) (by omega) (pylong_small a hp')
  rw [Int.fdiv_eq_ediv_of_nonneg _ (by omega)] at h
  exact h
theorem str_get {l : List Str} {i : Nat} (h : i < l.length) : (l.map PV.str)[i]? = some (.str (l.getD i "")) := by
  rw [List.getElem?_map, List.getElem?_eq_getElem h, List.getD_eq_getElem?_getD, List.getElem?_eq_getElem h]; rfl
theorem nat_get {l : List Nat} {i : Nat} (h : i < l.length) : (l.map fun c => PV.int (c : Nat))[i]? = some (.int (l.getD i 0 : Nat)) := by
  rw [List.getElem?_map, List.getElem?_eq_getElem h, List.getD_eq_getElem?_getD, List.getElem?_eq_getElem h]; rfl
theorem callKw {f : Str} {np : Pos} {a : Addr} (hfn : PE w os n env M (.Name f np) (.val (.ref a))) (hkp : keepIn (KF w) (.ref a) = true) {e ke : Expr} {es : List Expr} {ps : List PV} {kn : Str} {kp : Pos}
    (ha : PL w os n env M pos (e :: es) ps) (hs : starEach (e :: es) env = (false, eval e env) :: starEach es env) (hp : (backTo pos (starEach (e :: es) env)).any (·.1) = false)
    {A : Around} (rm : Rm A n) {g : Heap} {s : Shared} {Q : Value → Shared → Prop} (H : HS w os g M s)
    (k : ∀ vs g' s', Le g g' → HS w os g' M s' → RdL g' vs ps → wpAny (model PRG w) A (eval ke env) (fun kv s₂ => (KF w).In s₂.heap ∧ wpAny (model PRG w) A (call (.ref a) vs [(kn, kv)]) Q NoE s₂) NoE s') :
    wpAny (model PRG w) A (eval (.Call (.Name f np) (e :: es) [⟨some kn, ke, kp⟩] pos) env) Q NoE s :=
  wpAny_Call_Name_kw (hfn A rm g s _ H fun v g₁ s₁ L₁ H₁ r₁ => by
    cases r₁
    refine callWith_KW (K := KF w) (h₀ := g₁) H₁.bs.k hkp (by rfl) ?_ (by rw [hp]; rfl) hs
    have := ha A rm g₁ s₁ (fun vs s₁ => wpAny (model PRG w) A (evalAll ((backToKw pos (keywordEach [⟨some kn, ke, kp⟩] env)).map (·.2)))
      (fun ks s₂ => (KF w).In s₂.heap ∧ wpAny (model PRG w) A (call (.ref a) ([] ++ vs) (((backToKw pos (keywordEach [⟨some kn, ke, kp⟩] env)).filterMap (·.1)).zip ks)) Q NoE s₂) NoE s₁) H₁
    refine this fun vs g₂ s₂ L₂ H₂ r₂ => ?_
    refine evalAll_cons (wpAny_bind (wpAny_mono (k vs g₂ s₂ (L₁.tr L₂) H₂ r₂) (fun kv s₃ h₃ => wpAny_bind (wpAny_standAt (wpAny_pure (evalAll_nil h₃)))) fun _ _ x => x)))
noncomputable def keyBody (p : Nat → Pos) : Expr := .Call (.Name "_law_ruined" (p 0)) [.Name "purses" (p 1), .Name "many" (p 2)] [] (p 3)
noncomputable def KeyP (qual : Str) (c c' : Addr) (o : Obj) : Prop := ∃ params p scope pm ctv, o = kla_obj "<lambda>" qual params (keyBody p) scope [("purses", c)] pm c' ctv ∧
  (∀ v, bindArgs (kla_fn "<lambda>" qual params (keyBody p) scope [("purses", c)] pm (.ref c') ctv) ⟨[v], []⟩ = pure [(Str.ofString "many", v)]) ∧ scope.kind = .function ∧ scope.isGenerator = false ∧ scope.isCoroutine = false ∧
  scope.names.lookup (Str.ofString "many") = some .local ∧ scope.names.lookup (Str.ofString "purses") = some .free ∧ scope.names.lookup (Str.ofString "_law_ruined") = some .globalImplicit ∧ (∀ x ∈ scope.names, x.2 ≠ .cell)
theorem key_ok {Kf c c' : Addr} {qual : Str} {p0 p1 p2 p3 : Int} {i : Nat} (hK : (Kf, Ent.is (KeyP qual c c')) ∈ M) (hcc : (c', codeE qual) ∈ M) (hc : (c, Ent.cell (some (.list ([p0, p1, p2, p3].map .int)))) ∈ M) (hi : i ≤ 20) (hp : ∀ x ∈ [p0, p1, p2, p3], -1000 ≤ x ∧ x ≤ 1000) :
    OP w os (n + 11) M (cf (.ref Kf)) [.int (i : Nat)] (.bool (ruinedB p0 p1 p2 p3 i)) := by
  intro A rm g s Q vs H r k
  cases r with | cons r₁ r =>
  cases r
  obtain ⟨oR, hR, params, p, scope, pm, ctv, rfl, hb, hk, hgen, hco, hmy, hpu, hru, hnc⟩ := H.at_ _ hK
  obtain ⟨oc, hc', cvs, tq, hc1, hc2⟩ := H.at_ _ hcc
  refine wpAny_call (kla_callFunE (by have := rm.dp; omega) hR rfl hco hgen rfl ⟨_, oc, cvs, tq, rfl, hc', hc1, hc2⟩ ?_)
  rename_i v
  show wpAny _ _ (bindArgs (kla_fn _ _ _ _ _ _ _ _ _) ⟨[v], []⟩) _ _ _
  rw [hb]
  refine wpAny_pure (wpAny_newFunctionEnv hnc (fun z hz => by cases List.mem_singleton.mp hz; exact hmy) (fun h' hn hs => ?_) hk)
  obtain ⟨g₁, L₁, H₁, -⟩ := H.new (a := s.heap.objs.size) (e := .frame [("many", .int (i : Nat))]) (s' := { s with heap := h', toks := s.toks + 1 }) (get_none_of_size (Nat.le_refl _))
    (fun b o e => (hs.2 b (Nat.ne_of_lt (Heap.lt_size e))).trans (Heap.get?_push_of_some _ e)) (fun g' L _ => nsFrame hn (bv_cons (by rfl) (r₁.mono L) bv_nil)) rfl rfl
  refine ⟨H₁.lim, kla_codeExpr ?_⟩
  show wpAny _ (A.deeper (envX qual scope s.heap.objs.size Kf (.ref c') [("purses", c)])) (eval (keyBody p) (envX qual scope s.heap.objs.size Kf (.ref c') [("purses", c)])) _ _ _
  have rm' := rm.deeper (envX qual scope s.heap.objs.size Kf (.ref c') [("purses", c)])
  have e1 : PE w os (n + 10) (envX qual scope s.heap.objs.size Kf (.ref c') [("purses", c)]) ((s.heap.objs.size, Ent.frame [("many", .int (i : Nat))]) :: M) (.Name "purses" (p 1)) (.list ([p0, p1, p2, p3].map .int)) :=
    PE.name (Nm.freM hk hpu (by rfl) (.tail _ hc) (by decide +kernel)) (by decide +kernel)
  have e2 : PE w os (n + 10) (envX qual scope s.heap.objs.size Kf (.ref c') [("purses", c)]) ((s.heap.objs.size, Ent.frame [("many", .int (i : Nat))]) :: M) (.Name "many" (p 2)) (.int (i : Nat)) :=
    PE.name (Nm.loc (i := 0) hk hmy rfl (by rfl)) (by decide +kernel)
  have e3 : PE w os (n + 10) (envX qual scope s.heap.objs.size Kf (.ref c') [("purses", c)]) ((s.heap.objs.size, Ent.frame [("many", .int (i : Nat))]) :: M) (.Name "_law_ruined" (p 0)) (.val (.ref 291)) :=
    PE.glob ⟨hk, rfl, rfl⟩ hru (by walk_at "kis") (by decide +kernel)
  refine Env.noE ((PE.callF (pos := p 3) (a := 291) e3 (by walk_at "kis") (PL.cons e1 (PL.cons e2 PL.nil (by rfl)) (by rfl)) (ruined_ok hi hp) (by rfl) (by rfl)) _ rm' g₁ _ _ H₁ fun v g₂ s₂ L₂ H₂ r₂ => ?_)
  obtain ⟨g₄, L₄, H₄, -⟩ := H₂.drop (M' := M) (List.sublist_cons_self _ _)
  exact k v g₄ s₂ (L₁.tr (L₂.tr L₄)) H₄ (r₂.mono L₄)
end
set_option maxHeartbeats 1000000
noncomputable def allN : List Nat := [9, 32, 34, 35, 40, 41, 92, 97]
noncomputable def whitesL : List Str := [" ", "\n", "\t\n", "\r"]
noncomputable def lastsL : List Str := ["z", "z\\", "\"z", "z \n"]
noncomputable def piecesL : List Str := ["", "\")\"", "\"(\"", "\\)", "\"\\\")\"", "\"\""]
noncomputable def tailsL : List (Str × Str) := [("", ""), ("", "\\"), ("\"", "")]
noncomputable def pI (s : Nat) : Int := ((s % 23 : Nat) : Int) - 11
noncomputable def trP (s0 s1 s2 s3 : Nat) : List Int := [pI s0, pI s1, pI s2, ((s3 % 7 : Nat) : Int) - 1 - [pI s0, pI s1, pI s2].sum]
noncomputable def trO (s0 s1 s2 s3 : Nat) : List Int := (trP s0 s1 s2 s3).map fun c => 1 - c
noncomputable def trN (s3 : Nat) : List Nat := (allN.drop (s3 / 28 % 5)).take 4
noncomputable def trW (s0 s1 s2 s4 : Nat) : List Nat := [s0 / 23 % 4, s1 / 23 % 4, s2 / 23 % 4, s4 % 4]
noncomputable def trHi (s0 s1 s2 s4 : Nat) : List Nat := [s0 / 92 % 4, s1 / 92 % 4, s2 / 92 % 4, s4 / 4 % 4]
noncomputable def trH (s0 s1 s2 s4 : Nat) : List Str := (trHi s0 s1 s2 s4).map fun k => whitesL.getD k ""
noncomputable def spellW (c j : Nat) : Str := (spelledL c (j : Int)).getD j ""
noncomputable def trSp (nms wys : List Nat) (whs : List Str) (k : Nat) : Str := spellW (nms.getD k 0) (wys.getD k 0) ++ whs.getD k ""
noncomputable def trT (nms wys : List Nat) (whs : List Str) (last : Str) : Str := joinE ((List.range 4).map (trSp nms wys whs)) ++ last
noncomputable def lexSt (T : List Nat) : Nat → List Nat × Int
  | 0 => (T, 1)
  | j + 1 => ((lexG 500 (lexSt T j).1 (lexSt T j).2).2.1, (lexG 500 (lexSt T j).1 (lexSt T j).2).2.2)
noncomputable def lexTk (T : List Nat) (j : Nat) : List Nat := (lexG 500 (lexSt T j).1 (lexSt T j).2).1
structure Lx (nms : List Nat) (x : Str) : Prop where
  sz : x.cps.size ≤ 500
  len : ∀ j, j ≤ 5 → (lexSt x.cps.toList j).1.length ≤ 500
  tk : ∀ j, j < 4 → lexTk x.cps.toList j = [nms.getD j 0]
  t4 : lexTk x.cps.toList 4 = [122]
  t5 : lexTk x.cps.toList 5 = []
  ln : (lexSt x.cps.toList 6).2 = 1 + Txt.count x "\n"
structure Th (P : TP) : Prop where
  ok : Ok P
  N : P.N ≤ 400
  G : ∀ i a, i < P.N → Reach P.start i a → Gd P a
  F : Fd P P.fin
  pb : P.fin.pb = []
  good : P.good P.fin = true
noncomputable def trP1 (s0 s1 s2 s3 : Nat) : TP := ⟨trP s0 s1 s2 s3, s3 / 7 % 4, trN s3, piecesL.getD (s3 / 140 % 6) "", (tailsL.getD (s3 / 840 % 3) ("", "")).1, (tailsL.getD (s3 / 840 % 3) ("", "")).2, false⟩
noncomputable def trP2 (s0 s1 s2 s3 s4 : Nat) : TP := ⟨trO s0 s1 s2 s3, s4 / 64 % 4, trN s3, piecesL.getD (s3 / 140 % 6) "", (tailsL.getD (s3 / 840 % 3) ("", "")).1, (tailsL.getD (s3 / 840 % 3) ("", "")).2, true⟩
noncomputable def trR (s0 s1 s2 s3 : Nat) (m : Nat) : Bool := ruinedB (pI s0) (pI s1) (pI s2) (((s3 % 7 : Nat) : Int) - 1 - [pI s0, pI s1, pI s2].sum) m
noncomputable def trF (s0 s1 s2 s3 s4 : Nat) : Nat := if s4 / 256 % 2 ≠ 0 then bisR (trR s0 s1 s2 s3) false ((trP s0 s1 s2 s3).sum + 2).toNat else bisL (trR s0 s1 s2 s3) true ((trP s0 s1 s2 s3).sum + 2).toNat
structure Tr (s0 s1 s2 s3 s4 : Nat) : Prop where
  lx : Lx (trN s3) (trT (trN s3) (trW s0 s1 s2 s4) (trH s0 s1 s2 s4) (lastsL.getD (s4 / 16 % 4) ""))
  th1 : Th (trP1 s0 s1 s2 s3)
  th2 : Th (trP2 s0 s1 s2 s3 s4)
  f1 : (trP1 s0 s1 s2 s3).fin.taken = trF s0 s1 s2 s3 s4
  f2 : ((trP2 s0 s1 s2 s3 s4).fin.taken : Int) = (trF s0 s1 s2 s3 s4 : Int) - (trP s0 s1 s2 s3).sum + 2
  sm : 0 ≤ (trP s0 s1 s2 s3).sum + 2 ∧ (trP s0 s1 s2 s3).sum ≤ 10
set_option maxHeartbeats 0
section
variable {w : World} {os : Ext} {n : Nat} {M M' : Led} {env : Env} {pos : Pos}
theorem trN_len (s3 : Nat) : (trN s3).length = 4 := by
  unfold trN allN
  have : s3 / 28 % 5 < 5 := Nat.mod_lt _ (by decide)
  rw [List.length_take, List.length_drop]
  show min 4 (8 - s3 / 28 % 5) = 4
  omega
noncomputable def sv (s0 s1 s2 s3 s4 : Nat) : List Nat := [s0, s1, s2, s3, s4]
theorem CompOk.as {e iter : Expr} {scope : Scope} {res res' : List PV} (h : CompOk w os n env M e iter scope pos res) (hr : res = res') : CompOk w os n env M e iter scope pos res' := hr ▸ h
theorem all_filter {α : Type} (l : List α) : l.filter (fun _ => true) = l := List.filter_eq_self.mpr fun _ _ => rfl
theorem spellW_get {c j : Nat} (hj : j < 4) : (spelledL c (j : Int))[j]? = some (spellW c j) := by
  unfold spellW spelledL
  have : j = 0 ∨ j = 1 ∨ j = 2 ∨ j = 3 := by omega
  rcases this with rfl | rfl | rfl | rfl <;> rfl
theorem spellW_len {c j : Nat} (hj : j < 4) : (spellW c j).length ≤ 4 := by
  have h1 : (bareS c).length = 2 := rfl
  have h2 : ∀ w, (quotedS c w).length ≤ 4 := fun w => by
    unfold quotedS
    split
    · exact Nat.le_trans (Nat.le_of_eq (by rfl : _ = 3)) (by decide)
    · exact Nat.le_of_eq (by rfl)
  have h3 : (lastS c).length ≤ 2 := by
    unfold lastS
    split
    · exact Nat.le_trans (Nat.le_of_eq (by rfl : _ = 1)) (by decide)
    · exact Nat.le_of_eq (by rfl)
  unfold spellW spelledL
  have : j = 0 ∨ j = 1 ∨ j = 2 ∨ j = 3 := by omega
  rcases this with rfl | rfl | rfl | rfl
  · exact Nat.le_trans (Nat.le_of_eq h1) (by decide)
  · exact h2 _
  · exact h2 _
  · exact Nat.le_trans h3 (by decide)
theorem swapB (A B C : Led) : (A ++ (B ++ C)).Perm (B ++ (A ++ C)) := by
  rw [← List.append_assoc, ← List.append_assoc]
  exact List.Perm.append_right _ List.perm_append_comm
theorem eqv_strs : ∀ l : List Nat, PyData.eqvAll (toDs (l.map fun c => .str (ch1 c))) (toDs (l.map fun c => .str (ch1 c))) = true
  | [] => by simp [toDs, PyData.eqvAll]
  | r :: l => by
    simp only [List.map_cons, toDs, PyData.eqvAll, eqv_strs l, Bool.and_true]
    simp [toD, PyData.eqv]
theorem X.ifCmpX {l r : Expr} {op : CmpOp} {p q : PV} {z : Bool} {cp : Pos} {body orelse rest : List Stmt} (hl : PEX w os n env M l p M') (hr : PE w os n env M' r q) (ho : OP w os n M' (co op) [p, q] (.bool z)) (hb : behindInMarks op r = false)
    {A : Around} (rm : Rm A n) {g : Heap} {s : Shared} {Q : Flow → Shared → Prop} (H : HS w os g M s)
    (k : ∀ g' s', Le g g' → HS w os g' M' s' → wpAny (model PRG w) A (execs (if z = true then body else orelse) env) (fun f s' => match f with | .next => wpAny (model PRG w) A (execs rest env) Q NoE s' | f => Q f s') NoE s') :
    wpAny (model PRG w) A (execs (.If (.Compare l [op] [r] cp) body orelse pos :: rest) env) Q NoE s :=
  wpAny_execs_cons (wpAny_If (wpAny_isTrue_Compare1 (hl A rm g s _ H fun a g₁ s₁ L₁ H₁ r₁ => hr A rm g₁ s₁ _ H₁ fun b g₂ s₂ L₂ H₂ r₂ =>
    ho A rm g₂ s₂ _ [a, b] H₂ (.cons (r₁.mono L₂) (.cons r₂ .nil)) fun v g₃ s₃ L₃ H₃ r₃ => by
      cases r₃
      refine wpAny_truthy_bool ?_
      have := k g₃ s₃ (L₁.tr (L₂.tr L₃)) H₃
      cases z with
      | true => exact this
      | false => exact this) hb))
theorem PEX.asP {e : Expr} {p q : PV} {M₁ : Led} (h : PEX w os n env M e p M₁) (hp : p = q) : PEX w os n env M e q M₁ := hp ▸ h
theorem PEX.cast {e : Expr} {p : PV} {M₁ M₂ : Led} (h : PEX w os n env M e p M₁) (hM : M₁ = M₂) : PEX w os n env M e p M₂ := hM ▸ h
noncomputable def MUb (L : Addr) (pp : List Int) (ns ws : List Nat) (hs : List Str) (ss : List Nat) (d : Desk) (vars : List (Str × PV)) : Led :=
  [(L, .frame vars), (L + 6, .cell (some (.list (pp.map .int)))), (L + 5, .cell (some (.val (.ref d.I)))), (L + 4, .cell (some (.list (hs.map .str)))), (L + 3, .cell (some (.list (ws.map fun c => .int (c : Nat))))), (L + 2, .cell (some (.list (ns.map fun c => .str (ch1 c))))), (L + 1, .cell (some (.list (ss.map fun c => .int (c : Nat))))), (298, tabE #[])]
noncomputable def MU (L : Addr) (pp : List Int) (ns ws : List Nat) (hs : List Str) (ss : List Nat) (d : Desk) (vars : List (Str × PV)) (signs : List Nat) (ln : Int) (N : Led) : Led :=
  (L, .frame vars) :: (L + 6, .cell (some (.list (pp.map .int)))) :: (L + 5, .cell (some (.val (.ref d.I)))) :: (L + 4, .cell (some (.list (hs.map .str)))) :: (L + 3, .cell (some (.list (ws.map fun c => .int (c : Nat))))) :: (L + 2, .cell (some (.list (ns.map fun c => .str (ch1 c))))) :: (L + 1, .cell (some (.list (ss.map fun c => .int (c : Nat))))) :: (298, tabE #[]) :: (deskL d signs ln [] ++ N)
theorem MU_app {L : Addr} {pp : List Int} {ns ws : List Nat} {hs : List Str} {ss : List Nat} {d : Desk} {vars : List (Str × PV)} {signs : List Nat} {ln : Int} {N : Led} : MU L pp ns ws hs ss d vars signs ln N = MUb L pp ns ws hs ss d vars ++ (deskL d signs ln [] ++ N) := rfl
theorem PT.ival {e : Expr} {i : Int} (h : PE w os n env M e (.int i)) (he : ∀ whole, isTrue e env whole = do let v ← whole; standAt e.pos; holding [v] (truthy v)) : PT w os n env M e (i != 0) :=
  fun A rm g s _ H k => wpAny_isTrue_value (h A rm g s _ H fun v g' s' L H' r => by cases r; exact PyProof.Rows.truthy_int (k g' s' L H')) (he _)
theorem PT.asB {e : Expr} {a b : Bool} (h : PT w os n env M e a) (q : a = b) : PT w os n env M e b := q ▸ h
theorem PT.or4F {a b c d : Expr} (ha : PT w os n env M a false) (hb : PT w os n env M b false) (hc : PT w os n env M c false) (hd : PT w os n env M d false) : PT w os n env M (.BoolOp .Or [a, b, c, d] pos) false :=
  fun A rm g s _ H k => wpAny_isTrue_BoolOp (wpAny_allTrue_Or_cons (ha A rm g s _ H fun g₁ s₁ L₁ H₁ =>
    wpAny_allTrue_Or_cons (hb A rm g₁ s₁ _ H₁ fun g₂ s₂ L₂ H₂ => wpAny_allTrue_Or_cons (hc A rm g₂ s₂ _ H₂ fun g₃ s₃ L₃ H₃ =>
      wpAny_allTrue_Or_cons (hd A rm g₃ s₃ _ H₃ fun g₄ s₄ L₄ H₄ => wpAny_allTrue_Or_nil (k g₄ s₄ (L₁.tr (L₂.tr (L₃.tr L₄))) H₄))))))
theorem HS.isW {g : Heap} {s : Shared} {F : Addr} {P P' : Obj → Prop} (H : HS w os g ((F, .is P) :: M) s) (h : ∀ o, P o → P' o) : HS w os g ((F, .is P') :: M) s := by
  refine ⟨H.bs, H.keep, fun p hp => ?_, fun p hp => ?_, H.nd, H.eos, H.egens⟩
  · rcases List.mem_cons.mp hp with rfl | hp
    · obtain ⟨o, e, q⟩ := H.at_ _ (.head _)
      exact ⟨o, e, h o q⟩
    · exact H.at_ p (.tail _ hp)
  · rcases List.mem_cons.mp hp with rfl | hp
    · exact H.off (F, .is P) (.head _)
    · exact H.off p (.tail _ hp)
theorem bis_ok {m : Nat} {bb : Bool} {fa : Addr} {kt : Nat → Bool} {Kf : Addr} {P : Obj → Prop} (hfa : fa = if bb = true then 68 else 77) (hm : m ≤ 1000) (hP : ∀ o, P o → ∃ fd, o.data = .func fd) (hK : (Kf, Ent.is P) ∈ M)
    (hkey : ∀ (p : Addr × Ent) (i : Nat), i < m → OP w os n (p :: M) (cf (.ref Kf)) [.int i] (.bool (kt i)))
    {A : Around} (rm : Rm A (n + 1)) {g : Heap} {s : Shared} {R : Result → Shared → Prop} {l : Value} (H : HS w os g M s) (r : Rd g l (.list ((List.range m).map fun i => PV.int (i : Nat))))
    (k : ∀ v g' s', Le g g' → HS w os g' M s' → Rd g' v (.int ((if bb = true then bisR kt false m else bisL kt true m : Nat) : Int)) → R (.ok (.ret v)) s') :
    codeAny (model PRG w) A (.call (.ref fa) ⟨[l, .bool (!bb)], [("key", .ref Kf)]⟩) R s := by
  subst hfa
  cases bb with
  | true => exact bisR_ok (x := false) hm hP hK hkey rm H r k
  | false => exact bisL_ok (x := true) hm hP hK hkey rm H r k
theorem HS.dropT {a : Addr} {ps : Array Value} {B : Led} {g : Heap} {s : Shared} (H : HS w os g M s) (hp : M.Perm ((a, .is fun o => o = tabObj ps) :: B)) (hs : M'.Sublist B) : ∃ g', Le g g' ∧ HS w os g' M' s ∧ Tb g' a := by
  have H' := H.perm hp
  obtain ⟨o, ho, rfl⟩ := H'.at_ _ (.head _)
  obtain ⟨g', L, H₁, G⟩ := H'.drop (hs.cons _)
  exact ⟨g', L, H₁, _, G _ _ ho fun hm => (List.nodup_cons.mp H'.nd).1 ((hs.map _).subset hm)⟩
noncomputable def MV (L : Addr) (pp : List Int) (ns ws : List Nat) (hs : List Str) (ss : List Nat) (d : Desk) (vars : List (Str × PV)) (signs : List Nat) (ln : Int) (N : Led) : Led :=
  (L, .frame vars) :: (L + 6, .cell (some (.list (pp.map .int)))) :: (L + 5, .cell (some (.val (.ref d.I)))) :: (L + 4, .cell (some (.list (hs.map .str)))) :: (L + 3, .cell (some (.list (ws.map fun c => .int (c : Nat))))) :: (L + 2, .cell (some (.list (ns.map fun c => .str (ch1 c))))) :: (L + 1, .cell (some (.list (ss.map fun c => .int (c : Nat))))) :: (deskL d signs ln [] ++ N)
noncomputable def MVb (L : Addr) (pp : List Int) (ns ws : List Nat) (hs : List Str) (ss : List Nat) (d : Desk) (vars : List (Str × PV)) : Led :=
  [(L, .frame vars), (L + 6, .cell (some (.list (pp.map .int)))), (L + 5, .cell (some (.val (.ref d.I)))), (L + 4, .cell (some (.list (hs.map .str)))), (L + 3, .cell (some (.list (ws.map fun c => .int (c : Nat))))), (L + 2, .cell (some (.list (ns.map fun c => .str (ch1 c))))), (L + 1, .cell (some (.list (ss.map fun c => .int (c : Nat)))))]
theorem traders_ok {s0 s1 s2 s3 s4 : Nat} (T : Tr s0 s1 s2 s3 s4) {A : Around} (rm : Rm A (n + 20)) {g : Heap} {s : Shared} {Q : Value → Shared → Prop} {v : Value} {N : Led} (H : HS w os g ((269, tabE #[]) :: (298, tabE #[]) :: N) s) (hB : Bm g) (r : Rd g v (.list ((sv s0 s1 s2 s3 s4).map fun c => .int (c : Nat))))
    (k : ∀ os' v g' s', Xt os os' → Le g g' → HS w os' g' N s' → Rd g' v (.bool true) → Tb g' 269 → Tb g' 298 → Q v s') : wpAny (model PRG w) A (call (.ref 301) [v]) Q NoE s := by
  refine enterC (n := n + 19) (fa := 301) (vars := []) (cv := fun x => if x = "sums" then some (.list ((sv s0 s1 s2 s3 s4).map fun c => .int (c : Nat))) else .none) (by walk_at "kis") (by walk_at "kis") (by rfl) (by rfl) (by decide +kernel) (fun x p e => nomatch e) ?_ rm H ?_
  · intro x hx o ho
    rcases List.mem_cons.mp (show x ∈ [Str.ofString "purses", Str.ofString "desk", Str.ofString "whites", Str.ofString "ways", Str.ofString "names", Str.ofString "sums"] from hx) with rfl | hx
    · rw [if_neg (by decide)]; exact ho
    rcases List.mem_cons.mp hx with rfl | hx
    · rw [if_neg (by decide)]; exact ho
    rcases List.mem_cons.mp hx with rfl | hx
    · rw [if_neg (by decide)]; exact ho
    rcases List.mem_cons.mp hx with rfl | hx
    · rw [if_neg (by decide)]; exact ho
    rcases List.mem_cons.mp hx with rfl | hx
    · rw [if_neg (by decide)]; exact ho
    · cases List.mem_singleton.mp hx
      rw [if_pos rfl]
      exact ⟨_, ho, r⟩
  · intro L s' g' rm' L' H'
    change HS w os g' ((L, .frame []) :: (L + 6, .cell .none) :: (L + 5, .cell .none) :: (L + 4, .cell .none) :: (L + 3, .cell .none) :: (L + 2, .cell .none) :: (L + 1, .cell (some (.list ((sv s0 s1 s2 s3 s4).map fun c => .int (c : Nat))))) :: (269, tabE #[]) :: (298, tabE #[]) :: N) s' at H'
    refine wpAny_execs_cons (wpAny_Assign_Name (CompOkX.new (res := [.int (pI s0), .int (pI s1), .int (pI s2)]) (M' := (L, .frame []) :: (L + 6, .cell .none) :: (L + 5, .cell .none) :: (L + 4, .cell .none) :: (L + 3, .cell .none) :: (L + 2, .cell .none) :: (L + 1, .cell (some (.list ((sv s0 s1 s2 s3 s4).map fun c => .int (c : Nat))))) :: (269, tabE #[]) :: (298, tabE #[]) :: N) ?_ rm' H' fun D g₁ s₁ L₁ H₁ => ?_) (by rfl))
    · refine CompOk.x (CompOk.lcomp (ps := List.range 3) (enc := fun i : Nat => PV.int i) (t := fun _ => true) (f := fun i => .int (pI ((sv s0 s1 s2 s3 s4).getD i 0))) (cl := [("sums", L + 1)]) (PE.callB (by walk_at "nm") (by intro a; exact nofun) (PL.cons PE.cint PL.nil (by rfl)) OP.range1 (by rfl) (by rfl)) (IterOf.rng (m := 3) (by decide) (by decide)) (sizeLine_ge (by show (3 : Nat) ≤ _; decide)) (by intro v; rfl) (by rfl) (by rfl) (by decide +kernel) (by decide +kernel) (by rfl) (fun _ _ _ _ _ _ _ => PTs.nil) ?_)
      intro i hi _ I e D' l C
      have hi' : i < 3 := List.mem_range.mp hi
      exact PE.bin (PE.bin (PE.itemL (by walk_at "nm") LV.imm (by walk_at "nm") (nat_get (l := sv s0 s1 s2 s3 s4) (by show i < 5; omega)) (by show (5 : Nat) ≤ 100000; decide) (by intro o k; rfl)) (PE.cnat (b := 23) (by decide +kernel)) (OP.mod_nat (b := 23) (by decide))) PE.cint OP.sub_int
    refine SN.cel (i := 2) (c := L + 6) (p := .val (.ref D)) (by rfl) (by rfl) (by rfl) (by rfl) _ g₁ s₁ _ (.ref D) H₁ (.val _) fun g₂ s₂ L₂ H₂ => ?_
    change HS w os g₂ ((D, .list [.int (pI s0), .int (pI s1), .int (pI s2)]) :: (L, .frame []) :: (L + 6, .cell (some (.val (.ref D)))) :: (L + 5, .cell .none) :: (L + 4, .cell .none) :: (L + 3, .cell .none) :: (L + 2, .cell .none) :: (L + 1, .cell (some (.list ((sv s0 s1 s2 s3 s4).map fun c => .int (c : Nat))))) :: (269, tabE #[]) :: (298, tabE #[]) :: N) s₂ at H₂
    have hpI : ∀ s : Nat, -(11 : Int) ≤ pI s ∧ pI s ≤ 11 := fun s => by unfold pI; omega
    have hsum3 : Small [pI s0, pI s1, pI s2] := ⟨fun x hx => by
      simp only [List.mem_cons, List.not_mem_nil, or_false] at hx
      have h0 := hpI s0; have h1 := hpI s1; have h2 := hpI s2
      rcases hx with rfl | rfl | rfl <;> omega, by show (3 : Nat) ≤ 1000; decide⟩
    have nat_at : ∀ (i : Nat), i < 5 → ((sv s0 s1 s2 s3 s4).map fun c => PV.int (c : Nat))[i]? = some (.int ((sv s0 s1 s2 s3 s4).getD i 0 : Nat)) := fun i hi => nat_get (l := sv s0 s1 s2 s3 s4) hi
    refine X.next (ST.exprX (PEX.meth (p := .val (.ref D)) (T := "list") (id := "list.append") (ps := [.int (((s3 % 7 : Nat) : Int) - 1 - [pI s0, pI s1, pI s2].sum)]) (r := .none) (by walk_at "nm") (Ty.list (LV.mut (i := 0) rfl))
      (PL.cons (PE.bin (PE.bin (PE.bin (PE.itemL (by walk_at "nm") LV.imm PE.cint (j := 3) (r := .int (s3 : Nat)) rfl (by show (5 : Nat) ≤ 100000; decide) (by intro o k; rfl)) (PE.cnat (b := 7) (by decide +kernel)) (OP.mod_nat (b := 7) (by decide))) PE.cint OP.sub_int) (PE.callB (by walk_at "nm") (by intro a; exact nofun) (PL.cons (by walk_at "nm") PL.nil (by rfl)) (OP.sum (LV.mut (i := 0) rfl) hsum3) (by rfl) (by rfl)) OP.sub_int) PL.nil (by rfl)) (OPM.append (i := 0) rfl (by show (3 : Nat) ≤ 1000; decide))
      F.plainAttrs_list F.slot_list_append F.type_list_append (by rfl) (by rfl) (by rfl) (by rfl) (by rfl)) (by rfl) (by rfl)) rm' H₂ fun g₃ s₃ L₃ H₃ => ?_
    change HS w os g₃ ((D, .list ((trP s0 s1 s2 s3).map .int)) :: (L, .frame []) :: (L + 6, .cell (some (.val (.ref D)))) :: (L + 5, .cell .none) :: (L + 4, .cell .none) :: (L + 3, .cell .none) :: (L + 2, .cell .none) :: (L + 1, .cell (some (.list ((sv s0 s1 s2 s3 s4).map fun c => .int (c : Nat))))) :: (269, tabE #[]) :: (298, tabE #[]) :: N) s₃ at H₃
    obtain ⟨g₄, L₄, H₄⟩ := H₃.freezeC (i := 1) rfl
    change HS w os g₄ ((L, .frame []) :: (L + 6, .cell (some (.list ((trP s0 s1 s2 s3).map .int)))) :: (L + 5, .cell .none) :: (L + 4, .cell .none) :: (L + 3, .cell .none) :: (L + 2, .cell .none) :: (L + 1, .cell (some (.list ((sv s0 s1 s2 s3 s4).map fun c => .int (c : Nat))))) :: (269, tabE #[]) :: (298, tabE #[]) :: N) s₃ at H₄
    generalize hpp : trP s0 s1 s2 s3 = pp at H₄
    have hpl : pp.length = 4 := by rw [← hpp]; rfl
    refine X.next (ST.assignU (i := 0) (res := (trO s0 s1 s2 s3).map .int) ?_ (by rfl) (by rfl) (by rfl) rfl) rm' H₄ fun g₅ s₅ L₅ H₅ => ?_
    · unfold trO
      rw [hpp, List.map_map]
      refine CompOk.as (CompOk.lcomp (ps := pp) (enc := PV.int) (t := fun _ => true) (f := fun c => .int (1 - c)) (cl := []) (by walk_at "nm") IterOf.list (sizeLine_ge (by omega)) (by intro v; rfl) (by rfl) (by rfl) (by decide +kernel) (by decide +kernel) (by rfl) (fun _ _ _ _ _ _ _ => PTs.nil) (fun c hc _ I e D' l C => PE.bin PE.cint (by walk_at "nm") OP.sub_int)) (by rw [List.filter_eq_self.mpr (fun _ _ => rfl)]; rfl)
    have hwd : s3 / 28 % 5 < 5 := Nat.mod_lt _ (by decide)
    refine X.next (ST.assign (p := .list ((trN s3).map fun c => .str (ch1 c))) (PE.sliceL (lo := .none) (hi := some (4 : Nat)) (ps := (allN.drop (s3 / 28 % 5)).map fun c => .str (ch1 c)) (PE.sliceL (lo := some ((s3 / 28 % 5 : Nat) : Int)) (hi := .none) (ps := allN.map fun c => .str (ch1 c)) (PE.callB (by walk_at "nm") (by intro a; exact nofun) (PL.cons PE.cstr PL.nil (by rfl)) (OP.listStr (x := "\t \"#()\\a") (by show (8 : Nat) ≤ 10000; decide)) (by rfl) (by rfl)) LV.imm (PPt.some (PE.bin (PE.bin (PE.itemL (by walk_at "nm") LV.imm PE.cint (j := 3) (r := .int (s3 : Nat)) rfl (by show (5 : Nat) ≤ 100000; decide) (by intro o k; rfl)) (PE.cnat (b := 28) (by decide +kernel)) (OP.div_nat (b := 28) (by decide) (by decide))) (PE.cnat (b := 5) (by decide +kernel)) (OP.mod_nat (b := 5) (by decide)))) PPt.none (by show (8 : Nat) ≤ 1000; decide) (by rw [pick_from _ _ (by rw [List.length_map]; show _ ≤ 8; omega), List.map_drop])) LV.imm PPt.none (PPt.some PE.cint) (by rw [List.length_map, List.length_drop]; show 8 - _ ≤ 1000; omega) (by rw [pick_upto]; unfold trN; rw [List.map_take])) (SN.cel (i := 5) (by rfl) (by rfl) (by rfl) (by rfl)) (by rfl)) rm' H₅ fun g₆ s₆ L₆ H₆ => ?_
    change HS w os g₆ ((L, .frame [("others", .list ((trO s0 s1 s2 s3).map .int))]) :: (L + 6, .cell (some (.list (pp.map .int)))) :: (L + 5, .cell .none) :: (L + 4, .cell .none) :: (L + 3, .cell .none) :: (L + 2, .cell (some (.list ((trN s3).map fun c => .str (ch1 c))))) :: (L + 1, .cell (some (.list ((sv s0 s1 s2 s3 s4).map fun c => .int (c : Nat))))) :: (269, tabE #[]) :: (298, tabE #[]) :: N) s₆ at H₆
    refine X.next (ST.assign (p := .list ((trW s0 s1 s2 s4).map fun c => .int (c : Nat))) (PE.bin (CompOk.pe (CompOk.as (res' := [.int (s0 / 23 % 4 : Nat), .int (s1 / 23 % 4 : Nat), .int (s2 / 23 % 4 : Nat)]) (CompOk.lcomp (ps := List.range 3) (enc := fun i : Nat => PV.int i) (t := fun _ => true) (f := fun i => .int ((sv s0 s1 s2 s3 s4).getD i 0 / 23 % 4 : Nat)) (cl := [("sums", L + 1)]) (PE.callB (by walk_at "nm") (by intro a; exact nofun) (PL.cons PE.cint PL.nil (by rfl)) OP.range1 (by rfl) (by rfl)) (IterOf.rng (m := 3) (by decide) (by decide)) (sizeLine_ge (by show (3 : Nat) ≤ _; decide)) (by intro v; rfl) (by rfl) (by rfl) (by decide +kernel) (by decide +kernel) (by rfl) (fun _ _ _ _ _ _ _ => PTs.nil) (fun i hi _ I e D' l C => PE.bin (PE.bin (PE.itemL (by walk_at "nm") LV.imm (by walk_at "nm") (nat_at i (by have := List.mem_range.mp hi; omega)) (by show (5 : Nat) ≤ 100000; decide) (by intro o k; rfl)) (PE.cnat (b := 23) (by decide +kernel)) (OP.div_nat (b := 23) (by decide) (by decide))) (PE.cnat (b := 4) (by decide +kernel)) (OP.mod_nat (b := 4) (by decide)))) (by rfl))) (PE.lst (ps := [.int (s4 % 4 : Nat)]) (PL.cons (PE.bin (PE.itemL (by walk_at "nm") LV.imm PE.cint (j := 4) (r := .int (s4 : Nat)) rfl (by show (5 : Nat) ≤ 100000; decide) (by intro o k; rfl)) (PE.cnat (b := 4) (by decide +kernel)) (OP.mod_nat (b := 4) (by decide))) PL.nil (by rfl)) (by show (1 : Nat) ≤ 1000; decide)) (OP.addL LV.imm LV.imm (by show (4 : Nat) ≤ 10000; decide))) (SN.cel (i := 4) (by rfl) (by rfl) (by rfl) (by rfl)) (by rfl)) rm' H₆ fun g₇ s₇ L₇ H₇ => ?_
    change HS w os g₇ ((L, .frame [("others", .list ((trO s0 s1 s2 s3).map .int))]) :: (L + 6, .cell (some (.list (pp.map .int)))) :: (L + 5, .cell .none) :: (L + 4, .cell .none) :: (L + 3, .cell (some (.list ((trW s0 s1 s2 s4).map fun c => .int (c : Nat))))) :: (L + 2, .cell (some (.list ((trN s3).map fun c => .str (ch1 c))))) :: (L + 1, .cell (some (.list ((sv s0 s1 s2 s3 s4).map fun c => .int (c : Nat))))) :: (269, tabE #[]) :: (298, tabE #[]) :: N) s₇ at H₇
    refine X.next (ST.assign (p := .list ((trH s0 s1 s2 s4).map .str)) (CompOk.pe (CompOk.as (CompOk.lcomp (ps := trHi s0 s1 s2 s4) (enc := fun i : Nat => PV.int i) (t := fun _ => true) (f := fun i => .str (whitesL.getD i "")) (cl := []) (src := .list ((trHi s0 s1 s2 s4).map fun i : Nat => PV.int i)) (PE.bin (CompOk.pe (CompOk.as (res' := [.int (s0 / 92 % 4 : Nat), .int (s1 / 92 % 4 : Nat), .int (s2 / 92 % 4 : Nat)]) (CompOk.lcomp (ps := List.range 3) (enc := fun i : Nat => PV.int i) (t := fun _ => true) (f := fun i => .int ((sv s0 s1 s2 s3 s4).getD i 0 / 92 % 4 : Nat)) (cl := [("sums", L + 1)]) (PE.callB (by walk_at "nm") (by intro a; exact nofun) (PL.cons PE.cint PL.nil (by rfl)) OP.range1 (by rfl) (by rfl)) (IterOf.rng (m := 3) (by decide) (by decide)) (sizeLine_ge (by show (3 : Nat) ≤ _; decide)) (by intro v; rfl) (by rfl) (by rfl) (by decide +kernel) (by decide +kernel) (by rfl) (fun _ _ _ _ _ _ _ => PTs.nil) (fun i hi _ I e D' l C => PE.bin (PE.bin (PE.itemL (by walk_at "nm") LV.imm (by walk_at "nm") (nat_at i (by have := List.mem_range.mp hi; omega)) (by show (5 : Nat) ≤ 100000; decide) (by intro o k; rfl)) (PE.cnat (b := 92) (by decide +kernel)) (OP.div_nat (b := 92) (by decide) (by decide))) (PE.cnat (b := 4) (by decide +kernel)) (OP.mod_nat (b := 4) (by decide)))) (by rfl))) (PE.lst (ps := [.int (s4 / 4 % 4 : Nat)]) (PL.cons (PE.bin (PE.bin (PE.itemL (by walk_at "nm") LV.imm PE.cint (j := 4) (r := .int (s4 : Nat)) rfl (by show (5 : Nat) ≤ 100000; decide) (by intro o k; rfl)) (PE.cnat (b := 4) (by decide +kernel)) (OP.div_nat (b := 4) (by decide) (by decide))) (PE.cnat (b := 4) (by decide +kernel)) (OP.mod_nat (b := 4) (by decide))) PL.nil (by rfl)) (by show (1 : Nat) ≤ 1000; decide)) (OP.addL LV.imm LV.imm (by show (4 : Nat) ≤ 10000; decide))) IterOf.list (sizeLine_ge (by show (4 : Nat) ≤ _; decide)) (by intro v; rfl) (by rfl) (by rfl) (by decide +kernel) (by decide +kernel) (by rfl) (fun _ _ _ _ _ _ _ => PTs.nil) (fun i hi _ I e D' l C => ?_)) (by rw [all_filter]; unfold trH; rw [List.map_map]; rfl))) (SN.cel (i := 3) (by rfl) (by rfl) (by rfl) (by rfl)) (by rfl)) rm' H₇ fun g₈ s₈ L₈ H₈ => ?_
    · have hi4 : i < 4 := by
        unfold trHi at hi
        simp only [List.mem_cons, List.not_mem_nil, or_false] at hi
        rcases hi with rfl | rfl | rfl | rfl <;> exact Nat.mod_lt _ (by decide)
      exact PE.itemL (PE.lst (ps := whitesL.map .str) (PL.cons PE.cstr (PL.cons PE.cstr (PL.cons PE.cstr (PL.cons PE.cstr PL.nil (by rfl)) (by rfl)) (by rfl)) (by rfl)) (by show (4 : Nat) ≤ 1000; decide)) LV.imm (by walk_at "nm") (str_get (l := whitesL) hi4) (by show (4 : Nat) ≤ 100000; decide) (by intro o k; rfl)
    change HS w os g₈ ((L, .frame [("others", .list ((trO s0 s1 s2 s3).map .int))]) :: (L + 6, .cell (some (.list (pp.map .int)))) :: (L + 5, .cell .none) :: (L + 4, .cell (some (.list ((trH s0 s1 s2 s4).map .str)))) :: (L + 3, .cell (some (.list ((trW s0 s1 s2 s4).map fun c => .int (c : Nat))))) :: (L + 2, .cell (some (.list ((trN s3).map fun c => .str (ch1 c))))) :: (L + 1, .cell (some (.list ((sv s0 s1 s2 s3 s4).map fun c => .int (c : Nat))))) :: (269, tabE #[]) :: (298, tabE #[]) :: N) s₈ at H₈
    have hwl : ∀ i, i < 4 → (trW s0 s1 s2 s4).getD i 0 < 4 := fun i hi => by
      have : i = 0 ∨ i = 1 ∨ i = 2 ∨ i = 3 := by omega
      rcases this with rfl | rfl | rfl | rfl <;> exact Nat.mod_lt _ (by decide)
    have hwh : ∀ i, i < 4 → ((trH s0 s1 s2 s4).getD i "").length ≤ 2 := fun i hi => by
      have h0 : ∀ j, j < 4 → (whitesL.getD j "").length ≤ 2 := fun j hj => by
        have : j = 0 ∨ j = 1 ∨ j = 2 ∨ j = 3 := by omega
        rcases this with rfl | rfl | rfl | rfl <;> decide
      have : i = 0 ∨ i = 1 ∨ i = 2 ∨ i = 3 := by omega
      rcases this with rfl | rfl | rfl | rfl <;> exact h0 _ (Nat.mod_lt _ (by decide))
    have hll : s4 / 16 % 4 < 4 := Nat.mod_lt _ (by decide)
    have hsz := T.lx.sz
    obtain ⟨x, hx⟩ : ∃ x, x = trT (trN s3) (trW s0 s1 s2 s4) (trH s0 s1 s2 s4) (lastsL.getD (s4 / 16 % 4) "") := ⟨_, rfl⟩
    have hLx := T.lx
    rw [← hx] at hsz hLx
    have hsz2 : (joinE ((List.range 4).map (trSp (trN s3) (trW s0 s1 s2 s4) (trH s0 s1 s2 s4)))).length + (lastsL.getD (s4 / 16 % 4) "").length ≤ 500 := by
      have : x.length ≤ 500 := hsz
      rw [hx] at this; unfold trT at this; rwa [app_len] at this
    have hspl : ∀ i, i < 4 → (trSp (trN s3) (trW s0 s1 s2 s4) (trH s0 s1 s2 s4) i).length ≤ 6 := fun i hi => by
      unfold trSp
      rw [app_len]
      have := spellW_len (c := (trN s3).getD i 0) (hwl i hi)
      have := hwh i hi
      omega
    refine X.next (ST.assign (p := .str x) (PE.as (PE.bin (PEX.meth (p := .str ⟨#[]⟩) (T := "str") (id := "str.join") (ps := [.list (((List.range 4).map (trSp (trN s3) (trW s0 s1 s2 s4) (trH s0 s1 s2 s4))).map .str)]) PE.cstr Ty.str (PL.cons ?_ PL.nil (by rfl)) (OP.joinE LV.imm (fun y hy => by obtain ⟨i, hi, rfl⟩ := List.mem_map.mp hy; exact Nat.le_trans (hspl i (List.mem_range.mp hi)) (by decide)) (by show (4 : Nat) ≤ 1000; decide)).m
        F.plainAttrs_str F.slot_str_join F.type_str_join (by rfl) (by rfl) (by rfl) (by rfl) (by rfl)).pe (PE.itemL (PE.lst (ps := lastsL.map .str) (PL.cons PE.cstr (PL.cons PE.cstr (PL.cons PE.cstr (PL.cons PE.cstr PL.nil (by rfl)) (by rfl)) (by rfl)) (by rfl)) (by show (4 : Nat) ≤ 1000; decide)) LV.imm (PE.bin (PE.bin (PE.itemL (by walk_at "nm") LV.imm PE.cint (j := 4) (r := .int (s4 : Nat)) rfl (by show (5 : Nat) ≤ 100000; decide) (by intro o k; rfl)) (PE.cnat (b := 16) (by decide +kernel)) (OP.div_nat (b := 16) (by decide) (by decide))) (PE.cnat (b := 4) (by decide +kernel)) (OP.mod_nat (b := 4) (by decide))) (str_get (l := lastsL) hll) (by show (4 : Nat) ≤ 100000; decide) (by intro o k; rfl)) (OP.add_str (sizeLine_ge (by omega)))) (by rw [hx]; rfl)) (SN.loc (i := 0) (by rfl) (by rfl) (by rfl)) (by rfl)) rm' H₈ fun g₉ s₉ L₉ H₉ => ?_
    · rw [List.map_map]
      refine PE.lmap (cl := [("whites", L + 4), ("ways", L + 3), ("names", L + 2)]) (ps := List.range 4) (enc := fun i : Nat => PV.int i) (PE.callB (by walk_at "nm") (by intro a; exact nofun) (PL.cons PE.cint PL.nil (by rfl)) OP.range1 (by rfl) (by rfl)) (IterOf.rng (m := 4) (by decide) (by decide)) (sizeLine_ge (by show (4 : Nat) ≤ _; decide)) (by intro v; rfl) (by rfl) (by rfl) (by decide +kernel) (by decide +kernel) (by rfl) ?_
      intro i hi I e D' l C
      have hi' := List.mem_range.mp hi
      exact PE.bin (PE.callF (a := 281) (ps := [.str (ch1 ((trN s3).getD i 0)), .int ((trW s0 s1 s2 s4).getD i 0 : Nat)]) (by walk_at "nm") (by walk_at "kis") (PL.cons (PE.itemL (by walk_at "nm") LV.imm (by walk_at "nm") (nm_get (by rw [trN_len]; exact hi')) (by rw [List.length_map, trN_len]; decide) (by intro o k; rfl)) (PL.cons (PE.itemL (by walk_at "nm") LV.imm (by walk_at "nm") (nat_get (l := trW s0 s1 s2 s4) hi') (by show (4 : Nat) ≤ 100000; decide) (by intro o k; rfl)) PL.nil (by rfl)) (by rfl)) (spelled_ok (n := n + 17) (spellW_get (hwl i hi'))) (by rfl) (by rfl))
        (PE.itemL (by walk_at "nm") LV.imm (by walk_at "nm") (str_get (l := trH s0 s1 s2 s4) hi') (by show (4 : Nat) ≤ 100000; decide) (by intro o k; rfl)) (OP.add_str (sizeLine_ge (by have := spellW_len (c := (trN s3).getD i 0) (hwl i hi'); have := hwh i hi'; omega)))
    refine wpAny_execs_cons (wpAny_Assign_Name (callFk (a := 274) (ps := [.str x]) (by walk_at "nm") (by walk_at "kis") (PL.cons (by walk_at "nm") PL.nil (by rfl)) (by rfl) (by rfl) rm' H₉ fun vs g₁₀ s₁₀ L₁₀ H₁₀ r₁₀ => ?_) (by rfl))
    cases r₁₀ with | cons r₁₁ r₁₀ =>
    cases r₁₀
    refine desk_ok (n := n + 15) (by omega) rm' (H₁₀.perm (List.perm_middle (l₁ := [_, _, _, _, _, _, _]))) r₁₁ (hB.mono (L'.tr (L₁.tr (L₂.tr (L₃.tr (L₄.tr (L₅.tr (L₆.tr (L₇.tr (L₈.tr (L₉.tr L₁₀))))))))))) fun d g₁₁ s₁₁ L₁₁ H₁₁ hTa => ?_
    have H₁₂ : HS w os g₁₁ ([(L, .frame [("text", .str x), ("others", .list ((trO s0 s1 s2 s3).map .int))]), (L + 6, .cell (some (.list (pp.map .int)))), (L + 5, .cell .none), (L + 4, .cell (some (.list ((trH s0 s1 s2 s4).map .str)))), (L + 3, .cell (some (.list ((trW s0 s1 s2 s4).map fun c => .int (c : Nat))))), (L + 2, .cell (some (.list ((trN s3).map fun c => .str (ch1 c))))), (L + 1, .cell (some (.list ((sv s0 s1 s2 s3 s4).map fun c => .int (c : Nat))))), (298, tabE #[])] ++ (deskL d x.cps.toList 1 [] ++ N)) s₁₁ := H₁₁.perm (by
      have := (List.perm_append_comm (l₁ := deskL d x.cps.toList 1 []) (l₂ := [(L, .frame [("text", .str x), ("others", .list ((trO s0 s1 s2 s3).map .int))]), (L + 6, .cell (some (.list (pp.map .int)))), (L + 5, .cell .none), (L + 4, .cell (some (.list ((trH s0 s1 s2 s4).map .str)))), (L + 3, .cell (some (.list ((trW s0 s1 s2 s4).map fun c => .int (c : Nat))))), (L + 2, .cell (some (.list ((trN s3).map fun c => .str (ch1 c))))), (L + 1, .cell (some (.list ((sv s0 s1 s2 s3 s4).map fun c => .int (c : Nat))))), (298, tabE #[])])).append_right N
      rw [List.append_assoc, List.append_assoc] at this
      exact this)
    refine SN.cel (i := 2) (c := L + 5) (p := .val (.ref d.I)) (by rfl) (by rfl) (by rfl) (by rfl) _ g₁₁ s₁₁ _ (.ref d.I) H₁₂ (.val _) fun g₁₃ s₁₃ L₁₃ H₁₃ => ?_
    change HS w os g₁₃ (MU L pp (trN s3) (trW s0 s1 s2 s4) (trH s0 s1 s2 s4) (sv s0 s1 s2 s3 s4) d [("text", .str x), ("others", .list ((trO s0 s1 s2 s3).map .int))] x.cps.toList 1 N) s₁₃ at H₁₃
    obtain ⟨st, hst⟩ : ∃ st, st = lexSt x.cps.toList := ⟨_, rfl⟩
    obtain ⟨tk, htk0⟩ : ∃ tk, tk = lexTk x.cps.toList := ⟨_, rfl⟩
    have hs1 : ∀ j, (lexG 500 (st j).1 (st j).2).2.1 = (st (j + 1)).1 := fun j => by rw [hst]; rfl
    have hs2 : ∀ j, (lexG 500 (st j).1 (st j).2).2.2 = (st (j + 1)).2 := fun j => by rw [hst]; rfl
    have hs3 : ∀ j, (lexG 500 (st j).1 (st j).2).1 = tk j := fun j => by rw [hst, htk0]; rfl
    have hs0 : x.cps.toList = (st 0).1 ∧ (1 : Int) = (st 0).2 := by rw [hst]; exact ⟨rfl, rfl⟩
    have hlen : ∀ j, j ≤ 5 → (st j).1.length ≤ 500 := by rw [hst]; exact hLx.len
    have htk : ∀ j, j < 4 → tk j = [(trN s3).getD j 0] := by rw [htk0]; exact hLx.tk
    have htk4 : tk 4 = [122] := by rw [htk0]; exact hLx.t4
    have htk5 : tk 5 = [] := by rw [htk0]; exact hLx.t5
    have hln : (st 6).2 = 1 + Txt.count x "\n" := by rw [hst]; exact hLx.ln
    rw [hs0.1, hs0.2] at H₁₃
    clear hst htk0
    have hnl : (trN s3).length = 4 := trN_len s3
    have hnlay : lay ((trN s3).map fun c => .str (ch1 c)) = true := lay_map (fun y _ => rfl) (fun y hy => by
      have h1 : y ∈ allN := List.mem_of_mem_drop (List.mem_of_mem_take hy)
      have h2 : y < 128 := by
        unfold allN at h1
        simp only [List.mem_cons, List.not_mem_nil, or_false] at h1
        omega
      simp only [toD, PyData.canLay0]
      show (ch1 y).cps.all (· < 0x110000) = true
      simp [ch1]; omega) (fun y _ => by simp [toD, PyData.depth])
    refine X.ifCmpX (p := .list ((trN s3).map fun c => .str (ch1 c))) (q := .list ((trN s3).map fun c => .str (ch1 c))) (M' := MU L pp (trN s3) (trW s0 s1 s2 s4) (trH s0 s1 s2 s4) (sv s0 s1 s2 s3 s4) d [("text", .str x), ("others", .list ((trO s0 s1 s2 s3).map .int))] (st 4).1 (st 4).2 N) (z := !true) ?_ (by walk_at "nm") (OP.neL LV.imm LV.imm hnlay hnlay (by omega) (eqv_strs _)) (by rfl) rm' H₁₃ fun g₁₄ s₁₄ L₁₄ H₁₄ => ?_
    · have hres : (List.range ((trN s3).map fun c => PV.str (ch1 c)).length).map (fun j => PV.str (tkS (tk j))) = (trN s3).map fun c => PV.str (ch1 c) := by
        rw [List.length_map, hnl]
        refine List.ext_getElem? fun j => ?_
        by_cases hj : j < 4
        · rw [List.getElem?_map, List.getElem?_range hj, nm_get (by omega)]
          show some (PV.str (tkS (tk j))) = _
          rw [htk j hj]; rfl
        · rw [List.getElem?_eq_none (by simp; omega), List.getElem?_eq_none (by simp; omega)]
      refine PEX.asP ?_ (congrArg PV.list hres)
      have hfin : (fun j => MU L pp (trN s3) (trW s0 s1 s2 s4) (trH s0 s1 s2 s4) (sv s0 s1 s2 s3 s4) d [("text", .str x), ("others", .list ((trO s0 s1 s2 s3).map .int))] (st j).1 (st j).2 N) ((trN s3).map fun c => PV.str (ch1 c)).length = MU L pp (trN s3) (trW s0 s1 s2 s4) (trH s0 s1 s2 s4) (sv s0 s1 s2 s3 s4) d [("text", .str x), ("others", .list ((trO s0 s1 s2 s3).map .int))] (st 4).1 (st 4).2 N := by
        rw [List.length_map, hnl]
      refine PEX.cast ?_ hfin
      refine CompOkX.pe ?_
      refine CompOkX.lcomp (MM := fun j => MU L pp (trN s3) (trW s0 s1 s2 s4) (trH s0 s1 s2 s4) (sv s0 s1 s2 s3 s4) d [("text", .str x), ("others", .list ((trO s0 s1 s2 s3).map .int))] (st j).1 (st j).2 N) (f := fun j => .str (tkS (tk j))) (cl := [("desk", L + 5)]) (by walk_at "nm") IterOf.list (by rw [List.length_map]; omega) (by intro v; rfl) (by rfl) (by rfl) (by decide +kernel) (by decide +kernel) (by rfl) ?_
      intro j p hp I e D' l C
      have hj : j < 4 := by
        have := (List.getElem?_eq_some_iff.mp hp).1
        rw [List.length_map] at this; omega
      refine PEX.asP (PEX.get (n := n + 13) (d := d) (signs := (st j).1) (ln := (st j).2) (kf := 500) (B := [(I, e), (D', .list l), (C, .frame [("name", p)])] ++ MUb L pp (trN s3) (trW s0 s1 s2 s4) (trH s0 s1 s2 s4) (sv s0 s1 s2 s3 s4) d [("text", .str x), ("others", .list ((trO s0 s1 s2 s3).map .int))]) (N := N) rfl (by rw [hs1, hs2]; rfl) (by walk_at "nm") (by have := hlen j (by omega); omega) (hlen j (by omega)) (by rfl)) (by rw [hs3])
    rw [if_neg (by decide)]
    refine X.end ?_
    obtain ⟨pc, hpc⟩ : ∃ pc, pc = piecesL.getD (s3 / 140 % 6) "" := ⟨_, rfl⟩
    obtain ⟨t0, ht0⟩ : ∃ t0, t0 = (tailsL.getD (s3 / 840 % 3) ("", "")).1 := ⟨_, rfl⟩
    obtain ⟨t1, ht1⟩ : ∃ t1, t1 = (tailsL.getD (s3 / 840 % 3) ("", "")).2 := ⟨_, rfl⟩
    have h140 : (piecesL.map PV.str)[s3 / 140 % 6]? = some (.str pc) := by
      rw [hpc]
      have h6 : s3 / 140 % 6 < 6 := Nat.mod_lt _ (by decide)
      generalize s3 / 140 % 6 = q at h6
      exact str_get (l := piecesL) h6
    have h840 : (tailsL.map fun t => PV.tup [.str t.1, .str t.2])[s3 / 840 % 3]? = some (.tup [.str t0, .str t1]) := by
      rw [ht0, ht1]
      have h3 : s3 / 840 % 3 < 3 := Nat.mod_lt _ (by decide)
      generalize s3 / 840 % 3 = q at h3
      have : q = 0 ∨ q = 1 ∨ q = 2 := by omega
      rcases this with rfl | rfl | rfl <;> rfl
    with_reducible refine X.next (M' := (MU L pp (trN s3) (trW s0 s1 s2 s4) (trH s0 s1 s2 s4) (sv s0 s1 s2 s3 s4) d [("piece", .str pc), ("text", .str x), ("others", .list ((trO s0 s1 s2 s3).map .int))] (st 4).1 (st 4).2 N)) ?_ rm' H₁₄ fun g₁₅ s₁₅ L₁₅ H₁₅ => ?_
    · refine ST.assign (p := .str pc) ?_ (SN.loc (i := 0) (by rfl) (by rfl) (by rfl)) (by rfl)
      exact PE.itemL (PE.lst (ps := piecesL.map .str) (PL.cons PE.cstr (PL.cons PE.cstr (PL.cons PE.cstr (PL.cons PE.cstr (PL.cons PE.cstr (PL.cons PE.cstr PL.nil (by rfl)) (by rfl)) (by rfl)) (by rfl)) (by rfl)) (by rfl)) (by show (6 : Nat) ≤ 1000; decide)) LV.imm (PE.bin (PE.bin (PE.itemL (by walk_at "nm") LV.imm PE.cint (j := 3) (r := .int (s3 : Nat)) rfl (by show (5 : Nat) ≤ 100000; decide) (by intro o k; rfl)) (PE.cnat (b := 140) (by decide +kernel)) (OP.div_nat (b := 140) (by decide) (by decide))) (PE.cnat (b := 6) (by decide +kernel)) (OP.mod_nat (b := 6) (by decide))) h140 (by show (6 : Nat) ≤ 100000; decide) (by intro o k; rfl)
    with_reducible refine X.next (M' := (MU L pp (trN s3) (trW s0 s1 s2 s4) (trH s0 s1 s2 s4) (sv s0 s1 s2 s3 s4) d [("tail", .tup [.str t0, .str t1]), ("piece", .str pc), ("text", .str x), ("others", .list ((trO s0 s1 s2 s3).map .int))] (st 4).1 (st 4).2 N)) ?_ rm' H₁₅ fun g₁₆ s₁₆ L₁₆ H₁₆ => ?_
    · refine ST.assign (p := .tup [.str t0, .str t1]) ?_ (SN.loc (i := 0) (by rfl) (by rfl) (by rfl)) (by rfl)
      exact PE.itemL (PE.lst (ps := tailsL.map fun t => .tup [.str t.1, .str t.2]) (PL.cons (PE.tup (ps := [.str _, .str _]) (PL.cons PE.cstr (PL.cons PE.cstr PL.nil (by rfl)) (by rfl)) (by show (2 : Nat) ≤ 1000; decide)) (PL.cons (PE.tup (ps := [.str _, .str _]) (PL.cons PE.cstr (PL.cons PE.cstr PL.nil (by rfl)) (by rfl)) (by show (2 : Nat) ≤ 1000; decide)) (PL.cons (PE.tup (ps := [.str _, .str _]) (PL.cons PE.cstr (PL.cons PE.cstr PL.nil (by rfl)) (by rfl)) (by show (2 : Nat) ≤ 1000; decide)) PL.nil (by rfl)) (by rfl)) (by rfl)) (by show (3 : Nat) ≤ 1000; decide)) LV.imm (PE.bin (PE.bin (PE.itemL (by walk_at "nm") LV.imm PE.cint (j := 3) (r := .int (s3 : Nat)) rfl (by show (5 : Nat) ≤ 100000; decide) (by intro o k; rfl)) (PE.cnat (b := 840) (by decide +kernel)) (OP.div_nat (b := 840) (by decide) (by decide))) (PE.cnat (b := 3) (by decide +kernel)) (OP.mod_nat (b := 3) (by decide))) h840 (by show (3 : Nat) ≤ 100000; decide) (by intro o k; rfl)
    change HS w os g₁₆ (MU L pp (trN s3) (trW s0 s1 s2 s4) (trH s0 s1 s2 s4) (sv s0 s1 s2 s3 s4) d [("tail", .tup [.str t0, .str t1]), ("piece", .str pc), ("text", .str x), ("others", .list ((trO s0 s1 s2 s3).map .int))] (st 4).1 (st 4).2 N) s₁₆ at H₁₆
    have hT1 := T.th1
    have hT2 := T.th2
    have hf1 := T.f1
    have hf2 := T.f2
    have hsm := T.sm
    rw [hpp] at hf2 hsm
    obtain ⟨P1, hP1⟩ : ∃ P1, P1 = trP1 s0 s1 s2 s3 := ⟨_, rfl⟩
    obtain ⟨P2, hP2⟩ : ∃ P2, P2 = trP2 s0 s1 s2 s3 s4 := ⟨_, rfl⟩
    have a1 : P1.ps = pp := by rw [hP1, ← hpp]; rfl
    have a2 : P1.bank = s3 / 7 % 4 := by rw [hP1]; rfl
    have a3 : P1.nms = trN s3 := by rw [hP1]; rfl
    have a4 : P1.piece = pc := by rw [hP1, hpc]; rfl
    have a5 : P1.t0 = t0 := by rw [hP1, ht0]; rfl
    have a6 : P1.t1 = t1 := by rw [hP1, ht1]; rfl
    have a7 : P1.back = false := by rw [hP1]; rfl
    have b1 : P2.ps = trO s0 s1 s2 s3 := by rw [hP2]; rfl
    have b2 : P2.bank = s4 / 64 % 4 := by rw [hP2]; rfl
    have b3 : P2.nms = trN s3 := by rw [hP2]; rfl
    have b4 : P2.piece = pc := by rw [hP2, hpc]; rfl
    have b5 : P2.t0 = t0 := by rw [hP2, ht0]; rfl
    have b6 : P2.t1 = t1 := by rw [hP2, ht1]; rfl
    have b7 : P2.back = true := by rw [hP2]; rfl
    rw [← hP1] at hT1 hf1
    rw [← hP2] at hT2 hf2
    clear hP1 hP2
    obtain ⟨f, hf⟩ : ∃ f, f = P1.fin.taken := ⟨_, rfl⟩
    obtain ⟨f2, hff2⟩ : ∃ f2, f2 = P2.fin.taken := ⟨_, rfl⟩
    rw [← hf] at hf1
    rw [← hff2] at hf2
    refine wpAny_execs_cons (Assign_Tuple (callFk (a := 296) (ps := [.list (pp.map .int), .int (s3 / 7 % 4 : Nat), .list ((trN s3).map fun c => .str (ch1 c)), .val (.ref d.I), .str pc, .tup [.str t0, .str t1], .bool false]) (by walk_at "nm") (by walk_at "kis") (PL.cons (by walk_at "nm") (PL.cons (PE.bin (PE.bin (PE.itemL (by walk_at "nm") LV.imm PE.cint (j := 3) (r := .int (s3 : Nat)) rfl (by show (5 : Nat) ≤ 100000; decide) (by intro o k; rfl)) (PE.cnat (b := 7) (by decide +kernel)) (OP.div_nat (b := 7) (by decide) (by decide))) (PE.cnat (b := 4) (by decide +kernel)) (OP.mod_nat (b := 4) (by decide))) (PL.cons (by walk_at "nm") (PL.cons (by walk_at "nm") (PL.cons (by walk_at "nm") (PL.cons (by walk_at "nm") (PL.cons PE.cbool PL.nil (by rfl)) (by rfl)) (by rfl)) (by rfl)) (by rfl)) (by rfl)) (by rfl)) (by rfl) (by rfl) rm' H₁₆ fun vs g₁₇ s₁₇ L₁₇ H₁₇ r₁₇ => ?_) (by rfl) (by rfl))
    rw [← a1, ← a2, ← a3, ← a4, ← a5, ← a6, ← a7] at r₁₇
    refine thief_ok (P := P1) (n := n + 6) hT1.ok hT1.G hT1.F hT1.N rm' ((MU_app ▸ H₁₇ : HS w os g₁₇ (MUb _ _ _ _ _ _ _ _ ++ (deskL d _ _ [] ++ N)) s₁₇).perm (swapB _ _ _)) r₁₇ fun os₁ v g₁₈ s₁₈ X₁₈ L₁₈ H₁₈ r₁₈ => ?_
    rw [hT1.pb] at H₁₈
    rw [hT1.good, ← hf] at r₁₈
    have H₁₉ := H₁₈.perm (swapB _ _ _)
    change HS w os₁ g₁₈ (MU L pp (trN s3) (trW s0 s1 s2 s4) (trH s0 s1 s2 s4) (sv s0 s1 s2 s3 s4) d [("tail", .tup [.str t0, .str t1]), ("piece", .str pc), ("text", .str x), ("others", .list ((trO s0 s1 s2 s3).map .int))] (st 4).1 (st 4).2 N) s₁₈ at H₁₉
    refine assign_pair (SN.loc (i := 0) (by rfl) (by rfl) (by rfl)) (SN.loc (i := 0) (by rfl) (by rfl) (by rfl)) rm'.hd H₁₉ r₁₈ fun g₂₀ s₂₀ L₂₀ H₂₀ => ?_
    change HS w os₁ g₂₀ (MU L pp (trN s3) (trW s0 s1 s2 s4) (trH s0 s1 s2 s4) (sv s0 s1 s2 s3 s4) d [("fine", .bool true), ("taken", .int (f : Nat)), ("tail", .tup [.str t0, .str t1]), ("piece", .str pc), ("text", .str x), ("others", .list ((trO s0 s1 s2 s3).map .int))] (st 4).1 (st 4).2 N) s₂₀ at H₂₀
    with_reducible refine wpAny_execs_cons ?_
    refine Assign_Tuple (callFk (a := 296) (ps := [.list ((trO s0 s1 s2 s3).map .int), .int (s4 / 64 % 4 : Nat), .list ((trN s3).map fun c => .str (ch1 c)), .val (.ref d.I), .str pc, .tup [.str t0, .str t1], .bool true]) (by walk_at "nm") (by walk_at "kis") (PL.cons (by walk_at "nm") (PL.cons (PE.bin (PE.bin (PE.itemL (by walk_at "nm") LV.imm PE.cint (j := 4) (r := .int (s4 : Nat)) rfl (by show (5 : Nat) ≤ 100000; decide) (by intro o k; rfl)) (PE.cnat (b := 64) (by decide +kernel)) (OP.div_nat (b := 64) (by decide) (by decide))) (PE.cnat (b := 4) (by decide +kernel)) (OP.mod_nat (b := 4) (by decide))) (PL.cons (by walk_at "nm") (PL.cons (by walk_at "nm") (PL.cons (by walk_at "nm") (PL.cons (by walk_at "nm") (PL.cons PE.cbool PL.nil (by rfl)) (by rfl)) (by rfl)) (by rfl)) (by rfl)) (by rfl)) (by rfl)) (by rfl) (by rfl) rm' H₂₀ fun vs g₂₁ s₂₁ L₂₁ H₂₁ r₂₁ => ?_) (by rfl) (by rfl)
    rw [← b1, ← b2, ← b3, ← b4, ← b5, ← b6, ← b7] at r₂₁
    refine thief_ok (P := P2) (n := n + 6) hT2.ok hT2.G hT2.F hT2.N rm' ((MU_app ▸ H₂₁ : HS w os₁ g₂₁ (MUb _ _ _ _ _ _ _ _ ++ (deskL d _ _ [] ++ N)) s₂₁).perm (swapB _ _ _)) r₂₁ fun os₂ v g₂₂ s₂₂ X₂₂ L₂₂ H₂₂ r₂₂ => ?_
    rw [hT2.pb] at H₂₂
    rw [hT2.good, ← hff2] at r₂₂
    have H₂₃ := H₂₂.perm (swapB _ _ _)
    change HS w os₂ g₂₂ (MU L pp (trN s3) (trW s0 s1 s2 s4) (trH s0 s1 s2 s4) (sv s0 s1 s2 s3 s4) d [("fine", .bool true), ("taken", .int (f : Nat)), ("tail", .tup [.str t0, .str t1]), ("piece", .str pc), ("text", .str x), ("others", .list ((trO s0 s1 s2 s3).map .int))] (st 4).1 (st 4).2 N) s₂₂ at H₂₃
    refine assign_pair (SN.loc (i := 0) (by rfl) (by rfl) (by rfl)) (SN.loc (i := 0) (by rfl) (by rfl) (by rfl)) rm'.hd H₂₃ r₂₂ fun g₂₄ s₂₄ L₂₄ H₂₄ => ?_
    change HS w os₂ g₂₄ (MU L pp (trN s3) (trW s0 s1 s2 s4) (trH s0 s1 s2 s4) (sv s0 s1 s2 s3 s4) d [("good", .bool true), ("again", .int (f2 : Nat)), ("fine", .bool true), ("taken", .int (f : Nat)), ("tail", .tup [.str t0, .str t1]), ("piece", .str pc), ("text", .str x), ("others", .list ((trO s0 s1 s2 s3).map .int))] (st 4).1 (st 4).2 N) s₂₄ at H₂₄
    obtain ⟨bb, hbb⟩ : ∃ bb : Bool, bb = (((s4 / 256 % 2 : Nat) : Int) != 0) := ⟨_, rfl⟩
    obtain ⟨fa, hfa⟩ : ∃ fa : Addr, fa = if bb = true then 68 else 77 := ⟨_, rfl⟩
    with_reducible refine wpAny_execs_cons ?_
    refine Assign_Tuple (PE.ifexp (b := bb) (p := .tup [.val (.ref fa), .bool (!bb)]) (PT.asB (PT.ival (PE.bin (PE.bin (PE.itemL (by walk_at "nm") LV.imm PE.cint (j := 4) (r := .int (s4 : Nat)) rfl (by show (5 : Nat) ≤ 100000; decide) (by intro o k; rfl)) (PE.cnat (b := 256) (by decide +kernel)) (OP.div_nat (b := 256) (by decide) (by decide))) (PE.cnat (b := 2) (by decide +kernel)) (OP.mod_nat (b := 2) (by decide))) (by intro v; rfl)) hbb.symm) (fun h => by
        rw [hfa, h]
        exact PE.tup (ps := [.val (.ref 68), .bool false]) (PL.cons (by walk_at "nm") (PL.cons PE.cbool PL.nil (by rfl)) (by rfl)) (by show (2 : Nat) ≤ 1000; decide)) (fun h => by
        rw [hfa, h]
        exact PE.tup (ps := [.val (.ref 77), .bool true]) (PL.cons (by walk_at "nm") (PL.cons PE.cbool PL.nil (by rfl)) (by rfl)) (by show (2 : Nat) ≤ 1000; decide)) _ rm' g₂₄ s₂₄ _ H₂₄ fun v g₂₅ s₂₅ L₂₅ H₂₅ r₂₅ => ?_) (by rfl) (by rfl)
    refine assign_pair (SN.loc (i := 0) (by rfl) (by rfl) (by rfl)) (SN.loc (i := 0) (by rfl) (by rfl) (by rfl)) rm'.hd H₂₅ r₂₅ fun g₂₆ s₂₆ L₂₆ H₂₆ => ?_
    change HS w os₂ g₂₆ (MU L pp (trN s3) (trW s0 s1 s2 s4) (trH s0 s1 s2 s4) (sv s0 s1 s2 s3 s4) d [("sought", .bool (!bb)), ("search", .val (.ref fa)), ("good", .bool true), ("again", .int (f2 : Nat)), ("fine", .bool true), ("taken", .int (f : Nat)), ("tail", .tup [.str t0, .str t1]), ("piece", .str pc), ("text", .str x), ("others", .list ((trO s0 s1 s2 s3).map .int))] (st 4).1 (st 4).2 N) s₂₆ at H₂₆
    obtain ⟨m, hm⟩ : ∃ m : Nat, m = (pp.sum + 2).toNat := ⟨_, rfl⟩
    have hm' : pp.sum + 2 = (m : Int) := by rw [hm]; omega
    have hmb : m ≤ 12 := by omega
    have hpb : ∀ x ∈ pp, -(1000 : Int) ≤ x ∧ x ≤ 1000 := fun x hx => by
      rw [← hpp] at hx
      unfold trP at hx
      simp only [List.mem_cons, List.not_mem_nil, or_false, List.sum_cons, List.sum_nil] at hx
      have h0 := hpI s0; have h1 := hpI s1; have h2 := hpI s2
      rcases hx with rfl | rfl | rfl | rfl <;> omega
    have hsum4 : Small pp := ⟨fun x hx => by have := hpb x hx; omega, by rw [hpl]; decide⟩
    with_reducible refine wpAny_execs_cons ?_
    refine wpAny_Assign_Name (callKw (a := fa) (ps := [.list ((List.range m).map fun i => PV.int (i : Nat)), .bool (!bb)]) (by walk_at "nm") (by rw [hfa]; cases bb <;> walk_at "kis") (PL.cons (PE.callB (by walk_at "nm") (by intro a; exact nofun) (PL.cons (PE.as (PE.callB (by walk_at "nm") (by intro a; exact nofun) (PL.cons (PE.bin (PE.callB (by walk_at "nm") (by intro a; exact nofun) (PL.cons (by walk_at "nm") PL.nil (by rfl)) (OP.sum LV.imm hsum4) (by rfl) (by rfl)) PE.cint OP.add_int) PL.nil (by rfl)) OP.range1 (by rfl) (by rfl)) (congrArg PV.rng hm')) PL.nil (by rfl)) (OP.listRange (by omega)) (by rfl) (by rfl)) (PL.cons (by walk_at "nm") PL.nil (by rfl)) (by rfl)) (by rfl) (by rfl) rm' H₂₆ fun vs g₂₇ s₂₇ L₂₇ H₂₇ r₂₇ => ?_) (by rfl)
    refine lamNew (c := 300) (P := 298) (ps := #[]) (i := 7) (clos := [("purses", L + 6)]) (by rfl) (by rfl) (by rfl) (by rfl) rfl trivial (by rfl) H₂₇ (codeHd298 H₂₇.bs) (fun mg hm => H₂₇.bat (hB.mono (L'.tr (L₁.tr (L₂.tr (L₃.tr (L₄.tr (L₅.tr (L₆.tr (L₇.tr (L₈.tr (L₉.tr (L₁₀.tr (L₁₁.tr (L₁₃.tr (L₁₄.tr (L₁₅.tr (L₁₆.tr (L₁₇.tr (L₁₈.tr (L₂₀.tr (L₂₁.tr (L₂₂.tr (L₂₄.tr (L₂₅.tr (L₂₆.tr L₂₇))))))))))))))))))))))))) (by decide) hm) fun Kf c₁ pm ctv g₂₈ s₂₈ L₂₈ H₂₈ => ?_
    refine ⟨H₂₈.kin, wpAny_call ?_⟩
    have H₂₉ := H₂₈.isW (P' := KeyP ("_law_traders" ++ ".<locals>." ++ "<lambda>") (L + 6) c₁) (fun o h => by
      refine ⟨_, fun n => match n with | 0 => ⟨290, 75, 290, 86⟩ | 1 => ⟨290, 87, 290, 93⟩ | 2 => ⟨290, 95, 290, 99⟩ | _ => ⟨290, 75, 290, 100⟩, _, pm, ctv, h, ?_⟩
      exact ⟨by intro v; rfl, by rfl, by rfl, by rfl, by rfl, by rfl, by rfl, by decide +kernel⟩)
    cases r₂₇ with | cons r₃₀ r₂₇ => cases r₂₇ with | cons r₃₁ r₂₇ =>
    cases r₂₇; cases r₃₁
    refine bis_ok (n := n + 18) (kt := trR s0 s1 s2 s3) (P := KeyP ("_law_traders" ++ ".<locals>." ++ "<lambda>") (L + 6) c₁) hfa (m := m) (by omega) ?_ (.head _) ?_ rm' H₂₉ (r₃₀.mono L₂₈) fun v g₃₂ s₃₂ L₃₂ H₃₂ r₃₂ => ?_
    · rintro o ⟨params, p, scope, pm', ctv', rfl, -⟩
      exact ⟨_, rfl⟩
    · intro p i hi
      refine key_ok (n := n + 7) (c := L + 6) (c' := c₁) (qual := "_law_traders" ++ ".<locals>." ++ "<lambda>") (.tail _ (.head _)) (.tail _ (.tail _ (.head _))) ?_ (by omega) ?_
      · refine .tail _ (.tail _ (.tail _ (.tail _ ?_)))
        rw [show ([pI s0, pI s1, pI s2, ((s3 % 7 : Nat) : Int) - 1 - [pI s0, pI s1, pI s2].sum] : List Int) = pp from hpp]
        exact .head _
      · rw [show ([pI s0, pI s1, pI s2, ((s3 % 7 : Nat) : Int) - 1 - [pI s0, pI s1, pI s2].sum] : List Int) = pp from hpp]
        exact hpb
    obtain ⟨Fw, hF⟩ : ∃ Fw, Fw = trF s0 s1 s2 s3 s4 := ⟨_, rfl⟩
    rw [← hF] at hf1 hf2
    have hFe : (if bb = true then bisR (trR s0 s1 s2 s3) false m else bisL (trR s0 s1 s2 s3) true m) = Fw := by
      rw [hF]; unfold trF
      rw [hpp, ← hm]
      by_cases h : s4 / 256 % 2 = 0
      · have hb' : bb = false := by rw [hbb, h]; rfl
        rw [hb', if_neg (by decide), if_neg (fun q => q h)]
      · have hb' : bb = true := by rw [hbb, bne_iff_ne]; omega
        rw [hb', if_pos rfl, if_pos h]
    rw [hFe] at r₃₂
    obtain ⟨g₃₃, L₃₃, H₃₃, hTc⟩ := H₃₂.dropT (M' := (MV L pp (trN s3) (trW s0 s1 s2 s4) (trH s0 s1 s2 s4) (sv s0 s1 s2 s3 s4) d [("sought", .bool (!bb)), ("search", .val (.ref fa)), ("good", .bool true), ("again", .int (f2 : Nat)), ("fine", .bool true), ("taken", .int (f : Nat)), ("tail", .tup [.str t0, .str t1]), ("piece", .str pc), ("text", .str x), ("others", .list ((trO s0 s1 s2 s3).map .int))] (st 4).1 (st 4).2 N)) (List.perm_middle (l₁ := [_, _, _, _, _, _, _, _, _])) (.cons _ (.cons _ (List.Sublist.refl _)))
    refine SN.loc (i := 0) (by rfl) (by rfl) (by rfl) _ g₃₃ s₃₂ _ v H₃₃ (r₃₂.mono L₃₃) fun g₃₄ s₃₄ L₃₄ H₃₄ => ?_
    change HS w os₂ g₃₄ (MV L pp (trN s3) (trW s0 s1 s2 s4) (trH s0 s1 s2 s4) (sv s0 s1 s2 s3 s4) d [("fewest", .int (Fw : Nat)), ("sought", .bool (!bb)), ("search", .val (.ref fa)), ("good", .bool true), ("again", .int (f2 : Nat)), ("fine", .bool true), ("taken", .int (f : Nat)), ("tail", .tup [.str t0, .str t1]), ("piece", .str pc), ("text", .str x), ("others", .list ((trO s0 s1 s2 s3).map .int))] (st 4).1 (st 4).2 N) s₃₄ at H₃₄
    have e1 : ((f : Int) != (Fw : Int)) = false := by rw [hf1]; simp
    have e2 : ((f2 : Int) != (Fw : Int) - pp.sum + 2) = false := by rw [hf2]; simp
    refine X.if (b := false) (PT.or4F (PT.asB (PT.not (PT.bval (b := true) (by walk_at "nm") (by intro v; rfl))) (by rfl)) (PT.asB (PT.not (PT.bval (b := true) (by walk_at "nm") (by intro v; rfl))) (by rfl)) (PT.asB (PT.cmp (by walk_at "nm") (by walk_at "nm") OP.ne_int (by rfl)) e1) (PT.asB (PT.cmp (by walk_at "nm") (PE.bin (PE.bin (by walk_at "nm") (PE.callB (by walk_at "nm") (by intro a; exact nofun) (PL.cons (by walk_at "nm") PL.nil (by rfl)) (OP.sum LV.imm hsum4) (by rfl) (by rfl)) OP.sub_int) PE.cint OP.add_int) OP.ne_int (by rfl)) e2)) rm' H₃₄ fun g₃₅ s₃₅ L₃₅ H₃₅ => ?_
    rw [if_neg (by decide)]
    refine X.end ?_
    obtain ⟨cn, hcn⟩ : ∃ cn : Int, cn = 1 + Txt.count x "\n" := ⟨_, rfl⟩
    rw [← hcn] at hln
    have hzl : lay [.str (tkS [122]), .str (tkS []), .int cn] = true := lay_flat (by rfl) (by simp [toDs, toD, PyData.canLayAll0, PyData.canLay0, tkS]; exact ⟨by decide +kernel, by decide +kernel⟩) (by simp [toDs, toD, PyData.depthAll, PyData.depth])
    with_reducible refine wpAny_execs_cons ?_
    refine wpAny_Return_some (wpAny_Compare1 (wpAny_List_spliced (splicedStep (by rfl) (PEX.asP (PEX.get (n := n + 13) (d := d) (signs := (st 4).1) (ln := (st 4).2) (kf := 500) (M' := (MV L pp (trN s3) (trW s0 s1 s2 s4) (trH s0 s1 s2 s4) (sv s0 s1 s2 s3 s4) d [("fewest", .int (Fw : Nat)), ("sought", .bool (!bb)), ("search", .val (.ref fa)), ("good", .bool true), ("again", .int (f2 : Nat)), ("fine", .bool true), ("taken", .int (f : Nat)), ("tail", .tup [.str t0, .str t1]), ("piece", .str pc), ("text", .str x), ("others", .list ((trO s0 s1 s2 s3).map .int))] (st 5).1 (st 5).2 N)) (B := (MVb L pp (trN s3) (trW s0 s1 s2 s4) (trH s0 s1 s2 s4) (sv s0 s1 s2 s3 s4) d [("fewest", .int (Fw : Nat)), ("sought", .bool (!bb)), ("search", .val (.ref fa)), ("good", .bool true), ("again", .int (f2 : Nat)), ("fine", .bool true), ("taken", .int (f : Nat)), ("tail", .tup [.str t0, .str t1]), ("piece", .str pc), ("text", .str x), ("others", .list ((trO s0 s1 s2 s3).map .int))])) (N := N) rfl (by rw [hs1, hs2]; rfl) (by walk_at "nm") (by have := hlen 4 (by omega); omega) (hlen 4 (by omega)) (by rfl)) (by rw [hs3, htk4]) _ rm' g₃₅ s₃₅ _ H₃₅ fun v₁ g₃₆ s₃₆ L₃₆ H₃₆ r₃₆ => ?_))) ?_) 
    · refine splicedStep (by rfl) (PEX.asP (PEX.get (n := n + 13) (d := d) (signs := (st 5).1) (ln := (st 5).2) (kf := 500) (M' := (MV L pp (trN s3) (trW s0 s1 s2 s4) (trH s0 s1 s2 s4) (sv s0 s1 s2 s3 s4) d [("fewest", .int (Fw : Nat)), ("sought", .bool (!bb)), ("search", .val (.ref fa)), ("good", .bool true), ("again", .int (f2 : Nat)), ("fine", .bool true), ("taken", .int (f : Nat)), ("tail", .tup [.str t0, .str t1]), ("piece", .str pc), ("text", .str x), ("others", .list ((trO s0 s1 s2 s3).map .int))] (st 6).1 (st 6).2 N)) (B := (MVb L pp (trN s3) (trW s0 s1 s2 s4) (trH s0 s1 s2 s4) (sv s0 s1 s2 s3 s4) d [("fewest", .int (Fw : Nat)), ("sought", .bool (!bb)), ("search", .val (.ref fa)), ("good", .bool true), ("again", .int (f2 : Nat)), ("fine", .bool true), ("taken", .int (f : Nat)), ("tail", .tup [.str t0, .str t1]), ("piece", .str pc), ("text", .str x), ("others", .list ((trO s0 s1 s2 s3).map .int))])) (N := N) rfl (by rw [hs1, hs2]; rfl) (by walk_at "nm") (by have := hlen 5 (by omega); omega) (hlen 5 (by omega)) (by rfl)) (by rw [hs3, htk5]) _ rm' g₃₆ s₃₆ _ H₃₆ fun v₂ g₃₇ s₃₇ L₃₇ H₃₇ r₃₇ => ?_)
      refine splicedStep (by rfl) ((PE.attr (x := d.I) (C := 115) (dx := d.dI) (p := .int (st 6).2) (by walk_at "nm") (instD (B := (MVb L pp (trN s3) (trW s0 s1 s2 s4) (trH s0 s1 s2 s4) (sv s0 s1 s2 s3 s4) d [("fewest", .int (Fw : Nat)), ("sought", .bool (!bb)), ("search", .val (.ref fa)), ("good", .bool true), ("again", .int (f2 : Nat)), ("fine", .bool true), ("taken", .int (f : Nat)), ("tail", .tup [.str t0, .str t1]), ("piece", .str pc), ("text", .str x), ("others", .list ((trO s0 s1 s2 s3).map .int))]))) (dictD (B := (MVb L pp (trN s3) (trW s0 s1 s2 s4) (trH s0 s1 s2 s4) (sv s0 s1 s2 s3 s4) d [("fewest", .int (Fw : Nat)), ("sought", .bool (!bb)), ("search", .val (.ref fa)), ("good", .bool true), ("again", .int (f2 : Nat)), ("fine", .bool true), ("taken", .int (f : Nat)), ("tail", .tup [.str t0, .str t1]), ("piece", .str pc), ("text", .str x), ("others", .list ((trO s0 s1 s2 s3).map .int))]))) (by rfl) (by intro g v r; cases r; rfl) (by walk_at "kis") (by walk_at "kis") (by walk_at "kis") (by walk_at "kis") (by rfl)) _ rm' g₃₇ s₃₇ _ H₃₇ fun v₃ g₃₈ s₃₈ L₃₈ H₃₈ r₃₈ => ?_)
      refine spliced_none ⟨by show (3 : Nat) ≤ _; exact sizeLine_ge (by decide), ?_⟩
      obtain ⟨g₃₉, L₃₉, H₃₉, G₃₉⟩ := H₃₈.push { cls := .type "list", data := .seq [v₁, v₂, v₃].toArray } rfl s₃₈.toks
      rw [hln] at r₃₈
      have r₄₀ : Rd g₃₉ (.ref s₃₈.heap.objs.size) (.list [.str (tkS [122]), .str (tkS []), .int cn]) := .list ⟨0, G₃₉⟩ (.cons (r₃₆.mono (L₃₇.tr (L₃₈.tr L₃₉))) (.cons (r₃₇.mono (L₃₈.tr L₃₉)) (.cons (r₃₈.mono L₃₉) .nil)))
      refine (PE.lst (ps := [.str (tkS [122]), .str (tkS []), .int cn]) (PL.cons (PE.as PE.cstr (by rfl)) (PL.cons (PE.as PE.cstr (by rfl)) (PL.cons (PE.as (PE.bin PE.cint (PEX.meth (p := .str x) (T := "str") (id := "str.count") (ps := [.str "\n"]) (by walk_at "nm") Ty.str (PL.cons PE.cstr PL.nil (by rfl)) OP.count.m F.plainAttrs_str F.slot_str_count F.type_str_count (by rfl) (by rfl) (by rfl) (by rfl) (by rfl)).pe OP.add_int) (by rw [hcn])) PL.nil (by rfl)) (by rfl)) (by rfl)) (by show (3 : Nat) ≤ 1000; decide)) _ rm' g₃₉ _ _ H₃₉ fun v₄ g₄₁ s₄₁ L₄₁ H₄₁ r₄₁ => ?_
      refine OP.eqL (n := n + 19) (b := true) LV.imm LV.imm hzl hzl (by omega) (by simp [toDs, toD, PyData.eqvAll, PyData.eqv]) _ rm' g₄₁ s₄₁ _ [_, v₄] H₄₁ (.cons (r₄₀.mono L₄₁) (.cons r₄₁ .nil)) fun v₅ g₄₂ s₄₂ L₄₂ H₄₂ r₄₂ => ?_
      obtain ⟨g₄₃, L₄₃, H₄₃, -⟩ := H₄₂.drop (M' := N) (.cons _ (.cons _ (.cons _ (.cons _ (.cons _ (.cons _ (.cons _ (List.sublist_append_right _ _))))))))
      exact k os₂ v₅ g₄₃ s₄₂ (X₁₈.tr X₂₂) (L'.tr (L₁.tr (L₂.tr (L₃.tr (L₄.tr (L₅.tr (L₆.tr (L₇.tr (L₈.tr (L₉.tr (L₁₀.tr (L₁₁.tr (L₁₃.tr (L₁₄.tr (L₁₅.tr (L₁₆.tr (L₁₇.tr (L₁₈.tr (L₂₀.tr (L₂₁.tr (L₂₂.tr (L₂₄.tr (L₂₅.tr (L₂₆.tr (L₂₇.tr (L₂₈.tr (L₃₂.tr (L₃₃.tr (L₃₄.tr (L₃₅.tr (L₃₆.tr (L₃₇.tr (L₃₈.tr (L₃₉.tr (L₄₁.tr (L₄₂.tr L₄₃)))))))))))))))))))))))))))))))))))) H₄₃ (r₄₂.mono L₄₃) (hTa.mono (L₁₃.tr (L₁₄.tr (L₁₅.tr (L₁₆.tr (L₁₇.tr (L₁₈.tr (L₂₀.tr (L₂₁.tr (L₂₂.tr (L₂₄.tr (L₂₅.tr (L₂₆.tr (L₂₇.tr (L₂₈.tr (L₃₂.tr (L₃₃.tr (L₃₄.tr (L₃₅.tr (L₃₆.tr (L₃₇.tr (L₃₈.tr (L₃₉.tr (L₄₁.tr (L₄₂.tr L₄₃))))))))))))))))))))))))) (hTc.mono (L₃₄.tr (L₃₅.tr (L₃₆.tr (L₃₇.tr (L₃₈.tr (L₃₉.tr (L₄₁.tr (L₄₂.tr L₄₃)))))))))
    · rfl
end
set_option maxHeartbeats 0
section
variable {w : World} {os : Ext} {n : Nat} {M M' : Led} {env : Env} {pos : Pos}
noncomputable def restsL (script : List Int) : List Nat := (script.take 60).map fun i => (Int.fmod i 5040).toNat
noncomputable def fifth (l : List Nat) (k : Nat) : List Nat := (sliceRange (sliceBounds (some (k : Int)) .none (some 5) l.length).1 (sliceBounds (some (k : Int)) .none (some 5) l.length).2.1 (sliceBounds (some (k : Int)) .none (some 5) l.length).2.2).filterMap (l[·]?)
noncomputable def baseL : List Nat := [143, 83, 221, 2307, 156]
noncomputable def sumK (script : List Int) (k : Nat) : Nat := baseL.getD k 0 + (fifth (restsL script) k).sum
theorem sum_cast (l : List Nat) : (l.map fun c : Nat => (c : Int)).sum = ((l.sum : Nat) : Int) := by
  induction l with
  | nil => rfl
  | cons a l ih => simp only [List.map_cons, List.sum_cons]; rw [ih]; omega
theorem sliceRange_len (a b c : Int) : ∀ l : List Nat, ((sliceRange a b c).filterMap (l[·]?)).length ≤ (sliceRange a b c).length := fun l => List.length_filterMap_le _ _
theorem fifth_mem {l : List Nat} {k : Nat} {x : Nat} (h : x ∈ fifth l k) : x ∈ l := by
  unfold fifth at h
  obtain ⟨i, -, hi⟩ := List.mem_filterMap.mp h
  exact List.mem_of_getElem? hi
theorem rests_lt {script : List Int} {x : Nat} (h : x ∈ restsL script) : x < 5040 := by
  unfold restsL at h
  obtain ⟨i, -, rfl⟩ := List.mem_map.mp h
  have h1 := Int.fmod_eq_emod_of_nonneg i (show (0 : Int) ≤ 5040 by decide)
  have h2 := Int.emod_nonneg i (show (5040 : Int) ≠ 0 by decide)
  have h3 := Int.emod_lt_of_pos i (show (0 : Int) < 5040 by decide)
  omega
theorem law_ok (TR : ∀ s0 s1 s2 s3 s4, Tr s0 s1 s2 s3 s4) {script : List Int} (hl : script.length ≤ 63) {A : Around} (rm : Rm A (n + 22)) {g : Heap} {s : Shared} {Q : Value → Shared → Prop} {v : Value} {N : Led} (H : HS w os g ((269, tabE #[]) :: (298, tabE #[]) :: N) s) (hB : Bm g) (r : Rd g v (.list (script.map .int)))
    (k : ∀ os' v g' s', Xt os os' → Le g g' → HS w os' g' N s' → Rd g' v (.bool true) → Tb g' 269 → Tb g' 298 → Q v s') : wpAny (model PRG w) A (call (.ref 306) [v]) Q NoE s := by
  refine enterC (n := n + 21) (fa := 306) (vars := [("script", .list (script.map .int))]) (cv := fun _ => .none) (by walk_at "kis") (by walk_at "kis") (by rfl) (by rfl) (by decide +kernel) (bv_cons (by rfl) r bv_nil) ?_ rm H ?_
  · intro y hy o ho
    cases List.mem_singleton.mp (show y ∈ [Str.ofString "rests"] from hy)
    exact ho
  · intro L s' g' rm' L' H'
    change HS w os g' ((L, .frame [("script", .list (script.map .int))]) :: (L + 1, .cell .none) :: (269, tabE #[]) :: (298, tabE #[]) :: N) s' at H'
    have htl : (script.take 60).length ≤ 60 := List.length_take_le _ _
    with_reducible refine X.next (M' := (L, .frame [("script", .list (script.map .int))]) :: (L + 1, .cell (some (.list ((restsL script).map fun c => .int (c : Nat))))) :: (269, tabE #[]) :: (298, tabE #[]) :: N) ?_ rm' H' fun g₁ s₁ L₁ H₁ => ?_
    · refine ST.assign (p := .list ((restsL script).map fun c => .int (c : Nat))) (CompOk.pe (CompOk.as (CompOk.lcomp (ps := script.take 60) (enc := PV.int) (t := fun _ => true) (f := fun i => .int ((Int.fmod i 5040).toNat : Nat)) (cl := []) (src := .list ((script.take 60).map .int))
        (PE.sliceL (lo := .none) (hi := some (60 : Nat)) (ps := script.map .int) (by walk_at "nm") LV.imm PPt.none (PPt.some PE.cint) (by rw [List.length_map]; omega) (by rw [pick_upto, List.map_take])) IterOf.list (sizeLine_ge (by omega)) (by intro v; rfl) (by rfl) (by rfl) (by decide +kernel) (by decide +kernel) (by rfl) (fun _ _ _ _ _ _ _ => PTs.nil) (fun i hi _ I e D' l C => ?_)) (by rw [all_filter]; unfold restsL; rw [List.map_map]; rfl))) (SN.cel (i := 1) (by rfl) (by rfl) (by rfl) (by rfl)) (by rfl)
      refine PE.as (PE.bin (by walk_at "nm") PE.cint (OP.mod_int (b := 5040) (by decide))) (congrArg PV.int ?_)
      have h1 := Int.fmod_eq_emod_of_nonneg i (show (0 : Int) ≤ 5040 by decide)
      have h2 := Int.emod_nonneg i (show (5040 : Int) ≠ 0 by decide)
      omega
    have hrl : (restsL script).length ≤ 60 := by unfold restsL; rw [List.length_map]; exact htl
    refine wpAny_execs_cons (wpAny_Return_some (callFk (a := 301) (ps := [.list ((List.range 5).map fun i => .int (sumK script i : Nat))]) (by walk_at "nm") (by walk_at "kis") (PL.cons ?_ PL.nil (by rfl)) (by rfl) (by rfl) rm' H₁ fun vs g₂ s₂ L₂ H₂ r₂ => ?_))
    · refine PE.lmap (cl := [("rests", L + 1)]) (ps := List.range 5) (enc := fun i : Nat => PV.int i) (PE.callB (by walk_at "nm") (by intro a; exact nofun) (PL.cons PE.cint PL.nil (by rfl)) OP.range1 (by rfl) (by rfl)) (IterOf.rng (m := 5) (by decide) (by decide)) (sizeLine_ge (by show (5 : Nat) ≤ _; decide)) (by intro v; rfl) (by rfl) (by rfl) (by decide +kernel) (by decide +kernel) (by rfl) ?_
      intro i hi I e D' l C
      have hi' : i < 5 := List.mem_range.mp hi
      have hsm : Small ((fifth (restsL script) i).map fun c : Nat => (c : Int)) := ⟨fun x hx => by
        obtain ⟨c, hc, rfl⟩ := List.mem_map.mp hx
        have := rests_lt (fifth_mem hc)
        omega, by
        rw [List.length_map]
        unfold fifth
        refine Nat.le_trans (sliceRange_len _ _ _ _) (Nat.le_trans (sliceRange_length_le _ _ _ (restsL script).length (fun hc => ?_) fun hc => ?_) (Nat.le_trans hrl (by decide)))
        · simp only [sliceBounds, Option.getD_some, show (5 : Int) > 0 by decide, if_true]
          constructor <;> omega
        · exact absurd (by simp [sliceBounds]) hc⟩
      refine PE.as (PE.bin (PE.itemT (ps := baseL.map fun c => .int (c : Nat)) (PE.tup (PL.cons PE.cint (PL.cons PE.cint (PL.cons PE.cint (PL.cons PE.cint (PL.cons PE.cint PL.nil (by rfl)) (by rfl)) (by rfl)) (by rfl)) (by rfl)) (by show (5 : Nat) ≤ 1000; decide)) (by walk_at "nm") (nat_get (l := baseL) hi') (by show (5 : Nat) ≤ 100000; decide) (by intro o k; rfl))
        (PE.callB (by walk_at "nm") (by intro a; exact nofun) (PL.cons (PE.sliceS (lo := some (i : Int)) (hi := .none) (z := 5) (ps := (restsL script).map fun c => .int (c : Nat)) (rs := ((fifth (restsL script) i).map fun c : Nat => (c : Int)).map .int) (by walk_at "nm") LV.imm (PPt.some (by walk_at "nm")) PPt.none PE.cint (by decide) (by rw [List.length_map]; omega) (by rw [pick_map, List.map_map]; rfl)) PL.nil (by rfl)) (OP.sum LV.imm hsm) (by rfl) (by rfl)) OP.add_int) (congrArg PV.int ?_)
      rw [sum_cast]
      unfold sumK; omega
    cases r₂ with | cons r₃ r₂ =>
    cases r₂
    have H₃ := H₂.drop (M' := (269, tabE #[]) :: (298, tabE #[]) :: N) (.cons _ (.cons _ (List.Sublist.refl _)))
    obtain ⟨g₃, L₃, H₃, -⟩ := H₃
    exact traders_ok (n := n + 1) (TR (sumK script 0) (sumK script 1) (sumK script 2) (sumK script 3) (sumK script 4)) rm' H₃ (hB.mono (L'.tr (L₁.tr (L₂.tr L₃)))) (r₃.mono L₃) fun os' v g₄ s₄ X₄ L₄ H₄ r₄ ta tb => k os' v g₄ s₄ X₄ (L'.tr (L₁.tr (L₂.tr (L₃.tr L₄)))) H₄ r₄ ta tb
end
set_option maxHeartbeats 1000000
noncomputable def isU (u : List Nat) : Prop := (∃ c, c ≠ 92 ∧ u = [c]) ∨ ∃ c, u = [92, c]
noncomputable def itm : List (List Nat) → Nat → List (Nat × List Nat)
  | [], _ => []
  | u :: us, i => (i + u.length - 1, u) :: itm us (i + u.length)
noncomputable def mkS (us : List (List Nat)) (z : List Nat) : Str := ⟨(us.flatten ++ z).toArray⟩
noncomputable def trI (cs : List Nat) (i : Nat) : List (Nat × List Nat) := (tr cs i false 0).map (·.1)
theorem tr_pos : ∀ (cs : List Nat) (i p q : Nat), tr cs i false p = tr cs i false q
  | [], _, _, _ => rfl
  | c :: cs, i, p, q => rfl
theorem trI_units : ∀ (us : List (List Nat)), (∀ u ∈ us, isU u) → ∀ (R : List Nat) (i : Nat), trI (us.flatten ++ R) i = itm us i ++ trI R (i + us.flatten.length)
  | [], _, R, i => rfl
  | u :: us, h, R, i => by
    have ih := trI_units us (fun v hv => h v (.tail _ hv)) R
    rcases h u (.head _) with ⟨c, hc, rfl⟩ | ⟨c, rfl⟩
    · show (tr (c :: (us.flatten ++ R)) i false 0).map (·.1) = _
      unfold tr
      rw [if_neg hc, List.map_cons, tr_pos _ _ i 0]
      show (i, [c]) :: trI (us.flatten ++ R) (i + 1) = _
      rw [ih (i + 1)]
      show _ = (i + 1 - 1, [c]) :: (itm us (i + 1) ++ trI R (i + (c :: us.flatten).length))
      rw [show i + (c :: us.flatten).length = i + 1 + us.flatten.length by simp; omega]; rfl
    · show (tr (92 :: c :: (us.flatten ++ R)) i false 0).map (·.1) = _
      unfold tr
      rw [if_pos rfl]
      unfold tr
      rw [List.map_cons, tr_pos _ _ (i + 1) 0]
      show (i + 1, [92, c]) :: trI (us.flatten ++ R) (i + 1 + 1) = _
      rw [ih (i + 1 + 1)]
      show _ = (i + 2 - 1, [92, c]) :: (itm us (i + 2) ++ trI R (i + (92 :: c :: us.flatten).length))
      rw [show i + (92 :: c :: us.flatten).length = i + 1 + 1 + us.flatten.length by simp; omega]; rfl
noncomputable def zit (z : List Nat) (i : Nat) : List (Nat × List Nat) := if z = [] then [] else [(i, [92])]
theorem trI_z {z : List Nat} (hz : z = [] ∨ z = [92]) (i : Nat) : trI z i = zit z i := by
  rcases hz with rfl | rfl <;> rfl
theorem items_mk {us : List (List Nat)} {z : List Nat} (h : ∀ u ∈ us, isU u) (hz : z = [] ∨ z = [92]) : items (mkS us z) = itm us 0 ++ zit z us.flatten.length := by
  show trI (us.flatten ++ z) 0 = _
  rw [trI_units us h, trI_z hz, Nat.zero_add]
theorem itm_app : ∀ (us vs : List (List Nat)) (i : Nat), itm (us ++ vs) i = itm us i ++ itm vs (i + us.flatten.length)
  | [], vs, i => rfl
  | u :: us, vs, i => by
    show (i + u.length - 1, u) :: itm (us ++ vs) (i + u.length) = _
    rw [itm_app us vs]
    show _ = (i + u.length - 1, u) :: itm us (i + u.length) ++ itm vs (i + (u ++ us.flatten).length)
    rw [List.length_append, Nat.add_assoc]; rfl
theorem foldG_app {σ : Type} (step : σ → Nat × List Nat → Except PV σ) : ∀ (l₁ l₂ : List (Nat × List Nat)) (a : σ), foldG step a (l₁ ++ l₂) = match foldG step a l₁ with | .ok b => foldG step b l₂ | .error r => .error r
  | [], l₂, a => rfl
  | p :: l₁, l₂, a => by
    show (match step a p with | .ok b => foldG step b (l₁ ++ l₂) | .error r => .error r) = (match (match step a p with | .ok b => foldG step b l₁ | .error r => .error r) with | .ok b => foldG step b l₂ | .error r => .error r)
    cases step a p with
    | ok b => exact foldG_app step l₁ l₂ b
    | error r => rfl
theorem strEq {u : List Nat} {y : Str} {v : List Nat} (hy : y = ⟨v.toArray⟩) : ((⟨u.toArray⟩ : Str) == y) = decide (u = v) := by
  subst hy
  rw [Bool.eq_iff_iff, beq_iff_eq, decide_eq_true_iff]
  constructor
  · intro h
    injection h with h
    simpa using h
  · rintro rfl; rfl
theorem sstep_eq (x : Str) (a : SSt) (i : Nat) (u : List Nat) : sstep x a (i, u) = if u = [34] then match a.2.1 with
    | .none => .ok (a.1, some i, a.2.2)
    | some o => .ok (i + 1, .none, if ((a.1 : Int) != o) = true then a.2.2 ++ [subS x a.1 o] else a.2.2)
  else .ok a := by
  unfold sstep
  rw [strEq (v := [34]) (by rfl)]
  by_cases h : u = [34]
  · rw [decide_eq_true h]; exact (if_pos rfl).trans (if_pos h).symm
  · rw [decide_eq_false h, if_neg (by decide), if_neg h]
theorem strip_plain (x : Str) (a : SSt) : ∀ (us : List (List Nat)) (i : Nat), (∀ u ∈ us, u ≠ [34]) → foldG (sstep x) a (itm us i) = .ok a
  | [], _, _ => rfl
  | u :: us, i, h => by
    have e : sstep x a (i + u.length - 1, u) = .ok a := by rw [sstep_eq, if_neg (h u (.head _))]
    unfold itm foldG
    rw [e]
    exact strip_plain x a us _ fun v hv => h v (.tail _ hv)
theorem strip_z (x : Str) (a : SSt) {z : List Nat} (hz : z = [] ∨ z = [92]) (i : Nat) : foldG (sstep x) a (zit z i) = .ok a := by
  rcases hz with rfl | rfl
  · rfl
  · show (match sstep x a (i, [92]) with | .ok b => foldG (sstep x) b [] | .error r => .error r) = _
    rw [sstep_eq, if_neg (by decide)]; rfl
noncomputable def lone (us : List (List Nat)) : Prop := ∃ a b, us = a ++ b ∧ (∀ u ∈ a, u ≠ [34]) ∧ (b = [] ∨ ∃ b', b = [34] :: b' ∧ ∀ u ∈ b', u ≠ [34])
theorem strip_lone (x : Str) (st : Nat) (res : List Str) {us : List (List Nat)} (h : lone us) (i : Nat) : ∃ o, foldG (sstep x) (st, .none, res) (itm us i) = .ok (st, o, res) := by
  obtain ⟨a, b, rfl, ha, hb⟩ := h
  rw [itm_app, foldG_app, strip_plain x _ a i ha]
  rcases hb with rfl | ⟨b', rfl, hb⟩
  · exact ⟨_, rfl⟩
  · refine ⟨some (i + a.flatten.length), ?_⟩
    show (match sstep x (st, .none, res) (i + a.flatten.length + 1 - 1, [34]) with | .ok b => foldG (sstep x) b (itm b' (i + a.flatten.length + 1)) | .error r => .error r) = _
    rw [sstep_eq, if_pos rfl]
    exact strip_plain x _ b' _ hb
theorem mkS_len (us : List (List Nat)) (z : List Nat) : (mkS us z).length = us.flatten.length + z.length := by
  show (us.flatten ++ z).toArray.size = _
  simp
theorem subS_all {us : List (List Nat)} {z : List Nat} (st : Nat) : subS (mkS us z) st (mkS us z).length = ⟨((us.flatten ++ z).drop st).toArray⟩ := by
  unfold subS
  rw [mkS_len]
  show (⟨(List.take (us.flatten.length + z.length - st) (List.drop st (us.flatten ++ z).toArray.toList)).toArray⟩ : Str) = _
  rw [List.toList_toArray, List.take_of_length_le (by simp)]
theorem join1 (l : List Nat) : joinE [⟨l.toArray⟩] = ⟨l.toArray⟩ := by
  unfold joinE; simp
theorem strip_none {us : List (List Nat)} {z : List Nat} (h : ∀ u ∈ us, isU u) (hl : lone us) (hz : z = [] ∨ z = [92]) (hne : us ≠ []) : stripS (mkS us z) = mkS us z := by
  unfold stripS
  split
  · rw [items_mk h hz, foldG_app]
    obtain ⟨o, ho⟩ := strip_lone (mkS us z) 0 [] hl 0
    rw [ho]
    show stripOf _ (foldG (sstep (mkS us z)) _ _) = _
    rw [strip_z _ _ hz]
    unfold stripOf
    have hpos : 0 < (mkS us z).length := by
      rw [mkS_len]
      cases us with
      | nil => exact absurd rfl hne
      | cons u us =>
        have : 0 < u.length := by rcases h u (.head _) with ⟨c, -, rfl⟩ | ⟨c, rfl⟩ <;> simp
        simp only [List.flatten_cons, List.length_append]; omega
    dsimp only
    rw [if_pos hpos, List.nil_append, subS_all, List.drop_zero, join1]; rfl
  · rfl
theorem strip_quoted {us1 inn us2 : List (List Nat)} {z : List Nat} (h1 : ∀ u ∈ us1, isU u ∧ u ≠ [34]) (hi : ∀ u ∈ inn, isU u ∧ u ≠ [34]) (h2 : ∀ u ∈ us2, isU u) (hl : lone us2) (hz : z = [] ∨ z = [92]) (hne : us1 ≠ []) (hne2 : us2 ≠ []) :
    stripS (mkS (us1 ++ ([34] :: inn ++ [[34]]) ++ us2) z) = mkS (us1 ++ us2) z := by
  have hpl : ∀ us : List (List Nat), (∀ u ∈ us, isU u) → us ≠ [] → 0 < us.flatten.length := fun us h hn => by
    cases us with
    | nil => exact absurd rfl hn
    | cons u us =>
      have : 0 < u.length := by rcases h u (.head _) with ⟨c, -, rfl⟩ | ⟨c, rfl⟩ <;> simp
      simp only [List.flatten_cons, List.length_append]; omega
  have hp1 := hpl us1 (fun u hu => (h1 u hu).1) hne
  have hp2 := hpl us2 h2 hne2
  have hq : isU [34] := .inl ⟨34, by decide, rfl⟩
  have hU : ∀ u ∈ us1 ++ ([34] :: inn ++ [[34]]) ++ us2, isU u := fun u hu => by
    simp only [List.mem_append, List.mem_cons, List.not_mem_nil, or_false] at hu
    rcases hu with (hu | (rfl | hu) | rfl) | hu
    · exact (h1 u hu).1
    · exact hq
    · exact (hi u hu).1
    · exact hq
    · exact h2 u hu
  obtain ⟨x, hx⟩ : ∃ x, x = mkS (us1 ++ ([34] :: inn ++ [[34]]) ++ us2) z := ⟨_, rfl⟩
  have hfl : (us1 ++ ([34] :: inn ++ [[34]]) ++ us2).flatten = us1.flatten ++ (34 :: (inn.flatten ++ [34])) ++ us2.flatten := by simp
  have hmem : 34 ∈ x.cps.toList := by
    rw [hx]
    show 34 ∈ ((us1 ++ ([34] :: inn ++ [[34]]) ++ us2).flatten ++ z).toArray.toList
    rw [hfl]; simp
  unfold stripS
  rw [← hx, if_pos hmem]
  have hit : items x = itm us1 0 ++ ((us1.flatten.length, [34]) :: (itm inn (us1.flatten.length + 1) ++ ((us1.flatten.length + 1 + inn.flatten.length, [34]) :: (itm us2 (us1.flatten.length + inn.flatten.length + 2) ++ zit z (us1 ++ ([34] :: inn ++ [[34]]) ++ us2).flatten.length)))) := by
    rw [hx, items_mk hU hz, itm_app, itm_app, List.append_assoc, List.append_assoc]
    congr 1
    rw [itm_app, Nat.zero_add]
    show (us1.flatten.length + 1 - 1, [34]) :: itm inn (us1.flatten.length + 1) ++ ((us1.flatten.length + ([34] :: inn).flatten.length + 1 - 1, [34]) :: []) ++ (itm us2 (0 + (us1 ++ ([34] :: inn ++ [[34]])).flatten.length) ++ _) = _
    have e1 : ([34] :: inn).flatten.length = 1 + inn.flatten.length := by simp; omega
    have e2 : (us1 ++ ([34] :: inn ++ [[34]])).flatten.length = us1.flatten.length + inn.flatten.length + 2 := by simp; omega
    rw [e1, e2, Nat.zero_add, show us1.flatten.length + (1 + inn.flatten.length) + 1 - 1 = us1.flatten.length + 1 + inn.flatten.length by omega]
    simp
  rw [hit, foldG_app, strip_plain x _ us1 0 fun u hu => (h1 u hu).2]
  show stripOf x (match sstep x (0, .none, []) (us1.flatten.length, [34]) with | .ok b => foldG (sstep x) b _ | .error r => .error r) = _
  rw [sstep_eq, if_pos rfl]
  show stripOf x (foldG (sstep x) (0, some us1.flatten.length, []) (itm inn _ ++ _)) = _
  rw [foldG_app, strip_plain x _ inn _ fun u hu => (hi u hu).2]
  show stripOf x (match sstep x (0, some us1.flatten.length, []) (us1.flatten.length + 1 + inn.flatten.length, [34]) with | .ok b => foldG (sstep x) b _ | .error r => .error r) = _
  rw [sstep_eq, if_pos rfl]
  dsimp only
  have hne0 : (((0 : Nat) : Int) != (us1.flatten.length : Int)) = true := by
    rw [bne_iff_ne]; omega
  rw [if_pos hne0, List.nil_append, foldG_app]
  obtain ⟨o, ho⟩ := strip_lone x (us1.flatten.length + 1 + inn.flatten.length + 1) [subS x 0 us1.flatten.length] hl (us1.flatten.length + inn.flatten.length + 2)
  rw [ho]
  show stripOf x (foldG (sstep x) _ _) = _
  rw [strip_z _ _ hz]
  unfold stripOf
  dsimp only
  have hlen : x.length = us1.flatten.length + inn.flatten.length + 2 + us2.flatten.length + z.length := by
    rw [hx, mkS_len, hfl]; simp; omega
  rw [if_pos (by omega)]
  have ea : subS x 0 us1.flatten.length = ⟨us1.flatten.toArray⟩ := by
    unfold subS
    rw [hx]
    show (⟨(List.take (us1.flatten.length - 0) (List.drop 0 ((us1 ++ ([34] :: inn ++ [[34]]) ++ us2).flatten ++ z).toArray.toList)).toArray⟩ : Str) = _
    rw [List.toList_toArray, List.drop_zero, Nat.sub_zero, hfl, List.append_assoc, List.append_assoc, List.take_left']
    rfl
  have eb : subS x (us1.flatten.length + 1 + inn.flatten.length + 1) x.length = ⟨(us2.flatten ++ z).toArray⟩ := by
    rw [hx, subS_all, hfl]
    congr 2
    have : us1.flatten.length + 1 + inn.flatten.length + 1 = (us1.flatten ++ 34 :: (inn.flatten ++ [34])).length := by simp; omega
    rw [this, List.append_assoc, List.drop_left']
    rfl
  rw [ea, eb]
  unfold joinE mkS
  simp
noncomputable def cu (a : Int) (u : List Nat) : Option Int := if u = [40] then some (a + 1) else if u = [41] then if a - 1 < 0 then .none else some (a - 1) else some a
noncomputable def foldC : Int → List (List Nat) → Option Int
  | a, [] => some a
  | a, u :: us => match cu a u with | some b => foldC b us | .none => .none
noncomputable def okE : Option Int → Bool | some a => a == 0 | .none => false
theorem cstep_eq (a : Int) (i : Nat) (u : List Nat) : (∃ b, cu a u = some b ∧ cstep a (i, u) = .ok b) ∨ (cu a u = .none ∧ cstep a (i, u) = .error (.bool false)) := by
  have h1 := strEq (u := u) (y := Str.ofString "(") (v := [40]) (by rfl)
  have h2 := strEq (u := u) (y := Str.ofString ")") (v := [41]) (by rfl)
  unfold cstep cu
  dsimp only
  rw [h1, h2]
  by_cases h : u = [40]
  · subst h; exact .inl ⟨a + 1, rfl, rfl⟩
  · by_cases h' : u = [41]
    · subst h'
      by_cases h2 : a - 1 < 0
      · exact .inr ⟨by simp [h2], by simp [h2]⟩
      · exact .inl ⟨a - 1, by simp [h2], by simp [h2]⟩
    · exact .inl ⟨a, by simp [h, h'], by simp [h, h']⟩
theorem itm_cons (u : List Nat) (us : List (List Nat)) (i : Nat) : itm (u :: us) i = (i + u.length - 1, u) :: itm us (i + u.length) := rfl
theorem foldG_cons {σ : Type} (step : σ → Nat × List Nat → Except PV σ) (a : σ) (p : Nat × List Nat) (ps : List (Nat × List Nat)) : foldG step a (p :: ps) = match step a p with | .ok b => foldG step b ps | .error r => .error r := rfl
theorem foldC_cons (a : Int) (u : List Nat) (us : List (List Nat)) : foldC a (u :: us) = match cu a u with | some b => foldC b us | .none => .none := rfl
theorem chk_units {z : List Nat} (hz : z = [] ∨ z = [92]) : ∀ (us : List (List Nat)) (a : Int) (i j : Nat), chkOf (foldG cstep a (itm us i ++ zit z j)) = okE (foldC a us)
  | [], a, i, j => by
    rcases hz with rfl | rfl
    · rfl
    · show chkOf (match cstep a (j, [92]) with | .ok b => foldG cstep b [] | .error r => .error r) = _
      rcases cstep_eq a j [92] with ⟨b, h1, h2⟩ | ⟨h1, h2⟩
      · rw [h2]
        have : b = a := by
          unfold cu at h1
          rw [if_neg (by decide), if_neg (by decide)] at h1
          injection h1 with h1; exact h1.symm
        rw [this]; rfl
      · unfold cu at h1
        rw [if_neg (by decide), if_neg (by decide)] at h1
        cases h1
  | u :: us, a, i, j => by
    rw [itm_cons, List.cons_append, foldG_cons, foldC_cons]
    rcases cstep_eq a (i + u.length - 1) u with ⟨b, h1, h2⟩ | ⟨h1, h2⟩
    · rw [h1, h2]; exact chk_units hz us b _ _
    · rw [h1, h2]; rfl
theorem chk_mk {us : List (List Nat)} {z : List Nat} (h : ∀ u ∈ us, isU u) (hz : z = [] ∨ z = [92]) : chkOf (foldG cstep 0 (items (mkS us z))) = okE (foldC 0 us) := by
  rw [items_mk h hz, chk_units hz]
theorem foldC_app : ∀ (us vs : List (List Nat)) (a : Int), foldC a (us ++ vs) = match foldC a us with | some b => foldC b vs | .none => .none
  | [], vs, a => rfl
  | u :: us, vs, a => by
    show (match cu a u with | some b => foldC b (us ++ vs) | .none => .none) = (match (match cu a u with | some b => foldC b us | .none => .none) with | some b => foldC b vs | .none => .none)
    cases cu a u with
    | none => rfl
    | some b => exact foldC_app us vs b
noncomputable def inert (us : List (List Nat)) : Prop := ∀ u ∈ us, u ≠ [40] ∧ u ≠ [41]
theorem foldC_inert : ∀ {us : List (List Nat)} {a : Int}, inert us → foldC a us = some a
  | [], a, _ => rfl
  | u :: us, a, h => by
    show (match cu a u with | some b => foldC b us | .none => .none) = _
    unfold cu
    rw [if_neg (h u (.head _)).1, if_neg (h u (.head _)).2]
    exact foldC_inert fun v hv => h v (.tail _ hv)
noncomputable def opnU (l : List Nat) : List (List Nat) := l.flatMap fun c => [[40], [92, c]]
noncomputable def clsU (l : List Nat) : List (List Nat) := l.flatMap fun c => [[41], [92, c]]
theorem foldC_opn : ∀ (l : List Nat) (a : Int), foldC a (opnU l) = some (a + l.length)
  | [], a => by show some a = _; simp
  | c :: l, a => by
    show foldC (a + 1) (opnU l) = _
    rw [foldC_opn l]; simp only [List.length_cons]; congr 1; omega
theorem foldC_cls : ∀ (l : List Nat) (a : Int), 0 ≤ a → foldC a (clsU l) = if (l.length : Int) ≤ a then some (a - l.length) else .none
  | [], a, h => by show some a = _; simp [h]
  | c :: l, a, h => by
    show (match cu a [41] with | some b => foldC b ([92, c] :: clsU l) | .none => .none) = _
    unfold cu
    rw [if_neg (by decide), if_pos rfl]
    by_cases h2 : a - 1 < 0
    · rw [if_pos h2, if_neg (by simp only [List.length_cons]; omega)]
    · rw [if_neg h2]
      show foldC (a - 1) (clsU l) = _
      rw [foldC_cls l (a - 1) (by omega)]
      simp only [List.length_cons]
      by_cases h3 : (l.length : Int) ≤ a - 1
      · rw [if_pos h3, if_pos (by omega)]; congr 1; omega
      · rw [if_neg h3, if_neg (by omega)]
theorem foldC_close {a : Int} (h : 0 ≤ a) : foldC a [[41]] = if 1 ≤ a then some (a - 1) else .none := by
  show (match cu a [41] with | some b => foldC b [] | .none => .none) = _
  unfold cu
  rw [if_neg (by decide), if_pos rfl]
  by_cases h2 : a - 1 < 0
  · rw [if_pos h2, if_neg (by omega)]
  · rw [if_neg h2, if_pos (by omega)]; rfl
theorem foldC_open {a : Int} : foldC a [[40]] = some (a + 1) := rfl
noncomputable def fwdU (l : List Nat) : List (List Nat) := opnU l ++ [[41]]
noncomputable def bckU (l : List Nat) : List (List Nat) := [40] :: clsU l
theorem fwd_count {l0 l1 l2 pu tu : List (List Nat)} {c0 c1 c2 : List Nat} (h0 : l0 = fwdU c0) (h1 : l1 = fwdU c1) (h2 : l2 = fwdU c2) (hp : inert pu) (ht : inert tu) :
    okE (foldC 0 (l0 ++ pu ++ l1 ++ tu ++ l2)) = (decide (1 ≤ c0.length) && (decide (2 ≤ c0.length + c1.length) && decide (c0.length + c1.length + c2.length = 3))) := by
  subst h0; subst h1; subst h2
  unfold fwdU
  simp only [foldC_app, foldC_opn]
  rw [foldC_close (by omega)]
  by_cases e0 : 1 ≤ c0.length
  · rw [if_pos (by omega)]
    dsimp only
    rw [foldC_inert hp]
    dsimp only
    rw [foldC_close (by omega)]
    by_cases e1 : 2 ≤ c0.length + c1.length
    · rw [if_pos (by omega)]
      dsimp only
      rw [foldC_inert ht]
      dsimp only
      rw [foldC_close (by omega)]
      by_cases e2 : 3 ≤ c0.length + c1.length + c2.length
      · rw [if_pos (by omega)]
        rw [decide_eq_true e0, decide_eq_true e1, Bool.true_and, Bool.true_and]
        show ((0 : Int) + _ - 1 + _ - 1 + _ - 1 == 0) = _
        rw [Bool.eq_iff_iff, beq_iff_eq, decide_eq_true_iff]
        omega
      · rw [if_neg (by omega), decide_eq_false (p := c0.length + c1.length + c2.length = 3) (by omega), Bool.and_false, Bool.and_false]; rfl
    · rw [if_neg (by omega), decide_eq_false e1, Bool.false_and, Bool.and_false]; rfl
  · rw [if_neg (by omega), decide_eq_false e0, Bool.false_and]; rfl
theorem bck_count {l0 l1 l2 pu tu : List (List Nat)} {c0 c1 c2 : List Nat} (h0 : l0 = bckU c0) (h1 : l1 = bckU c1) (h2 : l2 = bckU c2) (hp : inert pu) (ht : inert tu) :
    okE (foldC 0 (l2 ++ pu ++ l1 ++ tu ++ l0)) = (decide (c2.length ≤ 1) && (decide (c1.length + c2.length ≤ 2) && decide (c0.length + c1.length + c2.length = 3))) := by
  subst h0; subst h1; subst h2
  unfold bckU
  have hc : ∀ (l : List Nat), [40] :: clsU l = [[40]] ++ clsU l := fun l => rfl
  simp only [hc, foldC_app, foldC_open]
  rw [foldC_cls _ _ (by omega)]
  by_cases e0 : c2.length ≤ 1
  · rw [if_pos (by omega)]
    dsimp only
    rw [foldC_inert hp]
    dsimp only
    rw [foldC_cls _ _ (by omega)]
    by_cases e1 : c1.length + c2.length ≤ 2
    · rw [if_pos (by omega)]
      dsimp only
      rw [foldC_inert ht]
      dsimp only
      rw [foldC_cls _ _ (by omega)]
      by_cases e2 : c0.length + c1.length + c2.length ≤ 3
      · rw [if_pos (by omega)]
        rw [decide_eq_true e0, decide_eq_true e1, Bool.true_and, Bool.true_and]
        show (_ == 0) = _
        rw [Bool.eq_iff_iff, beq_iff_eq, decide_eq_true_iff]
        omega
      · rw [if_neg (by omega), decide_eq_false (p := c0.length + c1.length + c2.length = 3) (by omega), Bool.and_false, Bool.and_false]; rfl
    · rw [if_neg (by omega), decide_eq_false e1, Bool.false_and, Bool.and_false]; rfl
  · rw [if_neg (by omega), decide_eq_false e0, Bool.false_and]; rfl
set_option maxHeartbeats 1000000
theorem strExt {x y : Str} (h : x.cps.toList = y.cps.toList) : x = y := by
  cases x; cases y
  congr 1
  exact Array.toList_inj.mp h
theorem app_cps (x y : Str) : (x ++ y).cps.toList = x.cps.toList ++ y.cps.toList := by
  show (x.cps ++ y.cps).toList = _
  rw [Array.toList_append]
theorem mkS_cps (us : List (List Nat)) (z : List Nat) : (mkS us z).cps.toList = us.flatten ++ z := by
  show (us.flatten ++ z).toArray.toList = _
  rw [List.toList_toArray]
noncomputable def TP.rowU (P : TP) (row : List Nat) : List (List Nat) := if P.back = true then bckU (row.map P.nm) else fwdU (row.map P.nm)
theorem join_opn (f : Nat → Nat) : ∀ row : List Nat, (joinE (row.map fun i => "(\\" ++ ch1 (f i))).cps.toList = (opnU (row.map f)).flatten
  | [] => rfl
  | i :: row => by
    have ih := join_opn f row
    unfold joinE at ih ⊢
    unfold opnU at ih ⊢
    simp only [List.map_cons, List.flatMap_cons, List.flatten_append, app_cps] at ih ⊢
    rw [← ih]
    rfl
theorem join_cls (f : Nat → Nat) : ∀ row : List Nat, (joinE (row.map fun i => ")\\" ++ ch1 (f i))).cps.toList = (clsU (row.map f)).flatten
  | [] => rfl
  | i :: row => by
    have ih := join_cls f row
    unfold joinE at ih ⊢
    unfold clsU at ih ⊢
    simp only [List.map_cons, List.flatMap_cons, List.flatten_append, app_cps] at ih ⊢
    rw [← ih]
    rfl
theorem part_cps (P : TP) (row : List Nat) : (P.part row).cps.toList = (P.rowU row).flatten := by
  unfold TP.part TP.rowU
  split
  · rw [app_cps, join_cls P.nm row]; rfl
  · rw [app_cps, join_opn P.nm row]; unfold fwdU; rw [List.flatten_append]; rfl
theorem opnU_mem {l : List Nat} {u : List Nat} (h : u ∈ opnU l) : u = [40] ∨ ∃ c ∈ l, u = [92, c] := by
  unfold opnU at h
  obtain ⟨c, hc, h⟩ := List.mem_flatMap.mp h
  simp only [List.mem_cons, List.not_mem_nil, or_false] at h
  rcases h with rfl | rfl
  · exact .inl rfl
  · exact .inr ⟨c, hc, rfl⟩
theorem clsU_mem {l : List Nat} {u : List Nat} (h : u ∈ clsU l) : u = [41] ∨ ∃ c ∈ l, u = [92, c] := by
  unfold clsU at h
  obtain ⟨c, hc, h⟩ := List.mem_flatMap.mp h
  simp only [List.mem_cons, List.not_mem_nil, or_false] at h
  rcases h with rfl | rfl
  · exact .inl rfl
  · exact .inr ⟨c, hc, rfl⟩
theorem rowU_mem {P : TP} {row : List Nat} {u : List Nat} (h : u ∈ P.rowU row) : u = [40] ∨ u = [41] ∨ ∃ i ∈ row, u = [92, P.nm i] := by
  unfold TP.rowU at h
  split at h
  · rcases List.mem_cons.mp h with rfl | h
    · exact .inl rfl
    · rcases clsU_mem h with rfl | ⟨c, hc, rfl⟩
      · exact .inr (.inl rfl)
      · obtain ⟨i, hi, rfl⟩ := List.mem_map.mp hc
        exact .inr (.inr ⟨i, hi, rfl⟩)
  · unfold fwdU at h
    rcases List.mem_append.mp h with h | h
    · rcases opnU_mem h with rfl | ⟨c, hc, rfl⟩
      · exact .inl rfl
      · obtain ⟨i, hi, rfl⟩ := List.mem_map.mp hc
        exact .inr (.inr ⟨i, hi, rfl⟩)
    · cases List.mem_singleton.mp h
      exact .inr (.inl rfl)
theorem rowU_len (P : TP) (row : List Nat) : (P.rowU row).flatten.length = 3 * row.length + 1 := by
  have h1 : ∀ l : List Nat, (opnU l).flatten.length = 3 * l.length := fun l => by
    induction l with
    | nil => rfl
    | cons c l ih => unfold opnU at ih ⊢; simp only [List.flatMap_cons, List.flatten_append, List.length_append, List.length_cons]; rw [ih]; simp; omega
  have h2 : ∀ l : List Nat, (clsU l).flatten.length = 3 * l.length := fun l => by
    induction l with
    | nil => rfl
    | cons c l ih => unfold clsU at ih ⊢; simp only [List.flatMap_cons, List.flatten_append, List.length_append, List.length_cons]; rw [ih]; simp; omega
  unfold TP.rowU
  split
  · unfold bckU; simp only [List.flatten_cons, List.length_append, h2, List.length_map]; simp; omega
  · unfold fwdU; simp only [List.flatten_append, List.length_append, h1, List.length_map]; simp
theorem rowU_ne (P : TP) (row : List Nat) : P.rowU row ≠ [] := fun e => by
  have := rowU_len P row
  rw [e] at this; simp at this
theorem rowU_ok {P : TP} {row : List Nat} {u : List Nat} (h : u ∈ P.rowU row) : isU u ∧ u ≠ [34] := by
  rcases rowU_mem h with rfl | rfl | ⟨i, -, rfl⟩
  · exact ⟨.inl ⟨40, by decide, rfl⟩, by decide⟩
  · exact ⟨.inl ⟨41, by decide, rfl⟩, by decide⟩
  · exact ⟨.inr ⟨_, rfl⟩, by simp⟩
noncomputable def plnP (pu : List (List Nat)) : Prop := (∀ u ∈ pu, u ≠ [34]) ∧ inert pu
noncomputable def qtP (pu : List (List Nat)) : Prop := ∃ inn, pu = [34] :: inn ++ [[34]] ∧ ∀ u ∈ inn, isU u ∧ u ≠ [34]
theorem piece_U {x : Str} (h : x ∈ piecesL) : ∃ pu, x.cps.toList = pu.flatten ∧ (∀ u ∈ pu, isU u) ∧ (plnP pu ∨ qtP pu) ∧ (∀ u ∈ pu, ∀ c ∈ u, c < 128) := by
  have hq : isU [34] := .inl ⟨34, by decide, rfl⟩
  have h0 : isU [40] := .inl ⟨40, by decide, rfl⟩
  have h1 : isU [41] := .inl ⟨41, by decide, rfl⟩
  have he : ∀ c, isU [92, c] := fun c => .inr ⟨c, rfl⟩
  unfold piecesL at h
  simp only [List.mem_cons, List.not_mem_nil, or_false] at h
  rcases h with rfl | rfl | rfl | rfl | rfl | rfl
  · exact ⟨[], by rfl, by simp, .inl ⟨by simp, by unfold inert; simp⟩, by simp⟩
  · exact ⟨[[34], [41], [34]], by rfl, by simp [hq, h1], .inr ⟨[[41]], rfl, by simp [h1]⟩, by simp⟩
  · exact ⟨[[34], [40], [34]], by rfl, by simp [hq, h0], .inr ⟨[[40]], rfl, by simp [h0]⟩, by simp⟩
  · exact ⟨[[92, 41]], by rfl, by simp [he], .inl ⟨by simp, by unfold inert; simp⟩, by simp⟩
  · exact ⟨[[34], [92, 34], [41], [34]], by rfl, by simp [hq, h1, he], .inr ⟨[[92, 34], [41]], rfl, by simp [h1, he]⟩, by simp⟩
  · exact ⟨[[34], [34]], by rfl, by simp [hq], .inr ⟨[], rfl, by simp⟩, by simp⟩
theorem tail_U {x y : Str} (h : (x, y) ∈ tailsL) : ∃ tu z, x.cps.toList = tu.flatten ∧ y.cps.toList = z ∧ (tu = [] ∨ tu = [[34]]) ∧ (z = [] ∨ z = [92]) := by
  unfold tailsL at h
  simp only [List.mem_cons, List.not_mem_nil, or_false, Prod.mk.injEq] at h
  rcases h with ⟨rfl, rfl⟩ | ⟨rfl, rfl⟩ | ⟨rfl, rfl⟩
  · exact ⟨[], [], by rfl, by rfl, .inl rfl, .inl rfl⟩
  · exact ⟨[], [92], by rfl, by rfl, .inl rfl, .inr rfl⟩
  · exact ⟨[[34]], [], by rfl, by rfl, .inr rfl, .inl rfl⟩
theorem all_mk {us : List (List Nat)} {z : List Nat} (h : ∀ u ∈ us, ∀ c ∈ u, c < 128) (hz : z = [] ∨ z = [92]) : (mkS us z).cps.all (· < 128) = true := by
  rw [Array.all_eq_true']
  intro c hc
  have hc' : c ∈ us.flatten ++ z := by
    have := Array.mem_toList_iff.mpr hc
    rwa [mkS_cps] at this
  rw [decide_eq_true_iff]
  rcases List.mem_append.mp hc' with hc' | hc'
  · obtain ⟨u, hu, hcu⟩ := List.mem_flatten.mp hc'
    exact h u hu c hcu
  · rcases hz with rfl | rfl
    · cases hc'
    · cases List.mem_singleton.mp hc'; decide
structure Pc (P : TP) : Prop where
  pc : P.piece ∈ piecesL
  tl : (P.t0, P.t1) ∈ tailsL
theorem text_ok {P : TP} (hP : Ok P) (hc : Pc P) {a : TS} (hr : ∀ r ∈ a.rows, r.2 < 4) (hl : (a.crowd 0).length + (a.crowd 1).length + (a.crowd 2).length + (a.crowd 3).length = 3) :
    chkS (P.text a) = a.told ∧ (P.text a).cps.all (· < 128) = true ∧ (stripS (P.text a)).cps.all (· < 128) = true ∧ (P.text a).length ≤ 500 := by
  obtain ⟨pu, hp1, hp2, hp3, hp4⟩ := piece_U hc.pc
  obtain ⟨tu, z, ht1, ht2, ht3, hz⟩ := tail_U hc.tl
  have hcr : ∀ i j, j ∈ a.crowd i → j < 4 := fun i j h => by
    unfold TS.crowd undI at h
    obtain ⟨r, hr', rfl⟩ := List.mem_map.mp h
    exact hr r (List.mem_filter.mp hr').1
  have hn : ∀ j, j < 4 → P.nm j < 128 := fun j h => by
    have := hP.okn j h
    unfold okc at this
    rw [if_neg (by decide)] at this
    simp only [List.mem_cons, List.not_mem_nil, or_false] at this
    omega
  have hra : ∀ i, ∀ u ∈ P.rowU (a.crowd i), ∀ c ∈ u, c < 128 := fun i u hu c hcu => by
    rcases rowU_mem hu with rfl | rfl | ⟨j, hj, rfl⟩
    · cases List.mem_singleton.mp hcu; decide
    · cases List.mem_singleton.mp hcu; decide
    · simp only [List.mem_cons, List.not_mem_nil, or_false] at hcu
      rcases hcu with rfl | rfl
      · decide
      · exact hn j (hcr i j hj)
  have htu : ∀ u ∈ tu, isU u := fun u hu => by
    rcases ht3 with rfl | rfl
    · cases hu
    · cases List.mem_singleton.mp hu; exact .inl ⟨34, by decide, rfl⟩
  have hta : ∀ u ∈ tu, ∀ c ∈ u, c < 128 := fun u hu c hcu => by
    rcases ht3 with rfl | rfl
    · cases hu
    · cases List.mem_singleton.mp hu; cases List.mem_singleton.mp hcu; decide
  have hti : inert tu := fun u hu => by
    rcases ht3 with rfl | rfl
    · cases hu
    · cases List.mem_singleton.mp hu; decide
  obtain ⟨i0, i1, i2, hi0, hi1, hi2, hpt, hcount⟩ : ∃ i0 i1 i2, i0 ≤ 2 ∧ i1 ≤ 2 ∧ i2 ≤ 2 ∧ P.parts a = [P.part (a.crowd i0), P.part (a.crowd i1), P.part (a.crowd i2)] ∧
      ∀ pu, inert pu → okE (foldC 0 (P.rowU (a.crowd i0) ++ pu ++ P.rowU (a.crowd i1) ++ tu ++ P.rowU (a.crowd i2))) = a.told := by
    unfold TP.parts
    have hto : a.told = (decide (1 ≤ (a.crowd 0).length) && (decide (2 ≤ (a.crowd 0).length + (a.crowd 1).length) && decide ((a.crowd 0).length + (a.crowd 1).length + (a.crowd 2).length = 3))) := by
      unfold TS.told
      rw [List.length_append]
      rw [Bool.eq_iff_iff]
      simp only [Bool.and_eq_true, decide_eq_true_iff, Bool.not_eq_true', List.isEmpty_eq_false_iff, List.isEmpty_iff, ← List.length_eq_zero_iff, ← List.length_pos_iff]
      omega
    cases hb : P.back with
    | true =>
      refine ⟨2, 1, 0, by decide, by decide, by decide, by rw [if_pos rfl], fun pu hpu => ?_⟩
      unfold TP.rowU
      simp only [hb, if_true]
      rw [bck_count rfl rfl rfl hpu hti, hto]
      simp only [List.length_map]
      rw [Bool.eq_iff_iff]
      simp only [Bool.and_eq_true, decide_eq_true_iff]
      omega
    | false =>
      refine ⟨0, 1, 2, by decide, by decide, by decide, by rw [if_neg (by decide)], fun pu hpu => ?_⟩
      unfold TP.rowU
      simp only [hb, Bool.false_eq_true, if_false]
      rw [fwd_count rfl rfl rfl hpu hti, hto]
      simp only [List.length_map]
  have htx : P.text a = mkS (P.rowU (a.crowd i0) ++ pu ++ P.rowU (a.crowd i1) ++ tu ++ P.rowU (a.crowd i2)) z := by
    apply strExt
    unfold TP.text
    rw [hpt]
    show (P.part (a.crowd i0) ++ P.piece ++ P.part (a.crowd i1) ++ P.t0 ++ P.part (a.crowd i2) ++ P.t1).cps.toList = _
    simp only [app_cps, part_cps, hp1, ht1, ht2, mkS_cps, List.flatten_append]
  have hU : ∀ u ∈ P.rowU (a.crowd i0) ++ pu ++ P.rowU (a.crowd i1) ++ tu ++ P.rowU (a.crowd i2), isU u := fun u hu => by
    simp only [List.mem_append] at hu
    rcases hu with (((hu | hu) | hu) | hu) | hu
    · exact (rowU_ok hu).1
    · exact hp2 u hu
    · exact (rowU_ok hu).1
    · exact htu u hu
    · exact (rowU_ok hu).1
  have hA : ∀ u ∈ P.rowU (a.crowd i0) ++ pu ++ P.rowU (a.crowd i1) ++ tu ++ P.rowU (a.crowd i2), ∀ c ∈ u, c < 128 := fun u hu => by
    simp only [List.mem_append] at hu
    rcases hu with (((hu | hu) | hu) | hu) | hu
    · exact hra _ u hu
    · exact hp4 u hu
    · exact hra _ u hu
    · exact hta u hu
    · exact hra _ u hu
  have hlone : ∀ us, (∀ u ∈ us, u ≠ [34]) → ∀ vs, (∀ u ∈ vs, u ≠ [34]) → lone (us ++ tu ++ vs) := fun us h1 vs h2 => by
    rcases ht3 with rfl | rfl
    · exact ⟨us ++ vs, [], by simp, fun u hu => (List.mem_append.mp hu).elim (h1 u) (h2 u), .inl rfl⟩
    · exact ⟨us, [34] :: vs, by simp, h1, .inr ⟨vs, rfl, h2⟩⟩
  have hsz : (P.text a).length ≤ 500 := by
    rw [htx, mkS_len]
    simp only [List.flatten_append, List.length_append, rowU_len]
    have h3 : pu.flatten.length ≤ 20 := by rw [← hp1]; exact (by simpa [Str.length] using hP.piece)
    have h4 : tu.flatten.length ≤ 20 := by rw [← ht1]; exact (by simpa [Str.length] using hP.t0)
    have h5 : z.length ≤ 20 := by rw [← ht2]; exact (by simpa [Str.length] using hP.t1)
    have hparts : ∀ i, i ≤ 2 → (a.crowd i).length ≤ 3 := fun i hi => by
      have : i = 0 ∨ i = 1 ∨ i = 2 := by omega
      rcases this with rfl | rfl | rfl <;> omega
    have q0 := hparts i0 hi0
    have q1 := hparts i1 hi1
    have q2 := hparts i2 hi2
    omega
  obtain ⟨us', hs1, hs2, hs3, hs4⟩ : ∃ us', stripS (P.text a) = mkS us' z ∧ (∀ u ∈ us', isU u) ∧ (∀ u ∈ us', ∀ c ∈ u, c < 128) ∧ okE (foldC 0 us') = a.told := by
    rw [htx]
    rcases hp3 with hp3 | ⟨inn, hpe, hinn⟩
    · refine ⟨_, strip_none hU ?_ hz ?_, hU, hA, hcount pu hp3.2⟩
      · refine hlone _ (fun u hu => ?_) _ fun u hu => (rowU_ok hu).2
        simp only [List.mem_append] at hu
        rcases hu with (hu | hu) | hu
        · exact (rowU_ok hu).2
        · exact hp3.1 u hu
        · exact (rowU_ok hu).2
      · intro e
        have := congrArg List.length e
        simp only [List.length_append, List.length_nil] at this
        exact rowU_ne P (a.crowd i0) (List.length_eq_zero_iff.mp (by omega))
    · have hU2 : ∀ u ∈ P.rowU (a.crowd i1) ++ tu ++ P.rowU (a.crowd i2), isU u := fun u hu => hU u (by
        simp only [List.mem_append] at hu ⊢
        rcases hu with (hu | hu) | hu
        · exact .inl (.inl (.inr hu))
        · exact .inl (.inr hu)
        · exact .inr hu)
      have e1 : P.rowU (a.crowd i0) ++ pu ++ P.rowU (a.crowd i1) ++ tu ++ P.rowU (a.crowd i2) = P.rowU (a.crowd i0) ++ ([34] :: inn ++ [[34]]) ++ (P.rowU (a.crowd i1) ++ tu ++ P.rowU (a.crowd i2)) := by
        rw [← hpe]; simp only [List.append_assoc]
      have hsub : ∀ u ∈ P.rowU (a.crowd i0) ++ (P.rowU (a.crowd i1) ++ tu ++ P.rowU (a.crowd i2)), u ∈ P.rowU (a.crowd i0) ++ pu ++ P.rowU (a.crowd i1) ++ tu ++ P.rowU (a.crowd i2) := fun u hu => by
        simp only [List.mem_append] at hu ⊢
        rcases hu with hu | (hu | hu) | hu
        · exact .inl (.inl (.inl (.inl hu)))
        · exact .inl (.inl (.inr hu))
        · exact .inl (.inr hu)
        · exact .inr hu
      refine ⟨P.rowU (a.crowd i0) ++ (P.rowU (a.crowd i1) ++ tu ++ P.rowU (a.crowd i2)), ?_, fun u hu => hU u (hsub u hu), fun u hu => hA u (hsub u hu), ?_⟩
      · rw [e1]
        exact strip_quoted (fun u hu => rowU_ok hu) hinn hU2 (hlone _ (fun u hu => (rowU_ok hu).2) _ fun u hu => (rowU_ok hu).2) hz (rowU_ne P _) (fun e => rowU_ne P (a.crowd i2) (List.append_eq_nil_iff.mp e).2)
      · have := hcount [] (fun u hu => nomatch hu)
        rw [List.append_nil] at this
        rw [← this]
        congr 2
        simp only [List.append_assoc]
  refine ⟨?_, ?_, ?_, hsz⟩
  · unfold chkS
    rw [hs1, chk_mk hs2 hz, hs4]
  · rw [htx]; exact all_mk hA hz
  · rw [hs1]; exact all_mk hs3 hz
set_option maxHeartbeats 1000000
noncomputable def nls : List Nat → Int
  | [] => 0
  | c :: l => nlC c + nls l
theorem nls_app : ∀ a b : List Nat, nls (a ++ b) = nls a + nls b
  | [], b => by show nls b = 0 + nls b; omega
  | c :: a, b => by
    show nlC c + nls (a ++ b) = nlC c + nls a + nls b
    rw [nls_app a b]; omega
theorem nls_count : ∀ l : List Nat, nls l = ((l.count 10 : Nat) : Int)
  | [] => rfl
  | c :: l => by
    unfold nls
    rw [nls_count l, List.count_cons]
    unfold nlC
    by_cases h : c = 10
    · subst h; simp; omega
    · rw [if_neg h, if_neg (by simpa using h)]; omega
theorem occ_count (x : Str) (c : Nat) : ∀ (k i : Nat) (st : Array Nat × Nat), i + k = x.length + 1 → st.2 ≤ i → st.1.size ≤ i →
    (forIn (m := Id) (List.range' i k) st (PySem.StrLaws.occBody x ⟨#[c]⟩ x.length (x.length + 1))).run.fst.size = st.1.size + (x.cps.toList.drop i).count c
  | 0, i, st, h, _, _ => by
    have hx : x.cps.toList.length = x.length := by simp [Str.length]
    rw [List.drop_eq_nil_of_le (by omega)]; rfl
  | k + 1, i, st, h, h1, h2 => by
    have hx : x.cps.toList.length = x.length := by simp [Str.length]
    rw [List.range'_succ, List.forIn_cons]
    have hone := PySem.StrLaws.subAt_one x c i
    unfold PySem.StrLaws.occBody
    split
    · rename_i hc
      have hg := hone.mp ⟨hc.1.2, hc.2⟩
      obtain ⟨hlt, hge⟩ := List.getElem?_eq_some_iff.mp hg
      rw [List.drop_eq_getElem_cons hlt, hge, List.count_cons_self]
      refine (occ_count x c k (i + 1) _ (by omega) ?_ ?_).trans ?_
      · show i + 1 ≤ i + 1; omega
      · simp only [Array.size_push]; omega
      · simp only [Array.size_push]; omega
    · rename_i hc
      have hne : x.cps.toList[i]? ≠ some c := fun q => hc ⟨⟨⟨by omega, h1⟩, (hone.mpr q).1⟩, (hone.mpr q).2⟩
      refine (occ_count x c k (i + 1) st (by omega) (by omega) (by omega)).trans ?_
      by_cases hlt : i < x.cps.toList.length
      · rw [List.drop_eq_getElem_cons hlt, List.count_cons, if_neg]
        · omega
        · rw [List.getElem?_eq_getElem hlt] at hne
          simpa using hne
      · rw [List.drop_eq_nil_of_le (by omega), List.drop_eq_nil_of_le (by omega)]
theorem count_nl (x : Str) : Txt.count x "\n" = nls x.cps.toList := by
  rw [nls_count]
  have e : (Str.ofString "\n" : Str) = ⟨#[10]⟩ := by rfl
  unfold Txt.count
  rw [e, PySem.StrLaws.occ_eq, Array.length_toList, occ_count x 10 _ 0 _ (by omega) (by show 0 ≤ 0; omega) (by show 0 ≤ 0; omega)]
  simp
theorem lex_white {k c : Nat} {r : List Nat} {ln : Int} (h : isWs c = true) : lexG (k + 1) (c :: r) ln = lexG k r (ln + nlC c) := by
  rw [lexG_cons, if_pos h]
theorem lex_whites : ∀ (l : List Nat) (k : Nat) (r : List Nat) (ln : Int), (∀ c ∈ l, isWs c = true) → lexG (k + l.length) (l ++ r) ln = lexG k r (ln + nls l)
  | [], k, r, ln, _ => by show lexG k r ln = lexG k r (ln + 0); rw [Int.add_zero]
  | c :: l, k, r, ln, h => by
    show lexG (k + l.length + 1) (c :: (l ++ r)) ln = _
    rw [lex_white (h c (.head _)), lex_whites l k r _ fun d hd => h d (.tail _ hd)]
    show _ = lexG k r (ln + (nlC c + nls l))
    rw [Int.add_assoc]
theorem lex_bare {k c h0 : Nat} {r : List Nat} {ln : Int} (h : isWs h0 = true) : lexG (k + 2) (92 :: c :: h0 :: r) ln = ([c], r, ln + nls [92, c, h0]) := by
  rw [lexG_cons, if_neg (by decide), if_neg (by decide)]
  have e : escd 92 (c :: h0 :: r) (ln + nlC 92) = ([c], h0 :: r, ln + nlC 92 + nlC c) := rfl
  rw [e]
  dsimp only
  rw [lexR_cons, if_pos h]
  dsimp only
  unfold nls nls nls nls
  congr 2; omega
theorem lex_raw {k c h0 : Nat} {r : List Nat} {ln : Int} (h1 : isWs c = false) (h2 : c ≠ 34) (h3 : c ≠ 92) (h : isWs h0 = true) : lexG (k + 2) (c :: h0 :: r) ln = ([c], r, ln + nls [c, h0]) := by
  rw [lexG_cons, if_neg (by rw [h1]; decide), if_neg (by simpa using h2)]
  have e : escd c (h0 :: r) (ln + nlC c) = ([c], h0 :: r, ln + nlC c) := by unfold escd; rw [if_neg h3]
  rw [e]
  dsimp only
  rw [lexR_cons, if_pos h]
  dsimp only
  unfold nls nls nls
  congr 2; omega
theorem lex_quoted {k c : Nat} {r : List Nat} {ln : Int} (h2 : c ≠ 34) (h3 : c ≠ 92) : lexG (k + 3) (34 :: c :: 34 :: r) ln = ([c], r, ln + nls [34, c, 34]) := by
  rw [lexG_cons, if_neg (by decide), if_pos (by decide), lexR_cons, if_neg (by simpa using h2)]
  have e : ∀ z, escd c (34 :: r) z = ([c], 34 :: r, z) := fun z => by unfold escd; rw [if_neg h3]
  rw [e]
  dsimp only
  rw [lexR_cons, if_pos (by decide)]
  dsimp only
  unfold nls nls nls nls
  congr 2; omega
theorem lex_qbare {k c : Nat} {r : List Nat} {ln : Int} : lexG (k + 3) (34 :: 92 :: c :: 34 :: r) ln = ([c], r, ln + nls [34, 92, c, 34]) := by
  rw [lexG_cons, if_neg (by decide), if_pos (by decide), lexR_cons, if_neg (by decide)]
  have e : ∀ z, escd 92 (c :: 34 :: r) z = ([c], 34 :: r, z + nlC c) := fun z => rfl
  rw [e]
  dsimp only
  rw [lexR_cons, if_pos (by decide)]
  dsimp only
  unfold nls nls nls nls nls
  congr 2; omega
theorem spell_cases {c j : Nat} (hj : j < 4) (hc : c ≠ 10) (hc' : c ≠ 13) : (spellW c j).cps.toList = [92, c] ∨ ((spellW c j).cps.toList = [34, 92, c, 34]) ∨ ((spellW c j).cps.toList = [34, c, 34] ∧ c ≠ 34 ∧ c ≠ 92) ∨ ((spellW c j).cps.toList = [c] ∧ isWs c = false ∧ c ≠ 34 ∧ c ≠ 92) := by
  have hq : ∀ w, (quotedS c w).cps.toList = [34, 92, c, 34] ∨ ((quotedS c w).cps.toList = [34, c, 34] ∧ c ≠ 34 ∧ c ≠ 92) := fun w => by
    unfold quotedS
    split
    · rename_i h
      rw [Bool.and_eq_true, Bool.not_eq_true', decide_eq_false_iff_not] at h
      have : c ∉ [34, 92] := h.2
      simp only [List.mem_cons, List.not_mem_nil, or_false, not_or] at this
      exact .inr ⟨rfl, this⟩
    · exact .inl rfl
  have hl : (lastS c).cps.toList = [92, c] ∨ ((lastS c).cps.toList = [c] ∧ isWs c = false ∧ c ≠ 34 ∧ c ≠ 92) := by
    unfold lastS
    split
    · rename_i h
      rw [Bool.not_eq_true', decide_eq_false_iff_not] at h
      have h' : c ∉ [9, 32, 34, 92] := h
      simp only [List.mem_cons, List.not_mem_nil, or_false, not_or] at h'
      refine .inr ⟨rfl, ?_, h'.2.2.1, h'.2.2.2⟩
      unfold isWs
      rw [decide_eq_false_iff_not]
      show c ∉ [10, 9, 13, 32]
      simp only [List.mem_cons, List.not_mem_nil, or_false, not_or]
      exact ⟨hc, h'.1, hc', h'.2.1⟩
    · exact .inl rfl
  unfold spellW spelledL
  have : j = 0 ∨ j = 1 ∨ j = 2 ∨ j = 3 := by omega
  rcases this with rfl | rfl | rfl | rfl
  · exact .inl rfl
  · rcases hq ((1 : Nat) : Int) with h | h
    · exact .inr (.inl h)
    · exact .inr (.inr (.inl h))
  · rcases hq ((2 : Nat) : Int) with h | h
    · exact .inr (.inl h)
    · exact .inr (.inr (.inl h))
  · rcases hl with h | h
    · exact .inl h
    · exact .inr (.inr (.inr h))
theorem lex_name {c j : Nat} (hj : j < 4) (hc : c ≠ 10) (hc' : c ≠ 13) {l h R : List Nat} {ln : Int} (hl : ∀ d ∈ l, isWs d = true) (hll : l.length ≤ 2) (hh : ∀ d ∈ h, isWs d = true) (hhl : 1 ≤ h.length ∧ h.length ≤ 2) :
    ∃ l' ln', lexG 500 (l ++ ((spellW c j).cps.toList ++ (h ++ R))) ln = ([c], l' ++ R, ln') ∧ (∀ d ∈ l', isWs d = true) ∧ l'.length ≤ 2 ∧ ln' + nls l' = ln + nls l + nls h := by
  obtain ⟨k, hk⟩ : ∃ k, 500 = k + 3 + l.length := ⟨497 - l.length, by omega⟩
  have e : lexG 500 (l ++ ((spellW c j).cps.toList ++ (h ++ R))) ln = lexG (k + 3) ((spellW c j).cps.toList ++ (h ++ R)) (ln + nls l) := by
    rw [hk]; exact lex_whites l (k + 3) _ ln hl
  rw [e]
  have hz : nlC c = 0 := by unfold nlC; rw [if_neg hc]
  match h, hh, hhl with
  | h0 :: h', hh, hhl =>
    have hh0 := hh h0 (.head _)
    have hh' : ∀ d ∈ h', isWs d = true := fun d hd => hh d (.tail _ hd)
    rcases spell_cases (c := c) hj hc hc' with q | q | ⟨q, q1, q2⟩ | ⟨q, q1, q2, q3⟩
    · rw [q]
      exact ⟨h', _, lex_bare (k := k + 1) hh0, hh', by simp only [List.length_cons] at hhl; omega, by
        simp only [nls, hz]
        have : nlC 92 = 0 := rfl
        omega⟩
    · rw [q]
      exact ⟨h0 :: h', _, lex_qbare (k := k), hh, hhl.2, by
        simp only [nls, hz]
        have : nlC 92 = 0 := rfl
        have : nlC 34 = 0 := rfl
        omega⟩
    · rw [q]
      exact ⟨h0 :: h', _, lex_quoted (k := k) q1 q2, hh, hhl.2, by
        simp only [nls, hz]
        have : nlC 34 = 0 := rfl
        omega⟩
    · rw [q]
      exact ⟨h', _, lex_raw (k := k + 1) q1 q2 q3 hh0, hh', by simp only [List.length_cons] at hhl; omega, by
        simp only [nls, hz]
        omega⟩
theorem lex_last {y : Str} (hy : y ∈ lastsL) {l : List Nat} {ln : Int} (hl : ∀ d ∈ l, isWs d = true) (hll : l.length ≤ 2) :
    ∃ r ln', lexG 500 (l ++ y.cps.toList) ln = ([122], r, ln') ∧ r.length ≤ 3 ∧ (lexG 500 r ln').1 = [] ∧ (lexG 500 r ln').2.2 = ln + nls l + nls y.cps.toList := by
  obtain ⟨k, hk⟩ : ∃ k, 500 = k + 5 + l.length := ⟨495 - l.length, by omega⟩
  have e : lexG 500 (l ++ y.cps.toList) ln = lexG (k + 5) y.cps.toList (ln + nls l) := by
    rw [hk]; exact lex_whites l (k + 5) _ ln hl
  rw [e]
  unfold lastsL at hy
  simp only [List.mem_cons, List.not_mem_nil, or_false] at hy
  rcases hy with rfl | rfl | rfl | rfl
  · have q : (Str.ofString "z" : Str).cps.toList = [122] := by rfl
    rw [q]
    exact ⟨[], ln + nls l + nlC 122, rfl, by decide, rfl, by
      show ln + nls l + nlC 122 = _
      simp only [nls]; omega⟩
  · have q : (Str.ofString "z\\" : Str).cps.toList = [122, 92] := by rfl
    rw [q]
    exact ⟨[], ln + nls l + nlC 122 + nlC 92 + nl1 [], rfl, by decide, rfl, by
      show ln + nls l + nlC 122 + nlC 92 + nl1 [] = _
      have : nl1 [] = 0 := rfl
      simp only [nls]; omega⟩
  · have q : (Str.ofString "\"z" : Str).cps.toList = [34, 122] := by rfl
    rw [q]
    exact ⟨[], ln + nls l + nlC 34 + nlC 122, rfl, by decide, rfl, by
      show ln + nls l + nlC 34 + nlC 122 = _
      simp only [nls]; omega⟩
  · have q : (Str.ofString "z \n" : Str).cps.toList = [122, 32, 10] := by rfl
    rw [q]
    exact ⟨[10], ln + nls l + nlC 122 + nlC 32, rfl, by decide, rfl, by
      show ln + nls l + nlC 122 + nlC 32 + nlC 10 = _
      simp only [nls]; omega⟩
set_option maxHeartbeats 1000000
noncomputable def shL (v l : List Int) : List Int := List.zipWith (· + ·) l v
noncomputable def vL (c t0 t1 t2 t3 : Int) : List Int := [c + 4 * t0, c + 4 * t1, c + 4 * t2, c + 4 * t3]
noncomputable def TS.sh (v : List Int) (a : TS) : TS := ⟨a.rows, a.pb, shL v a.left, a.taken, a.wrongs⟩
noncomputable def four (l : List Int) : Prop := ∃ x0 x1 x2 x3, l = [x0, x1, x2, x3]
section
variable {c t0 t1 t2 t3 : Int}
theorem shL_sum (hv : c + t0 + t1 + t2 + t3 = 0) {l : List Int} (hl : four l) : (shL (vL c t0 t1 t2 t3) l).sum = l.sum := by
  obtain ⟨x0, x1, x2, x3, rfl⟩ := hl
  simp only [shL, vL, List.zipWith_cons_cons, List.zipWith_nil_right, List.sum_cons, List.sum_nil]
  omega
theorem set_four {l : List Int} (hl : four l) (i : Nat) (x : Int) : four (l.set i x) := by
  obtain ⟨x0, x1, x2, x3, rfl⟩ := hl
  match i with
  | 0 => exact ⟨_, _, _, _, rfl⟩
  | 1 => exact ⟨_, _, _, _, rfl⟩
  | 2 => exact ⟨_, _, _, _, rfl⟩
  | 3 => exact ⟨_, _, _, _, rfl⟩
  | i + 4 => exact ⟨_, _, _, _, rfl⟩
theorem shL_set {l : List Int} (hl : four l) (i : Nat) : (shL (vL c t0 t1 t2 t3) l).set i ((shL (vL c t0 t1 t2 t3) l).getD i 0 - 1) = shL (vL c t0 t1 t2 t3) (l.set i (l.getD i 0 - 1)) := by
  obtain ⟨x0, x1, x2, x3, rfl⟩ := hl
  have e : ∀ x y : Int, x + y - 1 = x - 1 + y := fun x y => by omega
  match i with
  | 0 => show [_, _, _, _] = [_, _, _, _]; exact congrArg (fun z => [z, _, _, _]) (e _ _)
  | 1 => show [_, _, _, _] = [_, _, _, _]; exact congrArg (fun z => [_, z, _, _]) (e _ _)
  | 2 => show [_, _, _, _] = [_, _, _, _]; exact congrArg (fun z => [_, _, z, _]) (e _ _)
  | 3 => show [_, _, _, _] = [_, _, _, _]; exact congrArg (fun z => [_, _, _, z]) (e _ _)
  | i + 4 => rfl
theorem step_sh (hv : c + t0 + t1 + t2 + t3 = 0) {a : TS} (hl : four a.left) : stepT (a.sh (vL c t0 t1 t2 t3)) = ((stepT a).1.sh (vL c t0 t1 t2 t3), (stepT a).2) ∧ four (stepT a).1.left := by
  have hst : (a.sh (vL c t0 t1 t2 t3)).stops = a.stops := by
    unfold TS.stops
    have h1 : (a.sh (vL c t0 t1 t2 t3)).told = a.told := rfl
    have h2 : (a.sh (vL c t0 t1 t2 t3)).left.sum = a.left.sum := shL_sum hv hl
    have h3 : ∀ i, (a.sh (vL c t0 t1 t2 t3)).crowd i = a.crowd i := fun i => rfl
    rw [h1, h2, h3, h3]
  unfold stepT
  rw [hst]
  by_cases h1 : a.stops = true
  · rw [if_pos h1, if_pos h1]
    exact ⟨rfl, hl⟩
  · rw [if_neg h1, if_neg h1]
    have hto : (a.sh (vL c t0 t1 t2 t3)).told = a.told := rfl
    rw [hto]
    by_cases h2 : a.told = true
    · rw [if_pos h2, if_pos h2]
      refine ⟨?_, set_four hl _ _⟩
      have := shL_set (c := c) (t0 := t0) (t1 := t1) (t2 := t2) (t3 := t3) hl a.hd0
      show (TS.mk _ _ ((shL (vL c t0 t1 t2 t3) a.left).set a.hd0 ((shL (vL c t0 t1 t2 t3) a.left).getD a.hd0 0 - 1)) _ _, false) = _
      rw [this]; rfl
    · rw [if_neg h2, if_neg h2]
      exact ⟨rfl, hl⟩
theorem run_sh (hv : c + t0 + t1 + t2 + t3 = 0) : ∀ (k : Nat) {a : TS}, four a.left → runB stepT k (a.sh (vL c t0 t1 t2 t3)) = (runB stepT k a).sh (vL c t0 t1 t2 t3) ∧ four (runB stepT k a).left
  | 0, a, hl => ⟨rfl, hl⟩
  | k + 1, a, hl => by
    obtain ⟨h1, h2⟩ := step_sh hv hl
    obtain ⟨i1, i2⟩ := run_sh hv k h2
    show (if (stepT (a.sh _)).2 = true then (stepT (a.sh _)).1 else runB stepT k (stepT (a.sh _)).1) = TS.sh _ (if (stepT a).2 = true then (stepT a).1 else runB stepT k (stepT a).1) ∧ four (if (stepT a).2 = true then (stepT a).1 else runB stepT k (stepT a).1).left
    rw [h1]
    by_cases h : (stepT a).2 = true
    · simp only [h, if_true]; exact ⟨trivial, h2⟩
    · simp only [h, if_false]; exact ⟨i1, i2⟩
theorem reach_sh (hv : c + t0 + t1 + t2 + t3 = 0) {a₀ : TS} (hl : four a₀.left) : ∀ (i : Nat) (a : TS), Reach (a₀.sh (vL c t0 t1 t2 t3)) i a → ∃ b, Reach a₀ i b ∧ a = b.sh (vL c t0 t1 t2 t3) ∧ four b.left
  | 0, a, h => ⟨a₀, rfl, h, hl⟩
  | i + 1, a, h => by
    obtain ⟨b, hb, h1, h2⟩ := h
    obtain ⟨b', r, e, f⟩ := reach_sh hv hl i b hb
    obtain ⟨s1, s2⟩ := step_sh hv f
    subst e
    rw [s1] at h1 h2
    exact ⟨(stepT b').1, ⟨b', r, h1, rfl⟩, h2, s2⟩
theorem fmod4_eq (x : Int) : Int.fmod x 4 = x % 4 := Int.fmod_eq_emod_of_nonneg x (by decide)
theorem getD_sh {l : List Int} (hl : four l) (k : Nat) (hk : k < 4) : ∃ t, (shL (vL c t0 t1 t2 t3) l).getD k 0 = l.getD k 0 + (c + 4 * t) := by
  obtain ⟨x0, x1, x2, x3, rfl⟩ := hl
  have : k = 0 ∨ k = 1 ∨ k = 2 ∨ k = 3 := by omega
  rcases this with rfl | rfl | rfl | rfl
  · exact ⟨t0, rfl⟩
  · exact ⟨t1, rfl⟩
  · exact ⟨t2, rfl⟩
  · exact ⟨t3, rfl⟩
theorem letter_sh {P P' : TP} (hb : P.bank = P'.bank) (hb4 : P'.bank < 4) {l : List Int} (hl : four l) (k : Nat) (hk : k < 4) : P.letter (shL (vL c t0 t1 t2 t3) l) k = P'.letter l k := by
  unfold TP.letter
  rw [hb]
  obtain ⟨t, e1⟩ := getD_sh (c := c) (t0 := t0) (t1 := t1) (t2 := t2) (t3 := t3) hl k hk
  obtain ⟨u, e2⟩ := getD_sh (c := c) (t0 := t0) (t1 := t1) (t2 := t2) (t3 := t3) hl P'.bank hb4
  rw [e1, e2, fmod4_eq, fmod4_eq]
  congr 2
  omega
theorem minI_lt {L : List Int} (h : L.length = 4) (s : Int) : s < minI L ↔ ∀ j, j < 4 → s < L.getD j 0 := by
  unfold minI
  rw [h]
  constructor
  · intro q j hj
    have := argBest_min (fun i => L.getD i 0) 3 j (by omega)
    exact Int.lt_of_lt_of_le q this
  · intro q
    have := argBest_le (fun i j => decide (L.getD i 0 < L.getD j 0)) 3
    exact q _ (by show argBest _ 3 < 4; omega)
theorem hop_iff (ns : List Int) : hopelessI ns = true ↔ ∀ m, m < 4 → ns.sum < shiftS ns m := by
  unfold hopelessI
  rw [decide_eq_true_iff, minI_lt (by simp)]
  constructor
  · intro h m hm
    have := h m hm
    have e : ((List.range 4).map fun m => shiftS ns m).getD m 0 = shiftS ns m := by
      have : m = 0 ∨ m = 1 ∨ m = 2 ∨ m = 3 := by omega
      rcases this with rfl | rfl | rfl | rfl <;> rfl
    rwa [e] at this
  · intro h m hm
    have e : ((List.range 4).map fun m => shiftS ns m).getD m 0 = shiftS ns m := by
      have : m = 0 ∨ m = 1 ∨ m = 2 ∨ m = 3 := by omega
      rcases this with rfl | rfl | rfl | rfl <;> rfl
    rw [e]; exact h m hm
theorem shift_sh {l : List Int} (hl : four l) (m m' : Nat) (h : ((m : Int) + c) % 4 = (m' : Int) % 4) : shiftS (shL (vL c t0 t1 t2 t3) l) m = shiftS l m' := by
  obtain ⟨x0, x1, x2, x3, rfl⟩ := hl
  unfold shiftS
  simp only [shL, vL, List.zipWith_cons_cons, List.zipWith_nil_right, List.map_cons, List.map_nil, List.sum_cons, List.sum_nil, fmod4_eq]
  have e : ∀ x t : Int, (x + (c + 4 * t) + (m : Int)) % 4 = (x + (m' : Int)) % 4 := fun x t => by omega
  rw [e, e, e, e]
theorem hop_sh (hv : c + t0 + t1 + t2 + t3 = 0) {l : List Int} (hl : four l) : hopelessI (shL (vL c t0 t1 t2 t3) l) = hopelessI l := by
  rw [Bool.eq_iff_iff, hop_iff, hop_iff, shL_sum hv hl]
  constructor
  · intro h m hm
    have := h ((((m : Int) - c) % 4).toNat) (by omega)
    rwa [shift_sh hl _ m (by omega)] at this
  · intro h m hm
    rw [shift_sh hl m ((((m : Int) + c) % 4).toNat) (by omega)]
    exact h _ (by omega)
theorem good_sh (hv : c + t0 + t1 + t2 + t3 = 0) {P P' : TP} (hb : P.bank = P'.bank) (hb4 : P'.bank < 4) {a : TS} (hl : four a.left) : P.good (a.sh (vL c t0 t1 t2 t3)) = P'.good a := by
  unfold TP.good
  have h1 : hopelessI (a.sh (vL c t0 t1 t2 t3)).left = hopelessI a.left := hop_sh hv hl
  have h2 : ∀ k, k < 4 → P.bad (a.sh (vL c t0 t1 t2 t3)) k = P'.bad a k := fun k hk => by
    unfold TP.bad
    have := letter_sh (c := c) (t0 := t0) (t1 := t1) (t2 := t2) (t3 := t3) hb hb4 hl k hk
    show ((k != P.bank) && !((undI a.rows (P.letter (shL (vL c t0 t1 t2 t3) a.left) k)).contains k)) = _
    rw [this, hb]
  have h3 : (List.range 4).any (P.bad (a.sh (vL c t0 t1 t2 t3))) = (List.range 4).any (P'.bad a) := by
    show ([0, 1, 2, 3].any _) = ([0, 1, 2, 3].any _)
    simp only [List.any_cons, List.any_nil, h2 0 (by decide), h2 1 (by decide), h2 2 (by decide), h2 3 (by decide)]
  rw [h1, h3]; rfl
theorem rows0_sh {P P' : TP} (hb : P.bank = P'.bank) (hb4 : P'.bank < 4) (hl : four P'.ps) (hp : P.ps = shL (vL c t0 t1 t2 t3) P'.ps) : P.rows0 4 = P'.rows0 4 := by
  unfold TP.rows0
  rw [hb, hp]
  refine List.map_congr_left fun k hk => ?_
  rw [letter_sh hb hb4 hl k (List.mem_range.mp (List.mem_filter.mp hk).1)]
theorem start_sh {P P' : TP} (hb : P.bank = P'.bank) (hb4 : P'.bank < 4) (hl : four P'.ps) (hp : P.ps = shL (vL c t0 t1 t2 t3) P'.ps) : P.start = P'.start.sh (vL c t0 t1 t2 t3) := by
  unfold TP.start
  rw [rows0_sh hb hb4 hl hp, hp]; rfl
theorem N_sh (hv : c + t0 + t1 + t2 + t3 = 0) {P P' : TP} (hl : four P'.ps) (hp : P.ps = shL (vL c t0 t1 t2 t3) P'.ps) : P.N = P'.N := by
  unfold TP.N
  rw [hp, shL_sum hv hl]
theorem fin_sh (hv : c + t0 + t1 + t2 + t3 = 0) {P P' : TP} (hb : P.bank = P'.bank) (hb4 : P'.bank < 4) (hl : four P'.ps) (hp : P.ps = shL (vL c t0 t1 t2 t3) P'.ps) : P.fin = P'.fin.sh (vL c t0 t1 t2 t3) ∧ four P'.fin.left := by
  unfold TP.fin
  rw [N_sh hv hl hp, start_sh hb hb4 hl hp]
  exact run_sh hv _ hl
noncomputable def okcB (x : Nat) : Bool := [97, 98, 99, 100, 65, 66, 67, 68].contains x
noncomputable def rowsOk (rows : List (Nat × Nat)) : Bool := rows.length == 3 && rows.all fun r => okcB r.1 && r.2.blt 4
noncomputable def leftOk (l : List Int) : Bool := l.all fun x => decide (-100 ≤ x) && decide (x ≤ 100)
noncomputable def stOk (a : TS) : Bool := rowsOk a.rows && (a.pb.length == 4 && a.pb.all okcB) && leftOk a.left && a.wrongs.ble 100 && (a.crowd 0).length + (a.crowd 1).length + (a.crowd 2).length + (a.crowd 3).length == 3
noncomputable def runOk : Nat → TS → Bool
  | 0, _ => true
  | k + 1, a => stOk a && ((stepT a).2 || runOk k (stepT a).1)
theorem run_ok {N : Nat} {a₀ : TS} (h : runOk N a₀ = true) : ∀ (i : Nat) (a : TS), i ≤ N → Reach a₀ i a → runOk (N - i) a = true
  | 0, a, _, hr => by
    have e : a = a₀ := hr
    rw [e]; exact h
  | i + 1, a, hi, hr => by
    obtain ⟨b, hb, h1, rfl⟩ := hr
    have := run_ok h i b (by omega) hb
    rw [show N - i = (N - (i + 1)) + 1 by omega] at this
    unfold runOk at this
    rw [Bool.and_eq_true, h1, Bool.false_or] at this
    exact this.2
theorem reach_ok {N : Nat} {a₀ : TS} (h : runOk N a₀ = true) {i : Nat} {a : TS} (hi : i < N) (hr : Reach a₀ i a) : stOk a = true := by
  have := run_ok h i a (by omega) hr
  rw [show N - i = (N - (i + 1)) + 1 by omega] at this
  unfold runOk at this
  rw [Bool.and_eq_true] at this
  exact this.1
theorem okcB_iff {x : Nat} (h : okcB x = true) : okc true x := by
  unfold okcB at h
  unfold okc
  rw [if_pos rfl]
  exact List.contains_iff_mem.mp h
theorem rowsOk_iff {rows : List (Nat × Nat)} (h : rowsOk rows = true) : rows.length = 3 ∧ ∀ r ∈ rows, okc true r.1 ∧ r.2 < 4 := by
  unfold rowsOk at h
  rw [Bool.and_eq_true, beq_iff_eq, List.all_eq_true] at h
  refine ⟨h.1, fun r hr => ?_⟩
  have := h.2 r hr
  rw [Bool.and_eq_true] at this
  exact ⟨okcB_iff this.1, by simpa [Nat.blt_eq] using this.2⟩
theorem leftOk_iff {l : List Int} (h : leftOk l = true) : ∀ x ∈ l, -100 ≤ x ∧ x ≤ 100 := fun x hx => by
  unfold leftOk at h
  rw [List.all_eq_true] at h
  have := h x hx
  rw [Bool.and_eq_true, decide_eq_true_iff, decide_eq_true_iff] at this
  exact this
theorem left_sh {l : List Int} (hl : four l) (hb : ∀ x ∈ vL c t0 t1 t2 t3, -1500 ≤ x ∧ x ≤ 1500) (h : leftOk l = true) : ∃ x0 x1 x2 x3, shL (vL c t0 t1 t2 t3) l = [x0, x1, x2, x3] ∧ ∀ x ∈ shL (vL c t0 t1 t2 t3) l, -2000 ≤ x ∧ x ≤ 2000 := by
  have h1 := leftOk_iff h
  obtain ⟨x0, x1, x2, x3, rfl⟩ := hl
  refine ⟨_, _, _, _, rfl, ?_⟩
  unfold vL at hb ⊢
  simp only [shL, List.zipWith_cons_cons, List.zipWith_nil_right, List.mem_cons, List.not_mem_nil, or_false] at h1 hb ⊢
  have a0 := h1 x0 (.inl rfl)
  have a1 := h1 x1 (.inr (.inl rfl))
  have a2 := h1 x2 (.inr (.inr (.inl rfl)))
  have a3 := h1 x3 (.inr (.inr (.inr rfl)))
  have b0 := hb _ (.inl rfl)
  have b1 := hb _ (.inr (.inl rfl))
  have b2 := hb _ (.inr (.inr (.inl rfl)))
  have b3 := hb _ (.inr (.inr (.inr rfl)))
  rintro x (rfl | rfl | rfl | rfl) <;> omega
noncomputable def fdOk (a : TS) : Bool := rowsOk a.rows && leftOk a.left && a.wrongs.ble 100
noncomputable def finOk (P : TP) (F : Int) (a : TS) : Bool := fdOk a && a.pb.isEmpty && P.good a && ((a.taken : Int) == F)
noncomputable def chkT (P : TP) (F : Int) : Bool := runOk P.N P.start && finOk P F P.fin
theorem th_ok (hv : c + t0 + t1 + t2 + t3 = 0) (hbd : ∀ x ∈ vL c t0 t1 t2 t3, -1500 ≤ x ∧ x ≤ 1500) {P P' : TP} (hO : Ok P) (hc : Pc P) (hN : P'.N ≤ 400) (hb : P.bank = P'.bank) (hl : four P'.ps) (hp : P.ps = shL (vL c t0 t1 t2 t3) P'.ps) {F : Int} (h : chkT P' F = true) :
    Th P ∧ (P.fin.taken : Int) = F := by
  have hb4 : P'.bank < 4 := hb ▸ hO.bank
  unfold chkT finOk fdOk at h
  simp only [Bool.and_eq_true, beq_iff_eq] at h
  obtain ⟨h1, ⟨⟨⟨⟨h2, h3⟩, h4⟩, h5⟩, h6⟩, h7⟩ := h
  obtain ⟨f1, f2⟩ := fin_sh hv hb hb4 hl hp
  refine ⟨⟨hO, by rw [N_sh hv hl hp]; exact hN, fun i a hi hr => ?_, ?_, ?_, ?_⟩, ?_⟩
  · rw [start_sh hb hb4 hl hp] at hr
    obtain ⟨b, hr', rfl, hf⟩ := reach_sh hv hl i a hr
    rw [N_sh hv hl hp] at hi
    have hs := reach_ok h1 hi hr'
    unfold stOk at hs
    simp only [Bool.and_eq_true, beq_iff_eq] at hs
    obtain ⟨⟨⟨⟨s1, s2, s3⟩, s4⟩, s5⟩, s6⟩ := hs
    have sr := rowsOk_iff s1
    obtain ⟨c1, c2, c3, c4⟩ := text_ok hO hc (a := b.sh (vL c t0 t1 t2 t3)) (fun r hr => (sr.2 r hr).2) s6
    refine ⟨sr.2, by show b.rows.length ≤ 100; omega, ?_, left_sh hf hbd s4, by have := Nat.le_of_ble_eq_true s5; show b.wrongs ≤ 500; omega, c1, c2, c3, c4⟩
    show ∃ r0 r1 r2 r3, b.pb = [r0, r1, r2, r3] ∧ _
    match hq : b.pb, s2, s3 with
    | [r0, r1, r2, r3], _, s3 =>
      simp only [List.all_cons, List.all_nil, Bool.and_eq_true] at s3
      exact ⟨r0, r1, r2, r3, rfl, okcB_iff s3.1, okcB_iff s3.2.1, okcB_iff s3.2.2.1, okcB_iff s3.2.2.2.1⟩
  · rw [f1]
    have sr := rowsOk_iff h2
    exact ⟨sr.2, by show P'.fin.rows.length ≤ 100; omega, left_sh f2 hbd h3, by have := Nat.le_of_ble_eq_true h4; show P'.fin.wrongs ≤ 500; omega⟩
  · rw [f1]; exact List.isEmpty_iff.mp h5
  · rw [f1, good_sh hv hb hb4 f2]; exact h6
  · rw [f1]; exact h7
end
set_option maxHeartbeats 1000000
noncomputable def mkP (q : List Int) (b : Nat) : TP := ⟨q, b, [], "", "", "", false⟩
noncomputable def ruC (q : List Int) (m : Nat) : Bool := ruinedB (q.getD 0 0) (q.getD 1 0) (q.getD 2 0) (q.getD 3 0) m
noncomputable def chkF (q : List Int) (s : Int) (F : Nat) : Bool := (List.range 4).all fun b => chkT (mkP q b) F && chkT (mkP (q.map fun c => 1 - c) b) ((F : Int) - s + 2)
noncomputable def chkC (q : List Int) (s : Int) : Bool := chkF q s (bisL (ruC q) true (s + 2).toNat)
noncomputable def canP (r1 r2 r3 : Nat) (s : Int) : List Int := [s - ((r1 : Int) + r2 + r3), r1, r2, r3]
noncomputable def chkR (r1 r2 r3 : Nat) : Bool := (List.range 7).all fun j => ((j + 15 - (r1 + r2 + r3)) % 4 != 0) || chkC (canP r1 r2 r3 ((j : Int) - 1)) ((j : Int) - 1)
theorem chk_00 : (List.range 4).all (chkR 0 0) = true := by decide +kernel
theorem chk_01 : (List.range 4).all (chkR 0 1) = true := by decide +kernel
theorem chk_02 : (List.range 4).all (chkR 0 2) = true := by decide +kernel
theorem chk_03 : (List.range 4).all (chkR 0 3) = true := by decide +kernel
theorem chk_10 : (List.range 4).all (chkR 1 0) = true := by decide +kernel
theorem chk_11 : (List.range 4).all (chkR 1 1) = true := by decide +kernel
theorem chk_12 : (List.range 4).all (chkR 1 2) = true := by decide +kernel
theorem chk_13 : (List.range 4).all (chkR 1 3) = true := by decide +kernel
theorem chk_20 : (List.range 4).all (chkR 2 0) = true := by decide +kernel
theorem chk_21 : (List.range 4).all (chkR 2 1) = true := by decide +kernel
theorem chk_22 : (List.range 4).all (chkR 2 2) = true := by decide +kernel
theorem chk_23 : (List.range 4).all (chkR 2 3) = true := by decide +kernel
theorem chk_30 : (List.range 4).all (chkR 3 0) = true := by decide +kernel
theorem chk_31 : (List.range 4).all (chkR 3 1) = true := by decide +kernel
theorem chk_32 : (List.range 4).all (chkR 3 2) = true := by decide +kernel
theorem chk_33 : (List.range 4).all (chkR 3 3) = true := by decide +kernel
theorem chk_all {r1 r2 r3 : Nat} (h1 : r1 < 4) (h2 : r2 < 4) (h3 : r3 < 4) : chkR r1 r2 r3 = true := by
  have k1 : r1 = 0 ∨ r1 = 1 ∨ r1 = 2 ∨ r1 = 3 := by omega
  have k2 : r2 = 0 ∨ r2 = 1 ∨ r2 = 2 ∨ r2 = 3 := by omega
  have m3 : r3 ∈ List.range 4 := List.mem_range.mpr h3
  rcases k1 with rfl | rfl | rfl | rfl <;> rcases k2 with rfl | rfl | rfl | rfl
  · exact List.all_eq_true.mp chk_00 r3 m3
  · exact List.all_eq_true.mp chk_01 r3 m3
  · exact List.all_eq_true.mp chk_02 r3 m3
  · exact List.all_eq_true.mp chk_03 r3 m3
  · exact List.all_eq_true.mp chk_10 r3 m3
  · exact List.all_eq_true.mp chk_11 r3 m3
  · exact List.all_eq_true.mp chk_12 r3 m3
  · exact List.all_eq_true.mp chk_13 r3 m3
  · exact List.all_eq_true.mp chk_20 r3 m3
  · exact List.all_eq_true.mp chk_21 r3 m3
  · exact List.all_eq_true.mp chk_22 r3 m3
  · exact List.all_eq_true.mp chk_23 r3 m3
  · exact List.all_eq_true.mp chk_30 r3 m3
  · exact List.all_eq_true.mp chk_31 r3 m3
  · exact List.all_eq_true.mp chk_32 r3 m3
  · exact List.all_eq_true.mp chk_33 r3 m3
theorem bis_same (kt : Nat → Bool) (m : Nat) : bisR kt false m = bisL kt true m := by
  unfold bisR bisL
  have e : halfR kt false = halfL kt true := by
    funext a
    unfold halfR halfL
    cases kt ((a.1 + a.2) / 2) <;> rfl
  rw [e]
theorem chk_s {r1 r2 r3 : Nat} (h1 : r1 < 4) (h2 : r2 < 4) (h3 : r3 < 4) {s : Int} (hs : -1 ≤ s ∧ s ≤ 5) (hm : (s - ((r1 : Int) + r2 + r3)) % 4 = 0) : chkC (canP r1 r2 r3 s) s = true := by
  have h := chk_all h1 h2 h3
  unfold chkR at h
  have := List.all_eq_true.mp h (s + 1).toNat (List.mem_range.mpr (by omega))
  have e : (((s + 1).toNat : Nat) : Int) - 1 = s := by omega
  rw [e, Bool.or_eq_true] at this
  rcases this with this | this
  · rw [bne_iff_ne] at this
    exact absurd (by omega) this
  · exact this
theorem ruined_sh {c t0 t1 t2 t3 : Int} (hv : c + t0 + t1 + t2 + t3 = 0) {q0 q1 q2 q3 p0 p1 p2 p3 : Int} (hp : [p0, p1, p2, p3] = shL (vL c t0 t1 t2 t3) [q0, q1, q2, q3]) (m : Nat) : ruinedB p0 p1 p2 p3 m = ruinedB q0 q1 q2 q3 m := by
  unfold ruinedB
  congr 1
  funext y
  have e : takeW p0 p1 p2 p3 m y = shL (vL c t0 t1 t2 t3) (takeW q0 q1 q2 q3 m y) := by
    simp only [shL, vL, List.zipWith_cons_cons, List.zipWith_nil_right, List.cons.injEq, and_true] at hp
    unfold takeW
    simp only [shL, vL, List.zipWith_cons_cons, List.zipWith_nil_right, List.cons.injEq, and_true]
    obtain ⟨a0, a1, a2, a3⟩ := hp
    refine ⟨?_, ?_, ?_, ?_⟩ <;> omega
  rw [e]
  exact hop_sh hv ⟨_, _, _, _, rfl⟩
theorem rr_ok {p0 p1 p2 p3 : Int} (hs : -1 ≤ p0 + p1 + p2 + p3 ∧ p0 + p1 + p2 + p3 ≤ 5) (hb : ∀ x ∈ [p0, p1, p2, p3], -100 ≤ x ∧ x ≤ 100) :
    ∃ F : Nat, (∀ kt, (∀ m, kt m = ruinedB p0 p1 p2 p3 m) → bisL kt true ([p0, p1, p2, p3].sum + 2).toNat = F ∧ bisR kt false ([p0, p1, p2, p3].sum + 2).toNat = F) ∧
      (∀ P : TP, Ok P → Pc P → P.ps = [p0, p1, p2, p3] → Th P ∧ (P.fin.taken : Int) = F) ∧
      (∀ P : TP, Ok P → Pc P → P.ps = [1 - p0, 1 - p1, 1 - p2, 1 - p3] → Th P ∧ (P.fin.taken : Int) = (F : Int) - [p0, p1, p2, p3].sum + 2) := by
  have hsum : [p0, p1, p2, p3].sum = p0 + p1 + p2 + p3 := by simp only [List.sum_cons, List.sum_nil]; omega
  obtain ⟨s, hs'⟩ : ∃ s, s = p0 + p1 + p2 + p3 := ⟨_, rfl⟩
  rw [hsum, ← hs']
  rw [← hs'] at hs
  obtain ⟨r1, hr1⟩ : ∃ r1 : Nat, r1 = ((p1 - p0) % 4).toNat := ⟨_, rfl⟩
  obtain ⟨r2, hr2⟩ : ∃ r2 : Nat, r2 = ((p2 - p0) % 4).toNat := ⟨_, rfl⟩
  obtain ⟨r3, hr3⟩ : ∃ r3 : Nat, r3 = ((p3 - p0) % 4).toNat := ⟨_, rfl⟩
  obtain ⟨t1, ht1⟩ : ∃ t1, t1 = (p1 - p0) / 4 := ⟨_, rfl⟩
  obtain ⟨t2, ht2⟩ : ∃ t2, t2 = (p2 - p0) / 4 := ⟨_, rfl⟩
  obtain ⟨t3, ht3⟩ : ∃ t3, t3 = (p3 - p0) / 4 := ⟨_, rfl⟩
  have e1 : p1 = r1 + (p0 + 4 * t1) := by omega
  have e2 : p2 = r2 + (p0 + 4 * t2) := by omega
  have e3 : p3 = r3 + (p0 + 4 * t3) := by omega
  have l1 : r1 < 4 := by omega
  have l2 : r2 < 4 := by omega
  have l3 : r3 < 4 := by omega
  clear hr1 hr2 hr3 ht1 ht2 ht3
  obtain ⟨t0, ht0⟩ : ∃ t0, t0 = -(p0 + t1 + t2 + t3) := ⟨_, rfl⟩
  have hv : p0 + t0 + t1 + t2 + t3 = 0 := by omega
  have e0 : p0 = (s - ((r1 : Int) + r2 + r3)) + (p0 + 4 * t0) := by omega
  have hbb : ∀ x ∈ vL p0 t0 t1 t2 t3, -1500 ≤ x ∧ x ≤ 1500 := by
    unfold vL
    have b0 := hb p0 (by simp)
    have b1 := hb p1 (by simp)
    have b2 := hb p2 (by simp)
    have b3 := hb p3 (by simp)
    intro x hx
    simp only [List.mem_cons, List.not_mem_nil, or_false] at hx
    rcases hx with rfl | rfl | rfl | rfl <;> omega
  have hp : [p0, p1, p2, p3] = shL (vL p0 t0 t1 t2 t3) (canP r1 r2 r3 s) := by
    unfold canP
    simp only [shL, vL, List.zipWith_cons_cons, List.zipWith_nil_right, List.cons.injEq, and_true]
    exact ⟨e0, e1, e2, e3⟩
  have hc := chk_s l1 l2 l3 hs (by omega)
  unfold chkC at hc
  obtain ⟨F, hF⟩ : ∃ F, F = bisL (ruC (canP r1 r2 r3 s)) true (s + 2).toNat := ⟨_, rfl⟩
  rw [← hF] at hc
  unfold chkF at hc
  have hsq : (canP r1 r2 r3 s).sum = s := by
    unfold canP; simp only [List.sum_cons, List.sum_nil]; omega
  refine ⟨F, fun kt hk => ?_, fun P hO hPc hps => ?_, fun P hO hPc hps => ?_⟩
  · have : kt = ruC (canP r1 r2 r3 s) := by
      funext m
      rw [hk m, ruined_sh hv hp m]; rfl
    rw [this, bis_same]
    exact ⟨hF.symm, hF.symm⟩
  · have h := List.all_eq_true.mp hc P.bank (List.mem_range.mpr hO.bank)
    rw [Bool.and_eq_true] at h
    exact th_ok (P' := mkP (canP r1 r2 r3 s) P.bank) hv hbb hO hPc (by show 8 + (canP r1 r2 r3 s).sum.toNat ≤ 400; omega) rfl ⟨_, _, _, _, rfl⟩ (hps.trans hp) h.1
  · have h := List.all_eq_true.mp hc P.bank (List.mem_range.mpr hO.bank)
    rw [Bool.and_eq_true] at h
    have hp' : P.ps = shL (vL (-p0) (-t0) (-t1) (-t2) (-t3)) ((canP r1 r2 r3 s).map fun c => 1 - c) := by
      rw [hps]
      unfold canP
      simp only [shL, vL, List.map_cons, List.map_nil, List.zipWith_cons_cons, List.zipWith_nil_right, List.cons.injEq, and_true]
      refine ⟨?_, ?_, ?_, ?_⟩ <;> omega
    have hsn : ((canP r1 r2 r3 s).map fun c => 1 - c).sum = 4 - s := by
      unfold canP; simp only [List.map_cons, List.map_nil, List.sum_cons, List.sum_nil]; omega
    refine th_ok (P' := mkP ((canP r1 r2 r3 s).map fun c => 1 - c) P.bank) (by omega) ?_ hO hPc (by show 8 + ((canP r1 r2 r3 s).map fun c => 1 - c).sum.toNat ≤ 400; omega) rfl ⟨_, _, _, _, rfl⟩ hp' h.2
    intro x hx
    unfold vL at hx hbb
    simp only [List.mem_cons, List.not_mem_nil, or_false] at hx hbb
    have b0 := hbb _ (.inl rfl)
    have b1 := hbb _ (.inr (.inl rfl))
    have b2 := hbb _ (.inr (.inr (.inl rfl)))
    have b3 := hbb _ (.inr (.inr (.inr rfl)))
    rcases hx with rfl | rfl | rfl | rfl <;> omega
set_option maxHeartbeats 1000000
theorem white_ok {y : Str} (h : y ∈ whitesL) : (∀ d ∈ y.cps.toList, isWs d = true) ∧ 1 ≤ y.cps.toList.length ∧ y.cps.toList.length ≤ 2 := by
  unfold whitesL at h
  simp only [List.mem_cons, List.not_mem_nil, or_false] at h
  rcases h with rfl | rfl | rfl | rfl
  · rw [show (Str.ofString " " : Str).cps.toList = [32] from by rfl]; decide
  · rw [show (Str.ofString "\n" : Str).cps.toList = [10] from by rfl]; decide
  · rw [show (Str.ofString "\t\n" : Str).cps.toList = [9, 10] from by rfl]; decide
  · rw [show (Str.ofString "\r" : Str).cps.toList = [13] from by rfl]; decide
theorem last_len {y : Str} (h : y ∈ lastsL) : y.cps.toList.length ≤ 3 := by
  unfold lastsL at h
  simp only [List.mem_cons, List.not_mem_nil, or_false] at h
  rcases h with rfl | rfl | rfl | rfl
  · rw [show (Str.ofString "z" : Str).cps.toList = [122] from by rfl]; decide
  · rw [show (Str.ofString "z\\" : Str).cps.toList = [122, 92] from by rfl]; decide
  · rw [show (Str.ofString "\"z" : Str).cps.toList = [34, 122] from by rfl]; decide
  · rw [show (Str.ofString "z \n" : Str).cps.toList = [122, 32, 10] from by rfl]; decide
theorem spell_ok {c j : Nat} (hj : j < 4) (hc : c ≠ 10) (hc' : c ≠ 13) : (spellW c j).cps.toList.length ≤ 4 ∧ nls (spellW c j).cps.toList = 0 := by
  have hz : nlC c = 0 := by unfold nlC; rw [if_neg hc]
  have h1 : nlC 92 = 0 := rfl
  have h2 : nlC 34 = 0 := rfl
  rcases spell_cases (c := c) hj hc hc' with q | q | ⟨q, -⟩ | ⟨q, -⟩ <;> rw [q] <;> simp [nls, hz, h1, h2]
theorem trT_cps (nms wys : List Nat) (whs : List Str) (last : Str) : (trT nms wys whs last).cps.toList =
    (spellW (nms.getD 0 0) (wys.getD 0 0)).cps.toList ++ ((whs.getD 0 "").cps.toList ++ ((spellW (nms.getD 1 0) (wys.getD 1 0)).cps.toList ++ ((whs.getD 1 "").cps.toList ++ ((spellW (nms.getD 2 0) (wys.getD 2 0)).cps.toList ++ ((whs.getD 2 "").cps.toList ++ ((spellW (nms.getD 3 0) (wys.getD 3 0)).cps.toList ++ ((whs.getD 3 "").cps.toList ++ last.cps.toList))))))) := by
  unfold trT
  rw [app_cps]
  have e : (joinE ((List.range 4).map (trSp nms wys whs))).cps.toList = (trSp nms wys whs 0).cps.toList ++ ((trSp nms wys whs 1).cps.toList ++ ((trSp nms wys whs 2).cps.toList ++ ((trSp nms wys whs 3).cps.toList ++ []))) := by
    show (joinE [trSp nms wys whs 0, trSp nms wys whs 1, trSp nms wys whs 2, trSp nms wys whs 3]).cps.toList = _
    unfold joinE
    rw [List.toList_toArray]; rfl
  rw [e]
  unfold trSp
  simp only [app_cps, List.append_assoc, List.append_nil, List.nil_append]
theorem lx_ok {nms wys : List Nat} {whs : List Str} {last : Str} (hn : ∀ k, k < 4 → nms.getD k 0 ≠ 10 ∧ nms.getD k 0 ≠ 13) (hw : ∀ k, k < 4 → wys.getD k 0 < 4) (hh : ∀ k, k < 4 → whs.getD k "" ∈ whitesL) (hl : last ∈ lastsL) : Lx nms (trT nms wys whs last) := by
  have n0 := hn 0 (by decide); have n1 := hn 1 (by decide); have n2 := hn 2 (by decide); have n3 := hn 3 (by decide)
  have a0 := hw 0 (by decide); have a1 := hw 1 (by decide); have a2 := hw 2 (by decide); have a3 := hw 3 (by decide)
  have b0 := white_ok (hh 0 (by decide)); have b1 := white_ok (hh 1 (by decide)); have b2 := white_ok (hh 2 (by decide)); have b3 := white_ok (hh 3 (by decide))
  have s0 := spell_ok a0 n0.1 n0.2; have s1 := spell_ok a1 n1.1 n1.2; have s2 := spell_ok a2 n2.1 n2.2; have s3 := spell_ok a3 n3.1 n3.2
  have hll := last_len hl
  obtain ⟨T, hT⟩ : ∃ T, T = (trT nms wys whs last).cps.toList := ⟨_, rfl⟩
  have hTT := hT
  rw [trT_cps] at hTT
  obtain ⟨R3, hR3⟩ : ∃ R, R = last.cps.toList := ⟨_, rfl⟩
  obtain ⟨R2, hR2⟩ : ∃ R, R = (spellW (nms.getD 3 0) (wys.getD 3 0)).cps.toList ++ ((whs.getD 3 "").cps.toList ++ R3) := ⟨_, rfl⟩
  obtain ⟨R1, hR1⟩ : ∃ R, R = (spellW (nms.getD 2 0) (wys.getD 2 0)).cps.toList ++ ((whs.getD 2 "").cps.toList ++ R2) := ⟨_, rfl⟩
  obtain ⟨R0, hR0⟩ : ∃ R, R = (spellW (nms.getD 1 0) (wys.getD 1 0)).cps.toList ++ ((whs.getD 1 "").cps.toList ++ R1) := ⟨_, rfl⟩
  have hT' : T = [] ++ ((spellW (nms.getD 0 0) (wys.getD 0 0)).cps.toList ++ ((whs.getD 0 "").cps.toList ++ R0)) := by
    rw [hTT, hR0, hR1, hR2, hR3]; rfl
  obtain ⟨l1, m1, e1, w1, k1, q1⟩ := lex_name (c := nms.getD 0 0) (R := R0) (l := []) (ln := 1) a0 n0.1 n0.2 (fun d hd => nomatch hd) (by decide) b0.1 b0.2
  obtain ⟨l2, m2, e2, w2, k2, q2⟩ := lex_name (c := nms.getD 1 0) (R := R1) (l := l1) (ln := m1) a1 n1.1 n1.2 w1 k1 b1.1 b1.2
  obtain ⟨l3, m3, e3, w3, k3, q3⟩ := lex_name (c := nms.getD 2 0) (R := R2) (l := l2) (ln := m2) a2 n2.1 n2.2 w2 k2 b2.1 b2.2
  obtain ⟨l4, m4, e4, w4, k4, q4⟩ := lex_name (c := nms.getD 3 0) (R := R3) (l := l3) (ln := m3) a3 n3.1 n3.2 w3 k3 b3.1 b3.2
  obtain ⟨r, m5, e5, hr, e6, q6⟩ := lex_last hl (l := l4) (ln := m4) w4 k4
  rw [← hT'] at e1
  rw [← hR0] at e2
  rw [← hR1] at e3
  rw [← hR2] at e4
  rw [← hR3] at e5
  have S0 : lexSt T 0 = (T, 1) := rfl
  have S1 : lexSt T 1 = (l1 ++ R0, m1) := by
    show ((lexG 500 T 1).2.1, (lexG 500 T 1).2.2) = _
    rw [e1]
  have S2 : lexSt T 2 = (l2 ++ R1, m2) := by
    show ((lexG 500 (lexSt T 1).1 (lexSt T 1).2).2.1, (lexG 500 (lexSt T 1).1 (lexSt T 1).2).2.2) = _
    rw [S1]; dsimp only; rw [e2]
  have S3 : lexSt T 3 = (l3 ++ R2, m3) := by
    show ((lexG 500 (lexSt T 2).1 (lexSt T 2).2).2.1, (lexG 500 (lexSt T 2).1 (lexSt T 2).2).2.2) = _
    rw [S2]; dsimp only; rw [e3]
  have S4 : lexSt T 4 = (l4 ++ R3, m4) := by
    show ((lexG 500 (lexSt T 3).1 (lexSt T 3).2).2.1, (lexG 500 (lexSt T 3).1 (lexSt T 3).2).2.2) = _
    rw [S3]; dsimp only; rw [e4]
  have S5 : lexSt T 5 = (r, m5) := by
    show ((lexG 500 (lexSt T 4).1 (lexSt T 4).2).2.1, (lexG 500 (lexSt T 4).1 (lexSt T 4).2).2.2) = _
    rw [S4]; dsimp only; rw [e5]
  have z3 : R3.length ≤ 3 := by rw [hR3]; exact hll
  have z2 : R2.length ≤ 9 := by rw [hR2]; simp only [List.length_append]; omega
  have z1 : R1.length ≤ 15 := by rw [hR1]; simp only [List.length_append]; omega
  have z0 : R0.length ≤ 21 := by rw [hR0]; simp only [List.length_append]; omega
  have zT : T.length ≤ 27 := by rw [hT']; simp only [List.length_append, List.length_nil]; omega
  refine ⟨?_, ?_, ?_, ?_, ?_, ?_⟩
  · have : (trT nms wys whs last).cps.size = T.length := by rw [hT]; simp
    omega
  · intro j hj
    rw [← hT]
    have : j = 0 ∨ j = 1 ∨ j = 2 ∨ j = 3 ∨ j = 4 ∨ j = 5 := by omega
    rcases this with rfl | rfl | rfl | rfl | rfl | rfl
    · rw [S0]; show T.length ≤ 500; omega
    · rw [S1]; show (l1 ++ R0).length ≤ 500; rw [List.length_append]; omega
    · rw [S2]; show (l2 ++ R1).length ≤ 500; rw [List.length_append]; omega
    · rw [S3]; show (l3 ++ R2).length ≤ 500; rw [List.length_append]; omega
    · rw [S4]; show (l4 ++ R3).length ≤ 500; rw [List.length_append]; omega
    · rw [S5]; show r.length ≤ 500; omega
  · intro j hj
    rw [← hT]
    unfold lexTk
    have : j = 0 ∨ j = 1 ∨ j = 2 ∨ j = 3 := by omega
    rcases this with rfl | rfl | rfl | rfl
    · rw [S0]; dsimp only; rw [e1]
    · rw [S1]; dsimp only; rw [e2]
    · rw [S2]; dsimp only; rw [e3]
    · rw [S3]; dsimp only; rw [e4]
  · rw [← hT]
    unfold lexTk
    rw [S4]; dsimp only; rw [e5]
  · rw [← hT]
    unfold lexTk
    rw [S5]; exact e6
  · rw [← hT, count_nl, ← hT]
    have : (lexSt T 6).2 = (lexG 500 (lexSt T 5).1 (lexSt T 5).2).2.2 := rfl
    rw [this, S5]
    dsimp only
    rw [q6, hTT]
    simp only [nls_app, s0.2, s1.2, s2.2, s3.2]
    simp only [nls] at q1
    omega
theorem trN_cases (s3 : Nat) : trN s3 = [9, 32, 34, 35] ∨ trN s3 = [32, 34, 35, 40] ∨ trN s3 = [34, 35, 40, 41] ∨ trN s3 = [35, 40, 41, 92] ∨ trN s3 = [40, 41, 92, 97] := by
  unfold trN
  have : s3 / 28 % 5 < 5 := Nat.mod_lt _ (by decide)
  have : s3 / 28 % 5 = 0 ∨ s3 / 28 % 5 = 1 ∨ s3 / 28 % 5 = 2 ∨ s3 / 28 % 5 = 3 ∨ s3 / 28 % 5 = 4 := by omega
  rcases this with h | h | h | h | h <;> rw [h]
  · exact .inl rfl
  · exact .inr (.inl rfl)
  · exact .inr (.inr (.inl rfl))
  · exact .inr (.inr (.inr (.inl rfl)))
  · exact .inr (.inr (.inr (.inr rfl)))
noncomputable def nmOk (l : List Nat) : Bool := l.length == 4 && (List.range 4).all fun i => [9, 32, 34, 35, 40, 41, 92, 97].contains (l.getD i 0) && (l.getD i 0 != 10 && l.getD i 0 != 13) && (List.range 4).all fun j => !(l.getD i 0 == l.getD j 0) || i == j
theorem nmOk_all (s3 : Nat) : nmOk (trN s3) = true := by
  rcases trN_cases s3 with h | h | h | h | h <;> rw [h] <;> decide +kernel
theorem names_ok (s3 : Nat) : (∃ c0 c1 c2 c3, trN s3 = [c0, c1, c2, c3]) ∧ (∀ i, i < 4 → okc false ((trN s3).getD i 0)) ∧ (∀ i j, i < 4 → j < 4 → (trN s3).getD i 0 = (trN s3).getD j 0 → i = j) ∧ (∀ k, k < 4 → (trN s3).getD k 0 ≠ 10 ∧ (trN s3).getD k 0 ≠ 13) := by
  have h := nmOk_all s3
  unfold nmOk at h
  rw [Bool.and_eq_true, beq_iff_eq, List.all_eq_true] at h
  have h1 : ∀ i, i < 4 → _ := fun i hi => h.2 i (List.mem_range.mpr hi)
  simp only [Bool.and_eq_true, bne_iff_ne, List.all_eq_true, Bool.or_eq_true, Bool.not_eq_true', beq_eq_false_iff_ne, beq_iff_eq] at h1
  refine ⟨?_, fun i hi => ?_, fun i j hi hj e => ?_, fun k hk => (h1 k hk).1.2⟩
  · match trN s3, h.1 with
    | [c0, c1, c2, c3], _ => exact ⟨c0, c1, c2, c3, rfl⟩
  · unfold okc
    rw [if_neg (by decide)]
    exact List.contains_iff_mem.mp (h1 i hi).1.1
  · exact ((h1 i hi).2 j (List.mem_range.mpr hj)).resolve_left fun q => q e
theorem piece_mem (k : Nat) (h : k < 6) : piecesL.getD k "" ∈ piecesL ∧ (piecesL.getD k "").length ≤ 20 := by
  have : k = 0 ∨ k = 1 ∨ k = 2 ∨ k = 3 ∨ k = 4 ∨ k = 5 := by omega
  rcases this with rfl | rfl | rfl | rfl | rfl | rfl
  · exact ⟨.head _, by decide⟩
  · exact ⟨.tail _ (.head _), by decide⟩
  · exact ⟨.tail _ (.tail _ (.head _)), by decide⟩
  · exact ⟨.tail _ (.tail _ (.tail _ (.head _))), by decide⟩
  · exact ⟨.tail _ (.tail _ (.tail _ (.tail _ (.head _)))), by decide⟩
  · exact ⟨.tail _ (.tail _ (.tail _ (.tail _ (.tail _ (.head _))))), by decide⟩
theorem tail_mem (k : Nat) (h : k < 3) : ((tailsL.getD k ("", "")).1, (tailsL.getD k ("", "")).2) ∈ tailsL ∧ (tailsL.getD k ("", "")).1.length ≤ 20 ∧ (tailsL.getD k ("", "")).2.length ≤ 20 := by
  have : k = 0 ∨ k = 1 ∨ k = 2 := by omega
  rcases this with rfl | rfl | rfl
  · exact ⟨.head _, by decide, by decide⟩
  · exact ⟨.tail _ (.head _), by decide, by decide⟩
  · exact ⟨.tail _ (.tail _ (.head _)), by decide, by decide⟩
theorem last_mem (k : Nat) (h : k < 4) : lastsL.getD k "" ∈ lastsL := by
  have : k = 0 ∨ k = 1 ∨ k = 2 ∨ k = 3 := by omega
  rcases this with rfl | rfl | rfl | rfl
  · exact .head _
  · exact .tail _ (.head _)
  · exact .tail _ (.tail _ (.head _))
  · exact .tail _ (.tail _ (.tail _ (.head _)))
theorem white_mem (k : Nat) (h : k < 4) : whitesL.getD k "" ∈ whitesL := by
  have : k = 0 ∨ k = 1 ∨ k = 2 ∨ k = 3 := by omega
  rcases this with rfl | rfl | rfl | rfl
  · exact .head _
  · exact .tail _ (.head _)
  · exact .tail _ (.tail _ (.head _))
  · exact .tail _ (.tail _ (.tail _ (.head _)))
theorem tr_ok (s0 s1 s2 s3 s4 : Nat) : Tr s0 s1 s2 s3 s4 := by
  obtain ⟨nm1, nm2, nm3, nm4⟩ := names_ok s3
  have hpI : ∀ s : Nat, -(11 : Int) ≤ pI s ∧ pI s ≤ 11 := fun s => by unfold pI; omega
  have h0 := hpI s0; have h1 := hpI s1; have h2 := hpI s2
  obtain ⟨p3, hp3⟩ : ∃ p3 : Int, p3 = ((s3 % 7 : Nat) : Int) - 1 - [pI s0, pI s1, pI s2].sum := ⟨_, rfl⟩
  have hps : trP s0 s1 s2 s3 = [pI s0, pI s1, pI s2, p3] := by rw [hp3]; rfl
  have hpo : trO s0 s1 s2 s3 = [1 - pI s0, 1 - pI s1, 1 - pI s2, 1 - p3] := by unfold trO; rw [hps]; rfl
  have hp3' := hp3
  simp only [List.sum_cons, List.sum_nil] at hp3'
  have hsm : pI s0 + pI s1 + pI s2 + p3 = ((s3 % 7 : Nat) : Int) - 1 := by omega
  have h7 : s3 % 7 < 7 := Nat.mod_lt _ (by decide)
  obtain ⟨hpc, hpcl⟩ := piece_mem (s3 / 140 % 6) (Nat.mod_lt _ (by decide))
  obtain ⟨htl, htl0, htl1⟩ := tail_mem (s3 / 840 % 3) (Nat.mod_lt _ (by decide))
  have hP1 : Ok (trP1 s0 s1 s2 s3) := ⟨⟨_, _, _, _, hps, by
      show ∀ x ∈ trP s0 s1 s2 s3, _
      rw [hps]; intro x hx
      simp only [List.mem_cons, List.not_mem_nil, or_false] at hx
      rcases hx with rfl | rfl | rfl | rfl <;> omega⟩, Nat.mod_lt _ (by decide), nm1, nm2, nm3, hpcl, htl0, htl1⟩
  have hP2 : Ok (trP2 s0 s1 s2 s3 s4) := ⟨⟨_, _, _, _, hpo, by
      show ∀ x ∈ trO s0 s1 s2 s3, _
      rw [hpo]; intro x hx
      simp only [List.mem_cons, List.not_mem_nil, or_false] at hx
      rcases hx with rfl | rfl | rfl | rfl <;> omega⟩, Nat.mod_lt _ (by decide), nm1, nm2, nm3, hpcl, htl0, htl1⟩
  obtain ⟨F, f0, f1, f2⟩ := rr_ok (p0 := pI s0) (p1 := pI s1) (p2 := pI s2) (p3 := p3) (by omega) (by
    intro x hx
    simp only [List.mem_cons, List.not_mem_nil, or_false] at hx
    rcases hx with rfl | rfl | rfl | rfl <;> omega)
  obtain ⟨b1, b2⟩ := f0 (trR s0 s1 s2 s3) (fun m => by rw [hp3]; rfl)
  obtain ⟨t1, u1⟩ := f1 (trP1 s0 s1 s2 s3) hP1 ⟨hpc, htl⟩ hps
  obtain ⟨t2, u2⟩ := f2 (trP2 s0 s1 s2 s3 s4) hP2 ⟨hpc, htl⟩ hpo
  have hF : trF s0 s1 s2 s3 s4 = F := by
    unfold trF
    rw [hps]
    split
    · exact b2
    · exact b1
  refine ⟨lx_ok nm4 ?_ ?_ (last_mem _ (Nat.mod_lt _ (by decide))), t1, t2, ?_, ?_, ?_⟩
  · intro k hk
    have : k = 0 ∨ k = 1 ∨ k = 2 ∨ k = 3 := by omega
    rcases this with rfl | rfl | rfl | rfl <;> exact Nat.mod_lt _ (by decide)
  · intro k hk
    have : k = 0 ∨ k = 1 ∨ k = 2 ∨ k = 3 := by omega
    rcases this with rfl | rfl | rfl | rfl <;> exact white_mem _ (Nat.mod_lt _ (by decide))
  · rw [hF]; omega
  · rw [hF, hps]; exact u2
  · rw [hps]
    simp only [List.sum_cons, List.sum_nil]
    omega
set_option maxHeartbeats 8000000
noncomputable def LawOk : Prop := ∀ (w : World) (os : Ext) (n : Nat) {script : List Int} (hl : script.length ≤ 63) {A : Around} (rm : Rm A (n + 22)) {g : Heap} {s : Shared} {Q : Value → Shared → Prop} {v : Value} {N : Led} (H : HS w os g ((269, tabE #[]) :: (298, tabE #[]) :: N) s) (hB : Bm g) (r : Rd g v (.list (script.map .int)))
    (k : ∀ os' v g' s', Xt os os' → Le g g' → HS w os' g' N s' → Rd g' v (.bool true) → Tb g' 269 → Tb g' 298 → Q v s'), wpAny (model PRG w) A (call (.ref 306) [v]) Q NoE s
theorem rd_ints {P : Params} {h g : Heap} : ∀ {l : List Int} {vs : List Value}, WellAll P h vs (ofPys (l.map PyData.int)) → RdL g vs (l.map .int)
  | [], _, .nil => .nil
  | i :: l, _, .cons (.int _ t) r => .cons (.int _ t) (rd_ints r)
theorem key_no (w : World) : (KF w).lookup 269 = none ∧ (KF w).lookup 298 = none := ⟨by rfl, by rfl⟩
theorem ns_hide {h : Heap} {a : Addr} {m : Str → Option Value} (hn : h.Ns a m) (ha : a ∉ [269, 298]) : (hideAll h [269, 298]).Ns a m := by
  obtain ⟨o, es, ep, ho, r⟩ := hn
  exact ⟨o, es, ep, hideAll_get _ ho ha, r⟩
theorem code_tab {g : Heap} {c P : Addr} (h : CodeHd g c P) : isCodeTable g P := by
  obtain ⟨o, vs, -, -, -, -, -, -, -, h1, h2, h3, h4, -⟩ := h
  exact ⟨c, o, vs, h1, h2, h3, h4⟩
theorem script_rd {P : Params} {h g : Heap} {a : Addr} {l : List Int} (hW : Well P h (.ref a) (ofPy (.list (l.map .int)))) (h269 : h.get? 269 = some (tabObj #[])) (h298 : h.get? 298 = some (tabObj #[])) (hget : ∀ a o, h.get? a = some o → a ∉ [269, 298] → g.get? a = some o) : Rd g (.ref a) (.list (l.map .int)) := by
  cases hW with | list h1 h2 =>
  refine .list ⟨0, hget _ _ h1 fun hm => ?_⟩ (rd_ints h2)
  simp only [List.mem_cons, List.not_mem_nil, or_false] at hm
  rcases hm with rfl | rfl
  · rw [h269] at h1; cases h1
  · rw [h298] at h1; cases h1
theorem fin1 (LAW : LawOk) : PySem.Challenge.rw_tc0063_01.Holds := by
  refine hd ?_
  intro w s₀ s₁ mg mb G Y fa o pm cd doc dV kV ho hd hcd hD hmg hg args vals as hpre hlay hrd hwl hlo
  have KX : (KF w).In s₁.heap := km_in_of Y
  have hT8 := km_tabs_of Y
  refine Ground.open G ?_
  intro T B D TE TW
  wrow_args hpre hlay hrd hwl hlo
  rename Well _ _ _ _ => hW
  rename ¬ _ < _ => hlen
  show wpAny (model PRG w) callerA (call (.ref fa) [_]) _ _ s₁
  have hfa : fa = 306 := by
    have h : mg "law" = some (.ref 306) := mg_of KX T.g (by walk_at "kis")
    have h2 := hmg.symm.trans h
    injection h2 with h2
    injection h2
  subst hfa
  have h269 : s₁.heap.get? 269 = some (tabObj #[]) := hT8 269 (by decide)
  have h298 : s₁.heap.get? 298 = some (tabObj #[]) := hT8 298 (by decide)
  obtain ⟨g, hgd⟩ : ∃ g, g = hideAll s₁.heap [269, 298] := ⟨_, rfl⟩
  have hget : ∀ a o, s₁.heap.get? a = some o → a ∉ [269, 298] → g.get? a = some o := fun a o e n => hgd ▸ hideAll_get _ e n
  have hKg : (KF w).In g := fun a o e => hget a o (KX a o e) fun hm => by
    simp only [List.mem_cons, List.not_mem_nil, or_false] at hm
    rcases hm with rfl | rfl
    · rw [(key_no w).1] at e; cases e
    · rw [(key_no w).2] at e; cases e
  have hbs : Bs w g := by
    refine ⟨hKg, ?_, ⟨mb, hgd ▸ ns_hide T.b (by decide), T.builtins⟩, ⟨mg, hgd ▸ ns_hide T.g (by decide)⟩⟩
    obtain ⟨mc, h1, h2⟩ := T.nolimit
    exact ⟨mc, hgd ▸ ns_hide h1 (by decide), h2⟩
  have H : HS w (s₁.os, s₁.gens) g [(269, tabE #[]), (298, tabE #[])] s₁ := by
    refine ⟨hbs, fun b o e => of_hideAll _ (hgd ▸ e), fun p hp => ?_, fun p hp => ?_, by decide, rfl, rfl⟩
    · simp only [List.mem_cons, List.not_mem_nil, or_false] at hp
      rcases hp with rfl | rfl
      · exact ⟨_, h269, rfl⟩
      · exact ⟨_, h298, rfl⟩
    · simp only [List.mem_cons, List.not_mem_nil, or_false] at hp
      rw [hgd]
      rcases hp with rfl | rfl
      · exact hideAll_none _ (by decide)
      · exact hideAll_none _ (by decide)
  have hB : Bm g := by
    obtain ⟨bm, ob, h1, h2, h3, h4, h5, h6⟩ := T.bmain
    have h : mg "__builtins__" = some (.ref 4) := mg_of KX T.g (by walk_at "kis")
    have h7 := h1.symm.trans h
    injection h7 with h7
    injection h7 with h7
    subst h7
    exact ⟨ob, hget _ _ h3 (by decide), h4, h5, h6⟩
  have hr := script_rd hW h269 h298 hget
  refine wpAny_mono (LAW w (s₁.os, s₁.gens) 0 (by omega +splitNatSub) ⟨rfl, by decide, by decide⟩ H hB hr fun os' v g' s' X L H' r t1 t2 => ?_) (fun _ _ x => x) (fun _ _ x => x.elim)
  cases r
  have hold : ∀ b o, s₁.heap.get? b = some o → (s'.heap.get? b = some o) ∨ ((b = 269 ∨ b = 298) ∧ o = tabObj #[] ∧ ∃ ps, s'.heap.get? b = some (tabObj ps)) := fun b o e => by
    by_cases hb : b ∈ [269, 298]
    · refine .inr ?_
      simp only [List.mem_cons, List.not_mem_nil, or_false] at hb
      rcases hb with rfl | rfl
      · obtain ⟨ps, hps⟩ := t1
        exact ⟨.inl rfl, Option.some.inj (e.symm.trans h269), ps, H'.keep _ _ hps⟩
      · obtain ⟨ps, hps⟩ := t2
        exact ⟨.inr rfl, Option.some.inj (e.symm.trans h298), ps, H'.keep _ _ hps⟩
    · exact .inl (H'.keep _ _ (L _ _ (hget b o e hb)))
  have hct : ∀ b, b = 269 ∨ b = 298 → isCodeTable s₁.heap b := fun b hb => by
    have hk : Le g s₁.heap := H.keep
    rcases hb with rfl | rfl
    · exact code_tab ((codeHd269 hbs).keeps hk)
    · exact code_tab ((codeHd298 hbs).keeps hk)
  refine ⟨.inl ⟨_, .bool true, [], rfl, fun cls => by rfl, .bool true, by wrow_post, fun _ => ⟨.nil, fun _ h => nomatch h⟩⟩, ⟨fun b o e => ?_, fun b o e => ?_⟩, H'.eos.trans X.o, H'.egens ▸ X.b (hg ▸ AllBare.empty)⟩
  · rcases hold b o e with h | ⟨hb, rfl, ps, hps⟩
    · exact .inl h
    · exact .inr (.inl ⟨hct b hb, rfl, #[], ps, rfl, by rw [hps]; simp⟩)
  · rcases hold b o e with h | ⟨hb, rfl, ps, hps⟩
    · exact ⟨o, h⟩
    · exact ⟨_, hps⟩
end Mine
open Mine
set_option maxHeartbeats 8000000 in
theorem PySem.Challenge.cw_tc0063_01_holds : PySem.Challenge.rw_tc0063_01.Holds :=
  Mine.fin1 fun _ _ _ _ hl _ rm _ _ _ _ _ H hB r k => Mine.law_ok Mine.tr_ok hl rm H hB r k
