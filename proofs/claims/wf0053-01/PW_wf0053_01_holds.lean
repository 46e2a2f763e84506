import PyProof.Rows.All
import Wide.All
import OpenK.AllK
import Wide.FinOn
import Lean
import PySem.Challenge.RW_wf0053_01
open PySem PySem.W PyProof.Rows
set_option Elab.async false
set_option maxRecDepth 100000

/-! part HH -/
namespace Mine
/-! the head: what the top leaves behind, by one check a row -/
def names8 : List Str := ["a", "\\(", "b", "\\)", "c", "\\\"", "d", "\\\\"]
def sigTab : List (Str × Int) := [("(", 7), (")", 8), ("+", 14), ("-", 15), ("~", 31)]
def kNs (K : Frag) (x : Str) : Option (Option Value) := match K.lookup mainGlobals with
  | some ⟨_, _, .dict es _, _⟩ => some (nsFind es x)
  | _ => none
def kNone (K : Frag) (x : Str) : Bool := match kNs K x with | some none => true | _ => false
def kInt (K : Frag) (x : Str) (i : Int) : Bool := match kNs K x with | some (some (.int j _)) => j == i | _ => false
def kTok (K : Frag) : Addr := match kNs K "EXACT_TOKEN_TYPES" with | some (some (.ref b)) => b | _ => 0
def kStat (K : Frag) : Bool := match K.lookup cStatics with | some ⟨_, _, .dict es _, _⟩ => es.isEmpty | _ => false
def rowD (e : DictEntry) : Str × PyData := ((match e.key with | .str y _ => y | _ => Str.empty), (match e.val with | .int i _ => PyData.int i | _ => .none))
def kTab (K : Frag) : List (Str × PyData) := match K.lookup (kTok K) with | some ⟨_, _, .dict es _, _⟩ => es.toList.map rowD | _ => []
def kRefT (K : Frag) : Bool := match kNs K "EXACT_TOKEN_TYPES" with | some (some (.ref _)) => true | _ => false
def kSig (K : Frag) : Bool := sigTab.all fun p => match KTD.datumAt p.1 (kTab K) with | some (.int i) => i == p.2 | _ => false
def kNam (K : Frag) : Bool := names8.all fun x => !KTD.inKeys x (kTab K)
def builtins5 : List Str := ["len", "range", "enumerate", "sum", "min"]
structure KOk (K : Frag) : Prop where
  stat : kStat K = true
  nt : kInt K "NT_OFFSET" 256 = true
  em : kInt K "ENDMARKER" 0 = true
  bi : (builtins5.all (kNone K)) = true
  refT : kRefT K = true
  look : KTD.tabLook KTD.flatLooks (fun a => K.lookup a) (kTok K) (kTab K) = true
  sig : kSig K = true
  nam : kNam K = true
def fragOf (h : Heap) (as : List Addr) : Frag := as.filterMap fun a => (h.get? a).map fun o => (a, o)
theorem fragOf_in (h : Heap) : ∀ as : List Addr, (fragOf h as).In h
  | [], a, o, e => by simp [fragOf] at e
  | b :: as, a, o, e => by
    unfold fragOf at e
    rw [List.filterMap_cons] at e
    cases hb : h.get? b with
    | none => rw [hb] at e; exact fragOf_in h as a o e
    | some x =>
      rw [hb] at e
      have e : List.lookup a ((b, x) :: fragOf h as) = some o := e
      rw [List.lookup_cons] at e
      by_cases q : a = b
      · subst q
        rw [beq_self_eq_true] at e
        cases e; exact hb
      · rw [beq_eq_false_iff_ne.mpr q] at e
        exact fragOf_in h as a o e
def fragAll (h : Heap) : Frag := fragOf h [cStatics, mainGlobals, kTok (fragOf h [mainGlobals])]
def kOkB (K : Frag) : Bool := kStat K && (kInt K "NT_OFFSET" 256 && (kInt K "ENDMARKER" 0 && (builtins5.all (kNone K) && (kRefT K && (KTD.tabLook KTD.flatLooks (fun a => K.lookup a) (kTok K) (kTab K) && (kSig K && kNam K))))))
theorem kOk_of {K : Frag} (h : kOkB K = true) : KOk K := by
  unfold kOkB at h
  simp only [Bool.and_eq_true] at h
  obtain ⟨a, b, c, d, e, f, g, i⟩ := h
  exact ⟨a, b, c, d, e, f, g, i⟩
def HFacts (mg : Str → Option Value) (h : Heap) : Prop := ∃ K : Frag, K.In h ∧ KOk K
def hCheck (s : Shared) : Bool := kOkB (fragAll s.heap)
def hXt (s : Shared) : Bool := hCheck s && recOk [] s
theorem hFacts_of (s : Shared) (e : hXt s = true) : HFacts (s.heap.nsMap mainGlobals) s.heap := ⟨_, fragOf_in _ _, kOk_of (Bool.and_eq_true_iff.mp e).1⟩
theorem HFacts.keeps (mg : Str → Option Value) (h h' : Heap) (x : HFacts mg h) (hk : ∀ b o, h.get? b = some o → h'.get? b = some o) : HFacts mg h' :=
  let ⟨K, a, b⟩ := x; ⟨K, a.keeps hk, b⟩
def bodyP : List Stmt := Challenge.pw_wf0053_01.main.body
def viewQ : Program := { Challenge.pw_wf0053_01 with main := { Challenge.pw_wf0053_01.main with body := (bodyP.drop 1).take 4 ++ ((bodyP.drop 6).take 4 ++ ((bodyP.drop 62).take 2 ++ bodyP.drop 65)) } }
def looseQ : List Str := ((bodyP.drop 11).take 51).filterMap fun st => match st with | .Assign [.Name x _] _ _ => some x | _ => none
theorem q_stepOk : @stepOk = @PySem.W.Fast.tw6613529449190102663 := PySem.W.Fast.te6613529449190102663
theorem q_stepT : @stepT = @PySem.W.Fast.tw10156331382660048174 := PySem.W.Fast.te10156331382660048174
theorem q_denote : @denote = @PySem.W.Fast.tw11892475500146522536 := PySem.W.Fast.te11892475500146522536
theorem q_table : treeTable = PySem.W.Fast.tw14364793385576792824 := PySem.W.Fast.te14364793385576792824
theorem q_seen : @openSeen = @PySem.W.Fast.tw4187177175401517315 := PySem.W.Fast.te4187177175401517315
/-- the top's run over a tree of objects, by the library's quick twins of a step -/
noncomputable def topRunT (tb : String → Option Builtin) (p : Program) (w : World) (n₀ : Nat) (ann : Option Value) : Nat → SharedT → Thread → Option SharedT
  | 0, _, _ => none
  | n + 1, s, t => match through t with
    | true => some s
    | false => match PySem.W.Fast.tw6613529449190102663 n₀ ann t with
      | false => none
      | true => match PySem.W.Fast.tw10156331382660048174 (PySem.W.Fast.tw11892475500146522536 tb) p w s t with
        | some (s', t') => topRunT tb p w n₀ ann n s' t'
        | none => none
theorem topRunT_of {tb : String → Option Builtin} {p : Program} {w : World} {n₀ : Nat} {ann : Option Value} : ∀ {n : Nat} {s s' : SharedT} {t : Thread}, topRunT tb p w n₀ ann n s t = some s' → topRun tb p w n₀ ann n s.abs t = some s'.abs
  | 0, _, _, _, h => nomatch h
  | n + 1, s, s', t, h => by
    unfold topRunT at h
    rw [← q_stepOk, ← q_stepT, ← q_denote] at h
    unfold topRun
    cases ht : through t with
    | true => rw [ht] at h; cases h; rfl
    | false =>
      rw [ht] at h
      cases hk : stepOk n₀ ann t with
      | false => rw [hk] at h; cases h
      | true =>
        rw [hk] at h
        cases hs : stepT (denote tb) p w s t with
        | none => rw [hs] at h; cases h
        | some r => obtain ⟨s₂, t₂⟩ := r; rw [hs] at h; rw [stepT_spec hs]; exact topRunT_of h
def treeOf : List Obj → Nat → BT → BT
  | [], _, t => t
  | o :: l, i, t => treeOf l (i + 1) (t.ins i o)
noncomputable def startT (P : Params) (os : OsState) : SharedT := ⟨treeOf (boot_heap P).objs.toList 0 .nil, 11, (boot_heap P).life, Array.mk [], boot_drawn, 181, os⟩
theorem startT_abs (P : Params) (os : OsState) : (startT P os).abs = ⟨boot_heap P, Array.mk [], boot_drawn, boot_toks, os⟩ := by kernel_rfl
abbrev progP : Program := Challenge.pw_wf0053_01
noncomputable def looksAt (P : Params) (s : Shared) := (staticsOk (importedModules progP.main.body) (boot_heap P) s.heap && namesBound progP s.heap && gensDone s && laidKept (boot_heap P) s.heap, PySem.W.Fast.tw4187177175401517315 viewQ looseQ (importedModules progP.main.body) hXt true s)
def RunAt (w : World) : Prop := ∀ os, (topRunT PySem.W.Fast.tw14364793385576792824 progP w 11 (some (.ref 6)) 4344 (startT w.params os) (topStub progP)).map (fun s => looksAt w.params s.abs) = some (true, openGood viewQ looseQ)
theorem runF (w : World) : RunAt (w.withFollow "special-get-raises" false) := fun os => by kernel_rfl
theorem runT (w : World) : RunAt (w.withFollow "special-get-raises" true) := fun os => by kernel_rfl
theorem runQ : ∀ w, RunAt w := byRow2 (P := RunAt) "special-get-raises" runF runT
theorem bootQ : ∀ w : World, (fencedOpening treeTable progP w 4344).map (fun s => (s.heap, s.gens, s.drawn, s.toks)) = some (boot_heap w.params, Array.mk [], boot_drawn, boot_toks) :=
  boot_open (by kernel_rfl) (by kernel_rfl) (fun s => by kernel_rfl)
theorem bootS (P : Params) : ((boot_heap P).isNs mainGlobals && (Array.mk [] : Array GenState).size == 0, (boot_heap P).objs.size, (boot_heap P).nsMap mainGlobals "__annotations__") = (true, 11, some (.ref 6)) := by kernel_rfl
theorem leftQ : LeftO progP viewQ looseQ hXt (fun _ => ()) (fun _ => ()) 4344 := fun w => by
  obtain ⟨⟨h, gs, d, k, os⟩, e, e'⟩ := Option.map_eq_some_iff.mp (bootQ w)
  obtain ⟨rfl, rfl, rfl, rfl⟩ : h = boot_heap w.params ∧ gs = Array.mk [] ∧ d = boot_drawn ∧ k = boot_toks := by simpa using e'
  obtain ⟨z1, z2, z3⟩ : _ ∧ _ ∧ _ := by simpa only [Prod.mk.injEq] using bootS w.params
  obtain ⟨s', hr, hl⟩ := Option.map_eq_some_iff.mp (runQ w os)
  obtain ⟨l1, l2⟩ := Prod.mk.inj hl
  have r := topRunT_of hr
  rw [startT_abs, ← q_table] at r
  rw [← q_seen] at l2
  have t : topFrom treeTable progP w 4344 ⟨boot_heap w.params, Array.mk [], boot_drawn, boot_toks, os⟩ = some s'.abs := by
    unfold topFrom
    dsimp only
    rw [z1, z2, z3, r]
    show (match staticsOk (importedModules progP.main.body) (boot_heap w.params) s'.abs.heap && namesBound progP s'.abs.heap && gensDone s'.abs && laidKept (boot_heap w.params) s'.abs.heap with | true => _ | false => _) = _
    rw [l1]
  unfold openEnds
  rw [e]
  show (topFrom treeTable progP w 4344 _).map _ = _
  rw [t]
  exact congrArg some (Prod.ext l2 rfl)
theorem q_said : OpenLaw.wellSaid = PySem.W.Fast.tw9446332074065402090 := PySem.W.Fast.te9446332074065402090
theorem saidT : PySem.W.Fast.tw9446332074065402090 PySem.Challenge.rw_wf0053_01 = true := by kernel_rfl
theorem saidQ : PySem.Challenge.rw_wf0053_01.wellSaid = true := by rw [q_said]; exact saidT
theorem bareQ : progP.bare := ⟨rfl, rfl, rfl, rfl, rfl, by kernel_rfl⟩
end Mine

/-! part M1 -/
namespace Mine
inductive SV where
  | none | bool (b : Bool) | int (i : Int) | str (x : Str) | strT (x : Str) (lo hi : Nat)
def SV.is : SV → Value → Prop
  | .none, v => v = .none
  | .bool b, v => v = .bool b
  | .int i, v => ∃ t, v = .int i t
  | .str x, v => ∃ t, v = .str x t
  | .strT x lo hi, v => ∃ t, v = .str x t ∧ lo ≤ t ∧ t < hi
inductive AV where
  | sv (x : SV) | obj (k : Nat) | con (v : Value)
def AV.is (as : List Addr) : AV → Value → Prop
  | .sv x, v => x.is v
  | .obj k, v => ∃ a, as[k]? = some a ∧ v = .ref a
  | .con w, v => v = w
abbrev AV.int (i : Int) : AV := .sv (.int i)
abbrev AV.str (x : Str) : AV := .sv (.str x)
abbrev AV.bool (b : Bool) : AV := .sv (.bool b)
abbrev AV.none : AV := .sv .none
def Are (l : List SV) (vs : List Value) : Prop := vs.length = l.length ∧ ∀ (i : Nat) x, l[i]? = some x → ∃ v, vs[i]? = some v ∧ x.is v
structure AO where
  own : Bool
  pl : Bool
  its : List SV
structure St where
  loc : List (Str × AV)
  H : List AO
  lo : Nat := 0
def St.put (σ : St) (x : Str) (v : AV) : St := ⟨(x, v) :: σ.loc, σ.H, σ.lo⟩
def St.push (σ : St) (o : AO) : St := ⟨σ.loc, σ.H ++ [o], σ.lo⟩
def St.upd (σ : St) (k : Nat) (o : AO) : St := ⟨σ.loc, σ.H.set k o, σ.lo⟩
def Own (σ : St) (k : Nat) : Prop := ∃ o, σ.H[k]? = some o ∧ o.own = true
structure Top0 where
  B : Heap
  mg : Str → Option Value
  mb : Str → Option Value
  g : B.Ns mainGlobals mg
  b : B.Ns builtinsNs mb
  nolim : B.NoLimit
  bt : ∀ x : Str, x ≠ "__name__" → mb x = bootBuiltins x
  nb : NoneBooked B
structure Cx (w : World) (T : Top0) where
  A : Around
  g : Heap
  env : Env
  room : Nat
  fz : Bool
  hk : env.scope.kind = .function
  hgl : env.globals = mainGlobals
  hbl : env.builtins = builtinsNs
  hh : A.handled = .none
  hg : ∀ b o, T.B.get? b = some o → g.get? b = some o
  hgs : T.B.objs.size ≤ g.objs.size
  hd : A.depth + room < recursionLimit
  hu : A.units + 8 * room < cLine
variable {w : World} {T : Top0}
inductive Loads (env : Env) (m : Str → Option Value) (h : Heap) (x : Str) (v : Value) : Prop
  | loc : env.kindOf x = some .local → m x = some v → Loads env m h x v
  | cell (c : Addr) : env.kindOf x = some .cell → env.cells.lookup x = some c → h.IsCell c (some v) → Loads env m h x v
  | free (c : Addr) : env.kindOf x = some .free → (x == ("__classdict__" : Str)) = false → env.cells.lookup x = some c → h.IsCell c (some v) → Loads env m h x v
structure Rel {w : World} {T : Top0} (Γ : Cx w T) (σ : St) (as : List Addr) (s : Shared) : Prop where
  fr : ∃ m, Fr Γ.g Γ.env.locals s.heap m ∧ ∀ x v, σ.loc.lookup x = some v → ∃ u, Loads Γ.env m s.heap x u ∧ v.is as u
  len : as.length = σ.H.length
  objs : ∀ (k : Nat) a o, as[k]? = some a → σ.H[k]? = some o → ∃ vs : List Value, s.heap.IsList a vs.toArray ∧ Are o.its vs ∧ (o.own = true → Γ.g.get? a = none) ∧ (o.pl = true → s.heap.PlainList a vs.toArray)
  apart : ∀ (k j : Nat) a, as[k]? = some a → as[j]? = some a → Own σ k → k = j
  low : σ.lo ≤ s.toks
  cells : ∀ x c, Γ.env.cells.lookup x = some c → ∃ v, s.heap.IsCell c v
def GKeep (a b : Array GenState) : Prop := ∀ (i : Nat) x, a[i]? = some x → b[i]? = some x
structure After {w : World} {T : Top0} (Γ : Cx w T) (σ : St) (as : List Addr) (s : Shared) (σ' : St) (as' : List Addr) (s' : Shared) : Prop where
  ext : ∃ t, as' = as ++ t
  rel : Rel Γ σ' as' s'
  kept : ∀ b o, b ≠ Γ.env.locals → (∀ k : Nat, Own σ k → as[k]? ≠ some b) → s.heap.get? b = some o → s'.heap.get? b = some o
  own : ∀ (k : Nat) a, as'[k]? = some a → Own σ' k → (as[k]? = some a ∧ Own σ k) ∨ s.heap.get? a = none
  newer : ∀ (k : Nat) a, as'[k]? = some a → as[k]? = some a ∨ s.heap.get? a = none
  size : s.heap.objs.size ≤ s'.heap.objs.size
  gens : GKeep s.gens s'.gens
  bare : AllBare s.gens → AllBare s'.gens
  os : s'.os = s.os
  toks : s.toks ≤ s'.toks
  still : Γ.fz = true → Keeps s s'
abbrev M (w : World) : Model := model Challenge.pw_wf0053_01 w
theorem GKeep.refl (a : Array GenState) : GKeep a a := fun _ _ h => h
theorem GKeep.trans {a b c : Array GenState} (x : GKeep a b) (y : GKeep b c) : GKeep a c := fun i z h => y i z (x i z h)
theorem get_size_none (h : Heap) : h.get? h.objs.size = none := by
  cases e : h.get? h.objs.size with
  | none => rfl
  | some o => exact absurd (Heap.lt_size e) (Nat.lt_irrefl _)
theorem keeps_refl (s : Shared) : Keeps s s := ⟨s.heap, s.toks, rfl, fun _ _ h => h⟩
theorem keeps_trans {s s' s'' : Shared} (x : Keeps s s') (y : Keeps s' s'') : Keeps s s'' := by
  obtain ⟨h, t, rfl, k⟩ := x
  obtain ⟨h', t', rfl, k'⟩ := y
  exact ⟨h', t', rfl, fun b o e => k' b o (k b o e)⟩
theorem list_ne_locals {Γ : Cx w T} {m} {h : Heap} {a : Addr} {vs} (F : Fr Γ.g Γ.env.locals h m) (l : h.IsList a vs) : a ≠ Γ.env.locals := by
  rintro rfl
  obtain ⟨o, es, ep, ho, hd, _⟩ := F.ns
  obtain ⟨o', ho', _, n, hd'⟩ := l
  rw [ho] at ho'
  cases ho'
  rw [hd] at hd'
  cases hd'
theorem cell_ne_locals {Γ : Cx w T} {m} {h : Heap} {a : Addr} {v} (F : Fr Γ.g Γ.env.locals h m) (l : h.IsCell a v) : a ≠ Γ.env.locals := by
  rintro rfl
  obtain ⟨o, es, ep, ho, hd, _⟩ := F.ns
  obtain ⟨o', ho', hd'⟩ := l
  rw [ho] at ho'
  cases ho'
  rw [hd] at hd'
  cases hd'
theorem list_ne_cell {h : Heap} {a c : Addr} {v vs} (l : h.IsList a vs) (k : h.IsCell c v) : a ≠ c := by
  rintro rfl
  obtain ⟨o, ho, _, n, hd⟩ := l
  obtain ⟨o', ho', hd'⟩ := k
  rw [ho] at ho'
  cases ho'
  rw [hd] at hd'
  cases hd'
theorem AV.is_ext {as t : List Addr} {v : AV} {u : Value} (h : v.is as u) : v.is (as ++ t) u := by
  cases v with
  | sv x => exact h
  | con w => exact h
  | obj k =>
    obtain ⟨a, ha, e⟩ := h
    have hl : k < as.length := (List.getElem?_eq_some_iff.mp ha).1
    exact ⟨a, by rw [List.getElem?_append_left hl]; exact ha, e⟩
theorem AV.is_of_ext {as as' : List Addr} {v : AV} {u : Value} (h : v.is as u) (e : ∃ t, as' = as ++ t) : v.is as' u := by
  obtain ⟨t, rfl⟩ := e; exact AV.is_ext h
section
variable {Γ : Cx w T} {σ σ' σ'' : St} {as as' as'' : List Addr} {s s' s'' : Shared}
theorem Rel.own_ne_locals (r : Rel Γ σ as s) {k : Nat} {a : Addr} (ha : as[k]? = some a) (ho : Own σ k) : a ≠ Γ.env.locals := by
  obtain ⟨o, ho, _⟩ := ho
  obtain ⟨vs, h1, _⟩ := r.objs k a o ha ho
  obtain ⟨m, F, _⟩ := r.fr
  exact list_ne_locals F h1
theorem Rel.own_fresh (r : Rel Γ σ as s) {k : Nat} {a : Addr} (ha : as[k]? = some a) (ho : Own σ k) : Γ.g.get? a = none := by
  obtain ⟨o, ho, hb⟩ := ho
  obtain ⟨vs, _, _, h, _⟩ := r.objs k a o ha ho
  exact h hb
theorem Rel.own_not_cell (r : Rel Γ σ as s) {k : Nat} {a c : Addr} {v} (ha : as[k]? = some a) (ho : Own σ k) (hc : s.heap.IsCell c v) : a ≠ c := by
  obtain ⟨o, ho, hb⟩ := ho
  obtain ⟨vs, hl, _⟩ := r.objs k a o ha ho
  exact list_ne_cell hl hc
/-- the base is in every heap of the frame -/
theorem Rel.base (r : Rel Γ σ as s) : ∀ b o, T.B.get? b = some o → s.heap.get? b = some o := by
  obtain ⟨m, F, _⟩ := r.fr
  exact fun b o h => F.keep b o (Γ.hg b o h)
theorem Rel.bsize (r : Rel Γ σ as s) : T.B.objs.size ≤ s.heap.objs.size := by
  obtain ⟨m, F, _⟩ := r.fr
  exact Nat.le_trans Γ.hgs (Nat.le_of_lt (Nat.lt_of_le_of_lt F.above F.ns.lt))
theorem After.refl (r : Rel Γ σ as s) : After Γ σ as s σ as s :=
  ⟨⟨[], by simp⟩, r, fun _ _ _ _ h => h, fun k a ha ho => .inl ⟨ha, ho⟩, fun k a h => .inl h, Nat.le_refl _, .refl _, id, rfl, Nat.le_refl _, fun _ => keeps_refl s⟩
theorem After.dom (x : After Γ σ as s σ' as' s') {b : Addr} (h : s'.heap.get? b = none) : s.heap.get? b = none := by
  cases e : s.heap.get? b with
  | none => rfl
  | some o =>
    exfalso
    by_cases hL : b = Γ.env.locals
    · obtain ⟨m, F, _⟩ := x.rel.fr
      obtain ⟨o', _, _, ho, _⟩ := F.ns
      rw [← hL, h] at ho; cases ho
    · by_cases hO : ∃ k : Nat, Own σ k ∧ as[k]? = some b
      · obtain ⟨k, _, hk⟩ := hO
        obtain ⟨t, rfl⟩ := x.ext
        have hk' : (as ++ t)[k]? = some b := by rw [List.getElem?_append_left (List.getElem?_eq_some_iff.mp hk).1]; exact hk
        have hlt : k < σ'.H.length := by rw [← x.rel.len]; exact (List.getElem?_eq_some_iff.mp hk').1
        obtain ⟨vs, ⟨o', ho', _⟩, _⟩ := x.rel.objs k b σ'.H[k] hk' (by simp)
        rw [h] at ho'; cases ho'
      · have := x.kept b o hL (fun k hk he => hO ⟨k, hk, he⟩) e
        rw [h] at this; cases this
theorem After.trans (x : After Γ σ as s σ' as' s') (y : After Γ σ' as' s' σ'' as'' s'') : After Γ σ as s σ'' as'' s'' := by
  obtain ⟨t, ht⟩ := x.ext
  obtain ⟨t', ht'⟩ := y.ext
  refine ⟨⟨t ++ t', by rw [ht', ht]; simp⟩, y.rel, fun b o hL hO hb => ?_, fun k a ha ho => ?_, fun k a ha => ?_, Nat.le_trans x.size y.size, x.gens.trans y.gens, fun h => y.bare (x.bare h), y.os.trans x.os, Nat.le_trans x.toks y.toks, fun q => keeps_trans (x.still q) (y.still q)⟩
  · refine y.kept b o hL (fun k hk he => ?_) (x.kept b o hL hO hb)
    rcases x.own k b he hk with ⟨h1, h2⟩ | h
    · exact hO k h2 h1
    · rw [hb] at h; cases h
  · rcases y.own k a ha ho with ⟨h1, h2⟩ | h
    · exact x.own k a h1 h2
    · exact .inr (x.dom h)
  · rcases y.newer k a ha with h | h
    · exact x.newer k a h
    · exact .inr (x.dom h)
/-- a heap that keeps all of the old one keeps the relation -/
theorem Rel.keeps (r : Rel Γ σ as s) (hk : ∀ b o, s.heap.get? b = some o → s'.heap.get? b = some o) (ht : s.toks ≤ s'.toks) : Rel Γ σ as s' := by
  obtain ⟨m, F, hm⟩ := r.fr
  refine ⟨⟨m, F.keeps hk, fun x v hx => ?_⟩, r.len, fun k a o ha ho => ?_, r.apart, Nat.le_trans r.low ht, fun x c h => let ⟨v, hv⟩ := r.cells x c h; ⟨v, hv.keeps hk⟩⟩
  · obtain ⟨u, hl, hv⟩ := hm x v hx
    refine ⟨u, ?_, hv⟩
    cases hl with
    | loc a b => exact .loc a b
    | cell c a b d => exact .cell c a b (d.keeps hk)
    | free c a n b d => exact .free c a n b (d.keeps hk)
  · obtain ⟨vs, ⟨o', h1, h2⟩, h3, h4, h5⟩ := r.objs k a o ha ho
    exact ⟨vs, ⟨o', hk _ _ h1, h2⟩, h3, h4, fun q => (h5 q).at fun o e => hk _ _ e⟩
structure Grown (fz : Bool) (s s' : Shared) : Prop where
  keep : ∀ b o, s.heap.get? b = some o → s'.heap.get? b = some o
  size : s.heap.objs.size ≤ s'.heap.objs.size
  gens : GKeep s.gens s'.gens
  bare : AllBare s.gens → AllBare s'.gens
  os : s'.os = s.os
  toks : s.toks ≤ s'.toks
  still : fz = true → Keeps s s'
variable {fz : Bool}
theorem Grown.heap {h' : Heap} {t : Nat} (hk : ∀ b o, s.heap.get? b = some o → h'.get? b = some o) (hs : s.heap.objs.size ≤ h'.objs.size) (ht : s.toks ≤ t) : Grown fz s { s with heap := h', toks := t } :=
  ⟨hk, hs, .refl _, id, rfl, ht, fun _ => ⟨h', t, rfl, hk⟩⟩
theorem Grown.tok (s : Shared) {t : Nat} (h : s.toks ≤ t) : Grown fz s { s with toks := t } := Grown.heap (fun _ _ h => h) (Nat.le_refl _) h
theorem Grown.push (s : Shared) (o : Obj) : Grown fz s { s with heap := s.heap.push o } :=
  Grown.heap (fun _ _ h => Heap.get?_push_of_some _ h) (by rw [Heap.size_push]; exact Nat.le_succ _) (Nat.le_refl _)
theorem After.grown (r : Rel Γ σ as s) (x : Grown Γ.fz s s') : After Γ σ as s σ as s' :=
  ⟨⟨[], by simp⟩, r.keeps x.keep x.toks, fun b o _ _ h => x.keep b o h, fun k a ha ho => .inl ⟨ha, ho⟩, fun k a h => .inl h, x.size, x.gens, x.bare, x.os, x.toks, x.still⟩
theorem After.tok (r : Rel Γ σ as s) {t : Nat} (h : s.toks ≤ t) : After Γ σ as s σ as { s with toks := t } := After.grown r (.tok s h)
/-- a list that is new joins the state -/
theorem After.add (y : After Γ σ as s σ' as' s') {a : Addr} {vs : List Value} {its : List SV} (own pl : Bool) (hn : s.heap.get? a = none) (hna : ∀ k : Nat, as'[k]? ≠ some a) (hg : Γ.g.get? a = none) (hl : s'.heap.IsList a vs.toArray) (hv : Are its vs) (hp : pl = true → s'.heap.PlainList a vs.toArray) :
    After Γ σ as s ⟨σ'.loc, σ'.H ++ [⟨own, pl, its⟩], σ'.lo⟩ (as' ++ [a]) s' := by
  have q := y.rel
  have ownOld : ∀ k : Nat, k < σ'.H.length → Own ⟨σ'.loc, σ'.H ++ [⟨own, pl, its⟩], σ'.lo⟩ k → Own σ' k := fun k hk ⟨o, ho, hb⟩ => ⟨o, by rw [← ho]; exact (List.getElem?_append_left hk).symm, hb⟩
  obtain ⟨m, F, hm⟩ := q.fr
  have last : ∀ (k : Nat) b, as'.length ≤ k → (as' ++ [a])[k]? = some b → k = as'.length ∧ b = a := fun k b hk hb => by
    rw [List.getElem?_append_right hk] at hb
    have h0 : k - as'.length = 0 := by
      have := (List.getElem?_eq_some_iff.mp hb).1
      simp at this; omega
    rw [h0] at hb
    simp at hb
    exact ⟨by omega, hb.symm⟩
  refine ⟨?_, ⟨⟨m, F, fun x v hx => ?_⟩, by simp [q.len], fun k b o hb ho => ?_, fun k j b hk hj ho => ?_, q.low, q.cells⟩, y.kept, fun k b hb ho => ?_, fun k b hb => ?_, y.size, y.gens, y.bare, y.os, y.toks, y.still⟩
  · obtain ⟨t, ht⟩ := y.ext
    exact ⟨t ++ [a], by rw [ht]; simp⟩
  · obtain ⟨u, h1, h2⟩ := hm x v hx
    exact ⟨u, h1, AV.is_ext h2⟩
  · rcases Nat.lt_or_ge k as'.length with hk | hk
    · rw [List.getElem?_append_left hk] at hb
      rw [List.getElem?_append_left (q.len ▸ hk)] at ho
      exact q.objs k b o hb ho
    · obtain ⟨rfl, rfl⟩ := last k b hk hb
      rw [List.getElem?_append_right (Nat.le_of_eq q.len.symm), q.len] at ho
      simp at ho
      subst ho
      exact ⟨vs, hl, hv, fun _ => hg, hp⟩
  · rcases Nat.lt_or_ge k as'.length with hk' | hk' <;> rcases Nat.lt_or_ge j as'.length with hj' | hj'
    · rw [List.getElem?_append_left hk'] at hk
      rw [List.getElem?_append_left hj'] at hj
      exact q.apart k j b hk hj (ownOld k (q.len ▸ hk') ho)
    · rw [List.getElem?_append_left hk'] at hk
      obtain ⟨_, rfl⟩ := last j b hj' hj
      exact absurd hk (hna k)
    · rw [List.getElem?_append_left hj'] at hj
      obtain ⟨_, rfl⟩ := last k b hk' hk
      exact absurd hj (hna j)
    · rw [(last k b hk' hk).1, (last j b hj' hj).1]
  · rcases Nat.lt_or_ge k as'.length with hk | hk
    · rw [List.getElem?_append_left hk] at hb
      exact y.own k b hb (ownOld k (q.len ▸ hk) ho)
    · obtain ⟨_, rfl⟩ := last k b hk hb
      exact .inr hn
  · rcases Nat.lt_or_ge k as'.length with hk | hk
    · rw [List.getElem?_append_left hk] at hb
      exact y.newer k b hb
    · obtain ⟨_, rfl⟩ := last k b hk hb
      exact .inr hn
theorem After.join (r : Rel Γ σ as s) (x : Grown Γ.fz s s') {a : Addr} {vs : List Value} {its : List SV} (own pl : Bool) (hn : s.heap.get? a = none) (hl : s'.heap.IsList a vs.toArray) (hv : Are its vs) (hp : pl = true → s'.heap.PlainList a vs.toArray) :
    After Γ σ as s ⟨σ.loc, σ.H ++ [⟨own, pl, its⟩], σ.lo⟩ (as ++ [a]) s' := by
  refine (After.grown r x).add own pl hn (fun k hk => ?_) ?_ hl hv hp
  · have hlt : k < σ.H.length := by rw [← r.len]; exact (List.getElem?_eq_some_iff.mp hk).1
    obtain ⟨vs, ⟨o, ho, _⟩, _⟩ := r.objs k a σ.H[k] hk (by simp)
    rw [hn] at ho; cases ho
  · cases e : Γ.g.get? a with
    | none => rfl
    | some o =>
      obtain ⟨m', F', _⟩ := r.fr
      have := F'.keep a o e
      rw [hn] at this; cases this
/-- an own list changes -/
theorem After.setObj (hfz : Γ.fz = false) (r : Rel Γ σ as s) {k : Nat} {a : Addr} {o : AO} {h' : Heap} {its' : List SV} {vs' : List Value} (ha : as[k]? = some a) (ho : σ.H[k]? = some o) (hown : o.own = true)
    (hs : Heap.SameBut a s.heap h') (pl : Bool) (hl : h'.IsList a vs'.toArray) (hv : Are its' vs') (hp : pl = true → h'.PlainList a vs'.toArray) {tk : Nat} (htk : s.toks ≤ tk) :
    After Γ σ as s ⟨σ.loc, σ.H.set k ⟨true, pl, its'⟩, σ.lo⟩ as { s with heap := h', toks := tk } := by
  have hO : Own σ k := ⟨o, ho, hown⟩
  have hk : k < σ.H.length := (List.getElem?_eq_some_iff.mp ho).1
  have keep : ∀ b o, b ≠ a → s.heap.get? b = some o → h'.get? b = some o := fun b o hb e => (hs.2 b hb).trans e
  have hL := r.own_ne_locals ha hO
  have hg := r.own_fresh ha hO
  have ownSame : ∀ j : Nat, Own ⟨σ.loc, σ.H.set k ⟨true, pl, its'⟩, σ.lo⟩ j → Own σ j := fun j ⟨o', h1, h2⟩ => by
    by_cases e : k = j
    · subst e; exact hO
    · rw [List.getElem?_set_ne e] at h1
      exact ⟨o', h1, h2⟩
  obtain ⟨m, F, hm⟩ := r.fr
  refine ⟨⟨[], by simp⟩, ⟨⟨m, ⟨F.ns.at' fun o e => keep _ o (Ne.symm hL) e, fun b o e => keep b o (fun q => by rw [q, hg] at e; cases e) (F.keep b o e), F.above⟩, fun x v hx => ?_⟩, by simp [r.len], fun j b o' hb hb' => ?_, fun j j' b h1 h2 h3 => r.apart j j' b h1 h2 (ownSame j h3), Nat.le_trans r.low htk, fun x c h => let ⟨v, hv⟩ := r.cells x c h; ⟨v, hv.sameBut hs (Ne.symm (r.own_not_cell ha hO hv))⟩⟩,
    fun b o' _ hno e => keep b o' (fun q => hno k hO (q ▸ ha)) e, fun j b hb hj => .inl ⟨hb, ownSame j hj⟩, fun j b hb => .inl hb, Nat.le_of_eq hs.1.symm, .refl _, id, rfl, htk, fun q => by rw [hfz] at q; cases q⟩
  · obtain ⟨u, hld, hvu⟩ := hm x v hx
    refine ⟨u, ?_, hvu⟩
    cases hld with
    | loc p q => exact .loc p q
    | cell c p q d => exact .cell c p q (d.sameBut hs (Ne.symm (r.own_not_cell ha hO d)))
    | free c p n q d => exact .free c p n q (d.sameBut hs (Ne.symm (r.own_not_cell ha hO d)))
  · by_cases e : k = j
    · subst e
      rw [ha] at hb; cases hb
      rw [List.getElem?_set_self hk] at hb'
      cases hb'
      exact ⟨vs', hl, hv, fun _ => hg, hp⟩
    · rw [List.getElem?_set_ne e] at hb'
      obtain ⟨vs, ⟨o₁, h1, h2⟩, h3, h4, h5⟩ := r.objs j b o' hb hb'
      have hne : b ≠ a := fun q => e (r.apart k j a ha (q ▸ hb) hO)
      exact ⟨vs, ⟨o₁, keep b o₁ hne h1, h2⟩, h3, h4, fun q => (h5 q).at fun o e => keep b o hne e⟩
/-- a local is stored -/
theorem After.store (hfz : Γ.fz = false) (r : Rel Γ σ as s) {x : Str} {v : AV} {u : Value} (hx : Γ.env.kindOf x = some .local) (hv : v.is as u) {h' : Heap} {tk : Nat} {m : Str → Option Value} (F : Fr Γ.g Γ.env.locals s.heap m)
    (hm : ∀ x v, σ.loc.lookup x = some v → ∃ u, Loads Γ.env m s.heap x u ∧ v.is as u)
    (hn : h'.Ns Γ.env.locals (fun y => if y = x then some u else m y)) (hs : Heap.SameBut Γ.env.locals s.heap h') (htk : s.toks ≤ tk) :
    After Γ σ as s ⟨(x, v) :: σ.loc, σ.H, σ.lo⟩ as { s with heap := h', toks := tk } := by
  have keep : ∀ b o, b ≠ Γ.env.locals → s.heap.get? b = some o → h'.get? b = some o := fun b o hb e => (hs.2 b hb).trans e
  refine ⟨⟨[], by simp⟩, ⟨⟨_, F.set hn hs, fun y z hy => ?_⟩, r.len, fun j b o hb ho => ?_, r.apart, Nat.le_trans r.low htk, fun x c h => let ⟨v, hv⟩ := r.cells x c h; ⟨v, hv.sameBut hs (cell_ne_locals F hv)⟩⟩, fun b o hb _ e => keep b o hb e, fun j b hb hj => .inl ⟨hb, hj⟩, fun j b hb => .inl hb, Nat.le_of_eq hs.1.symm, .refl _, id, rfl, htk, fun q => by rw [hfz] at q; cases q⟩
  · by_cases e : y = x
    · subst e
      simp only [List.lookup_cons, beq_self_eq_true] at hy
      cases hy
      exact ⟨u, .loc hx (by simp), hv⟩
    · have hb : (y == x) = false := beq_eq_false_iff_ne.mpr e
      simp only [List.lookup_cons, hb] at hy
      obtain ⟨w, hld, hw⟩ := hm y z hy
      refine ⟨w, ?_, hw⟩
      cases hld with
      | loc p q => exact .loc p (by simp [e, q])
      | cell c p q d => exact .cell c p q (d.sameBut hs (cell_ne_locals F d))
      | free c p n q d => exact .free c p n q (d.sameBut hs (cell_ne_locals F d))
  · obtain ⟨vs, ⟨o₁, h1, h2⟩, h3, h4, h5⟩ := r.objs j b o hb ho
    have hne := list_ne_locals F ⟨o₁, h1, h2⟩
    exact ⟨vs, ⟨o₁, keep b o₁ hne h1, h2⟩, h3, h4, fun q => (h5 q).at fun o e => keep b o hne e⟩
end
end Mine

/-! part M2 -/
namespace Mine
variable {w : World} {T : Top0}
def Post {α β : Type} (Γ : Cx w T) (σ : St) (as : List Addr) (s : Shared) (R : List Addr → β → α → Prop) (Q : β → St → Prop) : α → Shared → Prop :=
  fun v s' => ∃ b σ' as', R as' b v ∧ After Γ σ as s σ' as' s' ∧ Q b σ'
def Never : Value → Shared → Prop := fun _ _ => False
theorem Post.after {α β : Type} {Γ : Cx w T} {σ σ₁ : St} {as as₁ : List Addr} {s s₁ : Shared} {R : List Addr → β → α → Prop} {Q : β → St → Prop} (x : After Γ σ as s σ₁ as₁ s₁) {v : α} {s' : Shared}
    (h : Post Γ σ₁ as₁ s₁ R Q v s') : Post Γ σ as s R Q v s' :=
  let ⟨b, σ', as', h1, h2, h3⟩ := h; ⟨b, σ', as', h1, x.trans h2, h3⟩
theorem wpAny_after {α β : Type} {Γ : Cx w T} {σ σ₁ : St} {as as₁ : List Addr} {s s₁ : Shared} {R : List Addr → β → α → Prop} {Q : β → St → Prop} (x : After Γ σ as s σ₁ as₁ s₁) {t : Sem α} {M : Model} {A : Around}
    (h : wpAny M A t (Post Γ σ₁ as₁ s₁ R Q) Never s₁) : wpAny M A t (Post Γ σ as s R Q) Never s₁ :=
  wpAny_mono h (fun _ _ h => h.after x) fun _ _ h => h
theorem wpAny_never {α : Type} {M : Model} {A : Around} {t : Sem α} {Q : α → Shared → Prop} {E : Value → Shared → Prop} {s : Shared} (h : wpAny M A t Q Never s) : wpAny M A t Q E s :=
  wpAny_mono h (fun _ _ h => h) fun _ _ h => h.elim
def EvE (Γ : Cx w T) (e : Expr) (σ : St) (Q : AV → St → Prop) : Prop :=
  ∀ s as, Rel Γ σ as s → wpAny (M w) Γ.A (eval e Γ.env) (Post Γ σ as s AV.is Q) Never s
def EvB (Γ : Cx w T) (e : Expr) (σ : St) (Q : Bool → St → Prop) : Prop :=
  ∀ s as, Rel Γ σ as s → wpAny (M w) Γ.A (isTrue e Γ.env (eval e Γ.env)) (Post Γ σ as s (fun _ b v => b = v) Q) Never s
def Op1 (Γ : Cx w T) {β γ : Type} (R : List Addr → β → γ → Prop) (f : Value → Sem γ) (a : AV) (σ : St) (Q : β → St → Prop) : Prop :=
  ∀ s as x, Rel Γ σ as s → a.is as x → wpAny (M w) Γ.A (f x) (Post Γ σ as s R Q) Never s
def Op2 (Γ : Cx w T) {β γ : Type} (R : List Addr → β → γ → Prop) (f : Value → Value → Sem γ) (a b : AV) (σ : St) (Q : β → St → Prop) : Prop :=
  ∀ s as x y, Rel Γ σ as s → a.is as x → b.is as y → wpAny (M w) Γ.A (f x y) (Post Γ σ as s R Q) Never s
def AreA (as : List Addr) : List AV → List Value → Prop
  | [], [] => True
  | a :: l, v :: vs => a.is as v ∧ AreA as l vs
  | _, _ => False
def EvL (Γ : Cx w T) (es : List Expr) (σ : St) (Q : List AV → St → Prop) : Prop :=
  ∀ (pos : Pos) s as, Rel Γ σ as s → wpAny (M w) Γ.A (spliced (backTo pos (starEach es Γ.env))) (Post Γ σ as s AreA Q) Never s
def OpL (Γ : Cx w T) (f : List Value → Sem Value) (l : List AV) (σ : St) (Q : AV → St → Prop) : Prop :=
  ∀ s as vs, Rel Γ σ as s → AreA as l vs → wpAny (M w) Γ.A (f vs) (Post Γ σ as s AV.is Q) Never s
inductive AF where
  | next | brk | cont | ret (v : AV)
def AF.is (as : List Addr) : AF → Flow → Prop
  | .next, f => f = .next
  | .brk, f => f = .brk
  | .cont, f => f = .cont
  | .ret v, f => ∃ u, f = .ret u ∧ v.is as u
def ExC (Γ : Cx w T) (st : Stmt) (σ : St) (Q : AF → St → Prop) : Prop :=
  ∀ s as, Rel Γ σ as s → wpAny (M w) Γ.A (exec st Γ.env) (Post Γ σ as s AF.is Q) Never s
def ExS (Γ : Cx w T) (ss : List Stmt) (σ : St) (Q : AF → St → Prop) : Prop :=
  ∀ s as, Rel Γ σ as s → wpAny (M w) Γ.A (execs ss Γ.env) (Post Γ σ as s AF.is Q) Never s
section
variable {Γ : Cx w T} {σ : St}
/-! statements -/
theorem exs_nil {Q : AF → St → Prop} (h : Q .next σ) : ExS Γ [] σ Q := fun s as r =>
  wpAny_execs_nil ⟨.next, σ, as, rfl, .refl r, h⟩
theorem exs_cons {st : Stmt} {rest : List Stmt} {Q : AF → St → Prop} (h : ExC Γ st σ (fun f σ' => match f with | .next => ExS Γ rest σ' Q | f => Q f σ')) : ExS Γ (st :: rest) σ Q := fun s as r => by
  refine wpAny_execs_cons (wpAny_mono (h s as r) (fun f s' hf => ?_) fun _ _ h => h)
  obtain ⟨b, σ', as', hb, hA, hq⟩ := hf
  cases b with
  | next => cases hb; exact wpAny_after hA (hq _ _ hA.rel)
  | brk => cases hb; exact ⟨.brk, _, _, rfl, hA, hq⟩
  | cont => cases hb; exact ⟨.cont, _, _, rfl, hA, hq⟩
  | ret v =>
    obtain ⟨u, rfl, hu⟩ := hb
    exact ⟨.ret v, _, _, ⟨u, rfl, hu⟩, hA, hq⟩
theorem ex_ret {e : Expr} {pos : Pos} {Q : AF → St → Prop} (h : EvE Γ e σ (fun v σ' => Q (.ret v) σ')) : ExC Γ (.Return (some e) pos) σ Q := fun s as r =>
  wpAny_Return_some (wpAny_mono (h s as r) (fun v s' ⟨b, σ', as', hb, hA, hq⟩ => ⟨.ret b, σ', as', ⟨v, rfl, hb⟩, hA, hq⟩) fun _ _ h => h)
theorem ex_break {pos : Pos} {Q : AF → St → Prop} (h : Q .brk σ) : ExC Γ (.Break pos) σ Q := fun s as r => wpAny_Break ⟨.brk, σ, as, rfl, .refl r, h⟩
theorem ex_if {test : Expr} {body orelse : List Stmt} {pos : Pos} {Q : AF → St → Prop} (h : EvB Γ test σ (fun b σ' => if b then ExS Γ body σ' Q else ExS Γ orelse σ' Q)) : ExC Γ (.If test body orelse pos) σ Q := fun s as r => by
  refine wpAny_If (wpAny_mono (h s as r) (fun b s' hb => ?_) fun _ _ h => h)
  obtain ⟨_, σ', as', rfl, hA, hq⟩ := hb
  rename_i c
  cases c with
  | true => exact wpAny_after hA (hq _ _ hA.rel)
  | false => exact wpAny_after hA (hq _ _ hA.rel)
theorem store_ok (hfz : Γ.fz = false) {x : Str} {v : AV} {Q : AF → St → Prop} {s : Shared} {as : List Addr} {u : Value} (hx : Γ.env.kindOf x = some .local) (r : Rel Γ σ as s) (hv : v.is as u) (h : Q .next ⟨(x, v) :: σ.loc, σ.H, σ.lo⟩) :
    wpAny (M w) Γ.A (storeName Γ.env x u) (fun _ => Post Γ σ as s AF.is Q .next) Never s := by
  obtain ⟨m, F, hm⟩ := r.fr
  refine wpAny_storeName_local hx F.ns (fun h' hn hs => ⟨.next, _, as, rfl, After.store hfz r hx hv F hm hn hs (Nat.le_succ _), h⟩) ?_
  show (Γ.env.scope.kind == .class || (Γ.env.scope.kind == .module && _)) = false
  rw [Γ.hk]; rfl
theorem ex_assign (hfz : Γ.fz = false) {x : Str} {px pos : Pos} {e : Expr} {Q : AF → St → Prop} (hx : Γ.env.kindOf x = some .local) (h : EvE Γ e σ (fun v σ' => Q .next (σ'.put x (v))))
    (hs : swapsWith e (some (.Name x px)) pos.line Γ.env = pure false := by rfl) : ExC Γ (.Assign [.Name x px] e pos) σ Q := fun s as r =>
  wpAny_Assign_Name (wpAny_mono (h s as r) (fun v s' ⟨b, σ', as', hb, hA, hq⟩ => wpAny_mono (store_ok hfz hx hA.rel hb hq) (fun _ _ h => h.after hA) fun _ _ h => h) fun _ _ h => h) hs
theorem ex_expr {e : Expr} {pos : Pos} {Q : AF → St → Prop} (h : EvE Γ e σ (fun v σ' => v = .none ∧ Q .next σ')) (hs : swapsWith e none pos.line Γ.env = pure false := by rfl) : ExC Γ (.Expr e pos) σ Q := fun s as r => by
  refine wpAny_Expr (wpAny_mono (h s as r) (fun v s' hv => ?_) fun _ _ h => h) (by show (Γ.env.scope.kind == .module && _) = false; rw [Γ.hk]; rfl) hs
  obtain ⟨b, σ', as', hb, hA, rfl, hq⟩ := hv
  have : v = .none := hb
  subst this
  exact ⟨.next, σ', as', rfl, hA, hq⟩
/-! names -/
theorem lookup_ok {x : Str} {v : AV} {s : Shared} {as : List Addr} {Q : AV → St → Prop} (hx : σ.loc.lookup x = some v) (r : Rel Γ σ as s) (h : Q v σ) : wpAny (M w) Γ.A (loadName Γ.env x) (Post Γ σ as s AV.is Q) Never s := by
  obtain ⟨m, F, hm⟩ := r.fr
  obtain ⟨u, hl, hu⟩ := hm x v hx
  have hp : Post Γ σ as s AV.is Q u s := ⟨v, σ, as, hu, .refl r, h⟩
  cases hl with
  | loc a b => exact wpAny_loadName_local Γ.hk a F.ns b hp
  | cell c a b d => exact wpAny_loadName_cell Γ.hk a b d hp
  | free c a n b d => exact wpAny_loadName_free Γ.hk a b d hp n
theorem ev_name {x : Str} {pos : Pos} {v : AV} {Q : AV → St → Prop} (hx : σ.loc.lookup x = some v) (h : Q v σ) (hd : (x == ("__debug__" : Str)) = false := by decide) : EvE Γ (.Name x pos) σ Q := fun _ _ r =>
  wpAny_Name (lookup_ok hx r h) hd
theorem ev_global {x : Str} {pos : Pos} {u : Value} {v : AV} {Q : AV → St → Prop} (hx : Γ.env.kindOf x = some .globalImplicit) (hg : T.mg x = some u) (hv : ∀ as, v.is as u) (h : Q v σ) (hd : (x == ("__debug__" : Str)) = false := by decide) :
    EvE Γ (.Name x pos) σ Q := fun s as r =>
  Calls.Name_function_global Γ.hk hx (Calls.loadGlobal_global (by rw [Γ.hgl]; exact T.g.keeps r.base) hg ⟨v, σ, as, hv as, .refl r, h⟩) hd
theorem ev_builtin {x : Str} {pos : Pos} {u : Value} {Q : AV → St → Prop} (hx : Γ.env.kindOf x = some .globalImplicit) (hg : T.mg x = none) (hb : bootBuiltins x = some u) (h : Q (.con u) σ) (hn : x ≠ "__name__" := by decide) (hd : (x == ("__debug__" : Str)) = false := by decide) :
    EvE Γ (.Name x pos) σ Q := fun s as r =>
  Calls.Name_function_global Γ.hk hx (Calls.loadGlobal_builtin (by rw [Γ.hgl]; exact T.g.keeps r.base) hg (by rw [Γ.hbl]; exact T.b.keeps r.base) ((T.bt x hn).trans hb) ⟨.con u, σ, as, rfl, .refl r, h⟩) hd
/-! constants -/
theorem ev_int {i : Int} {k : Nat} {pos : Pos} {Q : AV → St → Prop} (h : Q (.int i) σ) : EvE Γ (.Constant (.int i) k pos) σ Q := fun s as r =>
  wpAny_Constant_int ⟨.int i, σ, as, ⟨_, rfl⟩, .tok r (Nat.le_succ _), h⟩
theorem ev_str {x : Str} {k : Nat} {pos : Pos} {Q : AV → St → Prop} (h : Q (.str x) σ) : EvE Γ (.Constant (.str x) k pos) σ Q := fun s as r =>
  wpAny_mkText ⟨.str x, σ, as, ⟨_, rfl⟩, .tok r (Nat.le_succ _), h⟩
theorem ev_none {k : Nat} {pos : Pos} {Q : AV → St → Prop} (h : Q .none σ) : EvE Γ (.Constant .none k pos) σ Q := fun _ as r =>
  wpAny_pure ⟨.none, σ, as, rfl, .refl r, h⟩
theorem ev_bool {b : Bool} {k : Nat} {pos : Pos} {Q : AV → St → Prop} (h : Q (.bool b) σ) : EvE Γ (.Constant (.bool b) k pos) σ Q := fun _ as r =>
  wpAny_pure ⟨.bool b, σ, as, rfl, .refl r, h⟩
/-- a written text whose token is told -/
theorem ev_strT {x : Str} {k : Nat} {pos : Pos} {Q : AV → St → Prop} (h : ∀ hi, σ.lo < hi → Q (.sv (.strT x σ.lo hi)) ⟨σ.loc, σ.H, hi⟩) : EvE Γ (.Constant (.str x) k pos) σ Q := fun s as r => by
  refine wpAny_mkText ⟨.sv (.strT x σ.lo (s.toks + 1)), ⟨σ.loc, σ.H, s.toks + 1⟩, as, ⟨_, rfl, r.low, Nat.lt_succ_self _⟩, ?_, h _ (Nat.lt_succ_of_le r.low)⟩
  have A := After.tok r (Nat.le_succ s.toks)
  exact ⟨A.ext, ⟨A.rel.fr, A.rel.len, A.rel.objs, A.rel.apart, Nat.le_refl _, A.rel.cells⟩, A.kept, A.own, A.newer, A.size, A.gens, A.bare, A.os, A.toks, A.still⟩
/-- a written int, by which the tokens' count is told to have grown -/
theorem ev_intT {i : Int} {k : Nat} {pos : Pos} {Q : AV → St → Prop} (h : Q (.int i) ⟨σ.loc, σ.H, σ.lo + 1⟩) : EvE Γ (.Constant (.int i) k pos) σ Q := fun s as r => by
  refine wpAny_Constant_int ⟨.int i, ⟨σ.loc, σ.H, σ.lo + 1⟩, as, ⟨_, rfl⟩, ?_, h⟩
  have A := After.tok r (Nat.le_succ s.toks)
  exact ⟨A.ext, ⟨A.rel.fr, A.rel.len, A.rel.objs, A.rel.apart, Nat.succ_le_succ r.low, A.rel.cells⟩, A.kept, A.own, A.newer, A.size, A.gens, A.bare, A.os, A.toks, A.still⟩
/-! operations on values -/
theorem ev_bin {l r : Expr} {op : Operator} {pos : Pos} {Q : AV → St → Prop} (h : EvE Γ l σ (fun a σ₁ => EvE Γ r σ₁ (fun b σ₂ => Op2 Γ AV.is (binaryOp op) a b σ₂ Q))) : EvE Γ (.BinOp l op r pos) σ Q := fun s as rr =>
  wpAny_BinOp (wpAny_mono (h s as rr) (fun a s₁ ⟨va, σ₁, as₁, ha, A₁, h₁⟩ => wpAny_mono (h₁ s₁ as₁ A₁.rel) (fun b s₂ ⟨vb, σ₂, as₂, hb, A₂, h₂⟩ =>
    wpAny_after (A₁.trans A₂) (h₂ s₂ as₂ a b A₂.rel (AV.is_of_ext ha A₂.ext) hb)) fun _ _ h => h) fun _ _ h => h)
theorem ev_un {x : Expr} {op : UnaryOp} {pos : Pos} {Q : AV → St → Prop} (h : EvE Γ x σ (fun a σ₁ => Op1 Γ AV.is (unaryOp op) a σ₁ Q)) : EvE Γ (.UnaryOp op x pos) σ Q := fun s as rr =>
  wpAny_UnaryOp (wpAny_mono (h s as rr) (fun a s₁ ⟨va, σ₁, as₁, ha, A₁, h₁⟩ => wpAny_after A₁ (h₁ s₁ as₁ a A₁.rel ha)) fun _ _ h => h)
theorem ev_cmp {l r : Expr} {op : CmpOp} {pos : Pos} {Q : AV → St → Prop} (h : EvE Γ l σ (fun a σ₁ => EvE Γ r σ₁ (fun b σ₂ => Op2 Γ AV.is (compareOp op) a b σ₂ Q))) (hm : behindInMarks op r = false := by with_unfolding_all rfl) : EvE Γ (.Compare l [op] [r] pos) σ Q := fun s as rr =>
  wpAny_Compare1 (wpAny_mono (h s as rr) (fun a s₁ ⟨va, σ₁, as₁, ha, A₁, h₁⟩ => wpAny_mono (h₁ s₁ as₁ A₁.rel) (fun b s₂ ⟨vb, σ₂, as₂, hb, A₂, h₂⟩ =>
    wpAny_after (A₁.trans A₂) (h₂ s₂ as₂ a b A₂.rel (AV.is_of_ext ha A₂.ext) hb)) fun _ _ h => h) fun _ _ h => h) hm
/-- a comparison as a test -/
theorem evb_cmp {l r : Expr} {op : CmpOp} {pos : Pos} {Q : Bool → St → Prop} (h : EvE Γ l σ (fun a σ₁ => EvE Γ r σ₁ (fun b σ₂ => Op2 Γ AV.is (compareOp op) a b σ₂ (fun v σ₃ => ∃ c, v = .bool c ∧ Q c σ₃)))) (hm : behindInMarks op r = false := by with_unfolding_all rfl) : EvB Γ (.Compare l [op] [r] pos) σ Q := fun s as rr =>
  wpAny_isTrue_Compare1 (wpAny_mono (h s as rr) (fun a s₁ ⟨va, σ₁, as₁, ha, A₁, h₁⟩ => wpAny_mono (h₁ s₁ as₁ A₁.rel) (fun b s₂ ⟨vb, σ₂, as₂, hb, A₂, h₂⟩ =>
    wpAny_mono (h₂ s₂ as₂ a b A₂.rel (AV.is_of_ext ha A₂.ext) hb) (fun v s₃ ⟨av, σ₃, as₃, hv, A₃, c, e, hq⟩ => by
      subst e
      have : v = .bool c := hv
      subst this
      exact wpAny_truthy_bool ⟨c, σ₃, as₃, rfl, (A₁.trans A₂).trans A₃, hq⟩) fun _ _ h => h) fun _ _ h => h) fun _ _ h => h) hm
theorem evb_not {x : Expr} {pos : Pos} {Q : Bool → St → Prop} (h : EvB Γ x σ (fun b σ' => Q (!b) σ')) : EvB Γ (.UnaryOp .Not x pos) σ Q := fun s as rr =>
  wpAny_isTrue_Not (wpAny_mono (h s as rr) (fun b s' ⟨b', σ', as', e, A, hq⟩ => ⟨!b, σ', as', rfl, A, by cases e; exact hq⟩) fun _ _ h => h)
/-- any other test: the value's truth -/
theorem evb_val {e : Expr} {Q : Bool → St → Prop} (h : EvE Γ e σ (fun v σ₁ => Op1 Γ (fun _ b v => b = v) truthy v σ₁ Q)) (hs : isTrue e Γ.env (eval e Γ.env) = (do let v ← eval e Γ.env; standAt e.pos; holding [v] (truthy v)) := by rfl) : EvB Γ e σ Q := fun s as rr =>
  wpAny_isTrue_value (wpAny_mono (h s as rr) (fun a s₁ ⟨va, σ₁, as₁, ha, A₁, h₁⟩ => wpAny_after A₁ (h₁ s₁ as₁ a A₁.rel ha)) fun _ _ h => h) hs
def EvT (Γ : Cx w T) (op : BoolOp) (es : List Expr) (σ : St) (Q : Bool → St → Prop) : Prop :=
  ∀ s as, Rel Γ σ as s → wpAny (M w) Γ.A (allTrue op es Γ.env) (Post Γ σ as s (fun _ b v => b = v) Q) Never s
theorem evb_bool {es : List Expr} {op : BoolOp} {pos : Pos} {Q : Bool → St → Prop} (h : EvT Γ op es σ Q) : EvB Γ (.BoolOp op es pos) σ Q := fun s as rr => wpAny_isTrue_BoolOp (h s as rr)
theorem evt_nil {op : BoolOp} {Q : Bool → St → Prop} (h : Q (op == .And) σ) : EvT Γ op [] σ Q := fun s as rr => by
  show wpAny _ _ (pure (op == .And)) _ _ s
  exact wpAny_pure ⟨_, σ, as, rfl, .refl rr, h⟩
theorem evt_or {x : Expr} {r : List Expr} {Q : Bool → St → Prop} (h : EvB Γ x σ (fun b σ' => if b then Q true σ' else EvT Γ .Or r σ' Q)) : EvT Γ .Or (x :: r) σ Q := fun s as rr => by
  refine wpAny_allTrue_Or_cons (wpAny_mono (h s as rr) (fun b s' hb => ?_) fun _ _ h => h)
  obtain ⟨_, σ', as', rfl, A, hq⟩ := hb
  rename_i c
  cases c with
  | true => exact ⟨true, σ', as', rfl, A, hq⟩
  | false => exact wpAny_after A (hq _ _ A.rel)
theorem evt_and {x : Expr} {r : List Expr} {Q : Bool → St → Prop} (h : EvB Γ x σ (fun b σ' => if b then EvT Γ .And r σ' Q else Q false σ')) : EvT Γ .And (x :: r) σ Q := fun s as rr => by
  refine wpAny_allTrue_And_cons (wpAny_mono (h s as rr) (fun b s' hb => ?_) fun _ _ h => h)
  obtain ⟨_, σ', as', rfl, A, hq⟩ := hb
  rename_i c
  cases c with
  | true => exact wpAny_after A (hq _ _ A.rel)
  | false => exact ⟨false, σ', as', rfl, A, hq⟩
/-- x and y, as a value -/
theorem ev_and2 {x y : Expr} {pos : Pos} {Q : AV → St → Prop} (h : EvE Γ x σ (fun v σ₁ => ∃ b, v = .bool b ∧ if b then EvE Γ y σ₁ Q else Q (.bool false) σ₁)) : EvE Γ (.BoolOp .And [x, y] pos) σ Q := fun s as rr => by
  refine wpAny_And2 (wpAny_mono (h s as rr) (fun v s₁ hv => ?_) fun _ _ h => h)
  obtain ⟨va, σ₁, as₁, ha, A₁, b, rfl, hq⟩ := hv
  have : v = .bool b := ha
  subst this
  refine wpAny_truthy_bool ?_
  cases b with
  | true => exact wpAny_after A₁ (hq s₁ as₁ A₁.rel)
  | false => exact ⟨.bool false, σ₁, as₁, rfl, A₁, hq⟩
/-! ints -/
theorem op_tok {β γ : Type} {R : List Addr → β → γ → Prop} {s : Shared} {as : List Addr} {Q : β → St → Prop} {b : β} {v : γ} (r : Rel Γ σ as s) (h : Q b σ) (hv : R as b v) {t : Nat} (ht : s.toks ≤ t) : Post Γ σ as s R Q v { s with toks := t } :=
  ⟨b, σ, as, hv, .tok r ht, h⟩
theorem op_same {β γ : Type} {R : List Addr → β → γ → Prop} {s : Shared} {as : List Addr} {Q : β → St → Prop} {b : β} {v : γ} (r : Rel Γ σ as s) (h : Q b σ) (hv : R as b v) : Post Γ σ as s R Q v s :=
  ⟨b, σ, as, hv, .refl r, h⟩
variable {Q : AV → St → Prop} {a b : Int}
theorem o_add (h : Q (.int (a + b)) σ) : Op2 Γ AV.is (binaryOp .Add) (.int a) (.int b) σ Q := by
  rintro s as _ _ r ⟨t, rfl⟩ ⟨u, rfl⟩; exact P.add_int (op_tok r h ⟨_, rfl⟩ (Nat.le_succ _))
theorem o_sub (h : Q (.int (a - b)) σ) : Op2 Γ AV.is (binaryOp .Sub) (.int a) (.int b) σ Q := by
  rintro s as _ _ r ⟨t, rfl⟩ ⟨u, rfl⟩; exact P.sub_int (op_tok r h ⟨_, rfl⟩ (Nat.le_succ _))
theorem o_mul (h : Q (.int (a * b)) σ) (hm : IntMulOk a b) : Op2 Γ AV.is (binaryOp .Mult) (.int a) (.int b) σ Q := by
  rintro s as _ _ r ⟨t, rfl⟩ ⟨u, rfl⟩; exact mul_int (op_tok r h ⟨_, rfl⟩ (Nat.le_succ _)) hm
theorem o_div (hb : b ≠ 0) (h : Q (.int (a.fdiv b)) σ) (hp : Builtin.divisionGoesByPylong a b = false) : Op2 Γ AV.is (binaryOp .FloorDiv) (.int a) (.int b) σ Q := by
  rintro s as _ _ r ⟨t, rfl⟩ ⟨u, rfl⟩; exact floordiv_int hb (op_tok r h ⟨_, rfl⟩ (Nat.le_succ _)) (.inl hp)
theorem o_mod (hb : b ≠ 0) (h : Q (.int (a.fmod b)) σ) : Op2 Γ AV.is (binaryOp .Mod) (.int a) (.int b) σ Q := by
  rintro s as _ _ r ⟨t, rfl⟩ ⟨u, rfl⟩; exact mod_int' hb (op_tok r h ⟨_, rfl⟩ (Nat.le_succ _))
theorem o_pow (hb : 0 ≤ b) (hf : (Builtin.Int.intBits a : Int) * b ≤ 2 ^ 27) (h : Q (.int (a ^ b.toNat)) σ) : Op2 Γ AV.is (binaryOp .Pow) (.int a) (.int b) σ Q := by
  rintro s as _ _ r ⟨t, rfl⟩ ⟨u, rfl⟩; exact pow_int hb hf (op_tok r h ⟨_, rfl⟩ (Nat.le_succ _))
theorem o_inv (h : Q (.int (-a - 1)) σ) : Op1 Γ AV.is (unaryOp .Invert) (.int a) σ Q := by
  rintro s as _ r ⟨t, rfl⟩
  refine invert_int (op_tok r h ⟨s.toks, ?_⟩ (Nat.le_succ _))
  have : Builtin.bitNot a = -a - 1 := by unfold Builtin.bitNot; omega
  rw [this]
theorem o_neg (h : Q (.int (-a)) σ) : Op1 Γ AV.is (unaryOp .USub) (.int a) σ Q := by
  rintro s as _ r ⟨t, rfl⟩; exact P.neg_int (op_tok r h ⟨_, rfl⟩ (Nat.le_succ _))
theorem o_iadd (h : Q (.int (a + b)) σ) : Op2 Γ AV.is (inplaceOp .Add) (.int a) (.int b) σ Q := by
  rintro s as _ _ r ⟨t, rfl⟩ ⟨u, rfl⟩; exact P.iadd_int (op_tok r h ⟨_, rfl⟩ (Nat.le_succ _))
theorem o_isub (h : Q (.int (a - b)) σ) : Op2 Γ AV.is (inplaceOp .Sub) (.int a) (.int b) σ Q := by
  rintro s as _ _ r ⟨t, rfl⟩ ⟨u, rfl⟩; exact P.isub_int (op_tok r h ⟨_, rfl⟩ (Nat.le_succ _))
theorem o_eq (h : Q (.bool (a == b)) σ) : Op2 Γ AV.is (compareOp .Eq) (.int a) (.int b) σ Q := by
  rintro s as _ _ r ⟨t, rfl⟩ ⟨u, rfl⟩; exact P.eq_int (op_same r h rfl)
theorem o_ne (h : Q (.bool (a != b)) σ) : Op2 Γ AV.is (compareOp .NotEq) (.int a) (.int b) σ Q := by
  rintro s as _ _ r ⟨t, rfl⟩ ⟨u, rfl⟩; exact P.ne_int (op_same r h rfl)
theorem o_lt (h : Q (.bool (decide (a < b))) σ) : Op2 Γ AV.is (compareOp .Lt) (.int a) (.int b) σ Q := by
  rintro s as _ _ r ⟨t, rfl⟩ ⟨u, rfl⟩; exact P.lt_int (op_same r h rfl)
theorem o_gt (h : Q (.bool (decide (a > b))) σ) : Op2 Γ AV.is (compareOp .Gt) (.int a) (.int b) σ Q := by
  rintro s as _ _ r ⟨t, rfl⟩ ⟨u, rfl⟩; exact P.gt_int (op_same r h rfl)
theorem o_ge (h : Q (.bool (decide (a ≥ b))) σ) : Op2 Γ AV.is (compareOp .GtE) (.int a) (.int b) σ Q := by
  rintro s as _ _ r ⟨t, rfl⟩ ⟨u, rfl⟩; exact P.ge_int (op_same r h rfl)
/-! texts -/
variable {x y : Str}
theorem o_adds (h : Q (.str (x ++ y)) σ) (hz : x.length + y.length ≤ sizeLine) : Op2 Γ AV.is (binaryOp .Add) (.str x) (.str y) σ Q := by
  rintro s as _ _ r ⟨t, rfl⟩ ⟨u, rfl⟩
  refine wpAny_with_toks (Nat.le_refl s.toks) (add_str (fun t' tk ht => ?_) hz)
  exact op_tok r h ⟨_, rfl⟩ ht
theorem o_eqs (h : Q (.bool (x == y)) σ) : Op2 Γ AV.is (compareOp .Eq) (.str x) (.str y) σ Q := by
  rintro s as _ _ r ⟨t, rfl⟩ ⟨u, rfl⟩; exact eq_str (op_same r h rfl)
/-! lists -/
theorem evl_nil {Q : List AV → St → Prop} (h : Q [] σ) : EvL Γ [] σ Q := fun pos s as r => by
  show wpAny _ _ (spliced []) _ _ s
  exact Calls.spliced_nil ⟨[], σ, as, trivial, .refl r, h⟩
theorem evl_cons {e : Expr} {rest : List Expr} {Q : List AV → St → Prop} (h : EvE Γ e σ (fun v σ₁ => EvL Γ rest σ₁ (fun vs σ₂ => Q (v :: vs) σ₂)))
    (he : starEach (e :: rest) Γ.env = (false, eval e Γ.env) :: starEach rest Γ.env := by rfl) : EvL Γ (e :: rest) σ Q := fun pos s as r =>
  wpAny_items_cons (wpAny_mono (h s as r) (fun v s₁ ⟨va, σ₁, as₁, ha, A₁, h₁⟩ => wpAny_mono (h₁ pos s₁ as₁ A₁.rel) (fun vs s₂ ⟨vl, σ₂, as₂, hl, A₂, hq⟩ =>
    ⟨va :: vl, σ₂, as₂, ⟨AV.is_of_ext ha A₂.ext, hl⟩, A₁.trans A₂, hq⟩) fun _ _ h => h) fun _ _ h => h) he
end
end Mine

/-! part M3 -/
namespace Mine
variable {w : World} {T : Top0}
/-! lists of scalars -/
theorem are_iff_nil : Are [] [] := ⟨rfl, fun i x h => by simp at h⟩
theorem Are.cons {x : SV} {v : Value} {l : List SV} {vs : List Value} (h : x.is v) (r : Are l vs) : Are (x :: l) (v :: vs) :=
  ⟨by simp [r.1], fun i y hy => by
    cases i with
    | zero => simp at hy; subst hy; exact ⟨v, by simp, h⟩
    | succ i => simp at hy; obtain ⟨u, hu, hx⟩ := r.2 i y hy; exact ⟨u, by simpa using hu, hx⟩⟩
theorem Are.uncons {x : SV} {v : Value} {l : List SV} {vs : List Value} (r : Are (x :: l) (v :: vs)) : x.is v ∧ Are l vs := by
  refine ⟨?_, by simpa using r.1, fun i y hy => ?_⟩
  · obtain ⟨u, hu, hx⟩ := r.2 0 x (by simp); simp at hu; subst hu; exact hx
  · obtain ⟨u, hu, hx⟩ := r.2 (i + 1) y (by simpa using hy); exact ⟨u, by simpa using hu, hx⟩
theorem Are.append {l l' : List SV} {vs vs' : List Value} (h : Are l vs) (h' : Are l' vs') : Are (l ++ l') (vs ++ vs') :=
  ⟨by simp [h.1, h'.1], fun i y hy => by
    rcases Nat.lt_or_ge i l.length with q | q
    · rw [List.getElem?_append_left q] at hy
      obtain ⟨u, hu, hx⟩ := h.2 i y hy
      exact ⟨u, by rw [List.getElem?_append_left (h.1 ▸ q)]; exact hu, hx⟩
    · rw [List.getElem?_append_right q] at hy
      obtain ⟨u, hu, hx⟩ := h'.2 _ y hy
      exact ⟨u, by rw [List.getElem?_append_right (h.1 ▸ q), h.1]; exact hu, hx⟩⟩
theorem Are.drop {l : List SV} {vs : List Value} (h : Are l vs) (k : Nat) : Are (l.drop k) (vs.drop k) :=
  ⟨by simp [h.1], fun i y hy => by rw [List.getElem?_drop] at hy ⊢; exact h.2 _ y hy⟩
theorem Are.take {l : List SV} {vs : List Value} (h : Are l vs) (k : Nat) : Are (l.take k) (vs.take k) :=
  ⟨by simp [h.1], fun i y hy => by
    rw [List.getElem?_take] at hy ⊢
    split at hy
    · rename_i q; rw [if_pos q]; exact h.2 _ y hy
    · cases hy⟩
theorem Are.set {l : List SV} {vs : List Value} (h : Are l vs) (k : Nat) {x : SV} {v : Value} (hx : x.is v) : Are (l.set k x) (vs.set k v) :=
  ⟨by simp [h.1], fun i y hy => by
    rw [List.getElem?_set] at hy ⊢
    split at hy
    · rename_i q
      split at hy
      · rename_i q2; simp at hy; subst hy
        rw [if_pos q, if_pos (h.1 ▸ q2)]
        exact ⟨v, rfl, hx⟩
      · cases hy
    · rename_i q; rw [if_neg q]; exact h.2 _ y hy⟩
theorem Are.ints : ∀ {ns : List Int} {vs : List Value}, Are (ns.map .int) vs → IntsAre vs ns
  | [], [], _ => .nil
  | [], v :: vs, h => by have := h.1; simp at this
  | n :: ns, [], h => by have := h.1; simp at this
  | n :: ns, v :: vs, h => by obtain ⟨⟨t, rfl⟩, r⟩ := Are.uncons h; exact .cons n t (Are.ints r)
theorem Are.strs : ∀ {xs : List Str} {vs : List Value}, Are (xs.map .str) vs → StrsAre vs xs
  | [], [], _ => .nil
  | [], v :: vs, h => by have := h.1; simp at this
  | n :: ns, [], h => by have := h.1; simp at this
  | n :: ns, v :: vs, h => by obtain ⟨⟨t, rfl⟩, r⟩ := Are.uncons h; exact .cons n t (Are.strs r)
theorem Are.of_areA {as : List Addr} : ∀ {l : List SV} {vs : List Value}, AreA as (l.map .sv) vs → Are l vs
  | [], [], _ => are_iff_nil
  | [], _ :: _, h => h.elim
  | _ :: _, [], h => h.elim
  | _ :: _, _ :: _, ⟨h, r⟩ => Are.cons h (Are.of_areA r)
theorem AreA.length {as : List Addr} : ∀ {l : List AV} {vs : List Value}, AreA as l vs → vs.length = l.length
  | [], [], _ => rfl
  | [], _ :: _, h => h.elim
  | _ :: _, [], h => h.elim
  | _ :: _, _ :: _, ⟨_, r⟩ => by simp [AreA.length r]
section
variable {Γ : Cx w T} {σ : St}
theorem Rel.at (r : Rel Γ σ as s) {k : Nat} {v : Value} {o : AO} (h : (AV.obj k).is as v) (ho : σ.H[k]? = some o) :
    ∃ a vs, v = .ref a ∧ as[k]? = some a ∧ s.heap.IsList a vs.toArray ∧ Are o.its vs ∧ (o.pl = true → s.heap.PlainList a vs.toArray) := by
  obtain ⟨a, ha, rfl⟩ := h
  obtain ⟨vs, h1, h2, _, h3⟩ := r.objs k a o ha ho
  exact ⟨a, vs, rfl, ha, h1, h2, h3⟩
/-- a new list at the heap's end -/
theorem post_new {s : Shared} {as : List Addr} {Q : AV → St → Prop} {vs : List Value} {its : List SV} (r : Rel Γ σ as s) (hv : Are its vs) (own : Bool) (h : Q (.obj σ.H.length) ⟨σ.loc, σ.H ++ [⟨own, own, its⟩], σ.lo⟩) :
    Post Γ σ as s AV.is Q (.ref s.heap.objs.size) { s with heap := s.heap.push { cls := .type "list", data := .seq vs.toArray } } := by
  have hp : (s.heap.push { cls := .type "list", data := .seq vs.toArray }).PlainList s.heap.objs.size vs.toArray := ⟨0, Heap.get?_push_size _ rfl⟩
  refine ⟨.obj σ.H.length, _, as ++ [s.heap.objs.size], ⟨s.heap.objs.size, ?_, rfl⟩, After.join r (.push s _) own own (get_size_none _) hp.isList hv (fun _ => hp), h⟩
  rw [← r.len]; simp
theorem ev_list {es : List Expr} {pos : Pos} {Q : AV → St → Prop} (h : EvL Γ es σ (fun l σ₁ => ∃ its : List SV, l = its.map .sv ∧ its.length ≤ sizeLine ∧ Q (.obj σ₁.H.length) (σ₁.push ⟨true, true, its⟩))) : EvE Γ (.List es pos) σ Q := fun s as r => by
  refine wpAny_List (wpAny_mono (h pos s as r) (fun vs s₁ hv => ?_) fun _ _ h => h)
  obtain ⟨l, σ₁, as₁, hl, A₁, its, rfl, hz, hq⟩ := hv
  have ha := Are.of_areA hl
  exact ⟨by rw [ha.1]; exact hz, (post_new A₁.rel ha true hq).after A₁⟩
theorem o_cat {i j : Nat} {o o' : AO} {Q : AV → St → Prop} (ho : σ.H[i]? = some o) (ho' : σ.H[j]? = some o') (hz : o.its.length + o'.its.length ≤ sizeLine) (h : Q (.obj σ.H.length) (σ.push ⟨true, true, o.its ++ o'.its⟩)) :
    Op2 Γ AV.is (binaryOp .Add) (.obj i) (.obj j) σ Q := by
  rintro s as v v' r hv hv'
  obtain ⟨a, vs, rfl, _, hl, ha, _⟩ := r.at hv ho
  obtain ⟨b, us, rfl, _, hl', hb, _⟩ := r.at hv' ho'
  obtain ⟨⟨cls, dd, data, sl⟩, q1, q2, n, q3⟩ := id hl
  obtain ⟨⟨cls2, dd2, data2, sl2⟩, p1, p2, n2, p3⟩ := id hl'
  simp only at q2 q3 p2 p3
  subst q2 q3 p2 p3
  have e : vs.toArray ++ us.toArray = (vs ++ us).toArray := by simp
  refine concat_meets ⟨_, q1, rfl⟩ ⟨_, p1, rfl⟩ noFill_list_add seq_list_add PySem.F.slot_list_add PySem.F.entry_list_add (PySem.F.args_list_add_2 _ _) (list_addW a b vs.toArray us.toArray n n2 dd dd2 sl sl2 (by simp [ha.1, hb.1]; exact hz)) ⟨q1, p1, ?_⟩
  rw [e]
  exact post_new r (ha.append hb) true h
theorem ev_index {value slice : Expr} {pos : Pos} {Q : AV → St → Prop} (h : EvE Γ value σ (fun o σ₁ => EvE Γ slice σ₁ (fun i σ₂ => ∃ k n ao x, o = .obj k ∧ i = .int n ∧ σ₂.H[k]? = some ao ∧ 0 ≤ n ∧ n < 2 ^ 63 ∧ ao.its[n.toNat]? = some x ∧ Q (.sv x) σ₂)))
    (hs : ∀ l k u, subscripted slice false (.ref l) (.int k u) = operate [.ref l, .int k u] (getItem (.ref l) (.int k u)) := by intro _ _ _; with_unfolding_all rfl) : EvE Γ (.Subscript value slice pos) σ Q := fun s as r =>
  Subscript_ (wpAny_mono (h s as r) (fun v s₁ ⟨va, σ₁, as₁, ha, A₁, h₁⟩ => wpAny_mono (h₁ s₁ as₁ A₁.rel) (fun i s₂ hi => by
    obtain ⟨vi, σ₂, as₂, hb, A₂, k, n, ao, x, rfl, rfl, hk, h0, h1, hx, hq⟩ := hi
    obtain ⟨a, vs, rfl, _, hl, hr, _⟩ := A₂.rel.at (AV.is_of_ext ha A₂.ext) hk
    obtain ⟨t, rfl⟩ := hb
    obtain ⟨u, hu, hxu⟩ := hr.2 _ x hx
    exact tail_any hl.typeIs slot_list_getitem.lookup (wpAny_getItem_list hl h0 h1 (by simpa using hu) ⟨.sv x, σ₂, as₂, hxu, A₁.trans A₂, hq⟩) (hs _ _ _)) fun _ _ h => h) fun _ _ h => h)
theorem ev_last {value slice : Expr} {pos : Pos} {Q : AV → St → Prop} (h : EvE Γ value σ (fun o σ₁ => EvE Γ slice σ₁ (fun i σ₂ => ∃ k ao x, o = .obj k ∧ i = .int (-1) ∧ σ₂.H[k]? = some ao ∧ ao.its.length < 2 ^ 62 ∧ ao.its.getLast? = some x ∧ Q (.sv x) σ₂)))
    (hs : ∀ l k u, subscripted slice false (.ref l) (.int k u) = operate [.ref l, .int k u] (getItem (.ref l) (.int k u)) := by intro _ _ _; with_unfolding_all rfl) : EvE Γ (.Subscript value slice pos) σ Q := fun s as r =>
  Subscript_ (wpAny_mono (h s as r) (fun v s₁ ⟨va, σ₁, as₁, ha, A₁, h₁⟩ => wpAny_mono (h₁ s₁ as₁ A₁.rel) (fun i s₂ hi => by
    obtain ⟨vi, σ₂, as₂, hb, A₂, k, ao, x, rfl, rfl, hk, h1, hx, hq⟩ := hi
    obtain ⟨a, vs, rfl, _, hl, hr, _⟩ := A₂.rel.at (AV.is_of_ext ha A₂.ext) hk
    obtain ⟨t, rfl⟩ := hb
    rw [List.getLast?_eq_getElem?] at hx
    obtain ⟨u, hu, hxu⟩ := hr.2 _ x hx
    have hlen : ao.its.length - 1 < ao.its.length := (List.getElem?_eq_some_iff.mp hx).1
    have e1 := hr.1
    exact tail_any hl.typeIs slot_list_getitem.lookup (wpAny_getItem_list_neg hl (by decide) (by simp; omega) (by decide) (by
      have : (-1 + (vs.toArray.size : Int)).toNat = ao.its.length - 1 := by simp; omega
      rw [this]; simpa using hu) ⟨.sv x, σ₂, as₂, hxu, A₁.trans A₂, hq⟩) (hs _ _ _)) fun _ _ h => h) fun _ _ h => h)
/-! slices -/
def EvP (Γ : Cx w T) (e : Option Expr) (σ : St) (Q : Option Int → St → Prop) : Prop := match e with
  | none => Q none σ
  | some e => EvE Γ e σ (fun v σ' => ∃ i, v = .int i ∧ Q (some i) σ')
def PartOf (p : Option Int) (v : Value) : Prop := match p with
  | none => v = .none
  | some i => ∃ t, v = .int i t
theorem PartOf.isPart {p : Option Int} {v : Value} (h : PartOf p v) : IsPart v p := by
  cases p with
  | none => cases h; exact .none
  | some i => obtain ⟨t, rfl⟩ := h; exact .int i t
theorem evp_any {e : Option Expr} {Q : Option Int → St → Prop} (h : EvP Γ e σ Q) {s : Shared} {as : List Addr} (r : Rel Γ σ as s) : wpAny (M w) Γ.A (evalPart e Γ.env) (Post Γ σ as s (fun _ p v => PartOf p v) Q) Never s := by
  cases e with
  | none => exact wpAny_evalPart_none ⟨none, σ, as, rfl, .refl r, h⟩
  | some e =>
    refine wpAny_evalPart_some (wpAny_mono (h s as r) (fun v s' hv => ?_) fun _ _ h => h)
    obtain ⟨va, σ', as', hb, A, i, rfl, hq⟩ := hv
    exact ⟨some i, σ', as', hb, A, hq⟩
def pick (l : List SV) (a b : Option Int) : List SV := (l.drop (kms_lo a l.length)).take (kms_hi b l.length - kms_lo a l.length)
theorem ev_sslice {value : Expr} {lo hi : Option Expr} {p pos : Pos} {Q : AV → St → Prop}
    (h : EvE Γ value σ (fun o σ₁ => EvP Γ lo σ₁ (fun a σ₂ => EvP Γ hi σ₂ (fun b σ₃ => ∃ x, o = .str x ∧ x.length ≤ sizeLine ∧ Q (.str (Txt.slice x a b)) σ₃))))
    (ht : ∀ o r, letTemporaryGo value o r = pure () := by intro _ _; rfl) : EvE Γ (.Subscript value (.Slice lo hi none p) pos) σ Q := fun s as r =>
  wpAny_Subscript_str_slice (wpAny_mono (h s as r) (fun v s₁ ⟨va, σ₁, as₁, ha, A₁, h₁⟩ => wpAny_mono (evp_any h₁ A₁.rel) (fun vl s₂ ⟨pa, σ₂, as₂, hpa, A₂, h₂⟩ => wpAny_mono (evp_any h₂ A₂.rel) (fun vu s₃ h₃ => by
    obtain ⟨pb, σ₃, as₃, hpb, A₃, x, rfl, hz, hq⟩ := h₃
    obtain ⟨t, rfl⟩ := (AV.is_of_ext (AV.is_of_ext ha A₂.ext) A₃.ext : SV.is (.str x) v)
    have hl : ∃ l : Option (Int × Tok), vl = partValue l ∧ l.map (·.1) = pa := by
      cases pa with
      | none => cases hpa; exact ⟨none, rfl, rfl⟩
      | some i => obtain ⟨t, rfl⟩ := hpa; exact ⟨some (i, t), rfl, rfl⟩
    have hu : ∃ l : Option (Int × Tok), vu = partValue l ∧ l.map (·.1) = pb := by
      cases pb with
      | none => cases hpb; exact ⟨none, rfl, rfl⟩
      | some i => obtain ⟨t, rfl⟩ := hpb; exact ⟨some (i, t), rfl, rfl⟩
    obtain ⟨l, e1, e2⟩ := hl
    obtain ⟨u, e3, e4⟩ := hu
    refine ⟨x, t, l, u, rfl, e1, e3, ?_⟩
    have G := After.grown A₃.rel (Grown.push s₃ { cls := .type "slice", data := .fields #[vl, vu, .none] })
    have A₄ := ((A₁.trans A₂).trans A₃).trans G
    have hle := Txt.slice_le x pa pb
    unfold sliceMade slicePicked
    unfold Txt.slice at hq hle
    simp only [Option.map_none, Option.getD_none, e2, e4]
    split
    · rename_i hc
      rw [if_pos hc] at hq
      exact ⟨.str x, σ₃, as₃, ⟨t, rfl⟩, A₄, hq⟩
    · rename_i hc
      rw [if_neg hc] at hq hle
      refine ⟨Nat.le_trans hle hz, .str _, σ₃, as₃, ⟨_, rfl⟩, A₄.trans (After.tok A₄.rel (Nat.le_succ _)), hq⟩) fun _ _ h => h) fun _ _ h => h) fun _ _ h => h) ht
end
end Mine

/-! part M4 -/
namespace Mine
variable {w : World} {T : Top0}
theorem size_upd (h : Heap) (a : Addr) (f : Obj → Obj) : (h.update a f).objs.size = h.objs.size := by
  obtain ⟨o, l⟩ := h; simp [Heap.update]
theorem size_psh (h : Heap) (o : Obj) : (h.push o).objs.size = h.objs.size + 1 := Heap.size_push ..
theorem runs_size {M : Model} {Γ : Ctx} {p : Pos} {t : Sem Fin} {fs : List Frame} {s s' : Shared} {e : End} (h : Runs M Γ p t fs s e s') : s.heap.objs.size ≤ s'.heap.objs.size := by
  induction h <;> (try simp only [Shared.setGen, size_upd, size_psh] at *) <;> omega
theorem wakes_size {M : Model} {Γ : Ctx} {p : Pos} {g : Nat} {r : Resume} {s s' : Shared} {res : GenResult} (h : Wakes M Γ p g r s res s') : s.heap.objs.size ≤ s'.heap.objs.size := by
  unfold Wakes at h
  split at h
  · exact h.elim
  · split at h
    · obtain ⟨e₁, s₁, hr, _, _, rfl⟩ := h; exact (runs_size hr : (s.setGen g .running).heap.objs.size ≤ s₁.heap.objs.size)
    · rw [h.2]; exact Nat.le_refl _
    · rw [h.2]; exact Nat.le_refl _
  · obtain ⟨e₁, s₁, hr, _, _, rfl⟩ := h; exact (runs_size hr : (s.setGen g .running).heap.objs.size ≤ s₁.heap.objs.size)
  · rw [h.2]; exact Nat.le_refl _
  · rw [h.2]; exact Nat.le_refl _
theorem wp_size {α : Type} (M : Model) (Γ : Ctx) (n : Nat) (t : Sem α) : ∀ (Q : α → Pos → Shared → Prop) (E : Value → Pos → Shared → Prop) (p : Pos) (s : Shared), n ≤ s.heap.objs.size → Sem.wp M Γ t Q E p s →
    Sem.wp M Γ t (fun a p' s' => n ≤ s'.heap.objs.size ∧ Q a p' s') (fun e p' s' => n ≤ s'.heap.objs.size ∧ E e p' s') p s := by
  induction t with
  | pure a => intro Q E p s hn h; exact ⟨hn, h⟩
  | raise e => intro Q E p s hn h; exact ⟨hn, h⟩
  | unsupported _ => intro Q E p s _ h; exact h
  | finish _ => intro Q E p s _ h; exact h
  | rule _ k ih => intro Q E p s hn h; exact ih () Q E p s hn h
  | «at» p' k ih => intro Q E p s hn h; exact ih () Q E p' s hn h
  | load a _ k ih => intro Q E p s hn h; obtain ⟨o, ho, h⟩ := h; exact ⟨o, ho, ih o Q E p s hn h⟩
  | update a _ f k ih => intro Q E p s hn h; exact ⟨h.1, ih () Q E p _ (by show n ≤ (s.heap.update a f).objs.size; rw [size_upd]; exact hn) h.2⟩
  | loadIfAlive a k ih => intro Q E p s hn h; exact ih _ Q E p s hn h
  | point _ k ih => intro Q E p s hn h; exact ih () Q E p s hn h
  | register _ _ => intro Q E p s _ h; exact h
  | alloc o k ih => intro Q E p s hn h; exact ih _ Q E p _ (by show n ≤ (s.heap.push o).objs.size; rw [size_psh]; exact Nat.le_succ_of_le hn) h
  | fresh k ih => intro Q E p s hn h; exact ih _ Q E p _ hn h
  | ask k ih => intro Q E p s hn h; exact ih _ Q E p s hn h
  | choose src m k ih => intro Q E p s hn h; exact ⟨h.1, ih _ Q E p _ hn h.2⟩
  | os q _ k ih => intro Q E p s hn h; exact ih _ Q E p _ hn h
  | call c hd _ _ k ih => intro Q E p s hn h; obtain ⟨r, s', hr, h⟩ := h; exact ⟨r, s', hr, ih r Q E p s' (Nat.le_trans hn (runs_size hr)) h⟩
  | handled own k ih => intro Q E p s hn h; exact ih _ Q E p s hn h
  | genState g k ih => intro Q E p s hn h; obtain ⟨st, hs, h⟩ := h; exact ⟨st, hs, ih _ Q E p s hn h⟩
  | newGen c k ih => intro Q E p s hn h; exact ih _ Q E p _ hn h
  | resume g r _ k ih => intro Q E p s hn h; obtain ⟨res, s', hw, h⟩ := h; exact ⟨res, s', hw, ih res Q E p s' (Nat.le_trans hn (wakes_size hw)) h⟩
  | yield _ _ _ _ => intro Q E p s _ h; exact h
  | stack k ih => intro Q E p s hn h; exact ih _ Q E p s hn h
  | fork _ _ => intro Q E p s _ h; exact h
  | thread k ih => intro Q E p s hn h; exact ih _ Q E p s hn h
  | await _ _ _ _ _ => intro Q E p s _ h; exact h
theorem wpAny_size {α : Type} {M : Model} {A : Around} {s : Shared} {t : Sem α} {Q : α → Shared → Prop} {E : Value → Shared → Prop} {n : Nat} (hn : n ≤ s.heap.objs.size)
    (h : wpAny M A t (fun a s' => n ≤ s'.heap.objs.size → Q a s') (fun e s' => n ≤ s'.heap.objs.size → E e s') s) : wpAny M A t Q E s := fun Γ p hΓ =>
  Sem.wp_mono M Γ t (fun _ _ _ x => x.2 x.1) (fun _ _ _ x => x.2 x.1) p s (wp_size M Γ n t _ _ p s hn (h Γ p hΓ))
section
variable {Γ : Cx w T} {σ : St}
/-! methods -/
theorem plainL_of {h : Heap} {a : Addr} {its : Array Value} (x : h.PlainList a its) : PlainL h a its := let ⟨n, e⟩ := x; ⟨_, n, e, rfl, rfl, rfl⟩
theorem ev_append (hfz : Γ.fz = false) {o elt : Expr} {apos pos : Pos} {Q : AV → St → Prop}
    (h : EvE Γ o σ (fun v σ₁ => ∃ k ao, v = .obj k ∧ σ₁.H[k]? = some ao ∧ ao.own = true ∧ ao.pl = true ∧ EvE Γ elt σ₁ (fun y σ₂ => ∃ x, y = .sv x ∧ σ₂.H[k]? = some ao ∧ ao.its.length ≤ sizeLine ∧ Q .none (σ₂.upd k ⟨true, true, ao.its ++ [x]⟩))))
    (h1 : attributeBase o "append" Γ.env (eval o Γ.env) = eval o Γ.env := by rfl) (h2 : (apos.endLine == pos.line) = true := by rfl)
    (h3 : ((backTo pos (starEach [elt] Γ.env)).all (!·.1) && (backToKw pos (keywordEach [] Γ.env)).all (·.1.isSome) && decide ([elt].length + ([] : List Keyword).length + (if ([] : List Keyword).isEmpty then 0 else 1) < 30)) = true := by rfl)
    (h4 : backTo pos (starEach [elt] Γ.env) = [(false, eval elt Γ.env)] := by rfl) :
    EvE Γ (.Call (.Attribute o "append" apos) [elt] [] pos) σ Q := fun s as r => by
  refine wpAny_Call_append h1 h3 h2 h4 (wpAny_mono (h s as r) (fun v s₁ hv => ?_) fun _ _ h => h)
  obtain ⟨va, σ₁, as₁, ha, A₁, k, ao, rfl, hk, hown, hpl, hq⟩ := hv
  obtain ⟨D, vs, rfl, hD, hl, hr, hp⟩ := A₁.rel.at ha hk
  refine ⟨D, vs.toArray, rfl, plainL_of (hp hpl), wpAny_mono (hq s₁ as₁ A₁.rel) (fun y s₂ hy => ?_) fun _ _ h => h⟩
  obtain ⟨yv, σ₂, as₂, hyv, A₂, x, rfl, hk₂, hz, hq₂⟩ := hy
  have hDk : (AV.obj k).is as₂ (.ref D) := AV.is_of_ext ⟨D, hD, rfl⟩ A₂.ext
  obtain ⟨D', vs₂, e, hD₂, hl₂, hr₂, hp₂⟩ := A₂.rel.at hDk hk₂
  cases e
  refine wpAny_list_append_plain (hsz := by simp [hr₂.1]; exact hz) (hp₂ hpl) fun h' hl' hs' => ?_
  have e : vs₂.toArray.push y = (vs₂ ++ [y]).toArray := by simp
  rw [e] at hl'
  have A₃ := After.setObj hfz A₂.rel hD₂ hk₂ hown hs' true hl'.isList (hr₂.append (Are.cons hyv are_iff_nil)) (fun _ => hl') (Nat.le_refl s₂.toks)
  exact ⟨.none, _, as₂, rfl, (A₁.trans A₂).trans A₃, hq₂⟩
theorem ev_pop (hfz : Γ.fz = false) {o : Expr} {apos pos : Pos} {Q : AV → St → Prop}
    (h : EvE Γ o σ (fun v σ₁ => ∃ k l x, v = .obj k ∧ σ₁.H[k]? = some ⟨true, true, l ++ [x]⟩ ∧ l.length < sizeLine ∧ Q (.sv x) (σ₁.upd k ⟨true, true, l⟩)))
    (h1 : attributeBase o "pop" Γ.env (eval o Γ.env) = eval o Γ.env := by rfl) (h2 : (apos.endLine == pos.line) = true := by rfl) :
    EvE Γ (.Call (.Attribute o "pop" apos) [] [] pos) σ Q := fun s as r => by
  refine wpAny_Call_method h1 rfl h2 PySem.F.plainAttrs_list PySem.F.slot_list_pop PySem.F.type_list_pop (wpAny_mono (h s as r) (fun v s₁ hv => ?_) fun _ _ h => h)
  obtain ⟨va, σ₁, as₁, ha, A₁, k, l, x, rfl, hk, hz, hq⟩ := hv
  obtain ⟨D, vs, rfl, hD, hl, hr, hp⟩ := A₁.rel.at ha hk
  obtain ⟨n, hg⟩ := hp rfl
  refine ⟨hl.typeIs, fun a e => by cases e; exact ⟨_, hg, rfl⟩, ?_⟩
  have hlen : vs.length = l.length + 1 := by have := hr.1; simpa using this
  obtain ⟨u, hu, hxu⟩ := hr.2 l.length x (by simp)
  have hi : vs.toArray[vs.toArray.size - 1]? = some u := by
    have : vs.toArray.size - 1 = l.length := by simp [hlen]
    rw [this]; simpa using hu
  show wpAny (M w) Γ.A (callWith pos (.builtin "list.pop") [.ref D] [] []) _ _ _
  refine P.pop_list (hsz := by simp [hlen]; omega) hg hi ?_
  have hvs : vs.eraseIdx l.length = vs.take l.length := by
    rw [List.eraseIdx_eq_take_drop_succ]
    have : vs.drop (l.length + 1) = [] := by rw [List.drop_eq_nil_iff]; omega
    rw [this, List.append_nil]
  have hr' : Are l (vs.take l.length) := by
    have := hr.take l.length
    simpa using this
  have e2 : ∃ n', (Obj.mapSeq fun xs => xs.eraseIdxIfInBounds (vs.toArray.size - 1)) { cls := .type "list", data := .seq vs.toArray n } = { cls := .type "list", data := .seq (vs.take l.length).toArray n' } := by
    have h3 : vs.toArray.eraseIdxIfInBounds (vs.toArray.size - 1) = (vs.take l.length).toArray := by
      have : vs.toArray.size - 1 = l.length := by simp [hlen]
      rw [this, ← hvs]
      have hb : l.length < vs.toArray.size := by simp [hlen]
      rw [Array.eraseIdxIfInBounds, dif_pos hb]
      simp
    refine ⟨if ((vs.toArray.eraseIdxIfInBounds (vs.toArray.size - 1)).size == vs.toArray.size) = true then n else n + 1, ?_⟩
    exact congrArg (fun z => ({ cls := .type "list", data := .seq z (if ((vs.toArray.eraseIdxIfInBounds (vs.toArray.size - 1)).size == vs.toArray.size) = true then n else n + 1) } : Obj)) h3
  obtain ⟨n', e2⟩ := e2
  have hp' : (s₁.heap.update D (Obj.mapSeq fun xs => xs.eraseIdxIfInBounds (vs.toArray.size - 1))).PlainList D (vs.take l.length).toArray := by
    refine ⟨n', ?_⟩
    rw [Heap.get?_update_self _ hg (by rw [e2]; rfl), e2]
  have A₃ := After.setObj hfz A₁.rel hD hk rfl (Heap.SameBut.update ..) true hp'.isList hr' (fun _ => hp') (Nat.le_refl s₁.toks)
  exact ⟨.sv x, _, as₁, hxu, A₁.trans A₃, hq⟩
theorem ev_count {o elt : Expr} {apos pos : Pos} {Q : AV → St → Prop}
    (h : EvE Γ o σ (fun v σ₁ => ∃ k ao, v = .obj k ∧ σ₁.H[k]? = some ao ∧ ao.pl = true ∧ EvE Γ elt σ₁ (fun y σ₂ => ∃ (ns : List Int) (c : Int), y = .int c ∧ σ₂.H[k]? = some ao ∧ ao.its = ns.map .int ∧ Q (.int ((ns.count c : Nat) : Int)) σ₂)))
    (h1 : attributeBase o "count" Γ.env (eval o Γ.env) = eval o Γ.env := by rfl) (h2 : (apos.endLine == pos.line) = true := by rfl)
    (h3 : ((backTo pos (starEach [elt] Γ.env)).all (!·.1) && (backToKw pos (keywordEach [] Γ.env)).all (·.1.isSome) && decide ([elt].length + ([] : List Keyword).length + (if ([] : List Keyword).isEmpty then 0 else 1) < 30)) = true := by rfl)
    (h4 : starEach (elt :: []) Γ.env = (false, eval elt Γ.env) :: starEach [] Γ.env := by rfl) :
    EvE Γ (.Call (.Attribute o "count" apos) [elt] [] pos) σ Q := fun s as r => by
  refine wpAny_Call_method h1 h3 h2 PySem.F.plainAttrs_list PySem.F.slot_list_count PySem.F.type_list_count (wpAny_mono (h s as r) (fun v s₁ hv => ?_) fun _ _ h => h)
  obtain ⟨va, σ₁, as₁, ha, A₁, k, ao, rfl, hk, hpl, hq⟩ := hv
  obtain ⟨D, vs, rfl, hD, hl, hr, hp⟩ := A₁.rel.at ha hk
  obtain ⟨n, hg⟩ := hp hpl
  refine ⟨hl.typeIs, fun a e => by cases e; exact ⟨_, hg, rfl⟩, ?_⟩
  refine callWith_method1 (wpAny_items_cons (wpAny_mono (hq s₁ as₁ A₁.rel) (fun y s₂ hy => ?_) fun _ _ h => h) h4) h4 rfl
  obtain ⟨yv, σ₂, as₂, hyv, A₂, ns, c, rfl, hk₂, hns, hq₂⟩ := hy
  refine Calls.spliced_nil ?_
  obtain ⟨D', vs₂, e, hD₂, hl₂, hr₂, hp₂⟩ := A₂.rel.at (AV.is_of_ext (v := .obj k) ⟨D, hD, rfl⟩ A₂.ext) hk₂
  cases e
  obtain ⟨t, rfl⟩ := hyv
  rw [hns] at hr₂
  exact count_list_ints hl₂ hr₂.ints ⟨.int _, σ₂, as₂, ⟨_, rfl⟩, (A₁.trans A₂).trans (After.tok A₂.rel (Nat.le_succ _)), hq₂⟩
theorem ev_join {o elt : Expr} {apos pos : Pos} {Q : AV → St → Prop}
    (h : EvE Γ o σ (fun v σ₁ => ∃ x, v = .str x ∧ EvE Γ elt σ₁ (fun y σ₂ => ∃ (k : Nat) (ao : AO) (xs : List Str), y = .obj k ∧ σ₂.H[k]? = some ao ∧ ao.its = xs.map .str ∧ (xs.map (·.length)).sum + xs.length * x.length ≤ 16777216 ∧ Q (.str (Txt.join x xs)) σ₂)))
    (h1 : attributeBase o "join" Γ.env (eval o Γ.env) = eval o Γ.env := by rfl) (h2 : (apos.endLine == pos.line) = true := by rfl)
    (h3 : ((backTo pos (starEach [elt] Γ.env)).all (!·.1) && (backToKw pos (keywordEach [] Γ.env)).all (·.1.isSome) && decide ([elt].length + ([] : List Keyword).length + (if ([] : List Keyword).isEmpty then 0 else 1) < 30)) = true := by rfl)
    (h4 : starEach (elt :: []) Γ.env = (false, eval elt Γ.env) :: starEach [] Γ.env := by rfl) :
    EvE Γ (.Call (.Attribute o "join" apos) [elt] [] pos) σ Q := fun s as r => by
  refine wpAny_Call_method h1 h3 h2 PySem.F.plainAttrs_str PySem.F.slot_str_join PySem.F.type_str_join (wpAny_mono (h s as r) (fun v s₁ hv => ?_) fun _ _ h => h)
  obtain ⟨va, σ₁, as₁, ha, A₁, x, rfl, hq⟩ := hv
  obtain ⟨t, rfl⟩ := ha
  refine ⟨typeIs_str _ _ _, (fun a e => nomatch e), ?_⟩
  refine callWith_method1 (wpAny_items_cons (wpAny_mono (hq s₁ as₁ A₁.rel) (fun y s₂ hy => ?_) fun _ _ h => h) h4) h4 rfl
  obtain ⟨yv, σ₂, as₂, hyv, A₂, k, ao, xs, rfl, hk₂, hxs, hz, hq₂⟩ := hy
  refine Calls.spliced_nil ?_
  obtain ⟨D, vs₂, rfl, hD₂, hl₂, hr₂, hp₂⟩ := A₂.rel.at hyv hk₂
  rw [hxs] at hr₂
  refine wpAny_with_toks (Nat.le_refl s₂.toks) (join_list hl₂ (by simpa using hr₂.strs) hz fun t' k ht => ?_)
  exact ⟨.str _, σ₂, as₂, ⟨_, rfl⟩, (A₁.trans A₂).trans (After.tok A₂.rel ht), hq₂⟩
/-! built-in functions -/
theorem ev_bcall {f : Str} {fp pos : Pos} {e : Expr} {rest : List Expr} {id : String} {Q : AV → St → Prop}
    (h : EvE Γ (.Name f fp) σ (fun v σ₁ => v = .con (.builtin id) ∧ EvL Γ (e :: rest) σ₁ (fun vs σ₂ => OpL Γ (fun xs => call (.builtin id) xs) vs σ₂ Q)))
    (he : starEach (e :: rest) Γ.env = (false, eval e Γ.env) :: starEach rest Γ.env := by rfl) (hp : (backTo pos (starEach rest Γ.env)).any (·.1) = false := by rfl) : EvE Γ (.Call (.Name f fp) (e :: rest) [] pos) σ Q := fun s as r =>
  Call_ (wpAny_mono (h s as r) (fun v s₁ hv => by
    obtain ⟨va, σ₁, as₁, ha, A₁, rfl, hq⟩ := hv
    have : v = .builtin id := ha
    subst this
    exact callWith_builtin1 (wpAny_mono (hq pos s₁ as₁ A₁.rel) (fun vs s₂ hvs => by
      obtain ⟨l, σ₂, as₂, hl, A₂, hq₂⟩ := hvs
      exact wpAny_after (A₁.trans A₂) (hq₂ s₂ as₂ vs A₂.rel hl)) fun _ _ h => h) he hp) fun _ _ h => h)
theorem area1 {as : List Addr} {a : AV} {vs : List Value} (h : AreA as [a] vs) : ∃ v, vs = [v] ∧ a.is as v := by
  cases vs with
  | nil => exact h.elim
  | cons v r => cases r with
    | nil => exact ⟨v, rfl, h.1⟩
    | cons _ _ => exact h.2.elim
theorem area2 {as : List Addr} {a b : AV} {vs : List Value} (h : AreA as [a, b] vs) : ∃ v u, vs = [v, u] ∧ a.is as v ∧ b.is as u := by
  cases vs with
  | nil => exact h.elim
  | cons v r =>
    obtain ⟨u, rfl, hu⟩ := area1 h.2
    exact ⟨v, u, rfl, h.1, hu⟩
theorem ol_len {k : Nat} {ao : AO} {Q : AV → St → Prop} (hk : σ.H[k]? = some ao) (hz : ao.its.length < 2 ^ 62) (h : Q (.int (ao.its.length : Nat)) σ) : OpL Γ (fun xs => call (.builtin "len") xs) [.obj k] σ Q := fun s as vs r hv => by
  obtain ⟨v, rfl, hv'⟩ := area1 hv
  obtain ⟨a, us, rfl, _, hl, hr, _⟩ := r.at hv' hk
  refine len_list hl (by simp [hr.1]; omega) ⟨.int _, σ, as, ⟨s.toks + 1, ?_⟩, After.tok r (by omega), h⟩
  simp [hr.1]
theorem ol_slen {x : Str} {Q : AV → St → Prop} (hz : x.length ≤ sizeLine) (h : Q (.int (x.length : Nat)) σ) : OpL Γ (fun xs => call (.builtin "len") xs) [.str x] σ Q := fun s as vs r hv => by
  obtain ⟨v, rfl, t, rfl⟩ := area1 hv
  refine P.len_str (by unfold sizeLine at hz; omega) ⟨.int _, σ, as, ⟨_, rfl⟩, After.tok r (by omega), h⟩
theorem ol_min {a b : Int} {Q : AV → St → Prop} (h : Q (.int (min a b)) σ) : OpL Γ (fun xs => call (.builtin "min") xs) [.int a, .int b] σ Q := fun s as vs r hv => by
  obtain ⟨v, u, rfl, ⟨t, rfl⟩, t', rfl⟩ := area2 hv
  refine wpAny_with_toks (Nat.le_refl s.toks) (wpAny_size (Nat.le_refl _) (min_two_ints Γ.hh fun h' tk hk hs ht => ?_))
  refine ⟨.int (min a b), σ, as, ?_, After.grown r (Grown.heap hk hs ht), h⟩
  by_cases hb : b < a
  · rw [if_pos hb]; exact ⟨t', by congr 1; omega⟩
  · rw [if_neg hb]; exact ⟨t, by congr 1; omega⟩
theorem ol_sum {k : Nat} {ao : AO} {ns : List Int} {Q : AV → St → Prop} (hk : σ.H[k]? = some ao) (hn : ao.its = ns.map .int) (h : Q (.int ns.sum) σ) : OpL Γ (fun xs => call (.builtin "sum") xs) [.obj k] σ Q := fun s as vs r hv => by
  obtain ⟨v, rfl, hv'⟩ := area1 hv
  obtain ⟨a, us, rfl, _, hl, hr, _⟩ := r.at hv' hk
  rw [hn] at hr
  have hi := hr.ints
  obtain ⟨xs, e⟩ := hi.allInts.items
  rw [e] at hl
  refine wpAny_with_toks (Nat.le_refl s.toks) (wpAny_size (Nat.le_refl _) (PySem.sum_intListG Γ.hh hl fun h' tk t' hk hs ht => ?_))
  have e2 : preSum (numAt xs) xs.size = ns.sum := by
    rw [preSum_eq, List.take_of_length_le (by simp), ← nums_intItems, ← e, ← hi.numsOf]
  rw [e2]
  exact ⟨.int _, σ, as, ⟨_, rfl⟩, After.grown r (Grown.heap hk hs ht), h⟩
end
end Mine

/-! part M5 -/
namespace Mine
variable {w : World} {T : Top0}
inductive RV where
  | val (x : SV) | lst (its : List SV)
def RV.is (n : Heap) (h : Heap) : RV → Value → Prop
  | .val x, v => x.is v
  | .lst its, v => ∃ a vs, v = .ref a ∧ n.get? a = none ∧ h.IsList a (List.toArray vs) ∧ Are its vs
/-- what a call of the def at f gives: a scalar, or a list that is new -/
def CallOk (Γ : Cx w T) (f : Addr) (args : List AV) (σ : St) (P : RV → Prop) : Prop :=
  ∀ s as vs, Rel Γ σ as s → AreA as args vs → wpAny (M w) Γ.A (call (.ref f) vs) (fun v s' => ∃ r, r.is s.heap s'.heap v ∧ Grown false s s' ∧ P r) Never s
def backQ (Q : AV → St → Prop) (σ : St) : RV → Prop
  | .val x => Q (.sv x) σ
  | .lst its => Q (.obj σ.H.length) (σ.push ⟨false, false, its⟩)
section
variable {Γ : Cx w T} {σ : St}
theorem ol_def (hfz : Γ.fz = false) {f : Addr} {args : List AV} {Q : AV → St → Prop} {P : RV → Prop} (h : CallOk Γ f args σ P) (k : ∀ r, P r → backQ Q σ r) : OpL Γ (fun xs => call (.ref f) xs) args σ Q := fun s as vs r ha => by
  refine wpAny_mono (h s as vs r ha) (fun v s' hv => ?_) fun _ _ h => h
  obtain ⟨rv, hr, G, hp⟩ := hv
  have hq := k rv hp
  rw [← hfz] at G
  cases rv with
  | val x => exact ⟨.sv x, σ, as, hr, After.grown r G, hq⟩
  | lst its =>
    obtain ⟨a, us, rfl, hn, hl, hi⟩ := hr
    refine ⟨.obj σ.H.length, _, as ++ [a], ⟨a, ?_, rfl⟩, After.join r G false false hn hl hi (fun q => nomatch q), hq⟩
    rw [← r.len]; simp
theorem ev_fcall {f : Str} {fp pos : Pos} {e : Expr} {rest : List Expr} {a : Addr} {o : Obj} {fd : FuncData} {Q : AV → St → Prop} (ho : T.B.get? a = some o) (hd : o.data = .func fd)
    (h : EvE Γ (.Name f fp) σ (fun v σ₁ => v = .con (.ref a) ∧ EvL Γ (e :: rest) σ₁ (fun vs σ₂ => OpL Γ (fun xs => call (.ref a) xs) vs σ₂ Q)))
    (he : starEach (e :: rest) Γ.env = (false, eval e Γ.env) :: starEach rest Γ.env := by rfl) : EvE Γ (.Call (.Name f fp) (e :: rest) [] pos) σ Q := fun s as r =>
  Call_ (wpAny_mono (h s as r) (fun v s₁ hv => by
    obtain ⟨va, σ₁, as₁, ha, A₁, rfl, hq⟩ := hv
    have : v = .ref a := ha
    subst this
    have e2 : ∃ t tr, backTo pos (starEach (e :: rest) Γ.env) = (false, t) :: tr := by rw [he]; exact ⟨_, _, rfl⟩
    obtain ⟨t, tr, e2⟩ := e2
    have hL := hq pos s₁ as₁ A₁.rel
    rw [e2] at hL ⊢
    refine Calls.callWith_function (o := o) (fd := fd) (Calls.evalArgs_plain (wpAny_mono hL (fun vs s₂ hvs => ?_) fun _ _ h => h))
    obtain ⟨l, σ₂, as₂, hl, A₂, hq₂⟩ := hvs
    exact ⟨⟨A₂.rel.base _ _ ho, hd⟩, wpAny_after (A₁.trans A₂) (hq₂ s₂ as₂ vs A₂.rel hl)⟩) fun _ _ h => h)
def roAll (H : List AO) : List AO := H.map fun o => ⟨false, false, o.its⟩
theorem roAll_get {H : List AO} {k : Nat} {o : AO} (h : (roAll H)[k]? = some o) : ∃ o', H[k]? = some o' ∧ o = ⟨false, false, o'.its⟩ := by
  unfold roAll at h
  rw [List.getElem?_map] at h
  cases e : H[k]? with
  | none => rw [e] at h; cases h
  | some o' => rw [e] at h; cases h; exact ⟨o', rfl, rfl⟩
def RetOk (P : RV → Prop) : AF → St → Prop
  | .ret (.sv x), _ => P (.val x)
  | .ret (.obj k), σ => ∃ o, σ.H[k]? = some o ∧ o.own = true ∧ P (.lst o.its)
  | _, _ => False
theorem lookup_zip {β : Type} {R : β → Value → Prop} : ∀ (ps : List Str) (l : List β) (vs : List Value) (x : Str) (b : β), l.length = vs.length → (∀ (i : Nat) (b : β) (v : Value), l[i]? = some b → vs[i]? = some v → R b v) → (ps.zip l).lookup x = some b → ∃ v, (ps.zip vs).lookup x = some v ∧ R b v
  | [], _, _, _, _, _, _, h => by simp at h
  | p :: ps, [], _, _, _, _, _, h => by simp at h
  | p :: ps, b' :: l, [], _, _, hl, _, h => by simp at hl
  | p :: ps, b' :: l, v :: vs, x, b, hl, hR, h => by
    simp only [List.zip_cons_cons, List.lookup_cons] at h ⊢
    cases e : x == p with
    | true =>
      rw [e] at h
      cases h
      exact ⟨v, rfl, hR 0 _ _ (by simp) (by simp)⟩
    | false =>
      rw [e] at h
      exact lookup_zip ps l vs x b (by simpa using hl) (fun i b v h1 h2 => hR (i + 1) b v (by simpa using h1) (by simpa using h2)) h
theorem areA_get {as : List Addr} : ∀ {l : List AV} {vs : List Value}, AreA as l vs → ∀ (i : Nat) b v, l[i]? = some b → vs[i]? = some v → b.is as v
  | [], [], _, _, _, _, h, _ => by simp at h
  | [], _ :: _, h, _, _, _, _, _ => h.elim
  | _ :: _, [], h, _, _, _, _, _ => h.elim
  | _ :: _, _ :: _, ⟨h, r⟩, i, b, v, h1, h2 => by
    cases i with
    | zero => simp at h1 h2; subst h1; subst h2; exact h
    | succ i => exact areA_get r i b v (by simpa using h1) (by simpa using h2)
theorem lookup_reverse {β : Type} : ∀ (l : List (Str × β)), (l.map (·.1)).Nodup → ∀ x, l.reverse.lookup x = l.lookup x
  | [], _, _ => rfl
  | p :: l, h, x => by
    rw [List.map_cons, List.nodup_cons] at h
    rw [List.reverse_cons, List.lookup_append, lookup_reverse l h.2 x]
    rw [List.lookup_cons, List.lookup_cons, List.lookup_nil]
    cases e : x == p.1 with
    | true =>
      have ex : x = p.1 := eq_of_beq e
      have : l.lookup x = none := by
        rw [List.lookup_eq_none_iff]
        intro q hq
        rw [ex]
        exact bne_iff_ne.mpr fun (z : p.1 = q.1) => h.1 (by rw [z]; exact List.mem_map_of_mem hq)
      rw [this]; rfl
    | false => cases l.lookup x <;> rfl
theorem mem_of_look {β : Type} : ∀ {l : List (Str × β)} {x : Str} {v : β}, l.lookup x = some v → (x, v) ∈ l
  | [], _, _, h => by simp at h
  | p :: l, x, v, h => by
    rw [List.lookup_cons] at h
    cases e : x == p.1 with
    | true => rw [e] at h; cases h; have : x = p.1 := eq_of_beq e; subst this; simp
    | false => rw [e] at h; exact List.mem_cons_of_mem _ (mem_of_look h)
theorem zip_fst : ∀ (ps : List Str) (vs : List Value), ((ps.zip vs).map (·.1)).Nodup ∨ ¬ ps.Nodup
  | [], _ => .inl (by simp)
  | p :: ps, [] => .inl (by simp)
  | p :: ps, v :: vs => by
    rcases zip_fst ps vs with h | h
    · by_cases q : (p :: ps).Nodup
      · refine .inl ?_
        rw [List.zip_cons_cons, List.map_cons, List.nodup_cons]
        refine ⟨fun hm => ?_, h⟩
        obtain ⟨z, hz, e⟩ := List.mem_map.mp hm
        have := (List.of_mem_zip (a := z.1) (b := z.2) hz).1
        exact (List.nodup_cons.mp q).1 (by rw [← show z.1 = p from e]; exact this)
      · exact .inr q
    · exact .inr fun q => h (List.nodup_cons.mp q).2
theorem leave_ok {Γ' : Cx w T} {P : RV → Prop} {s s₁ s' : Shared} {as : List Addr} {σ' : St} {f : Flow} (hg : Γ'.env.locals = s.heap.objs.size) (hσ : ∀ k, ¬ Own σ' k) (G : Grown false s s₁)
    (h : Post Γ' σ' as s₁ AF.is (RetOk P) f s') : ∃ r, r.is s.heap s'.heap (match f with | .ret v => v | _ => .none) ∧ Grown false s s' ∧ P r := by
  obtain ⟨b, σ₂, as₂, hb, A, hr⟩ := h
  have G' : Grown false s s' := by
    refine ⟨fun b o e => A.kept b o ?_ (fun k hk => (hσ k hk).elim) (G.keep b o e), Nat.le_trans G.size A.size, G.gens.trans A.gens, fun h => A.bare (G.bare h), A.os.trans G.os, Nat.le_trans G.toks A.toks, fun q => nomatch q⟩
    rw [hg]; exact Nat.ne_of_lt (Heap.lt_size e)
  cases b with
  | next => exact hr.elim
  | brk => exact hr.elim
  | cont => exact hr.elim
  | ret v =>
    obtain ⟨u, rfl, hu⟩ := hb
    cases v with
    | con w => exact hr.elim
    | sv x => exact ⟨.val x, hu, G', hr⟩
    | obj k =>
      obtain ⟨o, ho, hown, hp⟩ := hr
      obtain ⟨a, ha, rfl⟩ := hu
      obtain ⟨vs, hl, hi, _⟩ := A.rel.objs k a o ha ho
      refine ⟨.lst o.its, ⟨a, vs, rfl, ?_, hl, hi⟩, G', hp⟩
      rcases A.own k a ha ⟨o, ho, hown⟩ with ⟨_, q⟩ | q
      · exact (hσ k q).elim
      · cases e : s.heap.get? a with
        | none => rfl
        | some o' => rw [G.keep a o' e] at q; cases q
/-- a def as it stands at the top -/
structure DefAt (h : Heap) (a : Addr) (name : Str) (params : Arguments) (body : List Stmt) (scope : Scope) (cd : Value) : Prop where
  ex : ∃ o pm doc, h.get? a = some o ∧ o.data = .func (Calls.docDef name params body scope pm cd doc) ∧ h.CodeRec cd name
end
end Mine

/-! part M6 -/
namespace Mine
variable {w : World} {T : Top0}
/-! weakening -/
def SLe (x y : SV) : Prop := x = y ∨ ∃ s a b, x = .strT s a b ∧ y = .str s
theorem SLe.is {x y : SV} (h : SLe x y) {v : Value} (hx : x.is v) : y.is v := by
  rcases h with rfl | ⟨s, a, b, rfl, rfl⟩
  · exact hx
  · obtain ⟨t, rfl, _⟩ := hx; exact ⟨t, rfl⟩
def ItsLe (l l' : List SV) : Prop := l = l' ∨ (l'.length = l.length ∧ ∀ (i : Nat) y, l'[i]? = some y → ∃ x, l[i]? = some x ∧ SLe x y)
theorem ItsLe.are {l l' : List SV} (h : ItsLe l l') {vs : List Value} (r : Are l vs) : Are l' vs := by
  rcases h with rfl | ⟨h1, h2⟩
  · exact r
  · exact ⟨by rw [h1]; exact r.1, fun i y hy => by obtain ⟨x, hx, hl⟩ := h2 i y hy; obtain ⟨v, hv, hi⟩ := r.2 i x hx; exact ⟨v, hv, hl.is hi⟩⟩
def LocLe (L : List (Str × AV)) : List (Str × AV) → Prop
  | [] => True
  | p :: r => L.lookup p.1 = some p.2 ∧ LocLe L r
theorem LocLe.look {L : List (Str × AV)} : ∀ {l : List (Str × AV)}, LocLe L l → ∀ x v, l.lookup x = some v → L.lookup x = some v
  | [], _, _, _, h => by simp at h
  | p :: l, hl, x, v, h => by
    rw [List.lookup_cons] at h
    cases e : x == p.1 with
    | true => rw [e] at h; cases h; rw [eq_of_beq e]; exact hl.1
    | false => rw [e] at h; exact LocLe.look hl.2 x v h
def HLe : List AO → List AO → Prop
  | [], [] => True
  | o :: H, o' :: H' => ((o'.own = true → o.own = true) ∧ (o'.pl = true → o.pl = true) ∧ ItsLe o.its o'.its) ∧ HLe H H'
  | _, _ => False
theorem HLe.refl : ∀ H : List AO, HLe H H
  | [] => trivial
  | o :: H => ⟨⟨id, id, .inl rfl⟩, HLe.refl H⟩
theorem HLe.length : ∀ {H H' : List AO}, HLe H H' → H'.length = H.length
  | [], [], _ => rfl
  | [], _ :: _, h => h.elim
  | _ :: _, [], h => h.elim
  | _ :: _, _ :: _, ⟨_, h⟩ => by simp [HLe.length h]
theorem HLe.get : ∀ {H H' : List AO}, HLe H H' → ∀ (k : Nat) o', H'[k]? = some o' → ∃ o, H[k]? = some o ∧ (o'.own = true → o.own = true) ∧ (o'.pl = true → o.pl = true) ∧ ItsLe o.its o'.its
  | [], [], _, _, _, h => by simp at h
  | [], _ :: _, h, _, _, _ => h.elim
  | _ :: _, [], h, _, _, _ => h.elim
  | o :: H, o' :: H', ⟨h, r⟩, k, q, e => by
    cases k with
    | zero => simp at e; subst e; exact ⟨o, rfl, h⟩
    | succ k => exact HLe.get r k q (by simpa using e)
structure StLe (σ σ' : St) : Prop where
  loc : ∀ x v, σ'.loc.lookup x = some v → σ.loc.lookup x = some v
  H : HLe σ.H σ'.H
  lo : σ'.lo ≤ σ.lo
theorem StLe.refl (σ : St) : StLe σ σ := ⟨fun _ _ h => h, HLe.refl _, Nat.le_refl _⟩
theorem StLe.of {σ σ' : St} (h : LocLe σ.loc σ'.loc) (hH : HLe σ.H σ'.H) (hl : σ'.lo ≤ σ.lo) : StLe σ σ' := ⟨h.look, hH, hl⟩
section
variable {Γ : Cx w T} {σ σ' : St} {as : List Addr} {s : Shared}
theorem After.le (r : Rel Γ σ as s) (h : StLe σ σ') : After Γ σ as s σ' as s := by
  have ownle : ∀ k, Own σ' k → Own σ k := fun k ⟨o, h1, h2⟩ => by
    obtain ⟨o₁, e1, e2, _⟩ := h.H.get k o h1
    exact ⟨o₁, e1, e2 h2⟩
  refine ⟨⟨[], by simp⟩, ⟨?_, by rw [r.len, h.H.length], fun k a o ha ho => ?_, fun k j a h1 h2 h3 => r.apart k j a h1 h2 (ownle k h3), Nat.le_trans h.lo r.low, r.cells⟩, fun _ _ _ _ e => e, fun k a ha ho => .inl ⟨ha, ownle k ho⟩, fun k a h => .inl h, Nat.le_refl _, .refl _, id, rfl, Nat.le_refl _, fun _ => keeps_refl s⟩
  · obtain ⟨m, F, hm⟩ := r.fr
    exact ⟨m, F, fun x v hx => hm x v (h.loc x v hx)⟩
  · obtain ⟨o₁, e1, e2, e3, e4⟩ := h.H.get k o ho
    obtain ⟨vs, h1, h2, h3, h4⟩ := r.objs k a o₁ ha e1
    exact ⟨vs, h1, e4.are h2, fun q => h3 (e2 q), fun q => h4 (e3 q)⟩
theorem exs_le {ss : List Stmt} {Q : AF → St → Prop} (h : StLe σ σ') (k : ExS Γ ss σ' Q) : ExS Γ ss σ Q := fun s as r =>
  have A := After.le r h; wpAny_after A (k s as A.rel)
/-! what is looped over -/
def ItE (Γ : Cx w T) (iter : Expr) (σ : St) (Q : List SV → St → Prop) : Prop :=
  ∀ s as, Rel Γ σ as s → wpAny (M w) Γ.A (eval iter Γ.env) (fun xv s₁ => wpAny (M w) Γ.A (pyIter xv) (fun it s₂ =>
    ∃ I fp wr P St' vals σ' as', it = .ref I ∧ Walks Challenge.pw_wf0053_01 w Γ.A I fp wr (List.length vals) P St' ∧ St' 0 s₂.heap ∧ (∀ (i : Nat) v, P i v → ∃ x, vals[i]? = some x ∧ x.is v) ∧ After Γ σ as s σ' as' s₂ ∧
    (∀ i h, St' i h → ∀ b ∈ fp, ∃ o, h.get? b = some o) ∧ (∀ b ∈ fp, b ≠ Γ.env.locals ∧ ∀ k : Nat, Own σ' k → as'[k]? ≠ some b) ∧ (∀ b ∈ wr, s.heap.objs.size ≤ b ∧ ∀ k : Nat, as'[k]? ≠ some b) ∧ Q vals σ') Never s₁) Never s
theorem Rel.lt (r : Rel Γ σ as s) {k : Nat} {a : Addr} (h : as[k]? = some a) : a < s.heap.objs.size := by
  have hlt : k < σ.H.length := by rw [← r.len]; exact (List.getElem?_eq_some_iff.mp h).1
  obtain ⟨vs, ⟨o', ho', _⟩, _⟩ := r.objs k a σ.H[k] h (by simp)
  exact Heap.lt_size ho'
theorem Rel.locals_lt (r : Rel Γ σ as s) : Γ.env.locals < s.heap.objs.size := by
  obtain ⟨m, F, _⟩ := r.fr; exact F.ns.lt
theorem it_list {iter : Expr} {Q : List SV → St → Prop} (h : EvE Γ iter σ (fun v σ₁ => ∃ k ao, v = .obj k ∧ σ₁.H[k]? = some ao ∧ ao.own = false ∧ Q ao.its σ₁)) : ItE Γ iter σ Q := fun s as r => by
  refine wpAny_mono (h s as r) (fun v s₁ hv => ?_) fun _ _ h => h
  obtain ⟨va, σ₁, as₁, ha, A₁, k, ao, rfl, hk, hown, hq⟩ := hv
  obtain ⟨l, vs, rfl, hl', hl, hr, _⟩ := A₁.rel.at ha hk
  have G : Grown Γ.fz s₁ { s₁ with heap := s₁.heap.push { cls := .type "list_iterator", data := .fields #[.ref l, .int 0 0] } } := Grown.push ..
  have A₂ := After.grown A₁.rel G
  have hlt := A₁.rel.lt hl'
  refine wpAny_pyIter_list hl ?_
  have W := Walks.list (prog := Challenge.pw_wf0053_01) (w := w) Γ.hh s₁.heap.objs.size l (Nat.ne_of_lt hlt) vs.toArray
  have e : vs.toArray.size = ao.its.length := by simp [hr.1]
  rw [e] at W
  refine ⟨_, _, _, _, _, ao.its, σ₁, as₁, rfl, W, ⟨⟨_, Heap.get?_push_size _ rfl, rfl, rfl⟩, hl.push _⟩, fun i v hv => ?_, A₁.trans A₂, fun i h hi b hb => ?_, fun b hb => ?_, fun b hb => ?_, hq⟩
  · have hi : i < ao.its.length := by
      have := (Array.getElem?_eq_some_iff.mp hv).1
      rw [← e]; exact this
    obtain ⟨u, hu, hx⟩ := hr.2 i ao.its[i] (by simp [hi])
    have : v = u := by simp at hv; rw [hv] at hu; exact Option.some.inj hu
    exact ⟨_, by simp [hi], this ▸ hx⟩
  · rcases List.mem_cons.mp hb with rfl | hb
    · exact ⟨_, hi.1.choose_spec.1⟩
    · rw [List.mem_singleton.mp hb]
      exact ⟨_, hi.2.choose_spec.1⟩
  · rcases List.mem_cons.mp hb with rfl | hb
    · exact ⟨Nat.ne_of_gt A₁.rel.locals_lt, fun k' _ e => Nat.lt_irrefl _ (A₁.rel.lt e)⟩
    · rw [List.mem_singleton.mp hb]
      obtain ⟨m, F, _⟩ := A₁.rel.fr
      exact ⟨list_ne_locals F hl, fun k' hO e => by
        have := A₁.rel.apart k' k l e hl' hO
        subst this
        obtain ⟨o, h1, h2⟩ := hO
        rw [hk] at h1; cases h1
        rw [hown] at h2; cases h2⟩
  · rw [List.mem_singleton.mp hb]
    exact ⟨A₁.size, fun k' e => Nat.lt_irrefl _ (A₁.rel.lt e)⟩
def intsL (a : Int) (n : Nat) : List SV := (List.range n).map fun (i : Nat) => .int (a + i)
theorem range_post {s s₁ : Shared} {as as₁ : List Addr} {σ₁ : St} {a b : Int} {t u v : Tok} {tk : Nat} {Q : List SV → St → Prop} (A₁ : After Γ σ as s σ₁ as₁ s₁) (htk : s₁.toks ≤ tk)
    (ha : -(2 ^ 62) ≤ a) (ha' : a < 2 ^ 62) (hb : -(2 ^ 62) ≤ b) (hb' : b < 2 ^ 62) (hq : Q (intsL a (b - a).toNat) σ₁) :
    wpAny (M w) Γ.A (pyIter (.ref s₁.heap.objs.size)) (fun it s₂ =>
    ∃ I fp wr P St' vals σ' as', it = .ref I ∧ Walks Challenge.pw_wf0053_01 w Γ.A I fp wr (List.length vals) P St' ∧ St' 0 s₂.heap ∧ (∀ (i : Nat) v, P i v → ∃ x, vals[i]? = some x ∧ x.is v) ∧ After Γ σ as s σ' as' s₂ ∧
    (∀ i h, St' i h → ∀ b ∈ fp, ∃ o, h.get? b = some o) ∧ (∀ b ∈ fp, b ≠ Γ.env.locals ∧ ∀ k : Nat, Own σ' k → as'[k]? ≠ some b) ∧ (∀ b ∈ wr, s.heap.objs.size ≤ b ∧ ∀ k : Nat, as'[k]? ≠ some b) ∧ Q vals σ') Never
      { s₁ with heap := s₁.heap.push { cls := .type "range", data := .fields #[.int a t, .int b u, .int 1 v] }, toks := tk } := by
  refine wpAny_pyIter_range (IsRange.new ..) (small_one ha ha' hb hb') ?_
  have hsz : Builtin.Range.rangeSize a b 1 = ((b - a).toNat : Int) := by rw [rangeSize_one]; split <;> omega
  have W := (Walks.range (prog := Challenge.pw_wf0053_01) (w := w) Γ.hh (s₁.heap.push { cls := .type "range", data := .fields #[.int a t, .int b u, .int 1 v] }).objs.size a 1 (b - a).toNat).bound
  have e : (intsL a (b - a).toNat).length = (b - a).toNat := by simp [intsL]
  rw [← e] at W
  have hle : s₁.heap.objs.size < (s₁.heap.push { cls := .type "range", data := .fields #[.int a t, .int b u, .int 1 v] }).objs.size := by rw [Heap.size_push]; exact Nat.lt_succ_self _
  have G : Grown Γ.fz s₁ { s₁ with heap := (s₁.heap.push { cls := .type "range", data := .fields #[.int a t, .int b u, .int 1 v] }).push { cls := .type "range_iterator", data := .fields #[rawInt a, rawInt (Builtin.Range.rangeSize a b 1), rawInt 1] }, toks := tk } :=
    Grown.heap (fun _ _ h => Heap.get?_push_of_some _ (Heap.get?_push_of_some _ h)) (by rw [Heap.size_push]; exact Nat.le_succ_of_le (Nat.le_of_lt hle)) htk
  refine ⟨_, _, _, _, _, _, σ₁, as₁, rfl, W, ?_, fun i v hv => ?_, A₁.trans (After.grown A₁.rel G), fun i h hi b hb => ?_, fun b hb => ?_, fun b hb => ?_, hq⟩
  · have e1 : (a + ((0 : Nat) : Int) * 1) = a := by simp
    have e2 : (((b - a).toNat : Int) - ((0 : Nat) : Int)) = Builtin.Range.rangeSize a b 1 := by rw [hsz]; simp
    show IsRangeIter _ _ (a + ((0 : Nat) : Int) * 1) (((intsL a (b - a).toNat).length : Int) - ((0 : Nat) : Int)) 1
    rw [e, e1, e2]
    exact Heap.get?_push_size _ rfl
  · obtain ⟨hi, t, rfl⟩ := hv
    exact ⟨.int (a + i), by unfold intsL at hi ⊢; simp only [List.length_map, List.length_range] at hi; rw [List.getElem?_map, List.getElem?_range hi]; rfl, t, by simp⟩
  · rw [List.mem_singleton.mp hb]
    exact ⟨_, hi⟩
  · rw [List.mem_singleton.mp hb]
    refine ⟨fun e => ?_, fun k' _ e => ?_⟩
    · have := A₁.rel.locals_lt; rw [← e] at this; exact Nat.lt_irrefl _ (Nat.lt_trans this hle)
    · exact Nat.lt_irrefl _ (Nat.lt_trans (A₁.rel.lt e) hle)
  · rw [List.mem_singleton.mp hb]
    exact ⟨Nat.le_trans A₁.size (Nat.le_of_lt hle), fun k' e => Nat.lt_irrefl _ (Nat.lt_trans (A₁.rel.lt e) hle)⟩
theorem it_range1 {fp pos : Pos} {e : Expr} {Q : List SV → St → Prop} (h : EvE Γ (.Name "range" fp) σ (fun v σ₁ => v = .con (.type "range") ∧ EvE Γ e σ₁ (fun x σ₂ => ∃ n, x = .int n ∧ -(2 ^ 62) ≤ n ∧ n < 2 ^ 62 ∧ Q (intsL 0 n.toNat) σ₂)))
    (he : starEach (e :: []) Γ.env = (false, eval e Γ.env) :: starEach [] Γ.env := by rfl) : ItE Γ (.Call (.Name "range" fp) [e] [] pos) σ Q := fun s as r =>
  Call_ (wpAny_mono (h s as r) (fun v s₁ hv => by
    obtain ⟨va, σ₁, as₁, ha, A₁, rfl, hq⟩ := hv
    have : v = .type "range" := ha
    subst this
    refine PyProof.Rows.callWith_type1 (wpAny_items_cons (wpAny_mono (hq s₁ as₁ A₁.rel) (fun x s₂ hx => ?_) fun _ _ h => h) he) he rfl
    obtain ⟨xa, σ₂, as₂, hxa, A₂, n, rfl, h1, h2, hq₂⟩ := hx
    obtain ⟨t, rfl⟩ := hxa
    refine Calls.spliced_nil (call_range_1 ?_)
    refine range_post (A₁.trans A₂) (by omega) (by decide) (by decide) h1 h2 ?_
    simpa using hq₂) fun _ _ h => h)
theorem it_range2 {fp pos : Pos} {e e' : Expr} {Q : List SV → St → Prop} (h : EvE Γ (.Name "range" fp) σ (fun v σ₁ => v = .con (.type "range") ∧ EvE Γ e σ₁ (fun x σ₂ => EvE Γ e' σ₂ (fun y σ₃ => ∃ a b, x = .int a ∧ y = .int b ∧ -(2 ^ 62) ≤ a ∧ a < 2 ^ 62 ∧ -(2 ^ 62) ≤ b ∧ b < 2 ^ 62 ∧ Q (intsL a (b - a).toNat) σ₃))))
    (he : starEach (e :: [e']) Γ.env = (false, eval e Γ.env) :: starEach [e'] Γ.env := by rfl) (he' : starEach (e' :: []) Γ.env = (false, eval e' Γ.env) :: starEach [] Γ.env := by rfl) (hp : (backTo pos (starEach [e'] Γ.env)).any (·.1) = false := by rfl) : ItE Γ (.Call (.Name "range" fp) [e, e'] [] pos) σ Q := fun s as r =>
  Call_ (wpAny_mono (h s as r) (fun v s₁ hv => by
    obtain ⟨va, σ₁, as₁, ha, A₁, rfl, hq⟩ := hv
    have : v = .type "range" := ha
    subst this
    refine PyProof.Rows.callWith_type1 (wpAny_items_cons (wpAny_mono (hq s₁ as₁ A₁.rel) (fun x s₂ ⟨xa, σ₂, as₂, hxa, A₂, hx⟩ => wpAny_items_cons (wpAny_mono (hx s₂ as₂ A₂.rel) (fun y s₃ hy => ?_) fun _ _ h => h) he') fun _ _ h => h) he) he hp
    obtain ⟨ya, σ₃, as₃, hya, A₃, a, b, rfl, rfl, h1, h2, h3, h4, hq₃⟩ := hy
    obtain ⟨t, rfl⟩ := hxa
    obtain ⟨t', rfl⟩ := hya
    refine Calls.spliced_nil (call_range_2 ?_)
    exact range_post ((A₁.trans A₂).trans A₃) (by omega) h1 h2 h3 h4 hq₃) fun _ _ h => h)
/-! a for -/
theorem never_noted {α : Type} {M : Model} {A : Around} {t : Sem α} {Q : α → Shared → Prop} {E : Value → Shared → Prop} {s : Shared} (h : wpAny M A t Q Never s) : wpAny M A t Q E s := wpAny_never h
/-- what an iterator's step changes is nothing of the frame's -/
theorem After.iter (r : Rel Γ σ as s) {h' : Heap} {tk : Nat} {wr : List Addr} (hw : ∀ b ∈ wr, b ≠ Γ.env.locals ∧ Γ.g.get? b = none ∧ (∀ k : Nat, as[k]? ≠ some b) ∧ ∀ x, Γ.env.cells.lookup x ≠ some b)
    (hk : ∀ b o, b ∉ wr → s.heap.get? b = some o → h'.get? b = some o) (ht : σ.lo ≤ tk) : Rel Γ σ as { s with heap := h', toks := tk } := by
  obtain ⟨m, F, hm⟩ := r.fr
  refine ⟨⟨m, ⟨F.ns.at' fun o e => hk _ o (fun q => (hw _ q).1 rfl) e, fun b o e => hk b o (fun q => by rw [(hw b q).2.1] at e; cases e) (F.keep b o e), F.above⟩, fun x v hx => ?_⟩, r.len, fun k a o ha ho => ?_, r.apart, ht, fun x c h => let ⟨v, ⟨o, ho, hd⟩⟩ := r.cells x c h; ⟨v, o, hk c o (fun q => (hw c q).2.2.2 x h) ho, hd⟩⟩
  · obtain ⟨u, hl, hu⟩ := hm x v hx
    refine ⟨u, ?_, hu⟩
    have cell : ∀ c v, Γ.env.cells.lookup x = some c → s.heap.IsCell c v → h'.IsCell c v := fun c v hc ⟨o, ho, hd⟩ => ⟨o, hk c o (fun q => (hw c q).2.2.2 x hc) ho, hd⟩
    cases hl with
    | loc a b => exact .loc a b
    | cell c a b d => exact .cell c a b (cell c _ b d)
    | free c a n b d => exact .free c a n b (cell c _ b d)
  · obtain ⟨vs, ⟨o₁, h1, h2⟩, h3, h4, h5⟩ := r.objs k a o ha ho
    have hn : a ∉ wr := fun q => (hw a q).2.2.1 k ha
    exact ⟨vs, ⟨o₁, hk a o₁ hn h1, h2⟩, h3, h4, fun q => (h5 q).at fun o e => hk a o hn e⟩
theorem ex_for (hfz : Γ.fz = false) {x : Str} {px pos : Pos} {iter : Expr} {body orelse : List Stmt} {Q : AF → St → Prop} (hx : Γ.env.kindOf x = some .local)
    (h : ItE Γ iter σ (fun vals σ₁ => ∃ C : Nat → St → Prop, (∃ c, C 0 c ∧ StLe σ₁ c) ∧
      (∀ (i : Nat) v c, vals[i]? = some v → C i c → ExS Γ body (c.put x (.sv v)) (fun f σ₃ => match f with
        | .next => ∃ c', C (i + 1) c' ∧ StLe σ₃ c' | .cont => ∃ c', C (i + 1) c' ∧ StLe σ₃ c' | .brk => Q .next σ₃ | .ret v => Q (.ret v) σ₃)) ∧
      ∀ c, C vals.length c → ExS Γ orelse c Q))
    (hs : ∀ x, foldedSetIterable iter Γ.env x = pure x := by intro _; rfl) : ExC Γ (.For (.Name x px) iter body orelse pos) σ Q := fun s as r => by
  refine wpAny_For (wpAny_mono (h s as r) (fun xv s₁ h₁ => wpAny_mono h₁ (fun it s₂ h₂ => ?_) fun _ _ e => e) fun _ _ e => e) hs
  obtain ⟨I, fp, wr, P, St', vals, σ₁, as₁, rfl, W, hst, hP, A₁, hal, hfp, hwr, C, ⟨c₀, hc₀, hle₀⟩, turn, fin⟩ := h₂
  have A₀ := A₁.trans (After.le A₁.rel hle₀)
  have ownle : ∀ k, Own c₀ k → Own σ₁ k := fun k ⟨o, h1, h2⟩ => by
    obtain ⟨o₁, e1, e2, _⟩ := hle₀.H.get k o h1
    exact ⟨o₁, e1, e2 h2⟩
  have hwr' : ∀ b ∈ wr, b ≠ Γ.env.locals ∧ Γ.g.get? b = none ∧ ∀ x, Γ.env.cells.lookup x ≠ some b := fun b hb => by
    have hb := (hwr b hb).1
    obtain ⟨m, F, _⟩ := r.fr
    refine ⟨fun e => ?_, ?_, fun x e => let ⟨v, o, ho, _⟩ := r.cells x b e; absurd (Heap.lt_size ho) (Nat.not_lt.mpr hb)⟩
    · have := r.locals_lt; rw [← e] at this; exact absurd this (Nat.not_lt.mpr hb)
    · cases e : Γ.g.get? b with
      | none => rfl
      | some o => exact absurd (Heap.lt_size (F.keep b o e)) (Nat.not_lt.mpr hb)
  have hnone : ∀ b ∈ wr, s.heap.get? b = none := fun b hb => by
    cases e : s.heap.get? b with
    | none => rfl
    | some o => exact absurd (Heap.lt_size e) (Nat.not_lt.mpr (hwr b hb).1)
  have hpl : (Γ.env.scope.kind == .class || (Γ.env.scope.kind == .module && Γ.env.locals != Γ.env.globals)) = false := by rw [Γ.hk]; rfl
  refine codeAny_forLoop (R := fun r s' => match r with | .ok f => Post Γ σ as s AF.is Q f s' | .error e => cameBackBy (M w) Γ.A Γ.env Never e s')
    (fun k s' => ∃ i c as', k = vals.length + 1 - i ∧ i ≤ vals.length ∧ After Γ σ as s c as' s' ∧ St' i s'.heap ∧ C i c ∧ (∀ b ∈ fp, ∀ k : Nat, Own c k → as'[k]? ≠ some b) ∧ (∀ b ∈ wr, ∀ k : Nat, as'[k]? ≠ some b)) ?_ (vals.length + 1)
    ⟨0, c₀, as₁, rfl, Nat.zero_le _, A₀, hst, hc₀, fun b hb k hk => (hfp b hb).2 k (ownle k hk), fun b hb => (hwr b hb).2⟩
  rintro k s' ⟨i, c, as', rfl, hi, A, hst', hC, hf, hw⟩
  -- the iterator's step
  have step : ∀ h' tk, (∀ b o, b ∉ wr → s'.heap.get? b = some o → h'.get? b = some o) → s'.heap.objs.size ≤ h'.objs.size → s'.toks ≤ tk → After Γ σ as s c as' { s' with heap := h', toks := tk } := fun h' tk hk hz ht => by
    have R := After.iter A.rel (wr := wr) (fun b hb => ⟨(hwr' b hb).1, (hwr' b hb).2.1, hw b hb, (hwr' b hb).2.2⟩) hk (Nat.le_trans A.rel.low ht)
    refine ⟨A.ext, R, fun b o hL hO e => hk b o (fun q => by rw [hnone b q] at e; cases e) (A.kept b o hL hO e), A.own, A.newer, Nat.le_trans A.size hz, A.gens, A.bare, A.os, Nat.le_trans A.toks ht, fun q => by rw [hfz] at q; cases q⟩
  by_cases hlt : i < vals.length
  · refine wpAny_with_toks (Nat.le_refl s'.toks) (wpAny_size (Nat.le_refl _) (W.item i _ _ _ hlt hst' fun v h₁ tk₁ hPv hst₁ hk₁ hz₁ ht₁ => ?_))
    have A₁ := step h₁ tk₁ hk₁ hz₁ ht₁
    obtain ⟨x', hx', hxv⟩ := hP i v hPv
    obtain ⟨m, F, hm⟩ := A₁.rel.fr
    refine wpAny_assign_Name (wpAny_storeName_local hx F.ns (fun h₂ hn₂ hs₂ => ?_) hpl)
    have A₂ := After.store hfz A₁.rel hx (v := .sv x') hxv F hm hn₂ hs₂ (Nat.le_succ _)
    have A₃ := A₁.trans A₂
    have hst₂ : St' (i + 1) h₂ := W.frame _ _ _ hst₁ fun b hb o e => (hs₂.2 b (hfp b hb).1).trans e
    refine never_noted (wpAny_mono (turn i x' c hx' hC _ as' A₂.rel) (fun f s₃ h₃ => ?_) fun _ _ h => h)
    obtain ⟨af, σ₃, as₃, haf, A₄, hq⟩ := h₃
    have done : ∀ c', C (i + 1) c' → StLe σ₃ c' → ∃ m, m < vals.length + 1 - i ∧ ∃ i' c as', m = vals.length + 1 - i' ∧ i' ≤ vals.length ∧ After Γ σ as s c as' s₃ ∧ St' i' s₃.heap ∧ C i' c ∧ (∀ b ∈ fp, ∀ k : Nat, Own c k → as'[k]? ≠ some b) ∧ (∀ b ∈ wr, ∀ k : Nat, as'[k]? ≠ some b) := fun c' hc' hle => by
      have A₅ := A₃.trans (A₄.trans (After.le A₄.rel hle))
      have alive := hal _ _ hst₂
      have hf₃ : ∀ b ∈ fp, ∀ k : Nat, Own σ₃ k → as₃[k]? ≠ some b := fun b hb k hk e => by
        rcases A₄.own k b e hk with ⟨h1, h2⟩ | h
        · exact hf b hb k h2 h1
        · obtain ⟨o, ho⟩ := alive b hb
          rw [show h₂.get? b = none from h] at ho; cases ho
      refine ⟨vals.length + 1 - (i + 1), by omega, i + 1, c', as₃, rfl, hlt, A₅, ?_, hc', fun b hb k hk => hf₃ b hb k ?_, fun b hb k e => ?_⟩
      · exact W.frame _ _ _ hst₂ fun b hb o e => A₄.kept b o (hfp b hb).1 (fun k hk => hf b hb k hk) e
      · obtain ⟨o, h1, h2⟩ := hk
        obtain ⟨o₁, e1, e2, _⟩ := hle.H.get k o h1
        exact ⟨o₁, e1, e2 h2⟩
      · rcases A₄.newer k b e with h1 | h
        · exact hw b hb k h1
        · obtain ⟨o, ho⟩ := alive b (W.sub b hb)
          rw [show h₂.get? b = none from h] at ho; cases ho
    cases af with
    | next => cases haf; obtain ⟨c', hc', hle⟩ := hq; exact done c' hc' hle
    | cont => cases haf; obtain ⟨c', hc', hle⟩ := hq; exact done c' hc' hle
    | brk => cases haf; exact ⟨.next, σ₃, as₃, rfl, A₃.trans A₄, hq⟩
    | ret v =>
      obtain ⟨u, rfl, hu⟩ := haf
      exact ⟨.ret v, σ₃, as₃, ⟨u, rfl, hu⟩, A₃.trans A₄, hq⟩
  · have hin : i = vals.length := by omega
    subst hin
    refine wpAny_with_toks (Nat.le_refl s'.toks) (wpAny_size (Nat.le_refl _) (W.done _ _ _ hst' fun h₁ tk₁ hk₁ hz₁ ht₁ => ?_))
    have A₁ := step h₁ tk₁ hk₁ hz₁ ht₁
    exact never_noted (wpAny_after A₁ (fin c hC _ as' A₁.rel))
end
end Mine

/-! part M7 -/
namespace Mine
variable {w : World} {T : Top0}
section
variable {Γ : Cx w T} {σ : St}
theorem ex_while {test : Expr} {body orelse : List Stmt} {pos : Pos} {Q : AF → St → Prop} (C : Nat → St → Prop) (start : ∃ n c, C n c ∧ StLe σ c)
    (turn : ∀ n c, C n c → EvB Γ test c (fun b σ₁ => if b then ExS Γ body σ₁ (fun f σ₃ => match f with
        | .next => ∃ m c', m < n ∧ C m c' ∧ StLe σ₃ c' | .cont => ∃ m c', m < n ∧ C m c' ∧ StLe σ₃ c' | .brk => Q .next σ₃ | .ret v => Q (.ret v) σ₃) else ExS Γ orelse σ₁ Q)) : ExC Γ (.While test body orelse pos) σ Q := fun s as r => by
  obtain ⟨n₀, c₀, hc₀, hle₀⟩ := start
  refine wpAny_While ?_
  refine codeAny_whileLoop (R := fun r s' => match r with | .ok f => Post Γ σ as s AF.is Q f s' | .error e => cameBackBy (M w) Γ.A Γ.env Never e s')
    (fun n s' => ∃ c as', After Γ σ as s c as' s' ∧ C n c) ?_ n₀ ⟨c₀, as, After.le r hle₀, hc₀⟩
  rintro n s' ⟨c, as', A, hC⟩
  refine never_noted (wpAny_mono (turn n c hC s' as' A.rel) (fun b s₂ hb => ?_) fun _ _ h => h)
  obtain ⟨_, σ₁, as₁, rfl, A₁, hq⟩ := hb
  rename_i bb
  cases bb with
  | false => exact never_noted (wpAny_after (A.trans A₁) (hq s₂ as₁ A₁.rel))
  | true =>
    refine never_noted (wpAny_mono (hq s₂ as₁ A₁.rel) (fun f s₃ h₃ => ?_) fun _ _ h => h)
    obtain ⟨af, σ₃, as₃, haf, A₂, hq⟩ := h₃
    cases af with
    | next => cases haf; obtain ⟨m, c', hm, hc', hle⟩ := hq; exact ⟨m, hm, c', as₃, (A.trans A₁).trans (A₂.trans (After.le A₂.rel hle)), hc'⟩
    | cont => cases haf; obtain ⟨m, c', hm, hc', hle⟩ := hq; exact ⟨m, hm, c', as₃, (A.trans A₁).trans (A₂.trans (After.le A₂.rel hle)), hc'⟩
    | brk => cases haf; exact ⟨.next, σ₃, as₃, rfl, (A.trans A₁).trans A₂, hq⟩
    | ret v =>
      obtain ⟨u, rfl, hu⟩ := haf
      exact ⟨.ret v, σ₃, as₃, ⟨u, rfl, hu⟩, (A.trans A₁).trans A₂, hq⟩
theorem ex_aug (hfz : Γ.fz = false) {x : Str} {px pos : Pos} {op : Operator} {e : Expr} {v : AV} {Q : AF → St → Prop} (hx : Γ.env.kindOf x = some .local) (hv : σ.loc.lookup x = some v)
    (h : EvE Γ e σ (fun u σ₁ => Op2 Γ AV.is (inplaceOp op) v u σ₁ (fun r σ₂ => Q .next (σ₂.put x (r))))) : ExC Γ (.AugAssign (.Name x px) op e pos) σ Q := fun s as r =>
  wpAny_AugAssign_Name (wpAny_mono (lookup_ok (Q := fun a σ' => a = v ∧ σ' = σ) hv r ⟨rfl, rfl⟩) (fun old s₁ hold => by
    obtain ⟨_, _, as₁, ho, A₁, rfl, rfl⟩ := hold
    refine wpAny_mono (h s₁ as₁ A₁.rel) (fun u s₂ hu => ?_) fun _ _ h => h
    obtain ⟨ua, σ₂, as₂, hua, A₂, hq⟩ := hu
    refine wpAny_mono (hq s₂ as₂ old u A₂.rel (AV.is_of_ext ho A₂.ext) hua) (fun n s₃ hn => ?_) fun _ _ h => h
    obtain ⟨na, σ₃, as₃, hna, A₃, hq₃⟩ := hn
    exact wpAny_mono (store_ok hfz hx A₃.rel hna hq₃) (fun _ _ h => h.after ((A₁.trans A₂).trans A₃)) fun _ _ h => h) fun _ _ h => h)
theorem ex_augsub (hfz : Γ.fz = false) {o i : Expr} {tpos pos : Pos} {op : Operator} {e : Expr} {Q : AF → St → Prop}
    (h : EvE Γ o σ (fun vo σ₁ => EvE Γ i σ₁ (fun vi σ₂ => ∃ k n ao x, vo = .obj k ∧ vi = .int n ∧ σ₂.H[k]? = some ao ∧ 0 ≤ n ∧ n < 2 ^ 63 ∧ ao.its[n.toNat]? = some x ∧
      EvE Γ e σ₂ (fun u σ₃ => Op2 Γ AV.is (inplaceOp op) (.sv x) u σ₃ (fun r σ₄ => ∃ y ao', r = .sv y ∧ σ₄.H[k]? = some ao' ∧ ao'.own = true ∧ n.toNat < ao'.its.length ∧ Q .next (σ₄.upd k ⟨true, false, ao'.its.set n.toNat y⟩))))))
    (ha : ∀ ov iv new, augStore i ov iv new = (do holding [new, ov, iv] (setItem ov iv new); release [new, ov, iv] []; pure .next) := by intro _ _ _; rfl) : ExC Γ (.AugAssign (.Subscript o i tpos) op e pos) σ Q := fun s as r =>
  wpAny_AugAssign_Subscript_any (wpAny_mono (h s as r) (fun vo s₁ ⟨ao₁, σ₁, as₁, ho, A₁, h₁⟩ => wpAny_mono (h₁ s₁ as₁ A₁.rel) (fun vi s₂ h₂ => by
    obtain ⟨ai, σ₂, as₂, hi, A₂, k, n, ao, x, rfl, rfl, hk, h0, h1, hx, hq⟩ := h₂
    obtain ⟨t, rfl⟩ := hi
    obtain ⟨l, vs, rfl, hl', hl, hr, _⟩ := A₂.rel.at (AV.is_of_ext ho A₂.ext) hk
    obtain ⟨u, hu, hxu⟩ := hr.2 _ x hx
    refine wpAny_getItem_list hl h0 h1 (by simpa using hu) ?_
    refine wpAny_mono (hq s₂ as₂ A₂.rel) (fun v s₃ hv => ?_) fun _ _ h => h
    obtain ⟨va, σ₃, as₃, hva, A₃, hq₃⟩ := hv
    refine wpAny_mono (hq₃ s₃ as₃ u v A₃.rel hxu hva) (fun new s₄ hn => ?_) fun _ _ h => h
    obtain ⟨na, σ₄, as₄, hna, A₄, y, ao', rfl, hk₄, hown, hlt, hq₄⟩ := hn
    obtain ⟨l', vs', e, hl₄', hl₄, hr₄, _⟩ := A₄.rel.at (AV.is_of_ext (AV.is_of_ext (v := .obj k) ⟨l, hl', rfl⟩ A₃.ext) A₄.ext) hk₄
    cases e
    refine wpAny_setItem_list hl₄ h0 h1 (by simp [hr₄.1]; omega) fun h' hl'' hs'' => ?_
    have e : vs'.toArray.setIfInBounds n.toNat new = (vs'.set n.toNat new).toArray := by simp
    rw [e] at hl''
    have A₅ := After.setObj hfz A₄.rel hl₄' hk₄ hown hs'' false hl'' (hr₄.set n.toNat hna) (fun q => nomatch q) (Nat.le_refl s₄.toks)
    exact ⟨.next, _, as₄, rfl, (((A₁.trans A₂).trans A₃).trans A₄).trans A₅, hq₄⟩) fun _ _ h => h) fun _ _ h => h) ha
/-! comprehensions over ints, giving ints -/
def intP (p : Int → Bool) : Value → Bool
  | .int k _ => p k
  | _ => false
def intF (f : Int → Int) (v y : Value) : Prop := ∀ k t, v = .int k t → ∃ t', y = .int (f k) t'
theorem paired_ints {p : Int → Bool} {f : Int → Int} : ∀ {vs : List Value} {ns : List Int} {ys : List Value}, IntsAre vs ns → Paired (intF f) (vs.filter (intP p)) ys → Are (((ns.filter p).map f).map .int) ys
  | [], [], ys, _, h => by cases h; exact are_iff_nil
  | _, _, ys, .cons n t r, h => by
    cases e : p n with
    | false =>
      rw [List.filter_cons_of_neg (by simp [intP, e])] at h
      rw [List.filter_cons_of_neg (by simp [e])]
      exact paired_ints r h
    | true =>
      rw [List.filter_cons_of_pos (by simp [intP, e])] at h
      rw [List.filter_cons_of_pos (by simp [e])]
      cases h with
      | cons h1 h2 =>
        obtain ⟨t', rfl⟩ := h1 n t rfl
        exact Are.cons ⟨t', rfl⟩ (paired_ints r h2)
/-- the comprehension's frame -/
def compCx (Γ : Cx w T) (scope : Scope) (cl : List (Str × Addr)) (C : Addr) (hk : scope.kind = .function) : Cx w T :=
  { A := Γ.A, g := Γ.g, env := compEnvC scope cl C Γ.env, room := Γ.room, fz := true, hk := hk, hgl := Γ.hgl, hbl := Γ.hbl, hh := Γ.hh, hg := Γ.hg, hgs := Γ.hgs, hd := Γ.hd, hu := Γ.hu }
structure CompOk (Γ : Cx w T) (scope : Scope) (cl : List (Str × Addr)) (x : Str) (ifs : List Expr) (elt : Expr) (ns : List Int) (fl : List (Str × AV)) (H : List AO) (lo : Nat) (p : Int → Bool) (f : Int → Int) : Prop where
  tests : ∀ C hk k, k ∈ ns → match ifs with
    | [] => p k = true
    | [c] => EvB (compCx Γ scope cl C hk) c ⟨(x, .int k) :: fl, roAll H, lo⟩ (fun b _ => b = p k)
    | _ => False
  elt : ∀ C hk k, k ∈ ns → p k = true → EvE (compCx Γ scope cl C hk) elt ⟨(x, .int k) :: fl, roAll H, lo⟩ (fun v _ => v = .int (f k))
theorem comp_rel {as : List Addr} {s : Shared} (r : Rel Γ σ as s) {scope : Scope} {cl : List (Str × Addr)} {C : Addr} {hk : scope.kind = .function} {x : Str} {fl : List (Str × AV)} {s₃ : Shared} {m₃ : Str → Option Value} {k : Int} {t : Tok}
    (hC : s.heap.objs.size ≤ C) (hn : s₃.heap.Ns C m₃) (hm : m₃ x = some (.int k t)) (hx : (relabel scope Γ.env).names.lookup x = some .local)
    {wr : List Addr} (hwr : ∀ b ∈ wr, Γ.env.locals ≠ b ∧ Γ.g.get? b = none ∧ (∀ k : Nat, as[k]? ≠ some b) ∧ ∀ x, Γ.env.cells.lookup x ≠ some b)
    (hkeep : ∀ b o, b ∉ wr → s.heap.get? b = some o → s₃.heap.get? b = some o) (ht : s.toks ≤ s₃.toks)
    (hcl : ∀ y c, cl.lookup y = some c → Γ.env.cells.lookup y = some c)
    (hfl : ∀ p ∈ fl, σ.loc.lookup p.1 = some p.2 ∧ Γ.env.kindOf p.1 = some .cell ∧ (relabel scope Γ.env).names.lookup p.1 = some .cell ∧ cl.lookup p.1 = Γ.env.cells.lookup p.1) :
    Rel (compCx Γ scope cl C hk) ⟨(x, .int k) :: fl, roAll σ.H, σ.lo⟩ as s₃ := by
  obtain ⟨m, F, hm'⟩ := r.fr
  have hcell : ∀ c v, (∃ y, Γ.env.cells.lookup y = some c) → s.heap.IsCell c v → s₃.heap.IsCell c v := fun c v ⟨y, hy⟩ ⟨o, ho, hd⟩ => ⟨o, hkeep c o (fun q => (hwr c q).2.2.2 y hy) ho, hd⟩
  refine ⟨⟨m₃, ⟨hn, fun b o e => hkeep b o (fun q => by have := (hwr b q).2.1; rw [show Γ.g.get? b = some o from e] at this; cases this) (F.keep b o e), ?_⟩, fun y v hy => ?_⟩, by rw [r.len]; simp [roAll], fun j a o ha ho => ?_, fun k j a _ _ hO => ?_, Nat.le_trans r.low ht, fun y c h => ?_⟩
  · exact Nat.le_trans F.above (Nat.le_of_lt (Nat.lt_of_lt_of_le F.ns.lt hC))
  · simp only [List.lookup_cons] at hy
    cases e : y == x with
    | true =>
      rw [e] at hy
      cases hy
      have : y = x := eq_of_beq e
      subst this
      exact ⟨.int k t, .loc hx hm, t, rfl⟩
    | false =>
      rw [e] at hy
      have hmem := mem_of_look hy
      obtain ⟨h1, h2, h3, h4⟩ := hfl _ hmem
      obtain ⟨u, hl, hu⟩ := hm' y v h1
      refine ⟨u, ?_, hu⟩
      cases hl with
      | loc a b => rw [h2] at a; cases a
      | cell c a b d => exact .cell c h3 (by show cl.lookup y = _; rw [h4]; exact b) (hcell c _ ⟨y, b⟩ d)
      | free c a n b d => rw [h2] at a; cases a
  · obtain ⟨o', h1, rfl⟩ := roAll_get ho
    obtain ⟨us, ⟨o₁, q1, q2⟩, h2, _⟩ := r.objs j a o' ha h1
    exact ⟨us, ⟨o₁, hkeep _ _ (fun q => (hwr a q).2.2.1 j ha) q1, q2⟩, h2, (fun q => nomatch q), fun q => nomatch q⟩
  · obtain ⟨o, h1, h2⟩ := hO
    obtain ⟨o', _, rfl⟩ := roAll_get h1
    cases h2
  · obtain ⟨v, hv⟩ := r.cells y c (hcl y c h)
    exact ⟨v, hcell c v ⟨y, hcl y c h⟩ hv⟩
/-- what an evaluated comprehension leaves -/
theorem comp_quiet {as : List Addr} {s₂ : Shared} (r : Rel Γ σ as s₂) {scope : Scope} {cl : List (Str × Addr)} {x : Str} {ifs : List Expr} {elt : Expr} {ns : List Int} {fl : List (Str × AV)} {p : Int → Bool} {f : Int → Int}
    (K : CompOk Γ scope cl x ifs elt ns fl σ.H σ.lo p f) {wr : List Addr} {P : Nat → Value → Prop} (hP : ∀ i v, P i v → ∃ k t, k ∈ ns ∧ v = .int k t) (hk : scope.kind = .function) (hx : scope.names.lookup x = some .local)
    (hwr : ∀ b ∈ wr, Γ.env.locals ≠ b ∧ Γ.g.get? b = none ∧ (∀ k : Nat, as[k]? ≠ some b) ∧ ∀ x, Γ.env.cells.lookup x ≠ some b)
    (hcl : ∀ y c, cl.lookup y = some c → Γ.env.cells.lookup y = some c)
    (hfl : ∀ p ∈ fl, σ.loc.lookup p.1 = some p.2 ∧ Γ.env.kindOf p.1 = some .cell ∧ (relabel scope Γ.env).names.lookup p.1 = some .cell ∧ cl.lookup p.1 = Γ.env.cells.lookup p.1) :
    QuietOnC Challenge.pw_wf0053_01 w Γ.A Γ.env scope cl x ifs elt wr P (intP p) (intF f) s₂ := by
  have still : ∀ {C : Addr} {hk : scope.kind = .function} {σ' : St} {α β : Type} {R : List Addr → β → α → Prop} {Q : β → St → Prop} {as' : List Addr} {s₃ s₄ : Shared} {v : α}, Post (compCx Γ scope cl C hk) σ' as' s₃ R Q v s₄ → ∃ b σ₄ as₄, R as₄ b v ∧ Q b σ₄ ∧ Keeps s₃ s₄ := fun ⟨b, σ₄, as₄, h1, h2, h3⟩ => ⟨b, σ₄, as₄, h1, h3, h2.still rfl⟩
  constructor
  · intro C i v s₃ m₃ E' hC hPi hn hm hkeep ht
    obtain ⟨k, t, hkn, rfl⟩ := hP i v hPi
    have hT := K.tests C hk k hkn
    have R := comp_rel r (hk := hk) hC hn hm (lookup_relabel_local hx) hwr hkeep ht hcl hfl
    match ifs, hT with
    | [], hT =>
      show wpAny _ _ (pure true) _ _ _
      exact wpAny_pure ⟨hT.symm, keeps_refl s₃⟩
    | [c], hT =>
      rw [List.forIn_cons]
      simp only [if_true]
      refine wpAny_bind (wpAny_bind (wpAny_never (wpAny_mono (hT s₃ as R) (fun b s₄ hb => ?_) fun _ _ h => h)))
      obtain ⟨b', _, _, hb', hq, hK⟩ := still hb
      subst hb'
      refine wpAny_pure ?_
      show wpAny _ _ (pure b') _ _ _
      exact wpAny_pure ⟨hq, hK⟩
    | _ :: _ :: _, hT => exact hT.elim
  · intro C i v s₃ m₃ E' hC hPi hp hn hm hkeep ht
    obtain ⟨k, t, hkn, rfl⟩ := hP i v hPi
    have R := comp_rel r (hk := hk) hC hn hm (lookup_relabel_local hx) hwr hkeep ht hcl hfl
    refine wpAny_never (wpAny_mono (K.elt C hk k hkn hp s₃ as R) (fun y s₄ hy => ?_) fun _ _ h => h)
    obtain ⟨b, _, _, hb, rfl, hK⟩ := still hy
    obtain ⟨t', rfl⟩ := hb
    exact ⟨fun k' t₀ e => by cases e; exact ⟨t', rfl⟩, hK⟩
theorem wr_facts {as : List Addr} {s : Shared} (r : Rel Γ σ as s) {b : Addr} (hb : s.heap.objs.size ≤ b) : b ≠ Γ.env.locals ∧ Γ.g.get? b = none ∧ ∀ x, Γ.env.cells.lookup x ≠ some b := by
  obtain ⟨m, F, _⟩ := r.fr
  refine ⟨fun e => ?_, ?_, fun x e => let ⟨v, o, ho, _⟩ := r.cells x b e; absurd (Heap.lt_size ho) (Nat.not_lt.mpr hb)⟩
  · have := r.locals_lt; rw [← e] at this; exact absurd this (Nat.not_lt.mpr hb)
  · cases e : Γ.g.get? b with
    | none => rfl
    | some o => exact absurd (Heap.lt_size (F.keep b o e)) (Nat.not_lt.mpr hb)
theorem none_of_size {h : Heap} {b : Addr} (hb : h.objs.size ≤ b) : h.get? b = none := by
  cases e : h.get? b with
  | none => rfl
  | some o => exact absurd (Heap.lt_size e) (Nat.not_lt.mpr hb)
theorem After.stepped (hfz : Γ.fz = false) {σ₁ : St} {as as₁ : List Addr} {s s₂ : Shared} (A : After Γ σ as s σ₁ as₁ s₂) (r : Rel Γ σ as s) {wr : List Addr} (hwr : ∀ b ∈ wr, s.heap.objs.size ≤ b ∧ ∀ k : Nat, as₁[k]? ≠ some b) {h' : Heap} {tk : Nat}
    (hk : ∀ b o, b ∉ wr → s₂.heap.get? b = some o → h'.get? b = some o) (hz : s.heap.objs.size ≤ h'.objs.size) (ht : s.toks ≤ tk) (hlo : σ₁.lo ≤ tk) : After Γ σ as s σ₁ as₁ { s₂ with heap := h', toks := tk } := by
  have R := After.iter A.rel (wr := wr) (fun b hb => ⟨(wr_facts r (hwr b hb).1).1, (wr_facts r (hwr b hb).1).2.1, (hwr b hb).2, (wr_facts r (hwr b hb).1).2.2⟩) hk hlo
  exact ⟨A.ext, R, fun b o hL hO e => hk b o (fun q => by rw [none_of_size (hwr b q).1] at e; cases e) (A.kept b o hL hO e), A.own, A.newer, hz, A.gens, A.bare, A.os, ht, fun q => by rw [hfz] at q; cases q⟩
def FlOk (Γ : Cx w T) (σ : St) (scope : Scope) (cl : List (Str × Addr)) (fl : List (Str × AV)) : Prop :=
  ∀ p ∈ fl, σ.loc.lookup p.1 = some p.2 ∧ Γ.env.kindOf p.1 = some .cell ∧ (relabel scope Γ.env).names.lookup p.1 = some .cell ∧ cl.lookup p.1 = Γ.env.cells.lookup p.1
theorem vals_ints {ns : List Int} {P : Nat → Value → Prop} (hP : ∀ (i : Nat) v, P i v → ∃ x, (ns.map SV.int)[i]? = some x ∧ x.is v) : (∀ i v, P i v → ∃ k t, k ∈ ns ∧ v = .int k t) ∧
    ∀ vs : List Value, vs.length = (ns.map SV.int).length → (∀ j v, vs[j]? = some v → P j v) → IntsAre vs ns := by
  refine ⟨fun i v h => ?_, fun vs hl h => ?_⟩
  · obtain ⟨x, hx, hv⟩ := hP i v h
    rw [List.getElem?_map] at hx
    cases e : ns[i]? with
    | none => rw [e] at hx; cases hx
    | some k =>
      rw [e] at hx; cases hx
      obtain ⟨t, rfl⟩ := hv
      exact ⟨k, t, List.mem_of_getElem? e, rfl⟩
  · refine Are.ints ⟨hl, fun i x hx => ?_⟩
    have hi : i < vs.length := by rw [hl]; exact (List.getElem?_eq_some_iff.mp hx).1
    obtain ⟨x', hx', hv⟩ := hP i _ (h i vs[i] (by simp [hi]))
    rw [hx] at hx'; cases hx'
    exact ⟨vs[i], by simp [hi], hv⟩
theorem ev_comp (hfz : Γ.fz = false) {elt iter : Expr} {x : Str} {px : Pos} {ifs : List Expr} {scope : Scope} {pos : Pos} {Q : AV → St → Prop} (p : Int → Bool) (f : Int → Int) (cl : List (Str × Addr)) (fl : List (Str × AV))
    (hclos : closureFor scope Γ.env = pure cl) (hcell : ∀ y ∈ scope.names, y.2 ≠ .cell) (hkind : scope.kind = .function)
    (hnames : ∀ y ∈ scope.names, y.2 = .local → scope.names.lookup y.1 = some .local) (hx : scope.names.lookup x = some .local) (hcl : ∀ y c, cl.lookup y = some c → Γ.env.cells.lookup y = some c)
    (h : ItE Γ iter σ (fun vals σ₁ => ∃ ns, vals = ns.map .int ∧ ns.length ≤ sizeLine ∧ σ₁.lo = σ.lo ∧ FlOk Γ σ₁ scope cl fl ∧ CompOk Γ scope cl x ifs elt ns fl σ₁.H σ₁.lo p f ∧ Q (.obj σ₁.H.length) (σ₁.push ⟨true, true, ((ns.filter p).map f).map .int⟩)))
    (hs : ∀ x, foldedSetIterable iter Γ.env x = pure x := by intro _; rfl) : EvE Γ (.ListComp elt [⟨.Name x px, iter, ifs, 0⟩] scope pos) σ Q := fun s as r => by
  refine wpAny_with_toks (Nat.le_refl s.toks) (wpAny_size (Nat.le_refl s.heap.objs.size) ?_)
  refine wpAny_ListComp_free (intP p) (intF f) hclos hcell hkind hnames hx (wpAny_mono (h s as r) (fun xv s₁ h₁ => wpAny_mono h₁ (fun it s₂ h₂ => ?_) fun _ _ e => e.elim) fun _ _ e => e.elim) hs
  obtain ⟨I, fp, wr, P, St', vals, σ₁, as₁, rfl, W, hst, hP, A₁, hal, hfp, hwr, ns, rfl, hz, hlo, hfl, K, hq⟩ := h₂
  obtain ⟨hv1, hv2⟩ := vals_ints hP
  refine ⟨I, fp, wr, _, P, St', rfl, W, by simpa using hz, hst, fun b hb => let ⟨o, ho⟩ := hal _ _ hst b hb; Heap.lt_size ho,
    comp_quiet A₁.rel K hv1 hkind hx (fun b hb => ⟨Ne.symm (wr_facts r (hwr b hb).1).1, (wr_facts r (hwr b hb).1).2.1, (hwr b hb).2, (wr_facts r (hwr b hb).1).2.2⟩) hcl hfl, ?_⟩
  intro D h' tk ys vs hD hlD hplD hlen hPv hPair hk hsz htk
  have hsz' : s.heap.objs.size ≤ h'.objs.size := hsz
  have A₂ := After.stepped hfz A₁ r hwr hk hsz' htk (by rw [hlo]; exact Nat.le_trans r.low htk)
  have hna : ∀ k : Nat, as₁[k]? ≠ some D := fun k e => by
    obtain ⟨o, ho⟩ : ∃ o, s₂.heap.get? D = some o := by
      have hlt : k < σ₁.H.length := by rw [← A₁.rel.len]; exact (List.getElem?_eq_some_iff.mp e).1
      obtain ⟨vs, ⟨o', ho', _⟩, _⟩ := A₁.rel.objs k D σ₁.H[k] e (by simp)
      exact ⟨o', ho'⟩
    rw [hD] at ho; cases ho
  have hgD : Γ.g.get? D = none := by
    cases e : Γ.g.get? D with
    | none => rfl
    | some o =>
      obtain ⟨m, F, _⟩ := A₁.rel.fr
      have := F.keep D o e
      rw [hD] at this; cases this
  have hy : ys = ys.toList.toArray := by simp
  have hare := paired_ints (hv2 vs hlen hPv) hPair
  rw [hy] at hlD hplD
  have A₃ := A₂.add true true (A₁.dom hD) hna hgD hlD hare (fun _ => hplD)
  refine ⟨.obj σ₁.H.length, _, as₁ ++ [D], ⟨D, ?_, rfl⟩, A₃, hq⟩
  rw [← A₁.rel.len]; simp
/-- a list comprehension stored in a name on its own line -/
theorem ex_assign_comp (hfz : Γ.fz = false) {elt iter : Expr} {x y : Str} {px py : Pos} {ifs : List Expr} {scope : Scope} {pos spos : Pos} {Q : AF → St → Prop} (p : Int → Bool) (f : Int → Int) (cl : List (Str × Addr)) (fl : List (Str × AV))
    (hsw : swapsWith (.ListComp elt [⟨.Name x px, iter, ifs, 0⟩] scope pos) (some (.Name y py)) spos.line Γ.env = pure true)
    (hclos : closureFor scope Γ.env = pure cl) (hcell : ∀ y ∈ scope.names, y.2 ≠ .cell) (hkind : scope.kind = .function)
    (hnames : ∀ y ∈ scope.names, y.2 = .local → scope.names.lookup y.1 = some .local) (hx : scope.names.lookup x = some .local) (hcl : ∀ y c, cl.lookup y = some c → Γ.env.cells.lookup y = some c) (hy : Γ.env.kindOf y = some .local)
    (h : ItE Γ iter σ (fun vals σ₁ => ∃ ns, vals = ns.map .int ∧ ns.length ≤ sizeLine ∧ σ₁.lo = σ.lo ∧ FlOk Γ σ₁ scope cl fl ∧ CompOk Γ scope cl x ifs elt ns fl σ₁.H σ₁.lo p f ∧ Q .next ((σ₁.push ⟨true, true, ((ns.filter p).map f).map .int⟩).put y (.obj σ₁.H.length))))
    (hs : ∀ x, foldedSetIterable iter Γ.env x = pure x := by intro _; rfl) : ExC Γ (.Assign [.Name y py] (.ListComp elt [⟨.Name x px, iter, ifs, 0⟩] scope pos) spos) σ Q := fun s as r => by
  refine wpAny_with_toks (Nat.le_refl s.toks) (wpAny_size (Nat.le_refl s.heap.objs.size) ?_)
  have hpl : (Γ.env.scope.kind == .class || (Γ.env.scope.kind == .module && Γ.env.locals != Γ.env.globals)) = false := by rw [Γ.hk]; rfl
  refine wpAny_Assign_ListComp_free (intP p) (intF f) hsw hclos hcell hkind hnames hx hy hpl (wpAny_mono (h s as r) (fun xv s₁ h₁ => wpAny_mono h₁ (fun it s₂ h₂ => ?_) fun _ _ e => e.elim) fun _ _ e => e.elim) hs
  obtain ⟨I, fp, wr, P, St', vals, σ₁, as₁, rfl, W, hst, hP, A₁, hal, hfp, hwr, ns, rfl, hz, hlo, hfl, K, hq⟩ := h₂
  obtain ⟨hv1, hv2⟩ := vals_ints hP
  obtain ⟨m, F, hm⟩ := A₁.rel.fr
  refine ⟨I, fp, wr, _, P, St', m, rfl, W, by simpa using hz, hst, fun b hb => let ⟨o, ho⟩ := hal _ _ hst b hb; Heap.lt_size ho, fun q => (wr_facts r (hwr _ q).1).1 rfl, F.ns,
    comp_quiet A₁.rel K hv1 hkind hx (fun b hb => ⟨Ne.symm (wr_facts r (hwr b hb).1).1, (wr_facts r (hwr b hb).1).2.1, (hwr b hb).2, (wr_facts r (hwr b hb).1).2.2⟩) hcl hfl, ?_⟩
  intro D h' tk ys vs hD hlD hplD hlen hPv hPair hnL hk hsz htk
  have hsz' : s.heap.objs.size ≤ h'.objs.size := hsz
  have hwf := fun b hb => wr_facts r (hwr b hb).1
  have hlo' : σ₁.lo ≤ tk := by rw [hlo]; exact Nat.le_trans r.low htk
  have hgL : Γ.g.get? Γ.env.locals = none := none_of_size F.above
  have keepG : ∀ b o, Γ.g.get? b = some o → h'.get? b = some o := fun b o e => hk b o (fun q => by rw [q, hgL] at e; cases e) (fun q => by rw [(hwf b q).2.1] at e; cases e) (F.keep b o e)
  have keepCell : ∀ x c v, Γ.env.cells.lookup x = some c → s₂.heap.IsCell c v → h'.IsCell c v := fun x c v hc hcv => by
    have hne := cell_ne_locals F hcv
    obtain ⟨o, ho, hd⟩ := hcv
    exact ⟨o, hk c o hne (fun q => (hwf c q).2.2 x hc) ho, hd⟩
  have R₀ : Rel Γ ⟨[], σ₁.H, σ₁.lo⟩ as₁ { s₂ with heap := h', toks := tk } := by
    refine ⟨⟨_, ⟨hnL, keepG, F.above⟩, fun x v hx => nomatch hx⟩, A₁.rel.len, fun k a o ha ho => ?_, A₁.rel.apart, hlo', fun x c hc => let ⟨v, hv⟩ := A₁.rel.cells x c hc; ⟨v, keepCell x c v hc hv⟩⟩
    obtain ⟨us, hl, h3, h4, h5⟩ := A₁.rel.objs k a o ha ho
    have hne := list_ne_locals F hl
    have hn : a ∉ wr := fun q => (hwr a q).2 k ha
    obtain ⟨o₁, h1, h2⟩ := hl
    exact ⟨us, ⟨o₁, hk a o₁ hne hn h1, h2⟩, h3, h4, fun q => (h5 q).at fun o e => hk a o hne hn e⟩
  have B₀ : After Γ σ as s ⟨[], σ₁.H, σ₁.lo⟩ as₁ { s₂ with heap := h', toks := tk } :=
    ⟨A₁.ext, R₀, fun b o hL hO e => hk b o hL (fun q => by rw [none_of_size (hwr b q).1] at e; cases e) (A₁.kept b o hL hO e), A₁.own, A₁.newer, hsz', A₁.gens, A₁.bare, A₁.os, htk, fun q => by rw [hfz] at q; cases q⟩
  have hna : ∀ k : Nat, as₁[k]? ≠ some D := fun k e => by
    obtain ⟨o, ho⟩ : ∃ o, s₂.heap.get? D = some o := by
      have hlt : k < σ₁.H.length := by rw [← A₁.rel.len]; exact (List.getElem?_eq_some_iff.mp e).1
      obtain ⟨vs, ⟨o', ho', _⟩, _⟩ := A₁.rel.objs k D σ₁.H[k] e (by simp)
      exact ⟨o', ho'⟩
    rw [hD] at ho; cases ho
  have hgD : Γ.g.get? D = none := by
    cases e : Γ.g.get? D with
    | none => rfl
    | some o =>
      have := F.keep D o e
      rw [hD] at this; cases this
  have hys : ys = ys.toList.toArray := by simp
  have hare := paired_ints (hv2 vs hlen hPv) hPair
  rw [hys] at hlD hplD
  have A₃ := B₀.add true true (A₁.dom hD) hna hgD hlD hare (fun _ => hplD)
  have hR : Rel Γ ⟨(y, .obj σ₁.H.length) :: σ₁.loc, σ₁.H ++ [⟨true, true, ((ns.filter p).map f).map .int⟩], σ₁.lo⟩ (as₁ ++ [D]) { s₂ with heap := h', toks := tk } := by
    refine ⟨⟨fun z => if z = y then some (Value.ref D) else m z, ⟨hnL, keepG, F.above⟩, fun x v hxv => ?_⟩, A₃.rel.len, A₃.rel.objs, fun k j a h1 h2 h3 => A₃.rel.apart k j a h1 h2 h3, A₃.rel.low, A₃.rel.cells⟩
    by_cases e : x = y
    · subst e
      simp only [List.lookup_cons, beq_self_eq_true] at hxv
      cases hxv
      exact ⟨.ref D, .loc hy (by simp), D, by rw [← A₁.rel.len]; simp, rfl⟩
    · have hb : (x == y) = false := beq_eq_false_iff_ne.mpr e
      simp only [List.lookup_cons, hb] at hxv
      obtain ⟨u, hl, hu⟩ := hm x v hxv
      refine ⟨u, ?_, AV.is_ext hu⟩
      cases hl with
      | loc a b => exact .loc a (by simp [e, b])
      | cell c a b d => exact .cell c a b (keepCell x c _ b d)
      | free c a n b d => exact .free c a n b (keepCell x c _ b d)
  exact ⟨.next, _, as₁ ++ [D], rfl, ⟨A₃.ext, hR, A₃.kept, fun k a h1 h2 => A₃.own k a h1 h2, A₃.newer, A₃.size, A₃.gens, A₃.bare, A₃.os, A₃.toks, A₃.still⟩, hq⟩
end
end Mine

/-! part M8 -/
namespace Mine
variable {w : World} {T : Top0}
section
variable {Γ : Cx w T} {σ : St}
theorem bindL_get (kind : Str → Option NameKind) : ∀ (b : List (Str × Value)) (m : Str → Option Value) (x : Str), (b.map (·.1)).Nodup → kind x = some .local → bindL kind b m x = (b.lookup x).or (m x)
  | [], m, x, _, _ => rfl
  | (n, v) :: r, m, x, hn, hk => by
    rw [List.map_cons, List.nodup_cons] at hn
    unfold bindL
    have ih := fun m => bindL_get kind r m x hn.2 hk
    rw [List.lookup_cons]
    cases e : x == n with
    | true =>
      have : x = n := eq_of_beq e
      subst this
      have hnone : r.lookup x = none := by
        rw [List.lookup_eq_none_iff]
        intro q hq
        exact bne_iff_ne.mpr fun (z : x = q.1) => hn.1 (by rw [z]; exact List.mem_map.mpr ⟨q, hq, rfl⟩)
      rw [if_pos hk, ih, hnone]
      simp
    | false =>
      have hne : x ≠ n := by rintro rfl; simp at e
      split
      · rw [ih]; simp [hne]
      · rw [ih]
theorem bindC_get (kind : Str → Option NameKind) : ∀ (b : List (Str × Value)) (m : Str → Option Value) (x : Str), (b.map (·.1)).Nodup → kind x ≠ some .local → bindC kind b m x = (b.lookup x).or (m x)
  | [], m, x, _, _ => rfl
  | (n, v) :: r, m, x, hn, hk => by
    rw [List.map_cons, List.nodup_cons] at hn
    unfold bindC
    have ih := fun m => bindC_get kind r m x hn.2 hk
    rw [List.lookup_cons]
    cases e : x == n with
    | true =>
      have : x = n := eq_of_beq e
      subst this
      have hnone : r.lookup x = none := by
        rw [List.lookup_eq_none_iff]
        intro q hq
        exact bne_iff_ne.mpr fun (z : x = q.1) => hn.1 (by rw [z]; exact List.mem_map.mpr ⟨q, hq, rfl⟩)
      rw [if_neg hk, ih, hnone]
      simp
    | false =>
      have hne : x ≠ n := by rintro rfl; simp at e
      split
      · rw [ih]
      · rw [ih]; simp [hne]
/-! more operations -/
theorem truthy_b {b : Bool} {Q : Bool → St → Prop} (h : Q b σ) : Op1 Γ (fun _ b v => b = v) truthy (.bool b) σ Q := fun s as v r hv => by
  have : v = .bool b := hv
  subst this
  exact wpAny_truthy_bool ⟨b, σ, as, rfl, .refl r, h⟩
theorem o_isnone {x : SV} {Q : AV → St → Prop} (h : Q (.bool (match x with | .none => true | _ => false)) σ) : Op2 Γ AV.is (compareOp .Is) (.sv x) .none σ Q := fun s as a b r ha hb => by
  have : b = .none := hb
  subst this
  cases x with
  | none => have : a = .none := ha; subst this; exact wpAny_is_plain rfl ⟨.bool true, σ, as, rfl, .refl r, h⟩
  | bool c => have : a = .bool c := ha; subst this; exact wpAny_is_plain rfl ⟨.bool false, σ, as, rfl, .refl r, h⟩
  | int i => obtain ⟨t, rfl⟩ := ha; exact wpAny_is_plain rfl ⟨.bool false, σ, as, rfl, .refl r, h⟩
  | str x => obtain ⟨t, rfl⟩ := ha; exact wpAny_is_plain rfl ⟨.bool false, σ, as, rfl, .refl r, h⟩
  | strT x l u => obtain ⟨t, rfl, _⟩ := ha; exact wpAny_is_plain rfl ⟨.bool false, σ, as, rfl, .refl r, h⟩
theorem o_notin {x y : Str} {Q : AV → St → Prop} (h : Q (.bool (!Txt.contains x y)) σ) : Op2 Γ AV.is (compareOp .NotIn) (.str y) (.str x) σ Q := fun s as a b r ha hb => by
  obtain ⟨t, rfl⟩ := ha; obtain ⟨u, rfl⟩ := hb
  exact SB.notContains ⟨.bool _, σ, as, rfl, .refl r, h⟩
end
end Mine

/-! part M9 -/
namespace Mine
variable {w : World} {T : Top0}
def IsL (o : Obj) : Prop := o.cls = .type "list" ∧ ∃ xs n, o.data = .seq xs n
def IsK (o : Obj) : Prop := IsL o ∨ (o.cls = .type "generator" ∧ ∃ vs, o.data = .fields vs)
theorem nk {o : Obj} {c : String} (h : o.cls = .type c) (h1 : c ≠ "list") (h2 : c ≠ "generator") (k : IsK o) : False := by
  rcases k with ⟨k, _⟩ | ⟨k, _⟩ <;> rw [h] at k <;> injection k <;> contradiction
/-- what a step of an iterator changes: nothing that is old, and no list -/
structure Step (n0 g0 : Nat) (s s' : Shared) : Prop where
  keep : ∀ b o, (b < n0 ∨ IsK o) → s.heap.get? b = some o → s'.heap.get? b = some o
  size : s.heap.objs.size ≤ s'.heap.objs.size
  toks : s.toks ≤ s'.toks
  os : s'.os = s.os
  gens : ∀ (k : Nat) x, k < g0 → s.gens[k]? = some x → s'.gens[k]? = some x
  bare : AllBare s.gens → AllBare s'.gens
  gsz : s.gens.size ≤ s'.gens.size
theorem GKeep.size {a b : Array GenState} (h : GKeep a b) : a.size ≤ b.size := by
  rcases Nat.lt_or_ge b.size a.size with q | q
  · have h1 : a[b.size]? = some a[b.size] := by simp [q]
    have := h _ _ h1
    rw [Array.getElem?_eq_none (Nat.le_refl _)] at this; cases this
  · exact q
theorem Step.refl (n0 g0 : Nat) (s : Shared) : Step n0 g0 s s := ⟨fun _ _ _ h => h, Nat.le_refl _, Nat.le_refl _, rfl, fun _ _ _ h => h, id, Nat.le_refl _⟩
theorem Step.trans {n0 g0 : Nat} {s s' s'' : Shared} (x : Step n0 g0 s s') (y : Step n0 g0 s' s'') : Step n0 g0 s s'' :=
  ⟨fun b o q h => y.keep b o q (x.keep b o q h), Nat.le_trans x.size y.size, Nat.le_trans x.toks y.toks, y.os.trans x.os, fun k z q h => y.gens k z q (x.gens k z q h), fun h => y.bare (x.bare h), Nat.le_trans x.gsz y.gsz⟩
theorem Step.heap {n0 g0 : Nat} {s : Shared} {h' : Heap} {tk : Nat} (hk : ∀ b o, (b < n0 ∨ IsK o) → s.heap.get? b = some o → h'.get? b = some o) (hz : s.heap.objs.size ≤ h'.objs.size) (ht : s.toks ≤ tk) : Step n0 g0 s { s with heap := h', toks := tk } :=
  ⟨hk, hz, ht, rfl, fun _ _ _ h => h, id, Nat.le_refl _⟩
/-- what an iterator's state needs of the frame that uses it -/
structure Frm (T : Top0) (n0 : Nat) (ro : List Addr) (s s' : Shared) : Prop where
  keep : ∀ b o, (n0 ≤ b ∧ ¬ IsL o) ∨ b ∈ ro → s.heap.get? b = some o → s'.heap.get? b = some o
  base : ∀ b o, T.B.get? b = some o → s'.heap.get? b = some o
  gens : GKeep s.gens s'.gens
  toks : s.toks ≤ s'.toks
structure Src (w : World) (T : Top0) (A : Around) (I : Addr) (n0 g0 : Nat) (ro : List Addr) (n : Nat) (P : Nat → Value → Value → Prop) (St : Nat → Shared → Prop) : Prop where
  frame : ∀ i s s', St i s → Frm T n0 ro s s' → St i s'
  item : ∀ (elts : List Expr) (k : Nat) (pos : Pos) i s, i < n → St i s → wpAny (M w) A (pyNext (.ref I)) (fun r s₁ => ∃ t v1 v2, r = some (.ref t) ∧
    wpAny (M w) A (letOwnedTupleGo (.Tuple elts k pos) (.ref I) (.ref t)) (fun _ s₂ => Step n0 g0 s s₂ ∧ St (i + 1) s₂ ∧ s₂.heap.IsTuple t #[v1, v2] ∧ P i v1 v2) Never s₁) Never s
  done : ∀ s, St n s → wpAny (M w) A (pyNext (.ref I)) (fun r s₁ => r = none ∧ Step n0 g0 s s₁) Never s
section
variable {Γ : Cx w T} {σ : St}
theorem Rel.cls {as : List Addr} {s : Shared} (r : Rel Γ σ as s) {k : Nat} {a : Addr} (h : as[k]? = some a) {o : Obj} (ho : s.heap.get? a = some o) : IsL o := by
  have hlt : k < σ.H.length := by rw [← r.len]; exact (List.getElem?_eq_some_iff.mp h).1
  obtain ⟨vs, ⟨o', ho', hc, n, hd⟩, _⟩ := r.objs k a σ.H[k] h (by simp)
  rw [ho] at ho'; cases ho'; exact ⟨hc, _, n, hd⟩
theorem Rel.stepped {as : List Addr} {s s' : Shared} (r : Rel Γ σ as s) {n0 g0 : Nat} (hL : Γ.env.locals < n0) (hc : ∀ x c, Γ.env.cells.lookup x = some c → c < n0) (x : Step n0 g0 s s') : Rel Γ σ as s' := by
  obtain ⟨m, F, hm⟩ := r.fr
  have old : ∀ b o, b < n0 → s.heap.get? b = some o → s'.heap.get? b = some o := fun b o h e => x.keep b o (.inl h) e
  refine ⟨⟨m, ⟨F.ns.at' fun o e => old _ o hL e, fun b o e => old b o (Nat.lt_trans (Nat.lt_of_lt_of_le (Heap.lt_size e) F.above) hL) (F.keep b o e), F.above⟩, fun y v hy => ?_⟩, r.len, fun k a o ha ho => ?_, r.apart, Nat.le_trans r.low x.toks, fun y c h => let ⟨v, ⟨o, ho, hd⟩⟩ := r.cells y c h; ⟨v, o, old c o (hc y c h) ho, hd⟩⟩
  · obtain ⟨u, hl, hu⟩ := hm y v hy
    refine ⟨u, ?_, hu⟩
    have cell : ∀ c v, Γ.env.cells.lookup y = some c → s.heap.IsCell c v → s'.heap.IsCell c v := fun c v h ⟨o, ho, hd⟩ => ⟨o, old c o (hc y c h) ho, hd⟩
    cases hl with
    | loc a b => exact .loc a b
    | cell c a b d => exact .cell c a b (cell c _ b d)
    | free c a n b d => exact .free c a n b (cell c _ b d)
  · obtain ⟨vs, ⟨o₁, h1, h2⟩, h3, h4, h5⟩ := r.objs k a o ha ho
    have hcl := r.cls ha h1
    exact ⟨vs, ⟨o₁, x.keep a o₁ (.inr (.inl hcl)) h1, h2⟩, h3, h4, fun q => (h5 q).at fun o e => x.keep a o (.inr (.inl (r.cls ha e))) e⟩
theorem After.step (hfz : Γ.fz = false) {σ₁ : St} {as as₁ : List Addr} {s s₁ s₂ : Shared} (A : After Γ σ as s σ₁ as₁ s₁) (r : Rel Γ σ as s) (x : Step s.heap.objs.size s.gens.size s₁ s₂) : After Γ σ as s σ₁ as₁ s₂ := by
  have hR := A.rel.stepped r.locals_lt (fun y c h => by obtain ⟨v, o, ho, _⟩ := r.cells y c h; exact Heap.lt_size ho) x
  refine ⟨A.ext, hR, fun b o hL hO e => x.keep b o (.inl (Heap.lt_size e)) (A.kept b o hL hO e), A.own, A.newer, Nat.le_trans A.size x.size, fun k z h => x.gens k z ?_ (A.gens k z h), fun h => x.bare (A.bare h), x.os.trans A.os, Nat.le_trans A.toks x.toks, fun q => by rw [hfz] at q; cases q⟩
  rcases Nat.lt_or_ge k s.gens.size with q | q
  · exact q
  · rw [Array.getElem?_eq_none q] at h; cases h
theorem After.frm {σ₁ : St} {as as₁ : List Addr} {s s₁ : Shared} (A : After Γ σ as s σ₁ as₁ s₁) (r : Rel Γ σ as s) {n0 : Nat} {ro : List Addr} (hL : Γ.env.locals < n0) (hro : ∀ b ∈ ro, b ≠ Γ.env.locals ∧ ∀ k : Nat, Own σ k → as[k]? ≠ some b) : Frm T n0 ro s s₁ := by
  refine ⟨fun b o h e => A.kept b o ?_ (fun k hk hb => ?_) e, A.rel.base, A.gens, A.toks⟩
  · rcases h with ⟨h, _⟩ | h
    · exact fun q => absurd hL (by rw [← q]; exact Nat.not_lt.mpr h)
    · exact (hro b h).1
  · rcases h with ⟨_, h⟩ | h
    · exact h (r.cls hb e)
    · exact (hro b h).2 k hk hb
theorem After.gap (hfz : Γ.fz = false) {σ₁ σ₂ : St} {as as₁ as₂ : List Addr} {s s₁ s₂ : Shared} {h₃ : Heap} (A : After Γ σ as s σ₁ as₁ s₁) (hk : ∀ b o, s₁.heap.get? b = some o → h₃.get? b = some o) (B : After Γ σ₁ as₁ { s₁ with heap := h₃ } σ₂ as₂ s₂) (hz : s.heap.objs.size ≤ s₂.heap.objs.size) : After Γ σ as s σ₂ as₂ s₂ := by
  have dom : ∀ b, h₃.get? b = none → s.heap.get? b = none := fun b h => A.dom (by
    cases e : s₁.heap.get? b with
    | none => rfl
    | some o => rw [hk b o e] at h; cases h)
  obtain ⟨t, ht⟩ := A.ext
  obtain ⟨t', ht'⟩ := B.ext
  refine ⟨⟨t ++ t', by rw [ht', ht]; simp⟩, B.rel, fun b o hL hO hb => ?_, fun k a ha ho => ?_, fun k a ha => ?_, hz, A.gens.trans B.gens, fun h => B.bare (A.bare h), B.os.trans A.os, Nat.le_trans A.toks B.toks, fun q => by rw [hfz] at q; cases q⟩
  · refine B.kept b o hL (fun k hk' he => ?_) (hk b o (A.kept b o hL hO hb))
    rcases A.own k b he hk' with ⟨h1, h2⟩ | h
    · exact hO k h2 h1
    · rw [hb] at h; cases h
  · rcases B.own k a ha ho with ⟨h1, h2⟩ | h
    · exact A.own k a h1 h2
    · exact .inr (dom a h)
  · rcases B.newer k a ha with h | h
    · exact A.newer k a h
    · exact .inr (dom a h)
theorem After.frm' {σ₀ σ₁ σ₂ : St} {as₀ as₁ as₂ : List Addr} {s₀ s₁ s₂ : Shared} {h₃ : Heap} (r₀ : Rel Γ σ₀ as₀ s₀) (r : Rel Γ σ₁ as₁ s₁) (hk : ∀ b o, s₁.heap.get? b = some o → h₃.get? b = some o) (B : After Γ σ₁ as₁ { s₁ with heap := h₃ } σ₂ as₂ s₂) {n0 : Nat} {ro : List Addr} (hL : Γ.env.locals < n0) (hro : ∀ b ∈ ro, b ≠ Γ.env.locals ∧ ∀ k : Nat, Own σ₁ k → as₁[k]? ≠ some b) : Frm T n0 ro s₁ s₂ := by
  have R₃ : Rel Γ σ₁ as₁ { s₁ with heap := h₃ } := r.keeps hk (Nat.le_refl _)
  have X := After.frm B R₃ hL hro
  exact ⟨fun b o h e => X.keep b o h (hk b o e), X.base, X.gens, X.toks⟩
def ItE2 (Γ : Cx w T) (iter : Expr) (σ : St) (Q : Nat → (Nat → SV → SV → Prop) → St → Prop) : Prop :=
  ∀ s as, Rel Γ σ as s → wpAny (M w) Γ.A (eval iter Γ.env) (fun xv s₁ => wpAny (M w) Γ.A (pyIter xv) (fun it s₂ =>
    ∃ I ro n P Ps St' σ' as', it = .ref I ∧ Src w T Γ.A I s.heap.objs.size s.gens.size ro n P St' ∧ St' 0 s₂ ∧ (∀ i v1 v2, P i v1 v2 → ∃ x1 x2, Ps i x1 x2 ∧ x1.is v1 ∧ x2.is v2) ∧ After Γ σ as s σ' as' s₂ ∧
    (∀ b ∈ ro, b ≠ Γ.env.locals ∧ (∃ o, s₂.heap.get? b = some o ∧ IsL o) ∧ ∀ k : Nat, Own σ' k → as'[k]? ≠ some b) ∧ Q n Ps σ') Never s₁) Never s
theorem ex_for2 (hfz : Γ.fz = false) {x y : Str} {px py pt pos : Pos} {k : Nat} {iter : Expr} {body orelse : List Stmt} {Q : AF → St → Prop} (hx : Γ.env.kindOf x = some .local) (hy : Γ.env.kindOf y = some .local)
    (h : ItE2 Γ iter σ (fun n Ps σ₁ => ∃ C : Nat → St → Prop, (∃ c, C 0 c ∧ StLe σ₁ c) ∧
      (∀ (i : Nat) v1 v2 c, i < n → Ps i v1 v2 → C i c → ExS Γ body ((c.put x (.sv v1)).put y (.sv v2)) (fun f σ₃ => match f with
        | .next => ∃ c', C (i + 1) c' ∧ StLe σ₃ c' | .cont => ∃ c', C (i + 1) c' ∧ StLe σ₃ c' | .brk => Q .next σ₃ | .ret v => Q (.ret v) σ₃)) ∧
      ∀ c, C n c → ExS Γ orelse c Q))
    (hs : ∀ x, foldedSetIterable iter Γ.env x = pure x := by intro _; rfl) : ExC Γ (.For (.Tuple [.Name x px, .Name y py] k pt) iter body orelse pos) σ Q := fun s as r => by
  refine wpAny_For (wpAny_mono (h s as r) (fun xv s₁ h₁ => wpAny_mono h₁ (fun it s₂ h₂ => ?_) fun _ _ e => e) fun _ _ e => e) hs
  obtain ⟨I, ro, n, P, Ps, St', σ₁, as₁, rfl, W, hst, hP, A₁, hro, C, ⟨c₀, hc₀, hle₀⟩, turn, fin⟩ := h₂
  have A₀ := A₁.trans (After.le A₁.rel hle₀)
  have ownle : ∀ k, Own c₀ k → Own σ₁ k := fun k ⟨o, h1, h2⟩ => by
    obtain ⟨o₁, e1, e2, _⟩ := hle₀.H.get k o h1
    exact ⟨o₁, e1, e2 h2⟩
  have hLlt := r.locals_lt
  have hpl : (Γ.env.scope.kind == .class || (Γ.env.scope.kind == .module && Γ.env.locals != Γ.env.globals)) = false := by rw [Γ.hk]; rfl
  have hroL : ∀ b ∈ ro, b ≠ Γ.env.locals := fun b hb => (hro b hb).1
  refine codeAny_forLoop_any (R := fun r s' => match r with | .ok f => Post Γ σ as s AF.is Q f s' | .error e => cameBackBy (M w) Γ.A Γ.env Never e s')
    (fun k s' => ∃ i c as', k = n + 1 - i ∧ i ≤ n ∧ After Γ σ as s c as' s' ∧ St' i s' ∧ C i c ∧ (∀ b ∈ ro, (∃ o, s'.heap.get? b = some o ∧ IsL o) ∧ ∀ k : Nat, Own c k → as'[k]? ≠ some b)) ?_ (n + 1)
    ⟨0, c₀, as₁, rfl, Nat.zero_le _, A₀, hst, hc₀, fun b hb => ⟨(hro b hb).2.1, fun k hk => (hro b hb).2.2 k (ownle k hk)⟩⟩
  rintro k' s' ⟨i, c, as', rfl, hi, A, hst', hC, hr⟩
  by_cases hlt : i < n
  · refine never_noted (wpAny_mono (W.item [.Name x px, .Name y py] k pt i s' hlt hst') (fun r' s₁ h₁ => ?_) fun _ _ h => h)
    obtain ⟨t, v1, v2, rfl, h₁⟩ := h₁
    refine never_noted (wpAny_mono h₁ (fun _ s₂ h₂ => ?_) fun _ _ h => h)
    obtain ⟨S, hst₂, ht, hPv⟩ := h₂
    have A₁ := After.step hfz A r S
    refine wpAny_size (Nat.le_refl s₂.heap.objs.size) (wpAny_assign_Tuple Γ.hh ht rfl rfl fun h₃ hx₃ => ?_)
    have hk₃ : ∀ b o, s₂.heap.get? b = some o → h₃.get? b = some o := fun b o e => hx₃ b o (Nat.ne_of_lt (Heap.lt_size e)) e
    obtain ⟨x1, x2, hPs, hx1, hx2⟩ := hP i v1 v2 hPv
    have R₃ : Rel Γ c as' { s₂ with heap := h₃ } := A₁.rel.keeps hk₃ (Nat.le_refl _)
    obtain ⟨m, F, hm⟩ := R₃.fr
    show wpAny _ _ (do holding [v2] (assign (.Name x px) Γ.env v1); do holding [] (assign (.Name y py) Γ.env v2); pure ()) _ _ _
    refine wpAny_bind (wpAny_holding (wpAny_assign_Name (wpAny_storeName_local hx F.ns (fun h₄ hn₄ hs₄ => ?_) hpl)))
    have A₄ := After.store hfz R₃ hx (v := .sv x1) hx1 F hm hn₄ hs₄ (Nat.le_succ _)
    obtain ⟨m', F', hm'⟩ := A₄.rel.fr
    refine wpAny_bind (wpAny_holding (wpAny_assign_Name (wpAny_storeName_local hy F'.ns (fun h₅ hn₅ hs₅ => wpAny_pure ?_) hpl)))
    have A₅ := A₄.trans (After.store hfz A₄.rel hy (v := .sv x2) hx2 F' hm' hn₅ hs₅ (Nat.le_succ _))
    intro hz
    have A₆ := After.gap hfz A₁ hk₃ A₅ (Nat.le_trans A₁.size hz)
    have hst₅ : St' (i + 1) _ := W.frame _ _ _ hst₂ (After.frm' r A₁.rel hk₃ A₅ hLlt fun b hb => ⟨hroL b hb, (hr b hb).2⟩)
    refine never_noted (wpAny_mono (turn i x1 x2 c hlt hPs hC _ as' A₆.rel) (fun f s₃ h₃ => ?_) fun _ _ h => h)
    obtain ⟨af, σ₃, as₃, haf, A₇, hq⟩ := h₃
    have done : ∀ c', C (i + 1) c' → StLe σ₃ c' → ∃ m, m < n + 1 - i ∧ ∃ i' c as', m = n + 1 - i' ∧ i' ≤ n ∧ After Γ σ as s c as' s₃ ∧ St' i' s₃ ∧ C i' c ∧ (∀ b ∈ ro, (∃ o, s₃.heap.get? b = some o ∧ IsL o) ∧ ∀ k : Nat, Own c k → as'[k]? ≠ some b) := fun c' hc' hle => by
      have A₈ := A₆.trans (A₇.trans (After.le A₇.rel hle))
      have hro₅ : ∀ b ∈ ro, b ≠ Γ.env.locals ∧ ∀ k : Nat, Own ((c.put x (.sv x1)).put y (.sv x2)) k → as'[k]? ≠ some b := fun b hb => ⟨hroL b hb, (hr b hb).2⟩
      refine ⟨n + 1 - (i + 1), by omega, i + 1, c', as₃, rfl, hlt, A₈, W.frame _ _ _ hst₅ (After.frm A₇ A₆.rel hLlt hro₅), hc', fun b hb => ?_⟩
      obtain ⟨o, ho, hcl⟩ := (hr b hb).1
      have ho₅ := A₅.kept b o (hroL b hb) (hr b hb).2 (hk₃ b o (S.keep b o (.inr (.inl hcl)) ho))
      refine ⟨⟨o, A₇.kept b o (hroL b hb) (hro₅ b hb).2 ho₅, hcl⟩, fun k hk e => ?_⟩
      have hk₃ : Own σ₃ k := by
        obtain ⟨o, h1, h2⟩ := hk
        obtain ⟨o₁, e1, e2, _⟩ := hle.H.get k o h1
        exact ⟨o₁, e1, e2 h2⟩
      rcases A₇.own k b e hk₃ with ⟨h1, h2⟩ | h
      · exact (hr b hb).2 k h2 h1
      · rw [show _ = some o from ho₅] at h; cases h
    cases af with
    | next => cases haf; obtain ⟨c', hc', hle⟩ := hq; exact done c' hc' hle
    | cont => cases haf; obtain ⟨c', hc', hle⟩ := hq; exact done c' hc' hle
    | brk => cases haf; exact ⟨.next, σ₃, as₃, rfl, A₆.trans A₇, hq⟩
    | ret v =>
      obtain ⟨u, rfl, hu⟩ := haf
      exact ⟨.ret v, σ₃, as₃, ⟨u, rfl, hu⟩, A₆.trans A₇, hq⟩
  · have hin : i = n := by omega
    subst hin
    refine never_noted (wpAny_mono (W.done s' hst') (fun r' s₁ h₁ => ?_) fun _ _ h => h)
    obtain ⟨rfl, S⟩ := h₁
    have A₁ := After.step hfz A r S
    exact never_noted (wpAny_after A₁ (fin c hC _ as' A₁.rel))
end
end Mine

/-! part M10 -/
namespace Mine
variable {w : World} {T : Top0}
theorem ty_ne {a b : String} (h : a ≠ b) : Value.type a ≠ .type b := fun q => h (Value.type.inj q)
theorem enum_ne : Value.type "enumerate" ≠ .type "list" := ty_ne (by decide)
theorem liter_ne : Value.type "list_iterator" ≠ .type "list" := ty_ne (by decide)
def EnumAt (n0 : Nat) (e it : Addr) (i : Nat) (h : Heap) : Prop := n0 ≤ e ∧ n0 ≤ it ∧ e ≠ it ∧ ∃ old, IsEnum h e it i old
section
variable {Γ : Cx w T} {σ : St}
theorem src_enum {A : Around} (hh : A.handled = none) (n0 g0 : Nat) (e it l : Addr) (items : Array Value) : Src w T A e n0 g0 [l] items.size (fun i v1 v2 => (∃ t, v1 = .int i t) ∧ items[i]? = some v2)
    (fun i s => EnumAt n0 e it i s.heap ∧ s.heap.IsListIter it l i ∧ s.heap.IsList l items) where
  frame := fun i s s' ⟨⟨h1, h2, h3, old, h4⟩, ⟨o, h5, h6, h7⟩, ⟨o', h8, h9⟩⟩ F =>
    ⟨⟨h1, h2, h3, old, F.keep e _ (.inl ⟨h1, fun q => enum_ne q.1⟩) h4⟩, ⟨o, F.keep it o (.inl ⟨h2, fun q => by have q := q.1; rw [h6] at q; exact liter_ne q⟩) h5, h6, h7⟩, ⟨o', F.keep l o' (.inr (by simp)) h8, h9⟩⟩
  item := fun elts k pos i s hi ⟨⟨h1, h2, h3, old, h4⟩, h5, h6⟩ => by
    have hle : l ≠ e := by
      rintro rfl
      obtain ⟨o, ho, hc, _⟩ := h6
      rw [h4] at ho; cases ho; exact enum_ne hc
    have hli : l ≠ it := by
      rintro rfl
      obtain ⟨o, ho, hc, _⟩ := h6
      obtain ⟨o', ho', hc', _⟩ := h5
      rw [ho'] at ho; cases ho; rw [hc'] at hc; exact liter_ne hc
    have hel : e < s.heap.objs.size := Heap.lt_size h4
    have hil : it < s.heap.objs.size := by obtain ⟨o, ho, _⟩ := h5; exact Heap.lt_size ho
    refine wpAny_pyNext_enum_item h4 h5 h6 (x := items[i]) (by simp [hi]) h3 fun h' he' hit' ht' hz' hk' => ?_
    refine ⟨s.heap.objs.size, .int i s.toks, items[i], rfl, wpAny_letOwnedTupleGo_enum he' fun h₂ he₂ hs₂ => ?_⟩
    replace hs₂ : Heap.SameBut e h' h₂ := hs₂
    have hnl : ∀ b o, (b < n0 ∨ IsK o) → s.heap.get? b = some o → b ≠ e ∧ b ≠ it := fun b o hb hbo => by
      refine ⟨fun q => ?_, fun q => ?_⟩
      · subst q
        rcases hb with hb | hb
        · exact absurd hb (Nat.not_lt.mpr h1)
        · rw [h4] at hbo; cases hbo; exact nk (c := "enumerate") rfl (by decide) (by decide) hb
      · subst q
        rcases hb with hb | hb
        · exact absurd hb (Nat.not_lt.mpr h2)
        · obtain ⟨o', ho', hc', _⟩ := h5
          rw [ho'] at hbo; cases hbo; exact nk hc' (by decide) (by decide) hb
    refine ⟨Step.heap (fun b o hb hbo => ?_) (by rw [hs₂.1, hz']; exact Nat.le_succ _) (Nat.le_succ _), ⟨⟨h1, h2, h3, items[i], ?_⟩, ?_, ?_⟩, ?_, ⟨_, rfl⟩, by simp [hi]⟩
    · obtain ⟨q1, q2⟩ := hnl b o hb hbo
      exact (hs₂.2 b q1).trans (hk' b o q1 q2 hbo)
    · have : ((i + 1 : Nat) : Int) = (i : Int) + 1 := by push_cast; rfl
      rw [this]; exact he₂
    · exact hit'.extBut hs₂.extBut (Ne.symm h3)
    · obtain ⟨o, ho, r⟩ := h6
      exact ⟨o, (hs₂.2 l hle).trans (hk' l o hle hli ho), r⟩
    · exact ⟨_, (hs₂.2 _ (Nat.ne_of_gt hel)).trans ht', rfl, _, rfl⟩
  done := fun s ⟨⟨h1, h2, h3, old, h4⟩, h5, h6⟩ => by
    refine wpAny_size (Nat.le_refl s.heap.objs.size) (wpAny_pyNext_enum_end hh h4 h5 h6 (by simp) fun h' hx hz => ⟨rfl, ?_⟩)
    refine Step.heap (fun b o hb hbo => hx b o (fun q => ?_) hbo) hz (Nat.le_refl _)
    subst q
    rcases hb with hb | hb
    · exact absurd hb (Nat.not_lt.mpr h2)
    · obtain ⟨o', ho', hc', _⟩ := h5
      rw [ho'] at hbo; cases hbo; exact nk hc' (by decide) (by decide) hb
theorem it_enum {fp pos : Pos} {e : Expr} {Q : Nat → (Nat → SV → SV → Prop) → St → Prop} (h : EvE Γ (.Name "enumerate" fp) σ (fun v σ₁ => v = .con (.type "enumerate") ∧ EvE Γ e σ₁ (fun x σ₂ => ∃ k ao, x = .obj k ∧ σ₂.H[k]? = some ao ∧ ao.own = false ∧ Q ao.its.length (fun i a b => a = .int i ∧ ao.its[i]? = some b) σ₂)))
    (he : starEach (e :: []) Γ.env = (false, eval e Γ.env) :: starEach [] Γ.env := by rfl) : ItE2 Γ (.Call (.Name "enumerate" fp) [e] [] pos) σ Q := fun s as r =>
  Call_ (wpAny_mono (h s as r) (fun v s₁ hv => by
    obtain ⟨va, σ₁, as₁, ha, A₁, rfl, hq⟩ := hv
    have : v = .type "enumerate" := ha
    subst this
    refine PyProof.Rows.callWith_type1 (wpAny_items_cons (wpAny_mono (hq s₁ as₁ A₁.rel) (fun x s₂ hx => ?_) fun _ _ h => h) he) he rfl
    obtain ⟨xa, σ₂, as₂, hxa, A₂, k, ao, rfl, hk, hown, hq₂⟩ := hx
    obtain ⟨l, vs, rfl, hl', hl, hr, _⟩ := A₂.rel.at hxa hk
    refine Calls.spliced_nil (call_enumerate_list hl fun h' he' hit' hz' hk' => ?_)
    refine wpAny_pyIter_enum he' ?_
    have G : Grown Γ.fz s₂ { s₂ with heap := h' } := Grown.heap hk' (by rw [hz']; exact Nat.le_succ_of_le (Nat.le_succ _)) (Nat.le_refl _)
    have A₃ := (A₁.trans A₂).trans (After.grown A₂.rel G)
    have hsz := (A₁.trans A₂).size
    have e1 : vs.toArray.size = ao.its.length := by simp [hr.1]
    have W := src_enum (w := w) (T := T) (A := Γ.A) Γ.hh s.heap.objs.size s.gens.size (s₂.heap.objs.size + 1) s₂.heap.objs.size l vs.toArray
    rw [e1] at W
    obtain ⟨o, ho, hc, n, hd⟩ := id hl
    refine ⟨_, [l], _, _, _, _, σ₂, as₂, rfl, W, ⟨⟨Nat.le_succ_of_le hsz, hsz, Nat.succ_ne_self _, _, he'⟩, hit', ⟨o, hk' l o ho, hc, n, hd⟩⟩, fun i v1 v2 hv => ?_, A₃, fun b hb => ?_, hq₂⟩
    · obtain ⟨⟨t, rfl⟩, h2⟩ := hv
      have hi : i < ao.its.length := by rw [← e1]; exact (Array.getElem?_eq_some_iff.mp h2).1
      obtain ⟨u, hu, hx⟩ := hr.2 i ao.its[i] (by simp [hi])
      have : v2 = u := by simp at h2; rw [h2] at hu; exact Option.some.inj hu
      exact ⟨.int i, ao.its[i], ⟨rfl, by simp [hi]⟩, ⟨t, rfl⟩, this ▸ hx⟩
    · rw [List.mem_singleton.mp hb]
      obtain ⟨m, F, _⟩ := A₂.rel.fr
      refine ⟨list_ne_locals F hl, ⟨o, hk' l o ho, hc, _, n, hd⟩, fun k' hO e => ?_⟩
      have := A₂.rel.apart k' k l e hl' hO
      subst this
      obtain ⟨o, h1, h2⟩ := hO
      rw [hk] at h1; cases h1
      rw [hown] at h2; cases h2) fun _ _ h => h)
end
end Mine

/-! part M11 -/
namespace Mine
variable {w : World} {T : Top0}
/-! enumerate, over whatever gives its next -/
section
variable {prog : Program} {A : Around} {E : Value → Shared → Prop} {s : Shared}
theorem enum_step {e it : Addr} {i : Int} {old : Value} {Rx : Value → Heap → Nat → Prop} {Q : Option Value → Shared → Prop} (he : IsEnum s.heap e it i old) (hne : e ≠ it)
    (hn : wpAny (model prog w) A.in1 (Builtin.SmallTypes.nextOf (.ref it)) (fun x s₁ => ∃ h₁ t₁, s₁ = { s with heap := h₁, toks := t₁ } ∧ Heap.SameBut it s.heap h₁ ∧ Rx x h₁ t₁) (fun _ _ => False) s)
    (hQ : ∀ x h₁ t₁ h', Rx x h₁ t₁ → Heap.SameBut it s.heap h₁ → IsEnumOut h' e it (i + 1) x s.heap.objs.size → h'.get? s.heap.objs.size = some { cls := .type "tuple", data := .seq #[.int i t₁, x] } →
      h'.objs.size = s.heap.objs.size + 1 → (∀ b o, b ≠ e → h₁.get? b = some o → h'.get? b = some o) → Q (some (.ref s.heap.objs.size)) { s with heap := h', toks := t₁ + 1 }) :
    wpAny (model prog w) A (pyNext (.ref e)) Q E s := by
  have hT : s.TypeIs (.ref e) "enumerate" := ⟨_, he, rfl⟩
  unfold pyNext
  refine wpAny_bind (wpAny_attempt (wpAny_callSpecial?_slot (name := Str.ofString "__next__") hT F.slot_enumerate_next
    (wpAny_call_entry F.slot_enumerate_next hT F.entry_enumerate_next ?_ (F.args_enumerate_next_1 _))))
  obtain ⟨hp, g, d, tk, os⟩ := s
  have hel : e < hp.objs.size := Heap.lt_size he
  show wpAny _ _ (field (.ref e) 2 >>= _) _ _ _
  refine wpAny_bind (wpAny_field he rfl (x := .ref it) rfl (wpAny_bind (wpAny_mono hn (fun x s₁ hx => ?_) fun _ _ h => h.elim)))
  obtain ⟨h₁, t₁, rfl, hs₁, hR⟩ := hx
  replace hs₁ : Heap.SameBut it hp h₁ := hs₁
  have he₁ : IsEnum h₁ e it i old := (hs₁.2 e hne).trans he
  show wpAny _ _ (field (.ref e) 3 >>= _) _ _ ⟨h₁, g, d, t₁, os⟩
  refine wpAny_bind (wpAny_field he₁ rfl (x := rawInt i) rfl ?_)
  show wpAny _ _ (field (.ref e) 4 >>= _) _ _ ⟨h₁, g, d, t₁, os⟩
  refine wpAny_bind (wpAny_field he₁ rfl (x := .none) rfl ?_)
  show wpAny _ _ (mkInt i >>= _) _ _ ⟨h₁, g, d, t₁, os⟩
  refine wpAny_bind (wpAny_mkInt ?_)
  show wpAny _ _ (setField (.ref e) 3 (rawInt (i + 1)) >>= _) _ _ ⟨h₁, g, d, t₁ + 1, os⟩
  refine wpAny_bind (wpAny_setField_rec he₁ (by simp) fun h₂ he₂ hs₂ => ?_)
  replace hs₂ : Heap.SameBut e h₁ h₂ := hs₂
  replace he₂ : IsEnum h₂ e it (i + 1) old := he₂
  show wpAny _ _ (setField (.ref e) 4 .none >>= _) _ _ ⟨h₂, g, d, t₁ + 1, os⟩
  refine wpAny_bind (wpAny_setField_rec he₂ (by simp) fun h₃ he₃ hs₃ => ?_)
  replace hs₃ : Heap.SameBut e h₂ h₃ := hs₃
  replace he₃ : IsEnum h₃ e it (i + 1) old := he₃
  show wpAny _ _ (newTuple [.int i t₁, x] >>= _) _ _ ⟨h₃, g, d, t₁ + 1, os⟩
  refine wpAny_bind (wpAny_newTuple ?_)
  have sz₃ : h₃.objs.size = hp.objs.size := by rw [hs₃.1, hs₂.1, hs₁.1]
  -- the heap with the tuple, by what is known of it
  obtain ⟨h₄, hdef⟩ : ∃ h₄, h₄ = h₃.push { cls := .type "tuple", data := .seq #[.int i t₁, x] } := ⟨_, rfl⟩
  have he₄ : IsEnum h₄ e it (i + 1) old := by rw [hdef]; exact Heap.get?_push_of_some _ he₃
  have ht₄ : h₄.get? hp.objs.size = some { cls := .type "tuple", data := .seq #[.int i t₁, x] } := by rw [hdef, ← sz₃]; exact Heap.get?_push_size _ rfl
  have sz₄ : h₄.objs.size = hp.objs.size + 1 := by rw [hdef, Heap.size_push, sz₃]
  have up₄ : ∀ b o, b ≠ e → h₁.get? b = some o → h₄.get? b = some o := fun b o hb hb' => by rw [hdef]; exact Heap.get?_push_of_some _ (hs₃.extBut b o hb (hs₂.extBut b o hb hb'))
  show wpAny _ _ (Builtin.SmallTypes.ownedTupleIsFree (.ref e) >>= _) _ _ ⟨h₃.push { cls := .type "tuple", data := .seq #[.int i t₁, x] }, g, d, t₁ + 1, os⟩
  rw [sz₃, ← hdef]
  clear hdef he₃ hs₃ he₂ hs₂ sz₃ h₃ h₂
  unfold Builtin.SmallTypes.ownedTupleIsFree
  refine wpAny_bind (wpAny_bind (wpAny_field he₄ rfl (x := .none) rfl (wpAny_pure ?_)))
  simp only [if_true]
  refine wpAny_bind (wpAny_rule (wpAny_bind (wpAny_field he₄ rfl (x := old) rfl (wpAny_bind (wpAny_setField_rec he₄ (by simp) fun h₅ he₅ hs₅ => ?_)))))
  replace hs₅ : Heap.SameBut e h₄ h₅ := hs₅
  replace he₅ : IsEnum h₅ e it (i + 1) x := he₅
  show wpAny _ _ (Builtin.SmallTypes.ownedTupleHandOut (.ref e) (.ref hp.objs.size) >>= _) _ _ ⟨h₅, g, d, t₁ + 1, os⟩
  unfold Builtin.SmallTypes.ownedTupleHandOut
  refine wpAny_bind (wpAny_bind (wpAny_setField_rec he₅ (by simp) fun h₆ he₆ hs₆ => ?_))
  replace hs₆ : Heap.SameBut e h₅ h₆ := hs₆
  replace he₆ : IsEnumOut h₆ e it (i + 1) x hp.objs.size := he₆
  refine wpAny_setField_rec he₆ (by simp) fun h₇ he₇ hs₇ => ?_
  replace hs₇ : Heap.SameBut e h₆ h₇ := hs₇
  replace he₇ : IsEnumOut h₇ e it (i + 1) x hp.objs.size := he₇
  have up : ∀ b o, b ≠ e → h₄.get? b = some o → h₇.get? b = some o := fun b o hb hb' => hs₇.extBut b o hb (hs₆.extBut b o hb (hs₅.extBut b o hb hb'))
  exact wpAny_bind (wpAny_letGo (wpAny_pure ⟨_, rfl, wpAny_pure (hQ x h₁ t₁ h₇ hR hs₁ he₇ (up _ _ (Nat.ne_of_gt hel) ht₄) (by rw [hs₇.1, hs₆.1, hs₅.1, sz₄]) fun b o hb hb' => up b o hb (up₄ b o hb hb'))⟩))
/-- a generator's next, as a def makes it, with what it leaves behind -/
theorem gen_next {a : Addr} {g n : Nat} {gs : GenState} {Pz : Nat → Shared → Shared → Prop} {Y : Protocol} {Q : Option Value → Shared → Prop} (hh : A.handled = none)
    (hl : s.heap.NoLimit) (hroom : A.depth < recursionLimit) (hg : s.heap.IsGen a g) (hgs : s.gens[g]? = some gs)
    (hgo : gs.Goes (model prog w) A.in1 (fun n s₀ r s₁ => r = .ok (.ret .none) ∧ Pz n s₀ s₁) Y n (.send .none) (s.setGen g .running))
    (hY : ∀ v s₁ gs', gs'.bare = true → Y (n - 1) (s.setGen g .running) v s₁ (fun r' s'' => match n with
        | 0 => False
        | m + 1 => gs'.Goes (model prog w) A.in1 (fun n s₀ r s₁ => r = .ok (.ret .none) ∧ Pz n s₀ s₁) Y m r' s'') → Q (some v) (s₁.setGen g gs'))
    (hP : ∀ s₁, Pz n (s.setGen g .running) s₁ → ∀ h', (∀ b o, s₁.heap.get? b = some o → h'.get? b = some o) → Q none { s₁.setGen g .finished with heap := h' }) :
    wpAny (model prog w) A (pyNext (.ref a)) Q E s := by
  have alive : gs.status = GenStatus.running ∨ gs.status = GenStatus.finished → False := fun q => by cases gs <;> first | exact hgo.elim | (rcases q with q | q <;> cases q)
  unfold pyNext
  refine wpAny_bind (wpAny_attempt (wpAny_callSpecial?_slot (name := Str.ofString "__next__") hg.typeIs slot_gen_next (wpAny_call_entry slot_gen_next hg.typeIs entry_gen_next ?_ (args_gen_next _))))
  show wpAny _ _ (Builtin.Generator.genWake (.ref a) (.send .none)) _ _ s
  unfold Builtin.Generator.genWake
  refine wpAny_bind (wpAny_holding (wpAny_genNumber hg (wpAny_bind (wpAny_genState hgs ?_))))
  cases gs with
  | running => exact hgo.elim
  | finished => exact hgo.elim
  | _ =>
    refine wpAny_bind (wpAny_roomToWake hl hroom ?_)
    show wpAny _ _ (.resume g (.send .none) [] _) _ _ s
    refine wpAny_resumeQ hgs hgo (fun x s₁ hx => ?_) (fun v s₁ gs' hb hv => wpAny_pure ⟨v, rfl, wpAny_pure (hY v s₁ gs' hb hv)⟩)
    obtain ⟨rfl, hp⟩ := hx
    show wpAny _ _ (newExc (.type "StopIteration") [] >>= _) _ _ _
    simp only [newExc, newTuple]
    refine wpAny_bind (wpAny_bind (wpAny_newObj_type ?_ (by size_fits)))
    refine wpAny_bind (m := firstArgMember _ _) (wpAny_of_eq (a := Value.none) (by first | rfl | (simp only [firstArgMember]; rfl)) ?_)
    refine wpAny_newObj_type ?_ (by size_fits)
    simp only [raiseNew]
    refine wpAny_bind (wpAny_bind (wpAny_handled ?_))
    rw [show A.in1.handled = none from hh]
    refine wpAny_throw (wpAny_bind (wpAny_isInstance (T := "StopIteration") (b := true) ⟨_, Heap.get?_push_size _ rfl, rfl⟩ isSubtype_stop ?_))
    exact wpAny_pure (hP s₁ hp _ fun b o hb => Heap.get?_push_of_some _ (Heap.get?_push_of_some _ hb))
end
end Mine

/-! part M12 -/
namespace Mine
variable {w : World} {T : Top0}
/-! statements amid a generator -/
section
variable {A : Around} {R : GenEnd} {Y : Protocol} {n : Nat} {s₀ : Shared} {c : Code} {fs : List Frame} {s : Shared} {Γ : Cx w T} {σ : St} {as : List Addr}
  {K : Flow → Sem Fin} {H : Value → Sem Fin} {gd : Bool → Bool} {lv : List Value → List Value}
theorem seg_ex (hA : Γ.A = A.over c fs) {st : Stmt} {Q : AF → St → Prop} (r : Rel Γ σ as s) (h : ExC Γ st σ Q)
    (k : ∀ f af σ' as' s', AF.is as' af f → After Γ σ as s σ' as' s' → Q af σ' → Seg (M w) A R Y n s₀ c (K f) fs s') : Seg (M w) A R Y n s₀ c ((exec st Γ.env).wrap K H gd lv) fs s := by
  refine seg_wrap ?_
  rw [← hA]
  exact wpAny_mono (h s as r) (fun f s' ⟨af, σ', as', h1, h2, h3⟩ => k f af σ' as' s' h1 h2 h3) fun _ _ h => h.elim
theorem seg_if (hA : Γ.A = A.over c fs) {test : Expr} {body orelse : List Stmt} {pos : Pos} {Q : Bool → St → Prop} (r : Rel Γ σ as s) (h : EvB Γ test σ Q)
    (k : ∀ b σ' as' s', After Γ σ as s σ' as' s' → Q b σ' → Seg (M w) A R Y n s₀ c ((if b = true then execs body Γ.env else execs orelse Γ.env).wrap K H gd lv) fs s') :
    Seg (M w) A R Y n s₀ c ((exec (.If test body orelse pos) Γ.env).wrap K H gd lv) fs s := by
  rw [exec_If]
  refine seg_bind_wrap (wpAny_standAt (seg_bind_wrap ?_))
  rw [← hA]
  exact wpAny_mono (h s as r) (fun b s' ⟨b', σ', as', h1, h2, h3⟩ => by cases h1; exact k _ σ' as' s' h2 h3) fun _ _ h => h.elim
theorem ev_pair {e1 e2 : Expr} {k : Nat} {tp : Pos} {Q : AV → AV → St → Prop} (r : Rel Γ σ as s) (h : EvE Γ e1 σ (fun a σ₁ => EvE Γ e2 σ₁ (fun b σ₂ => Q a b σ₂)))
    (h1 : starEach [e1, e2] Γ.env = (false, eval e1 Γ.env) :: starEach [e2] Γ.env := by rfl) (h2 : starEach [e2] Γ.env = (false, eval e2 Γ.env) :: starEach [] Γ.env := by rfl) :
    wpAny (M w) Γ.A (eval (.Tuple [e1, e2] k tp) Γ.env) (fun v s' => ∃ t v1 v2 a b σ' as', v = .ref t ∧ s'.heap.IsTuple t #[v1, v2] ∧ a.is as' v1 ∧ b.is as' v2 ∧ After Γ σ as s σ' as' s' ∧ Q a b σ') Never s := by
  refine wpAny_Tuple (wpAny_items_cons (wpAny_mono (h s as r) (fun v s₁ ⟨va, σ₁, as₁, ha, A₁, hb⟩ => wpAny_items_cons (wpAny_mono (hb s₁ as₁ A₁.rel) (fun u s₂ hu => ?_) fun _ _ h => h) h2) fun _ _ h => h) h1)
  obtain ⟨vb, σ₂, as₂, hvb, A₂, hq⟩ := hu
  refine Calls.spliced_nil ?_
  refine ⟨by show 2 ≤ sizeLine; decide, s₂.heap.objs.size, v, u, va, vb, σ₂, as₂, rfl, ⟨_, Heap.get?_push_size _ rfl, rfl, _, rfl⟩, AV.is_of_ext ha A₂.ext, hvb, (A₁.trans A₂).trans (After.grown A₂.rel (Grown.push s₂ _)), hq⟩
theorem seg_yield2 (hA : Γ.A = A.over c fs) {e1 e2 : Expr} {j : Nat} {tp yp pos : Pos} {Q : AV → AV → St → Prop} (hfs : splitAtGen fs = none) (hgd : gd false = false) (hfg : fs.any Frame.guarded = false) (r : Rel Γ σ as s) (h : EvE Γ e1 σ (fun a σ₁ => EvE Γ e2 σ₁ (fun b σ₂ => Q a b σ₂)))
    (k : ∀ t v1 v2 a b σ' as' s', s'.heap.IsTuple t #[v1, v2] → a.is as' v1 → b.is as' v2 → After Γ σ as s σ' as' s' → Q a b σ' →
      ∀ kap : Resume → Shared → Prop, (∀ s'', Seg (M w) A R Y n s'' c (K .next) fs s'' → kap (.send .none) s'') → Y n s₀ (.ref t) s' kap)
    (hco : Γ.env.scope.isCoroutine = false) (hi : interactive Γ.env = false)
    (h1 : starEach [e1, e2] Γ.env = (false, eval e1 Γ.env) :: starEach [e2] Γ.env := by rfl) (h2 : starEach [e2] Γ.env = (false, eval e2 Γ.env) :: starEach [] Γ.env := by rfl) :
    Seg (M w) A R Y (n + 1) s₀ c ((exec (.Expr (.Yield (some (.Tuple [e1, e2] j tp)) yp) pos) Γ.env).wrap K H gd lv) fs s := by
  refine seg_Expr_Yield hfs hgd hfg ?_ hco hi
  rw [← hA]
  refine wpAny_mono (ev_pair r h h1 h2) (fun v s' hv => ?_) fun _ _ h => h.elim
  obtain ⟨t, v1, v2, a, b, σ', as', rfl, ht, h3, h4, h5, h6⟩ := hv
  exact fun kap hk => k t v1 v2 a b σ' as' s' ht h3 h4 h5 h6 kap fun s'' hs => hk .none s'' hs
end
/-! the generator's texts -/
def esc : Bool → Int → Nat → List Nat → List (Int × Str)
  | e, p, _, [] => if e then [(p, ⟨#[92]⟩)] else []
  | true, _, i, c :: r => ((i : Int), ⟨#[92, c]⟩) :: esc false i (i + 1) r
  | false, _, i, c :: r => if c = 92 then esc true i (i + 1) r else ((i : Int), ⟨#[c]⟩) :: esc false i (i + 1) r
structure Frm0 (T : Top0) (n0 : Nat) (s s' : Shared) : Prop where
  keep : ∀ b o, n0 ≤ b → ¬ IsL o → s.heap.get? b = some o → s'.heap.get? b = some o
  base : ∀ b o, T.B.get? b = some o → s'.heap.get? b = some o
  toks : s.toks ≤ s'.toks
def genY (T : Top0) (n0 g0 lo : Nat) (its : List (Int × Str)) : Protocol := fun m s₀ v s' kap =>
  Step n0 g0 s₀ s' ∧ (∃ t v1 v2 p y hi, v = .ref t ∧ s'.heap.IsTuple t #[v1, v2] ∧ its[its.length - 1 - m]? = some (p, y) ∧ (SV.int p).is v1 ∧ (SV.strT y lo hi).is v2) ∧
  ∀ s'', Frm0 T n0 s' s'' → kap (.send .none) s''
def genP (n0 g0 : Nat) : Nat → Shared → Shared → Prop := fun n s₀ s₁ => n = 0 ∧ Step n0 g0 s₀ s₁
abbrev genR (n0 g0 : Nat) : GenEnd := fun n s₀ r s₁ => r = .ok (.ret .none) ∧ genP n0 g0 n s₀ s₁
/-- a context amid a generator's frame -/
def gCx (T : Top0) (w : World) (A' : Around) (env : Env) (hk : env.scope.kind = .function) (hgl : env.globals = mainGlobals) (hbl : env.builtins = builtinsNs) (hh : A'.handled = none) (hd : A'.depth < recursionLimit) (hu : A'.units < cLine) : Cx w T :=
  { A := A', g := T.B, env := env, room := 0, fz := false, hk := hk, hgl := hgl, hbl := hbl, hh := hh, hg := fun _ _ h => h, hgs := Nat.le_refl _, hd := hd, hu := hu }
theorem Rel.move {Γ Γ' : Cx w T} {σ : St} {as : List Addr} {s : Shared} (r : Rel Γ σ as s) (hg : Γ'.g = Γ.g) (he : Γ'.env = Γ.env) : Rel Γ' σ as s := by
  refine ⟨?_, r.len, ?_, r.apart, r.low, ?_⟩
  · rw [hg, he]; exact r.fr
  · rw [hg]; exact r.objs
  · rw [he]; exact r.cells
theorem Rel.frm {Γ : Cx w T} {σ : St} {s s' : Shared} (r : Rel Γ σ [] s) (hg : Γ.g = T.B) {n0 : Nat} (hL : n0 ≤ Γ.env.locals) (hc : ∀ x c, Γ.env.cells.lookup x ≠ some c) (F : Frm0 T n0 s s') : Rel Γ σ [] s' := by
  obtain ⟨m, f, hm⟩ := r.fr
  refine ⟨⟨m, ⟨f.ns.at' fun o e => F.keep _ o hL (fun q => ?_) e, by rw [hg]; exact F.base, f.above⟩, fun x v hx => ?_⟩, r.len, fun k a o ha => by simp at ha, fun k j a ha => by simp at ha, Nat.le_trans r.low F.toks, fun x c h => (hc x c h).elim⟩
  · obtain ⟨o', es, ep, ho, hd, _⟩ := f.ns
    rw [e] at ho; cases ho
    obtain ⟨_, xs, n, q⟩ := q
    rw [hd] at q; cases q
  · obtain ⟨u, hl, hu⟩ := hm x v hx
    refine ⟨u, ?_, hu⟩
    cases hl with
    | loc a b => exact .loc a b
    | cell c a b d => exact (hc x c b).elim
    | free c a n b d => exact (hc x c b).elim
theorem After.toStep {Γ : Cx w T} {σ σ' : St} {as' : List Addr} {s s' : Shared} (r : Rel Γ σ [] s) (A : After Γ σ [] s σ' as' s') {n0 g0 : Nat} (hL : n0 ≤ Γ.env.locals) : Step n0 g0 s s' := by
  refine ⟨fun b o hb e => A.kept b o (fun q => ?_) (fun k _ h => by simp at h) e, A.size, A.toks, A.os, fun k x _ h => A.gens k x h, A.bare, A.gens.size⟩
  rcases hb with hb | hb
  · rw [q] at hb; exact absurd hb (Nat.not_lt.mpr hL)
  · obtain ⟨m, f, _⟩ := r.fr
    obtain ⟨o', es, ep, ho, hd', _⟩ := f.ns
    rw [q] at e
    rw [e] at ho; cases ho
    rcases hb with ⟨_, xs, n, hd⟩ | ⟨_, vs, hd⟩
    · rw [hd'] at hd; cases hd
    · rw [hd'] at hd; cases hd
/-- the loop's state: where enumerate stands -/
def StrAt (n0 : Nat) (en it : Addr) (x : Str) (t : Tok) (i : Nat) (h : Heap) : Prop := EnumAt n0 en it i h ∧ h.IsStrIter it "str_ascii_iterator" x t i
theorem striter_ne : Value.type "str_ascii_iterator" ≠ .type "list" := ty_ne (by decide)
theorem StrAt.keep {n0 : Nat} {en it : Addr} {x : Str} {t : Tok} {i : Nat} {h h' : Heap} (a : StrAt n0 en it x t i h) (hk : ∀ b o, n0 ≤ b → ¬ IsL o → h.get? b = some o → h'.get? b = some o) : StrAt n0 en it x t i h' := by
  obtain ⟨⟨h1, h2, h3, old, h4⟩, o, h5, h6, h7⟩ := a
  exact ⟨⟨h1, h2, h3, old, hk en _ h1 (fun q => enum_ne q.1) h4⟩, o, hk it o h2 (fun q => by have q := q.1; rw [h6] at q; exact striter_ne q) h5, h6, h7⟩
theorem StrAt.step {n0 g0 : Nat} {en it : Addr} {x : Str} {t : Tok} {i c : Nat} {prog : Program} {A : Around} {s : Shared} (a : StrAt n0 en it x t i s.heap) (hx : x.cps[i]? = some c) (elts : List Expr) (k : Nat) (pos : Pos) :
    wpAny (model prog w) A (pyNext (.ref en)) (fun r s₁ => ∃ tt, r = some (.ref tt) ∧ wpAny (model prog w) A (letOwnedTupleGo (.Tuple elts k pos) (.ref en) (.ref tt)) (fun _ s₂ => Step n0 g0 s s₂ ∧ StrAt n0 en it x t (i + 1) s₂.heap ∧
      (∃ u v, s₂.heap.IsTuple tt #[.int i u, .str ⟨#[c]⟩ v] ∧ s.toks ≤ v ∧ v < s₂.toks) ∧ ∀ b o, b ≠ en → b ≠ it → s.heap.get? b = some o → s₂.heap.get? b = some o) Never s₁) Never s := by
  obtain ⟨⟨h1, h2, h3, old, h4⟩, h5⟩ := a
  have hel : en < s.heap.objs.size := Heap.lt_size h4
  refine enum_step (Rx := fun x' h₁ t₁ => h₁.IsStrIter it "str_ascii_iterator" x t (i + 1) ∧ x' = .str ⟨#[c]⟩ s.toks ∧ t₁ = s.toks + 1) h4 h3 (wpAny_nextOf_ascii_item h5 hx fun h' hit' hs' => ⟨h', s.toks + 1, rfl, hs', hit', rfl, rfl⟩) fun x' h₁ t₁ h' hR hs₁ he' ht' hz' hk' => ?_
  obtain ⟨hit₁, rfl, rfl⟩ := hR
  refine ⟨_, rfl, wpAny_letOwnedTupleGo_enum he' fun h₂ he₂ hs₂ => ?_⟩
  replace hs₂ : Heap.SameBut en h' h₂ := hs₂
  have up : ∀ b o, b ≠ en → b ≠ it → s.heap.get? b = some o → h₂.get? b = some o := fun b o q1 q2 e => (hs₂.2 b q1).trans (hk' b o q1 (hs₁.extBut b o q2 e))
  refine ⟨Step.heap (fun b o hb hbo => up b o (fun q => ?_) (fun q => ?_) hbo) (by rw [hs₂.1, hz']; exact Nat.le_succ _) (Nat.le_succ_of_le (Nat.le_succ _)), ⟨⟨h1, h2, h3, .str ⟨#[c]⟩ s.toks, ?_⟩, ?_⟩, ⟨s.toks + 1, s.toks, ?_, Nat.le_refl _, Nat.lt_succ_of_le (Nat.le_succ _)⟩, up⟩
  · subst q
    rcases hb with hb | hb
    · exact absurd hb (Nat.not_lt.mpr h1)
    · rw [h4] at hbo; cases hbo; exact nk (c := "enumerate") rfl (by decide) (by decide) hb
  · subst q
    rcases hb with hb | hb
    · exact absurd hb (Nat.not_lt.mpr h2)
    · obtain ⟨o', ho', hc', _⟩ := h5
      rw [ho'] at hbo; cases hbo; exact nk hc' (by decide) (by decide) hb
  · have : ((i + 1 : Nat) : Int) = (i : Int) + 1 := by push_cast; rfl
    rw [this]; exact he₂
  · obtain ⟨o, ho, r⟩ := hit₁
    exact ⟨o, (hs₂.2 it (Ne.symm h3)).trans (hk' it o (Ne.symm h3) ho), r⟩
  · exact ⟨_, (hs₂.2 _ (Nat.ne_of_gt hel)).trans ht', rfl, _, rfl⟩
theorem StrAt.done {n0 g0 : Nat} {en it : Addr} {x : Str} {t : Tok} {prog : Program} {A : Around} (hh : A.handled = none) {s : Shared} (a : StrAt n0 en it x t x.cps.size s.heap) :
    wpAny (model prog w) A (pyNext (.ref en)) (fun r s₁ => r = none ∧ Step n0 g0 s s₁ ∧ (∀ b o, b ≠ it → s.heap.get? b = some o → s₁.heap.get? b = some o)) Never s := by
  obtain ⟨⟨h1, h2, h3, old, h4⟩, h5⟩ := a
  refine wpAny_size (Nat.le_refl s.heap.objs.size) (wpAny_pyNext_enum_endD (Draws.strAscii (A := A.in1) hh it x t) h4 h5 fun h' hx hz => ⟨rfl, ?_, hx⟩)
  refine Step.heap (fun b o hb hbo => hx b o (fun q => ?_) hbo) hz (Nat.le_refl _)
  subst q
  rcases hb with hb | hb
  · exact absurd hb (Nat.not_lt.mpr h2)
  · obtain ⟨o', ho', hc', _⟩ := h5
    rw [ho'] at hbo; cases hbo; exact nk hc' (by decide) (by decide) hb
end Mine

/-! part M13 -/
namespace Mine
variable {w : World} {T : Top0}
section
variable {Γ : Cx w T} {σ : St} {as : List Addr} {s : Shared}
theorem o_addsT {x y : Str} {a : SV} {l u : Nat} {Q : AV → St → Prop} (hx : ∀ v, a.is v → ∃ t, v = .str x t) (h : ∀ hi, Q (.sv (.strT (x ++ y) σ.lo hi)) σ) (h1 : x.length ≠ 0) (h2 : y.length ≠ 0) (hz : (x ++ y).length ≤ sizeLine) : Op2 Γ AV.is (binaryOp .Add) (.sv a) (.sv (.strT y l u)) σ Q := by
  intro s as v v' r hv hv'
  obtain ⟨t, rfl⟩ := hx v hv
  obtain ⟨t', rfl, _⟩ := hv'
  refine P.add_str ?_
  rw [if_neg (by simpa using h1), if_neg (by simpa using h2)]
  exact ⟨hz, .sv (.strT (x ++ y) σ.lo (s.toks + 1)), σ, as, ⟨_, rfl, r.low, Nat.lt_succ_self _⟩, .tok r (Nat.le_succ _), h _⟩
theorem o_eqs' {x y : Str} {a b : SV} {Q : AV → St → Prop} (hx : ∀ v, a.is v → ∃ t, v = .str x t) (hy : ∀ v, b.is v → ∃ t, v = .str y t) (h : Q (.bool (x == y)) σ) : Op2 Γ AV.is (compareOp .Eq) (.sv a) (.sv b) σ Q := by
  intro s as v v' r hv hv'
  obtain ⟨t, rfl⟩ := hx v hv
  obtain ⟨u, rfl⟩ := hy v' hv'
  exact eq_str (op_same r h rfl)
theorem str_is {x : Str} : ∀ v, (SV.str x).is v → ∃ t, v = .str x t := fun _ h => h
theorem strT_is {x : Str} {l u : Nat} : ∀ v, (SV.strT x l u).is v → ∃ t, v = .str x t := fun _ ⟨t, h, _⟩ => ⟨t, h⟩
/-- a pair goes to two names -/
theorem assign_pair (hfz : Γ.fz = false) {x y : Str} {px py pt : Pos} {k : Nat} {x1 x2 : SV} {t : Addr} {v1 v2 : Value} (hx : Γ.env.kindOf x = some .local) (hy : Γ.env.kindOf y = some .local) (r : Rel Γ σ as s) (ht : s.heap.IsTuple t #[v1, v2]) (hx1 : x1.is v1) (hx2 : x2.is v2) :
    wpAny (M w) Γ.A (assign (.Tuple [.Name x px, .Name y py] k pt) Γ.env (.ref t)) (fun _ s' => After Γ σ as s ((σ.put x (.sv x1)).put y (.sv x2)) as s') Never s := by
  have hpl : (Γ.env.scope.kind == .class || (Γ.env.scope.kind == .module && Γ.env.locals != Γ.env.globals)) = false := by rw [Γ.hk]; rfl
  refine wpAny_size (Nat.le_refl s.heap.objs.size) (wpAny_assign_Tuple Γ.hh ht rfl rfl fun h₃ hx₃ => ?_)
  have hk₃ : ∀ b o, s.heap.get? b = some o → h₃.get? b = some o := fun b o e => hx₃ b o (Nat.ne_of_lt (Heap.lt_size e)) e
  have R₃ : Rel Γ σ as { s with heap := h₃ } := r.keeps hk₃ (Nat.le_refl _)
  obtain ⟨m, F, hm⟩ := R₃.fr
  show wpAny _ _ (do holding [v2] (assign (.Name x px) Γ.env v1); do holding [] (assign (.Name y py) Γ.env v2); pure ()) _ _ _
  refine wpAny_bind (wpAny_holding (wpAny_assign_Name (wpAny_storeName_local hx F.ns (fun h₄ hn₄ hs₄ => ?_) hpl)))
  have A₄ := After.store hfz R₃ hx (v := .sv x1) hx1 F hm hn₄ hs₄ (Nat.le_succ _)
  obtain ⟨m', F', hm'⟩ := A₄.rel.fr
  refine wpAny_bind (wpAny_holding (wpAny_assign_Name (wpAny_storeName_local hy F'.ns (fun h₅ hn₅ hs₅ => wpAny_pure ?_) hpl)))
  have A₅ := A₄.trans (After.store hfz A₄.rel hy (v := .sv x2) hx2 F' hm' hn₅ hs₅ (Nat.le_succ _))
  exact fun hz => After.gap hfz (After.refl r) hk₃ A₅ hz
end
/-- what is asked of a generator's frame -/
structure GEnv (env : Env) : Prop where
  hk : env.scope.kind = .function
  hgl : env.globals = mainGlobals
  hbl : env.builtins = builtinsNs
  hco : env.scope.isCoroutine = false
  hcl : env.cells = []
  k1 : env.kindOf "pos" = some .local
  k2 : env.kindOf "ch" = some .local
  k3 : env.kindOf "escape" = some .local
  k4 : env.kindOf "addr" = some .local
  k5 : env.kindOf "enumerate" = some .globalImplicit
theorem GEnv.hi {env : Env} (G : GEnv env) : interactive env = false := by unfold interactive; rw [G.hk]; rfl
def gst (x : Str) (lo : Nat) (e : Bool) (p : Int) : St := ⟨[("escape", .bool e), ("pos", .int p), ("addr", .str x)], [], lo⟩
theorem StrAt.ne {n0 : Nat} {en it : Addr} {x : Str} {t : Tok} {i : Nat} {h : Heap} {L : Addr} {m} (a : StrAt n0 en it x t i h) (n : h.Ns L m) : L ≠ en ∧ L ≠ it := by
  obtain ⟨⟨h1, h2, h3, old, h4⟩, o, h5, h6, h7⟩ := a
  obtain ⟨o', es, ep, ho, hd, _⟩ := n
  refine ⟨?_, ?_⟩
  · rintro rfl
    rw [h4] at ho; cases ho; cases hd
  · rintro rfl
    rw [h5] at ho; cases ho; rw [h7] at hd; cases hd
theorem Rel.past {Γ : Cx w T} {σ : St} {s s' : Shared} (r : Rel Γ σ [] s) (hc : Γ.env.cells = []) {n0 : Nat} {en it : Addr} (h1 : n0 ≤ en) (h2 : n0 ≤ it) (hB : Γ.g.objs.size ≤ n0) (hne : Γ.env.locals ≠ en ∧ Γ.env.locals ≠ it)
    (hk : ∀ b o, b ≠ en → b ≠ it → s.heap.get? b = some o → s'.heap.get? b = some o) (ht : s.toks ≤ s'.toks) : Rel Γ σ [] s' := by
  obtain ⟨m, f, hm⟩ := r.fr
  have nocell : ∀ x c, Γ.env.cells.lookup x ≠ some c := fun x c h => by rw [hc] at h; cases h
  refine ⟨⟨m, ⟨f.ns.at' fun o e => hk _ o hne.1 hne.2 e, fun b o e => hk b o (fun q => ?_) (fun q => ?_) (f.keep b o e), f.above⟩, fun x v hx => ?_⟩, r.len, fun k a o ha => by simp at ha, fun k j a ha => by simp at ha, Nat.le_trans r.low ht, fun x c h => (nocell x c h).elim⟩
  · rw [q] at e; exact absurd (Heap.lt_size e) (Nat.not_lt.mpr (Nat.le_trans hB h1))
  · rw [q] at e; exact absurd (Heap.lt_size e) (Nat.not_lt.mpr (Nat.le_trans hB h2))
  · obtain ⟨u, hl, hu⟩ := hm x v hx
    refine ⟨u, ?_, hu⟩
    cases hl with
    | loc a b => exact .loc a b
    | cell c a b d => exact (nocell x c b).elim
    | free c a n b d => exact (nocell x c b).elim
def forBody (st : Stmt) : List Stmt := match st with | .For _ _ b _ _ => b | _ => []
def forTgt (st : Stmt) : Expr := match st with | .For t _ _ _ _ => t | _ => .Name "" default
def forIter (st : Stmt) : Expr := match st with | .For _ t _ _ _ => t | _ => .Name "" default
def stAt (k : Nat) : Stmt := (Challenge.pw_wf0053_01.main.body[k]?).getD (.Pass default)
def bodyOf (s : Stmt) : List Stmt := match s with | .FunctionDef _ _ b _ _ _ _ _ _ _ => b | _ => []
def bodyAt (k : Nat) : List Stmt := bodyOf (stAt k)
def inBody (k j : Nat) : Stmt := ((bodyAt k)[j]?).getD (.Pass default)
theorem over2 (A : Around) (hA : A.handled = none) (b : List Stmt) (env : Env) (t : Expr) (i : Value) (fb oe : List Stmt) (e2 : Env) (k : Result → Sem Fin) (g : Bool) (l : List Value) (p : Pos) : (A.over (.forLoop t i fb oe e2) [.ret k none g l (.func b env) p []]).handled = none ∧
    (A.over (.forLoop t i fb oe e2) [.ret k none g l (.func b env) p []]).depth = A.depth + 1 ∧ (A.over (.forLoop t i fb oe e2) [.ret k none g l (.func b env) p []]).units = A.units + 3 := by
  refine ⟨?_, rfl, rfl⟩
  show markOver none A.handled A.handled = none
  rw [hA]; rfl
end Mine

/-! part M14 -/
namespace Mine
variable {w : World} {T : Top0}
theorem esc_eq (c : Nat) : ((⟨#[c]⟩ : Str) == ("\\" : Str)) = decide (c = 92) := by
  by_cases h : c = 92
  · subst h; rfl
  · rw [decide_eq_false h]
    refine beq_eq_false_iff_ne.mpr fun q => h ?_
    have h1 : (⟨#[c]⟩ : Str).cps[0]? = ("\\" : Str).cps[0]? := by rw [q]
    have h2 : ("\\" : Str).cps[0]? = some 92 := by decide +kernel
    rw [h2] at h1
    simpa using h1
section
variable {A : Around} {env : Env} {n0 g0 : Nat} {x : Str} {t : Tok} {lo : Nat} {en it : Addr} {its : List (Int × Str)}
theorem seg_loop (G : GEnv env) (hh : A.handled = none) (hd : A.depth + 1 < recursionLimit) (hu : A.units + 3 < cLine) (hn : n0 ≤ env.locals) (hB : T.B.objs.size ≤ n0)
    (body : List Stmt) (K : Result → Sem Fin) (g : Bool) (l : List Value) (pp : Pos)
    (fin : ∀ e p s₀ s Γ, Γ = gCx T w (A.over (.func body env) []) env G.hk G.hgl G.hbl hh hd hu → Rel Γ (gst x lo e p) [] s → Step n0 g0 s₀ s → (∃ done, its = done ++ esc e p 0 []) →
      Seg (M w) A (genR n0 g0) (genY T n0 g0 lo its) (esc e p 0 []).length s₀ (.func body env) (K (.ok .next)) [] s) :
    ∀ (cs : List Nat) (i : Nat) (e : Bool) (p : Int) (done : List (Int × Str)) (s₀ s : Shared), x.cps.toList.drop i = cs → i ≤ x.cps.size → its = done ++ esc e p i cs → StrAt n0 en it x t i s.heap →
      Rel (gCx T w (A.over (.func body env) []) env G.hk G.hgl G.hbl hh hd hu) (gst x lo e p) [] s → Step n0 g0 s₀ s →
      Seg (M w) A (genR n0 g0) (genY T n0 g0 lo its) (esc e p i cs).length s₀ (.forLoop (forTgt (inBody 6 2)) (.ref en) (forBody (inBody 6 2)) [] env) ((M w).den (.forLoop (forTgt (inBody 6 2)) (.ref en) (forBody (inBody 6 2)) [] env)) [.ret K none false l (.func body env) pp []] s := by
  have O := over2 A hh body env (forTgt (inBody 6 2)) (.ref en) (forBody (inBody 6 2)) [] env K false l pp
  have nocell : ∀ x c, env.cells.lookup x ≠ some c := fun x c h => by rw [G.hcl] at h; cases h
  intro cs
  induction cs with
  | nil =>
    intro i e p done s₀ s hcs hi hits hst hR hS
    have hin : i = x.cps.size := by
      have := congrArg List.length hcs
      simp at this; omega
    subst hin
    show Seg _ A _ _ _ s₀ _ ((forTurn (forTgt (inBody 6 2)) (.ref en) (forBody (inBody 6 2)) [] env).onRaise _) _ s
    rw [Sem.onRaise_eq_wrap]
    unfold forTurn
    refine seg_bind_wrap (wpAny_standAt (seg_bind_wrap (wpAny_onRaise (wpAny_mono (StrAt.done (g0 := g0) O.1 hst) (fun r s₁ hr => ?_) fun _ _ h => h.elim))))
    obtain ⟨rfl, S, hk⟩ := hr
    have R₁ : Rel (gCx T w (A.over (.func body env) []) env G.hk G.hgl G.hbl hh hd hu) (gst x lo e p) [] s₁ := hR.past G.hcl hst.1.1 hst.1.2.1 hB (by obtain ⟨m, f, _⟩ := hR.fr; exact hst.ne f.ns) (fun b o _ h2 e => hk b o h2 e) S.toks
    show Seg _ A _ _ _ s₀ _ (.pure (.again (.block [] env))) _ s₁
    refine seg_again rfl ?_
    show Seg _ A _ _ _ s₀ _ (leafOf (.ok .next)) _ s₁
    exact seg_leaf (.ok .next) (fin e p s₀ s₁ _ rfl R₁ (hS.trans S) ⟨done, hits⟩)
  | cons c cs ih =>
    intro i e p done s₀ s hcs hi hits hst hR hS
    have hlt : i < x.cps.size := by
      have := congrArg List.length hcs
      simp at this; omega
    have hc : x.cps[i]? = some c := by
      have h1 : (x.cps.toList.drop i)[0]? = some c := by rw [hcs]; rfl
      rw [List.getElem?_drop] at h1
      simpa using h1
    have hcs' : x.cps.toList.drop (i + 1) = cs := by
      rw [← List.drop_drop, hcs]; rfl
    obtain ⟨px, py, kk, pt, et⟩ : ∃ px py kk pt, forTgt (inBody 6 2) = .Tuple [.Name "pos" px, .Name "ch" py] kk pt := ⟨_, _, _, _, rfl⟩
    let Γ2 : Cx w T := gCx T w (A.over (.forLoop (forTgt (inBody 6 2)) (.ref en) (forBody (inBody 6 2)) [] env) [.ret K none false l (.func body env) pp []]) env G.hk G.hgl G.hbl O.1 (by rw [O.2.1]; exact hd) (by rw [O.2.2]; exact hu)
    have hR2 : Rel Γ2 (gst x lo e p) [] s := hR.move rfl rfl
    show Seg _ A _ _ _ s₀ _ ((forTurn (forTgt (inBody 6 2)) (.ref en) (forBody (inBody 6 2)) [] env).onRaise _) _ s
    rw [Sem.onRaise_eq_wrap]
    unfold forTurn
    refine seg_bind_wrap (wpAny_standAt (seg_bind_wrap (wpAny_onRaise (wpAny_mono (StrAt.step (g0 := g0) hst hc [.Name "pos" px, .Name "ch" py] kk pt) (fun r s₁ hr => ?_) fun _ _ h => h.elim))))
    obtain ⟨tt, rfl, hgo⟩ := hr
    rw [← et] at hgo
    refine seg_bind_wrap (wpAny_mono hgo (fun _ s₂ h₂ => ?_) fun _ _ h => h.elim)
    obtain ⟨S, hst₂, ⟨u, v, htt, hv1, hv2⟩, up⟩ := h₂
    have R₂ : Rel Γ2 (gst x lo e p) [] s₂ := hR2.past G.hcl hst.1.1 hst.1.2.1 hB (by obtain ⟨m, f, _⟩ := hR.fr; exact hst.ne f.ns) up S.toks
    have hAs := assign_pair (Γ := Γ2) (px := px) (py := py) (pt := pt) (k := kk) rfl G.k1 G.k2 R₂ htt (x1 := .int i) (x2 := .strT ⟨#[c]⟩ lo s₂.toks) ⟨u, rfl⟩ ⟨v, rfl, Nat.le_trans hR.low hv1, hv2⟩
    rw [← et] at hAs
    refine seg_bind_wrap (wpAny_mono hAs (fun _ s₃ A₃ => ?_) fun _ _ h => h.elim)
    have hst₃ : StrAt n0 en it x t (i + 1) s₃.heap := by
      obtain ⟨m, f, _⟩ := R₂.fr
      have hne := hst₂.ne f.ns
      obtain ⟨⟨h1, h2, h3, old, h4⟩, o, h5, h6, h7⟩ := hst₂
      exact ⟨⟨h1, h2, h3, old, A₃.kept en _ (Ne.symm hne.1) (fun k _ h => by simp at h) h4⟩, o, A₃.kept it o (Ne.symm hne.2) (fun k _ h => by simp at h) h5, h6, h7⟩
    have S₃ : Step n0 g0 s₀ s₃ := (hS.trans S).trans (A₃.toStep R₂ hn)
    rw [Sem.bind_eq_wrap', Sem.wrap_wrap]
    refine seg_execs_cons (seg_if (Γ := Γ2) rfl A₃.rel (Q := fun b σ' => b = e ∧ σ' = (((gst x lo e p).put "pos" (.sv (.int i))).put "ch" (.sv (.strT ⟨#[c]⟩ lo s₂.toks)))) (evb_val (ev_name rfl (truthy_b ⟨rfl, rfl⟩))) (fun b σ' as' s₄ A₄ hq => ?_))
    obtain ⟨rfl, rfl⟩ := hq
    have has : as' = [] := List.length_eq_zero_iff.mp (A₄.rel.len.trans rfl)
    subst has
    have S₄ : Step n0 g0 s₀ s₄ := S₃.trans (A₄.toStep A₃.rel hn)
    have keepSt : ∀ {σ' : St} {s₅ : Shared} {σ₅ : St}, StrAt n0 en it x t (i + 1) s₄.heap → Rel Γ2 σ' [] s₄ → After Γ2 σ' [] s₄ σ₅ [] s₅ → StrAt n0 en it x t (i + 1) s₅.heap := fun a r A₅ => by
      obtain ⟨m, f, _⟩ := r.fr
      have hne := a.ne f.ns
      obtain ⟨⟨h1, h2, h3, old, h4⟩, o, h5, h6, h7⟩ := a
      exact ⟨⟨h1, h2, h3, old, A₅.kept en _ (Ne.symm hne.1) (fun k _ h => by simp at h) h4⟩, o, A₅.kept it o (Ne.symm hne.2) (fun k _ h => by simp at h) h5, h6, h7⟩
    have hst₄ : StrAt n0 en it x t (i + 1) s₄.heap := by
      obtain ⟨m, f, _⟩ := A₃.rel.fr
      have hne := hst₃.ne f.ns
      obtain ⟨⟨h1, h2, h3, old, h4⟩, o, h5, h6, h7⟩ := hst₃
      exact ⟨⟨h1, h2, h3, old, A₄.kept en _ (Ne.symm hne.1) (fun k _ h => by simp at h) h4⟩, o, A₄.kept it o (Ne.symm hne.2) (fun k _ h => by simp at h) h5, h6, h7⟩
    cases b with
    | true =>
      rw [if_pos rfl]
      have hits' : its = (done ++ [((i : Int), ⟨#[92, c]⟩)]) ++ esc false i (i + 1) cs := by rw [hits]; simp [esc]
      show Seg _ A _ _ ((esc false i (i + 1) cs).length + 1) s₀ _ _ _ s₄
      refine seg_execs_cons (seg_yield2 (Γ := Γ2) (Q := fun a b σ' => a = .int i ∧ (∃ hi, b = .sv (.strT ⟨#[92, c]⟩ lo hi)) ∧ σ' = (((gst x lo true p).put "pos" (.sv (.int i))).put "ch" (.sv (.strT ⟨#[c]⟩ lo s₂.toks)))) rfl rfl rfl rfl A₄.rel
        (ev_name rfl (ev_bin (ev_str (ev_name rfl (o_addsT str_is (fun hi => ⟨rfl, ⟨hi, rfl⟩, rfl⟩) (by decide +kernel) (by show (1 : Nat) ≠ 0; decide) (by show (2 : Nat) ≤ sizeLine; decide +kernel)) (by decide +kernel)))) (by decide +kernel))
        (fun tt v1 v2 a b σ' as' s₅ ht ha hb A₅ hq kap hk => ?_) G.hco G.hi)
      obtain ⟨rfl, ⟨hi, rfl⟩, rfl⟩ := hq
      have has : as' = [] := List.length_eq_zero_iff.mp (A₅.rel.len.trans rfl)
      subst has
      refine ⟨S₄.trans (A₅.toStep A₄.rel hn), ⟨tt, v1, v2, i, _, hi, rfl, ht, ?_, ha, hb⟩, fun s'' F => hk s'' ?_⟩
      · have hl : its.length - 1 - (esc false i (i + 1) cs).length = done.length := by rw [hits']; simp
        rw [hl, hits']; simp
      · have R₆ := A₅.rel.frm (Γ := Γ2) rfl hn nocell F
        have hst₆ := (keepSt hst₄ A₄.rel A₅).keep (h' := s''.heap) fun b o h1 h2 e => F.keep b o h1 h2 e
        refine seg_execs_cons (seg_ex (Γ := Γ2) rfl R₆ (Q := fun f σ' => f = .next ∧ StLe σ' (gst x lo false i)) (ex_assign rfl G.k3 (ev_bool ⟨rfl, StLe.of ⟨rfl, rfl, rfl, trivial⟩ (HLe.refl _) (Nat.le_refl _)⟩)) (fun f af σ' as' s₇ hf A₇ hq => ?_))
        obtain ⟨rfl, hle⟩ := hq
        cases hf
        have A₈ := A₇.trans (After.le A₇.rel hle)
        have has : as' = [] := List.length_eq_zero_iff.mp (A₈.rel.len.trans rfl)
        subst has
        refine seg_execs_nil ?_
        show Seg _ A _ _ _ s'' _ (.pure (.again (.forLoop (forTgt (inBody 6 2)) (.ref en) (forBody (inBody 6 2)) [] env))) _ s₇
        have hst₇ : StrAt n0 en it x t (i + 1) s₇.heap := by
          obtain ⟨m, f, _⟩ := R₆.fr
          have hne := hst₆.ne f.ns
          obtain ⟨⟨h1, h2, h3, old, h4⟩, o, h5, h6, h7⟩ := hst₆
          exact ⟨⟨h1, h2, h3, old, A₈.kept en _ (Ne.symm hne.1) (fun k _ h => by simp at h) h4⟩, o, A₈.kept it o (Ne.symm hne.2) (fun k _ h => by simp at h) h5, h6, h7⟩
        exact seg_again rfl (ih (i + 1) false i _ s'' s₇ hcs' hlt hits' hst₇ (A₈.rel.move rfl rfl) (A₈.toStep R₆ hn))
    | false =>
      rw [if_neg Bool.false_ne_true]
      refine seg_execs_cons (seg_if (Γ := Γ2) rfl A₄.rel (Q := fun b σ' => b = decide (c = 92) ∧ σ' = (((gst x lo false p).put "pos" (.sv (.int i))).put "ch" (.sv (.strT ⟨#[c]⟩ lo s₂.toks)))) (evb_cmp (ev_name rfl (ev_str (o_eqs' strT_is str_is ⟨_, rfl, esc_eq c, rfl⟩)) (by decide +kernel))) (fun b σ' as' s₅ A₅ hq => ?_))
      obtain ⟨rfl, rfl⟩ := hq
      have has : as' = [] := List.length_eq_zero_iff.mp (A₅.rel.len.trans rfl)
      subst has
      have hst₅ := keepSt hst₄ A₄.rel A₅
      have S₅ := S₄.trans (A₅.toStep (g0 := g0) A₄.rel hn)
      by_cases h92 : c = 92
      · rw [if_pos (decide_eq_true h92)]
        have hits' : its = done ++ esc true i (i + 1) cs := by rw [hits]; simp [esc, h92]
        have hlen : (esc false p i (c :: cs)).length = (esc true i (i + 1) cs).length := by simp [esc, h92]
        rw [hlen]
        refine seg_execs_cons (seg_ex (Γ := Γ2) rfl A₅.rel (Q := fun f σ' => f = .next ∧ StLe σ' (gst x lo true i)) (ex_assign rfl G.k3 (ev_bool ⟨rfl, StLe.of ⟨rfl, rfl, rfl, trivial⟩ (HLe.refl _) (Nat.le_refl _)⟩)) (fun f af σ' as' s₇ hf A₇ hq => ?_))
        obtain ⟨rfl, hle⟩ := hq
        cases hf
        have A₈ := A₇.trans (After.le A₇.rel hle)
        have has : as' = [] := List.length_eq_zero_iff.mp (A₈.rel.len.trans rfl)
        subst has
        refine seg_execs_nil (seg_execs_nil ?_)
        show Seg _ A _ _ _ s₀ _ (.pure (.again (.forLoop (forTgt (inBody 6 2)) (.ref en) (forBody (inBody 6 2)) [] env))) _ s₇
        have hst₇ : StrAt n0 en it x t (i + 1) s₇.heap := by
          obtain ⟨m, f, _⟩ := A₅.rel.fr
          have hne := hst₅.ne f.ns
          obtain ⟨⟨h1, h2, h3, old, h4⟩, o, h5, h6, h7⟩ := hst₅
          exact ⟨⟨h1, h2, h3, old, A₈.kept en _ (Ne.symm hne.1) (fun k _ h => by simp at h) h4⟩, o, A₈.kept it o (Ne.symm hne.2) (fun k _ h => by simp at h) h5, h6, h7⟩
        exact seg_again rfl (ih (i + 1) true i _ s₀ s₇ hcs' hlt hits' hst₇ (A₈.rel.move rfl rfl) (S₅.trans (A₈.toStep A₅.rel hn)))
      · rw [if_neg (by simpa using h92)]
        have hits' : its = (done ++ [((i : Int), ⟨#[c]⟩)]) ++ esc false i (i + 1) cs := by rw [hits]; simp [esc, h92]
        have hlen : (esc false p i (c :: cs)).length = (esc false i (i + 1) cs).length + 1 := by simp [esc, h92]
        rw [hlen]
        refine seg_execs_cons (seg_yield2 (Γ := Γ2) (Q := fun a b σ' => a = .int i ∧ (∃ hi, b = .sv (.strT ⟨#[c]⟩ lo hi)) ∧ σ' = (((gst x lo false p).put "pos" (.sv (.int i))).put "ch" (.sv (.strT ⟨#[c]⟩ lo s₂.toks)))) rfl rfl rfl rfl A₅.rel
          (ev_name rfl (ev_name rfl ⟨rfl, ⟨_, rfl⟩, rfl⟩ (by decide +kernel)) (by decide +kernel))
          (fun tt v1 v2 a b σ' as' s₆ ht ha hb A₆ hq kap hk => ?_) G.hco G.hi)
        obtain ⟨rfl, ⟨hi, rfl⟩, rfl⟩ := hq
        have has : as' = [] := List.length_eq_zero_iff.mp (A₆.rel.len.trans rfl)
        subst has
        refine ⟨S₅.trans (A₆.toStep A₅.rel hn), ⟨tt, v1, v2, i, _, hi, rfl, ht, ?_, ha, hb⟩, fun s'' F => hk s'' ?_⟩
        · have hl : its.length - 1 - (esc false i (i + 1) cs).length = done.length := by rw [hits']; simp
          rw [hl, hits']; simp
        · have hst₆ : StrAt n0 en it x t (i + 1) s₆.heap := by
            obtain ⟨m, f, _⟩ := A₅.rel.fr
            have hne := hst₅.ne f.ns
            obtain ⟨⟨h1, h2, h3, old, h4⟩, o, h5, h6, h7⟩ := hst₅
            exact ⟨⟨h1, h2, h3, old, A₆.kept en _ (Ne.symm hne.1) (fun k _ h => by simp at h) h4⟩, o, A₆.kept it o (Ne.symm hne.2) (fun k _ h => by simp at h) h5, h6, h7⟩
          have hst₇ := hst₆.keep (h' := s''.heap) fun b o h1 h2 e => F.keep b o h1 h2 e
          have R₇ := A₆.rel.frm (Γ := Γ2) rfl hn nocell F
          have A₈ := After.le R₇ (StLe.of (σ' := gst x lo false i) ⟨rfl, rfl, rfl, trivial⟩ (HLe.refl _) (Nat.le_refl _))
          refine seg_execs_nil (seg_execs_nil ?_)
          show Seg _ A _ _ _ s'' _ (.pure (.again (.forLoop (forTgt (inBody 6 2)) (.ref en) (forBody (inBody 6 2)) [] env))) _ s''
          exact seg_again rfl (ih (i + 1) false i _ s'' s'' hcs' hlt hits' hst₇ (A₈.rel.move rfl rfl) (Step.refl _ _ _))
end
end Mine

/-! part M15 -/
namespace Mine
variable {w : World} {T : Top0}
def escOf (x : Str) : List (Int × Str) := esc false 0 0 x.cps.toList
def Ascii (x : Str) : Prop := x.cps.all (· < 128) = true
section
variable {A : Around} {env : Env} {n0 g0 : Nat} {x : Str} {lo : Nat}
theorem seg_end' {its : List (Int × Str)} {c : Code} {s₀ s : Shared} (S : Step n0 g0 s₀ s) : Seg (M w) A (genR n0 g0) (genY T n0 g0 lo its) 0 s₀ c (.pure (.done (.ret .none))) [] s :=
  seg_end (.ok (.ret .none)) ⟨rfl, rfl, S⟩
theorem seg_gen (G : GEnv env) (hh : A.handled = none) (hd : A.depth + 1 < recursionLimit) (hu : A.units + 3 < cLine) (hn : n0 ≤ env.locals) (hB : T.B.objs.size ≤ n0) (hasc : Ascii x)
    (hmg : T.mg "enumerate" = none) (s : Shared) (hR : Rel (gCx T w (A.over (.func (bodyAt 6) env) []) env G.hk G.hgl G.hbl hh hd hu) ⟨[("addr", .str x)], [], lo⟩ [] s) :
    Seg (M w) A (genR n0 g0) (genY T n0 g0 lo (escOf x)) (escOf x).length s (.func (bodyAt 6) env) ((M w).den (.func (bodyAt 6) env)) [] s := by
  let Γ1 : Cx w T := gCx T w (A.over (.func (bodyAt 6) env) []) env G.hk G.hgl G.hbl hh hd hu
  have nocell : ∀ x c, env.cells.lookup x ≠ some c := fun x c h => by rw [G.hcl] at h; cases h
  refine seg_func ?_
  refine seg_execs_cons (seg_ex (Γ := Γ1) rfl hR (Q := fun f σ' => f = .next ∧ StLe σ' ⟨[("pos", .int 0), ("addr", .str x)], [], lo⟩) (ex_assign rfl G.k1 (ev_int ⟨rfl, StLe.of ⟨rfl, rfl, trivial⟩ (HLe.refl _) (Nat.le_refl _)⟩)) (fun f af σ' as' s₁ hf A₁ hq => ?_))
  obtain ⟨rfl, hle⟩ := hq
  cases hf
  replace A₁ := A₁.trans (After.le A₁.rel hle)
  have has : as' = [] := List.length_eq_zero_iff.mp (A₁.rel.len.trans rfl)
  subst has
  refine seg_execs_cons (seg_ex (Γ := Γ1) rfl A₁.rel (Q := fun f σ' => f = .next ∧ StLe σ' (gst x lo false 0)) (ex_assign rfl G.k3 (ev_bool ⟨rfl, StLe.of ⟨rfl, rfl, rfl, trivial⟩ (HLe.refl _) (Nat.le_refl _)⟩)) (fun f af σ' as' s₂ hf A₂ hq => ?_))
  obtain ⟨rfl, hle⟩ := hq
  cases hf
  replace A₂ := A₂.trans (After.le A₂.rel hle)
  have has : as' = [] := List.length_eq_zero_iff.mp (A₂.rel.len.trans rfl)
  subst has
  have S₂ : Step n0 g0 s s₂ := (A₁.toStep hR hn).trans (A₂.toStep A₁.rel hn)
  refine seg_execs_cons ?_
  rw [exec_For]
  have hit : ∀ (s : Shared), Rel Γ1 (gst x lo false 0) [] s → wpAny (M w) Γ1.A (eval (forIter (inBody 6 2)) env) (fun v s' => ∃ en it t, v = .ref en ∧ StrAt n0 en it x t 0 s'.heap ∧ After Γ1 (gst x lo false 0) [] s (gst x lo false 0) [] s') Never s := by
    intro s hR
    refine Call_ (wpAny_mono ((ev_builtin (Γ := Γ1) (u := .type "enumerate") G.k5 hmg (by rfl) (Q := fun v σ' => v = .con (.type "enumerate") ∧ σ' = gst x lo false 0) ⟨rfl, rfl⟩ (by decide) (by decide +kernel)) s [] hR) (fun v s₁ hv => ?_) fun _ _ h => h.elim)
    obtain ⟨va, σ₁, as₁, ha, A₁, rfl, rfl⟩ := hv
    have : v = .type "enumerate" := ha
    subst this
    have has : as₁ = [] := List.length_eq_zero_iff.mp (A₁.rel.len.trans rfl)
    subst has
    refine PyProof.Rows.callWith_type1 (wpAny_items_cons (wpAny_mono ((ev_name (Γ := Γ1) (v := .str x) rfl (Q := fun v σ' => v = .str x ∧ σ' = gst x lo false 0) ⟨rfl, rfl⟩ (by decide +kernel)) s₁ [] A₁.rel) (fun y s₂ hy => ?_) fun _ _ h => h.elim) rfl) rfl rfl
    obtain ⟨ya, σ₂, as₂, hya, A₂, rfl, rfl⟩ := hy
    obtain ⟨t, rfl⟩ := hya
    have has : as₂ = [] := List.length_eq_zero_iff.mp (A₂.rel.len.trans rfl)
    subst has
    refine Calls.spliced_nil (call_enumerate_str fun h' he' hit' hz' hk' => ?_)
    have G : Grown Γ1.fz s₂ { s₂ with heap := h' } := Grown.heap hk' (by rw [hz']; exact Nat.le_succ_of_le (Nat.le_succ _)) (Nat.le_refl _)
    have A₃ := (A₁.trans A₂).trans (After.grown A₂.rel G)
    have hlt : n0 ≤ s₂.heap.objs.size := Nat.le_of_lt (Nat.lt_of_le_of_lt hn (by obtain ⟨m, f, _⟩ := A₂.rel.fr; exact f.ns.lt))
    rw [show strIterType x = "str_ascii_iterator" by unfold strIterType; exact if_pos hasc] at hit'
    exact ⟨_, _, t, rfl, ⟨⟨Nat.le_succ_of_le hlt, hlt, Nat.succ_ne_self _, _, he'⟩, hit'⟩, A₃⟩
  refine seg_bind_wrap (wpAny_standAt (seg_bind_wrap (wpAny_mono (hit s₂ A₂.rel) (fun v s₃ hv => ?_) fun _ _ h => h.elim)))
  obtain ⟨en, it, t, rfl, hst, A₃⟩ := hv
  refine seg_bind_wrap (wpAny_pure (seg_bind_wrap (wpAny_standAt (seg_bind_wrap (wpAny_holding (wpAny_pyIter_enum hst.1.2.2.2.choose_spec ?_))))))
  refine seg_call (fun pp => ?_)
  refine seg_loop (t := t) (en := en) (it := it) G hh hd hu hn hB (bodyAt 6) _ false [] pp ?_ x.cps.toList 0 false 0 [] s s₃ rfl (Nat.zero_le _) rfl hst A₃.rel (S₂.trans (A₃.toStep A₂.rel hn))
  intro e p s₀ s₄ Γ hΓ R S ⟨done, hits⟩
  subst hΓ
  show Seg _ A _ _ _ s₀ _ ((execs [inBody 6 3] env).wrap _ _ _ _) [] s₄
  refine seg_execs_cons (seg_if (Γ := Γ1) rfl R (Q := fun b σ' => b = e ∧ σ' = gst x lo e p) (evb_val (ev_name rfl (truthy_b ⟨rfl, rfl⟩))) (fun b σ' as' s₅ A₅ hq => ?_))
  obtain ⟨rfl, rfl⟩ := hq
  have has : as' = [] := List.length_eq_zero_iff.mp (A₅.rel.len.trans rfl)
  subst has
  have S₅ := S.trans (A₅.toStep (g0 := g0) R hn)
  cases b with
  | false =>
    rw [if_neg Bool.false_ne_true]
    exact seg_execs_nil (seg_execs_nil (seg_end' S₅))
  | true =>
    rw [if_pos rfl]
    show Seg _ A _ _ (0 + 1) s₀ _ _ [] s₅
    refine seg_execs_cons (seg_yield2 (Γ := Γ1) (Q := fun a b σ' => a = .int p ∧ (∃ hi, b = .sv (.strT ⟨#[92]⟩ lo hi)) ∧ σ'.H = []) rfl rfl rfl rfl A₅.rel
      (ev_name rfl (ev_strT (fun hi _ => ⟨rfl, ⟨hi, rfl⟩, rfl⟩)) (by decide +kernel))
      (fun tt v1 v2 a b σ' as' s₆ ht ha hb A₆ hq kap hk => ?_) G.hco G.hi)
    obtain ⟨rfl, ⟨hi, rfl⟩, hH⟩ := hq
    have has : as' = [] := List.length_eq_zero_iff.mp (A₆.rel.len.trans (by rw [hH]; rfl))
    subst has
    refine ⟨S₅.trans (A₆.toStep A₅.rel hn), ⟨tt, v1, v2, p, _, hi, rfl, ht, ?_, ha, hb⟩, fun s'' F => hk s'' ?_⟩
    · have e1 : escOf x = done ++ [(p, ⟨#[92]⟩)] := hits
      rw [e1]; simp
    · exact seg_execs_nil (seg_execs_nil (seg_end' (Step.refl _ _ _)))
end
end Mine

/-! part M16 -/
namespace Mine
variable {w : World} {T : Top0}
theorem gen_ne : Value.type "generator" ≠ .type "list" := ty_ne (by decide)
theorem allBare_set {s : Shared} {g : Nat} {x : GenState} (h : AllBare s.gens) (hx : x.bare = true) : AllBare (s.setGen g x).gens := by
  intro y hy
  obtain ⟨i, hi, rfl⟩ := Array.mem_iff_getElem.mp hy
  have hi' : i < s.gens.size := by simpa [Shared.setGen] using hi
  have e : (s.setGen g x).gens[i] = if g = i then x else s.gens[i] := Array.getElem_setIfInBounds hi'
  rw [e]
  split
  · exact hx
  · exact h _ (Array.getElem_mem hi')
theorem Step.setGen {n0 g0 g : Nat} (hg : g0 ≤ g) (s : Shared) {x : GenState} (hx : x.bare = true) : Step n0 g0 s (s.setGen g x) :=
  ⟨fun _ _ _ h => h, Nat.le_refl _, Nat.le_refl _, rfl, fun k z hk h => by
    have hne : ¬ g = k := fun q => absurd hk (by rw [← q]; exact Nat.not_lt.mpr hg)
    show (s.gens.setIfInBounds g x)[k]? = some z
    rw [Array.getElem?_setIfInBounds, if_neg hne]; exact h, fun h => allBare_set h hx, by simp [Shared.setGen]⟩
/-- a generator's state between two items -/
def GSt (T : Top0) (w : World) (A : Around) (n0 g0 lo : Nat) (its : List (Int × Str)) (a : Addr) (g : Nat) (i : Nat) (s : Shared) : Prop :=
  s.heap.IsGen a g ∧ (∀ b o, T.B.get? b = some o → s.heap.get? b = some o) ∧ ∃ gs, s.gens[g]? = some gs ∧
    ∀ s'', Frm0 T n0 s s'' → gs.Goes (M w) A.in1 (genR n0 g0) (genY T n0 g0 lo its) (its.length - i) (.send .none) s''
theorem letOwned_gen {A : Around} {prog : Program} {a t : Addr} {g : Nat} {s : Shared} {elts : List Expr} {k : Nat} {pos : Pos} {Q : Unit → Shared → Prop} {E : Value → Shared → Prop} (h : s.heap.IsGen a g) (hQ : Q () s) :
    wpAny (model prog w) A (letOwnedTupleGo (.Tuple elts k pos) (.ref a) (.ref t)) Q E s := by
  obtain ⟨o, nm, qn, ho, hc, hd, _⟩ := h
  unfold letOwnedTupleGo
  refine wpAny_bind (wpAny_load ho ?_)
  rw [hc, hd]
  show wpAny _ A (if (["enumerate", "zip", "dict_itemiterator", "dict_reverseitemiterator", "odict_iterator", "itertools.zip_longest", "itertools.pairwise"].contains "generator" && _) = true then _ else _) Q E s
  rw [if_neg (by simp)]
  exact wpAny_pure hQ
theorem src_gen {A : Around} (hh : A.handled = none) (hroom : A.depth < recursionLimit) {n0 g0 lo : Nat} {its : List (Int × Str)} {a : Addr} {g : Nat} (ha : n0 ≤ a) (hg : g0 ≤ g) (hB : T.B.objs.size ≤ n0) :
    Src w T A a n0 g0 [] its.length (fun i v1 v2 => ∃ p y hi, its[i]? = some (p, y) ∧ (SV.int p).is v1 ∧ (SV.strT y lo hi).is v2) (GSt T w A n0 g0 lo its a g) where
  frame := fun i s s' ⟨⟨o, nm, qn, ho, hc, hd, hsl⟩, hb, gs, hgs, hgo⟩ F =>
    ⟨⟨o, nm, qn, F.keep a o (.inl ⟨ha, fun q => by have q := q.1; rw [hc] at q; exact gen_ne q⟩) ho, hc, hd, hsl⟩, F.base, gs, F.gens g gs hgs, fun s'' X =>
      hgo s'' ⟨fun b o h1 h2 e => X.keep b o h1 h2 (F.keep b o (.inl ⟨h1, h2⟩) e), X.base, Nat.le_trans F.toks X.toks⟩⟩
  item := fun elts k pos i s hi ⟨hgen, hb, gs, hgs, hgo⟩ => by
    obtain ⟨m, hm⟩ : ∃ m, its.length - i = m + 1 := ⟨its.length - i - 1, by omega⟩
    refine gen_next (Pz := genP n0 g0) hh (T.nolim.keeps hb) hroom hgen hgs (hgo (s.setGen g .running) ⟨fun _ _ _ _ h => h, hb, Nat.le_refl _⟩) (fun v s₁ gs' hbare hv => ?_) (fun s₁ hp h' hk => ?_)
    · rw [hm] at hv
      obtain ⟨S, ⟨t, v1, v2, p, y, hi', rfl, ht, hidx, h1, h2⟩, hkap⟩ := hv
      have hS : Step n0 g0 s (s₁.setGen g gs') := ((Step.setGen hg s rfl).trans S).trans (Step.setGen hg s₁ hbare)
      have hidx' : its.length - 1 - (m + 1 - 1) = i := by omega
      rw [hidx'] at hidx
      have hb₁ : ∀ b o, T.B.get? b = some o → s₁.heap.get? b = some o := fun b o e => S.keep b o (.inl (Nat.lt_of_lt_of_le (Heap.lt_size e) hB)) (hb b o e)
      have hgen₁ : s₁.heap.IsGen a g := by
        obtain ⟨o, nm, qn, ho, hc, hd, hsl⟩ := hgen
        exact ⟨o, nm, qn, S.keep a o (.inr (.inr ⟨hc, _, hd⟩)) ho, hc, hd, hsl⟩
      refine ⟨t, v1, v2, rfl, letOwned_gen (s := s₁.setGen g gs') hgen₁ ⟨hS, ⟨hgen₁, hb₁, gs', ?_, fun s'' X => ?_⟩, ht, p, y, hi', hidx, h1, h2⟩⟩
      · have hlt : g < s₁.gens.size := by
          have h1 : g < s.gens.size := (Array.getElem?_eq_some_iff.mp hgs).1
          have h2 := S.gsz
          simp [Shared.setGen] at h2
          omega
        simp [Shared.setGen, hlt]
      · have e : its.length - (i + 1) = m := by omega
        rw [e]
        exact hkap s'' ⟨X.keep, X.base, X.toks⟩
    · exact absurd hp.1 (by omega)
  done := fun s ⟨hgen, hb, gs, hgs, hgo⟩ => by
    rw [Nat.sub_self] at hgo
    refine wpAny_size (Nat.le_refl s.heap.objs.size) (gen_next (Pz := genP n0 g0) hh (T.nolim.keeps hb) hroom hgen hgs (hgo (s.setGen g .running) ⟨fun _ _ _ _ h => h, hb, Nat.le_refl _⟩) (fun v s₁ gs' hbare hv => ?_) (fun s₁ hp h' hk => ?_))
    · obtain ⟨S, _, hkap⟩ := hv
      have hb₁ : ∀ b o, T.B.get? b = some o → s₁.heap.get? b = some o := fun b o e => S.keep b o (.inl (Nat.lt_of_lt_of_le (Heap.lt_size e) hB)) (hb b o e)
      exact (hkap s₁ ⟨fun _ _ _ _ h => h, hb₁, Nat.le_refl _⟩).elim
    · obtain ⟨_, S⟩ := hp
      have hS : Step n0 g0 s (s₁.setGen g .finished) := ((Step.setGen hg s rfl).trans S).trans (Step.setGen hg s₁ rfl)
      exact fun hz => ⟨rfl, ⟨fun b o h e => hk b o (hS.keep b o h e), hz, hS.toks, hS.os, hS.gens, hS.bare, hS.gsz⟩⟩
end Mine

/-! part M17 -/
namespace Mine
variable {w : World} {T : Top0}
def argsOf (s : Stmt) : Arguments := match s with | .FunctionDef _ a _ _ _ _ _ _ _ _ => a | _ => default
def scopeOf (s : Stmt) : Scope := match s with | .FunctionDef _ _ _ _ _ _ sc _ _ _ => sc | _ => default
def nameOf (s : Stmt) : Str := match s with | .FunctionDef n _ _ _ _ _ _ _ _ _ => n | _ => Str.empty
def argsAt (k : Nat) : Arguments := argsOf (stAt k)
def scopeAt (k : Nat) : Scope := scopeOf (stAt k)
def nameAt (k : Nat) : Str := nameOf (stAt k)
def psAt (k : Nat) : List Str := (argsAt k).args.map (·.arg)
section
variable {Γ : Cx w T} {σ : St}
theorem genv (L f : Addr) (cd : Value) : GEnv (envOf (nameAt 6) (scopeAt 6) L f cd) :=
  ⟨by rfl, rfl, rfl, by rfl, rfl, by show (scopeAt 6).names.lookup _ = _; decide +kernel, by show (scopeAt 6).names.lookup _ = _; decide +kernel, by show (scopeAt 6).names.lookup _ = _; decide +kernel, by show (scopeAt 6).names.lookup _ = _; decide +kernel, by show (scopeAt 6).names.lookup _ = _; decide +kernel⟩
theorem eve_mono {e : Expr} {Q Q' : AV → St → Prop} (k : EvE Γ e σ Q) (h : ∀ f σ', Q f σ' → Q' f σ') : EvE Γ e σ Q' := fun s as r =>
  wpAny_mono (k s as r) (fun _ _ ⟨b, σ', as', h1, h2, h3⟩ => ⟨b, σ', as', h1, h2, h _ _ h3⟩) fun _ _ h => h
theorem it_esc {f : Addr} {cd : Value} (D : DefAt T.B f (nameAt 6) (argsAt 6) (bodyAt 6) (scopeAt 6) cd) {fp pos : Pos} {e : Expr} {Q : Nat → (Nat → SV → SV → Prop) → St → Prop} (hfz : Γ.fz = false) (hroom : 2 ≤ Γ.room)
    (hg : Γ.env.kindOf "_iter_escaped_chars" = some .globalImplicit) (hmg : T.mg "_iter_escaped_chars" = some (.ref f)) (hen : T.mg "enumerate" = none)
    (h : EvE Γ e σ (fun v σ₁ => ∃ X x, v = .sv X ∧ (∀ u, X.is u → ∃ t, u = .str x t) ∧ Ascii x ∧ Q (escOf x).length (fun i a b => ∃ p y hi, (escOf x)[i]? = some (p, y) ∧ a = .int p ∧ b = .strT y σ₁.lo hi) σ₁))
    (he : starEach (e :: []) Γ.env = (false, eval e Γ.env) :: starEach [] Γ.env := by rfl) : ItE2 Γ (.Call (.Name "_iter_escaped_chars" fp) [e] [] pos) σ Q := fun s as r => by
  obtain ⟨o, pm, doc, ho, hd, hc⟩ := D.ex
  have hu := Γ.hu
  have hdp := Γ.hd
  refine Call_ (wpAny_mono ((ev_global hg hmg (v := .con (.ref f)) (fun _ => rfl) (Q := fun v σ' => v = .con (.ref f) ∧ σ' = σ) ⟨rfl, rfl⟩ (by decide +kernel)) s as r) (fun v s₁ hv => ?_) fun _ _ h => h.elim)
  obtain ⟨va, σ₁, as₁, ha, A₁, rfl, rfl⟩ := hv
  have : v = .ref f := ha
  subst this
  have e2 : ∃ t tr, backTo pos (starEach [e] Γ.env) = (false, t) :: tr := by rw [he]; exact ⟨_, _, rfl⟩
  obtain ⟨t, tr, e2⟩ := e2
  have hL := (evl_cons (Γ := Γ) (rest := []) (Q := fun vs σ₂ => ∃ v, vs = [v] ∧ ∃ X x, v = .sv X ∧ (∀ u, X.is u → ∃ t, u = .str x t) ∧ Ascii x ∧ Q (escOf x).length (fun i a b => ∃ p y hi, (escOf x)[i]? = some (p, y) ∧ a = .int p ∧ b = .strT y σ₂.lo hi) σ₂)
    (eve_mono h fun v σ₁ hq => evl_nil ⟨v, rfl, hq⟩) he) pos s₁ as₁ A₁.rel
  rw [e2] at hL ⊢
  refine Calls.callWith_function (o := o) (fd := Calls.docDef (nameAt 6) (argsAt 6) (bodyAt 6) (scopeAt 6) pm cd doc) (Calls.evalArgs_plain (wpAny_mono hL (fun vs s₂ hvs => ?_) fun _ _ h => h.elim))
  obtain ⟨l, σ₂, as₂, hl, A₂, v, rfl, X, x, rfl, hX, hasc, hq⟩ := hvs
  obtain ⟨v, rfl, hv⟩ := area1 hl
  obtain ⟨t', rfl⟩ := hX v hv
  have A₁₂ := A₁.trans A₂
  refine ⟨⟨A₂.rel.base _ _ ho, hd⟩, wpAny_with_toks (Nat.le_refl s₂.toks) (wpAny_call (codeAny_call_generator (by omega) (A₂.rel.base _ _ ho) hd (by rfl) (by rfl) rfl (hc.keeps A₂.rel.base) ?_))⟩
  have hbind : bindArgs (Calls.docDef (nameAt 6) (argsAt 6) (bodyAt 6) (scopeAt 6) pm cd doc) ⟨[.str x t'], []⟩ = pure [(("addr" : Str), Value.str x t')] := by kernel_rfl
  rw [show ([] ++ [Value.str x t'] : List Value) = [Value.str x t'] from rfl, hbind]
  refine wpAny_pure (wpAny_newFunctionEnv (by show ∀ x ∈ (scopeAt 6).names, x.2 ≠ NameKind.cell; decide +kernel) (fun y hy => by rw [List.mem_singleton.mp hy]; show (scopeAt 6).names.lookup ("addr" : Str) = _; decide +kernel) (fun h₁ hns hsb => ?_) (by rfl))
  have keep₁ : ∀ b o, s₂.heap.get? b = some o → h₁.get? b = some o := fun b o e => hsb.extBut b o (Nat.ne_of_lt (Heap.lt_size e)) (Heap.get?_push_of_some _ e)
  have hsz₁ : h₁.objs.size = s₂.heap.objs.size + 1 := by rw [hsb.1, Heap.size_push]
  refine ⟨T.nolim.keeps fun b o e => keep₁ b o (A₂.rel.base b o e), fun htk => ?_⟩
  have hn0 : s.heap.objs.size ≤ s₂.heap.objs.size := A₁₂.size
  have hg0 : s.gens.size ≤ s₂.gens.size := A₁₂.gens.size
  have hB : T.B.objs.size ≤ s.heap.objs.size := r.bsize
  obtain ⟨s₃, hs₃⟩ : ∃ s₃ : Shared, s₃ = { s₂ with gens := s₂.gens.push (.fresh (.func (bodyAt 6) (envOf (nameAt 6) (scopeAt 6) s₂.heap.objs.size f cd))), toks := s₂.toks + 1 + 1 + 1, heap := h₁.push { cls := .type "generator", data := .fields #[.int s₂.gens.size 0, .str (nameAt 6) (s₂.toks + 1), .str (nameAt 6) (s₂.toks + 1 + 1)] } } := ⟨_, rfl⟩
  show wpAny _ _ (pyIter (.ref h₁.objs.size)) _ Never { s₂ with gens := s₂.gens.push (.fresh (.func (bodyAt 6) (envOf (nameAt 6) (scopeAt 6) s₂.heap.objs.size f cd))), toks := s₂.toks + 1 + 1 + 1, heap := h₁.push { cls := .type "generator", data := .fields #[.int s₂.gens.size 0, .str (nameAt 6) (s₂.toks + 1), .str (nameAt 6) (s₂.toks + 1 + 1)] } }
  rw [← hs₃]
  have hgen : s₃.heap.IsGen h₁.objs.size s₂.gens.size := by rw [hs₃]; exact ⟨_, _, _, Heap.get?_push_size _ rfl, rfl, rfl, rfl⟩
  have keep₃ : ∀ b o, s₂.heap.get? b = some o → s₃.heap.get? b = some o := fun b o e => by rw [hs₃]; exact Heap.get?_push_of_some _ (keep₁ b o e)
  have hgens : s₃.gens = s₂.gens.push (.fresh (.func (bodyAt 6) (envOf (nameAt 6) (scopeAt 6) s₂.heap.objs.size f cd))) := by rw [hs₃]
  have hns₃ : s₃.heap.Ns s₂.heap.objs.size (fun y => [(("addr" : Str), Value.str x t')].reverse.lookup y) := by rw [hs₃]; exact hns.push _
  have ht₃ : s₂.toks ≤ s₃.toks := by rw [hs₃]; exact Nat.le_trans (Nat.le_succ _) (Nat.le_trans (Nat.le_succ _) (Nat.le_succ _))
  have hG : Grown Γ.fz s₂ s₃ := by
    refine ⟨keep₃, ?_, fun i z hz => ?_, fun hb => ?_, by rw [hs₃], ht₃, fun q => by rw [hfz] at q; cases q⟩
    · rw [hs₃]; show _ ≤ (h₁.push _).objs.size; rw [Heap.size_push, hsz₁]; exact Nat.le_succ_of_le (Nat.le_succ _)
    · rw [hgens, Array.getElem?_push, if_neg (Nat.ne_of_lt (Array.getElem?_eq_some_iff.mp hz).1)]; exact hz
    · rw [hgens]; exact hb.push rfl
  clear hs₃
  have A₃ := A₁₂.trans (After.grown A₂.rel hG)
  refine wpAny_pyIter_gen hgen ?_
  have ha0 : s.heap.objs.size ≤ h₁.objs.size := by rw [hsz₁]; exact Nat.le_succ_of_le hn0
  have GE := genv s₂.heap.objs.size f cd
  refine ⟨h₁.objs.size, [], _, _, _, _, σ₂, as₂, rfl, src_gen (lo := σ₂.lo) (its := escOf x) Γ.hh (by omega) ha0 hg0 hB, ⟨hgen, A₃.rel.base, .fresh (.func (bodyAt 6) (envOf (nameAt 6) (scopeAt 6) s₂.heap.objs.size f cd)), by rw [hgens]; exact Array.getElem?_push_size .., fun s'' X => ⟨rfl, ?_⟩⟩, fun i v1 v2 hv => ?_, A₃, fun b hb => (by simp at hb), hq⟩
  · rw [Nat.sub_zero]
    refine seg_gen (A := Γ.A.in1) GE Γ.hh (by show Γ.A.depth + 1 < _; omega) (by show Γ.A.units + 1 + 3 < _; omega) hn0 hB hasc hen s'' ?_
    have R₃ : Rel (gCx T w (Γ.A.in1.over (.func (bodyAt 6) (envOf (nameAt 6) (scopeAt 6) s₂.heap.objs.size f cd)) []) (envOf (nameAt 6) (scopeAt 6) s₂.heap.objs.size f cd) GE.hk GE.hgl GE.hbl Γ.hh (by show Γ.A.depth + 1 < _; omega) (by show Γ.A.units + 1 + 3 < _; omega)) ⟨[("addr", .str x)], [], σ₂.lo⟩ [] s₃ := by
      refine ⟨⟨_, ⟨hns₃, A₃.rel.base, Nat.le_trans hB hn0⟩, fun y v hy => ?_⟩, rfl, fun k a o ha => by simp at ha, fun k j a ha => by simp at ha, Nat.le_trans A₂.rel.low ht₃, fun y c h => nomatch h⟩
      have hm := mem_of_look hy
      rw [List.mem_singleton] at hm
      cases hm
      exact ⟨.str x t', .loc GE.k4 (by simp), t', rfl⟩
    exact R₃.frm rfl hn0 (fun y c h => nomatch h) X
  · obtain ⟨p, y, hi, h1, h2, h3⟩ := hv
    exact ⟨.int p, .strT y σ₂.lo hi, ⟨p, y, hi, h1, rfl, rfl⟩, h2, h3⟩
end
end Mine

/-! part M18 -/
namespace Mine
variable {w : World} {T : Top0}
/-- what a call hands over: the lists that it names, renumbered -/
def ALe (sel : List Nat) : AV → AV → Prop
  | .sv x, .sv y => SLe x y
  | .obj k, .obj j => sel[j]? = some k
  | .con v, .con u => v = u
  | _, _ => False
def ALes (sel : List Nat) : List AV → List AV → Prop
  | [], [] => True
  | a :: l, b :: l' => ALe sel a b ∧ ALes sel l l'
  | _, _ => False
def HSel (σ : St) (sel : List Nat) (H' : List (List SV)) : Prop := sel.length = H'.length ∧ ∀ (j : Nat) k l, sel[j]? = some k → H'[j]? = some l → ∃ o, σ.H[k]? = some o ∧ ItsLe o.its l
def roH (H' : List (List SV)) : List AO := H'.map fun l => ⟨false, false, l⟩
theorem roH_get {H : List (List SV)} {k : Nat} {o : AO} (h : (roH H)[k]? = some o) : ∃ l, H[k]? = some l ∧ o = ⟨false, false, l⟩ := by
  unfold roH at h
  rw [List.getElem?_map] at h
  cases e : H[k]? with
  | none => rw [e] at h; cases h
  | some o' => rw [e] at h; cases h; exact ⟨o', rfl, rfl⟩
theorem ALe.is {sel : List Nat} {as : List Addr} {a b : AV} {v : Value} (h : ALe sel a b) (ha : a.is as v) : b.is (sel.map fun k => as.getD k 0) v := by
  cases a with
  | sv x => cases b with
    | sv y => exact SLe.is h ha
    | obj _ => exact h.elim
    | con _ => exact h.elim
  | obj k => cases b with
    | sv y => exact h.elim
    | obj j =>
      obtain ⟨x, hx, rfl⟩ := ha
      refine ⟨x, ?_, rfl⟩
      have h : sel[j]? = some k := h
      rw [List.getElem?_map, h]
      simp [hx]
    | con _ => exact h.elim
  | con u => cases b with
    | sv y => exact h.elim
    | obj _ => exact h.elim
    | con u' => have h : u = u' := h; subst h; exact ha
theorem ALes.are {sel : List Nat} {as : List Addr} : ∀ {l l' : List AV} {vs : List Value}, ALes sel l l' → AreA as l vs → AreA (sel.map fun k => as.getD k 0) l' vs
  | [], [], [], _, _ => trivial
  | [], [], _ :: _, _, h => h.elim
  | [], _ :: _, _, h, _ => h.elim
  | _ :: _, [], _, h, _ => h.elim
  | _ :: _, _ :: _, [], _, h => h.elim
  | _ :: _, _ :: _, _ :: _, ⟨h, r⟩, ⟨h', r'⟩ => ⟨h.is h', ALes.are r r'⟩
section
variable {Γ : Cx w T} {σ : St}
theorem enter_rel2 {Γ' : Cx w T} {args args' : List AV} {sel : List Nat} {H' : List (List SV)} {ps : List Str} {s s₁ : Shared} {as : List Addr} {vs : List Value} (r : Rel Γ σ as s) (hs : HSel σ sel H') (hA : ALes sel args args') (ha : AreA as args vs) (hg : Γ'.g = s.heap) (m : Str → Option Value) (F : Fr s.heap Γ'.env.locals s₁.heap m)
    (hl : ∀ x v, (ps.zip vs).lookup x = some v → Loads Γ'.env m s₁.heap x v) {lo : Nat} (ht : lo ≤ s₁.toks) (hcl : ∀ x c, Γ'.env.cells.lookup x = some c → ∃ v, s₁.heap.IsCell c v) : Rel Γ' ⟨ps.zip args', roH H', lo⟩ (sel.map fun k => as.getD k 0) s₁ := by
  have ha' := hA.are ha
  refine ⟨⟨m, hg ▸ F, fun x v hx => ?_⟩, by simp [roH, hs.1], fun k a o hk ho => ?_, fun k j a _ _ hO => ?_, ht, hcl⟩
  · obtain ⟨u, h1, h2⟩ := lookup_zip (R := fun b v => b.is (sel.map fun k => as.getD k 0) v) ps args' vs x v (AreA.length ha').symm (areA_get ha') hx
    exact ⟨u, hl x u h1, h2⟩
  · obtain ⟨l, h1, rfl⟩ := roH_get ho
    rw [List.getElem?_map] at hk
    cases e : sel[k]? with
    | none => rw [e] at hk; cases hk
    | some k' =>
      rw [e] at hk
      obtain ⟨o', h2, h3⟩ := hs.2 k k' l e h1
      have hlt : k' < as.length := by rw [r.len]; exact (List.getElem?_eq_some_iff.mp h2).1
      have hak : as[k']? = some a := by
        simp at hk
        rw [← hk]; simp [hlt]
      obtain ⟨us, ⟨o₁, q1, q2⟩, h4, _⟩ := r.objs k' a o' hak h2
      exact ⟨us, ⟨o₁, F.keep _ _ q1, q2⟩, h3.are h4, (fun q => nomatch q), fun q => nomatch q⟩
  · obtain ⟨o, h1, h2⟩ := hO
    obtain ⟨o', _, rfl⟩ := roH_get h1
    cases h2
theorem not_own_ro {l : List (Str × AV)} {H' : List (List SV)} {lo : Nat} : ∀ k, ¬ Own ⟨l, roH H', lo⟩ k := fun k ⟨o, h1, h2⟩ => by
  obtain ⟨o', _, rfl⟩ := roH_get h1
  cases h2
theorem callok_def2 {f : Addr} {args args' : List AV} {sel : List Nat} {H' : List (List SV)} {P : RV → Prop} {name : Str} {params : Arguments} {body : List Stmt} {scope : Scope} {cd : Value} (D : DefAt T.B f name params body scope cd) (hs : HSel σ sel H') (hA : ALes sel args args') (ps : List Str) (hroom : 1 ≤ Γ.room)
    (hbind : ∀ pm doc vs, vs.length = args.length → bindArgs (Calls.docDef name params body scope pm cd doc) ⟨vs, []⟩ = pure (ps.zip vs))
    (hps : ps.Nodup) (hloc : ∀ p ∈ ps, scope.names.lookup p = some .local)
    (hk : scope.kind = .function) (hco : scope.isCoroutine = false) (hgen : scope.isGenerator = false) (hcell : ∀ x ∈ scope.names, x.2 ≠ .cell)
    (h : ∀ (Γ' : Cx w T) L, Γ'.env = envOf name scope L f cd → Γ'.room = Γ.room - 1 → Γ'.fz = false → ExS Γ' body ⟨ps.zip args', roH H', σ.lo⟩ (RetOk P)) : CallOk Γ f args σ P := fun s as vs r ha => by
  obtain ⟨o, pm, doc, ho, hd, hc⟩ := D.ex
  have hnd : ((ps.zip vs).map (·.1)).Nodup := (zip_fst ps vs).resolve_right fun q => q hps
  have hlen := AreA.length ha
  have hu := Γ.hu
  have hdp := Γ.hd
  refine wpAny_call (call_plain_ret (binds := ps.zip vs) (by omega) (r.base _ _ ho) hd (T.nolim.keeps r.base) (hc.keeps r.base) (hbind pm doc vs hlen) (fun x hx => hloc _ (List.of_mem_zip (a := x.1) (b := x.2) hx).1) (fun h₁ F => ?_) hco hgen hk hcell)
  let Γ' : Cx w T := { A := Γ.A.deeper (envOf name scope s.heap.objs.size f cd), g := s.heap, env := envOf name scope s.heap.objs.size f cd, room := Γ.room - 1, fz := false, hk := hk, hgl := rfl, hbl := rfl, hh := Γ.hh, hg := r.base, hgs := r.bsize, hd := by show Γ.A.depth + 1 + _ < _; omega, hu := by show Γ.A.units + 3 + _ < _; omega }
  have hr : Rel Γ' ⟨ps.zip args', roH H', σ.lo⟩ (sel.map fun k => as.getD k 0) { s with heap := h₁, toks := s.toks + (ps.zip vs).length } := by
    refine enter_rel2 r hs hA ha rfl _ F (fun x v hx => ?_) (Nat.le_trans r.low (Nat.le_add_right _ _)) (fun x c h => nomatch h)
    have hm := mem_of_look hx
    exact .loc (hloc x (List.of_mem_zip hm).1) (by rw [lookup_reverse _ hnd]; exact hx)
  refine wpAny_mono (h Γ' s.heap.objs.size rfl rfl rfl _ _ hr) (fun f s' hf => ?_) fun _ _ h => h.elim
  have G : Grown false s { s with heap := h₁, toks := s.toks + (ps.zip vs).length } := Grown.heap F.keep (Nat.le_of_lt F.ns.lt) (Nat.le_add_right _ _)
  have X := leave_ok (Γ' := Γ') rfl not_own_ro G hf
  · cases f <;> exact X
theorem callok_cells2 {f : Addr} {args args' : List AV} {sel : List Nat} {H' : List (List SV)} {P : RV → Prop} {name : Str} {params : Arguments} {body : List Stmt} {scope : Scope} {cd : Value} (D : DefAt T.B f name params body scope cd) (hs : HSel σ sel H') (hA : ALes sel args args') (ps : List Str) (hroom : 1 ≤ Γ.room)
    (hbind : ∀ pm doc vs, vs.length = args.length → bindArgs (Calls.docDef name params body scope pm cd doc) ⟨vs, []⟩ = pure (ps.zip vs))
    (hps : ps.Nodup) (hloc : ∀ p ∈ ps, scope.names.lookup p = some .local ∨ (scope.names.lookup p = some .cell ∧ ∀ L, ((cellsFrom (L + 1) scope.names []).lookup p).isSome = true))
    (hk : scope.kind = .function) (hco : scope.isCoroutine = false) (hgen : scope.isGenerator = false)
    (h : ∀ (Γ' : Cx w T) L pm doc, Γ'.env = callEnvC (Calls.docDef name params body scope pm cd doc) L f → Γ'.room = Γ.room - 1 → Γ'.fz = false → ExS Γ' body ⟨ps.zip args', roH H', 0⟩ (RetOk P)) : CallOk Γ f args σ P := fun s as vs r ha => by
  obtain ⟨o, pm, doc, ho, hd, hc⟩ := D.ex
  have hnd : ((ps.zip vs).map (·.1)).Nodup := (zip_fst ps vs).resolve_right fun q => q hps
  have hlen := AreA.length ha
  have hu := Γ.hu
  have hdp := Γ.hd
  refine wpAny_with_toks (Nat.le_refl s.toks) (wpAny_call (codeAny_call_cells (binds := ps.zip vs) (by omega) (r.base _ _ ho) hd (T.nolim.keeps r.base) (hc.keeps r.base) rfl (hbind pm doc vs hlen) rfl (fun x hx => ?_) (fun s₁ IC => ?_) hco hgen hk))
  · rcases hloc x.1 (List.of_mem_zip (a := x.1) (b := x.2) hx).1 with q | ⟨q1, q2⟩
    · exact .inl q
    · exact .inr ⟨q1, q2 _⟩
  let fd := Calls.docDef name params body scope pm cd doc
  let env := callEnvC fd s.heap.objs.size f
  let Γ' : Cx w T := { A := Γ.A.deeper env, g := s.heap, env := env, room := Γ.room - 1, fz := false, hk := hk, hgl := rfl, hbl := rfl, hh := Γ.hh, hg := r.base, hgs := r.bsize, hd := by show Γ.A.depth + 1 + _ < _; omega, hu := by show Γ.A.units + 3 + _ < _; omega }
  have F : Fr s.heap env.locals s₁.heap (bindL env.kindOf (ps.zip vs) fun _ => none) := ⟨IC.toInCall.ns, IC.toInCall.keep, IC.toInCall.fresh⟩
  obtain ⟨h₁, tk₁, rfl⟩ := IC.toInCall.same
  have hr : Rel Γ' ⟨ps.zip args', roH H', 0⟩ (sel.map fun k => as.getD k 0) { s with heap := h₁, toks := tk₁ } := by
    refine enter_rel2 r hs hA ha rfl _ F (fun x v hx => ?_) (Nat.zero_le _) (fun x c h => ⟨_, IC.cell x c h⟩)
    have hm := mem_of_look hx
    rcases hloc x (List.of_mem_zip hm).1 with q | ⟨q1, q2⟩
    · exact .loc q (by rw [bindL_get _ _ _ _ hnd q, hx]; rfl)
    · obtain ⟨c, hc⟩ := Option.isSome_iff_exists.mp (q2 s.heap.objs.size)
      have hcell := IC.cell x c hc
      rw [bindC_get _ _ _ _ hnd (by rw [show env.kindOf x = scope.names.lookup x from rfl, q1]; decide), hx] at hcell
      exact .cell c q1 hc hcell
  refine wpAny_mono (h Γ' s.heap.objs.size pm doc rfl rfl rfl _ _ hr) (fun f s' hf => ?_) fun _ _ h => h.elim
  have hO : ∀ k, ¬ Own ⟨ps.zip args', roH H', 0⟩ k := not_own_ro
  obtain ⟨b, σ₂, as₂, hb, A, hr⟩ := hf
  have G' : s.toks ≤ s'.toks → Grown false s s' := fun ht => by
    refine ⟨fun b o e => A.kept b o (Nat.ne_of_lt (Heap.lt_size e)) (fun k hk => (hO k hk).elim) (F.keep b o e), Nat.le_trans (Nat.le_of_lt F.ns.lt) A.size, A.gens, A.bare, A.os, ht, fun q => nomatch q⟩
  cases b with
  | next => exact hr.elim
  | brk => exact hr.elim
  | cont => exact hr.elim
  | ret v =>
    obtain ⟨u, rfl, hu⟩ := hb
    intro ht
    cases v with
    | con w => exact hr.elim
    | sv x => exact ⟨.val x, hu, G' ht, hr⟩
    | obj k =>
      obtain ⟨o, ho, hown, hp⟩ := hr
      obtain ⟨a, ha, rfl⟩ := hu
      obtain ⟨vs, hl, hi, _⟩ := A.rel.objs k a o ha ho
      refine ⟨.lst o.its, ⟨a, vs, rfl, ?_, hl, hi⟩, G' ht, hp⟩
      rcases A.own k a ha ⟨o, ho, hown⟩ with ⟨_, q⟩ | q
      · exact (hO k q).elim
      · cases e : s.heap.get? a with
        | none => rfl
        | some o' =>
          have e2 : h₁.get? a = some o' := F.keep a o' e
          rw [show h₁.get? a = none from q] at e2; cases e2
end
/-! the program's defs -/
def defIdx : List Nat := [1, 2, 3, 4, 6, 7, 8, 9, 62, 63, 65, 66, 67, 68, 69, 70, 71, 72, 73, 74, 75]
structure Prg (T : Top0) where
  addr : Nat → Addr
  cdv : Nat → Value
  defs : ∀ k ∈ defIdx, DefAt T.B (addr k) (nameAt k) (argsAt k) (bodyAt k) (scopeAt k) (cdv k)
  glob : ∀ k ∈ defIdx, T.mg (nameAt k) = some (.ref (addr k))
  nt : ∃ t, T.mg "NT_OFFSET" = some (.int 256 t)
  em : ∃ t, T.mg "ENDMARKER" = some (.int 0 t)
  bi : ∀ x ∈ (["len", "range", "enumerate", "sum", "min"] : List Str), T.mg x = none
/-- a frame of the def at a place -/
structure FC (pr : Prg T) (Γ : Cx w T) (k room : Nat) : Prop where
  kd : ∀ x, Γ.env.kindOf x = (scopeAt k).names.lookup x
  fz : Γ.fz = false
  room : room ≤ Γ.room
theorem FC.knd {pr : Prg T} {Γ : Cx w T} {k n : Nat} (h : FC pr Γ k n) {x : Str} {r : Option NameKind} (e : (scopeAt k).names.lookup x = r) : Γ.env.kindOf x = r := (h.kd x).trans e
section
variable {Γ : Cx w T} {σ : St}
theorem fn_def (pr : Prg T) {args args' : List AV} {P : RV → Prop} (k : Nat) (sel : List Nat) (H' : List (List SV)) (n : Nat) (hk : k ∈ defIdx) (hs : HSel σ sel H') (hA : ALes sel args args') (hroom : n + 1 ≤ Γ.room)
    (hbind : ∀ pm doc vs, vs.length = args.length → bindArgs (Calls.docDef (nameAt k) (argsAt k) (bodyAt k) (scopeAt k) pm (pr.cdv k) doc) ⟨vs, []⟩ = pure ((psAt k).zip vs))
    (hst : ((psAt k).Nodup ∧ (∀ p ∈ psAt k, (scopeAt k).names.lookup p = some .local)) ∧ (scopeAt k).kind = .function ∧ (scopeAt k).isCoroutine = false ∧ (scopeAt k).isGenerator = false ∧ ∀ x ∈ (scopeAt k).names, x.2 ≠ .cell)
    (h : ∀ (Γ' : Cx w T), FC pr Γ' k n → ExS Γ' (bodyAt k) ⟨(psAt k).zip args', roH H', σ.lo⟩ (RetOk P)) : CallOk Γ (pr.addr k) args σ P :=
  callok_def2 (pr.defs k hk) hs hA (psAt k) (by omega) hbind hst.1.1 hst.1.2 hst.2.1 hst.2.2.1 hst.2.2.2.1 hst.2.2.2.2 fun Γ' L hE hR hF => h Γ' ⟨fun x => by rw [hE]; rfl, hF, by omega⟩
theorem fn_call (pr : Prg T) (k : Nat) {f : Str} {fp pos : Pos} {e : Expr} {rest : List Expr} {Q : AV → St → Prop} (hfz : Γ.fz = false) (hk : k ∈ defIdx) (hn : nameAt k = f) (hg : Γ.env.kindOf f = some .globalImplicit)
    (h : EvL Γ (e :: rest) σ (fun vs σ₂ => ∃ P, CallOk Γ (pr.addr k) vs σ₂ P ∧ ∀ r, P r → backQ Q σ₂ r))
    (he : starEach (e :: rest) Γ.env = (false, eval e Γ.env) :: starEach rest Γ.env := by rfl) (hd : (f == ("__debug__" : Str)) = false := by decide +kernel) : EvE Γ (.Call (.Name f fp) (e :: rest) [] pos) σ Q := by
  obtain ⟨o, pm, doc, ho, hdt, _⟩ := (pr.defs k hk).ex
  refine ev_fcall ho hdt (ev_global hg (hn ▸ pr.glob k hk) (v := .con (.ref (pr.addr k))) (fun _ => rfl) ⟨rfl, fun pos s as r => ?_⟩ hd) he
  exact wpAny_mono (h pos s as r) (fun vs s' ⟨l, σ', as', h1, h2, P, h3, h4⟩ => ⟨l, σ', as', h1, h2, ol_def hfz h3 h4⟩) fun _ _ h => h
end
end Mine

namespace Mine
variable {w : World} {T : Top0}
/-! part M19 -/
section
variable {Γ : Cx w T} {σ : St}
theorem o_isstr {x y : Str} {a b l u : Nat} {Q : AV → St → Prop} (ha : 1 ≤ a) (hbl : b ≤ l) (h : ∀ c, (c = true → x = y) → Q (.bool c) σ) : Op2 Γ AV.is (compareOp .Is) (.sv (.strT x a b)) (.sv (.strT y l u)) σ Q := by
  rintro s as _ _ r ⟨t, rfl, h1, h2⟩ ⟨v, rfl, h3, h4⟩
  have hb : NoneBooked s.heap := let ⟨mc, hn, hk⟩ := T.nb; ⟨mc, hn.keeps r.base, hk⟩
  have h0 : (t == 0 || v == 0) = false := by
    rw [Bool.or_eq_false_iff]
    exact ⟨beq_eq_false_iff_ne.mpr (Nat.ne_of_gt (Nat.le_trans ha h1)), beq_eq_false_iff_ne.mpr (Nat.ne_of_gt (Nat.le_trans ha (Nat.le_trans (Nat.le_of_lt (Nat.lt_of_le_of_lt h1 h2)) (Nat.le_trans hbl h3))))⟩
  have htv : (t == v) = false := beq_eq_false_iff_ne.mpr (Nat.ne_of_lt (Nat.lt_of_lt_of_le h2 (Nat.le_trans hbl h3)))
  have fin : ∀ c, (c = true → x = y) → wpAny (M w) Γ.A (pure (.bool c) : Sem Value) (Post Γ σ as s AV.is Q) Never s := fun c hc => wpAny_pure ⟨.bool c, σ, as, rfl, .refl r, h c hc⟩
  show wpAny _ _ (do return Value.bool (← isSame (.str x t) (.str y v))) _ _ _
  refine wpAny_bind ?_
  show wpAny _ _ (isSame.created (x == y) t v) _ _ _
  unfold isSame.created
  refine wpAny_ite ?_
  rw [h0]
  simp only [Bool.false_eq_true, if_false]
  refine wpAny_ite ?_
  rw [htv]
  simp only [Bool.false_eq_true, if_false]
  refine wpAny_ite ?_
  split
  · exact wpAny_pure (fin _ fun q => nomatch q)
  · rename_i he
    have hxy : x = y := by simpa using he
    refine wpAny_bind (wpAny_sharingNotTold_none hb ?_)
    simp only [Bool.false_eq_true, if_false]
    refine wpAny_bind (wpAny_sharingNotTold_none hb ?_)
    simp only [Bool.false_eq_true, if_false]
    exact wpAny_bind (wpAny_rule (wpAny_bind (wpAny_askSetting (wpAny_pure (fin _ fun _ => hxy)))))
theorem ev_gint {x : Str} {pos : Pos} {i : Int} {Q : AV → St → Prop} (hx : Γ.env.kindOf x = some .globalImplicit) (hg : ∃ t, T.mg x = some (.int i t)) (h : Q (.int i) σ) (hd : (x == ("__debug__" : Str)) = false := by decide +kernel) : EvE Γ (.Name x pos) σ Q := fun s as r => by
  obtain ⟨t, ht⟩ := hg
  exact wpAny_mono ((ev_global (Γ := Γ) (σ := σ) (pos := pos) hx ht (v := .con (.int i t)) (fun _ => rfl) (Q := fun v σ' => v = .con (.int i t) ∧ σ' = σ) ⟨rfl, rfl⟩ hd) s as r)
    (fun v s' ⟨b, σ', as', h1, h2, h3, h4⟩ => ⟨.int i, σ', as', by subst h3; exact ⟨t, h1⟩, h2, by subst h4; exact h⟩) fun _ _ h => h
end
local macro_rules | `(tactic| walk_at "e") => `(tactic| first
  | ((with_reducible show EvE _ (PySem.Expr.Constant (PySem.Const.int _) _ _) _ _); refine ev_int ?_)
  | ((with_reducible show EvE _ (PySem.Expr.Constant (PySem.Const.str _) _ _) _ _); refine ev_str ?_)
  | ((with_reducible show EvE _ (PySem.Expr.Constant (PySem.Const.bool _) _ _) _ _); refine ev_bool ?_)
  | ((with_reducible show EvE _ (PySem.Expr.Constant PySem.Const.none _ _) _ _); refine ev_none ?_)
  | ((with_reducible show EvE _ (PySem.Expr.BinOp _ _ _ _) _ _); refine ev_bin ?_)
  | ((with_reducible show EvE _ (PySem.Expr.UnaryOp _ _ _) _ _); refine ev_un ?_)
  | ((with_reducible show EvE _ (PySem.Expr.Name _ _) _ _); refine ev_name rfl ?_ (by decide +kernel))
  | ((with_reducible show EvE _ (PySem.Expr.Compare _ _ _ _) _ _); refine ev_cmp ?_)
  | ((with_reducible show EvL _ [] _ _); refine evl_nil ?_)
  | ((with_reducible show EvL _ _ _ _); refine evl_cons ?_)
  | ((with_reducible show EvB _ (PySem.Expr.Compare _ _ _ _) _ _); refine evb_cmp ?_)
  | ((with_reducible show EvB _ (PySem.Expr.UnaryOp PySem.UnaryOp.Not _ _) _ _); refine evb_not ?_)
  | ((with_reducible show EvB _ (PySem.Expr.BoolOp _ _ _) _ _); refine evb_bool ?_)
  | ((with_reducible show EvB _ (PySem.Expr.Name _ _) _ _); refine evb_val ?_)
  | ((with_reducible show EvB _ (PySem.Expr.Call _ _ _ _) _ _); refine evb_val ?_)
  | ((with_reducible show EvT _ _ [] _ _); refine evt_nil ?_)
  | ((with_reducible show EvT _ PySem.BoolOp.Or _ _ _); refine evt_or ?_)
  | ((with_reducible show EvT _ PySem.BoolOp.And _ _ _); refine evt_and ?_)
  | ((with_reducible show ExS _ [] _ _); refine exs_nil ?_)
  | ((with_reducible show ExC _ (PySem.Stmt.If _ _ _ _) _ _); refine ex_if ?_)
  | ((with_reducible show ExC _ (PySem.Stmt.Return _ _) _ _); refine ex_ret ?_)
  | ((with_reducible show ExC _ (PySem.Stmt.Break _) _ _); refine ex_break ?_)
  | ((with_reducible show ExC _ (PySem.Stmt.Assign [PySem.Expr.Name _ _] _ _) _ _); refine ex_assign (FC.fz (by assumption)) (FC.knd (by assumption) (by decide +kernel)) ?_)
  | ((with_reducible show ExC _ (PySem.Stmt.AugAssign (PySem.Expr.Name _ _) _ _ _) _ _); refine ex_aug (FC.fz (by assumption)) (FC.knd (by assumption) (by decide +kernel)) rfl ?_)
  | ((with_reducible show Op1 _ _ truthy (AV.sv (SV.bool _)) _ _); refine truthy_b ?_)
  | ((with_reducible show Op1 _ _ (unaryOp PySem.UnaryOp.Invert) _ _ _); refine o_inv ?_)
  | ((with_reducible show Op1 _ _ (unaryOp PySem.UnaryOp.USub) _ _ _); refine o_neg ?_)
  | ((with_reducible show Op2 _ _ (binaryOp PySem.Operator.Add) (AV.sv (SV.int _)) (AV.sv (SV.int _)) _ _); refine o_add ?_)
  | ((with_reducible show Op2 _ _ (binaryOp PySem.Operator.Sub) (AV.sv (SV.int _)) (AV.sv (SV.int _)) _ _); refine o_sub ?_)
  | ((with_reducible show Op2 _ _ (binaryOp PySem.Operator.Mod) (AV.sv (SV.int _)) (AV.sv (SV.int _)) _ _); refine o_mod (by decide) ?_)
  | ((with_reducible show Op2 _ _ (binaryOp PySem.Operator.FloorDiv) (AV.sv (SV.int _)) (AV.sv (SV.int _)) _ _); refine o_div (by decide) ?_ (PyProof.noPylong_small (by decide)))
  | ((with_reducible show Op2 _ _ (inplaceOp PySem.Operator.Add) (AV.sv (SV.int _)) (AV.sv (SV.int _)) _ _); refine o_iadd ?_)
  | ((with_reducible show Op2 _ _ (inplaceOp PySem.Operator.Sub) (AV.sv (SV.int _)) (AV.sv (SV.int _)) _ _); refine o_isub ?_)
  | ((with_reducible show Op2 _ _ (compareOp PySem.CmpOp.Eq) (AV.sv (SV.int _)) (AV.sv (SV.int _)) _ _); refine o_eq ?_)
  | ((with_reducible show Op2 _ _ (compareOp PySem.CmpOp.NotEq) (AV.sv (SV.int _)) (AV.sv (SV.int _)) _ _); refine o_ne ?_)
  | ((with_reducible show Op2 _ _ (compareOp PySem.CmpOp.Lt) (AV.sv (SV.int _)) (AV.sv (SV.int _)) _ _); refine o_lt ?_)
  | ((with_reducible show Op2 _ _ (compareOp PySem.CmpOp.Gt) (AV.sv (SV.int _)) (AV.sv (SV.int _)) _ _); refine o_gt ?_)
  | ((with_reducible show Op2 _ _ (compareOp PySem.CmpOp.GtE) (AV.sv (SV.int _)) (AV.sv (SV.int _)) _ _); refine o_ge ?_)
  | ((with_reducible show Op2 _ _ (compareOp PySem.CmpOp.Eq) (AV.sv (SV.str _)) (AV.sv (SV.str _)) _ _); refine o_eqs ?_)
  | ((with_reducible show Op2 _ _ (compareOp PySem.CmpOp.Eq) (AV.sv (SV.strT _ _ _)) (AV.sv (SV.str _)) _ _); refine o_eqs' strT_is str_is ?_)
  | ((with_reducible show Op2 _ _ (compareOp PySem.CmpOp.Eq) (AV.sv (SV.strT _ _ _)) (AV.sv (SV.strT _ _ _)) _ _); refine o_eqs' strT_is strT_is ?_))
theorem len1 {vs : List Value} (h : vs.length = 1) : ∃ a, vs = [a] := by
  match vs, h with | [a], _ => exact ⟨a, rfl⟩
theorem len2 {vs : List Value} (h : vs.length = 2) : ∃ a b, vs = [a, b] := by
  match vs, h with | [a, b], _ => exact ⟨a, b, rfl⟩
theorem len3 {vs : List Value} (h : vs.length = 3) : ∃ a b c, vs = [a, b, c] := by
  match vs, h with | [a, b, c], _ => exact ⟨a, b, c, rfl⟩
section
variable {Γ : Cx w T} {σ : St} (pr : Prg T)
theorem c_add (hr : 1 ≤ Γ.room) (a b : Int) : CallOk Γ (pr.addr 1) [.int a, .int b] σ (fun r => r = .val (.int (a + b))) := by
  refine fn_def pr (args' := [.int a, .int b]) 1 [] [] 0 (by decide) ⟨rfl, fun j k l h => by simp at h⟩ ⟨.inl rfl, .inl rfl, trivial⟩ hr (fun pm doc vs h => by obtain ⟨x, y, rfl⟩ := len2 h; kernel_rfl) (by decide +kernel) fun Γ' F => ?_
  refine exs_cons ?_
  repeat walk_at "e"
  exact rfl
theorem c_inv (hr : 1 ≤ Γ.room) (a : Int) : CallOk Γ (pr.addr 2) [.int a] σ (fun r => r = .val (.int (-a - 1))) := by
  refine fn_def pr (args' := [.int a]) 2 [] [] 0 (by decide) ⟨rfl, fun j k l h => by simp at h⟩ ⟨.inl rfl, trivial⟩ hr (fun pm doc vs h => by obtain ⟨x, rfl⟩ := len1 h; kernel_rfl) (by decide +kernel) fun Γ' F => ?_
  refine exs_cons ?_
  repeat walk_at "e"
  exact rfl
theorem c_sub (hr : 1 ≤ Γ.room) (a b : Int) : CallOk Γ (pr.addr 3) [.int a, .int b] σ (fun r => r = .val (.int (a - b))) := by
  refine fn_def pr (args' := [.int a, .int b]) 3 [] [] 0 (by decide) ⟨rfl, fun j k l h => by simp at h⟩ ⟨.inl rfl, .inl rfl, trivial⟩ hr (fun pm doc vs h => by obtain ⟨x, y, rfl⟩ := len2 h; kernel_rfl) (by decide +kernel) fun Γ' F => ?_
  refine exs_cons ?_
  repeat walk_at "e"
  exact rfl
theorem c_isnt (hr : 1 ≤ Γ.room) (a : Int) : CallOk Γ (pr.addr 62) [.int a] σ (fun r => r = .val (.bool (decide (a ≥ 256)))) := by
  refine fn_def pr (args' := [.int a]) 62 [] [] 0 (by decide) ⟨rfl, fun j k l h => by simp at h⟩ ⟨.inl rfl, trivial⟩ hr (fun pm doc vs h => by obtain ⟨x, rfl⟩ := len1 h; kernel_rfl) (by decide +kernel) fun Γ' F => ?_
  refine exs_cons ?_
  repeat walk_at "e"
  refine ev_gint (F.knd (by decide +kernel)) pr.nt ?_
  repeat walk_at "e"
  exact rfl
theorem c_iseof (hr : 1 ≤ Γ.room) (a : Int) : CallOk Γ (pr.addr 63) [.int a] σ (fun r => r = .val (.bool (a == 0))) := by
  refine fn_def pr (args' := [.int a]) 63 [] [] 0 (by decide) ⟨rfl, fun j k l h => by simp at h⟩ ⟨.inl rfl, trivial⟩ hr (fun pm doc vs h => by obtain ⟨x, rfl⟩ := len1 h; kernel_rfl) (by decide +kernel) fun Γ' F => ?_
  refine exs_cons ?_
  repeat walk_at "e"
  refine ev_gint (F.knd (by decide +kernel)) pr.em ?_
  repeat walk_at "e"
  exact rfl
end

/-! part M20 -/
def aheadS (n : Int) : Str := if (n.fdiv 2).fmod 3 = 0 then "" else if (n.fdiv 2).fmod 3 = 1 then "\")\"" else "\"(\\\"\""
def joinS (l r : Str) (n : Int) : Str := if n.fmod 2 = 0 then aheadS n ++ "(~" ++ l ++ "-" ++ r ++ ")" else aheadS n ++ "~(" ++ l ++ "+" ++ r ++ ")"
theorem aheadS_len (n : Int) : (aheadS n).length ≤ 5 := by
  unfold aheadS; split
  · decide +kernel
  · split <;> decide +kernel
theorem fmod3 (a : Int) : 0 ≤ a.fmod 3 ∧ a.fmod 3 < 3 := ⟨Int.fmod_nonneg_of_pos a (by decide), Int.fmod_lt_of_pos a (by decide)⟩
section
variable {Γ : Cx w T} {σ : St} (pr : Prg T)
theorem c_joined (hr : 1 ≤ Γ.room) (x y : Str) (n : Int) (hx : x.length ≤ 10000) (hy : y.length ≤ 10000) : CallOk Γ (pr.addr 66) [.str x, .str y, .int n] σ (fun r => r = .val (.str (joinS x y n))) := by
  refine fn_def pr (args' := [.str x, .str y, .int n]) 66 [] [] 0 (by decide) ⟨rfl, fun j k l h => by simp at h⟩ ⟨.inl rfl, .inl rfl, .inl rfl, trivial⟩ hr (fun pm doc vs h => by obtain ⟨x, y, z, rfl⟩ := len3 h; kernel_rfl) (by decide +kernel) fun Γ' F => ?_
  refine exs_cons ?_
  walk_at "e"
  refine ev_index (ev_list ?_)
  repeat walk_at "e"
  refine ⟨[.str _, .str _, .str _], rfl, (by show 3 ≤ sizeLine; decide), ?_⟩
  repeat walk_at "e"
  refine ⟨_, _, _, .str (aheadS n), rfl, rfl, rfl, (fmod3 _).1, Int.lt_trans (fmod3 _).2 (by decide), ?_, ?_⟩
  · have h := fmod3 (n.fdiv 2)
    unfold aheadS
    rcases (by omega : (n.fdiv 2).fmod 3 = 0 ∨ (n.fdiv 2).fmod 3 = 1 ∨ (n.fdiv 2).fmod 3 = 2) with h | h | h <;> rw [h] <;> rfl
  refine exs_cons ?_
  repeat walk_at "e"
  have e1 : ("(~" : Str).length = 2 := by decide +kernel
  have e2 : ("-" : Str).length = 1 := by decide +kernel
  have e3 : (")" : Str).length = 1 := by decide +kernel
  have e4 : ("~(" : Str).length = 2 := by decide +kernel
  have e5 : ("+" : Str).length = 1 := by decide +kernel
  have e6 := aheadS_len n
  have e7 : 50000 ≤ sizeLine := by decide
  refine ⟨_, rfl, ?_⟩
  split
  · rename_i hc
    have hc : n.fmod 2 = 0 := by simpa using hc
    refine exs_cons ?_
    repeat (first | walk_at "e" | refine o_adds ?_ (by simp only [Str.length_append, e1, e2, e3, e4, e5]; omega))
    show _ = _
    unfold joinS
    rw [if_pos hc]
  · rename_i hc
    have hc : ¬ n.fmod 2 = 0 := by simpa using hc
    refine exs_nil ?_
    refine exs_cons ?_
    repeat (first | walk_at "e" | refine o_adds ?_ (by simp only [Str.length_append, e1, e2, e3, e4, e5]; omega))
    show _ = _
    unfold joinS
    rw [if_neg hc]
end

/-! part M21 -/
local macro_rules | `(tactic| walk_at "e") => `(tactic| first
  | ((with_reducible show EvE _ (PySem.Expr.Call (PySem.Expr.Name "len" _) _ _ _) _ _); refine ev_bcall (ev_builtin (FC.knd (by assumption) (by decide +kernel)) (Prg.bi (by assumption) _ (by decide)) (by rfl) ⟨rfl, ?_⟩))
  | ((with_reducible show EvE _ (PySem.Expr.Call (PySem.Expr.Name "sum" _) _ _ _) _ _); refine ev_bcall (ev_builtin (FC.knd (by assumption) (by decide +kernel)) (Prg.bi (by assumption) _ (by decide)) (by rfl) ⟨rfl, ?_⟩))
  | ((with_reducible show EvE _ (PySem.Expr.Call (PySem.Expr.Name "min" _) _ _ _) _ _); refine ev_bcall (ev_builtin (FC.knd (by assumption) (by decide +kernel)) (Prg.bi (by assumption) _ (by decide)) (by rfl) ⟨rfl, ?_⟩))
  | ((with_reducible show ItE _ (PySem.Expr.Call (PySem.Expr.Name "range" _) [_] _ _) _ _); refine it_range1 (ev_builtin (FC.knd (by assumption) (by decide +kernel)) (Prg.bi (by assumption) _ (by decide)) (by rfl) ⟨rfl, ?_⟩))
  | ((with_reducible show ItE _ (PySem.Expr.Call (PySem.Expr.Name "range" _) [_, _] _ _) _ _); refine it_range2 (ev_builtin (FC.knd (by assumption) (by decide +kernel)) (Prg.bi (by assumption) _ (by decide)) (by rfl) ⟨rfl, ?_⟩))
  | ((with_reducible show ItE _ (PySem.Expr.Name _ _) _ _); refine it_list ?_)
  | ((with_reducible show ItE2 _ (PySem.Expr.Call (PySem.Expr.Name "enumerate" _) [_] _ _) _ _); refine it_enum (ev_builtin (FC.knd (by assumption) (by decide +kernel)) (Prg.bi (by assumption) _ (by decide)) (by rfl) ⟨rfl, ?_⟩))
  | ((with_reducible show ExC _ (PySem.Stmt.For (PySem.Expr.Name _ _) _ _ _ _) _ _); refine ex_for (FC.fz (by assumption)) (FC.knd (by assumption) (by decide +kernel)) ?_)
  | ((with_reducible show ExC _ (PySem.Stmt.For (PySem.Expr.Tuple _ _ _) _ _ _ _) _ _); refine ex_for2 (FC.fz (by assumption)) (FC.knd (by assumption) (by decide +kernel)) (FC.knd (by assumption) (by decide +kernel)) ?_)
  | ((with_reducible show ExC _ (PySem.Stmt.AugAssign (PySem.Expr.Subscript _ _ _) _ _ _) _ _); refine ex_augsub (FC.fz (by assumption)) ?_)
  | ((with_reducible show ExC _ (PySem.Stmt.Expr _ _) _ _); refine ex_expr ?_)
  | ((with_reducible show EvE _ (PySem.Expr.Call (PySem.Expr.Attribute _ "append" _) _ _ _) _ _); refine ev_append (FC.fz (by assumption)) ?_)
  | ((with_reducible show EvE _ (PySem.Expr.Call (PySem.Expr.Attribute _ "pop" _) _ _ _) _ _); refine ev_pop (FC.fz (by assumption)) ?_)
  | ((with_reducible show EvE _ (PySem.Expr.Call (PySem.Expr.Attribute _ "count" _) _ _ _) _ _); refine ev_count ?_)
  | ((with_reducible show OpL _ (fun _ => call (PySem.Value.builtin "len") _) [AV.obj _] _ _); refine ol_len rfl ?_ ?_)
  | ((with_reducible show OpL _ (fun _ => call (PySem.Value.builtin "len") _) [AV.sv (SV.str _)] _ _); refine ol_slen ?_ ?_))
local macro_rules | `(tactic| walk_at "le") => `(tactic| exact StLe.of (by repeat (first | exact trivial | refine And.intro rfl ?_)) (by repeat (first | exact trivial | refine And.intro (And.intro (by first | exact id | exact fun _ => rfl | exact fun h => nomatch h) (And.intro (by first | exact id | exact fun _ => rfl | exact fun h => nomatch h) (Or.inl (by first | rfl | simp)))) ?_)) (by first | exact Nat.le_refl _ | exact Nat.zero_le _ | omega))
theorem intsL_get {a : Int} {n i : Nat} {v : SV} (h : (intsL a n)[i]? = some v) : v = .int (a + i) ∧ i < n := by
  unfold intsL at h
  rw [List.getElem?_map] at h
  rcases Nat.lt_or_ge i n with q | q
  · rw [List.getElem?_range q] at h
    cases h; exact ⟨rfl, q⟩
  · rw [List.getElem?_eq_none (by simpa using q)] at h; cases h
theorem intsL_len (a : Int) (n : Nat) : (intsL a n).length = n := by simp [intsL]
theorem map_get {ws : List Int} {n : Nat} (h : n < ws.length) : (ws.map SV.int)[n]? = some (.int ws[n]) := by simp [h]
section
variable {Γ : Cx w T} {σ : St} (pr : Prg T)
theorem c_worths (hr : 1 ≤ Γ.room) (ns : List Int) (hn : ns.length ≤ 60) {k : Nat} {o : AO} (ho : σ.H[k]? = some o) (hi : o.its = ns.map .int) :
    CallOk Γ (pr.addr 65) [.obj k] σ (fun r => ∃ ws : List Int, ws.length = 8 ∧ (∀ w ∈ ws, -1000000000 ≤ w ∧ w ≤ 1000000000) ∧ r = .lst (ws.map .int)) := by
  refine fn_def pr (args' := [.obj 0]) 65 [k] [ns.map .int] 0 (by decide) ⟨rfl, fun j k' l h1 h2 => ?_⟩ ⟨rfl, trivial⟩ hr (fun pm doc vs h => by obtain ⟨x, rfl⟩ := len1 h; kernel_rfl) (by decide +kernel) fun Γ' F => ?_
  · match j, h1, h2 with
    | 0, h1, h2 => cases h1; cases h2; exact ⟨o, ho, .inl hi⟩
  refine exs_cons ?_
  repeat walk_at "e"
  refine ev_list ?_
  repeat walk_at "e"
  refine ⟨[.int _, .int _, .int _, .int _, .int _, .int _, .int _, .int _], rfl, (by show 8 ≤ sizeLine; decide), ?_⟩
  refine exs_cons ?_
  repeat walk_at "e"
  · show (ns.map SV.int).length < 2 ^ 62
    rw [List.length_map]; omega
  show ∃ n, AV.int ((ns.map SV.int).length : Nat) = AV.int n ∧ _
  rw [List.length_map]
  refine ⟨_, rfl, by omega, by omega, fun i c => ∃ ws : List Int, ws.length = 8 ∧ (∀ w ∈ ws, -100 - 1000000 * (i : Int) ≤ w ∧ w ≤ 100 + 1000000 * (i : Int)) ∧ c = ⟨[("worths", .obj 1), ("numbers", .obj 0)], [⟨false, false, ns.map .int⟩, ⟨true, false, ws.map .int⟩], σ.lo⟩, ⟨_, ⟨[5, -3, 11, 2, -8, 13, 7, 4], rfl, by decide, rfl⟩, by walk_at "le"⟩, ?_, ?_⟩
  · rintro i v c hv ⟨ws, hw1, hw2, rfl⟩
    obtain ⟨rfl, hi⟩ := intsL_get hv
    have hi : i < ns.length := by simpa using hi
    refine exs_cons ?_
    repeat walk_at "e"
    have m1 := Int.fmod_nonneg_of_pos (0 + (i : Int)) (show (0 : Int) < 8 by decide)
    have m2 := Int.fmod_lt_of_pos (0 + (i : Int)) (show (0 : Int) < 8 by decide)
    have hm : ((0 + (i : Int)).fmod 8).toNat < ws.length := by omega
    refine ⟨_, _, _, _, rfl, rfl, rfl, m1, by omega, map_get hm, ?_⟩
    repeat walk_at "e"
    refine ev_index ?_
    repeat walk_at "e"
    refine ⟨_, _, _, _, rfl, rfl, rfl, by omega, by omega, map_get (n := (0 + (i : Int)).toNat) (by omega), ?_⟩
    repeat walk_at "e"
    refine ⟨_, _, rfl, rfl, rfl, by show _ < (ws.map SV.int).length; simpa using hm, exs_nil ⟨_, ⟨ws.set ((0 + (i : Int)).fmod 8).toNat (ws[((0 + (i : Int)).fmod 8).toNat] + ((ns[(0 + (i : Int)).toNat]'(by omega) + 1000000).fmod 2000001 - 1000000)), by simpa using hw1, fun w hw => ?_, rfl⟩, by walk_at "le"⟩⟩
    · have hb1 := Int.fmod_nonneg_of_pos (ns[(0 + (i : Int)).toNat]'(by omega) + 1000000) (show (0 : Int) < 2000001 by decide)
      have hb2 := Int.fmod_lt_of_pos (ns[(0 + (i : Int)).toNat]'(by omega) + 1000000) (show (0 : Int) < 2000001 by decide)
      rcases List.mem_or_eq_of_mem_set hw with h | h
      · have := hw2 w h; push_cast; omega
      · have := hw2 _ (List.getElem_mem hm); rw [h]; push_cast; omega
  · rintro c ⟨ws, hw1, hw2, rfl⟩
    refine exs_nil ?_
    refine exs_cons ?_
    repeat walk_at "e"
    refine ⟨_, rfl, rfl, ws, hw1, fun w hw => ?_, rfl⟩
    have h1 := hw2 w hw
    rw [intsL_len] at h1
    omega
end

/-! part M22 -/
section
variable {Γ : Cx w T} {σ : St}
theorem evp_none {Q : Option Int → St → Prop} (h : Q none σ) : EvP Γ none σ Q := h
theorem evp_some {e : Expr} {Q : Option Int → St → Prop} (h : EvE Γ e σ (fun v σ' => ∃ i, v = .int i ∧ Q (some i) σ')) : EvP Γ (some e) σ Q := h
theorem ev_slice' {value : Expr} {lo hi : Option Expr} {p pos : Pos} {Q : AV → St → Prop}
    (h : EvE Γ value σ (fun o σ₁ => EvP Γ lo σ₁ (fun a σ₂ => EvP Γ hi σ₂ (fun b σ₃ => ∃ k ao, o = .obj k ∧ σ₃.H[k]? = some ao ∧ ao.its.length ≤ sizeLine ∧ Q (.obj σ₃.H.length) (σ₃.push ⟨true, true, pick ao.its a b⟩)))))
    (hs : ∀ l i, subscripted (.Slice lo hi none p) false (.ref l) (.ref i) = operate [.ref i, .ref l] (getItem (.ref l) (.ref i)) := by intro _ _; with_unfolding_all rfl) : EvE Γ (.Subscript value (.Slice lo hi none p) pos) σ Q := fun s as r =>
  Subscript_ (wpAny_mono (h s as r) (fun v s₁ ⟨va, σ₁, as₁, ha, A₁, h₁⟩ => wpAny_Slice (wpAny_mono (evp_any h₁ A₁.rel) (fun vl s₂ ⟨pa, σ₂, as₂, hpa, A₂, h₂⟩ => wpAny_mono (evp_any h₂ A₂.rel) (fun vu s₃ h₃ => by
    obtain ⟨pb, σ₃, as₃, hpb, A₃, k, ao, rfl, hk, hz, hq⟩ := h₃
    obtain ⟨a, vs, rfl, _, hl, hr, _⟩ := A₃.rel.at (AV.is_of_ext (AV.is_of_ext ha A₂.ext) A₃.ext) hk
    rw [evalPart_none]
    refine wpAny_pure (tail_any (hl.push _).typeIs slot_list_getitem.lookup (wpAny_getItem_list_slice (hl.push _) (Heap.IsSliceOf.new ..) hpa.isPart hpb.isPart .none (by simp) ?_ (by simp [hr.1]; exact hz)) (hs _ _))
    have G := After.grown A₃.rel (Grown.push s₃ { cls := .type "slice", data := .fields #[vl, vu, .none] })
    have hsz : (s₃.heap.push { cls := .type "slice", data := .fields #[vl, vu, .none] }).objs.size = s₃.heap.objs.size + 1 := Heap.size_push ..
    have hp := post_new (Q := Q) (vs := kms_pick vs pa pb) (its := pick ao.its pa pb) G.rel (by
      unfold kms_pick pick; rw [hr.1]; exact (hr.drop _).take _) true hq
    have e : slicePick vs.toArray pa pb none = (kms_pick vs pa pb).toArray := kms_pick_eq _ _ _
    rw [e]
    exact (((hp.after G).after A₃).after A₂).after A₁) fun _ _ h => h) fun _ _ h => h)) fun _ _ h => h)
end
local macro_rules | `(tactic| walk_at "e") => `(tactic| first
  | ((with_reducible show EvP _ none _ _); refine evp_none ?_)
  | ((with_reducible show EvP _ (some _) _ _); refine evp_some ?_)
  | ((with_reducible show EvE _ (PySem.Expr.List _ _) _ _); refine ev_list ?_)
  | ((with_reducible show OpL _ (fun _ => call (PySem.Value.builtin "len") _) [AV.obj _] _ _); refine ol_len rfl (by dsimp only; (try simp only [List.length_map, List.length_append, List.length_take, List.length_drop, List.length_cons, List.length_nil]); omega) ?_)
  | ((with_reducible show OpL _ (fun _ => call (PySem.Value.builtin "len") _) [AV.sv (SV.str _)] _ _); refine ol_slen (by assumption) ?_)
  | ((with_reducible show Op2 _ _ (compareOp PySem.CmpOp.NotIn) (AV.sv (SV.str _)) (AV.sv (SV.str _)) _ _); refine o_notin ?_)
  | ((with_reducible show Op2 _ _ (compareOp PySem.CmpOp.Is) (AV.sv _) (AV.sv SV.none) _ _); refine o_isnone ?_))
local macro_rules | `(tactic| walk_at "le") => `(tactic| exact StLe.of (by repeat (first | exact trivial | refine And.intro rfl ?_)) (by first | exact HLe.refl _ | repeat (first | exact trivial | refine And.intro (And.intro (by first | exact id | exact fun _ => rfl | exact fun h => nomatch h) (And.intro (by first | exact id | exact fun _ => rfl | exact fun h => nomatch h) (Or.inl (by first | rfl | simp)))) ?_)) (by first | exact Nat.le_refl _ | exact Nat.zero_le _ | omega))
section SL
local macro_rules | `(tactic| walk_at "e") => `(tactic| ((with_reducible show EvE _ (PySem.Expr.Subscript _ (PySem.Expr.Slice _ _ none _) _) _ _); refine ev_slice' ?_))
theorem get_len {H : List AO} {p : AO} : (H ++ [p])[H.length]? = some p := by simp
theorem get_lt {H : List AO} {j : Nat} {o p : AO} (h : H[j]? = some o) : (H ++ [p])[j]? = some o := by
  rw [List.getElem?_append_left (List.getElem?_eq_some_iff.mp h).1]; exact h
theorem pick_take {l : List SV} {i : Int} (h : 0 ≤ i) : pick l none (some i) = l.take i.toNat := by
  unfold pick kms_lo kms_hi
  simp only [List.drop_zero, Nat.sub_zero]
  rw [if_neg (by omega)]
  rcases Nat.le_total i.toNat l.length with q | q
  · rw [Nat.min_eq_left q]
  · rw [Nat.min_eq_right q, List.take_of_length_le (Nat.le_refl _), List.take_of_length_le q]
theorem pick_drop {l : List SV} {i : Int} (h : 0 ≤ i) : pick l (some i) none = l.drop i.toNat := by
  unfold pick kms_lo kms_hi
  simp only
  rw [if_neg (by omega)]
  rcases Nat.le_total i.toNat l.length with q | q
  · rw [Nat.min_eq_left q, List.take_of_length_le (by simp)]
  · rw [Nat.min_eq_right q, List.drop_of_length_le q, List.drop_of_length_le (Nat.le_refl _)]; simp
inductive Tr where
  | leaf (x : Str) | node (n : Int) (l r : Tr)
def Tr.text : Tr → Str
  | .leaf x => x
  | .node n l r => joinS l.text r.text n
def Tr.leaves : Tr → List Str
  | .leaf x => [x]
  | .node _ l r => l.leaves ++ r.leaves
theorem joinS_len (l r : Str) (n : Int) : (joinS l r n).length ≤ l.length + r.length + 9 := by
  have e1 : ("(~" : Str).length = 2 := by decide +kernel
  have e2 : ("-" : Str).length = 1 := by decide +kernel
  have e3 : (")" : Str).length = 1 := by decide +kernel
  have e4 : ("~(" : Str).length = 2 := by decide +kernel
  have e5 : ("+" : Str).length = 1 := by decide +kernel
  have e6 := aheadS_len n
  unfold joinS
  split <;> simp only [Str.length_append, e1, e2, e3, e4, e5] <;> omega
theorem Tr.text_len : ∀ t : Tr, (∀ x ∈ t.leaves, x.length ≤ 2) → t.text.length + 10 ≤ 12 * t.leaves.length
  | .leaf x, h => by have := h x (by simp [Tr.leaves]); simp [Tr.text, Tr.leaves]; omega
  | .node n l r, h => by
    have h1 := Tr.text_len l fun x hx => h x (by simp [Tr.leaves, hx])
    have h2 := Tr.text_len r fun x hx => h x (by simp [Tr.leaves, hx])
    have := joinS_len l.text r.text n
    simp only [Tr.text, Tr.leaves, List.length_append]
    omega
section
variable {Γ : Cx w T} {σ : St} (pr : Prg T)
theorem leaves_le {t : Tr} : ∀ {ts : List Tr}, t ∈ ts → t.leaves.length ≤ (ts.flatMap Tr.leaves).length
  | u :: ts, h => by
    rw [List.flatMap_cons, List.length_append]
    rcases List.mem_cons.mp h with rfl | h
    · omega
    · have := leaves_le h; omega
theorem split2 {α : Type} {ts : List α} {a : Nat} (h : a + 1 < ts.length) : ts = ts.take a ++ (ts[a] :: ts[a + 1] :: ts.drop (a + 2)) := by
  have h1 := (List.take_append_drop a ts).symm
  rw [List.drop_eq_getElem_cons (by omega), List.drop_eq_getElem_cons h] at h1
  exact h1
theorem len_map2 (ts : List Tr) : ((ts.map Tr.text).map SV.str).length = ts.length := by simp
theorem get_map2 {ts : List Tr} {n : Nat} (h : n < ts.length) : ((ts.map Tr.text).map SV.str)[n]? = some (.str ts[n].text) := by simp [h]
theorem c_drawn (hr : 2 ≤ Γ.room) (names : List Str) (ns : List Int) (hl1 : 2 ≤ names.length) (hl2 : names.length ≤ 7) (hnm : ∀ x ∈ names, x.length ≤ 2) (hn : ns.length ≤ 60) {k k' : Nat} {o o' : AO} (ho : σ.H[k]? = some o) (hi : ItsLe o.its (names.map .str)) (ho' : σ.H[k']? = some o') (hi' : o'.its = ns.map .int) :
    CallOk Γ (pr.addr 67) [.obj k, .obj k'] σ (fun r => ∃ t : Tr, t.leaves = names ∧ r = .val (.str t.text)) := by
  refine fn_def pr (args' := [.obj 0, .obj 1]) 67 [k, k'] [names.map .str, ns.map .int] 1 (by decide) ⟨rfl, fun j k₁ l h1 h2 => ?_⟩ ⟨rfl, rfl, trivial⟩ hr (fun pm doc vs h => by obtain ⟨x, y, rfl⟩ := len2 h; kernel_rfl) (by decide +kernel) fun Γ' F => ?_
  · match j, h1, h2 with
    | 0, h1, h2 => cases h1; cases h2; exact ⟨o, ho, hi⟩
    | 1, h1, h2 => cases h1; cases h2; exact ⟨o', ho', .inl hi'⟩
  refine exs_cons ?_
  repeat walk_at "e"
  refine ⟨[.int 13, .int 4, .int 2, .int 1, .int 21, .int 8], rfl, (by show 6 ≤ sizeLine; decide), ?_⟩
  repeat walk_at "e"
  refine ⟨((names.map SV.str).length : Nat) - 1, rfl, _, _, rfl, rfl, (by show 6 ≤ sizeLine; decide), ?_⟩
  rw [pick_take (by rw [List.length_map]; omega)]
  obtain ⟨st0, hst0, hst1, hst2⟩ : ∃ st0 : List Int, (([.int 13, .int 4, .int 2, .int 1, .int 21, .int 8] : List SV).take (((names.map SV.str).length : Nat) - 1 : Int).toNat) = st0.map .int ∧ st0.length = names.length - 1 ∧ ∀ x ∈ st0, 0 ≤ x := by
    refine ⟨([13, 4, 2, 1, 21, 8] : List Int).take (names.length - 1), ?_, by simp; omega, fun x hx => ?_⟩
    · rw [List.map_take, List.length_map]
      have : ((names.length : Int) - 1).toNat = names.length - 1 := by omega
      rw [this]; rfl
    · have := List.mem_of_mem_take hx
      simp at this
      omega
  rw [hst0]
  refine exs_le (σ' := ⟨[("steps", .obj 3), ("names", .obj 0), ("numbers", .obj 1)], [⟨false, false, names.map .str⟩, ⟨false, false, ns.map .int⟩, ⟨false, false, [.int 13, .int 4, .int 2, .int 1, .int 21, .int 8]⟩, ⟨true, false, st0.map .int⟩], σ.lo⟩) (by walk_at "le") ?_
  refine exs_cons ?_
  repeat walk_at "e"
  show ∃ n, AV.int ((ns.map SV.int).length : Nat) = AV.int n ∧ _
  rw [List.length_map]
  refine ⟨_, rfl, by omega, by omega, fun i c => ∃ st : List Int, st.length = names.length - 1 ∧ (∀ x ∈ st, 0 ≤ x) ∧ c = ⟨[("steps", .obj 3), ("names", .obj 0), ("numbers", .obj 1)], [⟨false, false, names.map .str⟩, ⟨false, false, ns.map .int⟩, ⟨false, false, [.int 13, .int 4, .int 2, .int 1, .int 21, .int 8]⟩, ⟨true, false, st.map .int⟩], σ.lo⟩, ⟨_, ⟨st0, hst1, hst2, rfl⟩, by walk_at "le"⟩, ?_, ?_⟩
  · rintro i v c hv ⟨st, hs1, hs2, rfl⟩
    obtain ⟨rfl, hi⟩ := intsL_get hv
    have hi : i < ns.length := by simpa using hi
    refine exs_cons ?_
    repeat walk_at "e"
    have hlen : (0 : Int) < ((st.map SV.int).length : Nat) := by rw [List.length_map]; omega
    refine o_mod (Int.ne_of_gt hlen) ?_
    have m1 := Int.fmod_nonneg_of_pos (0 + (i : Int)) hlen
    have m2 := Int.fmod_lt_of_pos (0 + (i : Int)) hlen
    have hm : ((0 + (i : Int)).fmod ((st.map SV.int).length : Nat)).toNat < st.length := by rw [List.length_map] at m1 m2 ⊢; omega
    refine ⟨_, _, _, _, rfl, rfl, rfl, m1, by rw [List.length_map] at m2; dsimp only; rw [List.length_map]; omega, map_get hm, ?_⟩
    refine ev_bin (ev_index ?_)
    repeat walk_at "e"
    refine ⟨_, _, _, _, rfl, rfl, rfl, by omega, by omega, map_get (n := (0 + (i : Int)).toNat) (by omega), ?_⟩
    repeat walk_at "e"
    have hb1 := Int.fmod_nonneg_of_pos (ns[(0 + (i : Int)).toNat]'(by omega)) (show (0 : Int) < 1000000 by decide)
    refine ⟨_, _, rfl, rfl, rfl, by show _ < (st.map SV.int).length; exact Nat.lt_of_lt_of_eq hm (by simp), exs_nil ⟨_, ⟨st.set ((0 + (i : Int)).fmod ((st.map SV.int).length : Nat)).toNat (st[((0 + (i : Int)).fmod ((st.map SV.int).length : Nat)).toNat] + ((ns[(0 + (i : Int)).toNat]'(by omega)).fmod 1000000)), by simpa using hs1, fun x hx => ?_, rfl⟩, by walk_at "le"⟩⟩
    rcases List.mem_or_eq_of_mem_set hx with h | h
    · exact hs2 x h
    · have := hs2 _ (List.getElem_mem hm); rw [h]; omega
  · rintro c ⟨st, hs1, hs2, rfl⟩
    refine exs_nil ?_
    refine exs_cons ?_
    repeat walk_at "e"
    refine exs_le (σ' := ⟨[("parts", .obj 0), ("steps", .obj 3), ("names", .obj 0), ("numbers", .obj 1)], [⟨false, false, names.map .str⟩, ⟨false, false, ns.map .int⟩, ⟨false, false, [.int 13, .int 4, .int 2, .int 1, .int 21, .int 8]⟩, ⟨false, false, st.map .int⟩], σ.lo⟩) (by walk_at "le") ?_
    refine exs_cons ?_
    repeat walk_at "e"
    have e0 : (names.map Tr.leaf).map Tr.text = names := by simp [Function.comp_def, Tr.text]
    refine ⟨_, _, rfl, rfl, rfl, fun i c => ∃ (ts : List Tr) (H : List AO) (j : Nat) (b b' : Bool), H[j]? = some ⟨b, b', (ts.map Tr.text).map .str⟩ ∧ ts.flatMap Tr.leaves = names ∧ ts.length + i = names.length ∧ c = ⟨[("parts", .obj j)], H, σ.lo⟩,
      ⟨_, ⟨names.map .leaf, _, 0, false, false, by rw [e0]; rfl, by simp [List.flatMap_map, Tr.leaves], by simp, rfl⟩, StLe.of ⟨rfl, trivial⟩ (HLe.refl _) (Nat.le_refl _)⟩, ?_, ?_⟩
    · rintro i v c hv ⟨ts, H, j, b, b', hH, hts, htl, rfl⟩
      have hv : (st.map SV.int)[i]? = some v := hv
      have hi : i < st.length := by have := (List.getElem?_eq_some_iff.mp hv).1; simpa using this
      rw [map_get hi] at hv
      cases hv
      have hstep : 0 ≤ st[i] := hs2 _ (List.getElem_mem hi)
      refine exs_cons ?_
      repeat walk_at "e"
      refine ol_len hH (by dsimp only; rw [len_map2]; omega) ?_
      dsimp only
      rw [len_map2]
      repeat walk_at "e"
      have hpos : (0 : Int) < (ts.length : Int) - 1 := by omega
      refine o_mod (Int.ne_of_gt hpos) ?_
      obtain ⟨a, ha⟩ : ∃ a, a = (st[i].fdiv 6).fmod ((ts.length : Int) - 1) := ⟨_, rfl⟩
      have m1 := Int.fmod_nonneg_of_pos (st[i].fdiv 6) hpos
      have m2 := Int.fmod_lt_of_pos (st[i].fdiv 6) hpos
      rw [← ha] at m1 m2 ⊢
      clear ha
      have hlv : ∀ t ∈ ts, t.text.length ≤ 10000 := fun t ht => by
        have hsub : ∀ x ∈ t.leaves, x ∈ names := fun x hx => by rw [← hts]; exact List.mem_flatMap.mpr ⟨t, ht, hx⟩
        have h1 := t.text_len fun x hx => hnm x (hsub x hx)
        have h2 : t.leaves.length ≤ names.length := by
          rw [← hts]; exact leaves_le ht
        omega
      have hn1 : a.toNat < ts.length := by omega
      have hn2 : (a + 1).toNat < ts.length := by omega
      refine exs_cons ?_
      repeat walk_at "e"
      refine ⟨_, rfl, _, _, rfl, hH, by dsimp only; rw [len_map2]; exact Nat.le_trans (show ts.length ≤ 7 by omega) (by decide), ?_⟩
      rw [pick_take m1]
      repeat walk_at "e"
      refine fn_call pr 66 F.fz (by decide) (by decide +kernel) (F.knd (by decide +kernel)) ?_
      refine evl_cons (ev_index ?_)
      repeat walk_at "e"
      refine ⟨_, _, _, _, rfl, rfl, get_lt hH, m1, by omega, get_map2 hn1, ?_⟩
      refine evl_cons (ev_index ?_)
      repeat walk_at "e"
      refine ⟨_, _, _, _, rfl, rfl, get_lt hH, by omega, by omega, get_map2 hn2, ?_⟩
      repeat walk_at "e"
      refine ⟨_, c_joined pr F.room _ _ _ (hlv _ (List.getElem_mem hn1)) (hlv _ (List.getElem_mem hn2)), fun r hr => ?_⟩
      subst hr
      refine evl_nil ⟨[.str _], rfl, by show 1 ≤ sizeLine; decide, ?_⟩
      have szL : ∀ k : Nat, k ≤ 100 → k ≤ sizeLine := fun k h => Nat.le_trans h (by decide)
      refine o_cat (get_lt get_len) get_len (szL _ (by simp; omega)) ?_
      repeat walk_at "e"
      refine ⟨_, rfl, ?_⟩
      repeat walk_at "e"
      refine ⟨_, _, rfl, get_lt (get_lt (get_lt hH)), szL _ (by dsimp only; rw [len_map2]; omega), ?_⟩
      rw [pick_drop (by omega)]
      refine o_cat (get_lt get_len) get_len (szL _ (by simp; omega)) ?_
      obtain ⟨n, hn⟩ : ∃ n : Nat, a = n := ⟨a.toNat, by omega⟩
      subst hn
      have eits : (List.take (n : Int).toNat ((ts.map Tr.text).map SV.str) ++ [SV.str (joinS ts[(n : Int).toNat].text ts[((n : Int) + 1).toNat].text st[i])]) ++ List.drop ((n : Int) + 2).toNat ((ts.map Tr.text).map SV.str) = ((ts.take n ++ [Tr.node st[i] ts[(n : Int).toNat] ts[((n : Int) + 1).toNat]] ++ ts.drop (n + 2)).map Tr.text).map SV.str := by
        have : ((n : Int) + 2).toNat = n + 2 := by omega
        rw [this]
        simp [List.map_take, List.map_drop, Tr.text]
      refine exs_nil ⟨_, ⟨ts.take n ++ [Tr.node st[i] ts[(n : Int).toNat] ts[((n : Int) + 1).toNat]] ++ ts.drop (n + 2), _, _, true, true, by rw [← eits]; exact get_len, ?_, ?_, rfl⟩, StLe.of ⟨rfl, trivial⟩ (HLe.refl _) (Nat.le_refl _)⟩
      · have hn3 : n + 1 < ts.length := by omega
        have h1 : ts[(n : Int).toNat] = ts[n] := rfl
        have h2 : ts[((n : Int) + 1).toNat] = ts[n + 1] := by congr 1
        have h3 := congrArg (List.flatMap Tr.leaves) (split2 hn3)
        rw [List.flatMap_append, List.flatMap_cons, List.flatMap_cons] at h3
        rw [← hts, h1, h2, h3]
        simp [Tr.leaves]
      · simp; omega
    · rintro c ⟨ts, H, j, b, b', hH, hts, htl, rfl⟩
      have htl : ts.length + (st.map SV.int).length = names.length := htl
      rw [List.length_map] at htl
      have h1 : ts.length = 1 := by omega
      match ts, h1 with
      | [t], _ =>
        refine exs_nil (exs_cons (ex_ret (ev_index ?_)))
        repeat walk_at "e"
        refine ⟨_, _, _, .str t.text, rfl, rfl, hH, by decide, by decide, rfl, ?_⟩
        exact ⟨t, by simpa using hts, rfl⟩
end

/-! part M23 -/
section
variable {Γ : Cx w T} {σ : St}
theorem range_all {α : Type} [DecidableEq α] (xs ys : List α) (h : xs.length = ys.length) : ((List.range xs.length).all fun j => decide (xs[j]? = ys[j]?)) = (xs == ys) := by
  rw [Bool.eq_iff_iff, List.all_eq_true, beq_iff_eq]
  refine ⟨fun q => List.ext_getElem? fun i => ?_, fun q j _ => by rw [q]; simp⟩
  rcases Nat.lt_or_ge i xs.length with hi | hi
  · exact of_decide_eq_true (q i (by simpa using hi))
  · rw [List.getElem?_eq_none hi, List.getElem?_eq_none (h ▸ hi)]
theorem o_eqli {i j : Nat} {o o' : AO} {ns ms : List Int} {Q : AV → St → Prop} (ho : σ.H[i]? = some o) (ho' : σ.H[j]? = some o') (e1 : o.its = ns.map .int) (e2 : o'.its = ms.map .int) (h : Q (.bool (ns == ms)) σ) : Op2 Γ AV.is (compareOp .Eq) (.obj i) (.obj j) σ Q := by
  intro s as v v' r hv hv'
  obtain ⟨a, vs, rfl, _, hl, ha, _⟩ := r.at hv ho
  obtain ⟨b, us, rfl, _, hl', hb, _⟩ := r.at hv' ho'
  rw [e1] at ha; rw [e2] at hb
  have hu : Γ.A.units < cLine := by have := Γ.hu; omega
  have l1 : vs.length = ns.length := by simpa using ha.1
  have l2 : us.length = ms.length := by simpa using hb.1
  by_cases hsz : ns.length = ms.length
  · refine SeqAt.eq_listAt (e := fun j => decide (ns[j]? = ms[j]?)) hl hl' (by simp [l1, l2, hsz]) hu (fun j h1 h2 => ?_) ?_
    · simp only [List.size_toArray] at h1 h2
      obtain ⟨x, hx, t, hxt⟩ := ha.2 j (.int (ns[j]'(l1 ▸ h1))) (by simp [l1 ▸ h1])
      obtain ⟨y, hy, u, hyu⟩ := hb.2 j (.int (ms[j]'(l2 ▸ h2))) (by simp [l2 ▸ h2])
      have q1 : vs.toArray[j] = x := by rw [List.getElem?_eq_getElem h1] at hx; simpa using hx
      have q2 : us.toArray[j] = y := by rw [List.getElem?_eq_getElem h2] at hy; simpa using hy
      rw [q1, q2, hxt, hyu]
      have e : decide (ns[j]? = ms[j]?) = (ns[j]'(l1 ▸ h1) == ms[j]'(l2 ▸ h2)) := by
        have h1' : j < ns.length := l1 ▸ h1
        have h2' : j < ms.length := l2 ▸ h2
        rw [List.getElem?_eq_getElem h1', List.getElem?_eq_getElem h2', Bool.eq_iff_iff, decide_eq_true_eq, beq_iff_eq]
        exact ⟨Option.some.inj, fun q => by rw [q]⟩
      rw [e]
      exact (MeetsSeq.EqGives.int _ _ _ _).at _ _
    · have : vs.toArray.size = ns.length := by simp [l1]
      rw [this, range_all ns ms hsz]
      exact ⟨.bool _, σ, as, rfl, .refl r, h⟩
  · refine SeqAt.eq_list_lengthsAt hl hl' (by simp [l1, l2, hsz]) hu ?_
    have : (ns == ms) = false := beq_eq_false_iff_ne.mpr fun q => hsz (by rw [q])
    rw [this] at h
    exact ⟨.bool false, σ, as, rfl, .refl r, h⟩
theorem o_neli {i j : Nat} {o o' : AO} {ns ms : List Int} {Q : AV → St → Prop} (ho : σ.H[i]? = some o) (ho' : σ.H[j]? = some o') (e1 : o.its = ns.map .int) (e2 : o'.its = ms.map .int) (h : Q (.bool (!(ns == ms))) σ) : Op2 Γ AV.is (compareOp .NotEq) (.obj i) (.obj j) σ Q := by
  intro s as v v' r hv hv'
  obtain ⟨a, vs, rfl, _, hl, ha, _⟩ := r.at hv ho
  obtain ⟨b, us, rfl, _, hl', hb, _⟩ := r.at hv' ho'
  rw [e1] at ha; rw [e2] at hb
  have hu : Γ.A.units < cLine := by have := Γ.hu; omega
  have l1 : vs.length = ns.length := by simpa using ha.1
  have l2 : us.length = ms.length := by simpa using hb.1
  by_cases hsz : ns.length = ms.length
  · refine EqBoolInt.of_rcne (SeqAt.RcNeAt.lists (e := fun j => decide (ns[j]? = ms[j]?)) hl hl' (by simp [l1, l2, hsz]) hu (fun j h1 h2 => ?_)) ?_
    · simp only [List.size_toArray] at h1 h2
      obtain ⟨x, hx, t, hxt⟩ := ha.2 j (.int (ns[j]'(l1 ▸ h1))) (by simp [l1 ▸ h1])
      obtain ⟨y, hy, u, hyu⟩ := hb.2 j (.int (ms[j]'(l2 ▸ h2))) (by simp [l2 ▸ h2])
      have q1 : vs.toArray[j] = x := by rw [List.getElem?_eq_getElem h1] at hx; simpa using hx
      have q2 : us.toArray[j] = y := by rw [List.getElem?_eq_getElem h2] at hy; simpa using hy
      rw [q1, q2, hxt, hyu]
      have e : decide (ns[j]? = ms[j]?) = (ns[j]'(l1 ▸ h1) == ms[j]'(l2 ▸ h2)) := by
        have h1' : j < ns.length := l1 ▸ h1
        have h2' : j < ms.length := l2 ▸ h2
        rw [List.getElem?_eq_getElem h1', List.getElem?_eq_getElem h2', Bool.eq_iff_iff, decide_eq_true_eq, beq_iff_eq]
        exact ⟨Option.some.inj, fun q => by rw [q]⟩
      rw [e]
      exact (MeetsSeq.EqGives.int _ _ _ _).at _ _
    · have : vs.toArray.size = ns.length := by simp [l1]
      rw [this, range_all ns ms hsz]
      exact ⟨.bool _, σ, as, rfl, .refl r, h⟩
  · refine EqBoolInt.of_rcne (SeqAt.RcNeAt.lists_lengths hl hl' (by simp [l1, l2, hsz]) hu) ?_
    have : (ns == ms) = false := beq_eq_false_iff_ne.mpr fun q => hsz (by rw [q])
    rw [this] at h
    exact ⟨.bool true, σ, as, rfl, .refl r, h⟩
theorem o_nels {i j : Nat} {o o' : AO} {ns ms : List Str} {Q : AV → St → Prop} (ho : σ.H[i]? = some o) (ho' : σ.H[j]? = some o') (e1 : o.its = ns.map .str) (e2 : o'.its = ms.map .str) (h : Q (.bool (!(ns == ms))) σ) : Op2 Γ AV.is (compareOp .NotEq) (.obj i) (.obj j) σ Q := by
  intro s as v v' r hv hv'
  obtain ⟨a, vs, rfl, _, hl, ha, _⟩ := r.at hv ho
  obtain ⟨b, us, rfl, _, hl', hb, _⟩ := r.at hv' ho'
  rw [e1] at ha; rw [e2] at hb
  have hu : Γ.A.units < cLine := by have := Γ.hu; omega
  have l1 : vs.length = ns.length := by simpa using ha.1
  have l2 : us.length = ms.length := by simpa using hb.1
  by_cases hsz : ns.length = ms.length
  · refine EqBoolInt.of_rcne (SeqAt.RcNeAt.lists (e := fun j => decide (ns[j]? = ms[j]?)) hl hl' (by simp [l1, l2, hsz]) hu (fun j h1 h2 => ?_)) ?_
    · simp only [List.size_toArray] at h1 h2
      obtain ⟨x, hx, t, hxt⟩ := ha.2 j (.str (ns[j]'(l1 ▸ h1))) (by simp [l1 ▸ h1])
      obtain ⟨y, hy, u, hyu⟩ := hb.2 j (.str (ms[j]'(l2 ▸ h2))) (by simp [l2 ▸ h2])
      have q1 : vs.toArray[j] = x := by rw [List.getElem?_eq_getElem h1] at hx; simpa using hx
      have q2 : us.toArray[j] = y := by rw [List.getElem?_eq_getElem h2] at hy; simpa using hy
      rw [q1, q2, hxt, hyu]
      have e : decide (ns[j]? = ms[j]?) = ((ns[j]'(l1 ▸ h1)).cps.toList == (ms[j]'(l2 ▸ h2)).cps.toList) := by
        have h1' : j < ns.length := l1 ▸ h1
        have h2' : j < ms.length := l2 ▸ h2
        rw [List.getElem?_eq_getElem h1', List.getElem?_eq_getElem h2']
        rw [Bool.eq_iff_iff, decide_eq_true_eq, beq_iff_eq]
        constructor
        · intro q; rw [Option.some.inj q]
        · intro q
          have : (ns[j]'h1').cps = (ms[j]'h2').cps := Array.toList_inj.mp q
          congr 1
          generalize ns[j]'h1' = x' at this ⊢
          generalize ms[j]'h2' = y' at this ⊢
          cases x'; cases y'; simp at this; rw [this]
      rw [e]
      exact (SeqRoads2.EqGives.str _ _ _ _).at _ _
    · have : vs.toArray.size = ns.length := by simp [l1]
      rw [this, range_all ns ms hsz]
      exact ⟨.bool _, σ, as, rfl, .refl r, h⟩
  · refine EqBoolInt.of_rcne (SeqAt.RcNeAt.lists_lengths hl hl' (by simp [l1, l2, hsz]) hu) ?_
    have : (ns == ms) = false := beq_eq_false_iff_ne.mpr fun q => hsz (by rw [q])
    rw [this] at h
    exact ⟨.bool true, σ, as, rfl, .refl r, h⟩
end

/-! part M24 -/
section
variable {Γ : Cx w T} {σ : St}
theorem fn_cells (pr : Prg T) {args args' : List AV} {P : RV → Prop} (k : Nat) (sel : List Nat) (H' : List (List SV)) (n : Nat) (hk : k ∈ defIdx) (hs : HSel σ sel H') (hA : ALes sel args args') (hroom : n + 1 ≤ Γ.room)
    (hbind : ∀ pm doc vs, vs.length = args.length → bindArgs (Calls.docDef (nameAt k) (argsAt k) (bodyAt k) (scopeAt k) pm (pr.cdv k) doc) ⟨vs, []⟩ = pure ((psAt k).zip vs))
    (hst : ((psAt k).Nodup) ∧ (scopeAt k).kind = .function ∧ (scopeAt k).isCoroutine = false ∧ (scopeAt k).isGenerator = false)
    (hloc : ∀ p ∈ psAt k, (scopeAt k).names.lookup p = some .local ∨ ((scopeAt k).names.lookup p = some .cell ∧ ∀ L, ((cellsFrom (L + 1) (scopeAt k).names []).lookup p).isSome = true))
    (h : ∀ (Γ' : Cx w T) L, FC pr Γ' k n → (∃ pm doc, Γ'.env = callEnvC (Calls.docDef (nameAt k) (argsAt k) (bodyAt k) (scopeAt k) pm (pr.cdv k) doc) L (pr.addr k)) → ExS Γ' (bodyAt k) ⟨(psAt k).zip args', roH H', 0⟩ (RetOk P)) : CallOk Γ (pr.addr k) args σ P :=
  callok_cells2 (pr.defs k hk) hs hA (psAt k) (by omega) hbind hst.1 hloc hst.2.1 hst.2.2.1 hst.2.2.2 fun Γ' L pm doc hE hR hF => h Γ' L ⟨fun x => by rw [hE]; rfl, hF, by omega⟩ ⟨pm, doc, hE⟩
end
def altB (l : List Int) : Bool := decide ((l.length : Int) > 1) && ((((List.range (l.length - 1)).map fun (i : Nat) => (1 : Int) + i).filter fun k => l.getD k.toNat 0 == l.getD (k - 1).toNat 0) == [])
theorem getD_get {l : List Int} {n : Nat} (h : n < l.length) : (l.map SV.int)[n]? = some (.int (l.getD n 0)) := by simp [h]
section
variable {Γ : Cx w T} {σ : St} (pr : Prg T)
theorem c_alt (hr : 1 ≤ Γ.room) (ns : List Int) (hn : ns.length ≤ 60) {k : Nat} {o : AO} (ho : σ.H[k]? = some o) (hi : o.its = ns.map .int) :
    CallOk Γ (pr.addr 68) [.obj k] σ (fun r => r = .val (.bool (altB ns))) := by
  refine fn_cells pr (args' := [.obj 0]) 68 [k] [ns.map .int] 0 (by decide) ⟨rfl, fun j k' l h1 h2 => ?_⟩ ⟨rfl, trivial⟩ hr (fun pm doc vs h => by obtain ⟨x, rfl⟩ := len1 h; kernel_rfl) (by decide +kernel) (fun p hp => ?_) fun Γ' L F hE => ?_
  · match j, h1, h2 with
    | 0, h1, h2 => cases h1; cases h2; exact ⟨o, ho, .inl hi⟩
  · have : p = "signs" := by revert p; decide +kernel
    subst this
    exact .inr ⟨by decide +kernel, fun L => by rfl⟩
  refine exs_cons (ex_ret (ev_and2 ?_))
  repeat walk_at "e"
  dsimp only
  rw [List.length_map]
  refine ⟨_, rfl, ?_⟩
  split
  · rename_i hc
    refine ev_cmp ?_
    obtain ⟨pm, doc, hE⟩ := hE
    refine ev_comp F.fz (fun k => ns.getD k.toNat 0 == ns.getD (k - 1).toNat 0) id _ [("signs", .obj 0)] (by rw [hE]; rfl) (by decide +kernel) (by decide +kernel) (by decide +kernel) (by decide +kernel) (by rw [hE]; intro y c h; exact h) ?_
    repeat walk_at "e"
    dsimp only
    rw [List.length_map]
    have hc' : (ns.length : Int) > 1 := by simpa using hc
    refine ⟨1, (ns.length : Int), rfl, rfl, by decide, by decide, by omega, by omega, ?_⟩
    refine ⟨(List.range (ns.length - 1)).map fun (i : Nat) => (1 : Int) + i, ?_, by rw [List.length_map, List.length_range]; exact Nat.le_trans (show ns.length - 1 ≤ 60 by omega) (by decide), rfl, ?_, ⟨fun C hk x hx => ?_, fun C hk x hx hp => ?_⟩, ?_⟩
    · unfold intsL
      have : ((ns.length : Int) - 1).toNat = ns.length - 1 := by omega
      rw [this, List.map_map]; rfl
    · intro p hp
      rw [List.mem_singleton.mp hp]
      exact ⟨rfl, F.knd (by decide +kernel), by rw [hE]; rfl, by rw [hE]; rfl⟩
    · have hx' : 1 ≤ x ∧ x < ns.length := by
        obtain ⟨i, hi, rfl⟩ := List.mem_map.mp hx
        have := List.mem_range.mp hi
        omega
      show EvB _ _ _ _
      refine evb_cmp (ev_index ?_)
      repeat walk_at "e"
      refine ⟨_, _, _, _, rfl, rfl, rfl, by omega, by omega, getD_get (by omega), ?_⟩
      refine ev_index ?_
      repeat walk_at "e"
      refine ⟨_, _, _, _, rfl, rfl, rfl, by omega, by omega, getD_get (by omega), ?_⟩
      repeat walk_at "e"
      exact ⟨_, rfl, rfl⟩
    · exact ev_name rfl rfl (by decide +kernel)
    · repeat walk_at "e"
      refine ⟨[], rfl, by decide, ?_⟩
      refine o_eqli (ms := []) (get_lt get_len) get_len rfl rfl ?_
      show _ = _
      unfold altB
      rw [decide_eq_true hc', List.map_id]
      rfl
  · rename_i hc
    have hc' : ¬ (ns.length : Int) > 1 := by simpa using hc
    show _ = _
    unfold altB
    rw [decide_eq_false hc']
    rfl
end

/-! part M25 -/
section
variable {Γ : Cx w T} {σ : St}
theorem AreA.get {as : List Addr} : ∀ {l : List AV} {vs : List Value} (n : Nat) {a : AV}, AreA as l vs → l[n]? = some a → ∃ v, vs[n]? = some v ∧ a.is as v
  | [], [], n, a, _, h => by simp at h
  | [], _ :: _, _, _, h, _ => h.elim
  | _ :: _, [], _, _, h, _ => h.elim
  | x :: l, v :: vs, 0, a, ⟨h, _⟩, e => by simp at e; subst e; exact ⟨v, rfl, h⟩
  | x :: l, v :: vs, n + 1, a, ⟨_, r⟩, e => by
    obtain ⟨u, h1, h2⟩ := AreA.get n r (by simpa using e)
    exact ⟨u, by simpa using h1, h2⟩
theorem ev_pick {es : List Expr} {slice : Expr} {lp pos : Pos} {Q : AV → St → Prop} (h : EvL Γ es σ (fun l σ₁ => l.length ≤ sizeLine ∧ EvE Γ slice σ₁ (fun i σ₂ => ∃ n k, i = .int n ∧ 0 ≤ n ∧ n < 2 ^ 63 ∧ l[n.toNat]? = some (.obj k) ∧ Q (.obj k) σ₂)))
    (hs : ∀ l k u, subscripted slice false (.ref l) (.int k u) = operate [.ref l, .int k u] (getItem (.ref l) (.int k u)) := by intro _ _ _; with_unfolding_all rfl) : EvE Γ (.Subscript (.List es lp) slice pos) σ Q := fun s as r => by
  refine Subscript_ (wpAny_List (wpAny_mono (h lp s as r) (fun vs s₁ hv => ?_) fun _ _ h => h))
  obtain ⟨l, σ₁, as₁, hl, A₁, hz, hq⟩ := hv
  refine ⟨by rw [AreA.length hl]; exact hz, ?_⟩
  have A₂ := A₁.trans (After.grown A₁.rel (Grown.push s₁ { cls := .type "list", data := .seq vs.toArray }))
  refine wpAny_mono (hq _ as₁ A₂.rel) (fun i s₂ hi => ?_) fun _ _ h => h
  obtain ⟨ia, σ₂, as₂, hia, A₃, n, k, rfl, h0, h1, hk, hq₂⟩ := hi
  obtain ⟨t, rfl⟩ := hia
  obtain ⟨v, hv, hvi⟩ := AreA.get _ hl hk
  have hL : s₂.heap.IsList s₁.heap.objs.size vs.toArray := by
    have h1 : (s₁.heap.push { cls := .type "list", data := .seq vs.toArray }).get? s₁.heap.objs.size = some { cls := .type "list", data := .seq vs.toArray } := Heap.get?_push_size _ rfl
    exact ⟨_, A₃.kept _ _ (Nat.ne_of_gt A₁.rel.locals_lt) (fun k hk e => Nat.lt_irrefl _ (A₁.rel.lt e)) h1, rfl, _, rfl⟩
  exact tail_any hL.typeIs slot_list_getitem.lookup (wpAny_getItem_list hL h0 h1 (by simpa using hv) ⟨.obj k, σ₂, as₂, AV.is_of_ext hvi A₃.ext, A₂.trans A₃, hq₂⟩) (hs _ _ _)
end
def sgn (number : Int) (k : Nat) : Int := 1 - 2 * ((number.fdiv (2 ^ k)).fmod 2)
def wish0 (number : Int) (size : Nat) : List Int := (List.range size).map (sgn number)
def wishA (number : Int) (size : Nat) : Nat := ((number.fdiv (2 ^ size)).fmod size).toNat
def wish1 (number : Int) (size : Nat) : List Int := (wish0 number size).take (wishA number size) ++ [(wish0 number size).getD (wishA number size) 0] ++ (wish0 number size).drop (wishA number size)
def wishE (s : Int) : List Int := if s = 0 then [1] else if s = 1 then [] else [-1]
def wishL (number : Int) (size : Nat) : List Int := wish1 number size ++ wishE ((wish1 number size).sum.fmod 3)
theorem small_pow (k : Nat) (h : k ≤ 8) : ((2 : Int) ^ k).natAbs < 2 ^ 30 := by
  have : k < 9 := by omega
  revert k; decide
section
variable {Γ : Cx w T} {σ : St} (pr : Prg T)
theorem c_wished (hr : 1 ≤ Γ.room) (number : Int) (size : Nat) (h1 : 1 ≤ size) (h2 : size ≤ 6) : CallOk Γ (pr.addr 69) [.int number, .int size] σ (fun r => r = .lst ((wishL number size).map .int)) := by
  refine fn_cells pr (args' := [.int number, .int size]) 69 [] [] 0 (by decide) ⟨rfl, fun j k' l h1 h2 => by simp at h1⟩ ⟨.inl rfl, .inl rfl, trivial⟩ hr (fun pm doc vs h => by obtain ⟨x, y, rfl⟩ := len2 h; kernel_rfl) (by decide +kernel) (fun p hp => ?_) fun Γ' L F hE => ?_
  · have : p = "number" ∨ p = "size" := by revert p; decide +kernel
    rcases this with rfl | rfl
    · exact .inr ⟨by decide +kernel, fun L => by rfl⟩
    · exact .inl (by decide +kernel)
  obtain ⟨pm, doc, hE⟩ := hE
  refine exs_cons ?_
  refine ex_assign_comp F.fz (fun _ => true) (fun k => sgn number k.toNat) _ [("number", .int number)] (by rw [hE]; rfl) (by rw [hE]; rfl) (by decide +kernel) (by decide +kernel) (by decide +kernel) (by decide +kernel) (by rw [hE]; intro y c h; exact h) (F.knd (by decide +kernel)) ?_
  repeat walk_at "e"
  refine ⟨(size : Int), rfl, by omega, by omega, (List.range size).map fun (i : Nat) => (i : Int), ?_, by rw [List.length_map, List.length_range]; exact Nat.le_trans h2 (by decide), rfl, ?_, ⟨fun C hk x hx => ?_, fun C hk x hx hp => ?_⟩, ?_⟩
  · unfold intsL; simp
  · intro p hp
    rw [List.mem_singleton.mp hp]
    exact ⟨rfl, F.knd (by show (scopeAt 69).names.lookup ("number" : Str) = _; decide +kernel), by rw [hE]; rfl, by rw [hE]; rfl⟩
  · rfl
  · obtain ⟨i, hi, rfl⟩ := List.mem_map.mp hx
    have hi := List.mem_range.mp hi
    repeat walk_at "e"
    have hb : (Builtin.Int.intBits 2 : Int) * (i : Int) ≤ 2 ^ 27 := by
      have e : (Builtin.Int.intBits 2 : Int) = 2 := by decide +kernel
      rw [e]; omega
    refine o_pow (by omega) hb (o_div (Int.ne_of_gt (Int.pow_pos (by decide))) ?_ (PyProof.noPylong_small (small_pow _ (by omega))))
    repeat walk_at "e"
    refine o_mul ?_ (IntMulOk.of_left (by decide +kernel))
    repeat walk_at "e"
    rfl
  · have hb : (Builtin.Int.intBits 2 : Int) * (size : Int) ≤ 2 ^ 27 := by
      have e : (Builtin.Int.intBits 2 : Int) = 2 := by decide +kernel
      rw [e]; omega
    have e0 : ((((List.range size).map fun (i : Nat) => (i : Int)).filter fun _ => true).map fun k => sgn number k.toNat) = wish0 number size := by
      rw [List.filter_eq_self.mpr (fun _ _ => rfl), List.map_map]; rfl
    rw [e0]
    have l0 : (wish0 number size).length = size := by simp [wish0]
    have szL : ∀ k : Nat, k ≤ 100 → k ≤ sizeLine := fun k h => Nat.le_trans h (by decide)
    refine exs_cons ?_
    repeat walk_at "e"
    refine o_pow (by omega) hb (o_div (Int.ne_of_gt (Int.pow_pos (by decide))) ?_ (PyProof.noPylong_small (small_pow _ (by omega))))
    repeat walk_at "e"
    have hs : (0 : Int) < size := by omega
    refine o_mod (Int.ne_of_gt hs) ?_
    have m1 := Int.fmod_nonneg_of_pos (number.fdiv (2 ^ (size : Int).toNat)) hs
    have m2 := Int.fmod_lt_of_pos (number.fdiv (2 ^ (size : Int).toNat)) hs
    obtain ⟨a, ha⟩ : ∃ a : Nat, (number.fdiv (2 ^ (size : Int).toNat)).fmod size = a := ⟨_, (Int.toNat_of_nonneg m1).symm⟩
    rw [ha] at m1 m2 ⊢
    have ea : wishA number size = a := by
      unfold wishA
      have : (size : Int).toNat = size := by simp
      rw [this] at ha
      rw [ha]; simp
    refine exs_cons ?_
    repeat walk_at "e"
    refine ⟨_, rfl, _, _, rfl, rfl, szL _ (by dsimp only; rw [List.length_map, l0]; omega), ?_⟩
    rw [pick_take m1]
    repeat walk_at "e"
    refine ev_index ?_
    repeat walk_at "e"
    refine ⟨_, _, _, _, rfl, rfl, rfl, m1, by omega, getD_get (l := wish0 number size) (n := (a : Int).toNat) (by rw [l0]; omega), ?_⟩
    repeat walk_at "e"
    refine ⟨[.int _], rfl, by show 1 ≤ sizeLine; decide, ?_⟩
    refine o_cat (get_lt get_len) get_len (szL _ (by simp [l0]; omega)) ?_
    repeat walk_at "e"
    refine ⟨_, rfl, ?_⟩
    repeat walk_at "e"
    refine ⟨_, _, rfl, rfl, szL _ (by dsimp only; rw [List.length_map, l0]; omega), ?_⟩
    rw [pick_drop m1]
    refine o_cat (get_lt get_len) get_len (szL _ (by simp [l0]; omega)) ?_
    have e1 : (List.take (a : Int).toNat ((wish0 number size).map SV.int) ++ [SV.int ((wish0 number size).getD (a : Int).toNat 0)]) ++ List.drop (a : Int).toNat ((wish0 number size).map SV.int) = (wish1 number size).map .int := by
      unfold wish1; rw [ea]; simp [List.map_take, List.map_drop]
    refine exs_le (σ' := ⟨[("signs", .obj 5)], [⟨false, false, _⟩, ⟨false, false, _⟩, ⟨false, false, _⟩, ⟨false, false, _⟩, ⟨false, false, _⟩, ⟨true, true, (wish1 number size).map .int⟩], 0⟩) (StLe.of ⟨rfl, trivial⟩ ⟨⟨(fun h => nomatch h), (fun h => nomatch h), .inl rfl⟩, ⟨(fun h => nomatch h), (fun h => nomatch h), .inl rfl⟩, ⟨(fun h => nomatch h), (fun h => nomatch h), .inl rfl⟩, ⟨(fun h => nomatch h), (fun h => nomatch h), .inl rfl⟩, ⟨(fun h => nomatch h), (fun h => nomatch h), .inl rfl⟩, ⟨id, id, .inl e1⟩, trivial⟩ (Nat.le_refl _)) ?_
    have l1 : (wish1 number size).length = size + 1 := by unfold wish1; simp [l0, ea]; omega
    refine exs_cons (ex_ret (ev_bin ?_))
    repeat walk_at "e"
    refine ev_pick ?_
    repeat walk_at "e"
    refine ⟨[.int 1], rfl, by show 1 ≤ sizeLine; decide, ?_⟩
    repeat walk_at "e"
    refine ⟨[], rfl, by show 0 ≤ sizeLine; decide, ?_⟩
    repeat walk_at "e"
    refine ⟨[.int _], rfl, by show 1 ≤ sizeLine; decide, ?_⟩
    repeat walk_at "e"
    refine ⟨by show 3 ≤ sizeLine; decide, ?_⟩
    repeat walk_at "e"
    refine ol_sum (ns := wish1 number size) rfl rfl ?_
    repeat walk_at "e"
    have q := fmod3 (wish1 number size).sum
    rcases (by omega : (wish1 number size).sum.fmod 3 = 0 ∨ (wish1 number size).sum.fmod 3 = 1 ∨ (wish1 number size).sum.fmod 3 = 2) with h | h | h <;> rw [h]
    · refine ⟨0, _, rfl, by decide, by decide, rfl, ?_⟩
      refine o_cat rfl rfl (szL _ (by simp [l1]; omega)) ?_
      refine ⟨_, get_len, rfl, ?_⟩
      show _ = _
      unfold wishL wishE
      rw [h]; simp
    · refine ⟨1, _, rfl, by decide, by decide, rfl, ?_⟩
      refine o_cat rfl rfl (szL _ (by simp [l1]; omega)) ?_
      refine ⟨_, get_len, rfl, ?_⟩
      show _ = _
      unfold wishL wishE
      rw [h]; simp
    · refine ⟨2, _, rfl, by decide, by decide, rfl, ?_⟩
      refine o_cat rfl rfl (szL _ (by simp [l1]; omega)) ?_
      refine ⟨_, get_len, rfl, ?_⟩
      show _ = _
      unfold wishL wishE
      rw [h]; simp
end

/-! part M26 -/
/-! the plain law of the rows of signs -/
def shorter (s : List Int) (a : Nat) : List Int := s.take a ++ [-(s.getD a 0)] ++ s.drop (a + 2)
def good (s : List Int) (a : Nat) : Bool := s.getD a 0 == s.getD (a + 1) 0 && !altB (shorter s a)
structure Sg (s : List Int) : Prop where
  pm : ∀ x ∈ s, x = 1 ∨ x = -1
  sum : s.sum % 3 = 1
  alt : altB s = false
  len : s.length ≤ 8
def ofB (bs : List Bool) : List Int := bs.map fun b => if b then 1 else -1
def allB : Nat → List (List Bool)
  | 0 => [[]]
  | n + 1 => (allB n).map (true :: ·) ++ (allB n).map (false :: ·)
theorem mem_allB : ∀ bs : List Bool, bs ∈ allB bs.length
  | [] => by simp [allB]
  | b :: bs => by
    have := mem_allB bs
    cases b <;> simp [allB, this]
theorem ofB_of : ∀ {s : List Int}, (∀ x ∈ s, x = 1 ∨ x = -1) → ∃ bs, s = ofB bs
  | [], _ => ⟨[], rfl⟩
  | x :: s, h => by
    obtain ⟨bs, rfl⟩ := ofB_of (s := s) fun y hy => h y (List.mem_cons_of_mem _ hy)
    rcases h x (by simp) with rfl | rfl
    · exact ⟨true :: bs, rfl⟩
    · exact ⟨false :: bs, rfl⟩
def chk (bs : List Bool) : Bool := (ofB bs).sum % 3 != 1 || altB (ofB bs) || bs.length ≤ 1 || (List.range (bs.length - 1)).any (good (ofB bs))
theorem chk_all : ∀ n ∈ [0, 1, 2, 3, 4, 5, 6, 7, 8], (allB n).all chk = true := by decide +kernel
theorem Sg.step {s : List Int} (h : Sg s) (hl : 1 < s.length) : ∃ a, a + 1 < s.length ∧ good s a = true := by
  obtain ⟨bs, rfl⟩ := ofB_of h.pm
  have hlen : bs.length = (ofB bs).length := by simp [ofB]
  have h8 : bs.length ∈ [0, 1, 2, 3, 4, 5, 6, 7, 8] := by
    have := h.len
    rw [← hlen] at this
    simp; omega
  have h1 := List.all_eq_true.mp (chk_all _ h8) bs (mem_allB bs)
  unfold chk at h1
  have h2 : ((ofB bs).sum % 3 != 1) = false := by rw [h.sum]; rfl
  have h3 : decide (bs.length ≤ 1) = false := decide_eq_false (by omega)
  rw [h2, h.alt, h3] at h1
  simp only [Bool.false_or] at h1
  obtain ⟨a, ha, hg⟩ := List.any_eq_true.mp h1
  have := List.mem_range.mp ha
  exact ⟨a, by omega, hg⟩
theorem splitS {s : List Int} {a : Nat} (h : a + 1 < s.length) : s = s.take a ++ (s.getD a 0 :: s.getD (a + 1) 0 :: s.drop (a + 2)) := by
  have h1 := (List.take_append_drop a s).symm
  rw [List.drop_eq_getElem_cons (by omega), List.drop_eq_getElem_cons h] at h1
  have e1 : s.getD a 0 = s[a] := by simp [List.getD, show a < s.length by omega]
  have e2 : s.getD (a + 1) 0 = s[a + 1] := by simp [List.getD, h]
  rw [e1, e2]
  exact h1
theorem shorter_len {s : List Int} {a : Nat} (h : a + 1 < s.length) : (shorter s a).length + 1 = s.length := by
  unfold shorter; simp; omega
theorem Sg.keep {s : List Int} (h : Sg s) {a : Nat} (ha : a + 1 < s.length) (hg : good s a = true) : Sg (shorter s a) := by
  unfold good at hg
  rw [Bool.and_eq_true] at hg
  obtain ⟨h1, h2⟩ := hg
  have h1 : s.getD a 0 = s.getD (a + 1) 0 := by simpa using h1
  refine ⟨fun x hx => ?_, ?_, by simpa using h2, by have := shorter_len ha; have := h.len; omega⟩
  · unfold shorter at hx
    rw [List.mem_append, List.mem_append] at hx
    rcases hx with (hx | hx) | hx
    · exact h.pm x (List.mem_of_mem_take hx)
    · rw [List.mem_singleton] at hx
      have : s.getD a 0 ∈ s := by
        have : s.getD a 0 = s[a] := by simp [List.getD, show a < s.length by omega]
        rw [this]; exact List.getElem_mem _
      rcases h.pm _ this with q | q <;> omega
    · exact h.pm x (List.mem_of_mem_drop hx)
  · have e1 := congrArg List.sum (splitS ha)
    have e2 : (shorter s a).sum = (s.take a).sum + -(s.getD a 0) + (s.drop (a + 2)).sum := by unfold shorter; simp; omega
    simp only [List.sum_append, List.sum_cons] at e1
    have := h.sum
    omega
theorem Sg.one {s : List Int} (h : Sg s) (hl : s.length = 1) : s = [1] := by
  match s, hl with
  | [x], _ =>
    have h1 := h.sum
    rcases h.pm x (by simp) with rfl | rfl
    · rfl
    · simp at h1
theorem Sg.pos {s : List Int} (h : Sg s) : 1 ≤ s.length := by
  have h1 := h.sum
  match s with
  | [] => simp at h1
  | _ :: _ => simp
def Tr.signs : Int → Tr → List Int
  | s, .leaf _ => [s]
  | s, .node _ l r => l.signs (-s) ++ r.signs (-s)
def rowOf (ts : List Tr) (ss : List Int) : List Int := (ts.zip ss).flatMap fun p => p.1.signs p.2
theorem rowOf_merge {ts : List Tr} {ss : List Int} {a : Nat} (hl : ts.length = ss.length) (h : a + 1 < ss.length) (he : ss.getD a 0 = ss.getD (a + 1) 0) (n : Int) :
    rowOf (ts.take a ++ [Tr.node n (ts[a]'(by omega)) (ts[a + 1]'(by omega))] ++ ts.drop (a + 2)) (shorter ss a) = rowOf ts ss := by
  have h1 := split2 (ts := ts) (a := a) (by omega)
  have h2 := splitS h
  have hz : ts.zip ss = (ts.take a).zip (ss.take a) ++ ((ts[a]'(by omega), ss.getD a 0) :: (ts[a + 1]'(by omega), ss.getD (a + 1) 0) :: (ts.drop (a + 2)).zip (ss.drop (a + 2))) := by
    have hz0 : ts.zip ss = (ts.take a).zip (ss.take a) ++ (ts.drop a).zip (ss.drop a) := by
      rw [← List.zip_append (by simp [hl]), List.take_append_drop, List.take_append_drop]
    have d1 : ts.drop a = ts[a]'(by omega) :: ts[a + 1]'(by omega) :: ts.drop (a + 2) := by
      rw [List.drop_eq_getElem_cons (by omega), List.drop_eq_getElem_cons (by omega)]
    have d2 : ss.drop a = ss.getD a 0 :: ss.getD (a + 1) 0 :: ss.drop (a + 2) := by
      have e1 : ss.getD a 0 = ss[a]'(by omega) := by simp [List.getD, show a < ss.length by omega]
      have e2 : ss.getD (a + 1) 0 = ss[a + 1] := by simp [List.getD, h]
      rw [e1, e2, List.drop_eq_getElem_cons (by omega), List.drop_eq_getElem_cons (by omega)]
    rw [hz0, d1, d2]
    rfl
  have hz2 : (ts.take a ++ [Tr.node n (ts[a]'(by omega)) (ts[a + 1]'(by omega))] ++ ts.drop (a + 2)).zip (shorter ss a) = (ts.take a).zip (ss.take a) ++ ((Tr.node n (ts[a]'(by omega)) (ts[a + 1]'(by omega)), -(ss.getD a 0)) :: (ts.drop (a + 2)).zip (ss.drop (a + 2))) := by
    unfold shorter
    rw [List.append_assoc, List.append_assoc, List.zip_append (by simp [hl])]
    rfl
  unfold rowOf
  rw [hz, hz2]
  simp only [List.flatMap_append, List.flatMap_cons, Tr.signs, Int.neg_neg, ← he, List.append_assoc]

/-! part M27 -/
section
variable {Γ : Cx w T} {σ : St}
/-- the lists of a state, known by what is looked up in them -/
theorem exs_gen {ss : List Stmt} {Q : AF → St → Prop} {P : List AO → Nat → Prop} {loc : Nat → List (Str × AV)} {H : List AO} {q lo : Nat} (hle : StLe σ ⟨loc q, H, lo⟩) (h0 : P H q) (h : ∀ Hx q, P Hx q → ExS Γ ss ⟨loc q, Hx, lo⟩ Q) : ExS Γ ss σ Q := exs_le hle (h _ _ h0)
end
section
variable {Γ : Cx w T} {σ : St} (pr : Prg T)
theorem shorter_map (s : List Int) (a : Nat) : (List.take a (s.map SV.int) ++ [SV.int (-(s.getD a 0))]) ++ List.drop (a + 2) (s.map SV.int) = (shorter s a).map .int := by
  unfold shorter; simp [List.map_take, List.map_drop]
theorem text_le {names : List Str} {ts : List Tr} (hts : ts.flatMap Tr.leaves = names) (hnm : ∀ x ∈ names, x.length ≤ 2) (hl : names.length ≤ 8) : ∀ t ∈ ts, t.text.length ≤ 10000 := fun t ht => by
  have hsub : ∀ x ∈ t.leaves, x ∈ names := fun x hx => by rw [← hts]; exact List.mem_flatMap.mpr ⟨t, ht, hx⟩
  have h1 := t.text_len fun x hx => hnm x (hsub x hx)
  have h2 : t.leaves.length ≤ names.length := by rw [← hts]; exact leaves_le ht
  omega
theorem c_built (hr : 2 ≤ Γ.room) (sg : List Int) (names : List Str) (number : Int) (hsg : Sg sg) (hl : names.length = sg.length) (hnm : ∀ x ∈ names, x.length ≤ 2) {k k' : Nat} {o o' : AO} (ho : σ.H[k]? = some o) (hi : o.its = sg.map .int) (ho' : σ.H[k']? = some o') (hi' : ItsLe o'.its (names.map .str)) :
    CallOk Γ (pr.addr 70) [.obj k, .obj k', .int number] σ (fun r => ∃ t : Tr, t.leaves = names ∧ t.signs 1 = sg ∧ r = .val (.str t.text)) := by
  refine fn_def pr (args' := [.obj 0, .obj 1, .int number]) 70 [k, k'] [sg.map .int, names.map .str] 1 (by decide) ⟨rfl, fun j k₁ l h1 h2 => ?_⟩ ⟨rfl, rfl, .inl rfl, trivial⟩ hr (fun pm doc vs h => by obtain ⟨x, y, z, rfl⟩ := len3 h; kernel_rfl) (by decide +kernel) fun Γ' F => ?_
  · match j, h1, h2 with
    | 0, h1, h2 => cases h1; cases h2; exact ⟨o, ho, .inl hi⟩
    | 1, h1, h2 => cases h1; cases h2; exact ⟨o', ho', hi'⟩
  have szL : ∀ k : Nat, k ≤ 100 → k ≤ sizeLine := fun k h => Nat.le_trans h (by decide)
  have h8 := hsg.len
  refine exs_cons ?_
  repeat walk_at "e"
  refine exs_cons ?_
  have e0 : (names.map Tr.leaf).map Tr.text = names := by simp [Function.comp_def, Tr.text]
  refine ex_while (fun n c => ∃ (ss : List Int) (ts : List Tr) (H : List AO) (j jj : Nat) (b b' d d' : Bool), n = ss.length ∧ H[j]? = some ⟨b, b', (ts.map Tr.text).map .str⟩ ∧ H[jj]? = some ⟨d, d', ss.map .int⟩ ∧ Sg ss ∧ ts.length = ss.length ∧ ts.flatMap Tr.leaves = names ∧ rowOf ts ss = sg ∧ c = ⟨[("parts", .obj j), ("signs", .obj jj), ("number", .int number)], H, σ.lo⟩)
    ⟨sg.length, _, ⟨sg, names.map .leaf, [⟨false, false, sg.map .int⟩, ⟨false, false, names.map .str⟩], 1, 0, false, false, false, false, rfl, by rw [e0]; rfl, rfl, hsg, by simp [hl], by simp [List.flatMap_map, Tr.leaves], ?_, rfl⟩, by walk_at "le"⟩ ?_
  · have : ∀ (ns : List Str) (ss : List Int), ns.length = ss.length → rowOf (ns.map .leaf) ss = ss := by
      intro ns
      induction ns with
      | nil => intro ss h; cases ss with
        | nil => rfl
        | cons _ _ => simp at h
      | cons x ns ih => intro ss h; cases ss with
        | nil => simp at h
        | cons y ss =>
          have := ih ss (by simpa using h)
          unfold rowOf at this ⊢
          simp [Tr.signs, this]
    exact this names sg hl
  · rintro n c ⟨ss, ts, H, j, jj, b, b', d, d', rfl, hj, hjj, hss, htl, hts, hrow, rfl⟩
    have hs8 := hss.len
    have hlv := text_le hts hnm (by omega)
    repeat walk_at "e"
    refine ol_len hjj (by dsimp only; rw [List.length_map]; omega) ?_
    dsimp only
    rw [List.length_map]
    repeat walk_at "e"
    refine ⟨_, rfl, ?_⟩
    split
    · rename_i hc
      have hc : 1 < ss.length := by have : (ss.length : Int) > 1 := by simpa using hc
                                    omega
      refine exs_cons ?_
      repeat walk_at "e"
      refine ol_len hjj (by dsimp only; rw [List.length_map]; omega) ?_
      dsimp only
      rw [List.length_map]
      repeat walk_at "e"
      refine ⟨_, rfl, by omega, by omega, fun i c => ∃ (H' : List AO), H'[j]? = some ⟨b, b', (ts.map Tr.text).map .str⟩ ∧ H'[jj]? = some ⟨d, d', ss.map .int⟩ ∧ (∀ a, a < i → good ss a = false) ∧ c = ⟨[("parts", .obj j), ("signs", .obj jj), ("number", .int number)], H', σ.lo⟩, ⟨_, ⟨H, hj, hjj, fun a h => absurd h (Nat.not_lt_zero _), rfl⟩, StLe.refl _⟩, ?_, ?_⟩
      · rintro i v c hv ⟨H', hj', hjj', hbad, rfl⟩
        obtain ⟨rfl, hi⟩ := intsL_get hv
        have hi : i + 1 < ss.length := by omega
        have z : (0 : Int) + i = i := by omega
        rw [z]
        refine exs_cons ?_
        repeat walk_at "e"
        refine ⟨_, rfl, _, _, rfl, hjj', szL _ (by dsimp only; rw [List.length_map]; omega), ?_⟩
        rw [pick_take (by omega)]
        repeat walk_at "e"
        refine ev_index ?_
        repeat walk_at "e"
        refine ⟨_, _, _, _, rfl, rfl, get_lt hjj', by omega, by omega, getD_get (n := (i : Int).toNat) (by omega), ?_⟩
        repeat walk_at "e"
        refine ⟨[.int _], rfl, by show 1 ≤ sizeLine; decide, ?_⟩
        refine o_cat (get_lt get_len) get_len (szL _ (by simp; omega)) ?_
        repeat walk_at "e"
        refine ⟨_, rfl, ?_⟩
        repeat walk_at "e"
        refine ⟨_, _, rfl, get_lt (get_lt (get_lt hjj')), szL _ (by dsimp only; rw [List.length_map]; omega), ?_⟩
        rw [pick_drop (by omega)]
        refine o_cat (get_lt get_len) get_len (szL _ (by simp; omega)) ?_
        have e1 : (List.take (i : Int).toNat (ss.map SV.int) ++ [SV.int (-(ss.getD (i : Int).toNat 0))]) ++ List.drop ((i : Int) + 2).toNat (ss.map SV.int) = (shorter ss i).map .int := by
          have : ((i : Int) + 2).toNat = i + 2 := by omega
          rw [this]; exact shorter_map ss i
        refine exs_gen (P := fun Hx q => Hx[q]? = some ⟨true, true, (shorter ss i).map .int⟩ ∧ Hx[j]? = some ⟨b, b', (ts.map Tr.text).map .str⟩ ∧ Hx[jj]? = some ⟨d, d', ss.map .int⟩) (loc := fun q => [("shorter", .obj q), ("at", .int i), ("parts", .obj j), ("signs", .obj jj), ("number", .int number)]) (lo := σ.lo)
          (StLe.of ⟨rfl, rfl, rfl, rfl, rfl, trivial⟩ (HLe.refl _) (Nat.le_refl _)) ⟨by rw [← e1]; exact get_len, get_lt (get_lt (get_lt (get_lt (get_lt hj')))), get_lt (get_lt (get_lt (get_lt (get_lt hjj'))))⟩ fun Hx q ⟨hq, hjx, hjjx⟩ => ?_
        refine exs_cons (ex_if (evb_bool (evt_and (evb_cmp (ev_index ?_)))))
        repeat walk_at "e"
        refine ⟨_, _, _, _, rfl, rfl, hjjx, by omega, by omega, getD_get (n := (i : Int).toNat) (by omega), ?_⟩
        refine ev_index ?_
        repeat walk_at "e"
        refine ⟨_, _, _, _, rfl, rfl, hjjx, by omega, by omega, getD_get (n := ((i : Int) + 1).toNat) (by omega), ?_⟩
        repeat walk_at "e"
        refine ⟨_, rfl, ?_⟩
        have i2 : ((i : Int) + 1).toNat = i + 1 := by omega
        have i1 : (i : Int).toNat = i := by omega
        rw [i1, i2]
        have off : good ss i = false → ∃ c', (∃ (H' : List AO), H'[j]? = some ⟨b, b', (ts.map Tr.text).map .str⟩ ∧ H'[jj]? = some ⟨d, d', ss.map .int⟩ ∧ (∀ a, a < i + 1 → good ss a = false) ∧ c' = ⟨[("parts", .obj j), ("signs", .obj jj), ("number", .int number)], H', σ.lo⟩) ∧ StLe ⟨[("shorter", .obj q), ("at", .int i), ("parts", .obj j), ("signs", .obj jj), ("number", .int number)], Hx, σ.lo⟩ c' := fun hg =>
          ⟨_, ⟨Hx, hjx, hjjx, fun a ha => by
            rcases Nat.lt_or_ge a i with h | h
            · exact hbad a h
            · have : a = i := by omega
              rw [this]; exact hg, rfl⟩, by walk_at "le"⟩
        split
        · rename_i heq
          repeat walk_at "e"
          refine fn_call pr 68 F.fz (by decide) (by decide +kernel) (F.knd (by decide +kernel)) ?_
          repeat walk_at "e"
          refine ⟨_, c_alt pr F.room (shorter ss i) (by have := shorter_len hi; omega) hq rfl, fun r hr => ?_⟩
          subst hr
          show Op1 _ _ _ _ _ _
          repeat walk_at "e"
          split
          · rename_i ha
            have hgood : good ss i = true := by unfold good; rw [heq, ha]; rfl
            have hn1 : i < ts.length := by omega
            have hn2 : i + 1 < ts.length := by omega
            refine evt_nil ?_
            refine exs_cons (ex_break ?_)
            refine exs_cons ?_
            repeat walk_at "e"
            refine fn_call pr 66 F.fz (by decide) (by decide +kernel) (F.knd (by decide +kernel)) ?_
            refine evl_cons (ev_index ?_)
            repeat walk_at "e"
            refine ⟨_, _, _, _, rfl, rfl, hjx, by omega, by omega, get_map2 (n := (i : Int).toNat) (by omega), ?_⟩
            refine evl_cons (ev_index ?_)
            repeat walk_at "e"
            refine ⟨_, _, _, _, rfl, rfl, hjx, by omega, by omega, get_map2 (n := ((i : Int) + 1).toNat) (by omega), ?_⟩
            repeat walk_at "e"
            refine ol_len hjx (by dsimp only; rw [len_map2]; omega) ?_
            repeat walk_at "e"
            refine ⟨_, c_joined pr F.room _ _ _ (hlv _ (List.getElem_mem (by omega))) (hlv _ (List.getElem_mem (by omega))), fun r hr => ?_⟩
            subst hr
            refine exs_cons ?_
            repeat walk_at "e"
            refine ⟨_, rfl, _, _, rfl, hjx, szL _ (by dsimp only; rw [len_map2]; omega), ?_⟩
            rw [pick_take (by omega)]
            repeat walk_at "e"
            refine ⟨[.str _], rfl, by show 1 ≤ sizeLine; decide, ?_⟩
            refine o_cat (get_lt get_len) get_len (szL _ (by simp; omega)) ?_
            repeat walk_at "e"
            refine ⟨_, rfl, ?_⟩
            repeat walk_at "e"
            refine ⟨_, _, rfl, get_lt (get_lt (get_lt hjx)), szL _ (by dsimp only; rw [len_map2]; omega), ?_⟩
            rw [pick_drop (by omega)]
            refine o_cat (get_lt get_len) get_len (szL _ (by simp; omega)) ?_
            refine exs_cons ?_
            repeat walk_at "e"
            have hsl := shorter_len hi
            have i3 : ((i : Int) + 2).toNat = i + 2 := by omega
            have eits : (List.take (i : Int).toNat ((ts.map Tr.text).map SV.str) ++ [SV.str (joinS ts[(i : Int).toNat].text ts[((i : Int) + 1).toNat].text (number + (((ts.map Tr.text).map SV.str).length : Nat)))]) ++ List.drop ((i : Int) + 2).toNat ((ts.map Tr.text).map SV.str) = ((ts.take i ++ [Tr.node (number + (((ts.map Tr.text).map SV.str).length : Nat)) ts[i] ts[i + 1]] ++ ts.drop (i + 2)).map Tr.text).map SV.str := by
              rw [i3]
              have h2 : ts[((i : Int) + 1).toNat] = ts[i + 1] := by congr 1
              rw [h2]
              simp [List.map_take, List.map_drop, Tr.text]
            refine ⟨(shorter ss i).length, _, by omega, ⟨shorter ss i, ts.take i ++ [Tr.node (number + (((ts.map Tr.text).map SV.str).length : Nat)) ts[i] ts[i + 1]] ++ ts.drop (i + 2), _, _, q, true, true, true, true, rfl, by rw [← eits]; exact get_len, get_lt (get_lt (get_lt (get_lt (get_lt hq)))), hss.keep hi hgood, ?_, ?_, ?_, rfl⟩, StLe.of ⟨rfl, rfl, rfl, trivial⟩ (HLe.refl _) (Nat.le_refl _)⟩
            · simp; omega
            · have h3 := congrArg (List.flatMap Tr.leaves) (split2 hn2)
              rw [List.flatMap_append, List.flatMap_cons, List.flatMap_cons] at h3
              rw [← hts, h3]
              simp [Tr.leaves]
            · rw [rowOf_merge htl hi (by simpa using heq)]
              exact hrow
          · rename_i ha
            have ha : altB (shorter ss i) = true := by simpa using ha
            rw [if_neg Bool.false_ne_true]
            exact exs_nil (exs_nil (off (by unfold good; rw [heq, ha]; rfl)))
        · rename_i heq
          have heq : (ss.getD i 0 == ss.getD (i + 1) 0) = false := by simpa using heq
          rw [if_neg Bool.false_ne_true]
          exact exs_nil (exs_nil (off (by unfold good; rw [heq]; rfl)))
      · rintro c ⟨H', hj', hjj', hbad, rfl⟩
        obtain ⟨a, ha, hg⟩ := hss.step hc
        have := hbad a (by rw [intsL_len]; omega)
        rw [hg] at this; cases this
    · rename_i hc
      have hc : ss.length = 1 := by
        have h1 : ¬ (ss.length : Int) > 1 := by simpa using hc
        have := hss.pos
        omega
      have h1 := hss.one hc
      subst h1
      match ts, htl with
      | [t], _ =>
        refine exs_nil (exs_cons (ex_ret (ev_index ?_)))
        repeat walk_at "e"
        refine ⟨_, _, _, .str t.text, rfl, rfl, hj, by decide, by decide, rfl, ?_⟩
        exact ⟨t, by simpa using hts, by simpa [rowOf] using hrow, rfl⟩
end

/-! part M28 -/
abbrev SSt := Int × Option Int × List Str
def stepS (x : Str) (s : SSt) (t : Int × Str) : SSt :=
  if t.2 == "\"" then
    match s.2.1 with
    | none => (s.1, some t.1, s.2.2)
    | some o => (t.1 + 1, none, if s.1 != o then s.2.2 ++ [Txt.slice x (some s.1) (some o)] else s.2.2)
  else s
def foldS (x : Str) (l : List (Int × Str)) : SSt := l.foldl (stepS x) (0, none, [])
def stripR (x : Str) : Str :=
  if Txt.contains x "\"" then
    let s := foldS x (escOf x)
    Txt.join "" (if s.1 < (x.length : Nat) then s.2.2 ++ [Txt.slice x (some s.1) none] else s.2.2)
  else x
theorem esc_len : ∀ (cs : List Nat) (e : Bool) (p : Int) (i : Nat), (esc e p i cs).length ≤ cs.length + (if e then 1 else 0)
  | [], e, p, i => by cases e <;> simp [esc]
  | c :: cs, true, p, i => by
    have := esc_len cs false i (i + 1)
    simp only [esc, List.length_cons] at this ⊢
    simp at this ⊢; omega
  | c :: cs, false, p, i => by
    by_cases h : c = 92
    · have := esc_len cs true i (i + 1)
      simp only [esc, h, if_true] at this ⊢
      simp at this ⊢; omega
    · have := esc_len cs false i (i + 1)
      simp only [esc, h, if_false] at this ⊢
      simp at this ⊢; omega
theorem escOf_len (x : Str) : (escOf x).length ≤ x.length := by
  have := esc_len x.cps.toList false 0 0
  simp at this
  exact this
theorem foldS_inv (x : Str) (l : List (Int × Str)) : ∀ s : SSt, (∀ y ∈ s.2.2, y.length ≤ x.length) → (∀ y ∈ (l.foldl (stepS x) s).2.2, y.length ≤ x.length) ∧ (l.foldl (stepS x) s).2.2.length ≤ s.2.2.length + l.length := by
  induction l with
  | nil => intro s h; exact ⟨h, Nat.le_refl _⟩
  | cons t l ih =>
    intro s h
    have key : (∀ y ∈ (stepS x s t).2.2, y.length ≤ x.length) ∧ (stepS x s t).2.2.length ≤ s.2.2.length + 1 := by
      unfold stepS
      split
      · split
        · exact ⟨h, Nat.le_succ _⟩
        · split
          · refine ⟨fun y hy => ?_, by simp⟩
            rcases List.mem_append.mp hy with q | q
            · exact h y q
            · rw [List.mem_singleton.mp q]; exact Txt.slice_le _ _ _
          · exact ⟨h, Nat.le_succ _⟩
      · exact ⟨h, Nat.le_succ _⟩
    have := ih _ key.1
    refine ⟨this.1, ?_⟩
    have h2 := this.2
    have h3 := key.2
    rw [List.foldl_cons, List.length_cons]
    omega
theorem sum_le (n : Nat) : ∀ l : List Str, (∀ y ∈ l, y.length ≤ n) → (l.map (·.length)).sum ≤ l.length * n
  | [], _ => by simp
  | y :: l, h => by
    have h1 := h y (by simp)
    have h2 := sum_le n l fun z hz => h z (by simp [hz])
    simp only [List.map_cons, List.sum_cons, List.length_cons, Nat.add_mul, Nat.one_mul]
    omega
def opV : Option Int → SV
  | none => .none
  | some o => .int o
section
variable {Γ : Cx w T} {σ : St} (pr : Prg T)
theorem c_strip (hr : 3 ≤ Γ.room) (x : Str) (hx : x.length ≤ 1000) (ha : Ascii x) : CallOk Γ (pr.addr 7) [.str x] σ (fun r => r = .val (.str (stripR x))) := by
  refine fn_def pr (args' := [.str x]) 7 [] [] 2 (by decide) ⟨rfl, fun j k l h => by simp at h⟩ ⟨.inl rfl, trivial⟩ hr (fun pm doc vs h => by obtain ⟨x, rfl⟩ := len1 h; kernel_rfl) (by decide +kernel) fun Γ' F => ?_
  have hz : x.length ≤ sizeLine := Nat.le_trans hx (by decide)
  refine exs_cons ?_
  repeat walk_at "e"
  refine ⟨_, rfl, ?_⟩
  split
  · rename_i hc
    have hc : Txt.contains x "\"" = false := by simpa using hc
    refine exs_cons ?_
    repeat walk_at "e"
    show _ = _
    unfold stripR
    rw [if_neg (by rw [hc]; decide)]
  · rename_i hc
    have hc : Txt.contains x "\"" = true := by simpa using hc
    refine exs_nil ?_
    refine exs_cons ?_
    repeat walk_at "e"
    refine exs_cons ?_
    repeat walk_at "e"
    refine exs_cons ?_
    repeat walk_at "e"
    refine ⟨[], rfl, by decide, ?_⟩
    refine exs_cons ?_
    repeat walk_at "e"
    refine it_esc (pr.defs 6 (by decide)) F.fz F.room (F.knd (by decide +kernel)) ((show nameAt 6 = "_iter_escaped_chars" by decide +kernel) ▸ pr.glob 6 (by decide)) (pr.bi _ (by decide)) ?_
    repeat walk_at "e"
    refine ⟨_, _, rfl, str_is, ha, fun i c => c = ⟨[("start", .int (foldS x ((escOf x).take i)).1), ("open_pos", .sv (opV (foldS x ((escOf x).take i)).2.1)), ("result", .obj 0), ("addr", .str x)], [⟨true, true, (foldS x ((escOf x).take i)).2.2.map .str⟩], σ.lo⟩, ⟨_, rfl, by walk_at "le"⟩, ?_, ?_⟩
    · rintro i v1 v2 c hi ⟨p, y, hi', hpy, rfl, rfl⟩ rfl
      have hstep : foldS x ((escOf x).take (i + 1)) = stepS x (foldS x ((escOf x).take i)) (p, y) := by
        unfold foldS
        have : (escOf x).take (i + 1) = (escOf x).take i ++ [(p, y)] := by
          rw [List.take_succ, hpy]; rfl
        rw [this, List.foldl_append]; rfl
      have hfl : (foldS x ((escOf x).take i)).2.2.length ≤ 1000 := by
        have := (foldS_inv x ((escOf x).take i) (0, none, []) (by simp)).2
        have h2 := escOf_len x
        unfold foldS
        simp at this
        omega
      generalize foldS x ((escOf x).take i) = f at hstep hfl ⊢
      obtain ⟨st, op, res⟩ := f
      refine exs_cons ?_
      repeat walk_at "e"
      refine ⟨_, rfl, ?_⟩
      split
      · rename_i hy
        refine exs_cons ?_
        repeat walk_at "e"
        refine ⟨_, rfl, ?_⟩
        cases op with
        | none =>
          refine exs_cons ?_
          repeat walk_at "e"
          have e : stepS x (st, none, res) (p, y) = (st, some p, res) := by unfold stepS; rw [if_pos hy]
          rw [e] at hstep
          refine ⟨_, rfl, ?_⟩
          rw [hstep]
          walk_at "le"
        | some o =>
          have e : stepS x (st, some o, res) (p, y) = (p + 1, none, if st != o then res ++ [Txt.slice x (some st) (some o)] else res) := by unfold stepS; rw [if_pos hy]
          rw [e] at hstep
          show ExS _ _ _ _
          refine exs_cons ?_
          repeat walk_at "e"
          refine o_ne ?_
          refine ⟨_, rfl, ?_⟩
          have hfl : res.length ≤ 1000 := hfl
          split
          · rename_i hne
            rw [if_pos hne] at hstep
            refine exs_cons ?_
            repeat walk_at "e"
            refine ⟨_, _, rfl, rfl, rfl, rfl, ?_⟩
            refine ev_sslice ?_
            repeat walk_at "e"
            refine ⟨_, rfl, ?_⟩
            repeat walk_at "e"
            refine ⟨_, rfl, ?_⟩
            refine ⟨_, rfl, hz, ?_⟩
            refine ⟨_, rfl, rfl, by show (res.map SV.str).length ≤ _; rw [List.length_map]; exact Nat.le_trans hfl (by decide), rfl, ?_⟩
            refine exs_nil ?_
            refine exs_cons ?_
            repeat walk_at "e"
            refine exs_cons ?_
            repeat walk_at "e"
            refine ⟨_, rfl, ?_⟩
            rw [hstep]
            walk_at "le"
          · rename_i hne
            rw [if_neg hne] at hstep
            refine exs_nil ?_
            refine exs_cons ?_
            repeat walk_at "e"
            refine exs_cons ?_
            repeat walk_at "e"
            refine ⟨_, rfl, ?_⟩
            rw [hstep]
            walk_at "le"
      · rename_i hy
        have e : stepS x (st, op, res) (p, y) = (st, op, res) := by unfold stepS; rw [if_neg hy]
        rw [e] at hstep
        refine exs_nil (exs_nil ⟨_, rfl, ?_⟩)
        rw [hstep]
        walk_at "le"
    · rintro c rfl
      rw [List.take_of_length_le (Nat.le_refl _)]
      have hfl : (foldS x (escOf x)).2.2.length ≤ 1000 := by
        have := (foldS_inv x (escOf x) (0, none, []) (by simp)).2
        have h2 := escOf_len x
        unfold foldS
        simp at this
        omega
      have hfs : ∀ y ∈ (foldS x (escOf x)).2.2, y.length ≤ x.length := (foldS_inv x (escOf x) (0, none, []) (by simp)).1
      have hR : stripR x = Txt.join "" (if (foldS x (escOf x)).1 < (x.length : Nat) then (foldS x (escOf x)).2.2 ++ [Txt.slice x (some (foldS x (escOf x)).1) none] else (foldS x (escOf x)).2.2) := by
        unfold stripR; rw [if_pos hc]
      generalize foldS x (escOf x) = f at hfl hR hfs ⊢
      obtain ⟨st, op, res⟩ := f
      have hfl : res.length ≤ 1000 := hfl
      have hfs : ∀ y ∈ res, y.length ≤ x.length := hfs
      have e00 : ("" : Str).length = 0 := by decide +kernel
      refine exs_nil ?_
      refine exs_cons ?_
      repeat walk_at "e"
      refine ⟨_, rfl, ?_⟩
      split
      · rename_i hlt
        have hlt : st < (x.length : Nat) := by simpa using hlt
        refine exs_cons ?_
        repeat walk_at "e"
        refine ⟨_, _, rfl, rfl, rfl, rfl, ?_⟩
        refine ev_sslice ?_
        repeat walk_at "e"
        refine ⟨_, rfl, ?_⟩
        repeat walk_at "e"
        refine ⟨_, rfl, hz, ?_⟩
        refine ⟨_, rfl, rfl, by show (res.map SV.str).length ≤ _; rw [List.length_map]; exact Nat.le_trans hfl (by decide), rfl, ?_⟩
        refine exs_nil ?_
        refine exs_cons (ex_ret (ev_join (ev_str ⟨_, rfl, ?_⟩)))
        repeat walk_at "e"
        refine ⟨_, _, res ++ [Txt.slice x (some st) none], rfl, rfl, by simp, ?_, ?_⟩
        · have := sum_le x.length (res ++ [Txt.slice x (some st) none]) (fun y hy => by
            rcases List.mem_append.mp hy with q | q
            · exact hfs y q
            · rw [List.mem_singleton.mp q]; exact Txt.slice_le _ _ _)
          rw [e00, Nat.mul_zero, Nat.add_zero]
          refine Nat.le_trans this ?_
          have h1 : (res ++ [Txt.slice x (some st) none]).length ≤ 1001 := by simp; omega
          exact Nat.le_trans (Nat.mul_le_mul h1 hx) (by decide)
        · show _ = _
          rw [hR, if_pos hlt]
      · rename_i hlt
        have hlt : ¬ st < (x.length : Nat) := by simpa using hlt
        refine exs_nil ?_
        refine exs_cons (ex_ret (ev_join (ev_str ⟨_, rfl, ?_⟩)))
        repeat walk_at "e"
        refine ⟨_, _, res, rfl, rfl, rfl, ?_, ?_⟩
        · have := sum_le x.length res hfs
          rw [e00, Nat.mul_zero, Nat.add_zero]
          refine Nat.le_trans this ?_
          exact Nat.le_trans (Nat.mul_le_mul hfl hx) (by decide)
        · show _ = _
          rw [hR, if_neg hlt]
end

/-! part M29 -/
def chkF : List (Int × Str) → Int → Bool
  | [], n => n == 0
  | t :: r, n => if t.2 == "(" then chkF r (n + 1) else if t.2 == ")" then (if n - 1 < 0 then false else chkF r (n - 1)) else chkF r n
theorem chkF_cons (p : Int) (y : Str) (r : List (Int × Str)) (n : Int) : chkF ((p, y) :: r) n = if y == "(" then chkF r (n + 1) else if y == ")" then (if n - 1 < 0 then false else chkF r (n - 1)) else chkF r n := rfl
def checkR (x : Str) : Bool := chkF (escOf (stripR x)) 0
def keptR (x : Str) : Str := if checkR x then x else "('', '')"
structure Fine (x : Str) : Prop where
  l1 : x.length ≤ 1000
  a1 : Ascii x
  l2 : (stripR x).length ≤ 1000
  a2 : Ascii (stripR x)
section
variable {Γ : Cx w T} {σ : St} (pr : Prg T)
theorem c_check (hr : 4 ≤ Γ.room) (x : Str) (hx : Fine x) : CallOk Γ (pr.addr 8) [.str x] σ (fun r => r = .val (.bool (checkR x))) := by
  refine fn_def pr (args' := [.str x]) 8 [] [] 3 (by decide) ⟨rfl, fun j k l h => by simp at h⟩ ⟨.inl rfl, trivial⟩ hr (fun pm doc vs h => by obtain ⟨x, rfl⟩ := len1 h; kernel_rfl) (by decide +kernel) fun Γ' F => ?_
  refine exs_cons ?_
  repeat walk_at "e"
  refine fn_call pr 7 F.fz (by decide) (by decide +kernel) (F.knd (by decide +kernel)) ?_
  repeat walk_at "e"
  refine ⟨_, c_strip pr F.room x hx.l1 hx.a1, fun r hr => ?_⟩
  subst hr
  refine exs_cons ?_
  repeat walk_at "e"
  refine exs_cons ?_
  repeat walk_at "e"
  refine it_esc (pr.defs 6 (by decide)) F.fz (Nat.le_trans (by decide) F.room) (F.knd (by decide +kernel)) ((show nameAt 6 = "_iter_escaped_chars" by decide +kernel) ▸ pr.glob 6 (by decide)) (pr.bi _ (by decide)) ?_
  repeat walk_at "e"
  refine ⟨_, _, rfl, str_is, hx.a2, fun i c => ∃ n : Int, checkR x = chkF ((escOf (stripR x)).drop i) n ∧ c = ⟨[("opens", .int n)], [], σ.lo⟩, ⟨_, ⟨0, rfl, rfl⟩, by walk_at "le"⟩, ?_, ?_⟩
  · rintro i v1 v2 c hi ⟨p, y, hi', hpy, rfl, rfl⟩ ⟨n, hn, rfl⟩
    have hd : (escOf (stripR x)).drop i = (p, y) :: (escOf (stripR x)).drop (i + 1) := by
      obtain ⟨h1, h2⟩ := List.getElem?_eq_some_iff.mp hpy
      rw [List.drop_eq_getElem_cons h1, h2]
    rw [hd] at hn
    refine exs_cons ?_
    repeat walk_at "e"
    refine ⟨_, rfl, ?_⟩
    split
    · rename_i hy
      have hn : checkR x = chkF ((escOf (stripR x)).drop (i + 1)) (n + 1) := by rw [hn, chkF_cons, if_pos hy]
      refine exs_cons ?_
      repeat walk_at "e"
      exact ⟨_, ⟨_, hn, rfl⟩, by walk_at "le"⟩
    · rename_i hy
      refine exs_cons ?_
      repeat walk_at "e"
      refine ⟨_, rfl, ?_⟩
      split
      · rename_i hy2
        refine exs_cons ?_
        repeat walk_at "e"
        refine exs_cons ?_
        repeat walk_at "e"
        refine ⟨_, rfl, ?_⟩
        split
        · rename_i hlt
          have hlt : n - 1 < 0 := by simpa using hlt
          refine exs_cons ?_
          repeat walk_at "e"
          show _ = _
          rw [hn, chkF_cons, if_neg hy, if_pos hy2, if_pos hlt]
        · rename_i hlt
          have hlt : ¬ n - 1 < 0 := by simpa using hlt
          have hn : checkR x = chkF ((escOf (stripR x)).drop (i + 1)) (n - 1) := by rw [hn, chkF_cons, if_neg hy, if_pos hy2, if_neg hlt]
          repeat refine exs_nil ?_
          exact ⟨_, ⟨_, hn, rfl⟩, by walk_at "le"⟩
      · rename_i hy2
        have hn : checkR x = chkF ((escOf (stripR x)).drop (i + 1)) n := by rw [hn, chkF_cons, if_neg hy, if_neg hy2]
        repeat refine exs_nil ?_
        exact ⟨_, ⟨_, hn, rfl⟩, by walk_at "le"⟩
  · rintro c ⟨n, hn, rfl⟩
    rw [List.drop_of_length_le (Nat.le_refl _)] at hn
    refine exs_nil ?_
    refine exs_cons ?_
    repeat walk_at "e"
    show _ = _
    rw [hn]; rfl
theorem c_valid (hr : 5 ≤ Γ.room) (xs : List Str) (hl : xs.length ≤ 100) (hx : ∀ x ∈ xs, Fine x) {k : Nat} {o : AO} (ho : σ.H[k]? = some o) (hi : ItsLe o.its (xs.map .str)) : CallOk Γ (pr.addr 9) [.obj k] σ (fun r => r = .lst ((xs.map keptR).map .str)) := by
  refine fn_def pr (args' := [.obj 0]) 9 [k] [xs.map .str] 4 (by decide) ⟨rfl, fun j k' l h1 h2 => ?_⟩ ⟨rfl, trivial⟩ hr (fun pm doc vs h => by obtain ⟨x, rfl⟩ := len1 h; kernel_rfl) (by decide +kernel) fun Γ' F => ?_
  · match j, h1, h2 with
    | 0, h1, h2 => cases h1; cases h2; exact ⟨o, ho, hi⟩
  refine exs_cons ?_
  repeat walk_at "e"
  refine ⟨[], rfl, by decide, ?_⟩
  refine exs_cons ?_
  repeat walk_at "e"
  refine ⟨_, _, rfl, rfl, rfl, fun i c => c = ⟨[("accepted_values", .obj 1)], [⟨false, false, xs.map .str⟩, ⟨true, true, ((xs.take i).map keptR).map .str⟩], σ.lo⟩, ⟨_, rfl, by walk_at "le"⟩, ?_, ?_⟩
  · rintro i v c hv rfl
    have hv : (xs.map SV.str)[i]? = some v := hv
    have hi : i < xs.length := by have := (List.getElem?_eq_some_iff.mp hv).1; simpa using this
    have hv' : v = .str xs[i] := by simp [hi] at hv; exact hv.symm
    subst hv'
    have fin : ∀ z, z = keptR xs[i] → ((xs.take i).map keptR).map SV.str ++ [SV.str z] = ((xs.take (i + 1)).map keptR).map SV.str := fun z hz => by
      have e : xs.take (i + 1) = xs.take i ++ [xs[i]] := by rw [List.take_succ, List.getElem?_eq_getElem hi]; rfl
      rw [e, hz, List.map_append, List.map_append]; rfl
    refine exs_cons ?_
    repeat walk_at "e"
    refine fn_call pr 8 F.fz (by decide) (by decide +kernel) (F.knd (by decide +kernel)) ?_
    repeat walk_at "e"
    refine ⟨_, c_check pr F.room _ (hx _ (List.getElem_mem hi)), fun r hr => ?_⟩
    subst hr
    show Op1 _ _ _ _ _ _
    repeat walk_at "e"
    split
    · rename_i hc
      have hc : checkR xs[i] = false := by simpa using hc
      refine exs_cons ?_
      repeat walk_at "e"
      refine exs_cons ?_
      repeat walk_at "e"
      refine ⟨_, _, rfl, rfl, rfl, rfl, ?_⟩
      repeat walk_at "e"
      refine ⟨_, rfl, rfl, by show (((xs.take i).map keptR).map SV.str).length ≤ _; simp; exact Nat.le_trans (show min i xs.length ≤ 100 by omega) (by decide), rfl, ?_⟩
      refine exs_nil ⟨_, rfl, StLe.of ⟨rfl, trivial⟩ ⟨⟨id, id, .inl rfl⟩, ⟨id, id, .inl (fin _ (by unfold keptR; rw [if_neg (by rw [hc]; decide)]))⟩, trivial⟩ (Nat.le_refl _)⟩
    · rename_i hc
      have hc : checkR xs[i] = true := by simpa using hc
      refine exs_nil ?_
      refine exs_cons ?_
      repeat walk_at "e"
      refine ⟨_, _, rfl, rfl, rfl, rfl, ?_⟩
      repeat walk_at "e"
      refine ⟨_, rfl, rfl, by show (((xs.take i).map keptR).map SV.str).length ≤ _; simp; exact Nat.le_trans (show min i xs.length ≤ 100 by omega) (by decide), rfl, ?_⟩
      refine exs_nil ⟨_, rfl, StLe.of ⟨rfl, trivial⟩ ⟨⟨id, id, .inl rfl⟩, ⟨id, id, .inl (fin _ (by unfold keptR; rw [if_pos hc]))⟩, trivial⟩ (Nat.le_refl _)⟩
  · rintro c rfl
    refine exs_nil ?_
    refine exs_cons ?_
    repeat walk_at "e"
    refine ⟨_, rfl, rfl, ?_⟩
    show RV.lst _ = _
    rw [List.take_of_length_le (by simp)]
end

/-! part M30 -/
structure Tok8 (T : Top0) where
  tok : Addr
  D : List (Str × KTD.Dat)
  g : T.mg "EXACT_TOKEN_TYPES" = some (.ref tok)
  tab : KTD.TextTab T.B tok D
  t1 : ∀ p ∈ sigTab, KTD.datumAt p.1 D = some (.flat (.int p.2))
  t2 : ∀ x ∈ names8, KTD.inKeys x D = false
def NamesOk (lo : Nat) (its : List SV) : Prop := its.length = 8 ∧ ∀ (i : Nat) x, names8[i]? = some x → ∃ a b, its[i]? = some (.strT x a b) ∧ 1 ≤ a ∧ b ≤ lo
section
variable {Γ : Cx w T} {σ : St}
theorem o_intab {X : SV} {k : Str} {a : Addr} {D : List (Str × KTD.Dat)} (tb : KTD.TextTab T.B a D) (hX : ∀ v, X.is v → ∃ t, v = .str k t) {Q : AV → St → Prop} (h : Q (.bool (KTD.inKeys k D)) σ) : Op2 Γ AV.is (compareOp .In) (.sv X) (.con (.ref a)) σ Q := by
  intro s as v v' r hv hv'
  obtain ⟨t, rfl⟩ := hX v hv
  have : v' = .ref a := hv'
  subst this
  exact KTD.in_text (h₀ := T.B) ⟨tb, r.base⟩ ⟨.bool _, σ, as, rfl, .tok r (Nat.le_succ _), h⟩
theorem ev_dict {value slice : Expr} {pos : Pos} {k : Str} {i : Int} {a : Addr} {D : List (Str × KTD.Dat)} (tb : KTD.TextTab T.B a D) (hk : KTD.datumAt k D = some (.flat (.int i))) {Q : AV → St → Prop}
    (h : EvE Γ value σ (fun o σ₁ => o = .con (.ref a) ∧ EvE Γ slice σ₁ (fun u σ₂ => (∃ X, u = .sv X ∧ ∀ v, X.is v → ∃ t, v = .str k t) ∧ Q (.int i) σ₂)))
    (hs : ∀ a tk, subscripted slice false (.ref a) (.str k tk) = operate [.ref a, .str k tk] (getItem (.ref a) (.str k tk)) := by intro _ _; with_unfolding_all rfl) (hg : ∀ o r, letTemporaryGo value o r = pure () := by intro _ _; rfl) : EvE Γ (.Subscript value slice pos) σ Q := fun s as r =>
  Subscript_ (wpAny_mono (h s as r) (fun v s₁ ⟨va, σ₁, as₁, ha, A₁, e, h₁⟩ => wpAny_mono (h₁ s₁ as₁ A₁.rel) (fun u s₂ hu => by
    subst e
    have : v = .ref a := ha
    subst this
    obtain ⟨ua, σ₂, as₂, hua, A₂, ⟨X, rfl, hX⟩, hq⟩ := hu
    obtain ⟨t, rfl⟩ := hX u hua
    have H : KTD.Here T.B s₂.heap a D := ⟨tb, A₂.rel.base⟩
    refine subscriptTail_builtin H.typeIs slot_dict_getitem.lookup ?_ (hs _ _) (hg _)
    unfold getItem
    try with_reducible refine wpAny_holding ?_
    refine wpAny_bind (wpAny_sequenceKey H.typeIs (by decide) ?_)
    refine wpAny_bind (wpAny_callSpecial?_slot (name := Str.ofString "__getitem__") H.typeIs slot_dict_getitem (wpAny_call_entry slot_dict_getitem H.typeIs entry_dict_getitem ?_ (args_dict_getitem _ _)))
    show wpAny _ _ (dictGet a (.str k t) >>= _) _ _ s₂
    refine wpAny_bind (KTD.dictGet_text H (fun d v hd hv => ?_) fun hn => by rw [hk] at hn; cases hn)
    rw [hk] at hd
    cases hd
    have hv' : ∃ t', v = .int i t' := KTD.Opened.of (P := fun v => ∃ t', v = .int i t') (KTD.opened_int fun t => ⟨t, rfl⟩) v hv
    exact wpAny_pure ⟨v, rfl, wpAny_pure ⟨.int i, σ₂, as₂, hv', (A₁.trans A₂).trans (After.tok A₂.rel (Nat.le_succ _)), hq⟩⟩) fun _ _ h => h) fun _ _ h => h)
end
section
variable {Γ : Cx w T} {σ : St} (pr : Prg T)
theorem c_indexOf (hr : 1 ≤ Γ.room) (its : List SV) (xs : List Str) (y : Str) (idx l u : Nat) (hlen : its.length = xs.length) (hlt : xs.length ≤ 100)
    (hits : ∀ (i : Nat) x, xs[i]? = some x → ∃ a b, its[i]? = some (.strT x a b) ∧ 1 ≤ a ∧ b ≤ l) (hidx : xs[idx]? = some y) (hnot : ∀ (j : Nat), j < idx → xs[j]? ≠ some y) {k : Nat} {o : AO} (ho : σ.H[k]? = some o) (hi : o.its = its) :
    CallOk Γ (pr.addr 4) [.obj k, .sv (.strT y l u)] σ (fun r => r = .val (.int idx)) := by
  refine fn_def pr (args' := [.obj 0, .sv (.strT y l u)]) 4 [k] [its] 0 (by decide) ⟨rfl, fun j k' l h1 h2 => ?_⟩ ⟨rfl, .inl rfl, trivial⟩ hr (fun pm doc vs h => by obtain ⟨x, y, rfl⟩ := len2 h; kernel_rfl) (by decide +kernel) fun Γ' F => ?_
  · match j, h1, h2 with
    | 0, h1, h2 => cases h1; cases h2; exact ⟨o, ho, .inl hi⟩
  have hil : idx < xs.length := (List.getElem?_eq_some_iff.mp hidx).1
  refine exs_cons ?_
  repeat walk_at "e"
  refine ⟨_, _, rfl, rfl, rfl, fun i c => i ≤ idx ∧ c = ⟨[("a", .obj 0), ("b", .sv (.strT y l u))], [⟨false, false, its⟩], σ.lo⟩, ⟨_, ⟨Nat.zero_le _, rfl⟩, by walk_at "le"⟩, ?_, ?_⟩
  · rintro i v1 v2 c hi ⟨rfl, h2⟩ ⟨hle, rfl⟩
    have hi : i < its.length := hi
    have h2 : its[i]? = some v2 := h2
    obtain ⟨x, hx⟩ : ∃ x, xs[i]? = some x := ⟨xs[i]'(by omega), by simp [show i < xs.length by omega]⟩
    obtain ⟨a, b, hab, h1a, hbl⟩ := hits i x hx
    rw [h2] at hab
    cases hab
    refine exs_cons (ex_if (evb_bool (evt_or (evb_cmp ?_))))
    repeat walk_at "e"
    refine o_isstr h1a hbl fun c hc => ⟨c, rfl, ?_⟩
    have here : x = y → i = idx := fun hxy => by
      rcases Nat.lt_or_ge i idx with h | h
      · exact absurd (hxy ▸ hx) (hnot i h)
      · omega
    have past : x ≠ y → i + 1 ≤ idx := fun hxy => by
      rcases Nat.lt_or_ge i idx with h | h
      · omega
      · have : i = idx := by omega
        subst this
        rw [hx] at hidx
        exact absurd (Option.some.inj hidx) hxy
    cases c with
    | true =>
      rw [if_pos rfl, if_pos rfl]
      refine exs_cons ?_
      repeat walk_at "e"
      show _ = _
      rw [here (hc rfl)]
    | false =>
      rw [if_neg Bool.false_ne_true]
      refine evt_or (evb_cmp ?_)
      repeat walk_at "e"
      refine ⟨_, rfl, ?_⟩
      by_cases hxy : x = y
      · rw [if_pos (by simpa using hxy), if_pos rfl]
        refine exs_cons ?_
        repeat walk_at "e"
        show _ = _
        rw [here hxy]
      · rw [if_neg (by simpa using hxy)]
        refine evt_nil ?_
        refine exs_nil (exs_nil ⟨_, ⟨past hxy, rfl⟩, by walk_at "le"⟩)
  · rintro c ⟨hle, rfl⟩
    exact absurd hle (by show ¬ its.length ≤ idx; omega)
end

/-! part M31 -/
def symOf (y : Str) : Int := match sigTab.lookup y with
  | some i => i
  | none => 256 + (names8.idxOf y : Nat)
theorem sym_sig : ∀ p ∈ sigTab, symOf p.1 = p.2 := by decide +kernel
theorem sym_name : ∀ y ∈ names8, symOf y = 256 + (names8.idxOf y : Nat) := by decide +kernel
theorem idx_name : ∀ y ∈ names8, names8[names8.idxOf y]? = some y ∧ ∀ j, j < names8.idxOf y → names8[j]? ≠ some y := by decide +kernel
def symL (x : Str) : List Int := (escOf (stripR x)).map (fun t => symOf t.2) ++ [0]
def Spelt (x : Str) : Prop := ∀ t ∈ escOf (stripR x), (∃ i, (t.2, i) ∈ sigTab) ∨ t.2 ∈ names8
section
variable {Γ : Cx w T} {σ : St} (pr : Prg T)
theorem c_symbols (tk : Tok8 T) (hr : 4 ≤ Γ.room) (x : Str) (hx : Fine x) (hs : Spelt x) {k : Nat} {o : AO} (ho : σ.H[k]? = some o) (hn : NamesOk σ.lo o.its) :
    CallOk Γ (pr.addr 71) [.str x, .obj k] σ (fun r => r = .lst ((symL x).map .int)) := by
  obtain ⟨its, hits⟩ : ∃ its, o.its = its := ⟨_, rfl⟩
  rw [hits] at hn
  refine fn_def pr (args' := [.str x, .obj 0]) 71 [k] [its] 3 (by decide) ⟨rfl, fun j k' l h1 h2 => ?_⟩ ⟨.inl rfl, rfl, trivial⟩ hr (fun pm doc vs h => by obtain ⟨x, y, rfl⟩ := len2 h; kernel_rfl) (by decide +kernel) fun Γ' F => ?_
  · match j, h1, h2 with
    | 0, h1, h2 => cases h1; cases h2; exact ⟨o, ho, .inl hits⟩
  refine exs_cons ?_
  repeat walk_at "e"
  refine ⟨[], rfl, by decide, ?_⟩
  refine exs_cons ?_
  repeat walk_at "e"
  refine it_esc (pr.defs 6 (by decide)) F.fz (Nat.le_trans (by decide) F.room) (F.knd (by decide +kernel)) ((show nameAt 6 = "_iter_escaped_chars" by decide +kernel) ▸ pr.glob 6 (by decide)) (pr.bi _ (by decide)) ?_
  refine fn_call pr 7 F.fz (by decide) (by decide +kernel) (F.knd (by decide +kernel)) ?_
  repeat walk_at "e"
  refine ⟨_, c_strip pr F.room x hx.l1 hx.a1, fun r hr => ?_⟩
  subst hr
  refine ⟨_, _, rfl, str_is, hx.a2, fun i c => c = ⟨[("symbols", .obj 1), ("names", .obj 0)], [⟨false, false, its⟩, ⟨true, true, (((escOf (stripR x)).take i).map (fun t => symOf t.2)).map .int⟩], σ.lo⟩, ⟨_, rfl, by walk_at "le"⟩, ?_, ?_⟩
  · rintro i v1 v2 c hi ⟨p, y, hi', hpy, rfl, rfl⟩ rfl
    have hlen : (escOf (stripR x)).length ≤ 1000 := Nat.le_trans (escOf_len _) hx.l2
    have htk : (escOf (stripR x)).take (i + 1) = (escOf (stripR x)).take i ++ [(p, y)] := by
      rw [List.take_succ, hpy]; rfl
    have fin : ∀ z, z = symOf y → (((escOf (stripR x)).take i).map (fun t => symOf t.2)).map SV.int ++ [SV.int z] = (((escOf (stripR x)).take (i + 1)).map (fun t => symOf t.2)).map SV.int := fun z hz => by
      rw [htk, hz, List.map_append, List.map_append]; rfl
    have hsz : ((((escOf (stripR x)).take i).map (fun t => symOf t.2)).map SV.int).length ≤ sizeLine := by
      simp; exact Nat.le_trans (show min i (escOf (stripR x)).length ≤ 1000 by omega) (by decide)
    refine exs_cons (ex_if (evb_cmp (ev_name rfl (ev_global (v := .con (.ref tk.tok)) (F.knd (by decide +kernel)) tk.g (fun _ => rfl) (o_intab tk.tab strT_is ⟨_, rfl, ?_⟩) (by decide +kernel)) (by decide +kernel))))
    have hmem := List.mem_of_getElem? hpy
    by_cases hin : ∃ i, (y, i) ∈ sigTab
    · obtain ⟨z, hz⟩ := hin
      have hd := tk.t1 _ hz
      have hk : KTD.inKeys y tk.D = true := by rw [← KTD.isSome_datumAt, hd]; rfl
      rw [if_pos hk]
      refine exs_cons (ex_expr (ev_append F.fz ?_))
      repeat walk_at "e"
      refine ⟨_, _, rfl, rfl, rfl, rfl, ?_⟩
      refine ev_dict tk.tab hd (ev_global (v := .con (.ref tk.tok)) (F.knd (by decide +kernel)) tk.g (fun _ => rfl) ⟨rfl, ev_name rfl ⟨⟨_, rfl, strT_is⟩, ?_⟩ (by decide +kernel)⟩ (by decide +kernel))
      refine ⟨_, rfl, rfl, hsz, rfl, ?_⟩
      exact exs_nil (exs_nil ⟨_, rfl, StLe.of ⟨rfl, rfl, trivial⟩ ⟨⟨id, id, .inl rfl⟩, ⟨id, id, .inl (fin _ (sym_sig _ hz).symm)⟩, trivial⟩ (Nat.le_refl _)⟩)
    · have hname : y ∈ names8 := (hs _ hmem).resolve_left hin
      have hk : KTD.inKeys y tk.D = false := tk.t2 y hname
      rw [if_neg (by rw [hk]; decide)]
      obtain ⟨hi1, hi2⟩ := idx_name y hname
      refine exs_cons (ex_expr (ev_append F.fz ?_))
      repeat walk_at "e"
      refine ⟨_, _, rfl, rfl, rfl, rfl, ?_⟩
      repeat walk_at "e"
      refine fn_call pr 4 F.fz (by decide) (by decide +kernel) (F.knd (by decide +kernel)) ?_
      repeat walk_at "e"
      refine ⟨_, c_indexOf pr (Nat.le_trans (by decide) F.room) its names8 y (names8.idxOf y) σ.lo hi' hn.1 (by decide) hn.2 hi1 hi2 rfl rfl, fun r hr => ?_⟩
      subst hr
      show Op2 _ _ _ _ _ _ _
      repeat walk_at "e"
      refine ⟨_, rfl, rfl, hsz, rfl, ?_⟩
      exact exs_nil (exs_nil ⟨_, rfl, StLe.of ⟨rfl, rfl, trivial⟩ ⟨⟨id, id, .inl rfl⟩, ⟨id, id, .inl (fin _ (sym_name _ hname).symm)⟩, trivial⟩ (Nat.le_refl _)⟩)
  · rintro c rfl
    rw [List.take_of_length_le (Nat.le_refl _)]
    have hlen : (escOf (stripR x)).length ≤ 1000 := Nat.le_trans (escOf_len _) hx.l2
    refine exs_nil ?_
    refine exs_cons ?_
    repeat walk_at "e"
    refine ⟨[.int 0], rfl, by decide, ?_⟩
    refine o_cat rfl rfl (by simp; exact Nat.le_trans (show (escOf (stripR x)).length + 1 ≤ 1001 by omega) (by decide)) ?_
    refine ⟨_, rfl, rfl, ?_⟩
    show RV.lst _ = _
    unfold symL
    rw [List.map_append]; rfl
end

/-! part M32 -/
theorem get_set_self {H : List AO} {j : Nat} {o p : AO} (h : H[j]? = some o) : (H.set j p)[j]? = some p := by
  rw [List.getElem?_set_self (List.getElem?_eq_some_iff.mp h).1]
theorem get_set_ne {H : List AO} {j i : Nat} {o p : AO} (hne : j ≠ i) (h : H[i]? = some o) : (H.set j p)[i]? = some o := by
  rw [List.getElem?_set_ne hne]; exact h
def opn (sy : List Int) (k : Nat) : Int := ((sy.take k).count 7 : Nat) - ((sy.take k).count 8 : Nat)
def signL (sy : List Int) (n : Nat) : List Int := ((List.range n).filter fun k => decide (sy.getD k 0 ≥ 256)).map fun k => 1 - 2 * (opn sy k).fmod 2
theorem signL_succ (sy : List Int) (n : Nat) : signL sy (n + 1) = signL sy n ++ if sy.getD n 0 ≥ 256 then [1 - 2 * (opn sy n).fmod 2] else [] := by
  unfold signL
  rw [List.range_succ, List.filter_append, List.map_append]
  by_cases h : sy.getD n 0 ≥ 256
  · rw [if_pos h, List.filter_cons_of_pos (by simpa using h)]; rfl
  · rw [if_neg h, List.filter_cons_of_neg (by simpa using h)]; rfl
theorem signL_len (sy : List Int) (n : Nat) : (signL sy n).length ≤ n := by
  unfold signL; rw [List.length_map]
  exact Nat.le_trans (List.length_filter_le _ _) (by simp)
def dueR (s ws : List Int) : Int := ((List.range s.length).map fun k => s.getD k 0 * ws.getD k 0).sum - (1 - s.sum).fdiv 3
section
variable {Γ : Cx w T} {σ : St} (pr : Prg T)
theorem c_signs (hr : 2 ≤ Γ.room) (sy : List Int) (hn : sy.length ≤ 2000) {k : Nat} {o : AO} (ho : σ.H[k]? = some o) (hi : o.its = sy.map .int) :
    CallOk Γ (pr.addr 72) [.obj k] σ (fun r => r = .lst ((signL sy sy.length).map .int)) := by
  refine fn_def pr (args' := [.obj 0]) 72 [k] [sy.map .int] 1 (by decide) ⟨rfl, fun j k' l h1 h2 => ?_⟩ ⟨rfl, trivial⟩ hr (fun pm doc vs h => by obtain ⟨x, rfl⟩ := len1 h; kernel_rfl) (by decide +kernel) fun Γ' F => ?_
  · match j, h1, h2 with
    | 0, h1, h2 => cases h1; cases h2; exact ⟨o, ho, .inl hi⟩
  have szL : ∀ k : Nat, k ≤ 4000 → k ≤ sizeLine := fun k h => Nat.le_trans h (by decide)
  refine exs_cons ?_
  repeat walk_at "e"
  refine ⟨[], rfl, by decide, ?_⟩
  refine exs_cons ?_
  repeat walk_at "e"
  dsimp only
  rw [List.length_map]
  refine ⟨_, rfl, by omega, by omega, fun i c => ∃ H : List AO, H[0]? = some ⟨false, false, sy.map .int⟩ ∧ H[1]? = some ⟨true, true, (signL sy i).map .int⟩ ∧ c = ⟨[("signs", .obj 1), ("symbols", .obj 0)], H, σ.lo⟩, ⟨_, ⟨_, rfl, rfl, rfl⟩, StLe.of ⟨rfl, rfl, trivial⟩ (HLe.refl _) (Nat.le_refl _)⟩, ?_, ?_⟩
  · rintro i v c hv ⟨H, h0, h1, rfl⟩
    obtain ⟨rfl, hi⟩ := intsL_get hv
    have hi : i < sy.length := by simpa using hi
    have z : (0 : Int) + i = i := by omega
    rw [z]
    have hsl := signL_len sy i
    refine exs_cons ?_
    repeat walk_at "e"
    refine fn_call pr 62 F.fz (by decide) (by decide +kernel) (F.knd (by decide +kernel)) ?_
    refine evl_cons (ev_index ?_)
    repeat walk_at "e"
    refine ⟨_, _, _, _, rfl, rfl, h0, by omega, by omega, getD_get (n := (i : Int).toNat) (by omega), ?_⟩
    repeat walk_at "e"
    refine ⟨_, c_isnt pr F.room _, fun r hr => ?_⟩
    subst hr
    show Op1 _ _ _ _ _ _
    repeat walk_at "e"
    have i1 : (i : Int).toNat = i := by omega
    rw [i1]
    by_cases hge : sy.getD i 0 ≥ 256
    · rw [if_pos (by simpa using hge)]
      refine exs_cons ?_
      repeat walk_at "e"
      refine ⟨_, rfl, _, _, rfl, h0, szL _ (by dsimp only; rw [List.length_map]; omega), ?_⟩
      rw [pick_take (by omega)]
      refine ⟨_, _, rfl, get_len, rfl, ?_⟩
      repeat walk_at "e"
      refine ⟨sy.take i, 7, rfl, get_len, by rw [i1]; simp [List.map_take], ?_⟩
      repeat walk_at "e"
      refine ⟨_, rfl, _, _, rfl, get_lt h0, szL _ (by dsimp only; rw [List.length_map]; omega), ?_⟩
      rw [pick_take (by omega)]
      refine ⟨_, _, rfl, get_len, rfl, ?_⟩
      repeat walk_at "e"
      refine ⟨sy.take i, 8, rfl, get_len, by rw [i1]; simp [List.map_take], ?_⟩
      repeat walk_at "e"
      refine exs_cons ?_
      repeat walk_at "e"
      refine ⟨_, _, rfl, get_lt (get_lt h1), rfl, rfl, ?_⟩
      repeat walk_at "e"
      refine o_mul ?_ (IntMulOk.of_left (by decide +kernel))
      repeat walk_at "e"
      refine ⟨_, rfl, get_lt (get_lt h1), szL _ (by dsimp only; rw [List.length_map]; omega), rfl, ?_⟩
      refine exs_nil (exs_nil ⟨_, ⟨_, get_set_ne (by decide) (get_lt (get_lt h0)), ?_, rfl⟩, StLe.of ⟨rfl, rfl, trivial⟩ (HLe.refl _) (Nat.le_refl _)⟩)
      rw [signL_succ, if_pos hge, List.map_append]
      exact get_set_self (get_lt (get_lt h1))
    · rw [if_neg (by simpa using hge)]
      refine exs_nil (exs_nil ⟨_, ⟨H, h0, ?_, rfl⟩, StLe.of ⟨rfl, rfl, trivial⟩ (HLe.refl _) (Nat.le_refl _)⟩)
      rw [signL_succ, if_neg hge, List.append_nil]
      exact h1
  · rintro c ⟨H, h0, h1, rfl⟩
    refine exs_nil ?_
    refine exs_cons ?_
    repeat walk_at "e"
    refine ⟨_, h1, rfl, ?_⟩
    rw [intsL_len]
    simp
theorem c_due (hr : 1 ≤ Γ.room) (s ws : List Int) (hs : ∀ x ∈ s, x = 1 ∨ x = -1) (hl : s.length ≤ ws.length) (hl2 : s.length ≤ 100) {k k' : Nat} {o o' : AO} (ho : σ.H[k]? = some o) (hi : o.its = s.map .int) (ho' : σ.H[k']? = some o') (hi' : o'.its = ws.map .int) :
    CallOk Γ (pr.addr 74) [.obj k, .obj k'] σ (fun r => r = .lst [.int (dueR s ws)]) := by
  refine fn_cells pr (args' := [.obj 0, .obj 1]) 74 [k, k'] [s.map .int, ws.map .int] 0 (by decide) ⟨rfl, fun j k₁ l h1 h2 => ?_⟩ ⟨rfl, rfl, trivial⟩ hr (fun pm doc vs h => by obtain ⟨x, y, rfl⟩ := len2 h; kernel_rfl) (by decide +kernel) (fun p hp => ?_) fun Γ' L F hE => ?_
  · match j, h1, h2 with
    | 0, h1, h2 => cases h1; cases h2; exact ⟨o, ho, .inl hi⟩
    | 1, h1, h2 => cases h1; cases h2; exact ⟨o', ho', .inl hi'⟩
  · have : p = "signs" ∨ p = "worths" := by revert p; decide +kernel
    rcases this with rfl | rfl
    · exact .inr ⟨by decide +kernel, fun L => by rfl⟩
    · exact .inr ⟨by decide +kernel, fun L => by rfl⟩
  obtain ⟨pm, doc, hE⟩ := hE
  refine exs_cons (ex_ret (ev_list ?_))
  repeat walk_at "e"
  refine ev_comp F.fz (fun _ => true) (fun k => s.getD k.toNat 0 * ws.getD k.toNat 0) _ [("signs", .obj 0), ("worths", .obj 1)] (by rw [hE]; rfl) (by decide +kernel) (by decide +kernel) (by decide +kernel) (by decide +kernel) (by rw [hE]; intro y c h; exact h) ?_
  repeat walk_at "e"
  dsimp only
  rw [List.length_map]
  refine ⟨(s.length : Int), rfl, by omega, by omega, (List.range s.length).map fun (i : Nat) => (i : Int), ?_, by rw [List.length_map, List.length_range]; exact Nat.le_trans hl2 (by decide), rfl, ?_, ⟨fun C hk x hx => ?_, fun C hk x hx hp => ?_⟩, ?_⟩
  · unfold intsL; simp
  · intro p hp
    have : p = (("signs" : Str), AV.obj 0) ∨ p = (("worths" : Str), AV.obj 1) := by simpa using hp
    rcases this with rfl | rfl
    · exact ⟨rfl, F.knd (by show (scopeAt 74).names.lookup ("signs" : Str) = _; decide +kernel), by rw [hE]; rfl, by rw [hE]; rfl⟩
    · exact ⟨rfl, F.knd (by show (scopeAt 74).names.lookup ("worths" : Str) = _; decide +kernel), by rw [hE]; rfl, by rw [hE]; rfl⟩
  · rfl
  · obtain ⟨i, hi, rfl⟩ := List.mem_map.mp hx
    have hi := List.mem_range.mp hi
    refine ev_bin (ev_index ?_)
    repeat walk_at "e"
    refine ⟨_, _, _, _, rfl, rfl, rfl, by omega, by omega, getD_get (n := (i : Int).toNat) (by omega), ?_⟩
    refine ev_index ?_
    repeat walk_at "e"
    refine ⟨_, _, _, _, rfl, rfl, rfl, by omega, by omega, getD_get (n := (i : Int).toNat) (by omega), ?_⟩
    refine o_mul rfl (IntMulOk.of_left ?_)
    have hm : s.getD (i : Int).toNat 0 ∈ s := by
      have e : s.getD (i : Int).toNat 0 = s[i] := by simp [List.getD, hi]
      rw [e]; exact List.getElem_mem _
    rcases hs _ hm with q | q <;> rw [q] <;> decide +kernel
  · have e0 : ((((List.range s.length).map fun (i : Nat) => (i : Int)).filter fun _ => true).map fun k => s.getD k.toNat 0 * ws.getD k.toNat 0) = (List.range s.length).map fun k => s.getD k 0 * ws.getD k 0 := by
      rw [List.filter_eq_self.mpr (fun _ _ => rfl), List.map_map]; rfl
    rw [e0]
    repeat walk_at "e"
    refine ol_sum get_len rfl ?_
    repeat walk_at "e"
    refine ol_sum (ns := s) (get_lt rfl) rfl ?_
    repeat walk_at "e"
    refine ⟨[.int _], rfl, by show 1 ≤ sizeLine; decide, ?_⟩
    refine ⟨_, get_len, rfl, ?_⟩
    rfl
end

/-! part M33 -/
section
variable {Γ : Cx w T} {σ : St}
theorem ev_append2 (hfz : Γ.fz = false) {o elt : Expr} {apos pos : Pos} {Q : AV → St → Prop}
    (h : EvE Γ o σ (fun v σ₁ => ∃ k ao, v = .obj k ∧ σ₁.H[k]? = some ao ∧ ao.pl = true ∧ EvE Γ elt σ₁ (fun y σ₂ => ∃ x ao', y = .sv x ∧ σ₂.H[k]? = some ao' ∧ ao'.own = true ∧ ao'.pl = true ∧ ao'.its.length ≤ sizeLine ∧ Q .none (σ₂.upd k ⟨true, true, ao'.its ++ [x]⟩))))
    (h1 : attributeBase o "append" Γ.env (eval o Γ.env) = eval o Γ.env := by rfl) (h2 : (apos.endLine == pos.line) = true := by rfl)
    (h3 : ((backTo pos (starEach [elt] Γ.env)).all (!·.1) && (backToKw pos (keywordEach [] Γ.env)).all (·.1.isSome) && decide ([elt].length + ([] : List Keyword).length + (if ([] : List Keyword).isEmpty then 0 else 1) < 30)) = true := by rfl)
    (h4 : backTo pos (starEach [elt] Γ.env) = [(false, eval elt Γ.env)] := by rfl) :
    EvE Γ (.Call (.Attribute o "append" apos) [elt] [] pos) σ Q := fun s as r => by
  refine wpAny_Call_append h1 h3 h2 h4 (wpAny_mono (h s as r) (fun v s₁ hv => ?_) fun _ _ h => h)
  obtain ⟨va, σ₁, as₁, ha, A₁, k, ao, rfl, hk, hpl, hq⟩ := hv
  obtain ⟨D, vs, rfl, hD, hl, hr, hp⟩ := A₁.rel.at ha hk
  refine ⟨D, vs.toArray, rfl, plainL_of (hp hpl), wpAny_mono (hq s₁ as₁ A₁.rel) (fun y s₂ hy => ?_) fun _ _ h => h⟩
  obtain ⟨yv, σ₂, as₂, hyv, A₂, x, ao', rfl, hk₂, hown, hpl', hz, hq₂⟩ := hy
  have hDk : (AV.obj k).is as₂ (.ref D) := AV.is_of_ext ⟨D, hD, rfl⟩ A₂.ext
  obtain ⟨D', vs₂, e, hD₂, hl₂, hr₂, hp₂⟩ := A₂.rel.at hDk hk₂
  cases e
  refine wpAny_list_append_plain (hsz := by simp [hr₂.1]; exact hz) (hp₂ hpl') fun h' hl' hs' => ?_
  have e : vs₂.toArray.push y = (vs₂ ++ [y]).toArray := by simp
  rw [e] at hl'
  have A₃ := After.setObj hfz A₂.rel hD₂ hk₂ hown hs' true hl'.isList (hr₂.append (Are.cons hyv are_iff_nil)) (fun _ => hl') (Nat.le_refl s₂.toks)
  exact ⟨.none, _, as₂, rfl, (A₁.trans A₂).trans A₃, hq₂⟩
theorem exc_mono {ss : Stmt} {Q Q' : AF → St → Prop} (k : ExC Γ ss σ Q) (h : ∀ f σ', Q f σ' → Q' f σ') : ExC Γ ss σ Q' := fun s as r =>
  wpAny_mono (k s as r) (fun _ _ ⟨b, σ', as', h1, h2, h3⟩ => ⟨b, σ', as', h1, h2, h _ _ h3⟩) fun _ _ h => h
theorem exs_cut {st : Stmt} {rest : List Stmt} {R : St → Prop} {Q : AF → St → Prop} (h : ExC Γ st σ (fun f σ' => f = .next ∧ R σ')) (k : ∀ σ', R σ' → ExS Γ rest σ' Q) : ExS Γ (st :: rest) σ Q :=
  exs_cons (exc_mono h fun f σ' ⟨hf, hr⟩ => by subst hf; exact k σ' hr)
theorem ex_expr2 {e : Expr} {pos : Pos} {Q : AF → St → Prop} (h : EvE Γ e σ (fun v σ' => Q .next σ')) (hs : swapsWith e none pos.line Γ.env = pure false := by rfl) : ExC Γ (.Expr e pos) σ Q := fun s as r =>
  wpAny_Expr_any (wpAny_mono (h s as r) (fun v s' ⟨b, σ', as', hb, hA, hq⟩ => ⟨.next, σ', as', rfl, hA, hq⟩) fun _ _ h => h) (by show (Γ.env.scope.kind == .module && _) = false; rw [Γ.hk]; rfl) hs
end
abbrev RSt := List Int × List Int
def opR (d : Int) : List Int → Option (List Int)
  | [] => none
  | a :: ts => if d = 31 then some ((-a - 1) :: ts) else match ts with
    | [] => none
    | b :: ts => some ((if d = 14 then b + a else b - a) :: ts)
def red (s : Int) : List Int → List Int → Option RSt
  | ts, [] => some (ts, [])
  | ts, d :: ws => if d.fdiv 2 ≥ s.fdiv 2 then (match opR d ts with
    | some ts' => red s ts' ws
    | none => none) else some (ts, d :: ws)
def feed (worths : List Int) (s : Int) (st : RSt) : Option RSt :=
  if s ≥ 256 then (if (s - 256).toNat < worths.length then some (worths.getD (s - 256).toNat 0 :: st.1, st.2) else none)
  else if s = 7 ∨ s = 31 then some (st.1, s :: st.2)
  else match red s st.1 st.2 with
    | none => none
    | some (ts, ws) => if s = 8 then (match ws with
      | [] => none
      | _ :: ws => some (ts, ws)) else if s = 0 then some (ts, ws) else some (ts, s :: ws)
def runR (worths : List Int) : List Int → RSt → Option RSt
  | [], st => some st
  | s :: r, st => match feed worths s st with
    | none => none
    | some st' => runR worths r st'
theorem opR_31 {d a : Int} {ts : List Int} (h : d = 31) : opR d (a :: ts) = some ((-a - 1) :: ts) := by unfold opR; exact if_pos h
theorem opR_2 {d a b : Int} {ts : List Int} (h : ¬ d = 31) : opR d (a :: b :: ts) = some ((if d = 14 then b + a else b - a) :: ts) := by unfold opR; exact if_neg h
theorem red_cons (s d : Int) (ts ws : List Int) : red s ts (d :: ws) = if d.fdiv 2 ≥ s.fdiv 2 then (match opR d ts with
    | some ts' => red s ts' ws
    | none => none) else some (ts, d :: ws) := rfl
theorem revm_cons (x : Int) (l : List Int) : ((x :: l).reverse).map SV.int = (l.reverse).map SV.int ++ [.int x] := by simp
section
variable {Γ : Cx w T} {σ : St} (pr : Prg T)
theorem c_reckoned (hr : 2 ≤ Γ.room) (sy worths : List Int) (hn : sy.length ≤ 2000) (res : RSt) (hrun : runR worths sy ([], []) = some res) {k k' : Nat} {o o' : AO} (ho : σ.H[k]? = some o) (hi : o.its = sy.map .int) (ho' : σ.H[k']? = some o') (hi' : o'.its = worths.map .int) (hw : worths.length ≤ 1000) :
    CallOk Γ (pr.addr 73) [.obj k, .obj k'] σ (fun r => r = .lst ((res.1.reverse).map .int)) := by
  refine fn_def pr (args' := [.obj 0, .obj 1]) 73 [k, k'] [sy.map .int, worths.map .int] 1 (by decide) ⟨rfl, fun j k₁ l h1 h2 => ?_⟩ ⟨rfl, rfl, trivial⟩ hr (fun pm doc vs h => by obtain ⟨x, y, rfl⟩ := len2 h; kernel_rfl) (by decide +kernel) fun Γ' F => ?_
  · match j, h1, h2 with
    | 0, h1, h2 => cases h1; cases h2; exact ⟨o, ho, .inl hi⟩
    | 1, h1, h2 => cases h1; cases h2; exact ⟨o', ho', .inl hi'⟩
  have szL : ∀ k : Nat, k ≤ 4000 → k ≤ sizeLine := fun k h => Nat.le_trans h (by decide)
  refine exs_cons ?_
  repeat walk_at "e"
  refine ⟨[], rfl, by decide, ?_⟩
  refine exs_cons ?_
  repeat walk_at "e"
  refine ⟨[], rfl, by decide, ?_⟩
  refine exs_cons ?_
  repeat walk_at "e"
  refine ⟨_, _, rfl, rfl, rfl, fun i c => ∃ (ts ws : List Int) (H : List AO), runR worths (sy.drop i) (ts, ws) = some res ∧ ts.length ≤ i ∧ ws.length ≤ i ∧ H[1]? = some ⟨false, false, worths.map .int⟩ ∧ H[2]? = some ⟨true, true, (ts.reverse).map .int⟩ ∧ H[3]? = some ⟨true, true, (ws.reverse).map .int⟩ ∧ c = ⟨[("things", .obj 2), ("waiting", .obj 3), ("worths", .obj 1)], H, σ.lo⟩,
    ⟨_, ⟨[], [], _, hrun, Nat.le_refl _, Nat.le_refl _, rfl, rfl, rfl, rfl⟩, StLe.of ⟨rfl, rfl, rfl, trivial⟩ (HLe.refl _) (Nat.le_refl _)⟩, ?_, ?_⟩
  · rintro i v c hv ⟨ts, ws, H, hR, hl1, hl2, h1, h2, h3, rfl⟩
    have hv : (sy.map SV.int)[i]? = some v := hv
    have hi : i < sy.length := by have := (List.getElem?_eq_some_iff.mp hv).1; simpa using this
    rw [map_get hi] at hv
    cases hv
    rw [List.drop_eq_getElem_cons hi] at hR
    unfold runR at hR
    generalize sy[i] = s at hR ⊢
    have next : ∀ (ts' ws' : List Int) (H' : List AO) (L : List (Str × AV)), feed worths s (ts, ws) = some (ts', ws') → ts'.length ≤ i + 1 → ws'.length ≤ i + 1 → H'[1]? = some ⟨false, false, worths.map .int⟩ → H'[2]? = some ⟨true, true, (ts'.reverse).map .int⟩ → H'[3]? = some ⟨true, true, (ws'.reverse).map .int⟩ → LocLe L [("things", .obj 2), ("waiting", .obj 3), ("worths", .obj 1)] →
        ∃ c', (∃ (ts ws : List Int) (H : List AO), runR worths (sy.drop (i + 1)) (ts, ws) = some res ∧ ts.length ≤ i + 1 ∧ ws.length ≤ i + 1 ∧ H[1]? = some ⟨false, false, worths.map .int⟩ ∧ H[2]? = some ⟨true, true, (ts.reverse).map .int⟩ ∧ H[3]? = some ⟨true, true, (ws.reverse).map .int⟩ ∧ c' = ⟨[("things", .obj 2), ("waiting", .obj 3), ("worths", .obj 1)], H, σ.lo⟩) ∧ StLe ⟨L, H', σ.lo⟩ c' := fun ts' ws' H' L hf q1 q2 g1 g2 g3 hL => by
      rw [hf] at hR
      exact ⟨_, ⟨ts', ws', H', hR, q1, q2, g1, g2, g3, rfl⟩, StLe.of hL (HLe.refl _) (Nat.le_refl _)⟩
    refine exs_cons ?_
    repeat walk_at "e"
    refine fn_call pr 62 F.fz (by decide) (by decide +kernel) (F.knd (by decide +kernel)) ?_
    repeat walk_at "e"
    refine ⟨_, c_isnt pr F.room _, fun r hr => ?_⟩
    subst hr
    show Op1 _ _ _ _ _ _
    repeat walk_at "e"
    by_cases hge : s ≥ 256
    · rw [if_pos (by simpa using hge)]
      have hlt : (s - 256).toNat < worths.length := by
        unfold feed at hR
        rw [if_pos hge] at hR
        by_cases q : (s - 256).toNat < worths.length
        · exact q
        · rw [if_neg q] at hR; cases hR
      refine exs_cons (ex_expr2 (ev_append2 F.fz ?_))
      repeat walk_at "e"
      refine ⟨_, _, rfl, h2, rfl, ?_⟩
      refine ev_index ?_
      repeat walk_at "e"
      refine ⟨_, _, _, _, rfl, rfl, h1, by omega, by omega, getD_get hlt, ?_⟩
      refine ⟨_, _, rfl, h2, rfl, rfl, szL _ (by dsimp only; rw [List.length_map, List.length_reverse]; omega), ?_⟩
      refine exs_nil (exs_nil ?_)
      refine next (worths.getD (s - 256).toNat 0 :: ts) ws _ _ (by unfold feed; rw [if_pos hge, if_pos hlt]) (by simp; omega) (by omega) (get_set_ne (by decide) h1) ?_ (get_set_ne (by decide) h3) ⟨rfl, rfl, rfl, trivial⟩
      rw [revm_cons]; exact get_set_self h2
    · rw [if_neg (by simpa using hge)]
      refine exs_cons (ex_if (evb_bool (evt_or (evb_cmp ?_))))
      repeat walk_at "e"
      refine ⟨_, rfl, ?_⟩
      have app : s = 7 ∨ s = 31 → feed worths s (ts, ws) = some (ts, s :: ws) := fun q => by unfold feed; rw [if_neg hge, if_pos q]
      by_cases h7 : s = 7
      · rw [if_pos (by simpa using h7), if_pos rfl]
        refine exs_cons (ex_expr2 (ev_append F.fz ?_))
        repeat walk_at "e"
        refine ⟨_, _, rfl, h3, rfl, rfl, ?_⟩
        repeat walk_at "e"
        refine ⟨_, rfl, h3, szL _ (by dsimp only; rw [List.length_map, List.length_reverse]; omega), ?_⟩
        repeat refine exs_nil ?_
        refine next ts (s :: ws) _ _ (app (.inl h7)) (by omega) (by simp; omega) (get_set_ne (by decide) h1) (get_set_ne (by decide) h2) ?_ ⟨rfl, rfl, rfl, trivial⟩
        rw [revm_cons]; exact get_set_self h3
      rw [if_neg (by simpa using h7)]
      refine evt_or (evb_cmp ?_)
      repeat walk_at "e"
      refine ⟨_, rfl, ?_⟩
      by_cases h31 : s = 31
      · rw [if_pos (by simpa using h31), if_pos rfl]
        refine exs_cons (ex_expr2 (ev_append F.fz ?_))
        repeat walk_at "e"
        refine ⟨_, _, rfl, h3, rfl, rfl, ?_⟩
        repeat walk_at "e"
        refine ⟨_, rfl, h3, szL _ (by dsimp only; rw [List.length_map, List.length_reverse]; omega), ?_⟩
        repeat refine exs_nil ?_
        refine next ts (s :: ws) _ _ (app (.inr h31)) (by omega) (by simp; omega) (get_set_ne (by decide) h1) (get_set_ne (by decide) h2) ?_ ⟨rfl, rfl, rfl, trivial⟩
        rw [revm_cons]; exact get_set_self h3
      rw [if_neg (by simpa using h31)]
      refine evt_nil ?_
      rw [if_neg (by decide)]
      have hfeed : feed worths s (ts, ws) = match red s ts ws with
          | none => none
          | some (ts, ws) => if s = 8 then (match ws with
            | [] => none
            | _ :: ws => some (ts, ws)) else if s = 0 then some (ts, ws) else some (ts, s :: ws) := by
        unfold feed; rw [if_neg hge, if_neg (by omega)]
      have hred : ∃ ts1 ws1, red s ts ws = some (ts1, ws1) := by
        cases e : red s ts ws with
        | none => rw [hfeed, e] at hR; cases hR
        | some p => exact ⟨p.1, p.2, rfl⟩
      refine exs_cut (R := fun σ' => ∃ (ts' ws' : List Int) (H : List AO) (L : List (Str × AV)), red s ts ws = some (ts', ws') ∧ ts'.length ≤ i ∧ ws'.length ≤ i ∧ H[1]? = some ⟨false, false, worths.map .int⟩ ∧ H[2]? = some ⟨true, true, (ts'.reverse).map .int⟩ ∧ H[3]? = some ⟨true, true, (ws'.reverse).map .int⟩ ∧ LocLe L [("symbol", .int s), ("things", .obj 2), ("waiting", .obj 3), ("worths", .obj 1)] ∧ σ' = ⟨L, H, σ.lo⟩)
        (ex_while (fun n c => ∃ (ts' ws' : List Int) (H : List AO), n = ws'.length ∧ red s ts' ws' = red s ts ws ∧ ts'.length ≤ i ∧ ws'.length ≤ i ∧ H[1]? = some ⟨false, false, worths.map .int⟩ ∧ H[2]? = some ⟨true, true, (ts'.reverse).map .int⟩ ∧ H[3]? = some ⟨true, true, (ws'.reverse).map .int⟩ ∧ c = ⟨[("symbol", .int s), ("things", .obj 2), ("waiting", .obj 3), ("worths", .obj 1)], H, σ.lo⟩)
          ⟨ws.length, _, ⟨ts, ws, H, rfl, rfl, hl1, hl2, h1, h2, h3, rfl⟩, StLe.of ⟨rfl, rfl, rfl, rfl, trivial⟩ (HLe.refl _) (Nat.le_refl _)⟩ ?_) ?_
      · rintro n c ⟨ts', ws', H', rfl, hre, q1, q2, g1, g2, g3, rfl⟩
        refine evb_bool (evt_and (evb_cmp ?_))
        repeat walk_at "e"
        refine ⟨[], rfl, by decide, ?_⟩
        refine o_neli (ns := ws'.reverse) (ms := []) (get_lt g3) get_len rfl rfl ⟨_, rfl, ?_⟩
        cases ws' with
        | nil =>
          rw [if_neg (by simp), if_neg Bool.false_ne_true]
          exact exs_nil ⟨rfl, ts', [], _, _, hre.symm, q1, q2, get_lt g1, get_lt g2, get_lt g3, ⟨rfl, rfl, rfl, rfl, trivial⟩, rfl⟩
        | cons d ws'' =>
          have ql : ws''.length + 1 ≤ i := q2
          rw [if_pos (by simp)]
          refine evt_and (evb_cmp ?_)
          refine ev_bin (ev_last ?_)
          repeat walk_at "e"
          refine ⟨_, _, .int d, rfl, rfl, get_lt g3, by dsimp only; rw [List.length_map, List.length_reverse]; simp; omega, by dsimp only; rw [revm_cons]; simp, ?_⟩
          repeat walk_at "e"
          refine ⟨_, rfl, ?_⟩
          rw [red_cons] at hre
          by_cases hd : d.fdiv 2 ≥ s.fdiv 2
          · rw [if_pos (by simpa using hd)]
            rw [if_pos hd] at hre
            refine evt_nil ?_
            rw [if_pos (by decide)]
            obtain ⟨ts1, ws1, hr1⟩ := hred
            rw [hr1] at hre
            cases ts' with
            | nil => simp [opR] at hre
            | cons a ts'' =>
              have ql2 : ts''.length + 1 ≤ i := q1
              refine exs_cons ?_
              repeat walk_at "e"
              refine ⟨_, (ws''.reverse).map .int, .int d, rfl, by rw [← revm_cons]; exact get_lt g3, by rw [List.length_map, List.length_reverse]; exact Nat.lt_of_lt_of_le (show ws''.length < 4000 by omega) (by decide), ?_⟩
              refine exs_cons ?_
              repeat walk_at "e"
              refine ⟨_, (ts''.reverse).map .int, .int a, rfl, by rw [← revm_cons]; exact get_set_ne (by decide) (get_lt g2), by rw [List.length_map, List.length_reverse]; exact Nat.lt_of_lt_of_le (show ts''.length < 4000 by omega) (by decide), ?_⟩
              refine exs_cons ?_
              repeat walk_at "e"
              refine ⟨_, rfl, ?_⟩
              have k1 := get_set_ne (j := 2) (p := ⟨true, true, (ts''.reverse).map .int⟩) (by decide : (2 : Nat) ≠ 1) (get_set_ne (j := 3) (p := ⟨true, true, (ws''.reverse).map .int⟩) (by decide : (3 : Nat) ≠ 1) (get_lt (p := ⟨true, true, []⟩) g1))
              have k2 := get_set_self (p := ⟨true, true, (ts''.reverse).map .int⟩) (get_set_ne (j := 3) (p := ⟨true, true, (ws''.reverse).map .int⟩) (by decide : (3 : Nat) ≠ 2) (get_lt (p := ⟨true, true, []⟩) g2))
              have k3 := get_set_ne (j := 2) (p := ⟨true, true, (ts''.reverse).map .int⟩) (by decide : (2 : Nat) ≠ 3) (get_set_self (p := ⟨true, true, (ws''.reverse).map .int⟩) (get_lt (p := ⟨true, true, []⟩) g3))
              have sz2 : (⟨true, true, (ts''.reverse).map .int⟩ : AO).its.length ≤ sizeLine := szL _ (by dsimp only; rw [List.length_map, List.length_reverse]; omega)
              by_cases h31d : d = 31
              · rw [if_pos (by simpa using h31d)]
                have hre : red s ((-a - 1) :: ts'') ws'' = some (ts1, ws1) := by
                  rw [opR_31 h31d] at hre; exact hre
                refine exs_cons (ex_expr2 (ev_append2 F.fz ?_))
                repeat walk_at "e"
                refine ⟨_, _, rfl, k2, rfl, ?_⟩
                refine fn_call pr 2 F.fz (by decide) (by decide +kernel) (F.knd (by decide +kernel)) ?_
                repeat walk_at "e"
                refine ⟨_, c_inv pr F.room a, fun r hr => ?_⟩
                subst hr
                refine ⟨_, _, rfl, k2, rfl, rfl, sz2, ?_⟩
                repeat refine exs_nil ?_
                refine ⟨ws''.length, _, by simp, ⟨(-a - 1) :: ts'', ws'', _, rfl, by rw [hre, hr1], by simp; omega, by omega, get_set_ne (by decide) k1, ?_, get_set_ne (by decide) k3, rfl⟩, StLe.of ⟨rfl, rfl, rfl, rfl, trivial⟩ (HLe.refl _) (Nat.le_refl _)⟩
                rw [revm_cons]; exact get_set_self k2
              · rw [if_neg (by simpa using h31d)]
                cases ts'' with
                | nil => simp [opR, h31d] at hre
                | cons b t3 =>
                  have ql3 : t3.length + 1 + 1 ≤ i := by simpa using ql2
                  have hre : red s ((if d = 14 then b + a else b - a) :: t3) ws'' = some (ts1, ws1) := by
                    rw [opR_2 h31d] at hre; exact hre
                  have k2' : _ := k2
                  rw [revm_cons] at k2'
                  have szp : ((t3.reverse).map SV.int).length < sizeLine := by rw [List.length_map, List.length_reverse]; exact Nat.lt_of_lt_of_le (show t3.length < 4000 by omega) (by decide)
                  have kk1 := get_set_ne (j := 2) (p := ⟨true, true, (t3.reverse).map .int⟩) (by decide : (2 : Nat) ≠ 1) k1
                  have kk2 := get_set_self (p := ⟨true, true, (t3.reverse).map .int⟩) k2
                  have kk3 := get_set_ne (j := 2) (p := ⟨true, true, (t3.reverse).map .int⟩) (by decide : (2 : Nat) ≠ 3) k3
                  have sz3 : (⟨true, true, (t3.reverse).map .int⟩ : AO).its.length ≤ sizeLine := Nat.le_of_lt szp
                  refine exs_cons ?_
                  repeat walk_at "e"
                  refine ⟨_, rfl, ?_⟩
                  by_cases h14 : d = 14
                  · rw [if_pos (by simpa using h14)]
                    rw [if_pos h14] at hre
                    refine exs_cons (ex_expr2 (ev_append2 F.fz ?_))
                    repeat walk_at "e"
                    refine ⟨_, _, rfl, k2, rfl, ?_⟩
                    refine fn_call pr 1 F.fz (by decide) (by decide +kernel) (F.knd (by decide +kernel)) ?_
                    repeat walk_at "e"
                    refine ⟨_, (t3.reverse).map .int, .int b, rfl, by rw [← revm_cons]; exact k2, szp, ?_⟩
                    repeat walk_at "e"
                    refine ⟨_, c_add pr F.room b a, fun r hr => ?_⟩
                    subst hr
                    refine ⟨_, _, rfl, kk2, rfl, rfl, sz3, ?_⟩
                    repeat refine exs_nil ?_
                    refine ⟨ws''.length, _, by simp, ⟨(b + a) :: t3, ws'', _, rfl, by rw [hre, hr1], by simp; omega, by omega, get_set_ne (by decide) kk1, ?_, get_set_ne (by decide) kk3, rfl⟩, StLe.of ⟨rfl, rfl, rfl, rfl, trivial⟩ (HLe.refl _) (Nat.le_refl _)⟩
                    rw [revm_cons (b + a) t3]; exact get_set_self kk2
                  · rw [if_neg (by simpa using h14)]
                    rw [if_neg h14] at hre
                    refine exs_cons (ex_expr2 (ev_append2 F.fz ?_))
                    repeat walk_at "e"
                    refine ⟨_, _, rfl, k2, rfl, ?_⟩
                    refine fn_call pr 3 F.fz (by decide) (by decide +kernel) (F.knd (by decide +kernel)) ?_
                    repeat walk_at "e"
                    refine ⟨_, (t3.reverse).map .int, .int b, rfl, by rw [← revm_cons]; exact k2, szp, ?_⟩
                    repeat walk_at "e"
                    refine ⟨_, c_sub pr F.room b a, fun r hr => ?_⟩
                    subst hr
                    refine ⟨_, _, rfl, kk2, rfl, rfl, sz3, ?_⟩
                    repeat refine exs_nil ?_
                    refine ⟨ws''.length, _, by simp, ⟨(b - a) :: t3, ws'', _, rfl, by rw [hre, hr1], by simp; omega, by omega, get_set_ne (by decide) kk1, ?_, get_set_ne (by decide) kk3, rfl⟩, StLe.of ⟨rfl, rfl, rfl, rfl, trivial⟩ (HLe.refl _) (Nat.le_refl _)⟩
                    rw [revm_cons (b - a) t3]; exact get_set_self kk2
          · rw [if_neg (by simpa using hd), if_neg Bool.false_ne_true]
            rw [if_neg hd] at hre
            exact exs_nil ⟨rfl, ts', d :: ws'', _, _, hre.symm, q1, q2, get_lt g1, get_lt g2, get_lt g3, ⟨rfl, rfl, rfl, rfl, trivial⟩, rfl⟩
      · rintro σ' ⟨ts', ws', H', L, hr1, q1, q2, g1, g2, g3, hL, rfl⟩
        refine exs_le (σ' := ⟨[("symbol", .int s), ("things", .obj 2), ("waiting", .obj 3), ("worths", .obj 1)], H', σ.lo⟩) (StLe.of hL (HLe.refl _) (Nat.le_refl _)) ?_
        rw [hr1] at hfeed
        refine exs_cons ?_
        repeat walk_at "e"
        refine ⟨_, rfl, ?_⟩
        by_cases h8 : s = 8
        · rw [if_pos (by simpa using h8)]
          have hfeed : feed worths s (ts, ws) = match ws' with
            | [] => none
            | _ :: ws => some (ts', ws) := by rw [hfeed]; exact if_pos h8
          cases ws' with
          | nil => rw [hfeed] at hR; cases hR
          | cons d ws'' =>
            have ql : ws''.length + 1 ≤ i := q2
            refine exs_cons (ex_expr2 ?_)
            repeat walk_at "e"
            refine ⟨_, (ws''.reverse).map .int, .int d, rfl, by rw [← revm_cons]; exact g3, by rw [List.length_map, List.length_reverse]; exact Nat.lt_of_lt_of_le (show ws''.length < 4000 by omega) (by decide), ?_⟩
            repeat refine exs_nil ?_
            exact next ts' ws'' _ _ hfeed (by omega) (by omega) (get_set_ne (by decide) g1) (get_set_ne (by decide) g2) (get_set_self g3) ⟨rfl, rfl, rfl, trivial⟩
        · rw [if_neg (by simpa using h8)]
          have hfeed : feed worths s (ts, ws) = if s = 0 then some (ts', ws') else some (ts', s :: ws') := by rw [hfeed]; exact if_neg h8
          refine exs_cons ?_
          repeat walk_at "e"
          refine fn_call pr 63 F.fz (by decide) (by decide +kernel) (F.knd (by decide +kernel)) ?_
          repeat walk_at "e"
          refine ⟨_, c_iseof pr F.room s, fun r hr => ?_⟩
          subst hr
          show Op1 _ _ _ _ _ _
          repeat walk_at "e"
          by_cases h0 : s = 0
          · rw [if_neg (by simpa using h0)]
            repeat refine exs_nil ?_
            exact next ts' ws' _ _ (by rw [hfeed, if_pos h0]) (by omega) (by omega) g1 g2 g3 ⟨rfl, rfl, rfl, trivial⟩
          · rw [if_pos (by simpa using h0)]
            refine exs_cons (ex_expr2 (ev_append F.fz ?_))
            repeat walk_at "e"
            refine ⟨_, _, rfl, g3, rfl, rfl, ?_⟩
            repeat walk_at "e"
            refine ⟨_, rfl, g3, szL _ (by dsimp only; rw [List.length_map, List.length_reverse]; omega), ?_⟩
            repeat refine exs_nil ?_
            refine next ts' (s :: ws') _ _ (by rw [hfeed, if_neg h0]) (by omega) (by simp; omega) (get_set_ne (by decide) g1) (get_set_ne (by decide) g2) ?_ ⟨rfl, rfl, rfl, trivial⟩
            rw [revm_cons]; exact get_set_self g3
  · rintro c ⟨ts, ws, H, hR, hl1, hl2, h1, h2, h3, rfl⟩
    have hR : runR worths (sy.drop (sy.map SV.int).length) (ts, ws) = some res := hR
    rw [List.drop_of_length_le (by simp)] at hR
    cases hR
    refine exs_nil ?_
    refine exs_cons ?_
    repeat walk_at "e"
    exact ⟨_, h2, rfl, rfl⟩
end

/-! part L1 -/
/-! texts as lists of signs -/
abbrev cs (x : Str) : List Nat := x.cps.toList
theorem cs_app (x y : Str) : cs (x ++ y) = cs x ++ cs y := by
  show ((x ++ y : Str).cps).toList = _
  rw [Str.cps_append]; simp
theorem cs_len (x : Str) : (cs x).length = x.length := by simp [Str.length]
theorem slice_eq (x : Str) (l u : Option Int) (a b : Nat) (h : Builtin.Str.strSliceIndices l u 1 x.length = sliceRange a b 1) (hb : b ≤ x.length) : cs (Txt.slice x l u) = ((cs x).drop a).take (b - a) := by
  unfold Txt.slice
  rw [h, sliceRange_one]
  split
  · rename_i hc
    simp at hc
    have h0 : a = 0 ∧ b = x.length ∨ x.length = 0 := by omega
    rcases h0 with ⟨rfl, rfl⟩ | h0
    · rw [List.drop_zero, List.take_of_length_le (by rw [cs_len]; omega)]
    · have : cs x = [] := List.length_eq_zero_iff.mp (by rw [cs_len]; exact h0)
      rw [this]; simp
  · rw [pick_run]
theorem slice_ab (x : Str) (a b : Nat) (ha : a ≤ b) (hb : b ≤ x.length) : cs (Txt.slice x (some (a : Int)) (some (b : Int))) = ((cs x).drop a).take (b - a) := by
  refine slice_eq x _ _ a b ?_ hb
  unfold Builtin.Str.strSliceIndices
  simp only [show (1 : Int) > 0 by decide, if_true]
  rw [if_neg (by omega), if_neg (by omega)]
  congr 1 <;> omega
theorem slice_an (x : Str) (a : Nat) (ha : a ≤ x.length) : cs (Txt.slice x (some (a : Int)) none) = (cs x).drop a := by
  rw [slice_eq x _ _ a x.length ?_ (Nat.le_refl _), List.take_of_length_le (by simp [← cs_len])]
  unfold Builtin.Str.strSliceIndices
  simp only [show (1 : Int) > 0 by decide, if_true]
  rw [if_neg (by omega)]
  congr 1 <;> omega
theorem slice_last (x : Str) (h : 1 ≤ x.length) : cs (Txt.slice x none (some (-1))) = (cs x).dropLast := by
  rw [slice_eq x _ _ 0 (x.length - 1) ?_ (by omega)]
  · rw [List.dropLast_eq_take, cs_len]; simp
  · unfold Builtin.Str.strSliceIndices
    simp only [show (1 : Int) > 0 by decide, if_true]
    rw [if_pos (by decide)]
    congr 1 <;> omega
theorem join_nil (xs : List Str) : cs (Txt.join "" xs) = xs.flatMap cs := by
  have key : ∀ (l : List Str) (a : Array Nat), (l.foldl (fun acc p => acc ++ ("" : Str).cps ++ p.cps) a).toList = a.toList ++ l.flatMap cs := by
    intro l
    induction l with
    | nil => intro a; simp
    | cons y l ih =>
      intro a
      rw [List.foldl_cons, ih, List.flatMap_cons]
      have : ("" : Str).cps = #[] := by decide +kernel
      rw [this]; simp
  show ((xs.drop 1).foldl (fun acc p => acc ++ ("" : Str).cps ++ p.cps) (xs.headD Str.empty).cps).toList = _
  rw [key]
  cases xs with
  | nil => rfl
  | cons x l => simp
theorem has_quote (x : Str) : Txt.contains x "\"" = decide (34 ∈ cs x) := StrLaws.found_one x 34

/-! part L2 -/
def fl : Bool → List Nat → Bool
  | e, [] => e
  | true, _ :: r => fl false r
  | false, c :: r => fl (c == 92) r
def es : Bool → Nat → List Nat → List (Int × Str)
  | _, _, [] => []
  | true, i, c :: r => ((i : Int), ⟨#[92, c]⟩) :: es false (i + 1) r
  | false, i, c :: r => if c = 92 then es true (i + 1) r else ((i : Int), ⟨#[c]⟩) :: es false (i + 1) r
def est : Bool → List Nat → List Str
  | _, [] => []
  | true, c :: r => ⟨#[92, c]⟩ :: est false r
  | false, c :: r => if c = 92 then est true r else ⟨#[c]⟩ :: est false r
theorem es_est : ∀ (l : List Nat) (e : Bool) (i : Nat), (es e i l).map (·.2) = est e l
  | [], e, i => by cases e <;> rfl
  | c :: r, true, i => by simp [es, est, es_est r]
  | c :: r, false, i => by
    by_cases h : c = 92
    · simp [es, est, h, es_est r]
    · simp [es, est, h, es_est r]
theorem esc_es : ∀ (l : List Nat) (e : Bool) (p : Int) (i : Nat), fl e l = false → esc e p i l = es e i l
  | [], e, p, i, h => by
    have : e = false := by cases e <;> simp_all [fl]
    subst this; rfl
  | c :: r, true, p, i, h => by
    have := esc_es r false i (i + 1) (by simpa [fl] using h)
    simp [esc, es, this]
  | c :: r, false, p, i, h => by
    by_cases hc : c = 92
    · have := esc_es r true i (i + 1) (by simpa [fl, hc] using h)
      simp [esc, es, hc, this]
    · have hb : (c == 92) = false := by simpa using hc
      have := esc_es r false i (i + 1) (by simpa [fl, hb] using h)
      simp [esc, es, hc, this]
theorem fl_app : ∀ (a b : List Nat) (e : Bool), fl e (a ++ b) = fl (fl e a) b
  | [], b, e => by cases e <;> rfl
  | c :: r, b, true => by simp [fl, fl_app r]
  | c :: r, b, false => by simp [fl, fl_app r]
theorem es_app : ∀ (a b : List Nat) (e : Bool) (i : Nat), es e i (a ++ b) = es e i a ++ es (fl e a) (i + a.length) b
  | [], b, e, i => by cases e <;> rfl
  | c :: r, b, true, i => by simp [fl, es, es_app r, Nat.add_comm, Nat.add_left_comm]
  | c :: r, b, false, i => by
    by_cases h : c = 92
    · simp [fl, es, h, es_app r, Nat.add_comm, Nat.add_left_comm]
    · have hb : (c == 92) = false := by simpa using h
      simp [fl, es, h, hb, es_app r, Nat.add_comm, Nat.add_left_comm]
theorem est_app (a b : List Nat) (e : Bool) : est e (a ++ b) = est e a ++ est (fl e a) b := by
  rw [← es_est (a ++ b) e 0, es_app, List.map_append, es_est, es_est]
structure Ck where
  q : Bool
  l : List Nat
structure Ck.Ok (k : Ck) : Prop where
  clo : fl false k.l = false
  asc : ∀ c ∈ k.l, c < 128
  pla : k.q = false → ("\"" : Str) ∉ est false k.l
  quo : k.q = true → ∃ inner, k.l = 34 :: inner ++ [34] ∧ fl false inner = false ∧ ("\"" : Str) ∉ est false inner
def flat (ks : List Ck) : List Nat := ks.flatMap (·.l)
def plain (ks : List Ck) : List Nat := (ks.filter (!·.q)).flatMap (·.l)
theorem flat_cons (k : Ck) (ks : List Ck) : flat (k :: ks) = k.l ++ flat ks := by simp [flat]
theorem plain_p {k : Ck} (h : k.q = false) (ks : List Ck) : plain (k :: ks) = k.l ++ plain ks := by simp [plain, h]
theorem plain_q {k : Ck} (h : k.q = true) (ks : List Ck) : plain (k :: ks) = plain ks := by simp [plain, h]
theorem fold_still (x : Str) : ∀ (l : List (Int × Str)) (s : SSt), (∀ t ∈ l, t.2 ≠ "\"") → l.foldl (stepS x) s = s
  | [], s, h => rfl
  | t :: l, s, h => by
    have : stepS x s t = s := by
      unfold stepS
      rw [if_neg (by simpa using h t (by simp))]
    rw [List.foldl_cons, this]
    exact fold_still x l s fun u hu => h u (by simp [hu])
theorem still_of {i : Nat} {l : List Nat} (h : ("\"" : Str) ∉ est false l) : ∀ t ∈ es false i l, t.2 ≠ "\"" := fun t ht e =>
  h (by rw [← es_est l false i]; exact List.mem_map.mpr ⟨t, ht, e⟩)
theorem fold_chunks (x : Str) : ∀ (ks : List Ck) (pre : List Nat) (start : Nat) (res : List Str), (∀ k ∈ ks, k.Ok) → cs x = pre ++ flat ks → start ≤ pre.length →
    ∃ (start' : Nat) (res' : List Str), (es false pre.length (flat ks)).foldl (stepS x) ((start : Int), none, res) = ((start' : Int), none, res') ∧ start' ≤ x.length ∧
      res'.flatMap cs ++ (cs x).drop start' = res.flatMap cs ++ ((cs x).drop start).take (pre.length - start) ++ plain ks
  | [], pre, start, res, hk, hx, hs => by
    have hp : cs x = pre := by rw [hx]; simp [flat]
    have hl : pre.length = x.length := by rw [← hp, cs_len]
    refine ⟨start, res, rfl, by omega, ?_⟩
    rw [List.take_of_length_le (by rw [List.length_drop, hp]; exact Nat.le_refl _)]
    simp [plain]
  | k :: ks, pre, start, res, hk, hx, hs => by
    have hok := hk k (by simp)
    have hks : ∀ k ∈ ks, k.Ok := fun k h => hk k (by simp [h])
    have hx' : cs x = (pre ++ k.l) ++ flat ks := by rw [hx, flat_cons, List.append_assoc]
    have hlen : (pre ++ k.l).length = pre.length + k.l.length := by simp
    have hxl : pre.length + k.l.length ≤ x.length := by
      have := congrArg List.length hx'
      rw [cs_len] at this
      simp at this
      omega
    rw [flat_cons, es_app, hok.clo, List.foldl_append]
    cases hq : k.q with
    | false =>
      rw [fold_still x _ _ (still_of (hok.pla hq)), ← hlen, plain_p hq]
      obtain ⟨s', r', h1, h2, h3⟩ := fold_chunks x ks (pre ++ k.l) start res hks hx' (by rw [hlen]; omega)
      refine ⟨s', r', h1, h2, ?_⟩
      rw [h3, List.append_assoc, List.append_assoc]
      congr 1
      rw [← List.append_assoc]
      congr 1
      have e1 : (cs x).drop start = (pre.drop start ++ k.l) ++ flat ks := by
        rw [hx', List.append_assoc, List.drop_append_of_le_length hs, List.append_assoc]
      rw [e1, hlen]
      have l1 : (pre.drop start).length = pre.length - start := by simp
      have l2 : (pre.drop start ++ k.l).length = pre.length + k.l.length - start := by simp; omega
      rw [← l2, List.take_left, List.append_assoc, ← l1, List.take_left]
    | true =>
      obtain ⟨inner, hin, hcl, hno⟩ := hok.quo hq
      have eN : ("\"" : Str) = ⟨#[34]⟩ := by decide +kernel
      have e1 : es false pre.length k.l = ((pre.length : Int), ⟨#[34]⟩) :: (es false (pre.length + 1) inner ++ [(((pre.length + 1 + inner.length : Nat) : Int), ⟨#[34]⟩)]) := by
        rw [hin, List.cons_append]
        show (if (34 : Nat) = 92 then _ else _) = _
        rw [if_neg (by decide), es_app, hcl]
        rfl
      have kl : k.l.length = inner.length + 2 := by rw [hin]; simp
      obtain ⟨res2, hres2, hf2⟩ : ∃ res2, (es false pre.length k.l).foldl (stepS x) ((start : Int), none, res) = (((pre.length + k.l.length : Nat) : Int), none, res2) ∧ res2.flatMap cs = res.flatMap cs ++ ((cs x).drop start).take (pre.length - start) := by
        rw [e1, List.foldl_cons, List.foldl_append, List.foldl_cons, List.foldl_nil]
        have s1 : stepS x ((start : Int), none, res) ((pre.length : Int), ⟨#[34]⟩) = ((start : Int), some (pre.length : Int), res) := by
          unfold stepS; rw [← eN]; rfl
        rw [s1, fold_still x _ _ (still_of hno)]
        have s2 : stepS x ((start : Int), some (pre.length : Int), res) (((pre.length + 1 + inner.length : Nat) : Int), ⟨#[34]⟩) = (((pre.length + 1 + inner.length : Nat) : Int) + 1, none, if (start : Int) != (pre.length : Int) then res ++ [Txt.slice x (some (start : Int)) (some (pre.length : Int))] else res) := by
          unfold stepS; rw [← eN]; rfl
        rw [s2]
        refine ⟨_, by congr 1; rw [kl]; omega, ?_⟩
        by_cases hse : start = pre.length
        · subst hse
          simp
        · rw [if_pos (by simpa using (by omega : ¬ (start : Int) = pre.length)), List.flatMap_append, List.flatMap_cons, List.flatMap_nil, List.append_nil, slice_ab x start pre.length hs (by omega)]
      rw [hres2, ← hlen, plain_q hq]
      obtain ⟨s', r', h1, h2, h3⟩ := fold_chunks x ks (pre ++ k.l) (pre ++ k.l).length res2 hks hx' (Nat.le_refl _)
      refine ⟨s', r', h1, h2, ?_⟩
      rw [h3, hf2, Nat.sub_self, List.take_zero, List.append_nil]
theorem strip_chunks (x : Str) (ks : List Ck) (hk : ∀ k ∈ ks, k.Ok) (hx : cs x = flat ks) : cs (stripR x) = plain ks := by
  unfold stripR
  split
  · obtain ⟨s', r', h1, h2, h3⟩ := fold_chunks x ks [] 0 [] hk (by simpa using hx) (Nat.le_refl _)
    have hcl : fl false (cs x) = false := by
      rw [hx]
      have : ∀ ks : List Ck, (∀ k ∈ ks, k.Ok) → fl false (flat ks) = false := by
        intro ks
        induction ks with
        | nil => intro _; rfl
        | cons k ks ih => intro h; rw [flat_cons, fl_app, (h k (by simp)).clo]; exact ih fun k hk => h k (by simp [hk])
      exact this ks hk
    have hes : escOf x = es false 0 (flat ks) := by unfold escOf; rw [← hx]; exact esc_es _ _ _ _ hcl
    have hf : foldS x (escOf x) = ((s' : Int), none, r') := by unfold foldS; rw [hes]; exact h1
    simp only [hf]
    have h3 : r'.flatMap cs ++ (cs x).drop s' = plain ks := by simpa using h3
    split
    · rw [join_nil, List.flatMap_append, List.flatMap_cons, List.flatMap_nil, List.append_nil, slice_an x s' h2]
      exact h3
    · rename_i hlt
      have : s' = x.length := by omega
      rw [join_nil, ← h3, List.drop_of_length_le (by rw [cs_len]; omega), List.append_nil]
  · rename_i hc
    have hc : (34 : Nat) ∉ cs x := by rw [has_quote] at hc; simpa using hc
    have : ∀ ks : List Ck, (∀ k ∈ ks, k.Ok) → 34 ∉ flat ks → plain ks = flat ks := by
      intro ks
      induction ks with
      | nil => intro _ _; rfl
      | cons k ks ih =>
        intro h h34
        rw [flat_cons] at h34
        have h1 : 34 ∉ k.l := fun q => h34 (by simp [q])
        have h2 : 34 ∉ flat ks := fun q => h34 (by simp [q])
        cases hq : k.q with
        | false => rw [plain_p hq, flat_cons, ih (fun k hk => h k (by simp [hk])) h2]
        | true =>
          obtain ⟨inner, hin, _⟩ := (h k (by simp)).quo hq
          exact absurd (by rw [hin]; simp) h1
    rw [this ks hk (by rw [← hx]; exact hc), hx]

/-! part L3 -/
structure Has (x : Str) (ks : List Ck) : Prop where
  ok : ∀ k ∈ ks, k.Ok
  eq : cs x = flat ks
  len : x.length ≤ 1000
theorem flat_asc {ks : List Ck} (h : ∀ k ∈ ks, k.Ok) : ∀ c ∈ flat ks, c < 128 := fun c hc => by
  obtain ⟨k, hk, hck⟩ := List.mem_flatMap.mp hc
  exact (h k hk).asc c hck
theorem plain_sub {ks : List Ck} : ∀ c ∈ plain ks, c ∈ flat ks := fun c hc => by
  obtain ⟨k, hk, hck⟩ := List.mem_flatMap.mp hc
  exact List.mem_flatMap.mpr ⟨k, (List.mem_filter.mp hk).1, hck⟩
theorem plain_len : ∀ ks : List Ck, (plain ks).length ≤ (flat ks).length
  | [] => Nat.le_refl _
  | k :: ks => by
    have := plain_len ks
    cases hq : k.q with
    | true => rw [plain_q hq, flat_cons, List.length_append]; omega
    | false => rw [plain_p hq, flat_cons, List.length_append, List.length_append]; omega
theorem ascii_of {x : Str} (h : ∀ c ∈ cs x, c < 128) : Ascii x := by
  unfold Ascii
  rw [← Array.all_toList, List.all_eq_true]
  intro c hc
  exact decide_eq_true (h c hc)
theorem Has.fine {x : Str} {ks : List Ck} (h : Has x ks) : Fine x := by
  have hs := strip_chunks x ks h.ok h.eq
  refine ⟨h.len, ascii_of fun c hc => flat_asc h.ok c (h.eq ▸ hc), ?_, ascii_of fun c hc => flat_asc h.ok c (plain_sub c (hs ▸ hc))⟩
  have h1 := plain_len ks
  rw [← hs, ← h.eq, cs_len, cs_len] at h1
  exact Nat.le_trans h1 h.len
theorem est_plain : ∀ {ks : List Ck}, (∀ k ∈ ks, k.Ok) → fl false (plain ks) = false ∧ est false (plain ks) = (ks.filter (!·.q)).flatMap fun k => est false k.l
  | [], _ => ⟨rfl, rfl⟩
  | k :: ks, h => by
    obtain ⟨h1, h2⟩ := est_plain (ks := ks) fun k hk => h k (by simp [hk])
    have hok := h k (by simp)
    cases hq : k.q with
    | true => rw [plain_q hq]; exact ⟨h1, by rw [h2]; simp [hq]⟩
    | false => rw [plain_p hq, fl_app, est_app, hok.clo]; exact ⟨h1, by rw [h2]; simp [hq]⟩
theorem Has.toks {x : Str} {ks : List Ck} (h : Has x ks) : (escOf (stripR x)).map (·.2) = (ks.filter (!·.q)).flatMap fun k => est false k.l := by
  have hs := strip_chunks x ks h.ok h.eq
  obtain ⟨h1, h2⟩ := est_plain h.ok
  unfold escOf
  rw [show (stripR x).cps.toList = cs (stripR x) from rfl, hs, esc_es _ _ _ _ h1, es_est, h2]
/-! a tree's text -/
def pl (l : List Nat) : Ck := ⟨false, l⟩
def aheadCk (n : Int) : List Ck := if (n.fdiv 2).fmod 3 = 0 then [] else if (n.fdiv 2).fmod 3 = 1 then [⟨true, [34, 41, 34]⟩] else [⟨true, [34, 40, 92, 34, 34]⟩]
def opCk (n : Int) : List Ck := aheadCk n ++ [pl (if n.fmod 2 = 0 then [40, 126] else [126, 40])]
def midCk (n : Int) : Ck := pl (if n.fmod 2 = 0 then [45] else [43])
def Tr.chunks : Tr → List Ck
  | .leaf x => [pl (cs x)]
  | .node n l r => opCk n ++ l.chunks ++ [midCk n] ++ r.chunks ++ [pl [41]]
def Tr.chunksI : Tr → List Ck
  | .leaf x => []
  | .node n l r => opCk n ++ l.chunks ++ [midCk n] ++ r.chunks
theorem flat_app (a b : List Ck) : flat (a ++ b) = flat a ++ flat b := by simp [flat]
theorem cs_lit : cs "(~" = [40, 126] ∧ cs "-" = [45] ∧ cs ")" = [41] ∧ cs "~(" = [126, 40] ∧ cs "+" = [43] ∧ cs "" = [] ∧ cs "\")\"" = [34, 41, 34] ∧ cs "\"(\\\"\"" = [34, 40, 92, 34, 34] := by decide +kernel
theorem Tr.chunks_eq : ∀ t : Tr, cs t.text = flat t.chunks
  | .leaf x => by simp [Tr.text, Tr.chunks, flat, pl]
  | .node n l r => by
    obtain ⟨e1, e2, e3, e4, e5, e6, e7, e8⟩ := cs_lit
    have ha : cs (aheadS n) = flat (aheadCk n) := by
      unfold aheadS aheadCk
      split
      · exact e6
      · split
        · rw [e7]; rfl
        · rw [e8]; rfl
    have hl := Tr.chunks_eq l
    have hr := Tr.chunks_eq r
    simp only [Tr.text, Tr.chunks, opCk, midCk, flat_app]
    unfold joinS
    by_cases h : n.fmod 2 = 0
    · simp only [if_pos h, cs_app, ha, hl, hr, e1, e2, e3]
      simp [flat, pl]
    · simp only [if_neg h, cs_app, ha, hl, hr, e4, e5, e3]
      simp [flat, pl]
theorem pl_ok {l : List Nat} (h1 : fl false l = false) (h2 : ∀ c ∈ l, c < 128) (h3 : ("\"" : Str) ∉ est false l) : (pl l).Ok := ⟨h1, h2, fun _ => h3, fun h => nomatch h⟩
theorem ahead_ok (n : Int) : ∀ k ∈ aheadCk n, k.Ok := by
  intro k hk
  unfold aheadCk at hk
  split at hk
  · simp at hk
  · split at hk
    · rw [List.mem_singleton.mp hk]
      exact ⟨by decide, by decide, (fun h => nomatch h), fun _ => ⟨[41], rfl, by decide, by decide +kernel⟩⟩
    · rw [List.mem_singleton.mp hk]
      exact ⟨by decide, by decide, (fun h => nomatch h), fun _ => ⟨[40, 92, 34], rfl, by decide, by decide +kernel⟩⟩
theorem sign_ok : (pl [40, 126]).Ok ∧ (pl [126, 40]).Ok ∧ (pl [45]).Ok ∧ (pl [43]).Ok ∧ (pl [41]).Ok :=
  ⟨pl_ok (by decide) (by decide) (by decide +kernel), pl_ok (by decide) (by decide) (by decide +kernel), pl_ok (by decide) (by decide) (by decide +kernel), pl_ok (by decide) (by decide) (by decide +kernel), pl_ok (by decide) (by decide) (by decide +kernel)⟩
theorem name_ok : ∀ x ∈ names8, (fl false (cs x) = false ∧ (∀ c ∈ cs x, c < 128)) ∧ ("\"" : Str) ∉ est false (cs x) ∧ est false (cs x) = [x] ∧ x.length ≤ 2 := by decide +kernel
theorem op_ok (n : Int) : ∀ k ∈ opCk n, k.Ok := by
  intro k hk
  unfold opCk at hk
  rcases List.mem_append.mp hk with h | h
  · exact ahead_ok n k h
  · rw [List.mem_singleton.mp h]
    split
    · exact sign_ok.1
    · exact sign_ok.2.1
theorem mid_ok (n : Int) : (midCk n).Ok := by
  unfold midCk
  split
  · exact sign_ok.2.2.1
  · exact sign_ok.2.2.2.1
theorem Tr.ok : ∀ t : Tr, (∀ x ∈ t.leaves, x ∈ names8) → ∀ k ∈ t.chunks, k.Ok
  | .leaf x, h, k, hk => by
    have hx := name_ok x (h x (by simp [Tr.leaves]))
    rw [List.mem_singleton.mp hk]
    exact pl_ok hx.1.1 hx.1.2 hx.2.1
  | .node n l r, h, k, hk => by
    have hl := Tr.ok l fun x hx => h x (by simp [Tr.leaves, hx])
    have hr := Tr.ok r fun x hx => h x (by simp [Tr.leaves, hx])
    simp only [Tr.chunks, List.mem_append, List.mem_singleton] at hk
    rcases hk with (((hk | hk) | hk) | hk) | hk
    · exact op_ok n k hk
    · exact hl k hk
    · rw [hk]; exact mid_ok n
    · exact hr k hk
    · rw [hk]; exact sign_ok.2.2.2.2
theorem Tr.okI : ∀ t : Tr, (∀ x ∈ t.leaves, x ∈ names8) → ∀ k ∈ t.chunksI, k.Ok
  | .leaf x, h, k, hk => by simp [Tr.chunksI] at hk
  | .node n l r, h, k, hk => Tr.ok (.node n l r) h k (by simp only [Tr.chunks]; exact List.mem_append_left _ hk)
def Tr.isNode : Tr → Prop
  | .leaf _ => False
  | .node _ _ _ => True
theorem Tr.node_of {t : Tr} (h : 2 ≤ t.leaves.length) : t.isNode := by
  cases t with
  | leaf x => simp [Tr.leaves] at h
  | node n l r => trivial
def opT (n : Int) : List Str := if n.fmod 2 = 0 then ["(", "~"] else ["~", "("]
def midT (n : Int) : Str := if n.fmod 2 = 0 then "-" else "+"
/-- what is reckoned with, sign by sign -/
def Tr.tk : Tr → List Str
  | .leaf x => [x]
  | .node n l r => opT n ++ l.tk ++ [midT n] ++ r.tk ++ [(")" : Str)]
def Tr.tkI : Tr → List Str
  | .leaf x => []
  | .node n l r => opT n ++ l.tk ++ [midT n] ++ r.tk
def tkOf (ks : List Ck) : List Str := (ks.filter (!·.q)).flatMap fun k => est false k.l
theorem tkOf_app (a b : List Ck) : tkOf (a ++ b) = tkOf a ++ tkOf b := by simp [tkOf]
theorem tk_ahead (n : Int) : tkOf (aheadCk n) = [] := by
  unfold aheadCk
  split
  · rfl
  · split <;> rfl
theorem tk_op (n : Int) : tkOf (opCk n) = opT n := by
  unfold opCk opT
  rw [tkOf_app, tk_ahead]
  split <;> decide +kernel
theorem tk_mid (n : Int) : tkOf [midCk n] = [midT n] := by
  unfold midCk midT
  split <;> decide +kernel
theorem tk_end : tkOf [pl [41]] = [(")" : Str)] := by decide +kernel
theorem Tr.tk_eq : ∀ t : Tr, (∀ x ∈ t.leaves, x ∈ names8) → tkOf t.chunks = t.tk
  | .leaf x, h => by
    have hx := (name_ok x (h x (by simp [Tr.leaves]))).2.2.1
    simp [Tr.chunks, Tr.tk, tkOf, pl, hx]
  | .node n l r, h => by
    have hl := Tr.tk_eq l fun x hx => h x (by simp [Tr.leaves, hx])
    have hr := Tr.tk_eq r fun x hx => h x (by simp [Tr.leaves, hx])
    simp only [Tr.chunks, Tr.tk, tkOf_app, tk_op, tk_mid, tk_end, hl, hr]
theorem Tr.tkI_eq : ∀ t : Tr, (∀ x ∈ t.leaves, x ∈ names8) → tkOf t.chunksI = t.tkI
  | .leaf x, h => rfl
  | .node n l r, h => by
    have hl := Tr.tk_eq l fun x hx => h x (by simp [Tr.leaves, hx])
    have hr := Tr.tk_eq r fun x hx => h x (by simp [Tr.leaves, hx])
    simp only [Tr.chunksI, Tr.tkI, tkOf_app, tk_op, tk_mid, hl, hr]
theorem Tr.len_le {t : Tr} (h : ∀ x ∈ t.leaves, x ∈ names8) (hl : t.leaves.length ≤ 8) : t.text.length ≤ 100 := by
  have := t.text_len fun x hx => (name_ok x (h x hx)).2.2.2
  omega
theorem Tr.has {t : Tr} (h : ∀ x ∈ t.leaves, x ∈ names8) (hl : t.leaves.length ≤ 8) : Has t.text t.chunks := ⟨t.ok h, t.chunks_eq, Nat.le_trans (t.len_le h hl) (by decide)⟩
theorem Tr.dropL {t : Tr} (hn : t.isNode) : cs (Txt.slice t.text none (some (-1))) = flat t.chunksI := by
  cases t with
  | leaf x => exact hn.elim
  | node n l r =>
    have h1 := Tr.chunks_eq (.node n l r)
    have h2 : (Tr.node n l r).chunks = (Tr.node n l r).chunksI ++ [pl [41]] := rfl
    rw [h2, flat_app] at h1
    have h3 : flat [pl [41]] = [41] := rfl
    rw [h3] at h1
    rw [slice_last, h1]
    · simp
    · rw [← cs_len, h1]; simp
theorem Tr.hasI {t : Tr} (hn : t.isNode) (h : ∀ x ∈ t.leaves, x ∈ names8) (hl : t.leaves.length ≤ 8) : Has (Txt.slice t.text none (some (-1))) t.chunksI :=
  ⟨t.okI h, Tr.dropL hn, Nat.le_trans (Txt.slice_le _ _ _) (Nat.le_trans (t.len_le h hl) (by decide))⟩
theorem Tr.hasJ {t : Tr} (hn : t.isNode) (h : ∀ x ∈ t.leaves, x ∈ names8) (hl : t.leaves.length ≤ 8) : Has (")" ++ Txt.slice t.text none (some (-1))) (pl [41] :: t.chunksI) := by
  refine ⟨fun k hk => ?_, ?_, ?_⟩
  · rcases List.mem_cons.mp hk with rfl | hk
    · exact sign_ok.2.2.2.2
    · exact t.okI h k hk
  · rw [cs_app, cs_lit.2.2.1, Tr.dropL hn, flat_cons]; rfl
  · rw [Str.length_append]
    have := Nat.le_trans (Txt.slice_le t.text none (some (-1))) (t.len_le h hl)
    have e : (")" : Str).length = 1 := by decide +kernel
    omega
/-! the check of the brackets -/
def chkT : List Str → Int → Bool
  | [], n => n == 0
  | y :: r, n => if y == "(" then chkT r (n + 1) else if y == ")" then (if n - 1 < 0 then false else chkT r (n - 1)) else chkT r n
theorem chkF_T : ∀ (l : List (Int × Str)) (n : Int), chkF l n = chkT (l.map (·.2)) n
  | [], n => rfl
  | (p, y) :: l, n => by
    rw [chkF_cons, List.map_cons]
    show _ = if y == "(" then _ else _
    rw [chkF_T l, chkF_T l, chkF_T l]
theorem chk_skip {y : Str} (h1 : (y == "(") = false) (h2 : (y == ")") = false) (r : List Str) (n : Int) : chkT (y :: r) n = chkT r n := by
  show (if y == "(" then _ else if y == ")" then _ else _) = _
  rw [h1, h2]; rfl
theorem chk_open (r : List Str) (n : Int) : chkT ("(" :: r) n = chkT r (n + 1) := by
  show (if (("(" : Str) == "(") then _ else _) = _
  rw [if_pos (by decide +kernel)]
theorem chk_close (r : List Str) (n : Int) (h : 1 ≤ n) : chkT (")" :: r) n = chkT r (n - 1) := by
  show (if ((")" : Str) == "(") then _ else if ((")" : Str) == ")") then (if n - 1 < 0 then _ else _) else _) = _
  rw [if_neg (by decide +kernel), if_pos (by decide +kernel), if_neg (by omega)]
theorem name_chk : ∀ x ∈ names8, (x == "(") = false ∧ (x == ")") = false := by decide +kernel
theorem Tr.chk : ∀ (t : Tr), (∀ x ∈ t.leaves, x ∈ names8) → ∀ (r : List Str) (n : Int), 0 ≤ n → chkT (t.tk ++ r) n = chkT r n
  | .leaf x, h, r, n, hn => by
    have hx := name_chk x (h x (by simp [Tr.leaves]))
    exact chk_skip hx.1 hx.2 r n
  | .node m l r', h, r, n, hn => by
    have hl := Tr.chk l fun x hx => h x (by simp [Tr.leaves, hx])
    have hr := Tr.chk r' fun x hx => h x (by simp [Tr.leaves, hx])
    have ht : ∀ r n, chkT ("~" :: r) n = chkT r n := chk_skip (by decide +kernel) (by decide +kernel)
    have hm : ∀ r n, chkT ("-" :: r) n = chkT r n := chk_skip (by decide +kernel) (by decide +kernel)
    have hp : ∀ r n, chkT ("+" :: r) n = chkT r n := chk_skip (by decide +kernel) (by decide +kernel)
    simp only [Tr.tk, opT, midT]
    split
    · simp only [List.cons_append, List.nil_append, List.append_assoc]
      rw [chk_open, ht, hl _ _ (by omega), hm, hr _ _ (by omega), chk_close _ _ (by omega)]
      congr 1; omega
    · simp only [List.cons_append, List.nil_append, List.append_assoc]
      rw [ht, chk_open, hl _ _ (by omega), hp, hr _ _ (by omega), chk_close _ _ (by omega)]
      congr 1; omega
theorem Tr.chkI {t : Tr} (hn : t.isNode) (h : ∀ x ∈ t.leaves, x ∈ names8) : chkT t.tkI 0 = false := by
  cases t with
  | leaf x => exact hn.elim
  | node m l r' =>
    have hl := Tr.chk l fun x hx => h x (by simp [Tr.leaves, hx])
    have hr := Tr.chk r' fun x hx => h x (by simp [Tr.leaves, hx])
    have ht : ∀ r n, chkT ("~" :: r) n = chkT r n := chk_skip (by decide +kernel) (by decide +kernel)
    have hm : ∀ r n, chkT ("-" :: r) n = chkT r n := chk_skip (by decide +kernel) (by decide +kernel)
    have hp : ∀ r n, chkT ("+" :: r) n = chkT r n := chk_skip (by decide +kernel) (by decide +kernel)
    have hr' : ∀ n, 0 ≤ n → chkT r'.tk n = chkT [] n := fun n hn => by
      have := hr [] n hn
      rwa [List.append_nil] at this
    simp only [Tr.tkI, opT, midT]
    split
    · simp only [List.cons_append, List.nil_append, List.append_assoc]
      rw [chk_open, ht, hl _ _ (by omega), hm, hr' _ (by omega)]
      rfl
    · simp only [List.cons_append, List.nil_append, List.append_assoc]
      rw [ht, chk_open, hl _ _ (by omega), hp, hr' _ (by omega)]
      rfl
theorem kept_own {t : Tr} (h : ∀ x ∈ t.leaves, x ∈ names8) (hl : t.leaves.length ≤ 8) : keptR t.text = t.text := by
  unfold keptR checkR
  rw [chkF_T, (Tr.has h hl).toks]
  have e : chkT (tkOf t.chunks) 0 = true := by
    rw [t.tk_eq h]
    have := t.chk h [] 0 (Int.le_refl _)
    rw [List.append_nil] at this
    rw [this]; rfl
  exact if_pos e
theorem kept_I {t : Tr} (hn : t.isNode) (h : ∀ x ∈ t.leaves, x ∈ names8) (hl : t.leaves.length ≤ 8) : keptR (Txt.slice t.text none (some (-1))) = "('', '')" := by
  unfold keptR checkR
  rw [chkF_T, (Tr.hasI hn h hl).toks]
  have e : chkT (tkOf t.chunksI) 0 = false := by rw [t.tkI_eq h]; exact Tr.chkI hn h
  exact if_neg (by show ¬ chkT (tkOf t.chunksI) 0 = true; rw [e]; decide)
theorem kept_J {t : Tr} (hn : t.isNode) (h : ∀ x ∈ t.leaves, x ∈ names8) (hl : t.leaves.length ≤ 8) : keptR (")" ++ Txt.slice t.text none (some (-1))) = "('', '')" := by
  unfold keptR checkR
  rw [chkF_T, (Tr.hasJ hn h hl).toks]
  have e : chkT (tkOf (pl [41] :: t.chunksI)) 0 = false := by
    have : tkOf (pl [41] :: t.chunksI) = (")" : Str) :: tkOf t.chunksI := by
      have := tkOf_app [pl [41]] t.chunksI
      rw [tk_end] at this
      exact this
    rw [this]
    show (if ((")" : Str) == "(") then _ else if ((")" : Str) == ")") then (if (0 : Int) - 1 < 0 then _ else _) else _) = _
    rw [if_neg (by decide +kernel), if_pos (by decide +kernel), if_pos (by decide)]
  exact if_neg (by show ¬ chkT (tkOf (pl [41] :: t.chunksI)) 0 = true; rw [e]; decide)

/-! part L4 -/
def opS (n : Int) : List Int := if n.fmod 2 = 0 then [7, 31] else [31, 7]
def midS (n : Int) : Int := if n.fmod 2 = 0 then 15 else 14
def Tr.sy : Nat → Tr → List Int
  | k, .leaf _ => [256 + (k : Nat)]
  | k, .node n l r => opS n ++ l.sy k ++ [midS n] ++ r.sy (k + l.leaves.length) ++ [8]
theorem sym_at : ∀ k : Nat, k < 8 → symOf (names8.getD k "") = 256 + (k : Nat) := by decide +kernel
theorem sym_lits : symOf "(" = 7 ∧ symOf ")" = 8 ∧ symOf "+" = 14 ∧ symOf "-" = 15 ∧ symOf "~" = 31 := by decide +kernel
theorem Tr.sy_eq : ∀ (t : Tr) (k : Nat), t.leaves = (names8.drop k).take t.leaves.length → t.tk.map symOf = t.sy k
  | .leaf x, k, h => by
    simp only [Tr.leaves, List.length_singleton] at h
    have h1 : names8[k]? = some x := by
      have : ((names8.drop k).take 1)[0]? = some x := by rw [← h]; rfl
      rw [List.getElem?_take_of_lt (by decide), List.getElem?_drop] at this
      simpa using this
    have hk : k < 8 := (List.getElem?_eq_some_iff.mp h1).1
    have := sym_at k hk
    have e : names8.getD k "" = x := by simp [List.getD, h1]
    rw [e] at this
    simp [Tr.tk, Tr.sy, this]
  | .node n l r, k, h => by
    simp only [Tr.leaves, List.length_append] at h
    have hl : l.leaves = (names8.drop k).take l.leaves.length := by
      have := congrArg (List.take l.leaves.length) h
      rw [List.take_left, List.take_take, Nat.min_eq_left (by omega)] at this
      exact this
    have hr : r.leaves = (names8.drop (k + l.leaves.length)).take r.leaves.length := by
      have := congrArg (List.drop l.leaves.length) h
      rw [List.drop_left, List.drop_take, List.drop_drop, Nat.add_sub_cancel_left] at this
      exact this
    obtain ⟨e1, e2, e3, e4, e5⟩ := sym_lits
    have il := Tr.sy_eq l k hl
    have ir := Tr.sy_eq r _ hr
    simp only [Tr.tk, Tr.sy, List.map_append, il, ir, opT, midT, opS, midS]
    split <;> simp [e1, e2, e3, e4, e5]
theorem Tr.tk_in : ∀ (t : Tr), (∀ x ∈ t.leaves, x ∈ names8) → ∀ y ∈ t.tk, (∃ i, (y, i) ∈ sigTab) ∨ y ∈ names8
  | .leaf x, h, y, hy => by
    rw [List.mem_singleton.mp hy]
    exact .inr (h x (by simp [Tr.leaves]))
  | .node n l r, h, y, hy => by
    have hl := Tr.tk_in l fun x hx => h x (by simp [Tr.leaves, hx])
    have hr := Tr.tk_in r fun x hx => h x (by simp [Tr.leaves, hx])
    simp only [Tr.tk, List.mem_append, List.mem_singleton] at hy
    have e1 : (("(" : Str), (7 : Int)) ∈ sigTab := by decide +kernel
    have e2 : ((")" : Str), (8 : Int)) ∈ sigTab := by decide +kernel
    have e3 : (("+" : Str), (14 : Int)) ∈ sigTab := by decide +kernel
    have e4 : (("-" : Str), (15 : Int)) ∈ sigTab := by decide +kernel
    have e5 : (("~" : Str), (31 : Int)) ∈ sigTab := by decide +kernel
    rcases hy with (((hy | hy) | hy) | hy) | hy
    · unfold opT at hy
      split at hy
      · rcases List.mem_cons.mp hy with rfl | hy
        · exact .inl ⟨_, e1⟩
        · rw [List.mem_singleton.mp hy]; exact .inl ⟨_, e5⟩
      · rcases List.mem_cons.mp hy with rfl | hy
        · exact .inl ⟨_, e5⟩
        · rw [List.mem_singleton.mp hy]; exact .inl ⟨_, e1⟩
    · exact hl y hy
    · unfold midT at hy
      rw [hy]
      split
      · exact .inl ⟨_, e4⟩
      · exact .inl ⟨_, e3⟩
    · exact hr y hy
    · rw [hy]; exact .inl ⟨_, e2⟩
structure Tr.Named (t : Tr) : Prop where
  nm : t.leaves = names8.take t.leaves.length
  l1 : 2 ≤ t.leaves.length
  l2 : t.leaves.length ≤ 8
theorem Tr.Named.mem {t : Tr} (h : t.Named) : ∀ x ∈ t.leaves, x ∈ names8 := fun x hx => List.mem_of_mem_take (h.nm ▸ hx)
theorem Tr.Named.symL {t : Tr} (h : t.Named) : symL t.text = t.sy 0 ++ [0] := by
  unfold Mine.symL
  have h1 : (escOf (stripR t.text)).map (fun t => symOf t.2) = ((escOf (stripR t.text)).map (·.2)).map symOf := by rw [List.map_map]; rfl
  rw [h1, (Tr.has h.mem h.l2).toks]
  show (tkOf t.chunks).map symOf ++ [0] = _
  rw [t.tk_eq h.mem, t.sy_eq 0 (by rw [List.drop_zero]; exact h.nm)]
theorem Tr.Named.spelt {t : Tr} (h : t.Named) : Spelt t.text := fun u hu => by
  have h1 : u.2 ∈ (escOf (stripR t.text)).map (·.2) := List.mem_map.mpr ⟨u, hu, rfl⟩
  rw [(Tr.has h.mem h.l2).toks] at h1
  have h2 : u.2 ∈ t.tk := by rw [← t.tk_eq h.mem]; exact h1
  exact t.tk_in h.mem _ h2
/-! signs -/
def sgo (o : Int) : Int := 1 - 2 * o.fmod 2
def sgF : List Int → Int → List Int
  | [], _ => []
  | s :: r, o => if s ≥ 256 then sgo o :: sgF r o else sgF r (o + (if s = 7 then 1 else 0) - (if s = 8 then 1 else 0))
theorem sgo_succ (o : Int) : sgo (o + 1) = -(sgo o) := by
  unfold sgo
  rw [Int.fmod_eq_emod_of_nonneg _ (by decide), Int.fmod_eq_emod_of_nonneg _ (by decide)]
  omega
theorem opn_succ (sy : List Int) (k : Nat) (h : k < sy.length) : opn sy (k + 1) = opn sy k + (if sy[k] = 7 then 1 else 0) - (if sy[k] = 8 then 1 else 0) := by
  unfold opn
  have e : sy.take (k + 1) = sy.take k ++ [sy[k]] := by rw [List.take_succ, List.getElem?_eq_getElem h]; rfl
  rw [e, List.count_append, List.count_append, List.count_singleton, List.count_singleton]
  by_cases h7 : sy[k] = 7
  · rw [h7]; simp; omega
  · by_cases h8 : sy[k] = 8
    · rw [h8]; simp; omega
    · have b7 : (sy[k] == (7 : Int)) = false := by simpa using h7
      have b8 : (sy[k] == (8 : Int)) = false := by simpa using h8
      simp [h7, h8, b7, b8]
theorem signL_from (sy : List Int) : ∀ (r pre : List Int), sy = pre ++ r → signL sy sy.length = signL sy pre.length ++ sgF r (opn sy pre.length)
  | [], pre, h => by
    have : sy.length = pre.length := by rw [h]; simp
    rw [this]; simp [sgF]
  | s :: r, pre, h => by
    have hk : pre.length < sy.length := by rw [h]; simp
    have hs : sy[pre.length] = s := by subst h; simp
    have ih := signL_from sy r (pre ++ [s]) (by rw [h]; simp)
    have hl : (pre ++ [s]).length = pre.length + 1 := by simp
    rw [ih, hl, signL_succ, opn_succ sy _ hk, hs]
    have hd : sy.getD pre.length 0 = s := by simp [List.getD, hk, hs]
    rw [hd]
    by_cases hge : s ≥ 256
    · have h7 : ¬ s = 7 := by omega
      have h8 : ¬ s = 8 := by omega
      simp [sgF, hge, h7, h8, sgo]
    · simp [sgF, hge]
theorem signL_F (sy : List Int) : signL sy sy.length = sgF sy 0 := by
  have := signL_from sy sy [] rfl
  rw [this]
  simp [signL, opn]
theorem sgF_small {s : Int} (h : s < 256) (h7 : s ≠ 7) (h8 : s ≠ 8) (r : List Int) (o : Int) : sgF (s :: r) o = sgF r o := by
  show (if s ≥ 256 then _ else _) = _
  rw [if_neg (by omega), if_neg h7, if_neg h8]
  congr 1; omega
theorem sgF_open (r : List Int) (o : Int) : sgF (7 :: r) o = sgF r (o + 1) := by
  show (if (7 : Int) ≥ 256 then _ else _) = _
  rw [if_neg (by decide), if_pos rfl, if_neg (by decide)]
  congr 1; omega
theorem sgF_close (r : List Int) (o : Int) : sgF (8 :: r) o = sgF r (o - 1) := by
  show (if (8 : Int) ≥ 256 then _ else _) = _
  rw [if_neg (by decide), if_neg (by decide), if_pos rfl]
  congr 1; omega
theorem Tr.sgF : ∀ (t : Tr) (k : Nat) (r : List Int) (o : Int), Mine.sgF (t.sy k ++ r) o = t.signs (sgo o) ++ Mine.sgF r o
  | .leaf x, k, r, o => by
    show (if (256 + (k : Int)) ≥ 256 then _ else _) = _
    rw [if_pos (by omega)]; rfl
  | .node n l r', k, r, o => by
    have il := Tr.sgF l k
    have ir := Tr.sgF r' (k + l.leaves.length)
    have e31 : ∀ r o, Mine.sgF (31 :: r) o = Mine.sgF r o := sgF_small (by decide) (by decide) (by decide)
    have e15 : ∀ r o, Mine.sgF (15 :: r) o = Mine.sgF r o := sgF_small (by decide) (by decide) (by decide)
    have e14 : ∀ r o, Mine.sgF (14 :: r) o = Mine.sgF r o := sgF_small (by decide) (by decide) (by decide)
    have z : o + 1 - 1 = o := by omega
    simp only [Tr.sy, Tr.signs, opS, midS]
    split
    · simp only [List.cons_append, List.nil_append, List.append_assoc]
      rw [sgF_open, e31, il, e15, ir, sgF_close, sgo_succ, z]
    · simp only [List.cons_append, List.nil_append, List.append_assoc]
      rw [e31, sgF_open, il, e14, ir, sgF_close, sgo_succ, z]
theorem Tr.Named.signs {t : Tr} (h : t.Named) : signL (Mine.symL t.text) (Mine.symL t.text).length = t.signs 1 := by
  rw [signL_F, h.symL, t.sgF]
  have e1 : sgo 0 = 1 := by decide
  have e2 : Mine.sgF [0] 0 = [] := by decide
  rw [e1, e2, List.append_nil]
/-! reckoning -/
def Tr.val (ws : List Int) : Nat → Tr → Int
  | k, .leaf _ => ws.getD k 0
  | k, .node _ l r => -(l.val ws k) - 1 - r.val ws (k + l.leaves.length)
theorem run_cons {ws : List Int} {s : Int} {r : List Int} {st st' : RSt} (h : feed ws s st = some st') : runR ws (s :: r) st = runR ws r st' := by
  show (match feed ws s st with | none => none | some st' => runR ws r st') = _
  rw [h]
theorem feed_push {ws : List Int} {s : Int} {ts w0 : List Int} (h : s = 7 ∨ s = 31) : feed ws s (ts, w0) = some (ts, s :: w0) := by
  unfold feed
  rw [if_neg (by omega), if_pos h]
theorem feed_op {ws : List Int} {s : Int} {ts w0 ts' w' : List Int} (h : s = 14 ∨ s = 15) (hr : red s ts w0 = some (ts', w')) : feed ws s (ts, w0) = some (ts', s :: w') := by
  unfold feed
  rw [if_neg (by omega), if_neg (by omega)]
  show (match red s ts w0 with | none => none | some (ts, ws) => _) = _
  rw [hr]
  show (if s = 8 then _ else if s = 0 then _ else _) = _
  rw [if_neg (by omega), if_neg (by omega)]
theorem feed_close {ws : List Int} {ts w0 ts' w' : List Int} {d : Int} (hr : red 8 ts w0 = some (ts', d :: w')) : feed ws 8 (ts, w0) = some (ts', w') := by
  unfold feed
  rw [if_neg (by decide), if_neg (by decide)]
  show (match red 8 ts w0 with | none => none | some (ts, ws) => _) = _
  rw [hr]
  rfl
theorem feed_end {ws : List Int} {ts w0 ts' w' : List Int} (hr : red 0 ts w0 = some (ts', w')) : feed ws 0 (ts, w0) = some (ts', w') := by
  unfold feed
  rw [if_neg (by decide), if_neg (by decide)]
  show (match red 0 ts w0 with | none => none | some (ts, ws) => _) = _
  rw [hr]
  rfl
theorem red_stop {s d : Int} {ts ws : List Int} (h : ¬ d.fdiv 2 ≥ s.fdiv 2) : red s ts (d :: ws) = some (ts, d :: ws) := by rw [red_cons, if_neg h]
theorem red_go {s d : Int} {ts ts' ws : List Int} (h : d.fdiv 2 ≥ s.fdiv 2) (ho : opR d ts = some ts') : red s ts (d :: ws) = red s ts' ws := by rw [red_cons, if_pos h, ho]
theorem Tr.run (ws : List Int) : ∀ (t : Tr) (k : Nat) (rest ts w0 : List Int), k + t.leaves.length ≤ ws.length →
    ∃ v' w', runR ws (t.sy k ++ rest) (ts, w0) = runR ws rest (v' :: ts, w') ∧ ∀ s : Int, (s = 0 ∨ s = 8 ∨ s = 14 ∨ s = 15) → red s (v' :: ts) w' = red s (t.val ws k :: ts) w0
  | .leaf x, k, rest, ts, w0, h => by
    simp only [Tr.leaves, List.length_singleton] at h
    refine ⟨ws.getD k 0, w0, run_cons ?_, fun s _ => rfl⟩
    unfold feed
    have e : (256 + (k : Int) - 256).toNat = k := by omega
    rw [if_pos (by omega), e, if_pos (by omega)]
  | .node n l r, k, rest, ts, w0, h => by
    simp only [Tr.leaves, List.length_append] at h
    simp only [Tr.sy, opS, midS]
    split
    · simp only [List.cons_append, List.nil_append, List.append_assoc]
      rw [run_cons (feed_push (.inl rfl)), run_cons (feed_push (.inr rfl))]
      obtain ⟨v1, w1, e1, r1⟩ := Tr.run ws l k (15 :: (r.sy (k + l.leaves.length) ++ 8 :: rest)) ts (31 :: 7 :: w0) (by omega)
      rw [e1]
      have q1 : red 15 (v1 :: ts) w1 = some ((-(l.val ws k) - 1) :: ts, 7 :: w0) := by
        rw [r1 15 (.inr (.inr (.inr rfl))), red_go (by decide) (opR_31 rfl), red_stop (by decide)]
      rw [run_cons (feed_op (.inr rfl) q1)]
      obtain ⟨v2, w2, e2, r2⟩ := Tr.run ws r (k + l.leaves.length) (8 :: rest) ((-(l.val ws k) - 1) :: ts) (15 :: 7 :: w0) (by omega)
      rw [e2]
      have q2 : red 8 (v2 :: (-(l.val ws k) - 1) :: ts) w2 = some ((-(l.val ws k) - 1 - r.val ws (k + l.leaves.length)) :: ts, 7 :: w0) := by
        rw [r2 8 (.inr (.inl rfl)), red_go (by decide) (opR_2 (by decide)), if_neg (by decide), red_stop (by decide)]
      rw [run_cons (feed_close q2)]
      exact ⟨_, _, rfl, fun s _ => rfl⟩
    · simp only [List.cons_append, List.nil_append, List.append_assoc]
      rw [run_cons (feed_push (.inr rfl)), run_cons (feed_push (.inl rfl))]
      obtain ⟨v1, w1, e1, r1⟩ := Tr.run ws l k (14 :: (r.sy (k + l.leaves.length) ++ 8 :: rest)) ts (7 :: 31 :: w0) (by omega)
      rw [e1]
      have q1 : red 14 (v1 :: ts) w1 = some (l.val ws k :: ts, 7 :: 31 :: w0) := by
        rw [r1 14 (.inr (.inr (.inl rfl))), red_stop (by decide)]
      rw [run_cons (feed_op (.inl rfl) q1)]
      obtain ⟨v2, w2, e2, r2⟩ := Tr.run ws r (k + l.leaves.length) (8 :: rest) (l.val ws k :: ts) (14 :: 7 :: 31 :: w0) (by omega)
      rw [e2]
      have q2 : red 8 (v2 :: l.val ws k :: ts) w2 = some ((l.val ws k + r.val ws (k + l.leaves.length)) :: ts, 7 :: 31 :: w0) := by
        rw [r2 8 (.inr (.inl rfl)), red_go (by decide) (opR_2 (by decide)), if_pos rfl, red_stop (by decide)]
      rw [run_cons (feed_close q2)]
      refine ⟨_, _, rfl, fun s hs => ?_⟩
      rw [red_go (by rcases hs with rfl | rfl | rfl | rfl <;> decide) (opR_31 rfl)]
      have : -(l.val ws k + r.val ws (k + l.leaves.length)) - 1 = (Tr.node n l r).val ws k := by simp only [Tr.val]; omega
      rw [this]
theorem Tr.Named.run {t : Tr} (h : t.Named) {ws : List Int} (hw : 8 ≤ ws.length) : runR ws (Mine.symL t.text) ([], []) = some ([t.val ws 0], []) := by
  rw [h.symL]
  obtain ⟨v, w, e, r⟩ := t.run ws 0 [0] [] [] (by have := h.l2; omega)
  rw [e, run_cons (feed_end (ts' := [t.val ws 0]) (w' := []) (by rw [r 0 (.inl rfl)]; rfl))]
  rfl
/-! the worth -/
def sw (ws : List Int) : List Int → Nat → Int
  | [], _ => 0
  | s :: r, k => s * ws.getD k 0 + sw ws r (k + 1)
theorem sw_app (ws : List Int) : ∀ (a b : List Int) (k : Nat), sw ws (a ++ b) k = sw ws a k + sw ws b (k + a.length)
  | [], b, k => by simp [sw]
  | s :: a, b, k => by
    have := sw_app ws a b (k + 1)
    simp only [List.cons_append, sw, this, List.length_cons]
    have e : k + 1 + a.length = k + (a.length + 1) := by omega
    rw [e]; omega
theorem sw_neg (ws : List Int) : ∀ (a : List Int) (k : Nat), sw ws (a.map (-·)) k = -(sw ws a k)
  | [], k => by simp [sw]
  | s :: a, k => by
    have := sw_neg ws a (k + 1)
    simp only [List.map_cons, sw, this, Int.neg_mul]
    omega
theorem sum_neg : ∀ (a : List Int), (a.map (-·)).sum = -a.sum
  | [] => rfl
  | s :: a => by
    have := sum_neg a
    simp only [List.map_cons, List.sum_cons, this]
    omega
theorem Tr.signs_neg : ∀ (t : Tr) (s : Int), t.signs (-s) = (t.signs s).map (-·)
  | .leaf x, s => rfl
  | .node n l r, s => by
    simp only [Tr.signs, List.map_append, ← Tr.signs_neg l, ← Tr.signs_neg r]
theorem Tr.signs_len : ∀ (t : Tr) (s : Int), (t.signs s).length = t.leaves.length
  | .leaf x, s => rfl
  | .node n l r, s => by simp [Tr.signs, Tr.leaves, Tr.signs_len l, Tr.signs_len r]
theorem Tr.signs_pm : ∀ (t : Tr) (s : Int), (s = 1 ∨ s = -1) → ∀ x ∈ t.signs s, x = 1 ∨ x = -1
  | .leaf y, s, h, x, hx => by rw [List.mem_singleton.mp hx]; exact h
  | .node n l r, s, h, x, hx => by
    have h' : -s = 1 ∨ -s = -1 := by omega
    rcases List.mem_append.mp hx with q | q
    · exact Tr.signs_pm l (-s) h' x q
    · exact Tr.signs_pm r (-s) h' x q
theorem Tr.worth (ws : List Int) : ∀ (t : Tr) (k : Nat), ∃ q : Int, t.val ws k = sw ws (t.signs 1) k - q ∧ 3 * q = 1 - (t.signs 1).sum
  | .leaf x, k => ⟨0, by simp [Tr.val, Tr.signs, sw], by simp [Tr.signs]⟩
  | .node n l r, k => by
    obtain ⟨q1, h1, h2⟩ := Tr.worth ws l k
    obtain ⟨q2, h3, h4⟩ := Tr.worth ws r (k + l.leaves.length)
    refine ⟨1 - q1 - q2, ?_, ?_⟩
    · simp only [Tr.val, Tr.signs, sw_app, Tr.signs_neg, sw_neg, List.length_map, Tr.signs_len, h1, h3]
      omega
    · simp only [Tr.signs, List.sum_append, Tr.signs_neg, sum_neg]
      omega
theorem sw_range (ws : List Int) : ∀ (ss : List Int) (k : Nat), ((List.range ss.length).map fun i => ss.getD i 0 * ws.getD (k + i) 0).sum = sw ws ss k
  | [], k => rfl
  | s :: ss, k => by
    have ih := sw_range ws ss (k + 1)
    rw [List.length_cons, List.range_succ_eq_map, List.map_cons, List.sum_cons, List.map_map]
    simp only [sw]
    rw [← ih]
    congr 1
    congr 1
    apply List.map_congr_left
    intro i _
    simp only [Function.comp, Nat.succ_eq_add_one]
    have e : k + (i + 1) = k + 1 + i := by omega
    rw [e]; rfl
theorem Tr.due (ws : List Int) (t : Tr) : dueR (t.signs 1) ws = t.val ws 0 ∧ (t.signs 1).sum % 3 = 1 := by
  obtain ⟨q, h1, h2⟩ := t.worth ws 0
  have h3 := sw_range ws (t.signs 1) 0
  have h3 : ((List.range (t.signs 1).length).map fun i => (t.signs 1).getD i 0 * ws.getD i 0).sum = sw ws (t.signs 1) 0 := by
    rw [← h3]; congr 1; apply List.map_congr_left; intro i _; rw [Nat.zero_add]
  unfold dueR
  rw [h3, h1, ← h2, Int.fdiv_eq_ediv_of_nonneg _ (by decide)]
  constructor <;> omega
/-! two neighbours alike -/
def Pair (l : List Int) : Prop := ∃ i, i + 1 < l.length ∧ l.getD i 0 = l.getD (i + 1) 0
theorem Pair.alt {l : List Int} (h : Pair l) : altB l = false := by
  obtain ⟨i, hi, he⟩ := h
  unfold altB
  rw [Bool.and_eq_false_iff]
  refine .inr (beq_eq_false_iff_ne.mpr fun q => ?_)
  have hm : ((1 : Int) + (i : Nat)) ∈ ((List.range (l.length - 1)).map fun (i : Nat) => (1 : Int) + i).filter fun k => l.getD k.toNat 0 == l.getD (k - 1).toNat 0 := by
    rw [List.mem_filter]
    refine ⟨List.mem_map.mpr ⟨i, List.mem_range.mpr (by omega), rfl⟩, ?_⟩
    have e1 : ((1 : Int) + (i : Nat)).toNat = i + 1 := by omega
    have e2 : ((1 : Int) + (i : Nat) - 1).toNat = i := by omega
    rw [e1, e2, he]; simp
  rw [q] at hm
  simp at hm
theorem Pair.left {a : List Int} (h : Pair a) (b : List Int) : Pair (a ++ b) := by
  obtain ⟨i, hi, he⟩ := h
  refine ⟨i, by simp; omega, ?_⟩
  have e1 : (a ++ b).getD i 0 = a.getD i 0 := by simp [List.getD, List.getElem?_append_left (show i < a.length by omega)]
  have e2 : (a ++ b).getD (i + 1) 0 = a.getD (i + 1) 0 := by simp [List.getD, List.getElem?_append_left hi]
  rw [e1, e2, he]
theorem Pair.right {b : List Int} (h : Pair b) (a : List Int) : Pair (a ++ b) := by
  obtain ⟨i, hi, he⟩ := h
  refine ⟨a.length + i, by simp; omega, ?_⟩
  have e1 : (a ++ b).getD (a.length + i) 0 = b.getD i 0 := by
    simp only [List.getD_eq_getElem?_getD]
    rw [List.getElem?_append_right (Nat.le_add_right _ _), Nat.add_sub_cancel_left]
  have e2 : (a ++ b).getD (a.length + i + 1) 0 = b.getD (i + 1) 0 := by
    have : a.length + i + 1 = a.length + (i + 1) := by omega
    rw [this]
    simp only [List.getD_eq_getElem?_getD]
    rw [List.getElem?_append_right (Nat.le_add_right _ _), Nat.add_sub_cancel_left]
  rw [e1, e2, he]
theorem Tr.pair : ∀ (t : Tr) (s : Int), t.isNode → Pair (t.signs s)
  | .leaf _, _, h => h.elim
  | .node n (.node m a b) r, s, _ => (Tr.pair (.node m a b) (-s) trivial).left _
  | .node n (.leaf x) (.node m a b), s, _ => (Tr.pair (.node m a b) (-s) trivial).right _
  | .node n (.leaf x) (.leaf y), s, _ => ⟨0, by simp [Tr.signs], by simp [Tr.signs]⟩
theorem wish0_pm (number : Int) (size : Nat) : ∀ x ∈ wish0 number size, x = 1 ∨ x = -1 := by
  intro x hx
  obtain ⟨k, _, rfl⟩ := List.mem_map.mp hx
  unfold sgn
  have h := Int.fmod_eq_emod_of_nonneg (number.fdiv (2 ^ k)) (show (0 : Int) ≤ 2 by decide)
  rw [h]; omega
theorem wish_sg (number : Int) (size : Nat) (h1 : 1 ≤ size) (h2 : size ≤ 6) : Sg (wishL number size) ∧ size + 1 ≤ (wishL number size).length := by
  have l0 : (wish0 number size).length = size := by simp [wish0]
  have hs : (0 : Int) < size := by omega
  have m1 := Int.fmod_nonneg_of_pos (number.fdiv (2 ^ size)) hs
  have m2 := Int.fmod_lt_of_pos (number.fdiv (2 ^ size)) hs
  have ha : wishA number size < size := by unfold wishA; omega
  have hg : (wish0 number size).getD (wishA number size) 0 ∈ wish0 number size := by
    have e : (wish0 number size).getD (wishA number size) 0 = (wish0 number size)[wishA number size]'(by omega) := by simp [List.getD, show wishA number size < (wish0 number size).length by omega]
    rw [e]; exact List.getElem_mem _
  have p1 : ∀ x ∈ wish1 number size, x = 1 ∨ x = -1 := by
    intro x hx
    unfold wish1 at hx
    rw [List.mem_append, List.mem_append] at hx
    rcases hx with (hx | hx) | hx
    · exact wish0_pm _ _ x (List.mem_of_mem_take hx)
    · rw [List.mem_singleton.mp hx]; exact wish0_pm _ _ _ hg
    · exact wish0_pm _ _ x (List.mem_of_mem_drop hx)
  have l1 : (wish1 number size).length = size + 1 := by unfold wish1; simp [l0]; omega
  have pair1 : Pair (wish1 number size) := by
    refine ⟨wishA number size, by rw [l1]; omega, ?_⟩
    unfold wish1
    have ht : ((wish0 number size).take (wishA number size)).length = wishA number size := by simp [l0]; omega
    have hd : (wish0 number size).drop (wishA number size) = (wish0 number size)[wishA number size]'(by omega) :: (wish0 number size).drop (wishA number size + 1) := List.drop_eq_getElem_cons (by omega)
    have e : (wish0 number size).getD (wishA number size) 0 = (wish0 number size)[wishA number size]'(by omega) := by simp [List.getD, show wishA number size < (wish0 number size).length by omega]
    rw [hd, e, List.append_assoc]
    generalize (wish0 number size)[wishA number size]'(by omega) = x
    have z : ∀ (a : List Int) (n : Nat) (r : List Int), a.length = n → (a ++ ([x] ++ x :: r)).getD n 0 = x ∧ (a ++ ([x] ++ x :: r)).getD (n + 1) 0 = x := by
      rintro a n r rfl
      constructor
      · simp [List.getD]
      · simp [List.getD]
    obtain ⟨z1, z2⟩ := z _ _ ((wish0 number size).drop (wishA number size + 1)) ht
    rw [z1, z2]
  have f3 := Int.fmod_eq_emod_of_nonneg (wish1 number size).sum (show (0 : Int) ≤ 3 by decide)
  refine ⟨⟨fun x hx => ?_, ?_, ?_, ?_⟩, ?_⟩
  · unfold wishL at hx
    rcases List.mem_append.mp hx with q | q
    · exact p1 x q
    · unfold wishE at q
      split at q
      · rw [List.mem_singleton.mp q]; exact .inl rfl
      · split at q
        · simp at q
        · rw [List.mem_singleton.mp q]; exact .inr rfl
  · unfold wishL wishE
    rw [List.sum_append, f3]
    split
    · simp; omega
    · split
      · simp; omega
      · simp; omega
  · exact (pair1.left _).alt
  · unfold wishL
    rw [List.length_append, l1]
    unfold wishE
    split
    · simp; omega
    · split
      · simp; omega
      · simp; omega
  · unfold wishL
    rw [List.length_append, l1]; omega

/-! part M34 -/
end SL
theorem ItsLe.take {l l' : List SV} (h : ItsLe l l') (n : Nat) : ItsLe (l.take n) (l'.take n) := by
  rcases h with rfl | ⟨h1, h2⟩
  · exact .inl rfl
  · refine .inr ⟨by simp [h1], fun i y hy => ?_⟩
    rw [List.getElem?_take] at hy ⊢
    split at hy
    · rename_i q; rw [if_pos q]; exact h2 i y hy
    · cases hy
theorem names_le {lo : Nat} {its : List SV} (h : NamesOk lo its) : ItsLe its (names8.map .str) := by
  refine .inr ⟨by rw [h.1]; rfl, fun i y hy => ?_⟩
  rw [List.getElem?_map] at hy
  cases e : names8[i]? with
  | none => rw [e] at hy; cases hy
  | some x =>
    rw [e] at hy; cases hy
    obtain ⟨a, b, h1, _⟩ := h.2 i x e
    exact ⟨_, h1, .inr ⟨x, a, b, rfl, rfl⟩⟩
theorem names_mk {a0 b0 b1 b2 b3 b4 b5 b6 b7 : Nat} (h : 1 ≤ a0) (q0 : a0 < b0) (q1 : b0 < b1) (q2 : b1 < b2) (q3 : b2 < b3) (q4 : b3 < b4) (q5 : b4 < b5) (q6 : b5 < b6) (q7 : b6 < b7) :
    NamesOk b7 [.strT "a" a0 b0, .strT "\\(" b0 b1, .strT "b" b1 b2, .strT "\\)" b2 b3, .strT "c" b3 b4, .strT "\\\"" b4 b5, .strT "d" b5 b6, .strT "\\\\" b6 b7] := by
  refine ⟨rfl, fun i x hx => ?_⟩
  match i, hx with
  | 0, hx => cases hx; exact ⟨_, _, rfl, by omega, by omega⟩
  | 1, hx => cases hx; exact ⟨_, _, rfl, by omega, by omega⟩
  | 2, hx => cases hx; exact ⟨_, _, rfl, by omega, by omega⟩
  | 3, hx => cases hx; exact ⟨_, _, rfl, by omega, by omega⟩
  | 4, hx => cases hx; exact ⟨_, _, rfl, by omega, by omega⟩
  | 5, hx => cases hx; exact ⟨_, _, rfl, by omega, by omega⟩
  | 6, hx => cases hx; exact ⟨_, _, rfl, by omega, by omega⟩
  | 7, hx => cases hx; exact ⟨_, _, rfl, by omega, by omega⟩
theorem sl_len (n : Nat) (h : n ≤ 4000) : n ≤ sizeLine := Nat.le_trans h (by decide)
section
variable {Γ : Cx w T} {σ : St} (pr : Prg T)
theorem Tr.Named.sylen {t : Tr} (h : t.Named) : (Mine.symL t.text).length ≤ 1001 := by
  unfold Mine.symL
  have h1 := escOf_len (stripR t.text)
  have h2 := (Tr.has h.mem h.l2).fine.l2
  simp only [List.length_append, List.length_map, List.length_singleton]
  omega
set_option maxHeartbeats 8000000 in
theorem law_4 (tk : Tok8 T) (F : FC pr Γ 75 5) (sz : Nat) (N : List SV) (lo : Nat) (hN : NamesOk lo N) (ws wl : List Int) (hw1 : ws.length = 8) (t t2 : Tr) (hT : t.Named) (hT2 : t2.Named) (hlen : t.leaves.length = sz) (hsg : t2.signs 1 = wl) (o0 o1 o4 o6 o7 o8 o9 o10 : AO) :
    ExS Γ ((bodyAt 75).drop 10) ⟨[("built", .str t2.text), ("drawn", .str t.text), ("wished", .obj 5), ("worths", .obj 3), ("names", .obj 2), ("size", .int sz)], [o0, o1, ⟨false, false, N⟩, ⟨false, false, ws.map .int⟩, o4, ⟨false, false, wl.map .int⟩, o6, o7, o8, o9, o10], lo⟩ (RetOk fun r => r = .val (.bool true)) := by
  have b1 := t.node_of hT.l1
  have b2 := t2.node_of hT2.l1
  have y1 := hT.sylen
  have y2 := hT2.sylen
  have sl1 := t.signs_len 1
  have sl2 := t2.signs_len 1
  have t1 := hT.l2
  have t3 := hT2.l2
  obtain ⟨d1, m1⟩ := t.due ws
  obtain ⟨d2, m2⟩ := t2.due ws
  refine exs_cons ?_
  repeat walk_at "e"
  refine fn_call pr 71 F.fz (by decide) (by decide +kernel) (F.knd (by decide +kernel)) ?_
  repeat walk_at "e"
  refine ⟨_, c_symbols pr tk (Nat.le_trans (by decide) F.room) t.text (Tr.has hT.mem hT.l2).fine hT.spelt rfl hN, fun r hr => ?_⟩
  subst hr
  show ExS _ _ _ _
  refine exs_cons ?_
  repeat walk_at "e"
  refine fn_call pr 72 F.fz (by decide) (by decide +kernel) (F.knd (by decide +kernel)) ?_
  repeat walk_at "e"
  refine ⟨_, c_signs pr (Nat.le_trans (by decide) F.room) (symL t.text) (by omega) rfl rfl, fun r hr => ?_⟩
  rw [hT.signs] at hr
  subst hr
  show ExS _ _ _ _
  refine exs_cons ?_
  repeat walk_at "e"
  refine ⟨_, rfl, ?_⟩
  rw [if_neg (by dsimp only; rw [List.length_map, sl1, hlen]; simp)]
  repeat walk_at "e"
  refine ol_sum (ns := t.signs 1) rfl rfl ?_
  repeat walk_at "e"
  refine ⟨_, rfl, ?_⟩
  rw [if_neg (by rw [Int.fmod_eq_emod_of_nonneg _ (by decide), m1]; decide)]
  repeat walk_at "e"
  refine fn_call pr 68 F.fz (by decide) (by decide +kernel) (F.knd (by decide +kernel)) ?_
  repeat walk_at "e"
  refine ⟨_, c_alt pr (Nat.le_trans (by decide) F.room) (t.signs 1) (by omega) rfl rfl, fun r hr => ?_⟩
  rw [(t.pair 1 b1).alt] at hr
  subst hr
  show Op1 _ _ _ _ _ _
  repeat walk_at "e"
  rw [if_neg (by decide)]
  refine evt_nil ?_
  rw [if_neg (by decide)]
  refine exs_nil ?_
  refine exs_cons ?_
  repeat walk_at "e"
  refine fn_call pr 73 F.fz (by decide) (by decide +kernel) (F.knd (by decide +kernel)) ?_
  repeat walk_at "e"
  refine ⟨_, c_reckoned pr (Nat.le_trans (by decide) F.room) (symL t.text) ws (by omega) _ (hT.run (by omega)) rfl rfl rfl rfl (by omega), fun r hr => ?_⟩
  subst hr
  show EvE _ _ _ _
  refine fn_call pr 74 F.fz (by decide) (by decide +kernel) (F.knd (by decide +kernel)) ?_
  repeat walk_at "e"
  refine ⟨_, c_due pr (Nat.le_trans (by decide) F.room) (t.signs 1) ws (t.signs_pm 1 (.inl rfl)) (by omega) (by omega) rfl rfl rfl rfl, fun r hr => ?_⟩
  rw [d1] at hr
  subst hr
  show Op2 _ _ _ _ _ _ _
  refine o_neli (ns := [t.val ws 0]) (ms := [t.val ws 0]) (get_lt get_len) get_len rfl rfl ⟨_, rfl, ?_⟩
  rw [beq_self_eq_true, if_neg (by decide)]
  refine exs_nil ?_
  refine exs_cons ?_
  repeat walk_at "e"
  refine fn_call pr 71 F.fz (by decide) (by decide +kernel) (F.knd (by decide +kernel)) ?_
  repeat walk_at "e"
  refine ⟨_, c_symbols pr tk (Nat.le_trans (by decide) F.room) t2.text (Tr.has hT2.mem hT2.l2).fine hT2.spelt rfl hN, fun r hr => ?_⟩
  subst hr
  show ExS _ _ _ _
  refine exs_cons ?_
  repeat walk_at "e"
  refine fn_call pr 72 F.fz (by decide) (by decide +kernel) (F.knd (by decide +kernel)) ?_
  repeat walk_at "e"
  refine ⟨_, c_signs pr (Nat.le_trans (by decide) F.room) (symL t2.text) (by omega) rfl rfl, fun r hr => ?_⟩
  rw [hT2.signs, hsg] at hr
  subst hr
  show EvE _ _ _ _
  repeat walk_at "e"
  refine o_neli (ns := wl) (ms := wl) get_len rfl rfl rfl ⟨_, rfl, ?_⟩
  rw [beq_self_eq_true, if_neg (by decide)]
  refine exs_nil ?_
  refine exs_cons ?_
  repeat walk_at "e"
  refine fn_call pr 73 F.fz (by decide) (by decide +kernel) (F.knd (by decide +kernel)) ?_
  repeat walk_at "e"
  refine ⟨_, c_reckoned pr (Nat.le_trans (by decide) F.room) (symL t2.text) ws (by omega) _ (hT2.run (by omega)) rfl rfl rfl rfl (by omega), fun r hr => ?_⟩
  subst hr
  show EvE _ _ _ _
  refine fn_call pr 74 F.fz (by decide) (by decide +kernel) (F.knd (by decide +kernel)) ?_
  repeat walk_at "e"
  rw [hsg] at d2 sl2
  refine ⟨_, c_due pr (Nat.le_trans (by decide) F.room) wl ws (by rw [← hsg]; exact t2.signs_pm 1 (.inl rfl)) (by omega) (by omega) rfl rfl rfl rfl, fun r hr => ?_⟩
  rw [d2] at hr
  subst hr
  show Op2 _ _ _ _ _ _ _
  refine o_eqli (ns := [t2.val ws 0]) (ms := [t2.val ws 0]) (get_lt get_len) get_len rfl rfl ?_
  show _ = _
  rw [beq_self_eq_true]
set_option maxHeartbeats 8000000 in
theorem law_3 (tk : Tok8 T) (F : FC pr Γ 75 5) (sz : Nat) (N : List SV) (lo : Nat) (hN : NamesOk lo N) (ws wl : List Int) (hw1 : ws.length = 8) (t t2 : Tr) (hT : t.Named) (hT2 : t2.Named) (hlen : t.leaves.length = sz) (hsg : t2.signs 1 = wl) (o0 o1 o4 o6 o7 : AO) :
    ExS Γ ((bodyAt 75).drop 8) ⟨[("built", .str t2.text), ("drawn", .str t.text), ("wished", .obj 5), ("worths", .obj 3), ("names", .obj 2), ("size", .int sz)], [o0, o1, ⟨false, false, N⟩, ⟨false, false, ws.map .int⟩, o4, ⟨false, false, wl.map .int⟩, o6, o7], lo⟩ (RetOk fun r => r = .val (.bool true)) := by
  have b1 := t.node_of hT.l1
  have b2 := t2.node_of hT2.l1
  have z1 : t.text.length ≤ sizeLine := sl_len _ (Nat.le_trans (t.len_le hT.mem hT.l2) (by decide))
  have z2 : t2.text.length ≤ sizeLine := sl_len _ (Nat.le_trans (t2.len_le hT2.mem hT2.l2) (by decide))
  refine exs_cons ?_
  repeat walk_at "e"
  refine fn_call pr 9 F.fz (by decide) (by decide +kernel) (F.knd (by decide +kernel)) ?_
  refine evl_cons (ev_list ?_)
  repeat walk_at "e"
  refine ev_sslice (ev_name rfl ?_ (by decide +kernel))
  repeat walk_at "e"
  refine ⟨_, rfl, _, rfl, z1, ?_⟩
  repeat walk_at "e"
  refine ev_sslice (ev_name rfl ?_ (by decide +kernel))
  repeat walk_at "e"
  refine ⟨_, rfl, _, rfl, z2, ?_⟩
  repeat walk_at "e"
  refine ev_sslice (ev_name rfl ?_ (by decide +kernel))
  repeat walk_at "e"
  refine ⟨_, rfl, _, rfl, z2, ?_⟩
  refine o_adds ?_ (by rw [← Str.length_append]; exact sl_len _ (Nat.le_trans (Tr.hasJ b2 hT2.mem hT2.l2).len (by decide)))
  repeat walk_at "e"
  refine ⟨[.str _, .str _, .str _, .str _, .str _], rfl, (by show 5 ≤ sizeLine; decide), ?_⟩
  repeat walk_at "e"
  refine ⟨_, c_valid pr F.room [t.text, Txt.slice t.text none (some (-1)), t2.text, Txt.slice t2.text none (some (-1)), ")" ++ Txt.slice t2.text none (some (-1))] (by show 5 ≤ 100; decide) (fun x hx => ?_) get_len (.inl rfl), fun r hr => ?_⟩
  · simp only [List.mem_cons, List.not_mem_nil, or_false] at hx
    rcases hx with rfl | rfl | rfl | rfl | rfl
    · exact (Tr.has hT.mem hT.l2).fine
    · exact (Tr.hasI b1 hT.mem hT.l2).fine
    · exact (Tr.has hT2.mem hT2.l2).fine
    · exact (Tr.hasI b2 hT2.mem hT2.l2).fine
    · exact (Tr.hasJ b2 hT2.mem hT2.l2).fine
  have ek : [t.text, Txt.slice t.text none (some (-1)), t2.text, Txt.slice t2.text none (some (-1)), ")" ++ Txt.slice t2.text none (some (-1))].map keptR = [t.text, "('', '')", t2.text, "('', '')", "('', '')"] := by
    simp only [List.map_cons, List.map_nil, kept_own hT.mem hT.l2, kept_own hT2.mem hT2.l2, kept_I b1 hT.mem hT.l2, kept_I b2 hT2.mem hT2.l2, kept_J b2 hT2.mem hT2.l2]
  rw [ek] at hr
  subst hr
  show ExS _ _ _ _
  refine exs_cons ?_
  repeat walk_at "e"
  refine ⟨[.str _, .str _, .str _, .str _, .str _], rfl, (by show 5 ≤ sizeLine; decide), ?_⟩
  refine o_nels (ns := [t.text, "('', '')", t2.text, "('', '')", "('', '')"]) (ms := [t.text, "('', '')", t2.text, "('', '')", "('', '')"]) (get_lt get_len) get_len rfl rfl ⟨_, rfl, ?_⟩
  rw [beq_self_eq_true, if_neg (by decide)]
  refine exs_nil ?_
  refine exs_le (σ' := ⟨[("built", .str t2.text), ("drawn", .str t.text), ("wished", .obj 5), ("worths", .obj 3), ("names", .obj 2), ("size", .int sz)], [o0, o1, ⟨false, false, N⟩, ⟨false, false, ws.map .int⟩, o4, ⟨false, false, wl.map .int⟩, o6, o7, _, _, _], lo⟩) (StLe.of ⟨rfl, rfl, rfl, rfl, rfl, rfl, trivial⟩ (HLe.refl _) (Nat.le_refl _)) ?_
  exact law_4 pr tk F sz N lo hN ws wl hw1 t t2 hT hT2 hlen hsg _ _ _ _ _ _ _ _
set_option maxHeartbeats 8000000 in
theorem law_2 (tk : Tok8 T) (F : FC pr Γ 75 5) (ns fs : List Int) (hfl : fs.length ≤ 60) (sz : Nat) (hs1 : 5 ≤ sz) (hs2 : sz ≤ 7) (N : List SV) (lo : Nat) (hN : NamesOk lo N) :
    ExS Γ ((bodyAt 75).drop 3) ⟨[("names", .obj 2), ("size", .int sz), ("first", .obj 1)], [⟨false, false, ns.map .int⟩, ⟨false, false, fs.map .int⟩, ⟨false, false, N⟩], lo⟩ (RetOk fun r => r = .val (.bool true)) := by
  refine exs_cons ?_
  repeat walk_at "e"
  refine fn_call pr 65 F.fz (by decide) (by decide +kernel) (F.knd (by decide +kernel)) ?_
  repeat walk_at "e"
  refine ⟨_, c_worths pr (Nat.le_trans (by decide) F.room) fs hfl rfl rfl, fun r hr => ?_⟩
  obtain ⟨ws, hw1, hw2, rfl⟩ := hr
  show ExS _ _ _ _
  refine exs_cons ?_
  repeat walk_at "e"
  refine ev_comp F.fz (fun _ => true) (fun k => k.fmod 1000000) [] [] (by rfl) (by decide +kernel) (by decide +kernel) (by decide +kernel) (by decide +kernel) (by intro y c h; simp at h) ?_
  repeat walk_at "e"
  refine ⟨_, _, rfl, rfl, rfl, fs, rfl, sl_len _ (by omega), rfl, (by intro p hp; simp at hp), ⟨fun C hk x hx => ?_, fun C hk x hx hp => ?_⟩, ?_⟩
  · rfl
  · repeat walk_at "e"
    rfl
  repeat walk_at "e"
  refine ol_sum get_len rfl ?_
  repeat walk_at "e"
  refine exs_le (σ' := ⟨[("number", .int (37 + (((fs.filter fun _ => true).map fun k => k.fmod 1000000)).sum)), ("worths", .obj 3), ("names", .obj 2), ("size", .int sz), ("first", .obj 1)], [⟨false, false, ns.map .int⟩, ⟨false, false, fs.map .int⟩, ⟨false, false, N⟩, ⟨false, false, ws.map .int⟩, ⟨false, false, _⟩], lo⟩) (by walk_at "le") ?_
  generalize (37 + (((fs.filter fun _ => true).map fun k => k.fmod 1000000)).sum) = num
  refine exs_cons ?_
  repeat walk_at "e"
  refine fn_call pr 69 F.fz (by decide) (by decide +kernel) (F.knd (by decide +kernel)) ?_
  repeat walk_at "e"
  rw [show (sz : Int) - 1 = ((sz - 1 : Nat) : Int) by omega]
  refine ⟨_, c_wished pr (Nat.le_trans (by decide) F.room) num (sz - 1) (by omega) (by omega), fun r hr => ?_⟩
  subst hr
  obtain ⟨hw, hwl⟩ := wish_sg num (sz - 1) (by omega) (by omega)
  have hw8 := hw.len
  show ExS _ _ _ _
  generalize wishL num (sz - 1) = wl at hw hwl hw8 ⊢
  refine exs_cons ?_
  repeat walk_at "e"
  refine fn_call pr 67 F.fz (by decide) (by decide +kernel) (F.knd (by decide +kernel)) ?_
  refine evl_cons (ev_slice' (ev_name rfl ?_ (by decide +kernel)))
  repeat walk_at "e"
  refine ⟨_, rfl, _, _, rfl, rfl, sl_len _ (by show N.length ≤ _; rw [hN.1]; decide), ?_⟩
  rw [pick_take (by omega)]
  repeat walk_at "e"
  refine ⟨_, c_drawn pr (Nat.le_trans (by decide) F.room) (names8.take sz) fs (by simp [names8]; omega) (by simp [names8]; omega) (fun x hx => (name_ok x (List.mem_of_mem_take hx)).2.2.2) hfl get_len (by rw [List.map_take]; exact (names_le hN).take sz) rfl rfl, fun r hr => ?_⟩
  obtain ⟨t, ht, rfl⟩ := hr
  have hlen : t.leaves.length = sz := by rw [ht]; simp [names8]; omega
  have hT : t.Named := ⟨by rw [hlen]; exact ht, by omega, by omega⟩
  show ExS _ _ _ _
  refine exs_cons ?_
  repeat walk_at "e"
  refine fn_call pr 70 F.fz (by decide) (by decide +kernel) (F.knd (by decide +kernel)) ?_
  refine evl_cons (ev_name rfl (evl_cons (ev_slice' (ev_name rfl ?_ (by decide +kernel)))) (by decide +kernel))
  repeat walk_at "e"
  dsimp only
  rw [List.length_map]
  refine ⟨_, rfl, _, _, rfl, rfl, sl_len _ (by show N.length ≤ _; rw [hN.1]; decide), ?_⟩
  rw [pick_take (by omega)]
  repeat walk_at "e"
  refine ⟨_, c_built pr (Nat.le_trans (by decide) F.room) wl (names8.take wl.length) num hw (by simp [names8]; omega) (fun x hx => (name_ok x (List.mem_of_mem_take hx)).2.2.2) rfl rfl get_len (by rw [List.map_take]; exact (names_le hN).take wl.length), fun r hr => ?_⟩
  obtain ⟨t2, ht2, hsg, rfl⟩ := hr
  have hlen2 : t2.leaves.length = wl.length := by rw [ht2]; simp [names8]; omega
  have hT2 : t2.Named := ⟨by rw [hlen2]; exact ht2, by omega, by omega⟩
  show ExS _ _ _ _
  refine exs_le (σ' := ⟨[("built", .str t2.text), ("drawn", .str t.text), ("wished", .obj 5), ("worths", .obj 3), ("names", .obj 2), ("size", .int sz)], [⟨false, false, ns.map .int⟩, ⟨false, false, fs.map .int⟩, ⟨false, false, N⟩, ⟨false, false, ws.map .int⟩, _, ⟨false, false, wl.map .int⟩, _, _], lo⟩) (StLe.of ⟨rfl, rfl, rfl, rfl, rfl, rfl, trivial⟩ (HLe.refl _) (Nat.le_refl _)) ?_
  exact law_3 pr tk F sz N lo hN ws wl hw1 t t2 hT hT2 hlen hsg _ _ _ _ _
set_option maxHeartbeats 8000000 in
theorem law_exs (tk : Tok8 T) (F : FC pr Γ 75 5) (ns : List Int) (hn : ns.length ≤ 63) : ExS Γ (bodyAt 75) ⟨[("script", .obj 0)], [⟨false, false, ns.map .int⟩], 0⟩ (RetOk fun r => r = .val (.bool true)) := by
  refine exs_cons ?_
  walk_at "e"
  refine ev_slice' (ev_name rfl ?_ (by decide +kernel))
  repeat walk_at "e"
  refine ⟨_, rfl, _, _, rfl, rfl, sl_len _ (by dsimp only; rw [List.length_map]; omega), ?_⟩
  rw [pick_take (by decide)]
  obtain ⟨fs, hfs, hfl⟩ : ∃ fs : List Int, (ns.map SV.int).take (60 : Int).toNat = fs.map .int ∧ fs.length ≤ 60 := ⟨ns.take 60, by rw [List.map_take]; rfl, by simp; omega⟩
  rw [hfs]
  refine exs_le (σ' := ⟨[("first", .obj 1)], [⟨false, false, ns.map .int⟩, ⟨false, false, fs.map .int⟩], 0⟩) (by walk_at "le") ?_
  refine exs_cons ?_
  walk_at "e"
  refine ev_bin (ev_intT ?_)
  repeat walk_at "e"
  refine ol_min ?_
  repeat walk_at "e"
  dsimp only
  rw [List.length_map]
  obtain ⟨sz, hsz, hs1, hs2⟩ : ∃ sz : Nat, (5 : Int) + min ((fs.length : Int).fdiv 2) 2 = sz ∧ 5 ≤ sz ∧ sz ≤ 7 := by
    have h := Int.fdiv_eq_ediv_of_nonneg (fs.length : Int) (show (0 : Int) ≤ 2 by decide)
    refine ⟨(5 + min ((fs.length : Int).fdiv 2) 2).toNat, ?_, ?_, ?_⟩ <;> rw [h] <;> omega
  rw [hsz]
  with_reducible refine exs_le (σ' := ⟨[("size", .int sz), ("first", .obj 1)], [⟨false, false, ns.map .int⟩, ⟨false, false, fs.map .int⟩], 1⟩) ?_ ?_
  · walk_at "le"
  with_reducible refine exs_cons ?_
  with_reducible refine ex_assign ?_ ?_ ?_ ?_
  · exact F.fz
  · exact F.knd (by decide +kernel)
  rotate_left
  · rfl
  refine ev_list ?_
  refine evl_cons (ev_strT fun h0 q0 => ?_)
  refine evl_cons (ev_strT fun h1 q1 => ?_)
  refine evl_cons (ev_strT fun h2 q2 => ?_)
  refine evl_cons (ev_strT fun h3 q3 => ?_)
  refine evl_cons (ev_strT fun h4 q4 => ?_)
  refine evl_cons (ev_strT fun h5 q5 => ?_)
  refine evl_cons (ev_strT fun h6 q6 => ?_)
  refine evl_cons (ev_strT fun h7 q7 => ?_)
  repeat walk_at "e"
  refine ⟨[.strT _ _ _, .strT _ _ _, .strT _ _ _, .strT _ _ _, .strT _ _ _, .strT _ _ _, .strT _ _ _, .strT _ _ _], rfl, (by show 8 ≤ sizeLine; decide), ?_⟩
  have hN0 := names_mk (Nat.le_refl 1) q0 q1 q2 q3 q4 q5 q6 q7
  refine exs_gen (P := fun H q => q = 2 ∧ ∃ N, H = [⟨false, false, ns.map .int⟩, ⟨false, false, fs.map .int⟩, ⟨false, false, N⟩] ∧ NamesOk h7 N) (loc := fun q => [("names", .obj q), ("size", .int sz), ("first", .obj 1)]) (H := [⟨false, false, ns.map .int⟩, ⟨false, false, fs.map .int⟩, ⟨false, false, _⟩]) (q := 2) (lo := h7) (by walk_at "le") ⟨rfl, _, rfl, hN0⟩ ?_
  rintro _ _ ⟨rfl, N, rfl, hN⟩
  clear hN0 q0 q1 q2 q3 q4 q5 q6 q7
  exact law_2 pr tk F ns fs hfl sz hs1 hs2 N h7 hN
end

/-! part M35 -/
/-! the call of the law at the top -/
theorem are_of_ints : ∀ {vs : List Value} {ns : List Int}, IntsAre vs ns → Are (ns.map .int) vs
  | _, _, .nil => are_iff_nil
  | _, _, .cons n t r => Are.cons ⟨t, rfl⟩ (are_of_ints r)
theorem law_call (pr : Prg T) (tk : Tok8 T) {s : Shared} (hs : s.heap = T.B) {a : Addr} {vs : List Value} {ns : List Int} (hl : s.heap.IsList a vs.toArray) (hi : IntsAre vs ns) (hn : ns.length ≤ 63) :
    wpAny (M w) callerA (call (.ref (pr.addr 75)) [.ref a]) (fun v s' => v = .bool true ∧ (∀ b o, s.heap.get? b = some o → s'.heap.get? b = some o) ∧ s'.os = s.os ∧ (AllBare s.gens → AllBare s'.gens)) (fun _ _ => False) s := by
  obtain ⟨o, pm, doc, ho, hd, hc⟩ := (pr.defs 75 (by decide)).ex
  have base : ∀ b o, T.B.get? b = some o → s.heap.get? b = some o := fun b o h => by rw [hs]; exact h
  have hps : psAt 75 = (["script"] : List Str) := by kernel_rfl
  have hk : (scopeAt 75).kind = .function := by kernel_rfl
  refine wpAny_call (call_plain_ret (binds := (psAt 75).zip [.ref a]) (by decide +kernel) (base _ _ ho) hd (T.nolim.keeps base) (hc.keeps base) (by rw [hps]; kernel_rfl) (fun x hx => ?_) (fun h₁ F => ?_) (by kernel_rfl) (by kernel_rfl) hk (by decide +kernel))
  · rw [hps] at hx
    rw [List.mem_singleton.mp hx]
    show (scopeAt 75).names.lookup ("script" : Str) = some .local
    decide +kernel
  let env := envOf (nameAt 75) (scopeAt 75) s.heap.objs.size (pr.addr 75) (pr.cdv 75)
  let Γ' : Cx w T := { A := callerA.deeper env, g := s.heap, env := env, room := 5, fz := false, hk := hk, hgl := rfl, hbl := rfl, hh := rfl, hg := base, hgs := by rw [hs]; exact Nat.le_refl _, hd := by show callerA.depth + 1 + 5 < recursionLimit; decide +kernel, hu := by show callerA.units + 3 + 8 * 5 < cLine; decide +kernel }
  have FC' : FC pr Γ' 75 5 := ⟨fun x => rfl, rfl, Nat.le_refl _⟩
  rw [hps] at F ⊢
  have hr : Rel Γ' ⟨[("script", .obj 0)], [⟨false, false, ns.map .int⟩], 0⟩ [a] { s with heap := h₁, toks := s.toks + ((["script"] : List Str).zip [Value.ref a]).length } := by
    refine ⟨⟨_, F, fun x v hx => ?_⟩, rfl, fun k b o hk ho => ?_, fun k j b _ _ hO => ?_, Nat.zero_le _, fun x c h => nomatch h⟩
    · rw [List.lookup_cons] at hx
      cases e : x == ("script" : Str) with
      | false => rw [e] at hx; cases hx
      | true =>
        rw [e] at hx; cases hx
        rw [eq_of_beq e]
        exact ⟨.ref a, .loc (FC'.knd (by decide +kernel)) (by kernel_rfl), a, rfl, rfl⟩
    · match k, hk, ho with
      | 0, hk, ho =>
        cases hk; cases ho
        refine ⟨vs, (let ⟨o, h1, h2⟩ := hl; ⟨o, F.keep _ _ h1, h2⟩), ?_, (fun q => nomatch q), fun q => nomatch q⟩
        exact are_of_ints hi
    · obtain ⟨o, h1, h2⟩ := hO
      match k, h1 with
      | 0, h1 => cases h1; cases h2
  refine wpAny_mono (law_exs pr tk FC' ns hn _ _ hr) (fun f s' hf => ?_) fun _ _ h => h.elim
  obtain ⟨b, σ', as', hb, A, hq⟩ := hf
  have keep : ∀ b o, s.heap.get? b = some o → s'.heap.get? b = some o := fun b o e => A.kept b o (Nat.ne_of_lt (Heap.lt_size e)) (fun k ⟨o', h1, h2⟩ => by
    match k, h1 with
    | 0, h1 => cases h1; cases h2) (F.keep b o e)
  cases b with
  | next => exact hq.elim
  | brk => exact hq.elim
  | cont => exact hq.elim
  | ret v =>
    obtain ⟨u, rfl, hu⟩ := hb
    cases v with
    | con w => exact hq.elim
    | obj k => obtain ⟨o, _, _, h⟩ := hq; cases h
    | sv x =>
      have hq : RV.val x = RV.val (.bool true) := hq
      cases hq
      exact ⟨hu, keep, A.os, A.bare⟩

/-! part M36 -/
/-! from the head to what the walk asks -/
section
variable {K : Frag} {h : Heap} {mg : Str → Option Value}
theorem mg_at (KX : K.In h) (g : h.Ns mainGlobals mg) {x : Str} {r : Option Value} (e : kNs K x = some r) : mg x = r := by
  obtain ⟨o, es, ep, ho, hd, _, hf⟩ := g
  unfold kNs at e
  split at e
  · rename_i hK
    have h1 := KX _ _ hK
    rw [ho] at h1; cases h1
    cases hd; cases e; exact (hf x).symm
  · cases e
theorem nb_at (KX : K.In h) (e : kStat K = true) : NoneBooked h := by
  unfold kStat at e
  split at e
  · rename_i c d es ep sl hK
    have he : es = #[] := by simpa using e
    subst he
    exact ⟨fun _ => none, ⟨_, #[], ep, KX _ _ hK, rfl, fun e h => by simp at h, fun name => rfl⟩, rfl⟩
  · cases e
theorem int_at (KX : K.In h) (g : h.Ns mainGlobals mg) {x : Str} {i : Int} (e : kInt K x i = true) : ∃ t, mg x = some (.int i t) := by
  unfold kInt at e
  split at e
  · rename_i j t hK
    have : j = i := by simpa using e
    subst this
    exact ⟨t, mg_at KX g hK⟩
  · cases e
theorem none_at (KX : K.In h) (g : h.Ns mainGlobals mg) {x : Str} (e : kNone K x = true) : mg x = none := by
  unfold kNone at e
  split at e
  · rename_i hK
    exact mg_at KX g hK
  · cases e
theorem datum_map (k : Str) : ∀ D : List (Str × PyData), KTD.datumAt k (D.map fun p => (p.1, KTD.Dat.flat p.2)) = (KTD.datumAt k D).map KTD.Dat.flat
  | [] => rfl
  | (x, d) :: D => by
    have ih := datum_map k D
    show (if decide (k = x) = true then some (KTD.Dat.flat d) else KTD.datumAt k (D.map fun p => (p.1, KTD.Dat.flat p.2))) = (if decide (k = x) = true then some d else KTD.datumAt k D).map KTD.Dat.flat
    rw [ih]
    split <;> rfl
theorem keys_map (k : Str) : ∀ D : List (Str × PyData), KTD.inKeys k (D.map fun p => (p.1, KTD.Dat.flat p.2)) = KTD.inKeys k D
  | [] => rfl
  | (x, d) :: D => by
    have ih := keys_map k D
    show (decide (k = x) || KTD.inKeys k (D.map fun p => (p.1, KTD.Dat.flat p.2))) = (decide (k = x) || KTD.inKeys k D)
    rw [ih]
theorem tok_at {T : Top0} (KX : K.In T.B) (ok : KOk K) : Nonempty (Tok8 T) := by
  have hg : T.mg "EXACT_TOKEN_TYPES" = some (.ref (kTok K)) := by
    have e := ok.refT
    unfold kRefT at e
    split at e
    · rename_i b hK
      have : kTok K = b := by unfold kTok; rw [hK]
      rw [this]
      exact mg_at KX T.g hK
    · cases e
  refine ⟨⟨kTok K, (kTab K).map fun p => (p.1, KTD.Dat.flat p.2), hg, (KTD.tab_of_look (fun _ _ x => KTD.flat_of_looks x) (fun a o e => KX a o e) ok.look).text, fun p hp => ?_, fun x hx => ?_⟩⟩
  · rw [datum_map]
    have e := List.all_eq_true.mp ok.sig p hp
    split at e
    · rename_i i hK
      have : i = p.2 := by simpa using e
      rw [hK, this]; rfl
    · cases e
  · rw [keys_map]
    have e := List.all_eq_true.mp ok.nam x hx
    simpa using e
end
def posOf (s : Stmt) : Pos := match s with | .FunctionDef _ _ _ _ _ _ _ _ _ p => p | _ => default
def recAt (k : Nat) : DefRec := ⟨nameAt k, argsAt k, bodyAt k, scopeAt k, posOf (stAt k)⟩
theorem def_at {q : Program} {loose : List Str} {mean : ExcName → Option Value} {mg mb : Str → Option Value} {h : Heap} (T : Top q loose mean mg mb h) (hr : recsOf q = defIdx.map recAt) (k : Nat) (hk : k ∈ defIdx) :
    ∃ p : Addr × Value, mg (nameAt k) = some (.ref p.1) ∧ DefAt h p.1 (nameAt k) (argsAt k) (bodyAt k) (scopeAt k) p.2 := by
  obtain ⟨a, o, pm, cd, doc, h1, h2, h3, h4⟩ := T.fn (recAt k) (by rw [hr]; exact List.mem_map_of_mem hk)
  exact ⟨(a, cd), h1, ⟨o, pm, doc, h2, h3, h4⟩⟩
theorem prg_at {q : Program} {loose : List Str} {mean : ExcName → Option Value} {T : Top0} {mb : Str → Option Value} (X : Top q loose mean T.mg mb T.B) (hr : recsOf q = defIdx.map recAt) {K : Frag} (KX : K.In T.B) (ok : KOk K) : Nonempty (Prg T) := by
  classical
  have H := def_at X hr
  refine ⟨⟨fun k => if hk : k ∈ defIdx then (Classical.choose (H k hk)).1 else 0, fun k => if hk : k ∈ defIdx then (Classical.choose (H k hk)).2 else .none, fun k hk => ?_, fun k hk => ?_, int_at KX T.g ok.nt, int_at KX T.g ok.em, fun x hx => none_at KX T.g (List.all_eq_true.mp ok.bi x hx)⟩⟩
  · simp only [dif_pos hk]; exact (Classical.choose_spec (H k hk)).2
  · simp only [dif_pos hk]; exact (Classical.choose_spec (H k hk)).1
theorem law_top {q : Program} {loose : List Str} {mean : ExcName → Option Value} {mg mb : Str → Option Value} {w : World} {s : Shared} (X : Top q loose mean mg mb s.heap) (hr : recsOf q = defIdx.map recAt) {K : Frag} (KX : K.In s.heap) (ok : KOk K)
    {fa : Addr} (hmg : mg (nameAt 75) = some (.ref fa)) {a : Addr} {vs : List Value} {ns : List Int} (hl : s.heap.IsList a vs.toArray) (hi : IntsAre vs ns) (hn : ns.length ≤ 63) :
    wpAny (M w) callerA (call (.ref fa) [.ref a]) (fun v s' => v = .bool true ∧ (∀ b o, s.heap.get? b = some o → s'.heap.get? b = some o) ∧ s'.os = s.os ∧ (AllBare s.gens → AllBare s'.gens)) (fun _ _ => False) s := by
  let T : Top0 := { B := s.heap, mg := mg, mb := mb, g := X.g, b := X.b, nolim := X.nolimit, bt := X.builtins, nb := nb_at KX ok.stat }
  obtain ⟨pr⟩ := prg_at (T := T) X hr KX ok
  obtain ⟨tk⟩ := tok_at (T := T) KX ok
  have e := pr.glob 75 (by decide)
  rw [show T.mg (nameAt 75) = some (.ref fa) from hmg] at e
  cases e
  exact law_call pr tk (s := s) rfl hl hi hn

end Mine

/-! the theorem -/
namespace Mine
theorem law_walk {w : World} {s₀ s₁ : Shared} {mg mb : Str → Option Value} (G : Ground viewQ looseQ [] HFacts w s₀ mg mb s₁.heap) {fa : Addr} (hmg : mg (nameAt 75) = some (.ref fa)) (hg : s₁.gens = #[]) {a : Addr} {vs : List Value} {ns : List Int} (hl : s₁.heap.IsList a vs.toArray) (hi : IntsAre vs ns) (hn : ns.length ≤ 63) :
    wpAny (M w) callerA (call (.ref fa) [.ref a]) (fun v s' => v = .bool true ∧ (∀ b o, s₁.heap.get? b = some o → s'.heap.get? b = some o) ∧ s'.os = s₁.os ∧ AllBare s'.gens) (fun _ _ => False) s₁ := by
  obtain ⟨K, KX, ok⟩ := G.X
  exact wpAny_mono (law_top G.T (by kernel_rfl) KX ok hmg hl hi hn) (fun v s' ⟨h1, h2, h3, h4⟩ => ⟨h1, h2, h3, h4 (.of_eq hg)⟩) fun _ _ h => h
end Mine
set_option maxHeartbeats 8000000 in
theorem PySem.Challenge.cw_wf0053_01_holds : PySem.Challenge.rw_wf0053_01.Holds := by
  w_on
  refine holds_law Mine.saidQ fun said => ?_
  refine holds_open (q := Mine.viewQ) (loose := Mine.looseQ) (Xt := Mine.hXt) (XP := Mine.HFacts) (Yf := fun _ => ()) (Ya := fun _ => ()) (YP := fun _ _ => True) (d := Mine.recAt 75) (kwd := []) (N := 4344) Mine.leftQ (fun _ _ _ => trivial) (fun _ _ _ _ _ => trivial) Mine.hFacts_of Mine.HFacts.keeps (by kernel_rfl) (by kernel_rfl) (by kernel_rfl) (fun s e => recFacts_of (Bool.and_eq_true_iff.mp e).2) (by kernel_rfl) (by assumption) (by decide +kernel) Mine.bareQ ?hw ?hc
  case hw => w_witness2
  intro w s₀ s₁ mg mb G Y fa o pm cd doc dV kV ho hd hcd hD hmg hg args vals as hpre hlay hrd hwl hlo
  wrow_args hpre hlay hrd hwl hlo
  rename IntsAre _ _ => hI
  rename PySem.Heap.IsList _ _ _ => hL
  rename ¬ (_ < _) => hn
  refine wpAny_mono (Mine.law_walk G hmg hg hL hI (by omega)) (fun v s' hv => ?_) fun _ _ h => h.elim
  obtain ⟨rfl, h1, h2, h3⟩ := hv
  exact ⟨.inl ⟨_, .bool true, [], rfl, fun cls => rfl, .bool true, (by first | kernel_rfl | exact postW_of (X := true) (by kernel_rfl) (by kernel_rfl) rfl), unshared_nil⟩, .of_keep h1, h2, h3⟩
