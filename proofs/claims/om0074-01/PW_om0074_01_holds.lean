import PyProof.Rows.All
import Wide.All
import OpenK.AllK
import Wide.FinOn
import PySem.Challenge.RW_om0074_01
open PySem PySem.W PyProof.Rows PySem.Calls
set_option Elab.async false
set_option compiler.extract_closed false
set_option maxRecDepth 100000
set_option linter.unusedVariables false

namespace Mine
/-! 00head -/
/-- a row that cannot hold: «open_top» over it lays the written heap and the view, `hd.heap_1` and `hd.view_1`, and stops; its message is dropped -/
def lawX : OpenRow := { PySem.Challenge.rw_om0074_01.row with writes := true, records := [default] }
#guard_msgs (drop all) in
set_option maxHeartbeats 8000000 in
open_top hd for Mine.lawX
def hAs : List Addr := [2,3,32,34,35,37,38,39,41,42,44,45,46,48,49,51,52,53,54,56,57,59,60,61,62,64,65,67,68,69,71,72,74,75,76,78,79,81,82,83,85,86,88,89,90,92,93,95,96,97,99,100,102,103,107,108,112,113,121,122,124,125,127,128,129,131,132,134,135,136,138,139,141,142,143,145,146,148,149,150,153,154,155,157,158,160,161,162,164,165,167,168,169,171,172,174,175,176,177,179,180,182,183,184,187,188,189,192,193,194,196,197,199,200,201,203,204,206,207,208,211,212,213,215,216,218,219,220,222,223,225,226,227,229,230,232,233,234,235,236,237,238,241,243,244,246,247,248,250,251,253,254,255,258,259,260,262,263,265,266,267,270,271,272,275,276,277,279,280,282,283,284,287,288,289,292,293]
theorem hAs_eq (P : Params) : hAs = (hd.heap_1 P).map (·.1) := by kernel_rfl
noncomputable abbrev hdHook : Hook := kHook hd.heap_1 hAs hAs_eq
abbrev hdRow : OpenRow := PySem.Challenge.rw_om0074_01.row
abbrev hdLoose : List Str := [Str.ofString "b2a_base64", Str.ofString "b64encode", Str.ofString "_name_disallowed_re", Str.ofString "_value_disallowed_re"]
set_option maxHeartbeats 8000000 in
theorem hdLeft : LeftO hdRow.prog hd.view_1 hdLoose (fun s => xlAt hd.view_1 [] s && recOk (RowW.records hdRow.toRowW) s) (Hook.obs hdHook) (Hook.val hdHook) 3130 := by
  intro w
  kernel_rfl
set_option maxHeartbeats 8000000 in
theorem hdSaid : OpenLaw.wellSaid PySem.Challenge.rw_om0074_01 = true := by kernel_rfl
/-! 01base -/
noncomputable abbrev pg : Program := PySem.Challenge.rw_om0074_01.prog
noncomputable abbrev lo : List Str := looseW hd.view_1 [Str.ofString "b2a_base64", Str.ofString "b64encode", Str.ofString "_name_disallowed_re", Str.ofString "_value_disallowed_re"]

/-- the ground of a heap: the top's own objects and names -/
structure Gd (w : World) (mean : ExcName → Option Value) (mg mb : Str → Option Value) (h : Heap) : Prop where
  X : (hd.heap_1 w.params).In h
  T : Top hd.view_1 lo mean mg mb h

theorem Gd.keeps {w mean mg mb} {h h' : Heap} (G : Gd w mean mg mb h) (k : ∀ b o, h.get? b = some o → h'.get? b = some o) : Gd w mean mg mb h' := ⟨G.X.keeps k, G.T.keeps k⟩

/-- room: how many frames more there may be -/
structure Room (k : Nat) (A : Around) : Prop where
  hd : A.handled = none
  dp : A.depth + k < recursionLimit
  un : A.units + 8 * k < cLine

theorem Room.lt {k : Nat} {A : Around} (r : Room k A) : A.depth < recursionLimit := Nat.lt_of_le_of_lt (Nat.le_add_right _ _) r.dp
theorem Room.deeper {k : Nat} {A : Around} {env : Env} (r : Room (k + 1) A) : Room k (A.deeper env) :=
  ⟨r.hd, by have := r.dp; show A.depth + 1 + k < _; omega, by have := r.un; show A.units + 3 + 8 * k < _; omega⟩
theorem Room.less {k j : Nat} {A : Around} (r : Room k A) (h : j ≤ k) : Room j A := ⟨r.hd, by have := r.dp; omega, by have := r.un; omega⟩

/-- a term under a name, for good: what `generalize` names is put back into the proof term -/
@[elab_as_elim] theorem gen_at {α : Type} {P : α → Prop} (a : α) (h : ∀ x, a = x → P x) : P a := h a rfl
/-- the post under a name: its terms stand once -/
theorem post_var {α : Type} {prog : Program} {w : World} {A : Around} {t : Sem α} {Q : α → Shared → Prop} {E : Value → Shared → Prop} {s : Shared} (h : ∀ Q', Q = Q' → wpAny (model prog w) A t Q' E s) : wpAny (model prog w) A t Q E s := h Q rfl
/-- the tokens anew -/
theorem anew {α : Type} {prog : Program} {w : World} {A : Around} {t : Sem α} {Q : α → Shared → Prop} {E : Value → Shared → Prop} {s : Shared} (h : ∀ tk, wpAny (model prog w) A t Q E { s with toks := tk }) : wpAny (model prog w) A t Q E s := h s.toks
theorem anewE {prog : Program} {w : World} {A : Around} {st : Stmt} {l : List Stmt} {env : Env} {Q : Flow → Shared → Prop} {E : Value → Shared → Prop} {h : Heap} {g : Array GenState} {d : Drawn} {t : Nat} {o : OsState} (H : ∀ tk, wpAny (model prog w) A (execs (st :: l) env) Q E ⟨h, g, d, tk, o⟩) : wpAny (model prog w) A (execs (st :: l) env) Q E ⟨h, g, d, t + 1, o⟩ := H _
theorem While_own {prog : Program} {w : World} {A : Around} {E : Value → Shared → Prop} {Q : Flow → Shared → Prop} {s : Shared} {env : Env} {h₀ : Heap} {L : Addr} {test : Expr} {body : List Stmt} {pos : Pos} {m : Str → Option Value} {news : List (Addr × Obj)} (J : Nat → (Str → Option Value) → List (Addr × Obj) → Prop) {n₀ : Nat}
    (F : Fr h₀ L s.heap m) (N : News h₀ L s.heap news) (hJ : J n₀ m news)
    (turn : ∀ R n m₁ news₁ h₁ tk₁, (∀ f s₃, WhileStep2 h₀ L s J Q n f s₃ → R f s₃) → Fr h₀ L h₁ m₁ → News h₀ L h₁ news₁ → J n m₁ news₁ →
      wpAny (model prog w) A (isTrue test env (eval test env)) (fun b s₂ =>
        if b = true then wpAny (model prog w) A (execs body env) R E s₂ else Q .next s₂) E { s with heap := h₁, toks := tk₁ })
    (hE : PassesOwn (model prog w) A env E := by passes_own) :
    wpAny (model prog w) A (exec (.While test body [] pos) env) Q E s :=
  While_inv2 J F N hJ (fun n m₁ news₁ h₁ tk₁ a b c => turn _ n m₁ news₁ h₁ tk₁ (fun _ _ z => z) a b c) hE
theorem enter {prog : Program} {w : World} {A : Around} {s : Shared} {g : Heap} {news : List (Addr × Obj)} {K : Frag} {R : Result → Shared → Prop} {name qual : Str} {params : Arguments} {body : List Stmt} {scope : Scope}
    {dV kV doc pm cdv ct oc : Value} {an od : Option Addr} {osl : Array (Option Value)} {f : Addr} {args : Args} (binds : List (Str × Value))
    (X : K.In g) (hlim : g.NoLimit) (kp : ∀ b o, g.get? b = some o → s.heap.get? b = some o) (hsz : g.objs.size ≤ s.heap.objs.size)
    (hn : ∀ p ∈ news, s.heap.get? p.1 = some p.2 ∧ g.get? p.1 = none)
    (ho : K.lookup f = some ⟨oc, od, .func (fnOf name qual params body scope dV kV doc pm an cdv ct), osl⟩) (hcd : codeIn K cdv qual = true) (hroom : A.depth < recursionLimit)
    (hbind : BindsTo s (fnOf name qual params body scope dV kV doc pm an cdv ct) args binds) (hloc : ∀ y ∈ binds, scope.names.lookup y.1 = some .local)
    (h : ∀ L h₁ tk, Fr g L h₁ (fun y => binds.reverse.lookup y) → News g L h₁ news → (∀ b o, s.heap.get? b = some o → h₁.get? b = some o) → s.heap.get? L = none →
      wpAny (model prog w) (A.deeper (envOf qual scope L f cdv)) (execs body (envOf qual scope L f cdv))
        (fun fl s' => R (.ok (.ret (match fl with | .ret v => v | _ => .none))) s') (fun _ _ => False) { s with heap := h₁, toks := tk })
    (hcell : ∀ x ∈ scope.names, x.2 ≠ .cell) (hco : scope.isCoroutine = false) (hgen : scope.isGenerator = false) (hk : scope.kind = .function) :
    codeAny (model prog w) A (.call (.ref f) args) R s := by
  refine codeAny_call_def (fd := fnOf name qual params body scope dV kV doc pm an cdv ct) (body := body) (binds := binds) hroom (kp _ _ (X _ _ ho)) rfl (hlim.keeps kp) (codeRec_of (X.keeps kp) hcd) rfl hbind hcell hloc (fun h₁ hns hk₁ => ?_) hco hgen hk
  have hL : s.heap.get? s.heap.objs.size = none := by
    cases e : s.heap.get? s.heap.objs.size with
    | none => rfl
    | some o => exact absurd (Heap.lt_size e) (Nat.lt_irrefl _)
  refine wpAny_mono (h s.heap.objs.size h₁ _ ⟨hns, fun b o e => hk₁ b o (kp b o e), hsz⟩ (fun p hp => ⟨hk₁ _ _ (hn p hp).1, fun e => ?_, (hn p hp).2⟩) hk₁ hL) (fun _ _ y => y) fun _ _ y => y.elim
  have := (hn p hp).1
  rw [e, hL] at this; cases this

/-- a frame's map: the named values first -/
noncomputable def lk (l : List (Str × Value)) (u : Str → Option Value) : Str → Option Value := fun y => match l.lookup y with
  | some v => some v
  | none => u y
/-- the map bears these values -/
inductive Has (m : Str → Option Value) : List (Str × Value) → Prop
  | nil : Has m []
  | cons {x : Str} {v : Value} {l : List (Str × Value)} : m x = some v → Has m l → Has m ((x, v) :: l)
theorem Has.at {m : Str → Option Value} {l : List (Str × Value)} (h : Has m l) : ∀ y v, l.lookup y = some v → m y = some v := by
  induction h with
  | nil => intro y v e; cases e
  | @cons x v l hx _ ih =>
    intro y u e
    simp only [List.lookup] at e
    split at e
    · rename_i q; cases e; rw [beq_iff_eq.mp q]; exact hx
    · exact ih y u e
theorem Has.open {m : Str → Option Value} {l : List (Str × Value)} (h : Has m l) : ∃ u, m = lk l u := by
  refine ⟨m, funext fun y => ?_⟩
  unfold lk
  cases e : l.lookup y with
  | none => rfl
  | some v => exact h.at y v e

/-- all that g holds is held; nothing but heap and tokens turned -/
noncomputable def KeepsG (g : Heap) (s s' : Shared) : Prop := ∃ h' tk, s' = { s with heap := h', toks := tk } ∧ ∀ b o, g.get? b = some o → h'.get? b = some o

theorem KeepsG.of_fr {g h : Heap} {L : Addr} {m : Str → Option Value} {s : Shared} {tk : Nat} (F : Fr g L h m) : KeepsG g s { s with heap := h, toks := tk } := ⟨h, tk, rfl, F.keep⟩
theorem Keeps.of_fr {h : Heap} {L : Addr} {m : Str → Option Value} {s : Shared} {tk : Nat} (F : Fr s.heap L h m) : Keeps s { s with heap := h, toks := tk } := ⟨h, tk, rfl, F.keep⟩

/-- behind a pure call: frame and ledger stand -/
theorem after0 {g h h' : Heap} {L : Addr} {m : Str → Option Value} {news : List (Addr × Obj)} (F : Fr g L h m) (N : News g L h news) (k : ∀ b o, h.get? b = some o → h'.get? b = some o) :
    Fr g L h' m ∧ News g L h' news := by
  obtain ⟨oL, a1, a2, hL, a3⟩ := F.ns
  exact ⟨⟨⟨oL, a1, a2, k _ _ hL, a3⟩, fun b o e => k _ _ (F.keep b o e), F.above⟩, fun p hp => ⟨k _ _ (N p hp).1, (N p hp).2⟩⟩

/-- behind a call that turned the object at a -/
theorem after1 {g h h' : Heap} {L a : Addr} {o o' : Obj} {m : Str → Option Value} {news news' : List (Addr × Obj)} (F : Fr g L h m) (N : News g L h news) (U : Upd a o o' news news')
    (k : ∀ b o, (h.hide a).get? b = some o → h'.get? b = some o) (ha : h'.get? a = some o') : Fr g L h' m ∧ News g L h' news' := by
  obtain ⟨pre, post, rfl, rfl, h1, h2⟩ := U.split
  have z := N (a, o) (List.mem_append.mpr (.inr (.head _)))
  have k' : ∀ b ob, b ≠ a → h.get? b = some ob → h'.get? b = some ob := fun b ob hb e => k b ob ((Heap.hide_ne h hb).trans e)
  obtain ⟨oL, a1, a2, hL, a3⟩ := F.ns
  refine ⟨⟨⟨oL, a1, a2, k' _ _ (Ne.symm z.2.1) hL, a3⟩, fun b ob e => k' b ob (fun q => ?_) (F.keep b ob e), F.above⟩, fun p hp => ?_⟩
  · rw [q, z.2.2] at e; cases e
  · rcases List.mem_append.mp hp with hp | hp
    · have y := N p (List.mem_append.mpr (.inl hp)); exact ⟨k' _ _ (h1 p hp) y.1, y.2⟩
    · rcases List.mem_cons.mp hp with rfl | hp
      · exact ⟨ha, z.2⟩
      · have y := N p (List.mem_append.mpr (.inr (.tail _ hp))); exact ⟨k' _ _ (h2 p hp) y.1, y.2⟩

theorem after1F {g h h' : Heap} {L a : Addr} {o o' : Obj} {m : Str → Option Value} {news : List (Addr × Obj)} {upd : Obj → List (Addr × Obj)} (F : Fr g L h m) (N : News g L h news) (U : UpdF a o news upd)
    (k : ∀ b o, (h.hide a).get? b = some o → h'.get? b = some o) (ha : h'.get? a = some o') : Fr g L h' m ∧ News g L h' (upd o') := by
  obtain ⟨pre, post, rfl, e, h1, h2⟩ := U.split
  rw [e]
  have U' : Upd a o o' (pre ++ (a, o) :: post) (pre ++ (a, o') :: post) := by
    clear e U N
    induction pre with
    | nil => exact .head h2
    | cons p r ih => exact .tail (h1 p (.head _)) (ih fun q hq => h1 q (.tail _ hq))
  exact after1 F N U' k ha

section
variable {prog : Program} {w : World} {A : Around} {E : Value → Shared → Prop} {s : Shared} {g : Heap} {L : Addr} {m : Str → Option Value} {news : List (Addr × Obj)} {c : Sem Value} {Q : Value → Shared → Prop}
/-- a contract's end taken up: the value alone is new -/
theorem useV {v : Value} (hc : wpAny (model prog w) A c (fun y s' => Keeps s s' ∧ y = v) E s) (F : Fr g L s.heap m) (N : News g L s.heap news)
    (h : ∀ h' tk, Fr g L h' m → News g L h' news → Q v { s with heap := h', toks := tk }) : wpAny (model prog w) A c Q E s :=
  wpAny_mono hc (fun y s' hq => by obtain ⟨⟨h', tk, rfl, k⟩, rfl⟩ := hq; exact h h' tk (after0 F N k).1 (after0 F N k).2) fun _ _ z => z
theorem use0 {V : Tok → Value} (hc : wpAny (model prog w) A c (fun y s' => Keeps s s' ∧ ∃ t, y = V t) E s) (F : Fr g L s.heap m) (N : News g L s.heap news)
    (h : ∀ t h' tk, Fr g L h' m → News g L h' news → Q (V t) { s with heap := h', toks := tk }) : wpAny (model prog w) A c Q E s :=
  wpAny_mono hc (fun y s' hq => by obtain ⟨⟨h', tk, rfl, k⟩, t, rfl⟩ := hq; exact h t h' tk (after0 F N k).1 (after0 F N k).2) fun _ _ z => z
theorem use {P : Value → Shared → Prop} (hc : wpAny (model prog w) A c (fun y s' => Keeps s s' ∧ P y s') E s)
    (h : ∀ y h' tk, (∀ b o, s.heap.get? b = some o → h'.get? b = some o) → P y { s with heap := h', toks := tk } → Q y { s with heap := h', toks := tk }) : wpAny (model prog w) A c Q E s :=
  wpAny_mono hc (fun y s' hq => by obtain ⟨⟨h', tk, rfl, k⟩, hp⟩ := hq; exact h y h' tk k hp) fun _ _ z => z
theorem useG {P : Value → Shared → Prop} {g' : Heap} (hc : wpAny (model prog w) A c (fun y s' => KeepsG g' s s' ∧ P y s') E s)
    (h : ∀ y h' tk, (∀ b o, g'.get? b = some o → h'.get? b = some o) → P y { s with heap := h', toks := tk } → Q y { s with heap := h', toks := tk }) : wpAny (model prog w) A c Q E s :=
  wpAny_mono hc (fun y s' hq => by obtain ⟨⟨h', tk, rfl, k⟩, hp⟩ := hq; exact h y h' tk k hp) fun _ _ z => z
/-- a post in the middle -/
theorem mid {α : Type} {c : Sem α} {Q' : α → Shared → Prop} (Q : α → Shared → Prop) (h1 : ∀ R : α → Shared → Prop, (∀ f s', Q f s' → R f s') → wpAny (model prog w) A c R E s) (h2 : ∀ f s', Q f s' → Q' f s') : wpAny (model prog w) A c Q' E s :=
  wpAny_mono (h1 Q fun _ _ z => z) h2 fun _ _ z => z
end
inductive MidOb (s : Shared) (g : Heap) (L : Addr) (m : Str → Option Value) (led : Obj → List (Addr × Obj)) (v : Tok → Value) (f : Flow) (s' : Shared) : Prop
  | mk (h' : Heap) (tk' : Nat) (op' : Obj) (tp : Tok) (ef : f = .next) (es : s' = { s with heap := h', toks := tk' }) (F : Fr g L h' m) (N : News g L h' (led op')) (hd : op'.data = .cell (some (v tp)))
/-- the ground under a call that turns the object at a -/
theorem Gd.hide {w mean mg mb} {g h : Heap} {a : Addr} (G : Gd w mean mg mb g) (k : ∀ b o, g.get? b = some o → h.get? b = some o) (ha : g.get? a = none) : Gd w mean mg mb (h.hide a) :=
  G.keeps fun b o e => (Heap.hide_ne h (fun q => by rw [q, ha] at e; cases e)).trans (k b o e)

section
variable {prog : Program} {w : World} {A : Around} {E : Value → Shared → Prop} {s : Shared} {g : Heap} {L a : Addr} {m : Str → Option Value} {news news' : List (Addr × Obj)} {its : Array Value} {xs : List Int} {n : Nat} {k x : Int} {t u : Tok}

theorem ints_getD {vs : List Value} {ns : List Int} (h : IntsAre vs ns) {i : Nat} (hi : i < ns.length) : ∃ t, vs[i]? = some (.int (ns.getD i 0) t) := by
  have e : ns[i]? = some (ns.getD i 0) := by simp [List.getD, List.getElem?_eq_getElem hi]
  exact h.get i _ e
theorem ints_set {vs : List Value} {ns : List Int} (h : IntsAre vs ns) (i : Nat) (x : Int) (t : Tok) : IntsAre (vs.set i (.int x t)) (ns.set i x) := by
  induction h generalizing i with
  | nil => exact .nil
  | cons n t' r ih =>
    cases i with
    | zero => exact .cons _ _ r
    | succ i => exact .cons _ _ (ih i)

/-- an item of a list of ints of the ledger, at a place in bounds -/
theorem sub_ints {value slice : PySem.Expr} {Q : Value → Shared → Prop} (N : News g L s.heap news) (hm : (a, listOf its n) ∈ news) (hI : IntsAre its.toList xs) (h0 : 0 ≤ k) (h1 : k < xs.length) (hf : k < 2 ^ 63)
    (h : ∀ t, Q (.int (xs.getD k.toNat 0) t) s)
    (hs : subscripted slice false (.ref a) (.int k u) = operate [.ref a, .int k u] (getItem (.ref a) (.int k u)) := by with_unfolding_all rfl) :
    wpAny (model prog w) A (subscriptTail value slice (.ref a) (.int k u)) Q E s := by
  obtain ⟨t, e⟩ := ints_getD hI (i := k.toNat) (by omega)
  have hl : s.heap.IsList a its := ⟨_, (N _ hm).1, rfl, n, rfl⟩
  refine tail_any hl.typeIs slot_list_getitem.lookup (wpAny_getItem_list hl h0 hf (x := .int (xs.getD k.toNat 0) t) ?_ (h t)) hs
  rw [← Array.getElem?_toList]; exact e

theorem len_ints {Q : Value → Shared → Prop} (N : News g L s.heap news) (hm : (a, listOf its n) ∈ news) (hI : IntsAre its.toList xs) (hx : (xs.length : Int) < 2 ^ 63)
    (h : Q (.int xs.length (s.toks + 1)) { s with toks := s.toks + 1 + 1 }) : wpAny (model prog w) A (call (.builtin "len") [.ref a]) Q E s := by
  have hl : s.heap.IsList a its := ⟨_, (N _ hm).1, rfl, n, rfl⟩
  have hz : its.size = xs.length := by rw [← Array.length_toList, hI.length]
  exact len_list hl (by omega) (by rw [hz]; exact h)

theorem truthy_ints {Q : Bool → Shared → Prop} (N : News g L s.heap news) (hm : (a, listOf its n) ∈ news) (hI : IntsAre its.toList xs) (hx : (xs.length : Int) < 2 ^ 63)
    (h : Q (decide (0 < xs.length)) { s with toks := s.toks + 1 + 1 }) : wpAny (model prog w) A (truthy (.ref a)) Q E s := by
  have hl : s.heap.IsList a its := ⟨_, (N _ hm).1, rfl, n, rfl⟩
  have hz : its.size = xs.length := by rw [← Array.length_toList, hI.length]
  refine wpAny_truthy_list hl (by omega) ?_
  have e : (!its.isEmpty) = decide (0 < xs.length) := by
    rw [← hz]; unfold Array.isEmpty
    cases q : its.size with
    | zero => simp
    | succ k => simp
  rw [e]; exact h

theorem pop_ints {Q : Value → Shared → Prop} (F : Fr g L s.heap m) (N : News g L s.heap news) (hI : IntsAre its.toList xs) (U : Upd a (listOf its n) (listOf its.toList.dropLast.toArray (n + 1)) news news')
    (h0 : 0 < xs.length) (hx : xs.length ≤ sizeLine)
    (h : ∀ h' t, Fr g L h' m → News g L h' news' → IntsAre its.toList.dropLast.toArray.toList xs.dropLast → Q (.int (xs.getLastD 0) t) { s with heap := h' }) :
    wpAny (model prog w) A (call (.builtin "list.pop") [.ref a]) Q E s :=
  kpa_pop (us := its.toList) F N U hI (by rw [hI.length]; exact h0) (by rw [hI.length]; exact hx) fun h' t F' N' hI' => h h' t F' N' hI'

/-- an item of a list of ints stored anew -/
theorem set_ints {Q : Unit → Shared → Prop} (F : Fr g L s.heap m) (N : News g L s.heap news) (hI : IntsAre its.toList xs) (U : Upd a (listOf its n) (listOf (its.setIfInBounds k.toNat (.int x u)) n) news news')
    (h0 : 0 ≤ k) (h1 : k < xs.length) (hf : k < 2 ^ 63)
    (h : ∀ h', Fr g L h' m → News g L h' news' → IntsAre (its.setIfInBounds k.toNat (.int x u)).toList (xs.set k.toNat x) → Q () { s with heap := h' }) :
    wpAny (model prog w) A (setItem (.ref a) (.int k t) (.int x u)) Q E s := by
  obtain ⟨pre, post, rfl, rfl, e1, e2⟩ := U.split
  have z := N (a, listOf its n) (List.mem_append.mpr (.inr (.head _)))
  have hz : its.size = xs.length := by rw [← Array.length_toList, hI.length]
  refine ki_setAt z.1 h0 hf (by omega) (h _ (F.change (Heap.SameBut.update ..) z.2.1 z.2.2) (ki_turn _ N e1 e2 rfl (by simp)) ?_)
  rw [Array.toList_setIfInBounds]
  exact ints_set hI _ _ _
end
section
variable {prog : Program} {w : World} {A : Around} {E : Value → Shared → Prop} {s : Shared} {Q : Value → Shared → Prop} {x d : Int} {t u : Tok}
theorem rshift1 (h : Q (.int (x / 2) s.toks) { s with toks := s.toks + 1 }) : wpAny (model prog w) A (binaryOp .RShift (.int x t) (.int 1 u)) Q E s := by
  refine rshift_int (by decide) ?_
  have e : Int.fdiv x (2 ^ Int.toNat 1) = x / 2 := Int.fdiv_eq_ediv_of_nonneg x (by decide)
  rw [e]; exact h
theorem modP (hd : 0 < d) (h : Q (.int (x % d) s.toks) { s with toks := s.toks + 1 }) : wpAny (model prog w) A (binaryOp .Mod (.int x t) (.int d u)) Q E s := by
  refine mod_int' (by omega) ?_
  rw [Int.fmod_eq_emod_of_nonneg x (by omega)]; exact h
end

theorem newL {g h : Heap} {L : Addr} {m : Str → Option Value} (F : Fr g L h m) : L ≠ h.objs.size := Nat.ne_of_lt F.ns.lt
theorem newG {g h : Heap} {L : Addr} {m : Str → Option Value} (F : Fr g L h m) : g.get? h.objs.size = none := next_is_new F
theorem newN {g h : Heap} {L : Addr} {news : List (Addr × Obj)} (N : News g L h news) : ∀ p ∈ news, p.1 ≠ h.objs.size := fun p hp => Nat.ne_of_lt (Heap.lt_size (N p hp).1)

/-- how a turn of a loop ends -/
noncomputable def TurnEnd (g : Heap) (L I : Addr) (own : List (Addr × Obj)) (Jn : (Str → Option Value) → List (Addr × Obj) → Prop) (s₁ : Shared) (Q : Flow → Shared → Prop) : Flow → Shared → Prop
  | .ret v, s' => Q (.ret v) s'
  | .brk, s' => Q .next s'
  | _, s' => ∃ h' tk m' news', s' = { s₁ with heap := h', toks := tk } ∧ Fr g L h' m' ∧ News g L h' (news' ++ own) ∧ (∀ p ∈ news', p.1 ≠ I) ∧ Jn m' news'

section
variable {prog : Program} {w : World} {A : Around} {E : Value → Shared → Prop} {s : Shared} {g : Heap} {env : Env} {I : Addr} {m : Str → Option Value} {news : List (Addr × Obj)} {x : Str} {body : List Stmt} {Q : Flow → Shared → Prop}

theorem loopAt {L : Addr} {fp : List Addr} {n : Nat} {P : Nat → Value → Prop} {St : Nat → Heap → Prop} (W : Walks prog w A I fp [I] n P St) (hst : St 0 s.heap)
    (hfp : L ∉ fp) (hgI : g.get? I = none) (hnI : ∀ p ∈ news, p.1 ≠ I) (F : Fr g L s.heap m) (N : News g L s.heap news)
    (J : Nat → (Str → Option Value) → List (Addr × Obj) → Prop) (h0 : J 0 m news)
    (turn : ∀ i v m₁ news₁ h tk own R, (∀ f s', TurnEnd g L I own (J (i + 1)) s Q f s' → R f s') → i < n → P i v → J i m₁ news₁ → (∀ p ∈ news₁, p.1 ≠ I) → (∀ p ∈ own, p.1 = I) → Fr g L h (fun y => if y = x then some v else m₁ y) → News g L h (news₁ ++ own) →
      wpAny (model prog w) A (execs body env) R E { s with heap := h, toks := tk })
    (hfg : ∀ b ∈ fp, b = I ∨ ∃ o, g.get? b = some o)
    (done : ∀ h tk m' news', J n m' news' → Fr g L h m' → News g L h news' → Q .next { s with heap := h, toks := tk }) (hL : env.locals = L := by rfl) :
    LoopAtV prog w A g env x body Q E (.ref I) s := by
  subst hL
  refine ⟨I, fp, [I], n, P, St, m, news, J, rfl, W, hfp, ?_, ?_, hst, F, N, h0, ?_, ?_⟩
  · intro b hb; rw [List.mem_singleton.mp hb]; exact hgI
  · intro p hp hb; exact hnI p hp (List.mem_singleton.mp hb)
  · rintro i v m₁ news₁ s₁ own ⟨h, tk, rfl⟩ hi hP hJ hoff hown _ hall hst' F₁ N₁
    have hI' : ∀ p ∈ own, p.1 = I := fun p hp => by
      rcases hfg _ (hown p hp) with e | ⟨o, e⟩
      · exact e
      · have := (N₁ p (List.mem_append_left _ hp)).2.2
        rw [e] at this; cases this
    refine wpAny_mono (turn i v m₁ news₁ h tk own _ (fun _ _ z => z) hi hP hJ (fun p hp e => hoff p hp (by rw [e]; exact .head _)) hI' F₁ (fun p hp => N₁ p ((List.mem_append.mp hp).elim (fun q => List.mem_append.mpr (.inr q)) fun q => List.mem_append.mpr (.inl q)))) (fun f s₂ hf => ?_) fun _ _ e => e
    have fin : (∃ h' tk' m' news', s₂ = { s with heap := h', toks := tk' } ∧ Fr g env.locals h' m' ∧ News g env.locals h' (news' ++ own) ∧ (∀ p ∈ news', p.1 ≠ I) ∧ J (i + 1) m' news') → LoopStepU g env.locals [I] own (J (i + 1)) { s with heap := h, toks := tk } .next s₂ := by
      rintro ⟨h', tk', m', news', rfl, F', N', hne, hJ'⟩
      exact ⟨rfl, h', tk', m', news', rfl, F', (fun p hp => N' p ((List.mem_append.mp hp).elim (fun q => List.mem_append.mpr (.inr q)) fun q => List.mem_append.mpr (.inl q))), (fun p hp hb => hne p hp (List.mem_singleton.mp hb)), hJ'⟩
    cases f with
    | ret v => exact .ret hf
    | brk => exact .brk hf
    | next => exact .next (fin hf)
    | cont => exact .cont (fin hf)
  · intro h' tk m' news' F' N' _ hJ
    exact done h' tk m' news' hJ F' N'
end

section
variable {prog : Program} {w : World} {A : Around} {E : Value → Shared → Prop} {s : Shared}
abbrev rangeIt (x left step : Int) : Obj := { cls := .type "range_iterator", data := .fields #[rawInt x, rawInt left, rawInt step] }

theorem sub_ri_reversed : isSubtype (.type "range_iterator") (.type "reversed") = pure false := by rw [isSubtype_type]; kernel_rfl

/-- range.__reversed__ of range(0, n) -/
theorem call_range_reversed {r : Addr} {n : Int} {t u v : Tok} {Q : Value → Shared → Prop} (hr : IsRange s.heap r 0 n 1 t u v) (h0 : 0 ≤ n) (hn : n < 2 ^ 62)
    (h : Q (.ref s.heap.objs.size) { s with heap := s.heap.push (rangeIt (n - 1) n (-1)) }) : wpAny (model prog w) A (call (.builtin "range.__reversed__") [.ref r]) Q E s := by
  have hT : s.TypeIs (.ref r) "range" := ⟨_, hr, rfl⟩
  refine wpAny_call_entry F.slot_range_reversed hT F.entry_range_reversed ?_ (F.args_range_reversed_1 _)
  unfold Builtin.«range.__reversed__»
  refine wpAny_bind (wpAny_of_eq (a := Value.ref r) rfl ?_)
  have hz : Builtin.Range.rangeSize 0 n 1 = n := by rw [rangeSize_nat]; omega
  have hs : (Builtin.Range.rangeFitsLong 0 && Builtin.Range.rangeFitsLong n && Builtin.Range.rangeFitsLong 1 && Builtin.Range.rangeFitsLong (-1) && Builtin.Range.rangeFitsLong (0 - 1) && Builtin.Range.rangeFitsLong n) = true := by
    unfold Builtin.Range.rangeFitsLong
    simp only [Bool.and_eq_true, decide_eq_true_eq]
    omega
  unfold Builtin.Range.rangeFields
  refine wpAny_bind (m := _) ?_
  refine wpAny_bind (wpAny_field hr rfl (x := .int 0 t) rfl ?_)
  refine wpAny_bind (wpAny_of_eq (a := some (0 : Int)) rfl ?_)
  refine wpAny_bind (wpAny_field hr rfl (x := .int n u) rfl ?_)
  refine wpAny_bind (wpAny_of_eq (a := some n) rfl ?_)
  refine wpAny_bind (wpAny_field hr rfl (x := .int 1 v) rfl ?_)
  refine wpAny_bind (wpAny_of_eq (a := some (1 : Int)) rfl ?_)
  refine wpAny_pure ?_
  dsimp only
  rw [hz, hs]
  refine wpAny_bind (m := newFields "range_iterator" [rawInt (0 + (n - 1) * 1), rawInt n, rawInt (-1)]) (wpAny_newObj_type (wpAny_pure ⟨_, rfl, ?_⟩))
  have e : (0 : Int) + (n - 1) * 1 = n - 1 := by omega
  rw [e]
  exact h

theorem code_reversed_range {r : Addr} {n : Int} {t u v : Tok} {Q₁ : Value → Shared → Prop} (hr : IsRange s.heap r 0 n 1 t u v) (h0 : 0 ≤ n) (hn : n < 2 ^ 62)
    (h : Q₁ (.ref s.heap.objs.size) { s with heap := s.heap.push (rangeIt (n - 1) n (-1)) }) :
    codeAny (model prog w) A (.call (.builtin "reversed.__new__") ⟨[.type "reversed", .ref r], []⟩) (wants Q₁ E) s := by
  have hT : s.TypeIs (.ref r) "range" := ⟨_, hr, rfl⟩
  refine codeAny_of_tree ?_
  show wpAny _ A.in1 (do checkBuiltinCall "reversed.__new__" ⟨[.type "reversed", .ref r], []⟩; again (.builtin "reversed.__new__" ⟨[.type "reversed", .ref r], []⟩)) _ _ s
  refine wpAny_bind (wpAny_of_eq (F.newCall_reversed_1 _) (wpAny_pure ⟨plainId_quiet F.plain_reversed_new _, codeAny_builtin F.entry_reversed_new ?_⟩))
  rw [Around.under_plainId F.plain_reversed_new _]
  unfold Builtin.«reversed.__new__»
  refine wpAny_bind (wpAny_of_eq (newClass_reversed _) ?_)
  dsimp only
  refine wpAny_bind (wpAny_of_eq (a := ()) (by first | rfl | kernel_rfl) ?_)
  refine wpAny_bind (wpAny_of_eq (a := ()) (by first | rfl | kernel_rfl) ?_)
  refine wpAny_bind (wpAny_specialOf hT F.slot_range_reversed.lookup ?_)
  refine wpAny_bind (wpAny_of_eq (F.slot_range_reversed.bind _) ?_)
  show wpAny _ _ (if (Value.builtin "range.__reversed__" == Value.none) = true then _ else _) _ _ _
  rw [if_neg (show ¬ ((Value.builtin "range.__reversed__" == Value.none) = true) from Bool.false_ne_true)]
  refine wpAny_bind (wpAny_rule ?_)
  refine wpAny_bind (m := runValue (.call (.builtin "range.__reversed__") ⟨[.ref r], []⟩)) (show wpAny _ _ (call (.builtin "range.__reversed__") [.ref r]) _ _ _ from call_range_reversed hr h0 hn ?_)
  first
  | exact wpAny_pure h
  | exact wpAny_bind (wpAny_pure (wpAny_pure h))

theorem call_reversed_range {r : Addr} {n : Int} {t u v : Tok} {Q : Value → Shared → Prop} (hr : IsRange s.heap r 0 n 1 t u v) (h0 : 0 ≤ n) (hn : n < 2 ^ 62)
    (h : Q (.ref s.heap.objs.size) { s with heap := s.heap.push (rangeIt (n - 1) n (-1)) }) : wpAny (model prog w) A (call (.type "reversed") [.ref r]) Q E s := by
  refine callType_other (U := "range_iterator") (Q₁ := fun obj s₁ => obj = .ref s.heap.objs.size ∧ s₁ = { s with heap := s.heap.push (rangeIt (n - 1) n (-1)) }) (by decide +kernel) F.create_reversed ⟨_, _, F.mro_reversed⟩ F.made_reversed sub_ri_reversed (F.typeCall_reversed_1 _) (code_reversed_range hr h0 hn ⟨rfl, rfl⟩) ?_
  rintro obj s₁ ⟨rfl, rfl⟩
  exact ⟨⟨_, Heap.get?_push_size _ rfl, rfl⟩, h⟩
end
/-! 06comp -/
/-- entering a def whose blocks hold some of its names -/
theorem enterC {prog : Program} {w : World} {A : Around} {s : Shared} {g : Heap} {news : List (Addr × Obj)} {K : Frag} {R : Result → Shared → Prop} {name qual : Str} {params : Arguments} {body : List Stmt} {scope : Scope}
    {dV kV doc pm cdv ct oc : Value} {an od : Option Addr} {osl : Array (Option Value)} {f : Addr} {args : Args} (binds : List (Str × Value))
    (X : K.In g) (hlim : g.NoLimit) (kp : ∀ b o, g.get? b = some o → s.heap.get? b = some o) (hsz : g.objs.size ≤ s.heap.objs.size)
    (hn : ∀ p ∈ news, s.heap.get? p.1 = some p.2 ∧ g.get? p.1 = none)
    (ho : K.lookup f = some ⟨oc, od, .func (fnOf name qual params body scope dV kV doc pm an cdv ct), osl⟩) (hcd : codeIn K cdv qual = true) (hroom : A.depth < recursionLimit)
    (hbind : BindsTo s (fnOf name qual params body scope dV kV doc pm an cdv ct) args binds)
    (hkind : (binds.all fun y => scope.names.lookup y.1 == some .local || scope.names.lookup y.1 == some .cell) = true)
    (hnd : ((cellsFrom 0 scope.names []).map (·.1)).Nodup)
    (h : ∀ L h₁ tk cells, Fr g L h₁ (bindL (envOfC qual scope L f cdv).kindOf binds fun _ => none) → News g L h₁ (cells ++ news) →
      CellsAre (bindC (envOfC qual scope L f cdv).kindOf binds fun _ => none) (cellsFrom (L + 1) scope.names []) cells → (∀ b o, s.heap.get? b = some o → h₁.get? b = some o) → (∀ b o, s.heap.get? b = some o → b < L) →
      wpAny (model prog w) (A.deeper (envOfC qual scope L f cdv)) (execs body (envOfC qual scope L f cdv))
        (fun fl s' => R (.ok (.ret (match fl with | .ret v => v | _ => .none))) s') (fun _ _ => False) { s with heap := h₁, toks := tk })
    (hco : scope.isCoroutine = false) (hgen : scope.isGenerator = false) (hk : scope.kind = .function) :
    codeAny (model prog w) A (.call (.ref f) args) R s := by
  refine codeAny_call_function (fd := fnOf name qual params body scope dV kV doc pm an cdv ct) hroom (kp _ _ (X _ _ ho)) rfl hco hgen rfl (codeRec_of (X.keeps kp) hcd) (hbind _ _ _ _ ?_)
  refine wpAny_newFunctionEnv_cells hk (kindsX hkind _) fun env' he s' x => ?_
  subst he
  refine ⟨(hlim.keeps kp).keeps x.toInCall.keep, codeAny_func ?_⟩
  obtain ⟨h₁, tk, rfl, _⟩ := x.done
  have hk₁ := x.toInCall.keep
  obtain ⟨cells, NC, Y⟩ := Cl.news (h₀ := s.heap) (Nat.le_refl _) fun n c hm => ⟨x.cell n c (lookup_of_mem_nodup (cellsFrom_names scope.names 0 (s.heap.objs.size + 1) [] [] rfl ▸ hnd) hm), x.above n c hm⟩
  refine wpAny_mono (h s.heap.objs.size h₁ tk cells ⟨x.toInCall.ns, fun b o e => hk₁ b o (kp b o e), hsz⟩ (fun p hp => ?_) Y hk₁ (fun b o e => Heap.lt_size e)) (fun _ _ y => y) fun _ _ y => y.elim
  rcases List.mem_append.mp hp with hp | hp
  · refine ⟨(NC p hp).1, (NC p hp).2.1, ?_⟩
    cases q : g.get? p.1 with
    | none => rfl
    | some o => have := kp _ _ q; rw [(NC p hp).2.2] at this; cases this
  · exact ⟨hk₁ _ _ (hn p hp).1, Nat.ne_of_lt (Heap.lt_size (hn p hp).1), (hn p hp).2⟩

/-- a new object onto the ledger, behind a step that kept the heap -/
theorem addNew {g h h' : Heap} {L D : Addr} {o : Obj} {m : Str → Option Value} {news : List (Addr × Obj)} (F : Fr g L h m) (N : News g L h news) (k : ∀ b o, h.get? b = some o → h'.get? b = some o)
    (hD : h.get? D = none) (ho : h'.get? D = some o) : Fr g L h' m ∧ News g L h' ((D, o) :: news) ∧ ∀ p ∈ news, p.1 ≠ D := by
  obtain ⟨F', N'⟩ := after0 F N k
  obtain ⟨oL, a1, a2, hL, a3⟩ := F.ns
  refine ⟨F', fun p hp => ?_, fun p hp e => ?_⟩
  · rcases List.mem_cons.mp hp with rfl | hp
    · refine ⟨ho, fun e => ?_, ?_⟩
      · dsimp only at e; rw [e, hL] at hD; cases hD
      · cases q : g.get? D with
        | none => rfl
        | some o' => rw [F.keep _ _ q] at hD; cases hD
    · exact N' p hp
  · have := (N p hp).1; rw [e, hD] at this; cases this

section
variable {prog : Program} {w : World} {A : Around} {E : Value → Shared → Prop} {s : Shared} {env : Env} {x : Str} {pos : Pos} {v : Value} {Q : Value → Shared → Prop} {h₃ : Heap} {m : Str → Option Value} {c : Addr} {K : Frag} {p : Program} {loose : List Str} {mean : ExcName → Option Value} {mg mb : Str → Option Value}
/-- names in a block -/
theorem nmB_local (kp : ∀ b o, h₃.get? b = some o → s.heap.get? b = some o) (hn : h₃.Ns env.locals m) (hv : m x = some v) (h : Q v s) (hk : env.scope.kind = .function) (hx : env.kindOf x = some .local) (hd : (x == ("__debug__" : Str)) = false) :
    wpAny (model prog w) A (eval (.Name x pos) env) Q E s := wpAny_Name (wpAny_loadName_local hk hx (hn.keeps kp) hv h) hd
theorem nmB_cell (kp : ∀ b o, h₃.get? b = some o → s.heap.get? b = some o) (hn : h₃.IsCell c (some v)) (hc : env.cells.lookup x = some c) (h : Q v s) (hk : env.scope.kind = .function) (hx : env.kindOf x = some .cell) (hd : (x == ("__debug__" : Str)) = false) :
    wpAny (model prog w) A (eval (.Name x pos) env) Q E s := wpAny_Name (wpAny_loadName_cell hk hx hc (hn.keeps kp) h) hd
theorem nmB_glob (kp : ∀ b o, h₃.get? b = some o → s.heap.get? b = some o) (X : K.In h₃) (T : Top p loose mean mg mb h₃) (hg : env.globals = mainGlobals) (e : nsIn K mainGlobals x = some (some v)) (h : Q v s) (hk : env.scope.kind = .function) (hx : env.kindOf x = some .globalImplicit) (hd : (x == ("__debug__" : Str)) = false) :
    wpAny (model prog w) A (eval (.Name x pos) env) Q E s := Name_function_global hk hx (loadGlobal_global (by rw [hg]; exact T.g.keeps kp) (mg_of X T.g e) h) hd
theorem nmB_built (kp : ∀ b o, h₃.get? b = some o → s.heap.get? b = some o) (X : K.In h₃) (T : Top p loose mean mg mb h₃) (hg : env.globals = mainGlobals) (hb : env.builtins = builtinsNs) (e : nsIn K mainGlobals x = some none) (hv : bootBuiltins x = some v) (hn : x ≠ "__name__") (h : Q v s) (hk : env.scope.kind = .function) (hx : env.kindOf x = some .globalImplicit) (hd : (x == ("__debug__" : Str)) = false) :
    wpAny (model prog w) A (eval (.Name x pos) env) Q E s :=
  Name_function_global hk hx (loadGlobal_builtin (by rw [hg]; exact T.g.keeps kp) (mg_none_of X T.g e) (by rw [hb]; exact T.b.keeps kp) ((T.builtins x hn).trans hv) h) hd
end

section
variable {prog : Program} {w : World} {A : Around} {E : Value → Shared → Prop} {s : Shared} {env : Env} {x : Str} {elt : Expr} {ifs : List Expr} {scope : Scope} {cl : List (Str × Addr)} {Q : Value → Shared → Prop}

/-- what a block's turn asks: over any heap that keeps h₀ -/
structure BlockOk (prog : Program) (w : World) (A : Around) (env : Env) (scope : Scope) (cl : List (Str × Addr)) (x : Str) (ifs : List Expr) (elt : Expr) (P : Nat → Value → Prop) (p : Value → Bool) (F : Value → Value → Prop) (h₀ : Heap) : Prop where
  tests : ∀ C i v s₃ m₃ E', P i v → s₃.heap.Ns C m₃ → m₃ x = some v → (∀ b o, h₀.get? b = some o → s₃.heap.get? b = some o) →
    wpAny (model prog w) A (forIn ifs true fun c r => if r = true then do let ok ← isTrue c (compEnvC scope cl C env) (eval c (compEnvC scope cl C env)); pure (ForInStep.yield ok) else pure (ForInStep.yield r))
      (fun ok s₄ => ok = p v ∧ Keeps s₃ s₄) E' s₃
  elt : ∀ C i v s₃ m₃ E', P i v → p v = true → s₃.heap.Ns C m₃ → m₃ x = some v → (∀ b o, h₀.get? b = some o → s₃.heap.get? b = some o) →
    wpAny (model prog w) A (eval elt (compEnvC scope cl C env)) (fun y s₄ => F v y ∧ Keeps s₃ s₄) E' s₃

theorem BlockOk.quiet {P : Nat → Value → Prop} {p : Value → Bool} {F : Value → Value → Prop} {h₀ : Heap} {s₂ : Shared} (B : BlockOk prog w A env scope cl x ifs elt P p F h₀) (k : ∀ b o, h₀.get? b = some o → s₂.heap.get? b = some o) {I : Addr} (hI : h₀.get? I = none) :
    QuietOnC prog w A env scope cl x ifs elt [I] P p F s₂ where
  tests := fun C i v s₃ m₃ E' _ hP hn hm hk _ => B.tests C i v s₃ m₃ E' hP hn hm fun b o e => hk b o (fun hb => by rw [List.mem_singleton.mp hb, hI] at e; cases e) (k b o e)
  elt := fun C i v s₃ m₃ E' _ hP hp hn hm hk _ => B.elt C i v s₃ m₃ E' hP hp hn hm fun b o e => hk b o (fun hb => by rw [List.mem_singleton.mp hb, hI] at e; cases e) (k b o e)

/-- what is behind the source's evaluation, for the block over it -/
noncomputable def CompAt (prog : Program) (w : World) (A : Around) (env : Env) (scope : Scope) (cl : List (Str × Addr)) (x : Str) (ifs : List Expr) (elt : Expr) (p : Value → Bool) (F : Value → Value → Prop) (Q : Value → Shared → Prop) (it : Value) (s₂ : Shared) : Prop :=
  ∃ I fp wr n P St, it = .ref I ∧ Walks prog w A I fp wr n P St ∧ n ≤ sizeLine ∧ St 0 s₂.heap ∧ (∀ b ∈ fp, b < s₂.heap.objs.size) ∧
      QuietOnC prog w A env scope cl x ifs elt wr P p F s₂ ∧
      (∀ D h' tk ys (vs : List Value), s₂.heap.get? D = none → h'.IsList D ys → h'.PlainList D ys → vs.length = n → (∀ j v, vs[j]? = some v → P j v) → Paired F (vs.filter p) ys.toList →
        (∀ b o, b ∉ wr → s₂.heap.get? b = some o → h'.get? b = some o) → Q (.ref D) { s₂ with heap := h', toks := tk })

theorem noneNew (h : Heap) : h.get? h.objs.size = none := by
  cases e : h.get? h.objs.size with
  | none => rfl
  | some o => exact absurd (Heap.lt_size e) (Nat.lt_irrefl _)

/-- a block over a list -/
theorem comp_list {p : Value → Bool} {F : Value → Value → Prop} {a : Addr} {items : Array Value} (hh : A.handled = none) (hl : s.heap.IsList a items) (hz : items.size ≤ sizeLine)
    (B : BlockOk prog w A env scope cl x ifs elt (fun i v => items[i]? = some v) p F s.heap)
    (h : ∀ D h' tk ys n, s.heap.get? D = none → h'.get? D = some (listOf ys n) → Paired F (items.toList.filter p) ys.toList → (∀ b o, s.heap.get? b = some o → h'.get? b = some o) → Q (.ref D) { s with heap := h', toks := tk }) :
    wpAny (model prog w) A (pyIter (.ref a)) (fun it s₂ => CompAt prog w A env scope cl x ifs elt p F Q it s₂) E s := by
  obtain ⟨o, ho, _⟩ := id hl
  have hne : a ≠ s.heap.objs.size := Nat.ne_of_lt (Heap.lt_size ho)
  refine wpAny_pyIter_list hl ⟨_, _, _, _, _, _, rfl, Walks.list hh s.heap.objs.size a hne items, hz, ⟨⟨_, Heap.get?_push_size _ rfl, rfl, rfl⟩, hl.at fun o e => Heap.get?_push_of_some _ e⟩, ?_, ?_, ?_⟩
  · intro b hb
    rw [Heap.size_push]
    rcases List.mem_cons.mp hb with rfl | hb
    · exact Nat.lt_succ_self _
    · rw [List.mem_singleton.mp hb]; exact Nat.lt_succ_of_lt (Heap.lt_size ho)
  · exact B.quiet (fun b o e => Heap.get?_push_of_some _ e) (noneNew _)
  · intro D h' tk ys vs hD _ hpl hlen hP hF hk
    obtain ⟨n, e⟩ := hpl
    have hvs : vs = items.toList := list_of_places (by simpa using hlen) hP
    subst hvs
    refine h D h' tk ys n ?_ e hF fun b o e => hk b o (fun hb => ?_) (Heap.get?_push_of_some _ e)
    · cases q : s.heap.get? D with
      | none => rfl
      | some o => rw [Heap.get?_push_of_some _ q] at hD; cases hD
    · rw [List.mem_singleton.mp hb, noneNew] at e; cases e

/-- a block over a range -/
theorem comp_range {p : Value → Bool} {F : Value → Value → Prop} {a : Addr} {lo' hi' st : Int} {t1 u1 v1 : Tok} {n : Nat} (hh : A.handled = none) (hr : IsRange s.heap a lo' hi' st t1 u1 v1) (hsm : Builtin.Range.small lo' hi' st = true) (hn : Builtin.Range.rangeSize lo' hi' st = (n : Int)) (hz : n ≤ sizeLine)
    (B : BlockOk prog w A env scope cl x ifs elt (fun i v => i < n ∧ ∃ t, v = Value.int (lo' + i * st) t) p F s.heap)
    (h : ∀ D h' tk ys n' (vs : List Value), s.heap.get? D = none → h'.get? D = some (listOf ys n') → vs.length = n → (∀ (j : Nat) (v : Value), vs[j]? = some v → ∃ t, v = Value.int (lo' + j * st) t) → Paired F (vs.filter p) ys.toList → (∀ b o, s.heap.get? b = some o → h'.get? b = some o) → Q (.ref D) { s with heap := h', toks := tk }) :
    wpAny (model prog w) A (pyIter (.ref a)) (fun it s₂ => CompAt prog w A env scope cl x ifs elt p F Q it s₂) E s := by
  refine wpAny_pyIter_range hr hsm ⟨_, _, _, _, _, _, rfl, (Walks.range hh s.heap.objs.size lo' st n).bound, hz, ?_, ?_, ?_, ?_⟩
  · show IsRangeIter _ _ (lo' + ((0 : Nat) : Int) * st) ((n : Int) - ((0 : Nat) : Int)) st
    have e1 : lo' + ((0 : Nat) : Int) * st = lo' := by simp
    have e2 : (n : Int) - ((0 : Nat) : Int) = n := by omega
    rw [e1, e2, ← hn]
    exact Heap.get?_push_size _ rfl
  · intro b hb
    rw [Heap.size_push, List.mem_singleton.mp hb]; exact Nat.lt_succ_self _
  · exact B.quiet (fun b o e => Heap.get?_push_of_some _ e) (noneNew _)
  · intro D h' tk ys vs hD _ hpl hlen hP hF hk
    obtain ⟨n', e⟩ := hpl
    refine h D h' tk ys n' vs ?_ e hlen (fun j v hj => (hP j v hj).2) hF fun b o e => hk b o (fun hb => ?_) (Heap.get?_push_of_some _ e)
    · cases q : s.heap.get? D with
      | none => rfl
      | some o => rw [Heap.get?_push_of_some _ q] at hD; cases hD
    · rw [List.mem_singleton.mp hb, noneNew] at e; cases e
end

section
variable {prog : Program} {w : World} {A : Around} {E : Value → Shared → Prop} {s : Shared} {env : Env} {x : Str} {px : Pos} {iter elt : Expr} {ifs : List Expr} {scope : Scope} {cl : List (Str × Addr)} {pos : Pos}
theorem comp_eval {Q : Value → Shared → Prop} (p : Value → Bool) (F : Value → Value → Prop)
    (hclos : closureFor scope env = pure cl) (hcell : ∀ y ∈ scope.names, y.2 ≠ .cell) (hkind : scope.kind = .function)
    (hnames : ∀ y ∈ scope.names, y.2 = .local → scope.names.lookup y.1 = some .local) (hx : scope.names.lookup x = some .local)
    (h : wpAny (model prog w) A (eval iter env) (fun xv s₁ => wpAny (model prog w) A (pyIter xv) (fun it s₂ => CompAt prog w A env scope cl x ifs elt p F Q it s₂) E s₁) E s)
    (hs : ∀ x, foldedSetIterable iter env x = pure x := by intro _; rfl) :
    wpAny (model prog w) A (eval (.ListComp elt [⟨.Name x px, iter, ifs, 0⟩] scope pos) env) Q E s := wpAny_ListComp_free p F hclos hcell hkind hnames hx h hs

/-- the same, the list kept under a name of the frame's -/
noncomputable def CompAtA (prog : Program) (w : World) (A : Around) (env : Env) (scope : Scope) (cl : List (Str × Addr)) (x : Str) (ifs : List Expr) (elt : Expr) (y : Str) (p : Value → Bool) (F : Value → Value → Prop) (Q : Flow → Shared → Prop) (it : Value) (s₂ : Shared) : Prop :=
  ∃ I fp wr n P St m, it = .ref I ∧ Walks prog w A I fp wr n P St ∧ n ≤ sizeLine ∧ St 0 s₂.heap ∧ (∀ b ∈ fp, b < s₂.heap.objs.size) ∧
      env.locals ∉ wr ∧ s₂.heap.Ns env.locals m ∧ QuietOnC prog w A env scope cl x ifs elt wr P p F s₂ ∧
      (∀ D h' tk ys (vs : List Value), s₂.heap.get? D = none → h'.IsList D ys → h'.PlainList D ys → vs.length = n → (∀ j v, vs[j]? = some v → P j v) → Paired F (vs.filter p) ys.toList →
        h'.Ns env.locals (fun z => if z = y then some (.ref D) else m z) → (∀ b o, b ≠ env.locals → b ∉ wr → s₂.heap.get? b = some o → h'.get? b = some o) → Q .next { s₂ with heap := h', toks := tk })
theorem comp_assign {Q : Flow → Shared → Prop} {y : Str} {py spos : Pos} (p : Value → Bool) (F : Value → Value → Prop)
    (hsw : swapsWith (.ListComp elt [⟨.Name x px, iter, ifs, 0⟩] scope pos) (some (.Name y py)) spos.line env = pure true)
    (hclos : closureFor scope env = pure cl) (hcell : ∀ z ∈ scope.names, z.2 ≠ .cell) (hkind : scope.kind = .function)
    (hnames : ∀ z ∈ scope.names, z.2 = .local → scope.names.lookup z.1 = some .local) (hx : scope.names.lookup x = some .local)
    (hy : env.kindOf y = some .local) (hp : (env.scope.kind == .class || (env.scope.kind == .module && env.locals != env.globals)) = false)
    (h : wpAny (model prog w) A (eval iter env) (fun xv s₁ => wpAny (model prog w) A (pyIter xv) (fun it s₂ => CompAtA prog w A env scope cl x ifs elt y p F Q it s₂) E s₁) E s)
    (hs : ∀ x, foldedSetIterable iter env x = pure x := by intro _; rfl) :
    wpAny (model prog w) A (exec (.Assign [.Name y py] (.ListComp elt [⟨.Name x px, iter, ifs, 0⟩] scope pos) spos) env) Q E s := wpAny_Assign_ListComp_free p F hsw hclos hcell hkind hnames hx hy hp h hs

/-- what the store behind a block leaves -/
theorem afterA {g h h' : Heap} {L D I : Addr} {o oI : Obj} {m : Str → Option Value} {news : List (Addr × Obj)} {y : Str} (F : Fr g L h m) (N : News g L h news) (hI : I = h.objs.size)
    (hD : (h.push oI).get? D = none) (ho : h'.get? D = some o) (hns : h'.Ns L (fun z => if z = y then some (.ref D) else m z)) (hk : ∀ b ob, b ≠ L → b ∉ [I] → (h.push oI).get? b = some ob → h'.get? b = some ob) :
    Fr g L h' (fun z => if z = y then some (.ref D) else m z) ∧ News g L h' ((D, o) :: news) ∧ ∀ p ∈ news, p.1 ≠ D := by
  obtain ⟨oL, a1, a2, hL, a3⟩ := F.ns
  have keep : ∀ b ob, b ≠ L → h.get? b = some ob → h'.get? b = some ob := fun b ob hb e => hk b ob hb (fun q => by rw [List.mem_singleton.mp q, hI, noneNew] at e; cases e) (Heap.get?_push_of_some _ e)
  have hD' : h.get? D = none := by
    cases q : h.get? D with
    | none => rfl
    | some ob => rw [Heap.get?_push_of_some _ q] at hD; cases hD
  refine ⟨⟨hns, fun b ob e => keep b ob (fun q => ?_) (F.keep b ob e), F.above⟩, fun p hp => ?_, fun p hp e => ?_⟩
  · exact Nat.lt_irrefl _ (Nat.lt_of_lt_of_le (q ▸ Heap.lt_size e) F.above)
  · rcases List.mem_cons.mp hp with rfl | hp
    · refine ⟨ho, fun e => ?_, ?_⟩
      · dsimp only at e; rw [e, hL] at hD'; cases hD'
      · cases q : g.get? D with
        | none => rfl
        | some o' => rw [F.keep _ _ q] at hD'; cases hD'
    · exact ⟨keep _ _ (N p hp).2.1 (N p hp).1, (N p hp).2⟩
  · have := (N p hp).1; rw [e, hD'] at this; cases this

theorem comp_rangeA {Q : Flow → Shared → Prop} {y : Str} {p : Value → Bool} {F : Value → Value → Prop} {g : Heap} {L a : Addr} {m : Str → Option Value} {news : List (Addr × Obj)} {lo' hi' st : Int} {t1 u1 v1 : Tok} {n : Nat} (hh : A.handled = none) (FR : Fr g L s.heap m) (N : News g L s.heap news)
    (hr : IsRange s.heap a lo' hi' st t1 u1 v1) (hsm : Builtin.Range.small lo' hi' st = true) (hn : Builtin.Range.rangeSize lo' hi' st = (n : Int)) (hz : n ≤ sizeLine) (hL : env.locals = L)
    (B : BlockOk prog w A env scope cl x ifs elt (fun i v => i < n ∧ ∃ t, v = Value.int (lo' + i * st) t) p F s.heap)
    (h : ∀ D h' tk ys n' (vs : List Value), Fr g L h' (fun z => if z = y then some (.ref D) else m z) → News g L h' ((D, listOf ys n') :: news) → (∀ p ∈ news, p.1 ≠ D) → vs.length = n → (∀ (j : Nat) (v : Value), vs[j]? = some v → ∃ t, v = Value.int (lo' + j * st) t) → Paired F (vs.filter p) ys.toList → Q .next { s with heap := h', toks := tk }) :
    wpAny (model prog w) A (pyIter (.ref a)) (fun it s₂ => CompAtA prog w A env scope cl x ifs elt y p F Q it s₂) E s := by
  subst hL
  have hLne := newL FR
  refine wpAny_pyIter_range hr hsm ⟨_, _, _, _, _, _, m, rfl, (Walks.range hh s.heap.objs.size lo' st n).bound, hz, ?_, ?_, ?_, ?_, ?_, ?_⟩
  · show IsRangeIter _ _ (lo' + ((0 : Nat) : Int) * st) ((n : Int) - ((0 : Nat) : Int)) st
    have e1 : lo' + ((0 : Nat) : Int) * st = lo' := by simp
    have e2 : (n : Int) - ((0 : Nat) : Int) = n := by omega
    rw [e1, e2, ← hn]
    exact Heap.get?_push_size _ rfl
  · intro b hb
    rw [Heap.size_push, List.mem_singleton.mp hb]; exact Nat.lt_succ_self _
  · exact fun hb => hLne (List.mem_singleton.mp hb)
  · exact (FR.push _).ns
  · exact B.quiet (fun b o e => Heap.get?_push_of_some _ e) (noneNew _)
  · intro D h' tk ys vs hD _ hpl hlen hP hF hns hk
    obtain ⟨n', e⟩ := hpl
    obtain ⟨F', N', hne⟩ := afterA FR N rfl hD e hns hk
    exact h D h' tk ys n' vs F' N' hne hlen (fun j v hj => (hP j v hj).2) hF

theorem comp_listA {Q : Flow → Shared → Prop} {y : Str} {p : Value → Bool} {F : Value → Value → Prop} {g : Heap} {L a : Addr} {m : Str → Option Value} {news : List (Addr × Obj)} {items : Array Value} (hh : A.handled = none) (FR : Fr g L s.heap m) (N : News g L s.heap news)
    (hl : s.heap.IsList a items) (hz : items.size ≤ sizeLine) (hL : env.locals = L)
    (B : BlockOk prog w A env scope cl x ifs elt (fun i v => items[i]? = some v) p F s.heap)
    (h : ∀ D h' tk ys n', Fr g L h' (fun z => if z = y then some (.ref D) else m z) → News g L h' ((D, listOf ys n') :: news) → (∀ p ∈ news, p.1 ≠ D) → Paired F (items.toList.filter p) ys.toList → Q .next { s with heap := h', toks := tk }) :
    wpAny (model prog w) A (pyIter (.ref a)) (fun it s₂ => CompAtA prog w A env scope cl x ifs elt y p F Q it s₂) E s := by
  subst hL
  have hLne := newL FR
  obtain ⟨o, ho, _⟩ := id hl
  have hne : a ≠ s.heap.objs.size := Nat.ne_of_lt (Heap.lt_size ho)
  refine wpAny_pyIter_list hl ⟨_, _, _, _, _, _, m, rfl, Walks.list hh s.heap.objs.size a hne items, hz, ⟨⟨_, Heap.get?_push_size _ rfl, rfl, rfl⟩, hl.at fun o e => Heap.get?_push_of_some _ e⟩, ?_, ?_, ?_, ?_, ?_⟩
  · intro b hb
    rw [Heap.size_push]
    rcases List.mem_cons.mp hb with rfl | hb
    · exact Nat.lt_succ_self _
    · rw [List.mem_singleton.mp hb]; exact Nat.lt_succ_of_lt (Heap.lt_size ho)
  · exact fun hb => hLne (List.mem_singleton.mp hb)
  · exact (FR.push _).ns
  · exact B.quiet (fun b o e => Heap.get?_push_of_some _ e) (noneNew _)
  · intro D h' tk ys vs hD _ hpl hlen hP hF hns hk
    obtain ⟨n', e⟩ := hpl
    have hvs : vs = items.toList := list_of_places (by simpa using hlen) hP
    subst hvs
    obtain ⟨F', N', hne⟩ := afterA FR N rfl hD e hns hk
    exact h D h' tk ys n' F' N' hne hF
end

theorem Keeps.refl (s : Shared) : Keeps s s := ⟨s.heap, s.toks, rfl, fun _ _ e => e⟩
theorem Keeps.tok {s : Shared} {tk : Nat} : Keeps s { s with toks := tk } := ⟨s.heap, tk, rfl, fun _ _ e => e⟩

noncomputable def IsI (i : Int) (v : Value) : Prop := ∃ t, v = .int i t
noncomputable def IsS (x : Str) (v : Value) : Prop := ∃ t, v = .str x t
theorem IsI.of {i j : Int} {t : Tok} (h : i = j) : IsI j (.int i t) := ⟨t, by rw [h]⟩
theorem IsS.of {x y : Str} {t : Tok} (h : x = y) : IsS y (.str x t) := ⟨t, by rw [h]⟩

theorem Has.consI {m : Str → Option Value} {x : Str} {i j : Int} {t : Tok} {l : List (Str × Value)} (hx : m x = some (.int i t)) (e : i = j) (h : Has m l) : Has m ((x, .int j t) :: l) := .cons (by rw [hx, e]) h
theorem Has.consS {m : Str → Option Value} {x : Str} {i j : Str} {t : Tok} {l : List (Str × Value)} (hx : m x = some (.str i t)) (e : i = j) (h : Has m l) : Has m ((x, .str j t) :: l) := .cons (by rw [hx, e]) h
/-! 11dec -/
open Builtin in
theorem dec_loop {id : String} (bs : List UInt8) (hb : ∀ x ∈ bs, x.toNat < 128) (hz : bs.length ≤ 1000) (f : Nat → (Nat × Array Nat × _codecs.Faults) → Sem (ForInStep (Nat × Array Nat × _codecs.Faults)))
    (hf : ∀ x p out st, out.size ≤ sizeLine → p < bs.length → f x (p, out, st) = pure (.yield (p + 1, out ++ #[(bs.toArray.getD p 0).toNat], st))) :
    ∀ (k p : Nat) (st : _codecs.Faults), p + k = bs.length → forIn (List.range' p k) (p, ((bs.take p).map (·.toNat)).toArray, st) f = (pure (bs.length, (bs.map (·.toNat)).toArray, st) : Sem _)
  | 0, p, st, h => by
    have : p = bs.length := by omega
    subst this
    rw [List.take_length]; rfl
  | k + 1, p, st, h => by
    rw [List.range'_succ, List.forIn_cons, hf _ _ _ _ (by rw [sizeLine_eq]; simp; omega) (by omega)]
    show forIn (List.range' (p + 1) k) (p + 1, _, st) f = _
    have e : ((bs.take p).map (·.toNat)).toArray ++ #[(bs.toArray.getD p 0).toNat] = ((bs.take (p + 1)).map (·.toNat)).toArray := by
      have hp : p < bs.length := by omega
      have e2 : bs.toArray.getD p 0 = bs[p] := by simp [hp]
      rw [e2, List.take_add_one, List.getElem?_eq_getElem hp, List.map_append]
      apply Array.toList_inj.mp
      rw [Array.toList_append]
      rfl
    rw [e]
    exact dec_loop (id := id) bs hb hz f hf k (p + 1) st (by omega)
open Builtin in
theorem dec_run {id : String} (bs : List UInt8) (hb : ∀ x ∈ bs, x.toNat < 128) (hz : bs.length ≤ 1000) : _codecs.runDecoder id _codecs.asciiDecoder none true bs.toArray 0 [] = pure ((bs.map (·.toNat)).toArray, bs.length) := by
  unfold _codecs.runDecoder
  simp only [List.size_toArray, Std.Legacy.Range.forIn_eq_forIn_range', Std.Legacy.Range.size]
  rw [show (bs.length - 0 + 1 - 1) / 1 = bs.length by omega]
  rw [show (#[] : Array Nat) = ((bs.take 0).map (·.toNat)).toArray from rfl]
  rw [dec_loop (id := id) bs hb hz _ ?_ bs.length 0 _ (by omega)]
  · rfl
  · intro x p out st h1 h2
    dsimp only
    rw [if_neg (by omega), if_neg (by omega)]
    have hc : (bs.toArray.getD p 0).toNat < 128 := by
      have : bs.toArray.getD p 0 = bs[p] := by simp [h2]
      rw [this]; exact hb _ (List.getElem_mem _)
    have e : _codecs.asciiDecoder.find true bs.toArray p = .char (bs.toArray.getD p 0).toNat (p + 1) := by
      show (if (bs.toArray.getD p 0).toNat < 128 then _ else _) = _
      rw [if_pos hc]
    rw [e]
    rfl

open Builtin in
theorem dec_road {b : Array UInt8} {id : String} : _codecs.decodeRoad id b (PySem.Str.ofString "ascii") none [] = (_codecs.runDecoder id _codecs.asciiDecoder none true b 0 [] >>= fun r => mkStr ⟨r.1⟩) := by kernel_rfl
open Builtin in
theorem dec_entry {b : UInt8} {bs : List UInt8} {t te : Tok}  : «bytes.decode» ⟨[.bytes (b :: bs).toArray t, .str (PySem.Str.ofString "ascii") te], []⟩ = (mkStr (PySem.Str.ofString "utf-8") >>= fun _ => mkStr (PySem.Str.ofString "ascii") >>= fun e => mkStr (PySem.Str.ofString "bytes.decode") >>= fun d =>
    call (.builtin "_codecs.decode.text") [.bytes (b :: bs).toArray t, e, .none, d] >>= fun v => ret v) := by kernel_rfl
theorem args_decode2 (a b : Value) : argsOk "bytes.decode" ⟨[a, b], []⟩ := by unfold argsOk; kernel_rfl
open Builtin in
theorem dec_text {b : Array UInt8} {t t1 t2 : Tok} {d : PySem.Str} {x : PySem.Str} {n : Nat} (hd : ∀ id, _codecs.runDecoder id _codecs.asciiDecoder none true b 0 [] = pure (x.cps, n)) :
    Meets («_codecs.decode.text» ⟨[.bytes b t, .str (PySem.Str.ofString "ascii") t1, .none, .str d t2], []⟩) (fun _ R s => x.length ≤ sizeLine ∧ R (.ok (.ret (.str x s.toks))) { s with toks := s.toks + 1 }) := by
  refine .of_wp fun prog w A R s hS => ?_
  obtain ⟨hsz, h⟩ := hS
  show wpAny _ _ (Bytes.bytesLike _ (.bytes b t) >>= fun r => _) _ _ s
  refine wpAny_bind (wpAny_of_eq KBd.like_eq ?_)
  refine wpAny_bind (wpAny_of_eq KBd.held_eq ?_)
  show wpAny _ _ (_codecs.decodeRoad _ b (PySem.Str.ofString "ascii") none [] >>= fun v => _) _ _ s
  rw [dec_road, hd]
  refine wpAny_bind (wpAny_bind (wpAny_pure ?_))
  exact wpAny_mkStr (wpAny_pure ⟨_, rfl, h⟩) hsz
open Builtin in
theorem dec_meets {c : UInt8} {cs : List UInt8} {t te : Tok} {x : PySem.Str} {n : Nat} (hd : ∀ id, _codecs.runDecoder id _codecs.asciiDecoder none true (c :: cs).toArray 0 [] = pure (x.cps, n)) :
    Meets («bytes.decode» ⟨[.bytes (c :: cs).toArray t, .str (PySem.Str.ofString "ascii") te], []⟩) (fun _ R s => x.length ≤ sizeLine ∧ ∀ t' k, R (.ok (.ret (.str x t'))) { s with toks := k }) := by
  refine .of_wp fun prog w A R s hS => ?_
  obtain ⟨hsz, h⟩ := hS
  rw [dec_entry]
  refine wpAny_bind (wpAny_mkStr ?_ (by decide))
  refine wpAny_bind (wpAny_mkStr ?_ (by decide))
  refine wpAny_bind (wpAny_mkStr ?_ (by decide))
  exact wpAny_bind (call_function_meets KBd.kind_text KBd.plain_text KBd.entry_text (KBd.args_text _ _ _ _) (dec_text hd) ⟨hsz, wpAny_pure ⟨_, rfl, h _ _⟩⟩)
/-- decode by ascii, octets below 128 -/
theorem dec_call {prog : Program} {w : World} {A : Around} {E : Value → Shared → Prop} {s : Shared} {Q : Value → Shared → Prop} {bs : List UInt8} {t te : Tok} (hne : bs ≠ []) (hb : ∀ x ∈ bs, x.toNat < 128) (hz : bs.length ≤ 1000)
    (h : ∀ t' k, Q (.str ⟨(bs.map (·.toNat)).toArray⟩ t') { s with toks := k }) : wpAny (model prog w) A (call (.builtin "bytes.decode") [.bytes bs.toArray t, .str (PySem.Str.ofString "ascii") te]) Q E s := by
  cases bs with
  | nil => exact absurd rfl hne
  | cons c cs =>
    exact call_meets FB.slot_bytes_decode (typeIs_bytes _ _ _) FB.entry_bytes_decode (args_decode2 _ _) (dec_meets (x := ⟨((c :: cs).map (·.toNat)).toArray⟩) (n := (c :: cs).length) fun id => dec_run (id := id) _ hb hz) ⟨by rw [sizeLine_eq]; show (List.toArray _).size ≤ _; simp at hz ⊢; omega, h⟩
/-! 13re -/
section
open PySem.Sre
noncomputable def codeN : Array Nat := #[14, 10, 4, 1, 1, 22, 0, 31, 16, 127, 0, 13, 7, 22, 0, 31, 16, 127, 0, 1]
noncomputable def codeV : Array Nat := #[14, 14, 4, 1, 1, 9, 4294966783, 0, 0, 2147483648, 0, 0, 0, 0, 0, 13, 11, 9, 4294966783, 0, 0, 2147483648, 0, 0, 0, 0, 0, 1]
/-- no sign that the pattern asks for -/
noncomputable def Tame (c : Nat) : Prop := 32 ≤ c ∧ c < 127

theorem set_N {c : Nat} (h : Tame c) (seen : Sre.Seen) : ∃ seen', inSet codeN c codeN.size 5 true seen = .ok (false, seen') := by
  have h1 : (decide (0 ≤ c) && decide (c ≤ 31)) = false := by rw [Bool.and_eq_false_iff]; right; exact decide_eq_false (by have := h.1; omega)
  have h2 : (c == 127) = false := by rw [beq_eq_false_iff_ne]; have := h.2; omega
  refine ⟨((seen.add 22).add 16).add 0, ?_⟩
  show (if (decide (0 ≤ c) && decide (c ≤ 31)) = true then _ else inSet codeN c 18 8 true _) = _
  rw [h1]
  show (if (c == 127) = true then _ else inSet codeN c 17 10 true _) = _
  rw [h2]
  rfl
theorem set_V {c : Nat} (h : Tame c) (seen : Sre.Seen) : ∃ seen', inSet codeV c codeV.size 5 true seen = .ok (false, seen') := by
  have key : ∀ c : Nat, c < 127 → 32 ≤ c → (c < 256 && (codeV.getD (5 + (1 + c / 32)) 0).testBit (c % 32)) = false := by decide +kernel
  have h1 := key c h.2 h.1
  refine ⟨(seen.add 9).add 0, ?_⟩
  show (if (decide (c < 256) && (codeV.getD (5 + (1 + c / 32)) 0).testBit (c % 32)) = true then _ else inSet codeV c 27 14 true _) = _
  rw [h1]
  rfl
theorem admitted_none {m : M} (hs : ∀ c seen, Tame c → ∃ seen', inSet m.code c m.code.size 5 true seen = .ok (false, seen')) (ht : ∀ i, i < m.lim → Tame (m.text.getD i 0)) :
    ∀ fuel s seen, ∃ seen', M.admitted m fuel s seen = .ok (none, seen')
  | 0, _, seen => ⟨seen, rfl⟩
  | fuel + 1, s, seen => by
    unfold M.admitted
    by_cases h : s ≥ m.lim
    · rw [if_pos h]; exact ⟨_, rfl⟩
    · rw [if_neg h]
      obtain ⟨seen', e⟩ := hs _ seen (ht s (by omega))
      rw [e]
      exact admitted_none hs ht fuel (s + 1) seen'
/-- the search's machine stands at a no -/
noncomputable def SaysNo (m : M) : Prop := m.answer = some false ∧ m.frames = [] ∧ m.outcome = none
theorem attempt_no {m : M} {s : Nat} {first : Bool} (hf : m.hasFirstSet = true) (hs : ∀ c seen, Tame c → ∃ seen', inSet m.code c m.code.size 5 true seen = .ok (false, seen')) (ht : ∀ i, i < m.lim → Tame (m.text.getD i 0))
    (h1 : m.frames = []) (h2 : m.outcome = none) : SaysNo (m.attemptFrom s first) := by
  unfold M.attemptFrom
  rw [hf]
  obtain ⟨seen', e⟩ := admitted_none hs ht (m.lim + 1 - s) s m.seen
  rw [e]
  exact ⟨rfl, h1, h2⟩
theorem search_no {code text : Array Nat} (hf : ((match ops[code.getD 0 0]? with | some .INFO => true | _ => false) && code.getD 2 0 == 4) = true)
    (hs : ∀ c seen, Tame c → ∃ seen', inSet code c code.size 5 true seen = .ok (false, seen')) (ht : ∀ i, i < text.size → Tame (text.getD i 0)) : SaysNo (forSearch code text 0 0 text.size false) := by
  unfold forSearch
  dsimp only
  split
  · exact ⟨rfl, rfl, rfl⟩
  · exact attempt_no hf hs ht rfl rfl
open Builtin.Re in
theorem drive_no {m : M} (h : SaysNo m) : ∃ m', m'.outcome = some .failed ∧ ∀ n, reDrive (n + 1) m = pure m' := by
  obtain ⟨h1, h2, h3⟩ := h
  have e : m.step = { m with outcome := some (if false then .matched else .failed) } := by
    unfold M.step
    rw [h3, h1, h2]; rfl
  have er : m.runFor 4 = m.step := by
    show (if m.outcome.isSome then m else M.runFor 3 m.step) = _
    rw [h3]
    show M.runFor 3 m.step = _
    rw [e]; rfl
  refine ⟨m.step, by rw [e]; rfl, fun n => ?_⟩
  show (if (m.runFor 4).outcome.isSome = true then pure (m.runFor 4) else _) = _
  rw [er, e]; rfl
open Builtin.Re in
theorem run_no {prog : Program} {w : World} {A : Around} {E : Value → Shared → Prop} {s : Shared} {m : M} {Q : Option M → Shared → Prop} (h : SaysNo m) (q : Q none s) : wpAny (model prog w) A (reRunToEnd m) Q E s := by
  obtain ⟨m', h1, h2⟩ := drive_no h
  unfold reRunToEnd
  have e : (2 : Nat) ^ 64 = (2 ^ 64 - 1) + 1 := by decide
  rw [e, h2]
  refine wpAny_bind (wpAny_pure ?_)
  refine wpAny_bind ?_
  generalize List.range names.size = l
  have key : ∀ l : List Nat, wpAny (model prog w) A (forIn l PUnit.unit fun i _ => if m'.seen.has i = true then do rule (names.getD i ""); pure (ForInStep.yield PUnit.unit) else pure (ForInStep.yield PUnit.unit)) (fun _ s' => s' = s) E s := by
    intro l
    induction l with
    | nil => exact wpAny_pure rfl
    | cons i r ih =>
      rw [List.forIn_cons]
      refine wpAny_bind ?_
      split
      · exact wpAny_bind (wpAny_rule (wpAny_pure ih))
      · exact wpAny_pure ih
  refine wpAny_mono (key l) (fun _ s' e => ?_) fun _ _ z => z
  subst e
  rw [h1]
  exact wpAny_pure q
theorem no_N {text : Array Nat} (ht : ∀ i, i < text.size → Tame (text.getD i 0)) : SaysNo (forSearch codeN text 0 0 text.size false) := search_no (by decide +kernel) (fun _ _ h => set_N h _) ht
theorem no_V {text : Array Nat} (ht : ∀ i, i < text.size → Tame (text.getD i 0)) : SaysNo (forSearch codeV text 0 0 text.size false) := search_no (by decide +kernel) (fun _ _ h => set_V h _) ht

theorem plainAttrs_pat : PlainAttrs "re.Pattern" :=
  ⟨⟨"object.__getattribute__", by rw [typeLookup_type, builtinLookup_eq_fast]; kernel_rfl, by decide +kernel⟩, by rw [typeLookup_type, builtinLookup_eq_fast]; kernel_rfl⟩
theorem slot_pat_search : Slot "re.Pattern" "search" "re.Pattern.search" :=
  .of (owner := "re.Pattern") (n := "search") (by rw [typeLookup_type, builtinLookup_eq_fast]; kernel_rfl) (by decide +kernel) (by decide +kernel) (by decide +kernel)
    (by first | exact .inl (by decide +kernel) | exact .inr (by decide +kernel)) (by rw [isSubtype_type]; kernel_rfl)
theorem type_pat_search : typeOf (.builtin "re.Pattern.search") = pure (.type "method_descriptor") := by show builtinType _ = _; rw [builtinType_eq_fast]; kernel_rfl
theorem entry_pat_search : entryFor table "re.Pattern.search" = some Builtin.«re.Pattern.search» := entryFor_of_tree (by kernel_rfl)
theorem args_pat_search (a b : Value) : argsOk "re.Pattern.search" ⟨[a, b], []⟩ := by unfold argsOk; kernel_rfl

section
variable {prog : Program} {w : World} {A : Around} {E : Value → Shared → Prop} {s : Shared} {P C : Addr} {o oc : Obj} {fs : Array Value} {its : Array Value} {n : Nat} {code : Array Nat} {x : Str} {t : Tok}
theorem pat_method {pl : Sem Bool} {Q : Value × List Value → Shared → Prop} (ho : s.heap.get? P = some o) (hc : o.cls = .type "re.Pattern") (hdct : o.dict = none) (h : Q (.builtin "re.Pattern.search", [.ref P]) s) :
    wpAny (model prog w) A (getMethod (.ref P) (Str.ofString "search") pl) Q E s :=
  getMethod_builtin ⟨_, ho, hc⟩ plainAttrs_pat slot_pat_search type_pat_search (fun a e => by cases e; exact ⟨o, ho, hdct⟩) h
open Builtin.Re in
theorem pat_search {Q : Value → Shared → Prop} (ho : s.heap.get? P = some o) (hc : o.cls = .type "re.Pattern") (hd : o.data = .fields fs) (h6 : reRawNat (fs.getD 6 .none) = 0) (h2 : reRawNat (fs.getD 2 .none) = 0) (h5 : fs.getD 5 .none = .ref C)
    (hC : s.heap.get? C = some oc) (hcd : oc.data = .seq its n) (hcode : (its.map reRawOf).map (·.toNat) = code) (hno : SaysNo (forSearch code x.cps 0 0 x.cps.size false)) (hx : x.cps.size < 2 ^ 60) (h : Q .none s) :
    wpAny (model prog w) A (call (.builtin "re.Pattern.search") [.ref P, .str x t]) Q E s := by
  refine wpAny_call_entry slot_pat_search ⟨_, ho, hc⟩ entry_pat_search ?_ (args_pat_search _ _)
  unfold Builtin.«re.Pattern.search»
  refine wpAny_bind ?_
  unfold reTarget
  refine wpAny_bind (wpAny_of_eq (a := [some (.str x t), none, none]) rfl ?_)
  refine wpAny_bind (wpAny_pure ?_)
  refine wpAny_bind (wpAny_pure ?_)
  refine wpAny_bind (wpAny_fieldsOf ho hd ?_)
  refine wpAny_bind (wpAny_of_eq (a := (x.cps, 0)) rfl ?_)
  dsimp only
  rw [h6, if_neg (by decide), if_neg (by decide)]
  refine wpAny_bind (wpAny_of_eq (a := ()) rfl ?_)
  rw [h5]
  refine wpAny_bind ?_
  unfold reRawItems
  refine wpAny_bind (wpAny_seqItems hC hcd ?_)
  refine wpAny_pure (wpAny_pure ?_)
  have e1 : min (Int.toNat 0) x.cps.size = 0 := by simp
  dsimp only
  simp only [Option.getD_some]
  rw [hcode, h2, e1, Nat.min_eq_right (by omega)]
  unfold reAnswer
  refine wpAny_bind (run_no hno ?_)
  exact wpAny_pure ⟨_, rfl, h⟩
end
end
/-! 40way -/
theorem perm_sumI {l l' : List Int} (h : l.Perm l') : l.sum = l'.sum := by
  induction h with
  | nil => rfl
  | cons x _ ih => rw [List.sum_cons, List.sum_cons, ih]
  | swap x y l => simp only [List.sum_cons]; omega
  | trans _ _ i j => rw [i, j]
/-- the ways to put a list's weights together two by two, and what such a way costs -/
inductive Way {α : Type} (wt : α → Int) : List α → Int → Prop
  | leaf (a : α) : Way wt [a] 0
  | node {l A B : List α} {s t : Int} : Way wt A s → Way wt B t → l.Perm (A ++ B) → Way wt l ((l.map wt).sum + s + t)
theorem Way.ne {α : Type} {wt : α → Int} {l : List α} {s : Int} (h : Way wt l s) : 0 < l.length := by
  induction h with
  | leaf a => simp
  | node _ _ p i j => rw [p.length_eq, List.length_append]; omega
theorem Way.perm {α : Type} {wt : α → Int} {l l' : List α} {s : Int} (h : Way wt l s) (p : l.Perm l') : Way wt l' s := by
  cases h with
  | leaf a => rw [List.singleton_perm.mp p |>.symm]; exact .leaf a
  | node hA hB q =>
    rw [perm_sumI (p.map wt)]
    exact .node hA hB (p.symm.trans q)
theorem Way.map {α β : Type} {wt : β → Int} {wa : α → Int} {f : α → β} (hw : ∀ a, wa a = wt (f a)) {l : List α} {s : Int} (h : Way wa l s) : Way wt (l.map f) s := by
  have e : wa = wt ∘ f := funext hw
  subst e
  induction h with
  | leaf a => exact .leaf _
  | node hA hB q i j =>
    have := Way.node i j ((q.map f).trans (by rw [List.map_append]))
    rw [List.map_map] at this
    exact this
theorem perm_map_back {α β : Type} {f : α → β} {m k : List β} (p : m.Perm k) : ∀ l : List α, k = l.map f → ∃ l' : List α, l'.Perm l ∧ m = l'.map f := by
  induction p with
  | nil => intro l e; exact ⟨l, .refl _, e⟩
  | cons x _ ih =>
    intro l e
    cases l with
    | nil => cases e
    | cons a l =>
      rw [List.map_cons] at e
      obtain ⟨e1, e2⟩ := List.cons.inj e
      obtain ⟨l', q, e'⟩ := ih l e2
      exact ⟨a :: l', q.cons a, by rw [List.map_cons, ← e', e1]⟩
  | swap x y r =>
    intro l e
    match l, e with
    | a :: b :: l, e =>
      simp only [List.map_cons, List.cons.injEq] at e
      obtain ⟨e1, e2, e3⟩ := e
      exact ⟨b :: a :: l, .swap a b l, by simp [e1, e2, e3]⟩
  | trans _ _ i j =>
    intro l e
    obtain ⟨l1, q1, e1⟩ := j l e
    obtain ⟨l2, q2, e2⟩ := i l1 e1
    exact ⟨l2, q2.trans q1, e2⟩
theorem Way.unmap {α β : Type} {wt : β → Int} {wa : α → Int} {f : α → β} (hw : ∀ a, wa a = wt (f a)) {m : List β} {s : Int} (h : Way wt m s) : ∀ l : List α, m = l.map f → Way wa l s := by
  induction h with
  | leaf a =>
    intro l e
    match l, e with
    | [x], e => exact .leaf x
  | node hA hB q i j =>
    intro l e
    obtain ⟨l', p', e'⟩ := perm_map_back q.symm l e
    obtain ⟨A, B, rfl, eA, eB⟩ := List.map_eq_append_iff.mp e'.symm
    have := Way.node (i A eA.symm) (j B eB.symm) p'.symm
    subst e
    rw [List.map_map]
    have e2 : wt ∘ f = wa := funext fun a => (hw a).symm
    rw [e2]
    exact this
abbrev WayI := Way (fun x : Int => x)
theorem Way.split {l : List Int} {s : Int} (h : WayI l s) (h2 : 2 ≤ l.length) : ∃ A B sA sB, WayI A sA ∧ WayI B sB ∧ l.Perm (A ++ B) ∧ A.length ≤ B.length ∧ s = l.sum + sA + sB := by
  cases h with
  | leaf a => simp at h2
  | @node _ A B sA sB hA hB q =>
    rw [List.map_id'] 
    by_cases hl : A.length ≤ B.length
    · exact ⟨A, B, sA, sB, hA, hB, q, hl, rfl⟩
    · exact ⟨B, A, sB, sA, hB, hA, q.trans List.perm_append_comm, by omega, by omega⟩
theorem way1 {l : List Int} {s : Int} (h : WayI l s) (hl : l.length = 1) : s = 0 := by
  cases h with
  | leaf a => rfl
  | node hA hB q =>
    have := hA.ne; have := hB.ne; have := q.length_eq
    rw [List.length_append] at this; omega
theorem way2 {l : List Int} {s : Int} (h : WayI l s) (hl : l.length = 2) : s = l.sum := by
  obtain ⟨A, B, sA, sB, hA, hB, q, hab, rfl⟩ := h.split (by omega)
  have h1 := hA.ne
  have h2 := q.length_eq
  rw [List.length_append] at h2
  rw [way1 hA (by omega), way1 hB (by omega)]; omega
theorem way3 {l : List Int} {s : Int} (h : WayI l s) (hl : l.length = 3) : ∃ x y z, l.Perm [x, y, z] ∧ s = l.sum + (x + y) := by
  obtain ⟨A, B, sA, sB, hA, hB, q, hab, rfl⟩ := h.split (by omega)
  have h1 := hA.ne
  have h2 := q.length_eq
  rw [List.length_append] at h2
  have hA1 : A.length = 1 := by omega
  have hB2 : B.length = 2 := by omega
  rw [way1 hA hA1, way2 hB hB2]
  match A, B, hA1, hB2 with
  | [z], [x, y], _, _ => exact ⟨x, y, z, q.trans List.perm_append_comm, by simp⟩
theorem way4 {l : List Int} {s : Int} (h : WayI l s) (hl : l.length = 4) : (∃ x y z t, l.Perm [x, y, z, t] ∧ s = l.sum + (x + y + z) + (x + y)) ∨ s = 2 * l.sum := by
  obtain ⟨A, B, sA, sB, hA, hB, q, hab, rfl⟩ := h.split (by omega)
  have h1 := hA.ne
  have h2 := q.length_eq
  rw [List.length_append] at h2
  rcases (by omega : A.length = 1 ∨ A.length = 2) with hA1 | hA1
  · have hB2 : B.length = 3 := by omega
    obtain ⟨x, y, z, p, rfl⟩ := way3 hB hB2
    rw [way1 hA hA1, perm_sumI p]
    match A, hA1 with
    | [t], _ => exact .inl ⟨x, y, z, t, (q.trans (p.append_left [t])).trans List.perm_append_comm, by simp; omega⟩
  · have hB2 : B.length = 2 := by omega
    right
    rw [way2 hA hA1, way2 hB hB2, perm_sumI q, List.sum_append]; omega
theorem way5 {l : List Int} {s : Int} (h : WayI l s) (hl : l.length = 5) : ∃ x y z t u, l.Perm [x, y, z, t, u] ∧ (s = l.sum + (x + y + z + t) + (x + y + z) + (x + y) ∨ s = l.sum + 2 * (x + y + z + t) ∨ s = 2 * l.sum + (x + y)) := by
  obtain ⟨A, B, sA, sB, hA, hB, q, hab, rfl⟩ := h.split (by omega)
  have h1 := hA.ne
  have h2 := q.length_eq
  rw [List.length_append] at h2
  rcases (by omega : A.length = 1 ∨ A.length = 2) with hA1 | hA1
  · have hB2 : B.length = 4 := by omega
    rw [way1 hA hA1]
    match A, hA1 with
    | [u], _ =>
      rcases way4 hB hB2 with ⟨x, y, z, t, p, rfl⟩ | rfl
      · exact ⟨x, y, z, t, u, (q.trans (p.append_left [u])).trans List.perm_append_comm, .inl (by rw [perm_sumI p]; simp; omega)⟩
      · match B, hB2 with
        | [x, y, z, t], _ => exact ⟨x, y, z, t, u, q.trans List.perm_append_comm, .inr (.inl (by simp; omega))⟩
  · have hB2 : B.length = 3 := by omega
    obtain ⟨x, y, z, p, rfl⟩ := way3 hB hB2
    have e := perm_sumI (q.trans (p.append_left A))
    rw [way2 hA hA1, perm_sumI p]
    match A, hA1 with
    | [t, u], _ => exact ⟨x, y, z, t, u, (q.trans (p.append_left [t, u])).trans List.perm_append_comm, .inr (.inr (by rw [e]; simp; omega))⟩
theorem way2c (x y : Int) : WayI [x, y] (x + y) := by
  have := Way.node (l := [x, y]) (wt := fun x : Int => x) (.leaf x) (.leaf y) (.refl _)
  simpa using this
theorem way3c (x y z : Int) : WayI [x, y, z] (x + y + z + (x + y)) := by
  have := Way.node (l := [x, y, z]) (wt := fun x : Int => x) (way2c x y) (.leaf z) (.refl _)
  simpa [Int.add_assoc] using this
theorem way4c (x y z t : Int) : WayI [x, y, z, t] (x + y + z + t + (x + y + z) + (x + y)) := by
  have := Way.node (l := [x, y, z, t]) (wt := fun x : Int => x) (way3c x y z) (.leaf t) (.refl _)
  simpa [Int.add_assoc] using this
theorem way4d (x y z t : Int) : WayI [x, y, z, t] (2 * (x + y + z + t)) := by
  have := Way.node (l := [x, y, z, t]) (wt := fun x : Int => x) (way2c x y) (way2c z t) (.refl _)
  have e : 2 * (x + y + z + t) = ([x, y, z, t].map fun x : Int => x).sum + (x + y) + (z + t) := by simp; omega
  rw [e]; exact this
theorem erase_take {x : Int} : ∀ (s : List Int) (k : Nat), s.Pairwise (· ≤ ·) → x ∈ s → (s.take (k + 1)).sum ≤ x + ((s.erase x).take k).sum
  | [], _, _, h => nomatch h
  | y :: s, k, hp, h => by
    rw [List.pairwise_cons] at hp
    by_cases e : y = x
    · subst e; rw [List.erase_cons_head]; simp
    · have hx : x ∈ s := (List.mem_cons.mp h).resolve_left fun e' => e e'.symm
      rw [List.erase_cons_tail (by simpa using e)]
      cases k with
      | zero => have := hp.1 x hx; simp; omega
      | succ k =>
        have := erase_take s k hp.2 hx
        simp only [List.take_succ_cons, List.sum_cons] at this ⊢
        omega
theorem pre_le : ∀ (l s : List Int) (k : Nat), s.Pairwise (· ≤ ·) → l.Perm s → (s.take k).sum ≤ (l.take k).sum
  | [], s, k, _, p => by rw [List.nil_perm.mp p]; exact Int.le_refl _
  | x :: l, s, k, hs, p => by
    have hx : x ∈ s := p.subset (.head _)
    have q : l.Perm (s.erase x) := by have := p.erase x; rwa [List.erase_cons_head] at this
    cases k with
    | zero => simp
    | succ k =>
      have h1 := erase_take s k hs hx
      have h2 := pre_le l (s.erase x) k (hs.sublist List.erase_sublist) q
      simp only [List.take_succ_cons, List.sum_cons] at h2 ⊢
      omega
theorem Way.open {l : List Int} {s : Int} (h : WayI l s) : ∀ (a b : Int) (r : List Int), l.Perm ((a + b) :: r) → WayI (a :: b :: r) (a + b + s) := by
  induction h with
  | leaf x =>
    intro a b r p
    have e := List.singleton_perm.mp p
    injection e with e1 e2
    subst e2
    have := way2c a b
    simpa using this
  | @node l A B sA sB hA hB q i j =>
    intro a b r p
    have hm : a + b ∈ A ++ B := (p.symm.trans q).subset (.head _)
    have hs : (l.map fun x : Int => x).sum = a + b + r.sum := by rw [List.map_id', perm_sumI p]; simp
    have key : ∀ (A B : List Int) (sA sB : Int), a + b ∈ A → (∀ (a b : Int) (r : List Int), A.Perm ((a + b) :: r) → WayI (a :: b :: r) (a + b + sA)) → WayI B sB → l.Perm (A ++ B) → WayI (a :: b :: r) (a + b + (a + b + r.sum + sA + sB)) := by
      intro A B sA sB hm i hB q
      have pA : A.Perm ((a + b) :: A.erase (a + b)) := List.perm_cons_erase hm
      have := i a b _ pA
      have pr : r.Perm (A.erase (a + b) ++ B) := by
        have h1 : ((a + b) :: r).Perm ((a + b) :: (A.erase (a + b) ++ B)) := (p.symm.trans q).trans (pA.append_right B)
        exact (List.perm_cons _).mp h1
      have h3 := Way.node (l := a :: b :: r) this hB (by simpa using pr)
      have e : a + b + (a + b + r.sum + sA + sB) = (((a :: b :: r).map fun x : Int => x).sum + (a + b + sA) + sB) := by simp; omega
      rw [e]; exact h3
    rw [hs]
    rcases List.mem_append.mp hm with hm | hm
    · exact key A B sA sB hm i hB q
    · have := key B A sB sA hm j hA (q.trans List.perm_append_comm)
      have e : a + b + (a + b + r.sum + sA + sB) = a + b + (a + b + r.sum + sB + sA) := by omega
      rw [e]; exact this
/-- no way is better than what a list of places writes -/
theorem Way.lower {α : Type} {wt sv : α → Int} {N : Int} (hN : ∀ (a : α) (D : Nat), (2 : Int) ^ D * (sv a + wt a - D * wt a) ≤ N) {l : List α} {s : Int} (h : Way wt l s) : ∀ D : Nat, (2 : Int) ^ D * ((l.map sv).sum + (l.map wt).sum - D * (l.map wt).sum - s) ≤ N := by
  induction h with
  | leaf a => intro D; have := hN a D; simpa using this
  | @node l A B sA sB hA hB q i j =>
    intro D
    have h1 := i (D + 1)
    have h2 := j (D + 1)
    rw [perm_sumI (q.map sv), perm_sumI (q.map wt), List.map_append, List.map_append, List.sum_append, List.sum_append]
    generalize (A.map sv).sum = a1 at *
    generalize (A.map wt).sum = a2 at *
    generalize (B.map sv).sum = b1 at *
    generalize (B.map wt).sum = b2 at *
    rw [Int.pow_succ, Int.mul_assoc, Int.mul_left_comm] at h1 h2
    push_cast at h1 h2
    have e : 2 ^ D * (a1 + b1 + (a2 + b2) - ↑D * (a2 + b2) - (a2 + b2 + sA + sB)) = 2 ^ D * (a1 + a2 - (↑D + 1) * a2 - sA) + 2 ^ D * (b1 + b2 - (↑D + 1) * b2 - sB) := by
      rw [← Int.mul_add]; congr 1
      simp only [Int.add_mul, Int.mul_add, Int.one_mul]; omega
    rw [e]
    omega
local macro_rules | `(tactic| k_ne) => `(tactic| (refine neN ?_; (try dsimp only); first | assumption | (refine Ne.symm ?_; assumption) | (refine Nat.ne_of_lt ?_; assumption) | (refine Nat.ne_of_gt ?_; assumption)))
local macro_rules | `(tactic| k_all) => `(tactic| assumption)
local macro_rules | `(tactic| walk_at "mar") => `(tactic| first | omega | ((simp only [List.length_set, List.length_dropLast, List.length_append, List.length_cons, List.length_nil, List.length_reverse, List.length_map, List.length_replicate, List.length_range]); omega))
local macro_rules | `(tactic| walk_at "setItem ref int") => `(tactic| (k_here; with_unfolding_all refine' set_ints ?k1 ?k2 ?k3 ?k4 ?k5 ?k6 ?k7 ?_; (case k1 => assumption); (case k2 => assumption); (case k3 => assumption); (case k4 => k_upd); (case k5 => walk_at "mar"); (case k6 => walk_at "mar"); (case k7 => walk_at "mar"); intro _ _ _ _; (try k_sweep)))
local macro_rules | `(tactic| walk_at "mguard") => `(tactic| ((fail_if_success (with_reducible first | show wpAny _ _ (exec (Stmt.While _ _ _ _) _) _ _ _ | show wpAny _ _ (exec (Stmt.For _ _ _ _ _) _) _ _ _ | show wpAny _ _ (call (Value.ref _) _ _) _ _ _ | show wpAny _ _ (pyIter _) _ _ _ | show wpAny _ _ (eval (Expr.ListComp _ _ _ _) _) _ _ _ | show wpAny _ _ (exec (Stmt.Assign _ (Expr.ListComp _ _ _ _) _) _) _ _ _)); (with_reducible show wpAny _ _ _ _ _ _)))
local macro_rules | `(tactic| walk_at "eval Name") => `(tactic| (k_dflt (first
  | (refine' nameX_L (by assumption) (by rfl) ?_ rfl rfl (by decide); k_whole)
  | (refine' nameX_K (by assumption) (by assumption) (by k_asm) (by k_is) ?_ rfl rfl (by decide); k_whole)
  | (refine' nameX_C (by assumption) rfl (by k_mem) (by assumption) ?_ rfl rfl (by decide); k_whole)
  | (refine' nmB_local (by assumption) (by assumption) (by assumption) ?_ rfl rfl (by decide); k_whole)
  | (refine' nmB_cell (by assumption) (by assumption) rfl ?_ rfl rfl (by decide); k_whole)
  | (refine' nmB_glob (by assumption) (by assumption) (by assumption) rfl (by k_is) ?_ rfl rfl (by decide); k_whole)
  | (refine' nmB_built (by assumption) (by assumption) (by assumption) rfl rfl (by k_is) (by boot_fast) (by decide) ?_ rfl rfl (by decide); k_whole))))
local macro_rules | `(tactic| walk_at "mstep") => `(tactic| first
  | ((with_reducible show wpAny _ _ (storeName _ _ _) _ _ _); (try dsimp only); walk1)
  | (walk_at "mguard"; walk1)
  | (dsimp only; walk_at "mguard"; walk1)
  | ((with_reducible show (if _ then _ else _)); walk1)
  | ((with_reducible show Frag.In _ _ ∧ _); refine ⟨by k_in, ?_⟩))
/-! 02heap -/
noncomputable def sdF (xs : List Int) (sp : Nat) (pos : Nat) (v : Int) : List Int :=
  if h : sp < pos then
    if v < xs.getD ((pos - 1) / 2) 0 then sdF (xs.set pos (xs.getD ((pos - 1) / 2) 0)) sp ((pos - 1) / 2) v
    else xs.set pos v
  else xs.set pos v
termination_by pos
decreasing_by omega

inductive SdJ (a : Addr) (n : Nat) (xs : List Int) (sp pos : Int) (t1 : Tok) (c : Nat) (m : Str → Option Value) (news : List (Addr × Obj)) : Prop
  | mk (p : Int) (ys : List Int) (its' : Array Value) (tp tv : Tok) (e : c = p.toNat) (h0 : 0 ≤ p) (hm : Has m [(Str.ofString "heap", .ref a), (Str.ofString "startpos", .int sp t1), (Str.ofString "pos", .int p tp), (Str.ofString "newitem", .int (xs.getD pos.toNat 0) tv)]) (hn : news = [(a, listOf its' n)]) (hI : IntsAre its'.toList ys) (hl : ys.length = xs.length) (hp : p < ys.length) (hs : sdF ys sp.toNat p.toNat (xs.getD pos.toNat 0) = sdF xs sp.toNat pos.toNat (xs.getD pos.toNat 0))
set_option maxHeartbeats 4000000 in
theorem siftdown_spec (w : World) {mean mg mb} {A : Around} {s : Shared} {g : Heap} (G : Gd w mean mg mb g) (r : Room 1 A) (kp : ∀ b o, g.get? b = some o → s.heap.get? b = some o) (hsz : g.objs.size ≤ s.heap.objs.size)
    {a : Addr} {its : Array Value} {n : Nat} {xs : List Int} (ha : s.heap.get? a = some (listOf its n)) (hg : g.get? a = none) (hI : IntsAre its.toList xs) (hx : xs.length < 2 ^ 62)
    (sp pos : Int) (hs0 : 0 ≤ sp) (hp0 : 0 ≤ pos) (hp : pos < xs.length) (t1 t2 : Tok) (E : Value → Shared → Prop) :
    wpAny (model pg w) A (call (.ref 96) [.ref a, .int sp t1, .int pos t2]) (fun y s' => KeepsG g s s' ∧ ∃ its', s'.heap.get? a = some (listOf its' n) ∧ IntsAre its'.toList (sdF xs sp.toNat pos.toNat (xs.getD pos.toNat 0))) E s := by
  have KX := G.X
  have KT := G.T
  refine wpAny_call ?_
  refine enter (news := [(a, listOf its n)]) [(Str.ofString "heap", .ref a), (Str.ofString "startpos", .int sp t1), (Str.ofString "pos", .int pos t2)] KX KT.nolimit kp hsz (by intro p hp; rw [List.mem_singleton.mp hp]; exact ⟨ha, hg⟩) (by k_dflt k_is) (by k_dflt k_is) r.lt (BindsTo.of_eq rfl) (locs rfl) ?_ (by decide) rfl rfl rfl
  intro L h₁ tk F N kp' hL
  (try dsimp only)
  ((repeat' (first | (k_here; (with_reducible show wpAny _ _ (call (Value.builtin "len") [Value.ref _]) _ _ _); with_unfolding_all refine' len_ints ?k1 ?k2 ?k3 ?k4 ?_; (case k1 => assumption); (case k2 => k_mem); (case k3 => assumption); (case k4 => walk_at "mar")) | ((with_reducible refine rshift1 ?_)) | walk_at "mstep")); (all_goals (try dsimp only)))
  rename Fr _ _ _ _ => F
  rename News _ _ _ _ => N
  rename IntsAre _ _ => hI
  refine While_own (SdJ a n xs sp pos t1) F N
    ⟨pos, xs, its, _, _, rfl, by omega, .cons rfl (.cons rfl (.cons rfl (.cons rfl .nil))), rfl, hI, rfl, by omega, rfl⟩ ?_ PassesOwn.never
  clear F N hI
  intro R0 c m₁ news₁ h₁ tk₁ hR F N
  rintro ⟨p, ys, its', tp, tv, rfl, hp0, hm, rfl, hI, hlen, hp', hsd⟩
  obtain ⟨u, rfl⟩ := hm.open
  ((repeat' (first | (k_here; (with_reducible show wpAny _ _ (call (Value.builtin "len") [Value.ref _]) _ _ _); with_unfolding_all refine' len_ints ?k1 ?k2 ?k3 ?k4 ?_; (case k1 => assumption); (case k2 => k_mem); (case k3 => assumption); (case k4 => walk_at "mar")) | ((with_reducible refine rshift1 ?_)) | walk_at "mstep")); (all_goals (try dsimp only)))
  all_goals (try refine hR _ _ ?_)
  all_goals (try dsimp only [WhileStep2])
  all_goals (((repeat' (first | (k_here; (with_reducible show wpAny _ _ (call (Value.builtin "len") [Value.ref _]) _ _ _); with_unfolding_all refine' len_ints ?k1 ?k2 ?k3 ?k4 ?_; (case k1 => assumption); (case k2 => k_mem); (case k3 => assumption); (case k4 => walk_at "mar")) | ((with_reducible refine rshift1 ?_)) | walk_at "mstep")); (all_goals (try dsimp only))))
  · rename Fr _ _ _ _ => F
    rename News _ _ _ _ => N
    rename IntsAre (Array.toList (Array.setIfInBounds _ _ _)) _ => hI2
    refine ⟨_, _, _, _, ((p - 1) / 2).toNat, rfl, F, N, by omega, (p - 1) / 2, _, _, _, _, rfl, by omega, .cons rfl (.cons rfl (.cons rfl (.cons rfl .nil))), rfl, hI2, by simp [hlen], by simp; omega, ?_⟩
    rw [← hsd]
    conv => rhs; rw [sdF]
    have e1 : ((p - 1) / 2).toNat = (p.toNat - 1) / 2 := by omega
    rw [← e1, dif_pos (by omega), if_pos (by assumption)]
  · rename Fr _ _ _ _ => F
    rename News _ _ _ _ => N
    rename IntsAre (Array.toList (Array.setIfInBounds _ _ _)) _ => hI2
    refine ⟨KeepsG.of_fr F, _, N.get (.head _), ?_⟩
    have e1 : ((p - 1) / 2).toNat = (p.toNat - 1) / 2 := by omega
    rw [← hsd, sdF, ← e1, dif_pos (by omega), if_neg (by assumption)]
    exact hI2
  · rename Fr _ _ _ _ => F
    rename News _ _ _ _ => N
    rename IntsAre (Array.toList (Array.setIfInBounds _ _ _)) _ => hI2
    refine ⟨KeepsG.of_fr F, _, N.get (.head _), ?_⟩
    rw [← hsd, sdF, dif_neg (by omega)]
    exact hI2

noncomputable def suC (xs : List Int) (pos : Nat) : Nat := if 2 * pos + 2 < xs.length ∧ ¬ xs.getD (2 * pos + 1) 0 < xs.getD (2 * pos + 2) 0 then 2 * pos + 2 else 2 * pos + 1
noncomputable def suL (xs : List Int) (pos : Nat) : List Int × Nat :=
  if h : 2 * pos + 1 < xs.length then suL (xs.set pos (xs.getD (suC xs pos) 0)) (suC xs pos) else (xs, pos)
termination_by xs.length - pos
decreasing_by
  simp only [List.length_set]
  have : pos < suC xs pos := by unfold suC; split <;> omega
  omega
noncomputable def suF (xs : List Int) (pos : Nat) : List Int := sdF ((suL xs pos).1.set (suL xs pos).2 (xs.getD pos 0)) pos (suL xs pos).2 (xs.getD pos 0)

inductive SuJ (a : Addr) (n : Nat) (xs : List Int) (pos : Int) (t2 : Tok) (c : Nat) (m : Str → Option Value) (news : List (Addr × Obj)) : Prop
  | mk (p : Int) (ys : List Int) (its' : Array Value) (tp tv te tc : Tok) (e : c = ys.length - p.toNat) (h0 : 0 ≤ p) (hm : Has m [(Str.ofString "heap", .ref a), (Str.ofString "startpos", .int pos t2), (Str.ofString "pos", .int p tp), (Str.ofString "newitem", .int (xs.getD pos.toNat 0) tv), (Str.ofString "endpos", .int xs.length te), (Str.ofString "childpos", .int (2 * p + 1) tc)]) (hn : news = [(a, listOf its' n)]) (hI : IntsAre its'.toList ys) (hl : ys.length = xs.length) (hp : p < ys.length) (hs : suL ys p.toNat = suL xs pos.toNat)
set_option maxHeartbeats 4000000 in
theorem siftup_spec (w : World) {mean mg mb} {A : Around} {s : Shared} {g : Heap} (G : Gd w mean mg mb g) (r : Room 2 A) (kp : ∀ b o, g.get? b = some o → s.heap.get? b = some o) (hsz : g.objs.size ≤ s.heap.objs.size)
    {a : Addr} {its : Array Value} {n : Nat} {xs : List Int} (ha : s.heap.get? a = some (listOf its n)) (hg : g.get? a = none) (hI : IntsAre its.toList xs) (hx : xs.length < 2 ^ 60)
    (pos : Int) (hp0 : 0 ≤ pos) (hp : pos < xs.length) (t2 : Tok) (E : Value → Shared → Prop) :
    wpAny (model pg w) A (call (.ref 103) [.ref a, .int pos t2]) (fun y s' => KeepsG g s s' ∧ ∃ its', s'.heap.get? a = some (listOf its' n) ∧ IntsAre its'.toList (suF xs pos.toNat)) E s := by
  have KX := G.X
  have KT := G.T
  refine wpAny_call ?_
  refine enter (news := [(a, listOf its n)]) [(Str.ofString "heap", .ref a), (Str.ofString "pos", .int pos t2)] KX KT.nolimit kp hsz (by intro p hp; rw [List.mem_singleton.mp hp]; exact ⟨ha, hg⟩) (by k_dflt k_is) (by k_dflt k_is) r.lt (BindsTo.of_eq rfl) (locs rfl) ?_ (by decide) rfl rfl rfl
  intro L h₁ tk F N kp' hL
  (try dsimp only)
  ((repeat' (first | (k_here; (with_reducible show wpAny _ _ (call (Value.builtin "len") [Value.ref _]) _ _ _); with_unfolding_all refine' len_ints ?k1 ?k2 ?k3 ?k4 ?_; (case k1 => assumption); (case k2 => k_mem); (case k3 => assumption); (case k4 => walk_at "mar")) | ((with_reducible refine rshift1 ?_)) | walk_at "mstep")); (all_goals (try dsimp only)))
  rename Fr _ _ _ _ => F
  rename News _ _ _ _ => N
  rename IntsAre _ _ => hI
  refine While_own (SuJ a n xs pos t2) F N
    ⟨pos, xs, its, _, _, _, _, rfl, by omega, .cons rfl (.cons rfl (.cons rfl (.cons rfl (.cons rfl (.cons rfl .nil))))), rfl, hI, rfl, by omega, rfl⟩ ?_ PassesOwn.never
  clear F N hI
  intro R0 c m₁ news₁ h₁ tk₁ hR F N
  rintro ⟨p, ys, its', tp, tv, te, tc, rfl, hp0, hm, rfl, hI, hlen, hp', hsd⟩
  obtain ⟨u, rfl⟩ := hm.open
  ((repeat' (first | (k_here; (with_reducible show wpAny _ _ (call (Value.builtin "len") [Value.ref _]) _ _ _); with_unfolding_all refine' len_ints ?k1 ?k2 ?k3 ?k4 ?_; (case k1 => assumption); (case k2 => k_mem); (case k3 => assumption); (case k4 => walk_at "mar")) | ((with_reducible refine rshift1 ?_)) | walk_at "mstep")); (all_goals (try dsimp only)))
  all_goals (try refine hR _ _ ?_)
  all_goals (try dsimp only [WhileStep2])
  all_goals (((repeat' (first | (k_here; (with_reducible show wpAny _ _ (call (Value.builtin "len") [Value.ref _]) _ _ _); with_unfolding_all refine' len_ints ?k1 ?k2 ?k3 ?k4 ?_; (case k1 => assumption); (case k2 => k_mem); (case k3 => assumption); (case k4 => walk_at "mar")) | ((with_reducible refine rshift1 ?_)) | walk_at "mstep")); (all_goals (try dsimp only))))
  · rename Fr _ _ _ _ => F
    rename News _ _ _ _ => N
    rename IntsAre (Array.toList (Array.setIfInBounds _ _ _)) _ => hI2
    have e1 : (2 * p + 1).toNat = 2 * p.toNat + 1 := by omega
    have e2 : (2 * p + 1 + 1).toNat = 2 * p.toNat + 2 := by omega
    have hc : suC ys p.toNat = (2 * p + 1).toNat := by
      unfold suC
      rw [← e1, ← e2]
      rw [if_neg (fun z => z.2 (by assumption))]
    refine ⟨_, _, _, _, _, rfl, F, N, ?lt, 2 * p + 1, _, _, _, _, _, _, rfl, by omega, .cons rfl (.cons rfl (.cons rfl (.cons rfl (.cons rfl (.cons rfl .nil))))), rfl, hI2, by simp [hlen], by simp; omega, ?eq⟩
    case lt => simp; omega
    case eq =>
      rw [← hsd]
      conv => rhs; rw [suL]
      rw [dif_pos (by omega), hc]
  · rename Fr _ _ _ _ => F
    rename News _ _ _ _ => N
    rename IntsAre (Array.toList (Array.setIfInBounds _ _ _)) _ => hI2
    have e1 : (2 * p + 1).toNat = 2 * p.toNat + 1 := by omega
    have e2 : (2 * p + 1 + 1).toNat = 2 * p.toNat + 2 := by omega
    have hc : suC ys p.toNat = (2 * p + 1 + 1).toNat := by
      unfold suC
      rw [← e1, ← e2]
      rw [if_pos ⟨by omega, by assumption⟩]
    refine ⟨_, _, _, _, _, rfl, F, N, ?lt, 2 * p + 1 + 1, _, _, _, _, _, _, rfl, by omega, .cons rfl (.cons rfl (.cons rfl (.cons rfl (.cons rfl (.cons rfl .nil))))), rfl, hI2, by simp [hlen], by simp; omega, ?eq⟩
    case lt => simp; omega
    case eq =>
      rw [← hsd]
      conv => rhs; rw [suL]
      rw [dif_pos (by omega), hc]
  · rename Fr _ _ _ _ => F
    rename News _ _ _ _ => N
    rename IntsAre (Array.toList (Array.setIfInBounds _ _ _)) _ => hI2
    have e1 : (2 * p + 1).toNat = 2 * p.toNat + 1 := by omega
    have e2 : (2 * p + 1 + 1).toNat = 2 * p.toNat + 2 := by omega
    have hc : suC ys p.toNat = (2 * p + 1).toNat := by
      unfold suC
      rw [← e1, ← e2]
      rw [if_neg (fun z => absurd z.1 (by omega))]
    refine ⟨_, _, _, _, _, rfl, F, N, ?lt, 2 * p + 1, _, _, _, _, _, _, rfl, by omega, .cons rfl (.cons rfl (.cons rfl (.cons rfl (.cons rfl (.cons rfl .nil))))), rfl, hI2, by simp [hlen], by simp; omega, ?eq⟩
    case lt => simp; omega
    case eq =>
      rw [← hsd]
      conv => rhs; rw [suL]
      rw [dif_pos (by omega), hc]
  · rename Fr _ _ _ _ => F
    rename News _ _ _ _ => N
    rename IntsAre (Array.toList (Array.setIfInBounds _ _ _)) _ => hI2
    refine useG (siftdown_spec w (G.hide F.keep hg) r.deeper (fun b o e => Heap.of_hide e) (Nat.le_of_eq (Heap.hide_size _ _)) (N.get (.head _)) (Heap.hide_self _ _) hI2 (by simp; omega) _ _ (by omega) (by omega) (by simp; omega) _ _ _) fun y h2 tk2 k2 hq => ?_
    obtain ⟨its2, ha2, hI3⟩ := hq
    obtain ⟨F, N⟩ := after1F F N (UpdF.head (fun _ z => nomatch z)) k2 ha2
    ((repeat' (first | (k_here; (with_reducible show wpAny _ _ (call (Value.builtin "len") [Value.ref _]) _ _ _); with_unfolding_all refine' len_ints ?k1 ?k2 ?k3 ?k4 ?_; (case k1 => assumption); (case k2 => k_mem); (case k3 => assumption); (case k4 => walk_at "mar")) | ((with_reducible refine rshift1 ?_)) | walk_at "mstep")); (all_goals (try dsimp only)))
    refine ⟨KeepsG.of_fr F, _, ha2, ?_⟩
    have e0 : suL xs pos.toNat = (ys, p.toNat) := by
      rw [← hsd, suL, dif_neg (by omega)]
    unfold suF
    rw [e0]
    have e1 : (ys.set p.toNat (xs.getD pos.toNat 0)).getD p.toNat 0 = xs.getD pos.toNat 0 := by
      rw [List.getD, List.getElem?_set_self (by omega)]; rfl
    rw [e1] at hI3
    exact hI3
/-! 03pop -/
set_option maxHeartbeats 4000000 in
theorem heapreplace_spec (w : World) {mean mg mb} {A : Around} {s : Shared} {g : Heap} (G : Gd w mean mg mb g) (r : Room 3 A) (kp : ∀ b o, g.get? b = some o → s.heap.get? b = some o) (hsz : g.objs.size ≤ s.heap.objs.size)
    {a : Addr} {its : Array Value} {n : Nat} {xs : List Int} (ha : s.heap.get? a = some (listOf its n)) (hg : g.get? a = none) (hI : IntsAre its.toList xs) (hx : xs.length < 2 ^ 20) (h0 : 0 < xs.length) (v : Int) (t2 : Tok) (E : Value → Shared → Prop) :
    wpAny (model pg w) A (call (.ref 82) [.ref a, .int v t2]) (fun y s' => KeepsG g s s' ∧ ∃ its', s'.heap.get? a = some (listOf its' n) ∧ IntsAre its'.toList (suF (xs.set 0 v) 0)) E s := by
  have KX := G.X
  have KT := G.T
  refine wpAny_call ?_
  refine enter (news := [(a, listOf its n)]) [(Str.ofString "heap", .ref a), (Str.ofString "item", .int v t2)] KX KT.nolimit kp hsz (by intro p hp; rw [List.mem_singleton.mp hp]; exact ⟨ha, hg⟩) (by k_dflt k_is) (by k_dflt k_is) r.lt (BindsTo.of_eq rfl) (locs rfl) ?_ (by decide) rfl rfl rfl
  intro L h₁ tk F N kp' hL
  (try dsimp only)
  ((repeat' (first | (k_here; (with_reducible show wpAny _ _ (call (Value.builtin "list.pop") [Value.ref _]) _ _ _); with_unfolding_all refine' pop_ints ?k1 ?k2 ?k3 ?k4 ?k5 ?k6 ?_; (case k1 => assumption); (case k2 => assumption); (case k3 => assumption); (case k4 => k_upd); (case k5 => walk_at "mar"); (case k6 => (rw [PySem.sizeLine_eq]; walk_at "mar")); intro _ _ _ _ _; (try k_sweep)) | (k_here; (with_reducible show wpAny _ _ (truthy (Value.ref _)) _ _ _); with_unfolding_all refine' truthy_ints ?k1 ?k2 ?k3 ?k4 ?_; (case k1 => assumption); (case k2 => k_mem); (case k3 => assumption); (case k4 => walk_at "mar")) | (k_here; (with_reducible show wpAny _ _ (call (Value.builtin "len") [Value.ref _]) _ _ _); with_unfolding_all refine' len_ints ?k1 ?k2 ?k3 ?k4 ?_; (case k1 => assumption); (case k2 => k_mem); (case k3 => assumption); (case k4 => walk_at "mar")) | walk_at "mstep")); (all_goals (try dsimp only)))
  rename Fr _ _ _ _ => F
  rename News _ _ _ _ => N
  rename IntsAre (Array.toList (Array.setIfInBounds _ _ _)) _ => hI2
  refine useG (siftup_spec w (G.hide F.keep hg) r.deeper (fun b o e => Heap.of_hide e) (Nat.le_of_eq (Heap.hide_size _ _)) (N.get (.head _)) (Heap.hide_self _ _) hI2 (by simp; omega) _ (by omega) (by simp; omega) _ _) fun y h2 tk2 k2 hq => ?_
  obtain ⟨its2, ha2, hI3⟩ := hq
  obtain ⟨F, N⟩ := after1F F N (UpdF.head (fun _ z => nomatch z)) k2 ha2
  ((repeat' (first | (k_here; (with_reducible show wpAny _ _ (call (Value.builtin "list.pop") [Value.ref _]) _ _ _); with_unfolding_all refine' pop_ints ?k1 ?k2 ?k3 ?k4 ?k5 ?k6 ?_; (case k1 => assumption); (case k2 => assumption); (case k3 => assumption); (case k4 => k_upd); (case k5 => walk_at "mar"); (case k6 => (rw [PySem.sizeLine_eq]; walk_at "mar")); intro _ _ _ _ _; (try k_sweep)) | (k_here; (with_reducible show wpAny _ _ (truthy (Value.ref _)) _ _ _); with_unfolding_all refine' truthy_ints ?k1 ?k2 ?k3 ?k4 ?_; (case k1 => assumption); (case k2 => k_mem); (case k3 => assumption); (case k4 => walk_at "mar")) | (k_here; (with_reducible show wpAny _ _ (call (Value.builtin "len") [Value.ref _]) _ _ _); with_unfolding_all refine' len_ints ?k1 ?k2 ?k3 ?k4 ?_; (case k1 => assumption); (case k2 => k_mem); (case k3 => assumption); (case k4 => walk_at "mar")) | walk_at "mstep")); (all_goals (try dsimp only)))
  exact ⟨KeepsG.of_fr F, _, ha2, hI3⟩
set_option maxHeartbeats 4000000 in
theorem heappop_spec (w : World) {mean mg mb} {A : Around} {s : Shared} {g : Heap} (G : Gd w mean mg mb g) (r : Room 3 A) (kp : ∀ b o, g.get? b = some o → s.heap.get? b = some o) (hsz : g.objs.size ≤ s.heap.objs.size)
    {a : Addr} {its : Array Value} {n : Nat} {xs : List Int} (ha : s.heap.get? a = some (listOf its n)) (hg : g.get? a = none) (hI : IntsAre its.toList xs) (hx : xs.length < 2 ^ 20) (h0 : 0 < xs.length) (E : Value → Shared → Prop) :
    wpAny (model pg w) A (call (.ref 75) [.ref a]) (fun y s' => KeepsG g s s' ∧ (∃ t, y = .int (xs.getD 0 0) t) ∧ ∃ its', s'.heap.get? a = some (listOf its' (n + 1)) ∧ IntsAre its'.toList (if xs.length = 1 then [] else suF (xs.dropLast.set 0 (xs.getLastD 0)) 0)) E s := by
  have KX := G.X
  have KT := G.T
  refine wpAny_call ?_
  refine enter (news := [(a, listOf its n)]) [(Str.ofString "heap", .ref a)] KX KT.nolimit kp hsz (by intro p hp; rw [List.mem_singleton.mp hp]; exact ⟨ha, hg⟩) (by k_dflt k_is) (by k_dflt k_is) r.lt (BindsTo.of_eq rfl) (locs rfl) ?_ (by decide) rfl rfl rfl
  intro L h₁ tk F N kp' hL
  (try dsimp only)
  ((repeat' (first | (k_here; (with_reducible show wpAny _ _ (call (Value.builtin "list.pop") [Value.ref _]) _ _ _); with_unfolding_all refine' pop_ints ?k1 ?k2 ?k3 ?k4 ?k5 ?k6 ?_; (case k1 => assumption); (case k2 => assumption); (case k3 => assumption); (case k4 => k_upd); (case k5 => walk_at "mar"); (case k6 => (rw [PySem.sizeLine_eq]; walk_at "mar")); intro _ _ _ _ _; (try k_sweep)) | (k_here; (with_reducible show wpAny _ _ (truthy (Value.ref _)) _ _ _); with_unfolding_all refine' truthy_ints ?k1 ?k2 ?k3 ?k4 ?_; (case k1 => assumption); (case k2 => k_mem); (case k3 => assumption); (case k4 => walk_at "mar")) | (k_here; (with_reducible show wpAny _ _ (call (Value.builtin "len") [Value.ref _]) _ _ _); with_unfolding_all refine' len_ints ?k1 ?k2 ?k3 ?k4 ?_; (case k1 => assumption); (case k2 => k_mem); (case k3 => assumption); (case k4 => walk_at "mar")) | walk_at "mstep")); (all_goals (try dsimp only)))
  · rename Fr _ _ _ _ => F
    rename News _ _ _ _ => N
    rename IntsAre (Array.toList (Array.setIfInBounds _ _ _)) _ => hI2
    rename 0 < _ => hpos
    have hl : xs.dropLast.length = xs.length - 1 := by simp
    refine useG (siftup_spec w (G.hide F.keep hg) r.deeper (fun b o e => Heap.of_hide e) (Nat.le_of_eq (Heap.hide_size _ _)) (N.get (.head _)) (Heap.hide_self _ _) hI2 (by simp; omega) _ (by omega) (by simp; omega) _ _) fun y h2 tk2 k2 hq => ?_
    obtain ⟨its2, ha2, hI3⟩ := hq
    obtain ⟨F, N⟩ := after1F F N (UpdF.head (fun _ z => nomatch z)) k2 ha2
    ((repeat' (first | (k_here; (with_reducible show wpAny _ _ (call (Value.builtin "list.pop") [Value.ref _]) _ _ _); with_unfolding_all refine' pop_ints ?k1 ?k2 ?k3 ?k4 ?k5 ?k6 ?_; (case k1 => assumption); (case k2 => assumption); (case k3 => assumption); (case k4 => k_upd); (case k5 => walk_at "mar"); (case k6 => (rw [PySem.sizeLine_eq]; walk_at "mar")); intro _ _ _ _ _; (try k_sweep)) | (k_here; (with_reducible show wpAny _ _ (truthy (Value.ref _)) _ _ _); with_unfolding_all refine' truthy_ints ?k1 ?k2 ?k3 ?k4 ?_; (case k1 => assumption); (case k2 => k_mem); (case k3 => assumption); (case k4 => walk_at "mar")) | (k_here; (with_reducible show wpAny _ _ (call (Value.builtin "len") [Value.ref _]) _ _ _); with_unfolding_all refine' len_ints ?k1 ?k2 ?k3 ?k4 ?_; (case k1 => assumption); (case k2 => k_mem); (case k3 => assumption); (case k4 => walk_at "mar")) | walk_at "mstep")); (all_goals (try dsimp only)))
    have e : xs.dropLast.getD (Int.toNat 0) 0 = xs.getD 0 0 := by
      show xs.dropLast.getD 0 0 = xs.getD 0 0
      rw [List.getD, List.getD, List.getElem?_dropLast, if_pos (by omega)]
    refine ⟨KeepsG.of_fr F, ⟨_, by rw [e]⟩, _, ha2, ?_⟩
    rw [if_neg (by omega)]; exact hI3
  · rename Fr _ _ _ _ => F
    rename News _ _ _ _ => N
    rename ¬ 0 < _ => hpos
    rename IntsAre (List.toArray _).toList _ => hI2
    have hl : xs.dropLast.length = xs.length - 1 := by simp
    have e : xs.getLastD 0 = xs.getD 0 0 := by
      cases xs with
      | nil => simp at h0
      | cons x r => cases r with
        | nil => rfl
        | cons y r => simp at hpos
    refine ⟨KeepsG.of_fr F, ⟨_, by rw [e]⟩, _, N.get (.head _), ?_⟩
    rw [if_pos (by omega)]
    have : xs.dropLast = [] := List.eq_nil_of_length_eq_zero (by omega)
    rw [this] at hI2
    exact hI2
/-! 04heapify -/
theorem sdF_len : ∀ (n : Nat) (xs : List Int) (sp pos : Nat) (v : Int), pos ≤ n → (sdF xs sp pos v).length = xs.length := by
  intro n
  induction n with
  | zero => intro xs sp pos v h; rw [sdF, dif_neg (by omega), List.length_set]
  | succ n ih =>
    intro xs sp pos v h
    rw [sdF]
    split
    · split
      · rw [ih _ _ _ _ (by omega), List.length_set]
      · rw [List.length_set]
    · rw [List.length_set]
theorem suL_len : ∀ (n : Nat) (xs : List Int) (pos : Nat), xs.length - pos ≤ n → (suL xs pos).1.length = xs.length := by
  intro n
  induction n with
  | zero => intro xs pos h; rw [suL, dif_neg (by omega)]
  | succ n ih =>
    intro xs pos h
    rw [suL]
    split
    · have : pos < suC xs pos := by unfold suC; split <;> omega
      rw [ih _ _ (by rw [List.length_set]; omega), List.length_set]
    · rfl
theorem suF_len (xs : List Int) (pos : Nat) : (suF xs pos).length = xs.length := by
  unfold suF
  rw [sdF_len _ _ _ _ _ (Nat.le_refl _), List.length_set, suL_len _ _ _ (Nat.le_refl _)]
noncomputable def hfyF : Nat → List Int → List Int
  | 0, xs => xs
  | k + 1, xs => hfyF k (suF xs k)
inductive HfJ (a : Addr) (n : Nat) (xs : List Int) (k i : Nat) (m : Str → Option Value) (news : List (Addr × Obj)) : Prop
  | mk (ys : List Int) (its' : Array Value) (hm : Has m [(Str.ofString "x", .ref a)]) (hn : news = [(a, listOf its' n)]) (hI : IntsAre its'.toList ys) (hl : ys.length = xs.length) (he : hfyF (k - i) ys = hfyF k xs)
set_option maxHeartbeats 4000000 in
theorem heapify_spec (w : World) {mean mg mb} {A : Around} {s : Shared} {g : Heap} (G : Gd w mean mg mb g) (r : Room 3 A) (kp : ∀ b o, g.get? b = some o → s.heap.get? b = some o) (hsz : g.objs.size ≤ s.heap.objs.size)
    {a : Addr} {its : Array Value} {n : Nat} {xs : List Int} (ha : s.heap.get? a = some (listOf its n)) (hg : g.get? a = none) (hI : IntsAre its.toList xs) (hx : xs.length < 2 ^ 20) (E : Value → Shared → Prop) :
    wpAny (model pg w) A (call (.ref 89) [.ref a]) (fun y s' => KeepsG g s s' ∧ ∃ its', s'.heap.get? a = some (listOf its' n) ∧ IntsAre its'.toList (hfyF (xs.length / 2) xs)) E s := by
  have KX := G.X
  have KT := G.T
  refine wpAny_call ?_
  refine enter (news := [(a, listOf its n)]) [(Str.ofString "x", .ref a)] KX KT.nolimit kp hsz (by intro p hp; rw [List.mem_singleton.mp hp]; exact ⟨ha, hg⟩) (by k_dflt k_is) (by k_dflt k_is) r.lt (BindsTo.of_eq rfl) (locs rfl) ?_ (by decide) rfl rfl rfl
  intro L h₁ tk F N kp' hL
  (try dsimp only)
  ((repeat' (first | (k_here; (with_reducible show wpAny _ _ (call (Value.builtin "len") [Value.ref _]) _ _ _); with_unfolding_all refine' len_ints ?k1 ?k2 ?k3 ?k4 ?_; (case k1 => assumption); (case k2 => k_mem); (case k3 => assumption); (case k4 => walk_at "mar")) | walk_at "mstep")); (all_goals (try dsimp only)))
  refine For_invV g rfl rfl ?_ (hE := PassesOwn.never)
  ((repeat' (first | (k_here; (with_reducible show wpAny _ _ (call (Value.builtin "len") [Value.ref _]) _ _ _); with_unfolding_all refine' len_ints ?k1 ?k2 ?k3 ?k4 ?_; (case k1 => assumption); (case k2 => k_mem); (case k3 => assumption); (case k4 => walk_at "mar")) | walk_at "mstep")); (all_goals (try dsimp only)))
  rename Fr _ _ _ _ => F
  rename News _ _ _ _ => N
  rename IsRange _ _ _ _ _ _ _ _ => hr
  have hk : Int.fdiv (xs.length : Int) 2 = ((xs.length / 2 : Nat) : Int) := by
    rw [Int.fdiv_eq_ediv_of_nonneg _ (by decide)]; omega
  rw [hk] at hr
  revert hr
  refine gen_at (xs.length / 2) ?_
  intro k hK hr
  refine call_reversed_range hr (by omega) (by omega) ?_
  have hn1 := newL F
  have hn2 := newG F
  have hn3 := newN N
  obtain ⟨F, N⟩ := after0 F N (h' := _) fun b o e => Heap.get?_push_of_some (rangeIt ((k : Int) - 1) k (-1)) e
  refine wpAny_pyIter_rangeiter (x := (k : Int) - 1) (left := k) (step := -1) (Heap.get?_push_size _ rfl) ?_
  refine loopAt (Walks.range (Room.deeper r).hd _ ((k : Int) - 1) (-1) k) ?hst ?h1 ?h2 ?h3 F N (HfJ a n xs k) ?h0 ?turn ?hfg ?done
  case hst =>
    show IsRangeIter _ _ ((k : Int) - 1 + (0 : Nat) * (-1)) ((k : Int) - (0 : Nat)) (-1)
    have e : (k : Int) - 1 + ((0 : Nat) : Int) * (-1) = k - 1 := by omega
    have e' : (k : Int) - ((0 : Nat) : Int) = k := by omega
    rw [e, e']
    exact Heap.get?_push_size _ rfl
  case h1 => exact fun hb => hn1 (List.mem_singleton.mp hb)
  case h2 => exact hn2
  case h3 => exact hn3
  case h0 => exact ⟨xs, its, .cons rfl .nil, rfl, hI, rfl, rfl⟩
  case hfg => exact fun b hb => .inl (List.mem_singleton.mp hb)
  case done =>
    rintro h tk m' news' ⟨ys, its', _, rfl, hI', hl, he⟩ F N
    ((repeat' (first | (k_here; (with_reducible show wpAny _ _ (call (Value.builtin "len") [Value.ref _]) _ _ _); with_unfolding_all refine' len_ints ?k1 ?k2 ?k3 ?k4 ?_; (case k1 => assumption); (case k2 => k_mem); (case k3 => assumption); (case k4 => walk_at "mar")) | walk_at "mstep")); (all_goals (try dsimp only)))
    rw [Nat.sub_self] at he
    exact ⟨KeepsG.of_fr F, _, N.get (.head _), by rw [← he]; exact hI'⟩
  case turn =>
    clear F N hr
    intro i v m₁ news₁ h tk own R0 hR
    rintro hi ⟨t, rfl⟩ ⟨ys, its', hm, rfl, hI', hl, he⟩ hne hown F N
    obtain ⟨u, rfl⟩ := hm.open
    ((repeat' (first | (k_here; (with_reducible show wpAny _ _ (call (Value.builtin "len") [Value.ref _]) _ _ _); with_unfolding_all refine' len_ints ?k1 ?k2 ?k3 ?k4 ?_; (case k1 => assumption); (case k2 => k_mem); (case k3 => assumption); (case k4 => walk_at "mar")) | walk_at "mstep")); (all_goals (try dsimp only)))
    refine useG (siftup_spec w (G.hide F.keep hg) (Room.deeper r) (fun b o e => Heap.of_hide e) (Nat.le_of_eq (Heap.hide_size _ _)) (N.get (.head _)) (Heap.hide_self _ _) hI' (by omega) _ (by omega) (by omega) _ _) fun y h2 tk2 k2 hq => ?_
    obtain ⟨its2, ha2, hI3⟩ := hq
    have hao : ∀ p ∈ own, p.1 ≠ a := fun p hp e => hne (a, listOf its' n) (.head _) (e ▸ hown p hp)
    obtain ⟨F, N⟩ := after1F F N (UpdF.head hao) k2 ha2
    ((repeat' (first | (k_here; (with_reducible show wpAny _ _ (call (Value.builtin "len") [Value.ref _]) _ _ _); with_unfolding_all refine' len_ints ?k1 ?k2 ?k3 ?k4 ?_; (case k1 => assumption); (case k2 => k_mem); (case k3 => assumption); (case k4 => walk_at "mar")) | walk_at "mstep")); (all_goals (try dsimp only)))
    refine hR _ _ ?_
    refine ⟨_, _, _, [(a, listOf its2 n)], rfl, F, N, ?_, _, _, .cons rfl .nil, rfl, hI3, ?_, ?_⟩
    · intro p hp; rw [List.mem_singleton.mp hp]; exact hne (a, listOf its' n) (.head _)
    · rw [suF_len]; exact hl
    · rw [← he]
      obtain ⟨j, hj⟩ : ∃ j, k - i = j + 1 := ⟨k - i - 1, by omega⟩
      have e1 : k - (i + 1) = j := by omega
      have e2 : ((k : Int) - 1 + (i : Int) * -1).toNat = j := by omega
      rw [hj, e1, e2]
      rfl
/-! 05put -/
noncomputable def popF (xs : List Int) : List Int := if xs.length = 1 then [] else suF (xs.dropLast.set 0 (xs.getLastD 0)) 0
theorem popF_len (xs : List Int) (h : 0 < xs.length) : (popF xs).length = xs.length - 1 := by
  unfold popF
  split
  · simp; omega
  · rw [suF_len]; simp
noncomputable def ptL : Nat → List Int → Int → Int
  | 0, _, s => s
  | k + 1, xs, s => if 1 < xs.length then ptL k (suF ((popF xs).set 0 (xs.getD 0 0 + (popF xs).getD 0 0)) 0) (s + (xs.getD 0 0 + (popF xs).getD 0 0)) else s
theorem hfyF_len : ∀ (k : Nat) (xs : List Int), (hfyF k xs).length = xs.length
  | 0, _ => rfl
  | k + 1, xs => by rw [hfyF, hfyF_len, suF_len]
inductive PtJ (D : Addr) (xs : List Int) (c : Nat) (m : Str → Option Value) (news : List (Addr × Obj)) : Prop
  | mk (ys : List Int) (vs' : List Value) (nn : Nat) (sm : Int) (ts : Tok) (e : c = ys.length) (hm : Has m [(Str.ofString "heap", .ref D), (Str.ofString "sums", .int sm ts)]) (hn : news = [(D, listOf vs'.toArray nn)]) (hI : IntsAre vs' ys) (hl : ys.length < 2 ^ 20) (hs : ptL ys.length ys sm = ptL xs.length (hfyF (xs.length / 2) xs) 0)
set_option maxHeartbeats 4000000 in
theorem put_spec (w : World) {mean mg mb} {A : Around} {s : Shared} (G : Gd w mean mg mb s.heap) (r : Room 4 A)
    {c : Addr} {vs : List Value} {n : Nat} {xs : List Int} (hc : s.heap.get? c = some (listOf vs.toArray n)) (hI : IntsAre vs xs) (hx : xs.length < 2 ^ 20) (t1 : Tok) (E : Value → Shared → Prop) :
    wpAny (model pg w) A (call (.ref 283) [.ref c]) (fun y s' => Keeps s s' ∧ ∃ t, y = .int (ptL xs.length (hfyF (xs.length / 2) xs) 0) t) E s := by
  have KX := G.X
  have KT := G.T
  refine wpAny_call ?_
  refine enter (news := []) [(Str.ofString "counts", .ref c)] KX KT.nolimit (fun _ _ e => e) (Nat.le_refl _) (fun _ h => nomatch h) (by k_dflt k_is) (by k_dflt k_is) r.lt (BindsTo.of_eq rfl) (locs rfl) ?_ (by decide) rfl rfl rfl
  intro L h₁ tk F N kp' hL
  (try dsimp only)
  have hcl : s.heap.IsList c vs.toArray := ⟨_, hc, rfl, n, rfl⟩
  have hlen := hI.length
  ((repeat' (first | (k_here; (with_reducible show wpAny _ _ (call (Value.builtin "len") [Value.ref _]) _ _ _); with_unfolding_all refine' len_ints ?k1 ?k2 ?k3 ?k4 ?_; (case k1 => assumption); (case k2 => k_mem); (case k3 => assumption); (case k4 => walk_at "mar")) | (k_here; (with_reducible show wpAny _ _ (subscriptTail _ (PySem.Expr.Slice _ _ none _) (Value.ref _) (Value.ref _)) _ _ _); k_dflt (refine' kmk_slice_ints ?F ?N ?l ?p ?q ?i ?m rfl ?_ ?s ?t ?z; (case F => assumption); (case N => assumption); (case l => first | exact News.isList (by assumption) (by k_mem) | exact Fr.lst (by assumption) (by assumption)); (case p => kmk_part); (case q => kmk_part); (case i => assumption); (case m => first | exact kmk_all (by assumption) | exact kmk_upto (by assumption) (by omega) | exact kmk_run (by assumption) (by omega) (by omega) | exact kmk_from (by assumption) (by omega)); (case s => with_unfolding_all rfl); (case t => kmk_pure); (case z => (rw [List.size_toArray, PySem.sizeLine_eq]; omega))); intro _ _ _ _ _ _ _ hC' _; clear hC'; (try k_sweep)) | walk_at "mstep")); (all_goals (try dsimp only)))
  rename Fr _ _ _ _ => F
  rename News _ _ _ _ => N
  rename_i D ws _ _ hI2 _ _
  have hgD := N.fresh (.head _)
  refine useG (heapify_spec w (G.hide F.keep hgD) (Room.deeper r) (fun b o e => Heap.of_hide e) (Nat.le_of_eq (Heap.hide_size _ _)) (N.get (.head _)) (Heap.hide_self _ _) hI2 (by omega) _) fun y h2 tk2 k2 hq => ?_
  obtain ⟨⟨vs2⟩, ha2, hI3⟩ := hq
  obtain ⟨F, N⟩ := after1F F N (UpdF.head (fun _ z => nomatch z)) k2 ha2
  clear ha2 k2
  ((repeat' (first | (k_here; (with_reducible show wpAny _ _ (call (Value.builtin "len") [Value.ref _]) _ _ _); with_unfolding_all refine' len_ints ?k1 ?k2 ?k3 ?k4 ?_; (case k1 => assumption); (case k2 => k_mem); (case k3 => assumption); (case k4 => walk_at "mar")) | (k_here; (with_reducible show wpAny _ _ (subscriptTail _ (PySem.Expr.Slice _ _ none _) (Value.ref _) (Value.ref _)) _ _ _); k_dflt (refine' kmk_slice_ints ?F ?N ?l ?p ?q ?i ?m rfl ?_ ?s ?t ?z; (case F => assumption); (case N => assumption); (case l => first | exact News.isList (by assumption) (by k_mem) | exact Fr.lst (by assumption) (by assumption)); (case p => kmk_part); (case q => kmk_part); (case i => assumption); (case m => first | exact kmk_all (by assumption) | exact kmk_upto (by assumption) (by omega) | exact kmk_run (by assumption) (by omega) (by omega) | exact kmk_from (by assumption) (by omega)); (case s => with_unfolding_all rfl); (case t => kmk_pure); (case z => (rw [List.size_toArray, PySem.sizeLine_eq]; omega))); intro _ _ _ _ _ _ _ hC' _; clear hC'; (try k_sweep)) | walk_at "mstep")); (all_goals (try dsimp only)))
  rename Fr _ _ _ _ => F
  rename News _ _ _ _ => N
  refine While_own (PtJ D xs) F N
    ⟨_, vs2, _, _, _, rfl, .cons rfl (.cons rfl .nil), rfl, hI3, by rw [hfyF_len]; omega, by rw [hfyF_len]⟩ ?_ PassesOwn.never
  clear F N hI3 hI2
  intro R0 c m₁ news₁ h₁ tk₁ hR F N
  rintro ⟨ys, vs', nn, sm, ts, rfl, hm, rfl, hI, hlen, hsd⟩
  obtain ⟨u, rfl⟩ := hm.open
  ((repeat' (first | (k_here; (with_reducible show wpAny _ _ (call (Value.builtin "len") [Value.ref _]) _ _ _); with_unfolding_all refine' len_ints ?k1 ?k2 ?k3 ?k4 ?_; (case k1 => assumption); (case k2 => k_mem); (case k3 => assumption); (case k4 => walk_at "mar")) | (k_here; (with_reducible show wpAny _ _ (subscriptTail _ (PySem.Expr.Slice _ _ none _) (Value.ref _) (Value.ref _)) _ _ _); k_dflt (refine' kmk_slice_ints ?F ?N ?l ?p ?q ?i ?m rfl ?_ ?s ?t ?z; (case F => assumption); (case N => assumption); (case l => first | exact News.isList (by assumption) (by k_mem) | exact Fr.lst (by assumption) (by assumption)); (case p => kmk_part); (case q => kmk_part); (case i => assumption); (case m => first | exact kmk_all (by assumption) | exact kmk_upto (by assumption) (by omega) | exact kmk_run (by assumption) (by omega) (by omega) | exact kmk_from (by assumption) (by omega)); (case s => with_unfolding_all rfl); (case t => kmk_pure); (case z => (rw [List.size_toArray, PySem.sizeLine_eq]; omega))); intro _ _ _ _ _ _ _ hC' _; clear hC'; (try k_sweep)) | walk_at "mstep")); (all_goals (try dsimp only)))
  · rename (_ : Int) < _ => hgt
    have hgD := N.fresh (.head _)
    refine useG (heappop_spec w (G.hide F.keep hgD) (Room.deeper r) (fun b o e => Heap.of_hide e) (Nat.le_of_eq (Heap.hide_size _ _)) (N.get (.head _)) (Heap.hide_self _ _) hI (by omega) (by omega) _) fun y h2 tk2 k2 hq => ?_
    obtain ⟨⟨t2, rfl⟩, ⟨vs2⟩, ha2, hI3⟩ := hq
    obtain ⟨F, N⟩ := after1F F N (UpdF.head (fun _ z => nomatch z)) k2 ha2
    clear ha2 k2
    change IntsAre vs2 (popF ys) at hI3
    have hpl := popF_len ys (by omega)
    ((repeat' (first | (k_here; (with_reducible show wpAny _ _ (call (Value.builtin "len") [Value.ref _]) _ _ _); with_unfolding_all refine' len_ints ?k1 ?k2 ?k3 ?k4 ?_; (case k1 => assumption); (case k2 => k_mem); (case k3 => assumption); (case k4 => walk_at "mar")) | (k_here; (with_reducible show wpAny _ _ (subscriptTail _ (PySem.Expr.Slice _ _ none _) (Value.ref _) (Value.ref _)) _ _ _); k_dflt (refine' kmk_slice_ints ?F ?N ?l ?p ?q ?i ?m rfl ?_ ?s ?t ?z; (case F => assumption); (case N => assumption); (case l => first | exact News.isList (by assumption) (by k_mem) | exact Fr.lst (by assumption) (by assumption)); (case p => kmk_part); (case q => kmk_part); (case i => assumption); (case m => first | exact kmk_all (by assumption) | exact kmk_upto (by assumption) (by omega) | exact kmk_run (by assumption) (by omega) (by omega) | exact kmk_from (by assumption) (by omega)); (case s => with_unfolding_all rfl); (case t => kmk_pure); (case z => (rw [List.size_toArray, PySem.sizeLine_eq]; omega))); intro _ _ _ _ _ _ _ hC' _; clear hC'; (try k_sweep)) | walk_at "mstep")); (all_goals (try dsimp only)))
    rename Fr _ _ _ _ => F
    rename News _ _ _ _ => N
    have hgD := N.fresh (.head _)
    refine useG (heapreplace_spec w (G.hide F.keep hgD) (Room.deeper r) (fun b o e => Heap.of_hide e) (Nat.le_of_eq (Heap.hide_size _ _)) (N.get (.head _)) (Heap.hide_self _ _) hI3 (by omega) (by omega) _ _ _) fun y h2 tk2 k2 hq => ?_
    obtain ⟨⟨vs3⟩, ha2, hI4⟩ := hq
    obtain ⟨F, N⟩ := after1F F N (UpdF.head (fun _ z => nomatch z)) k2 ha2
    clear ha2 k2
    ((repeat' (first | (k_here; (with_reducible show wpAny _ _ (call (Value.builtin "len") [Value.ref _]) _ _ _); with_unfolding_all refine' len_ints ?k1 ?k2 ?k3 ?k4 ?_; (case k1 => assumption); (case k2 => k_mem); (case k3 => assumption); (case k4 => walk_at "mar")) | (k_here; (with_reducible show wpAny _ _ (subscriptTail _ (PySem.Expr.Slice _ _ none _) (Value.ref _) (Value.ref _)) _ _ _); k_dflt (refine' kmk_slice_ints ?F ?N ?l ?p ?q ?i ?m rfl ?_ ?s ?t ?z; (case F => assumption); (case N => assumption); (case l => first | exact News.isList (by assumption) (by k_mem) | exact Fr.lst (by assumption) (by assumption)); (case p => kmk_part); (case q => kmk_part); (case i => assumption); (case m => first | exact kmk_all (by assumption) | exact kmk_upto (by assumption) (by omega) | exact kmk_run (by assumption) (by omega) (by omega) | exact kmk_from (by assumption) (by omega)); (case s => with_unfolding_all rfl); (case t => kmk_pure); (case z => (rw [List.size_toArray, PySem.sizeLine_eq]; omega))); intro _ _ _ _ _ _ _ hC' _; clear hC'; (try k_sweep)) | walk_at "mstep")); (all_goals (try dsimp only)))
    refine hR _ _ ?_
    refine ⟨_, _, _, _, _, rfl, F, N, ?_, _, vs3, _, _, _, rfl, .cons rfl (.cons rfl .nil), rfl, hI4, ?_, ?_⟩
    · rw [suF_len, List.length_set]; omega
    · rw [suF_len, List.length_set]; omega
    · rw [← hsd, suF_len, List.length_set]
      obtain ⟨j, hj⟩ : ∃ j, ys.length = j + 1 := ⟨ys.length - 1, by omega⟩
      have e1 : (popF ys).length = j := by omega
      rw [e1, hj, ptL, if_pos (by omega)]
      rfl
  · rename ¬ (_ : Int) < _ => hgt
    have e : ptL ys.length ys sm = sm := by
      cases hn : ys.length with
      | zero => rfl
      | succ k => rw [ptL, if_neg (by omega)]
    exact ⟨Keeps.of_fr F, ts, by rw [← hsd, e]⟩
/-! 07bits -/
theorem small_mk {a b c : Int} {n : Nat} (hn : Builtin.Range.rangeSize a b c = (n : Int)) (ha : -(2 ^ 40) < a ∧ a < 2 ^ 40) (hb : -(2 ^ 40) < b ∧ b < 2 ^ 40) (hc : -(2 ^ 40) < c ∧ c < 2 ^ 40) (hn' : (n : Int) < 2 ^ 40) : Builtin.Range.small a b c = true := by
  unfold Builtin.Range.small
  rw [hn]
  have f : ∀ x : Int, -(2 ^ 42) < x → x < 2 ^ 42 → Builtin.Range.rangeFitsLong x = true := fun x h1 h2 => by
    unfold Builtin.Range.rangeFitsLong
    rw [Bool.and_eq_true, decide_eq_true_eq, decide_eq_true_eq]; omega
  rw [f a (by omega) (by omega), f b (by omega) (by omega), f c (by omega) (by omega), f n (by omega) (by omega), f (b + (c - 1)) (by omega) (by omega), f (b + (c + 1)) (by omega) (by omega)]
  simp
theorem small_n {b n : Nat} {c : Int} (hn : Builtin.Range.rangeSize 0 (b : Int) c = (n : Int)) (hb : b ≤ 2 ^ 20) (hc : -(2 ^ 40) < c ∧ c < 2 ^ 40) (hn' : n ≤ 2 ^ 20) : Builtin.Range.small 0 (b : Int) c = true :=
  small_mk hn (by decide) (by omega) hc (by omega)
/-- a row of bits, as a text -/
noncomputable def bS (l : List Bool) : Str := ⟨(l.map fun b => if b then 49 else 48).toArray⟩
noncomputable def bitOf (n : Int) (k : Nat) : Bool := decide (n / 2 ^ k % 2 = 1)
noncomputable def bitsL (n : Int) (size : Nat) : List Bool := (List.range size).map fun j => bitOf n (size - 1 - j)

theorem paired_strs {F : Value → Value → Prop} : ∀ {vs ys : List Value} {f : Nat → Str}, Paired F vs ys → (∀ (j : Nat) v y, vs[j]? = some v → F v y → ∃ t, y = .str (f j) t) → StrsAre ys ((List.range vs.length).map f)
  | _, _, f, .nil, _ => .nil
  | _, _, f, .cons (a := v) (b := y) (l₁ := vs) (l₂ := ys) h t, hf => by
    obtain ⟨t', rfl⟩ := hf 0 v y rfl h
    have ih := paired_strs (f := fun j => f (j + 1)) t fun j v y hj hF => hf (j + 1) v y hj hF
    rw [List.length_cons, List.range_succ_eq_map, List.map_cons, List.map_map]
    exact .cons _ _ ih
theorem paired_ints {F : Value → Value → Prop} : ∀ {vs ys : List Value} {f : Nat → Int}, Paired F vs ys → (∀ (j : Nat) v y, vs[j]? = some v → F v y → ∃ t, y = .int (f j) t) → IntsAre ys ((List.range vs.length).map f)
  | _, _, f, .nil, _ => .nil
  | _, _, f, .cons (a := v) (b := y) (l₁ := vs) (l₂ := ys) h t, hf => by
    obtain ⟨t', rfl⟩ := hf 0 v y rfl h
    have ih := paired_ints (f := fun j => f (j + 1)) t fun j v y hj hF => hf (j + 1) v y hj hF
    rw [List.length_cons, List.range_succ_eq_map, List.map_cons, List.map_map]
    exact .cons _ _ ih
theorem filter_true (l : List Value) : l.filter (fun _ => true) = l := List.filter_eq_self.mpr fun _ _ => rfl

/-- texts glued with nothing between them -/
theorem join_flat : ∀ l : List Str, (Txt.join ⟨#[]⟩ l).cps.toList = l.flatMap (·.cps.toList) := by
  intro l
  show (Builtin.Str.glued ⟨#[]⟩ l).cps.toList = _
  rw [StrLaws.glued_eq_join]
  induction l with
  | nil => rfl
  | cons x r ih =>
    cases r with
    | nil => simp [Str.join]
    | cons y r =>
      rw [List.flatMap_cons, ← ih]
      show ((x.cps ++ #[]) ++ (Str.join ⟨#[]⟩ (y :: r)).cps).toList = _
      simp
theorem str_ext {x y : Str} (h : x.cps.toList = y.cps.toList) : x = y := by
  obtain ⟨⟨a⟩⟩ := x; obtain ⟨⟨b⟩⟩ := y; cases h; rfl
theorem bS_list (l : List Bool) : (bS l).cps.toList = l.map fun b => if b then 49 else 48 := rfl
theorem bS_len (l : List Bool) : (bS l).length = l.length := by simp [bS, Str.length]
theorem join_bits {l : List (List Bool)} : Txt.join ⟨#[]⟩ (l.map bS) = bS l.flatten := by
  apply str_ext
  rw [join_flat, bS_list]
  induction l with
  | nil => rfl
  | cons x r ih => rw [List.map_cons, List.flatMap_cons, ih, List.flatten_cons, List.map_append]; rfl
theorem sum_lens : ∀ l : List (List Bool), ((l.map bS).map (·.length)).sum = l.flatten.length
  | [] => rfl
  | x :: r => by
    rw [List.map_cons, List.map_cons, List.sum_cons, sum_lens r, List.flatten_cons, List.length_append, bS_len]
theorem bit_text {b : Int} (h : b = 0 ∨ b = 1) : Str.ofString (toString b) = bS [decide (b = 1)] := by
  rcases h with rfl | rfl <;> decide +kernel

set_option maxHeartbeats 4000000 in
theorem bits_spec (w : World) {mean mg mb} {A : Around} {s : Shared} (G : Gd w mean mg mb s.heap) (r : Room 2 A) (n : Int) (size : Nat) (hz : size ≤ 64) (t1 t2 : Tok) (E : Value → Shared → Prop) :
    wpAny (model pg w) A (call (.ref 259) [.int n t1, .int size t2]) (fun y s' => Keeps s s' ∧ ∃ t, y = .str (bS (bitsL n size)) t) E s := by
  have KX := G.X
  have KT := G.T
  refine wpAny_call ?_
  refine enterC (news := []) [(Str.ofString "number", .int n t1), (Str.ofString "size", .int size t2)] KX KT.nolimit (fun _ _ e => e) (Nat.le_refl _) (fun _ h => nomatch h) (by k_dflt k_is) (by k_dflt k_is) r.lt (BindsTo.of_eq rfl) rfl (by decide) ?_ rfl rfl rfl
  intro L h₁ tk cells F N Y kp' hL
  obtain ⟨o, rfl, hod⟩ := CellsAre.one Y
  change o.data = .cell (some (.int n t1)) at hod
  dsimp only [List.append_nil] at N ⊢
  ((repeat' (walk_at "mstep")); (all_goals (try dsimp only)))
  refine comp_eval (cl := [(Str.ofString "number", L + 1)]) (fun _ => true) (fun v y => ∃ k : Nat, IsI k v ∧ IsS (bS [bitOf n k]) y) (by rfl) (by decide) rfl (by decide) rfl ?_
  ((repeat' (walk_at "mstep")); (all_goals (try dsimp only)))
  rename Fr _ _ _ _ => F
  rename News _ _ _ _ => N
  rename IsRange _ _ _ _ _ _ _ _ => hr
  have hcell : Heap.IsCell _ (L + 1) (some (.int n t1)) := ⟨o, (N (L + 1, o) (.head _)).1, hod⟩
  have G2 := G.keeps F.keep
  have hsz9 : Builtin.Range.rangeSize ((size : Int) - 1) (-1) (-1) = ((size : Nat) : Int) := by
    unfold Builtin.Range.rangeSize
    rw [if_neg (by decide)]
    simp only [Int.neg_neg, Int.ediv_one]
    split <;> omega
  refine comp_range (n := size) (Room.deeper r).hd hr ?sm ?sz ?z ⟨?tests, ?elt⟩ ?_
  case sm => exact small_mk hsz9 (by omega) (by omega) (by omega) (by omega)
  case sz => exact hsz9
  case z => rw [sizeLine_eq]; omega
  case tests => intro C i v s₃ m₃ E' _ _ _ _; exact wpAny_tests_nil ⟨rfl, Keeps.refl _⟩
  case elt =>
    rintro C i v s₃ m₃ E' ⟨hi, t, rfl⟩ _ hn hm kp
    have hcell3 := hcell.keeps kp
    have KX3 := (G2.keeps kp).X
    have KT3 := (G2.keeps kp).T
    have k3 : ∀ b o, s₃.heap.get? b = some o → s₃.heap.get? b = some o := fun _ _ e => e
    clear F N hr kp hcell KX KT G2
    ((repeat' (walk_at "mstep")); (all_goals (try dsimp only)))
    refine ⟨⟨size - 1 - i, IsI.of (by omega), IsS.of ?_⟩, Keeps.tok⟩
    have e : ((size : Int) - 1 + (i : Int) * -1).toNat = size - 1 - i := by omega
    rw [e]
    have hp : (0 : Int) ≤ 2 ^ (size - 1 - i) := Int.le_of_lt (Int.pow_pos (by decide))
    rw [Int.fdiv_eq_ediv_of_nonneg n hp, Int.fmod_eq_emod_of_nonneg _ (by decide)]
    rw [bit_text (by omega)]
    rfl
  intro D h' tk' ys n' vs hD hD' hlen hvs hF hk
  rw [filter_true] at hF
  have hS := paired_strs (f := fun j => bS [bitOf n (size - 1 - j)]) hF (by
    rintro j v y hj ⟨k, ⟨t, rfl⟩, hy⟩
    obtain ⟨t', e⟩ := hvs j _ hj
    have hj' : j < size := by
      have := (List.getElem?_eq_some_iff.mp hj).1; omega
    have ek : k = size - 1 - j := by
      have := (Value.int.inj e).1; omega
    rw [ek] at hy
    exact hy)
  rw [hlen] at hS
  obtain ⟨F, N, _⟩ := addNew F N hk hD hD'
  ((repeat' (walk_at "mstep")); (all_goals (try dsimp only)))
  have e0 : (List.range size).map (fun j => bS [bitOf n (size - 1 - j)]) = ((List.range size).map fun j => [bitOf n (size - 1 - j)]).map bS := by rw [List.map_map]; rfl
  have e1 : ((List.range size).map fun j => [bitOf n (size - 1 - j)]).flatten = bitsL n size := by
    rw [← List.flatMap_def]; unfold bitsL; rw [List.map_eq_flatMap]
  have e2 : (bitsL n size).length = size := by unfold bitsL; simp
  rw [e0] at hS
  refine join_listW (News.isList N (.head _)) hS (by decide) ?_ ?_
  · rw [sum_lens, e1, e2]; simp; omega
  · intro t' k
    refine ⟨Keeps.of_fr F, t', ?_⟩
    have e3 : Str.ofString "" = ⟨#[]⟩ := by decide +kernel
    rw [e3, join_bits, e1]
/-! 08num -/
noncomputable def numL (l : List Bool) : Int := l.foldl (fun a b => 2 * a + (if b then 1 else 0)) 0
theorem numL_snoc (l : List Bool) (b : Bool) : numL (l ++ [b]) = 2 * numL l + (if b then 1 else 0) := by
  unfold numL; rw [List.foldl_append]; rfl
theorem numL_bd : ∀ l : List Bool, 0 ≤ numL l ∧ numL l < 2 ^ l.length := by
  have key : ∀ n, ∀ l : List Bool, l.length = n → 0 ≤ numL l ∧ numL l < 2 ^ l.length := by
    intro n
    induction n with
    | zero =>
      intro l h
      have : l = [] := List.eq_nil_of_length_eq_zero h
      subst this
      decide
    | succ n ih =>
      intro l h
      have hne : l ≠ [] := by rintro rfl; simp at h
      rw [← List.dropLast_concat_getLast hne, numL_snoc]
      obtain ⟨i1, i2⟩ := ih l.dropLast (by simp; omega)
      have hl : l.dropLast.length = n := by simp; omega
      rw [List.length_append, List.length_singleton, Int.pow_succ]
      split <;> omega
  exact fun l => key _ l rfl

theorem bS_get (l : List Bool) (i : Nat) : (bS l).cps[i]? = l[i]?.map fun b => if b then 49 else 48 := by
  unfold bS; simp
theorem take_snoc {l : List Bool} {i : Nat} {b : Bool} (h : l[i]? = some b) : l.take (i + 1) = l.take i ++ [b] := by
  rw [List.take_add_one, h]; rfl

inductive NmJ (l : List Bool) (i : Nat) (m : Str → Option Value) (news : List (Addr × Obj)) : Prop
  | mk (hn : news = []) (t : Tok) (hm : Has m [(Str.ofString "number", .int (numL (l.take i)) t)])
set_option maxHeartbeats 4000000 in
theorem number_spec (w : World) {mean mg mb} {A : Around} {s : Shared} (G : Gd w mean mg mb s.heap) (r : Room 2 A) (l : List Bool) (hl : l.length ≤ 64) (t1 : Tok) (E : Value → Shared → Prop) :
    wpAny (model pg w) A (call (.ref 266) [.str (bS l) t1]) (fun y s' => Keeps s s' ∧ IsI (numL l) y) E s := by
  have KX := G.X
  have KT := G.T
  refine wpAny_call ?_
  refine enter (news := []) [(Str.ofString "bits", .str (bS l) t1)] KX KT.nolimit (fun _ _ e => e) (Nat.le_refl _) (fun _ h => nomatch h) (by k_dflt k_is) (by k_dflt k_is) r.lt (BindsTo.of_eq rfl) (locs rfl) ?_ (by decide) rfl rfl rfl
  intro L h₁ tk F N kp' hL
  (try dsimp only)
  ((repeat' (walk_at "mstep")); (all_goals (try dsimp only)))
  refine For_invV s.heap rfl rfl ?_ (hE := PassesOwn.never)
  ((repeat' (walk_at "mstep")); (all_goals (try dsimp only)))
  rename Fr _ _ _ _ => F
  rename News _ _ _ _ => N
  refine wpAny_pyIter_str fun o St W hst => ?_
  have hn1 := newL F
  have hn2 := newG F
  have hn3 := newN N
  obtain ⟨F, N⟩ := after0 F N (h' := _) fun b ob e => Heap.get?_push_of_some o e
  refine loopAt (W _ (Room.deeper r).hd) hst (fun hb => hn1 (List.mem_singleton.mp hb)) hn2 hn3 F N (NmJ l) ⟨rfl, _, .cons rfl .nil⟩ ?turn (fun b hb => .inl (List.mem_singleton.mp hb)) ?done
  case done =>
    rintro h tk m' news' ⟨rfl, t, hm⟩ F N
    obtain ⟨u, rfl⟩ := hm.open
    ((repeat' (walk_at "mstep")); (all_goals (try dsimp only)))
    refine ⟨Keeps.of_fr F, IsI.of ?_⟩
    have : (bS l).cps.size = l.length := by simp [bS]
    rw [this, List.take_length]
  case turn =>
    clear F N hst W
    intro i v m₁ news₁ h tk own R0 hR
    rintro hi ⟨c, tc, hc, rfl⟩ ⟨rfl, t, hm⟩ hne hown F N
    obtain ⟨u, rfl⟩ := hm.open
    rw [bS_get, Option.map_eq_some_iff] at hc
    obtain ⟨b, hb, rfl⟩ := hc
    ((repeat' (walk_at "mstep")); (all_goals (try dsimp only)))
    all_goals (
      rename Fr _ _ _ _ => F
      rename News _ _ _ _ => N
      rename (_ == _) = _ => hq
      refine hR _ _ ?_
      refine ⟨_, _, _, [], rfl, F, N, (fun _ h => nomatch h), rfl, _, .consI rfl ?_ .nil⟩
      cases b
      · first
        | (rw [take_snoc hb, numL_snoc]; rfl)
        | (exfalso; revert hq; decide +kernel)
      · first
        | (exfalso; revert hq; decide +kernel)
        | (rw [take_snoc hb, numL_snoc]; rfl))
/-! 09oct -/
noncomputable def octetF (x total : Int) : Int := if x % 5 = 4 then 208 + total % 48 else (37 * (x % 5) + total) % 104 + 104 * (x / 5 % 2)

set_option maxHeartbeats 4000000 in
theorem octet_spec (w : World) {mean mg mb} {A : Around} {s : Shared} (G : Gd w mean mg mb s.heap) (r : Room 1 A) (x total : Int) (tx tt : Tok) (E : Value → Shared → Prop) :
    wpAny (model pg w) A (call (.ref 247) [.int x tx, .int total tt]) (fun y s' => Keeps s s' ∧ IsI (octetF x total) y) E s := by
  have KX := G.X
  have KT := G.T
  refine wpAny_call ?_
  refine enter (news := []) [(Str.ofString "x", .int x tx), (Str.ofString "total", .int total tt)] KX KT.nolimit (fun _ _ e => e) (Nat.le_refl _) (fun _ h => nomatch h) (by k_dflt k_is) (by k_dflt k_is) r.lt (BindsTo.of_eq rfl) (locs rfl) ?_ (by decide) rfl rfl rfl
  intro L h₁ tk F N kp' hL
  (try dsimp only)
  ((repeat' (first | (with_reducible refine modP ?k1 ?_; (case k1 => decide)) | ((with_reducible show wpAny _ _ (call _ [Value.bytes _ _]) _ _ _); refine call_type_of (Tx := "bytes") rfl (by decide +kernel) ?_) | walk_at "mstep")); (all_goals (try dsimp only)))
  · rename (_ : Int) = _ => hq
    refine ⟨Keeps.of_fr F, IsI.of ?_⟩
    unfold octetF; rw [if_pos hq]
  · rename ¬ (_ : Int) = _ => hq
    refine ⟨Keeps.of_fr F, IsI.of ?_⟩
    unfold octetF; rw [if_neg hq, Int.fdiv_eq_ediv_of_nonneg _ (by decide)]

set_option maxHeartbeats 4000000 in
theorem buffer_spec (w : World) {mean mg mb} {A : Around} {s : Shared} (G : Gd w mean mg mb s.heap) (r : Room 1 A) (b : Array UInt8) (tb : Tok) (E : Value → Shared → Prop) :
    wpAny (model pg w) A (call (.ref 45) [.bytes b tb]) (fun y s' => Keeps s s' ∧ y = .bytes b tb) E s := by
  have KX := G.X
  have KT := G.T
  refine wpAny_call ?_
  refine enter (news := []) [(Str.ofString "data", .bytes b tb)] KX KT.nolimit (fun _ _ e => e) (Nat.le_refl _) (fun _ h => nomatch h) (by k_dflt k_is) (by k_dflt k_is) r.lt (BindsTo.of_eq rfl) (locs rfl) ?_ (by decide) rfl rfl rfl
  intro L h₁ tk F N kp' hL
  (try dsimp only)
  ((repeat' (first | (with_reducible refine modP ?k1 ?_; (case k1 => decide)) | ((with_reducible show wpAny _ _ (call _ [Value.bytes _ _]) _ _ _); refine call_type_of (Tx := "bytes") rfl (by decide +kernel) ?_) | walk_at "mstep")); (all_goals (try dsimp only)))
  rename Fr _ _ _ _ => F
  exact ⟨Keeps.of_fr F, rfl⟩

set_option maxHeartbeats 4000000 in
theorem truth_spec (w : World) {mean mg mb} {A : Around} {s : Shared} (G : Gd w mean mg mb s.heap) (r : Room 1 A) (E : Value → Shared → Prop) :
    wpAny (model pg w) A (call (.ref 52) [.bool false]) (fun y s' => Keeps s s' ∧ y = .bool false) E s := by
  have KX := G.X
  have KT := G.T
  refine wpAny_call ?_
  refine enter (news := []) [(Str.ofString "x", .bool false)] KX KT.nolimit (fun _ _ e => e) (Nat.le_refl _) (fun _ h => nomatch h) (by k_dflt k_is) (by k_dflt k_is) r.lt (BindsTo.of_eq rfl) (locs rfl) ?_ (by decide) rfl rfl rfl
  intro L h₁ tk F N kp' hL
  (try dsimp only)
  ((repeat' (first | (with_reducible refine modP ?k1 ?_; (case k1 => decide)) | ((with_reducible show wpAny _ _ (call _ [Value.bytes _ _]) _ _ _); refine call_type_of (Tx := "bytes") rfl (by decide +kernel) ?_) | walk_at "mstep")); (all_goals (try dsimp only)))
  rename Fr _ _ _ _ => F
  exact ⟨Keeps.of_fr F, rfl⟩
/-! 10b64 -/
section
variable {prog : Program} {w : World} {A : Around} {E : Value → Shared → Prop} {s : Shared} {Q : Value → Shared → Prop} {x c d : Int} {t u : Tok}
theorem and3 (h : Q (.int (x % 4) s.toks) { s with toks := s.toks + 1 }) : wpAny (model prog w) A (binaryOp .BitAnd (.int x t) (.int 3 u)) Q E s := by
  refine and_int ?_; rw [bitAnd_m2]; exact h
theorem and15 (h : Q (.int (x % 16) s.toks) { s with toks := s.toks + 1 }) : wpAny (model prog w) A (binaryOp .BitAnd (.int x t) (.int 15 u)) Q E s := by
  refine and_int ?_; rw [bitAnd_m4]; exact h
theorem and63 (h : Q (.int (x % 64) s.toks) { s with toks := s.toks + 1 }) : wpAny (model prog w) A (binaryOp .BitAnd (.int x t) (.int 63 u)) Q E s := by
  refine and_int ?_; rw [bitAnd_m6]; exact h
theorem and65535 (h : Q (.int (x % 65536) s.toks) { s with toks := s.toks + 1 }) : wpAny (model prog w) A (binaryOp .BitAnd (.int x t) (.int 65535 u)) Q E s := by
  refine and_int ?_; rw [bitAnd_m16]; exact h
theorem shl8 (h0 : 0 ≤ x) (h1 : x < 2 ^ 32) (h : Q (.int (x * 256) s.toks) { s with toks := s.toks + 1 }) : wpAny (model prog w) A (binaryOp .LShift (.int x t) (.int 8 u)) Q E s :=
  lshift_int_small (by decide) (by decide) (by omega) h
theorem shl4 (h0 : 0 ≤ x) (h1 : x < 2 ^ 32) (h : Q (.int (x * 16) s.toks) { s with toks := s.toks + 1 }) : wpAny (model prog w) A (binaryOp .LShift (.int x t) (.int 4 u)) Q E s :=
  lshift_int_small (by decide) (by decide) (by omega) h
theorem shl2 (h0 : 0 ≤ x) (h1 : x < 2 ^ 32) (h : Q (.int (x * 4) s.toks) { s with toks := s.toks + 1 }) : wpAny (model prog w) A (binaryOp .LShift (.int x t) (.int 2 u)) Q E s :=
  lshift_int_small (by decide) (by decide) (by omega) h
theorem nat_and_zero (a c : Nat) (h : c < 256) : (a * 256) &&& c = 0 := by
  apply Nat.eq_of_testBit_eq
  intro i
  rw [Nat.testBit_and, show (256 : Nat) = 2 ^ 8 from rfl, Nat.testBit_mul_two_pow, Nat.zero_testBit]
  by_cases hi : 8 ≤ i
  · have : c.testBit i = false := Nat.testBit_lt_two_pow (Nat.lt_of_lt_of_le h (Nat.pow_le_pow_right (n := 2) (by decide) hi))
    rw [this, Bool.and_false]
  · rw [decide_eq_false hi]; rfl
theorem or256 (h0 : 0 ≤ x) (hc0 : 0 ≤ c) (hc : c < 256) (h : Q (.int (x * 256 + c) s.toks) { s with toks := s.toks + 1 }) : wpAny (model prog w) A (binaryOp .BitOr (.int (x * 256) t) (.int c u)) Q E s := by
  refine or_int ?_
  have e : Builtin.bitAnd (x * 256) c = 0 := by
    unfold Builtin.bitAnd
    rw [decide_eq_true (show (0 : Int) ≤ x * 256 by omega), decide_eq_true hc0]
    show (((x * 256).toNat &&& c.toNat : Nat) : Int) = 0
    have e1 : (x * 256).toNat = x.toNat * 256 := by omega
    rw [e1, nat_and_zero _ _ (by omega)]; rfl
  have e2 := bitXor_and (x * 256) c
  unfold Builtin.bitXor at e2
  have e3 : Builtin.bitOr (x * 256) c = x * 256 + c := by omega
  rw [e3]; exact h
end
noncomputable def b64tab : List Nat := [65, 66, 67, 68, 69, 70, 71, 72, 73, 74, 75, 76, 77, 78, 79, 80, 81, 82, 83, 84, 85, 86, 87, 88, 89, 90, 97, 98, 99, 100, 101, 102, 103, 104, 105, 106, 107, 108, 109, 110, 111, 112, 113, 114, 115, 116, 117, 118, 119, 120, 121, 122, 48, 49, 50, 51, 52, 53, 54, 55, 56, 57, 43, 47]
noncomputable def b64c (i : Int) : Int := (b64tab.getD i.toNat 0 : Nat)
noncomputable def b64U : List UInt8 := [65, 66, 67, 68, 69, 70, 71, 72, 73, 74, 75, 76, 77, 78, 79, 80, 81, 82, 83, 84, 85, 86, 87, 88, 89, 90, 97, 98, 99, 100, 101, 102, 103, 104, 105, 106, 107, 108, 109, 110, 111, 112, 113, 114, 115, 116, 117, 118, 119, 120, 121, 122, 48, 49, 50, 51, 52, 53, 54, 55, 56, 57, 43, 47]
theorem b64_nat : ∀ n : Nat, n < 64 → (((b64U.getD n 0).toNat : Nat) : Int) = ((b64tab.getD n 0 : Nat) : Int) := by decide +kernel
theorem b64_item {prog : Program} {w : World} {A : Around} {E : Value → Shared → Prop} {s : Shared} {Q : Value → Shared → Prop} {value slice : Expr} {i : Int} {t u : Tok} (h0 : 0 ≤ i) (h1 : i < 64) (h : Q (.int (b64c i) s.toks) { s with toks := s.toks + 1 })
    (hs : subscripted slice false (.bytes b64U.toArray t) (.int i u) = operate [.bytes b64U.toArray t, .int i u] (getItem (.bytes b64U.toArray t) (.int i u)))
    (ht : ∀ r, letTemporaryGo value (.bytes b64U.toArray t) r = pure ()) : wpAny (model prog w) A (subscriptTail value slice (.bytes b64U.toArray t) (.int i u)) Q E s :=
  bytes_item_K (by decide) h0 (by show i < ((64 : Nat) : Int); omega) (b64_nat i.toNat (by omega)) h hs ht
/-- the codes that base 64 writes for groups of six bits and a rest -/
noncomputable def b64out (gs : List (List Bool)) (rem : List Bool) : List Int :=
  gs.map (fun g => b64c (numL g)) ++ (if rem.length = 2 then [b64c (numL rem * 16), 61, 61] else if rem.length = 4 then [b64c (numL rem * 4), 61] else [])
/-- eight bits an octet -/
noncomputable def byteBits (bs : List Int) : List Bool := bs.flatMap fun b => bitsL b 8

theorem app_ints {prog : Program} {w : World} {A : Around} {E : Value → Shared → Prop} {s : Shared} {g : Heap} {L O : Addr} {m : Str → Option Value} {news news' : List (Addr × Obj)} {vs : List Value} {xs : List Int} {n : Nat} {i : Int} {t : Tok} {Q : Value → Shared → Prop}
    (F : Fr g L s.heap m) (N : News g L s.heap news) (U : Upd O (listOf vs.toArray n) (listOf (vs ++ [Value.int i t]).toArray (n + 1)) news news') (hI : IntsAre vs xs) (hx : xs.length < 2 ^ 20)
    (h : ∀ h', Fr g L h' m → News g L h' news' → IntsAre (vs ++ [.int i t]) (xs ++ [i]) → Q .none { s with heap := h' }) : wpAny (model prog w) A (call (.builtin "list.append") [.ref O, .int i t]) Q E s := by
  refine append_K (its := vs.toArray) (n := n) (x := .int i t) F N (news' := news') ?_ (fun h' F' N' => h h' F' N' (hI.append (.cons _ _ .nil))) ?_
  · rw [List.push_toArray]; exact U
  · rw [List.size_toArray, hI.length, sizeLine_eq]; omega

theorem numL_app (a b : List Bool) : numL (a ++ b) = numL a * 2 ^ b.length + numL b := by
  have key : ∀ n, ∀ b : List Bool, b.length = n → numL (a ++ b) = numL a * 2 ^ b.length + numL b := by
    intro n
    induction n with
    | zero =>
      intro b h
      have : b = [] := List.eq_nil_of_length_eq_zero h
      subst this
      have : numL [] = 0 := rfl
      rw [this]; simp
    | succ n ih =>
      intro b h
      have hne : b ≠ [] := by rintro rfl; simp at h
      have hl : b.dropLast.length = n := by simp; omega
      rw [← List.dropLast_concat_getLast hne, ← List.append_assoc, numL_snoc, ih _ hl, numL_snoc, List.length_append, List.length_singleton, hl, Int.pow_succ]
      rw [← Int.mul_assoc]
      generalize numL a * 2 ^ n = z
      omega
  exact key _ b rfl
theorem bitsL_num : ∀ c : Nat, c < 256 → numL (bitsL (c : Int) 8) = c := by decide +kernel
theorem bitsL_len (n : Int) (k : Nat) : (bitsL n k).length = k := by unfold bitsL; simp
theorem b64c_bd : ∀ i : Int, 0 ≤ b64c i ∧ b64c i < 256 := by
  intro i
  unfold b64c
  have h : ∀ n : Nat, n < 64 → b64tab.getD n 0 < 256 := by decide +kernel
  by_cases hi : i.toNat < 64
  · have := h _ hi; omega
  · rw [List.getD, List.getElem?_eq_none (by show 64 ≤ _; omega)]; simp
theorem b64out_bd (gs : List (List Bool)) (rem : List Bool) : ∀ x ∈ b64out gs rem, 0 ≤ x ∧ x < 256 := by
  intro x hx
  unfold b64out at hx
  rcases List.mem_append.mp hx with hx | hx
  · obtain ⟨g, _, rfl⟩ := List.mem_map.mp hx; exact b64c_bd _
  · split at hx
    · simp only [List.mem_cons, List.not_mem_nil, or_false] at hx
      rcases hx with rfl | rfl | rfl
      · exact b64c_bd _
      · decide
      · decide
    · split at hx
      · simp only [List.mem_cons, List.not_mem_nil, or_false] at hx
        rcases hx with rfl | rfl
        · exact b64c_bd _
        · decide
      · cases hx

theorem flat6 : ∀ gs : List (List Bool), (∀ g ∈ gs, g.length = 6) → gs.flatten.length = 6 * gs.length
  | [], _ => rfl
  | g :: r, h => by
    rw [List.flatten_cons, List.length_append, flat6 r fun x hx => h x (.tail _ hx), h g (.head _), List.length_cons]; omega
theorem byteBits_len (l : List Int) : (byteBits l).length = 8 * l.length := by
  unfold byteBits
  induction l with
  | nil => rfl
  | cons x r ih => rw [List.flatMap_cons, List.length_append, ih, bitsL_len, List.length_cons]; omega
theorem top_core {X p q M : Int} (hM : 0 < M) (hp0 : 0 ≤ p) (hp : p < 64) (hq0 : 0 ≤ q) (hq : q < M) (h : X % (M * 64) = p * M + q) : X / M % 64 = p ∧ X % M = q := by
  have h1 : X % M = q := by
    have e := Int.emod_emod_of_dvd X (Int.dvd_mul_right M 64)
    rw [h, Int.add_comm, Int.add_mul_emod_self_right, Int.emod_eq_of_lt hq0 hq] at e
    exact e.symm
  refine ⟨?_, h1⟩
  have hx := Int.mul_ediv_add_emod X (M * 64)
  rw [h, Int.mul_assoc, Int.mul_comm p M, ← Int.add_assoc, ← Int.mul_add] at hx
  rw [← hx, Int.add_comm (M * _) q, Int.add_mul_ediv_left _ _ (Int.ne_of_gt hM), Int.ediv_eq_zero_of_lt hq0 hq, Int.zero_add, Int.add_comm, Int.add_mul_emod_self_left, Int.emod_eq_of_lt hp0 hp]
theorem low_core {lc n c M : Int} (hn0 : 0 ≤ n) (hn : n < M) (hc0: 0 ≤ c) (hc : c < 256) (h : lc % M = n) : (lc * 256 + c) % (M * 256) = n * 256 + c := by
  have hx := Int.mul_ediv_add_emod lc M
  rw [h] at hx
  rw [← hx, Int.add_mul, Int.mul_right_comm, Int.add_assoc, Int.add_comm, Int.add_mul_emod_self_left]
  exact Int.emod_eq_of_lt (by omega) (by omega)
theorem low_core2 {lc n c : Int} {r : Nat} (hr : r < 6) (hn0 : 0 ≤ n) (hn : n < 2 ^ r) (hc0: 0 ≤ c) (hc : c < 256) (h : lc % 2 ^ r = n) : (lc * 256 + c) % 65536 % 2 ^ (r + 8) = n * 2 ^ 8 + c := by
  have hd : (2 : Int) ^ (r + 8) ∣ 65536 := ⟨2 ^ (8 - r), by
    rw [← Int.pow_add, show r + 8 + (8 - r) = 16 by omega]; rfl⟩
  rw [Int.emod_emod_of_dvd _ hd, Int.pow_add]
  exact low_core hn0 hn hc0 hc h
theorem six_top {X : Int} (hX : 0 ≤ X) {rem : List Bool} (h6 : 6 ≤ rem.length) (h14 : rem.length < 14) (hl : X % 2 ^ rem.length = numL rem) :
    X.fdiv (2 ^ ((rem.length : Int) - 6).toNat) % 64 = numL (rem.take 6) ∧ X % 2 ^ (rem.drop 6).length = numL (rem.drop 6) := by
  have e := List.take_append_drop 6 rem
  have ha : (rem.take 6).length = 6 := by simp; omega
  have hk : (rem.drop 6).length = rem.length - 6 := by simp
  have ba := numL_bd (rem.take 6)
  have bb := numL_bd (rem.drop 6)
  have en : numL rem = numL (rem.take 6) * 2 ^ (rem.drop 6).length + numL (rem.drop 6) := by rw [← numL_app, e]
  rw [ha] at ba
  rw [en] at hl
  have ek : ((rem.length : Int) - 6).toNat = (rem.drop 6).length := by rw [hk]; omega
  have er : rem.length = (rem.drop 6).length + 6 := by omega
  rw [ek, Int.fdiv_eq_ediv_of_nonneg _ (Int.le_of_lt (Int.pow_pos (by decide)))]
  rw [er] at hl
  rw [Int.pow_add] at hl
  exact top_core (Int.pow_pos (by decide)) ba.1 ba.2 bb.1 bb.2 hl

inductive B2J (bs : List Int) (O : Addr) (i : Nat) (m : Str → Option Value) (news : List (Addr × Obj)) : Prop
  | mk (gs : List (List Bool)) (rem : List Bool) (vs : List Value) (n : Nat) (lc : Int) (tl tlc : Tok) (hg : ∀ g ∈ gs, g.length = 6) (hr : rem.length < 6) (hf : gs.flatten ++ rem = byteBits (bs.take i))
      (hm : Has m [(Str.ofString "out", .ref O), (Str.ofString "leftbits", .int rem.length tl), (Str.ofString "leftchar", .int lc tlc), (Str.ofString "newline", .bool false)]) (h0 : 0 ≤ lc) (h1 : lc < 65536) (hl : lc % 2 ^ rem.length = numL rem)
      (hn : news = [(O, listOf vs.toArray n)]) (hI : IntsAre vs (gs.map fun g => b64c (numL g))) (hgl : 6 * gs.length ≤ 8 * i)
inductive B2W (bs : List Int) (O : Addr) (own : List (Addr × Obj)) (lc : Int) (cn i : Nat) (k : Nat) (m : Str → Option Value) (news : List (Addr × Obj)) : Prop
  | mk (gs' : List (List Bool)) (rem' : List Bool) (vs' : List Value) (n' : Nat) (tl tlc : Tok) (e : k = rem'.length) (hg : ∀ g ∈ gs', g.length = 6) (hr : rem'.length < 14) (hf : gs'.flatten ++ rem' = byteBits (bs.take (i + 1)))
      (hm : Has m [(Str.ofString "out", .ref O), (Str.ofString "leftbits", .int rem'.length tl), (Str.ofString "leftchar", .int ((lc * 256 + (cn : Int)) % 65536) tlc), (Str.ofString "newline", .bool false)]) (hl : (lc * 256 + (cn : Int)) % 65536 % 2 ^ rem'.length = numL rem')
      (hn : news = (O, listOf vs'.toArray n') :: own) (hI : IntsAre vs' (gs'.map fun g => b64c (numL g))) (hgl : 6 * gs'.length ≤ 8 * (i + 1))
set_option maxHeartbeats 8000000 in
theorem b2a_spec (w : World) {mean mg mb} {A : Around} {s : Shared} (G : Gd w mean mg mb s.heap) (r : Room 2 A) (bs : List Int) (hb : ∀ b ∈ bs, 0 ≤ b ∧ b < 256) (hz : bs.length ≤ 1000) (tb : Tok) (E : Value → Shared → Prop) :
    wpAny (model pg w) A (call (.ref 60) [.bytes (byteArr bs) tb] [(Str.ofString "newline", .bool false)]) (fun y s' => Keeps s s' ∧ ∃ gs rem t, (∀ g ∈ gs, g.length = 6) ∧ rem.length < 6 ∧ gs.flatten ++ rem = byteBits bs ∧ y = .bytes (byteArr (b64out gs rem)) t) E s := by
  refine post_var fun Q0 hPost => ?_
  have KX := G.X
  have KT := G.T
  refine wpAny_call ?_
  refine enter (news := []) [(Str.ofString "data", .bytes (byteArr bs) tb), (Str.ofString "newline", .bool false)] KX KT.nolimit (fun _ _ e => e) (Nat.le_refl _) (fun _ h => nomatch h) (by k_dflt k_is) (by k_dflt k_is) r.lt (BindsTo.of_eq rfl) (locs rfl) ?_ (by decide) rfl rfl rfl
  intro L h₁ tk F N kp' hL
  (try dsimp only)
  ((repeat' (first | ((with_reducible show wpAny _ _ (binaryOp Operator.BitAnd _ _) _ _ _); first | (with_reducible refine and3 ?_) | (with_reducible refine and15 ?_) | (with_reducible refine and63 ?_) | (with_reducible refine and65535 ?_)) | ((with_reducible show wpAny _ _ (binaryOp Operator.LShift _ _) _ _ _); first | (with_reducible refine shl8 ?k1 ?k2 ?_; (case k1 => omega); (case k2 => omega)) | (with_reducible refine shl4 ?k1 ?k2 ?_; (case k1 => omega); (case k2 => omega)) | (with_reducible refine shl2 ?k1 ?k2 ?_; (case k1 => omega); (case k2 => omega))) | (with_reducible refine or256 ?k1 ?k2 ?k3 ?_; (case k1 => omega); (case k2 => omega); (case k3 => omega)) | ((with_reducible show wpAny _ _ (subscriptTail _ _ (Value.bytes _ _) (Value.int _ _)) _ _ _); k_dflt (refine' b64_item ?k1 ?k2 ?_ ?k3 ?k4; (case k1 => omega); (case k2 => omega); (case k3 => with_unfolding_all rfl); (case k4 => (intro _; with_unfolding_all rfl)))) | (k_here; (with_reducible show wpAny _ _ (call (Value.builtin "list.append") [Value.ref _, Value.int _ _]) _ _ _); k_dflt (refine' app_ints ?k1 ?k2 ?k3 ?k4 ?k5 ?_; (case k1 => assumption); (case k2 => assumption); (case k3 => first | exact Upd.head (by assumption) | k_upd); (case k4 => assumption); (case k5 => walk_at "mar")); intro _ _ _ _; (try k_sweep)) | walk_at "mstep")); (all_goals (try dsimp only)))
  refine useV (buffer_spec w (G.keeps F.keep) (Room.deeper r) _ _ _) F N fun h2 tk2 F N => ?_
  ((repeat' (first | ((with_reducible show wpAny _ _ (binaryOp Operator.BitAnd _ _) _ _ _); first | (with_reducible refine and3 ?_) | (with_reducible refine and15 ?_) | (with_reducible refine and63 ?_) | (with_reducible refine and65535 ?_)) | ((with_reducible show wpAny _ _ (binaryOp Operator.LShift _ _) _ _ _); first | (with_reducible refine shl8 ?k1 ?k2 ?_; (case k1 => omega); (case k2 => omega)) | (with_reducible refine shl4 ?k1 ?k2 ?_; (case k1 => omega); (case k2 => omega)) | (with_reducible refine shl2 ?k1 ?k2 ?_; (case k1 => omega); (case k2 => omega))) | (with_reducible refine or256 ?k1 ?k2 ?k3 ?_; (case k1 => omega); (case k2 => omega); (case k3 => omega)) | ((with_reducible show wpAny _ _ (subscriptTail _ _ (Value.bytes _ _) (Value.int _ _)) _ _ _); k_dflt (refine' b64_item ?k1 ?k2 ?_ ?k3 ?k4; (case k1 => omega); (case k2 => omega); (case k3 => with_unfolding_all rfl); (case k4 => (intro _; with_unfolding_all rfl)))) | (k_here; (with_reducible show wpAny _ _ (call (Value.builtin "list.append") [Value.ref _, Value.int _ _]) _ _ _); k_dflt (refine' app_ints ?k1 ?k2 ?k3 ?k4 ?k5 ?_; (case k1 => assumption); (case k2 => assumption); (case k3 => first | exact Upd.head (by assumption) | k_upd); (case k4 => assumption); (case k5 => walk_at "mar")); intro _ _ _ _; (try k_sweep)) | walk_at "mstep")); (all_goals (try dsimp only)))
  rename Fr _ _ _ _ => F
  rename News _ _ _ _ => N
  refine useV (truth_spec w (G.keeps F.keep) (Room.deeper r) _) F N fun h2 tk2 F N => ?_
  ((repeat' (first | ((with_reducible show wpAny _ _ (binaryOp Operator.BitAnd _ _) _ _ _); first | (with_reducible refine and3 ?_) | (with_reducible refine and15 ?_) | (with_reducible refine and63 ?_) | (with_reducible refine and65535 ?_)) | ((with_reducible show wpAny _ _ (binaryOp Operator.LShift _ _) _ _ _); first | (with_reducible refine shl8 ?k1 ?k2 ?_; (case k1 => omega); (case k2 => omega)) | (with_reducible refine shl4 ?k1 ?k2 ?_; (case k1 => omega); (case k2 => omega)) | (with_reducible refine shl2 ?k1 ?k2 ?_; (case k1 => omega); (case k2 => omega))) | (with_reducible refine or256 ?k1 ?k2 ?k3 ?_; (case k1 => omega); (case k2 => omega); (case k3 => omega)) | ((with_reducible show wpAny _ _ (subscriptTail _ _ (Value.bytes _ _) (Value.int _ _)) _ _ _); k_dflt (refine' b64_item ?k1 ?k2 ?_ ?k3 ?k4; (case k1 => omega); (case k2 => omega); (case k3 => with_unfolding_all rfl); (case k4 => (intro _; with_unfolding_all rfl)))) | (k_here; (with_reducible show wpAny _ _ (call (Value.builtin "list.append") [Value.ref _, Value.int _ _]) _ _ _); k_dflt (refine' app_ints ?k1 ?k2 ?k3 ?k4 ?k5 ?_; (case k1 => assumption); (case k2 => assumption); (case k3 => first | exact Upd.head (by assumption) | k_upd); (case k4 => assumption); (case k5 => walk_at "mar")); intro _ _ _ _; (try k_sweep)) | walk_at "mstep")); (all_goals (try dsimp only)))
  rename Fr _ _ _ _ => F
  rename News _ _ _ _ => N
  rename_i O _ _ _ _ _ _ _
  refine For_invV s.heap rfl rfl ?_ (hE := PassesOwn.never)
  ((repeat' (first | ((with_reducible show wpAny _ _ (binaryOp Operator.BitAnd _ _) _ _ _); first | (with_reducible refine and3 ?_) | (with_reducible refine and15 ?_) | (with_reducible refine and63 ?_) | (with_reducible refine and65535 ?_)) | ((with_reducible show wpAny _ _ (binaryOp Operator.LShift _ _) _ _ _); first | (with_reducible refine shl8 ?k1 ?k2 ?_; (case k1 => omega); (case k2 => omega)) | (with_reducible refine shl4 ?k1 ?k2 ?_; (case k1 => omega); (case k2 => omega)) | (with_reducible refine shl2 ?k1 ?k2 ?_; (case k1 => omega); (case k2 => omega))) | (with_reducible refine or256 ?k1 ?k2 ?k3 ?_; (case k1 => omega); (case k2 => omega); (case k3 => omega)) | ((with_reducible show wpAny _ _ (subscriptTail _ _ (Value.bytes _ _) (Value.int _ _)) _ _ _); k_dflt (refine' b64_item ?k1 ?k2 ?_ ?k3 ?k4; (case k1 => omega); (case k2 => omega); (case k3 => with_unfolding_all rfl); (case k4 => (intro _; with_unfolding_all rfl)))) | (k_here; (with_reducible show wpAny _ _ (call (Value.builtin "list.append") [Value.ref _, Value.int _ _]) _ _ _); k_dflt (refine' app_ints ?k1 ?k2 ?k3 ?k4 ?k5 ?_; (case k1 => assumption); (case k2 => assumption); (case k3 => first | exact Upd.head (by assumption) | k_upd); (case k4 => assumption); (case k5 => walk_at "mar")); intro _ _ _ _; (try k_sweep)) | walk_at "mstep")); (all_goals (try dsimp only)))
  refine KBw.pyIter_bytes ?_
  have hn1 := newL F
  have hn2 := newG F
  have hn3 := newN N
  obtain ⟨F, N⟩ := after0 F N (h' := _) fun b ob e => Heap.get?_push_of_some { cls := .type "bytes_iterator", data := .fields #[.bytes (byteArr bs) tb, .int 0 0] } e
  refine loopAt (KBw.walks (Room.deeper r).hd _ _ _) ⟨_, Heap.get?_push_size _ rfl, rfl, rfl⟩ (fun hb => hn1 (List.mem_singleton.mp hb)) hn2 hn3 F N
    (B2J bs O)
    ⟨[], [], [], 0, 0, _, _, by simp, by simp, rfl, .cons rfl (.cons rfl (.cons rfl (.cons rfl .nil))), by decide, by decide, by decide, rfl, .nil, by simp⟩ ?turn (fun b hb => .inl (List.mem_singleton.mp hb)) ?done
  case done =>
    rintro h tk m' news' ⟨gs, rem, vs, n, lc, tl, tlc, hg, hrem, hfl, hm, h0, h1, hlc, rfl, hI, hgl⟩ F N
    obtain ⟨u, rfl⟩ := hm.open
    have hgl' : gs.length ≤ 2000 := by
      have : (byteArr bs).size = bs.length := byteArr_size bs
      omega
    rw [byteArr_size, List.take_length] at hfl
    ((repeat' (first | ((with_reducible show wpAny _ _ (binaryOp Operator.BitAnd _ _) _ _ _); first | (with_reducible refine and3 ?_) | (with_reducible refine and15 ?_) | (with_reducible refine and63 ?_) | (with_reducible refine and65535 ?_)) | ((with_reducible show wpAny _ _ (binaryOp Operator.LShift _ _) _ _ _); first | (with_reducible refine shl8 ?k1 ?k2 ?_; (case k1 => omega); (case k2 => omega)) | (with_reducible refine shl4 ?k1 ?k2 ?_; (case k1 => omega); (case k2 => omega)) | (with_reducible refine shl2 ?k1 ?k2 ?_; (case k1 => omega); (case k2 => omega))) | (with_reducible refine or256 ?k1 ?k2 ?k3 ?_; (case k1 => omega); (case k2 => omega); (case k3 => omega)) | ((with_reducible show wpAny _ _ (subscriptTail _ _ (Value.bytes _ _) (Value.int _ _)) _ _ _); k_dflt (refine' b64_item ?k1 ?k2 ?_ ?k3 ?k4; (case k1 => omega); (case k2 => omega); (case k3 => with_unfolding_all rfl); (case k4 => (intro _; with_unfolding_all rfl)))) | (k_here; (with_reducible show wpAny _ _ (call (Value.builtin "list.append") [Value.ref _, Value.int _ _]) _ _ _); k_dflt (refine' app_ints ?k1 ?k2 ?k3 ?k4 ?k5 ?_; (case k1 => assumption); (case k2 => assumption); (case k3 => first | exact Upd.head (by assumption) | k_upd); (case k4 => assumption); (case k5 => walk_at "mar")); intro _ _ _ _; (try k_sweep)) | walk_at "mstep")); (all_goals (try dsimp only)))
    · rename Fr _ _ _ _ => F
      rename News _ _ _ _ => N
      rename IntsAre _ _ => hI2
      have hr2 : rem.length = 2 := by omega
      have e : ((List.map (fun g => b64c (numL g)) gs ++ [b64c (lc % 4 * 16)]) ++ [61]) ++ [61] = b64out gs rem := by
        unfold b64out; rw [if_pos hr2, ← hlc, hr2]; simp
      rw [e] at hI2
      refine KBa.make_K F N (Room.deeper r).hd (News.isList N (.head _)) hI2 (b64out_bd _ _) (by rw [← e]; simp; omega) (fun h' t' k' F' N' _ => ?_)
      subst hPost
      exact ⟨Keeps.of_fr F', gs, rem, t', hg, hrem, hfl, rfl⟩
    · rename Fr _ _ _ _ => F
      rename News _ _ _ _ => N
      rename IntsAre _ _ => hI2
      have hr2 : rem.length = 4 := by omega
      have e : (List.map (fun g => b64c (numL g)) gs ++ [b64c (lc % 16 * 4)]) ++ [61] = b64out gs rem := by
        unfold b64out; rw [if_neg (by omega), if_pos hr2, ← hlc, hr2]; simp
      rw [e] at hI2
      refine KBa.make_K F N (Room.deeper r).hd (News.isList N (.head _)) hI2 (b64out_bd _ _) (by rw [← e]; simp; omega) (fun h' t' k' F' N' _ => ?_)
      subst hPost
      exact ⟨Keeps.of_fr F', gs, rem, t', hg, hrem, hfl, rfl⟩
    · have e : List.map (fun g => b64c (numL g)) gs = b64out gs rem := by
        unfold b64out; rw [if_neg (by omega), if_neg (by omega)]; simp
      rw [e] at hI
      refine KBa.make_K F N (Room.deeper r).hd (News.isList N (.head _)) hI (b64out_bd _ _) (by rw [← e]; simp; omega) (fun h' t' k' F' N' _ => ?_)
      subst hPost
      exact ⟨Keeps.of_fr F', gs, rem, t', hg, hrem, hfl, rfl⟩
  case turn =>
    clear F N
    intro i v m₁ news₁ h tk own R0 hR
    rintro hi ⟨c, tc, hc, rfl⟩ ⟨gs, rem, vs, n, lc, tl, tlc, hg, hrem, hfl, hm, h0, h1, hlc, rfl, hI, hgl⟩ hne hown F N
    have hc8 := c.toNat_lt
    have hoff : ∀ p ∈ own, p.1 ≠ O := fun p hp e => hne (O, listOf vs.toArray n) (.head _) (e ▸ hown p hp)
    have hIne : O ≠ _ := hne (O, listOf vs.toArray n) (.head _)
    have hsz : (byteArr bs).size = bs.length := byteArr_size bs
    have hbi : bs[i]? = some (c.toNat : Int) := by
      unfold byteArr at hc
      simp only [List.getElem?_toArray, List.getElem?_map, Option.map_eq_some_iff] at hc
      obtain ⟨x, hx, e⟩ := hc
      rw [hx, ← e]
      have := hb x (List.mem_of_getElem? hx)
      rw [byte_back this.1 this.2]
    have hfl2 : gs.flatten ++ (rem ++ bitsL (c.toNat : Int) 8) = byteBits (bs.take (i + 1)) := by
      rw [← List.append_assoc, hfl, List.take_add_one, hbi]
      unfold byteBits
      simp
    have hlc2 : (lc * 256 + (c.toNat : Int)) % 65536 % 2 ^ (rem ++ bitsL (c.toNat : Int) 8).length = numL (rem ++ bitsL (c.toNat : Int) 8) := by
      rw [numL_app, bitsL_num _ hc8, List.length_append, bitsL_len]
      exact low_core2 hrem (numL_bd rem).1 (numL_bd rem).2 (by omega) (by omega) hlc
    obtain ⟨u, rfl⟩ := hm.open
    simp only [List.cons_append, List.nil_append] at N
    ((repeat' (first | ((with_reducible show wpAny _ _ (binaryOp Operator.BitAnd _ _) _ _ _); first | (with_reducible refine and3 ?_) | (with_reducible refine and15 ?_) | (with_reducible refine and63 ?_) | (with_reducible refine and65535 ?_)) | ((with_reducible show wpAny _ _ (binaryOp Operator.LShift _ _) _ _ _); first | (with_reducible refine shl8 ?k1 ?k2 ?_; (case k1 => omega); (case k2 => omega)) | (with_reducible refine shl4 ?k1 ?k2 ?_; (case k1 => omega); (case k2 => omega)) | (with_reducible refine shl2 ?k1 ?k2 ?_; (case k1 => omega); (case k2 => omega))) | (with_reducible refine or256 ?k1 ?k2 ?k3 ?_; (case k1 => omega); (case k2 => omega); (case k3 => omega)) | ((with_reducible show wpAny _ _ (subscriptTail _ _ (Value.bytes _ _) (Value.int _ _)) _ _ _); k_dflt (refine' b64_item ?k1 ?k2 ?_ ?k3 ?k4; (case k1 => omega); (case k2 => omega); (case k3 => with_unfolding_all rfl); (case k4 => (intro _; with_unfolding_all rfl)))) | (k_here; (with_reducible show wpAny _ _ (call (Value.builtin "list.append") [Value.ref _, Value.int _ _]) _ _ _); k_dflt (refine' app_ints ?k1 ?k2 ?k3 ?k4 ?k5 ?_; (case k1 => assumption); (case k2 => assumption); (case k3 => first | exact Upd.head (by assumption) | k_upd); (case k4 => assumption); (case k5 => walk_at "mar")); intro _ _ _ _; (try k_sweep)) | walk_at "mstep")); (all_goals (try dsimp only)))
    rename Fr _ _ _ _ => F
    rename News _ _ _ _ => N
    refine While_own (B2W bs O own lc c.toNat i) F N
      ⟨gs, rem ++ bitsL (c.toNat : Int) 8, vs, n, _, _, rfl, hg, by rw [List.length_append, bitsL_len]; omega, hfl2, .cons rfl (.consI rfl (by rw [List.length_append, bitsL_len]; omega) (.cons rfl (.cons rfl .nil))), hlc2, rfl, hI, by omega⟩ ?_ PassesOwn.never
    clear F N
    intro R1 k m₂ news₂ h₂ tk₂ hR1 F N
    rintro ⟨gs', rem', vs', n', tl', tlc', rfl, hg', hrem', hfl', hm', hlc', rfl, hI', hgl'⟩
    obtain ⟨u', rfl⟩ := hm'.open
    ((repeat' (first | ((with_reducible show wpAny _ _ (binaryOp Operator.BitAnd _ _) _ _ _); first | (with_reducible refine and3 ?_) | (with_reducible refine and15 ?_) | (with_reducible refine and63 ?_) | (with_reducible refine and65535 ?_)) | ((with_reducible show wpAny _ _ (binaryOp Operator.LShift _ _) _ _ _); first | (with_reducible refine shl8 ?k1 ?k2 ?_; (case k1 => omega); (case k2 => omega)) | (with_reducible refine shl4 ?k1 ?k2 ?_; (case k1 => omega); (case k2 => omega)) | (with_reducible refine shl2 ?k1 ?k2 ?_; (case k1 => omega); (case k2 => omega))) | (with_reducible refine or256 ?k1 ?k2 ?k3 ?_; (case k1 => omega); (case k2 => omega); (case k3 => omega)) | ((with_reducible show wpAny _ _ (subscriptTail _ _ (Value.bytes _ _) (Value.int _ _)) _ _ _); k_dflt (refine' b64_item ?k1 ?k2 ?_ ?k3 ?k4; (case k1 => omega); (case k2 => omega); (case k3 => with_unfolding_all rfl); (case k4 => (intro _; with_unfolding_all rfl)))) | (k_here; (with_reducible show wpAny _ _ (call (Value.builtin "list.append") [Value.ref _, Value.int _ _]) _ _ _); k_dflt (refine' app_ints ?k1 ?k2 ?k3 ?k4 ?k5 ?_; (case k1 => assumption); (case k2 => assumption); (case k3 => first | exact Upd.head (by assumption) | k_upd); (case k4 => assumption); (case k5 => walk_at "mar")); intro _ _ _ _; (try k_sweep)) | walk_at "mstep")); (all_goals (try dsimp only)))
    · rename Fr _ _ _ _ => F
      rename News _ _ _ _ => N
      rename IntsAre (_ ++ _) _ => hI2
      have h6 : 6 ≤ rem'.length := by omega
      obtain ⟨e1, e2⟩ := six_top (by omega) h6 hrem' hlc'
      rw [e1] at hI2 N
      refine hR1 _ _ ?_
      refine ⟨_, _, _, _, (rem'.drop 6).length, rfl, F, N, by simp; omega, gs' ++ [rem'.take 6], rem'.drop 6, _, _, _, _, rfl, ?_, by simp; omega, ?_, .cons rfl (.consI rfl (by simp; omega) (.cons rfl (.cons rfl .nil))), e2, rfl, ?_, ?_⟩
      · intro g hgm
        rcases List.mem_append.mp hgm with q | q
        · exact hg' g q
        · rw [List.mem_singleton.mp q]; simp; omega
      · rw [← hfl', List.flatten_append]; simp
      · rw [List.map_append]; exact hI2
      · have hq : (gs'.flatten ++ rem').length = (byteBits (bs.take (i + 1))).length := by rw [hfl']
        rw [List.length_append, flat6 _ hg', byteBits_len, List.length_take] at hq
        rw [List.length_append, List.length_singleton]
        omega
    · refine hR _ _ ?_
      refine ⟨_, _, _, [(O, listOf vs'.toArray n')], rfl, F, N, ?_, gs', rem', vs', n', _, _, _, hg', by omega, hfl', .cons rfl (.cons rfl (.cons rfl (.cons rfl .nil))), by omega, by omega, hlc', rfl, hI', by omega⟩
      intro p hp; rw [List.mem_singleton.mp hp]; exact hne (O, listOf vs.toArray n) (.head _)
/-! 12name -/
set_option maxHeartbeats 8000000 in
theorem b64encode_spec (w : World) {mean mg mb} {A : Around} {s : Shared} (G : Gd w mean mg mb s.heap) (r : Room 3 A) (bs : List Int) (hb : ∀ b ∈ bs, 0 ≤ b ∧ b < 256) (hz : bs.length ≤ 1000) (tb : Tok) (E : Value → Shared → Prop) :
    wpAny (model pg w) A (call (.ref 68) [.bytes (byteArr bs) tb]) (fun y s' => Keeps s s' ∧ ∃ gs rem t, (∀ g ∈ gs, g.length = 6) ∧ rem.length < 6 ∧ gs.flatten ++ rem = byteBits bs ∧ y = .bytes (byteArr (b64out gs rem)) t) E s := by
  have KX := G.X
  have KT := G.T
  refine wpAny_call ?_
  refine enter (news := []) [(Str.ofString "s", .bytes (byteArr bs) tb), (Str.ofString "altchars", .none)] KX KT.nolimit (fun _ _ e => e) (Nat.le_refl _) (fun _ h => nomatch h) (by k_dflt k_is) (by k_dflt k_is) r.lt (binds_K KX rfl (by k_dflt k_is) rfl rfl rfl) (locs rfl) ?_ (by decide) rfl rfl rfl
  intro L h₁ tk F N kp' hL
  (try dsimp only)
  ((repeat' (walk_at "mstep")); (all_goals (try dsimp only)))
  refine use (b2a_spec w (G.keeps F.keep) (Room.deeper r) bs hb hz _ _) fun y h2 tk2 k2 hq => ?_
  obtain ⟨gs, rem, t, hg, hrem, hfl, rfl⟩ := hq
  obtain ⟨F, N⟩ := after0 F N k2
  clear k2
  ((repeat' (walk_at "mstep")); (all_goals (try dsimp only)))
  rename Fr _ _ _ _ => F
  exact ⟨Keeps.of_fr F, gs, rem, t, hg, hrem, hfl, rfl⟩

theorem b64c_ascii : ∀ i : Int, 0 ≤ b64c i ∧ b64c i < 128 := by
  intro i
  unfold b64c
  have h : ∀ n : Nat, n < 64 → b64tab.getD n 0 < 128 := by decide +kernel
  by_cases hi : i.toNat < 64
  · have := h _ hi; omega
  · rw [List.getD, List.getElem?_eq_none (by show 64 ≤ _; omega)]; simp
theorem b64out_ascii (gs : List (List Bool)) (rem : List Bool) : ∀ x ∈ b64out gs rem, 0 ≤ x ∧ x < 128 := by
  intro x hx
  unfold b64out at hx
  rcases List.mem_append.mp hx with hx | hx
  · obtain ⟨g, _, rfl⟩ := List.mem_map.mp hx; exact b64c_ascii _
  · split at hx
    · simp only [List.mem_cons, List.not_mem_nil, or_false] at hx
      rcases hx with rfl | rfl | rfl
      · exact b64c_ascii _
      · decide
      · decide
    · split at hx
      · simp only [List.mem_cons, List.not_mem_nil, or_false] at hx
        rcases hx with rfl | rfl
        · exact b64c_ascii _
        · decide
      · cases hx
/-- a text of codes -/
noncomputable def cS (l : List Int) : Str := ⟨(l.map (·.toNat)).toArray⟩
theorem u8_back {n : Int} (h : 0 ≤ n ∧ n < 128) : (n.toNat.toUInt8).toNat = n.toNat := by
  have := byte_back h.1 (by omega : n < 256)
  omega
/-- decode of what base 64 gave -/
theorem dec_b64 {prog : Program} {w : World} {A : Around} {E : Value → Shared → Prop} {s : Shared} {Q : Value → Shared → Prop} {ns : List Int} {t te : Tok} (hne : ns ≠ []) (hb : ∀ x ∈ ns, 0 ≤ x ∧ x < 128) (hz : ns.length ≤ 1000)
    (h : ∀ t' k, Q (.str (cS ns) t') { s with toks := k }) : wpAny (model prog w) A (call (.builtin "bytes.decode") [.bytes (byteArr ns) t, .str (PySem.Str.ofString "ascii") te]) Q E s := by
  refine dec_call (bs := ns.map fun n => n.toNat.toUInt8) (by simpa using hne) ?_ (by simpa using hz) ?_
  · intro x hx
    obtain ⟨n, hn, rfl⟩ := List.mem_map.mp hx
    have := hb n hn
    rw [u8_back this]; omega
  · intro t' k
    have e : (ns.map fun n => n.toNat.toUInt8).map (·.toNat) = ns.map (·.toNat) := by
      rw [List.map_map]
      exact List.map_congr_left fun n hn => u8_back (hb n hn)
    rw [e]; exact h t' k

noncomputable def nameL (o : Int) : List Int := [b64c (o / 4), b64c (o % 4 * 16), 61, 61]
noncomputable def nameF (o : Int) : Str := cS (nameL o)
set_option maxHeartbeats 8000000 in
theorem name_spec (w : World) {mean mg mb} {A : Around} {s : Shared} (G : Gd w mean mg mb s.heap) (r : Room 4 A) (o : Int) (h0 : 0 ≤ o) (h1 : o < 256) (t1 : Tok) (E : Value → Shared → Prop) :
    wpAny (model pg w) A (call (.ref 254) [.int o t1]) (fun y s' => Keeps s s' ∧ IsS (nameF o) y) E s := by
  have KX := G.X
  have KT := G.T
  refine wpAny_call ?_
  refine enter (news := []) [(Str.ofString "octet", .int o t1)] KX KT.nolimit (fun _ _ e => e) (Nat.le_refl _) (fun _ h => nomatch h) (by k_dflt k_is) (by k_dflt k_is) r.lt (BindsTo.of_eq rfl) (locs rfl) ?_ (by decide) rfl rfl rfl
  intro L h₁ tk F N kp' hL
  (try dsimp only)
  ((repeat' (walk_at "mstep")); (all_goals (try dsimp only)))
  rename Fr _ _ _ _ => F
  rename News _ _ _ _ => N
  refine KBa.make_K (vs := [.int o t1]) (ns := [o]) F N (Room.deeper r).hd (News.isList N (.head _)) (.cons _ _ .nil) (fun x hx => by rw [List.mem_singleton.mp hx]; exact ⟨h0, h1⟩) (by simp) (fun h' t' k' F' N' _ => ?_)
  clear F N
  ((repeat' (walk_at "mstep")); (all_goals (try dsimp only)))
  refine use (b64encode_spec w (G.keeps F'.keep) (Room.deeper r) [o] (fun x hx => by rw [List.mem_singleton.mp hx]; exact ⟨h0, h1⟩) (by simp) _ _) fun y h2 tk2 k2 hq => ?_
  obtain ⟨gs, rem, t, hg, hrem, hfl, rfl⟩ := hq
  obtain ⟨F, N⟩ := after0 F' N' k2
  clear k2
  have hout : b64out gs rem = nameL o := by
    have hl := congrArg List.length hfl
    rw [List.length_append, flat6 _ hg, byteBits_len, List.length_singleton] at hl
    have hgl : gs.length = 1 := by omega
    have hrl : rem.length = 2 := by omega
    obtain ⟨g, rfl⟩ := List.length_eq_one_iff.mp hgl
    have hf2 : g ++ rem = bitsL o 8 := by
      have : byteBits [o] = bitsL o 8 := by unfold byteBits; simp
      rw [← this, ← hfl]; simp
    have hn := congrArg numL hf2
    obtain ⟨c, rfl⟩ : ∃ c : Nat, o = (c : Int) := ⟨o.toNat, by omega⟩
    rw [numL_app, bitsL_num c (by omega), hrl] at hn
    have bb := numL_bd rem
    rw [hrl] at bb
    unfold b64out nameL
    rw [if_pos hrl]
    have e1 : numL g = (c : Int) / 4 := by omega
    have e2 : numL rem = (c : Int) % 4 := by omega
    rw [e2, ← e1]; rfl
  ((repeat' (walk_at "mstep")); (all_goals (try dsimp only)))
  rw [hout]
  refine dec_b64 (by unfold nameL; simp) ?_ (by unfold nameL; simp) ?_
  · rw [← hout]; exact b64out_ascii _ _
  · intro t' k
    exact ⟨Keeps.of_fr F, t', rfl⟩
/-! 14conv -/
/-- a text whose signs the patterns let by -/
noncomputable def TameS (x : Str) : Prop := (∀ i, i < x.cps.size → Tame (x.cps.getD i 0)) ∧ x.cps.size < 2 ^ 20
set_option maxHeartbeats 8000000 in
theorem conv_spec (w : World) {mean mg mb} {A : Around} {s : Shared} (G : Gd w mean mg mb s.heap) (r : Room 1 A) (a : Value) (x : Str) (hx : TameS x) (b : Bool) (t1 : Tok) (E : Value → Shared → Prop) :
    wpAny (model pg w) A (call (.ref 135) [a, .str x t1] [(Str.ofString "name", .bool b)]) (fun y s' => Keeps s s' ∧ y = .str x t1) E s := by
  have KX := G.X
  have KT := G.T
  cases b
  all_goals (
    refine wpAny_call ?_
    refine enter (news := []) [(Str.ofString "self", a), (Str.ofString "value", .str x t1), (Str.ofString "name", .bool _)] KX KT.nolimit (fun _ _ e => e) (Nat.le_refl _) (fun _ h => nomatch h) (by k_dflt k_is) (by k_dflt k_is) r.lt (BindsTo.of_eq rfl) (locs rfl) ?_ (by decide) rfl rfl rfl
    intro L h₁ tk F N kp' hL
    (try dsimp only)
    ((repeat' ((fail_if_success (with_reducible first | show wpAny _ _ (getMethod (Value.ref _) (Str.ofString "search") _) _ _ _)); (walk_at "mstep"))); (all_goals (try dsimp only))))
  · rename Fr _ _ _ _ => F
    rename News _ _ _ _ => N
    have hP := F.keep _ _ (KX 113 _ (by k_dflt k_is))
    have hC := F.keep _ _ (KX 112 _ (by k_dflt k_is))
    refine pat_method hP rfl rfl ?_
    ((repeat' (walk_at "mstep")); (all_goals (try dsimp only)))
    refine pat_search (code := codeV) hP rfl rfl rfl rfl rfl hC rfl (by decide +kernel) (no_V hx.1) (Nat.lt_of_lt_of_le hx.2 (by decide)) ?_
    ((repeat' (walk_at "mstep")); (all_goals (try dsimp only)))
    exact ⟨Keeps.of_fr F, rfl⟩
  · rename Fr _ _ _ _ => F
    rename News _ _ _ _ => N
    have hP := F.keep _ _ (KX 108 _ (by k_dflt k_is))
    have hC := F.keep _ _ (KX 107 _ (by k_dflt k_is))
    refine pat_method hP rfl rfl ?_
    ((repeat' (walk_at "mstep")); (all_goals (try dsimp only)))
    refine pat_search (code := codeN) hP rfl rfl rfl rfl rfl hC rfl (by decide +kernel) (no_N hx.1) (Nat.lt_of_lt_of_le hx.2 (by decide)) ?_
    ((repeat' (walk_at "mstep")); (all_goals (try dsimp only)))
    exact ⟨Keeps.of_fr F, rfl⟩
/-! 15hdr -/
/-- a Headers object, its dict, its list -/
structure Inst (h : Heap) (t d hl : Addr) : Prop where
  at_ : h.get? t = some (instObj 236 d)
  hs : ∃ hsh tk n, h.get? d = some (dictOf [⟨hsh, .str (Str.ofString "_headers") tk, .ref hl⟩] n)
theorem Inst.keeps {h h' : Heap} {t d hl : Addr} (I : Inst h t d hl) (k : ∀ b o, h.get? b = some o → h'.get? b = some o) : Inst h' t d hl := ⟨k _ _ I.at_, let ⟨a, b, n, e⟩ := I.hs; ⟨a, b, n, k _ _ e⟩⟩
section
variable {prog : Program} {w : World} {A : Around} {E : Value → Shared → Prop} {s : Shared} {g : Heap} {L t d hl : Addr} {m : Str → Option Value}
theorem hdr_get {expr : Bool} {Q : Value → Shared → Prop} (F : Fr g L s.heap m) (X : (hd.heap_1 w.params).In g) (I : Inst s.heap t d hl) (h : Q (.ref hl) { s with toks := s.toks + 1 }) :
    wpAny (model prog w) A (getAttr (.ref t) (Str.ofString "_headers") expr) Q E s := by
  obtain ⟨hsh, tk, n, e⟩ := I.hs
  exact get_own F X (I := ⟨I.at_, rfl, rfl, e⟩) (hg := by k_dflt k_is) (hh := by k_dflt k_is) (ha := by k_dflt k_is) (hn := by k_dflt k_is) (hl := rfl) (hv := rfl) h
end
/-! 16keys -/
/-- a heap with these places hidden -/
noncomputable def hideL (h : Heap) : List Addr → Heap
  | [] => h
  | a :: r => (hideL h r).hide a
theorem hideL_size (h : Heap) : ∀ l, (hideL h l).objs.size = h.objs.size
  | [] => rfl
  | a :: r => (Heap.hide_size _ _).trans (hideL_size h r)
theorem hideL_off (h : Heap) {b : Addr} : ∀ {l}, b ∉ l → (hideL h l).get? b = h.get? b
  | [], _ => rfl
  | a :: r, hb => (Heap.hide_ne _ (fun e => hb (by rw [e]; exact .head _))).trans (hideL_off h fun q => hb (.tail _ q))
theorem hideL_in (h : Heap) {b : Addr} : ∀ {l}, b ∈ l → (hideL h l).get? b = none
  | a :: r, hb => by
    by_cases e : b = a
    · subst e; exact Heap.hide_self _ _
    · rcases List.mem_cons.mp hb with q | q
      · exact absurd q e
      · exact (Heap.hide_ne _ e).trans (hideL_in h q)
theorem of_hideL {h : Heap} {l : List Addr} {b : Addr} {o : Obj} (e : (hideL h l).get? b = some o) : h.get? b = some o := by
  by_cases q : b ∈ l
  · rw [hideL_in h q] at e; cases e
  · rw [hideL_off h q] at e; exact e
theorem Gd.hideL {w mean mg mb} {g h : Heap} {l : List Addr} (G : Gd w mean mg mb g) (k : ∀ b o, g.get? b = some o → h.get? b = some o) (ha : ∀ a ∈ l, g.get? a = none) : Gd w mean mg mb (hideL h l) :=
  G.keeps fun b o e => (hideL_off h (fun q => by rw [ha b q] at e; cases e)).trans (k b o e)

/-- a row of the table -/
noncomputable def Row (p : Addr × Obj) (r : Str × Str) : Prop := p.2.cls = .type "tuple" ∧ ∃ tk tv n, p.2.data = .seq #[.str r.1 tk, .str r.2 tv] n
abbrev refsOf (tups : List (Addr × Obj)) : Array Value := (tups.map fun p => Value.ref p.1).toArray
structure Tab (h : Heap) (t d hl : Addr) (tups : List (Addr × Obj)) (rows : List (Str × Str)) : Prop where
  inst : Inst h t d hl
  lst : ∃ n, h.get? hl = some (listOf (refsOf tups) n)
  tup : ∀ p ∈ tups, h.get? p.1 = some p.2
  row : Paired Row tups rows
  len : tups.length ≤ 64
theorem Tab.keeps {h h' : Heap} {t d hl : Addr} {tups rows} (I : Tab h t d hl tups rows) (k : ∀ b o, h.get? b = some o → h'.get? b = some o) : Tab h' t d hl tups rows :=
  ⟨I.inst.keeps k, let ⟨n, e⟩ := I.lst; ⟨n, k _ _ e⟩, fun p hp => k _ _ (I.tup p hp), I.row, I.len⟩
theorem paired_at {α β : Type} {F : α → β → Prop} {l₁ : List α} {l₂ : List β} (h : Paired F l₁ l₂) : ∀ (i : Nat) a, l₁[i]? = some a → ∃ b, l₂[i]? = some b ∧ F a b := by
  induction h with
  | nil => intro i a e; cases i <;> cases e
  | cons hF _ ih =>
    intro i a e
    cases i with
    | zero => cases e; exact ⟨_, rfl, hF⟩
    | succ i => exact ih i a e

section
variable {prog : Program} {w : World} {A : Around} {E : Value → Shared → Prop} {s : Shared} {g : Heap} {L t d hl : Addr} {m : Str → Option Value} {news tups : List (Addr × Obj)} {rows : List (Str × Str)}
theorem meth_keys {pl : Sem Bool} {Q : Value × List Value → Shared → Prop} (F : Fr g L s.heap m) (X : (hd.heap_1 w.params).In g) (I : Inst s.heap t d hl) (h : Q (.ref 188, [.ref t]) s) :
    wpAny (model prog w) A (getMethod (.ref t) (Str.ofString "keys") pl) Q E s := by
  obtain ⟨hsh, tk, n, e⟩ := I.hs
  exact method_inst F X (I := ⟨I.at_, rfl, rfl, e⟩) (hg := by k_dflt k_is) (hf := by k_dflt k_is) (ht := by k_dflt k_is) (hl := rfl) h
theorem meth_get {pl : Sem Bool} {Q : Value × List Value → Shared → Prop} (F : Fr g L s.heap m) (X : (hd.heap_1 w.params).In g) (I : Inst s.heap t d hl) (h : Q (.ref 183, [.ref t]) s) :
    wpAny (model prog w) A (getMethod (.ref t) (Str.ofString "get") pl) Q E s := by
  obtain ⟨hsh, tk, n, e⟩ := I.hs
  exact method_inst F X (I := ⟨I.at_, rfl, rfl, e⟩) (hg := by k_dflt k_is) (hf := by k_dflt k_is) (ht := by k_dflt k_is) (hl := rfl) h
theorem meth_conv {pl : Sem Bool} {Q : Value × List Value → Shared → Prop} (F : Fr g L s.heap m) (X : (hd.heap_1 w.params).In g) (I : Inst s.heap t d hl) (h : Q (.ref 135, [.ref t]) s) :
    wpAny (model prog w) A (getMethod (.ref t) (Str.ofString "_convert_string_type") pl) Q E s := by
  obtain ⟨hsh, tk, n, e⟩ := I.hs
  exact method_inst F X (I := ⟨I.at_, rfl, rfl, e⟩) (hg := by k_dflt k_is) (hf := by k_dflt k_is) (ht := by k_dflt k_is) (hl := rfl) h
end

theorem off1_mem {D : Addr} : ∀ {l : List (Addr × Obj)}, LCg.Off1 D l → ∀ p ∈ l, p.1 ≠ D
  | [], _, _, h => nomatch h
  | _ :: _, x, p, h => by
    rcases List.mem_cons.mp h with rfl | h
    · exact x.1
    · exact off1_mem x.2 p h
theorem strs_snoc {ys : List Value} {l : List Str} (h : StrsAre ys l) (x : Str) (t : Tok) : StrsAre (ys ++ [.str x t]) (l ++ [x]) := by
  induction h with
  | nil => exact .cons _ _ .nil
  | cons y t' _ ih => exact .cons _ _ ih
theorem keys_rest {prog : Program} {w : World} {A : Around} {s : Shared} {h₀ : Heap} {L : Addr} {m : Str → Option Value} {env : Env} {x x₂ : Str} {pe : Pos} {scope : Scope} {cl : List (Str × Addr)} {S : List (Addr × Obj) → Prop} {P : Nat → Value → Prop} {Fin : List Value → List (Addr × Obj) → Prop}
    {tups : List (Addr × Obj)} {rows : List (Str × Str)} (hP : ∀ i v, P i v → ∃ p rr, p ∈ tups ∧ rows[i]? = some rr ∧ Row p rr ∧ v = .ref p.1) (fin : ∀ ys, StrsAre ys (rows.map (·.1)) → Fin ys tups) (hS : S tups)
    (hk : ∀ C, (compEnvC scope cl C env).scope.kind = .function) (hx : ∀ C, (compEnvC scope cl C env).kindOf x = some .local) (hl : ∀ C, (compEnvC scope cl C env).locals = C) (hd : (x == ("__debug__" : Str)) = false) :
    ∀ k i ys, i + k = rows.length → StrsAre ys ((rows.take i).map (·.1)) → LCp.CompRestP prog w A h₀ L m env (.Name x pe) x x₂ scope cl s S P Fin k i ys tups := by
  intro k
  induction k with
  | zero =>
    intro i ys hi hY
    refine LCp.CompRestP.zero (fin ys ?_)
    have : rows.take i = rows := List.take_of_length_le (by omega)
    rw [this] at hY; exact hY
  | succ k ih =>
    intro i ys hi hY
    refine LCp.CompRestP.succ fun v hv => ?_
    obtain ⟨p, rr, hp, hr, ⟨hc, tk, tv, n, hdat⟩, rfl⟩ := hP i v hv
    refine ⟨p.1, p.2, _, _, n, rfl, hp, hc, hdat, ?_⟩
    intro I oI C oC D m₂ h tk' E' hn h1 h2 F N hoff hne
    refine nmB_local (h₃ := h) (m := m₂) (fun _ _ e => e) ?_ h1 ?_ (hk C) (hx C) hd
    · rw [hl]
      exact LCg.NsObj.ns hn (N _ (.tail _ (.head _))).1
    · refine ⟨h, tk', tups, rfl, F, N, hoff, hS, ih (i + 1) _ (by omega) ?_⟩
      rw [List.take_add_one, hr, List.map_append]
      exact strs_snoc hY _ _

set_option maxHeartbeats 8000000 in
theorem keys_spec (w : World) {mean mg mb} {A : Around} {s : Shared} {g : Heap} {t d hl : Addr} {tups rows} (G : Gd w mean mg mb g) (kp : ∀ b o, g.get? b = some o → s.heap.get? b = some o) (off : ∀ p ∈ tups, g.get? p.1 = none) (r : Room 1 A)
    (T : Tab s.heap t d hl tups rows) (E : Value → Shared → Prop) :
    wpAny (model pg w) A (call (.ref 188) [.ref t]) (fun y s' => Keeps s s' ∧ ∃ D ys n, y = .ref D ∧ s.heap.get? D = none ∧ s'.heap.get? D = some (listOf ys n) ∧ StrsAre ys.toList (rows.map (·.1))) E s := by
  have G' : Gd w mean mg mb (hideL s.heap (tups.map (·.1))) := G.hideL kp (fun a ha => by obtain ⟨p, hp, rfl⟩ := List.mem_map.mp ha; exact off p hp)
  have KX := G'.X
  have KT := G'.T
  refine wpAny_call ?_
  refine enter (news := tups) [(Str.ofString "self", .ref t)] KX KT.nolimit (fun _ _ e => of_hideL e) (Nat.le_of_eq (hideL_size _ _)) (fun p hp => ⟨T.tup p hp, hideL_in _ (List.mem_map.mpr ⟨p, hp, rfl⟩)⟩) (by k_dflt k_is) (by k_dflt k_is) r.lt (BindsTo.of_eq rfl) (locs rfl) ?_ (by decide) rfl rfl rfl
  intro L h₁ tk F N kp' hL
  (try dsimp only)
  have T1 := T.keeps kp'
  ((repeat' (walk_at "mstep")); (all_goals (try dsimp only)))
  obtain ⟨n0, el⟩ := T.lst
  have hlo : hl ∉ tups.map (·.1) := fun q => by
    obtain ⟨p, hp, e⟩ := List.mem_map.mp q
    have a := T.tup p hp
    rw [e, el] at a
    obtain ⟨k, hk⟩ := List.getElem?_of_mem hp
    obtain ⟨rr, _, hr, _⟩ := paired_at T.row k p hk
    rw [← Option.some.inj a] at hr
    have hr' : (Value.type "list" : Value) = .type "tuple" := hr
    simp at hr'
  have hbase : (hideL s.heap (tups.map (·.1))).IsList hl (refsOf tups) := ⟨_, (hideL_off _ hlo).trans el, rfl, _, rfl⟩
  refine LCp.ListComp_P (cl := []) F (by rfl) (by decide) rfl (by decide) rfl rfl (by decide) ?_
  ((repeat' (walk_at "mstep")); (all_goals (try dsimp only)))
  refine hdr_get F KX T1.inst ?_
  refine LCp.SrcLP.base (Room.deeper r).hd F N hbase (by simp; have := T.len; exact Nat.le_trans this (by decide)) (fun g' => ?_)
  refine keys_rest (rows := rows) (fun i v hv => ?_) (fun ys hY => ?_) (.inl hbase) (fun _ => rfl) (fun _ => rfl) (fun _ => rfl) (by decide) _ 0 [] (by simp; exact T.row.length) .nil
  · have hv' : (tups.map fun p => Value.ref p.1)[i]? = some v := by simpa using hv
    rw [List.getElem?_map] at hv'
    cases hp : tups[i]? with
    | none => rw [hp] at hv'; cases hv'
    | some p =>
      rw [hp] at hv'
      obtain ⟨rr, hr, hR⟩ := paired_at T.row i p hp
      exact ⟨p, rr, List.mem_of_getElem? hp, hr, hR, (Option.some.inj hv').symm⟩
  · intro D h tk F' N' hO
    have kk : ∀ b o, s.heap.get? b = some o → h.get? b = some o := fun b o e => by
      by_cases q : b ∈ tups.map (·.1)
      · obtain ⟨p, hp, rfl⟩ := List.mem_map.mp q
        rw [T.tup p hp] at e
        rw [← Option.some.inj e]
        exact (N' p (.tail _ hp)).1
      · exact F'.keep b o ((hideL_off _ q).trans e)
    refine ⟨⟨h, tk, rfl, kk⟩, D, ys.toArray, ys.length, rfl, ?_, (N' _ (.head _)).1, hY⟩
    cases q : s.heap.get? D with
    | none => rfl
    | some o =>
      by_cases z : D ∈ tups.map (·.1)
      · obtain ⟨p, hp, e⟩ := List.mem_map.mp z
        exact absurd e (off1_mem hO p hp)
      · have := (N' _ (.head _)).2.2
        rw [hideL_off _ z, q] at this; cases this
/-! 17get -/
/-- lower signs -/
noncomputable def low (x : Str) : Str := ⟨x.cps.map lo1⟩
theorem tame_lo1 {c : Nat} (h : Tame c) : Tame (lo1 c) := by
  obtain ⟨a, b⟩ := h
  unfold lo1
  constructor <;> split <;> omega
theorem TameS.ascii {x : Str} (h : TameS x) : ∀ c ∈ x.cps.toList, c < 128 := by
  intro c hc
  obtain ⟨i, hi⟩ := List.getElem?_of_mem hc
  have hi' : x.cps[i]? = some c := by rw [← Array.getElem?_toList]; exact hi
  have hlt : i < x.cps.size := (Array.getElem?_eq_some_iff.mp hi').1
  have := h.1 i hlt
  have e : x.cps.getD i 0 = c := by rw [Array.getD_eq_getD_getElem?, hi']; rfl
  rw [e] at this
  have := this.2; omega
theorem TameS.low {x : Str} (h : TameS x) : TameS (low x) := by
  refine ⟨fun i hi => ?_, ?_⟩
  · have hi' : i < x.cps.size := by unfold Mine.low at hi; simpa using hi
    have := h.1 i hi'
    have e : (Mine.low x).cps.getD i 0 = lo1 (x.cps.getD i 0) := by
      unfold Mine.low
      simp [Array.getD_eq_getD_getElem?, Array.getElem?_eq_getElem hi']
    rw [e]
    exact tame_lo1 this
  · unfold Mine.low; simpa using h.2
theorem lower_T {prog : Program} {w : World} {A : Around} {E : Value → Shared → Prop} {s : Shared} {x : Str} {t : Tok} {Q : Value → Shared → Prop} (hx : TameS x) (h : Q (.str (low x) s.toks) { s with toks := s.toks + 1 }) :
    wpAny (model prog w) A (call (.builtin "str.lower") [.str x t]) Q E s := by
  refine SCL.lower ?_ fun _ => ?_
  · have := hx.2
    exact Nat.le_of_lt (Nat.lt_of_lt_of_le this (by decide))
  · rw [lower_ascii hx.ascii]; exact h
/-- the loop over the rows of a table that the base holds -/
noncomputable def valsOf (p : Addr × Obj) : Array Value := match p.2.data with
  | .seq vs _ => vs
  | _ => #[]
structure TabL (h : Heap) (hl : Addr) (tups : List (Addr × Obj)) (rows : List (Str × Str)) : Prop where
  lst : ∃ n, h.get? hl = some (listOf (refsOf tups) n)
  tup : ∀ p ∈ tups, h.get? p.1 = some p.2
  row : Paired Row tups rows
theorem Tab.toL {h : Heap} {t d hl : Addr} {tups rows} (T : Tab h t d hl tups rows) : TabL h hl tups rows := ⟨T.lst, T.tup, T.row⟩
theorem loopT {prog : Program} {w : World} {A : Around} {E : Value → Shared → Prop} {s : Shared} {g : Heap} {env : Env} {m : Str → Option Value} {news : List (Addr × Obj)} {elts : List Expr} {k1 : Nat} {p1 : Pos} {body : List Stmt} {Q : Flow → Shared → Prop}
    {hl L : Addr} {tups rows} (T : TabL g hl tups rows) (hh : A.handled = none) (F : Fr g L s.heap m) (N : News g L s.heap news)
    (J : Nat → (Str → Option Value) → List (Addr × Obj) → Prop) (h0 : J 0 m news)
    (turn : ∀ i p kk vv tk tv m₁ news₁ h tk' own I Tt R, (∀ f s', TurnEnd g L I own (J (i + 1)) s Q f s' → R f s') → tups[i]? = some p → rows[i]? = some (kk, vv) → J i m₁ news₁ → (∀ p ∈ news₁, p.1 ≠ I) → (∀ p ∈ own, p.1 = I) → IsTup h Tt #[.str kk tk, .str vv tv] → Fr g L h m₁ → News g L h (news₁ ++ own) →
      wpAny (model prog w) A (assign (.Tuple elts k1 p1) env (.ref Tt)) (fun _ s₃ => wpAny (model prog w) A (execs body env) R E s₃) E { s with heap := h, toks := tk' })
    (done : ∀ h tk m' news', J tups.length m' news' → Fr g L h m' → News g L h news' → Q .next { s with heap := h, toks := tk }) (hL : env.locals = L := by rfl) :
    wpAny (model prog w) A (pyIter (.ref hl)) (fun it s₂ => TurnsAt prog w A g env (.Tuple elts k1 p1) body Q E it s₂) E s := by
  subst hL
  obtain ⟨n0, el⟩ := T.lst
  have hl' : s.heap.IsList hl (refsOf tups) := ⟨_, F.keep _ _ el, rfl, _, rfl⟩
  have up : ∀ b o, s.heap.get? b = some o → (s.heap.push { cls := .type "list_iterator", data := .fields #[.ref hl, .int 0 0] }).get? b = some o := fun b o e => Heap.get?_push_of_some _ e
  refine wpAny_pyIter_list hl' ?_
  obtain ⟨F', N'⟩ := after0 F N up
  have hgI := newG F
  have hne : hl ≠ s.heap.objs.size := Nat.ne_of_lt (Heap.lt_size (F.keep _ _ el))
  have hsz : (refsOf tups).size = tups.length := by simp
  have hTs : ∀ j (hj : j < tups.length), tups[j]? = some (tups[j]'hj) := fun j hj => List.getElem?_eq_getElem hj
  have hdj : ∀ j (hj : j < tups.length), tups.getD j (0, listOf #[] 0) = tups[j]'hj := fun j hj => by simp [List.getD, hTs j hj]
  have hval : ∀ j (hj : j < tups.length), ∃ kk vv tk tv n, rows[j]? = some (kk, vv) ∧ (tups[j]'hj).2.cls = .type "tuple" ∧ (tups[j]'hj).2.data = .seq #[.str kk tk, .str vv tv] n := fun j hj => by
    obtain ⟨⟨kk, vv⟩, hr, hc, tk, tv, n, hd⟩ := paired_at T.row j _ (hTs j hj)
    exact ⟨kk, vv, tk, tv, n, hr, hc, hd⟩
  have hst : ∀ k, k < (refsOf tups).size → (s.heap.push { cls := .type "list_iterator", data := .fields #[.ref hl, .int 0 0] }).IsTuple (tups.getD k (0, listOf #[] 0)).1 (valsOf (tups.getD k (0, listOf #[] 0))) := fun j hj => by
    rw [hsz] at hj
    rw [hdj j hj]
    obtain ⟨kk, vv, tk, tv, n, hr, hc, hd⟩ := hval j hj
    refine ⟨_, up _ _ (F.keep _ _ (T.tup _ (List.getElem_mem hj))), hc, n, ?_⟩
    unfold valsOf; rw [hd]
  refine ⟨s.heap.objs.size, _, [s.heap.objs.size], _, _, _, _, m, news, J, rfl, KTurns.ofWalksU (WalksU.listOfTuples hh s.heap.objs.size hl hne (refsOf tups) (fun j => (tups.getD j (0, listOf #[] 0)).1) (fun j => valsOf (tups.getD j (0, listOf #[] 0))) ?_ ?_), ?_, ?_, ?_, ⟨⟨_, Heap.get?_push_size _ rfl, rfl, rfl⟩, hl'.push _, hst⟩, F', N', h0, ?_, ?_⟩
  · intro j hj
    rw [hsz] at hj
    rw [hdj j hj]
    simp [refsOf, hTs j hj]
  · intro j hj
    rw [hsz] at hj
    rw [hdj j hj]
    exact Nat.ne_of_lt (Heap.lt_size (F.keep _ _ (T.tup _ (List.getElem_mem hj))))
  · intro hb
    rcases List.mem_cons.mp hb with e | hb
    · exact newL F e
    · rcases List.mem_cons.mp hb with e | hb
      · have h1 := F.above; have h2 := Heap.lt_size el; rw [e] at h1; exact absurd h1 (Nat.not_le.mpr h2)
      · obtain ⟨j, hj, e⟩ := List.mem_map.mp hb
        rw [List.mem_range, hsz] at hj
        rw [hdj j hj] at e
        have h1 := F.above; have h2 := Heap.lt_size (T.tup _ (List.getElem_mem hj)); rw [← e] at h1; exact absurd h1 (Nat.not_le.mpr h2)
  · intro b hb; rw [List.mem_singleton.mp hb]; exact hgI
  · intro p hp hb; exact newN N p hp (List.mem_singleton.mp hb)
  · rintro i v m₁ news₁ h₁ tk₁ own hi ⟨Tt, vals, rfl, hv, hT⟩ hJ hoff hown hget hall hst' F₁ N₁
    rw [hsz] at hi
    rw [hdj i hi] at hv
    obtain ⟨kk, vv, tk, tv, n, hr, hc, hd⟩ := hval i hi
    have hv' : vals = #[.str kk tk, .str vv tv] := by rw [hv]; unfold valsOf; rw [hd]
    subst hv'
    have hI' : ∀ p ∈ own, p.1 = s.heap.objs.size := fun p hp => by
      have z := (N₁ p (List.mem_append_left _ hp)).2.2
      rcases List.mem_cons.mp (hown p hp) with e | hb
      · exact e
      · rcases List.mem_cons.mp hb with e | hb
        · rw [e, el] at z; cases z
        · obtain ⟨j, hj, e⟩ := List.mem_map.mp hb
          rw [List.mem_range, hsz] at hj
          rw [hdj j hj] at e
          rw [← e, T.tup _ (List.getElem_mem hj)] at z; cases z
    refine wpAny_mono (turn i _ kk vv tk tv m₁ news₁ h₁ tk₁ own s.heap.objs.size Tt _ (fun _ _ z => z) (hTs i hi) hr hJ (fun p hp e => hoff p hp (by rw [e]; exact .head _)) hI' hT F₁ (fun p hp => N₁ p ((List.mem_append.mp hp).elim (fun q => List.mem_append.mpr (.inr q)) fun q => List.mem_append.mpr (.inl q)))) (fun _ s₃ hf => wpAny_mono hf (fun f s₂ hf => ?_) fun _ _ e => e) fun _ _ e => e
    have fin : (∃ h' tk' m' news', s₂ = { s with heap := h', toks := tk' } ∧ Fr g env.locals h' m' ∧ News g env.locals h' (news' ++ own) ∧ (∀ p ∈ news', p.1 ≠ s.heap.objs.size) ∧ J (i + 1) m' news') → LoopStepU g env.locals [s.heap.objs.size] own (J (i + 1)) { s with heap := h₁, toks := tk₁ } .next s₂ := by
      rintro ⟨h', tk', m', news', rfl, F', N', hne, hJ'⟩
      exact ⟨rfl, h', tk', m', news', rfl, F', (fun p hp => N' p ((List.mem_append.mp hp).elim (fun q => List.mem_append.mpr (.inr q)) fun q => List.mem_append.mpr (.inl q))), (fun p hp hb => hne p hp (List.mem_singleton.mp hb)), hJ'⟩
    cases f with
    | ret v => exact .ret hf
    | brk => exact .brk hf
    | next => exact .next (fin hf)
    | cont => exact .cont (fin hf)
  · intro h' tk m' news' F'' N'' _ hJ
    rw [hsz] at hJ
    exact done h' tk m' news' hJ F'' N''
noncomputable def getF (rows : List (Str × Str)) (x : Str) : Option Str := (rows.find? fun r => decide (low r.1 = low x)).map (·.2)
theorem getF_none {x : Str} : ∀ {rows : List (Str × Str)}, (∀ j, j < rows.length → ∀ r, rows[j]? = some r → low r.1 ≠ low x) → getF rows x = none
  | [], _ => rfl
  | r :: l, h => by
    have h0 := h 0 (by simp) r rfl
    have ih := getF_none (rows := l) (x := x) fun j hj r' e => h (j + 1) (by simpa using hj) r' e
    unfold getF at ih ⊢
    rw [List.find?_cons_of_neg (by simpa using h0)]; exact ih
theorem getF_some {x : Str} : ∀ {rows : List (Str × Str)} {i : Nat} {kk vv : Str}, (∀ j, j < i → ∀ r, rows[j]? = some r → low r.1 ≠ low x) → rows[i]? = some (kk, vv) → low kk = low x → getF rows x = some vv
  | [], _, _, _, _, h, _ => nomatch h
  | r :: l, 0, kk, vv, _, h, e => by
    cases h
    unfold getF
    rw [List.find?_cons_of_pos (by simpa using e)]; rfl
  | r :: l, i + 1, kk, vv, hb, h, e => by
    have h0 := hb 0 (by simp) r rfl
    have ih := getF_some (rows := l) (i := i) (x := x) (fun j hj r' e' => hb (j + 1) (by omega) r' e') h e
    unfold getF at ih ⊢
    rw [List.find?_cons_of_neg (by simpa using h0)]; exact ih
inductive GetJ (rows : List (Str × Str)) (x : Str) (i : Nat) (m : Str → Option Value) (news : List (Addr × Obj)) : Prop
  | mk (hn : news = []) (tn : Tok) (hm : Has m [(Str.ofString "name", .str (low x) tn), (Str.ofString "default", .none)]) (hb : ∀ j, j < i → ∀ r, rows[j]? = some r → low r.1 ≠ low x)
set_option maxHeartbeats 8000000 in
theorem get_spec (w : World) {mean mg mb} {A : Around} {s : Shared} {t d hl : Addr} {tups rows} (G : Gd w mean mg mb s.heap) (r : Room 2 A)
    (T : Tab s.heap t d hl tups rows) (hR : ∀ r ∈ rows, TameS r.1) (x : Str) (tx : Tok) (hx : TameS x) (E : Value → Shared → Prop) :
    wpAny (model pg w) A (call (.ref 183) [.ref t, .str x tx]) (fun y s' => Keeps s s' ∧ match getF rows x with | none => y = .none | some v => IsS v y) E s := by
  have KX := G.X
  have KT := G.T
  refine wpAny_call ?_
  refine enter (news := []) [(Str.ofString "self", .ref t), (Str.ofString "name", .str x tx), (Str.ofString "default", .none)] KX KT.nolimit (fun _ _ e => e) (Nat.le_refl _) (fun _ h => nomatch h) (by k_dflt k_is) (by k_dflt k_is) r.lt (binds_K KX rfl (by k_dflt k_is) rfl rfl rfl) (locs rfl) ?_ (by decide) rfl rfl rfl
  intro L h₁ tk F N kp' hL
  (try dsimp only)
  have hI := T.inst
  ((repeat' (first | (k_here; (with_reducible show wpAny _ _ (getMethod (Value.ref _) (Str.ofString "_convert_string_type") _) _ _ _); refine meth_conv ‹Fr _ _ _ _› (by assumption) (Inst.keeps (by assumption) (Fr.keep ‹Fr _ _ _ _›)) ?_) | (k_here; (with_reducible show wpAny _ _ (getMethod (Value.ref _) (Str.ofString "keys") _) _ _ _); refine meth_keys ‹Fr _ _ _ _› (by assumption) (Inst.keeps (by assumption) (Fr.keep ‹Fr _ _ _ _›)) ?_) | (k_here; (with_reducible show wpAny _ _ (getMethod (Value.ref _) (Str.ofString "get") _) _ _ _); refine meth_get ‹Fr _ _ _ _› (by assumption) (Inst.keeps (by assumption) (Fr.keep ‹Fr _ _ _ _›)) ?_) | (k_here; (with_reducible show wpAny _ _ (getAttr (Value.ref _) (Str.ofString "_headers") _) _ _ _); refine hdr_get ‹Fr _ _ _ _› (by assumption) (Inst.keeps (by assumption) (Fr.keep ‹Fr _ _ _ _›)) ?_) | (k_here; (with_reducible show wpAny _ _ (call (Value.builtin "str.lower") [Value.str _ _]) _ _ _); refine lower_T (by assumption) ?_) | walk_at "mstep")); (all_goals (try dsimp only)))
  rename Fr _ _ _ _ => F
  refine useV (conv_spec w (G.keeps F.keep) (Room.deeper r) (.ref t) (low x) hx.low true _ _) F N fun h2 tk2 F' N' => ?_
  clear F N
  ((repeat' (first | (k_here; (with_reducible show wpAny _ _ (getMethod (Value.ref _) (Str.ofString "_convert_string_type") _) _ _ _); refine meth_conv ‹Fr _ _ _ _› (by assumption) (Inst.keeps (by assumption) (Fr.keep ‹Fr _ _ _ _›)) ?_) | (k_here; (with_reducible show wpAny _ _ (getMethod (Value.ref _) (Str.ofString "keys") _) _ _ _); refine meth_keys ‹Fr _ _ _ _› (by assumption) (Inst.keeps (by assumption) (Fr.keep ‹Fr _ _ _ _›)) ?_) | (k_here; (with_reducible show wpAny _ _ (getMethod (Value.ref _) (Str.ofString "get") _) _ _ _); refine meth_get ‹Fr _ _ _ _› (by assumption) (Inst.keeps (by assumption) (Fr.keep ‹Fr _ _ _ _›)) ?_) | (k_here; (with_reducible show wpAny _ _ (getAttr (Value.ref _) (Str.ofString "_headers") _) _ _ _); refine hdr_get ‹Fr _ _ _ _› (by assumption) (Inst.keeps (by assumption) (Fr.keep ‹Fr _ _ _ _›)) ?_) | (k_here; (with_reducible show wpAny _ _ (call (Value.builtin "str.lower") [Value.str _ _]) _ _ _); refine lower_T (by assumption) ?_) | walk_at "mstep")); (all_goals (try dsimp only)))
  rename Fr _ _ _ _ => F
  rename News _ _ _ _ => N
  refine For_turns F ?_ (hE := PassesOwn.never)
  ((repeat' (first | (k_here; (with_reducible show wpAny _ _ (getMethod (Value.ref _) (Str.ofString "_convert_string_type") _) _ _ _); refine meth_conv ‹Fr _ _ _ _› (by assumption) (Inst.keeps (by assumption) (Fr.keep ‹Fr _ _ _ _›)) ?_) | (k_here; (with_reducible show wpAny _ _ (getMethod (Value.ref _) (Str.ofString "keys") _) _ _ _); refine meth_keys ‹Fr _ _ _ _› (by assumption) (Inst.keeps (by assumption) (Fr.keep ‹Fr _ _ _ _›)) ?_) | (k_here; (with_reducible show wpAny _ _ (getMethod (Value.ref _) (Str.ofString "get") _) _ _ _); refine meth_get ‹Fr _ _ _ _› (by assumption) (Inst.keeps (by assumption) (Fr.keep ‹Fr _ _ _ _›)) ?_) | (k_here; (with_reducible show wpAny _ _ (getAttr (Value.ref _) (Str.ofString "_headers") _) _ _ _); refine hdr_get ‹Fr _ _ _ _› (by assumption) (Inst.keeps (by assumption) (Fr.keep ‹Fr _ _ _ _›)) ?_) | (k_here; (with_reducible show wpAny _ _ (call (Value.builtin "str.lower") [Value.str _ _]) _ _ _); refine lower_T (by assumption) ?_) | walk_at "mstep")); (all_goals (try dsimp only)))
  rename Fr _ _ _ _ => F
  refine loopT T.toL (Room.deeper r).hd F N (GetJ rows x) ⟨rfl, _, .cons rfl (.cons rfl .nil), fun j hj => absurd hj (Nat.not_lt_zero _)⟩ ?_ ?_
  · intro i p kk vv tk tv m₁ news₁ h tk' own I Tt R0 hR0 hp hr hJ hoff hown hT F₁ N₁
    obtain ⟨rfl, tn, hm, hb⟩ := hJ
    obtain ⟨u, rfl⟩ := hm.open
    have hk := hR _ (List.mem_of_getElem? hr)
    clear F N
    dsimp only at hk
    refine unpackN_ F₁ N₁ hT (Room.deeper r).hd rfl rfl (fun h' F' N' => ?_)
    clear F₁ N₁
    ((repeat' (first | (k_here; (with_reducible show wpAny _ _ (getMethod (Value.ref _) (Str.ofString "_convert_string_type") _) _ _ _); refine meth_conv ‹Fr _ _ _ _› (by assumption) (Inst.keeps (by assumption) (Fr.keep ‹Fr _ _ _ _›)) ?_) | (k_here; (with_reducible show wpAny _ _ (getMethod (Value.ref _) (Str.ofString "keys") _) _ _ _); refine meth_keys ‹Fr _ _ _ _› (by assumption) (Inst.keeps (by assumption) (Fr.keep ‹Fr _ _ _ _›)) ?_) | (k_here; (with_reducible show wpAny _ _ (getMethod (Value.ref _) (Str.ofString "get") _) _ _ _); refine meth_get ‹Fr _ _ _ _› (by assumption) (Inst.keeps (by assumption) (Fr.keep ‹Fr _ _ _ _›)) ?_) | (k_here; (with_reducible show wpAny _ _ (getAttr (Value.ref _) (Str.ofString "_headers") _) _ _ _); refine hdr_get ‹Fr _ _ _ _› (by assumption) (Inst.keeps (by assumption) (Fr.keep ‹Fr _ _ _ _›)) ?_) | (k_here; (with_reducible show wpAny _ _ (call (Value.builtin "str.lower") [Value.str _ _]) _ _ _); refine lower_T (by assumption) ?_) | walk_at "mstep")); (all_goals (try dsimp only)))
    all_goals (rename Fr _ _ _ _ => F)
    all_goals (rename News _ _ _ _ => N)
    · rename (_ == _) = true => hq
      refine hR0 _ _ ?_
      dsimp only [TurnEnd]
      refine ⟨Keeps.of_fr F, ?_⟩
      rw [getF_some hb hr (beq_iff_eq.mp hq)]
      exact ⟨_, rfl⟩
    · rename (_ == _) = false => hq
      refine hR0 _ _ ?_
      dsimp only [TurnEnd]
      refine ⟨_, _, _, [], rfl, F, N, (fun _ h => nomatch h), rfl, _, .cons rfl (.cons rfl .nil), fun j hj r' e => ?_⟩
      by_cases hji : j < i
      · exact hb j hji r' e
      · have : j = i := by omega
        subst this
        rw [hr] at e
        rw [← Option.some.inj e]
        exact fun q => by rw [beq_eq_false_iff_ne] at hq; exact hq q
  · intro h tk m' news' hJ F₁ N₁
    obtain ⟨rfl, tn, hm, hb⟩ := hJ
    obtain ⟨u, rfl⟩ := hm.open
    clear F N
    ((repeat' (first | (k_here; (with_reducible show wpAny _ _ (getMethod (Value.ref _) (Str.ofString "_convert_string_type") _) _ _ _); refine meth_conv ‹Fr _ _ _ _› (by assumption) (Inst.keeps (by assumption) (Fr.keep ‹Fr _ _ _ _›)) ?_) | (k_here; (with_reducible show wpAny _ _ (getMethod (Value.ref _) (Str.ofString "keys") _) _ _ _); refine meth_keys ‹Fr _ _ _ _› (by assumption) (Inst.keeps (by assumption) (Fr.keep ‹Fr _ _ _ _›)) ?_) | (k_here; (with_reducible show wpAny _ _ (getMethod (Value.ref _) (Str.ofString "get") _) _ _ _); refine meth_get ‹Fr _ _ _ _› (by assumption) (Inst.keeps (by assumption) (Fr.keep ‹Fr _ _ _ _›)) ?_) | (k_here; (with_reducible show wpAny _ _ (getAttr (Value.ref _) (Str.ofString "_headers") _) _ _ _); refine hdr_get ‹Fr _ _ _ _› (by assumption) (Inst.keeps (by assumption) (Fr.keep ‹Fr _ _ _ _›)) ?_) | (k_here; (with_reducible show wpAny _ _ (call (Value.builtin "str.lower") [Value.str _ _]) _ _ _); refine lower_T (by assumption) ?_) | walk_at "mstep")); (all_goals (try dsimp only)))
    rename Fr _ _ _ _ => F
    refine ⟨Keeps.of_fr F, ?_⟩
    rw [getF_none (by rw [← T.row.length]; exact hb)]
/-! 18has -/
set_option maxHeartbeats 8000000 in
theorem has_spec (w : World) {mean mg mb} {A : Around} {s : Shared} {t d hl : Addr} {tups rows} (G : Gd w mean mg mb s.heap) (r : Room 3 A)
    (T : Tab s.heap t d hl tups rows) (hR : ∀ r ∈ rows, TameS r.1) (x : Str) (tx : Tok) (hx : TameS x) (E : Value → Shared → Prop) :
    wpAny (model pg w) A (call (.ref 168) [.ref t, .str x tx]) (fun y s' => Keeps s s' ∧ y = .bool (getF rows x).isSome) E s := by
  have KX := G.X
  have KT := G.T
  refine wpAny_call ?_
  refine enter (news := []) [(Str.ofString "self", .ref t), (Str.ofString "name", .str x tx)] KX KT.nolimit (fun _ _ e => e) (Nat.le_refl _) (fun _ h => nomatch h) (by k_dflt k_is) (by k_dflt k_is) r.lt (BindsTo.of_eq rfl) (locs rfl) ?_ (by decide) rfl rfl rfl
  intro L h₁ tk F N kp' hL
  (try dsimp only)
  have hI := T.inst
  ((repeat' (first | (k_here; (with_reducible show wpAny _ _ (getMethod (Value.ref _) (Str.ofString "_convert_string_type") _) _ _ _); refine meth_conv ‹Fr _ _ _ _› (by assumption) (Inst.keeps (by assumption) (Fr.keep ‹Fr _ _ _ _›)) ?_) | (k_here; (with_reducible show wpAny _ _ (getMethod (Value.ref _) (Str.ofString "keys") _) _ _ _); refine meth_keys ‹Fr _ _ _ _› (by assumption) (Inst.keeps (by assumption) (Fr.keep ‹Fr _ _ _ _›)) ?_) | (k_here; (with_reducible show wpAny _ _ (getMethod (Value.ref _) (Str.ofString "get") _) _ _ _); refine meth_get ‹Fr _ _ _ _› (by assumption) (Inst.keeps (by assumption) (Fr.keep ‹Fr _ _ _ _›)) ?_) | (k_here; (with_reducible show wpAny _ _ (getAttr (Value.ref _) (Str.ofString "_headers") _) _ _ _); refine hdr_get ‹Fr _ _ _ _› (by assumption) (Inst.keeps (by assumption) (Fr.keep ‹Fr _ _ _ _›)) ?_) | (k_here; (with_reducible show wpAny _ _ (call (Value.builtin "str.lower") [Value.str _ _]) _ _ _); refine lower_T (by assumption) ?_) | walk_at "mstep")); (all_goals (try dsimp only)))
  rename Fr _ _ _ _ => F
  refine use (get_spec w (G.keeps F.keep) (Room.deeper r) (T.keeps F.keep) hR x _ hx _) fun y h2 tk2 k2 hy => ?_
  obtain ⟨F', N'⟩ := after0 F N k2
  clear F N
  cases hg : getF rows x with
  | none =>
    rw [hg] at hy
    subst hy
    ((repeat' (first | (k_here; (with_reducible show wpAny _ _ (getMethod (Value.ref _) (Str.ofString "_convert_string_type") _) _ _ _); refine meth_conv ‹Fr _ _ _ _› (by assumption) (Inst.keeps (by assumption) (Fr.keep ‹Fr _ _ _ _›)) ?_) | (k_here; (with_reducible show wpAny _ _ (getMethod (Value.ref _) (Str.ofString "keys") _) _ _ _); refine meth_keys ‹Fr _ _ _ _› (by assumption) (Inst.keeps (by assumption) (Fr.keep ‹Fr _ _ _ _›)) ?_) | (k_here; (with_reducible show wpAny _ _ (getMethod (Value.ref _) (Str.ofString "get") _) _ _ _); refine meth_get ‹Fr _ _ _ _› (by assumption) (Inst.keeps (by assumption) (Fr.keep ‹Fr _ _ _ _›)) ?_) | (k_here; (with_reducible show wpAny _ _ (getAttr (Value.ref _) (Str.ofString "_headers") _) _ _ _); refine hdr_get ‹Fr _ _ _ _› (by assumption) (Inst.keeps (by assumption) (Fr.keep ‹Fr _ _ _ _›)) ?_) | (k_here; (with_reducible show wpAny _ _ (call (Value.builtin "str.lower") [Value.str _ _]) _ _ _); refine lower_T (by assumption) ?_) | walk_at "mstep")); (all_goals (try dsimp only)))
    rename Fr _ _ _ _ => F
    exact ⟨Keeps.of_fr F, rfl⟩
  | some v =>
    rw [hg] at hy
    obtain ⟨tv, rfl⟩ := hy
    ((repeat' (first | (k_here; (with_reducible show wpAny _ _ (getMethod (Value.ref _) (Str.ofString "_convert_string_type") _) _ _ _); refine meth_conv ‹Fr _ _ _ _› (by assumption) (Inst.keeps (by assumption) (Fr.keep ‹Fr _ _ _ _›)) ?_) | (k_here; (with_reducible show wpAny _ _ (getMethod (Value.ref _) (Str.ofString "keys") _) _ _ _); refine meth_keys ‹Fr _ _ _ _› (by assumption) (Inst.keeps (by assumption) (Fr.keep ‹Fr _ _ _ _›)) ?_) | (k_here; (with_reducible show wpAny _ _ (getMethod (Value.ref _) (Str.ofString "get") _) _ _ _); refine meth_get ‹Fr _ _ _ _› (by assumption) (Inst.keeps (by assumption) (Fr.keep ‹Fr _ _ _ _›)) ?_) | (k_here; (with_reducible show wpAny _ _ (getAttr (Value.ref _) (Str.ofString "_headers") _) _ _ _); refine hdr_get ‹Fr _ _ _ _› (by assumption) (Inst.keeps (by assumption) (Fr.keep ‹Fr _ _ _ _›)) ?_) | (k_here; (with_reducible show wpAny _ _ (call (Value.builtin "str.lower") [Value.str _ _]) _ _ _); refine lower_T (by assumption) ?_) | walk_at "mstep")); (all_goals (try dsimp only)))
    rename Fr _ _ _ _ => F
    exact ⟨Keeps.of_fr F, rfl⟩
/-! 19set -/
section
variable {prog : Program} {w : World} {A : Around} {E : Value → Shared → Prop} {s : Shared}
/-- xs[:] = ys, both lists -/
theorem set_all {l sl D : Addr} {items ys : Array Value} {Q : Unit → Shared → Prop} {n0 : Nat} (hlo : s.heap.get? l = some (listOf items n0)) (hD : s.heap.IsList D ys) (hne : l ≠ D)
    (hs : s.heap.IsSliceOf sl .none .none .none) (hz : items.size ≤ 64) (hz' : ys.size ≤ 64)
    (h : ∀ h' n, h'.get? l = some (listOf ys n) → Heap.SameBut l s.heap h' → Q () { s with heap := h' }) :
    wpAny (model prog w) A (setItem (.ref l) (.ref sl) (.ref D)) Q E s := by
  have hl : s.heap.IsList l items := ⟨_, hlo, rfl, _, rfl⟩
  have ho := hlo
  have hd : (listOf items n0).data = .seq items n0 := rfl
  have hb : sliceBounds none none none items.size = (0, (items.size : Int), 1) := by simp [sliceBounds]
  have hm : (max (0 : Int) (items.size : Int)).toNat = items.size := by omega
  have hf : items.extract 0 (0 : Int).toNat ++ ys ++ items.extract items.size = ys := by simp
  obtain ⟨oD, hoD, hcD, neD, hdD⟩ := id hD
  obtain ⟨os, hos, hcs, hds⟩ := id hs
  have hTs : s.TypeIs (.ref sl) "slice" := ⟨os, hos, hcs⟩
  unfold setItem
  try with_reducible refine wpAny_holding ?_
  first | refine wpAny_bind (wpAny_pure ?_) | skip
  refine wpAny_bind (wpAny_sequenceKey hl.typeIs (by decide) ?_)
  refine wpAny_bind (wpAny_callSpecial?_slot (name := Str.ofString "__setitem__") hl.typeIs slot_list_setitem
    (wpAny_call_entry slot_list_setitem hl.typeIs entry_list_setitem ?_ (args_list_setitem _ _ _)))
  show wpAny _ _ (Builtin.List.listSubscript? (.ref sl) >>= _) _ _ s
  refine wpAny_bind ?_
  unfold Builtin.List.listSubscript?
  refine wpAny_bind (wpAny_specialOf hTs slice_no_index ?_)
  simp only [Option.isNone_none, if_true]
  refine wpAny_pure ?_
  show wpAny _ _ (typeOf (.ref sl) >>= _) _ _ s
  refine wpAny_bind (wpAny_typeOf hTs ?_)
  rw [if_neg (by decide)]
  rw [listSliceParts_eq]
  refine wpAny_bind (wpAny_bind (wpAny_field hos hds (x := .none) rfl (wpAny_bind (wpAny_listPart .none ?_))))
  rw [if_neg (by decide)]
  refine wpAny_bind (wpAny_field hos hds (x := .none) rfl (wpAny_bind (wpAny_listPart .none ?_)))
  refine wpAny_bind (wpAny_field hos hds (x := .none) rfl (wpAny_bind (wpAny_listPart .none (wpAny_pure ?_))))
  have hsr : ¬ (Builtin.List.listSameRef (.ref l) (.ref D) = true) := by
    show ¬ ((l == D) = true)
    simpa using hne
  rw [if_neg hsr]
  refine wpAny_bind (m := Builtin.List.listAllItems (.ref D) _) ?_
  unfold Builtin.List.listAllItems
  refine wpAny_bind (wpAny_typeOf (T := "list") ⟨oD, hoD, hcD⟩ ?_)
  rw [if_pos (by decide)]
  unfold Builtin.List.listItems
  refine wpAny_bind (wpAny_seqItems hoD hdD (wpAny_pure ?_))
  refine wpAny_bind (m := _) ?_
  refine wpAny_bind (wpAny_seqItems ho hd (wpAny_pure ?_))
  refine wpAny_bind (wpAny_of_eq (sliceIndices_raw none none none items.size (by simp)) ?_)
  rw [if_pos (by rfl)]
  refine wpAny_bind (wpAny_rule ?_)
  have hbig : ¬ (Builtin.List.listTooLong (items.size + ys.size) = true) := by
    unfold Builtin.List.listTooLong
    have : items.size + ys.size ≤ sizeLine := Nat.le_trans (Nat.add_le_add hz hz') (by decide)
    simpa using this
  rw [if_neg hbig]
  refine wpAny_bind (m := updateSeq l _) (wpAny_updateSeq ho hd ?_ (Nat.le_trans hz (by decide)) ?_)
  · refine wpAny_bind (wpAny_letGo ?_)
    rw [hb]
    dsimp only
    rw [hm]
    obtain ⟨n', hd'⟩ := Obj.data_mapSeq hd (fun xs => xs.extract 0 (0 : Int).toNat ++ ys ++ xs.extract items.size)
    have hE : Obj.mapSeq (fun xs => xs.extract 0 (0 : Int).toNat ++ ys ++ xs.extract items.size) (listOf items n0) = listOf ys n' := by
      rw [hf] at hd'
      have e : ∀ o : Obj, o.data = .seq ys n' → o = { o with data := .seq ys n' } := fun o q => by rw [← q]
      exact (e _ hd').trans rfl
    refine wpAny_pure ⟨.none, rfl, wpAny_pure (h _ n' ?_ (Heap.SameBut.update ..))⟩
    exact (Heap.get?_update_self _ ho (Obj.isFreed_of_seq hd')).trans (congrArg some hE)
  · rw [hb]
    dsimp only
    rw [hm, hf]
    exact Nat.le_trans hz' (by decide)
end
/-! 19tdel -/
theorem paired_same {l₁ l₂ : List Value} (h : Paired (fun v y => y = v) l₁ l₂) : l₂ = l₁ := by
  induction h with
  | nil => rfl
  | cons e _ ih => rw [e, ih]
theorem Tab.apart {h : Heap} {t d hl : Addr} {tups rows} (T : Tab h t d hl tups rows) {p : Addr × Obj} (hp : p ∈ tups) : p.1 ≠ hl := fun e => by
  obtain ⟨n, el⟩ := T.lst
  obtain ⟨i, hi⟩ := List.getElem?_of_mem hp
  obtain ⟨_, _, hc, _⟩ := paired_at T.row i p hi
  have := T.tup p hp
  rw [e, el] at this
  rw [← Option.some.inj this] at hc
  have hc' : (Value.type "list" : Value) = .type "tuple" := hc
  simp at hc'
theorem Tab.nth {h : Heap} {t d hl : Addr} {tups rows} (T : Tab h t d hl tups rows) {i : Nat} {v : Value} (hv : (refsOf tups)[i]? = some v) :
    ∃ p kk vv tk tv n, p ∈ tups ∧ rows[i]? = some (kk, vv) ∧ h.get? p.1 = some p.2 ∧ p.2.cls = .type "tuple" ∧ p.2.data = .seq #[.str kk tk, .str vv tv] n ∧ v = .ref p.1 := by
  have hv' : (tups.map fun p => Value.ref p.1)[i]? = some v := by simpa using hv
  rw [List.getElem?_map] at hv'
  cases hp : tups[i]? with
  | none => rw [hp] at hv'; cases hv'
  | some p =>
    rw [hp] at hv'
    obtain ⟨⟨kk, vv⟩, hr, hc, tk, tv, n, hd⟩ := paired_at T.row i p hp
    exact ⟨p, kk, vv, tk, tv, n, List.mem_of_getElem? hp, hr, T.tup p (List.mem_of_getElem? hp), hc, hd, (Option.some.inj hv').symm⟩
noncomputable def objKey (o : Obj) : Str := match o.data with
  | .seq vs _ => match vs.toList with
    | .str k _ :: _ => k
    | _ => Str.empty
  | _ => Str.empty
noncomputable def keyAt (h : Heap) (v : Value) : Str := match v with
  | .ref a => match h.get? a with
    | some o => objKey o
    | none => Str.empty
  | _ => Str.empty
theorem filter_refs {h : Heap} {t d hl : Addr} {tups rows} {x : Str} (T : Tab h t d hl tups rows) :
    (refsOf tups).toList.filter (fun v => decide (low (keyAt h v) ≠ low x)) = (tups.filter fun p => decide (low (objKey p.2) ≠ low x)).map fun p => Value.ref p.1 := by
  show (tups.map fun p => Value.ref p.1).filter _ = _
  rw [List.filter_map]
  congr 1
  refine List.filter_congr fun p hp => ?_
  show decide (low (keyAt h (.ref p.1)) ≠ low x) = _
  have : keyAt h (.ref p.1) = objKey p.2 := by unfold keyAt; dsimp only; rw [T.tup p hp]
  rw [this]
theorem filter_rows {x : Str} {tups : List (Addr × Obj)} {rows : List (Str × Str)} (h : Paired Row tups rows) : Paired Row (tups.filter fun p => decide (low (objKey p.2) ≠ low x)) (rows.filter fun r => decide (low r.1 ≠ low x)) := by
  induction h with
  | nil => exact .nil
  | @cons a b l₁ l₂ hr _ ih =>
    have e : objKey a.2 = b.1 := by
      obtain ⟨_, tk, tv, n, hd⟩ := hr
      unfold objKey; rw [hd]
    rw [List.filter_cons, List.filter_cons, e]
    split
    · exact .cons hr ih
    · exact ih
set_option maxHeartbeats 8000000 in
theorem del_spec (w : World) {mean mg mb} {A : Around} {s : Shared} {t d hl : Addr} {tups rows} (G : Gd w mean mg mb (s.heap.hide hl)) (r : Room 2 A)
    (T : Tab s.heap t d hl tups rows) (hR : ∀ r ∈ rows, TameS r.1) (x : Str) (tx : Tok) (hx : TameS x) (E : Value → Shared → Prop) :
    wpAny (model pg w) A (call (.ref 154) [.ref t, .str x tx]) (fun y s' => KeepsG (s.heap.hide hl) s s' ∧ ∃ tups', Tab s'.heap t d hl tups' (rows.filter fun r => decide (low r.1 ≠ low x)) ∧ ∀ p ∈ tups', p ∈ tups) E s := by
  have KX := G.X
  have KT := G.T
  obtain ⟨n0, el⟩ := T.lst
  refine wpAny_call ?_
  refine enterC (news := [(hl, listOf (refsOf tups) n0)]) [(Str.ofString "self", .ref t), (Str.ofString "name", .str x tx)] KX KT.nolimit (fun _ _ e => Heap.of_hide e) (Nat.le_of_eq (Heap.hide_size _ _)) (fun p hp => by rw [List.mem_singleton.mp hp]; exact ⟨el, Heap.hide_self _ _⟩) (by k_dflt k_is) (by k_dflt k_is) r.lt (BindsTo.of_eq rfl) rfl (by decide) ?_ rfl rfl rfl
  intro L h₁ tk cells F N Y kp' hL
  obtain ⟨o, rfl, hod⟩ := CellsAre.one Y
  change o.data = .cell (some (.str x tx)) at hod
  have hI : Inst (s.heap.hide hl) t d hl := by
    obtain ⟨ha, hsh, tk, n, e⟩ := T.inst
    refine ⟨(Heap.hide_ne _ (fun q => ?_)).trans ha, hsh, tk, n, (Heap.hide_ne _ (fun q => ?_)).trans e⟩
    · rw [q, el] at ha
      have := congrArg Obj.cls (Option.some.inj ha)
      exact Value.noConfusion this
    · rw [q, el] at e
      have := congrArg Obj.data (Option.some.inj e)
      exact Data.noConfusion this
  dsimp only at N ⊢
  ((repeat' (first | (k_here; (with_reducible show wpAny _ _ (getMethod (Value.ref _) (Str.ofString "_convert_string_type") _) _ _ _); refine meth_conv ‹Fr _ _ _ _› (by assumption) (Inst.keeps (by assumption) (Fr.keep ‹Fr _ _ _ _›)) ?_) | (k_here; (with_reducible show wpAny _ _ (getMethod (Value.ref _) (Str.ofString "keys") _) _ _ _); refine meth_keys ‹Fr _ _ _ _› (by assumption) (Inst.keeps (by assumption) (Fr.keep ‹Fr _ _ _ _›)) ?_) | (k_here; (with_reducible show wpAny _ _ (getMethod (Value.ref _) (Str.ofString "get") _) _ _ _); refine meth_get ‹Fr _ _ _ _› (by assumption) (Inst.keeps (by assumption) (Fr.keep ‹Fr _ _ _ _›)) ?_) | (k_here; (with_reducible show wpAny _ _ (getAttr (Value.ref _) (Str.ofString "_headers") _) _ _ _); refine hdr_get ‹Fr _ _ _ _› (by assumption) (Inst.keeps (by assumption) (Fr.keep ‹Fr _ _ _ _›)) ?_) | (k_here; (with_reducible show wpAny _ _ (call (Value.builtin "str.lower") [Value.str _ _]) _ _ _); refine lower_T (by assumption) ?_) | walk_at "mstep")); (all_goals (try dsimp only)))
  rename Fr _ _ _ _ => F
  refine useV (conv_spec w (G.keeps F.keep) (Room.deeper r) (.ref t) (low x) hx.low true _ _) F N fun h2 tk2 F' N' => ?_
  clear F N
  ((repeat' (first | (k_here; (with_reducible show wpAny _ _ (getMethod (Value.ref _) (Str.ofString "_convert_string_type") _) _ _ _); refine meth_conv ‹Fr _ _ _ _› (by assumption) (Inst.keeps (by assumption) (Fr.keep ‹Fr _ _ _ _›)) ?_) | (k_here; (with_reducible show wpAny _ _ (getMethod (Value.ref _) (Str.ofString "keys") _) _ _ _); refine meth_keys ‹Fr _ _ _ _› (by assumption) (Inst.keeps (by assumption) (Fr.keep ‹Fr _ _ _ _›)) ?_) | (k_here; (with_reducible show wpAny _ _ (getMethod (Value.ref _) (Str.ofString "get") _) _ _ _); refine meth_get ‹Fr _ _ _ _› (by assumption) (Inst.keeps (by assumption) (Fr.keep ‹Fr _ _ _ _›)) ?_) | (k_here; (with_reducible show wpAny _ _ (getAttr (Value.ref _) (Str.ofString "_headers") _) _ _ _); refine hdr_get ‹Fr _ _ _ _› (by assumption) (Inst.keeps (by assumption) (Fr.keep ‹Fr _ _ _ _›)) ?_) | (k_here; (with_reducible show wpAny _ _ (call (Value.builtin "str.lower") [Value.str _ _]) _ _ _); refine lower_T (by assumption) ?_) | walk_at "mstep")); (all_goals (try dsimp only)))
  rename Fr _ _ _ _ => F
  rename News _ _ _ _ => N
  rename Obj => o'
  rename Obj.data _ = Data.cell (some (Value.str (low x) _)) => ho'
  refine wpAny_Assign_Subscript ?_
  refine comp_eval (cl := [(Str.ofString "name", L + 1)]) (fun v => decide (low (keyAt s.heap v) ≠ low x)) (fun v y => y = v) (by rfl) (by decide) rfl (by decide) rfl ?_
  ((repeat' (first | (k_here; (with_reducible show wpAny _ _ (getMethod (Value.ref _) (Str.ofString "_convert_string_type") _) _ _ _); refine meth_conv ‹Fr _ _ _ _› (by assumption) (Inst.keeps (by assumption) (Fr.keep ‹Fr _ _ _ _›)) ?_) | (k_here; (with_reducible show wpAny _ _ (getMethod (Value.ref _) (Str.ofString "keys") _) _ _ _); refine meth_keys ‹Fr _ _ _ _› (by assumption) (Inst.keeps (by assumption) (Fr.keep ‹Fr _ _ _ _›)) ?_) | (k_here; (with_reducible show wpAny _ _ (getMethod (Value.ref _) (Str.ofString "get") _) _ _ _); refine meth_get ‹Fr _ _ _ _› (by assumption) (Inst.keeps (by assumption) (Fr.keep ‹Fr _ _ _ _›)) ?_) | (k_here; (with_reducible show wpAny _ _ (getAttr (Value.ref _) (Str.ofString "_headers") _) _ _ _); refine hdr_get ‹Fr _ _ _ _› (by assumption) (Inst.keeps (by assumption) (Fr.keep ‹Fr _ _ _ _›)) ?_) | (k_here; (with_reducible show wpAny _ _ (call (Value.builtin "str.lower") [Value.str _ _]) _ _ _); refine lower_T (by assumption) ?_) | walk_at "mstep")); (all_goals (try dsimp only)))
  rename Fr _ _ _ _ => F
  have G2 := G.keeps F.keep
  have hcell : Heap.IsCell _ (L + 1) (some (.str (low x) _)) := ⟨o', (N (L + 1, o') (.head _)).1, ho'⟩
  have hlist : Heap.IsList _ hl (refsOf tups) := ⟨_, (N (hl, _) (.tail _ (.head _))).1, rfl, _, rfl⟩
  refine comp_list (Room.deeper r).hd hlist (by simp; exact Nat.le_trans T.len (by decide)) ⟨?tests, ?elt⟩ ?_
  case tests =>
    rintro C i v s₃ m₃ E' hv hn hm kp
    have hcell3 := hcell.keeps kp
    have KX3 := (G2.keeps kp).X
    have KT3 := (G2.keeps kp).T
    have k3 : ∀ b o, s₃.heap.get? b = some o → s₃.heap.get? b = some o := fun _ _ e => e
    obtain ⟨p, kk, vv, tkk, tvv, n, hp, hr, hob, hc, hdat, rfl⟩ := T.nth hv
    have hTup : IsTup s₃.heap p.1 #[.str kk tkk, .str vv tvv] := ⟨p.2, kp _ _ (F.keep _ _ ((Heap.hide_ne _ (fun q => by rw [q, el] at hob; rw [← Option.some.inj hob] at hc; have hc' : (Value.type "list" : Value) = .type "tuple" := hc; simp at hc')).trans hob)), hc, n, hdat⟩
    have hkk : TameS kk := hR _ (List.mem_of_getElem? hr)
    clear F N kp hcell KX KT G2
    refine wpAny_tests_one ?_
    ((repeat' (first | (k_here; (with_reducible show wpAny _ _ (getMethod (Value.ref _) (Str.ofString "_convert_string_type") _) _ _ _); refine meth_conv ‹Fr _ _ _ _› (by assumption) (Inst.keeps (by assumption) (Fr.keep ‹Fr _ _ _ _›)) ?_) | (k_here; (with_reducible show wpAny _ _ (getMethod (Value.ref _) (Str.ofString "keys") _) _ _ _); refine meth_keys ‹Fr _ _ _ _› (by assumption) (Inst.keeps (by assumption) (Fr.keep ‹Fr _ _ _ _›)) ?_) | (k_here; (with_reducible show wpAny _ _ (getMethod (Value.ref _) (Str.ofString "get") _) _ _ _); refine meth_get ‹Fr _ _ _ _› (by assumption) (Inst.keeps (by assumption) (Fr.keep ‹Fr _ _ _ _›)) ?_) | (k_here; (with_reducible show wpAny _ _ (getAttr (Value.ref _) (Str.ofString "_headers") _) _ _ _); refine hdr_get ‹Fr _ _ _ _› (by assumption) (Inst.keeps (by assumption) (Fr.keep ‹Fr _ _ _ _›)) ?_) | (k_here; (with_reducible show wpAny _ _ (call (Value.builtin "str.lower") [Value.str _ _]) _ _ _); refine lower_T (by assumption) ?_) | walk_at "mstep")); (all_goals (try dsimp only)))
    refine ⟨?_, Keeps.tok⟩
    have e : keyAt s.heap (.ref p.1) = kk := by
      unfold keyAt; dsimp only; rw [hob]; dsimp only; unfold objKey; rw [hdat]
    rw [e]
    by_cases q : low kk = low x <;> simp [q]
  case elt =>
    rintro C i v s₃ m₃ E' hv _ hn hm kp
    have k3 : ∀ b o, s₃.heap.get? b = some o → s₃.heap.get? b = some o := fun _ _ e => e
    clear F N kp hcell KX KT G2
    ((repeat' (first | (k_here; (with_reducible show wpAny _ _ (getMethod (Value.ref _) (Str.ofString "_convert_string_type") _) _ _ _); refine meth_conv ‹Fr _ _ _ _› (by assumption) (Inst.keeps (by assumption) (Fr.keep ‹Fr _ _ _ _›)) ?_) | (k_here; (with_reducible show wpAny _ _ (getMethod (Value.ref _) (Str.ofString "keys") _) _ _ _); refine meth_keys ‹Fr _ _ _ _› (by assumption) (Inst.keeps (by assumption) (Fr.keep ‹Fr _ _ _ _›)) ?_) | (k_here; (with_reducible show wpAny _ _ (getMethod (Value.ref _) (Str.ofString "get") _) _ _ _); refine meth_get ‹Fr _ _ _ _› (by assumption) (Inst.keeps (by assumption) (Fr.keep ‹Fr _ _ _ _›)) ?_) | (k_here; (with_reducible show wpAny _ _ (getAttr (Value.ref _) (Str.ofString "_headers") _) _ _ _); refine hdr_get ‹Fr _ _ _ _› (by assumption) (Inst.keeps (by assumption) (Fr.keep ‹Fr _ _ _ _›)) ?_) | (k_here; (with_reducible show wpAny _ _ (call (Value.builtin "str.lower") [Value.str _ _]) _ _ _); refine lower_T (by assumption) ?_) | walk_at "mstep")); (all_goals (try dsimp only)))
    exact ⟨rfl, Keeps.refl _⟩
  intro D h' tk' ys n' hD hD' hF hk
  obtain ⟨F', N', hDn⟩ := addNew F N hk hD hD'
  clear F N
  ((repeat' (first | (k_here; (with_reducible show wpAny _ _ (getMethod (Value.ref _) (Str.ofString "_convert_string_type") _) _ _ _); refine meth_conv ‹Fr _ _ _ _› (by assumption) (Inst.keeps (by assumption) (Fr.keep ‹Fr _ _ _ _›)) ?_) | (k_here; (with_reducible show wpAny _ _ (getMethod (Value.ref _) (Str.ofString "keys") _) _ _ _); refine meth_keys ‹Fr _ _ _ _› (by assumption) (Inst.keeps (by assumption) (Fr.keep ‹Fr _ _ _ _›)) ?_) | (k_here; (with_reducible show wpAny _ _ (getMethod (Value.ref _) (Str.ofString "get") _) _ _ _); refine meth_get ‹Fr _ _ _ _› (by assumption) (Inst.keeps (by assumption) (Fr.keep ‹Fr _ _ _ _›)) ?_) | (k_here; (with_reducible show wpAny _ _ (getAttr (Value.ref _) (Str.ofString "_headers") _) _ _ _); refine hdr_get ‹Fr _ _ _ _› (by assumption) (Inst.keeps (by assumption) (Fr.keep ‹Fr _ _ _ _›)) ?_) | (k_here; (with_reducible show wpAny _ _ (call (Value.builtin "str.lower") [Value.str _ _]) _ _ _); refine lower_T (by assumption) ?_) | walk_at "mstep")); (all_goals (try dsimp only)))
  rename Fr _ _ _ _ => F
  rename News _ _ _ _ => N
  have up : ∀ b o, h'.get? b = some o → (h'.push { cls := .type "slice", data := .fields #[.none, .none, .none] }).get? b = some o := fun b o e => Heap.get?_push_of_some _ e
  obtain ⟨F2, N2⟩ := after0 F N up
  have hys : ys.toList = (tups.filter fun p => decide (low (objKey p.2) ≠ low x)).map fun p => Value.ref p.1 := (paired_same hF).trans (filter_refs T)
  have hysz : ys.size ≤ 64 := by
    rw [← Array.length_toList, hys, List.length_map]
    exact Nat.le_trans (List.length_filter_le _ _) T.len
  refine set_all (l := hl) (D := D) (N2 (hl, _) (.tail _ (.tail _ (.head _)))).1 ⟨_, (N2 (D, _) (.head _)).1, rfl, _, rfl⟩ (hDn (hl, _) (.tail _ (.head _))) (Heap.IsSliceOf.new ..) (by simp; exact T.len) hysz (fun h3 n3 e3 sb => ?_)
  refine wpAny_execs_nil ?_
  have kb : ∀ b o, (s.heap.hide hl).get? b = some o → h3.get? b = some o := fun b o e => sb.extBut b o (fun q => by rw [q, Heap.hide_self] at e; cases e) (F2.keep b o e)
  refine ⟨⟨h3, _, rfl, kb⟩, tups.filter fun p => decide (low (objKey p.2) ≠ low x), ⟨hI.keeps kb, ⟨n3, ?_⟩, fun p hp => ?_, filter_rows T.row, Nat.le_trans (List.length_filter_le _ _) T.len⟩, fun p hp => (List.mem_filter.mp hp).1⟩
  · show h3.get? hl = _
    rw [e3]
    have : ys = refsOf (tups.filter fun p => decide (low (objKey p.2) ≠ low x)) := by
      apply Array.toList_inj.mp; rw [hys]
    rw [this]
  · have hp' := (List.mem_filter.mp hp).1
    refine kb _ _ ((Heap.hide_ne _ (T.apart hp')).trans (T.tup p hp'))
/-! 20seti -/
section
variable {M : Model} {A : Around} {E : Value → Shared → Prop} {s : Shared} {K : Frag} {x C L f : Addr} {h₀ : Heap} {m : Str → Option Value} {ox : Obj} {od : Option Obj} {i v : Value}
theorem del_own {Q : Unit → Shared → Prop} (F : Fr h₀ L s.heap m) (X₀ : K.In h₀) (I : InstAt s.heap x ox C od) (hq : noSeq K C = true) (hs : findIn K (.ref C) "__delitem__" = some (some (.ref f))) (hf : isFn K (.ref f) = true)
    (h : wpAny M A (call (.ref f) [.ref x, i]) (fun _ s' => Q () s') E s) : wpAny M A (delItem (.ref x) i) Q E s := by
  have X := X₀.keeps F.keep
  unfold delItem sequenceKey
  refine wpAny_holding (wpAny_bind (wpAny_bind (I.type.here ?_)))
  refine wpAny_bind ((anyM_none X hq).here ?_)
  rw [if_pos (show (!false) = true from rfl)]
  exact wpAny_pure (wpAny_bind (special_fn X I hs (beq_iff_eq.mp hf) (wpAny_mono h (fun _ _ z => wpAny_pure z) fun _ _ z => z)))
end
section
variable {prog : Program} {w : World} {A : Around} {E : Value → Shared → Prop} {s : Shared} {g : Heap} {L t d hl : Addr} {m : Str → Option Value}
theorem hdr_del {i : Value} {Q : Unit → Shared → Prop} (F : Fr g L s.heap m) (X : (hd.heap_1 w.params).In g) (I : Inst s.heap t d hl) (h : wpAny (model prog w) A (call (.ref 154) [.ref t, i]) (fun _ s' => Q () s') E s) :
    wpAny (model prog w) A (delItem (.ref t) i) Q E s := by
  obtain ⟨hsh, tk, n, e⟩ := I.hs
  exact del_own F X (I := (show InstAt s.heap t (instObj 236 d) 236 (some (dictOf [⟨hsh, .str (Str.ofString "_headers") tk, .ref hl⟩] n)) from ⟨I.at_, rfl, rfl, e⟩)) (hq := by k_dflt k_is) (hs := by k_dflt k_is) (hf := by k_dflt k_is) h
theorem hdr_set {i v : Value} {Q : Unit → Shared → Prop} (F : Fr g L s.heap m) (X : (hd.heap_1 w.params).In g) (I : Inst s.heap t d hl) (h : wpAny (model prog w) A (call (.ref 149) [.ref t, i, v]) (fun _ s' => Q () s') E s) :
    wpAny (model prog w) A (setItem (.ref t) i v) Q E s := by
  obtain ⟨hsh, tk, n, e⟩ := I.hs
  exact ksp_setItem F X (I := (show InstAt s.heap t (instObj 236 d) 236 (some (dictOf [⟨hsh, .str (Str.ofString "_headers") tk, .ref hl⟩] n)) from ⟨I.at_, rfl, rfl, e⟩)) (hq := by k_dflt k_is) (hs := by k_dflt k_is) (hf := by k_dflt k_is) h
theorem hdr_in {v : Value} {Q : Value → Shared → Prop} (F : Fr g L s.heap m) (X : (hd.heap_1 w.params).In g) (I : Inst s.heap t d hl) (h : wpAny (model prog w) A (call (.ref 168) [.ref t, v]) (fun r s' => wpAny (model prog w) A (truthy r) (fun b => Q (.bool b)) E s') E s) :
    wpAny (model prog w) A (compareOp .In v (.ref t)) Q E s := by
  obtain ⟨hsh, tk, n, e⟩ := I.hs
  exact in_K F X (I := (show InstAt s.heap t (instObj 236 d) 236 (some (dictOf [⟨hsh, .str (Str.ofString "_headers") tk, .ref hl⟩] n)) from ⟨I.at_, rfl, rfl, e⟩)) (hs := by k_dflt k_is) (hf := by k_dflt k_is) h
end
theorem Tab.ne_inst {h : Heap} {t d hl : Addr} {tups rows} (T : Tab h t d hl tups rows) : Inst (h.hide hl) t d hl := by
  obtain ⟨n0, el⟩ := T.lst
  obtain ⟨ha, hsh, tk, n, e⟩ := T.inst
  refine ⟨(Heap.hide_ne _ (fun q => ?_)).trans ha, hsh, tk, n, (Heap.hide_ne _ (fun q => ?_)).trans e⟩
  · rw [q, el] at ha
    have := congrArg Obj.cls (Option.some.inj ha)
    exact Value.noConfusion this
  · rw [q, el] at e
    have := congrArg Obj.data (Option.some.inj e)
    exact Data.noConfusion this
set_option maxHeartbeats 8000000 in
theorem seti_spec (w : World) {mean mg mb} {A : Around} {s : Shared} {t d hl : Addr} {tups rows} (G : Gd w mean mg mb (s.heap.hide hl)) (r : Room 3 A)
    (T : Tab s.heap t d hl tups rows) (hR : ∀ r ∈ rows, TameS r.1) (hlen : tups.length < 64) (x v : Str) (tx tv : Tok) (hx : TameS x) (hv : TameS v) (E : Value → Shared → Prop) :
    wpAny (model pg w) A (call (.ref 149) [.ref t, .str x tx, .str v tv]) (fun y s' => KeepsG (s.heap.hide hl) s s' ∧ ∃ tups', Tab s'.heap t d hl tups' ((rows.filter fun r => decide (low r.1 ≠ low x)) ++ [(x, v)]) ∧ ∀ p ∈ tups', p ∈ tups ∨ s.heap.get? p.1 = none) E s := by
  have KX := G.X
  have KT := G.T
  obtain ⟨n0, el⟩ := T.lst
  refine wpAny_call ?_
  refine enter (news := [(hl, listOf (refsOf tups) n0)]) [(Str.ofString "self", .ref t), (Str.ofString "name", .str x tx), (Str.ofString "val", .str v tv)] KX KT.nolimit (fun _ _ e => Heap.of_hide e) (Nat.le_of_eq (Heap.hide_size _ _)) (fun p hp => by rw [List.mem_singleton.mp hp]; exact ⟨el, Heap.hide_self _ _⟩) (by k_dflt k_is) (by k_dflt k_is) r.lt (BindsTo.of_eq rfl) (locs rfl) ?_ (by decide) rfl rfl rfl
  intro L h₁ tk F N kp' hL
  have hI : Inst (s.heap.hide hl) t d hl := T.ne_inst
  have T1 := T.keeps kp'
  dsimp only
  ((repeat' (first | (k_here; (with_reducible show wpAny _ _ (getMethod (Value.ref _) (Str.ofString "_convert_string_type") _) _ _ _); refine meth_conv ‹Fr _ _ _ _› (by assumption) (Inst.keeps (by assumption) (Fr.keep ‹Fr _ _ _ _›)) ?_) | (k_here; (with_reducible show wpAny _ _ (getMethod (Value.ref _) (Str.ofString "keys") _) _ _ _); refine meth_keys ‹Fr _ _ _ _› (by assumption) (Inst.keeps (by assumption) (Fr.keep ‹Fr _ _ _ _›)) ?_) | (k_here; (with_reducible show wpAny _ _ (getMethod (Value.ref _) (Str.ofString "get") _) _ _ _); refine meth_get ‹Fr _ _ _ _› (by assumption) (Inst.keeps (by assumption) (Fr.keep ‹Fr _ _ _ _›)) ?_) | (k_here; (with_reducible show wpAny _ _ (getAttr (Value.ref _) (Str.ofString "_headers") _) _ _ _); refine hdr_get ‹Fr _ _ _ _› (by assumption) (Inst.keeps (by assumption) (Fr.keep ‹Fr _ _ _ _›)) ?_) | (k_here; (with_reducible show wpAny _ _ (call (Value.builtin "str.lower") [Value.str _ _]) _ _ _); refine lower_T (by assumption) ?_) | walk_at "mstep")); (all_goals (try dsimp only)))
  refine hdr_del F KX T1.inst ?_
  refine useG (del_spec w (G.hide F.keep (Heap.hide_self _ _)) (Room.deeper r) T1 hR x _ hx _) fun y h2 tk2 k2 hq => ?_
  obtain ⟨tups2, T2, sub⟩ := hq
  obtain ⟨n2, el2⟩ := T2.lst
  obtain ⟨F', N'⟩ := after1F F N (UpdF.head (fun _ z => nomatch z)) k2 el2
  have kp2 : ∀ b o, s.heap.get? b = some o → b ≠ hl → h2.get? b = some o := fun b o e hb => k2 b o ((Heap.hide_ne _ hb).trans (kp' b o e))
  clear F N
  dsimp only at F' N' T2 el2
  ((repeat' (first | (k_here; (with_reducible show wpAny _ _ (getMethod (Value.ref _) (Str.ofString "_convert_string_type") _) _ _ _); refine meth_conv ‹Fr _ _ _ _› (by assumption) (Inst.keeps (by assumption) (Fr.keep ‹Fr _ _ _ _›)) ?_) | (k_here; (with_reducible show wpAny _ _ (getMethod (Value.ref _) (Str.ofString "keys") _) _ _ _); refine meth_keys ‹Fr _ _ _ _› (by assumption) (Inst.keeps (by assumption) (Fr.keep ‹Fr _ _ _ _›)) ?_) | (k_here; (with_reducible show wpAny _ _ (getMethod (Value.ref _) (Str.ofString "get") _) _ _ _); refine meth_get ‹Fr _ _ _ _› (by assumption) (Inst.keeps (by assumption) (Fr.keep ‹Fr _ _ _ _›)) ?_) | (k_here; (with_reducible show wpAny _ _ (getAttr (Value.ref _) (Str.ofString "_headers") _) _ _ _); refine hdr_get ‹Fr _ _ _ _› (by assumption) (Inst.keeps (by assumption) (Fr.keep ‹Fr _ _ _ _›)) ?_) | (k_here; (with_reducible show wpAny _ _ (call (Value.builtin "str.lower") [Value.str _ _]) _ _ _); refine lower_T (by assumption) ?_) | walk_at "mstep")); (all_goals (try dsimp only)))
  rename Fr _ _ _ _ => F
  refine use (conv_spec w (G.keeps F.keep) (Room.deeper (r.less (by decide : 2 ≤ 3))) (.ref t) x hx true _ _) fun y h3 tk3 k3 hq => ?_
  subst hq
  obtain ⟨F'', N''⟩ := after0 F N' k3
  have T3 := T2.keeps k3
  clear F N'
  ((repeat' (first | (k_here; (with_reducible show wpAny _ _ (getMethod (Value.ref _) (Str.ofString "_convert_string_type") _) _ _ _); refine meth_conv ‹Fr _ _ _ _› (by assumption) (Inst.keeps (by assumption) (Fr.keep ‹Fr _ _ _ _›)) ?_) | (k_here; (with_reducible show wpAny _ _ (getMethod (Value.ref _) (Str.ofString "keys") _) _ _ _); refine meth_keys ‹Fr _ _ _ _› (by assumption) (Inst.keeps (by assumption) (Fr.keep ‹Fr _ _ _ _›)) ?_) | (k_here; (with_reducible show wpAny _ _ (getMethod (Value.ref _) (Str.ofString "get") _) _ _ _); refine meth_get ‹Fr _ _ _ _› (by assumption) (Inst.keeps (by assumption) (Fr.keep ‹Fr _ _ _ _›)) ?_) | (k_here; (with_reducible show wpAny _ _ (getAttr (Value.ref _) (Str.ofString "_headers") _) _ _ _); refine hdr_get ‹Fr _ _ _ _› (by assumption) (Inst.keeps (by assumption) (Fr.keep ‹Fr _ _ _ _›)) ?_) | (k_here; (with_reducible show wpAny _ _ (call (Value.builtin "str.lower") [Value.str _ _]) _ _ _); refine lower_T (by assumption) ?_) | walk_at "mstep")); (all_goals (try dsimp only)))
  rename Fr _ _ _ _ => F
  refine use (conv_spec w (G.keeps F.keep) (Room.deeper (r.less (by decide : 2 ≤ 3))) (.ref t) v hv false _ _) fun y h4 tk4 k4 hq => ?_
  subst hq
  obtain ⟨F3, N3⟩ := after0 F N'' k4
  have T4 := T3.keeps k4
  clear F N''
  ((repeat' (first | (k_here; (with_reducible show wpAny _ _ (getMethod (Value.ref _) (Str.ofString "_convert_string_type") _) _ _ _); refine meth_conv ‹Fr _ _ _ _› (by assumption) (Inst.keeps (by assumption) (Fr.keep ‹Fr _ _ _ _›)) ?_) | (k_here; (with_reducible show wpAny _ _ (getMethod (Value.ref _) (Str.ofString "keys") _) _ _ _); refine meth_keys ‹Fr _ _ _ _› (by assumption) (Inst.keeps (by assumption) (Fr.keep ‹Fr _ _ _ _›)) ?_) | (k_here; (with_reducible show wpAny _ _ (getMethod (Value.ref _) (Str.ofString "get") _) _ _ _); refine meth_get ‹Fr _ _ _ _› (by assumption) (Inst.keeps (by assumption) (Fr.keep ‹Fr _ _ _ _›)) ?_) | (k_here; (with_reducible show wpAny _ _ (getAttr (Value.ref _) (Str.ofString "_headers") _) _ _ _); refine hdr_get ‹Fr _ _ _ _› (by assumption) (Inst.keeps (by assumption) (Fr.keep ‹Fr _ _ _ _›)) ?_) | (k_here; (with_reducible show wpAny _ _ (call (Value.builtin "str.lower") [Value.str _ _]) _ _ _); refine lower_T (by assumption) ?_) | walk_at "mstep")); (all_goals (try dsimp only)))
  rename Fr _ _ _ _ => F
  rename News _ _ _ _ => N
  rename hl < _ => hlt
  rename_i D h5
  have hne : D ≠ hl := Nat.ne_of_gt hlt
  have hlen2 : tups2.length ≤ 63 := by
    have e1 := T2.row.length
    have e2 := T.row.length
    have e3 := List.length_filter_le (fun r : Str × Str => decide (low r.1 ≠ low x)) rows
    omega
  refine append_K F N (Upd.tail hne (.head (fun _ z => nomatch z))) ?_ ?z
  case z => (simp; exact Nat.le_trans hlen2 (by decide))
  intro h6 F6 N6
  clear F N
  ((repeat' (first | (k_here; (with_reducible show wpAny _ _ (getMethod (Value.ref _) (Str.ofString "_convert_string_type") _) _ _ _); refine meth_conv ‹Fr _ _ _ _› (by assumption) (Inst.keeps (by assumption) (Fr.keep ‹Fr _ _ _ _›)) ?_) | (k_here; (with_reducible show wpAny _ _ (getMethod (Value.ref _) (Str.ofString "keys") _) _ _ _); refine meth_keys ‹Fr _ _ _ _› (by assumption) (Inst.keeps (by assumption) (Fr.keep ‹Fr _ _ _ _›)) ?_) | (k_here; (with_reducible show wpAny _ _ (getMethod (Value.ref _) (Str.ofString "get") _) _ _ _); refine meth_get ‹Fr _ _ _ _› (by assumption) (Inst.keeps (by assumption) (Fr.keep ‹Fr _ _ _ _›)) ?_) | (k_here; (with_reducible show wpAny _ _ (getAttr (Value.ref _) (Str.ofString "_headers") _) _ _ _); refine hdr_get ‹Fr _ _ _ _› (by assumption) (Inst.keeps (by assumption) (Fr.keep ‹Fr _ _ _ _›)) ?_) | (k_here; (with_reducible show wpAny _ _ (call (Value.builtin "str.lower") [Value.str _ _]) _ _ _); refine lower_T (by assumption) ?_) | walk_at "mstep")); (all_goals (try dsimp only)))
  have hDs : s.heap.get? D = none := by
    have := (N6 _ (.head _)).2.2
    rwa [Heap.hide_ne _ hne] at this
  refine ⟨KeepsG.of_fr F6, tups2 ++ [(D, { cls := Value.type "tuple", data := Data.seq #[Value.str x tx, Value.str v tv] })], ⟨hI.keeps F6.keep, ⟨n2 + 1, ?_⟩, ?_, ?_, ?_⟩, ?_⟩
  · have e := (N6 _ (.tail _ (.head _))).1
    have e2 : (refsOf tups2).push (Value.ref D) = refsOf (tups2 ++ [(D, { cls := Value.type "tuple", data := Data.seq #[Value.str x tx, Value.str v tv] })]) := by
      unfold refsOf; simp
    rw [← e2]; exact e
  · intro p hp
    rcases List.mem_append.mp hp with hp | hp
    · have hp' := sub p hp
      exact F6.keep _ _ ((Heap.hide_ne _ (T.apart hp')).trans (T.tup p hp'))
    · rw [List.mem_singleton.mp hp]; exact (N6 _ (.head _)).1
  · exact T2.row.snoc ⟨rfl, _, _, _, rfl⟩
  · simp; omega
  · intro p hp
    rcases List.mem_append.mp hp with hp | hp
    · exact .inl (sub p hp)
    · rw [List.mem_singleton.mp hp]; exact .inr hDs
/-! 21init -/
theorem Room.call {k : Nat} {A : Around} {C : Addr} {vals : List Value} {kw : List (Str × Value)} (r : Room (k + 1) A) : Room k (A.under (.builtin "type.__call__" ⟨.ref C :: vals, kw⟩)) :=
  ⟨r.hd, by have := r.dp; show A.depth + 1 + k < _; omega, by have := r.un; show A.units + 1 + 8 * k < _; omega⟩
theorem loop0 {prog : Program} {w : World} {A : Around} {E : Value → Shared → Prop} {s : Shared} {g : Heap} {env : Env} {m : Str → Option Value} {news : List (Addr × Obj)} {elts : List Expr} {k1 : Nat} {p1 : Pos} {body : List Stmt} {Q : Flow → Shared → Prop}
    {a L : Addr} (hl' : s.heap.IsList a #[]) (hh : A.handled = none) (F : Fr g L s.heap m) (N : News g L s.heap news) (haL : a ≠ L)
    (done : ∀ h tk, Fr g L h m → News g L h news → Q .next { s with heap := h, toks := tk }) (hL : env.locals = L := by rfl) :
    wpAny (model prog w) A (pyIter (.ref a)) (fun it s₂ => TurnsAt prog w A g env (.Tuple elts k1 p1) body Q E it s₂) E s := by
  subst hL
  have up : ∀ b o, s.heap.get? b = some o → (s.heap.push { cls := .type "list_iterator", data := .fields #[.ref a, .int 0 0] }).get? b = some o := fun b o e => Heap.get?_push_of_some _ e
  refine wpAny_pyIter_list hl' ?_
  obtain ⟨F', N'⟩ := after0 F N up
  have hgI := newG F
  obtain ⟨oa, hoa, _⟩ := id hl'
  have hne : a ≠ s.heap.objs.size := Nat.ne_of_lt (Heap.lt_size hoa)
  refine ⟨s.heap.objs.size, _, [s.heap.objs.size], _, _, _, _, m, news, fun _ m' news' => m' = m ∧ news' = news, rfl, KTurns.ofWalksU (WalksU.listOfTuples hh s.heap.objs.size a hne #[] (fun j => 0) (fun j => #[]) (fun j hj => absurd hj (Nat.not_lt_zero _)) (fun j hj => absurd hj (Nat.not_lt_zero _))), ?_, ?_, ?_, ⟨⟨_, Heap.get?_push_size _ rfl, rfl, rfl⟩, hl'.push _, fun j hj => absurd hj (Nat.not_lt_zero _)⟩, F', N', ⟨rfl, rfl⟩, ?_, ?_⟩
  · intro hb
    rcases List.mem_cons.mp hb with e | hb
    · exact newL F e
    · rcases List.mem_cons.mp hb with e | hb
      · exact haL e.symm
      · obtain ⟨j, hj, e⟩ := List.mem_map.mp hb
        exact absurd (List.mem_range.mp hj) (Nat.not_lt_zero _)
  · intro b hb; rw [List.mem_singleton.mp hb]; exact hgI
  · intro p hp hb; exact newN N p hp (List.mem_singleton.mp hb)
  · rintro i v m₁ news₁ h₁ tk₁ own hi
    exact absurd hi (Nat.not_lt_zero _)
  · rintro h' tk m' news' F'' N'' _ ⟨rfl, rfl⟩
    exact done h' tk F'' N''
set_option maxHeartbeats 8000000 in
theorem init0_spec (w : World) {mean mg mb} {A : Around} {s : Shared} {x dx : Addr} (G : Gd w mean mg mb (hideL s.heap [x, dx])) (r : Room 2 A)
    (hx : s.heap.get? x = some (instObj 236 dx)) (hdx : s.heap.get? dx = some (dictOf [] 0)) (hlt : dx < x) (R : Result → Shared → Prop)
    (h : ∀ h' tk hl hsh tke, (∀ b o, (hideL s.heap [x, dx]).get? b = some o → h'.get? b = some o) → s.heap.get? hl = none → Tab h' x dx hl [] [] → h'.get? dx = some (dictOf [⟨hsh, .str (Str.ofString "_headers") tke, .ref hl⟩] 1) → h'.get? hl = some (listOf #[] 0) → R (.ok (.ret .none)) { s with heap := h', toks := tk }) :
    codeAny (model pg w) A (.call (.ref 128) ⟨[.ref x], []⟩) R s := by
  have KX := G.X
  have KT := G.T
  refine enter (news := [(x, instObj 236 dx), (dx, dictOf [] 0)]) [(Str.ofString "self", .ref x), (Str.ofString "headers", .none)] KX KT.nolimit (fun _ _ e => of_hideL e) (Nat.le_of_eq (hideL_size _ _)) (fun p hp => by
    rcases List.mem_cons.mp hp with rfl | hp
    · exact ⟨hx, hideL_in _ (.head _)⟩
    · rw [List.mem_singleton.mp hp]; exact ⟨hdx, hideL_in _ (.tail _ (.head _))⟩) (by k_dflt k_is) (by k_dflt k_is) r.lt (binds_K (KX.keeps fun _ _ e => of_hideL e) rfl (by k_dflt k_is) rfl rfl rfl) (locs rfl) ?_ (by decide) rfl rfl rfl
  intro L h₁ tk F N kp' hL
  have hlt' : @LT.lt Nat _ dx x := hlt
  ((repeat' (first | (k_here; (with_reducible show wpAny _ _ (getMethod (Value.ref _) (Str.ofString "_convert_string_type") _) _ _ _); refine meth_conv ‹Fr _ _ _ _› (by assumption) (Inst.keeps (by assumption) (Fr.keep ‹Fr _ _ _ _›)) ?_) | (k_here; (with_reducible show wpAny _ _ (getMethod (Value.ref _) (Str.ofString "keys") _) _ _ _); refine meth_keys ‹Fr _ _ _ _› (by assumption) (Inst.keeps (by assumption) (Fr.keep ‹Fr _ _ _ _›)) ?_) | (k_here; (with_reducible show wpAny _ _ (getMethod (Value.ref _) (Str.ofString "get") _) _ _ _); refine meth_get ‹Fr _ _ _ _› (by assumption) (Inst.keeps (by assumption) (Fr.keep ‹Fr _ _ _ _›)) ?_) | (k_here; (with_reducible show wpAny _ _ (getAttr (Value.ref _) (Str.ofString "_headers") _) _ _ _); refine hdr_get ‹Fr _ _ _ _› (by assumption) (Inst.keeps (by assumption) (Fr.keep ‹Fr _ _ _ _›)) ?_) | (k_here; (with_reducible show wpAny _ _ (call (Value.builtin "str.lower") [Value.str _ _]) _ _ _); refine lower_T (by assumption) ?_) | walk_at "mstep")); (all_goals (try dsimp only)))
  rename Fr _ _ _ _ => F
  refine For_turns F ?_ (hE := PassesOwn.never)
  ((repeat' (first | (k_here; (with_reducible show wpAny _ _ (getMethod (Value.ref _) (Str.ofString "_convert_string_type") _) _ _ _); refine meth_conv ‹Fr _ _ _ _› (by assumption) (Inst.keeps (by assumption) (Fr.keep ‹Fr _ _ _ _›)) ?_) | (k_here; (with_reducible show wpAny _ _ (getMethod (Value.ref _) (Str.ofString "keys") _) _ _ _); refine meth_keys ‹Fr _ _ _ _› (by assumption) (Inst.keeps (by assumption) (Fr.keep ‹Fr _ _ _ _›)) ?_) | (k_here; (with_reducible show wpAny _ _ (getMethod (Value.ref _) (Str.ofString "get") _) _ _ _); refine meth_get ‹Fr _ _ _ _› (by assumption) (Inst.keeps (by assumption) (Fr.keep ‹Fr _ _ _ _›)) ?_) | (k_here; (with_reducible show wpAny _ _ (getAttr (Value.ref _) (Str.ofString "_headers") _) _ _ _); refine hdr_get ‹Fr _ _ _ _› (by assumption) (Inst.keeps (by assumption) (Fr.keep ‹Fr _ _ _ _›)) ?_) | (k_here; (with_reducible show wpAny _ _ (call (Value.builtin "str.lower") [Value.str _ _]) _ _ _); refine lower_T (by assumption) ?_) | walk_at "mstep")); (all_goals (try dsimp only)))
  rename Fr _ _ _ _ => F
  rename News _ _ _ _ => N
  refine loop0 ⟨_, (N _ (.head _)).1, rfl, _, rfl⟩ (Room.deeper (r.less (by decide : 1 ≤ 2))).hd F N (N _ (.head _)).2.1 (fun h' tk F' N' => ?_)
  clear F N
  ((repeat' (first | (k_here; (with_reducible show wpAny _ _ (getMethod (Value.ref _) (Str.ofString "_convert_string_type") _) _ _ _); refine meth_conv ‹Fr _ _ _ _› (by assumption) (Inst.keeps (by assumption) (Fr.keep ‹Fr _ _ _ _›)) ?_) | (k_here; (with_reducible show wpAny _ _ (getMethod (Value.ref _) (Str.ofString "keys") _) _ _ _); refine meth_keys ‹Fr _ _ _ _› (by assumption) (Inst.keeps (by assumption) (Fr.keep ‹Fr _ _ _ _›)) ?_) | (k_here; (with_reducible show wpAny _ _ (getMethod (Value.ref _) (Str.ofString "get") _) _ _ _); refine meth_get ‹Fr _ _ _ _› (by assumption) (Inst.keeps (by assumption) (Fr.keep ‹Fr _ _ _ _›)) ?_) | (k_here; (with_reducible show wpAny _ _ (getAttr (Value.ref _) (Str.ofString "_headers") _) _ _ _); refine hdr_get ‹Fr _ _ _ _› (by assumption) (Inst.keeps (by assumption) (Fr.keep ‹Fr _ _ _ _›)) ?_) | (k_here; (with_reducible show wpAny _ _ (call (Value.builtin "str.lower") [Value.str _ _]) _ _ _); refine lower_T (by assumption) ?_) | walk_at "mstep")); (all_goals (try dsimp only)))
  refine h _ _ _ _ _ F'.keep ?_ ⟨⟨(N' _ (.tail _ (.head _))).1, _, _, _, (N' _ (.tail _ (.tail _ (.head _)))).1⟩, ⟨0, (N' _ (.head _)).1⟩, (fun _ h => nomatch h), .nil, by simp⟩ (N' _ (.tail _ (.tail _ (.head _)))).1 (N' _ (.head _)).1
  have z := (N' _ (.head _)).2.2
  rw [hideL_off] at z
  · exact z
  · simp only [List.mem_cons, List.not_mem_nil, or_false]
    rename _ ∧ _ => hl1
    rintro (e | e)
    · exact absurd e (Nat.ne_of_gt hl1.1)
    · exact absurd e (Nat.ne_of_gt hl1.2)

inductive InitJ (x dx a : Addr) (i : Nat) (m : Str → Option Value) (news : List (Addr × Obj)) : Prop
  | mk (hsh : Int) (tk : Tok) (hn : news = [(x, instObj 236 dx), (dx, dictOf [⟨hsh, .str (Str.ofString "_headers") tk, .ref a⟩] 1)]) (hm : Has m [(Str.ofString "self", .ref x)])
set_option maxHeartbeats 8000000 in
theorem init1_spec (w : World) {mean mg mb} {A : Around} {s : Shared} {x dx a : Addr} {tups rows} (G : Gd w mean mg mb (hideL s.heap [x, dx])) (r : Room 3 A)
    (hx : s.heap.get? x = some (instObj 236 dx)) (hdx : s.heap.get? dx = some (dictOf [] 0)) (hlt : dx < x) (T : TabL (hideL s.heap [x, dx]) a tups rows) (hT : ∀ r ∈ rows, TameS r.1 ∧ TameS r.2) (hz : tups.length ≤ 64) (R : Result → Shared → Prop)
    (h : ∀ h' tk e, (∀ b o, (hideL s.heap [x, dx]).get? b = some o → h'.get? b = some o) → Tab h' x dx a tups rows → h'.get? dx = some (dictOf [e] 1) → R (.ok (.ret .none)) { s with heap := h', toks := tk }) :
    codeAny (model pg w) A (.call (.ref 128) ⟨[.ref x, .ref a], []⟩) R s := by
  have KX := G.X
  have KT := G.T
  refine enter (news := [(x, instObj 236 dx), (dx, dictOf [] 0)]) [(Str.ofString "self", .ref x), (Str.ofString "headers", .ref a)] KX KT.nolimit (fun _ _ e => of_hideL e) (Nat.le_of_eq (hideL_size _ _)) (fun p hp => by
    rcases List.mem_cons.mp hp with rfl | hp
    · exact ⟨hx, hideL_in _ (.head _)⟩
    · rw [List.mem_singleton.mp hp]; exact ⟨hdx, hideL_in _ (.tail _ (.head _))⟩) (by k_dflt k_is) (by k_dflt k_is) r.lt (binds_K (KX.keeps fun _ _ e => of_hideL e) rfl (by k_dflt k_is) rfl rfl rfl) (locs rfl) ?_ (by decide) rfl rfl rfl
  intro L h₁ tk F N kp' hL
  have hlt' : @LT.lt Nat _ dx x := hlt
  obtain ⟨n0, el⟩ := T.lst
  have hlist : Heap.IsList (hideL s.heap [x, dx]) a (refsOf tups) := ⟨_, el, rfl, _, rfl⟩
  ((repeat' (first | (k_here; (with_reducible show wpAny _ _ (getMethod (Value.ref _) (Str.ofString "_convert_string_type") _) _ _ _); refine meth_conv ‹Fr _ _ _ _› (by assumption) (Inst.keeps (by assumption) (Fr.keep ‹Fr _ _ _ _›)) ?_) | (k_here; (with_reducible show wpAny _ _ (getMethod (Value.ref _) (Str.ofString "keys") _) _ _ _); refine meth_keys ‹Fr _ _ _ _› (by assumption) (Inst.keeps (by assumption) (Fr.keep ‹Fr _ _ _ _›)) ?_) | (k_here; (with_reducible show wpAny _ _ (getMethod (Value.ref _) (Str.ofString "get") _) _ _ _); refine meth_get ‹Fr _ _ _ _› (by assumption) (Inst.keeps (by assumption) (Fr.keep ‹Fr _ _ _ _›)) ?_) | (k_here; (with_reducible show wpAny _ _ (getAttr (Value.ref _) (Str.ofString "_headers") _) _ _ _); refine hdr_get ‹Fr _ _ _ _› (by assumption) (Inst.keeps (by assumption) (Fr.keep ‹Fr _ _ _ _›)) ?_) | (k_here; (with_reducible show wpAny _ _ (call (Value.builtin "str.lower") [Value.str _ _]) _ _ _); refine lower_T (by assumption) ?_) | walk_at "mstep")); (all_goals (try dsimp only)))
  rename Fr _ _ _ _ => F
  refine call_type_of (Tx := "list") ⟨_, F.keep _ _ el, rfl⟩ (by decide +kernel) ?_
  ((repeat' (first | (k_here; (with_reducible show wpAny _ _ (getMethod (Value.ref _) (Str.ofString "_convert_string_type") _) _ _ _); refine meth_conv ‹Fr _ _ _ _› (by assumption) (Inst.keeps (by assumption) (Fr.keep ‹Fr _ _ _ _›)) ?_) | (k_here; (with_reducible show wpAny _ _ (getMethod (Value.ref _) (Str.ofString "keys") _) _ _ _); refine meth_keys ‹Fr _ _ _ _› (by assumption) (Inst.keeps (by assumption) (Fr.keep ‹Fr _ _ _ _›)) ?_) | (k_here; (with_reducible show wpAny _ _ (getMethod (Value.ref _) (Str.ofString "get") _) _ _ _); refine meth_get ‹Fr _ _ _ _› (by assumption) (Inst.keeps (by assumption) (Fr.keep ‹Fr _ _ _ _›)) ?_) | (k_here; (with_reducible show wpAny _ _ (getAttr (Value.ref _) (Str.ofString "_headers") _) _ _ _); refine hdr_get ‹Fr _ _ _ _› (by assumption) (Inst.keeps (by assumption) (Fr.keep ‹Fr _ _ _ _›)) ?_) | (k_here; (with_reducible show wpAny _ _ (call (Value.builtin "str.lower") [Value.str _ _]) _ _ _); refine lower_T (by assumption) ?_) | walk_at "mstep")); (all_goals (try dsimp only)))
  rename Fr _ _ _ _ => F
  refine For_turns F ?_ (hE := PassesOwn.never)
  ((repeat' (first | (k_here; (with_reducible show wpAny _ _ (getMethod (Value.ref _) (Str.ofString "_convert_string_type") _) _ _ _); refine meth_conv ‹Fr _ _ _ _› (by assumption) (Inst.keeps (by assumption) (Fr.keep ‹Fr _ _ _ _›)) ?_) | (k_here; (with_reducible show wpAny _ _ (getMethod (Value.ref _) (Str.ofString "keys") _) _ _ _); refine meth_keys ‹Fr _ _ _ _› (by assumption) (Inst.keeps (by assumption) (Fr.keep ‹Fr _ _ _ _›)) ?_) | (k_here; (with_reducible show wpAny _ _ (getMethod (Value.ref _) (Str.ofString "get") _) _ _ _); refine meth_get ‹Fr _ _ _ _› (by assumption) (Inst.keeps (by assumption) (Fr.keep ‹Fr _ _ _ _›)) ?_) | (k_here; (with_reducible show wpAny _ _ (getAttr (Value.ref _) (Str.ofString "_headers") _) _ _ _); refine hdr_get ‹Fr _ _ _ _› (by assumption) (Inst.keeps (by assumption) (Fr.keep ‹Fr _ _ _ _›)) ?_) | (k_here; (with_reducible show wpAny _ _ (call (Value.builtin "str.lower") [Value.str _ _]) _ _ _); refine lower_T (by assumption) ?_) | walk_at "mstep")); (all_goals (try dsimp only)))
  rename Fr _ _ _ _ => F
  rename News _ _ _ _ => N
  refine loopT T (Room.deeper (r.less (by decide : 2 ≤ 3))).hd F N (InitJ x dx a) ⟨_, _, rfl, .cons rfl .nil⟩ ?_ ?_
  · intro i p kk vv tk tv m₁ news₁ h tk' own I Tt R0 hR0 hp hr hJ hoff hown hTt F₁ N₁
    obtain ⟨hsh, tke, rfl, hm⟩ := hJ
    obtain ⟨u, rfl⟩ := hm.open
    obtain ⟨hk, hv⟩ := hT _ (List.mem_of_getElem? hr)
    clear F N
    dsimp only at hk hv
    refine unpackN_ F₁ N₁ hTt (Room.deeper (r.less (by decide : 2 ≤ 3))).hd rfl rfl (fun h' F' N' => ?_)
    clear F₁ N₁
    ((repeat' (first | (k_here; (with_reducible show wpAny _ _ (getMethod (Value.ref _) (Str.ofString "_convert_string_type") _) _ _ _); refine meth_conv ‹Fr _ _ _ _› (by assumption) (Inst.keeps (by assumption) (Fr.keep ‹Fr _ _ _ _›)) ?_) | (k_here; (with_reducible show wpAny _ _ (getMethod (Value.ref _) (Str.ofString "keys") _) _ _ _); refine meth_keys ‹Fr _ _ _ _› (by assumption) (Inst.keeps (by assumption) (Fr.keep ‹Fr _ _ _ _›)) ?_) | (k_here; (with_reducible show wpAny _ _ (getMethod (Value.ref _) (Str.ofString "get") _) _ _ _); refine meth_get ‹Fr _ _ _ _› (by assumption) (Inst.keeps (by assumption) (Fr.keep ‹Fr _ _ _ _›)) ?_) | (k_here; (with_reducible show wpAny _ _ (getAttr (Value.ref _) (Str.ofString "_headers") _) _ _ _); refine hdr_get ‹Fr _ _ _ _› (by assumption) (Inst.keeps (by assumption) (Fr.keep ‹Fr _ _ _ _›)) ?_) | (k_here; (with_reducible show wpAny _ _ (call (Value.builtin "str.lower") [Value.str _ _]) _ _ _); refine lower_T (by assumption) ?_) | walk_at "mstep")); (all_goals (try dsimp only)))
    rename Fr _ _ _ _ => F
    rename News _ _ _ _ => N
    refine useV (conv_spec w (G.keeps F.keep) (Room.deeper (r.less (by decide : 2 ≤ 3))) (.ref x) kk hk true _ _) F N fun h3 tk3 F1 N1 => ?_
    clear F N
    ((repeat' (first | (k_here; (with_reducible show wpAny _ _ (getMethod (Value.ref _) (Str.ofString "_convert_string_type") _) _ _ _); refine meth_conv ‹Fr _ _ _ _› (by assumption) (Inst.keeps (by assumption) (Fr.keep ‹Fr _ _ _ _›)) ?_) | (k_here; (with_reducible show wpAny _ _ (getMethod (Value.ref _) (Str.ofString "keys") _) _ _ _); refine meth_keys ‹Fr _ _ _ _› (by assumption) (Inst.keeps (by assumption) (Fr.keep ‹Fr _ _ _ _›)) ?_) | (k_here; (with_reducible show wpAny _ _ (getMethod (Value.ref _) (Str.ofString "get") _) _ _ _); refine meth_get ‹Fr _ _ _ _› (by assumption) (Inst.keeps (by assumption) (Fr.keep ‹Fr _ _ _ _›)) ?_) | (k_here; (with_reducible show wpAny _ _ (getAttr (Value.ref _) (Str.ofString "_headers") _) _ _ _); refine hdr_get ‹Fr _ _ _ _› (by assumption) (Inst.keeps (by assumption) (Fr.keep ‹Fr _ _ _ _›)) ?_) | (k_here; (with_reducible show wpAny _ _ (call (Value.builtin "str.lower") [Value.str _ _]) _ _ _); refine lower_T (by assumption) ?_) | walk_at "mstep")); (all_goals (try dsimp only)))
    rename Fr _ _ _ _ => F
    rename News _ _ _ _ => N
    refine useV (conv_spec w (G.keeps F.keep) (Room.deeper (r.less (by decide : 2 ≤ 3))) (.ref x) vv hv false _ _) F N fun h4 tk4 F2 N2 => ?_
    clear F N
    ((repeat' (first | (k_here; (with_reducible show wpAny _ _ (getMethod (Value.ref _) (Str.ofString "_convert_string_type") _) _ _ _); refine meth_conv ‹Fr _ _ _ _› (by assumption) (Inst.keeps (by assumption) (Fr.keep ‹Fr _ _ _ _›)) ?_) | (k_here; (with_reducible show wpAny _ _ (getMethod (Value.ref _) (Str.ofString "keys") _) _ _ _); refine meth_keys ‹Fr _ _ _ _› (by assumption) (Inst.keeps (by assumption) (Fr.keep ‹Fr _ _ _ _›)) ?_) | (k_here; (with_reducible show wpAny _ _ (getMethod (Value.ref _) (Str.ofString "get") _) _ _ _); refine meth_get ‹Fr _ _ _ _› (by assumption) (Inst.keeps (by assumption) (Fr.keep ‹Fr _ _ _ _›)) ?_) | (k_here; (with_reducible show wpAny _ _ (getAttr (Value.ref _) (Str.ofString "_headers") _) _ _ _); refine hdr_get ‹Fr _ _ _ _› (by assumption) (Inst.keeps (by assumption) (Fr.keep ‹Fr _ _ _ _›)) ?_) | (k_here; (with_reducible show wpAny _ _ (call (Value.builtin "str.lower") [Value.str _ _]) _ _ _); refine lower_T (by assumption) ?_) | walk_at "mstep")); (all_goals (try dsimp only)))
    refine hR0 _ _ ?_
    dsimp only [TurnEnd]
    exact ⟨_, _, _, _, rfl, F2, N2, hoff, _, _, rfl, .cons rfl .nil⟩
  · intro h' tk m' news' hJ F₁ N₁
    obtain ⟨hsh, tke, rfl, hm⟩ := hJ
    clear F N
    ((repeat' (first | (k_here; (with_reducible show wpAny _ _ (getMethod (Value.ref _) (Str.ofString "_convert_string_type") _) _ _ _); refine meth_conv ‹Fr _ _ _ _› (by assumption) (Inst.keeps (by assumption) (Fr.keep ‹Fr _ _ _ _›)) ?_) | (k_here; (with_reducible show wpAny _ _ (getMethod (Value.ref _) (Str.ofString "keys") _) _ _ _); refine meth_keys ‹Fr _ _ _ _› (by assumption) (Inst.keeps (by assumption) (Fr.keep ‹Fr _ _ _ _›)) ?_) | (k_here; (with_reducible show wpAny _ _ (getMethod (Value.ref _) (Str.ofString "get") _) _ _ _); refine meth_get ‹Fr _ _ _ _› (by assumption) (Inst.keeps (by assumption) (Fr.keep ‹Fr _ _ _ _›)) ?_) | (k_here; (with_reducible show wpAny _ _ (getAttr (Value.ref _) (Str.ofString "_headers") _) _ _ _); refine hdr_get ‹Fr _ _ _ _› (by assumption) (Inst.keeps (by assumption) (Fr.keep ‹Fr _ _ _ _›)) ?_) | (k_here; (with_reducible show wpAny _ _ (call (Value.builtin "str.lower") [Value.str _ _]) _ _ _); refine lower_T (by assumption) ?_) | walk_at "mstep")); (all_goals (try dsimp only)))
    exact h _ _ _ F₁.keep ⟨⟨(N₁ _ (.head _)).1, _, _, _, (N₁ _ (.tail _ (.head _))).1⟩, ⟨n0, F₁.keep _ _ el⟩, (fun p hp => F₁.keep _ _ (T.tup p hp)), T.row, hz⟩ (N₁ _ (.tail _ (.head _))).1

/-- Headers() of a frame -/
theorem new0 (w : World) {mean mg mb} {A : Around} {E : Value → Shared → Prop} {s : Shared} {g : Heap} {L : Addr} {m : Str → Option Value} {news : List (Addr × Obj)} {Q : Value → Shared → Prop} (G : Gd w mean mg mb g) (r : Room 3 A) (F : Fr g L s.heap m) (N : News g L s.heap news)
    (h : ∀ t d hl hsh tke h' tk, Fr g L h' m → News g L h' ((t, instObj 236 d) :: (d, dictOf [⟨hsh, .str (Str.ofString "_headers") tke, .ref hl⟩] 1) :: (hl, listOf #[] 0) :: news) → (∀ p ∈ news, p.1 ≠ t ∧ p.1 ≠ d ∧ p.1 ≠ hl) → t ≠ hl → d ≠ hl → d ≠ t → Tab h' t d hl [] [] → Q (.ref t) { s with heap := h', toks := tk }) :
    wpAny (model pg w) A (call (.ref 236) [] []) Q E s := by
  refine call_cls (K := hd.heap_1 w.params) F G.X N (hm := by k_dflt k_is) (hi := by k_dflt k_is) (hf := by k_dflt k_is) ?_
  intro x dx h' F' N' l1 l2
  have hx := (N' _ (.head _))
  have hdx := (N' _ (.tail _ (.head _)))
  have Gh : Gd w mean mg mb (hideL h' [x, dx]) := G.hideL F'.keep (fun a ha => by
    rcases List.mem_cons.mp ha with rfl | ha
    · exact hx.2.2
    · rw [List.mem_singleton.mp ha]; exact hdx.2.2)
  refine init0_spec w (s := { s with heap := h' }) Gh (Room.call r) hx.1 hdx.1 l2 _ (fun h2 tk hl hsh tke k2 hn T e1 e2 => ?_)
  have off : ∀ b o, b ≠ x → b ≠ dx → h'.get? b = some o → h2.get? b = some o := fun b o n1 n2 eb => k2 b o ((hideL_off _ (by simp [n1, n2])).trans eb)
  have gn : ∀ b o, g.get? b = some o → h2.get? b = some o := fun b o eb => off b o (fun q => by rw [q, hx.2.2] at eb; cases eb) (fun q => by rw [q, hdx.2.2] at eb; cases eb) (F'.keep b o eb)
  obtain ⟨oL, a1, a2, hL, a3⟩ := F'.ns
  have F2 : Fr g L h2 m := ⟨⟨oL, a1, a2, off _ _ (Ne.symm hx.2.1) (Ne.symm hdx.2.1) hL, a3⟩, gn, F'.above⟩
  have ap : ∀ p ∈ news, p.1 ≠ x ∧ p.1 ≠ dx ∧ p.1 ≠ hl := fun p hp => by
    have z := l1 p hp
    refine ⟨Nat.ne_of_lt (Nat.lt_trans z l2), Nat.ne_of_lt z, fun q => ?_⟩
    have := (N' p (.tail _ (.tail _ hp))).1
    rw [q] at this
    have hn' : h'.get? hl = none := hn
    rw [hn'] at this; cases this
  have hn' : h'.get? hl = none := hn
  refine ⟨rfl, h x dx hl hsh tke h2 tk F2 (fun p hp => ?_) ap (fun q => ?_) (fun q => ?_) (Nat.ne_of_lt l2) T⟩
  · rcases List.mem_cons.mp hp with rfl | hp
    · exact ⟨T.inst.at_, hx.2⟩
    · rcases List.mem_cons.mp hp with rfl | hp
      · exact ⟨e1, hdx.2⟩
      · rcases List.mem_cons.mp hp with rfl | hp
        · refine ⟨e2, fun q => ?_, ?_⟩
          · dsimp only at q; rw [← q, hn'] at hL; cases hL
          · cases q : g.get? hl with
            | none => rfl
            | some o => have := F'.keep _ _ q; rw [hn'] at this; cases this
        · have z := N' p (.tail _ (.tail _ hp))
          exact ⟨off _ _ (ap p hp).1 (ap p hp).2.1 z.1, z.2⟩
  · rw [q, hn'] at hx; cases hx.1
  · rw [q, hn'] at hdx; cases hdx.1
/-! 22new1 -/
/-- Headers(rows) of a frame, the rows' list in the ledger -/
theorem new1 (w : World) {mean mg mb} {A : Around} {E : Value → Shared → Prop} {s : Shared} {g : Heap} {L a : Addr} {n : Nat} {m : Str → Option Value} {news tups : List (Addr × Obj)} {rows} {Q : Value → Shared → Prop} (G : Gd w mean mg mb g) (r : Room 4 A) (F : Fr g L s.heap m) (N : News g L s.heap news)
    (ha : (a, listOf (refsOf tups) n) ∈ news) (ht : ∀ p ∈ tups, p ∈ news) (hr : Paired Row tups rows) (hT : ∀ r ∈ rows, TameS r.1 ∧ TameS r.2) (hz : tups.length ≤ 64)
    (h : ∀ t d e h' tk, Fr g L h' m → News g L h' ((t, instObj 236 d) :: (d, dictOf [e] 1) :: news) → Tab h' t d a tups rows → Q (.ref t) { s with heap := h', toks := tk }) :
    wpAny (model pg w) A (call (.ref 236) [.ref a] []) Q E s := by
  refine call_cls (K := hd.heap_1 w.params) F G.X N (hm := by k_dflt k_is) (hi := by k_dflt k_is) (hf := by k_dflt k_is) ?_
  intro x dx h' F' N' l1 l2
  have hx := (N' _ (.head _))
  have hdx := (N' _ (.tail _ (.head _)))
  have Gh : Gd w mean mg mb (hideL h' [x, dx]) := G.hideL F'.keep (fun a ha => by
    rcases List.mem_cons.mp ha with rfl | ha
    · exact hx.2.2
    · rw [List.mem_singleton.mp ha]; exact hdx.2.2)
  have hid : ∀ p ∈ news, (hideL h' [x, dx]).get? p.1 = some p.2 := fun p hp => by
    have z := l1 p hp
    rw [hideL_off]
    · exact (N' p (.tail _ (.tail _ hp))).1
    · simp only [List.mem_cons, List.not_mem_nil, or_false]
      rintro (e | e)
      · exact absurd e (Nat.ne_of_lt (Nat.lt_trans z l2))
      · exact absurd e (Nat.ne_of_lt z)
  refine init1_spec w (s := { s with heap := h' }) Gh (Room.call r) hx.1 hdx.1 l2 (a := a) (tups := tups) (rows := rows) ⟨⟨n, hid _ ha⟩, fun p hp => hid p (ht p hp), hr⟩ hT hz _ (fun h2 tk e k2 T e1 => ?_)
  have off : ∀ b o, b ≠ x → b ≠ dx → h'.get? b = some o → h2.get? b = some o := fun b o n1 n2 eb => k2 b o ((hideL_off _ (by simp [n1, n2])).trans eb)
  have gn : ∀ b o, g.get? b = some o → h2.get? b = some o := fun b o eb => off b o (fun q => by rw [q, hx.2.2] at eb; cases eb) (fun q => by rw [q, hdx.2.2] at eb; cases eb) (F'.keep b o eb)
  obtain ⟨oL, a1, a2, hL, a3⟩ := F'.ns
  have F2 : Fr g L h2 m := ⟨⟨oL, a1, a2, off _ _ (Ne.symm hx.2.1) (Ne.symm hdx.2.1) hL, a3⟩, gn, F'.above⟩
  refine ⟨rfl, h x dx e h2 tk F2 (fun p hp => ?_) T⟩
  rcases List.mem_cons.mp hp with rfl | hp
  · exact ⟨T.inst.at_, hx.2⟩
  · rcases List.mem_cons.mp hp with rfl | hp
    · exact ⟨e1, hdx.2⟩
    · exact ⟨k2 _ _ (hid p hp), (N' p (.tail _ (.tail _ hp))).2⟩
/-! 23bits -/
section
variable {prog : Program} {w : World} {A : Around} {E : Value → Shared → Prop} {s : Shared} {t u : Tok} {Q : Value → Shared → Prop}
theorem bS_app (a b : List Bool) : bS a ++ bS b = bS (a ++ b) := by
  apply str_ext
  show ((bS a).cps ++ (bS b).cps).toList = _
  rw [Array.toList_append, bS_list, bS_list, bS_list, List.map_append]
theorem addB {a b : List Bool} (hz : a.length + b.length ≤ 1000) (h : ∀ t' k, Q (.str (bS (a ++ b)) t') { s with toks := k }) : wpAny (model prog w) A (binaryOp .Add (.str (bS a) t) (.str (bS b) u)) Q E s := by
  refine PyProof.Rows.add_str (fun t' k => by rw [bS_app]; exact h t' k) ?_
  rw [bS_len, bS_len, sizeLine_eq]; omega
theorem iaddB {a b : List Bool} (hz : a.length + b.length ≤ 1000) (h : ∀ t' k, Q (.str (bS (a ++ b)) t') { s with toks := k }) : wpAny (model prog w) A (inplaceOp .Add (.str (bS a) t) (.str (bS b) u)) Q E s := by
  refine SBL.iadd (fun t' k _ => by rw [bS_app]; exact h t' k) ?_
  rw [bS_len, bS_len, sizeLine_eq]; omega
theorem mulB {n : Int} (h0 : 0 ≤ n) (hz : n ≤ 1000) (h : ∀ t' k, Q (.str (bS (List.replicate n.toNat false)) t') { s with toks := k }) : wpAny (model prog w) A (binaryOp .Mult (.str (Str.ofString "0") t) (.int n u)) Q E s := by
  have e : Txt.mul (Str.ofString "0") n = bS (List.replicate n.toNat false) := by
    apply str_ext
    rw [show Str.ofString "0" = ⟨#[48]⟩ from by decide +kernel, mul_one_list, bS_list, List.map_replicate]
    rfl
  refine SB.mul (mulOk_of 16 1048576 (by decide) (by omega) (by omega) (by decide) (by decide)) (fun t' k => ?_)
  rw [e]; exact h t' k
theorem lenB {a : List Bool} (hz : a.length ≤ 1000) (h : Q (.int a.length (s.toks + 1)) { s with toks := s.toks + 1 + 1 }) : wpAny (model prog w) A (call (.builtin "len") [.str (bS a) t]) Q E s := by
  refine PyProof.Rows.len_str (by rw [bS_len]; omega) ?_
  rw [bS_len]; exact h
theorem sliceB {value slice : Expr} {l : List Bool} {i j : Int} {ui uj : Tok} (h0 : 0 ≤ i) (h1 : i ≤ j) (h2 : j ≤ l.length) (hz : l.length ≤ 1000)
    (h : ∀ t' k, Q (.str (bS ((l.drop i.toNat).take (j - i).toNat)) t') { s with heap := s.heap.push { cls := .type "slice", data := .fields #[.int i ui, .int j uj, .none] }, toks := k })
    (hs : subscripted slice false (.str (bS l) t) (.ref s.heap.objs.size) = operate [.ref s.heap.objs.size, .str (bS l) t] (getItem (.str (bS l) t) (.ref s.heap.objs.size)) := by with_unfolding_all rfl) :
    wpAny (model prog w) A (subscriptTail value slice (.str (bS l) t) (.ref s.heap.objs.size)) Q E { s with heap := s.heap.push { cls := .type "slice", data := .fields #[.int i ui, .int j uj, .none] } } := by
  have e : Txt.slice (bS l) (some i) (some j) = bS ((l.drop i.toNat).take (j - i).toNat) := by
    rw [eq_of_beq (slice_closes (x := bS l) (i := i) (j := j) ⟨h0, h1, by rw [bS_list, List.length_map]; exact h2⟩)]
    apply str_ext
    rw [bS_list, bS_list, List.map_take, List.map_drop]
  refine tail_any (typeIs_str _ _ _) F.slot_str_getitem.lookup (wpAny_getItem_str_slice (l := some (i, ui)) (u := some (j, uj)) (st := none) ⟨_, Heap.get?_push_size _ rfl, rfl, rfl⟩ rfl
    (post_val_or_str ⟨Nat.le_trans (Txt.slice_le (bS l) _ _) (by rw [bS_len, sizeLine_eq]; omega), fun t' k => ?_⟩)) hs
  show Q (.str (Txt.slice (bS l) (some i) (some j)) t') _
  rw [e]; exact h t' k
theorem load_cell {g : Heap} {L c : Addr} {news : List (Addr × Obj)} {o : Obj} {env : Env} {x : Str} {v : Value} (N : News g L s.heap news) (hc : env.cells.lookup x = some c) (hm : (c, o) ∈ news) (hd : o.data = .cell (some v)) (h : Q v s)
    (hk : env.scope.kind = .function) (hx : env.kindOf x = some .cell) : wpAny (model prog w) A (loadName env x) Q E s := wpAny_loadName_cell hk hx hc ⟨o, (N _ hm).1, hd⟩ h
end
theorem bitsLen (n : Int) (k : Nat) : (bitsL n k).length = k := by unfold bitsL; simp
/-- the loop over a list that the base holds -/
theorem loopL {prog : Program} {w : World} {A : Around} {E : Value → Shared → Prop} {s : Shared} {g : Heap} {env : Env} {m : Str → Option Value} {news : List (Addr × Obj)} {x : Str} {body : List Stmt} {Q : Flow → Shared → Prop} {a L : Addr} {items : Array Value}
    (hl : g.IsList a items) (hh : A.handled = none) (F : Fr g L s.heap m) (N : News g L s.heap news) (J : Nat → (Str → Option Value) → List (Addr × Obj) → Prop) (h0 : J 0 m news)
    (turn : ∀ i v m₁ news₁ h tk own I R, (∀ f s', TurnEnd g L I own (J (i + 1)) s Q f s' → R f s') → items[i]? = some v → J i m₁ news₁ → (∀ p ∈ news₁, p.1 ≠ I) → (∀ p ∈ own, p.1 = I) → (∃ o, (I, o) ∈ own) → Fr g L h (fun y => if y = x then some v else m₁ y) → News g L h (news₁ ++ own) →
      wpAny (model prog w) A (execs body env) R E { s with heap := h, toks := tk })
    (done : ∀ h tk m' news', J items.size m' news' → Fr g L h m' → News g L h news' → Q .next { s with heap := h, toks := tk }) (hL : env.locals = L := by rfl) :
    wpAny (model prog w) A (pyIter (.ref a)) (fun it s₂ => LoopAtV prog w A g env x body Q E it s₂) E s := by
  obtain ⟨o, ho, hz⟩ := id hl
  have hl' : s.heap.IsList a items := ⟨o, F.keep _ _ ho, hz⟩
  have up : ∀ b o, s.heap.get? b = some o → (s.heap.push { cls := .type "list_iterator", data := .fields #[.ref a, .int 0 0] }).get? b = some o := fun b o e => Heap.get?_push_of_some _ e
  have hne : a ≠ s.heap.objs.size := Nat.ne_of_lt (Heap.lt_size (F.keep _ _ ho))
  refine wpAny_pyIter_list hl' ?_
  obtain ⟨F', N'⟩ := after0 F N up
  have hgI := newG F
  have hnI := newN N
  subst hL
  refine ⟨s.heap.objs.size, _, [s.heap.objs.size], _, _, _, m, news, J, rfl, Walks.list hh s.heap.objs.size a hne items, ?_, ?_, ?_, ⟨⟨_, Heap.get?_push_size _ rfl, rfl, rfl⟩, hl'.at fun o e => Heap.get?_push_of_some _ e⟩, F', N', h0, ?_, ?_⟩
  · intro hb
    rcases List.mem_cons.mp hb with e | hb
    · exact newL F e
    · have e := List.mem_singleton.mp hb
      have h1 := F.above; have h2 := Heap.lt_size ho; rw [e] at h1; exact absurd h1 (Nat.not_le.mpr h2)
  · intro b hb; rw [List.mem_singleton.mp hb]; exact hgI
  · intro p hp hb; exact hnI p hp (List.mem_singleton.mp hb)
  · rintro i v m₁ news₁ s₁ own ⟨h, tk, rfl⟩ hi hP hJ hoff hown _ hall hst' F₁ N₁
    have hI' : ∀ p ∈ own, p.1 = s.heap.objs.size := fun p hp => by
      rcases List.mem_cons.mp (hown p hp) with e | hb
      · exact e
      · have := (N₁ p (List.mem_append_left _ hp)).2.2
        rw [List.mem_singleton.mp hb, ho] at this; cases this
    have hIo : ∃ o, (s.heap.objs.size, o) ∈ own := by
      obtain ⟨⟨oi, ho', _⟩, _⟩ := hst'
      exact ⟨oi, hall _ (.head _) hgI _ ho'⟩
    refine wpAny_mono (turn i v m₁ news₁ h tk own _ _ (fun _ _ z => z) hP hJ (fun p hp e => hoff p hp (by rw [e]; exact .head _)) hI' hIo F₁ (fun p hp => N₁ p ((List.mem_append.mp hp).elim (fun q => List.mem_append.mpr (.inr q)) fun q => List.mem_append.mpr (.inl q)))) (fun f s₂ hf => ?_) fun _ _ e => e
    have fin : (∃ h' tk' m' news', s₂ = { s with heap := h', toks := tk' } ∧ Fr g env.locals h' m' ∧ News g env.locals h' (news' ++ own) ∧ (∀ p ∈ news', p.1 ≠ s.heap.objs.size) ∧ J (i + 1) m' news') → LoopStepU g env.locals [s.heap.objs.size] own (J (i + 1)) { s with heap := h, toks := tk } .next s₂ := by
      rintro ⟨h', tk', m', news', rfl, F', N', hne, hJ'⟩
      exact ⟨rfl, h', tk', m', news', rfl, F', (fun p hp => N' p ((List.mem_append.mp hp).elim (fun q => List.mem_append.mpr (.inr q)) fun q => List.mem_append.mpr (.inl q))), (fun p hp hb => hne p hp (List.mem_singleton.mp hb)), hJ'⟩
    cases f with
    | ret v => exact .ret hf
    | brk => exact .brk hf
    | next => exact .next (fin hf)
    | cont => exact .cont (fin hf)
  · intro h' tk m' news' F' N' _ hJ
    exact done h' tk m' news' hJ F' N'
theorem tame_lit {x : Str} (h : (x.cps.toList.all fun c => decide (32 ≤ c) && decide (c < 127)) = true) (hz : x.cps.size < 2 ^ 20) : TameS x := by
  refine ⟨fun i hi => ?_, hz⟩
  have hm : x.cps.getD i 0 ∈ x.cps.toList := by
    rw [Array.getD_eq_getD_getElem?, Array.getElem?_eq_getElem hi]
    exact Array.getElem_mem_toList hi
  have := List.all_eq_true.mp h _ hm
  simp only [Bool.and_eq_true, decide_eq_true_eq] at this
  exact this
theorem bits_num8 : ∀ c : List Bool, c.length = 8 → bitsL (numL c) 8 = c := by
  have key : ∀ a b c d e f g h : Bool, bitsL (numL [a, b, c, d, e, f, g, h]) 8 = [a, b, c, d, e, f, g, h] := by decide +kernel
  intro c hc
  match c, hc with
  | [a, b, c, d, e, f, g, h], _ => exact key a b c d e f g h
theorem chunks_back : ∀ (n : Nat) (bb : List Bool), bb.length = 8 * n → byteBits ((List.range n).map fun j => numL ((bb.drop (8 * j)).take 8)) = bb
  | 0, bb, h => by
    have : bb = [] := List.eq_nil_of_length_eq_zero (by omega)
    subst this; rfl
  | n + 1, bb, h => by
    have ih := chunks_back n (bb.drop 8) (by rw [List.length_drop]; omega)
    rw [List.range_succ_eq_map, List.map_cons, List.map_map]
    have e : ((fun j => numL ((bb.drop (8 * j)).take 8)) ∘ Nat.succ) = fun j => numL (((bb.drop 8).drop (8 * j)).take 8) := by
      funext j
      show numL ((bb.drop (8 * (j + 1))).take 8) = _
      rw [List.drop_drop, show 8 * (j + 1) = 8 + 8 * j by omega]
    rw [e]
    unfold byteBits at ih ⊢
    rw [List.flatMap_cons, ih, show 8 * 0 = 0 from rfl, List.drop_zero, bits_num8 _ (by rw [List.length_take]; omega), List.take_append_drop]
theorem News.sub {g h : Heap} {L : Addr} {news news' : List (Addr × Obj)} (N : News g L h news) (s : ∀ p ∈ news', p ∈ news) : News g L h news' := fun p hp => N p (s p hp)
theorem Fr.reHas {g h : Heap} {L : Addr} {m : Str → Option Value} (F : Fr g L h m) (l : List (Str × Value)) (hm : Has m l) : ∃ u, Fr g L h (lk l u) := by
  obtain ⟨u, e⟩ := hm.open
  exact ⟨u, e ▸ F⟩
/-! 24rbits -/
section
variable {prog : Program} {w : World} {A : Around} {E : Value → Shared → Prop} {s : Shared} {env : Env} {x : Str} {elt : Expr} {ifs : List Expr} {scope : Scope} {cl : List (Str × Addr)} {Q : Value → Shared → Prop}
/-- a block over a text's signs -/
theorem comp_str {p : Value → Bool} {F : Value → Value → Prop} {tx : Str} {t : Tok} (hh : A.handled = none) (hz : tx.cps.size ≤ sizeLine)
    (B : BlockOk prog w A env scope cl x ifs elt (SignAt tx) p F s.heap)
    (h : ∀ D h' tk ys n (vs : List Value), s.heap.get? D = none → h'.get? D = some (listOf ys n) → vs.length = tx.cps.size → (∀ (j : Nat) v, vs[j]? = some v → SignAt tx j v) → Paired F (vs.filter p) ys.toList → (∀ b o, s.heap.get? b = some o → h'.get? b = some o) → Q (.ref D) { s with heap := h', toks := tk }) :
    wpAny (model prog w) A (pyIter (.str tx t)) (fun it s₂ => CompAt prog w A env scope cl x ifs elt p F Q it s₂) E s := by
  refine wpAny_pyIter_str fun o St W hst => ?_
  refine ⟨_, _, _, _, _, _, rfl, W _ hh, hz, hst, ?_, ?_, ?_⟩
  · intro b hb
    rw [List.mem_singleton.mp hb, Heap.size_push]; exact Nat.lt_succ_self _
  · exact B.quiet (fun b o e => Heap.get?_push_of_some _ e) (noneNew _)
  · intro D h' tk ys vs hD _ hpl hlen hP hF hk
    obtain ⟨n, e⟩ := hpl
    refine h D h' tk ys n vs ?_ e hlen hP hF fun b o e => hk b o (fun hb => ?_) (Heap.get?_push_of_some _ e)
    · cases q : s.heap.get? D with
      | none => rfl
      | some o => rw [Heap.get?_push_of_some _ q] at hD; cases hD
    · rw [List.mem_singleton.mp hb, noneNew] at e; cases e
end
noncomputable def signsS : Str := Str.ofString "ABCDEFGHIJKLMNOPQRSTUVWXYZabcdefghijklmnopqrstuvwxyz0123456789+/"
noncomputable def signIx (c : Nat) : Int := Txt.find signsS ⟨#[c]⟩
theorem sign_back : ∀ n : Nat, n < 64 → signIx (b64c (n : Int)).toNat = n ∧ (b64c (n : Int)).toNat ≠ 61 := by decide +kernel
theorem sign_found : ∀ n : Nat, n < 64 → (Builtin.Str.occurrences signsS ⟨#[(b64c (n : Int)).toNat]⟩ 0 signsS.length 1).isEmpty = false := by decide +kernel
theorem bits_num6 : ∀ c : List Bool, c.length = 6 → bitsL (numL c) 6 = c := by
  have key : ∀ a b c d e f : Bool, bitsL (numL [a, b, c, d, e, f]) 6 = [a, b, c, d, e, f] := by decide +kernel
  intro c hc
  match c, hc with
  | [a, b, c, d, e, f], _ => exact key a b c d e f
theorem bits_num2 : ∀ c : List Bool, c.length = 2 → bitsL (numL c * 16) 6 = c ++ List.replicate 4 false := by
  have key : ∀ a b : Bool, bitsL (numL [a, b] * 16) 6 = [a, b] ++ List.replicate 4 false := by decide +kernel
  intro c hc
  match c, hc with
  | [a, b], _ => exact key a b
theorem bits_num4 : ∀ c : List Bool, c.length = 4 → bitsL (numL c * 4) 6 = c ++ List.replicate 2 false := by
  have key : ∀ a b c d : Bool, bitsL (numL [a, b, c, d] * 4) 6 = [a, b, c, d] ++ List.replicate 2 false := by decide +kernel
  intro c hc
  match c, hc with
  | [a, b, c, d], _ => exact key a b c d
/-- the bits of a text's signs, but for '=' -/
noncomputable def readB (cs : List Nat) : List Bool := ((cs.filter fun c => decide (c ≠ 61)).map fun c => bitsL (signIx c) 6).flatten
theorem readB_app (a b : List Nat) : readB (a ++ b) = readB a ++ readB b := by
  unfold readB; rw [List.filter_append, List.map_append, List.flatten_append]
theorem readB_one {n : Int} (h0 : 0 ≤ n) (h1 : n < 64) : readB [(b64c n).toNat] = bitsL n 6 := by
  obtain ⟨k, rfl⟩ : ∃ k : Nat, n = (k : Int) := ⟨n.toNat, by omega⟩
  obtain ⟨e1, e2⟩ := sign_back k (by omega)
  unfold readB
  rw [List.filter_cons_of_pos (by simpa using e2)]
  simp only [List.filter_nil, List.map_cons, List.map_nil, List.flatten_cons, List.flatten_nil, List.append_nil]
  rw [e1]
theorem readB_gs : ∀ gs : List (List Bool), (∀ g ∈ gs, g.length = 6) → readB ((gs.map fun g => b64c (numL g)).map (·.toNat)) = gs.flatten
  | [], _ => rfl
  | g :: r, h => by
    have hg := h g (.head _)
    have ih := readB_gs r fun x hx => h x (.tail _ hx)
    have bd := numL_bd g
    rw [hg] at bd
    rw [List.map_cons, List.map_cons, ← List.singleton_append, readB_app, ih, readB_one bd.1 bd.2, bits_num6 g hg, List.flatten_cons]
theorem readB_out {gs : List (List Bool)} {rem : List Bool} (h : ∀ g ∈ gs, g.length = 6) (hr : rem.length = 0 ∨ rem.length = 2 ∨ rem.length = 4) : ∃ z, z ≤ 4 ∧ readB ((b64out gs rem).map (·.toNat)) = gs.flatten ++ rem ++ List.replicate z false := by
  unfold b64out
  rw [List.map_append, readB_app, readB_gs gs h]
  have bd := numL_bd rem
  rcases hr with e | e | e
  · have : rem = [] := List.eq_nil_of_length_eq_zero e
    subst this
    refine ⟨0, by omega, ?_⟩
    rw [if_neg (by simp), if_neg (by simp)]
    simp [readB]
  · rw [if_pos e]
    rw [e] at bd
    refine ⟨4, by omega, ?_⟩
    have e2 : readB ([b64c (numL rem * 16), 61, 61].map (·.toNat)) = bitsL (numL rem * 16) 6 := by
      show readB ([(b64c (numL rem * 16)).toNat] ++ [61, 61]) = _
      rw [readB_app, readB_one (by omega) (by omega)]
      show _ ++ [] = _
      rw [List.append_nil]
    rw [e2, bits_num2 rem e, List.append_assoc]
  · rw [if_neg (by omega), if_pos e]
    rw [e] at bd
    refine ⟨2, by omega, ?_⟩
    have e2 : readB ([b64c (numL rem * 4), 61].map (·.toNat)) = bitsL (numL rem * 4) 6 := by
      show readB ([(b64c (numL rem * 4)).toNat] ++ [61]) = _
      rw [readB_app, readB_one (by omega) (by omega)]
      show _ ++ [] = _
      rw [List.append_nil]
    rw [e2, bits_num4 rem e, List.append_assoc]
theorem b64out_signs {gs : List (List Bool)} {rem : List Bool} (h : ∀ g ∈ gs, g.length = 6) (hr : rem.length = 0 ∨ rem.length = 2 ∨ rem.length = 4) : ∀ c ∈ (b64out gs rem).map (·.toNat), c = 61 ∨ ∃ n : Nat, n < 64 ∧ c = (b64c (n : Int)).toNat := by
  have key : ∀ n : Int, 0 ≤ n → n < 64 → ∃ k : Nat, k < 64 ∧ (b64c n).toNat = (b64c (k : Int)).toNat := fun n h0 h1 => ⟨n.toNat, by omega, by rw [Int.toNat_of_nonneg h0]⟩
  have bd := numL_bd rem
  intro c hc
  obtain ⟨x, hx, rfl⟩ := List.mem_map.mp hc
  unfold b64out at hx
  rcases List.mem_append.mp hx with hx | hx
  · obtain ⟨g, hg, rfl⟩ := List.mem_map.mp hx
    have := numL_bd g
    rw [h g hg] at this
    exact .inr (key _ this.1 this.2)
  · split at hx
    · rename_i e
      rw [e] at bd
      simp only [List.mem_cons, List.not_mem_nil, or_false] at hx
      rcases hx with rfl | rfl | rfl
      · exact .inr (key _ (by omega) (by omega))
      · exact .inl rfl
      · exact .inl rfl
    · split at hx
      · rename_i e
        rw [e] at bd
        simp only [List.mem_cons, List.not_mem_nil, or_false] at hx
        rcases hx with rfl | rfl
        · exact .inr (key _ (by omega) (by omega))
        · exact .inl rfl
      · cases hx
theorem paired_of {R : Value → Nat → Prop} : ∀ {vs : List Value} {cs : List Nat}, vs.length = cs.length → (∀ (j : Nat) v, vs[j]? = some v → ∃ c, cs[j]? = some c ∧ R v c) → Paired R vs cs
  | [], [], _, _ => .nil
  | v :: vs, c :: cs, hl, h => by
    obtain ⟨c', e, hR⟩ := h 0 v rfl
    cases e
    exact .cons hR (paired_of (by simpa using hl) fun j v hj => h (j + 1) v hj)
  | [], _ :: _, hl, _ => by simp at hl
  | _ :: _, [], hl, _ => by simp at hl
noncomputable def notEq : Value → Bool
  | .str y _ => decide (y.cps.toList ≠ [61])
  | _ => false
theorem strs_read {vs ys : List Value} {cs : List Nat} (h : Paired (fun v c => ∃ t, v = Value.str ⟨#[c]⟩ t) vs cs) (hF : Paired (fun v y => ∃ c t, v = Value.str ⟨#[c]⟩ t ∧ IsS (bS (bitsL (signIx c) 6)) y) (vs.filter notEq) ys) :
    StrsAre ys (((cs.filter fun c => decide (c ≠ 61)).map fun c => bitsL (signIx c) 6).map bS) := by
  induction h generalizing ys with
  | nil => cases hF; exact .nil
  | @cons v c l₁ l₂ e r ih =>
    obtain ⟨t, rfl⟩ := e
    by_cases q : c = 61
    · rw [List.filter_cons_of_neg (by subst q; simp [notEq])] at hF
      rw [List.filter_cons_of_neg (by simp [q])]
      exact ih hF
    · rw [List.filter_cons_of_pos (by simp [notEq, q])] at hF
      rw [List.filter_cons_of_pos (by simp [q])]
      cases hF with
      | cons e r =>
        obtain ⟨c', t', e', t2, rfl⟩ := e
        cases e'
        exact .cons _ _ (ih r)
/-- parsing -/
theorem bits_top : ∀ p : Nat, p < 256 → 0 < p → numL (bitsL (p : Int) (Nat.log2 p + 1)) = p ∧ (bitsL (p : Int) (Nat.log2 p + 1)).head? = some true := by decide +kernel
section
variable {prog : Program} {w : World} {A : Around} {E : Value → Shared → Prop} {s : Shared} {t u : Tok} {Q : Value → Shared → Prop}
theorem charB {value slice : Expr} {l : List Bool} {k : Int} {b : Bool} (h0 : 0 ≤ k) (hb : l[k.toNat]? = some b) (hz : l.length ≤ 1000)
    (h : Q (.str (bS [b]) s.toks) { s with toks := s.toks + 1 })
    (hs : subscripted slice false (.str (bS l) t) (.int k u) = operate [.str (bS l) t, .int k u] (getItem (.str (bS l) t) (.int k u)) := by with_unfolding_all rfl) :
    wpAny (model prog w) A (subscriptTail value slice (.str (bS l) t) (.int k u)) Q E s := by
  have hk : k.toNat < l.length := (List.getElem?_eq_some_iff.mp hb).1
  refine tail_any (typeIs_str _ _ _) F.slot_str_getitem.lookup (PyProof.Rows.getItem_str (c := if b then 49 else 48) ?_ ?_ h) hs
  · rw [Bool.or_eq_false_iff]; constructor <;> exact decide_eq_false (by omega)
  · have e : seqIndex? k (bS l).length = some k.toNat := by
      rw [bS_len]
      unfold seqIndex?
      have e1 : (if k < 0 then k + (l.length : Int) else k) = k := if_neg (by omega)
      simp only [e1]
      exact if_pos (by rw [Bool.and_eq_true]; exact ⟨decide_eq_true h0, decide_eq_true (by omega)⟩)
    rw [e]
    show (bS l).cps[k.toNat]? = _
    rw [bS_get, hb]; rfl
theorem sub_neg {g : Heap} {L a : Addr} {news : List (Addr × Obj)} {its : Array Value} {n : Nat} {k : Int} {x : Value} {value slice : PySem.Expr} (N : News g L s.heap news) (hm : (a, listOf its n) ∈ news) (h0 : k < 0) (h1 : -(its.size : Int) ≤ k) (hf : -(2 ^ 63) ≤ k) (hx : its[(k + its.size).toNat]? = some x)
    (h : Q x s)
    (hs : subscripted slice false (.ref a) (.int k u) = operate [.ref a, .int k u] (getItem (.ref a) (.int k u)) := by with_unfolding_all rfl) :
    wpAny (model prog w) A (subscriptTail value slice (.ref a) (.int k u)) Q E s := by
  have hl : s.heap.IsList a its := ⟨_, (N _ hm).1, rfl, n, rfl⟩
  exact tail_any hl.typeIs slot_list_getitem.lookup (wpAny_getItem_list_neg hl h0 h1 hf hx h) hs
theorem sign_index {n : Nat} (hn : n < 64) (hh : A.handled = none) (h : Q (.int (signIx (b64c (n : Int)).toNat) s.toks) { s with toks := s.toks + 1 }) :
    wpAny (model prog w) A (call (.builtin "str.index") [.str signsS t, .str ⟨#[(b64c (n : Int)).toNat]⟩ u]) Q E s := by
  refine index_or hh (fun _ e => ?_) (fun _ _ => h)
  rw [sign_found n hn] at e; cases e
end
/-- the loop over a range -/
theorem loopR {prog : Program} {w : World} {A : Around} {E : Value → Shared → Prop} {s : Shared} {g : Heap} {env : Env} {m : Str → Option Value} {news : List (Addr × Obj)} {x : Str} {body : List Stmt} {Q : Flow → Shared → Prop} {a L : Addr} {lo' hi' st : Int} {t1 u1 v1 : Tok} {n : Nat}
    (hr : IsRange s.heap a lo' hi' st t1 u1 v1) (hsm : Builtin.Range.small lo' hi' st = true) (hn : Builtin.Range.rangeSize lo' hi' st = (n : Int)) (hh : A.handled = none) (F : Fr g L s.heap m) (N : News g L s.heap news) (J : Nat → (Str → Option Value) → List (Addr × Obj) → Prop) (h0 : J 0 m news)
    (turn : ∀ i t m₁ news₁ h tk own I R, (∀ f s', TurnEnd g L I own (J (i + 1)) s Q f s' → R f s') → i < n → J i m₁ news₁ → (∀ p ∈ news₁, p.1 ≠ I) → (∀ p ∈ own, p.1 = I) → (∃ o, (I, o) ∈ own) → Fr g L h (fun y => if y = x then some (.int (lo' + i * st) t) else m₁ y) → News g L h (news₁ ++ own) →
      wpAny (model prog w) A (execs body env) R E { s with heap := h, toks := tk })
    (done : ∀ h tk m' news', J n m' news' → Fr g L h m' → News g L h news' → Q .next { s with heap := h, toks := tk }) (hL : env.locals = L := by rfl) :
    wpAny (model prog w) A (pyIter (.ref a)) (fun it s₂ => LoopAtV prog w A g env x body Q E it s₂) E s := by
  have hgI := newG F
  have hnI := newN N
  subst hL
  refine wpAny_pyIter_range hr hsm ?_
  obtain ⟨F', N'⟩ := after0 F N (h' := _) fun b ob e => Heap.get?_push_of_some _ e
  refine ⟨s.heap.objs.size, _, [s.heap.objs.size], _, _, _, m, news, J, rfl, (Walks.range hh s.heap.objs.size lo' st n).bound, ?_, ?_, ?_, ?_, F', N', h0, ?_, ?_⟩
  · intro hb; exact newL F (List.mem_singleton.mp hb)
  · intro b hb; rw [List.mem_singleton.mp hb]; exact hgI
  · intro p hp hb; exact hnI p hp (List.mem_singleton.mp hb)
  · show IsRangeIter _ _ (lo' + ((0 : Nat) : Int) * st) ((n : Int) - ((0 : Nat) : Int)) st
    have e1 : lo' + ((0 : Nat) : Int) * st = lo' := by simp
    have e2 : (n : Int) - ((0 : Nat) : Int) = n := by omega
    rw [e1, e2, ← hn]
    exact Heap.get?_push_size _ rfl
  · rintro i v m₁ news₁ s₁ own ⟨h, tk, rfl⟩ hi ⟨_, t, rfl⟩ hJ hoff hown _ hall hst' F₁ N₁
    have hI' : ∀ p ∈ own, p.1 = s.heap.objs.size := fun p hp => List.mem_singleton.mp (hown p hp)
    have hIo : ∃ o, (s.heap.objs.size, o) ∈ own := ⟨_, hall _ (.head _) hgI _ hst'⟩
    refine wpAny_mono (turn i t m₁ news₁ h tk own _ _ (fun _ _ z => z) hi hJ (fun p hp e => hoff p hp (by rw [e]; exact .head _)) hI' hIo F₁ (fun p hp => N₁ p ((List.mem_append.mp hp).elim (fun q => List.mem_append.mpr (.inr q)) fun q => List.mem_append.mpr (.inl q)))) (fun f s₂ hf => ?_) fun _ _ e => e
    have fin : (∃ h' tk' m' news', s₂ = { s with heap := h', toks := tk' } ∧ Fr g env.locals h' m' ∧ News g env.locals h' (news' ++ own) ∧ (∀ p ∈ news', p.1 ≠ s.heap.objs.size) ∧ J (i + 1) m' news') → LoopStepU g env.locals [s.heap.objs.size] own (J (i + 1)) { s with heap := h, toks := tk } .next s₂ := by
      rintro ⟨h', tk', m', news', rfl, F', N', hne, hJ'⟩
      exact ⟨rfl, h', tk', m', news', rfl, F', (fun p hp => N' p ((List.mem_append.mp hp).elim (fun q => List.mem_append.mpr (.inr q)) fun q => List.mem_append.mpr (.inl q))), (fun p hp hb => hne p hp (List.mem_singleton.mp hb)), hJ'⟩
    cases f with
    | ret v => exact .ret hf
    | brk => exact .brk hf
    | next => exact .next (fin hf)
    | cont => exact .cont (fin hf)
  · intro h' tk m' news' F' N' _ hJ
    exact done h' tk m' news' hJ F' N'
theorem range_up (n : Nat) : Builtin.Range.rangeSize 0 (n : Int) 1 = (n : Int) := by
  unfold Builtin.Range.rangeSize
  rw [if_pos (by decide)]
  split <;> omega

theorem parse1 {pre tail rest bb bp : List Bool} {z : Nat} (h : bb = pre ++ (List.replicate z false ++ bp ++ tail) ++ rest) (hl : bp.length = z + 1) (ht : bp.head? = some true) :
    (∀ j, j < z → bb[pre.length + j]? = some false) ∧ bb[pre.length + z]? = some true ∧ (bb.drop (pre.length + z)).take (z + 1) = bp ∧ bb.drop (pre.length + z + (z + 1)) = tail ++ rest ∧ pre.length + z + (z + 1) + tail.length + rest.length = bb.length := by
  have e1 : bb = (pre ++ List.replicate z false) ++ (bp ++ (tail ++ rest)) := by rw [h]; simp only [List.append_assoc]
  have l1 : (pre ++ List.replicate z false).length = pre.length + z := by rw [List.length_append, List.length_replicate]
  have d1 : bb.drop (pre.length + z) = bp ++ (tail ++ rest) := by rw [e1, ← l1, List.drop_left]
  refine ⟨fun j hj => ?_, ?_, ?_, ?_, ?_⟩
  · rw [e1, List.getElem?_append_left (by rw [l1]; omega), List.getElem?_append_right (by omega), List.getElem?_replicate]
    rw [if_pos (by omega)]
  · have : bb[pre.length + z]? = (bb.drop (pre.length + z))[0]? := by rw [List.getElem?_drop, Nat.add_zero]
    rw [this, d1]
    cases bp with
    | nil => simp at hl
    | cons a r => exact ht
  · rw [d1, ← hl, List.take_left]
  · rw [← List.drop_drop, d1, ← hl, List.drop_left]
  · rw [h]
    simp only [List.length_append, List.length_replicate]
    omega
section
variable {prog : Program} {w : World} {A : Around} {E : Value → Shared → Prop} {s : Shared} {t u : Tok} {Q : Value → Shared → Prop} {g : Heap} {L : Addr} {m : Str → Option Value} {news : List (Addr × Obj)}
theorem sliceBN {value slice : Expr} {l : List Bool} {i j : Int} {ui uj : Tok} (hF : Fr g L s.heap m) (hN : News g L s.heap news) (h0 : 0 ≤ i) (h1 : i ≤ j) (h2 : j ≤ l.length) (hz : l.length ≤ 1000)
    (h : ∀ h' t' k, Fr g L h' m → News g L h' news → Q (.str (bS ((l.drop i.toNat).take (j - i).toNat)) t') { s with heap := h', toks := k })
    (hs : subscripted slice false (.str (bS l) t) (.ref s.heap.objs.size) = operate [.ref s.heap.objs.size, .str (bS l) t] (getItem (.str (bS l) t) (.ref s.heap.objs.size)) := by with_unfolding_all rfl)
    (ht : ∀ r, letTemporaryGo value (.str (bS l) t) r = pure () := by intro _; with_unfolding_all rfl) :
    wpAny (model prog w) A (subscriptTail value slice (.str (bS l) t) (.ref s.heap.objs.size)) Q E { s with heap := s.heap.push { cls := .type "slice", data := .fields #[.int i ui, .int j uj, .none] } } := by
  have e : Txt.slice (bS l) (some i) (some j) = bS ((l.drop i.toNat).take (j - i).toNat) := by
    rw [eq_of_beq (slice_closes (x := bS l) (i := i) (j := j) ⟨h0, h1, by rw [bS_list, List.length_map]; exact h2⟩)]
    apply str_ext
    rw [bS_list, bS_list, List.map_take, List.map_drop]
  exact slice_strN_ss hF hN (fun h' t' k F' N' => by rw [e]; exact h h' t' k F' N') hs ht (by rw [bS_len, sizeLine_eq]; omega)
end
/-! 26least -/
/-- the loop over a range, any target -/
theorem loopRT {prog : Program} {w : World} {A : Around} {E : Value → Shared → Prop} {s : Shared} {g : Heap} {env : Env} {m : Str → Option Value} {news : List (Addr × Obj)} {x : Str} {px : Pos} {body : List Stmt} {Q : Flow → Shared → Prop} {a L : Addr} {lo' hi' st : Int} {t1 u1 v1 : Tok} {n : Nat}
    (hr : IsRange s.heap a lo' hi' st t1 u1 v1) (hsm : Builtin.Range.small lo' hi' st = true) (hn : Builtin.Range.rangeSize lo' hi' st = (n : Int)) (hh : A.handled = none) (F : Fr g L s.heap m) (N : News g L s.heap news) (J : Nat → (Str → Option Value) → List (Addr × Obj) → Prop) (h0 : J 0 m news)
    (turn : ∀ i t m₁ news₁ h tk own I R, (∀ f s', TurnEnd g L I own (J (i + 1)) s Q f s' → R f s') → i < n → J i m₁ news₁ → (∀ p ∈ news₁, p.1 ≠ I) → (∀ p ∈ own, p.1 = I) → Fr g L h m₁ → News g L h (news₁ ++ own) →
      wpAny (model prog w) A (assign (.Name x px) env (.int (lo' + i * st) t)) (fun _ s₃ => wpAny (model prog w) A (execs body env) R E s₃) E { s with heap := h, toks := tk })
    (done : ∀ h tk m' news', J n m' news' → Fr g L h m' → News g L h news' → Q .next { s with heap := h, toks := tk }) (hL : env.locals = L := by rfl) :
    wpAny (model prog w) A (pyIter (.ref a)) (fun it s₂ => TurnsAt prog w A g env (.Name x px) body Q E it s₂) E s := by
  have hgI := newG F
  have hnI := newN N
  subst hL
  refine wpAny_pyIter_range hr hsm ?_
  obtain ⟨F', N'⟩ := after0 F N (h' := _) fun b ob e => Heap.get?_push_of_some _ e
  refine ⟨s.heap.objs.size, _, [s.heap.objs.size], _, _, _, _, m, news, J, rfl, KTurns.ofWalks (Walks.range hh s.heap.objs.size lo' st n).bound (fun _ _ _ _ _ _ q => wpAny_pure q), ?_, ?_, ?_, ?_, F', N', h0, ?_, ?_⟩
  · intro hb; exact newL F (List.mem_singleton.mp hb)
  · intro b hb; rw [List.mem_singleton.mp hb]; exact hgI
  · intro p hp hb; exact hnI p hp (List.mem_singleton.mp hb)
  · show IsRangeIter _ _ (lo' + ((0 : Nat) : Int) * st) ((n : Int) - ((0 : Nat) : Int)) st
    have e1 : lo' + ((0 : Nat) : Int) * st = lo' := by simp
    have e2 : (n : Int) - ((0 : Nat) : Int) = n := by omega
    rw [e1, e2, ← hn]
    exact Heap.get?_push_size _ rfl
  · rintro i v m₁ news₁ h tk own hi ⟨_, t, rfl⟩ hJ hoff hown _ hall hst' F₁ N₁
    have hI' : ∀ p ∈ own, p.1 = s.heap.objs.size := fun p hp => List.mem_singleton.mp (hown p hp)
    refine wpAny_mono (turn i t m₁ news₁ h tk own _ _ (fun _ _ z => z) hi hJ (fun p hp e => hoff p hp (by rw [e]; exact .head _)) hI' F₁ (fun p hp => N₁ p ((List.mem_append.mp hp).elim (fun q => List.mem_append.mpr (.inr q)) fun q => List.mem_append.mpr (.inl q)))) (fun _ s₃ hf => wpAny_mono hf (fun f s₂ hf => ?_) fun _ _ e => e) fun _ _ e => e
    have fin : (∃ h' tk' m' news', s₂ = { s with heap := h', toks := tk' } ∧ Fr g env.locals h' m' ∧ News g env.locals h' (news' ++ own) ∧ (∀ p ∈ news', p.1 ≠ s.heap.objs.size) ∧ J (i + 1) m' news') → LoopStepU g env.locals [s.heap.objs.size] own (J (i + 1)) { s with heap := h, toks := tk } .next s₂ := by
      rintro ⟨h', tk', m', news', rfl, F', N', hne, hJ'⟩
      exact ⟨rfl, h', tk', m', news', rfl, F', (fun p hp => N' p ((List.mem_append.mp hp).elim (fun q => List.mem_append.mpr (.inr q)) fun q => List.mem_append.mpr (.inl q))), (fun p hp hb => hne p hp (List.mem_singleton.mp hb)), hJ'⟩
    cases f with
    | ret v => exact .ret hf
    | brk => exact .brk hf
    | next => exact .next (fin hf)
    | cont => exact .cont (fin hf)
  · intro h' tk m' news' F' N' _ hJ
    exact done h' tk m' news' hJ F' N'
/-- the ways to part a mask, from a part on -/
noncomputable def waysF (best : List Int) (mask : Nat) (p : Nat) : List Int :=
  if h : p = 0 then [] else (best.getD p 0 + best.getD (mask - p) 0) :: waysF best mask ((p - 1) &&& mask)
termination_by p
decreasing_by
  have := Nat.and_le_left (n := p - 1) (m := mask)
  omega
noncomputable def minL : List Int → Int
  | [] => 0
  | x :: r => r.foldl min x
noncomputable def insF (cs : List Int) (mask : Nat) : List Int := ((List.range cs.length).filter fun k => decide (mask / 2 ^ k % 2 ≠ 0)).map fun k => cs.getD k 0
noncomputable def insP (mask : Nat) : Value → Bool
  | .int k _ => decide (mask / 2 ^ k.toNat % 2 ≠ 0)
  | _ => false
noncomputable def stepL (cs : List Int) (best : List Int) (mask : Nat) : List Int :=
  if waysF best mask ((mask - 1) &&& mask) = [] then best else best.set mask ((insF cs mask).sum + minL (waysF best mask ((mask - 1) &&& mask)))
noncomputable def bestF (cs : List Int) : Nat → List Int
  | 0 => List.replicate (2 ^ cs.length) 0
  | i + 1 => stepL cs (bestF cs i) (i + 1)
noncomputable def leastF (cs : List Int) : Int := (bestF cs (2 ^ cs.length - 1)).getD (2 ^ cs.length - 1) 0

theorem ints_rep (t : Tok) : ∀ n : Nat, IntsAre (List.replicate n (Value.int 0 t)) (List.replicate n 0)
  | 0 => .nil
  | n + 1 => by rw [List.replicate_succ, List.replicate_succ]; exact .cons _ _ (ints_rep t n)
theorem stepL_len (cs best : List Int) (m : Nat) : (stepL cs best m).length = best.length := by
  unfold stepL; split
  · rfl
  · simp
theorem bestF_len (cs : List Int) : ∀ i, (bestF cs i).length = 2 ^ cs.length
  | 0 => by simp [bestF]
  | i + 1 => by rw [bestF, stepL_len, bestF_len cs i]
theorem ins_of {cs : List Int} {mask : Nat} {vs ys : List Value} (hl : vs.length = cs.length) (hv : ∀ (j : Nat) (v : Value), vs[j]? = some v → ∃ t, v = Value.int (0 + j * 1) t) (hF : Paired (fun v y => ∃ k : Nat, k < cs.length ∧ IsI (k : Nat) v ∧ IsI (cs.getD k 0) y) (vs.filter (insP mask)) ys) :
    IntsAre ys (insF cs mask) := by
  have key : ∀ (vs : List Value) (b : Nat) (ys : List Value), (∀ (j : Nat) (v : Value), vs[j]? = some v → ∃ t, v = Value.int ((b + j : Nat) : Int) t) → Paired (fun v y => ∃ k : Nat, k < cs.length ∧ IsI (k : Nat) v ∧ IsI (cs.getD k 0) y) (vs.filter (insP mask)) ys →
      IntsAre ys ((((List.range vs.length).map fun j => b + j).filter fun k => decide (mask / 2 ^ k % 2 ≠ 0)).map fun k => cs.getD k 0) := by
    intro vs
    induction vs with
    | nil => intro b ys _ hF; cases hF; exact .nil
    | cons v r ih =>
      intro b ys hv hF
      obtain ⟨t, rfl⟩ := hv 0 v rfl
      have hv' : ∀ (j : Nat) (v : Value), r[j]? = some v → ∃ t, v = Value.int ((b + 1 + j : Nat) : Int) t := fun j v e => by
        obtain ⟨t, q⟩ := hv (j + 1) v e
        exact ⟨t, by rw [q]; congr 1; omega⟩
      have e1 : ((List.range (r.length + 1)).map fun j => b + j) = b :: (List.range r.length).map fun j => b + 1 + j := by
        rw [List.range_succ_eq_map, List.map_cons, List.map_map]
        congr 1
        apply List.map_congr_left
        intro j _
        show b + (j + 1) = b + 1 + j
        omega
      rw [List.length_cons, e1]
      by_cases q : mask / 2 ^ b % 2 ≠ 0
      · rw [List.filter_cons_of_pos (by simpa [insP] using q)] at hF
        rw [List.filter_cons_of_pos (by simpa using q)]
        cases hF with
        | cons e hr =>
          obtain ⟨k, hk, ⟨t1, e1⟩, ⟨t2, rfl⟩⟩ := e
          have ek : k = b := by have := (Value.int.inj e1).1; omega
          subst ek
          exact .cons _ _ (ih (k + 1) _ hv' hr)
      · rw [List.filter_cons_of_neg (by simpa [insP] using q)] at hF
        rw [List.filter_cons_of_neg (by simpa using q)]
        exact ih (b + 1) _ hv' hF
  have := key vs 0 ys (fun j v e => by obtain ⟨t, q⟩ := hv j v e; exact ⟨t, by rw [q]; congr 1; omega⟩) hF
  rw [hl] at this
  unfold insF
  have e0 : ((List.range cs.length).map fun j => 0 + j) = List.range cs.length := by
    have : (fun j : Nat => 0 + j) = id := by funext j; simp
    rw [this, List.map_id]
  rw [e0] at this
  exact this
theorem foldl_min : ∀ (l : List Int) (a : Int), (l.foldl min a ≤ a ∧ (∀ x ∈ l, l.foldl min a ≤ x)) ∧ (l.foldl min a = a ∨ l.foldl min a ∈ l)
  | [], a => ⟨⟨Int.le_refl _, fun _ h => nomatch h⟩, .inl rfl⟩
  | x :: r, a => by
    obtain ⟨⟨h1, h2⟩, h3⟩ := foldl_min r (min a x)
    rw [List.foldl_cons]
    refine ⟨⟨by omega, fun y hy => ?_⟩, ?_⟩
    · rcases List.mem_cons.mp hy with rfl | hy
      · omega
      · exact h2 y hy
    · rcases h3 with h3 | h3
      · by_cases q : a ≤ x
        · left; rw [h3]; omega
        · right; rw [h3, show min a x = x by omega]; exact .head _
      · exact .inr (.tail _ h3)
theorem min_uniq {ws : List Int} {m : Int} (h1 : m ∈ ws) (h2 : ∀ a, a ∈ ws → m ≤ a) : m = minL ws := by
  cases ws with
  | nil => cases h1
  | cons x r =>
    obtain ⟨⟨a, b⟩, c⟩ := foldl_min r x
    show m = r.foldl min x
    have hle : r.foldl min x ≤ m := by
      rcases List.mem_cons.mp h1 with rfl | h1
      · exact a
      · exact b m h1
    have hge : m ≤ r.foldl min x := by
      rcases c with c | c
      · rw [c]; exact h2 _ (.head _)
      · exact h2 _ (.tail _ c)
    omega
theorem allLt_mem {d : Nat} : ∀ {l : List (Addr × Obj)}, AllLt d l → ∀ p ∈ l, @LT.lt Nat _ p.1 d
  | [], _, _, h => nomatch h
  | _ :: _, x, p, h => by
    rcases List.mem_cons.mp h with rfl | h
    · exact x.1
    · exact allLt_mem x.2 p h
inductive LeastJ (cs : List Int) (L B : Addr) (oc : Obj) (i : Nat) (m : Str → Option Value) (news : List (Addr × Obj)) : Prop
  | mk (bv : Array Value) (nb : Nat) (om : Obj) (vm : Option Value) (hn : news = [(B, listOf bv nb), (L + 1 + 1, om), (L + 1, oc)]) (hm : Has m [(Str.ofString "best", .ref B)]) (hom : om.data = .cell vm) (hI : IntsAre bv.toList (bestF cs i))
inductive LeastW (cs : List Int) (i : Nat) (B W D : Addr) (led : List (Addr × Obj)) (cc : Nat) (m : Str → Option Value) (news : List (Addr × Obj)) : Prop
  | mk (p : Nat) (wv : Array Value) (nw : Nat) (ws : List Int) (tp : Tok) (e : cc = p) (hl : ws.length + p ≤ i) (hm : Has m [(Str.ofString "best", .ref B), (Str.ofString "ways", .ref W), (Str.ofString "inside", .ref D), (Str.ofString "part", .int (p : Nat) tp)]) (hn : news = ((W, listOf wv nw) :: led)) (hw : IntsAre wv.toList ws) (hs : ws ++ waysF (bestF cs i) (i + 1) p = waysF (bestF cs i) (i + 1) (i &&& (i + 1)))
set_option maxHeartbeats 8000000 in
theorem least_spec (w : World) {mean mg mb} {A : Around} {s : Shared} (G : Gd w mean mg mb s.heap) (r : Room 3 A)
    {c : Addr} {vs : List Value} {n : Nat} {cs : List Int} (hc : s.heap.get? c = some (listOf vs.toArray n)) (hI : IntsAre vs cs) (hz : cs.length ≤ 5) (E : Value → Shared → Prop) :
    wpAny (model pg w) A (call (.ref 288) [.ref c]) (fun y s' => Keeps s s' ∧ IsI (leastF cs) y) E s := by
  refine post_var fun Q0 hPost => ?_
  have KX := G.X
  have KT := G.T
  refine wpAny_call ?_
  refine enterC (news := []) [(Str.ofString "counts", .ref c)] KX KT.nolimit (fun _ _ e => e) (Nat.le_refl _) (fun _ h => nomatch h) (by k_dflt k_is) (by k_dflt k_is) r.lt (BindsTo.of_eq rfl) rfl (by decide) ?_ rfl rfl rfl
  intro L h₁ tk cells F N Y kp' hL
  obtain ⟨om, oc, rfl, hom, hoc⟩ := CellsAre.two Y
  clear Y
  have hcl : s.heap.IsList c vs.toArray := ⟨_, hc, rfl, n, rfl⟩
  have hlen := hI.length
  change om.data = .cell none at hom
  change oc.data = .cell (some (.ref c)) at hoc
  replace N : News s.heap L h₁ [(L + 1 + 1, om), (L + 1, oc)] := N
  have hM : 2 ^ cs.length ≤ 32 := Nat.pow_le_pow_right (n := 2) (by decide) hz
  have hM0 : 0 < 2 ^ cs.length := Nat.two_pow_pos _
  ((repeat' (first | (k_here; (with_reducible show wpAny _ _ (call (Value.builtin "len") [Value.ref _]) _ _ _); with_unfolding_all refine' len_ints ?k1 ?k2 ?k3 ?k4 ?_; (case k1 => assumption); (case k2 => k_mem); (case k3 => assumption); (case k4 => walk_at "mar")) | (k_here; (with_reducible show wpAny _ _ (truthy (Value.ref _)) _ _ _); with_unfolding_all refine' truthy_ints ?k1 ?k2 ?k3 ?k4 ?_; (case k1 => assumption); (case k2 => k_mem); (case k3 => assumption); (case k4 => walk_at "mar")) | walk_at "mstep")); (all_goals (try dsimp only)))
  rename Fr _ _ _ _ => F
  rename News _ _ _ _ => N
  have e2 : (2 : Int) ^ ((cs.length : Int)).toNat = ((2 ^ cs.length : Nat) : Int) := by simp
  rw [e2]
  revert hM hM0
  refine gen_at (2 ^ cs.length) ?_
  intro M hMM hM hM0
  refine KMa.mul (vs := [.int 0 tk]) (ws := List.replicate M (.int 0 tk)) F N (News.isList N (.head _)) (by omega) (by omega) (by simp; omega) (by simp) (fun B h' F' N' l1 => ?_)
  have l1' : @LT.lt Nat _ (L + 1 + 1) B := l1 _ (.tail _ (.head _))
  replace N' := News.sub N' (news' := [(B, listOf (List.replicate M (Value.int 0 tk)).toArray 0), (L + 1 + 1, om), (L + 1, oc)]) (fun p hp => by
    rcases List.mem_cons.mp hp with rfl | hp
    · exact .head _
    · exact .tail _ (.tail _ hp))
  clear F N l1
  have hIB := ints_rep tk M
  have hBl : (List.replicate M (0 : Int)).length = M := by simp
  ((repeat' (first | (k_here; (with_reducible show wpAny _ _ (call (Value.builtin "len") [Value.ref _]) _ _ _); with_unfolding_all refine' len_ints ?k1 ?k2 ?k3 ?k4 ?_; (case k1 => assumption); (case k2 => k_mem); (case k3 => assumption); (case k4 => walk_at "mar")) | (k_here; (with_reducible show wpAny _ _ (truthy (Value.ref _)) _ _ _); with_unfolding_all refine' truthy_ints ?k1 ?k2 ?k3 ?k4 ?_; (case k1 => assumption); (case k2 => k_mem); (case k3 => assumption); (case k4 => walk_at "mar")) | walk_at "mstep")); (all_goals (try dsimp only)))
  rename Fr _ _ _ _ => F
  rename News _ _ _ _ => N
  refine For_turns F ?_ (hE := PassesOwn.never)
  ((repeat' (first | (k_here; (with_reducible show wpAny _ _ (call (Value.builtin "len") [Value.ref _]) _ _ _); with_unfolding_all refine' len_ints ?k1 ?k2 ?k3 ?k4 ?_; (case k1 => assumption); (case k2 => k_mem); (case k3 => assumption); (case k4 => walk_at "mar")) | (k_here; (with_reducible show wpAny _ _ (truthy (Value.ref _)) _ _ _); with_unfolding_all refine' truthy_ints ?k1 ?k2 ?k3 ?k4 ?_; (case k1 => assumption); (case k2 => k_mem); (case k3 => assumption); (case k4 => walk_at "mar")) | walk_at "mstep")); (all_goals (try dsimp only)))
  rename Fr _ _ _ _ => F
  rename News _ _ _ _ => N
  rename IsRange _ _ _ _ _ _ _ _ => hr
  rw [hBl] at hr
  have hrs : Builtin.Range.rangeSize 1 (M : Int) 1 = ((M - 1 : Nat) : Int) := by
    unfold Builtin.Range.rangeSize
    rw [if_pos (by decide)]
    split <;> omega
  refine loopRT (n := M - 1) hr (small_mk hrs (by omega) (by omega) (by omega) (by omega)) hrs (Room.deeper (r.less (by decide : 1 ≤ 3))).hd F N (LeastJ cs L B oc) ?h0 ?turn ?done
  case h0 => exact ⟨_, _, _, _, rfl, .cons rfl .nil, hom, by rw [bestF, hMM]; exact hIB⟩
  case done =>
    clear F N hr hIB
    rintro h tk m' news' ⟨bv, nb, om', vm, rfl, hm, hom', hbv⟩ F N
    obtain ⟨u, rfl⟩ := hm.open
    have hbl := bestF_len cs (M - 1)
    rw [hMM] at hbl
    ((repeat' (first | (k_here; (with_reducible show wpAny _ _ (call (Value.builtin "len") [Value.ref _]) _ _ _); with_unfolding_all refine' len_ints ?k1 ?k2 ?k3 ?k4 ?_; (case k1 => assumption); (case k2 => k_mem); (case k3 => assumption); (case k4 => walk_at "mar")) | (k_here; (with_reducible show wpAny _ _ (truthy (Value.ref _)) _ _ _); with_unfolding_all refine' truthy_ints ?k1 ?k2 ?k3 ?k4 ?_; (case k1 => assumption); (case k2 => k_mem); (case k3 => assumption); (case k4 => walk_at "mar")) | walk_at "mstep")); (all_goals (try dsimp only)))
    subst hPost
    refine ⟨Keeps.of_fr F, IsI.of ?_⟩
    unfold leastF
    rw [hMM, hbl]
    congr 1
    omega
  case turn =>
    clear F N hr hIB hom
    intro i ti m₁ news₁ h tk own I R0 hTE
    rintro hi ⟨bv, nb, om, vm, rfl, hm, hom, hbv⟩ hoff hown F N
    obtain ⟨u, rfl⟩ := hm.open
    have hbl := bestF_len cs i
    rw [hMM] at hbl
    have aB : ∀ p ∈ own, p.1 ≠ B := fun p hp e => hoff (B, _) (.head _) (by rw [← hown p hp, e])
    have a2 : ∀ p ∈ own, p.1 ≠ L + 1 + 1 := fun p hp e => hoff (L + 1 + 1, om) (.tail _ (.head _)) (by rw [← hown p hp, e])
    have a1 : ∀ p ∈ own, p.1 ≠ L + 1 := fun p hp e => hoff (L + 1, oc) (.tail _ (.tail _ (.head _))) (by rw [← hown p hp, e])
    replace N : News s.heap L h ((B, listOf bv nb) :: (L + 1 + 1, om) :: (L + 1, oc) :: own) := N
    have hmk : (1 : Int) + (i : Int) * 1 = ((i + 1 : Nat) : Int) := by omega
    rw [hmk]
    ((repeat' (first | (k_here; (with_reducible show wpAny _ _ (call (Value.builtin "len") [Value.ref _]) _ _ _); with_unfolding_all refine' len_ints ?k1 ?k2 ?k3 ?k4 ?_; (case k1 => assumption); (case k2 => k_mem); (case k3 => assumption); (case k4 => walk_at "mar")) | (k_here; (with_reducible show wpAny _ _ (truthy (Value.ref _)) _ _ _); with_unfolding_all refine' truthy_ints ?k1 ?k2 ?k3 ?k4 ?_; (case k1 => assumption); (case k2 => k_mem); (case k3 => assumption); (case k4 => walk_at "mar")) | walk_at "mstep")); (all_goals (try dsimp only)))
    rename Fr _ _ _ _ => F
    rename News _ _ _ _ => N
    rename Obj.data _ = Data.cell (some (Value.int _ _)) => hom2
    rename_i om2
    refine comp_assign (cl := [(Str.ofString "mask", L + 1 + 1), (Str.ofString "counts", L + 1)]) (insP (i + 1)) (fun v y => ∃ k : Nat, k < cs.length ∧ IsI (k : Nat) v ∧ IsI (cs.getD k 0) y) (by rfl) (by rfl) (by decide) rfl (by decide) rfl rfl rfl ?_
    ((repeat' (first | (k_here; (with_reducible show wpAny _ _ (call (Value.builtin "len") [Value.ref _]) _ _ _); with_unfolding_all refine' len_ints ?k1 ?k2 ?k3 ?k4 ?_; (case k1 => assumption); (case k2 => k_mem); (case k3 => assumption); (case k4 => walk_at "mar")) | (k_here; (with_reducible show wpAny _ _ (truthy (Value.ref _)) _ _ _); with_unfolding_all refine' truthy_ints ?k1 ?k2 ?k3 ?k4 ?_; (case k1 => assumption); (case k2 => k_mem); (case k3 => assumption); (case k4 => walk_at "mar")) | walk_at "mstep")); (all_goals (try dsimp only)))
    rename Fr _ _ _ _ => F
    rename News _ _ _ _ => N
    rename IsRange _ _ _ _ _ _ _ _ => hr
    have hcm : Heap.IsCell _ (L + 1 + 1) (some (.int ((i + 1 : Nat) : Int) ti)) := ⟨om2, (N (L + 1 + 1, om2) (.tail _ (.head _))).1, hom2⟩
    have hcc : Heap.IsCell _ (L + 1) (some (.ref c)) := ⟨oc, (N (L + 1, oc) (.tail _ (.tail _ (.head _)))).1, hoc⟩
    have G2 := G.keeps F.keep
    have hcl2 : Heap.IsList _ c vs.toArray := ⟨_, F.keep _ _ hc, rfl, n, rfl⟩
    refine comp_rangeA (n := cs.length) (Room.deeper (r.less (by decide : 1 ≤ 3))).hd F N hr (small_n (range_up _) (Nat.le_trans hz (by decide)) (by decide) (Nat.le_trans hz (by decide))) (range_up _) (by rw [sizeLine_eq]; omega) rfl ⟨?tests, ?elt⟩ ?_
    case tests =>
      rintro C j v s₃ m₃ E' ⟨hj, t, rfl⟩ hn3 hm3 kp3
      have hcm3 := hcm.keeps kp3
      have hcc3 := hcc.keeps kp3
      have KX3 := (G2.keeps kp3).X
      have KT3 := (G2.keeps kp3).T
      have k3' : ∀ b o, s₃.heap.get? b = some o → s₃.heap.get? b = some o := fun _ _ e => e
      clear F N kp3 hcm hcc KX KT G2 hr
      refine wpAny_tests_one ?_
      ((repeat' (first | (k_here; (with_reducible show wpAny _ _ (call (Value.builtin "len") [Value.ref _]) _ _ _); with_unfolding_all refine' len_ints ?k1 ?k2 ?k3 ?k4 ?_; (case k1 => assumption); (case k2 => k_mem); (case k3 => assumption); (case k4 => walk_at "mar")) | (k_here; (with_reducible show wpAny _ _ (truthy (Value.ref _)) _ _ _); with_unfolding_all refine' truthy_ints ?k1 ?k2 ?k3 ?k4 ?_; (case k1 => assumption); (case k2 => k_mem); (case k3 => assumption); (case k4 => walk_at "mar")) | walk_at "mstep")); (all_goals (try dsimp only)))
      refine ⟨?_, Keeps.tok⟩
      have e0 : (0 + (j : Int) * 1).toNat = j := by omega
      show _ = decide ((i + 1) / 2 ^ (0 + (j : Int) * 1).toNat % 2 ≠ 0)
      rw [e0]
      have e1 : ((((i + 1 : Nat) : Int)).fdiv (2 ^ j)).fmod 2 = (((i + 1) / 2 ^ j % 2 : Nat) : Int) := by
        have hp : (0 : Int) ≤ 2 ^ j := Int.le_of_lt (Int.pow_pos (by decide))
        rw [Int.fdiv_eq_ediv_of_nonneg _ hp, Int.fmod_eq_emod_of_nonneg _ (by decide)]
        have e3 : ((2 : Int) ^ j) = ((2 ^ j : Nat) : Int) := by simp
        rw [e3, ← Int.natCast_ediv]
        rfl
      rw [e1]
      by_cases q : (i + 1) / 2 ^ j % 2 = 0
      · rw [q]; rfl
      · have q' : (((i + 1) / 2 ^ j % 2 : Nat) : Int) ≠ 0 := by omega
        rw [bne_iff_ne.mpr q', decide_eq_true q]
    case elt =>
      rintro C j v s₃ m₃ E' ⟨hj, t, rfl⟩ hp3 hn3 hm3 kp3
      have hcm3 := hcm.keeps kp3
      have hcc3 := hcc.keeps kp3
      have KX3 := (G2.keeps kp3).X
      have KT3 := (G2.keeps kp3).T
      have hcl3 : Heap.IsList _ c vs.toArray := ⟨_, kp3 _ _ (F.keep _ _ hc), rfl, n, rfl⟩
      have k3' : ∀ b o, s₃.heap.get? b = some o → s₃.heap.get? b = some o := fun _ _ e => e
      clear F N kp3 hcm hcc KX KT G2 hr
      repeat' (first | ((fail_if_success (with_reducible show wpAny _ _ (subscriptTail _ _ _ _) _ _ _)); walk_at "mstep"))
      try dsimp only
      have ecs : cs[j]? = some (cs.getD j 0) := by simp [List.getD, List.getElem?_eq_getElem hj]
      obtain ⟨tj, hvj⟩ := hI.get j _ ecs
      refine tail_any hcl3.typeIs slot_list_getitem.lookup (wpAny_getItem_list hcl3 (k := 0 + (j : Int) * 1) (by omega) (by omega) (x := .int (cs.getD j 0) tj) ?_ ?_) (by with_unfolding_all rfl)
      · have e0 : (0 + (j : Int) * 1).toNat = j := by omega
        rw [e0]; simpa using hvj
      · exact ⟨⟨j, hj, IsI.of (by omega), ⟨tj, rfl⟩⟩, Keeps.refl _⟩
    intro D h' tk' ys n' vs' F' N' hDn hlen8 hvs8 hF
    clear F N
    have hins : IntsAre ys.toList (insF cs (i + 1)) := ins_of hlen8 hvs8 hF
    ((repeat' (first | (k_here; (with_reducible show wpAny _ _ (call (Value.builtin "len") [Value.ref _]) _ _ _); with_unfolding_all refine' len_ints ?k1 ?k2 ?k3 ?k4 ?_; (case k1 => assumption); (case k2 => k_mem); (case k3 => assumption); (case k4 => walk_at "mar")) | (k_here; (with_reducible show wpAny _ _ (truthy (Value.ref _)) _ _ _); with_unfolding_all refine' truthy_ints ?k1 ?k2 ?k3 ?k4 ?_; (case k1 => assumption); (case k2 => k_mem); (case k3 => assumption); (case k4 => walk_at "mar")) | walk_at "mstep")); (all_goals (try dsimp only)))
    rename Fr _ _ _ _ => F
    rename News _ _ _ _ => N
    rename_i W _ l1 _ _ _
    have hDnp1 : @Ne Addr B D := hDn _ (.head _)
    have hDnp2 : @Ne Addr (L + 1 + 1) D := hDn _ (.tail _ (.head _))
    have hDnp3 : @Ne Addr (L + 1) D := hDn _ (.tail _ (.tail _ (.head _)))
    have aD : ∀ p ∈ own, p.1 ≠ D := fun p hp => hDn p (.tail _ (.tail _ (.tail _ hp)))
    have aW : ∀ p ∈ own, p.1 ≠ W := fun p hp e => by
      have := allLt_mem l1.2.2.2.2 p hp
      exact absurd e (Nat.ne_of_lt this)
    have l1' : @LT.lt Nat _ D W ∧ @LT.lt Nat _ B W ∧ @LT.lt Nat _ (L + 1 + 1) W := ⟨l1.1, l1.2.1, l1.2.2.1⟩
    have eb : ∀ a b : Nat, Builtin.bitAnd (a : Int) (b : Int) = ((a &&& b : Nat) : Int) := fun a b => by
      unfold Builtin.bitAnd
      rw [decide_eq_true (show (0 : Int) ≤ (a : Int) by omega), decide_eq_true (show (0 : Int) ≤ (b : Int) by omega)]
      rfl
    have ep0 : Builtin.bitAnd (((i + 1 : Nat) : Int) - 1) ((i + 1 : Nat) : Int) = ((i &&& (i + 1) : Nat) : Int) := by
      rw [← eb]; congr 1; omega
    have hp0 : i &&& (i + 1) ≤ i := Nat.and_le_left
    refine While_own (LeastW cs i B W D ((D, listOf ys n') :: (B, listOf bv nb) :: (L + 1 + 1, om2) :: (L + 1, oc) :: own)) F N
      ⟨i &&& (i + 1), #[], _, [], _, rfl, by simpa using hp0, .cons rfl (.cons rfl (.cons rfl (.consI rfl ep0 .nil))), rfl, .nil, rfl⟩ ?_ PassesOwn.never
    clear F N
    intro R1 cc m₁ news₁ h₁ tk₁ hR1 F N
    rintro ⟨p, wv, nw, ws, tp, rfl, hpl, hm, rfl, hwv, hws⟩
    obtain ⟨u, rfl⟩ := hm.open
    ((repeat' (first | (k_here; (with_reducible show wpAny _ _ (call (Value.builtin "len") [Value.ref _]) _ _ _); with_unfolding_all refine' len_ints ?k1 ?k2 ?k3 ?k4 ?_; (case k1 => assumption); (case k2 => k_mem); (case k3 => assumption); (case k4 => walk_at "mar")) | (k_here; (with_reducible show wpAny _ _ (truthy (Value.ref _)) _ _ _); with_unfolding_all refine' truthy_ints ?k1 ?k2 ?k3 ?k4 ?_; (case k1 => assumption); (case k2 => k_mem); (case k3 => assumption); (case k4 => walk_at "mar")) | walk_at "mstep")); (all_goals (try dsimp only)))
    all_goals (rename Fr _ _ _ _ => F)
    all_goals (rename News _ _ _ _ => N)
    · rename ¬ (_ : Int) = _ => hne
      have hne' : cc ≠ 0 := by omega
      have hand : (cc - 1) &&& (i + 1) ≤ cc - 1 := Nat.and_le_left
      have ep : Builtin.bitAnd ((cc : Int) - 1) ((i + 1 : Nat) : Int) = (((cc - 1) &&& (i + 1) : Nat) : Int) := by
        rw [← eb]; congr 1; omega
      refine hR1 _ _ ?_
      dsimp only [WhileStep2]
      refine ⟨_, _, _, _, (cc - 1) &&& (i + 1), rfl, F, N, by omega, _, _, _, ws ++ [_], _, rfl, ?_, .cons rfl (.cons rfl (.cons rfl (.consI rfl ep .nil))), rfl, by rw [Array.toList_push]; exact hwv.append (.cons _ _ .nil), ?_⟩
      · rw [List.length_append, List.length_singleton]; omega
      · rw [← hws]
        conv => rhs; rw [waysF]
        rw [dif_neg hne', List.append_assoc, List.singleton_append]
        have e1 : ((cc : Int)).toNat = cc := by omega
        have e2 : (((i + 1 : Nat) : Int) - (cc : Int)).toNat = i + 1 - cc := by omega
        rw [e1, e2]
    · rename (cc : Int) = 0 => hc0
      have hc0' : cc = 0 := by omega
      subst hc0'
      have hw0 : ws = waysF (bestF cs i) (i + 1) (i &&& (i + 1)) := by
        rw [← hws]; conv => rhs; rw [waysF]
        simp
      rename 0 < ws.length => hwpos
      refine sumK (Room.deeper (r.less (by decide : 1 ≤ 3))).hd F N (l := D) (vs := ys.toList) ⟨_, (N (D, listOf ys n') (.tail _ (.head _))).1, rfl, _, rfl⟩ hins ?_
      intro h' tk' t' F' N'
      clear F N
      ((repeat' (first | (k_here; (with_reducible show wpAny _ _ (call (Value.builtin "len") [Value.ref _]) _ _ _); with_unfolding_all refine' len_ints ?k1 ?k2 ?k3 ?k4 ?_; (case k1 => assumption); (case k2 => k_mem); (case k3 => assumption); (case k4 => walk_at "mar")) | (k_here; (with_reducible show wpAny _ _ (truthy (Value.ref _)) _ _ _); with_unfolding_all refine' truthy_ints ?k1 ?k2 ?k3 ?k4 ?_; (case k1 => assumption); (case k2 => k_mem); (case k3 => assumption); (case k4 => walk_at "mar")) | walk_at "mstep")); (all_goals (try dsimp only)))
      rename Fr _ _ _ _ => F
      rename News _ _ _ _ => N
      refine min_list_N (l := W) (vs := wv.toList) (Room.deeper (r.less (by decide : 1 ≤ 3))).hd F N ⟨_, (N (W, listOf wv nw) (.head _)).1, rfl, _, rfl⟩ hwv hwpos (fun h' mm tm tk'' F' N' hmm1 hmm2 => ?_)
      clear F N
      have hmm : mm = minL ws := min_uniq hmm1 hmm2
      ((repeat' (first | (k_here; (with_reducible show wpAny _ _ (call (Value.builtin "len") [Value.ref _]) _ _ _); with_unfolding_all refine' len_ints ?k1 ?k2 ?k3 ?k4 ?_; (case k1 => assumption); (case k2 => k_mem); (case k3 => assumption); (case k4 => walk_at "mar")) | (k_here; (with_reducible show wpAny _ _ (truthy (Value.ref _)) _ _ _); with_unfolding_all refine' truthy_ints ?k1 ?k2 ?k3 ?k4 ?_; (case k1 => assumption); (case k2 => k_mem); (case k3 => assumption); (case k4 => walk_at "mar")) | walk_at "mstep")); (all_goals (try dsimp only)))
      rename Fr _ _ _ _ => F
      rename News _ _ _ _ => N
      refine hTE _ _ ?_
      dsimp only [TurnEnd]
      rename IntsAre (List.set _ _ _) _ => hset
      obtain ⟨bl, hset, N⟩ : ∃ bl : List Value, IntsAre bl ((bestF cs i).set (((i + 1 : Nat) : Int)).toNat ((insF cs (i + 1)).sum + mm)) ∧ News s.heap L _ ((W, listOf wv nw) :: (D, listOf ys n') :: (B, listOf bl.toArray nb) :: (L + 1 + 1, om2) :: (L + 1, oc) :: own) := ⟨_, hset, N⟩
      refine ⟨_, _, _, [(B, listOf bl.toArray nb), (L + 1 + 1, om2), (L + 1, oc)], rfl, F, ?_, ?_, bl.toArray, nb, om2, _, rfl, .cons rfl .nil, hom2, ?_⟩
      · exact News.sub N (fun p hp => .tail _ (.tail _ hp))
      · intro p hp
        simp only [List.mem_cons, List.not_mem_nil, or_false] at hp
        rcases hp with rfl | rfl | rfl
        · exact hoff (B, listOf bv nb) (.head _)
        · exact hoff (L + 1 + 1, om) (.tail _ (.head _))
        · exact hoff (L + 1, oc) (.tail _ (.tail _ (.head _)))
      · rw [bestF]
        unfold stepL
        have e1 : (((i + 1 : Nat) : Int)).toNat = i + 1 := by omega
        rw [if_neg (by rw [show i + 1 - 1 = i from rfl, ← hw0]; intro q; rw [q] at hwpos; cases hwpos), show i + 1 - 1 = i from rfl, ← hw0, ← hmm]
        rw [e1] at hset
        exact hset
    · rename (cc : Int) = 0 => hc0
      have hc0' : cc = 0 := by omega
      subst hc0'
      have hw0 : ws = waysF (bestF cs i) (i + 1) (i &&& (i + 1)) := by
        rw [← hws]; conv => rhs; rw [waysF]
        simp
      rename ¬ 0 < ws.length => hwpos
      have hwn : ws = [] := List.eq_nil_of_length_eq_zero (by omega)
      refine hTE _ _ ?_
      dsimp only [TurnEnd]
      refine ⟨_, _, _, [(B, listOf bv nb), (L + 1 + 1, om2), (L + 1, oc)], rfl, F, ?_, ?_, bv, nb, om2, _, rfl, .cons rfl .nil, hom2, ?_⟩
      · exact News.sub N (fun p hp => .tail _ (.tail _ hp))
      · intro p hp
        simp only [List.mem_cons, List.not_mem_nil, or_false] at hp
        rcases hp with rfl | rfl | rfl
        · exact hoff (B, listOf bv nb) (.head _)
        · exact hoff (L + 1 + 1, om) (.tail _ (.head _))
        · exact hoff (L + 1, oc) (.tail _ (.tail _ (.head _)))
      · rw [bestF]
        unfold stepL
        rw [if_pos (by rw [show i + 1 - 1 = i from rfl, ← hw0]; exact hwn)]
        exact hbv
/-! 23sent -/
noncomputable def askS : Str := Str.ofString "asked"
noncomputable def placeF (tab : List Str) (x : Str) : Int := if low x ∈ tab.map low then (tab.length : Int) - (tab.map low).idxOf (low x) else tab.length + 1
noncomputable def sizeF (p : Int) : Nat := Nat.log2 p.toNat + 1
noncomputable def tabF (tab : List Str) (x : Str) : List Str := (tab.filter fun r => decide (low r ≠ low x)) ++ [x]
noncomputable def addF (tab : List Str) (o : Int) : List Bool := List.replicate (sizeF (placeF tab (nameF o)) - 1) false ++ bitsL (placeF tab (nameF o)) (sizeF (placeF tab (nameF o))) ++ (if (tab.length : Int) < placeF tab (nameF o) then bitsL o 8 else [])
/-- what the sender writes -/
noncomputable def sentF : List Int → List Str → List Int × List Bool
  | [], _ => ([], [])
  | o :: r, tab => (placeF tab (nameF o) :: (sentF r (tabF tab (nameF o))).1, addF tab o ++ (sentF r (tabF tab (nameF o))).2)

theorem len_strs {prog : Program} {w : World} {A : Around} {E : Value → Shared → Prop} {s : Shared} {g : Heap} {L a : Addr} {news : List (Addr × Obj)} {its : Array Value} {n : Nat} {xs : List Str} {Q : Value → Shared → Prop} (N : News g L s.heap news) (hm : (a, listOf its n) ∈ news) (hI : StrsAre its.toList xs) (hx : (xs.length : Int) < 2 ^ 63)
    (h : Q (.int xs.length (s.toks + 1)) { s with toks := s.toks + 1 + 1 }) : wpAny (model prog w) A (call (.builtin "len") [.ref a]) Q E s := by
  have hl : s.heap.IsList a its := ⟨_, (N _ hm).1, rfl, n, rfl⟩
  have hz : its.size = xs.length := by rw [← Array.length_toList, hI.length]
  exact len_list hl (by omega) (by rw [hz]; exact h)
theorem tail_ne {g h : Heap} {L c I : Addr} {o : Obj} {news tups own : List (Addr × Obj)} {rows : List (Str × Str)} (N : News g L h news) (hc : (c, o) ∈ news) (hsub : ∀ p ∈ tups, p ∈ news) (hrow : Paired Row tups rows)
    (ho : o.cls ≠ .type "tuple" ∨ ∃ v, o.data = .cell v) (hown : ∀ p ∈ own, p.1 = I) (hcI : c ≠ I) : ∀ p ∈ tups ++ own, p.1 ≠ c := by
  intro p hp e
  rcases List.mem_append.mp hp with hp | hp
  · obtain ⟨i, hi⟩ := List.getElem?_of_mem hp
    obtain ⟨rr, _, hcls, tk, tv, n, hd⟩ := paired_at hrow i p hi
    have h1 := (N p (hsub p hp)).1
    rw [e, (N _ hc).1] at h1
    have h2 := Option.some.inj h1
    dsimp only at h2
    rcases ho with ho | ⟨v, hv⟩
    · exact ho (by rw [h2]; exact hcls)
    · rw [h2, hd] at hv; exact Data.noConfusion hv
  · exact hcI (by rw [← e, hown p hp])
theorem tail_ne0 {g h : Heap} {L c : Addr} {o : Obj} {news tups : List (Addr × Obj)} {rows : List (Str × Str)} (N : News g L h news) (hc : (c, o) ∈ news) (hsub : ∀ p ∈ tups, p ∈ news) (hrow : Paired Row tups rows)
    (ho : o.cls ≠ .type "tuple" ∨ ∃ v, o.data = .cell v) : ∀ p ∈ tups, p.1 ≠ c := fun p hp =>
  tail_ne (I := c + 1) (own := []) N hc hsub hrow ho (fun _ h => nomatch h) (Nat.ne_of_lt (Nat.lt_succ_self _)) p (List.mem_append.mpr (.inl hp))
theorem Tab.ofNews {g h : Heap} {L t d hl : Addr} {news tups : List (Addr × Obj)} {rows : List (Str × Str)} {hsh : Int} {tke : Tok} {nl : Nat} (N : News g L h news) (h1 : (t, instObj 236 d) ∈ news) (h2 : (d, dictOf [⟨hsh, .str (Str.ofString "_headers") tke, .ref hl⟩] 1) ∈ news)
    (h3 : (hl, listOf (refsOf tups) nl) ∈ news) (hs : ∀ p ∈ tups, p ∈ news) (hrow : Paired Row tups rows) (hlen : tups.length ≤ 64) : Tab h t d hl tups rows :=
  ⟨⟨(N _ h1).1, _, _, _, (N _ h2).1⟩, ⟨_, (N _ h3).1⟩, fun p hp => (N p (hs p hp)).1, hrow, hlen⟩
theorem cS_tame {l : List Int} (h : ∀ c ∈ l, 32 ≤ c ∧ c < 127) (hz : l.length < 2 ^ 20) : TameS (cS l) := by
  refine ⟨fun i hi => ?_, by simpa [cS] using hz⟩
  have hi' : i < l.length := by simpa [cS] using hi
  have e : (cS l).cps.getD i 0 = (l[i]).toNat := by
    simp [cS, Array.getD_eq_getD_getElem?, List.getElem?_eq_getElem hi']
  have := h l[i] (List.getElem_mem hi')
  rw [e]; constructor <;> omega
theorem b64c_tame (i : Int) : 32 ≤ b64c i ∧ b64c i < 127 ∨ b64c i = 0 := by
  unfold b64c
  have h : ∀ n : Nat, n < 64 → 32 ≤ b64tab.getD n 0 ∧ b64tab.getD n 0 < 127 := by decide +kernel
  by_cases hi : i.toNat < 64
  · left; have := h _ hi; omega
  · right; rw [List.getD, List.getElem?_eq_none (by show 64 ≤ _; omega)]; simp
theorem b64c_tame' {i : Int} (h1 : i < 64) : 32 ≤ b64c i ∧ b64c i < 127 := by
  unfold b64c
  have h : ∀ n : Nat, n < 64 → 32 ≤ b64tab.getD n 0 ∧ b64tab.getD n 0 < 127 := by decide +kernel
  have := h i.toNat (by omega); omega
theorem nameF_tame {o : Int} (h0 : 0 ≤ o) (h1 : o < 256) : TameS (nameF o) := by
  refine cS_tame (fun c hc => ?_) (by unfold nameL; simp)
  unfold nameL at hc
  simp only [List.mem_cons, List.not_mem_nil, or_false] at hc
  rcases hc with rfl | rfl | rfl | rfl
  · exact b64c_tame' (by omega)
  · exact b64c_tame' (by omega)
  · decide
  · decide
theorem keys_of {v : Str} : ∀ l : List Str, (l.map (fun x => (x, v))).map (·.1) = l
  | [] => rfl
  | a :: r => congrArg (a :: ·) (keys_of r)

theorem has_rows {tab : List Str} {v x : Str} : (getF (tab.map fun y => (y, v)) x).isSome = decide (low x ∈ tab.map low) := by
  induction tab with
  | nil => rfl
  | cons y r ih =>
    unfold getF at ih ⊢
    rw [List.map_cons, List.map_cons]
    by_cases e : low y = low x
    · rw [List.find?_cons_of_pos (by simpa using e)]; simp [e]
    · rw [List.find?_cons_of_neg (by simpa using e), ih]
      have : (low x ∈ low y :: List.map low r) ↔ (low x ∈ List.map low r) := by
        rw [List.mem_cons]; exact ⟨fun h => h.elim (fun q => absurd q.symm e) id, .inr⟩
      simp [this, Ne.symm e]
noncomputable def sizeP (p : Int) : Value → Bool
  | .int k _ => decide (p < 2 ^ k.toNat)
  | _ => false
theorem sizeF_of {p : Int} {k : Nat} (h1 : (2 : Int) ^ k ≤ p) (h2 : p < 2 ^ (k + 1)) : sizeF p = k + 1 := by
  unfold sizeF
  have hp : (0 : Int) < 2 ^ k := Int.pow_pos (by decide)
  obtain ⟨n, rfl⟩ : ∃ n : Nat, p = (n : Int) := ⟨p.toNat, by omega⟩
  have e1 : ((2 : Int) ^ k) = ((2 ^ k : Nat) : Int) := by simp
  have e2 : ((2 : Int) ^ (k + 1)) = ((2 ^ (k + 1) : Nat) : Int) := by simp
  rw [e1] at h1 hp; rw [e2] at h2
  have h1' : 2 ^ k ≤ n := by exact_mod_cast h1
  have h2' : n < 2 ^ (k + 1) := by exact_mod_cast h2
  have hn : n ≠ 0 := by have : 0 < 2 ^ k := Nat.two_pow_pos k; omega
  rw [show (n : Int).toNat = n from rfl, (Nat.log2_eq_iff hn).mpr ⟨h1', h2'⟩]
theorem fil_head {p : Int} : ∀ (vs : List Value) (b : Nat), (∀ (j : Nat) (v : Value), vs[j]? = some v → ∃ t, v = Value.int ((b + 1 + j : Nat) : Int) t) → (2 : Int) ^ b ≤ p → p < 2 ^ (b + vs.length) → ∃ t rest, vs.filter (sizeP p) = .int (sizeF p : Nat) t :: rest
  | [], b, _, h1, h2 => absurd (Int.lt_of_le_of_lt h1 h2) (Int.lt_irrefl _)
  | v :: r, b, h, h1, h2 => by
    obtain ⟨t, rfl⟩ := h 0 v rfl
    by_cases c : p < 2 ^ (b + 1)
    · refine ⟨t, r.filter (sizeP p), ?_⟩
      rw [List.filter_cons_of_pos (by show decide (p < 2 ^ (((b + 1 + 0 : Nat) : Int)).toNat) = true; rw [Int.toNat_natCast]; exact decide_eq_true c), sizeF_of h1 c]
    · rw [List.filter_cons_of_neg (by show ¬ decide (p < 2 ^ (((b + 1 + 0 : Nat) : Int)).toNat) = true; rw [Int.toNat_natCast]; simpa using c)]
      refine fil_head r (b + 1) (fun j v e => ?_) (Int.not_lt.mp c) ?_
      · obtain ⟨t, rfl⟩ := h (j + 1) v e
        exact ⟨t, by rw [show b + 1 + (j + 1) = b + 1 + 1 + j by omega]⟩
      · rw [List.length_cons, show b + (r.length + 1) = b + 1 + r.length by omega] at h2; exact h2
theorem size_head {vs : List Value} {p : Int} (hlen : vs.length = 8) (hvs : ∀ (j : Nat) (v : Value), vs[j]? = some v → ∃ t, v = Value.int (1 + j * 1) t) (h1 : 1 ≤ p) (h2 : p < 256) :
    ∃ t rest, vs.filter (sizeP p) = .int (sizeF p : Nat) t :: rest := by
  refine fil_head vs 0 (fun j v e => ?_) h1 (by rw [hlen]; exact h2)
  obtain ⟨t, rfl⟩ := hvs j v e
  exact ⟨t, by congr 1; omega⟩
theorem sub_at {prog : Program} {w : World} {A : Around} {E : Value → Shared → Prop} {s : Shared} {g : Heap} {L a : Addr} {news : List (Addr × Obj)} {its : Array Value} {n : Nat} {k : Int} {u : Tok} {x : Value} {value slice : PySem.Expr} {Q : Value → Shared → Prop} (N : News g L s.heap news) (hm : (a, listOf its n) ∈ news) (hx : its[k.toNat]? = some x) (h0 : 0 ≤ k) (hf : k < 2 ^ 63)
    (h : Q x s)
    (hs : subscripted slice false (.ref a) (.int k u) = operate [.ref a, .int k u] (getItem (.ref a) (.int k u)) := by with_unfolding_all rfl) :
    wpAny (model prog w) A (subscriptTail value slice (.ref a) (.int k u)) Q E s := by
  have hl : s.heap.IsList a its := ⟨_, (N _ hm).1, rfl, n, rfl⟩
  exact tail_any hl.typeIs slot_list_getitem.lookup (wpAny_getItem_list hl h0 hf hx h) hs
theorem placeF_bd {tab : List Str} {x : Str} (h : tab.length ≤ 64) : 1 ≤ placeF tab x ∧ placeF tab x ≤ tab.length + 1 := by
  unfold placeF
  split
  · rename_i hin
    have := List.idxOf_lt_length_iff.mpr hin
    rw [List.length_map] at this
    omega
  · omega
theorem strs_at {ys : Array Value} {l : List Str} (h : StrsAre ys.toList l) {i : Nat} {v : Value} (e : ys[i]? = some v) : ∃ x t, l[i]? = some x ∧ v = .str x t := by
  rw [← Array.getElem?_toList] at e
  generalize ys.toList = vs at h e
  induction h generalizing i with
  | nil => cases i <;> cases e
  | cons y t' _ ih =>
    cases i with
    | zero => cases e; exact ⟨_, _, rfl, rfl⟩
    | succ i => exact ih e
noncomputable def isS (x : Str) : Value → Bool
  | .str z _ => z.cps.toList == x.cps.toList
  | _ => false
theorem index_strs {prog : Program} {w : World} {A : Around} {E : Value → Shared → Prop} {s : Shared} {g : Heap} {L a : Addr} {news : List (Addr × Obj)} {its : Array Value} {n : Nat} {xs : List Str} {x : Str} {t : Tok} {Q : Value → Shared → Prop} (N : News g L s.heap news) (hm : (a, listOf its n) ∈ news) (hI : StrsAre its.toList xs)
    (hk : x ∈ xs) (hz : xs.length ≤ 64) (h : Q (.int (xs.idxOf x : Nat) s.toks) { s with toks := s.toks + 1 }) : wpAny (model prog w) A (call (.builtin "list.index") [.ref a, .str x t]) Q E s := by
  have hj : xs.idxOf x < xs.length := List.idxOf_lt_length_iff.mpr hk
  have hs : its.size = xs.length := by rw [← Array.length_toList, hI.length]
  have hat : ∀ j (hj : j < its.size), ∃ y t', xs[j]? = some y ∧ its[j] = .str y t' := fun j hj => strs_at hI (Array.getElem?_eq_getElem hj)
  refine call_meets PySem.F.slot_list_index ⟨_, (N _ hm).1, rfl⟩ PySem.F.entry_list_index (PySem.F.args_list_index_2 _ _)
    (MeetsSeq.list_index a its n (.str x t) (isS x) (fun y hy => ?_) (xs.idxOf x) (by omega) (by omega) ?_ (fun j hj' hlt => ?_)) ⟨(N _ hm).1, h⟩
  · obtain ⟨j, hj', rfl⟩ := Array.getElem_of_mem hy
    obtain ⟨z, t', _, e⟩ := hat j hj'
    rw [e]
    exact SeqRoads2.EqGives.str z x t' t
  · obtain ⟨z, t', e1, e⟩ := hat (xs.idxOf x) (by omega)
    rw [e]
    have : z = x := by
      have := List.getElem_idxOf hj
      rw [List.getElem?_eq_getElem hj, this] at e1
      exact (Option.some.inj e1).symm
    rw [this]; unfold isS; simp
  · obtain ⟨z, t', e1, e⟩ := hat j hj'
    rw [e]
    have hne : z ≠ x := fun q => by
      rw [q] at e1
      obtain ⟨h1, h2⟩ := List.getElem?_eq_some_iff.mp e1
      have := List.not_of_lt_findIdx (p := (· == x)) (xs := xs) hlt
      simp [h2] at this
    show (z.cps.toList == x.cps.toList) = false
    rw [beq_eq_false_iff_ne]
    exact fun q => hne (str_ext q)
theorem paired_low {vs zs : List Value} {l : List Str} (h : StrsAre vs l) (hF : Paired (fun v y => ∃ x, IsS x v ∧ IsS (low x) y) vs zs) : StrsAre zs (l.map low) := by
  induction h generalizing zs with
  | nil => cases hF; exact .nil
  | cons y t' _ ih =>
    cases hF with
    | cons e r =>
      obtain ⟨x, ⟨t1, e1⟩, ⟨t2, rfl⟩⟩ := e
      cases e1
      exact .cons _ _ (ih r)
theorem sent_pos {os : List Int} (h : 0 < os.length) : 0 < (sentF os []).2.length := by
  cases os with
  | nil => cases h
  | cons o r =>
    rw [sentF]
    show 0 < (addF [] o ++ _).length
    unfold addF
    simp only [List.length_append, bitsLen]
    unfold sizeF
    omega
/-- behind table[name] = value: the tuples of the table anew -/
theorem afterTab {g h h' : Heap} {L t d hl : Addr} {m : Str → Option Value} {news tups tups' : List (Addr × Obj)} {rows : List (Str × Str)} (F : Fr g L h m) (N : News g L h news) (hs : ∀ p ∈ tups, p ∈ news)
    (T : Tab h' t d hl tups' rows) (ht : ∀ p ∈ tups', p ∈ tups ∨ h.get? p.1 = none) : News g L h' tups' := by
  obtain ⟨oL, _, _, hL, _⟩ := F.ns
  intro p hp
  refine ⟨T.tup p hp, ?_⟩
  rcases ht p hp with q | q
  · exact (N p (hs p q)).2
  · refine ⟨fun e => (by rw [e, hL] at q; cases q), ?_⟩
    cases e : g.get? p.1 with
    | none => rfl
    | some o => rw [F.keep _ _ e] at q; cases q
theorem rows_tab {tab : List Str} {v x : Str} : ((tab.map fun y => (y, v)).filter fun r => decide (low r.1 ≠ low x)) ++ [(x, v)] = (tabF tab x).map fun y => (y, v) := by
  unfold tabF
  rw [List.map_append, List.filter_map]
  rfl
theorem tabF_mem {tab : List Str} {x y : Str} (h : y ∈ tabF tab x) : y ∈ tab ∨ y = x := by
  unfold tabF at h
  rcases List.mem_append.mp h with h | h
  · exact .inl (List.mem_filter.mp h).1
  · exact .inr (List.mem_singleton.mp h)
theorem tabF_len {tab : List Str} {x : Str} : (tabF tab x).length ≤ tab.length + 1 := by
  unfold tabF
  have := List.length_filter_le (fun r => decide (low r ≠ low x)) tab
  simp only [List.length_append, List.length_singleton]; omega
theorem addF_len {tab : List Str} {o : Int} (h : sizeF (placeF tab (nameF o)) ≤ 8) : (addF tab o).length ≤ 32 := by
  unfold addF
  simp only [List.length_append, List.length_replicate, bitsLen]
  split
  · rw [bitsLen]; omega
  · simp; omega
inductive SentJ (os : List Int) (L t d hl P : Addr) (hsh : Int) (tke : Tok) (i : Nat) (m : Str → Option Value) (news : List (Addr × Obj)) : Prop
  | mk (pv : Array Value) (np : Nat) (ob op : Obj) (tups : List (Addr × Obj)) (nl : Nat) (vo : Option Value) (bits : List Bool) (tb : Tok) (places : List Int) (tab : List Str) (hn : news = (P, listOf pv np) :: (t, instObj 236 d) :: (d, dictOf [⟨hsh, .str (Str.ofString "_headers") tke, .ref hl⟩] 1) :: (hl, listOf (refsOf tups) nl) :: (L + 1 + 1, op) :: (L + 1, ob) :: tups)
      (hm : Has m [(Str.ofString "table", .ref t), (Str.ofString "places", .ref P)]) (hob : ob.data = .cell (some (.str (bS bits) tb))) (hop : op.data = .cell vo) (hI : IntsAre pv.toList places) (hrow : Paired Row tups (tab.map fun x => (x, askS))) (htab : ∀ x ∈ tab, TameS x) (htl : tab.length ≤ i) (hbl : bits.length ≤ 32 * i) (hpl : places.length = i)
      (hs : (places ++ (sentF (os.drop i) tab).1, bits ++ (sentF (os.drop i) tab).2) = sentF os [])
set_option maxHeartbeats 8000000 in
theorem sent_spec (w : World) {mean mg mb} {A : Around} {s : Shared} (G : Gd w mean mg mb s.heap) (r : Room 8 A)
    {c : Addr} {vs : List Value} {n : Nat} {os : List Int} (hc : s.heap.get? c = some (listOf vs.toArray n)) (hI : IntsAre vs os) (hb : ∀ o ∈ os, 0 ≤ o ∧ o < 256) (hz : os.length ≤ 20) (hpos : 0 < os.length) (E : Value → Shared → Prop) :
    wpAny (model pg w) A (call (.ref 271) [.ref c]) (fun y s' => Keeps s s' ∧ ∃ T P pv np tv gs rem k, y = .ref T ∧ s.heap.get? T = none ∧ s.heap.get? P = none ∧ @Ne Nat P T ∧ s'.heap.get? T = some { cls := .type "tuple", data := .seq #[.ref P, .str (cS (b64out gs rem)) tv] } ∧ s'.heap.get? P = some (listOf pv np) ∧
      IntsAre pv.toList (sentF os []).1 ∧ (∀ g ∈ gs, g.length = 6) ∧ rem.length < 6 ∧ gs.flatten ++ rem = (sentF os []).2 ++ List.replicate k false ∧ (gs.flatten ++ rem).length ≤ 648 ∧ (gs.flatten ++ rem).length % 8 = 0) E s := by
  refine post_var fun Q0 hPost => ?_
  have KX := G.X
  have KT := G.T
  refine wpAny_call ?_
  refine enterC (news := []) [(Str.ofString "octets", .ref c)] KX KT.nolimit (fun _ _ e => e) (Nat.le_refl _) (fun _ h => nomatch h) (by k_dflt k_is) (by k_dflt k_is) r.lt (BindsTo.of_eq rfl) rfl (by decide) ?_ rfl rfl rfl
  intro L h₁ tk cells F N Y kp' hL
  obtain ⟨op, ob, rfl, hop, hob⟩ := CellsAre.two Y
  clear Y
  change op.data = .cell none at hop
  change ob.data = .cell none at hob
  dsimp only [List.append_nil] at N ⊢
  have hcl : s.heap.IsList c vs.toArray := ⟨_, hc, rfl, n, rfl⟩
  have hlen := hI.length
  ((repeat' (first | (k_here; (with_reducible show wpAny _ _ (getMethod (Value.ref _) (Str.ofString "_convert_string_type") _) _ _ _); refine meth_conv ‹Fr _ _ _ _› (by assumption) (Inst.keeps (by assumption) (Fr.keep ‹Fr _ _ _ _›)) ?_) | (k_here; (with_reducible show wpAny _ _ (getMethod (Value.ref _) (Str.ofString "keys") _) _ _ _); refine meth_keys ‹Fr _ _ _ _› (by assumption) (Inst.keeps (by assumption) (Fr.keep ‹Fr _ _ _ _›)) ?_) | (k_here; (with_reducible show wpAny _ _ (getMethod (Value.ref _) (Str.ofString "get") _) _ _ _); refine meth_get ‹Fr _ _ _ _› (by assumption) (Inst.keeps (by assumption) (Fr.keep ‹Fr _ _ _ _›)) ?_) | (k_here; (with_reducible show wpAny _ _ (getAttr (Value.ref _) (Str.ofString "_headers") _) _ _ _); refine hdr_get ‹Fr _ _ _ _› (by assumption) (Inst.keeps (by assumption) (Fr.keep ‹Fr _ _ _ _›)) ?_) | (k_here; (with_reducible show wpAny _ _ (call (Value.builtin "str.lower") [Value.str _ _]) _ _ _); refine lower_T (by assumption) ?_) | ((with_reducible show wpAny _ _ (call (Value.builtin "len") [Value.str (bS _) _]) _ _ _); refine lenB ?z ?_; (case z => ((try simp only [List.length_append, List.length_replicate, bitsLen, List.length_nil]); omega))) | (k_here; (with_reducible show wpAny _ _ (call (Value.builtin "len") [Value.ref _]) _ _ _); with_unfolding_all refine' len_strs ?k1 ?k2 ?k3 ?k4 ?_; (case k1 => assumption); (case k2 => k_mem); (case k3 => assumption); (case k4 => walk_at "mar")) | ((with_reducible show wpAny _ _ (binaryOp Operator.Add (Value.str (bS _) _) (Value.str (bS _) _)) _ _ _); refine addB ?z ?_; (case z => ((try simp only [List.length_append, List.length_replicate, bitsLen, List.length_nil]); omega)); intro _ _) | ((with_reducible show wpAny _ _ (inplaceOp Operator.Add (Value.str (bS _) _) (Value.str (bS _) _)) _ _ _); refine iaddB ?z ?_; (case z => ((try simp only [List.length_append, List.length_replicate, bitsLen, List.length_nil]); omega)); intro _ _) | ((with_reducible show wpAny _ _ (binaryOp Operator.Mult (Value.str (Str.ofString "0") _) (Value.int _ _)) _ _ _); refine mulB ?y ?z ?_; (case y => omega); (case z => omega); intro _ _) | (k_here; (with_reducible show wpAny _ _ (loadName _ _) _ _ _); refine' load_cell ?N ?c ?m ?d ?_ ?a ?b; (case c => rfl); (case a => rfl); (case b => rfl); (case N => assumption); (case m => k_mem); (case d => assumption)) | (with_reducible refine modP ?k1 ?_; (case k1 => decide)) | walk_at "mstep")); (all_goals (try dsimp only)))
  refine new0 w G (Room.deeper (r.less (by decide : 4 ≤ 8))) F N (fun t d hl hsh tke h' tk F' N' ap n1 n2 n3 T => ?_)
  clear F N T
  have ap11 : @Ne Addr (L + 1 + 1) t := (ap (L + 1 + 1, op) (.head _)).1
  have ap12 : @Ne Addr (L + 1 + 1) d := (ap (L + 1 + 1, op) (.head _)).2.1
  have ap13 : @Ne Addr (L + 1 + 1) hl := (ap (L + 1 + 1, op) (.head _)).2.2
  have ap21 : @Ne Addr (L + 1) t := (ap (L + 1, ob) (.tail _ (.head _))).1
  have ap22 : @Ne Addr (L + 1) d := (ap (L + 1, ob) (.tail _ (.head _))).2.1
  have ap23 : @Ne Addr (L + 1) hl := (ap (L + 1, ob) (.tail _ (.head _))).2.2
  have n1' : @Ne Addr t hl := n1
  have n2' : @Ne Addr d hl := n2
  have n3' : @Ne Addr d t := n3
  clear ap n1 n2 n3
  replace N' : News s.heap L h' [(t, instObj 236 d), (d, dictOf [⟨hsh, .str (Str.ofString "_headers") tke, .ref hl⟩] 1), (hl, listOf #[] 0), (L + 1 + 1, op), (L + 1, ob)] := N'
  ((repeat' (first | (k_here; (with_reducible show wpAny _ _ (getMethod (Value.ref _) (Str.ofString "_convert_string_type") _) _ _ _); refine meth_conv ‹Fr _ _ _ _› (by assumption) (Inst.keeps (by assumption) (Fr.keep ‹Fr _ _ _ _›)) ?_) | (k_here; (with_reducible show wpAny _ _ (getMethod (Value.ref _) (Str.ofString "keys") _) _ _ _); refine meth_keys ‹Fr _ _ _ _› (by assumption) (Inst.keeps (by assumption) (Fr.keep ‹Fr _ _ _ _›)) ?_) | (k_here; (with_reducible show wpAny _ _ (getMethod (Value.ref _) (Str.ofString "get") _) _ _ _); refine meth_get ‹Fr _ _ _ _› (by assumption) (Inst.keeps (by assumption) (Fr.keep ‹Fr _ _ _ _›)) ?_) | (k_here; (with_reducible show wpAny _ _ (getAttr (Value.ref _) (Str.ofString "_headers") _) _ _ _); refine hdr_get ‹Fr _ _ _ _› (by assumption) (Inst.keeps (by assumption) (Fr.keep ‹Fr _ _ _ _›)) ?_) | (k_here; (with_reducible show wpAny _ _ (call (Value.builtin "str.lower") [Value.str _ _]) _ _ _); refine lower_T (by assumption) ?_) | ((with_reducible show wpAny _ _ (call (Value.builtin "len") [Value.str (bS _) _]) _ _ _); refine lenB ?z ?_; (case z => ((try simp only [List.length_append, List.length_replicate, bitsLen, List.length_nil]); omega))) | (k_here; (with_reducible show wpAny _ _ (call (Value.builtin "len") [Value.ref _]) _ _ _); with_unfolding_all refine' len_strs ?k1 ?k2 ?k3 ?k4 ?_; (case k1 => assumption); (case k2 => k_mem); (case k3 => assumption); (case k4 => walk_at "mar")) | ((with_reducible show wpAny _ _ (binaryOp Operator.Add (Value.str (bS _) _) (Value.str (bS _) _)) _ _ _); refine addB ?z ?_; (case z => ((try simp only [List.length_append, List.length_replicate, bitsLen, List.length_nil]); omega)); intro _ _) | ((with_reducible show wpAny _ _ (inplaceOp Operator.Add (Value.str (bS _) _) (Value.str (bS _) _)) _ _ _); refine iaddB ?z ?_; (case z => ((try simp only [List.length_append, List.length_replicate, bitsLen, List.length_nil]); omega)); intro _ _) | ((with_reducible show wpAny _ _ (binaryOp Operator.Mult (Value.str (Str.ofString "0") _) (Value.int _ _)) _ _ _); refine mulB ?y ?z ?_; (case y => omega); (case z => omega); intro _ _) | (k_here; (with_reducible show wpAny _ _ (loadName _ _) _ _ _); refine' load_cell ?N ?c ?m ?d ?_ ?a ?b; (case c => rfl); (case a => rfl); (case b => rfl); (case N => assumption); (case m => k_mem); (case d => assumption)) | (with_reducible refine modP ?k1 ?_; (case k1 => decide)) | walk_at "mstep")); (all_goals (try dsimp only)))
  rename Fr _ _ _ _ => F
  rename News _ _ _ _ => N
  rename Obj.data _ = Data.cell (some _) => hob
  rename_i P _ l1 _ _ _ _
  refine For_invV s.heap rfl rfl ?_ (hE := PassesOwn.never)
  ((repeat' (first | (k_here; (with_reducible show wpAny _ _ (getMethod (Value.ref _) (Str.ofString "_convert_string_type") _) _ _ _); refine meth_conv ‹Fr _ _ _ _› (by assumption) (Inst.keeps (by assumption) (Fr.keep ‹Fr _ _ _ _›)) ?_) | (k_here; (with_reducible show wpAny _ _ (getMethod (Value.ref _) (Str.ofString "keys") _) _ _ _); refine meth_keys ‹Fr _ _ _ _› (by assumption) (Inst.keeps (by assumption) (Fr.keep ‹Fr _ _ _ _›)) ?_) | (k_here; (with_reducible show wpAny _ _ (getMethod (Value.ref _) (Str.ofString "get") _) _ _ _); refine meth_get ‹Fr _ _ _ _› (by assumption) (Inst.keeps (by assumption) (Fr.keep ‹Fr _ _ _ _›)) ?_) | (k_here; (with_reducible show wpAny _ _ (getAttr (Value.ref _) (Str.ofString "_headers") _) _ _ _); refine hdr_get ‹Fr _ _ _ _› (by assumption) (Inst.keeps (by assumption) (Fr.keep ‹Fr _ _ _ _›)) ?_) | (k_here; (with_reducible show wpAny _ _ (call (Value.builtin "str.lower") [Value.str _ _]) _ _ _); refine lower_T (by assumption) ?_) | ((with_reducible show wpAny _ _ (call (Value.builtin "len") [Value.str (bS _) _]) _ _ _); refine lenB ?z ?_; (case z => ((try simp only [List.length_append, List.length_replicate, bitsLen, List.length_nil]); omega))) | (k_here; (with_reducible show wpAny _ _ (call (Value.builtin "len") [Value.ref _]) _ _ _); with_unfolding_all refine' len_strs ?k1 ?k2 ?k3 ?k4 ?_; (case k1 => assumption); (case k2 => k_mem); (case k3 => assumption); (case k4 => walk_at "mar")) | ((with_reducible show wpAny _ _ (binaryOp Operator.Add (Value.str (bS _) _) (Value.str (bS _) _)) _ _ _); refine addB ?z ?_; (case z => ((try simp only [List.length_append, List.length_replicate, bitsLen, List.length_nil]); omega)); intro _ _) | ((with_reducible show wpAny _ _ (inplaceOp Operator.Add (Value.str (bS _) _) (Value.str (bS _) _)) _ _ _); refine iaddB ?z ?_; (case z => ((try simp only [List.length_append, List.length_replicate, bitsLen, List.length_nil]); omega)); intro _ _) | ((with_reducible show wpAny _ _ (binaryOp Operator.Mult (Value.str (Str.ofString "0") _) (Value.int _ _)) _ _ _); refine mulB ?y ?z ?_; (case y => omega); (case z => omega); intro _ _) | (k_here; (with_reducible show wpAny _ _ (loadName _ _) _ _ _); refine' load_cell ?N ?c ?m ?d ?_ ?a ?b; (case c => rfl); (case a => rfl); (case b => rfl); (case N => assumption); (case m => k_mem); (case d => assumption)) | (with_reducible refine modP ?k1 ?_; (case k1 => decide)) | walk_at "mstep")); (all_goals (try dsimp only)))
  refine loopL hcl (Room.deeper (r.less (by decide : 4 ≤ 8))).hd F N (SentJ os L t d hl P hsh tke) ?h0 ?turn ?done
  case h0 => exact ⟨_, _, _, _, [], _, _, [], _, [], [], rfl, .cons rfl (.cons rfl .nil), hob, hop, .nil, .nil, (fun _ h => nomatch h), Nat.le_refl _, Nat.le_refl _, rfl, rfl⟩
  case done =>
    clear F N hob hop
    rintro h tk m' news' ⟨pv, np, ob, op, tups, nl, vo, bits, tb, places, tab, rfl, hm, hob, hop, hpv, hrow, htab, htl, hbl, hpl, hsent⟩ F N
    obtain ⟨u, rfl⟩ := hm.open
    have sub0 : ∀ p ∈ tups, p ∈ ((P, listOf pv np) :: (t, instObj 236 d) :: (d, dictOf [⟨hsh, .str (Str.ofString "_headers") tke, .ref hl⟩] 1) :: (hl, listOf (refsOf tups) nl) :: (L + 1 + 1, op) :: (L + 1, ob) :: tups) := fun p hp => .tail _ (.tail _ (.tail _ (.tail _ (.tail _ (.tail _ hp)))))
    have a1 := tail_ne0 N (.tail _ (.tail _ (.tail _ (.tail _ (.tail _ (.head _)))))) sub0 hrow (.inr ⟨_, hob⟩)
    have hvz : vs.toArray.size = os.length := by simpa using hlen
    rw [hvz] at htl hbl hpl hsent
    have hdz : os.drop os.length = [] := List.drop_length
    rw [hdz] at hsent
    have hs1 : places = (sentF os []).1 := by rw [← hsent]; simp [sentF]
    have hs2 : bits = (sentF os []).2 := by rw [← hsent]; simp [sentF]
    have hb0 : (bS bits).length = bits.length := bS_len _
    ((repeat' (first | (k_here; (with_reducible show wpAny _ _ (getMethod (Value.ref _) (Str.ofString "_convert_string_type") _) _ _ _); refine meth_conv ‹Fr _ _ _ _› (by assumption) (Inst.keeps (by assumption) (Fr.keep ‹Fr _ _ _ _›)) ?_) | (k_here; (with_reducible show wpAny _ _ (getMethod (Value.ref _) (Str.ofString "keys") _) _ _ _); refine meth_keys ‹Fr _ _ _ _› (by assumption) (Inst.keeps (by assumption) (Fr.keep ‹Fr _ _ _ _›)) ?_) | (k_here; (with_reducible show wpAny _ _ (getMethod (Value.ref _) (Str.ofString "get") _) _ _ _); refine meth_get ‹Fr _ _ _ _› (by assumption) (Inst.keeps (by assumption) (Fr.keep ‹Fr _ _ _ _›)) ?_) | (k_here; (with_reducible show wpAny _ _ (getAttr (Value.ref _) (Str.ofString "_headers") _) _ _ _); refine hdr_get ‹Fr _ _ _ _› (by assumption) (Inst.keeps (by assumption) (Fr.keep ‹Fr _ _ _ _›)) ?_) | (k_here; (with_reducible show wpAny _ _ (call (Value.builtin "str.lower") [Value.str _ _]) _ _ _); refine lower_T (by assumption) ?_) | ((with_reducible show wpAny _ _ (call (Value.builtin "len") [Value.str (bS _) _]) _ _ _); refine lenB ?z ?_; (case z => ((try simp only [List.length_append, List.length_replicate, bitsLen, List.length_nil]); omega))) | (k_here; (with_reducible show wpAny _ _ (call (Value.builtin "len") [Value.ref _]) _ _ _); with_unfolding_all refine' len_strs ?k1 ?k2 ?k3 ?k4 ?_; (case k1 => assumption); (case k2 => k_mem); (case k3 => assumption); (case k4 => walk_at "mar")) | ((with_reducible show wpAny _ _ (binaryOp Operator.Add (Value.str (bS _) _) (Value.str (bS _) _)) _ _ _); refine addB ?z ?_; (case z => ((try simp only [List.length_append, List.length_replicate, bitsLen, List.length_nil]); omega)); intro _ _) | ((with_reducible show wpAny _ _ (inplaceOp Operator.Add (Value.str (bS _) _) (Value.str (bS _) _)) _ _ _); refine iaddB ?z ?_; (case z => ((try simp only [List.length_append, List.length_replicate, bitsLen, List.length_nil]); omega)); intro _ _) | ((with_reducible show wpAny _ _ (binaryOp Operator.Mult (Value.str (Str.ofString "0") _) (Value.int _ _)) _ _ _); refine mulB ?y ?z ?_; (case y => omega); (case z => omega); intro _ _) | (k_here; (with_reducible show wpAny _ _ (loadName _ _) _ _ _); refine' load_cell ?N ?c ?m ?d ?_ ?a ?b; (case c => rfl); (case a => rfl); (case b => rfl); (case N => assumption); (case m => k_mem); (case d => assumption)) | (with_reducible refine modP ?k1 ?_; (case k1 => decide)) | walk_at "mstep")); (all_goals (try dsimp only)))
    rename Fr _ _ _ _ => F
    rename News _ _ _ _ => N
    rename Obj.data _ = Data.cell (some (Value.str (bS (_ ++ _)) _)) => hob2
    rename_i tb2 _ _ ob2
    have hpad : (bits ++ List.replicate (-(bits.length : Int) % 8).toNat false).length % 8 = 0 := by
      rw [List.length_append, List.length_replicate]; omega
    have hpl2 : (bits ++ List.replicate (-(bits.length : Int) % 8).toNat false).length ≤ 648 := by
      rw [List.length_append, List.length_replicate]; omega
    revert hob2 hpad hpl2
    refine gen_at (bits ++ List.replicate (-(bits.length : Int) % 8).toNat false) ?_
    intro bb hbb hob2 hpad hpl2
    refine comp_eval (cl := [(Str.ofString "bits", L + 1)]) (fun _ => true) (fun v y => ∃ k : Nat, IsI (8 * k : Nat) v ∧ IsI (numL ((bb.drop (8 * k)).take 8)) y) (by rfl) (by decide) rfl (by decide) rfl ?_
    ((repeat' (first | (k_here; (with_reducible show wpAny _ _ (getMethod (Value.ref _) (Str.ofString "_convert_string_type") _) _ _ _); refine meth_conv ‹Fr _ _ _ _› (by assumption) (Inst.keeps (by assumption) (Fr.keep ‹Fr _ _ _ _›)) ?_) | (k_here; (with_reducible show wpAny _ _ (getMethod (Value.ref _) (Str.ofString "keys") _) _ _ _); refine meth_keys ‹Fr _ _ _ _› (by assumption) (Inst.keeps (by assumption) (Fr.keep ‹Fr _ _ _ _›)) ?_) | (k_here; (with_reducible show wpAny _ _ (getMethod (Value.ref _) (Str.ofString "get") _) _ _ _); refine meth_get ‹Fr _ _ _ _› (by assumption) (Inst.keeps (by assumption) (Fr.keep ‹Fr _ _ _ _›)) ?_) | (k_here; (with_reducible show wpAny _ _ (getAttr (Value.ref _) (Str.ofString "_headers") _) _ _ _); refine hdr_get ‹Fr _ _ _ _› (by assumption) (Inst.keeps (by assumption) (Fr.keep ‹Fr _ _ _ _›)) ?_) | (k_here; (with_reducible show wpAny _ _ (call (Value.builtin "str.lower") [Value.str _ _]) _ _ _); refine lower_T (by assumption) ?_) | ((with_reducible show wpAny _ _ (call (Value.builtin "len") [Value.str (bS _) _]) _ _ _); refine lenB ?z ?_; (case z => ((try simp only [List.length_append, List.length_replicate, bitsLen, List.length_nil]); omega))) | (k_here; (with_reducible show wpAny _ _ (call (Value.builtin "len") [Value.ref _]) _ _ _); with_unfolding_all refine' len_strs ?k1 ?k2 ?k3 ?k4 ?_; (case k1 => assumption); (case k2 => k_mem); (case k3 => assumption); (case k4 => walk_at "mar")) | ((with_reducible show wpAny _ _ (binaryOp Operator.Add (Value.str (bS _) _) (Value.str (bS _) _)) _ _ _); refine addB ?z ?_; (case z => ((try simp only [List.length_append, List.length_replicate, bitsLen, List.length_nil]); omega)); intro _ _) | ((with_reducible show wpAny _ _ (inplaceOp Operator.Add (Value.str (bS _) _) (Value.str (bS _) _)) _ _ _); refine iaddB ?z ?_; (case z => ((try simp only [List.length_append, List.length_replicate, bitsLen, List.length_nil]); omega)); intro _ _) | ((with_reducible show wpAny _ _ (binaryOp Operator.Mult (Value.str (Str.ofString "0") _) (Value.int _ _)) _ _ _); refine mulB ?y ?z ?_; (case y => omega); (case z => omega); intro _ _) | (k_here; (with_reducible show wpAny _ _ (loadName _ _) _ _ _); refine' load_cell ?N ?c ?m ?d ?_ ?a ?b; (case c => rfl); (case a => rfl); (case b => rfl); (case N => assumption); (case m => k_mem); (case d => assumption)) | (with_reducible refine modP ?k1 ?_; (case k1 => decide)) | walk_at "mstep")); (all_goals (try dsimp only)))
    rename Fr _ _ _ _ => F
    rename News _ _ _ _ => N
    rename IsRange _ _ _ _ _ _ _ _ => hr
    have hcell : Heap.IsCell _ (L + 1) (some (.str (bS bb) _)) := ⟨ob2, (N (L + 1, ob2) (.tail _ (.tail _ (.tail _ (.tail _ (.tail _ (.head _))))))).1, hob2⟩
    have G2 := G.keeps F.keep
    have hrs : Builtin.Range.rangeSize 0 (bb.length : Int) 8 = ((bb.length / 8 : Nat) : Int) := by
      unfold Builtin.Range.rangeSize
      rw [if_pos (by decide)]
      split <;> omega
    refine comp_range (n := bb.length / 8) (Room.deeper (r.less (by decide : 2 ≤ 8))).hd hr (small_n hrs (Nat.le_trans hpl2 (by decide)) (by decide) (Nat.le_trans (Nat.div_le_self _ _) (Nat.le_trans hpl2 (by decide)))) hrs (by rw [sizeLine_eq]; omega) ⟨?tests, ?elt⟩ ?_
    case tests => intro C i v s₃ m₃ E' _ _ _ _; exact wpAny_tests_nil ⟨rfl, Keeps.refl _⟩
    case elt =>
      rintro C j v s₃ m₃ E' ⟨hj, t, rfl⟩ hp3 hn3 hm3 kp3
      have hcell3 := hcell.keeps kp3
      have G3 := G2.keeps kp3
      have KX3 := G3.X
      have KT3 := G3.T
      have k3' : ∀ b o, s₃.heap.get? b = some o → s₃.heap.get? b = some o := fun _ _ e => e
      clear F N kp3 hcell KX KT G2 hr
      ((repeat' (first | (k_here; (with_reducible show wpAny _ _ (getMethod (Value.ref _) (Str.ofString "_convert_string_type") _) _ _ _); refine meth_conv ‹Fr _ _ _ _› (by assumption) (Inst.keeps (by assumption) (Fr.keep ‹Fr _ _ _ _›)) ?_) | (k_here; (with_reducible show wpAny _ _ (getMethod (Value.ref _) (Str.ofString "keys") _) _ _ _); refine meth_keys ‹Fr _ _ _ _› (by assumption) (Inst.keeps (by assumption) (Fr.keep ‹Fr _ _ _ _›)) ?_) | (k_here; (with_reducible show wpAny _ _ (getMethod (Value.ref _) (Str.ofString "get") _) _ _ _); refine meth_get ‹Fr _ _ _ _› (by assumption) (Inst.keeps (by assumption) (Fr.keep ‹Fr _ _ _ _›)) ?_) | (k_here; (with_reducible show wpAny _ _ (getAttr (Value.ref _) (Str.ofString "_headers") _) _ _ _); refine hdr_get ‹Fr _ _ _ _› (by assumption) (Inst.keeps (by assumption) (Fr.keep ‹Fr _ _ _ _›)) ?_) | (k_here; (with_reducible show wpAny _ _ (call (Value.builtin "str.lower") [Value.str _ _]) _ _ _); refine lower_T (by assumption) ?_) | ((with_reducible show wpAny _ _ (call (Value.builtin "len") [Value.str (bS _) _]) _ _ _); refine lenB ?z ?_; (case z => ((try simp only [List.length_append, List.length_replicate, bitsLen, List.length_nil]); omega))) | (k_here; (with_reducible show wpAny _ _ (call (Value.builtin "len") [Value.ref _]) _ _ _); with_unfolding_all refine' len_strs ?k1 ?k2 ?k3 ?k4 ?_; (case k1 => assumption); (case k2 => k_mem); (case k3 => assumption); (case k4 => walk_at "mar")) | ((with_reducible show wpAny _ _ (binaryOp Operator.Add (Value.str (bS _) _) (Value.str (bS _) _)) _ _ _); refine addB ?z ?_; (case z => ((try simp only [List.length_append, List.length_replicate, bitsLen, List.length_nil]); omega)); intro _ _) | ((with_reducible show wpAny _ _ (inplaceOp Operator.Add (Value.str (bS _) _) (Value.str (bS _) _)) _ _ _); refine iaddB ?z ?_; (case z => ((try simp only [List.length_append, List.length_replicate, bitsLen, List.length_nil]); omega)); intro _ _) | ((with_reducible show wpAny _ _ (binaryOp Operator.Mult (Value.str (Str.ofString "0") _) (Value.int _ _)) _ _ _); refine mulB ?y ?z ?_; (case y => omega); (case z => omega); intro _ _) | (k_here; (with_reducible show wpAny _ _ (loadName _ _) _ _ _); refine' load_cell ?N ?c ?m ?d ?_ ?a ?b; (case c => rfl); (case a => rfl); (case b => rfl); (case N => assumption); (case m => k_mem); (case d => assumption)) | (with_reducible refine modP ?k1 ?_; (case k1 => decide)) | walk_at "mstep")); (all_goals (try dsimp only)))
      refine sliceB (s := { s₃ with toks := s₃.toks + 1 + 1 }) (i := 0 + (j : Int) * 8) (j := 0 + (j : Int) * 8 + 8) (by omega) (by omega) (by omega) (by omega) (fun t' k => ?_)
      have e8 : (0 + (j : Int) * 8 + 8 - (0 + (j : Int) * 8)).toNat = 8 := by omega
      have e0 : (0 + (j : Int) * 8).toNat = 8 * j := by omega
      rw [e8, e0]
      have kpu : ∀ b o, s₃.heap.get? b = some o → (s₃.heap.push { cls := .type "slice", data := .fields #[.int (0 + (j : Int) * 8) t, .int (0 + (j : Int) * 8 + 8) (s₃.toks + 1), .none] }).get? b = some o := fun b o e => Heap.get?_push_of_some _ e
      have KX4 := (G3.keeps kpu).X
      have KT4 := (G3.keeps kpu).T
      repeat' (first | (refine ⟨KX4, ?_⟩) | (walk_at "mguard"; walk1))
      try dsimp only
      refine use (number_spec w (G3.keeps kpu) (Room.deeper (r.less (by decide : 3 ≤ 8))) ((bb.drop (8 * j)).take 8) (by rw [List.length_take]; omega) _ _) fun y h4 tk4 k4 hy => ?_
      exact ⟨⟨j, IsI.of (by omega), hy⟩, ⟨h4, tk4, rfl, fun b o e => k4 b o (kpu b o e)⟩⟩
    intro D h' tk' ys n' vs' hD hD' hlen8 hvs8 hF hk
    rw [filter_true] at hF
    obtain ⟨F', N', hDn⟩ := addNew F N hk hD hD'
    clear F N
    have hYI : IntsAre ys.toList ((List.range (bb.length / 8)).map fun j => numL ((bb.drop (8 * j)).take 8)) := by
      have := paired_ints (f := fun j => numL ((bb.drop (8 * j)).take 8)) hF (by
        rintro j v y hj ⟨k, ⟨t, rfl⟩, hy⟩
        obtain ⟨t', e⟩ := hvs8 j _ hj
        have ek : k = j := by have := (Value.int.inj e).1; omega
        rw [ek] at hy
        exact hy)
      rw [hlen8] at this
      exact this
    have hnum : ∀ x ∈ (List.range (bb.length / 8)).map (fun j => numL ((bb.drop (8 * j)).take 8)), 0 ≤ x ∧ x < 256 := by
      intro x hx
      obtain ⟨j, hj, rfl⟩ := List.mem_map.mp hx
      have := numL_bd ((bb.drop (8 * j)).take 8)
      rw [List.length_take, List.length_drop, Nat.min_eq_left (by have := List.mem_range.mp hj; omega)] at this
      exact this
    have hbne : 0 < bb.length := by
      rw [← hbb, hs2, List.length_append]
      have := sent_pos hpos
      omega
    have hback : byteBits ((List.range (bb.length / 8)).map fun j => numL ((bb.drop (8 * j)).take 8)) = bb := chunks_back _ _ (by omega)
    have hnl : ((List.range (bb.length / 8)).map fun j => numL ((bb.drop (8 * j)).take 8)).length = bb.length / 8 := by simp
    revert hYI hnum hback hnl
    refine gen_at ((List.range (bb.length / 8)).map (fun j => numL ((bb.drop (8 * j)).take 8))) ?_
    intro bs _ hYI hnum hback hnl
    obtain ⟨ys⟩ := ys
    ((repeat' (first | (k_here; (with_reducible show wpAny _ _ (getMethod (Value.ref _) (Str.ofString "_convert_string_type") _) _ _ _); refine meth_conv ‹Fr _ _ _ _› (by assumption) (Inst.keeps (by assumption) (Fr.keep ‹Fr _ _ _ _›)) ?_) | (k_here; (with_reducible show wpAny _ _ (getMethod (Value.ref _) (Str.ofString "keys") _) _ _ _); refine meth_keys ‹Fr _ _ _ _› (by assumption) (Inst.keeps (by assumption) (Fr.keep ‹Fr _ _ _ _›)) ?_) | (k_here; (with_reducible show wpAny _ _ (getMethod (Value.ref _) (Str.ofString "get") _) _ _ _); refine meth_get ‹Fr _ _ _ _› (by assumption) (Inst.keeps (by assumption) (Fr.keep ‹Fr _ _ _ _›)) ?_) | (k_here; (with_reducible show wpAny _ _ (getAttr (Value.ref _) (Str.ofString "_headers") _) _ _ _); refine hdr_get ‹Fr _ _ _ _› (by assumption) (Inst.keeps (by assumption) (Fr.keep ‹Fr _ _ _ _›)) ?_) | (k_here; (with_reducible show wpAny _ _ (call (Value.builtin "str.lower") [Value.str _ _]) _ _ _); refine lower_T (by assumption) ?_) | ((with_reducible show wpAny _ _ (call (Value.builtin "len") [Value.str (bS _) _]) _ _ _); refine lenB ?z ?_; (case z => ((try simp only [List.length_append, List.length_replicate, bitsLen, List.length_nil]); omega))) | (k_here; (with_reducible show wpAny _ _ (call (Value.builtin "len") [Value.ref _]) _ _ _); with_unfolding_all refine' len_strs ?k1 ?k2 ?k3 ?k4 ?_; (case k1 => assumption); (case k2 => k_mem); (case k3 => assumption); (case k4 => walk_at "mar")) | ((with_reducible show wpAny _ _ (binaryOp Operator.Add (Value.str (bS _) _) (Value.str (bS _) _)) _ _ _); refine addB ?z ?_; (case z => ((try simp only [List.length_append, List.length_replicate, bitsLen, List.length_nil]); omega)); intro _ _) | ((with_reducible show wpAny _ _ (inplaceOp Operator.Add (Value.str (bS _) _) (Value.str (bS _) _)) _ _ _); refine iaddB ?z ?_; (case z => ((try simp only [List.length_append, List.length_replicate, bitsLen, List.length_nil]); omega)); intro _ _) | ((with_reducible show wpAny _ _ (binaryOp Operator.Mult (Value.str (Str.ofString "0") _) (Value.int _ _)) _ _ _); refine mulB ?y ?z ?_; (case y => omega); (case z => omega); intro _ _) | (k_here; (with_reducible show wpAny _ _ (loadName _ _) _ _ _); refine' load_cell ?N ?c ?m ?d ?_ ?a ?b; (case c => rfl); (case a => rfl); (case b => rfl); (case N => assumption); (case m => k_mem); (case d => assumption)) | (with_reducible refine modP ?k1 ?_; (case k1 => decide)) | walk_at "mstep")); (all_goals (try dsimp only)))
    rename Fr _ _ _ _ => F
    rename News _ _ _ _ => N
    refine KBa.make_K (vs := ys) (ns := bs) F N (Room.deeper (r.less (by decide : 2 ≤ 8))).hd (News.isList N (.head _)) hYI hnum (by omega) (fun h' t' k' F' N' _ => ?_)
    clear F N
    ((repeat' (first | (k_here; (with_reducible show wpAny _ _ (getMethod (Value.ref _) (Str.ofString "_convert_string_type") _) _ _ _); refine meth_conv ‹Fr _ _ _ _› (by assumption) (Inst.keeps (by assumption) (Fr.keep ‹Fr _ _ _ _›)) ?_) | (k_here; (with_reducible show wpAny _ _ (getMethod (Value.ref _) (Str.ofString "keys") _) _ _ _); refine meth_keys ‹Fr _ _ _ _› (by assumption) (Inst.keeps (by assumption) (Fr.keep ‹Fr _ _ _ _›)) ?_) | (k_here; (with_reducible show wpAny _ _ (getMethod (Value.ref _) (Str.ofString "get") _) _ _ _); refine meth_get ‹Fr _ _ _ _› (by assumption) (Inst.keeps (by assumption) (Fr.keep ‹Fr _ _ _ _›)) ?_) | (k_here; (with_reducible show wpAny _ _ (getAttr (Value.ref _) (Str.ofString "_headers") _) _ _ _); refine hdr_get ‹Fr _ _ _ _› (by assumption) (Inst.keeps (by assumption) (Fr.keep ‹Fr _ _ _ _›)) ?_) | (k_here; (with_reducible show wpAny _ _ (call (Value.builtin "str.lower") [Value.str _ _]) _ _ _); refine lower_T (by assumption) ?_) | ((with_reducible show wpAny _ _ (call (Value.builtin "len") [Value.str (bS _) _]) _ _ _); refine lenB ?z ?_; (case z => ((try simp only [List.length_append, List.length_replicate, bitsLen, List.length_nil]); omega))) | (k_here; (with_reducible show wpAny _ _ (call (Value.builtin "len") [Value.ref _]) _ _ _); with_unfolding_all refine' len_strs ?k1 ?k2 ?k3 ?k4 ?_; (case k1 => assumption); (case k2 => k_mem); (case k3 => assumption); (case k4 => walk_at "mar")) | ((with_reducible show wpAny _ _ (binaryOp Operator.Add (Value.str (bS _) _) (Value.str (bS _) _)) _ _ _); refine addB ?z ?_; (case z => ((try simp only [List.length_append, List.length_replicate, bitsLen, List.length_nil]); omega)); intro _ _) | ((with_reducible show wpAny _ _ (inplaceOp Operator.Add (Value.str (bS _) _) (Value.str (bS _) _)) _ _ _); refine iaddB ?z ?_; (case z => ((try simp only [List.length_append, List.length_replicate, bitsLen, List.length_nil]); omega)); intro _ _) | ((with_reducible show wpAny _ _ (binaryOp Operator.Mult (Value.str (Str.ofString "0") _) (Value.int _ _)) _ _ _); refine mulB ?y ?z ?_; (case y => omega); (case z => omega); intro _ _) | (k_here; (with_reducible show wpAny _ _ (loadName _ _) _ _ _); refine' load_cell ?N ?c ?m ?d ?_ ?a ?b; (case c => rfl); (case a => rfl); (case b => rfl); (case N => assumption); (case m => k_mem); (case d => assumption)) | (with_reducible refine modP ?k1 ?_; (case k1 => decide)) | walk_at "mstep")); (all_goals (try dsimp only)))
    rename Fr _ _ _ _ => F
    rename News _ _ _ _ => N
    refine use (b64encode_spec w (G.keeps F.keep) (Room.deeper (r.less (by decide : 4 ≤ 8))) bs hnum (by omega) _ _) fun y h2 tk2 k2 hq => ?_
    obtain ⟨gs, rem, t, hg, hrem, hfl, rfl⟩ := hq
    obtain ⟨F', N'⟩ := after0 F N k2
    clear F N k2
    rw [hback] at hfl
    have hgl : 0 < gs.length := by
      have hl := congrArg List.length hfl
      rw [List.length_append, flat6 _ hg] at hl
      omega
    have hol : (b64out gs rem).length ≤ 200 := by
      have hl := congrArg List.length hfl
      rw [List.length_append, flat6 _ hg] at hl
      unfold b64out
      rw [List.length_append, List.length_map]
      split
      · simp; omega
      · split
        · simp; omega
        · simp; omega
    ((repeat' (first | (k_here; (with_reducible show wpAny _ _ (getMethod (Value.ref _) (Str.ofString "_convert_string_type") _) _ _ _); refine meth_conv ‹Fr _ _ _ _› (by assumption) (Inst.keeps (by assumption) (Fr.keep ‹Fr _ _ _ _›)) ?_) | (k_here; (with_reducible show wpAny _ _ (getMethod (Value.ref _) (Str.ofString "keys") _) _ _ _); refine meth_keys ‹Fr _ _ _ _› (by assumption) (Inst.keeps (by assumption) (Fr.keep ‹Fr _ _ _ _›)) ?_) | (k_here; (with_reducible show wpAny _ _ (getMethod (Value.ref _) (Str.ofString "get") _) _ _ _); refine meth_get ‹Fr _ _ _ _› (by assumption) (Inst.keeps (by assumption) (Fr.keep ‹Fr _ _ _ _›)) ?_) | (k_here; (with_reducible show wpAny _ _ (getAttr (Value.ref _) (Str.ofString "_headers") _) _ _ _); refine hdr_get ‹Fr _ _ _ _› (by assumption) (Inst.keeps (by assumption) (Fr.keep ‹Fr _ _ _ _›)) ?_) | (k_here; (with_reducible show wpAny _ _ (call (Value.builtin "str.lower") [Value.str _ _]) _ _ _); refine lower_T (by assumption) ?_) | ((with_reducible show wpAny _ _ (call (Value.builtin "len") [Value.str (bS _) _]) _ _ _); refine lenB ?z ?_; (case z => ((try simp only [List.length_append, List.length_replicate, bitsLen, List.length_nil]); omega))) | (k_here; (with_reducible show wpAny _ _ (call (Value.builtin "len") [Value.ref _]) _ _ _); with_unfolding_all refine' len_strs ?k1 ?k2 ?k3 ?k4 ?_; (case k1 => assumption); (case k2 => k_mem); (case k3 => assumption); (case k4 => walk_at "mar")) | ((with_reducible show wpAny _ _ (binaryOp Operator.Add (Value.str (bS _) _) (Value.str (bS _) _)) _ _ _); refine addB ?z ?_; (case z => ((try simp only [List.length_append, List.length_replicate, bitsLen, List.length_nil]); omega)); intro _ _) | ((with_reducible show wpAny _ _ (inplaceOp Operator.Add (Value.str (bS _) _) (Value.str (bS _) _)) _ _ _); refine iaddB ?z ?_; (case z => ((try simp only [List.length_append, List.length_replicate, bitsLen, List.length_nil]); omega)); intro _ _) | ((with_reducible show wpAny _ _ (binaryOp Operator.Mult (Value.str (Str.ofString "0") _) (Value.int _ _)) _ _ _); refine mulB ?y ?z ?_; (case y => omega); (case z => omega); intro _ _) | (k_here; (with_reducible show wpAny _ _ (loadName _ _) _ _ _); refine' load_cell ?N ?c ?m ?d ?_ ?a ?b; (case c => rfl); (case a => rfl); (case b => rfl); (case N => assumption); (case m => k_mem); (case d => assumption)) | (with_reducible refine modP ?k1 ?_; (case k1 => decide)) | walk_at "mstep")); (all_goals (try dsimp only)))
    refine dec_b64 (fun e => ?_) (b64out_ascii _ _) (by omega) (fun t' k => ?_)
    · have := congrArg List.length e
      unfold b64out at this
      rw [List.length_append, List.length_map, List.length_nil] at this
      omega
    ((repeat' (first | (k_here; (with_reducible show wpAny _ _ (getMethod (Value.ref _) (Str.ofString "_convert_string_type") _) _ _ _); refine meth_conv ‹Fr _ _ _ _› (by assumption) (Inst.keeps (by assumption) (Fr.keep ‹Fr _ _ _ _›)) ?_) | (k_here; (with_reducible show wpAny _ _ (getMethod (Value.ref _) (Str.ofString "keys") _) _ _ _); refine meth_keys ‹Fr _ _ _ _› (by assumption) (Inst.keeps (by assumption) (Fr.keep ‹Fr _ _ _ _›)) ?_) | (k_here; (with_reducible show wpAny _ _ (getMethod (Value.ref _) (Str.ofString "get") _) _ _ _); refine meth_get ‹Fr _ _ _ _› (by assumption) (Inst.keeps (by assumption) (Fr.keep ‹Fr _ _ _ _›)) ?_) | (k_here; (with_reducible show wpAny _ _ (getAttr (Value.ref _) (Str.ofString "_headers") _) _ _ _); refine hdr_get ‹Fr _ _ _ _› (by assumption) (Inst.keeps (by assumption) (Fr.keep ‹Fr _ _ _ _›)) ?_) | (k_here; (with_reducible show wpAny _ _ (call (Value.builtin "str.lower") [Value.str _ _]) _ _ _); refine lower_T (by assumption) ?_) | ((with_reducible show wpAny _ _ (call (Value.builtin "len") [Value.str (bS _) _]) _ _ _); refine lenB ?z ?_; (case z => ((try simp only [List.length_append, List.length_replicate, bitsLen, List.length_nil]); omega))) | (k_here; (with_reducible show wpAny _ _ (call (Value.builtin "len") [Value.ref _]) _ _ _); with_unfolding_all refine' len_strs ?k1 ?k2 ?k3 ?k4 ?_; (case k1 => assumption); (case k2 => k_mem); (case k3 => assumption); (case k4 => walk_at "mar")) | ((with_reducible show wpAny _ _ (binaryOp Operator.Add (Value.str (bS _) _) (Value.str (bS _) _)) _ _ _); refine addB ?z ?_; (case z => ((try simp only [List.length_append, List.length_replicate, bitsLen, List.length_nil]); omega)); intro _ _) | ((with_reducible show wpAny _ _ (inplaceOp Operator.Add (Value.str (bS _) _) (Value.str (bS _) _)) _ _ _); refine iaddB ?z ?_; (case z => ((try simp only [List.length_append, List.length_replicate, bitsLen, List.length_nil]); omega)); intro _ _) | ((with_reducible show wpAny _ _ (binaryOp Operator.Mult (Value.str (Str.ofString "0") _) (Value.int _ _)) _ _ _); refine mulB ?y ?z ?_; (case y => omega); (case z => omega); intro _ _) | (k_here; (with_reducible show wpAny _ _ (loadName _ _) _ _ _); refine' load_cell ?N ?c ?m ?d ?_ ?a ?b; (case c => rfl); (case a => rfl); (case b => rfl); (case N => assumption); (case m => k_mem); (case d => assumption)) | (with_reducible refine modP ?k1 ?_; (case k1 => decide)) | walk_at "mstep")); (all_goals (try dsimp only)))
    rename Fr _ _ _ _ => F
    rename News _ _ _ _ => N
    subst hPost
    refine ⟨Keeps.of_fr F, _, P, pv, np, _, gs, rem, _, rfl, (N _ (.head _)).2.2, (N _ (.tail _ (.tail _ (.head _)))).2.2, ?_, (N _ (.head _)).1, (N _ (.tail _ (.tail _ (.head _)))).1, by rw [← hs1]; exact hpv, hg, hrem, by rw [hfl, ← hbb, hs2], by rw [hfl]; exact hpl2, by rw [hfl]; exact hpad⟩
    omega
  case turn =>
    clear F N hob hop
    intro i v m₁ news₁ h tk own I R0 hTE
    rintro hv ⟨pv, np, ob, op, tups, nl, vo, bits, tb, places, tab, rfl, hm, hob, hop, hpv, hrow, htab, htl, hbl, hpl, hsent⟩ hoff hown hIo F N
    obtain ⟨u, rfl⟩ := hm.open
    have hv' : vs[i]? = some v := by simpa using hv
    have hi : i < os.length := by rw [← hlen]; exact (List.getElem?_eq_some_iff.mp hv').1
    obtain ⟨o, ho⟩ : ∃ o, os[i]? = some o := ⟨_, List.getElem?_eq_getElem hi⟩
    obtain ⟨to, e⟩ := hI.get i o ho
    rw [e] at hv'
    cases hv'
    have hob' := hb o (List.mem_of_getElem? ho)
    have sub : ∀ p ∈ tups, p ∈ ((P, listOf pv np) :: (t, instObj 236 d) :: (d, dictOf [⟨hsh, .str (Str.ofString "_headers") tke, .ref hl⟩] 1) :: (hl, listOf (refsOf tups) nl) :: (L + 1 + 1, op) :: (L + 1, ob) :: (tups ++ own)) := fun p hp => by
      simp only [List.mem_cons, List.mem_append]; simp [hp]
    replace N : News s.heap L h ((P, listOf pv np) :: (t, instObj 236 d) :: (d, dictOf [⟨hsh, .str (Str.ofString "_headers") tke, .ref hl⟩] 1) :: (hl, listOf (refsOf tups) nl) :: (L + 1 + 1, op) :: (L + 1, ob) :: (tups ++ own)) := N
    have aP := tail_ne N (.head _) sub hrow (.inl (by simp)) hown (hoff _ (.head _))
    have at' := tail_ne N (.tail _ (.head _)) sub hrow (.inl (by simp)) hown (hoff _ (.tail _ (.head _)))
    have ad := tail_ne N (.tail _ (.tail _ (.head _))) sub hrow (.inl (by simp [dictOf])) hown (hoff _ (.tail _ (.tail _ (.head _))))
    have ah := tail_ne N (.tail _ (.tail _ (.tail _ (.head _)))) sub hrow (.inl (by simp)) hown (hoff _ (.tail _ (.tail _ (.tail _ (.head _)))))
    have a2 := tail_ne N (.tail _ (.tail _ (.tail _ (.tail _ (.head _))))) sub hrow (.inr ⟨_, hop⟩) hown (hoff _ (.tail _ (.tail _ (.tail _ (.tail _ (.head _))))))
    have a1 := tail_ne N (.tail _ (.tail _ (.tail _ (.tail _ (.tail _ (.head _)))))) sub hrow (.inr ⟨_, hob⟩) hown (hoff _ (.tail _ (.tail _ (.tail _ (.tail _ (.tail _ (.head _)))))))
    ((repeat' (first | (k_here; (with_reducible show wpAny _ _ (getMethod (Value.ref _) (Str.ofString "_convert_string_type") _) _ _ _); refine meth_conv ‹Fr _ _ _ _› (by assumption) (Inst.keeps (by assumption) (Fr.keep ‹Fr _ _ _ _›)) ?_) | (k_here; (with_reducible show wpAny _ _ (getMethod (Value.ref _) (Str.ofString "keys") _) _ _ _); refine meth_keys ‹Fr _ _ _ _› (by assumption) (Inst.keeps (by assumption) (Fr.keep ‹Fr _ _ _ _›)) ?_) | (k_here; (with_reducible show wpAny _ _ (getMethod (Value.ref _) (Str.ofString "get") _) _ _ _); refine meth_get ‹Fr _ _ _ _› (by assumption) (Inst.keeps (by assumption) (Fr.keep ‹Fr _ _ _ _›)) ?_) | (k_here; (with_reducible show wpAny _ _ (getAttr (Value.ref _) (Str.ofString "_headers") _) _ _ _); refine hdr_get ‹Fr _ _ _ _› (by assumption) (Inst.keeps (by assumption) (Fr.keep ‹Fr _ _ _ _›)) ?_) | (k_here; (with_reducible show wpAny _ _ (call (Value.builtin "str.lower") [Value.str _ _]) _ _ _); refine lower_T (by assumption) ?_) | ((with_reducible show wpAny _ _ (call (Value.builtin "len") [Value.str (bS _) _]) _ _ _); refine lenB ?z ?_; (case z => ((try simp only [List.length_append, List.length_replicate, bitsLen, List.length_nil]); omega))) | (k_here; (with_reducible show wpAny _ _ (call (Value.builtin "len") [Value.ref _]) _ _ _); with_unfolding_all refine' len_strs ?k1 ?k2 ?k3 ?k4 ?_; (case k1 => assumption); (case k2 => k_mem); (case k3 => assumption); (case k4 => walk_at "mar")) | ((with_reducible show wpAny _ _ (binaryOp Operator.Add (Value.str (bS _) _) (Value.str (bS _) _)) _ _ _); refine addB ?z ?_; (case z => ((try simp only [List.length_append, List.length_replicate, bitsLen, List.length_nil]); omega)); intro _ _) | ((with_reducible show wpAny _ _ (inplaceOp Operator.Add (Value.str (bS _) _) (Value.str (bS _) _)) _ _ _); refine iaddB ?z ?_; (case z => ((try simp only [List.length_append, List.length_replicate, bitsLen, List.length_nil]); omega)); intro _ _) | ((with_reducible show wpAny _ _ (binaryOp Operator.Mult (Value.str (Str.ofString "0") _) (Value.int _ _)) _ _ _); refine mulB ?y ?z ?_; (case y => omega); (case z => omega); intro _ _) | (k_here; (with_reducible show wpAny _ _ (loadName _ _) _ _ _); refine' load_cell ?N ?c ?m ?d ?_ ?a ?b; (case c => rfl); (case a => rfl); (case b => rfl); (case N => assumption); (case m => k_mem); (case d => assumption)) | (with_reducible refine modP ?k1 ?_; (case k1 => decide)) | walk_at "mstep")); (all_goals (try dsimp only)))
    have hnm := nameF_tame hob'.1 hob'.2
    have hlr : tups.length = tab.length := by have := hrow.length; simpa using this
    have hrl : ∀ r ∈ tab.map (fun x => (x, askS)), TameS r.1 := fun r hr => by
      obtain ⟨x, hx, rfl⟩ := List.mem_map.mp hr; exact htab x hx
    refine use0 (name_spec w (G.keeps F.keep) (Room.deeper (r.less (by decide : 5 ≤ 8))) o hob'.1 hob'.2 _ _) F N fun tn h2 tk2 F' N' => ?_
    clear F N
    ((repeat' (first | (k_here; (with_reducible show wpAny _ _ (getMethod (Value.ref _) (Str.ofString "_convert_string_type") _) _ _ _); refine meth_conv ‹Fr _ _ _ _› (by assumption) (Inst.keeps (by assumption) (Fr.keep ‹Fr _ _ _ _›)) ?_) | (k_here; (with_reducible show wpAny _ _ (getMethod (Value.ref _) (Str.ofString "keys") _) _ _ _); refine meth_keys ‹Fr _ _ _ _› (by assumption) (Inst.keeps (by assumption) (Fr.keep ‹Fr _ _ _ _›)) ?_) | (k_here; (with_reducible show wpAny _ _ (getMethod (Value.ref _) (Str.ofString "get") _) _ _ _); refine meth_get ‹Fr _ _ _ _› (by assumption) (Inst.keeps (by assumption) (Fr.keep ‹Fr _ _ _ _›)) ?_) | (k_here; (with_reducible show wpAny _ _ (getAttr (Value.ref _) (Str.ofString "_headers") _) _ _ _); refine hdr_get ‹Fr _ _ _ _› (by assumption) (Inst.keeps (by assumption) (Fr.keep ‹Fr _ _ _ _›)) ?_) | (k_here; (with_reducible show wpAny _ _ (call (Value.builtin "str.lower") [Value.str _ _]) _ _ _); refine lower_T (by assumption) ?_) | ((with_reducible show wpAny _ _ (call (Value.builtin "len") [Value.str (bS _) _]) _ _ _); refine lenB ?z ?_; (case z => ((try simp only [List.length_append, List.length_replicate, bitsLen, List.length_nil]); omega))) | (k_here; (with_reducible show wpAny _ _ (call (Value.builtin "len") [Value.ref _]) _ _ _); with_unfolding_all refine' len_strs ?k1 ?k2 ?k3 ?k4 ?_; (case k1 => assumption); (case k2 => k_mem); (case k3 => assumption); (case k4 => walk_at "mar")) | ((with_reducible show wpAny _ _ (binaryOp Operator.Add (Value.str (bS _) _) (Value.str (bS _) _)) _ _ _); refine addB ?z ?_; (case z => ((try simp only [List.length_append, List.length_replicate, bitsLen, List.length_nil]); omega)); intro _ _) | ((with_reducible show wpAny _ _ (inplaceOp Operator.Add (Value.str (bS _) _) (Value.str (bS _) _)) _ _ _); refine iaddB ?z ?_; (case z => ((try simp only [List.length_append, List.length_replicate, bitsLen, List.length_nil]); omega)); intro _ _) | ((with_reducible show wpAny _ _ (binaryOp Operator.Mult (Value.str (Str.ofString "0") _) (Value.int _ _)) _ _ _); refine mulB ?y ?z ?_; (case y => omega); (case z => omega); intro _ _) | (k_here; (with_reducible show wpAny _ _ (loadName _ _) _ _ _); refine' load_cell ?N ?c ?m ?d ?_ ?a ?b; (case c => rfl); (case a => rfl); (case b => rfl); (case N => assumption); (case m => k_mem); (case d => assumption)) | (with_reducible refine modP ?k1 ?_; (case k1 => decide)) | walk_at "mstep")); (all_goals (try dsimp only)))
    rename Fr _ _ _ _ => F
    rename News _ _ _ _ => N
    refine comp_assign (cl := []) (fun _ => true) (fun v y => ∃ x, IsS x v ∧ IsS (low x) y) (by rfl) (by rfl) (by decide) rfl (by decide) rfl rfl rfl ?_
    have T := Tab.ofNews N (.tail _ (.head _)) (.tail _ (.tail _ (.head _))) (.tail _ (.tail _ (.tail _ (.head _)))) sub hrow (by omega)
    have hI0 := T.inst
    ((repeat' (first | (k_here; (with_reducible show wpAny _ _ (getMethod (Value.ref _) (Str.ofString "_convert_string_type") _) _ _ _); refine meth_conv ‹Fr _ _ _ _› (by assumption) (Inst.keeps (by assumption) (Fr.keep ‹Fr _ _ _ _›)) ?_) | (k_here; (with_reducible show wpAny _ _ (getMethod (Value.ref _) (Str.ofString "keys") _) _ _ _); refine meth_keys ‹Fr _ _ _ _› (by assumption) (Inst.keeps (by assumption) (Fr.keep ‹Fr _ _ _ _›)) ?_) | (k_here; (with_reducible show wpAny _ _ (getMethod (Value.ref _) (Str.ofString "get") _) _ _ _); refine meth_get ‹Fr _ _ _ _› (by assumption) (Inst.keeps (by assumption) (Fr.keep ‹Fr _ _ _ _›)) ?_) | (k_here; (with_reducible show wpAny _ _ (getAttr (Value.ref _) (Str.ofString "_headers") _) _ _ _); refine hdr_get ‹Fr _ _ _ _› (by assumption) (Inst.keeps (by assumption) (Fr.keep ‹Fr _ _ _ _›)) ?_) | (k_here; (with_reducible show wpAny _ _ (call (Value.builtin "str.lower") [Value.str _ _]) _ _ _); refine lower_T (by assumption) ?_) | ((with_reducible show wpAny _ _ (call (Value.builtin "len") [Value.str (bS _) _]) _ _ _); refine lenB ?z ?_; (case z => ((try simp only [List.length_append, List.length_replicate, bitsLen, List.length_nil]); omega))) | (k_here; (with_reducible show wpAny _ _ (call (Value.builtin "len") [Value.ref _]) _ _ _); with_unfolding_all refine' len_strs ?k1 ?k2 ?k3 ?k4 ?_; (case k1 => assumption); (case k2 => k_mem); (case k3 => assumption); (case k4 => walk_at "mar")) | ((with_reducible show wpAny _ _ (binaryOp Operator.Add (Value.str (bS _) _) (Value.str (bS _) _)) _ _ _); refine addB ?z ?_; (case z => ((try simp only [List.length_append, List.length_replicate, bitsLen, List.length_nil]); omega)); intro _ _) | ((with_reducible show wpAny _ _ (inplaceOp Operator.Add (Value.str (bS _) _) (Value.str (bS _) _)) _ _ _); refine iaddB ?z ?_; (case z => ((try simp only [List.length_append, List.length_replicate, bitsLen, List.length_nil]); omega)); intro _ _) | ((with_reducible show wpAny _ _ (binaryOp Operator.Mult (Value.str (Str.ofString "0") _) (Value.int _ _)) _ _ _); refine mulB ?y ?z ?_; (case y => omega); (case z => omega); intro _ _) | (k_here; (with_reducible show wpAny _ _ (loadName _ _) _ _ _); refine' load_cell ?N ?c ?m ?d ?_ ?a ?b; (case c => rfl); (case a => rfl); (case b => rfl); (case N => assumption); (case m => k_mem); (case d => assumption)) | (with_reducible refine modP ?k1 ?_; (case k1 => decide)) | walk_at "mstep")); (all_goals (try dsimp only)))
    refine use (keys_spec w G F.keep (fun p hp => (N p (sub p hp)).2.2) (Room.deeper (r.less (by decide : 2 ≤ 8))) T _) fun y h3 tk3 k3 hq => ?_
    obtain ⟨D, ys, nD, rfl, hD, hD', hS⟩ := hq
    obtain ⟨F1, N1, hneD⟩ := addNew F N k3 hD hD'
    clear F N T hI0
    rw [keys_of] at hS
    have hSl : ys.size = tab.length := by rw [← Array.length_toList]; exact hS.length
    refine comp_listA (Room.deeper (r.less (by decide : 2 ≤ 8))).hd F1 N1 (News.isList N1 (.head _)) (by rw [hSl]; exact Nat.le_trans (by omega : tab.length ≤ 64) (by decide)) rfl ⟨?tests, ?elt⟩ ?_
    case tests => intro C i v s₃ m₃ E' _ _ _ _; exact wpAny_tests_nil ⟨rfl, Keeps.refl _⟩
    case elt =>
      rintro C j v s₃ m₃ E' hv3 _ hn3 hm3 kp3
      obtain ⟨x, tx, hx, rfl⟩ := strs_at hS hv3
      have hxt := htab x (List.mem_of_getElem? hx)
      have k3' : ∀ b o, s₃.heap.get? b = some o → s₃.heap.get? b = some o := fun _ _ e => e
      have KX3 := (G.keeps F1.keep).X.keeps kp3
      have KT3 := (G.keeps F1.keep).T.keeps kp3
      clear F1 N1
      ((repeat' (first | (k_here; (with_reducible show wpAny _ _ (getMethod (Value.ref _) (Str.ofString "_convert_string_type") _) _ _ _); refine meth_conv ‹Fr _ _ _ _› (by assumption) (Inst.keeps (by assumption) (Fr.keep ‹Fr _ _ _ _›)) ?_) | (k_here; (with_reducible show wpAny _ _ (getMethod (Value.ref _) (Str.ofString "keys") _) _ _ _); refine meth_keys ‹Fr _ _ _ _› (by assumption) (Inst.keeps (by assumption) (Fr.keep ‹Fr _ _ _ _›)) ?_) | (k_here; (with_reducible show wpAny _ _ (getMethod (Value.ref _) (Str.ofString "get") _) _ _ _); refine meth_get ‹Fr _ _ _ _› (by assumption) (Inst.keeps (by assumption) (Fr.keep ‹Fr _ _ _ _›)) ?_) | (k_here; (with_reducible show wpAny _ _ (getAttr (Value.ref _) (Str.ofString "_headers") _) _ _ _); refine hdr_get ‹Fr _ _ _ _› (by assumption) (Inst.keeps (by assumption) (Fr.keep ‹Fr _ _ _ _›)) ?_) | (k_here; (with_reducible show wpAny _ _ (call (Value.builtin "str.lower") [Value.str _ _]) _ _ _); refine lower_T (by assumption) ?_) | ((with_reducible show wpAny _ _ (call (Value.builtin "len") [Value.str (bS _) _]) _ _ _); refine lenB ?z ?_; (case z => ((try simp only [List.length_append, List.length_replicate, bitsLen, List.length_nil]); omega))) | (k_here; (with_reducible show wpAny _ _ (call (Value.builtin "len") [Value.ref _]) _ _ _); with_unfolding_all refine' len_strs ?k1 ?k2 ?k3 ?k4 ?_; (case k1 => assumption); (case k2 => k_mem); (case k3 => assumption); (case k4 => walk_at "mar")) | ((with_reducible show wpAny _ _ (binaryOp Operator.Add (Value.str (bS _) _) (Value.str (bS _) _)) _ _ _); refine addB ?z ?_; (case z => ((try simp only [List.length_append, List.length_replicate, bitsLen, List.length_nil]); omega)); intro _ _) | ((with_reducible show wpAny _ _ (inplaceOp Operator.Add (Value.str (bS _) _) (Value.str (bS _) _)) _ _ _); refine iaddB ?z ?_; (case z => ((try simp only [List.length_append, List.length_replicate, bitsLen, List.length_nil]); omega)); intro _ _) | ((with_reducible show wpAny _ _ (binaryOp Operator.Mult (Value.str (Str.ofString "0") _) (Value.int _ _)) _ _ _); refine mulB ?y ?z ?_; (case y => omega); (case z => omega); intro _ _) | (k_here; (with_reducible show wpAny _ _ (loadName _ _) _ _ _); refine' load_cell ?N ?c ?m ?d ?_ ?a ?b; (case c => rfl); (case a => rfl); (case b => rfl); (case N => assumption); (case m => k_mem); (case d => assumption)) | (with_reducible refine modP ?k1 ?_; (case k1 => decide)) | walk_at "mstep")); (all_goals (try dsimp only)))
      exact ⟨⟨x, ⟨_, rfl⟩, ⟨_, rfl⟩⟩, Keeps.tok⟩
    intro R h4 tk4 zs n4 F2 N2 hneR hF
    rw [filter_true] at hF
    clear F1 N1
    have hZ : StrsAre zs.toList (tab.map low) := paired_low hS hF
    have hR1 : @Ne Addr P R := hneR _ (.tail _ (.head _))
    have hR2 : @Ne Addr t R := hneR _ (.tail _ (.tail _ (.head _)))
    have hR3 : @Ne Addr d R := hneR _ (.tail _ (.tail _ (.tail _ (.head _))))
    have hR4 : @Ne Addr hl R := hneR _ (.tail _ (.tail _ (.tail _ (.tail _ (.head _)))))
    have hR5 : @Ne Addr (L + 1 + 1) R := hneR _ (.tail _ (.tail _ (.tail _ (.tail _ (.tail _ (.head _))))))
    have hR6 : @Ne Addr (L + 1) R := hneR _ (.tail _ (.tail _ (.tail _ (.tail _ (.tail _ (.tail _ (.head _)))))))
    replace N2 := News.sub N2 (news' := (R, listOf zs n4) :: (P, listOf pv np) :: (t, instObj 236 d) :: (d, dictOf [⟨hsh, .str (Str.ofString "_headers") tke, .ref hl⟩] 1) :: (hl, listOf (refsOf tups) nl) :: (L + 1 + 1, op) :: (L + 1, ob) :: (tups ++ own)) (fun p hp => by
      rcases List.mem_cons.mp hp with rfl | hp
      · exact .head _
      · exact .tail _ (.tail _ hp))
    have aR : ∀ p ∈ tups ++ own, p.1 ≠ R := fun p hp => hneR p (.tail _ (.tail _ (.tail _ (.tail _ (.tail _ (.tail _ (.tail _ hp)))))))
    clear hneR hneD
    have hlm : (tab.map low).length = tab.length := by simp
    ((repeat' ((fail_if_success (with_reducible first | show wpAny _ _ (exec (Stmt.If _ _ _ _) _) _ _ _)); (first | (k_here; (with_reducible show wpAny _ _ (getMethod (Value.ref _) (Str.ofString "_convert_string_type") _) _ _ _); refine meth_conv ‹Fr _ _ _ _› (by assumption) (Inst.keeps (by assumption) (Fr.keep ‹Fr _ _ _ _›)) ?_) | (k_here; (with_reducible show wpAny _ _ (getMethod (Value.ref _) (Str.ofString "keys") _) _ _ _); refine meth_keys ‹Fr _ _ _ _› (by assumption) (Inst.keeps (by assumption) (Fr.keep ‹Fr _ _ _ _›)) ?_) | (k_here; (with_reducible show wpAny _ _ (getMethod (Value.ref _) (Str.ofString "get") _) _ _ _); refine meth_get ‹Fr _ _ _ _› (by assumption) (Inst.keeps (by assumption) (Fr.keep ‹Fr _ _ _ _›)) ?_) | (k_here; (with_reducible show wpAny _ _ (getAttr (Value.ref _) (Str.ofString "_headers") _) _ _ _); refine hdr_get ‹Fr _ _ _ _› (by assumption) (Inst.keeps (by assumption) (Fr.keep ‹Fr _ _ _ _›)) ?_) | (k_here; (with_reducible show wpAny _ _ (call (Value.builtin "str.lower") [Value.str _ _]) _ _ _); refine lower_T (by assumption) ?_) | ((with_reducible show wpAny _ _ (call (Value.builtin "len") [Value.str (bS _) _]) _ _ _); refine lenB ?z ?_; (case z => ((try simp only [List.length_append, List.length_replicate, bitsLen, List.length_nil]); omega))) | (k_here; (with_reducible show wpAny _ _ (call (Value.builtin "len") [Value.ref _]) _ _ _); with_unfolding_all refine' len_strs ?k1 ?k2 ?k3 ?k4 ?_; (case k1 => assumption); (case k2 => k_mem); (case k3 => assumption); (case k4 => walk_at "mar")) | ((with_reducible show wpAny _ _ (binaryOp Operator.Add (Value.str (bS _) _) (Value.str (bS _) _)) _ _ _); refine addB ?z ?_; (case z => ((try simp only [List.length_append, List.length_replicate, bitsLen, List.length_nil]); omega)); intro _ _) | ((with_reducible show wpAny _ _ (inplaceOp Operator.Add (Value.str (bS _) _) (Value.str (bS _) _)) _ _ _); refine iaddB ?z ?_; (case z => ((try simp only [List.length_append, List.length_replicate, bitsLen, List.length_nil]); omega)); intro _ _) | ((with_reducible show wpAny _ _ (binaryOp Operator.Mult (Value.str (Str.ofString "0") _) (Value.int _ _)) _ _ _); refine mulB ?y ?z ?_; (case y => omega); (case z => omega); intro _ _) | (k_here; (with_reducible show wpAny _ _ (loadName _ _) _ _ _); refine' load_cell ?N ?c ?m ?d ?_ ?a ?b; (case c => rfl); (case a => rfl); (case b => rfl); (case N => assumption); (case m => k_mem); (case d => assumption)) | (with_reducible refine modP ?k1 ?_; (case k1 => decide)) | walk_at "mstep"))); (all_goals (try dsimp only)))
    rename Fr _ _ _ _ => F
    rename News _ _ _ _ => N
    rename Obj.data _ = Data.cell (some (Value.int _ _)) => hop2
    rename_i op2 _
    obtain ⟨u2, F2⟩ := Fr.reHas F [(Str.ofString "table", .ref t), (Str.ofString "places", .ref P), (Str.ofString "octet", .int o to), (Str.ofString "name", .str (nameF o) tn), (Str.ofString "row", .ref R)] (.cons rfl (.cons rfl (.cons rfl (.cons rfl (.cons rfl .nil)))))
    clear F
    refine mid (MidOb s s.heap L (lk [(Str.ofString "table", .ref t), (Str.ofString "places", .ref P), (Str.ofString "octet", .int o to), (Str.ofString "name", .str (nameF o) tn), (Str.ofString "row", .ref R)] u2)
      (fun op' => (R, listOf zs n4) :: (P, listOf pv np) :: (t, instObj 236 d) :: (d, dictOf [⟨hsh, .str (Str.ofString "_headers") tke, .ref hl⟩] 1) :: (hl, listOf (refsOf tups) nl) :: (L + 1 + 1, op') :: (L + 1, ob) :: (tups ++ own)) (fun tp => .int (placeF tab (nameF o)) tp)) ?b1 ?_
    case b1 =>
      intro RM hRM
      walk1
      ((repeat' (first | (k_here; (with_reducible show wpAny _ _ (getMethod (Value.ref _) (Str.ofString "_convert_string_type") _) _ _ _); refine meth_conv ‹Fr _ _ _ _› (by assumption) (Inst.keeps (by assumption) (Fr.keep ‹Fr _ _ _ _›)) ?_) | (k_here; (with_reducible show wpAny _ _ (getMethod (Value.ref _) (Str.ofString "keys") _) _ _ _); refine meth_keys ‹Fr _ _ _ _› (by assumption) (Inst.keeps (by assumption) (Fr.keep ‹Fr _ _ _ _›)) ?_) | (k_here; (with_reducible show wpAny _ _ (getMethod (Value.ref _) (Str.ofString "get") _) _ _ _); refine meth_get ‹Fr _ _ _ _› (by assumption) (Inst.keeps (by assumption) (Fr.keep ‹Fr _ _ _ _›)) ?_) | (k_here; (with_reducible show wpAny _ _ (getAttr (Value.ref _) (Str.ofString "_headers") _) _ _ _); refine hdr_get ‹Fr _ _ _ _› (by assumption) (Inst.keeps (by assumption) (Fr.keep ‹Fr _ _ _ _›)) ?_) | (k_here; (with_reducible show wpAny _ _ (call (Value.builtin "str.lower") [Value.str _ _]) _ _ _); refine lower_T (by assumption) ?_) | ((with_reducible show wpAny _ _ (call (Value.builtin "len") [Value.str (bS _) _]) _ _ _); refine lenB ?z ?_; (case z => ((try simp only [List.length_append, List.length_replicate, bitsLen, List.length_nil]); omega))) | (k_here; (with_reducible show wpAny _ _ (call (Value.builtin "len") [Value.ref _]) _ _ _); with_unfolding_all refine' len_strs ?k1 ?k2 ?k3 ?k4 ?_; (case k1 => assumption); (case k2 => k_mem); (case k3 => assumption); (case k4 => walk_at "mar")) | ((with_reducible show wpAny _ _ (binaryOp Operator.Add (Value.str (bS _) _) (Value.str (bS _) _)) _ _ _); refine addB ?z ?_; (case z => ((try simp only [List.length_append, List.length_replicate, bitsLen, List.length_nil]); omega)); intro _ _) | ((with_reducible show wpAny _ _ (inplaceOp Operator.Add (Value.str (bS _) _) (Value.str (bS _) _)) _ _ _); refine iaddB ?z ?_; (case z => ((try simp only [List.length_append, List.length_replicate, bitsLen, List.length_nil]); omega)); intro _ _) | ((with_reducible show wpAny _ _ (binaryOp Operator.Mult (Value.str (Str.ofString "0") _) (Value.int _ _)) _ _ _); refine mulB ?y ?z ?_; (case y => omega); (case z => omega); intro _ _) | (k_here; (with_reducible show wpAny _ _ (loadName _ _) _ _ _); refine' load_cell ?N ?c ?m ?d ?_ ?a ?b; (case c => rfl); (case a => rfl); (case b => rfl); (case N => assumption); (case m => k_mem); (case d => assumption)) | (with_reducible refine modP ?k1 ?_; (case k1 => decide)) | walk_at "mstep")); (all_goals (try dsimp only)))
      rename Fr _ _ _ _ => F
      have T := Tab.ofNews N (.tail _ (.tail _ (.head _))) (.tail _ (.tail _ (.tail _ (.head _)))) (.tail _ (.tail _ (.tail _ (.tail _ (.head _))))) (fun p hp => .tail _ (.tail _ (.tail _ (.tail _ (.tail _ (.tail _ (.tail _ (List.mem_append.mpr (.inl hp))))))))) hrow (by omega)
      refine useV (has_spec w (G.keeps F.keep) (Room.deeper (r.less (by decide : 4 ≤ 8))) T hrl (nameF o) _ hnm _) F N fun h3 tk3 F3 N3 => ?_
      clear F N T
      rw [has_rows]
      by_cases hin : low (nameF o) ∈ tab.map low
      · simp only [hin, decide_true]
        ((repeat' (first | (k_here; (with_reducible show wpAny _ _ (getMethod (Value.ref _) (Str.ofString "_convert_string_type") _) _ _ _); refine meth_conv ‹Fr _ _ _ _› (by assumption) (Inst.keeps (by assumption) (Fr.keep ‹Fr _ _ _ _›)) ?_) | (k_here; (with_reducible show wpAny _ _ (getMethod (Value.ref _) (Str.ofString "keys") _) _ _ _); refine meth_keys ‹Fr _ _ _ _› (by assumption) (Inst.keeps (by assumption) (Fr.keep ‹Fr _ _ _ _›)) ?_) | (k_here; (with_reducible show wpAny _ _ (getMethod (Value.ref _) (Str.ofString "get") _) _ _ _); refine meth_get ‹Fr _ _ _ _› (by assumption) (Inst.keeps (by assumption) (Fr.keep ‹Fr _ _ _ _›)) ?_) | (k_here; (with_reducible show wpAny _ _ (getAttr (Value.ref _) (Str.ofString "_headers") _) _ _ _); refine hdr_get ‹Fr _ _ _ _› (by assumption) (Inst.keeps (by assumption) (Fr.keep ‹Fr _ _ _ _›)) ?_) | (k_here; (with_reducible show wpAny _ _ (call (Value.builtin "str.lower") [Value.str _ _]) _ _ _); refine lower_T (by assumption) ?_) | ((with_reducible show wpAny _ _ (call (Value.builtin "len") [Value.str (bS _) _]) _ _ _); refine lenB ?z ?_; (case z => ((try simp only [List.length_append, List.length_replicate, bitsLen, List.length_nil]); omega))) | (k_here; (with_reducible show wpAny _ _ (call (Value.builtin "len") [Value.ref _]) _ _ _); with_unfolding_all refine' len_strs ?k1 ?k2 ?k3 ?k4 ?_; (case k1 => assumption); (case k2 => k_mem); (case k3 => assumption); (case k4 => walk_at "mar")) | ((with_reducible show wpAny _ _ (binaryOp Operator.Add (Value.str (bS _) _) (Value.str (bS _) _)) _ _ _); refine addB ?z ?_; (case z => ((try simp only [List.length_append, List.length_replicate, bitsLen, List.length_nil]); omega)); intro _ _) | ((with_reducible show wpAny _ _ (inplaceOp Operator.Add (Value.str (bS _) _) (Value.str (bS _) _)) _ _ _); refine iaddB ?z ?_; (case z => ((try simp only [List.length_append, List.length_replicate, bitsLen, List.length_nil]); omega)); intro _ _) | ((with_reducible show wpAny _ _ (binaryOp Operator.Mult (Value.str (Str.ofString "0") _) (Value.int _ _)) _ _ _); refine mulB ?y ?z ?_; (case y => omega); (case z => omega); intro _ _) | (k_here; (with_reducible show wpAny _ _ (loadName _ _) _ _ _); refine' load_cell ?N ?c ?m ?d ?_ ?a ?b; (case c => rfl); (case a => rfl); (case b => rfl); (case N => assumption); (case m => k_mem); (case d => assumption)) | (with_reducible refine modP ?k1 ?_; (case k1 => decide)) | walk_at "mstep")); (all_goals (try dsimp only)))
        rename News _ _ _ _ => N
        rename Fr _ _ _ _ => F
        refine index_strs N (.head _) hZ hin (by omega) ?_
        ((repeat' (first | (k_here; (with_reducible show wpAny _ _ (getMethod (Value.ref _) (Str.ofString "_convert_string_type") _) _ _ _); refine meth_conv ‹Fr _ _ _ _› (by assumption) (Inst.keeps (by assumption) (Fr.keep ‹Fr _ _ _ _›)) ?_) | (k_here; (with_reducible show wpAny _ _ (getMethod (Value.ref _) (Str.ofString "keys") _) _ _ _); refine meth_keys ‹Fr _ _ _ _› (by assumption) (Inst.keeps (by assumption) (Fr.keep ‹Fr _ _ _ _›)) ?_) | (k_here; (with_reducible show wpAny _ _ (getMethod (Value.ref _) (Str.ofString "get") _) _ _ _); refine meth_get ‹Fr _ _ _ _› (by assumption) (Inst.keeps (by assumption) (Fr.keep ‹Fr _ _ _ _›)) ?_) | (k_here; (with_reducible show wpAny _ _ (getAttr (Value.ref _) (Str.ofString "_headers") _) _ _ _); refine hdr_get ‹Fr _ _ _ _› (by assumption) (Inst.keeps (by assumption) (Fr.keep ‹Fr _ _ _ _›)) ?_) | (k_here; (with_reducible show wpAny _ _ (call (Value.builtin "str.lower") [Value.str _ _]) _ _ _); refine lower_T (by assumption) ?_) | ((with_reducible show wpAny _ _ (call (Value.builtin "len") [Value.str (bS _) _]) _ _ _); refine lenB ?z ?_; (case z => ((try simp only [List.length_append, List.length_replicate, bitsLen, List.length_nil]); omega))) | (k_here; (with_reducible show wpAny _ _ (call (Value.builtin "len") [Value.ref _]) _ _ _); with_unfolding_all refine' len_strs ?k1 ?k2 ?k3 ?k4 ?_; (case k1 => assumption); (case k2 => k_mem); (case k3 => assumption); (case k4 => walk_at "mar")) | ((with_reducible show wpAny _ _ (binaryOp Operator.Add (Value.str (bS _) _) (Value.str (bS _) _)) _ _ _); refine addB ?z ?_; (case z => ((try simp only [List.length_append, List.length_replicate, bitsLen, List.length_nil]); omega)); intro _ _) | ((with_reducible show wpAny _ _ (inplaceOp Operator.Add (Value.str (bS _) _) (Value.str (bS _) _)) _ _ _); refine iaddB ?z ?_; (case z => ((try simp only [List.length_append, List.length_replicate, bitsLen, List.length_nil]); omega)); intro _ _) | ((with_reducible show wpAny _ _ (binaryOp Operator.Mult (Value.str (Str.ofString "0") _) (Value.int _ _)) _ _ _); refine mulB ?y ?z ?_; (case y => omega); (case z => omega); intro _ _) | (k_here; (with_reducible show wpAny _ _ (loadName _ _) _ _ _); refine' load_cell ?N ?c ?m ?d ?_ ?a ?b; (case c => rfl); (case a => rfl); (case b => rfl); (case N => assumption); (case m => k_mem); (case d => assumption)) | (with_reducible refine modP ?k1 ?_; (case k1 => decide)) | walk_at "mstep")); (all_goals (try dsimp only)))
        rename News _ _ _ _ => N
        rename Fr _ _ _ _ => F
        rename Obj.data _ = Data.cell (some (Value.int (_ - _) _)) => hop3
        have e : placeF tab (nameF o) = ((tab.map low).length : Int) - ((tab.map low).idxOf (low (nameF o)) : Nat) := by
          unfold placeF; rw [if_pos hin, hlm]
        rw [← e] at hop3
        exact hRM _ _ ⟨_, _, _, _, rfl, rfl, F, N, hop3⟩
      · simp only [hin, decide_false]
        ((repeat' (first | (k_here; (with_reducible show wpAny _ _ (getMethod (Value.ref _) (Str.ofString "_convert_string_type") _) _ _ _); refine meth_conv ‹Fr _ _ _ _› (by assumption) (Inst.keeps (by assumption) (Fr.keep ‹Fr _ _ _ _›)) ?_) | (k_here; (with_reducible show wpAny _ _ (getMethod (Value.ref _) (Str.ofString "keys") _) _ _ _); refine meth_keys ‹Fr _ _ _ _› (by assumption) (Inst.keeps (by assumption) (Fr.keep ‹Fr _ _ _ _›)) ?_) | (k_here; (with_reducible show wpAny _ _ (getMethod (Value.ref _) (Str.ofString "get") _) _ _ _); refine meth_get ‹Fr _ _ _ _› (by assumption) (Inst.keeps (by assumption) (Fr.keep ‹Fr _ _ _ _›)) ?_) | (k_here; (with_reducible show wpAny _ _ (getAttr (Value.ref _) (Str.ofString "_headers") _) _ _ _); refine hdr_get ‹Fr _ _ _ _› (by assumption) (Inst.keeps (by assumption) (Fr.keep ‹Fr _ _ _ _›)) ?_) | (k_here; (with_reducible show wpAny _ _ (call (Value.builtin "str.lower") [Value.str _ _]) _ _ _); refine lower_T (by assumption) ?_) | ((with_reducible show wpAny _ _ (call (Value.builtin "len") [Value.str (bS _) _]) _ _ _); refine lenB ?z ?_; (case z => ((try simp only [List.length_append, List.length_replicate, bitsLen, List.length_nil]); omega))) | (k_here; (with_reducible show wpAny _ _ (call (Value.builtin "len") [Value.ref _]) _ _ _); with_unfolding_all refine' len_strs ?k1 ?k2 ?k3 ?k4 ?_; (case k1 => assumption); (case k2 => k_mem); (case k3 => assumption); (case k4 => walk_at "mar")) | ((with_reducible show wpAny _ _ (binaryOp Operator.Add (Value.str (bS _) _) (Value.str (bS _) _)) _ _ _); refine addB ?z ?_; (case z => ((try simp only [List.length_append, List.length_replicate, bitsLen, List.length_nil]); omega)); intro _ _) | ((with_reducible show wpAny _ _ (inplaceOp Operator.Add (Value.str (bS _) _) (Value.str (bS _) _)) _ _ _); refine iaddB ?z ?_; (case z => ((try simp only [List.length_append, List.length_replicate, bitsLen, List.length_nil]); omega)); intro _ _) | ((with_reducible show wpAny _ _ (binaryOp Operator.Mult (Value.str (Str.ofString "0") _) (Value.int _ _)) _ _ _); refine mulB ?y ?z ?_; (case y => omega); (case z => omega); intro _ _) | (k_here; (with_reducible show wpAny _ _ (loadName _ _) _ _ _); refine' load_cell ?N ?c ?m ?d ?_ ?a ?b; (case c => rfl); (case a => rfl); (case b => rfl); (case N => assumption); (case m => k_mem); (case d => assumption)) | (with_reducible refine modP ?k1 ?_; (case k1 => decide)) | walk_at "mstep")); (all_goals (try dsimp only)))
        rename News _ _ _ _ => N
        rename Fr _ _ _ _ => F
        have e : placeF tab (nameF o) = ((tab.map low).length : Int) + 1 := by
          unfold placeF; rw [if_neg hin, hlm]
        rw [← e] at hop2
        exact hRM _ _ ⟨_, _, _, _, rfl, rfl, F, N, hop2⟩
    clear F2 N hop2
    rintro f s' ⟨h3, tk3, op3, tp, rfl, rfl, F, N, hop3⟩
    dsimp only
    have hpb := placeF_bd (x := nameF o) (by omega : tab.length ≤ 64)
    ((repeat' ((fail_if_success (with_reducible first | show wpAny _ _ (exec (Stmt.If _ _ _ _) _) _ _ _)); (first | (k_here; (with_reducible show wpAny _ _ (getMethod (Value.ref _) (Str.ofString "_convert_string_type") _) _ _ _); refine meth_conv ‹Fr _ _ _ _› (by assumption) (Inst.keeps (by assumption) (Fr.keep ‹Fr _ _ _ _›)) ?_) | (k_here; (with_reducible show wpAny _ _ (getMethod (Value.ref _) (Str.ofString "keys") _) _ _ _); refine meth_keys ‹Fr _ _ _ _› (by assumption) (Inst.keeps (by assumption) (Fr.keep ‹Fr _ _ _ _›)) ?_) | (k_here; (with_reducible show wpAny _ _ (getMethod (Value.ref _) (Str.ofString "get") _) _ _ _); refine meth_get ‹Fr _ _ _ _› (by assumption) (Inst.keeps (by assumption) (Fr.keep ‹Fr _ _ _ _›)) ?_) | (k_here; (with_reducible show wpAny _ _ (getAttr (Value.ref _) (Str.ofString "_headers") _) _ _ _); refine hdr_get ‹Fr _ _ _ _› (by assumption) (Inst.keeps (by assumption) (Fr.keep ‹Fr _ _ _ _›)) ?_) | (k_here; (with_reducible show wpAny _ _ (call (Value.builtin "str.lower") [Value.str _ _]) _ _ _); refine lower_T (by assumption) ?_) | ((with_reducible show wpAny _ _ (call (Value.builtin "len") [Value.str (bS _) _]) _ _ _); refine lenB ?z ?_; (case z => ((try simp only [List.length_append, List.length_replicate, bitsLen, List.length_nil]); omega))) | (k_here; (with_reducible show wpAny _ _ (call (Value.builtin "len") [Value.ref _]) _ _ _); with_unfolding_all refine' len_strs ?k1 ?k2 ?k3 ?k4 ?_; (case k1 => assumption); (case k2 => k_mem); (case k3 => assumption); (case k4 => walk_at "mar")) | ((with_reducible show wpAny _ _ (binaryOp Operator.Add (Value.str (bS _) _) (Value.str (bS _) _)) _ _ _); refine addB ?z ?_; (case z => ((try simp only [List.length_append, List.length_replicate, bitsLen, List.length_nil]); omega)); intro _ _) | ((with_reducible show wpAny _ _ (inplaceOp Operator.Add (Value.str (bS _) _) (Value.str (bS _) _)) _ _ _); refine iaddB ?z ?_; (case z => ((try simp only [List.length_append, List.length_replicate, bitsLen, List.length_nil]); omega)); intro _ _) | ((with_reducible show wpAny _ _ (binaryOp Operator.Mult (Value.str (Str.ofString "0") _) (Value.int _ _)) _ _ _); refine mulB ?y ?z ?_; (case y => omega); (case z => omega); intro _ _) | (k_here; (with_reducible show wpAny _ _ (loadName _ _) _ _ _); refine' load_cell ?N ?c ?m ?d ?_ ?a ?b; (case c => rfl); (case a => rfl); (case b => rfl); (case N => assumption); (case m => k_mem); (case d => assumption)) | (with_reducible refine modP ?k1 ?_; (case k1 => decide)) | walk_at "mstep"))); (all_goals (try dsimp only)))
    rename News _ _ _ _ => N
    rename Fr _ _ _ _ => F
    refine comp_eval (cl := [(Str.ofString "place", L + 1 + 1)]) (sizeP (placeF tab (nameF o))) (fun v y => y = v) (by rfl) (by decide) rfl (by decide) rfl ?_
    ((repeat' (first | (k_here; (with_reducible show wpAny _ _ (getMethod (Value.ref _) (Str.ofString "_convert_string_type") _) _ _ _); refine meth_conv ‹Fr _ _ _ _› (by assumption) (Inst.keeps (by assumption) (Fr.keep ‹Fr _ _ _ _›)) ?_) | (k_here; (with_reducible show wpAny _ _ (getMethod (Value.ref _) (Str.ofString "keys") _) _ _ _); refine meth_keys ‹Fr _ _ _ _› (by assumption) (Inst.keeps (by assumption) (Fr.keep ‹Fr _ _ _ _›)) ?_) | (k_here; (with_reducible show wpAny _ _ (getMethod (Value.ref _) (Str.ofString "get") _) _ _ _); refine meth_get ‹Fr _ _ _ _› (by assumption) (Inst.keeps (by assumption) (Fr.keep ‹Fr _ _ _ _›)) ?_) | (k_here; (with_reducible show wpAny _ _ (getAttr (Value.ref _) (Str.ofString "_headers") _) _ _ _); refine hdr_get ‹Fr _ _ _ _› (by assumption) (Inst.keeps (by assumption) (Fr.keep ‹Fr _ _ _ _›)) ?_) | (k_here; (with_reducible show wpAny _ _ (call (Value.builtin "str.lower") [Value.str _ _]) _ _ _); refine lower_T (by assumption) ?_) | ((with_reducible show wpAny _ _ (call (Value.builtin "len") [Value.str (bS _) _]) _ _ _); refine lenB ?z ?_; (case z => ((try simp only [List.length_append, List.length_replicate, bitsLen, List.length_nil]); omega))) | (k_here; (with_reducible show wpAny _ _ (call (Value.builtin "len") [Value.ref _]) _ _ _); with_unfolding_all refine' len_strs ?k1 ?k2 ?k3 ?k4 ?_; (case k1 => assumption); (case k2 => k_mem); (case k3 => assumption); (case k4 => walk_at "mar")) | ((with_reducible show wpAny _ _ (binaryOp Operator.Add (Value.str (bS _) _) (Value.str (bS _) _)) _ _ _); refine addB ?z ?_; (case z => ((try simp only [List.length_append, List.length_replicate, bitsLen, List.length_nil]); omega)); intro _ _) | ((with_reducible show wpAny _ _ (inplaceOp Operator.Add (Value.str (bS _) _) (Value.str (bS _) _)) _ _ _); refine iaddB ?z ?_; (case z => ((try simp only [List.length_append, List.length_replicate, bitsLen, List.length_nil]); omega)); intro _ _) | ((with_reducible show wpAny _ _ (binaryOp Operator.Mult (Value.str (Str.ofString "0") _) (Value.int _ _)) _ _ _); refine mulB ?y ?z ?_; (case y => omega); (case z => omega); intro _ _) | (k_here; (with_reducible show wpAny _ _ (loadName _ _) _ _ _); refine' load_cell ?N ?c ?m ?d ?_ ?a ?b; (case c => rfl); (case a => rfl); (case b => rfl); (case N => assumption); (case m => k_mem); (case d => assumption)) | (with_reducible refine modP ?k1 ?_; (case k1 => decide)) | walk_at "mstep")); (all_goals (try dsimp only)))
    rename Fr _ _ _ _ => F
    rename News _ _ _ _ => N
    rename IsRange _ _ _ _ _ _ _ _ => hr
    have hcell : Heap.IsCell _ (L + 1 + 1) (some (.int (placeF tab (nameF o)) tp)) := ⟨op3, (N (L + 1 + 1, op3) (.tail _ (.tail _ (.tail _ (.tail _ (.tail _ (.head _))))))).1, hop3⟩
    have G2 := G.keeps F.keep
    refine comp_range (n := 8) (Room.deeper (r.less (by decide : 2 ≤ 8))).hd hr (by decide) (by decide) (by decide) ⟨?tests, ?elt⟩ ?_
    case tests =>
      rintro C j v s₃ m₃ E' ⟨hj, t, rfl⟩ hn3 hm3 kp3
      have hcell3 := hcell.keeps kp3
      have KX3 := (G2.keeps kp3).X
      have KT3 := (G2.keeps kp3).T
      have k3' : ∀ b o, s₃.heap.get? b = some o → s₃.heap.get? b = some o := fun _ _ e => e
      clear F N kp3 hcell KX KT G2 hr
      refine wpAny_tests_one ?_
      ((repeat' (first | (k_here; (with_reducible show wpAny _ _ (getMethod (Value.ref _) (Str.ofString "_convert_string_type") _) _ _ _); refine meth_conv ‹Fr _ _ _ _› (by assumption) (Inst.keeps (by assumption) (Fr.keep ‹Fr _ _ _ _›)) ?_) | (k_here; (with_reducible show wpAny _ _ (getMethod (Value.ref _) (Str.ofString "keys") _) _ _ _); refine meth_keys ‹Fr _ _ _ _› (by assumption) (Inst.keeps (by assumption) (Fr.keep ‹Fr _ _ _ _›)) ?_) | (k_here; (with_reducible show wpAny _ _ (getMethod (Value.ref _) (Str.ofString "get") _) _ _ _); refine meth_get ‹Fr _ _ _ _› (by assumption) (Inst.keeps (by assumption) (Fr.keep ‹Fr _ _ _ _›)) ?_) | (k_here; (with_reducible show wpAny _ _ (getAttr (Value.ref _) (Str.ofString "_headers") _) _ _ _); refine hdr_get ‹Fr _ _ _ _› (by assumption) (Inst.keeps (by assumption) (Fr.keep ‹Fr _ _ _ _›)) ?_) | (k_here; (with_reducible show wpAny _ _ (call (Value.builtin "str.lower") [Value.str _ _]) _ _ _); refine lower_T (by assumption) ?_) | ((with_reducible show wpAny _ _ (call (Value.builtin "len") [Value.str (bS _) _]) _ _ _); refine lenB ?z ?_; (case z => ((try simp only [List.length_append, List.length_replicate, bitsLen, List.length_nil]); omega))) | (k_here; (with_reducible show wpAny _ _ (call (Value.builtin "len") [Value.ref _]) _ _ _); with_unfolding_all refine' len_strs ?k1 ?k2 ?k3 ?k4 ?_; (case k1 => assumption); (case k2 => k_mem); (case k3 => assumption); (case k4 => walk_at "mar")) | ((with_reducible show wpAny _ _ (binaryOp Operator.Add (Value.str (bS _) _) (Value.str (bS _) _)) _ _ _); refine addB ?z ?_; (case z => ((try simp only [List.length_append, List.length_replicate, bitsLen, List.length_nil]); omega)); intro _ _) | ((with_reducible show wpAny _ _ (inplaceOp Operator.Add (Value.str (bS _) _) (Value.str (bS _) _)) _ _ _); refine iaddB ?z ?_; (case z => ((try simp only [List.length_append, List.length_replicate, bitsLen, List.length_nil]); omega)); intro _ _) | ((with_reducible show wpAny _ _ (binaryOp Operator.Mult (Value.str (Str.ofString "0") _) (Value.int _ _)) _ _ _); refine mulB ?y ?z ?_; (case y => omega); (case z => omega); intro _ _) | (k_here; (with_reducible show wpAny _ _ (loadName _ _) _ _ _); refine' load_cell ?N ?c ?m ?d ?_ ?a ?b; (case c => rfl); (case a => rfl); (case b => rfl); (case N => assumption); (case m => k_mem); (case d => assumption)) | (with_reducible refine modP ?k1 ?_; (case k1 => decide)) | walk_at "mstep")); (all_goals (try dsimp only)))
      exact ⟨rfl, Keeps.tok⟩
    case elt =>
      rintro C j v s₃ m₃ E' ⟨hj, t, rfl⟩ hp3 hn3 hm3 kp3
      have k3' : ∀ b o, s₃.heap.get? b = some o → s₃.heap.get? b = some o := fun _ _ e => e
      clear F N kp3 hcell KX KT G2 hr
      ((repeat' (first | (k_here; (with_reducible show wpAny _ _ (getMethod (Value.ref _) (Str.ofString "_convert_string_type") _) _ _ _); refine meth_conv ‹Fr _ _ _ _› (by assumption) (Inst.keeps (by assumption) (Fr.keep ‹Fr _ _ _ _›)) ?_) | (k_here; (with_reducible show wpAny _ _ (getMethod (Value.ref _) (Str.ofString "keys") _) _ _ _); refine meth_keys ‹Fr _ _ _ _› (by assumption) (Inst.keeps (by assumption) (Fr.keep ‹Fr _ _ _ _›)) ?_) | (k_here; (with_reducible show wpAny _ _ (getMethod (Value.ref _) (Str.ofString "get") _) _ _ _); refine meth_get ‹Fr _ _ _ _› (by assumption) (Inst.keeps (by assumption) (Fr.keep ‹Fr _ _ _ _›)) ?_) | (k_here; (with_reducible show wpAny _ _ (getAttr (Value.ref _) (Str.ofString "_headers") _) _ _ _); refine hdr_get ‹Fr _ _ _ _› (by assumption) (Inst.keeps (by assumption) (Fr.keep ‹Fr _ _ _ _›)) ?_) | (k_here; (with_reducible show wpAny _ _ (call (Value.builtin "str.lower") [Value.str _ _]) _ _ _); refine lower_T (by assumption) ?_) | ((with_reducible show wpAny _ _ (call (Value.builtin "len") [Value.str (bS _) _]) _ _ _); refine lenB ?z ?_; (case z => ((try simp only [List.length_append, List.length_replicate, bitsLen, List.length_nil]); omega))) | (k_here; (with_reducible show wpAny _ _ (call (Value.builtin "len") [Value.ref _]) _ _ _); with_unfolding_all refine' len_strs ?k1 ?k2 ?k3 ?k4 ?_; (case k1 => assumption); (case k2 => k_mem); (case k3 => assumption); (case k4 => walk_at "mar")) | ((with_reducible show wpAny _ _ (binaryOp Operator.Add (Value.str (bS _) _) (Value.str (bS _) _)) _ _ _); refine addB ?z ?_; (case z => ((try simp only [List.length_append, List.length_replicate, bitsLen, List.length_nil]); omega)); intro _ _) | ((with_reducible show wpAny _ _ (inplaceOp Operator.Add (Value.str (bS _) _) (Value.str (bS _) _)) _ _ _); refine iaddB ?z ?_; (case z => ((try simp only [List.length_append, List.length_replicate, bitsLen, List.length_nil]); omega)); intro _ _) | ((with_reducible show wpAny _ _ (binaryOp Operator.Mult (Value.str (Str.ofString "0") _) (Value.int _ _)) _ _ _); refine mulB ?y ?z ?_; (case y => omega); (case z => omega); intro _ _) | (k_here; (with_reducible show wpAny _ _ (loadName _ _) _ _ _); refine' load_cell ?N ?c ?m ?d ?_ ?a ?b; (case c => rfl); (case a => rfl); (case b => rfl); (case N => assumption); (case m => k_mem); (case d => assumption)) | (with_reducible refine modP ?k1 ?_; (case k1 => decide)) | walk_at "mstep")); (all_goals (try dsimp only)))
      exact ⟨rfl, Keeps.refl _⟩
    intro D h' tk' ys n' vs' hD hD' hlen8 hvs8 hF hk
    obtain ⟨F', N', hDn⟩ := addNew F N hk hD hD'
    clear F N
    have hys := paired_same hF
    obtain ⟨t9, rest9, e9⟩ := size_head hlen8 hvs8 hpb.1 (by omega)
    have h9 : ys[Int.toNat 0]? = some (.int (sizeF (placeF tab (nameF o)) : Nat) t9) := by
      rw [← Array.getElem?_toList, hys, e9]; rfl
    ((repeat' ((fail_if_success (with_reducible first | show wpAny _ _ (exec (Stmt.If _ _ _ _) _) _ _ _)); (first | (k_here; (with_reducible show wpAny _ _ (getMethod (Value.ref _) (Str.ofString "_convert_string_type") _) _ _ _); refine meth_conv ‹Fr _ _ _ _› (by assumption) (Inst.keeps (by assumption) (Fr.keep ‹Fr _ _ _ _›)) ?_) | (k_here; (with_reducible show wpAny _ _ (getMethod (Value.ref _) (Str.ofString "keys") _) _ _ _); refine meth_keys ‹Fr _ _ _ _› (by assumption) (Inst.keeps (by assumption) (Fr.keep ‹Fr _ _ _ _›)) ?_) | (k_here; (with_reducible show wpAny _ _ (getMethod (Value.ref _) (Str.ofString "get") _) _ _ _); refine meth_get ‹Fr _ _ _ _› (by assumption) (Inst.keeps (by assumption) (Fr.keep ‹Fr _ _ _ _›)) ?_) | (k_here; (with_reducible show wpAny _ _ (getAttr (Value.ref _) (Str.ofString "_headers") _) _ _ _); refine hdr_get ‹Fr _ _ _ _› (by assumption) (Inst.keeps (by assumption) (Fr.keep ‹Fr _ _ _ _›)) ?_) | (k_here; (with_reducible show wpAny _ _ (call (Value.builtin "str.lower") [Value.str _ _]) _ _ _); refine lower_T (by assumption) ?_) | ((with_reducible show wpAny _ _ (call (Value.builtin "len") [Value.str (bS _) _]) _ _ _); refine lenB ?z ?_; (case z => ((try simp only [List.length_append, List.length_replicate, bitsLen, List.length_nil]); omega))) | (k_here; (with_reducible show wpAny _ _ (call (Value.builtin "len") [Value.ref _]) _ _ _); with_unfolding_all refine' len_strs ?k1 ?k2 ?k3 ?k4 ?_; (case k1 => assumption); (case k2 => k_mem); (case k3 => assumption); (case k4 => walk_at "mar")) | ((with_reducible show wpAny _ _ (binaryOp Operator.Add (Value.str (bS _) _) (Value.str (bS _) _)) _ _ _); refine addB ?z ?_; (case z => ((try simp only [List.length_append, List.length_replicate, bitsLen, List.length_nil]); omega)); intro _ _) | ((with_reducible show wpAny _ _ (inplaceOp Operator.Add (Value.str (bS _) _) (Value.str (bS _) _)) _ _ _); refine iaddB ?z ?_; (case z => ((try simp only [List.length_append, List.length_replicate, bitsLen, List.length_nil]); omega)); intro _ _) | ((with_reducible show wpAny _ _ (binaryOp Operator.Mult (Value.str (Str.ofString "0") _) (Value.int _ _)) _ _ _); refine mulB ?y ?z ?_; (case y => omega); (case z => omega); intro _ _) | (k_here; (with_reducible show wpAny _ _ (loadName _ _) _ _ _); refine' load_cell ?N ?c ?m ?d ?_ ?a ?b; (case c => rfl); (case a => rfl); (case b => rfl); (case N => assumption); (case m => k_mem); (case d => assumption)) | (with_reducible refine modP ?k1 ?_; (case k1 => decide)) | walk_at "mstep"))); (all_goals (try dsimp only)))
    rename News _ _ _ _ => N
    rename Fr _ _ _ _ => F
    refine sub_at N (.head _) h9 (by decide) (by decide) ?_
    replace N := News.sub N (news' := (R, listOf zs n4) :: (P, listOf pv np) :: (t, instObj 236 d) :: (d, dictOf [⟨hsh, .str (Str.ofString "_headers") tke, .ref hl⟩] 1) :: (hl, listOf (refsOf tups) nl) :: (L + 1 + 1, op3) :: (L + 1, ob) :: (tups ++ own)) (fun p hp => .tail _ hp)
    clear hDn hys e9 h9 hF hvs8 hlen8 hD hD' hk hcell G2 hr
    have hsz1 : 1 ≤ sizeF (placeF tab (nameF o)) := by unfold sizeF; omega
    have hsz2 : sizeF (placeF tab (nameF o)) ≤ 8 := by
      unfold sizeF
      have : Nat.log2 (placeF tab (nameF o)).toNat < 8 := by
        rw [Nat.log2_lt (by omega)]; omega
      omega
    ((repeat' ((fail_if_success (with_reducible first | show wpAny _ _ (exec (Stmt.If _ _ _ _) _) _ _ _)); (first | (k_here; (with_reducible show wpAny _ _ (getMethod (Value.ref _) (Str.ofString "_convert_string_type") _) _ _ _); refine meth_conv ‹Fr _ _ _ _› (by assumption) (Inst.keeps (by assumption) (Fr.keep ‹Fr _ _ _ _›)) ?_) | (k_here; (with_reducible show wpAny _ _ (getMethod (Value.ref _) (Str.ofString "keys") _) _ _ _); refine meth_keys ‹Fr _ _ _ _› (by assumption) (Inst.keeps (by assumption) (Fr.keep ‹Fr _ _ _ _›)) ?_) | (k_here; (with_reducible show wpAny _ _ (getMethod (Value.ref _) (Str.ofString "get") _) _ _ _); refine meth_get ‹Fr _ _ _ _› (by assumption) (Inst.keeps (by assumption) (Fr.keep ‹Fr _ _ _ _›)) ?_) | (k_here; (with_reducible show wpAny _ _ (getAttr (Value.ref _) (Str.ofString "_headers") _) _ _ _); refine hdr_get ‹Fr _ _ _ _› (by assumption) (Inst.keeps (by assumption) (Fr.keep ‹Fr _ _ _ _›)) ?_) | (k_here; (with_reducible show wpAny _ _ (call (Value.builtin "str.lower") [Value.str _ _]) _ _ _); refine lower_T (by assumption) ?_) | ((with_reducible show wpAny _ _ (call (Value.builtin "len") [Value.str (bS _) _]) _ _ _); refine lenB ?z ?_; (case z => ((try simp only [List.length_append, List.length_replicate, bitsLen, List.length_nil]); omega))) | (k_here; (with_reducible show wpAny _ _ (call (Value.builtin "len") [Value.ref _]) _ _ _); with_unfolding_all refine' len_strs ?k1 ?k2 ?k3 ?k4 ?_; (case k1 => assumption); (case k2 => k_mem); (case k3 => assumption); (case k4 => walk_at "mar")) | ((with_reducible show wpAny _ _ (binaryOp Operator.Add (Value.str (bS _) _) (Value.str (bS _) _)) _ _ _); refine addB ?z ?_; (case z => ((try simp only [List.length_append, List.length_replicate, bitsLen, List.length_nil]); omega)); intro _ _) | ((with_reducible show wpAny _ _ (inplaceOp Operator.Add (Value.str (bS _) _) (Value.str (bS _) _)) _ _ _); refine iaddB ?z ?_; (case z => ((try simp only [List.length_append, List.length_replicate, bitsLen, List.length_nil]); omega)); intro _ _) | ((with_reducible show wpAny _ _ (binaryOp Operator.Mult (Value.str (Str.ofString "0") _) (Value.int _ _)) _ _ _); refine mulB ?y ?z ?_; (case y => omega); (case z => omega); intro _ _) | (k_here; (with_reducible show wpAny _ _ (loadName _ _) _ _ _); refine' load_cell ?N ?c ?m ?d ?_ ?a ?b; (case c => rfl); (case a => rfl); (case b => rfl); (case N => assumption); (case m => k_mem); (case d => assumption)) | (with_reducible refine modP ?k1 ?_; (case k1 => decide)) | walk_at "mstep"))); (all_goals (try dsimp only)))
    rename News _ _ _ _ => N
    rename Fr _ _ _ _ => F
    refine use0 (bits_spec w (G.keeps F.keep) (Room.deeper (r.less (by decide : 3 ≤ 8))) (placeF tab (nameF o)) (sizeF (placeF tab (nameF o))) (by omega) _ _ _) F N fun tb2 h2 tk2 F' N' => ?_
    clear F N
    ((repeat' ((fail_if_success (with_reducible first | show wpAny _ _ (exec (Stmt.If _ _ _ _) _) _ _ _)); (first | (k_here; (with_reducible show wpAny _ _ (getMethod (Value.ref _) (Str.ofString "_convert_string_type") _) _ _ _); refine meth_conv ‹Fr _ _ _ _› (by assumption) (Inst.keeps (by assumption) (Fr.keep ‹Fr _ _ _ _›)) ?_) | (k_here; (with_reducible show wpAny _ _ (getMethod (Value.ref _) (Str.ofString "keys") _) _ _ _); refine meth_keys ‹Fr _ _ _ _› (by assumption) (Inst.keeps (by assumption) (Fr.keep ‹Fr _ _ _ _›)) ?_) | (k_here; (with_reducible show wpAny _ _ (getMethod (Value.ref _) (Str.ofString "get") _) _ _ _); refine meth_get ‹Fr _ _ _ _› (by assumption) (Inst.keeps (by assumption) (Fr.keep ‹Fr _ _ _ _›)) ?_) | (k_here; (with_reducible show wpAny _ _ (getAttr (Value.ref _) (Str.ofString "_headers") _) _ _ _); refine hdr_get ‹Fr _ _ _ _› (by assumption) (Inst.keeps (by assumption) (Fr.keep ‹Fr _ _ _ _›)) ?_) | (k_here; (with_reducible show wpAny _ _ (call (Value.builtin "str.lower") [Value.str _ _]) _ _ _); refine lower_T (by assumption) ?_) | ((with_reducible show wpAny _ _ (call (Value.builtin "len") [Value.str (bS _) _]) _ _ _); refine lenB ?z ?_; (case z => ((try simp only [List.length_append, List.length_replicate, bitsLen, List.length_nil]); omega))) | (k_here; (with_reducible show wpAny _ _ (call (Value.builtin "len") [Value.ref _]) _ _ _); with_unfolding_all refine' len_strs ?k1 ?k2 ?k3 ?k4 ?_; (case k1 => assumption); (case k2 => k_mem); (case k3 => assumption); (case k4 => walk_at "mar")) | ((with_reducible show wpAny _ _ (binaryOp Operator.Add (Value.str (bS _) _) (Value.str (bS _) _)) _ _ _); refine addB ?z ?_; (case z => ((try simp only [List.length_append, List.length_replicate, bitsLen, List.length_nil]); omega)); intro _ _) | ((with_reducible show wpAny _ _ (inplaceOp Operator.Add (Value.str (bS _) _) (Value.str (bS _) _)) _ _ _); refine iaddB ?z ?_; (case z => ((try simp only [List.length_append, List.length_replicate, bitsLen, List.length_nil]); omega)); intro _ _) | ((with_reducible show wpAny _ _ (binaryOp Operator.Mult (Value.str (Str.ofString "0") _) (Value.int _ _)) _ _ _); refine mulB ?y ?z ?_; (case y => omega); (case z => omega); intro _ _) | (k_here; (with_reducible show wpAny _ _ (loadName _ _) _ _ _); refine' load_cell ?N ?c ?m ?d ?_ ?a ?b; (case c => rfl); (case a => rfl); (case b => rfl); (case N => assumption); (case m => k_mem); (case d => assumption)) | (with_reducible refine modP ?k1 ?_; (case k1 => decide)) | walk_at "mstep"))); (all_goals (try dsimp only)))
    rename News _ _ _ _ => N
    rename Fr _ _ _ _ => F
    rename Obj.data _ = Data.cell (some (Value.str (bS (_ ++ _)) _)) => hob3
    obtain ⟨u3, F3⟩ := Fr.reHas F [(Str.ofString "table", .ref t), (Str.ofString "places", .ref P), (Str.ofString "octet", .int o to), (Str.ofString "name", .str (nameF o) tn), (Str.ofString "row", .ref R)] (.cons rfl (.cons rfl (.cons rfl (.cons rfl (.cons rfl .nil)))))
    clear F hob
    refine mid (MidOb s s.heap L (lk [(Str.ofString "table", .ref t), (Str.ofString "places", .ref P), (Str.ofString "octet", .int o to), (Str.ofString "name", .str (nameF o) tn), (Str.ofString "row", .ref R)] u3)
      (fun ob' => (R, listOf zs n4) :: (P, listOf pv np) :: (t, instObj 236 d) :: (d, dictOf [⟨hsh, .str (Str.ofString "_headers") tke, .ref hl⟩] 1) :: (hl, listOf (refsOf tups) nl) :: (L + 1 + 1, op3) :: (L + 1, ob') :: (tups ++ own)) (fun tp => .str (bS (bits ++ addF tab o)) tp)) ?b2 ?_
    case b2 =>
      intro RM hRM
      walk1
      ((repeat' (first | (k_here; (with_reducible show wpAny _ _ (getMethod (Value.ref _) (Str.ofString "_convert_string_type") _) _ _ _); refine meth_conv ‹Fr _ _ _ _› (by assumption) (Inst.keeps (by assumption) (Fr.keep ‹Fr _ _ _ _›)) ?_) | (k_here; (with_reducible show wpAny _ _ (getMethod (Value.ref _) (Str.ofString "keys") _) _ _ _); refine meth_keys ‹Fr _ _ _ _› (by assumption) (Inst.keeps (by assumption) (Fr.keep ‹Fr _ _ _ _›)) ?_) | (k_here; (with_reducible show wpAny _ _ (getMethod (Value.ref _) (Str.ofString "get") _) _ _ _); refine meth_get ‹Fr _ _ _ _› (by assumption) (Inst.keeps (by assumption) (Fr.keep ‹Fr _ _ _ _›)) ?_) | (k_here; (with_reducible show wpAny _ _ (getAttr (Value.ref _) (Str.ofString "_headers") _) _ _ _); refine hdr_get ‹Fr _ _ _ _› (by assumption) (Inst.keeps (by assumption) (Fr.keep ‹Fr _ _ _ _›)) ?_) | (k_here; (with_reducible show wpAny _ _ (call (Value.builtin "str.lower") [Value.str _ _]) _ _ _); refine lower_T (by assumption) ?_) | ((with_reducible show wpAny _ _ (call (Value.builtin "len") [Value.str (bS _) _]) _ _ _); refine lenB ?z ?_; (case z => ((try simp only [List.length_append, List.length_replicate, bitsLen, List.length_nil]); omega))) | (k_here; (with_reducible show wpAny _ _ (call (Value.builtin "len") [Value.ref _]) _ _ _); with_unfolding_all refine' len_strs ?k1 ?k2 ?k3 ?k4 ?_; (case k1 => assumption); (case k2 => k_mem); (case k3 => assumption); (case k4 => walk_at "mar")) | ((with_reducible show wpAny _ _ (binaryOp Operator.Add (Value.str (bS _) _) (Value.str (bS _) _)) _ _ _); refine addB ?z ?_; (case z => ((try simp only [List.length_append, List.length_replicate, bitsLen, List.length_nil]); omega)); intro _ _) | ((with_reducible show wpAny _ _ (inplaceOp Operator.Add (Value.str (bS _) _) (Value.str (bS _) _)) _ _ _); refine iaddB ?z ?_; (case z => ((try simp only [List.length_append, List.length_replicate, bitsLen, List.length_nil]); omega)); intro _ _) | ((with_reducible show wpAny _ _ (binaryOp Operator.Mult (Value.str (Str.ofString "0") _) (Value.int _ _)) _ _ _); refine mulB ?y ?z ?_; (case y => omega); (case z => omega); intro _ _) | (k_here; (with_reducible show wpAny _ _ (loadName _ _) _ _ _); refine' load_cell ?N ?c ?m ?d ?_ ?a ?b; (case c => rfl); (case a => rfl); (case b => rfl); (case N => assumption); (case m => k_mem); (case d => assumption)) | (with_reducible refine modP ?k1 ?_; (case k1 => decide)) | walk_at "mstep")); (all_goals (try dsimp only)))
      all_goals (rename News _ _ _ _ => N)
      all_goals (rename Fr _ _ _ _ => F)
      · rename (_ : Int) < _ => hgt
        refine use0 (bits_spec w (G.keeps F.keep) (Room.deeper (r.less (by decide : 3 ≤ 8))) o 8 (by omega) _ _ _) F N fun tb2 h2 tk2 F' N' => ?_
        clear F N
        ((repeat' (first | (k_here; (with_reducible show wpAny _ _ (getMethod (Value.ref _) (Str.ofString "_convert_string_type") _) _ _ _); refine meth_conv ‹Fr _ _ _ _› (by assumption) (Inst.keeps (by assumption) (Fr.keep ‹Fr _ _ _ _›)) ?_) | (k_here; (with_reducible show wpAny _ _ (getMethod (Value.ref _) (Str.ofString "keys") _) _ _ _); refine meth_keys ‹Fr _ _ _ _› (by assumption) (Inst.keeps (by assumption) (Fr.keep ‹Fr _ _ _ _›)) ?_) | (k_here; (with_reducible show wpAny _ _ (getMethod (Value.ref _) (Str.ofString "get") _) _ _ _); refine meth_get ‹Fr _ _ _ _› (by assumption) (Inst.keeps (by assumption) (Fr.keep ‹Fr _ _ _ _›)) ?_) | (k_here; (with_reducible show wpAny _ _ (getAttr (Value.ref _) (Str.ofString "_headers") _) _ _ _); refine hdr_get ‹Fr _ _ _ _› (by assumption) (Inst.keeps (by assumption) (Fr.keep ‹Fr _ _ _ _›)) ?_) | (k_here; (with_reducible show wpAny _ _ (call (Value.builtin "str.lower") [Value.str _ _]) _ _ _); refine lower_T (by assumption) ?_) | ((with_reducible show wpAny _ _ (call (Value.builtin "len") [Value.str (bS _) _]) _ _ _); refine lenB ?z ?_; (case z => ((try simp only [List.length_append, List.length_replicate, bitsLen, List.length_nil]); omega))) | (k_here; (with_reducible show wpAny _ _ (call (Value.builtin "len") [Value.ref _]) _ _ _); with_unfolding_all refine' len_strs ?k1 ?k2 ?k3 ?k4 ?_; (case k1 => assumption); (case k2 => k_mem); (case k3 => assumption); (case k4 => walk_at "mar")) | ((with_reducible show wpAny _ _ (binaryOp Operator.Add (Value.str (bS _) _) (Value.str (bS _) _)) _ _ _); refine addB ?z ?_; (case z => ((try simp only [List.length_append, List.length_replicate, bitsLen, List.length_nil]); omega)); intro _ _) | ((with_reducible show wpAny _ _ (inplaceOp Operator.Add (Value.str (bS _) _) (Value.str (bS _) _)) _ _ _); refine iaddB ?z ?_; (case z => ((try simp only [List.length_append, List.length_replicate, bitsLen, List.length_nil]); omega)); intro _ _) | ((with_reducible show wpAny _ _ (binaryOp Operator.Mult (Value.str (Str.ofString "0") _) (Value.int _ _)) _ _ _); refine mulB ?y ?z ?_; (case y => omega); (case z => omega); intro _ _) | (k_here; (with_reducible show wpAny _ _ (loadName _ _) _ _ _); refine' load_cell ?N ?c ?m ?d ?_ ?a ?b; (case c => rfl); (case a => rfl); (case b => rfl); (case N => assumption); (case m => k_mem); (case d => assumption)) | (with_reducible refine modP ?k1 ?_; (case k1 => decide)) | walk_at "mstep")); (all_goals (try dsimp only)))
        rename News _ _ _ _ => N
        rename Fr _ _ _ _ => F
        rename Obj.data _ = Data.cell (some (Value.str (bS (_ ++ _ ++ _)) _)) => hob4
        have e : bits ++ addF tab o = bits ++ (List.replicate ((sizeF (placeF tab (nameF o)) : Int) - 1).toNat false ++ bitsL (placeF tab (nameF o)) (sizeF (placeF tab (nameF o)))) ++ bitsL o 8 := by
          unfold addF
          rw [if_pos (by omega), show ((sizeF (placeF tab (nameF o)) : Int) - 1).toNat = sizeF (placeF tab (nameF o)) - 1 by omega]
          simp only [List.append_assoc]
        rw [← e] at hob4
        exact hRM _ _ ⟨_, _, _, _, rfl, rfl, F, N, hob4⟩
      · rename ¬ (_ : Int) < _ => hgt
        have e : bits ++ addF tab o = bits ++ (List.replicate ((sizeF (placeF tab (nameF o)) : Int) - 1).toNat false ++ bitsL (placeF tab (nameF o)) (sizeF (placeF tab (nameF o)))) := by
          unfold addF
          rw [if_neg (by omega), show ((sizeF (placeF tab (nameF o)) : Int) - 1).toNat = sizeF (placeF tab (nameF o)) - 1 by omega, List.append_nil]
        rw [← e] at hob3
        exact hRM _ _ ⟨_, _, _, _, rfl, rfl, F, N, hob3⟩
    clear F3 N hob3
    rintro f s' ⟨h5, tk5, ob5, tp5, rfl, rfl, F, N, hob5⟩
    dsimp only
    ((repeat' ((fail_if_success (with_reducible first | show wpAny _ _ (exec (Stmt.If _ _ _ _) _) _ _ _)); (first | (k_here; (with_reducible show wpAny _ _ (getMethod (Value.ref _) (Str.ofString "_convert_string_type") _) _ _ _); refine meth_conv ‹Fr _ _ _ _› (by assumption) (Inst.keeps (by assumption) (Fr.keep ‹Fr _ _ _ _›)) ?_) | (k_here; (with_reducible show wpAny _ _ (getMethod (Value.ref _) (Str.ofString "keys") _) _ _ _); refine meth_keys ‹Fr _ _ _ _› (by assumption) (Inst.keeps (by assumption) (Fr.keep ‹Fr _ _ _ _›)) ?_) | (k_here; (with_reducible show wpAny _ _ (getMethod (Value.ref _) (Str.ofString "get") _) _ _ _); refine meth_get ‹Fr _ _ _ _› (by assumption) (Inst.keeps (by assumption) (Fr.keep ‹Fr _ _ _ _›)) ?_) | (k_here; (with_reducible show wpAny _ _ (getAttr (Value.ref _) (Str.ofString "_headers") _) _ _ _); refine hdr_get ‹Fr _ _ _ _› (by assumption) (Inst.keeps (by assumption) (Fr.keep ‹Fr _ _ _ _›)) ?_) | (k_here; (with_reducible show wpAny _ _ (call (Value.builtin "str.lower") [Value.str _ _]) _ _ _); refine lower_T (by assumption) ?_) | ((with_reducible show wpAny _ _ (call (Value.builtin "len") [Value.str (bS _) _]) _ _ _); refine lenB ?z ?_; (case z => ((try simp only [List.length_append, List.length_replicate, bitsLen, List.length_nil]); omega))) | (k_here; (with_reducible show wpAny _ _ (call (Value.builtin "len") [Value.ref _]) _ _ _); with_unfolding_all refine' len_strs ?k1 ?k2 ?k3 ?k4 ?_; (case k1 => assumption); (case k2 => k_mem); (case k3 => assumption); (case k4 => walk_at "mar")) | ((with_reducible show wpAny _ _ (binaryOp Operator.Add (Value.str (bS _) _) (Value.str (bS _) _)) _ _ _); refine addB ?z ?_; (case z => ((try simp only [List.length_append, List.length_replicate, bitsLen, List.length_nil]); omega)); intro _ _) | ((with_reducible show wpAny _ _ (inplaceOp Operator.Add (Value.str (bS _) _) (Value.str (bS _) _)) _ _ _); refine iaddB ?z ?_; (case z => ((try simp only [List.length_append, List.length_replicate, bitsLen, List.length_nil]); omega)); intro _ _) | ((with_reducible show wpAny _ _ (binaryOp Operator.Mult (Value.str (Str.ofString "0") _) (Value.int _ _)) _ _ _); refine mulB ?y ?z ?_; (case y => omega); (case z => omega); intro _ _) | (k_here; (with_reducible show wpAny _ _ (loadName _ _) _ _ _); refine' load_cell ?N ?c ?m ?d ?_ ?a ?b; (case c => rfl); (case a => rfl); (case b => rfl); (case N => assumption); (case m => k_mem); (case d => assumption)) | (with_reducible refine modP ?k1 ?_; (case k1 => decide)) | walk_at "mstep"))); (all_goals (try dsimp only)))
    rename News _ _ _ _ => N
    rename Fr _ _ _ _ => F
    have T := Tab.ofNews N (.tail _ (.tail _ (.head _))) (.tail _ (.tail _ (.tail _ (.head _)))) (.tail _ (.tail _ (.tail _ (.tail _ (.head _))))) (fun p hp => .tail _ (.tail _ (.tail _ (.tail _ (.tail _ (.tail _ (.tail _ (List.mem_append.mpr (.inl hp))))))))) hrow (by omega)
    have hgh := (N (hl, listOf (refsOf tups) nl) (.tail _ (.tail _ (.tail _ (.tail _ (.head _)))))).2.2
    refine useG (seti_spec w (G.hide F.keep hgh) (Room.deeper (r.less (by decide : 4 ≤ 8))) T hrl (by omega) (nameF o) askS _ _ hnm (tame_lit (by decide +kernel) (by decide +kernel)) _) fun y h7 tk7 k7 hq => ?_
    obtain ⟨tups7, T7, ht7⟩ := hq
    obtain ⟨n7, el7⟩ := T7.lst
    have NT := afterTab F N (fun p hp => .tail _ (.tail _ (.tail _ (.tail _ (.tail _ (.tail _ (.tail _ (List.mem_append.mpr (.inl hp))))))))) T7 ht7
    obtain ⟨oI, hoI⟩ := hIo
    have hIh := (N (I, oI) (.tail _ (.tail _ (.tail _ (.tail _ (.tail _ (.tail _ (.tail _ (List.mem_append.mpr (.inr hoI)))))))))).1
    obtain ⟨F7, N7⟩ := after1F F N (by k_updF) k7 el7
    clear F N
    ((repeat' (first | (k_here; (with_reducible show wpAny _ _ (getMethod (Value.ref _) (Str.ofString "_convert_string_type") _) _ _ _); refine meth_conv ‹Fr _ _ _ _› (by assumption) (Inst.keeps (by assumption) (Fr.keep ‹Fr _ _ _ _›)) ?_) | (k_here; (with_reducible show wpAny _ _ (getMethod (Value.ref _) (Str.ofString "keys") _) _ _ _); refine meth_keys ‹Fr _ _ _ _› (by assumption) (Inst.keeps (by assumption) (Fr.keep ‹Fr _ _ _ _›)) ?_) | (k_here; (with_reducible show wpAny _ _ (getMethod (Value.ref _) (Str.ofString "get") _) _ _ _); refine meth_get ‹Fr _ _ _ _› (by assumption) (Inst.keeps (by assumption) (Fr.keep ‹Fr _ _ _ _›)) ?_) | (k_here; (with_reducible show wpAny _ _ (getAttr (Value.ref _) (Str.ofString "_headers") _) _ _ _); refine hdr_get ‹Fr _ _ _ _› (by assumption) (Inst.keeps (by assumption) (Fr.keep ‹Fr _ _ _ _›)) ?_) | (k_here; (with_reducible show wpAny _ _ (call (Value.builtin "str.lower") [Value.str _ _]) _ _ _); refine lower_T (by assumption) ?_) | ((with_reducible show wpAny _ _ (call (Value.builtin "len") [Value.str (bS _) _]) _ _ _); refine lenB ?z ?_; (case z => ((try simp only [List.length_append, List.length_replicate, bitsLen, List.length_nil]); omega))) | (k_here; (with_reducible show wpAny _ _ (call (Value.builtin "len") [Value.ref _]) _ _ _); with_unfolding_all refine' len_strs ?k1 ?k2 ?k3 ?k4 ?_; (case k1 => assumption); (case k2 => k_mem); (case k3 => assumption); (case k4 => walk_at "mar")) | ((with_reducible show wpAny _ _ (binaryOp Operator.Add (Value.str (bS _) _) (Value.str (bS _) _)) _ _ _); refine addB ?z ?_; (case z => ((try simp only [List.length_append, List.length_replicate, bitsLen, List.length_nil]); omega)); intro _ _) | ((with_reducible show wpAny _ _ (inplaceOp Operator.Add (Value.str (bS _) _) (Value.str (bS _) _)) _ _ _); refine iaddB ?z ?_; (case z => ((try simp only [List.length_append, List.length_replicate, bitsLen, List.length_nil]); omega)); intro _ _) | ((with_reducible show wpAny _ _ (binaryOp Operator.Mult (Value.str (Str.ofString "0") _) (Value.int _ _)) _ _ _); refine mulB ?y ?z ?_; (case y => omega); (case z => omega); intro _ _) | (k_here; (with_reducible show wpAny _ _ (loadName _ _) _ _ _); refine' load_cell ?N ?c ?m ?d ?_ ?a ?b; (case c => rfl); (case a => rfl); (case b => rfl); (case N => assumption); (case m => k_mem); (case d => assumption)) | (with_reducible refine modP ?k1 ?_; (case k1 => decide)) | walk_at "mstep")); (all_goals (try dsimp only)))
    refine hTE _ _ ?_
    dsimp only [TurnEnd]
    dsimp only at NT el7 T7
    have hnl : (tabF tab (nameF o)).length ≤ tab.length + 1 := tabF_len
    have hal := addF_len (tab := tab) (o := o) hsz2
    have hdrop : os.drop i = o :: os.drop (i + 1) := by
      rw [List.drop_eq_getElem_cons hi]
      have := (List.getElem?_eq_some_iff.mp ho).2
      rw [this]
    refine ⟨_, _, _, (P, listOf (pv.push (Value.int (placeF tab (nameF o)) tp)) (np + 1)) :: (t, instObj 236 d) :: (d, dictOf [⟨hsh, .str (Str.ofString "_headers") tke, .ref hl⟩] 1) :: (hl, listOf (refsOf tups7) n7) :: (L + 1 + 1, op3) :: (L + 1, ob5) :: tups7, rfl, F7, ?N, ?ne, _, _, ob5, op3, tups7, n7, _, bits ++ addF tab o, tp5, places ++ [placeF tab (nameF o)], tabF tab (nameF o), rfl, .cons rfl (.cons rfl .nil), hob5, hop3, ?iis, ?row, ?tame, ?l1, ?l2, ?l3, ?eq⟩
    case N =>
      intro p hp
      simp only [List.cons_append, List.mem_cons, List.mem_append] at hp
      rcases hp with rfl | rfl | rfl | rfl | rfl | rfl | hp | hp
      · exact N7 _ (.tail _ (.head _))
      · exact N7 _ (.tail _ (.tail _ (.head _)))
      · exact N7 _ (.tail _ (.tail _ (.tail _ (.head _))))
      · exact N7 _ (.tail _ (.tail _ (.tail _ (.tail _ (.head _)))))
      · exact N7 _ (.tail _ (.tail _ (.tail _ (.tail _ (.tail _ (.head _))))))
      · exact N7 _ (.tail _ (.tail _ (.tail _ (.tail _ (.tail _ (.tail _ (.head _)))))))
      · exact NT p hp
      · exact N7 _ (.tail _ (.tail _ (.tail _ (.tail _ (.tail _ (.tail _ (.tail _ (List.mem_append.mpr (.inr hp)))))))))
    case ne =>
      intro p hp
      simp only [List.mem_cons] at hp
      rcases hp with rfl | rfl | rfl | rfl | rfl | rfl | hp
      · exact hoff (P, listOf pv np) (.head _)
      · exact hoff (t, _) (.tail _ (.head _))
      · exact hoff (d, _) (.tail _ (.tail _ (.head _)))
      · exact hoff (hl, listOf (refsOf tups) nl) (.tail _ (.tail _ (.tail _ (.head _))))
      · exact hoff (L + 1 + 1, op) (.tail _ (.tail _ (.tail _ (.tail _ (.head _)))))
      · exact hoff (L + 1, ob) (.tail _ (.tail _ (.tail _ (.tail _ (.tail _ (.head _))))))
      · rcases ht7 p hp with q | q
        · exact hoff p (.tail _ (.tail _ (.tail _ (.tail _ (.tail _ (.tail _ q))))))
        · intro e
          dsimp only at q hIh
          rw [e, hIh] at q; cases q
    case iis => rw [Array.toList_push]; exact hpv.append (.cons _ _ .nil)
    case row => rw [← rows_tab]; exact T7.row
    case tame =>
      intro x hx
      rcases tabF_mem hx with q | q
      · exact htab x q
      · rw [q]; exact hnm
    case l1 => omega
    case l2 => rw [List.length_append]; omega
    case l3 => rw [List.length_append, List.length_singleton]; omega
    case eq =>
      rw [← hsent, hdrop, sentF]
      simp only [List.append_assoc, List.singleton_append]
/-! 25read -/
theorem eqB {prog : Program} {w : World} {A : Around} {E : Value → Shared → Prop} {s : Shared} {t u : Tok} {Q : Value → Shared → Prop} {b c : Bool} (hb : (!b) = c) (h : Q (.bool c) s) : wpAny (model prog w) A (compareOp .Eq (.str (bS [b]) t) (.str (Str.ofString "0") u)) Q E s := by
  refine PyProof.Rows.eq_str ?_
  have : (bS [b] == Str.ofString "0") = (!b) := by cases b <;> decide +kernel
  rw [this, hb]; exact h
noncomputable def camS : Str := Str.ofString "came"
/-- what the receiver says -/
noncomputable def recF : List Int → List Str → List Str → List Str × Int
  | [], _, _ => ([], 0)
  | o :: r, st, rt =>
    let p := placeF st (nameF o)
    let x := if (st.length : Int) < p then nameF o else rt.getD (rt.length - p.toNat) ⟨#[]⟩
    (x :: (recF r (tabF st (nameF o)) (tabF rt x)).1, (2 * (sizeF p : Int) - 1) + (recF r (tabF st (nameF o)) (tabF rt x)).2)

theorem tabF_low {rt st : List Str} {x y : Str} (h : rt.map low = st.map low) (e : low x = low y) : (tabF rt x).map low = (tabF st y).map low := by
  unfold tabF
  rw [List.map_append, List.map_append, e]
  have key : ∀ l : List Str, (l.filter fun r => decide (low r ≠ low y)).map low = (l.map low).filter fun r => decide (r ≠ low y) := fun l => by
    rw [List.filter_map]; rfl
  rw [key, key, h]
  simp [e]
theorem rec_low {rt st : List Str} {o : Int} {x : Str} (h : rt.map low = st.map low) (hx : (if (st.length : Int) < placeF st (nameF o) then nameF o else rt.getD (rt.length - (placeF st (nameF o)).toNat) ⟨#[]⟩) = x) : low x = low (nameF o) := by
  have hll : rt.length = st.length := by have := congrArg List.length h; simpa using this
  by_cases hin : low (nameF o) ∈ st.map low
  · have hp : placeF st (nameF o) = (st.length : Int) - ((st.map low).idxOf (low (nameF o)) : Nat) := by unfold placeF; rw [if_pos hin]
    have hi := List.idxOf_lt_length_iff.mpr hin
    rw [List.length_map] at hi
    rw [if_neg (by omega)] at hx
    have e : rt.length - (placeF st (nameF o)).toNat = (st.map low).idxOf (low (nameF o)) := by omega
    rw [e, List.getD, List.getElem?_eq_getElem (by omega)] at hx
    rw [← hx]
    show low rt[_] = _
    have h1 : (rt.map low)[(st.map low).idxOf (low (nameF o))]? = some (low (nameF o)) := by
      rw [h, List.getElem?_eq_getElem (by rw [List.length_map]; omega), List.getElem_idxOf]
    rw [List.getElem?_map, List.getElem?_eq_getElem (by omega)] at h1
    exact Option.some.inj h1
  · have hp : placeF st (nameF o) = (st.length : Int) + 1 := by unfold placeF; rw [if_neg hin]
    rw [if_pos (by omega)] at hx
    rw [← hx]
inductive ReadJ (os : List Int) (bb : List Bool) (Z : Nat) (tb : Tok) (t d hl P : Addr) (hsh : Int) (tke : Tok) (i : Nat) (m : Str → Option Value) (news : List (Addr × Obj)) : Prop
  | mk (gv : Array Value) (ng : Nat) (tups : List (Addr × Obj)) (nl : Nat) (sp : Int) (ta tsp : Tok) (stab rtab : List Str) (pre : List Bool) (got : List Str) (hn : news = (P, listOf gv ng) :: (t, instObj 236 d) :: (d, dictOf [⟨hsh, .str (Str.ofString "_headers") tke, .ref hl⟩] 1) :: (hl, listOf (refsOf tups) nl) :: tups)
      (hm : Has m [(Str.ofString "bits", .str (bS bb) tb), (Str.ofString "table", .ref t), (Str.ofString "got", .ref P), (Str.ofString "at", .int (pre.length : Nat) ta), (Str.ofString "spent", .int sp tsp)]) (hgv : StrsAre gv.toList got) (hrow : Paired Row tups (rtab.map fun x => (x, camS))) (htab : ∀ x ∈ rtab, TameS x) (hlow : rtab.map low = stab.map low) (htl : rtab.length ≤ i) (hgl : got.length = i)
      (hbb : bb = pre ++ (sentF (os.drop i) stab).2 ++ List.replicate Z false) (hr : (got ++ (recF (os.drop i) stab rtab).1, sp + (recF (os.drop i) stab rtab).2) = recF os [] [])
inductive ReadW (bb : List Bool) (z pl : Nat) (sp : Int) (tb ta tsp : Tok) (t P : Addr) (led : List (Addr × Obj)) (c : Nat) (m : Str → Option Value) (news : List (Addr × Obj)) : Prop
  | mk (j : Nat) (ta' : Tok) (e : c = z - j) (hj : j ≤ z) (hm : Has m [(Str.ofString "bits", .str (bS bb) tb), (Str.ofString "table", .ref t), (Str.ofString "got", .ref P), (Str.ofString "at", .int ((pl : Nat) + (j : Nat)) ta'), (Str.ofString "spent", .int sp tsp), (Str.ofString "begin", .int (pl : Nat) ta)]) (hn : news = led)
inductive MidRead (s : Shared) (L P t : Addr) (bb : List Bool) (tb : Tok) (pre : List Bool) (o : Int) (stab : List Str) (sp : Int) (j : Nat) (xx : Str) (led : List (Addr × Obj)) (f : Flow) (s' : Shared) : Prop
  | mk (h' : Heap) (tk' : Nat) (u' : Str → Option Value) (tx ta3 tsp3 : Tok) (ef : f = .next) (es : s' = { s with heap := h', toks := tk' }) (F : Fr s.heap L h' (lk [(Str.ofString "bits", .str (bS bb) tb), (Str.ofString "table", .ref t), (Str.ofString "got", .ref P), (Str.ofString "at", .int ((pre ++ addF stab o).length : Nat) ta3), (Str.ofString "spent", .int (sp + (2 * ((j + 1 : Nat) : Int) - 1)) tsp3), (Str.ofString "name", .str xx tx)] u')) (N : News s.heap L h' led)
set_option maxHeartbeats 8000000 in
theorem read_spec (w : World) {mean mg mb} {A : Around} {s : Shared} (G : Gd w mean mg mb s.heap) (r : Room 8 A)
    {os : List Int} {gs : List (List Bool)} {rem : List Bool} {z : Nat} (hb : ∀ o ∈ os, 0 ≤ o ∧ o < 256) (hz : os.length ≤ 20) (hg : ∀ g ∈ gs, g.length = 6) (hrem : rem.length = 0 ∨ rem.length = 2 ∨ rem.length = 4) (hfl : gs.flatten ++ rem = (sentF os []).2 ++ List.replicate z false) (hfz : (gs.flatten ++ rem).length ≤ 648)
    (tv tc : Tok) (E : Value → Shared → Prop) :
    wpAny (model pg w) A (call (.ref 276) [.str (cS (b64out gs rem)) tv, .int os.length tc]) (fun y s' => Keeps s s' ∧ ∃ T P gv ng tsp, y = .ref T ∧ s.heap.get? T = none ∧ s.heap.get? P = none ∧ @Ne Nat P T ∧ s'.heap.get? T = some { cls := .type "tuple", data := .seq #[.ref P, .int (recF os [] []).2 tsp] } ∧ s'.heap.get? P = some (listOf gv ng) ∧ StrsAre gv.toList (recF os [] []).1) E s := by
  refine post_var fun Q0 hPost => ?_
  have KX := G.X
  have KT := G.T
  refine wpAny_call ?_
  refine enterC (news := []) [(Str.ofString "value", .str (cS (b64out gs rem)) tv), (Str.ofString "count", .int os.length tc)] KX KT.nolimit (fun _ _ e => e) (Nat.le_refl _) (fun _ h => nomatch h) (by k_dflt k_is) (by k_dflt k_is) r.lt (BindsTo.of_eq rfl) rfl (by decide) ?_ rfl rfl rfl
  intro L h₁ tk cells F N Y kp' hL
  obtain ⟨og, rfl, hog⟩ := CellsAre.one Y
  clear Y
  change og.data = .cell none at hog
  replace N : News s.heap L h₁ [(L + 1, og)] := N
  ((repeat' (first | (k_here; (with_reducible show wpAny _ _ (getMethod (Value.ref _) (Str.ofString "_convert_string_type") _) _ _ _); refine meth_conv ‹Fr _ _ _ _› (by assumption) (Inst.keeps (by assumption) (Fr.keep ‹Fr _ _ _ _›)) ?_) | (k_here; (with_reducible show wpAny _ _ (getMethod (Value.ref _) (Str.ofString "keys") _) _ _ _); refine meth_keys ‹Fr _ _ _ _› (by assumption) (Inst.keeps (by assumption) (Fr.keep ‹Fr _ _ _ _›)) ?_) | (k_here; (with_reducible show wpAny _ _ (getMethod (Value.ref _) (Str.ofString "get") _) _ _ _); refine meth_get ‹Fr _ _ _ _› (by assumption) (Inst.keeps (by assumption) (Fr.keep ‹Fr _ _ _ _›)) ?_) | (k_here; (with_reducible show wpAny _ _ (getAttr (Value.ref _) (Str.ofString "_headers") _) _ _ _); refine hdr_get ‹Fr _ _ _ _› (by assumption) (Inst.keeps (by assumption) (Fr.keep ‹Fr _ _ _ _›)) ?_) | (k_here; (with_reducible show wpAny _ _ (call (Value.builtin "str.lower") [Value.str _ _]) _ _ _); refine lower_T (by assumption) ?_) | (k_here; (with_reducible show wpAny _ _ (call (Value.builtin "len") [Value.ref _]) _ _ _); with_unfolding_all refine' len_strs ?k1 ?k2 ?k3 ?k4 ?_; (case k1 => assumption); (case k2 => k_mem); (case k3 => assumption); (case k4 => walk_at "mar")) | ((with_reducible show wpAny _ _ (compareOp CmpOp.Eq (Value.str (bS [_]) _) (Value.str _ _)) _ _ _); refine eqB (by rfl) ?_) | walk_at "mstep")); (all_goals (try dsimp only)))
  rename Fr _ _ _ _ => F
  rename News _ _ _ _ => N
  rename Obj.data _ = Data.cell (some (Value.str _ _)) => hog2
  rename_i tg _ og2
  refine comp_eval (cl := [(Str.ofString "signs", L + 1)]) notEq (fun v y => ∃ c t, v = Value.str ⟨#[c]⟩ t ∧ IsS (bS (bitsL (signIx c) 6)) y) (by rfl) (by decide) rfl (by decide) rfl ?_
  ((repeat' (first | (k_here; (with_reducible show wpAny _ _ (getMethod (Value.ref _) (Str.ofString "_convert_string_type") _) _ _ _); refine meth_conv ‹Fr _ _ _ _› (by assumption) (Inst.keeps (by assumption) (Fr.keep ‹Fr _ _ _ _›)) ?_) | (k_here; (with_reducible show wpAny _ _ (getMethod (Value.ref _) (Str.ofString "keys") _) _ _ _); refine meth_keys ‹Fr _ _ _ _› (by assumption) (Inst.keeps (by assumption) (Fr.keep ‹Fr _ _ _ _›)) ?_) | (k_here; (with_reducible show wpAny _ _ (getMethod (Value.ref _) (Str.ofString "get") _) _ _ _); refine meth_get ‹Fr _ _ _ _› (by assumption) (Inst.keeps (by assumption) (Fr.keep ‹Fr _ _ _ _›)) ?_) | (k_here; (with_reducible show wpAny _ _ (getAttr (Value.ref _) (Str.ofString "_headers") _) _ _ _); refine hdr_get ‹Fr _ _ _ _› (by assumption) (Inst.keeps (by assumption) (Fr.keep ‹Fr _ _ _ _›)) ?_) | (k_here; (with_reducible show wpAny _ _ (call (Value.builtin "str.lower") [Value.str _ _]) _ _ _); refine lower_T (by assumption) ?_) | (k_here; (with_reducible show wpAny _ _ (call (Value.builtin "len") [Value.ref _]) _ _ _); with_unfolding_all refine' len_strs ?k1 ?k2 ?k3 ?k4 ?_; (case k1 => assumption); (case k2 => k_mem); (case k3 => assumption); (case k4 => walk_at "mar")) | ((with_reducible show wpAny _ _ (compareOp CmpOp.Eq (Value.str (bS [_]) _) (Value.str _ _)) _ _ _); refine eqB (by rfl) ?_) | walk_at "mstep")); (all_goals (try dsimp only)))
  have hcell : Heap.IsCell _ (L + 1) (some (.str signsS tg)) := ⟨og2, (N (L + 1, og2) (.head _)).1, hog2⟩
  have G2 := G.keeps F.keep
  have hol : (b64out gs rem).length ≤ 200 := by
    rw [List.length_append, flat6 _ hg] at hfz
    unfold b64out
    rw [List.length_append, List.length_map]
    split
    · simp; omega
    · split
      · simp; omega
      · simp; omega
  have hcs : (cS (b64out gs rem)).cps.toList = (b64out gs rem).map (·.toNat) := rfl
  have hcz : (cS (b64out gs rem)).cps.size = (b64out gs rem).length := by simp [cS]
  have hat : ∀ (j : Nat) c, (cS (b64out gs rem)).cps[j]? = some c → ((b64out gs rem).map (·.toNat))[j]? = some c := fun j c e => by rw [← Array.getElem?_toList, hcs] at e; exact e
  refine comp_str (Room.deeper (r.less (by decide : 2 ≤ 8))).hd (by rw [hcz, sizeLine_eq]; omega) ⟨?tests, ?elt⟩ ?_
  case tests =>
    rintro C j v s₃ m₃ E' ⟨c, tcc, hc, rfl⟩ hn3 hm3 kp3
    have hcell3 := hcell.keeps kp3
    have KX3 := (G2.keeps kp3).X
    have KT3 := (G2.keeps kp3).T
    have k3' : ∀ b o, s₃.heap.get? b = some o → s₃.heap.get? b = some o := fun _ _ e => e
    clear F N kp3 hcell KX KT G2
    refine wpAny_tests_one ?_
    ((repeat' (first | (k_here; (with_reducible show wpAny _ _ (getMethod (Value.ref _) (Str.ofString "_convert_string_type") _) _ _ _); refine meth_conv ‹Fr _ _ _ _› (by assumption) (Inst.keeps (by assumption) (Fr.keep ‹Fr _ _ _ _›)) ?_) | (k_here; (with_reducible show wpAny _ _ (getMethod (Value.ref _) (Str.ofString "keys") _) _ _ _); refine meth_keys ‹Fr _ _ _ _› (by assumption) (Inst.keeps (by assumption) (Fr.keep ‹Fr _ _ _ _›)) ?_) | (k_here; (with_reducible show wpAny _ _ (getMethod (Value.ref _) (Str.ofString "get") _) _ _ _); refine meth_get ‹Fr _ _ _ _› (by assumption) (Inst.keeps (by assumption) (Fr.keep ‹Fr _ _ _ _›)) ?_) | (k_here; (with_reducible show wpAny _ _ (getAttr (Value.ref _) (Str.ofString "_headers") _) _ _ _); refine hdr_get ‹Fr _ _ _ _› (by assumption) (Inst.keeps (by assumption) (Fr.keep ‹Fr _ _ _ _›)) ?_) | (k_here; (with_reducible show wpAny _ _ (call (Value.builtin "str.lower") [Value.str _ _]) _ _ _); refine lower_T (by assumption) ?_) | (k_here; (with_reducible show wpAny _ _ (call (Value.builtin "len") [Value.ref _]) _ _ _); with_unfolding_all refine' len_strs ?k1 ?k2 ?k3 ?k4 ?_; (case k1 => assumption); (case k2 => k_mem); (case k3 => assumption); (case k4 => walk_at "mar")) | ((with_reducible show wpAny _ _ (compareOp CmpOp.Eq (Value.str (bS [_]) _) (Value.str _ _)) _ _ _); refine eqB (by rfl) ?_) | walk_at "mstep")); (all_goals (try dsimp only)))
    refine ⟨?_, Keeps.tok⟩
    have e61 : Str.ofString "=" = ⟨#[61]⟩ := by decide +kernel
    rw [e61]
    by_cases q : c = 61
    · subst q; rfl
    · have h1 : (⟨#[c]⟩ : Str) ≠ ⟨#[61]⟩ := fun e => q (by have := congrArg (fun x : Str => x.cps.toList) e; simpa using this)
      rw [bne_iff_ne.mpr h1]; simp [notEq, q]
  case elt =>
    rintro C j v s₃ m₃ E' ⟨c, tcc, hc, rfl⟩ hp3 hn3 hm3 kp3
    have hcell3 := hcell.keeps kp3
    have G3 := G2.keeps kp3
    have KX3 := G3.X
    have KT3 := G3.T
    have k3' : ∀ b o, s₃.heap.get? b = some o → s₃.heap.get? b = some o := fun _ _ e => e
    have hsig := b64out_signs hg hrem c (List.mem_of_getElem? (hat j c hc))
    clear F N kp3 hcell KX KT G2
    ((repeat' (first | (k_here; (with_reducible show wpAny _ _ (getMethod (Value.ref _) (Str.ofString "_convert_string_type") _) _ _ _); refine meth_conv ‹Fr _ _ _ _› (by assumption) (Inst.keeps (by assumption) (Fr.keep ‹Fr _ _ _ _›)) ?_) | (k_here; (with_reducible show wpAny _ _ (getMethod (Value.ref _) (Str.ofString "keys") _) _ _ _); refine meth_keys ‹Fr _ _ _ _› (by assumption) (Inst.keeps (by assumption) (Fr.keep ‹Fr _ _ _ _›)) ?_) | (k_here; (with_reducible show wpAny _ _ (getMethod (Value.ref _) (Str.ofString "get") _) _ _ _); refine meth_get ‹Fr _ _ _ _› (by assumption) (Inst.keeps (by assumption) (Fr.keep ‹Fr _ _ _ _›)) ?_) | (k_here; (with_reducible show wpAny _ _ (getAttr (Value.ref _) (Str.ofString "_headers") _) _ _ _); refine hdr_get ‹Fr _ _ _ _› (by assumption) (Inst.keeps (by assumption) (Fr.keep ‹Fr _ _ _ _›)) ?_) | (k_here; (with_reducible show wpAny _ _ (call (Value.builtin "str.lower") [Value.str _ _]) _ _ _); refine lower_T (by assumption) ?_) | (k_here; (with_reducible show wpAny _ _ (call (Value.builtin "len") [Value.ref _]) _ _ _); with_unfolding_all refine' len_strs ?k1 ?k2 ?k3 ?k4 ?_; (case k1 => assumption); (case k2 => k_mem); (case k3 => assumption); (case k4 => walk_at "mar")) | ((with_reducible show wpAny _ _ (compareOp CmpOp.Eq (Value.str (bS [_]) _) (Value.str _ _)) _ _ _); refine eqB (by rfl) ?_) | walk_at "mstep")); (all_goals (try dsimp only)))
    have h61 : c ≠ 61 := by simpa [notEq] using hp3
    obtain ⟨q, hq, rfl⟩ := hsig.resolve_left h61
    refine sign_index hq (Room.deeper (r.less (by decide : 2 ≤ 8))).hd ?_
    repeat' (walk_at "mguard"; walk1)
    refine ⟨KX3, ?_⟩
    refine wpAny_mono (bits_spec w (s := { s₃ with toks := s₃.toks + 1 + 1 }) G3 (Room.deeper (r.less (by decide : 3 ≤ 8))) (signIx (b64c (q : Int)).toNat) 6 (by omega) _ _ _) (fun y s' hq2 => ?_) fun _ _ z => z
    obtain ⟨⟨h4, tk4, rfl, k4⟩, t4, rfl⟩ := hq2
    exact ⟨⟨_, _, rfl, t4, rfl⟩, ⟨h4, tk4, rfl, k4⟩⟩
  intro D h' tk' ys n' vs' hD hD' hlen8 hvs8 hF hk
  obtain ⟨F', N', hDn⟩ := addNew F N hk hD hD'
  clear F N
  have hS := strs_read (cs := (b64out gs rem).map (·.toNat)) (paired_of (by rw [hlen8, hcz, List.length_map]) fun j v hj => by
    obtain ⟨c, tcc, hc, rfl⟩ := hvs8 j v hj
    exact ⟨c, hat j c hc, tcc, rfl⟩) hF
  obtain ⟨zz, hzz, hrd⟩ := readB_out hg hrem
  unfold readB at hrd
  ((repeat' (first | (k_here; (with_reducible show wpAny _ _ (getMethod (Value.ref _) (Str.ofString "_convert_string_type") _) _ _ _); refine meth_conv ‹Fr _ _ _ _› (by assumption) (Inst.keeps (by assumption) (Fr.keep ‹Fr _ _ _ _›)) ?_) | (k_here; (with_reducible show wpAny _ _ (getMethod (Value.ref _) (Str.ofString "keys") _) _ _ _); refine meth_keys ‹Fr _ _ _ _› (by assumption) (Inst.keeps (by assumption) (Fr.keep ‹Fr _ _ _ _›)) ?_) | (k_here; (with_reducible show wpAny _ _ (getMethod (Value.ref _) (Str.ofString "get") _) _ _ _); refine meth_get ‹Fr _ _ _ _› (by assumption) (Inst.keeps (by assumption) (Fr.keep ‹Fr _ _ _ _›)) ?_) | (k_here; (with_reducible show wpAny _ _ (getAttr (Value.ref _) (Str.ofString "_headers") _) _ _ _); refine hdr_get ‹Fr _ _ _ _› (by assumption) (Inst.keeps (by assumption) (Fr.keep ‹Fr _ _ _ _›)) ?_) | (k_here; (with_reducible show wpAny _ _ (call (Value.builtin "str.lower") [Value.str _ _]) _ _ _); refine lower_T (by assumption) ?_) | (k_here; (with_reducible show wpAny _ _ (call (Value.builtin "len") [Value.ref _]) _ _ _); with_unfolding_all refine' len_strs ?k1 ?k2 ?k3 ?k4 ?_; (case k1 => assumption); (case k2 => k_mem); (case k3 => assumption); (case k4 => walk_at "mar")) | ((with_reducible show wpAny _ _ (compareOp CmpOp.Eq (Value.str (bS [_]) _) (Value.str _ _)) _ _ _); refine eqB (by rfl) ?_) | walk_at "mstep")); (all_goals (try dsimp only)))
  rename Fr _ _ _ _ => F
  rename News _ _ _ _ => N
  have hal : (gs.flatten ++ rem ++ List.replicate zz false).length ≤ 652 := by rw [List.length_append, List.length_replicate]; omega
  refine join_listW (News.isList N (.head _)) hS (by decide) ?_ ?_
  · rw [sum_lens, hrd]
    have hff : (List.filter (fun c => decide (c ≠ 61)) ((b64out gs rem).map (·.toNat))).length ≤ 200 := by
      have := List.length_filter_le (fun c => decide (c ≠ 61)) ((b64out gs rem).map (·.toNat))
      rw [List.length_map] at this; omega
    simp only [List.length_map]
    omega
  intro tb kb
  have e3 : Str.ofString "" = ⟨#[]⟩ := by decide +kernel
  rw [e3, join_bits, hrd, hfl, List.append_assoc, List.replicate_append_replicate]
  rw [hfl, List.append_assoc, List.replicate_append_replicate] at hal
  clear hrd hS hF hvs8 hlen8 hDn hcell G2 hD hD' hk
  replace N : News s.heap L h' [] := fun _ h => nomatch h
  revert hal
  refine gen_at (z + zz) ?_
  intro Z _
  refine gen_at ((sentF os []).2 ++ List.replicate Z false) ?_
  intro bb hbb hal
  ((repeat' (first | (k_here; (with_reducible show wpAny _ _ (getMethod (Value.ref _) (Str.ofString "_convert_string_type") _) _ _ _); refine meth_conv ‹Fr _ _ _ _› (by assumption) (Inst.keeps (by assumption) (Fr.keep ‹Fr _ _ _ _›)) ?_) | (k_here; (with_reducible show wpAny _ _ (getMethod (Value.ref _) (Str.ofString "keys") _) _ _ _); refine meth_keys ‹Fr _ _ _ _› (by assumption) (Inst.keeps (by assumption) (Fr.keep ‹Fr _ _ _ _›)) ?_) | (k_here; (with_reducible show wpAny _ _ (getMethod (Value.ref _) (Str.ofString "get") _) _ _ _); refine meth_get ‹Fr _ _ _ _› (by assumption) (Inst.keeps (by assumption) (Fr.keep ‹Fr _ _ _ _›)) ?_) | (k_here; (with_reducible show wpAny _ _ (getAttr (Value.ref _) (Str.ofString "_headers") _) _ _ _); refine hdr_get ‹Fr _ _ _ _› (by assumption) (Inst.keeps (by assumption) (Fr.keep ‹Fr _ _ _ _›)) ?_) | (k_here; (with_reducible show wpAny _ _ (call (Value.builtin "str.lower") [Value.str _ _]) _ _ _); refine lower_T (by assumption) ?_) | (k_here; (with_reducible show wpAny _ _ (call (Value.builtin "len") [Value.ref _]) _ _ _); with_unfolding_all refine' len_strs ?k1 ?k2 ?k3 ?k4 ?_; (case k1 => assumption); (case k2 => k_mem); (case k3 => assumption); (case k4 => walk_at "mar")) | ((with_reducible show wpAny _ _ (compareOp CmpOp.Eq (Value.str (bS [_]) _) (Value.str _ _)) _ _ _); refine eqB (by rfl) ?_) | walk_at "mstep")); (all_goals (try dsimp only)))
  rename Fr _ _ _ _ => F
  rename News _ _ _ _ => N
  refine new0 w G (Room.deeper (r.less (by decide : 4 ≤ 8))) F N (fun t d hl hsh tke h' tk F' N' ap n1 n2 n3 T => ?_)
  have n1' : @Ne Addr t hl := n1
  have n2' : @Ne Addr d hl := n2
  have n3' : @Ne Addr d t := n3
  clear ap n1 n2 n3 F N T
  ((repeat' (first | (k_here; (with_reducible show wpAny _ _ (getMethod (Value.ref _) (Str.ofString "_convert_string_type") _) _ _ _); refine meth_conv ‹Fr _ _ _ _› (by assumption) (Inst.keeps (by assumption) (Fr.keep ‹Fr _ _ _ _›)) ?_) | (k_here; (with_reducible show wpAny _ _ (getMethod (Value.ref _) (Str.ofString "keys") _) _ _ _); refine meth_keys ‹Fr _ _ _ _› (by assumption) (Inst.keeps (by assumption) (Fr.keep ‹Fr _ _ _ _›)) ?_) | (k_here; (with_reducible show wpAny _ _ (getMethod (Value.ref _) (Str.ofString "get") _) _ _ _); refine meth_get ‹Fr _ _ _ _› (by assumption) (Inst.keeps (by assumption) (Fr.keep ‹Fr _ _ _ _›)) ?_) | (k_here; (with_reducible show wpAny _ _ (getAttr (Value.ref _) (Str.ofString "_headers") _) _ _ _); refine hdr_get ‹Fr _ _ _ _› (by assumption) (Inst.keeps (by assumption) (Fr.keep ‹Fr _ _ _ _›)) ?_) | (k_here; (with_reducible show wpAny _ _ (call (Value.builtin "str.lower") [Value.str _ _]) _ _ _); refine lower_T (by assumption) ?_) | (k_here; (with_reducible show wpAny _ _ (call (Value.builtin "len") [Value.ref _]) _ _ _); with_unfolding_all refine' len_strs ?k1 ?k2 ?k3 ?k4 ?_; (case k1 => assumption); (case k2 => k_mem); (case k3 => assumption); (case k4 => walk_at "mar")) | ((with_reducible show wpAny _ _ (compareOp CmpOp.Eq (Value.str (bS [_]) _) (Value.str _ _)) _ _ _); refine eqB (by rfl) ?_) | walk_at "mstep")); (all_goals (try dsimp only)))
  rename Fr _ _ _ _ => F
  rename News _ _ _ _ => N
  rename_i P _ l1 _ _ _ _ _
  refine For_invV s.heap rfl rfl ?_ (hE := PassesOwn.never)
  ((repeat' (first | (k_here; (with_reducible show wpAny _ _ (getMethod (Value.ref _) (Str.ofString "_convert_string_type") _) _ _ _); refine meth_conv ‹Fr _ _ _ _› (by assumption) (Inst.keeps (by assumption) (Fr.keep ‹Fr _ _ _ _›)) ?_) | (k_here; (with_reducible show wpAny _ _ (getMethod (Value.ref _) (Str.ofString "keys") _) _ _ _); refine meth_keys ‹Fr _ _ _ _› (by assumption) (Inst.keeps (by assumption) (Fr.keep ‹Fr _ _ _ _›)) ?_) | (k_here; (with_reducible show wpAny _ _ (getMethod (Value.ref _) (Str.ofString "get") _) _ _ _); refine meth_get ‹Fr _ _ _ _› (by assumption) (Inst.keeps (by assumption) (Fr.keep ‹Fr _ _ _ _›)) ?_) | (k_here; (with_reducible show wpAny _ _ (getAttr (Value.ref _) (Str.ofString "_headers") _) _ _ _); refine hdr_get ‹Fr _ _ _ _› (by assumption) (Inst.keeps (by assumption) (Fr.keep ‹Fr _ _ _ _›)) ?_) | (k_here; (with_reducible show wpAny _ _ (call (Value.builtin "str.lower") [Value.str _ _]) _ _ _); refine lower_T (by assumption) ?_) | (k_here; (with_reducible show wpAny _ _ (call (Value.builtin "len") [Value.ref _]) _ _ _); with_unfolding_all refine' len_strs ?k1 ?k2 ?k3 ?k4 ?_; (case k1 => assumption); (case k2 => k_mem); (case k3 => assumption); (case k4 => walk_at "mar")) | ((with_reducible show wpAny _ _ (compareOp CmpOp.Eq (Value.str (bS [_]) _) (Value.str _ _)) _ _ _); refine eqB (by rfl) ?_) | walk_at "mstep")); (all_goals (try dsimp only)))
  rename Fr _ _ _ _ => F
  rename News _ _ _ _ => N
  rename IsRange _ _ _ _ _ _ _ _ => hr
  refine loopR (n := os.length) hr (small_n (range_up _) (Nat.le_trans hz (by decide)) (by decide) (Nat.le_trans hz (by decide))) (range_up _) (Room.deeper (r.less (by decide : 2 ≤ 8))).hd F N (ReadJ os bb Z tb t d hl P hsh tke) ?h0 ?turn ?done
  case h0 => exact ⟨_, _, [], _, 0, _, _, [], [], [], [], rfl, .cons rfl (.cons rfl (.cons rfl (.cons rfl (.cons rfl .nil)))), .nil, .nil, (fun _ h => nomatch h), rfl, Nat.le_refl _, rfl, hbb.symm, by rw [Int.zero_add]; rfl⟩
  case done =>
    clear F N hr
    rintro h tk m' news' ⟨gv, ng, tups, nl, sp, ta, tsp, stab, rtab, pre, got, rfl, hm, hgv, hrow, htab, hlow, htl, hgl, hbbs, hrec⟩ F N
    obtain ⟨u, rfl⟩ := hm.open
    have hdz : os.drop os.length = [] := List.drop_length
    rw [hdz] at hrec
    have hs1 : got = (recF os [] []).1 := by rw [← hrec]; simp [recF]
    have hs2 : sp = (recF os [] []).2 := by rw [← hrec]; simp [recF]
    ((repeat' (first | (k_here; (with_reducible show wpAny _ _ (getMethod (Value.ref _) (Str.ofString "_convert_string_type") _) _ _ _); refine meth_conv ‹Fr _ _ _ _› (by assumption) (Inst.keeps (by assumption) (Fr.keep ‹Fr _ _ _ _›)) ?_) | (k_here; (with_reducible show wpAny _ _ (getMethod (Value.ref _) (Str.ofString "keys") _) _ _ _); refine meth_keys ‹Fr _ _ _ _› (by assumption) (Inst.keeps (by assumption) (Fr.keep ‹Fr _ _ _ _›)) ?_) | (k_here; (with_reducible show wpAny _ _ (getMethod (Value.ref _) (Str.ofString "get") _) _ _ _); refine meth_get ‹Fr _ _ _ _› (by assumption) (Inst.keeps (by assumption) (Fr.keep ‹Fr _ _ _ _›)) ?_) | (k_here; (with_reducible show wpAny _ _ (getAttr (Value.ref _) (Str.ofString "_headers") _) _ _ _); refine hdr_get ‹Fr _ _ _ _› (by assumption) (Inst.keeps (by assumption) (Fr.keep ‹Fr _ _ _ _›)) ?_) | (k_here; (with_reducible show wpAny _ _ (call (Value.builtin "str.lower") [Value.str _ _]) _ _ _); refine lower_T (by assumption) ?_) | (k_here; (with_reducible show wpAny _ _ (call (Value.builtin "len") [Value.ref _]) _ _ _); with_unfolding_all refine' len_strs ?k1 ?k2 ?k3 ?k4 ?_; (case k1 => assumption); (case k2 => k_mem); (case k3 => assumption); (case k4 => walk_at "mar")) | ((with_reducible show wpAny _ _ (compareOp CmpOp.Eq (Value.str (bS [_]) _) (Value.str _ _)) _ _ _); refine eqB (by rfl) ?_) | walk_at "mstep")); (all_goals (try dsimp only)))
    rename Fr _ _ _ _ => F
    rename News _ _ _ _ => N
    subst hPost
    refine ⟨Keeps.of_fr F, _, P, gv, ng, _, rfl, (N _ (.head _)).2.2, (N _ (.tail _ (.head _))).2.2, ?_, by rw [← hs2]; exact (N _ (.head _)).1, (N _ (.tail _ (.head _))).1, by rw [← hs1]; exact hgv⟩
    omega
  case turn =>
    clear F N hr
    intro i ti m₁ news₁ h tk own I R0 hTE
    rintro hi ⟨gv, ng, tups, nl, sp, ta, tsp, stab, rtab, pre, got, rfl, hm, hgv, hrow, htab, hlow, htl, hgl, hbbs, hrec⟩ hoff hown hIo F N
    obtain ⟨u, rfl⟩ := hm.open
    obtain ⟨o, ho⟩ : ∃ o, os[i]? = some o := ⟨_, List.getElem?_eq_getElem hi⟩
    have hdrop : os.drop i = o :: os.drop (i + 1) := by
      rw [List.drop_eq_getElem_cons hi, (List.getElem?_eq_some_iff.mp ho).2]
    have hob := hb o (List.mem_of_getElem? ho)
    have hll : rtab.length = stab.length := by have := congrArg List.length hlow; simpa using this
    have hpb := placeF_bd (x := nameF o) (by omega : stab.length ≤ 64)
    rw [hdrop, sentF] at hbbs
    rw [hdrop] at hrec
    have hps : 1 ≤ sizeF (placeF stab (nameF o)) := by unfold sizeF; omega
    have hps2 : sizeF (placeF stab (nameF o)) ≤ 8 := by
      unfold sizeF
      have : Nat.log2 (placeF stab (nameF o)).toNat < 8 := by
        rw [Nat.log2_lt (by omega)]; omega
      omega
    have hbt := bits_top (placeF stab (nameF o)).toNat (by omega) (by omega)
    rw [Int.toNat_of_nonneg (by omega)] at hbt
    change numL (bitsL (placeF stab (nameF o)) (sizeF (placeF stab (nameF o)))) = _ ∧ (bitsL (placeF stab (nameF o)) (sizeF (placeF stab (nameF o)))).head? = some true at hbt
    obtain ⟨z, hz1⟩ : ∃ z, sizeF (placeF stab (nameF o)) = z + 1 := ⟨sizeF (placeF stab (nameF o)) - 1, by omega⟩
    have hbb2 : bb = pre ++ (List.replicate z false ++ bitsL (placeF stab (nameF o)) (z + 1) ++ (if (stab.length : Int) < placeF stab (nameF o) then bitsL o 8 else [])) ++ ((sentF (os.drop (i + 1)) (tabF stab (nameF o))).2 ++ List.replicate Z false) := by
      rw [hbbs]
      show pre ++ (addF stab o ++ _) ++ _ = _
      unfold addF
      rw [hz1]
      simp only [Nat.add_sub_cancel, List.append_assoc]
    rw [hz1] at hbt
    obtain ⟨q1, q2, q3, q4, q5⟩ := parse1 hbb2 (bitsLen _ _) hbt.2
    have sub : ∀ p ∈ tups, p ∈ ((P, listOf gv ng) :: (t, instObj 236 d) :: (d, dictOf [⟨hsh, .str (Str.ofString "_headers") tke, .ref hl⟩] 1) :: (hl, listOf (refsOf tups) nl) :: (tups ++ own)) := fun p hp => .tail _ (.tail _ (.tail _ (.tail _ (List.mem_append.mpr (.inl hp)))))
    replace N : News s.heap L h ((P, listOf gv ng) :: (t, instObj 236 d) :: (d, dictOf [⟨hsh, .str (Str.ofString "_headers") tke, .ref hl⟩] 1) :: (hl, listOf (refsOf tups) nl) :: (tups ++ own)) := N
    have aP := tail_ne N (.head _) sub hrow (.inl (by simp)) hown (hoff _ (.head _))
    have at' := tail_ne N (.tail _ (.head _)) sub hrow (.inl (by simp)) hown (hoff _ (.tail _ (.head _)))
    have ad := tail_ne N (.tail _ (.tail _ (.head _))) sub hrow (.inl (by simp [dictOf])) hown (hoff _ (.tail _ (.tail _ (.head _))))
    have ah := tail_ne N (.tail _ (.tail _ (.tail _ (.head _)))) sub hrow (.inl (by simp)) hown (hoff _ (.tail _ (.tail _ (.tail _ (.head _)))))
    ((repeat' ((fail_if_success (with_reducible first | show wpAny _ _ (exec (Stmt.If _ _ _ _) _) _ _ _ | show wpAny _ _ (subscriptTail _ _ _ _) _ _ _)); (first | (k_here; (with_reducible show wpAny _ _ (getMethod (Value.ref _) (Str.ofString "_convert_string_type") _) _ _ _); refine meth_conv ‹Fr _ _ _ _› (by assumption) (Inst.keeps (by assumption) (Fr.keep ‹Fr _ _ _ _›)) ?_) | (k_here; (with_reducible show wpAny _ _ (getMethod (Value.ref _) (Str.ofString "keys") _) _ _ _); refine meth_keys ‹Fr _ _ _ _› (by assumption) (Inst.keeps (by assumption) (Fr.keep ‹Fr _ _ _ _›)) ?_) | (k_here; (with_reducible show wpAny _ _ (getMethod (Value.ref _) (Str.ofString "get") _) _ _ _); refine meth_get ‹Fr _ _ _ _› (by assumption) (Inst.keeps (by assumption) (Fr.keep ‹Fr _ _ _ _›)) ?_) | (k_here; (with_reducible show wpAny _ _ (getAttr (Value.ref _) (Str.ofString "_headers") _) _ _ _); refine hdr_get ‹Fr _ _ _ _› (by assumption) (Inst.keeps (by assumption) (Fr.keep ‹Fr _ _ _ _›)) ?_) | (k_here; (with_reducible show wpAny _ _ (call (Value.builtin "str.lower") [Value.str _ _]) _ _ _); refine lower_T (by assumption) ?_) | (k_here; (with_reducible show wpAny _ _ (call (Value.builtin "len") [Value.ref _]) _ _ _); with_unfolding_all refine' len_strs ?k1 ?k2 ?k3 ?k4 ?_; (case k1 => assumption); (case k2 => k_mem); (case k3 => assumption); (case k4 => walk_at "mar")) | ((with_reducible show wpAny _ _ (compareOp CmpOp.Eq (Value.str (bS [_]) _) (Value.str _ _)) _ _ _); refine eqB (by rfl) ?_) | walk_at "mstep"))); (all_goals (try dsimp only)))
    rename Fr _ _ _ _ => F
    rename News _ _ _ _ => N
    refine While_own (ReadW bb z pre.length sp tb ta tsp t P ((P, listOf gv ng) :: (t, instObj 236 d) :: (d, dictOf [⟨hsh, .str (Str.ofString "_headers") tke, .ref hl⟩] 1) :: (hl, listOf (refsOf tups) nl) :: (tups ++ own))) F N
      ⟨0, _, rfl, Nat.zero_le _, .cons rfl (.cons rfl (.cons rfl (.consI rfl (by simp) (.cons rfl (.cons rfl .nil))))), rfl⟩ ?_ PassesOwn.never
    clear F N
    intro R1 c m₁ news₁ h₁ tk₁ hR1 F N
    rintro ⟨j, ta', rfl, hj, hm, rfl⟩
    obtain ⟨u, rfl⟩ := hm.open
    by_cases hjz : j < z
    · have hch : bb[((pre.length : Int) + (j : Int)).toNat]? = some false := by
        rw [← q1 j hjz]; congr 1
      ((repeat' ((fail_if_success (with_reducible first | show wpAny _ _ (exec (Stmt.If _ _ _ _) _) _ _ _ | show wpAny _ _ (subscriptTail _ _ _ _) _ _ _)); (first | (k_here; (with_reducible show wpAny _ _ (getMethod (Value.ref _) (Str.ofString "_convert_string_type") _) _ _ _); refine meth_conv ‹Fr _ _ _ _› (by assumption) (Inst.keeps (by assumption) (Fr.keep ‹Fr _ _ _ _›)) ?_) | (k_here; (with_reducible show wpAny _ _ (getMethod (Value.ref _) (Str.ofString "keys") _) _ _ _); refine meth_keys ‹Fr _ _ _ _› (by assumption) (Inst.keeps (by assumption) (Fr.keep ‹Fr _ _ _ _›)) ?_) | (k_here; (with_reducible show wpAny _ _ (getMethod (Value.ref _) (Str.ofString "get") _) _ _ _); refine meth_get ‹Fr _ _ _ _› (by assumption) (Inst.keeps (by assumption) (Fr.keep ‹Fr _ _ _ _›)) ?_) | (k_here; (with_reducible show wpAny _ _ (getAttr (Value.ref _) (Str.ofString "_headers") _) _ _ _); refine hdr_get ‹Fr _ _ _ _› (by assumption) (Inst.keeps (by assumption) (Fr.keep ‹Fr _ _ _ _›)) ?_) | (k_here; (with_reducible show wpAny _ _ (call (Value.builtin "str.lower") [Value.str _ _]) _ _ _); refine lower_T (by assumption) ?_) | (k_here; (with_reducible show wpAny _ _ (call (Value.builtin "len") [Value.ref _]) _ _ _); with_unfolding_all refine' len_strs ?k1 ?k2 ?k3 ?k4 ?_; (case k1 => assumption); (case k2 => k_mem); (case k3 => assumption); (case k4 => walk_at "mar")) | ((with_reducible show wpAny _ _ (compareOp CmpOp.Eq (Value.str (bS [_]) _) (Value.str _ _)) _ _ _); refine eqB (by rfl) ?_) | walk_at "mstep"))); (all_goals (try dsimp only)))
      refine charB (by omega) hch (by omega) ?_
      ((repeat' ((fail_if_success (with_reducible first | show wpAny _ _ (exec (Stmt.If _ _ _ _) _) _ _ _ | show wpAny _ _ (subscriptTail _ _ _ _) _ _ _)); (first | (k_here; (with_reducible show wpAny _ _ (getMethod (Value.ref _) (Str.ofString "_convert_string_type") _) _ _ _); refine meth_conv ‹Fr _ _ _ _› (by assumption) (Inst.keeps (by assumption) (Fr.keep ‹Fr _ _ _ _›)) ?_) | (k_here; (with_reducible show wpAny _ _ (getMethod (Value.ref _) (Str.ofString "keys") _) _ _ _); refine meth_keys ‹Fr _ _ _ _› (by assumption) (Inst.keeps (by assumption) (Fr.keep ‹Fr _ _ _ _›)) ?_) | (k_here; (with_reducible show wpAny _ _ (getMethod (Value.ref _) (Str.ofString "get") _) _ _ _); refine meth_get ‹Fr _ _ _ _› (by assumption) (Inst.keeps (by assumption) (Fr.keep ‹Fr _ _ _ _›)) ?_) | (k_here; (with_reducible show wpAny _ _ (getAttr (Value.ref _) (Str.ofString "_headers") _) _ _ _); refine hdr_get ‹Fr _ _ _ _› (by assumption) (Inst.keeps (by assumption) (Fr.keep ‹Fr _ _ _ _›)) ?_) | (k_here; (with_reducible show wpAny _ _ (call (Value.builtin "str.lower") [Value.str _ _]) _ _ _); refine lower_T (by assumption) ?_) | (k_here; (with_reducible show wpAny _ _ (call (Value.builtin "len") [Value.ref _]) _ _ _); with_unfolding_all refine' len_strs ?k1 ?k2 ?k3 ?k4 ?_; (case k1 => assumption); (case k2 => k_mem); (case k3 => assumption); (case k4 => walk_at "mar")) | ((with_reducible show wpAny _ _ (compareOp CmpOp.Eq (Value.str (bS [_]) _) (Value.str _ _)) _ _ _); refine eqB (by rfl) ?_) | walk_at "mstep"))); (all_goals (try dsimp only)))
      rename Fr _ _ _ _ => F
      rename News _ _ _ _ => N
      refine hR1 _ _ ?_
      dsimp only [WhileStep2]
      exact ⟨_, _, _, _, z - (j + 1), rfl, F, N, by omega, j + 1, _, rfl, by omega, .cons rfl (.cons rfl (.cons rfl (.consI rfl (by omega) (.cons rfl (.cons rfl .nil))))), rfl⟩
    · have hjz' : j = z := by omega
      subst hjz'
      have hch : bb[((pre.length : Int) + (j : Int)).toNat]? = some true := by
        rw [← q2]; congr 1
      ((repeat' ((fail_if_success (with_reducible first | show wpAny _ _ (exec (Stmt.If _ _ _ _) _) _ _ _ | show wpAny _ _ (subscriptTail _ _ _ _) _ _ _)); (first | (k_here; (with_reducible show wpAny _ _ (getMethod (Value.ref _) (Str.ofString "_convert_string_type") _) _ _ _); refine meth_conv ‹Fr _ _ _ _› (by assumption) (Inst.keeps (by assumption) (Fr.keep ‹Fr _ _ _ _›)) ?_) | (k_here; (with_reducible show wpAny _ _ (getMethod (Value.ref _) (Str.ofString "keys") _) _ _ _); refine meth_keys ‹Fr _ _ _ _› (by assumption) (Inst.keeps (by assumption) (Fr.keep ‹Fr _ _ _ _›)) ?_) | (k_here; (with_reducible show wpAny _ _ (getMethod (Value.ref _) (Str.ofString "get") _) _ _ _); refine meth_get ‹Fr _ _ _ _› (by assumption) (Inst.keeps (by assumption) (Fr.keep ‹Fr _ _ _ _›)) ?_) | (k_here; (with_reducible show wpAny _ _ (getAttr (Value.ref _) (Str.ofString "_headers") _) _ _ _); refine hdr_get ‹Fr _ _ _ _› (by assumption) (Inst.keeps (by assumption) (Fr.keep ‹Fr _ _ _ _›)) ?_) | (k_here; (with_reducible show wpAny _ _ (call (Value.builtin "str.lower") [Value.str _ _]) _ _ _); refine lower_T (by assumption) ?_) | (k_here; (with_reducible show wpAny _ _ (call (Value.builtin "len") [Value.ref _]) _ _ _); with_unfolding_all refine' len_strs ?k1 ?k2 ?k3 ?k4 ?_; (case k1 => assumption); (case k2 => k_mem); (case k3 => assumption); (case k4 => walk_at "mar")) | ((with_reducible show wpAny _ _ (compareOp CmpOp.Eq (Value.str (bS [_]) _) (Value.str _ _)) _ _ _); refine eqB (by rfl) ?_) | walk_at "mstep"))); (all_goals (try dsimp only)))
      refine charB (by omega) hch (by omega) ?_
      ((repeat' ((fail_if_success (with_reducible first | show wpAny _ _ (exec (Stmt.If _ _ _ _) _) _ _ _ | show wpAny _ _ (subscriptTail _ _ _ _) _ _ _)); (first | (k_here; (with_reducible show wpAny _ _ (getMethod (Value.ref _) (Str.ofString "_convert_string_type") _) _ _ _); refine meth_conv ‹Fr _ _ _ _› (by assumption) (Inst.keeps (by assumption) (Fr.keep ‹Fr _ _ _ _›)) ?_) | (k_here; (with_reducible show wpAny _ _ (getMethod (Value.ref _) (Str.ofString "keys") _) _ _ _); refine meth_keys ‹Fr _ _ _ _› (by assumption) (Inst.keeps (by assumption) (Fr.keep ‹Fr _ _ _ _›)) ?_) | (k_here; (with_reducible show wpAny _ _ (getMethod (Value.ref _) (Str.ofString "get") _) _ _ _); refine meth_get ‹Fr _ _ _ _› (by assumption) (Inst.keeps (by assumption) (Fr.keep ‹Fr _ _ _ _›)) ?_) | (k_here; (with_reducible show wpAny _ _ (getAttr (Value.ref _) (Str.ofString "_headers") _) _ _ _); refine hdr_get ‹Fr _ _ _ _› (by assumption) (Inst.keeps (by assumption) (Fr.keep ‹Fr _ _ _ _›)) ?_) | (k_here; (with_reducible show wpAny _ _ (call (Value.builtin "str.lower") [Value.str _ _]) _ _ _); refine lower_T (by assumption) ?_) | (k_here; (with_reducible show wpAny _ _ (call (Value.builtin "len") [Value.ref _]) _ _ _); with_unfolding_all refine' len_strs ?k1 ?k2 ?k3 ?k4 ?_; (case k1 => assumption); (case k2 => k_mem); (case k3 => assumption); (case k4 => walk_at "mar")) | ((with_reducible show wpAny _ _ (compareOp CmpOp.Eq (Value.str (bS [_]) _) (Value.str _ _)) _ _ _); refine eqB (by rfl) ?_) | walk_at "mstep"))); (all_goals (try dsimp only)))
      rename Fr _ _ _ _ => F
      rename News _ _ _ _ => N
      refine sliceBN (s := ⟨_, _, _, _, _⟩) (i := (pre.length : Int) + (j : Int)) (j := (pre.length : Int) + (j : Int) + ((pre.length : Int) + (j : Int) - (pre.length : Int) + 1)) F N (by omega) (by omega) (by omega) (by omega) (fun h' t' k F' N' => ?_)
      clear F N
      have e1 : ((pre.length : Int) + (j : Int)).toNat = pre.length + j := by omega
      have e2 : ((pre.length : Int) + (j : Int) + ((pre.length : Int) + (j : Int) - (pre.length : Int) + 1) - ((pre.length : Int) + (j : Int))).toNat = j + 1 := by omega
      rw [e1, e2, q3]
      ((repeat' ((fail_if_success (with_reducible first | show wpAny _ _ (exec (Stmt.If _ _ _ _) _) _ _ _ | show wpAny _ _ (subscriptTail _ _ _ _) _ _ _)); (first | (k_here; (with_reducible show wpAny _ _ (getMethod (Value.ref _) (Str.ofString "_convert_string_type") _) _ _ _); refine meth_conv ‹Fr _ _ _ _› (by assumption) (Inst.keeps (by assumption) (Fr.keep ‹Fr _ _ _ _›)) ?_) | (k_here; (with_reducible show wpAny _ _ (getMethod (Value.ref _) (Str.ofString "keys") _) _ _ _); refine meth_keys ‹Fr _ _ _ _› (by assumption) (Inst.keeps (by assumption) (Fr.keep ‹Fr _ _ _ _›)) ?_) | (k_here; (with_reducible show wpAny _ _ (getMethod (Value.ref _) (Str.ofString "get") _) _ _ _); refine meth_get ‹Fr _ _ _ _› (by assumption) (Inst.keeps (by assumption) (Fr.keep ‹Fr _ _ _ _›)) ?_) | (k_here; (with_reducible show wpAny _ _ (getAttr (Value.ref _) (Str.ofString "_headers") _) _ _ _); refine hdr_get ‹Fr _ _ _ _› (by assumption) (Inst.keeps (by assumption) (Fr.keep ‹Fr _ _ _ _›)) ?_) | (k_here; (with_reducible show wpAny _ _ (call (Value.builtin "str.lower") [Value.str _ _]) _ _ _); refine lower_T (by assumption) ?_) | (k_here; (with_reducible show wpAny _ _ (call (Value.builtin "len") [Value.ref _]) _ _ _); with_unfolding_all refine' len_strs ?k1 ?k2 ?k3 ?k4 ?_; (case k1 => assumption); (case k2 => k_mem); (case k3 => assumption); (case k4 => walk_at "mar")) | ((with_reducible show wpAny _ _ (compareOp CmpOp.Eq (Value.str (bS [_]) _) (Value.str _ _)) _ _ _); refine eqB (by rfl) ?_) | walk_at "mstep"))); (all_goals (try dsimp only)))
      rename Fr _ _ _ _ => F
      rename News _ _ _ _ => N
      refine use0 (number_spec w (G.keeps F.keep) (Room.deeper (r.less (by decide : 3 ≤ 8))) (bitsL (placeF stab (nameF o)) (j + 1)) (by rw [bitsLen]; omega) _ _) F N fun tpl h2 tk2 F' N' => ?_
      clear F N
      rw [hbt.1]
      ((repeat' ((fail_if_success (with_reducible first | show wpAny _ _ (exec (Stmt.If _ _ _ _) _) _ _ _ | show wpAny _ _ (subscriptTail _ _ _ _) _ _ _)); (first | (k_here; (with_reducible show wpAny _ _ (getMethod (Value.ref _) (Str.ofString "_convert_string_type") _) _ _ _); refine meth_conv ‹Fr _ _ _ _› (by assumption) (Inst.keeps (by assumption) (Fr.keep ‹Fr _ _ _ _›)) ?_) | (k_here; (with_reducible show wpAny _ _ (getMethod (Value.ref _) (Str.ofString "keys") _) _ _ _); refine meth_keys ‹Fr _ _ _ _› (by assumption) (Inst.keeps (by assumption) (Fr.keep ‹Fr _ _ _ _›)) ?_) | (k_here; (with_reducible show wpAny _ _ (getMethod (Value.ref _) (Str.ofString "get") _) _ _ _); refine meth_get ‹Fr _ _ _ _› (by assumption) (Inst.keeps (by assumption) (Fr.keep ‹Fr _ _ _ _›)) ?_) | (k_here; (with_reducible show wpAny _ _ (getAttr (Value.ref _) (Str.ofString "_headers") _) _ _ _); refine hdr_get ‹Fr _ _ _ _› (by assumption) (Inst.keeps (by assumption) (Fr.keep ‹Fr _ _ _ _›)) ?_) | (k_here; (with_reducible show wpAny _ _ (call (Value.builtin "str.lower") [Value.str _ _]) _ _ _); refine lower_T (by assumption) ?_) | (k_here; (with_reducible show wpAny _ _ (call (Value.builtin "len") [Value.ref _]) _ _ _); with_unfolding_all refine' len_strs ?k1 ?k2 ?k3 ?k4 ?_; (case k1 => assumption); (case k2 => k_mem); (case k3 => assumption); (case k4 => walk_at "mar")) | ((with_reducible show wpAny _ _ (compareOp CmpOp.Eq (Value.str (bS [_]) _) (Value.str _ _)) _ _ _); refine eqB (by rfl) ?_) | walk_at "mstep"))); (all_goals (try dsimp only)))
      rename Fr _ _ _ _ => F
      rename News _ _ _ _ => N
      have T := Tab.ofNews N (.tail _ (.head _)) (.tail _ (.tail _ (.head _))) (.tail _ (.tail _ (.tail _ (.head _)))) sub hrow (by have := hrow.length; simp only [List.length_map] at this; omega)
      refine use (keys_spec w G F.keep (fun p hp => (N p (sub p hp)).2.2) (Room.deeper (r.less (by decide : 2 ≤ 8))) T _) fun y h3 tk3 k3 hq => ?_
      obtain ⟨D, ys, nD, rfl, hD, hD', hS⟩ := hq
      obtain ⟨F', N', hneD⟩ := addNew F N k3 hD hD'
      clear F N T
      rw [keys_of] at hS
      ((repeat' ((fail_if_success (with_reducible first | show wpAny _ _ (exec (Stmt.If _ _ _ _) _) _ _ _ | show wpAny _ _ (subscriptTail _ _ _ _) _ _ _)); (first | (k_here; (with_reducible show wpAny _ _ (getMethod (Value.ref _) (Str.ofString "_convert_string_type") _) _ _ _); refine meth_conv ‹Fr _ _ _ _› (by assumption) (Inst.keeps (by assumption) (Fr.keep ‹Fr _ _ _ _›)) ?_) | (k_here; (with_reducible show wpAny _ _ (getMethod (Value.ref _) (Str.ofString "keys") _) _ _ _); refine meth_keys ‹Fr _ _ _ _› (by assumption) (Inst.keeps (by assumption) (Fr.keep ‹Fr _ _ _ _›)) ?_) | (k_here; (with_reducible show wpAny _ _ (getMethod (Value.ref _) (Str.ofString "get") _) _ _ _); refine meth_get ‹Fr _ _ _ _› (by assumption) (Inst.keeps (by assumption) (Fr.keep ‹Fr _ _ _ _›)) ?_) | (k_here; (with_reducible show wpAny _ _ (getAttr (Value.ref _) (Str.ofString "_headers") _) _ _ _); refine hdr_get ‹Fr _ _ _ _› (by assumption) (Inst.keeps (by assumption) (Fr.keep ‹Fr _ _ _ _›)) ?_) | (k_here; (with_reducible show wpAny _ _ (call (Value.builtin "str.lower") [Value.str _ _]) _ _ _); refine lower_T (by assumption) ?_) | (k_here; (with_reducible show wpAny _ _ (call (Value.builtin "len") [Value.ref _]) _ _ _); with_unfolding_all refine' len_strs ?k1 ?k2 ?k3 ?k4 ?_; (case k1 => assumption); (case k2 => k_mem); (case k3 => assumption); (case k4 => walk_at "mar")) | ((with_reducible show wpAny _ _ (compareOp CmpOp.Eq (Value.str (bS [_]) _) (Value.str _ _)) _ _ _); refine eqB (by rfl) ?_) | walk_at "mstep"))); (all_goals (try dsimp only)))
      rename Fr _ _ _ _ => F
      rename News _ _ _ _ => N
      have hneDp1 : @Ne Addr P D := hneD _ (.head _)
      have hneDp2 : @Ne Addr t D := hneD _ (.tail _ (.head _))
      have hneDp3 : @Ne Addr d D := hneD _ (.tail _ (.tail _ (.head _)))
      have hneDp4 : @Ne Addr hl D := hneD _ (.tail _ (.tail _ (.tail _ (.head _))))
      clear hneD
      have hlr : tups.length = rtab.length := by have := hrow.length; simpa using this
      obtain ⟨u2, F2⟩ := Fr.reHas F [(Str.ofString "bits", .str (bS bb) tb), (Str.ofString "table", .ref t), (Str.ofString "got", .ref P), (Str.ofString "at", .int ((pre.length + (2 * j + 1) : Nat) : Int) _), (Str.ofString "spent", .int (sp + (2 * ((j + 1 : Nat) : Int) - 1)) _), (Str.ofString "place", .int (placeF stab (nameF o)) tpl), (Str.ofString "row", .ref D)] (.cons rfl (.cons rfl (.cons rfl (.consI rfl (by omega) (.consI rfl (by omega) (.cons rfl (.cons rfl .nil)))))))
      clear F
      refine gen_at (if (stab.length : Int) < placeF stab (nameF o) then nameF o else rtab.getD (rtab.length - (placeF stab (nameF o)).toNat) ⟨#[]⟩) ?_
      intro xx hxx
      have hax : (addF stab o).length = 2 * j + 1 + (if (stab.length : Int) < placeF stab (nameF o) then 8 else 0) := by
        unfold addF
        rw [hz1]
        simp only [List.length_append, List.length_replicate, bitsLen]
        split
        · rw [bitsLen]; omega
        · simp; omega
      refine mid (MidRead s L P t bb tb pre o stab sp j xx ((P, listOf gv ng) :: (t, instObj 236 d) :: (d, dictOf [⟨hsh, .str (Str.ofString "_headers") tke, .ref hl⟩] 1) :: (hl, listOf (refsOf tups) nl) :: (tups ++ own))) ?b1 ?_
      case b1 =>
        intro RM hRM
        walk1
        ((repeat' ((fail_if_success (with_reducible first | show wpAny _ _ (exec (Stmt.If _ _ _ _) _) _ _ _ | show wpAny _ _ (subscriptTail _ _ _ _) _ _ _)); (first | (k_here; (with_reducible show wpAny _ _ (getMethod (Value.ref _) (Str.ofString "_convert_string_type") _) _ _ _); refine meth_conv ‹Fr _ _ _ _› (by assumption) (Inst.keeps (by assumption) (Fr.keep ‹Fr _ _ _ _›)) ?_) | (k_here; (with_reducible show wpAny _ _ (getMethod (Value.ref _) (Str.ofString "keys") _) _ _ _); refine meth_keys ‹Fr _ _ _ _› (by assumption) (Inst.keeps (by assumption) (Fr.keep ‹Fr _ _ _ _›)) ?_) | (k_here; (with_reducible show wpAny _ _ (getMethod (Value.ref _) (Str.ofString "get") _) _ _ _); refine meth_get ‹Fr _ _ _ _› (by assumption) (Inst.keeps (by assumption) (Fr.keep ‹Fr _ _ _ _›)) ?_) | (k_here; (with_reducible show wpAny _ _ (getAttr (Value.ref _) (Str.ofString "_headers") _) _ _ _); refine hdr_get ‹Fr _ _ _ _› (by assumption) (Inst.keeps (by assumption) (Fr.keep ‹Fr _ _ _ _›)) ?_) | (k_here; (with_reducible show wpAny _ _ (call (Value.builtin "str.lower") [Value.str _ _]) _ _ _); refine lower_T (by assumption) ?_) | (k_here; (with_reducible show wpAny _ _ (call (Value.builtin "len") [Value.ref _]) _ _ _); with_unfolding_all refine' len_strs ?k1 ?k2 ?k3 ?k4 ?_; (case k1 => assumption); (case k2 => k_mem); (case k3 => assumption); (case k4 => walk_at "mar")) | ((with_reducible show wpAny _ _ (compareOp CmpOp.Eq (Value.str (bS [_]) _) (Value.str _ _)) _ _ _); refine eqB (by rfl) ?_) | walk_at "mstep"))); (all_goals (try dsimp only)))
        all_goals (rename News _ _ _ _ => N)
        all_goals (rename Fr _ _ _ _ => F)
        · rename (_ : Int) < _ => hgt
          have hgt' : (stab.length : Int) < placeF stab (nameF o) := by omega
          rw [if_pos hgt'] at hxx hax q4 q5
          refine sliceBN (s := ⟨_, _, _, _, _⟩) (i := ((pre.length + (2 * j + 1) : Nat) : Int)) (j := ((pre.length + (2 * j + 1) : Nat) : Int) + 8) F N (by omega) (by omega) (by rw [bitsLen] at q5; omega) (by omega) (fun h' t' k F' N' => ?_)
          clear F N
          have e1 : (((pre.length + (2 * j + 1) : Nat) : Int)).toNat = pre.length + j + (j + 1) := by omega
          have e2 : (((pre.length + (2 * j + 1) : Nat) : Int) + 8 - ((pre.length + (2 * j + 1) : Nat) : Int)).toNat = 8 := by omega
          have e3 : ((bitsL o 8 ++ ((sentF (os.drop (i + 1)) (tabF stab (nameF o))).2 ++ List.replicate Z false))).take 8 = bitsL o 8 := by
            have := List.take_left (l₁ := bitsL o 8) (l₂ := (sentF (os.drop (i + 1)) (tabF stab (nameF o))).2 ++ List.replicate Z false)
            rwa [bitsLen] at this
          rw [e1, e2, q4, e3]
          ((repeat' ((fail_if_success (with_reducible first | show wpAny _ _ (exec (Stmt.If _ _ _ _) _) _ _ _ | show wpAny _ _ (subscriptTail _ _ _ _) _ _ _)); (first | (k_here; (with_reducible show wpAny _ _ (getMethod (Value.ref _) (Str.ofString "_convert_string_type") _) _ _ _); refine meth_conv ‹Fr _ _ _ _› (by assumption) (Inst.keeps (by assumption) (Fr.keep ‹Fr _ _ _ _›)) ?_) | (k_here; (with_reducible show wpAny _ _ (getMethod (Value.ref _) (Str.ofString "keys") _) _ _ _); refine meth_keys ‹Fr _ _ _ _› (by assumption) (Inst.keeps (by assumption) (Fr.keep ‹Fr _ _ _ _›)) ?_) | (k_here; (with_reducible show wpAny _ _ (getMethod (Value.ref _) (Str.ofString "get") _) _ _ _); refine meth_get ‹Fr _ _ _ _› (by assumption) (Inst.keeps (by assumption) (Fr.keep ‹Fr _ _ _ _›)) ?_) | (k_here; (with_reducible show wpAny _ _ (getAttr (Value.ref _) (Str.ofString "_headers") _) _ _ _); refine hdr_get ‹Fr _ _ _ _› (by assumption) (Inst.keeps (by assumption) (Fr.keep ‹Fr _ _ _ _›)) ?_) | (k_here; (with_reducible show wpAny _ _ (call (Value.builtin "str.lower") [Value.str _ _]) _ _ _); refine lower_T (by assumption) ?_) | (k_here; (with_reducible show wpAny _ _ (call (Value.builtin "len") [Value.ref _]) _ _ _); with_unfolding_all refine' len_strs ?k1 ?k2 ?k3 ?k4 ?_; (case k1 => assumption); (case k2 => k_mem); (case k3 => assumption); (case k4 => walk_at "mar")) | ((with_reducible show wpAny _ _ (compareOp CmpOp.Eq (Value.str (bS [_]) _) (Value.str _ _)) _ _ _); refine eqB (by rfl) ?_) | walk_at "mstep"))); (all_goals (try dsimp only)))
          rename Fr _ _ _ _ => F
          rename News _ _ _ _ => N
          refine use0 (number_spec w (G.keeps F.keep) (Room.deeper (r.less (by decide : 3 ≤ 8))) (bitsL o 8) (by rw [bitsLen]; omega) _ _) F N fun tpl2 h2 tk2 F' N' => ?_
          clear F N
          have hno : numL (bitsL o 8) = o := by
            have := bitsL_num o.toNat (by omega)
            rwa [Int.toNat_of_nonneg hob.1] at this
          rw [hno]
          ((repeat' ((fail_if_success (with_reducible first | show wpAny _ _ (exec (Stmt.If _ _ _ _) _) _ _ _ | show wpAny _ _ (subscriptTail _ _ _ _) _ _ _)); (first | (k_here; (with_reducible show wpAny _ _ (getMethod (Value.ref _) (Str.ofString "_convert_string_type") _) _ _ _); refine meth_conv ‹Fr _ _ _ _› (by assumption) (Inst.keeps (by assumption) (Fr.keep ‹Fr _ _ _ _›)) ?_) | (k_here; (with_reducible show wpAny _ _ (getMethod (Value.ref _) (Str.ofString "keys") _) _ _ _); refine meth_keys ‹Fr _ _ _ _› (by assumption) (Inst.keeps (by assumption) (Fr.keep ‹Fr _ _ _ _›)) ?_) | (k_here; (with_reducible show wpAny _ _ (getMethod (Value.ref _) (Str.ofString "get") _) _ _ _); refine meth_get ‹Fr _ _ _ _› (by assumption) (Inst.keeps (by assumption) (Fr.keep ‹Fr _ _ _ _›)) ?_) | (k_here; (with_reducible show wpAny _ _ (getAttr (Value.ref _) (Str.ofString "_headers") _) _ _ _); refine hdr_get ‹Fr _ _ _ _› (by assumption) (Inst.keeps (by assumption) (Fr.keep ‹Fr _ _ _ _›)) ?_) | (k_here; (with_reducible show wpAny _ _ (call (Value.builtin "str.lower") [Value.str _ _]) _ _ _); refine lower_T (by assumption) ?_) | (k_here; (with_reducible show wpAny _ _ (call (Value.builtin "len") [Value.ref _]) _ _ _); with_unfolding_all refine' len_strs ?k1 ?k2 ?k3 ?k4 ?_; (case k1 => assumption); (case k2 => k_mem); (case k3 => assumption); (case k4 => walk_at "mar")) | ((with_reducible show wpAny _ _ (compareOp CmpOp.Eq (Value.str (bS [_]) _) (Value.str _ _)) _ _ _); refine eqB (by rfl) ?_) | walk_at "mstep"))); (all_goals (try dsimp only)))
          rename Fr _ _ _ _ => F
          rename News _ _ _ _ => N
          refine use0 (name_spec w (G.keeps F.keep) (Room.deeper (r.less (by decide : 5 ≤ 8))) o hob.1 hob.2 _ _) F N fun tn h2 tk2 F' N' => ?_
          clear F N
          ((repeat' ((fail_if_success (with_reducible first | show wpAny _ _ (exec (Stmt.If _ _ _ _) _) _ _ _ | show wpAny _ _ (subscriptTail _ _ _ _) _ _ _)); (first | (k_here; (with_reducible show wpAny _ _ (getMethod (Value.ref _) (Str.ofString "_convert_string_type") _) _ _ _); refine meth_conv ‹Fr _ _ _ _› (by assumption) (Inst.keeps (by assumption) (Fr.keep ‹Fr _ _ _ _›)) ?_) | (k_here; (with_reducible show wpAny _ _ (getMethod (Value.ref _) (Str.ofString "keys") _) _ _ _); refine meth_keys ‹Fr _ _ _ _› (by assumption) (Inst.keeps (by assumption) (Fr.keep ‹Fr _ _ _ _›)) ?_) | (k_here; (with_reducible show wpAny _ _ (getMethod (Value.ref _) (Str.ofString "get") _) _ _ _); refine meth_get ‹Fr _ _ _ _› (by assumption) (Inst.keeps (by assumption) (Fr.keep ‹Fr _ _ _ _›)) ?_) | (k_here; (with_reducible show wpAny _ _ (getAttr (Value.ref _) (Str.ofString "_headers") _) _ _ _); refine hdr_get ‹Fr _ _ _ _› (by assumption) (Inst.keeps (by assumption) (Fr.keep ‹Fr _ _ _ _›)) ?_) | (k_here; (with_reducible show wpAny _ _ (call (Value.builtin "str.lower") [Value.str _ _]) _ _ _); refine lower_T (by assumption) ?_) | (k_here; (with_reducible show wpAny _ _ (call (Value.builtin "len") [Value.ref _]) _ _ _); with_unfolding_all refine' len_strs ?k1 ?k2 ?k3 ?k4 ?_; (case k1 => assumption); (case k2 => k_mem); (case k3 => assumption); (case k4 => walk_at "mar")) | ((with_reducible show wpAny _ _ (compareOp CmpOp.Eq (Value.str (bS [_]) _) (Value.str _ _)) _ _ _); refine eqB (by rfl) ?_) | walk_at "mstep"))); (all_goals (try dsimp only)))
          rename Fr _ _ _ _ => F
          rename News _ _ _ _ => N
          obtain ⟨u3, F3⟩ := Fr.reHas F [(Str.ofString "bits", .str (bS bb) tb), (Str.ofString "table", .ref t), (Str.ofString "got", .ref P), (Str.ofString "at", .int ((pre ++ addF stab o).length : Nat) _), (Str.ofString "spent", .int (sp + (2 * ((j + 1 : Nat) : Int) - 1)) _), (Str.ofString "name", .str xx tn)] (.cons rfl (.cons rfl (.cons rfl (.consI rfl (by rw [List.length_append, hax]; omega) (.cons rfl (.consS rfl hxx .nil))))))
          exact hRM _ _ ⟨_, _, _, _, _, _, rfl, rfl, F3, News.sub N (fun p hp => .tail _ hp)⟩
        · rename ¬ (_ : Int) < _ => hgt
          have hgt' : ¬ (stab.length : Int) < placeF stab (nameF o) := by omega
          rw [if_neg hgt'] at hxx hax q4 q5
          have hys : ys.size = rtab.length := by rw [← Array.length_toList]; exact hS.length
          have hix : (-(placeF stab (nameF o)) + (ys.size : Int)).toNat = rtab.length - (placeF stab (nameF o)).toNat := by omega
          have hlt : rtab.length - (placeF stab (nameF o)).toNat < ys.size := by omega
          obtain ⟨x4, t4, hx4, e4⟩ := strs_at hS (Array.getElem?_eq_getElem hlt)
          have hx5 : x4 = xx := by
            rw [← hxx, List.getD, hx4]; rfl
          subst hx5
          refine sub_neg (k := -(placeF stab (nameF o))) N (.head _) (by omega) (by omega) (by omega) (by rw [hix, Array.getElem?_eq_getElem hlt, e4]) ?_
          ((repeat' ((fail_if_success (with_reducible first | show wpAny _ _ (exec (Stmt.If _ _ _ _) _) _ _ _ | show wpAny _ _ (subscriptTail _ _ _ _) _ _ _)); (first | (k_here; (with_reducible show wpAny _ _ (getMethod (Value.ref _) (Str.ofString "_convert_string_type") _) _ _ _); refine meth_conv ‹Fr _ _ _ _› (by assumption) (Inst.keeps (by assumption) (Fr.keep ‹Fr _ _ _ _›)) ?_) | (k_here; (with_reducible show wpAny _ _ (getMethod (Value.ref _) (Str.ofString "keys") _) _ _ _); refine meth_keys ‹Fr _ _ _ _› (by assumption) (Inst.keeps (by assumption) (Fr.keep ‹Fr _ _ _ _›)) ?_) | (k_here; (with_reducible show wpAny _ _ (getMethod (Value.ref _) (Str.ofString "get") _) _ _ _); refine meth_get ‹Fr _ _ _ _› (by assumption) (Inst.keeps (by assumption) (Fr.keep ‹Fr _ _ _ _›)) ?_) | (k_here; (with_reducible show wpAny _ _ (getAttr (Value.ref _) (Str.ofString "_headers") _) _ _ _); refine hdr_get ‹Fr _ _ _ _› (by assumption) (Inst.keeps (by assumption) (Fr.keep ‹Fr _ _ _ _›)) ?_) | (k_here; (with_reducible show wpAny _ _ (call (Value.builtin "str.lower") [Value.str _ _]) _ _ _); refine lower_T (by assumption) ?_) | (k_here; (with_reducible show wpAny _ _ (call (Value.builtin "len") [Value.ref _]) _ _ _); with_unfolding_all refine' len_strs ?k1 ?k2 ?k3 ?k4 ?_; (case k1 => assumption); (case k2 => k_mem); (case k3 => assumption); (case k4 => walk_at "mar")) | ((with_reducible show wpAny _ _ (compareOp CmpOp.Eq (Value.str (bS [_]) _) (Value.str _ _)) _ _ _); refine eqB (by rfl) ?_) | walk_at "mstep"))); (all_goals (try dsimp only)))
          rename Fr _ _ _ _ => F
          rename News _ _ _ _ => N
          obtain ⟨u3, F3⟩ := Fr.reHas F [(Str.ofString "bits", .str (bS bb) tb), (Str.ofString "table", .ref t), (Str.ofString "got", .ref P), (Str.ofString "at", .int ((pre ++ addF stab o).length : Nat) _), (Str.ofString "spent", .int (sp + (2 * ((j + 1 : Nat) : Int) - 1)) _), (Str.ofString "name", .str x4 t4)] (.cons rfl (.cons rfl (.cons rfl (.consI rfl (by rw [List.length_append, hax]) (.cons rfl (.cons rfl .nil))))))
          exact hRM _ _ ⟨_, _, _, _, _, _, rfl, rfl, F3, News.sub N (fun p hp => .tail _ hp)⟩
      clear F2 N
      rintro f s' ⟨h5, tk5, u5, tx5, ta5, tsp5, rfl, rfl, F, N⟩
      dsimp only
      ((repeat' ((fail_if_success (with_reducible first | show wpAny _ _ (exec (Stmt.If _ _ _ _) _) _ _ _ | show wpAny _ _ (subscriptTail _ _ _ _) _ _ _)); (first | (k_here; (with_reducible show wpAny _ _ (getMethod (Value.ref _) (Str.ofString "_convert_string_type") _) _ _ _); refine meth_conv ‹Fr _ _ _ _› (by assumption) (Inst.keeps (by assumption) (Fr.keep ‹Fr _ _ _ _›)) ?_) | (k_here; (with_reducible show wpAny _ _ (getMethod (Value.ref _) (Str.ofString "keys") _) _ _ _); refine meth_keys ‹Fr _ _ _ _› (by assumption) (Inst.keeps (by assumption) (Fr.keep ‹Fr _ _ _ _›)) ?_) | (k_here; (with_reducible show wpAny _ _ (getMethod (Value.ref _) (Str.ofString "get") _) _ _ _); refine meth_get ‹Fr _ _ _ _› (by assumption) (Inst.keeps (by assumption) (Fr.keep ‹Fr _ _ _ _›)) ?_) | (k_here; (with_reducible show wpAny _ _ (getAttr (Value.ref _) (Str.ofString "_headers") _) _ _ _); refine hdr_get ‹Fr _ _ _ _› (by assumption) (Inst.keeps (by assumption) (Fr.keep ‹Fr _ _ _ _›)) ?_) | (k_here; (with_reducible show wpAny _ _ (call (Value.builtin "str.lower") [Value.str _ _]) _ _ _); refine lower_T (by assumption) ?_) | (k_here; (with_reducible show wpAny _ _ (call (Value.builtin "len") [Value.ref _]) _ _ _); with_unfolding_all refine' len_strs ?k1 ?k2 ?k3 ?k4 ?_; (case k1 => assumption); (case k2 => k_mem); (case k3 => assumption); (case k4 => walk_at "mar")) | ((with_reducible show wpAny _ _ (compareOp CmpOp.Eq (Value.str (bS [_]) _) (Value.str _ _)) _ _ _); refine eqB (by rfl) ?_) | walk_at "mstep"))); (all_goals (try dsimp only)))
      rename Fr _ _ _ _ => F
      rename News _ _ _ _ => N
      have hxt : TameS xx := by
        rw [← hxx]
        split
        · exact nameF_tame hob.1 hob.2
        · rename_i hgt
          have hlt : rtab.length - (placeF stab (nameF o)).toNat < rtab.length := by omega
          rw [List.getD, List.getElem?_eq_getElem hlt]
          exact htab _ (List.getElem_mem hlt)
      have hrl : ∀ r ∈ rtab.map (fun x => (x, camS)), TameS r.1 := fun r hr => by
        obtain ⟨x, hx, rfl⟩ := List.mem_map.mp hr; exact htab x hx
      have hxl : low xx = low (nameF o) := rec_low hlow hxx
      have T := Tab.ofNews N (.tail _ (.head _)) (.tail _ (.tail _ (.head _))) (.tail _ (.tail _ (.tail _ (.head _)))) (fun p hp => .tail _ (.tail _ (.tail _ (.tail _ (List.mem_append.mpr (.inl hp)))))) hrow (by omega)
      have hgh := (N (hl, listOf (refsOf tups) nl) (.tail _ (.tail _ (.tail _ (.head _))))).2.2
      refine useG (seti_spec w (G.hide F.keep hgh) (Room.deeper (r.less (by decide : 4 ≤ 8))) T hrl (by omega) xx camS _ _ hxt (tame_lit (by decide +kernel) (by decide +kernel)) _) fun y h7 tk7 k7 hq => ?_
      obtain ⟨tups7, T7, ht7⟩ := hq
      obtain ⟨n7, el7⟩ := T7.lst
      have NT := afterTab F N (fun p hp => .tail _ (.tail _ (.tail _ (.tail _ (List.mem_append.mpr (.inl hp)))))) T7 ht7
      obtain ⟨oI, hoI⟩ := hIo
      have hIh := (N (I, oI) (.tail _ (.tail _ (.tail _ (.tail _ (List.mem_append.mpr (.inr hoI))))))).1
      obtain ⟨F7, N7⟩ := after1F F N (by k_updF) k7 el7
      clear F N
      ((repeat' (first | (k_here; (with_reducible show wpAny _ _ (getMethod (Value.ref _) (Str.ofString "_convert_string_type") _) _ _ _); refine meth_conv ‹Fr _ _ _ _› (by assumption) (Inst.keeps (by assumption) (Fr.keep ‹Fr _ _ _ _›)) ?_) | (k_here; (with_reducible show wpAny _ _ (getMethod (Value.ref _) (Str.ofString "keys") _) _ _ _); refine meth_keys ‹Fr _ _ _ _› (by assumption) (Inst.keeps (by assumption) (Fr.keep ‹Fr _ _ _ _›)) ?_) | (k_here; (with_reducible show wpAny _ _ (getMethod (Value.ref _) (Str.ofString "get") _) _ _ _); refine meth_get ‹Fr _ _ _ _› (by assumption) (Inst.keeps (by assumption) (Fr.keep ‹Fr _ _ _ _›)) ?_) | (k_here; (with_reducible show wpAny _ _ (getAttr (Value.ref _) (Str.ofString "_headers") _) _ _ _); refine hdr_get ‹Fr _ _ _ _› (by assumption) (Inst.keeps (by assumption) (Fr.keep ‹Fr _ _ _ _›)) ?_) | (k_here; (with_reducible show wpAny _ _ (call (Value.builtin "str.lower") [Value.str _ _]) _ _ _); refine lower_T (by assumption) ?_) | (k_here; (with_reducible show wpAny _ _ (call (Value.builtin "len") [Value.ref _]) _ _ _); with_unfolding_all refine' len_strs ?k1 ?k2 ?k3 ?k4 ?_; (case k1 => assumption); (case k2 => k_mem); (case k3 => assumption); (case k4 => walk_at "mar")) | ((with_reducible show wpAny _ _ (compareOp CmpOp.Eq (Value.str (bS [_]) _) (Value.str _ _)) _ _ _); refine eqB (by rfl) ?_) | walk_at "mstep")); (all_goals (try dsimp only)))
      refine hTE _ _ ?_
      dsimp only [TurnEnd]
      dsimp only at NT el7 T7
      have hnl : (tabF rtab xx).length ≤ rtab.length + 1 := tabF_len
      refine ⟨_, _, _, (P, listOf (gv.push (Value.str xx tx5)) (ng + 1)) :: (t, instObj 236 d) :: (d, dictOf [⟨hsh, .str (Str.ofString "_headers") tke, .ref hl⟩] 1) :: (hl, listOf (refsOf tups7) n7) :: tups7, rfl, F7, ?N, ?ne, _, _, tups7, n7, sp + (2 * ((j + 1 : Nat) : Int) - 1), _, _, tabF stab (nameF o), tabF rtab xx, pre ++ addF stab o, got ++ [xx], rfl, .cons rfl (.cons rfl (.cons rfl (.cons rfl (.cons rfl .nil)))), ?iis, ?row, ?tame, ?lw, ?l1, ?l3, ?bbs, ?eq⟩
      case N =>
        intro p hp
        simp only [List.cons_append, List.mem_cons, List.mem_append] at hp
        rcases hp with rfl | rfl | rfl | rfl | hp | hp
        · exact N7 _ (.head _)
        · exact N7 _ (.tail _ (.head _))
        · exact N7 _ (.tail _ (.tail _ (.head _)))
        · exact N7 _ (.tail _ (.tail _ (.tail _ (.head _))))
        · exact NT p hp
        · exact N7 _ (.tail _ (.tail _ (.tail _ (.tail _ (List.mem_append.mpr (.inr hp))))))
      case ne =>
        intro p hp
        simp only [List.mem_cons] at hp
        rcases hp with rfl | rfl | rfl | rfl | hp
        · exact hoff (P, listOf gv ng) (.head _)
        · exact hoff (t, _) (.tail _ (.head _))
        · exact hoff (d, _) (.tail _ (.tail _ (.head _)))
        · exact hoff (hl, listOf (refsOf tups) nl) (.tail _ (.tail _ (.tail _ (.head _))))
        · rcases ht7 p hp with q | q
          · exact hoff p (.tail _ (.tail _ (.tail _ (.tail _ q))))
          · intro e
            dsimp only at q hIh
            rw [e, hIh] at q; cases q
      case iis => rw [Array.toList_push]; exact strs_snoc hgv _ _
      case row => rw [← rows_tab]; exact T7.row
      case tame =>
        intro x hx
        rcases tabF_mem hx with q | q
        · exact htab x q
        · rw [q]; exact hxt
      case lw => exact tabF_low hlow hxl
      case l1 => omega
      case l3 => rw [List.length_append, List.length_singleton]; omega
      case bbs =>
        rw [hbbs]
        simp only [List.append_assoc]
      case eq =>
        rw [← hrec, recF]
        dsimp only
        rw [hxx, hz1]
        simp only [List.append_assoc, List.singleton_append, Int.add_assoc]
/-! 27lbits -/
section
variable {prog : Program} {w : World} {A : Around} {E : Value → Shared → Prop} {s : Shared} {g : Heap} {L : Addr} {m : Str → Option Value} {news : List (Addr × Obj)}
/-- a slice of a list, the list under a name or not -/
theorem slice_any {value slice : PySem.Expr} {l : Addr} {items : Array Value} {vl vu vk : Value} {lo hi st : Option Int} {ops : List Value} {Q : Value → Shared → Prop}
    (F : Fr g L s.heap m) (N : News g L s.heap news) (hl : s.heap.IsList l items) (pl : IsPart vl lo) (pu : IsPart vu hi) (pk : IsPart vk st) (h0 : st ≠ some 0) (hsz : items.size ≤ sizeLine)
    (h : ∀ D h', Fr g L h' m → News g L h' ((D, listOf (slicePick items lo hi st) 0) :: news) → (∀ p ∈ news, @LT.lt Nat _ p.1 D) → Q (.ref D) { s with heap := h' })
    (hs : subscripted slice false (.ref l) (.ref s.heap.objs.size) = operate ops (getItem (.ref l) (.ref s.heap.objs.size))) :
    wpAny (model prog w) A (subscriptTail value slice (.ref l) (.ref s.heap.objs.size)) Q E { s with heap := s.heap.push { cls := .type "slice", data := .fields #[vl, vu, vk] } } := by
  refine tail_any (Heap.IsList.typeIs (s := { s with heap := s.heap.push { cls := .type "slice", data := .fields #[vl, vu, vk] } }) (hl.push _)) list_getitem_lookup
    (wpAny_getItem_list_slice (hl.push _) (Heap.IsSliceOf.new ..) pl pu pk h0 ?_ hsz) hs
  have N1 := News.push (F.push { cls := .type "slice", data := .fields #[vl, vu, vk] }) (N.grown fun _ _ e => Heap.get?_push_of_some _ e) { cls := .type "list", data := .seq (slicePick items lo hi st) }
  rw [Heap.size_push] at N1
  show Q (.ref (s.heap.push _).objs.size) _
  rw [Heap.size_push]
  exact h _ _ ((F.push _).push _) N1 fun p hp => Nat.lt_succ_of_lt (Heap.lt_size (N p hp).1)
theorem slice_at {value slice : PySem.Expr} {l : Addr} {items : Array Value} {vl vu vk : Value} {lo hi st : Option Int} {ops : List Value} {Q : Value → Shared → Prop} {h₁ : Heap} {g1 g2 g4 : _} {tk : Nat}
    (F : Fr g L h₁ m) (N : News g L h₁ news) (hl : h₁.IsList l items) (pl : IsPart vl lo) (pu : IsPart vu hi) (pk : IsPart vk st) (h0 : st ≠ some 0) (hsz : items.size ≤ sizeLine)
    (h : ∀ D h', Fr g L h' m → News g L h' ((D, listOf (slicePick items lo hi st) 0) :: news) → (∀ p ∈ news, @LT.lt Nat _ p.1 D) → Q (.ref D) (Shared.mk h' g1 g2 tk g4))
    (hs : subscripted slice false (.ref l) (.ref h₁.objs.size) = operate ops (getItem (.ref l) (.ref h₁.objs.size))) :
    wpAny (model prog w) A (subscriptTail value slice (.ref l) (.ref h₁.objs.size)) Q E (Shared.mk (h₁.push { cls := .type "slice", data := .fields #[vl, vu, vk] }) g1 g2 tk g4) :=
  slice_any (s := Shared.mk h₁ g1 g2 tk g4) F N hl pl pu pk h0 hsz h hs
theorem index_ints {a : Addr} {its : Array Value} {n : Nat} {xs : List Int} {x : Int} {t : Tok} {Q : Value → Shared → Prop} (hm : s.heap.get? a = some (listOf its n)) (hI : IntsAre its.toList xs)
    (hk : x ∈ xs) (hz : xs.length ≤ 64) (h : Q (.int (xs.idxOf x : Nat) s.toks) { s with toks := s.toks + 1 }) : wpAny (model prog w) A (call (.builtin "list.index") [.ref a, .int x t]) Q E s := by
  have hj : xs.idxOf x < xs.length := List.idxOf_lt_length_iff.mpr hk
  have hs : its.size = xs.length := by rw [← Array.length_toList, hI.length]
  have hat : ∀ j (hj : j < its.size), ∃ y t', xs[j]? = some y ∧ its[j] = .int y t' := fun j hj => by
    obtain ⟨t', e⟩ := ints_getD hI (i := j) (by omega)
    refine ⟨xs.getD j 0, t', ?_, ?_⟩
    · rw [List.getD, List.getElem?_eq_getElem (by omega)]; rfl
    · have h2 : its[j]? = some its[j] := Array.getElem?_eq_getElem hj
      rw [← Array.getElem?_toList, e] at h2
      exact (Option.some.inj h2).symm
  refine call_meets PySem.F.slot_list_index ⟨_, hm, rfl⟩ PySem.F.entry_list_index (PySem.F.args_list_index_2 _ _)
    (MeetsSeq.list_index a its n (.int x t) (isInt x) (fun y hy => ?_) (xs.idxOf x) (by omega) (by omega) ?_ (fun j hj' hlt => ?_)) ⟨hm, h⟩
  · obtain ⟨j, hj', rfl⟩ := Array.getElem_of_mem hy
    obtain ⟨z, t', _, e⟩ := hat j hj'
    rw [e]
    exact MeetsSeq.EqGives.int z x t' t
  · obtain ⟨z, t', e1, e⟩ := hat (xs.idxOf x) (by omega)
    rw [e]
    rw [List.getElem?_eq_getElem hj, List.getElem_idxOf hj] at e1
    cases e1
    show (x == x) = true
    simp
  · obtain ⟨z, t', e1, e⟩ := hat j hj'
    rw [e]
    show (z == x) = false
    rw [List.getElem?_eq_getElem (by omega)] at e1
    cases e1
    exact ne_of_lt_idxOf hlt _
end
theorem ints_at {ys : List Value} {l : List Int} (h : IntsAre ys l) {i : Nat} {v : Value} (e : ys.toArray[i]? = some v) : ∃ x t, l[i]? = some x ∧ v = .int x t := by
  have e' : ys[i]? = some v := by simpa using e
  clear e
  induction h generalizing i with
  | nil => cases i <;> cases e'
  | cons y t' _ ih =>
    cases i with
    | zero => cases e'; exact ⟨_, _, rfl, rfl⟩
    | succ i => exact ih e'
theorem paired_map {vs zs : List Value} {l : List Int} {f : Int → Int} (h : IntsAre vs l) (hF : Paired (fun v y => ∃ k : Int, IsI k v ∧ IsI (f k) y) vs zs) : IntsAre zs (l.map f) := by
  induction h generalizing zs with
  | nil => cases hF; exact .nil
  | cons y t' _ ih =>
    cases hF with
    | cons e r =>
      obtain ⟨x, ⟨t1, e1⟩, ⟨t2, rfl⟩⟩ := e
      cases e1
      exact .cons _ _ (ih r)
theorem octetF_bd (x t : Int) : 0 ≤ octetF x t ∧ octetF x t < 256 := by
  unfold octetF
  split <;> omega
/-- what lies behind an asking since the last one of its kind -/
noncomputable def backF (ks : List Int) (i : Nat) : List Int :=
  if ks.getD i 0 ∈ (ks.take i).reverse then (ks.take i).reverse.take ((ks.take i).reverse.idxOf (ks.getD i 0)) else (ks.take i).reverse
/-- the kinds of a list -/
noncomputable def presF (l : List Int) : List Int := ([0, 1, 2, 3, 4] : List Int).filter fun k => decide (k ∈ l)
noncomputable def dueF (ks : List Int) (i : Nat) : Int := 1 + ((presF (backF ks i)).length : Int)
noncomputable def inP (l : List Int) : Value → Bool
  | .int k _ => decide (k ∈ l)
  | _ => false
theorem ints_filter {vs : List Value} {ks : List Int} (l : List Int) (h : IntsAre vs ks) : IntsAre (vs.filter (inP l)) (ks.filter fun k => decide (k ∈ l)) := by
  induction h with
  | nil => exact .nil
  | cons y t _ ih =>
    rw [List.filter_cons, List.filter_cons]
    show IntsAre (if decide (y ∈ l) = true then _ else _) _
    split
    · exact .cons _ _ ih
    · exact ih
theorem ints_five {vs : List Value} (hl : vs.length = 5) (hv : ∀ (j : Nat) (v : Value), vs[j]? = some v → ∃ t, v = Value.int (0 + j * 1) t) : IntsAre vs [0, 1, 2, 3, 4] := by
  match vs, hl with
  | [v0, v1, v2, v3, v4], _ =>
    obtain ⟨t0, e0⟩ := hv 0 v0 rfl
    obtain ⟨t1, e1⟩ := hv 1 v1 rfl
    obtain ⟨t2, e2⟩ := hv 2 v2 rfl
    obtain ⟨t3, e3⟩ := hv 3 v3 rfl
    obtain ⟨t4, e4⟩ := hv 4 v4 rfl
    rw [e0, e1, e2, e3, e4]
    exact .cons _ _ (.cons _ _ (.cons _ _ (.cons _ _ (.cons _ _ .nil))))
theorem paired_eq {vs ys : List Value} (h : Paired (fun v y => y = v) vs ys) : ys = vs := by
  induction h with
  | nil => rfl
  | cons e _ ih => rw [e, ih]
theorem ints_pres {vs ys : List Value} (l : List Int) (hl : vs.length = 5) (hv : ∀ (j : Nat) (v : Value), vs[j]? = some v → ∃ t, v = Value.int (0 + j * 1) t) (hF : Paired (fun v y => y = v) (vs.filter (inP l)) ys) : IntsAre ys (presF l) := by
  rw [paired_eq hF]
  exact ints_filter l (ints_five hl hv)
theorem any_dec (l : List Int) (k : Int) : (l.any fun x => x == k) = decide (k ∈ l) := by
  rw [Bool.eq_iff_iff, decide_eq_true_eq, List.any_eq_true]
  constructor
  · rintro ⟨x, hx, e⟩; rw [← eq_of_beq e]; exact hx
  · intro hx; exact ⟨_, hx, beq_self_eq_true _⟩
/-! 28eq -/
section
variable {prog : Program} {w : World} {A : Around} {E : Value → Shared → Prop} {s : Shared} {Q : Value → Shared → Prop}
theorem ne_lists {l l' : Addr} {vs vs' : List Value} (hl : s.heap.IsList l vs.toArray) (hl' : s.heap.IsList l' vs'.toArray) (hz : vs.length = vs'.length) (hu : A.units < cLine)
    (he : ∀ j (h1 : j < vs.length) (h2 : j < vs'.length), SeqAt.EqAt A.in1 s vs[j] vs'[j] true) (h : Q (.bool false) s) : wpAny (model prog w) A (compareOp .NotEq (.ref l) (.ref l')) Q E s := by
  have := SeqAt.RcNeAt.lists (e := fun _ => true) hl hl' (by simpa using hz) hu (fun j h1 h2 => by simpa using he j (by simpa using h1) (by simpa using h2)) prog w E Q
  have e : (!(List.range vs.toArray.size).all fun _ => true) = false := by
    rw [Bool.not_eq_false', List.all_eq_true]; intros; rfl
  rw [e] at this
  exact this h
theorem ne_ints {l l' : Addr} {vs vs' : List Value} {xs : List Int} (hl : s.heap.IsList l vs.toArray) (hl' : s.heap.IsList l' vs'.toArray) (hi : IntsAre vs xs) (hi' : IntsAre vs' xs) (hu : A.units < cLine)
    (h : Q (.bool false) s) : wpAny (model prog w) A (compareOp .NotEq (.ref l) (.ref l')) Q E s := by
  refine ne_lists hl hl' (by rw [hi.length, hi'.length]) hu (fun j h1 h2 => ?_) h
  obtain ⟨t, e⟩ := ints_getD hi (i := j) (by rw [← hi.length]; exact h1)
  obtain ⟨t', e'⟩ := ints_getD hi' (i := j) (by rw [← hi'.length]; exact h2)
  rw [List.getElem?_eq_getElem h1] at e
  rw [List.getElem?_eq_getElem h2] at e'
  rw [Option.some.inj e, Option.some.inj e']
  have := SeqAt.EqAt.int_int (A := A.in1) (s := s) (xs.getD j 0) t (xs.getD j 0) t'
  rw [beq_self_eq_true] at this
  exact this
theorem strs_len {vs : List Value} {xs : List Str} (h : StrsAre vs xs) : vs.length = xs.length := h.length
theorem ne_strs {l l' : Addr} {vs vs' : List Value} {xs : List Str} (hl : s.heap.IsList l vs.toArray) (hl' : s.heap.IsList l' vs'.toArray) (hi : StrsAre vs xs) (hi' : StrsAre vs' xs) (hu : A.units < cLine)
    (h : Q (.bool false) s) : wpAny (model prog w) A (compareOp .NotEq (.ref l) (.ref l')) Q E s := by
  refine ne_lists hl hl' (by rw [hi.length, hi'.length]) hu (fun j h1 h2 => ?_) h
  obtain ⟨x, t, e, q⟩ := strs_at (ys := vs.toArray) hi (i := j) (v := vs[j]) (by simp [List.getElem?_eq_getElem h1])
  obtain ⟨x', t', e', q'⟩ := strs_at (ys := vs'.toArray) hi' (i := j) (v := vs'[j]) (by simp [List.getElem?_eq_getElem h2])
  rw [q, q']
  rw [e] at e'
  cases e'
  have := SeqAt.EqAt.str_str (A := A.in1) (s := s) x t x t'
  rw [beq_self_eq_true] at this
  exact this
end
/-- a block over ints whose elements are texts -/
theorem paired_strI {vs zs : List Value} {l : List Int} {f : Int → Str} (h : IntsAre vs l) (hF : Paired (fun v y => ∃ k : Int, k ∈ l ∧ IsI k v ∧ IsS (f k) y) vs zs) : StrsAre zs (l.map f) := by
  have key : ∀ {vs zs : List Value} {l' : List Int}, IntsAre vs l' → Paired (fun v y => ∃ k : Int, k ∈ l ∧ IsI k v ∧ IsS (f k) y) vs zs → StrsAre zs (l'.map f) := by
    intro vs zs l' h hF
    induction h generalizing zs with
    | nil => cases hF; exact .nil
    | cons y t' _ ih =>
      cases hF with
      | cons e r =>
        obtain ⟨x, _, ⟨t1, e1⟩, ⟨t2, rfl⟩⟩ := e
        cases e1
        exact .cons _ _ (ih r)
  exact key h hF
theorem ints_cnt {vs ys : List Value} (l : List Int) (f : Int → Int) (hl : vs.length = 5) (hv : ∀ (j : Nat) (v : Value), vs[j]? = some v → ∃ t, v = Value.int (0 + j * 1) t) (hF : Paired (fun v y => ∃ k : Int, IsI k v ∧ IsI (f k) y) (vs.filter (inP l)) ys) : IntsAre ys ((presF l).map f) :=
  paired_map (ints_filter l (ints_five hl hv)) hF
theorem off_of {news news' : List (Addr × Obj)} {I : Addr} (h : ∀ p ∈ news, p.1 ≠ I) (e : news'.map (·.1) = news.map (·.1)) : ∀ p ∈ news', p.1 ≠ I := fun p hp q => by
  have : p.1 ∈ news'.map (·.1) := List.mem_map.mpr ⟨p, hp, rfl⟩
  rw [e] at this
  obtain ⟨r, hr, e'⟩ := List.mem_map.mp this
  exact h r hr (e'.trans q)
theorem val_len {gs : List (List Bool)} {rem : List Bool} (h : ∀ g ∈ gs, g.length = 6) (hz : (gs.flatten ++ rem).length ≤ 648) : (b64out gs rem).length ≤ 200 := by
  rw [List.length_append, flat6 _ h] at hz
  unfold b64out
  rw [List.length_append, List.length_map]
  split
  · simp; omega
  · split
    · simp; omega
    · simp; omega
theorem val_tame {gs : List (List Bool)} {rem : List Bool} (h : ∀ g ∈ gs, g.length = 6) (hr : rem.length = 0 ∨ rem.length = 2 ∨ rem.length = 4) (hz : (gs.flatten ++ rem).length ≤ 648) : TameS (cS (b64out gs rem)) := by
  refine cS_tame (fun c hc => ?_) (by have := val_len h hz; omega)
  rcases b64out_signs h hr c.toNat (List.mem_map.mpr ⟨c, hc, rfl⟩) with e | ⟨n, hn, e⟩
  · omega
  · have := b64c_tame' (i := (n : Int)) (by omega)
    omega
theorem rem_even {gs : List (List Bool)} {rem : List Bool} (h : ∀ g ∈ gs, g.length = 6) (hr : rem.length < 6) (h8 : (gs.flatten ++ rem).length % 8 = 0) : rem.length = 0 ∨ rem.length = 2 ∨ rem.length = 4 := by
  rw [List.length_append, flat6 _ h] at h8
  omega
noncomputable def askedN : Str := Str.ofString "Asked"
noncomputable def askedG : Str := Str.ofString "ASKED"
theorem askedN_tame : TameS askedN := tame_lit (by decide +kernel) (by decide +kernel)
theorem askedG_tame : TameS askedG := tame_lit (by decide +kernel) (by decide +kernel)
theorem asked_low : low askedN = low askedG := by decide +kernel
theorem asked_get (v : Str) : getF [(askedN, v)] askedG = some v := getF_some (i := 0) (fun j hj => by omega) rfl asked_low
theorem dict_inj {a b : DictEntry} {n m : Nat} (h : some (dictOf [a] n) = some (dictOf [b] m)) : b = a := by
  have h1 := congrArg Obj.data (Option.some.inj h)
  injection h1 with h2 h3
  have h4 := congrArg Array.toList h2
  injection h4 with h5
  exact h5.symm
theorem sub_raw {prog : Program} {w : World} {A : Around} {E : Value → Shared → Prop} {s : Shared} {a : Addr} {its : Array Value} {xs : List Int} {i : Nat} {u : Tok} {value slice : PySem.Expr} {Q : Value → Shared → Prop} (hl : s.heap.IsList a its) (hI : IntsAre its.toList xs) (h1 : i < xs.length) (hf : (i : Int) < 2 ^ 63)
    (h : ∀ t, Q (.int (xs.getD i 0) t) s)
    (hs : subscripted slice false (.ref a) (.int i u) = operate [.ref a, .int i u] (getItem (.ref a) (.int i u)) := by with_unfolding_all rfl) :
    wpAny (model prog w) A (subscriptTail value slice (.ref a) (.int i u)) Q E s := by
  obtain ⟨t, e⟩ := ints_getD hI h1
  refine tail_any hl.typeIs slot_list_getitem.lookup (wpAny_getItem_list hl (by omega) hf (x := .int (xs.getD i 0) t) ?_ (h t)) hs
  rw [Int.toNat_natCast, ← Array.getElem?_toList]; exact e
theorem getD_mem {l : List Int} {i : Nat} (h : i < l.length) : l.getD i 0 ∈ l := by
  rw [List.getD, List.getElem?_eq_getElem h]; exact List.getElem_mem _
section
variable {prog : Program} {w : World} {A : Around} {E : Value → Shared → Prop} {s : Shared} {l : Addr} {its : Array Value} {n : Nat} {pl : Sem Bool} {Q : Value × List Value → Shared → Prop}
theorem meth_index (hm : s.heap.get? l = some (listOf its n)) (h : Q (.builtin "list.index", [.ref l]) s) : wpAny (model prog w) A (getMethod (.ref l) (Str.ofString "index") pl) Q E s :=
  getMethod_list_of PySem.F.slot_list_index PySem.F.type_list_index ⟨_, hm, rfl, n, rfl⟩ ⟨_, hm, rfl⟩ h
theorem meth_count (hm : s.heap.get? l = some (listOf its n)) (h : Q (.builtin "list.count", [.ref l]) s) : wpAny (model prog w) A (getMethod (.ref l) (Str.ofString "count") pl) Q E s :=
  getMethod_list_of PySem.F.slot_list_count PySem.F.type_list_count ⟨_, hm, rfl, n, rfl⟩ ⟨_, hm, rfl⟩ h
end
theorem name_call (w : World) {mean mg mb} {A : Around} {E : Value → Shared → Prop} {h : Heap} {g1 g2 g4 : _} {tk : Nat} (G : Gd w mean mg mb h) (r : Room 4 A) {o : Int} {t1 : Tok} (hb : 0 ≤ o ∧ o < 256) {Q : Value → Shared → Prop}
    (hQ : ∀ h' tk' y, (∀ b ob, h.get? b = some ob → h'.get? b = some ob) → IsS (nameF o) y → Q y (Shared.mk h' g1 g2 tk' g4)) : wpAny (model pg w) A (call (.ref 254) [.int o t1]) Q E (Shared.mk h g1 g2 tk g4) := by
  refine use (name_spec (s := Shared.mk h g1 g2 tk g4) w G r o hb.1 hb.2 t1 E) fun y h' tk' k hy => ?_
  exact hQ h' tk' y k hy
/-! 41heap -/
/-- a heap of at most five -/
noncomputable def Hp : List Int → Prop
  | [] => True
  | [_] => True
  | [a, b] => a ≤ b
  | [a, b, c] => a ≤ b ∧ a ≤ c
  | [a, b, c, d] => a ≤ b ∧ a ≤ c ∧ b ≤ d
  | [a, b, c, d, e] => a ≤ b ∧ a ≤ c ∧ b ≤ d ∧ b ≤ e
  | _ => False
theorem suL_step {xs : List Int} {p q : Nat} (h : 2 * p + 1 < xs.length) (e : suC xs p = q) : suL xs p = suL (xs.set p (xs.getD q 0)) q := by
  rw [suL, dif_pos h, e]
theorem suL_end {xs : List Int} {p : Nat} (h : ¬ 2 * p + 1 < xs.length) : suL xs p = (xs, p) := by
  rw [suL, dif_neg h]
theorem sd_up {xs : List Int} {p q : Nat} {v : Int} {sp : Nat} (h : sp < p) (e : (p - 1) / 2 = q) (hv : v < xs.getD q 0) : sdF xs sp p v = sdF (xs.set p (xs.getD q 0)) sp q v := by
  rw [sdF, dif_pos h, e, if_pos hv]
theorem sd_stay {xs : List Int} {p q : Nat} {v : Int} {sp : Nat} (h : sp < p) (e : (p - 1) / 2 = q) (hv : ¬ v < xs.getD q 0) : sdF xs sp p v = xs.set p v := by
  rw [sdF, dif_pos h, e, if_neg hv]
theorem sd_end {xs : List Int} {p : Nat} {v : Int} {sp : Nat} (h : ¬ sp < p) : sdF xs sp p v = xs.set p v := by
  rw [sdF, dif_neg h]
theorem su1 (v : Int) : suF [v] 0 = [v] := by
  simp [suF, suL_end, sd_end]
theorem su2 (v b : Int) : Hp (suF [v, b] 0) ∧ (suF [v, b] 0).Perm [v, b] := by
  unfold suF
  rw [suL_step (q := 1) (by simp) (by simp [suC]), suL_end (by simp)]
  dsimp only [List.getD, List.set]
  by_cases h : v < b
  · rw [sd_up (q := 0) (by omega) (by omega) (by simpa using h), sd_end (by omega)]
    exact ⟨by simp [Hp]; omega, .refl _⟩
  · rw [sd_stay (q := 0) (by omega) (by omega) (by simpa using h)]
    exact ⟨by simp [Hp]; omega, .swap _ _ _⟩
theorem su3 (v b c : Int)  : Hp (suF [v, b, c] 0) ∧ (suF [v, b, c] 0).Perm [v, b, c] := by
  unfold suF
  have e0 : [v, b, c].getD 0 0 = v := by simp
  rw [e0]
  by_cases g1 : b < c
  · rw [suL_step (q := 1) (by simp) (by simp [suC, g1])]
    dsimp only [List.getD, List.set, List.getElem?_cons_succ, List.getElem?_cons_zero, Option.getD_some]
    rw [suL_end (by simp)]
    dsimp only [List.getD, List.set, List.getElem?_cons_succ, List.getElem?_cons_zero, Option.getD_some]
    by_cases k2_1 : v < b
    · rw [sd_up (q := 0) (by omega) (by omega) (by simpa using k2_1)]
      dsimp only [List.getD, List.set, List.getElem?_cons_succ, List.getElem?_cons_zero, Option.getD_some]
      rw [sd_end (by omega)]
      exact ⟨by simp only [Hp, List.set]; omega, by rw [List.perm_iff_count]; intro x; simp only [List.set, List.count_cons, List.count_nil]; (try omega)⟩
    · rw [sd_stay (q := 0) (by omega) (by omega) (by simpa using k2_1)]
      exact ⟨by simp only [Hp, List.set]; omega, by rw [List.perm_iff_count]; intro x; simp only [List.set, List.count_cons, List.count_nil]; (try omega)⟩
  · rw [suL_step (q := 2) (by simp) (by simp [suC, g1])]
    dsimp only [List.getD, List.set, List.getElem?_cons_succ, List.getElem?_cons_zero, Option.getD_some]
    rw [suL_end (by simp)]
    dsimp only [List.getD, List.set, List.getElem?_cons_succ, List.getElem?_cons_zero, Option.getD_some]
    by_cases k2_2 : v < c
    · rw [sd_up (q := 0) (by omega) (by omega) (by simpa using k2_2)]
      dsimp only [List.getD, List.set, List.getElem?_cons_succ, List.getElem?_cons_zero, Option.getD_some]
      rw [sd_end (by omega)]
      exact ⟨by simp only [Hp, List.set]; omega, by rw [List.perm_iff_count]; intro x; simp only [List.set, List.count_cons, List.count_nil]; (try omega)⟩
    · rw [sd_stay (q := 0) (by omega) (by omega) (by simpa using k2_2)]
      exact ⟨by simp only [Hp, List.set]; omega, by rw [List.perm_iff_count]; intro x; simp only [List.set, List.count_cons, List.count_nil]; (try omega)⟩
theorem su4 (v b c d : Int) (h1 : b ≤ d) : Hp (suF [v, b, c, d] 0) ∧ (suF [v, b, c, d] 0).Perm [v, b, c, d] := by
  unfold suF
  have e0 : [v, b, c, d].getD 0 0 = v := by simp
  rw [e0]
  by_cases g1 : b < c
  · rw [suL_step (q := 1) (by simp) (by simp [suC, g1])]
    dsimp only [List.getD, List.set, List.getElem?_cons_succ, List.getElem?_cons_zero, Option.getD_some]
    rw [suL_step (q := 3) (by simp) (by simp [suC])]
    dsimp only [List.getD, List.set, List.getElem?_cons_succ, List.getElem?_cons_zero, Option.getD_some]
    rw [suL_end (by simp)]
    dsimp only [List.getD, List.set, List.getElem?_cons_succ, List.getElem?_cons_zero, Option.getD_some]
    by_cases k2_3 : v < d
    · rw [sd_up (q := 1) (by omega) (by omega) (by simpa using k2_3)]
      dsimp only [List.getD, List.set, List.getElem?_cons_succ, List.getElem?_cons_zero, Option.getD_some]
      by_cases k3_1 : v < b
      · rw [sd_up (q := 0) (by omega) (by omega) (by simpa using k3_1)]
        dsimp only [List.getD, List.set, List.getElem?_cons_succ, List.getElem?_cons_zero, Option.getD_some]
        rw [sd_end (by omega)]
        exact ⟨by simp only [Hp, List.set]; omega, by rw [List.perm_iff_count]; intro x; simp only [List.set, List.count_cons, List.count_nil]; (try omega)⟩
      · rw [sd_stay (q := 0) (by omega) (by omega) (by simpa using k3_1)]
        exact ⟨by simp only [Hp, List.set]; omega, by rw [List.perm_iff_count]; intro x; simp only [List.set, List.count_cons, List.count_nil]; (try omega)⟩
    · rw [sd_stay (q := 1) (by omega) (by omega) (by simpa using k2_3)]
      exact ⟨by simp only [Hp, List.set]; omega, by rw [List.perm_iff_count]; intro x; simp only [List.set, List.count_cons, List.count_nil]; (try omega)⟩
  · rw [suL_step (q := 2) (by simp) (by simp [suC, g1])]
    dsimp only [List.getD, List.set, List.getElem?_cons_succ, List.getElem?_cons_zero, Option.getD_some]
    rw [suL_end (by simp)]
    dsimp only [List.getD, List.set, List.getElem?_cons_succ, List.getElem?_cons_zero, Option.getD_some]
    by_cases k2_2 : v < c
    · rw [sd_up (q := 0) (by omega) (by omega) (by simpa using k2_2)]
      dsimp only [List.getD, List.set, List.getElem?_cons_succ, List.getElem?_cons_zero, Option.getD_some]
      rw [sd_end (by omega)]
      exact ⟨by simp only [Hp, List.set]; omega, by rw [List.perm_iff_count]; intro x; simp only [List.set, List.count_cons, List.count_nil]; (try omega)⟩
    · rw [sd_stay (q := 0) (by omega) (by omega) (by simpa using k2_2)]
      exact ⟨by simp only [Hp, List.set]; omega, by rw [List.perm_iff_count]; intro x; simp only [List.set, List.count_cons, List.count_nil]; (try omega)⟩
theorem su5 (v b c d e : Int) (h1 : b ≤ d) (h2 : b ≤ e) : Hp (suF [v, b, c, d, e] 0) ∧ (suF [v, b, c, d, e] 0).Perm [v, b, c, d, e] := by
  unfold suF
  have e0 : [v, b, c, d, e].getD 0 0 = v := by simp
  rw [e0]
  by_cases g1 : b < c
  · rw [suL_step (q := 1) (by simp) (by simp [suC, g1])]
    dsimp only [List.getD, List.set, List.getElem?_cons_succ, List.getElem?_cons_zero, Option.getD_some]
    by_cases g2 : d < e
    · rw [suL_step (q := 3) (by simp) (by simp [suC, g2])]
      dsimp only [List.getD, List.set, List.getElem?_cons_succ, List.getElem?_cons_zero, Option.getD_some]
      rw [suL_end (by simp)]
      dsimp only [List.getD, List.set, List.getElem?_cons_succ, List.getElem?_cons_zero, Option.getD_some]
      by_cases k3_3 : v < d
      · rw [sd_up (q := 1) (by omega) (by omega) (by simpa using k3_3)]
        dsimp only [List.getD, List.set, List.getElem?_cons_succ, List.getElem?_cons_zero, Option.getD_some]
        by_cases k4_1 : v < b
        · rw [sd_up (q := 0) (by omega) (by omega) (by simpa using k4_1)]
          dsimp only [List.getD, List.set, List.getElem?_cons_succ, List.getElem?_cons_zero, Option.getD_some]
          rw [sd_end (by omega)]
          exact ⟨by simp only [Hp, List.set]; omega, by rw [List.perm_iff_count]; intro x; simp only [List.set, List.count_cons, List.count_nil]; (try omega)⟩
        · rw [sd_stay (q := 0) (by omega) (by omega) (by simpa using k4_1)]
          exact ⟨by simp only [Hp, List.set]; omega, by rw [List.perm_iff_count]; intro x; simp only [List.set, List.count_cons, List.count_nil]; (try omega)⟩
      · rw [sd_stay (q := 1) (by omega) (by omega) (by simpa using k3_3)]
        exact ⟨by simp only [Hp, List.set]; omega, by rw [List.perm_iff_count]; intro x; simp only [List.set, List.count_cons, List.count_nil]; (try omega)⟩
    · rw [suL_step (q := 4) (by simp) (by simp [suC, g2])]
      dsimp only [List.getD, List.set, List.getElem?_cons_succ, List.getElem?_cons_zero, Option.getD_some]
      rw [suL_end (by simp)]
      dsimp only [List.getD, List.set, List.getElem?_cons_succ, List.getElem?_cons_zero, Option.getD_some]
      by_cases k3_4 : v < e
      · rw [sd_up (q := 1) (by omega) (by omega) (by simpa using k3_4)]
        dsimp only [List.getD, List.set, List.getElem?_cons_succ, List.getElem?_cons_zero, Option.getD_some]
        by_cases k4_1 : v < b
        · rw [sd_up (q := 0) (by omega) (by omega) (by simpa using k4_1)]
          dsimp only [List.getD, List.set, List.getElem?_cons_succ, List.getElem?_cons_zero, Option.getD_some]
          rw [sd_end (by omega)]
          exact ⟨by simp only [Hp, List.set]; omega, by rw [List.perm_iff_count]; intro x; simp only [List.set, List.count_cons, List.count_nil]; (try omega)⟩
        · rw [sd_stay (q := 0) (by omega) (by omega) (by simpa using k4_1)]
          exact ⟨by simp only [Hp, List.set]; omega, by rw [List.perm_iff_count]; intro x; simp only [List.set, List.count_cons, List.count_nil]; (try omega)⟩
      · rw [sd_stay (q := 1) (by omega) (by omega) (by simpa using k3_4)]
        exact ⟨by simp only [Hp, List.set]; omega, by rw [List.perm_iff_count]; intro x; simp only [List.set, List.count_cons, List.count_nil]; (try omega)⟩
  · rw [suL_step (q := 2) (by simp) (by simp [suC, g1])]
    dsimp only [List.getD, List.set, List.getElem?_cons_succ, List.getElem?_cons_zero, Option.getD_some]
    rw [suL_end (by simp)]
    dsimp only [List.getD, List.set, List.getElem?_cons_succ, List.getElem?_cons_zero, Option.getD_some]
    by_cases k2_2 : v < c
    · rw [sd_up (q := 0) (by omega) (by omega) (by simpa using k2_2)]
      dsimp only [List.getD, List.set, List.getElem?_cons_succ, List.getElem?_cons_zero, Option.getD_some]
      rw [sd_end (by omega)]
      exact ⟨by simp only [Hp, List.set]; omega, by rw [List.perm_iff_count]; intro x; simp only [List.set, List.count_cons, List.count_nil]; (try omega)⟩
    · rw [sd_stay (q := 0) (by omega) (by omega) (by simpa using k2_2)]
      exact ⟨by simp only [Hp, List.set]; omega, by rw [List.perm_iff_count]; intro x; simp only [List.set, List.count_cons, List.count_nil]; (try omega)⟩
theorem su4a (v b c d : Int) : ∃ b' d', suF [v, b, c, d] 1 = [v, b', c, d'] ∧ [b', d'].Perm [b, d] ∧ b' ≤ d' := by
  unfold suF
  have e0 : [v, b, c, d].getD 1 0 = b := by simp
  rw [e0]
  rw [suL_step (q := 3) (by simp) (by simp [suC])]
  dsimp only [List.getD, List.set, List.getElem?_cons_succ, List.getElem?_cons_zero, Option.getD_some]
  rw [suL_end (by simp)]
  dsimp only [List.getD, List.set, List.getElem?_cons_succ, List.getElem?_cons_zero, Option.getD_some]
  by_cases k1_3 : b < d
  · rw [sd_up (q := 1) (by omega) (by omega) (by simpa using k1_3)]
    dsimp only [List.getD, List.set, List.getElem?_cons_succ, List.getElem?_cons_zero, Option.getD_some]
    rw [sd_end (by omega)]
    exact ⟨_, _, rfl, by rw [List.perm_iff_count]; intro x; simp only [List.count_cons, List.count_nil]; (try omega), by omega⟩
  · rw [sd_stay (q := 1) (by omega) (by omega) (by simpa using k1_3)]
    exact ⟨_, _, rfl, by rw [List.perm_iff_count]; intro x; simp only [List.count_cons, List.count_nil]; (try omega), by omega⟩
theorem su5a (v b c d e : Int) : ∃ b' d' e', suF [v, b, c, d, e] 1 = [v, b', c, d', e'] ∧ [b', d', e'].Perm [b, d, e] ∧ b' ≤ d' ∧ b' ≤ e' := by
  unfold suF
  have e0 : [v, b, c, d, e].getD 1 0 = b := by simp
  rw [e0]
  by_cases g1 : d < e
  · rw [suL_step (q := 3) (by simp) (by simp [suC, g1])]
    dsimp only [List.getD, List.set, List.getElem?_cons_succ, List.getElem?_cons_zero, Option.getD_some]
    rw [suL_end (by simp)]
    dsimp only [List.getD, List.set, List.getElem?_cons_succ, List.getElem?_cons_zero, Option.getD_some]
    by_cases k2_3 : b < d
    · rw [sd_up (q := 1) (by omega) (by omega) (by simpa using k2_3)]
      dsimp only [List.getD, List.set, List.getElem?_cons_succ, List.getElem?_cons_zero, Option.getD_some]
      rw [sd_end (by omega)]
      exact ⟨_, _, _, rfl, by rw [List.perm_iff_count]; intro x; simp only [List.count_cons, List.count_nil]; (try omega), by omega, by omega⟩
    · rw [sd_stay (q := 1) (by omega) (by omega) (by simpa using k2_3)]
      exact ⟨_, _, _, rfl, by rw [List.perm_iff_count]; intro x; simp only [List.count_cons, List.count_nil]; (try omega), by omega, by omega⟩
  · rw [suL_step (q := 4) (by simp) (by simp [suC, g1])]
    dsimp only [List.getD, List.set, List.getElem?_cons_succ, List.getElem?_cons_zero, Option.getD_some]
    rw [suL_end (by simp)]
    dsimp only [List.getD, List.set, List.getElem?_cons_succ, List.getElem?_cons_zero, Option.getD_some]
    by_cases k2_4 : b < e
    · rw [sd_up (q := 1) (by omega) (by omega) (by simpa using k2_4)]
      dsimp only [List.getD, List.set, List.getElem?_cons_succ, List.getElem?_cons_zero, Option.getD_some]
      rw [sd_end (by omega)]
      exact ⟨_, _, _, rfl, by rw [List.perm_iff_count]; intro x; simp only [List.count_cons, List.count_nil]; (try omega), by omega, by omega⟩
    · rw [sd_stay (q := 1) (by omega) (by omega) (by simpa using k2_4)]
      exact ⟨_, _, _, rfl, by rw [List.perm_iff_count]; intro x; simp only [List.count_cons, List.count_nil]; (try omega), by omega, by omega⟩
/-! 42huff -/
/-- the least that ways to put a list together cost -/
noncomputable def Best {α : Type} (wt : α → Int) (l : List α) (s : Int) : Prop := Way wt l s ∧ ∀ s', Way wt l s' → s ≤ s'
abbrev BestI := Best (fun x : Int => x)
theorem Best.perm {α : Type} {wt : α → Int} {l l' : List α} {s : Int} (h : Best wt l s) (p : l.Perm l') : Best wt l' s :=
  ⟨h.1.perm p, fun s' h' => h.2 s' (h'.perm p.symm)⟩
theorem Best.uniq {α : Type} {wt : α → Int} {l : List α} {s t : Int} (h : Best wt l s) (h' : Best wt l t) : s = t := by
  have := h.2 _ h'.1; have := h'.2 _ h.1; omega
theorem best1 (x : Int) : BestI [x] 0 := ⟨.leaf _, fun s' h => by rw [way1 h rfl]; exact Int.le_refl _⟩
theorem sort_ints (l : List Int) : ∃ l' : List Int, l'.Perm l ∧ l'.Pairwise (· ≤ ·) := by
  refine ⟨l.mergeSort fun a b => decide (a ≤ b), List.mergeSort_perm _ _, ?_⟩
  have := List.pairwise_mergeSort (le := fun (a b : Int) => decide (a ≤ b)) (fun a b c h1 h2 => by simp only [decide_eq_true_eq] at *; omega) (fun a b => by simp only [Bool.or_eq_true, decide_eq_true_eq]; omega) l
  exact this.imp fun h => by simpa using h
theorem best_step {a b : Int} {r : List Int} {s : Int} (hab : a ≤ b) (hr : ∀ x ∈ r, b ≤ x) (hz : r.length ≤ 3) (h : BestI ((a + b) :: r) s) : BestI (a :: b :: r) (a + b + s) := by
  refine ⟨h.1.open a b r (.refl _), fun s' h' => ?_⟩
  obtain ⟨r', p, hs⟩ := sort_ints r
  replace h := h.perm (p.symm.cons _)
  have hp : (a :: b :: r).Perm (a :: b :: r') := (p.symm.cons b).cons a
  replace h' := h'.perm hp
  have hr' : ∀ x ∈ r', b ≤ x := fun x hx => hr x (p.subset hx)
  have hS : (a :: b :: r').Pairwise (· ≤ ·) := by
    rw [List.pairwise_cons, List.pairwise_cons]
    refine ⟨fun x hx => ?_, hr', hs⟩
    rcases List.mem_cons.mp hx with rfl | hx
    · exact hab
    · have := hr' x hx; omega
  have hz' : r'.length ≤ 3 := by rw [p.length_eq]; exact hz
  clear hr hp hs hr' hz p
  match r', hz' with
  | [], _ =>
    rw [way1 h.1 rfl, way2 h' rfl]; simp
  | [c], _ =>
    obtain ⟨x, y, z, p, rfl⟩ := way3 h' rfl
    have h2 := pre_le _ _ 2 hS p.symm
    have := h.2 _ (way2c (a + b) c)
    simp at h2 ⊢
    omega
  | [c, d], _ =>
    have h1 := h.2 _ (way3c (a + b) c d)
    have h3 := h.2 _ ((way3c c d (a + b)).perm (by rw [List.perm_iff_count]; intro x; simp only [List.count_cons, List.count_nil]; omega))
    rcases way4 h' rfl with ⟨x, y, z, t, p, rfl⟩ | rfl
    · have h4 := pre_le _ _ 2 hS p.symm
      have h5 := pre_le _ _ 3 hS p.symm
      simp at h4 h5 ⊢
      omega
    · simp; omega
  | [c, d, e], _ =>
    have h1 := h.2 _ (way4c (a + b) c d e)
    have h2 := h.2 _ ((way4c c d (a + b) e).perm (by rw [List.perm_iff_count]; intro x; simp only [List.count_cons, List.count_nil]; omega))
    have h3 := h.2 _ (way4d (a + b) c d e)
    obtain ⟨x, y, z, t, u, p, hh⟩ := way5 h' rfl
    have h4 := pre_le _ _ 2 hS p.symm
    have h5 := pre_le _ _ 3 hS p.symm
    have h6 := pre_le _ _ 4 hS p.symm
    simp at h4 h5 h6 hh ⊢
    omega
theorem Hp_min : ∀ {l : List Int} {x : Int}, Hp (x :: l) → ∀ y ∈ l, x ≤ y
  | [], _, _ => fun _ h => nomatch h
  | [b], _, h => by simp [Hp] at h ⊢; omega
  | [b, c], _, h => by simp [Hp] at h ⊢; omega
  | [b, c, d], _, h => by simp [Hp] at h ⊢; omega
  | [b, c, d, e], _, h => by simp [Hp] at h ⊢; omega
  | _ :: _ :: _ :: _ :: _ :: _, _, h => nomatch h
theorem Hp_len : ∀ {l : List Int}, Hp l → l.length ≤ 5
  | [], _ => by decide
  | [_], _ => by simp
  | [_, _], _ => by simp
  | [_, _, _], _ => by simp
  | [_, _, _, _], _ => by simp
  | [_, _, _, _, _], _ => by simp
  | _ :: _ :: _ :: _ :: _ :: _ :: _, h => nomatch h
theorem Hp_put : ∀ {l : List Int} {x : Int} (v : Int), Hp (x :: l) → Hp (suF (v :: l) 0) ∧ (suF (v :: l) 0).Perm (v :: l)
  | [], _, v, _ => by rw [su1]; exact ⟨trivial, .refl _⟩
  | [b], _, v, h => su2 v b
  | [b, c], _, v, h => su3 v b c
  | [b, c, d], _, v, h => su4 v b c d (by simp [Hp] at h; omega)
  | [b, c, d, e], _, v, h => su5 v b c d e (by simp [Hp] at h; omega) (by simp [Hp] at h; omega)
  | _ :: _ :: _ :: _ :: _ :: _, _, _, h => nomatch h
theorem Hp_pop : ∀ {l : List Int} {x : Int}, Hp (x :: l) → Hp (popF (x :: l)) ∧ (popF (x :: l)).Perm l
  | [], x, _ => by
    have : popF [x] = [] := by simp [popF]
    rw [this]; exact ⟨trivial, .refl _⟩
  | [b], x, _ => by
    have : popF [x, b] = suF [b] 0 := by simp [popF]
    rw [this, su1]; exact ⟨trivial, .refl _⟩
  | [b, c], x, h => by
    have : popF [x, b, c] = suF [c, b] 0 := by simp [popF]
    rw [this]
    obtain ⟨h1, h2⟩ := su2 c b
    exact ⟨h1, h2.trans (.swap _ _ _)⟩
  | [b, c, d], x, h => by
    have : popF [x, b, c, d] = suF [d, b, c] 0 := by simp [popF]
    rw [this]
    obtain ⟨h1, h2⟩ := su3 d b c
    exact ⟨h1, h2.trans (List.perm_append_comm (l₁ := [d]) (l₂ := [b, c]))⟩
  | [b, c, d, e], x, h => by
    have : popF [x, b, c, d, e] = suF [e, b, c, d] 0 := by simp [popF]
    rw [this]
    obtain ⟨h1, h2⟩ := su4 e b c d (by simp [Hp] at h; omega)
    exact ⟨h1, h2.trans (List.perm_append_comm (l₁ := [e]) (l₂ := [b, c, d]))⟩
  | _ :: _ :: _ :: _ :: _ :: _, _, h => nomatch h
theorem ptL_best : ∀ (n : Nat) (xs : List Int) (k : Nat) (s : Int), xs.length = n + 1 → n ≤ k → Hp xs → ∃ t, BestI xs t ∧ ptL k xs s = s + t
  | 0, xs, k, s, hl, _, _ => by
    match xs, hl with
    | [x], _ =>
      refine ⟨0, best1 x, ?_⟩
      cases k with
      | zero => simp [ptL]
      | succ k => simp [ptL]
  | n + 1, xs, k, s, hl, hk, hH => by
    obtain ⟨k, rfl⟩ : ∃ j, k = j + 1 := ⟨k - 1, by omega⟩
    match xs, hl with
    | x :: l, hl =>
      have hl' : l.length = n + 1 := by simpa using hl
      have h5 := Hp_len hH
      obtain ⟨h1, h2⟩ := Hp_pop hH
      have hmin := Hp_min hH
      rw [ptL, if_pos (by omega)]
      generalize popF (x :: l) = q at h1 h2
      match q, h1, h2 with
      | [], _, h2 => rw [← h2.length_eq] at hl'; cases hl'
      | y :: r, h1, h2 =>
        obtain ⟨h3, h4⟩ := Hp_put (x + y) h1
        have hmr := Hp_min h1
        have hlr : r.length = n := by have := h2.length_eq; simp at this; omega
        show ∃ t, BestI (x :: l) t ∧ ptL k (suF ((x + y) :: r) 0) (s + (x + y)) = s + t
        obtain ⟨t, hb, e⟩ := ptL_best n (suF ((x + y) :: r) 0) k (s + (x + y)) (by rw [h4.length_eq]; simpa using hlr) (by omega) h3
        refine ⟨x + y + t, ?_, by rw [e]; omega⟩
        refine (best_step (hmin y (h2.subset (.head _))) hmr (by simp at h5; omega) (hb.perm h4)).perm ?_
        exact h2.cons x
theorem hfy1 (xs : List Int) : hfyF 1 xs = suF xs 0 := by rw [hfyF, hfyF]
theorem hfy2 (xs : List Int) : hfyF 2 xs = suF (suF xs 1) 0 := by rw [hfyF, hfyF, hfyF]
theorem hfy_heap : ∀ (xs : List Int), 0 < xs.length → xs.length ≤ 5 → Hp (hfyF (xs.length / 2) xs) ∧ (hfyF (xs.length / 2) xs).Perm xs
  | [a], _, _ => by
    rw [show [a].length / 2 = 0 by simp]
    rw [hfyF]; exact ⟨trivial, .refl _⟩
  | [a, b], _, _ => by
    rw [show [a, b].length / 2 = 1 by simp]
    rw [hfy1]; exact su2 a b
  | [a, b, c], _, _ => by
    rw [show [a, b, c].length / 2 = 1 by simp]
    rw [hfy1]; exact su3 a b c
  | [a, b, c, d], _, _ => by
    obtain ⟨b', d', e, p, h⟩ := su4a a b c d
    obtain ⟨h1, h2⟩ := su4 a b' c d' h
    rw [show [a, b, c, d].length / 2 = 2 by simp]
    rw [hfy2, e]
    refine ⟨h1, h2.trans ?_⟩
    rw [List.perm_iff_count] at p ⊢
    intro x; have := p x; simp only [List.count_cons, List.count_nil] at this ⊢; omega
  | [a, b, c, d, e], _, _ => by
    obtain ⟨b', d', e', q, p, h, h'⟩ := su5a a b c d e
    obtain ⟨h1, h2⟩ := su5 a b' c d' e' h h'
    rw [show [a, b, c, d, e].length / 2 = 2 by simp]
    rw [hfy2, q]
    refine ⟨h1, h2.trans ?_⟩
    rw [List.perm_iff_count] at p ⊢
    intro x; have := p x; simp only [List.count_cons, List.count_nil] at this ⊢; omega
  | _ :: _ :: _ :: _ :: _ :: _ :: _, _, h => by simp at h
/-- the sums of the heap are the least -/
theorem put_best (cs : List Int) (h0 : 0 < cs.length) (h5 : cs.length ≤ 5) : BestI cs (ptL cs.length (hfyF (cs.length / 2) cs) 0) := by
  obtain ⟨h1, h2⟩ := hfy_heap cs h0 h5
  obtain ⟨t, hb, e⟩ := ptL_best (cs.length - 1) (hfyF (cs.length / 2) cs) cs.length 0 (by rw [h2.length_eq]; omega) (by omega) h1
  rw [e, Int.zero_add]; exact hb.perm h2
/-! 43least -/
/-- the places of the bits of a mask -/
noncomputable def bitsOf (m : Nat) : List Nat := (List.range 5).filter fun k => decide (m / 2 ^ k % 2 ≠ 0)
noncomputable def subsF (m : Nat) : Nat → Nat → List Nat
  | 0, _ => []
  | f + 1, p => if p = 0 then [] else p :: subsF m f ((p - 1) &&& m)
theorem ways_subs (best : List Int) (m : Nat) : ∀ (f p : Nat), p ≤ f → waysF best m p = (subsF m f p).map fun q => best.getD q 0 + best.getD (m - q) 0
  | 0, p, h => by
    have : p = 0 := by omega
    subst this
    rw [waysF, dif_pos rfl]; rfl
  | f + 1, p, h => by
    rw [waysF, subsF]
    by_cases q : p = 0
    · rw [dif_pos q, if_pos q]; rfl
    · rw [dif_neg q, if_neg q, List.map_cons, ways_subs best m f]
      have := Nat.and_le_left (n := p - 1) (m := m)
      omega
theorem subs_mem : ∀ m < 32, ∀ p < 32, p ∈ subsF m 32 ((m - 1) &&& m) ↔ (p ≠ 0 ∧ p ≠ m ∧ p &&& m = p) := by decide +kernel
theorem subs_lt : ∀ m < 32, ∀ p ∈ subsF m 32 ((m - 1) &&& m), p < m := by decide +kernel
theorem subs_perm : ∀ m < 32, ∀ p ∈ subsF m 32 ((m - 1) &&& m), (bitsOf m).isPerm (bitsOf p ++ bitsOf (m - p)) = true := by decide +kernel
theorem subs_of : ∀ m < 32, ∀ p < 32, (∀ k ∈ bitsOf p, k ∈ bitsOf m) → p &&& m = p := by decide +kernel
theorem subs_nil : ∀ m < 32, m ≠ 0 → subsF m 32 ((m - 1) &&& m) = [] → (bitsOf m).length = 1 := by decide +kernel
theorem subs_len : ∀ m < 32, subsF m 32 ((m - 1) &&& m) ≠ [] → 1 < (bitsOf m).length := by decide +kernel
theorem bits_ne : ∀ m < 32, m ≠ 0 → bitsOf m ≠ [] := by decide +kernel
theorem bits_zero : bitsOf 0 = [] := by decide +kernel
theorem bits_all : ∀ n < 6, ∀ m < 2 ^ n, ((List.range n).filter fun k => decide (m / 2 ^ k % 2 ≠ 0)) = bitsOf m := by decide +kernel
theorem bits_full : ∀ n < 6, bitsOf (2 ^ n - 1) = List.range n := by decide +kernel
theorem bits_lt {m k : Nat} (h : k ∈ bitsOf m) : k < 5 := List.mem_range.mp (List.mem_filter.mp h).1
theorem bits_nodup (m : Nat) : (bitsOf m).Nodup := List.Nodup.sublist List.filter_sublist List.nodup_range
theorem pick : ∀ (n : Nat) (f : Nat → Bool), ∃ p, p < 2 ^ n ∧ ∀ k, k < n → p.testBit k = f k
  | 0, f => ⟨0, by simp, fun k h => by omega⟩
  | n + 1, f => by
    obtain ⟨p, hp, h⟩ := pick n f
    cases q : f n with
    | false =>
      refine ⟨p, by rw [Nat.pow_succ]; omega, fun k hk => ?_⟩
      by_cases e : k = n
      · subst e; rw [q]; exact Nat.testBit_lt_two_pow hp
      · exact h k (by omega)
    | true =>
      refine ⟨2 ^ n + p, by rw [Nat.pow_succ]; omega, fun k hk => ?_⟩
      by_cases e : k = n
      · subst e; rw [q, Nat.testBit_two_pow_add_eq, Nat.testBit_lt_two_pow hp]; rfl
      · rw [Nat.testBit_two_pow_add_gt (by omega)]; exact h k (by omega)
theorem bits_test (m k : Nat) : decide (m / 2 ^ k % 2 ≠ 0) = m.testBit k := by
  rw [Nat.testBit_eq_decide_div_mod_eq]
  apply decide_eq_decide.mpr
  omega
/-- a list of places without twins is the list of a mask -/
theorem bits_of_list {A : List Nat} (hn : A.Nodup) (hl : ∀ k ∈ A, k < 5) : ∃ p, p < 32 ∧ A.Perm (bitsOf p) := by
  obtain ⟨p, hp, h⟩ := pick 5 fun k => decide (k ∈ A)
  refine ⟨p, hp, (List.perm_ext_iff_of_nodup hn (bits_nodup p)).mpr fun k => ?_⟩
  unfold bitsOf
  rw [List.mem_filter, List.mem_range, bits_test]
  constructor
  · intro hk; exact ⟨hl k hk, by rw [h k (hl k hk)]; simpa using hk⟩
  · rintro ⟨hk, e⟩; rw [h k hk] at e; simpa using e
theorem min_mem {l : List Int} (h : l ≠ []) : minL l ∈ l ∧ ∀ x ∈ l, minL l ≤ x := by
  cases l with
  | nil => exact absurd rfl h
  | cons x r =>
    obtain ⟨⟨a, b⟩, c⟩ := foldl_min r x
    show r.foldl min x ∈ _ ∧ _
    refine ⟨?_, fun y hy => ?_⟩
    · rcases c with c | c
      · rw [c]; exact .head _
      · exact .tail _ c
    · show r.foldl min x ≤ y
      rcases List.mem_cons.mp hy with rfl | hy
      · exact a
      · exact b y hy
section
variable (cs : List Int)
abbrev wtC : Nat → Int := fun k => cs.getD k 0
theorem step_best (hz : cs.length ≤ 5) {best : List Int} {m : Nat} (h0 : m ≠ 0) (hm : m < 2 ^ cs.length) (hl : best.length = 2 ^ cs.length) (hb0 : best.getD m 0 = 0)
    (hb : ∀ p, p ≠ 0 → p < m → Best (wtC cs) (bitsOf p) (best.getD p 0)) : Best (wtC cs) (bitsOf m) ((stepL cs best m).getD m 0) := by
  have h32 : 2 ^ cs.length ≤ 2 ^ 5 := Nat.pow_le_pow_right (by decide) hz
  have hm32 : m < 32 := Nat.lt_of_lt_of_le hm h32
  have hle : (m - 1) &&& m ≤ 32 := by have := Nat.and_le_left (n := m - 1) (m := m); omega
  have hin : insF cs m = (bitsOf m).map (wtC cs) := by
    unfold insF; rw [bits_all cs.length (by omega) m hm]
  unfold stepL
  rw [hin, ways_subs best m 32 _ hle]
  by_cases e : subsF m 32 ((m - 1) &&& m) = []
  · rw [e, List.map_nil, if_pos rfl, hb0]
    have h1 := subs_nil m hm32 h0 e
    generalize bitsOf m = l at h1
    match l, h1 with
    | [a], _ =>
      refine ⟨.leaf a, fun s' h' => ?_⟩
      have := way1 (h'.map (f := wtC cs) (wt := fun x : Int => x) (fun _ => rfl)) rfl
      omega
  · rw [if_neg (by simpa using e), List.getD, List.getElem?_set_self (by omega), Option.getD_some]
    have hne : ((subsF m 32 ((m - 1) &&& m)).map fun q => best.getD q 0 + best.getD (m - q) 0) ≠ [] := by simpa using e
    obtain ⟨h1, h2⟩ := min_mem hne
    constructor
    · obtain ⟨p, hp, e1⟩ := List.mem_map.mp h1
      rw [← e1]
      have hpm := subs_lt m hm32 p hp
      obtain ⟨hp0, _, _⟩ := (subs_mem m hm32 p (by omega)).mp hp
      have := Way.node (hb p hp0 hpm).1 (hb (m - p) (by omega) (by omega)).1 (List.isPerm_iff.mp (subs_perm m hm32 p hp))
      rw [Int.add_assoc] at this
      exact this
    · intro s' h'
      have hlen := subs_len m hm32 e
      generalize hB : bitsOf m = l at h'
      cases h' with
      | leaf a => rw [hB] at hlen; simp at hlen
      | @node _ A B s t hA hB' q =>
        rw [← hB] at q ⊢
        have hnd : (A ++ B).Nodup := q.nodup (bits_nodup m)
        have hin : ∀ k ∈ A, k ∈ bitsOf m := fun k hk => q.symm.subset (List.mem_append_left _ hk)
        obtain ⟨p, hp, hAp⟩ := bits_of_list (List.nodup_append.mp hnd).1 (fun k hk => bits_lt (hin k hk))
        have hpm := subs_of m hm32 p hp fun k hk => hin k (hAp.symm.subset hk)
        have hp0 : p ≠ 0 := fun e0 => by
          have := hA.ne; rw [hAp.length_eq, e0, bits_zero] at this; simp at this
        have hpn : p ≠ m := fun e0 => by
          have h3 := q.length_eq
          rw [List.length_append, hAp.length_eq, e0] at h3
          have := hB'.ne; omega
        have hps := (subs_mem m hm32 p hp).mpr ⟨hp0, hpn, hpm⟩
        have hlt := subs_lt m hm32 p hps
        have hq := List.isPerm_iff.mp (subs_perm m hm32 p hps)
        have hBp : B.Perm (bitsOf (m - p)) := (List.perm_append_left_iff (bitsOf p)).mp (((hAp.symm.append_right B).trans q.symm).trans hq)
        have a1 := (hb p hp0 hlt).2 _ (hA.perm hAp)
        have a2 := (hb (m - p) (by omega) (by omega)).2 _ (hB'.perm hBp)
        have a3 := h2 _ (List.mem_map.mpr ⟨p, hps, rfl⟩)
        omega
theorem bestF_get (hz : cs.length ≤ 5) : ∀ i, i < 2 ^ cs.length → (∀ p, p ≠ 0 → p ≤ i → Best (wtC cs) (bitsOf p) ((bestF cs i).getD p 0)) ∧ ∀ p, i < p → (bestF cs i).getD p 0 = 0
  | 0, _ => by
    refine ⟨fun p h1 h2 => by omega, fun p _ => ?_⟩
    unfold bestF
    rw [List.getD, List.getElem?_replicate]
    split <;> rfl
  | i + 1, hi => by
    obtain ⟨h1, h2⟩ := bestF_get hz i (by omega)
    have hs : ∀ p, p ≠ i + 1 → (bestF cs (i + 1)).getD p 0 = (bestF cs i).getD p 0 := fun p hp => by
      rw [bestF]; unfold stepL
      split
      · rfl
      · rw [List.getD, List.getElem?_set_ne (by omega)]; rfl
    refine ⟨fun p hp0 hp => ?_, fun p hp => by rw [hs p (by omega)]; exact h2 p (by omega)⟩
    by_cases e : p = i + 1
    · subst e
      rw [bestF]
      exact step_best cs hz (by omega) hi (bestF_len cs i) (h2 _ (by omega)) fun p h3 h4 => h1 p h3 (by omega)
    · rw [hs p e]; exact h1 p hp0 (by omega)
/-- the least of all partings is the least of all ways -/
theorem least_best (h0 : 0 < cs.length) (hz : cs.length ≤ 5) : BestI cs (leastF cs) := by
  have hp : 1 < 2 ^ cs.length := Nat.one_lt_two_pow (by omega)
  have h := (bestF_get cs hz (2 ^ cs.length - 1) (by omega)).1 (2 ^ cs.length - 1) (by omega) (Nat.le_refl _)
  rw [bits_full cs.length (by omega)] at h
  have e : cs = (List.range cs.length).map (wtC cs) := by
    apply List.ext_getElem
    · simp
    · intro i h1 h2
      rw [List.getElem_map, List.getElem_range]
      show _ = cs.getD i 0
      rw [List.getD, List.getElem?_eq_getElem h1]; rfl
  refine ⟨?_, fun s' h' => ?_⟩
  · have := h.1.map (f := wtC cs) (wt := fun x : Int => x) fun _ => rfl
    rw [← e] at this; exact this
  · exact h.2 _ (h'.unmap (f := wtC cs) (wa := wtC cs) (fun _ => rfl) _ e)
end
theorem put_least (cs : List Int) (h0 : 0 < cs.length) (h5 : cs.length ≤ 5) : ptL cs.length (hfyF (cs.length / 2) cs) 0 = leastF cs :=
  (put_best cs h0 h5).uniq (least_best cs h0 h5)
/-! 44place -/
/-- a list without its later twins -/
noncomputable def dd : List Int → List Int
  | [] => []
  | x :: r => x :: (dd r).filter fun y => decide (y ≠ x)
theorem dd_mem {x : Int} : ∀ {l : List Int}, x ∈ dd l ↔ x ∈ l
  | [] => Iff.rfl
  | y :: r => by
    rw [dd, List.mem_cons, List.mem_cons, List.mem_filter, dd_mem (l := r)]
    by_cases e : x = y
    · simp [e]
    · simp [e]
theorem dd_nodup : ∀ l : List Int, (dd l).Nodup
  | [] => List.nodup_nil
  | y :: r => by
    rw [dd, List.nodup_cons]
    exact ⟨fun h => by simpa using (List.mem_filter.mp h).2, (dd_nodup r).sublist List.filter_sublist⟩
theorem dd_len : ∀ l : List Int, (dd l).length ≤ l.length
  | [] => Nat.le_refl _
  | y :: r => by
    rw [dd, List.length_cons, List.length_cons]
    have := List.length_filter_le (fun z => decide (z ≠ y)) (dd r)
    have := dd_len r
    omega
theorem idx_ne {x k : Int} (e : x ≠ k) (r : List Int) : (x :: r).idxOf k = r.idxOf k + 1 := by
  rw [List.idxOf_cons]
  have : (x == k) = false := by simpa using e
  rw [this]; rfl
theorem idxS_ne {x k : Str} (e : x ≠ k) (r : List Str) : (x :: r).idxOf k = r.idxOf k + 1 := by
  rw [List.idxOf_cons]
  have : (x == k) = false := by simpa using e
  rw [this]; rfl
theorem nodup_rev {l : List Int} (h : l.reverse.Nodup) : l.Nodup := (List.reverse_perm l).nodup h
theorem idx_while (k : Int) : ∀ l : List Int, l.idxOf k = (l.takeWhile fun y => decide (y ≠ k)).length
  | [] => rfl
  | x :: r => by
    by_cases e : x = k
    · subst e; rw [List.idxOf_cons_self, List.takeWhile_cons_of_neg (by simp)]; rfl
    · rw [idx_ne e, List.takeWhile_cons_of_pos (by simpa using e), List.length_cons, idx_while k r]
theorem take_while (k : Int) : ∀ l : List Int, l.take (l.idxOf k) = l.takeWhile fun y => decide (y ≠ k)
  | [] => rfl
  | x :: r => by
    by_cases e : x = k
    · subst e; rw [List.idxOf_cons_self, List.takeWhile_cons_of_neg (by simp)]; rfl
    · rw [idx_ne e, List.takeWhile_cons_of_pos (by simpa using e), List.take_succ_cons, take_while k r]
theorem dd_while (k : Int) : ∀ l : List Int, dd (l.takeWhile fun y => decide (y ≠ k)) = (dd l).takeWhile fun y => decide (y ≠ k)
  | [] => rfl
  | x :: r => by
    by_cases e : x = k
    · subst e
      rw [List.takeWhile_cons_of_neg (by simp), dd, dd, List.takeWhile_cons_of_neg (by simp)]
    · rw [List.takeWhile_cons_of_pos (by simpa using e), dd, dd, List.takeWhile_cons_of_pos (by simpa using e), dd_while k r, List.takeWhile_filter]
      congr 3
      funext a
      by_cases q : a = x
      · subst q; simp [e]
      · simp [q]
theorem dd_idx (k : Int) (l : List Int) : (dd l).idxOf k = (dd (l.takeWhile fun y => decide (y ≠ k))).length := by
  rw [dd_while, idx_while]
theorem dd_idx_le (k : Int) (l : List Int) : (dd l).idxOf k ≤ l.idxOf k := by
  rw [dd_idx, idx_while k l]; exact dd_len _
theorem pres_len {l : List Int} (h : ∀ k ∈ l, 0 ≤ k ∧ k < 5) : (presF l).length = (dd l).length := by
  refine List.Perm.length_eq ((List.perm_ext_iff_of_nodup ?_ (dd_nodup l)).mpr fun k => ?_)
  · exact List.Nodup.sublist List.filter_sublist (by decide)
  · unfold presF
    rw [dd_mem, List.mem_filter, decide_eq_true_eq]
    refine ⟨fun h => h.2, fun hk => ⟨?_, hk⟩⟩
    obtain ⟨h0, h5⟩ := h k hk
    simp only [List.mem_cons, List.not_mem_nil, or_false]
    omega
theorem back_while (ks : List Int) (i : Nat) : backF ks i = ((ks.take i).reverse).takeWhile fun y => decide (y ≠ ks.getD i 0) := by
  unfold backF
  split
  · rw [take_while]
  · rename_i h
    rw [← take_while, List.idxOf_eq_length h, List.take_length]
theorem due_idx {ks : List Int} (h : ∀ k ∈ ks, 0 ≤ k ∧ k < 5) (i : Nat) : dueF ks i = 1 + ((dd (ks.take i).reverse).idxOf (ks.getD i 0) : Int) := by
  unfold dueF
  rw [back_while, pres_len, dd_idx]
  intro k hk
  have h1 := List.takeWhile_sublist _ |>.subset hk
  rw [List.mem_reverse] at h1
  exact h k (List.mem_of_mem_take h1)
/-- the places, by the kinds and what was asked before -/
noncomputable def plF : List Int → List Int → List Int
  | [], _ => []
  | k :: r, h => (1 + ((dd h).idxOf k : Int)) :: plF r (k :: h)
theorem due_pl {ks : List Int} (h : ∀ k ∈ ks, 0 ≤ k ∧ k < 5) : ∀ (r pre : List Int), ks = pre ++ r → (List.range' pre.length r.length).map (dueF ks) = plF r pre.reverse
  | [], _, _ => rfl
  | k :: r, pre, e => by
    rw [List.length_cons, List.range'_succ, List.map_cons, plF]
    have ih := due_pl h r (pre ++ [k]) (by rw [e]; simp)
    rw [List.length_append, List.length_singleton, List.reverse_append] at ih
    congr 1
    rw [due_idx h, e]
    simp
theorem due_all {ks : List Int} (h : ∀ k ∈ ks, 0 ≤ k ∧ k < 5) : (List.range ks.length).map (dueF ks) = plF ks [] := by
  have := due_pl h ks [] rfl
  rw [List.range_eq_range']
  exact this
/-- the sender's table, by kinds -/
noncomputable def tabK (kt : List Int) (k : Int) : List Int := (kt.filter fun j => decide (j ≠ k)) ++ [k]
theorem tabK_rev {kt h : List Int} (e : kt.reverse = dd h) (k : Int) : (tabK kt k).reverse = dd (k :: h) := by
  unfold tabK
  rw [List.reverse_append, dd, ← e, List.filter_reverse]; rfl
theorem rev_idx {kt : List Int} {k : Int} (hn : kt.Nodup) (hk : k ∈ kt) : kt.reverse.idxOf k + kt.idxOf k + 1 = kt.length := by
  obtain ⟨a, b, rfl⟩ := List.append_of_mem hk
  rw [List.nodup_append] at hn
  obtain ⟨h1, h2, h3⟩ := hn
  have ha : k ∉ a := fun q => h3 k q k (.head _) rfl
  have hb : k ∉ b := (List.nodup_cons.mp h2).1
  have e1 : (a ++ k :: b).idxOf k = a.length := by rw [List.idxOf_append, if_neg ha, List.idxOf_cons_self]; simp
  have e2 : (a ++ k :: b).reverse.idxOf k = b.length := by
    rw [List.reverse_append, List.reverse_cons, List.append_assoc, List.idxOf_append, if_neg (by simpa using hb)]
    have : [k] ++ a.reverse = k :: a.reverse := rfl
    rw [this, List.idxOf_cons_self]; simp
  rw [e1, e2]
  simp
  omega
theorem idx_map {L : Int → Str} {k : Int} : ∀ {l : List Int}, (∀ j ∈ l, L j = L k → j = k) → (l.map L).idxOf (L k) = l.idxOf k
  | [], _ => rfl
  | x :: r, h => by
    rw [List.map_cons]
    by_cases e : x = k
    · subst e; rw [List.idxOf_cons_self, List.idxOf_cons_self]
    · rw [idxS_ne (fun q => e (h x (.head _) q)), idx_ne e, idx_map fun j hj => h j (.tail _ hj)]
theorem mem_map_inj {L : Int → Str} {k : Int} {l : List Int} (h : ∀ j ∈ l, L j = L k → j = k) : L k ∈ l.map L ↔ k ∈ l := by
  rw [List.mem_map]
  exact ⟨fun ⟨j, hj, e⟩ => h j hj e ▸ hj, fun hk => ⟨k, hk, rfl⟩⟩
/-- place by the kinds' table -/
theorem place_K {L : Int → Str} {tab : List Str} {kt h : List Int} {x : Str} {k : Int} (ht : tab.map low = kt.map L) (hx : low x = L k) (hi : ∀ j ∈ kt, L j = L k → j = k) (hr : kt.reverse = dd h) :
    placeF tab x = 1 + ((dd h).idxOf k : Int) := by
  have hl : tab.length = kt.length := by have := congrArg List.length ht; simpa using this
  have hn : kt.Nodup := by have := dd_nodup h; rw [← hr] at this; exact nodup_rev this
  unfold placeF
  rw [ht, hx, idx_map hi, ← hr]
  by_cases q : k ∈ kt
  · rw [if_pos ((mem_map_inj hi).mpr q)]
    have := rev_idx hn q
    omega
  · rw [if_neg fun z => q ((mem_map_inj hi).mp z), List.idxOf_eq_length (by simpa using q), List.length_reverse]
    omega
theorem tab_K {L : Int → Str} {tab : List Str} {kt : List Int} {x : Str} {k : Int} (ht : tab.map low = kt.map L) (hx : low x = L k) (hi : ∀ j ∈ kt, L j = L k → j = k) :
    (tabF tab x).map low = (tabK kt k).map L := by
  unfold tabF tabK
  rw [List.map_append, List.map_append]
  congr 1
  · rw [hx]
    clear hx
    induction tab generalizing kt with
    | nil => cases kt with
      | nil => rfl
      | cons j kt => cases ht
    | cons y tab ih =>
      cases kt with
      | nil => cases ht
      | cons j kt =>
        rw [List.map_cons, List.map_cons] at ht
        obtain ⟨e1, e2⟩ := List.cons.inj ht
        have ih' := ih e2 fun j hj => hi j (.tail _ hj)
        by_cases q : j = k
        · subst q
          rw [List.filter_cons_of_neg (by simp [e1]), List.filter_cons_of_neg (by simp), ih']
        · have : low y ≠ L k := fun z => q (hi j (.head _) (by rw [← e1, z]))
          rw [List.filter_cons_of_pos (by simpa using this), List.filter_cons_of_pos (by simpa using q), List.map_cons, List.map_cons, ih', e1]
  · rw [List.map_singleton, List.map_singleton, hx]
theorem dd_sub {kt h : List Int} (hr : kt.reverse = dd h) {j : Int} (hj : j ∈ kt) : j ∈ h := by
  rw [← dd_mem, ← hr, List.mem_reverse]; exact hj
section
variable {L : Int → Str} {oF : Int → Int} (hL : ∀ x, low (nameF (oF x)) = L (x % 5)) (hi : ∀ j k, 0 ≤ j → j < 5 → 0 ≤ k → k < 5 → L j = L k → j = k)
include hL hi
theorem sent_pl : ∀ (r : List Int) (tab : List Str) (kt h : List Int), tab.map low = kt.map L → kt.reverse = dd h → (∀ j ∈ h, 0 ≤ j ∧ j < 5) →
    (sentF (r.map oF) tab).1 = plF (r.map (· % 5)) h
  | [], _, _, _, _, _, _ => rfl
  | x :: r, tab, kt, h, ht, hr, hh => by
    have hk : 0 ≤ x % 5 ∧ x % 5 < 5 := by omega
    have hi' : ∀ j ∈ kt, L j = L (x % 5) → j = x % 5 := fun j hj => hi j _ (hh j (dd_sub hr hj)).1 (hh j (dd_sub hr hj)).2 hk.1 hk.2
    rw [List.map_cons, List.map_cons, sentF, plF, place_K ht (hL x) hi' hr]
    dsimp only
    congr 1
    exact sent_pl r _ (tabK kt (x % 5)) (x % 5 :: h) (tab_K ht (hL x) hi') (tabK_rev hr _) fun j hj => by
      rcases List.mem_cons.mp hj with rfl | hj
      · exact hk
      · exact hh j hj
end
theorem rec_spent : ∀ (os : List Int) (st rt : List Str), (recF os st rt).2 = ((sentF os st).1.map fun p => 2 * (sizeF p : Int) - 1).sum
  | [], _, _ => rfl
  | o :: r, st, rt => by
    rw [recF, sentF, List.map_cons, List.sum_cons]
    dsimp only
    rw [rec_spent r]
theorem map_tabK {f : Int → Str} {L : Int → Str} {kt : List Int} {k : Int} (hf : ∀ j, j ∈ kt ∨ j = k → low (f j) = L j) (hi : ∀ j ∈ kt, L j = L k → j = k) : tabF (kt.map f) (f k) = (tabK kt k).map f := by
  unfold tabF tabK
  rw [List.map_append, List.map_singleton]
  congr 1
  have hk := hf k (.inr rfl)
  have hf' : ∀ j ∈ kt, low (f j) = L j := fun j hj => hf j (.inl hj)
  clear hf
  induction kt with
  | nil => rfl
  | cons j kt ih =>
    have ih' := ih (fun j hj => hi j (.tail _ hj)) fun j hj => hf' j (.tail _ hj)
    rw [List.map_cons]
    by_cases q : j = k
    · subst q
      rw [List.filter_cons_of_neg (by simp), List.filter_cons_of_neg (by simp), ih']
    · have : low (f j) ≠ low (f k) := fun z => q (hi j (.head _) (by rw [← hf' j (.head _), z, hk]))
      rw [List.filter_cons_of_pos (by simpa using this), List.filter_cons_of_pos (by simpa using q), List.map_cons, ih']
section
variable {L : Int → Str} {oF : Int → Int} (hL : ∀ x, low (nameF (oF x)) = L (x % 5)) (hi : ∀ j k, 0 ≤ j → j < 5 → 0 ≤ k → k < 5 → L j = L k → j = k)
include hL hi
theorem rec_got (f : Int → Str) (hf : ∀ j, 0 ≤ j → j < 5 → low (f j) = L j) : ∀ (r : List Int) (st : List Str) (kt h : List Int), st.map low = kt.map L → kt.reverse = dd h → (∀ j ∈ h, 0 ≤ j ∧ j < 5) →
    (∀ a x b, r = a ++ x :: b → (x % 5) ∉ h → (x % 5) ∉ a.map (· % 5) → nameF (oF x) = f (x % 5)) →
    (recF (r.map oF) st (kt.map f)).1 = r.map fun x => f (x % 5)
  | [], _, _, _, _, _, _, _ => rfl
  | x :: r, st, kt, h, ht, hr, hh, hq => by
    have hk : 0 ≤ x % 5 ∧ x % 5 < 5 := by omega
    have hkt : ∀ j ∈ kt, 0 ≤ j ∧ j < 5 := fun j hj => hh j (dd_sub hr hj)
    have hi' : ∀ j ∈ kt, L j = L (x % 5) → j = x % 5 := fun j hj => hi j _ (hkt j hj).1 (hkt j hj).2 hk.1 hk.2
    have hl : st.length = kt.length := by have := congrArg List.length ht; simpa using this
    have hn : kt.Nodup := by have := dd_nodup h; rw [← hr] at this; exact nodup_rev this
    have hp := place_K ht (hL x) hi' hr
    have e1 : (if (st.length : Int) < placeF st (nameF (oF x)) then nameF (oF x) else (kt.map f).getD ((kt.map f).length - (placeF st (nameF (oF x))).toNat) ⟨#[]⟩) = f (x % 5) := by
      rw [hp, hl, ← hr]
      by_cases q : x % 5 ∈ kt
      · have e := rev_idx hn q
        rw [if_neg (by omega), List.length_map]
        have e2 : kt.length - (1 + (kt.reverse.idxOf (x % 5) : Int)).toNat = kt.idxOf (x % 5) := by omega
        rw [e2]
        have hlt := List.idxOf_lt_length_iff.mpr q
        rw [List.getD, List.getElem?_map, List.getElem?_eq_getElem hlt, List.getElem_idxOf hlt]; rfl
      · rw [List.idxOf_eq_length (by simpa using q), List.length_reverse, if_pos (by omega)]
        refine hq [] x r rfl (fun z => q ?_) (by simp)
        rw [← List.mem_reverse, hr, dd_mem]; exact z
    rw [List.map_cons, List.map_cons, recF]
    dsimp only
    rw [e1]
    congr 1
    rw [map_tabK (L := L) (fun j hj => ?_) hi']
    · refine rec_got f hf r _ (tabK kt (x % 5)) (x % 5 :: h) (tab_K ht (hL x) hi') (tabK_rev hr _) (fun j hj => ?_) fun a y b e h1 h2 => ?_
      · rcases List.mem_cons.mp hj with rfl | hj
        · exact hk
        · exact hh j hj
      · refine hq (x :: a) y b (by rw [e]; rfl) (fun z => h1 (.tail _ z)) fun z => ?_
        rw [List.map_cons] at z
        rcases List.mem_cons.mp z with z | z
        · exact h1 (by rw [z]; exact .head _)
        · exact h2 z
    · rcases hj with hj | rfl
      · exact hf j (hkt j hj).1 (hkt j hj).2
      · exact hf _ hk.1 hk.2
end
/-! 45spent -/
theorem lg_bound (D p : Nat) (h : 1 ≤ p) : (2 : Int) ^ D * ((Nat.log2 p : Int) + 1 - D) ≤ p := by
  have h1 : 2 ^ Nat.log2 p ≤ p := Nat.log2_self_le (by omega)
  generalize Nat.log2 p = f at h1
  by_cases q : f + 1 ≤ D
  · have h2 : (2 : Int) ^ D * ((f : Int) + 1 - D) ≤ 2 ^ D * 0 := Int.mul_le_mul_of_nonneg_left (by omega) (Int.pow_nonneg (by decide))
    rw [Int.mul_zero] at h2
    omega
  · obtain ⟨e, rfl⟩ : ∃ e, f = D + e := ⟨f - D, by omega⟩
    have h2 : e + 1 ≤ 2 ^ e := Nat.lt_two_pow_self
    have h3 : 2 ^ D * (e + 1) ≤ 2 ^ D * 2 ^ e := Nat.mul_le_mul_left _ h2
    rw [← Nat.pow_add] at h3
    have h4 : (2 : Int) ^ D * (((D + e : Nat) : Int) + 1 - D) = ((2 ^ D * (e + 1) : Nat) : Int) := by
      push_cast
      congr 1
      omega
    rw [h4]
    omega
/-- the figures' places less one, of the askings of a kind -/
noncomputable def svF : List Int → List Int → Int → Int
  | [], _, _ => 0
  | k :: r, h, a => (if k = a then (Nat.log2 (1 + (dd h).idxOf k) : Int) else 0) + svF r (k :: h) a
noncomputable def totF : List Int → List Int → Int
  | [], _ => 0
  | k :: r, h => (Nat.log2 (1 + (dd h).idxOf k) : Int) + totF r (k :: h)
theorem sv_bound (a : Int) (D : Nat) : ∀ (r h : List Int), (2 : Int) ^ D * (svF r h a + (r.count a : Int) - D * (r.count a : Int)) ≤ (r.length : Int) + (h.idxOf a : Int)
  | [], h => by simp [svF]
  | k :: r, h => by
    have ih := sv_bound a D r (k :: h)
    rw [svF, List.count_cons, List.length_cons]
    by_cases e : k = a
    · subst e
      rw [List.idxOf_cons_self] at ih
      have h1 := lg_bound D (1 + (dd h).idxOf k) (by omega)
      have h2 := dd_idx_le k h
      rw [if_pos rfl, if_pos (by simp)]
      generalize Nat.log2 (1 + (dd h).idxOf k) = v at h1
      generalize svF r (k :: h) k = S at ih
      generalize r.count k = c at ih
      have e1 : (2 : Int) ^ D * ((v : Int) + S + ((c + 1 : Nat) : Int) - D * ((c + 1 : Nat) : Int)) = 2 ^ D * ((v : Int) + 1 - D) + 2 ^ D * (S + c - D * c) := by
        rw [← Int.mul_add]
        congr 1
        push_cast
        rw [Int.mul_add]
        omega
      rw [e1]
      omega
    · rw [idx_ne e] at ih
      rw [if_neg e, if_neg (by simpa using e), Nat.add_zero, Int.zero_add]
      omega
theorem sum_pick {P : List Int} (hn : P.Nodup) {k : Int} (hk : k ∈ P) (v : Int) (g : Int → Int) : (P.map fun a => (if k = a then v else 0) + g a).sum = v + (P.map g).sum := by
  induction P with
  | nil => cases hk
  | cons b P ih =>
    rw [List.map_cons, List.map_cons, List.sum_cons, List.sum_cons]
    obtain ⟨h1, h2⟩ := List.nodup_cons.mp hn
    by_cases e : k = b
    · subst e
      have : (P.map fun a => (if k = a then v else 0) + g a) = P.map g := by
        apply List.map_congr_left
        intro a ha
        rw [if_neg (fun (q : k = a) => h1 (by rw [q]; exact ha)), Int.zero_add]
      rw [this, if_pos rfl]; omega
    · rw [if_neg e, ih h2 ((List.mem_cons.mp hk).resolve_left e)]; omega
theorem sv_tot {P : List Int} (hn : P.Nodup) : ∀ (r h : List Int), (∀ k ∈ r, k ∈ P) → (P.map (svF r h)).sum = totF r h
  | [], h, hxx => by
    have : P.map (svF [] h) = P.map fun _ => (0 : Int) := rfl
    rw [this, totF]
    clear hn this hxx
    induction P with
    | nil => rfl
    | cons b P ih => rw [List.map_cons, List.sum_cons, ih]; rfl
  | k :: r, h, hr => by
    have ih := sv_tot hn r (k :: h) fun j hj => hr j (.tail _ hj)
    rw [totF, ← ih, ← sum_pick hn (hr k (.head _))]
    rfl
theorem cnt_tot {P : List Int} (hn : P.Nodup) : ∀ (r : List Int), (∀ k ∈ r, k ∈ P) → (P.map fun a => (r.count a : Int)).sum = r.length
  | [], hxx => by
    clear hn hxx
    induction P with
    | nil => rfl
    | cons b P ih => rw [List.map_cons, List.sum_cons, ih]; rfl
  | k :: r, hr => by
    have ih := cnt_tot hn r fun j hj => hr j (.tail _ hj)
    have h1 : (P.map fun a => ((k :: r).count a : Int)) = P.map fun a => (if k = a then 1 else 0) + (r.count a : Int) := by
      apply List.map_congr_left
      intro a _
      rw [List.count_cons]
      by_cases e : k = a
      · simp [e]; omega
      · simp [e]
    rw [h1, sum_pick hn (hr k (.head _)), ih, List.length_cons]; omega
theorem pl_tot : ∀ (r h : List Int), ((plF r h).map fun p => 2 * (sizeF p : Int) - 1).sum = 2 * totF r h + r.length
  | [], _ => rfl
  | k :: r, h => by
    rw [plF, totF, List.map_cons, List.sum_cons, pl_tot r, List.length_cons]
    unfold sizeF
    have : (1 + ((dd h).idxOf k : Int)).toNat = 1 + (dd h).idxOf k := by omega
    rw [this]
    push_cast
    omega
/-- the counts of the kinds -/
noncomputable def cntF (ks : List Int) : List Int := (presF ks).map fun k => (ks.count k : Int)
theorem pres_nodup (ks : List Int) : (presF ks).Nodup := List.Nodup.sublist List.filter_sublist (by decide)
theorem pres_all {ks : List Int} (h : ∀ k ∈ ks, 0 ≤ k ∧ k < 5) : ∀ k ∈ ks, k ∈ presF ks := fun k hk => by
  unfold presF
  rw [List.mem_filter, decide_eq_true_eq]
  obtain ⟨h0, h5⟩ := h k hk
  refine ⟨?_, hk⟩
  simp only [List.mem_cons, List.not_mem_nil, or_false]
  omega
theorem pl_le {ks : List Int} (h : ∀ k ∈ ks, 0 ≤ k ∧ k < 5) {s : Int} (hs : WayI (cntF ks) s) : ((plF ks []).map fun p => 2 * (sizeF p : Int) - 1).sum ≤ 2 * s + ks.length := by
  have hw : Way (fun k => (ks.count k : Int)) (presF ks) s := hs.unmap (f := fun k => (ks.count k : Int)) (fun _ => rfl) _ rfl
  have := hw.lower (sv := svF ks []) (N := ks.length) (fun a D => by have := sv_bound a D ks []; simpa using this) 0
  rw [sv_tot (pres_nodup ks) ks [] (pres_all h), cnt_tot (pres_nodup ks) ks (pres_all h)] at this
  rw [pl_tot]
  simp at this
  omega
/-! the names -/
noncomputable def oK (k T : Int) : Int := if k = 4 then 208 + T % 48 else (37 * k + T) % 104
noncomputable def lowTab : List Nat := [97, 98, 99, 100, 101, 102, 103, 104, 105, 106, 107, 108, 109, 110, 111, 112, 113, 114, 115, 116, 117, 118, 119, 120, 121, 122, 0, 0, 0, 0, 0, 0, 0, 0, 0, 0, 0, 0, 0, 0, 0, 0, 0, 0, 0, 0, 0, 0, 0, 0, 0, 0, 48, 49, 50, 51, 52, 53, 54, 55, 56, 57, 43, 47]
noncomputable def decN (s : Str) : Nat := 4 * lowTab.idxOf (s.cps.toList.getD 0 0) + [97, 113, 103, 119].idxOf (s.cps.toList.getD 1 0)
theorem name_dec : ∀ n < 256, (n < 104 ∨ 208 ≤ n) → decN (low (nameF (n : Nat))) = n := by decide +kernel
theorem name_up : ∀ n < 104, low (nameF ((n + 104 : Nat) : Int)) = low (nameF (n : Nat)) := by decide +kernel
theorem name_low (x T : Int) : low (nameF (octetF x T)) = low (nameF (oK (x % 5) T)) := by
  unfold octetF oK
  split
  · rfl
  · obtain ⟨n, e⟩ : ∃ n : Nat, (37 * (x % 5) + T) % 104 = (n : Int) := ⟨((37 * (x % 5) + T) % 104).toNat, by omega⟩
    rw [e]
    rcases (by omega : x / 5 % 2 = 0 ∨ x / 5 % 2 = 1) with q | q
    · rw [q]; simp
    · rw [q, ← name_up n (by omega)]
      congr 2
theorem name_inj (T : Int) (j k : Int) (h1 : 0 ≤ j) (h2 : j < 5) (h3 : 0 ≤ k) (h4 : k < 5) (e : low (nameF (oK j T)) = low (nameF (oK k T))) : j = k := by
  have hd : ∀ k : Int, 0 ≤ k → k < 5 → (decN (low (nameF (oK k T))) : Int) = oK k T := fun k h1 h2 => by
    obtain ⟨n, hn⟩ : ∃ n : Nat, oK k T = (n : Int) := ⟨(oK k T).toNat, by unfold oK; split <;> omega⟩
    have hb : n < 104 ∨ (208 ≤ n ∧ n < 256) := by unfold oK at hn; split at hn <;> omega
    rw [hn, name_dec n (by omega) (by omega)]
  have := hd j h1 h2
  rw [e, hd k h3 h4] at this
  unfold oK at this
  have m1 : (37 * j + T) % 104 < 104 := Int.emod_lt_of_pos _ (by decide)
  have m2 : (37 * k + T) % 104 < 104 := Int.emod_lt_of_pos _ (by decide)
  have m3 : 0 ≤ T % 48 := Int.emod_nonneg _ (by decide)
  clear hd e
  by_cases e1 : k = 4
  · by_cases e2 : j = 4
    · rw [e1, e2]
    · rw [if_pos e1, if_neg e2] at this
      generalize (37 * j + T) % 104 = a at this m1
      generalize T % 48 = b at this m3
      clear m2 h1 h2 h3 h4 e1 e2
      omega
  · by_cases e2 : j = 4
    · rw [if_neg e1, if_pos e2] at this
      generalize (37 * k + T) % 104 = a at this m2
      generalize T % 48 = b at this m3
      clear m1 h1 h2 h3 h4 e1 e2
      omega
    · rw [if_neg e1, if_neg e2] at this
      have h := Int.emod_eq_emod_iff_emod_sub_eq_zero.mp this
      have e3 : 37 * k + T - (37 * j + T) = 37 * (k - j) := by clear this h m1 m2 m3; omega
      rw [e3] at h
      clear this m1 m2 m3 e3
      omega
/-! all together -/
section
variable (nums : List Int) (T : Int)
noncomputable abbrev ksF : List Int := nums.map (· % 5)
noncomputable abbrev osF : List Int := nums.map fun x => octetF x T
theorem ks_bd : ∀ k ∈ ksF nums, 0 ≤ k ∧ k < 5 := fun k hk => by
  obtain ⟨x, _, rfl⟩ := List.mem_map.mp hk
  show 0 ≤ x % 5 ∧ x % 5 < 5
  omega
theorem places_due : (sentF (osF nums T) []).1 = (List.range nums.length).map (dueF (ksF nums)) := by
  rw [sent_pl (L := fun k => low (nameF (oK k T))) (oF := fun x => octetF x T) (fun x => name_low x T) (name_inj T) nums [] [] [] rfl rfl (fun _ h => nomatch h), ← due_all (ks_bd nums), List.length_map]
theorem first_mem {k : Int} (hk : k ∈ ksF nums) : ∃ x ∈ nums, x % 5 = k ∧ (osF nums T).getD ((ksF nums).idxOf k) 0 = octetF x T := by
  have hlt := List.idxOf_lt_length_iff.mpr hk
  have hlt' : (ksF nums).idxOf k < nums.length := by simpa using hlt
  refine ⟨nums[(ksF nums).idxOf k], List.getElem_mem _, ?_, ?_⟩
  · have := List.getElem_idxOf hlt
    rw [List.getElem_map] at this
    exact this
  · rw [List.getD, List.getElem?_map, List.getElem?_eq_getElem hlt']; rfl
theorem got_first : (recF (osF nums T) [] []).1 = (ksF nums).map fun k => nameF ((osF nums T).getD ((ksF nums).idxOf k) 0) := by
  let f : Int → Str := fun k => if k ∈ ksF nums then nameF ((osF nums T).getD ((ksF nums).idxOf k) 0) else nameF (oK k T)
  have hf : ∀ j, 0 ≤ j → j < 5 → low (f j) = low (nameF (oK j T)) := fun j _ _ => by
    show low (if _ then _ else _) = _
    split
    · rename_i h
      obtain ⟨x, _, e1, e2⟩ := first_mem nums T h
      rw [e2, name_low, e1]
    · rfl
  have h := rec_got (L := fun k => low (nameF (oK k T))) (oF := fun x => octetF x T) (fun x => name_low x T) (name_inj T) f hf nums [] [] [] rfl rfl (fun _ h => nomatch h) fun a x b e _ h2 => by
    have hm : x % 5 ∈ ksF nums := List.mem_map.mpr ⟨x, by rw [e]; simp, rfl⟩
    show _ = (if _ then _ else _)
    rw [if_pos hm]
    have e1 : (ksF nums).idxOf (x % 5) = a.length := by
      unfold ksF
      rw [e, List.map_append, List.map_cons, List.idxOf_append, if_neg h2, List.idxOf_cons_self, List.length_map]; omega
    rw [e1]
    unfold osF
    rw [e, List.map_append, List.map_cons, List.getD, List.getElem?_append_right (by simp)]
    simp
  rw [List.map_nil] at h
  rw [h, List.map_map]
  apply List.map_congr_left
  intro x hx
  show (if _ then _ else _) = _
  rw [if_pos (List.mem_map.mpr ⟨x, hx, rfl⟩)]
  rfl
theorem spent_le (h0 : 0 < nums.length) : (recF (osF nums T) [] []).2 ≤ 2 * ptL (cntF (ksF nums)).length (hfyF ((cntF (ksF nums)).length / 2) (cntF (ksF nums))) 0 + nums.length := by
  rw [rec_spent, places_due, ← List.length_map (f := (· % 5)) (as := nums), due_all (ks_bd nums)]
  refine pl_le (ks_bd nums) (put_best _ ?_ ?_).1
  · unfold cntF
    rw [List.length_map]
    obtain ⟨x, hx⟩ := List.exists_mem_of_length_pos h0
    exact List.length_pos_of_mem (pres_all (ks_bd nums) _ (List.mem_map.mpr ⟨x, hx, rfl⟩))
  · unfold cntF presF
    rw [List.length_map]
    exact List.length_filter_le _ _
end
/-! 30law -/
inductive LawJ (nums : List Int) (L Du P O K D : Addr) (val : Str) (tv : Tok) (pv : Array Value) (ws ys zs : List Value) (np n2 n3 : Nat) (ot ok oo : Obj) (i : Nat) (m : Str → Option Value) (news : List (Addr × Obj)) : Prop
  | mk (dv : Array Value) (nd : Nat) (ob : Obj) (vb : Option Value) (hn : news = [(Du, listOf dv nd), (P, listOf pv np), (O, listOf zs.toArray n3), (K, listOf ys.toArray n2), (D, listOf ws.toArray 0), (L + 1 + 1 + 1 + 1, ob), (L + 1 + 1 + 1, oo), (L + 1 + 1, ok), (L + 1, ot)])
      (hm : Has m [(Str.ofString "places", .ref P), (Str.ofString "value", .str val tv), (Str.ofString "due", .ref Du)]) (hob : ob.data = .cell vb) (hdv : IntsAre dv.toList ((List.range i).map (dueF (nums.map (· % 5)))))
inductive MidLaw (s1 : Shared) (L Du : Addr) (m : Str → Option Value) (led : Addr → List Value → Nat → Obj → List (Addr × Obj)) (back : List Int) (f : Flow) (s' : Shared) : Prop
  | mk (h' : Heap) (tk' : Nat) (B3 : Addr) (b3 : List Value) (nb3 : Nat) (ob' : Obj) (ef : f = .next) (es : s' = { s1 with heap := h', toks := tk' }) (F : Fr s1.heap L h' m) (N : News s1.heap L h' (led B3 b3 nb3 ob')) (hd : ob'.data = .cell (some (.ref B3))) (hI : IntsAre b3 back) (hne : @Ne Addr Du B3)
local macro_rules | `(tactic| k_qdec) => `(tactic| decide +kernel)
set_option maxHeartbeats 8000000 in
theorem law_holds : PySem.Challenge.rw_om0074_01.Holds := by
  w_on
  refine holds_law hdSaid fun said' => ?_
  refine holds_open (r := hdRow) (q := hd.view_1) (loose := hdLoose) (Xt := fun s => xlAt hd.view_1 [] s && recOk (RowW.records hdRow.toRowW) s) (XP := XL hd.view_1 []) (Yf := Hook.obs hdHook) (Ya := Hook.val hdHook) (YP := Hook.says hdHook) (N := 3130) hdLeft (Hook.of hdHook) (Hook.keeps hdHook) (fun s e => xl_of s (Bool.and_eq_true_iff.mp e).1) XL.keeps (by rfl) (by rfl) (by rfl) (fun s e => recFacts_of (Bool.and_eq_true_iff.mp e).2) (by rfl) said' (by decide +kernel) ⟨rfl, rfl, rfl, rfl, rfl, by decide +kernel⟩ ?hw ?hc
  case hw => w_witness2
  clear said'
  k_go0
  rename World => w
  rename Frag.In (hd.heap_1 w.params) _ => KX
  rename Top hd.view_1 _ _ _ _ _ => KT
  rename IntsAre _ _ => hI
  rename Fr _ _ _ _ => F
  rename News _ _ _ _ => N
  rename CellsAre _ _ _ => Y
  rename Heap.IsList _ _ _ => hL
  obtain ⟨c4, c3, c2, c1, hE, hd4, hd3, hd2, hd1⟩ := CellsAre.four Y
  simp only [List.cons.injEq, Prod.mk.injEq, true_and, and_true] at hE
  obtain ⟨e4, e3, e2, e1⟩ := hE
  replace e4 := e4.symm
  replace e3 := e3.symm
  replace e2 := e2.symm
  replace e1 := e1.symm
  subst e4 e3 e2 e1
  clear Y
  change c4.data = .cell none at hd4
  change c3.data = .cell none at hd3
  change c2.data = .cell none at hd2
  change c1.data = .cell none at hd1
  rename Shared => s1
  rename s1.gens = #[] => hgen
  refine wpAny_mono (E := fun _ _ => False) (Q := fun fl s' => fl = .ret (.bool true) ∧ ∃ h' tk' m', s' = { s1 with heap := h', toks := tk' } ∧ Fr s1.heap s1.heap.objs.size h' m') ?walk ?post (fun _ _ z => z.elim)
  case post =>
    rintro fl s' ⟨rfl, h', tk', m', rfl, F'⟩
    dsimp only
    wrow_close
  case walk =>
    refine post_var fun Q0 hPost => ?_
    have G : Gd w _ _ _ _ := ⟨KX, KT⟩
    (try (rename Below _ _ _ _ => z4; clear z4))
    (try (rename _ = Data.cell (bindC _ _ _) => z5; clear z5))
    (try (rename _ = Data.cell (bindC _ _ _) => z5; clear z5))
    (try (rename _ = Data.cell (bindC _ _ _) => z5; clear z5))
    (try (rename _ = Data.cell (bindC _ _ _) => z5; clear z5))
    (try (rename Heap.CodeRec _ _ _ => z1; clear z1))
    (try (rename Dflts _ _ _ => z2; clear z2))
    (try (rename Ground _ _ _ _ _ _ _ _ _ => z3; clear z3))
    obtain ⟨u0, F0⟩ := Fr.reHas F [(Str.ofString "script", .ref _)] (.cons rfl .nil)
    clear F
    dsimp only
    ((repeat' (first | (with_reducible refine modP ?k1 ?_; (case k1 => decide)) | (k_here; (with_reducible show wpAny _ _ (call (Value.builtin "len") [Value.ref _]) _ _ _); with_unfolding_all refine' len_ints ?k1 ?k2 ?k3 ?k4 ?_; (case k1 => assumption); (case k2 => k_mem); (case k3 => assumption); (case k4 => walk_at "mar")) | (k_here; (with_reducible show wpAny _ _ (subscriptTail _ (PySem.Expr.Slice _ _ none _) (Value.ref _) (Value.ref _)) _ _ _); k_dflt (refine' kmk_slice_ints ?F ?N ?l ?p ?q ?i ?m rfl ?_ ?s ?t ?z; (case F => assumption); (case N => assumption); (case l => first | exact News.isList (by assumption) (by k_mem) | exact Fr.lst (by assumption) (by assumption)); (case p => kmk_part); (case q => kmk_part); (case i => assumption); (case m => first | exact kmk_all (by assumption) | exact kmk_upto (by assumption) (by omega) | exact kmk_run (by assumption) (by omega) (by omega) | exact kmk_from (by assumption) (by omega)); (case s => with_unfolding_all rfl); (case t => kmk_pure); (case z => (rw [List.size_toArray, PySem.sizeLine_eq]; omega))); intro _ _ _ _ _ _ _ hC' _; clear hC'; (try k_sweep)) | walk_at "mstep")); (all_goals (try dsimp only)))
    rename Fr _ _ _ _ => F
    rename News _ _ _ _ => N
    rename IntsAre _ ([0, 1, 5, 2] ++ _) => hNum
    rename List Int => xs
    rename_i _ _ ot hot _ l' _ l2 D1 ws1 _ hI1 hC1 hL1 l3 D ws _ l1 _
    revert F N l1 l2 l3
    refine gen_at s1.heap.objs.size ?_
    intro L hL0 l2 l3 l1 F N
    replace N := News.sub N (news' := [(D, listOf ws.toArray 0), (L + 1 + 1 + 1 + 1, c4), (L + 1 + 1 + 1, c3), (L + 1 + 1, c2), (L + 1, ot)]) (fun p hp => by
      rcases List.mem_cons.mp hp with rfl | hp
      · exact .head _
      · exact .tail _ (.tail _ (.tail _ hp)))
    have hr : Room 12 callerA := ⟨rfl, by decide, by decide⟩
    refine wpAny_Assign_Name ?_
    refine comp_eval (cl := []) (fun _ => true) (fun v y => ∃ k : Int, IsI k v ∧ IsI (k % 5) y) (by rfl) (by decide) rfl (by decide) rfl ?_
    ((repeat' (first | (with_reducible refine modP ?k1 ?_; (case k1 => decide)) | (k_here; (with_reducible show wpAny _ _ (call (Value.builtin "len") [Value.ref _]) _ _ _); with_unfolding_all refine' len_ints ?k1 ?k2 ?k3 ?k4 ?_; (case k1 => assumption); (case k2 => k_mem); (case k3 => assumption); (case k4 => walk_at "mar")) | (k_here; (with_reducible show wpAny _ _ (subscriptTail _ (PySem.Expr.Slice _ _ none _) (Value.ref _) (Value.ref _)) _ _ _); k_dflt (refine' kmk_slice_ints ?F ?N ?l ?p ?q ?i ?m rfl ?_ ?s ?t ?z; (case F => assumption); (case N => assumption); (case l => first | exact News.isList (by assumption) (by k_mem) | exact Fr.lst (by assumption) (by assumption)); (case p => kmk_part); (case q => kmk_part); (case i => assumption); (case m => first | exact kmk_all (by assumption) | exact kmk_upto (by assumption) (by omega) | exact kmk_run (by assumption) (by omega) (by omega) | exact kmk_from (by assumption) (by omega)); (case s => with_unfolding_all rfl); (case t => kmk_pure); (case z => (rw [List.size_toArray, PySem.sizeLine_eq]; omega))); intro _ _ _ _ _ _ _ hC' _; clear hC'; (try k_sweep)) | walk_at "mstep")); (all_goals (try dsimp only)))
    have hnl : ([0, 1, 5, 2] ++ xs.take 16).length ≤ 20 := by rw [List.length_append, hC1]; simp; omega
    have hwl : ws.length ≤ 20 := by rw [hNum.length]; exact hnl
    revert hNum hnl
    refine gen_at ([0, 1, 5, 2] ++ xs.take 16) ?_
    intro nums hnum hNum hnl
    have G2 := G.keeps F.keep
    refine comp_list (Room.deeper (hr.less (by decide : 2 ≤ 12))).hd (News.isList N (.head _)) (by rw [sizeLine_eq]; simp; omega) ⟨?tests, ?elt⟩ ?_
    case tests => intro C i v s₃ m₃ E' _ _ _ _; exact wpAny_tests_nil ⟨rfl, Keeps.refl _⟩
    case elt =>
      rintro C j v s₃ m₃ E' hv3 _ hn3 hm3 kp3
      obtain ⟨x, tx, hx, rfl⟩ := ints_at hNum hv3
      have KX3 := (G2.keeps kp3).X
      have KT3 := (G2.keeps kp3).T
      have k3' : ∀ b o, s₃.heap.get? b = some o → s₃.heap.get? b = some o := fun _ _ e => e
      clear F N kp3 G2
      ((repeat' (first | (with_reducible refine modP ?k1 ?_; (case k1 => decide)) | (k_here; (with_reducible show wpAny _ _ (call (Value.builtin "len") [Value.ref _]) _ _ _); with_unfolding_all refine' len_ints ?k1 ?k2 ?k3 ?k4 ?_; (case k1 => assumption); (case k2 => k_mem); (case k3 => assumption); (case k4 => walk_at "mar")) | (k_here; (with_reducible show wpAny _ _ (subscriptTail _ (PySem.Expr.Slice _ _ none _) (Value.ref _) (Value.ref _)) _ _ _); k_dflt (refine' kmk_slice_ints ?F ?N ?l ?p ?q ?i ?m rfl ?_ ?s ?t ?z; (case F => assumption); (case N => assumption); (case l => first | exact News.isList (by assumption) (by k_mem) | exact Fr.lst (by assumption) (by assumption)); (case p => kmk_part); (case q => kmk_part); (case i => assumption); (case m => first | exact kmk_all (by assumption) | exact kmk_upto (by assumption) (by omega) | exact kmk_run (by assumption) (by omega) (by omega) | exact kmk_from (by assumption) (by omega)); (case s => with_unfolding_all rfl); (case t => kmk_pure); (case z => (rw [List.size_toArray, PySem.sizeLine_eq]; omega))); intro _ _ _ _ _ _ _ hC' _; clear hC'; (try k_sweep)) | walk_at "mstep")); (all_goals (try dsimp only)))
      exact ⟨⟨x, ⟨_, rfl⟩, ⟨_, rfl⟩⟩, Keeps.tok⟩
    intro K h2 tk2 ys n2 hK hK' hF hk
    rw [filter_true] at hF
    obtain ⟨F', N', hKn⟩ := addNew F N hk hK hK'
    clear F N G2
    have hKi : IntsAre ys.toList (nums.map (· % 5)) := paired_map hNum hF
    obtain ⟨ys⟩ := ys
    have kN1 : @Ne Addr D K := hKn _ (.head _)
    have kN2 : @Ne Addr (L + 1 + 1 + 1 + 1) K := hKn _ (.tail _ (.head _))
    have kN3 : @Ne Addr (L + 1 + 1 + 1) K := hKn _ (.tail _ (.tail _ (.head _)))
    have kN4 : @Ne Addr (L + 1 + 1) K := hKn _ (.tail _ (.tail _ (.tail _ (.head _))))
    have kN5 : @Ne Addr (L + 1) K := hKn _ (.tail _ (.tail _ (.tail _ (.tail _ (.head _)))))
    clear hKn hF hk hK hK'
    ((repeat' (first | (with_reducible refine modP ?k1 ?_; (case k1 => decide)) | (k_here; (with_reducible show wpAny _ _ (call (Value.builtin "len") [Value.ref _]) _ _ _); with_unfolding_all refine' len_ints ?k1 ?k2 ?k3 ?k4 ?_; (case k1 => assumption); (case k2 => k_mem); (case k3 => assumption); (case k4 => walk_at "mar")) | (k_here; (with_reducible show wpAny _ _ (subscriptTail _ (PySem.Expr.Slice _ _ none _) (Value.ref _) (Value.ref _)) _ _ _); k_dflt (refine' kmk_slice_ints ?F ?N ?l ?p ?q ?i ?m rfl ?_ ?s ?t ?z; (case F => assumption); (case N => assumption); (case l => first | exact News.isList (by assumption) (by k_mem) | exact Fr.lst (by assumption) (by assumption)); (case p => kmk_part); (case q => kmk_part); (case i => assumption); (case m => first | exact kmk_all (by assumption) | exact kmk_upto (by assumption) (by omega) | exact kmk_run (by assumption) (by omega) (by omega) | exact kmk_from (by assumption) (by omega)); (case s => with_unfolding_all rfl); (case t => kmk_pure); (case z => (rw [List.size_toArray, PySem.sizeLine_eq]; omega))); intro _ _ _ _ _ _ _ hC' _; clear hC'; (try k_sweep)) | walk_at "mstep")); (all_goals (try dsimp only)))
    rename Fr _ _ _ _ => F
    rename News _ _ _ _ => N
    rename Obj.data _ = Data.cell (some (Value.ref K)) => hok
    rename_i ok
    refine wpAny_Assign_Name ?_
    refine comp_eval (cl := [(Str.ofString "total", L + 1)]) (fun _ => true) (fun v y => ∃ k : Int, IsI k v ∧ IsI (octetF k xs.sum) y) (by rfl) (by decide) rfl (by decide) rfl ?_
    ((repeat' (first | (with_reducible refine modP ?k1 ?_; (case k1 => decide)) | (k_here; (with_reducible show wpAny _ _ (call (Value.builtin "len") [Value.ref _]) _ _ _); with_unfolding_all refine' len_ints ?k1 ?k2 ?k3 ?k4 ?_; (case k1 => assumption); (case k2 => k_mem); (case k3 => assumption); (case k4 => walk_at "mar")) | (k_here; (with_reducible show wpAny _ _ (subscriptTail _ (PySem.Expr.Slice _ _ none _) (Value.ref _) (Value.ref _)) _ _ _); k_dflt (refine' kmk_slice_ints ?F ?N ?l ?p ?q ?i ?m rfl ?_ ?s ?t ?z; (case F => assumption); (case N => assumption); (case l => first | exact News.isList (by assumption) (by k_mem) | exact Fr.lst (by assumption) (by assumption)); (case p => kmk_part); (case q => kmk_part); (case i => assumption); (case m => first | exact kmk_all (by assumption) | exact kmk_upto (by assumption) (by omega) | exact kmk_run (by assumption) (by omega) (by omega) | exact kmk_from (by assumption) (by omega)); (case s => with_unfolding_all rfl); (case t => kmk_pure); (case z => (rw [List.size_toArray, PySem.sizeLine_eq]; omega))); intro _ _ _ _ _ _ _ hC' _; clear hC'; (try k_sweep)) | walk_at "mstep")); (all_goals (try dsimp only)))
    have hct : Heap.IsCell _ (L + 1) (some (.int xs.sum _)) := ⟨ot, (N (L + 1, ot) (.tail _ (.tail _ (.tail _ (.tail _ (.tail _ (.head _))))))).1, hot⟩
    have G2 := G.keeps F.keep
    refine comp_list (Room.deeper (hr.less (by decide : 2 ≤ 12))).hd (News.isList N (.tail _ (.head _))) (by rw [sizeLine_eq]; simp; omega) ⟨?tests, ?elt⟩ ?_
    case tests => intro C i v s₃ m₃ E' _ _ _ _; exact wpAny_tests_nil ⟨rfl, Keeps.refl _⟩
    case elt =>
      rintro C j v s₃ m₃ E' hv3 _ hn3 hm3 kp3
      obtain ⟨x, tx, hx, rfl⟩ := ints_at hNum hv3
      have hct3 := hct.keeps kp3
      have G3 := G2.keeps kp3
      have KX3 := G3.X
      have KT3 := G3.T
      have k3' : ∀ b o, s₃.heap.get? b = some o → s₃.heap.get? b = some o := fun _ _ e => e
      clear F N kp3 G2 hct
      ((repeat' (first | (with_reducible refine modP ?k1 ?_; (case k1 => decide)) | (k_here; (with_reducible show wpAny _ _ (call (Value.builtin "len") [Value.ref _]) _ _ _); with_unfolding_all refine' len_ints ?k1 ?k2 ?k3 ?k4 ?_; (case k1 => assumption); (case k2 => k_mem); (case k3 => assumption); (case k4 => walk_at "mar")) | (k_here; (with_reducible show wpAny _ _ (subscriptTail _ (PySem.Expr.Slice _ _ none _) (Value.ref _) (Value.ref _)) _ _ _); k_dflt (refine' kmk_slice_ints ?F ?N ?l ?p ?q ?i ?m rfl ?_ ?s ?t ?z; (case F => assumption); (case N => assumption); (case l => first | exact News.isList (by assumption) (by k_mem) | exact Fr.lst (by assumption) (by assumption)); (case p => kmk_part); (case q => kmk_part); (case i => assumption); (case m => first | exact kmk_all (by assumption) | exact kmk_upto (by assumption) (by omega) | exact kmk_run (by assumption) (by omega) (by omega) | exact kmk_from (by assumption) (by omega)); (case s => with_unfolding_all rfl); (case t => kmk_pure); (case z => (rw [List.size_toArray, PySem.sizeLine_eq]; omega))); intro _ _ _ _ _ _ _ hC' _; clear hC'; (try k_sweep)) | walk_at "mstep")); (all_goals (try dsimp only)))
      refine wpAny_mono (octet_spec w G3 (Room.deeper (hr.less (by decide : 2 ≤ 12))) x xs.sum _ _ _) (fun y s' hq => ?_) fun _ _ z => z
      exact ⟨⟨x, ⟨_, rfl⟩, hq.2⟩, hq.1⟩
    intro O h3 tk3 zs n3 hO hO' hF hk
    rw [filter_true] at hF
    obtain ⟨F', N', hOn⟩ := addNew F N hk hO hO'
    clear F N G2 hct
    have hOi : IntsAre zs.toList (nums.map fun x => octetF x xs.sum) := paired_map hNum hF
    have oN1 : @Ne Addr K O := hOn _ (.head _)
    have oN2 : @Ne Addr D O := hOn _ (.tail _ (.head _))
    have oN3 : @Ne Addr (L + 1 + 1 + 1 + 1) O := hOn _ (.tail _ (.tail _ (.head _)))
    have oN4 : @Ne Addr (L + 1 + 1 + 1) O := hOn _ (.tail _ (.tail _ (.tail _ (.head _))))
    have oN5 : @Ne Addr (L + 1 + 1) O := hOn _ (.tail _ (.tail _ (.tail _ (.tail _ (.head _)))))
    have oN6 : @Ne Addr (L + 1) O := hOn _ (.tail _ (.tail _ (.tail _ (.tail _ (.tail _ (.head _))))))
    clear hOn hF hk hO hO'
    ((repeat' (first | (with_reducible refine modP ?k1 ?_; (case k1 => decide)) | (k_here; (with_reducible show wpAny _ _ (call (Value.builtin "len") [Value.ref _]) _ _ _); with_unfolding_all refine' len_ints ?k1 ?k2 ?k3 ?k4 ?_; (case k1 => assumption); (case k2 => k_mem); (case k3 => assumption); (case k4 => walk_at "mar")) | (k_here; (with_reducible show wpAny _ _ (subscriptTail _ (PySem.Expr.Slice _ _ none _) (Value.ref _) (Value.ref _)) _ _ _); k_dflt (refine' kmk_slice_ints ?F ?N ?l ?p ?q ?i ?m rfl ?_ ?s ?t ?z; (case F => assumption); (case N => assumption); (case l => first | exact News.isList (by assumption) (by k_mem) | exact Fr.lst (by assumption) (by assumption)); (case p => kmk_part); (case q => kmk_part); (case i => assumption); (case m => first | exact kmk_all (by assumption) | exact kmk_upto (by assumption) (by omega) | exact kmk_run (by assumption) (by omega) (by omega) | exact kmk_from (by assumption) (by omega)); (case s => with_unfolding_all rfl); (case t => kmk_pure); (case z => (rw [List.size_toArray, PySem.sizeLine_eq]; omega))); intro _ _ _ _ _ _ _ hC' _; clear hC'; (try k_sweep)) | walk_at "mstep")); (all_goals (try dsimp only)))
    rename Fr _ _ _ _ => F
    rename News _ _ _ _ => N
    rename Obj.data _ = Data.cell (some (Value.ref O)) => hoo
    rename_i oo
    have hos : ∀ o ∈ nums.map (fun x => octetF x xs.sum), 0 ≤ o ∧ o < 256 := fun o ho => by
      obtain ⟨x, _, rfl⟩ := List.mem_map.mp ho
      exact octetF_bd x _
    have hol : (nums.map fun x => octetF x xs.sum).length ≤ 20 := by rw [List.length_map]; exact hnl
    have hop : 0 < (nums.map fun x => octetF x xs.sum).length := by rw [List.length_map, ← hnum]; simp
    obtain ⟨zs⟩ := zs
    refine use (sent_spec w (G.keeps F.keep) (Room.deeper (hr.less (by decide : 9 ≤ 12))) (N (O, listOf zs.toArray n3) (.head _)).1 hOi hos hol hop _) fun y h4 tk4 k4 hq => ?_
    obtain ⟨T, P, pv, np, tv, gs, rem, kz, rfl, hT, hP, hPT, hT', hP', hpv, hgs, hrem, hfl, hfz, hf8⟩ := hq
    obtain ⟨F', N', hPn⟩ := addNew F N k4 hP hP'
    have hTup : IsTup h4 T #[.ref P, .str (cS (b64out gs rem)) tv] := ⟨_, hT', rfl, _, rfl⟩
    clear F N
    have pN1 : @Ne Addr O P := hPn _ (.head _)
    have pN2 : @Ne Addr K P := hPn _ (.tail _ (.head _))
    have pN3 : @Ne Addr D P := hPn _ (.tail _ (.tail _ (.head _)))
    have pN4 : @Ne Addr (L + 1 + 1 + 1 + 1) P := hPn _ (.tail _ (.tail _ (.tail _ (.head _))))
    have pN5 : @Ne Addr (L + 1 + 1 + 1) P := hPn _ (.tail _ (.tail _ (.tail _ (.tail _ (.head _)))))
    have pN6 : @Ne Addr (L + 1 + 1) P := hPn _ (.tail _ (.tail _ (.tail _ (.tail _ (.tail _ (.head _))))))
    have pN7 : @Ne Addr (L + 1) P := hPn _ (.tail _ (.tail _ (.tail _ (.tail _ (.tail _ (.tail _ (.head _)))))))
    clear hPn hPT
    ((repeat' (first | (with_reducible refine modP ?k1 ?_; (case k1 => decide)) | (k_here; (with_reducible show wpAny _ _ (call (Value.builtin "len") [Value.ref _]) _ _ _); with_unfolding_all refine' len_ints ?k1 ?k2 ?k3 ?k4 ?_; (case k1 => assumption); (case k2 => k_mem); (case k3 => assumption); (case k4 => walk_at "mar")) | (k_here; (with_reducible show wpAny _ _ (subscriptTail _ (PySem.Expr.Slice _ _ none _) (Value.ref _) (Value.ref _)) _ _ _); k_dflt (refine' kmk_slice_ints ?F ?N ?l ?p ?q ?i ?m rfl ?_ ?s ?t ?z; (case F => assumption); (case N => assumption); (case l => first | exact News.isList (by assumption) (by k_mem) | exact Fr.lst (by assumption) (by assumption)); (case p => kmk_part); (case q => kmk_part); (case i => assumption); (case m => first | exact kmk_all (by assumption) | exact kmk_upto (by assumption) (by omega) | exact kmk_run (by assumption) (by omega) (by omega) | exact kmk_from (by assumption) (by omega)); (case s => with_unfolding_all rfl); (case t => kmk_pure); (case z => (rw [List.size_toArray, PySem.sizeLine_eq]; omega))); intro _ _ _ _ _ _ _ hC' _; clear hC'; (try k_sweep)) | walk_at "mstep")); (all_goals (try dsimp only)))
    rename Fr _ _ _ _ => F
    rename News _ _ _ _ => N
    rename_i Du _ l5 _
    have hkl : (nums.map (· % 5)).length = nums.length := by simp
    refine For_invV s1.heap rfl rfl ?_ (hE := PassesOwn.never)
    ((repeat' (first | (with_reducible refine modP ?k1 ?_; (case k1 => decide)) | (k_here; (with_reducible show wpAny _ _ (call (Value.builtin "len") [Value.ref _]) _ _ _); with_unfolding_all refine' len_ints ?k1 ?k2 ?k3 ?k4 ?_; (case k1 => assumption); (case k2 => k_mem); (case k3 => assumption); (case k4 => walk_at "mar")) | (k_here; (with_reducible show wpAny _ _ (subscriptTail _ (PySem.Expr.Slice _ _ none _) (Value.ref _) (Value.ref _)) _ _ _); k_dflt (refine' kmk_slice_ints ?F ?N ?l ?p ?q ?i ?m rfl ?_ ?s ?t ?z; (case F => assumption); (case N => assumption); (case l => first | exact News.isList (by assumption) (by k_mem) | exact Fr.lst (by assumption) (by assumption)); (case p => kmk_part); (case q => kmk_part); (case i => assumption); (case m => first | exact kmk_all (by assumption) | exact kmk_upto (by assumption) (by omega) | exact kmk_run (by assumption) (by omega) (by omega) | exact kmk_from (by assumption) (by omega)); (case s => with_unfolding_all rfl); (case t => kmk_pure); (case z => (rw [List.size_toArray, PySem.sizeLine_eq]; omega))); intro _ _ _ _ _ _ _ hC' _; clear hC'; (try k_sweep)) | walk_at "mstep")); (all_goals (try dsimp only)))
    rename Fr _ _ _ _ => F
    rename News _ _ _ _ => N
    rename IsRange _ _ _ _ _ _ _ _ => hrg
    rw [hkl] at hrg
    refine loopR (n := nums.length) hrg (small_n (range_up _) (Nat.le_trans hnl (by decide)) (by decide) (Nat.le_trans hnl (by decide))) (range_up _) (Room.deeper (hr.less (by decide : 2 ≤ 12))).hd F N (LawJ nums L Du P O K D (cS (b64out gs rem)) tv pv ws ys zs np n2 n3 ot ok oo) ?h0 ?turn ?done
    case h0 => exact ⟨_, _, _, _, rfl, .cons rfl (.cons rfl (.cons rfl .nil)), hd4, .nil⟩
    case done =>
      clear F N hrg
      rintro h tk m₁ news₁ ⟨dv, nd, ob, vb, rfl, hm, hob, hdv⟩ F N
      obtain ⟨u, rfl⟩ := hm.open
      obtain ⟨dv⟩ := dv
      obtain ⟨pv⟩ := pv
      have hev := rem_even hgs hrem hf8
      have hvt := val_tame hgs hev hfz
      clear hm hP'
      ((repeat' ((fail_if_success (with_reducible first | show wpAny _ _ (exec (Stmt.If _ _ _ _) _) _ _ _ | show wpAny _ _ (subscriptTail _ _ _ (Value.ref _)) _ _ _ | show wpAny _ _ (compareOp _ _ (Value.ref _)) _ _ _ | show wpAny _ _ (call (Value.builtin "list.index") _) _ _ _)); (first | (with_reducible refine modP ?k1 ?_; (case k1 => decide)) | (k_here; (with_reducible show wpAny _ _ (call (Value.builtin "len") [Value.ref _]) _ _ _); with_unfolding_all refine' len_ints ?k1 ?k2 ?k3 ?k4 ?_; (case k1 => assumption); (case k2 => k_mem); (case k3 => assumption); (case k4 => walk_at "mar")) | (k_here; (with_reducible show wpAny _ _ (subscriptTail _ (PySem.Expr.Slice _ _ none _) (Value.ref _) (Value.ref _)) _ _ _); k_dflt (refine' kmk_slice_ints ?F ?N ?l ?p ?q ?i ?m rfl ?_ ?s ?t ?z; (case F => assumption); (case N => assumption); (case l => first | exact News.isList (by assumption) (by k_mem) | exact Fr.lst (by assumption) (by assumption)); (case p => kmk_part); (case q => kmk_part); (case i => assumption); (case m => first | exact kmk_all (by assumption) | exact kmk_upto (by assumption) (by omega) | exact kmk_run (by assumption) (by omega) (by omega) | exact kmk_from (by assumption) (by omega)); (case s => with_unfolding_all rfl); (case t => kmk_pure); (case z => (rw [List.size_toArray, PySem.sizeLine_eq]; omega))); intro _ _ _ _ _ _ _ hC' _; clear hC'; (try k_sweep)) | walk_at "mstep"))); (all_goals (try dsimp only)))
      walk1
      ((repeat' ((fail_if_success (with_reducible first | show wpAny _ _ (exec (Stmt.If _ _ _ _) _) _ _ _ | show wpAny _ _ (subscriptTail _ _ _ (Value.ref _)) _ _ _ | show wpAny _ _ (compareOp _ _ (Value.ref _)) _ _ _ | show wpAny _ _ (call (Value.builtin "list.index") _) _ _ _)); (first | (with_reducible refine modP ?k1 ?_; (case k1 => decide)) | (k_here; (with_reducible show wpAny _ _ (call (Value.builtin "len") [Value.ref _]) _ _ _); with_unfolding_all refine' len_ints ?k1 ?k2 ?k3 ?k4 ?_; (case k1 => assumption); (case k2 => k_mem); (case k3 => assumption); (case k4 => walk_at "mar")) | (k_here; (with_reducible show wpAny _ _ (subscriptTail _ (PySem.Expr.Slice _ _ none _) (Value.ref _) (Value.ref _)) _ _ _); k_dflt (refine' kmk_slice_ints ?F ?N ?l ?p ?q ?i ?m rfl ?_ ?s ?t ?z; (case F => assumption); (case N => assumption); (case l => first | exact News.isList (by assumption) (by k_mem) | exact Fr.lst (by assumption) (by assumption)); (case p => kmk_part); (case q => kmk_part); (case i => assumption); (case m => first | exact kmk_all (by assumption) | exact kmk_upto (by assumption) (by omega) | exact kmk_run (by assumption) (by omega) (by omega) | exact kmk_from (by assumption) (by omega)); (case s => with_unfolding_all rfl); (case t => kmk_pure); (case z => (rw [List.size_toArray, PySem.sizeLine_eq]; omega))); intro _ _ _ _ _ _ _ hC' _; clear hC'; (try k_sweep)) | walk_at "mstep"))); (all_goals (try dsimp only)))
      rename Fr _ _ _ _ => F
      rename News _ _ _ _ => N
      rename IntsAre _ (sentF _ _).1 => hpv
      refine ne_ints (News.isList N (.tail _ (.head _))) (News.isList N (.head _)) hpv ?pd (Nat.lt_of_le_of_lt (Nat.le_add_right _ _) (Room.deeper (hr.less (by decide : 2 ≤ 12))).un) ?_
      case pd => rw [places_due]; exact hdv
      clear hpv hdv
      ((repeat' ((fail_if_success (with_reducible first | show wpAny _ _ (exec (Stmt.If _ _ _ _) _) _ _ _ | show wpAny _ _ (subscriptTail _ _ _ (Value.ref _)) _ _ _ | show wpAny _ _ (compareOp _ _ (Value.ref _)) _ _ _ | show wpAny _ _ (call (Value.builtin "list.index") _) _ _ _)); (first | (with_reducible refine modP ?k1 ?_; (case k1 => decide)) | (k_here; (with_reducible show wpAny _ _ (call (Value.builtin "len") [Value.ref _]) _ _ _); with_unfolding_all refine' len_ints ?k1 ?k2 ?k3 ?k4 ?_; (case k1 => assumption); (case k2 => k_mem); (case k3 => assumption); (case k4 => walk_at "mar")) | (k_here; (with_reducible show wpAny _ _ (subscriptTail _ (PySem.Expr.Slice _ _ none _) (Value.ref _) (Value.ref _)) _ _ _); k_dflt (refine' kmk_slice_ints ?F ?N ?l ?p ?q ?i ?m rfl ?_ ?s ?t ?z; (case F => assumption); (case N => assumption); (case l => first | exact News.isList (by assumption) (by k_mem) | exact Fr.lst (by assumption) (by assumption)); (case p => kmk_part); (case q => kmk_part); (case i => assumption); (case m => first | exact kmk_all (by assumption) | exact kmk_upto (by assumption) (by omega) | exact kmk_run (by assumption) (by omega) (by omega) | exact kmk_from (by assumption) (by omega)); (case s => with_unfolding_all rfl); (case t => kmk_pure); (case z => (rw [List.size_toArray, PySem.sizeLine_eq]; omega))); intro _ _ _ _ _ _ _ hC' _; clear hC'; (try k_sweep)) | walk_at "mstep"))); (all_goals (try dsimp only)))
      rename Fr _ _ _ _ => F
      rename News _ _ _ _ => N
      rename_i T1 _ la l' _ lb
      replace N := News.sub N (news' := ((l', listOf #[Value.ref T1] 0) :: (T1, { cls := Value.type "tuple", data := Data.seq #[Value.str (Str.ofString "Asked") _, Value.str (cS (b64out gs rem)) tv] }) :: (O, listOf zs.toArray n3) :: (K, listOf ys.toArray n2) :: (L + 1 + 1 + 1 + 1, ob) :: (L + 1 + 1 + 1, oo) :: (L + 1 + 1, ok) :: (L + 1, ot) :: [])) (fun p hp => by
        rcases List.mem_cons.mp hp with rfl | hp
        · exact .head _
        · rcases List.mem_cons.mp hp with rfl | hp
          · exact .tail _ (.head _)
          · rcases List.mem_cons.mp hp with rfl | hp
            · exact .tail _ (.tail _ (.tail _ (.tail _ (.head _))))
            · rcases List.mem_cons.mp hp with rfl | hp
              · exact .tail _ (.tail _ (.tail _ (.tail _ (.tail _ (.head _)))))
              · exact .tail _ (.tail _ (.tail _ (.tail _ (.tail _ (.tail _ (.tail _ hp)))))))
      refine new1 w (n := 0) (rows := [(askedN, cS (b64out gs rem))]) (tups := [(T1, { cls := Value.type "tuple", data := Data.seq #[Value.str (Str.ofString "Asked") _, Value.str (cS (b64out gs rem)) tv] })]) G (Room.deeper (hr.less (by decide : 5 ≤ 12))) F N (.head _) (fun p hp => by rw [List.mem_singleton.mp hp]; exact .tail _ (.head _)) (.cons ⟨rfl, _, _, _, rfl⟩ .nil) (fun r hr => by rw [List.mem_singleton.mp hr]; exact ⟨askedN_tame, hvt⟩) (by simp) ?_
      intro t d e h7 tk7 F7 N7 T7
      clear F N la lb
      obtain ⟨hsh, tke, n9, e9⟩ := T7.inst.hs
      have e11 := dict_inj (e9.symm.trans (N7 (d, dictOf [e] 1) (.tail _ (.head _))).1)
      subst e11
      clear e9 n9 T7
      ((repeat' ((fail_if_success (with_reducible first | show wpAny _ _ (exec (Stmt.If _ _ _ _) _) _ _ _ | show wpAny _ _ (subscriptTail _ _ _ (Value.ref _)) _ _ _ | show wpAny _ _ (compareOp _ _ (Value.ref _)) _ _ _ | show wpAny _ _ (call (Value.builtin "list.index") _) _ _ _)); (first | (with_reducible refine modP ?k1 ?_; (case k1 => decide)) | (k_here; (with_reducible show wpAny _ _ (call (Value.builtin "len") [Value.ref _]) _ _ _); with_unfolding_all refine' len_ints ?k1 ?k2 ?k3 ?k4 ?_; (case k1 => assumption); (case k2 => k_mem); (case k3 => assumption); (case k4 => walk_at "mar")) | (k_here; (with_reducible show wpAny _ _ (subscriptTail _ (PySem.Expr.Slice _ _ none _) (Value.ref _) (Value.ref _)) _ _ _); k_dflt (refine' kmk_slice_ints ?F ?N ?l ?p ?q ?i ?m rfl ?_ ?s ?t ?z; (case F => assumption); (case N => assumption); (case l => first | exact News.isList (by assumption) (by k_mem) | exact Fr.lst (by assumption) (by assumption)); (case p => kmk_part); (case q => kmk_part); (case i => assumption); (case m => first | exact kmk_all (by assumption) | exact kmk_upto (by assumption) (by omega) | exact kmk_run (by assumption) (by omega) (by omega) | exact kmk_from (by assumption) (by omega)); (case s => with_unfolding_all rfl); (case t => kmk_pure); (case z => (rw [List.size_toArray, PySem.sizeLine_eq]; omega))); intro _ _ _ _ _ _ _ hC' _; clear hC'; (try k_sweep)) | walk_at "mstep"))); (all_goals (try dsimp only)))
      rename Fr _ _ _ _ => F
      rename News _ _ _ _ => N
      have T8 := Tab.ofNews N (tups := [(T1, { cls := Value.type "tuple", data := Data.seq #[Value.str (Str.ofString "Asked") _, Value.str (cS (b64out gs rem)) tv] })]) (rows := [(askedN, cS (b64out gs rem))]) (.head _) (.tail _ (.head _)) (.tail _ (.tail _ (.head _))) (fun p hp => by rw [List.mem_singleton.mp hp]; exact .tail _ (.tail _ (.tail _ (.head _)))) (.cons ⟨rfl, _, _, _, rfl⟩ .nil) (by simp)
      refine wpAny_mono (get_spec w (G.keeps F.keep) (Room.deeper (hr.less (by decide : 3 ≤ 12))) T8 (fun r hr => by rw [List.mem_singleton.mp hr]; exact askedN_tame) askedG _ askedG_tame _) (fun y s' hq => ?_) fun _ _ z => z
      rw [asked_get] at hq
      dsimp only at hq
      obtain ⟨⟨h8, tk8, rfl, k8⟩, tv8, rfl⟩ := hq
      obtain ⟨F8, N8⟩ := after0 F N k8
      clear F N T8 k8
      replace N8 := News.sub N8 (news' := ((O, listOf zs.toArray n3) :: (K, listOf ys.toArray n2) :: (L + 1 + 1 + 1 + 1, ob) :: (L + 1 + 1 + 1, oo) :: (L + 1 + 1, ok) :: (L + 1, ot) :: [])) (fun p hp => .tail _ (.tail _ (.tail _ (.tail _ hp))))
      ((repeat' ((fail_if_success (with_reducible first | show wpAny _ _ (exec (Stmt.If _ _ _ _) _) _ _ _ | show wpAny _ _ (subscriptTail _ _ _ (Value.ref _)) _ _ _ | show wpAny _ _ (compareOp _ _ (Value.ref _)) _ _ _ | show wpAny _ _ (call (Value.builtin "list.index") _) _ _ _)); (first | (with_reducible refine modP ?k1 ?_; (case k1 => decide)) | (k_here; (with_reducible show wpAny _ _ (call (Value.builtin "len") [Value.ref _]) _ _ _); with_unfolding_all refine' len_ints ?k1 ?k2 ?k3 ?k4 ?_; (case k1 => assumption); (case k2 => k_mem); (case k3 => assumption); (case k4 => walk_at "mar")) | (k_here; (with_reducible show wpAny _ _ (subscriptTail _ (PySem.Expr.Slice _ _ none _) (Value.ref _) (Value.ref _)) _ _ _); k_dflt (refine' kmk_slice_ints ?F ?N ?l ?p ?q ?i ?m rfl ?_ ?s ?t ?z; (case F => assumption); (case N => assumption); (case l => first | exact News.isList (by assumption) (by k_mem) | exact Fr.lst (by assumption) (by assumption)); (case p => kmk_part); (case q => kmk_part); (case i => assumption); (case m => first | exact kmk_all (by assumption) | exact kmk_upto (by assumption) (by omega) | exact kmk_run (by assumption) (by omega) (by omega) | exact kmk_from (by assumption) (by omega)); (case s => with_unfolding_all rfl); (case t => kmk_pure); (case z => (rw [List.size_toArray, PySem.sizeLine_eq]; omega))); intro _ _ _ _ _ _ _ hC' _; clear hC'; (try k_sweep)) | walk_at "mstep"))); (all_goals (try dsimp only)))
      rename Fr _ _ _ _ => F
      rename News _ _ _ _ => N
      have elen : ((List.map (fun x => x % 5) nums).length : Int) = ((List.map (fun x => octetF x xs.sum) nums).length : Int) := by simp
      rw [elen]
      refine use (read_spec w (G.keeps F.keep) (Room.deeper (hr.less (by decide : 9 ≤ 12))) hos hol hgs hev hfl hfz _ _ _) fun y h9 tk9 k9 hq => ?_
      obtain ⟨T9, P9, gv, ng, tsp, rfl, hT, hP, hPT, hT', hP', hgv⟩ := hq
      obtain ⟨F', N', hPn⟩ := addNew F N k9 hP hP'
      have hTup : IsTup h9 T9 #[.ref P9, .int (recF (nums.map fun x => octetF x xs.sum) [] []).2 tsp] := ⟨_, hT', rfl, _, rfl⟩
      clear F N k9 hT hP hPT hT' hP'
      ((repeat' ((fail_if_success (with_reducible first | show wpAny _ _ (exec (Stmt.If _ _ _ _) _) _ _ _ | show wpAny _ _ (subscriptTail _ _ _ (Value.ref _)) _ _ _ | show wpAny _ _ (compareOp _ _ (Value.ref _)) _ _ _ | show wpAny _ _ (call (Value.builtin "list.index") _) _ _ _)); (first | (with_reducible refine modP ?k1 ?_; (case k1 => decide)) | (k_here; (with_reducible show wpAny _ _ (call (Value.builtin "len") [Value.ref _]) _ _ _); with_unfolding_all refine' len_ints ?k1 ?k2 ?k3 ?k4 ?_; (case k1 => assumption); (case k2 => k_mem); (case k3 => assumption); (case k4 => walk_at "mar")) | (k_here; (with_reducible show wpAny _ _ (subscriptTail _ (PySem.Expr.Slice _ _ none _) (Value.ref _) (Value.ref _)) _ _ _); k_dflt (refine' kmk_slice_ints ?F ?N ?l ?p ?q ?i ?m rfl ?_ ?s ?t ?z; (case F => assumption); (case N => assumption); (case l => first | exact News.isList (by assumption) (by k_mem) | exact Fr.lst (by assumption) (by assumption)); (case p => kmk_part); (case q => kmk_part); (case i => assumption); (case m => first | exact kmk_all (by assumption) | exact kmk_upto (by assumption) (by omega) | exact kmk_run (by assumption) (by omega) (by omega) | exact kmk_from (by assumption) (by omega)); (case s => with_unfolding_all rfl); (case t => kmk_pure); (case z => (rw [List.size_toArray, PySem.sizeLine_eq]; omega))); intro _ _ _ _ _ _ _ hC' _; clear hC'; (try k_sweep)) | walk_at "mstep"))); (all_goals (try dsimp only)))
      clear hTup hPn
      walk1
      ((repeat' ((fail_if_success (with_reducible first | show wpAny _ _ (exec (Stmt.If _ _ _ _) _) _ _ _ | show wpAny _ _ (subscriptTail _ _ _ (Value.ref _)) _ _ _ | show wpAny _ _ (compareOp _ _ (Value.ref _)) _ _ _ | show wpAny _ _ (call (Value.builtin "list.index") _) _ _ _)); (first | (with_reducible refine modP ?k1 ?_; (case k1 => decide)) | (k_here; (with_reducible show wpAny _ _ (call (Value.builtin "len") [Value.ref _]) _ _ _); with_unfolding_all refine' len_ints ?k1 ?k2 ?k3 ?k4 ?_; (case k1 => assumption); (case k2 => k_mem); (case k3 => assumption); (case k4 => walk_at "mar")) | (k_here; (with_reducible show wpAny _ _ (subscriptTail _ (PySem.Expr.Slice _ _ none _) (Value.ref _) (Value.ref _)) _ _ _); k_dflt (refine' kmk_slice_ints ?F ?N ?l ?p ?q ?i ?m rfl ?_ ?s ?t ?z; (case F => assumption); (case N => assumption); (case l => first | exact News.isList (by assumption) (by k_mem) | exact Fr.lst (by assumption) (by assumption)); (case p => kmk_part); (case q => kmk_part); (case i => assumption); (case m => first | exact kmk_all (by assumption) | exact kmk_upto (by assumption) (by omega) | exact kmk_run (by assumption) (by omega) (by omega) | exact kmk_from (by assumption) (by omega)); (case s => with_unfolding_all rfl); (case t => kmk_pure); (case z => (rw [List.size_toArray, PySem.sizeLine_eq]; omega))); intro _ _ _ _ _ _ _ hC' _; clear hC'; (try k_sweep)) | walk_at "mstep"))); (all_goals (try dsimp only)))
      rename Fr _ _ _ _ => F
      rename News _ _ _ _ => N
      refine comp_eval (cl := [(Str.ofString "octets", L + 1 + 1 + 1), (Str.ofString "kinds", L + 1 + 1)]) (fun _ => true) (fun v y => ∃ k : Int, k ∈ nums.map (· % 5) ∧ IsI k v ∧ IsS (nameF ((nums.map fun x => octetF x xs.sum).getD ((nums.map (· % 5)).idxOf k) 0)) y) (by rfl) (by decide) rfl (by decide) rfl ?_
      ((repeat' (first | (with_reducible refine modP ?k1 ?_; (case k1 => decide)) | (k_here; (with_reducible show wpAny _ _ (call (Value.builtin "len") [Value.ref _]) _ _ _); with_unfolding_all refine' len_ints ?k1 ?k2 ?k3 ?k4 ?_; (case k1 => assumption); (case k2 => k_mem); (case k3 => assumption); (case k4 => walk_at "mar")) | (k_here; (with_reducible show wpAny _ _ (subscriptTail _ (PySem.Expr.Slice _ _ none _) (Value.ref _) (Value.ref _)) _ _ _); k_dflt (refine' kmk_slice_ints ?F ?N ?l ?p ?q ?i ?m rfl ?_ ?s ?t ?z; (case F => assumption); (case N => assumption); (case l => first | exact News.isList (by assumption) (by k_mem) | exact Fr.lst (by assumption) (by assumption)); (case p => kmk_part); (case q => kmk_part); (case i => assumption); (case m => first | exact kmk_all (by assumption) | exact kmk_upto (by assumption) (by omega) | exact kmk_run (by assumption) (by omega) (by omega) | exact kmk_from (by assumption) (by omega)); (case s => with_unfolding_all rfl); (case t => kmk_pure); (case z => (rw [List.size_toArray, PySem.sizeLine_eq]; omega))); intro _ _ _ _ _ _ _ hC' _; clear hC'; (try k_sweep)) | walk_at "mstep")); (all_goals (try dsimp only)))
      rename Fr _ _ _ _ => F
      rename News _ _ _ _ => N
      have hck : Heap.IsCell _ (L + 1 + 1) (some (.ref K)) := ⟨ok, (N (L + 1 + 1, ok) (.tail _ (.tail _ (.tail _ (.tail _ (.tail _ (.head _))))))).1, hok⟩
      have hco : Heap.IsCell _ (L + 1 + 1 + 1) (some (.ref O)) := ⟨oo, (N (L + 1 + 1 + 1, oo) (.tail _ (.tail _ (.tail _ (.tail _ (.head _)))))).1, hoo⟩
      have hKm := (N (K, listOf ys.toArray n2) (.tail _ (.tail _ (.head _)))).1
      have hOm := (N (O, listOf zs.toArray n3) (.tail _ (.head _))).1
      have G2 := G.keeps F.keep
      refine comp_list (Room.deeper (hr.less (by decide : 2 ≤ 12))).hd (News.isList N (.tail _ (.tail _ (.head _)))) (by rw [List.size_toArray, hKi.length, hkl]; exact Nat.le_trans hnl (by decide)) ⟨?tests, ?elt⟩ ?_
      case tests => intro C i v s₃ m₃ E' _ _ _ _; exact wpAny_tests_nil ⟨rfl, Keeps.refl _⟩
      case elt =>
        rintro C j v s₃ m₃ E' hv3 _ hn3 hm3 kp3
        obtain ⟨x, tx, hx, rfl⟩ := ints_at hKi hv3
        have hck3 := hck.keeps kp3
        have hco3 := hco.keeps kp3
        have hKm3 := kp3 _ _ hKm
        have hOm3 := kp3 _ _ hOm
        have G3 := G2.keeps kp3
        have KX3 := G3.X
        have KT3 := G3.T
        have k3' : ∀ b o, s₃.heap.get? b = some o → s₃.heap.get? b = some o := fun _ _ e => e
        clear F N kp3 G2 hck hco hKm hOm
        have hxm := List.mem_of_getElem? hx
        have hxl : (nums.map (· % 5)).idxOf x < (nums.map fun x => octetF x xs.sum).length := by
          have := List.idxOf_lt_length_iff.mpr hxm
          rw [List.length_map] at this ⊢; exact this
        ((repeat' ((fail_if_success (with_reducible first | show wpAny _ _ (getMethod (Value.ref _) _ _) _ _ _ | show wpAny _ _ (subscriptTail _ _ _ _) _ _ _ | show wpAny _ _ (compareOp _ _ (Value.ref _)) _ _ _ | show wpAny _ _ (call (Value.builtin "list.index") _) _ _ _ | show wpAny _ _ (call (Value.builtin "list.count") _) _ _ _)); (first | (with_reducible refine modP ?k1 ?_; (case k1 => decide)) | (k_here; (with_reducible show wpAny _ _ (call (Value.builtin "len") [Value.ref _]) _ _ _); with_unfolding_all refine' len_ints ?k1 ?k2 ?k3 ?k4 ?_; (case k1 => assumption); (case k2 => k_mem); (case k3 => assumption); (case k4 => walk_at "mar")) | (k_here; (with_reducible show wpAny _ _ (subscriptTail _ (PySem.Expr.Slice _ _ none _) (Value.ref _) (Value.ref _)) _ _ _); k_dflt (refine' kmk_slice_ints ?F ?N ?l ?p ?q ?i ?m rfl ?_ ?s ?t ?z; (case F => assumption); (case N => assumption); (case l => first | exact News.isList (by assumption) (by k_mem) | exact Fr.lst (by assumption) (by assumption)); (case p => kmk_part); (case q => kmk_part); (case i => assumption); (case m => first | exact kmk_all (by assumption) | exact kmk_upto (by assumption) (by omega) | exact kmk_run (by assumption) (by omega) (by omega) | exact kmk_from (by assumption) (by omega)); (case s => with_unfolding_all rfl); (case t => kmk_pure); (case z => (rw [List.size_toArray, PySem.sizeLine_eq]; omega))); intro _ _ _ _ _ _ _ hC' _; clear hC'; (try k_sweep)) | walk_at "mstep"))); (all_goals (try dsimp only)))
        refine meth_index hKm3 ?_
        ((repeat' ((fail_if_success (with_reducible first | show wpAny _ _ (getMethod (Value.ref _) _ _) _ _ _ | show wpAny _ _ (subscriptTail _ _ _ _) _ _ _ | show wpAny _ _ (compareOp _ _ (Value.ref _)) _ _ _ | show wpAny _ _ (call (Value.builtin "list.index") _) _ _ _ | show wpAny _ _ (call (Value.builtin "list.count") _) _ _ _)); (first | (with_reducible refine modP ?k1 ?_; (case k1 => decide)) | (k_here; (with_reducible show wpAny _ _ (call (Value.builtin "len") [Value.ref _]) _ _ _); with_unfolding_all refine' len_ints ?k1 ?k2 ?k3 ?k4 ?_; (case k1 => assumption); (case k2 => k_mem); (case k3 => assumption); (case k4 => walk_at "mar")) | (k_here; (with_reducible show wpAny _ _ (subscriptTail _ (PySem.Expr.Slice _ _ none _) (Value.ref _) (Value.ref _)) _ _ _); k_dflt (refine' kmk_slice_ints ?F ?N ?l ?p ?q ?i ?m rfl ?_ ?s ?t ?z; (case F => assumption); (case N => assumption); (case l => first | exact News.isList (by assumption) (by k_mem) | exact Fr.lst (by assumption) (by assumption)); (case p => kmk_part); (case q => kmk_part); (case i => assumption); (case m => first | exact kmk_all (by assumption) | exact kmk_upto (by assumption) (by omega) | exact kmk_run (by assumption) (by omega) (by omega) | exact kmk_from (by assumption) (by omega)); (case s => with_unfolding_all rfl); (case t => kmk_pure); (case z => (rw [List.size_toArray, PySem.sizeLine_eq]; omega))); intro _ _ _ _ _ _ _ hC' _; clear hC'; (try k_sweep)) | walk_at "mstep"))); (all_goals (try dsimp only)))
        refine index_ints hKm3 hKi hxm (by rw [hkl]; exact Nat.le_trans hnl (by decide)) ?_
        ((repeat' ((fail_if_success (with_reducible first | show wpAny _ _ (getMethod (Value.ref _) _ _) _ _ _ | show wpAny _ _ (subscriptTail _ _ _ _) _ _ _ | show wpAny _ _ (compareOp _ _ (Value.ref _)) _ _ _ | show wpAny _ _ (call (Value.builtin "list.index") _) _ _ _ | show wpAny _ _ (call (Value.builtin "list.count") _) _ _ _)); (first | (with_reducible refine modP ?k1 ?_; (case k1 => decide)) | (k_here; (with_reducible show wpAny _ _ (call (Value.builtin "len") [Value.ref _]) _ _ _); with_unfolding_all refine' len_ints ?k1 ?k2 ?k3 ?k4 ?_; (case k1 => assumption); (case k2 => k_mem); (case k3 => assumption); (case k4 => walk_at "mar")) | (k_here; (with_reducible show wpAny _ _ (subscriptTail _ (PySem.Expr.Slice _ _ none _) (Value.ref _) (Value.ref _)) _ _ _); k_dflt (refine' kmk_slice_ints ?F ?N ?l ?p ?q ?i ?m rfl ?_ ?s ?t ?z; (case F => assumption); (case N => assumption); (case l => first | exact News.isList (by assumption) (by k_mem) | exact Fr.lst (by assumption) (by assumption)); (case p => kmk_part); (case q => kmk_part); (case i => assumption); (case m => first | exact kmk_all (by assumption) | exact kmk_upto (by assumption) (by omega) | exact kmk_run (by assumption) (by omega) (by omega) | exact kmk_from (by assumption) (by omega)); (case s => with_unfolding_all rfl); (case t => kmk_pure); (case z => (rw [List.size_toArray, PySem.sizeLine_eq]; omega))); intro _ _ _ _ _ _ _ hC' _; clear hC'; (try k_sweep)) | walk_at "mstep"))); (all_goals (try dsimp only)))
        refine sub_raw ⟨_, hOm3, rfl, _, rfl⟩ hOi hxl (Int.lt_of_lt_of_le (Int.ofNat_lt.mpr (Nat.lt_of_lt_of_le hxl hol)) (by decide)) ?_
        intro tt
        ((repeat' ((fail_if_success (with_reducible first | show wpAny _ _ (getMethod (Value.ref _) _ _) _ _ _ | show wpAny _ _ (subscriptTail _ _ _ _) _ _ _ | show wpAny _ _ (compareOp _ _ (Value.ref _)) _ _ _ | show wpAny _ _ (call (Value.builtin "list.index") _) _ _ _ | show wpAny _ _ (call (Value.builtin "list.count") _) _ _ _)); (first | (with_reducible refine modP ?k1 ?_; (case k1 => decide)) | (k_here; (with_reducible show wpAny _ _ (call (Value.builtin "len") [Value.ref _]) _ _ _); with_unfolding_all refine' len_ints ?k1 ?k2 ?k3 ?k4 ?_; (case k1 => assumption); (case k2 => k_mem); (case k3 => assumption); (case k4 => walk_at "mar")) | (k_here; (with_reducible show wpAny _ _ (subscriptTail _ (PySem.Expr.Slice _ _ none _) (Value.ref _) (Value.ref _)) _ _ _); k_dflt (refine' kmk_slice_ints ?F ?N ?l ?p ?q ?i ?m rfl ?_ ?s ?t ?z; (case F => assumption); (case N => assumption); (case l => first | exact News.isList (by assumption) (by k_mem) | exact Fr.lst (by assumption) (by assumption)); (case p => kmk_part); (case q => kmk_part); (case i => assumption); (case m => first | exact kmk_all (by assumption) | exact kmk_upto (by assumption) (by omega) | exact kmk_run (by assumption) (by omega) (by omega) | exact kmk_from (by assumption) (by omega)); (case s => with_unfolding_all rfl); (case t => kmk_pure); (case z => (rw [List.size_toArray, PySem.sizeLine_eq]; omega))); intro _ _ _ _ _ _ _ hC' _; clear hC'; (try k_sweep)) | walk_at "mstep"))); (all_goals (try dsimp only)))
        have hob3 := hos _ (getD_mem hxl)
        refine name_call w G3 (Room.deeper (hr.less (by decide : 5 ≤ 12))) hob3 ?_
        intro hh tkk y kk hy
        exact ⟨⟨x, hxm, ⟨tx, rfl⟩, hy⟩, hh, tkk, rfl, kk⟩
      intro Z h10 tk10 zz nz hZ hZ' hF hk
      rw [filter_true] at hF
      obtain ⟨F', N', hZn⟩ := addNew F N hk hZ hZ'
      clear F N G2 hck hco hKm hOm hZn hk hZ hZ'
      have hzz := paired_strI hKi hF
      clear hF
      obtain ⟨zz⟩ := zz
      obtain ⟨gv⟩ := gv
      ((repeat' ((fail_if_success (with_reducible first | show wpAny _ _ (exec (Stmt.If _ _ _ _) _) _ _ _ | show wpAny _ _ (subscriptTail _ _ _ (Value.ref _)) _ _ _ | show wpAny _ _ (compareOp _ _ (Value.ref _)) _ _ _ | show wpAny _ _ (call (Value.builtin "list.index") _) _ _ _)); (first | (with_reducible refine modP ?k1 ?_; (case k1 => decide)) | (k_here; (with_reducible show wpAny _ _ (call (Value.builtin "len") [Value.ref _]) _ _ _); with_unfolding_all refine' len_ints ?k1 ?k2 ?k3 ?k4 ?_; (case k1 => assumption); (case k2 => k_mem); (case k3 => assumption); (case k4 => walk_at "mar")) | (k_here; (with_reducible show wpAny _ _ (subscriptTail _ (PySem.Expr.Slice _ _ none _) (Value.ref _) (Value.ref _)) _ _ _); k_dflt (refine' kmk_slice_ints ?F ?N ?l ?p ?q ?i ?m rfl ?_ ?s ?t ?z; (case F => assumption); (case N => assumption); (case l => first | exact News.isList (by assumption) (by k_mem) | exact Fr.lst (by assumption) (by assumption)); (case p => kmk_part); (case q => kmk_part); (case i => assumption); (case m => first | exact kmk_all (by assumption) | exact kmk_upto (by assumption) (by omega) | exact kmk_run (by assumption) (by omega) (by omega) | exact kmk_from (by assumption) (by omega)); (case s => with_unfolding_all rfl); (case t => kmk_pure); (case z => (rw [List.size_toArray, PySem.sizeLine_eq]; omega))); intro _ _ _ _ _ _ _ hC' _; clear hC'; (try k_sweep)) | walk_at "mstep"))); (all_goals (try dsimp only)))
      rename Fr _ _ _ _ => F
      rename News _ _ _ _ => N
      refine ne_strs (News.isList N (.tail _ (.head _))) (News.isList N (.head _)) hgv ?pg (Nat.lt_of_le_of_lt (Nat.le_add_right _ _) (Room.deeper (hr.less (by decide : 2 ≤ 12))).un) ?_
      case pg => rw [got_first]; exact hzz
      clear hgv hzz
      ((repeat' ((fail_if_success (with_reducible first | show wpAny _ _ (exec (Stmt.If _ _ _ _) _) _ _ _ | show wpAny _ _ (subscriptTail _ _ _ (Value.ref _)) _ _ _ | show wpAny _ _ (compareOp _ _ (Value.ref _)) _ _ _ | show wpAny _ _ (call (Value.builtin "list.index") _) _ _ _)); (first | (with_reducible refine modP ?k1 ?_; (case k1 => decide)) | (k_here; (with_reducible show wpAny _ _ (call (Value.builtin "len") [Value.ref _]) _ _ _); with_unfolding_all refine' len_ints ?k1 ?k2 ?k3 ?k4 ?_; (case k1 => assumption); (case k2 => k_mem); (case k3 => assumption); (case k4 => walk_at "mar")) | (k_here; (with_reducible show wpAny _ _ (subscriptTail _ (PySem.Expr.Slice _ _ none _) (Value.ref _) (Value.ref _)) _ _ _); k_dflt (refine' kmk_slice_ints ?F ?N ?l ?p ?q ?i ?m rfl ?_ ?s ?t ?z; (case F => assumption); (case N => assumption); (case l => first | exact News.isList (by assumption) (by k_mem) | exact Fr.lst (by assumption) (by assumption)); (case p => kmk_part); (case q => kmk_part); (case i => assumption); (case m => first | exact kmk_all (by assumption) | exact kmk_upto (by assumption) (by omega) | exact kmk_run (by assumption) (by omega) (by omega) | exact kmk_from (by assumption) (by omega)); (case s => with_unfolding_all rfl); (case t => kmk_pure); (case z => (rw [List.size_toArray, PySem.sizeLine_eq]; omega))); intro _ _ _ _ _ _ _ hC' _; clear hC'; (try k_sweep)) | walk_at "mstep"))); (all_goals (try dsimp only)))
      rename Fr _ _ _ _ => F
      rename News _ _ _ _ => N
      replace N := News.sub N (news' := ((O, listOf zs.toArray n3) :: (K, listOf ys.toArray n2) :: (L + 1 + 1 + 1 + 1, ob) :: (L + 1 + 1 + 1, oo) :: (L + 1 + 1, ok) :: (L + 1, ot) :: [])) (fun p hp => .tail _ (.tail _ hp))
      refine comp_assign (cl := [(Str.ofString "kinds", L + 1 + 1)]) (inP (nums.map (· % 5))) (fun v y => ∃ k : Int, IsI k v ∧ IsI (((nums.map (· % 5)).count k : Nat) : Int) y) (by rfl) (by rfl) (by decide) rfl (by decide) rfl rfl rfl ?_
      ((repeat' (first | (with_reducible refine modP ?k1 ?_; (case k1 => decide)) | (k_here; (with_reducible show wpAny _ _ (call (Value.builtin "len") [Value.ref _]) _ _ _); with_unfolding_all refine' len_ints ?k1 ?k2 ?k3 ?k4 ?_; (case k1 => assumption); (case k2 => k_mem); (case k3 => assumption); (case k4 => walk_at "mar")) | (k_here; (with_reducible show wpAny _ _ (subscriptTail _ (PySem.Expr.Slice _ _ none _) (Value.ref _) (Value.ref _)) _ _ _); k_dflt (refine' kmk_slice_ints ?F ?N ?l ?p ?q ?i ?m rfl ?_ ?s ?t ?z; (case F => assumption); (case N => assumption); (case l => first | exact News.isList (by assumption) (by k_mem) | exact Fr.lst (by assumption) (by assumption)); (case p => kmk_part); (case q => kmk_part); (case i => assumption); (case m => first | exact kmk_all (by assumption) | exact kmk_upto (by assumption) (by omega) | exact kmk_run (by assumption) (by omega) (by omega) | exact kmk_from (by assumption) (by omega)); (case s => with_unfolding_all rfl); (case t => kmk_pure); (case z => (rw [List.size_toArray, PySem.sizeLine_eq]; omega))); intro _ _ _ _ _ _ _ hC' _; clear hC'; (try k_sweep)) | walk_at "mstep")); (all_goals (try dsimp only)))
      rename Fr _ _ _ _ => F
      rename News _ _ _ _ => N
      rename IsRange _ _ _ _ _ _ _ _ => hrg
      have hck : Heap.IsCell _ (L + 1 + 1) (some (.ref K)) := ⟨ok, (N (L + 1 + 1, ok) (.tail _ (.tail _ (.tail _ (.tail _ (.head _)))))).1, hok⟩
      have hKm := (N (K, listOf ys.toArray n2) (.tail _ (.head _))).1
      have G2 := G.keeps F.keep
      refine comp_rangeA (n := 5) (Room.deeper (hr.less (by decide : 2 ≤ 12))).hd F N hrg (by decide) (by decide) (by decide) rfl ⟨?tests, ?elt⟩ ?_
      case tests =>
        rintro C j v s₃ m₃ E' ⟨hj, t5, rfl⟩ hn3 hm3 kp3
        have hck3 := hck.keeps kp3
        have hKm3 := kp3 _ _ hKm
        have G3 := G2.keeps kp3
        have KX3 := G3.X
        have KT3 := G3.T
        have k3' : ∀ b o, s₃.heap.get? b = some o → s₃.heap.get? b = some o := fun _ _ e => e
        clear F N kp3 G2 hck hKm hrg
        refine wpAny_tests_one ?_
        ((repeat' ((fail_if_success (with_reducible first | show wpAny _ _ (getMethod (Value.ref _) _ _) _ _ _ | show wpAny _ _ (subscriptTail _ _ _ _) _ _ _ | show wpAny _ _ (compareOp _ _ (Value.ref _)) _ _ _ | show wpAny _ _ (call (Value.builtin "list.index") _) _ _ _ | show wpAny _ _ (call (Value.builtin "list.count") _) _ _ _)); (first | (with_reducible refine modP ?k1 ?_; (case k1 => decide)) | (k_here; (with_reducible show wpAny _ _ (call (Value.builtin "len") [Value.ref _]) _ _ _); with_unfolding_all refine' len_ints ?k1 ?k2 ?k3 ?k4 ?_; (case k1 => assumption); (case k2 => k_mem); (case k3 => assumption); (case k4 => walk_at "mar")) | (k_here; (with_reducible show wpAny _ _ (subscriptTail _ (PySem.Expr.Slice _ _ none _) (Value.ref _) (Value.ref _)) _ _ _); k_dflt (refine' kmk_slice_ints ?F ?N ?l ?p ?q ?i ?m rfl ?_ ?s ?t ?z; (case F => assumption); (case N => assumption); (case l => first | exact News.isList (by assumption) (by k_mem) | exact Fr.lst (by assumption) (by assumption)); (case p => kmk_part); (case q => kmk_part); (case i => assumption); (case m => first | exact kmk_all (by assumption) | exact kmk_upto (by assumption) (by omega) | exact kmk_run (by assumption) (by omega) (by omega) | exact kmk_from (by assumption) (by omega)); (case s => with_unfolding_all rfl); (case t => kmk_pure); (case z => (rw [List.size_toArray, PySem.sizeLine_eq]; omega))); intro _ _ _ _ _ _ _ hC' _; clear hC'; (try k_sweep)) | walk_at "mstep"))); (all_goals (try dsimp only)))
        refine in_list_ints ⟨_, hKm3, rfl, _, rfl⟩ hKi ?_
        rw [any_dec]
        ((repeat' ((fail_if_success (with_reducible first | show wpAny _ _ (getMethod (Value.ref _) _ _) _ _ _ | show wpAny _ _ (subscriptTail _ _ _ _) _ _ _ | show wpAny _ _ (compareOp _ _ (Value.ref _)) _ _ _ | show wpAny _ _ (call (Value.builtin "list.index") _) _ _ _ | show wpAny _ _ (call (Value.builtin "list.count") _) _ _ _)); (first | (with_reducible refine modP ?k1 ?_; (case k1 => decide)) | (k_here; (with_reducible show wpAny _ _ (call (Value.builtin "len") [Value.ref _]) _ _ _); with_unfolding_all refine' len_ints ?k1 ?k2 ?k3 ?k4 ?_; (case k1 => assumption); (case k2 => k_mem); (case k3 => assumption); (case k4 => walk_at "mar")) | (k_here; (with_reducible show wpAny _ _ (subscriptTail _ (PySem.Expr.Slice _ _ none _) (Value.ref _) (Value.ref _)) _ _ _); k_dflt (refine' kmk_slice_ints ?F ?N ?l ?p ?q ?i ?m rfl ?_ ?s ?t ?z; (case F => assumption); (case N => assumption); (case l => first | exact News.isList (by assumption) (by k_mem) | exact Fr.lst (by assumption) (by assumption)); (case p => kmk_part); (case q => kmk_part); (case i => assumption); (case m => first | exact kmk_all (by assumption) | exact kmk_upto (by assumption) (by omega) | exact kmk_run (by assumption) (by omega) (by omega) | exact kmk_from (by assumption) (by omega)); (case s => with_unfolding_all rfl); (case t => kmk_pure); (case z => (rw [List.size_toArray, PySem.sizeLine_eq]; omega))); intro _ _ _ _ _ _ _ hC' _; clear hC'; (try k_sweep)) | walk_at "mstep"))); (all_goals (try dsimp only)))
        exact ⟨rfl, Keeps.refl _⟩
      case elt =>
        rintro C j v s₃ m₃ E' ⟨hj, t5, rfl⟩ hp3 hn3 hm3 kp3
        have hck3 := hck.keeps kp3
        have hKm3 := kp3 _ _ hKm
        have G3 := G2.keeps kp3
        have KX3 := G3.X
        have KT3 := G3.T
        have k3' : ∀ b o, s₃.heap.get? b = some o → s₃.heap.get? b = some o := fun _ _ e => e
        clear F N kp3 G2 hck hKm hrg
        ((repeat' ((fail_if_success (with_reducible first | show wpAny _ _ (getMethod (Value.ref _) _ _) _ _ _ | show wpAny _ _ (subscriptTail _ _ _ _) _ _ _ | show wpAny _ _ (compareOp _ _ (Value.ref _)) _ _ _ | show wpAny _ _ (call (Value.builtin "list.index") _) _ _ _ | show wpAny _ _ (call (Value.builtin "list.count") _) _ _ _)); (first | (with_reducible refine modP ?k1 ?_; (case k1 => decide)) | (k_here; (with_reducible show wpAny _ _ (call (Value.builtin "len") [Value.ref _]) _ _ _); with_unfolding_all refine' len_ints ?k1 ?k2 ?k3 ?k4 ?_; (case k1 => assumption); (case k2 => k_mem); (case k3 => assumption); (case k4 => walk_at "mar")) | (k_here; (with_reducible show wpAny _ _ (subscriptTail _ (PySem.Expr.Slice _ _ none _) (Value.ref _) (Value.ref _)) _ _ _); k_dflt (refine' kmk_slice_ints ?F ?N ?l ?p ?q ?i ?m rfl ?_ ?s ?t ?z; (case F => assumption); (case N => assumption); (case l => first | exact News.isList (by assumption) (by k_mem) | exact Fr.lst (by assumption) (by assumption)); (case p => kmk_part); (case q => kmk_part); (case i => assumption); (case m => first | exact kmk_all (by assumption) | exact kmk_upto (by assumption) (by omega) | exact kmk_run (by assumption) (by omega) (by omega) | exact kmk_from (by assumption) (by omega)); (case s => with_unfolding_all rfl); (case t => kmk_pure); (case z => (rw [List.size_toArray, PySem.sizeLine_eq]; omega))); intro _ _ _ _ _ _ _ hC' _; clear hC'; (try k_sweep)) | walk_at "mstep"))); (all_goals (try dsimp only)))
        refine meth_count hKm3 ?_
        ((repeat' ((fail_if_success (with_reducible first | show wpAny _ _ (getMethod (Value.ref _) _ _) _ _ _ | show wpAny _ _ (subscriptTail _ _ _ _) _ _ _ | show wpAny _ _ (compareOp _ _ (Value.ref _)) _ _ _ | show wpAny _ _ (call (Value.builtin "list.index") _) _ _ _ | show wpAny _ _ (call (Value.builtin "list.count") _) _ _ _)); (first | (with_reducible refine modP ?k1 ?_; (case k1 => decide)) | (k_here; (with_reducible show wpAny _ _ (call (Value.builtin "len") [Value.ref _]) _ _ _); with_unfolding_all refine' len_ints ?k1 ?k2 ?k3 ?k4 ?_; (case k1 => assumption); (case k2 => k_mem); (case k3 => assumption); (case k4 => walk_at "mar")) | (k_here; (with_reducible show wpAny _ _ (subscriptTail _ (PySem.Expr.Slice _ _ none _) (Value.ref _) (Value.ref _)) _ _ _); k_dflt (refine' kmk_slice_ints ?F ?N ?l ?p ?q ?i ?m rfl ?_ ?s ?t ?z; (case F => assumption); (case N => assumption); (case l => first | exact News.isList (by assumption) (by k_mem) | exact Fr.lst (by assumption) (by assumption)); (case p => kmk_part); (case q => kmk_part); (case i => assumption); (case m => first | exact kmk_all (by assumption) | exact kmk_upto (by assumption) (by omega) | exact kmk_run (by assumption) (by omega) (by omega) | exact kmk_from (by assumption) (by omega)); (case s => with_unfolding_all rfl); (case t => kmk_pure); (case z => (rw [List.size_toArray, PySem.sizeLine_eq]; omega))); intro _ _ _ _ _ _ _ hC' _; clear hC'; (try k_sweep)) | walk_at "mstep"))); (all_goals (try dsimp only)))
        refine count_list_ints ⟨_, hKm3, rfl, _, rfl⟩ hKi ?_
        ((repeat' ((fail_if_success (with_reducible first | show wpAny _ _ (getMethod (Value.ref _) _ _) _ _ _ | show wpAny _ _ (subscriptTail _ _ _ _) _ _ _ | show wpAny _ _ (compareOp _ _ (Value.ref _)) _ _ _ | show wpAny _ _ (call (Value.builtin "list.index") _) _ _ _ | show wpAny _ _ (call (Value.builtin "list.count") _) _ _ _)); (first | (with_reducible refine modP ?k1 ?_; (case k1 => decide)) | (k_here; (with_reducible show wpAny _ _ (call (Value.builtin "len") [Value.ref _]) _ _ _); with_unfolding_all refine' len_ints ?k1 ?k2 ?k3 ?k4 ?_; (case k1 => assumption); (case k2 => k_mem); (case k3 => assumption); (case k4 => walk_at "mar")) | (k_here; (with_reducible show wpAny _ _ (subscriptTail _ (PySem.Expr.Slice _ _ none _) (Value.ref _) (Value.ref _)) _ _ _); k_dflt (refine' kmk_slice_ints ?F ?N ?l ?p ?q ?i ?m rfl ?_ ?s ?t ?z; (case F => assumption); (case N => assumption); (case l => first | exact News.isList (by assumption) (by k_mem) | exact Fr.lst (by assumption) (by assumption)); (case p => kmk_part); (case q => kmk_part); (case i => assumption); (case m => first | exact kmk_all (by assumption) | exact kmk_upto (by assumption) (by omega) | exact kmk_run (by assumption) (by omega) (by omega) | exact kmk_from (by assumption) (by omega)); (case s => with_unfolding_all rfl); (case t => kmk_pure); (case z => (rw [List.size_toArray, PySem.sizeLine_eq]; omega))); intro _ _ _ _ _ _ _ hC' _; clear hC'; (try k_sweep)) | walk_at "mstep"))); (all_goals (try dsimp only)))
        exact ⟨⟨_, ⟨_, rfl⟩, ⟨_, rfl⟩⟩, Keeps.tok⟩
      intro Z2 h11 tk11 cc nc vc F' N' hZn hvl hvv hF
      have hcc : IntsAre cc.toList (cntF (nums.map (· % 5))) := ints_cnt _ _ hvl hvv hF
      clear F N G2 hck hKm hZn hvl hvv hF hrg
      obtain ⟨cc⟩ := cc
      have hc0 : 0 < (cntF (nums.map (· % 5))).length := by
        unfold cntF
        rw [List.length_map]
        exact List.length_pos_of_mem (pres_all (ks_bd nums) 0 (List.mem_map.mpr ⟨0, by rw [← hnum]; simp, rfl⟩))
      have hc5 : (cntF (nums.map (· % 5))).length ≤ 5 := by
        unfold cntF presF
        rw [List.length_map]
        exact List.length_filter_le _ _
      ((repeat' ((fail_if_success (with_reducible first | show wpAny _ _ (exec (Stmt.If _ _ _ _) _) _ _ _ | show wpAny _ _ (subscriptTail _ _ _ (Value.ref _)) _ _ _ | show wpAny _ _ (compareOp _ _ (Value.ref _)) _ _ _ | show wpAny _ _ (call (Value.builtin "list.index") _) _ _ _)); (first | (with_reducible refine modP ?k1 ?_; (case k1 => decide)) | (k_here; (with_reducible show wpAny _ _ (call (Value.builtin "len") [Value.ref _]) _ _ _); with_unfolding_all refine' len_ints ?k1 ?k2 ?k3 ?k4 ?_; (case k1 => assumption); (case k2 => k_mem); (case k3 => assumption); (case k4 => walk_at "mar")) | (k_here; (with_reducible show wpAny _ _ (subscriptTail _ (PySem.Expr.Slice _ _ none _) (Value.ref _) (Value.ref _)) _ _ _); k_dflt (refine' kmk_slice_ints ?F ?N ?l ?p ?q ?i ?m rfl ?_ ?s ?t ?z; (case F => assumption); (case N => assumption); (case l => first | exact News.isList (by assumption) (by k_mem) | exact Fr.lst (by assumption) (by assumption)); (case p => kmk_part); (case q => kmk_part); (case i => assumption); (case m => first | exact kmk_all (by assumption) | exact kmk_upto (by assumption) (by omega) | exact kmk_run (by assumption) (by omega) (by omega) | exact kmk_from (by assumption) (by omega)); (case s => with_unfolding_all rfl); (case t => kmk_pure); (case z => (rw [List.size_toArray, PySem.sizeLine_eq]; omega))); intro _ _ _ _ _ _ _ hC' _; clear hC'; (try k_sweep)) | walk_at "mstep"))); (all_goals (try dsimp only)))
      rename Fr _ _ _ _ => F
      rename News _ _ _ _ => N
      refine use0 (put_spec w (G.keeps F.keep) (Room.deeper (hr.less (by decide : 5 ≤ 12))) (N (Z2, listOf cc.toArray nc) (.head _)).1 hcc (Nat.lt_of_le_of_lt hc5 (by decide)) (by assumption) _) F N fun ts h12 tk12 F12 N12 => ?_
      clear F N
      have hpl := put_least _ hc0 hc5
      have hsp := spent_le nums xs.sum (by rw [← hnum]; simp)
      rw [hpl] at hsp ⊢
      clear hpl
      ((repeat' ((fail_if_success (with_reducible first | show wpAny _ _ (exec (Stmt.If _ _ _ _) _) _ _ _ | show wpAny _ _ (subscriptTail _ _ _ (Value.ref _)) _ _ _ | show wpAny _ _ (compareOp _ _ (Value.ref _)) _ _ _ | show wpAny _ _ (call (Value.builtin "list.index") _) _ _ _)); (first | (with_reducible refine modP ?k1 ?_; (case k1 => decide)) | (k_here; (with_reducible show wpAny _ _ (call (Value.builtin "len") [Value.ref _]) _ _ _); with_unfolding_all refine' len_ints ?k1 ?k2 ?k3 ?k4 ?_; (case k1 => assumption); (case k2 => k_mem); (case k3 => assumption); (case k4 => walk_at "mar")) | (k_here; (with_reducible show wpAny _ _ (subscriptTail _ (PySem.Expr.Slice _ _ none _) (Value.ref _) (Value.ref _)) _ _ _); k_dflt (refine' kmk_slice_ints ?F ?N ?l ?p ?q ?i ?m rfl ?_ ?s ?t ?z; (case F => assumption); (case N => assumption); (case l => first | exact News.isList (by assumption) (by k_mem) | exact Fr.lst (by assumption) (by assumption)); (case p => kmk_part); (case q => kmk_part); (case i => assumption); (case m => first | exact kmk_all (by assumption) | exact kmk_upto (by assumption) (by omega) | exact kmk_run (by assumption) (by omega) (by omega) | exact kmk_from (by assumption) (by omega)); (case s => with_unfolding_all rfl); (case t => kmk_pure); (case z => (rw [List.size_toArray, PySem.sizeLine_eq]; omega))); intro _ _ _ _ _ _ _ hC' _; clear hC'; (try k_sweep)) | walk_at "mstep"))); (all_goals (try dsimp only)))
      rename Fr _ _ _ _ => F
      rename News _ _ _ _ => N
      refine use0 (least_spec w (G.keeps F.keep) (Room.deeper (hr.less (by decide : 4 ≤ 12))) (N (Z2, listOf cc.toArray nc) (.head _)).1 hcc hc5 _) F N fun tl h13 tk13 F13 N13 => ?_
      clear F N hcc
      change (recF (nums.map fun x => octetF x xs.sum) [] []).2 ≤ _ at hsp
      revert hsp F13
      refine gen_at (leastF (cntF (nums.map (· % 5)))) ?_
      intro S _
      refine gen_at (recF (nums.map fun x => octetF x xs.sum) [] []).2 ?_
      intro R _ hsp F13
      clear hc0 hc5
      ((repeat' (first | (with_reducible refine modP ?k1 ?_; (case k1 => decide)) | (k_here; (with_reducible show wpAny _ _ (call (Value.builtin "len") [Value.ref _]) _ _ _); with_unfolding_all refine' len_ints ?k1 ?k2 ?k3 ?k4 ?_; (case k1 => assumption); (case k2 => k_mem); (case k3 => assumption); (case k4 => walk_at "mar")) | (k_here; (with_reducible show wpAny _ _ (subscriptTail _ (PySem.Expr.Slice _ _ none _) (Value.ref _) (Value.ref _)) _ _ _); k_dflt (refine' kmk_slice_ints ?F ?N ?l ?p ?q ?i ?m rfl ?_ ?s ?t ?z; (case F => assumption); (case N => assumption); (case l => first | exact News.isList (by assumption) (by k_mem) | exact Fr.lst (by assumption) (by assumption)); (case p => kmk_part); (case q => kmk_part); (case i => assumption); (case m => first | exact kmk_all (by assumption) | exact kmk_upto (by assumption) (by omega) | exact kmk_run (by assumption) (by omega) (by omega) | exact kmk_from (by assumption) (by omega)); (case s => with_unfolding_all rfl); (case t => kmk_pure); (case z => (rw [List.size_toArray, PySem.sizeLine_eq]; omega))); intro _ _ _ _ _ _ _ hC' _; clear hC'; (try k_sweep)) | walk_at "mstep")); (all_goals (try dsimp only)))
      · rename Fr _ _ _ _ => F
        rw [← hL0] at F
        (try rename R ≤ _ => hsp)
        subst hPost
        refine ⟨?_, _, _, _, rfl, F⟩
        rw [hkl, decide_eq_true hsp]
      · rename S ≠ S => hne
        exact absurd rfl hne
    case turn =>
      clear F N hrg
      intro i ti m₁ news₁ h tk own I R0 hTE
      rintro hi ⟨dv, nd, ob, vb, rfl, hm, hob, hdv⟩ hoff hown hIo F N
      obtain ⟨u, rfl⟩ := hm.open
      obtain ⟨dv⟩ := dv
      have aD : ∀ p ∈ own, p.1 ≠ Du := fun p hp e => hoff (Du, listOf dv.toArray nd) (.head _) (by rw [← hown p hp, e])
      have aB : ∀ p ∈ own, p.1 ≠ L + 1 + 1 + 1 + 1 := fun p hp e => hoff (L + 1 + 1 + 1 + 1, ob) (.tail _ (.tail _ (.tail _ (.tail _ (.tail _ (.head _)))))) (by rw [← hown p hp, e])
      replace N : News s1.heap L h ((Du, listOf dv.toArray nd) :: (P, listOf pv np) :: (O, listOf zs.toArray n3) :: (K, listOf ys.toArray n2) :: (D, listOf ws.toArray 0) :: (L + 1 + 1 + 1 + 1, ob) :: (L + 1 + 1 + 1, oo) :: (L + 1 + 1, ok) :: (L + 1, ot) :: own) := N
      have hi0 : (0 : Int) + (i : Int) * 1 = (i : Int) := by omega
      rw [hi0] at F
      have hysz : ys.toArray.size ≤ sizeLine := by
        rw [List.size_toArray, hKi.length, hkl]; exact Nat.le_trans hnl (by decide)
      ((repeat' ((fail_if_success (with_reducible first | show wpAny _ _ (exec (Stmt.If _ _ _ _) _) _ _ _ | show wpAny _ _ (subscriptTail _ _ _ (Value.ref _)) _ _ _ | show wpAny _ _ (compareOp _ _ (Value.ref _)) _ _ _ | show wpAny _ _ (call (Value.builtin "list.index") _) _ _ _)); (first | (with_reducible refine modP ?k1 ?_; (case k1 => decide)) | (k_here; (with_reducible show wpAny _ _ (call (Value.builtin "len") [Value.ref _]) _ _ _); with_unfolding_all refine' len_ints ?k1 ?k2 ?k3 ?k4 ?_; (case k1 => assumption); (case k2 => k_mem); (case k3 => assumption); (case k4 => walk_at "mar")) | (k_here; (with_reducible show wpAny _ _ (subscriptTail _ (PySem.Expr.Slice _ _ none _) (Value.ref _) (Value.ref _)) _ _ _); k_dflt (refine' kmk_slice_ints ?F ?N ?l ?p ?q ?i ?m rfl ?_ ?s ?t ?z; (case F => assumption); (case N => assumption); (case l => first | exact News.isList (by assumption) (by k_mem) | exact Fr.lst (by assumption) (by assumption)); (case p => kmk_part); (case q => kmk_part); (case i => assumption); (case m => first | exact kmk_all (by assumption) | exact kmk_upto (by assumption) (by omega) | exact kmk_run (by assumption) (by omega) (by omega) | exact kmk_from (by assumption) (by omega)); (case s => with_unfolding_all rfl); (case t => kmk_pure); (case z => (rw [List.size_toArray, PySem.sizeLine_eq]; omega))); intro _ _ _ _ _ _ _ hC' _; clear hC'; (try k_sweep)) | walk_at "mstep"))); (all_goals (try dsimp only)))
      refine slice_at (lo := none) (hi := some (i : Int)) (st := none) F N (News.isList N (.tail _ (.tail _ (.tail _ (.head _))))) .none (.int _ _) .none (by decide) hysz ?_ (by with_unfolding_all rfl)
      intro B1 h1 F1 N1 _
      have hb1 := kmk_upto (y := (i : Int)) hKi (by omega)
      rw [Int.toNat_natCast] at hb1
      revert N1 hb1
      refine gen_at (slicePick ys.toArray none (some (i : Int)) none) ?_
      intro b1 _ N1 hb1
      clear F N
      have hb1s : b1.size ≤ sizeLine := by
        rw [← Array.length_toList, hb1.length, List.length_take]; exact Nat.le_trans (Nat.min_le_right _ _) (Nat.le_trans (Nat.le_of_eq hkl) (Nat.le_trans hnl (by decide)))
      ((repeat' ((fail_if_success (with_reducible first | show wpAny _ _ (exec (Stmt.If _ _ _ _) _) _ _ _ | show wpAny _ _ (subscriptTail _ _ _ (Value.ref _)) _ _ _ | show wpAny _ _ (compareOp _ _ (Value.ref _)) _ _ _ | show wpAny _ _ (call (Value.builtin "list.index") _) _ _ _)); (first | (with_reducible refine modP ?k1 ?_; (case k1 => decide)) | (k_here; (with_reducible show wpAny _ _ (call (Value.builtin "len") [Value.ref _]) _ _ _); with_unfolding_all refine' len_ints ?k1 ?k2 ?k3 ?k4 ?_; (case k1 => assumption); (case k2 => k_mem); (case k3 => assumption); (case k4 => walk_at "mar")) | (k_here; (with_reducible show wpAny _ _ (subscriptTail _ (PySem.Expr.Slice _ _ none _) (Value.ref _) (Value.ref _)) _ _ _); k_dflt (refine' kmk_slice_ints ?F ?N ?l ?p ?q ?i ?m rfl ?_ ?s ?t ?z; (case F => assumption); (case N => assumption); (case l => first | exact News.isList (by assumption) (by k_mem) | exact Fr.lst (by assumption) (by assumption)); (case p => kmk_part); (case q => kmk_part); (case i => assumption); (case m => first | exact kmk_all (by assumption) | exact kmk_upto (by assumption) (by omega) | exact kmk_run (by assumption) (by omega) (by omega) | exact kmk_from (by assumption) (by omega)); (case s => with_unfolding_all rfl); (case t => kmk_pure); (case z => (rw [List.size_toArray, PySem.sizeLine_eq]; omega))); intro _ _ _ _ _ _ _ hC' _; clear hC'; (try k_sweep)) | walk_at "mstep"))); (all_goals (try dsimp only)))
      refine slice_at (lo := none) (hi := none) (st := some (-1)) F1 N1 (News.isList N1 (.head _)) .none .none (.int _ _) (by decide) hb1s ?_ (by with_unfolding_all rfl)
      intro B2 h2' F2 N2 l2'
      rw [krv_pick] at N2
      have hb2 := hb1.reverse
      revert N2 hb2
      refine gen_at b1.toList.reverse ?_
      intro b2 _ N2 hb2
      replace N2 := News.sub N2 (news' := ((B2, listOf b2.toArray 0) :: (Du, listOf dv.toArray nd) :: (P, listOf pv np) :: (O, listOf zs.toArray n3) :: (K, listOf ys.toArray n2) :: (D, listOf ws.toArray 0) :: (L + 1 + 1 + 1 + 1, ob) :: (L + 1 + 1 + 1, oo) :: (L + 1 + 1, ok) :: (L + 1, ot) :: own)) (fun p hp => by
        rcases List.mem_cons.mp hp with rfl | hp
        · exact .head _
        · exact .tail _ (.tail _ hp))
      have a2 : ∀ p ∈ own, p.1 ≠ B2 := fun p hp e => Nat.ne_of_lt (l2' p (.tail _ (.tail _ (.tail _ (.tail _ (.tail _ (.tail _ (.tail _ (.tail _ (.tail _ (.tail _ hp))))))))))) e
      have b2N1 : @Ne Addr Du B2 := Nat.ne_of_lt (l2' _ (.tail _ (.head _)))
      have b2N2 : @Ne Addr (L + 1 + 1 + 1 + 1) B2 := Nat.ne_of_lt (l2' _ (.tail _ (.tail _ (.tail _ (.tail _ (.tail _ (.tail _ (.head _))))))))
      clear F1 N1 l2' hb1 hb1s
      ((repeat' ((fail_if_success (with_reducible first | show wpAny _ _ (exec (Stmt.If _ _ _ _) _) _ _ _ | show wpAny _ _ (subscriptTail _ _ _ (Value.ref _)) _ _ _ | show wpAny _ _ (compareOp _ _ (Value.ref _)) _ _ _ | show wpAny _ _ (call (Value.builtin "list.index") _) _ _ _)); (first | (with_reducible refine modP ?k1 ?_; (case k1 => decide)) | (k_here; (with_reducible show wpAny _ _ (call (Value.builtin "len") [Value.ref _]) _ _ _); with_unfolding_all refine' len_ints ?k1 ?k2 ?k3 ?k4 ?_; (case k1 => assumption); (case k2 => k_mem); (case k3 => assumption); (case k4 => walk_at "mar")) | (k_here; (with_reducible show wpAny _ _ (subscriptTail _ (PySem.Expr.Slice _ _ none _) (Value.ref _) (Value.ref _)) _ _ _); k_dflt (refine' kmk_slice_ints ?F ?N ?l ?p ?q ?i ?m rfl ?_ ?s ?t ?z; (case F => assumption); (case N => assumption); (case l => first | exact News.isList (by assumption) (by k_mem) | exact Fr.lst (by assumption) (by assumption)); (case p => kmk_part); (case q => kmk_part); (case i => assumption); (case m => first | exact kmk_all (by assumption) | exact kmk_upto (by assumption) (by omega) | exact kmk_run (by assumption) (by omega) (by omega) | exact kmk_from (by assumption) (by omega)); (case s => with_unfolding_all rfl); (case t => kmk_pure); (case z => (rw [List.size_toArray, PySem.sizeLine_eq]; omega))); intro _ _ _ _ _ _ _ hC' _; clear hC'; (try k_sweep)) | walk_at "mstep"))); (all_goals (try dsimp only)))
      rename Fr _ _ _ _ => F
      rename News _ _ _ _ => N
      rename Obj.data _ = Data.cell (some (Value.ref B2)) => hob2
      rename_i ob2
      obtain ⟨u2, F2⟩ := Fr.reHas F [(Str.ofString "places", .ref P), (Str.ofString "value", .str (cS (b64out gs rem)) tv), (Str.ofString "due", .ref Du), (Str.ofString "i", .int (i : Int) ti)] (.cons rfl (.cons rfl (.cons rfl (.cons rfl .nil))))
      clear F
      generalize hks : nums.map (· % 5) = ks at *
      have hb2l : b2.length ≤ 20 := by rw [hb2.length, List.length_reverse, List.length_take]; exact Nat.le_trans (Nat.min_le_right _ _) (Nat.le_trans (Nat.le_of_eq hkl) hnl)
      refine mid (MidLaw s1 L Du (lk [(Str.ofString "places", .ref P), (Str.ofString "value", .str (cS (b64out gs rem)) tv), (Str.ofString "due", .ref Du), (Str.ofString "i", .int (i : Int) ti)] u2)
        (fun B3 b3 nb3 ob' => (B3, listOf (List.toArray b3) nb3) :: (Du, listOf dv.toArray nd) :: (P, listOf pv np) :: (O, listOf zs.toArray n3) :: (K, listOf ys.toArray n2) :: (D, listOf ws.toArray 0) :: (L + 1 + 1 + 1 + 1, ob') :: (L + 1 + 1 + 1, oo) :: (L + 1 + 1, ok) :: (L + 1, ot) :: own) (backF ks i)) ?b1 ?_
      case b1 =>
        intro RM hRM
        walk1
        ((repeat' ((fail_if_success (with_reducible first | show wpAny _ _ (exec (Stmt.If _ _ _ _) _) _ _ _ | show wpAny _ _ (subscriptTail _ _ _ (Value.ref _)) _ _ _ | show wpAny _ _ (compareOp _ _ (Value.ref _)) _ _ _ | show wpAny _ _ (call (Value.builtin "list.index") _) _ _ _)); (first | (with_reducible refine modP ?k1 ?_; (case k1 => decide)) | (k_here; (with_reducible show wpAny _ _ (call (Value.builtin "len") [Value.ref _]) _ _ _); with_unfolding_all refine' len_ints ?k1 ?k2 ?k3 ?k4 ?_; (case k1 => assumption); (case k2 => k_mem); (case k3 => assumption); (case k4 => walk_at "mar")) | (k_here; (with_reducible show wpAny _ _ (subscriptTail _ (PySem.Expr.Slice _ _ none _) (Value.ref _) (Value.ref _)) _ _ _); k_dflt (refine' kmk_slice_ints ?F ?N ?l ?p ?q ?i ?m rfl ?_ ?s ?t ?z; (case F => assumption); (case N => assumption); (case l => first | exact News.isList (by assumption) (by k_mem) | exact Fr.lst (by assumption) (by assumption)); (case p => kmk_part); (case q => kmk_part); (case i => assumption); (case m => first | exact kmk_all (by assumption) | exact kmk_upto (by assumption) (by omega) | exact kmk_run (by assumption) (by omega) (by omega) | exact kmk_from (by assumption) (by omega)); (case s => with_unfolding_all rfl); (case t => kmk_pure); (case z => (rw [List.size_toArray, PySem.sizeLine_eq]; omega))); intro _ _ _ _ _ _ _ hC' _; clear hC'; (try k_sweep)) | walk_at "mstep"))); (all_goals (try dsimp only)))
        rename Fr _ _ _ _ => F
        refine in_list_ints (vs := b2) (News.isList N (.head _)) hb2 ?_
        rw [Int.toNat_natCast]
        rw [any_dec]
        by_cases hin : ks.getD i 0 ∈ (ks.take i).reverse
        · simp only [hin, decide_true]
          ((repeat' ((fail_if_success (with_reducible first | show wpAny _ _ (exec (Stmt.If _ _ _ _) _) _ _ _ | show wpAny _ _ (subscriptTail _ _ _ (Value.ref _)) _ _ _ | show wpAny _ _ (compareOp _ _ (Value.ref _)) _ _ _ | show wpAny _ _ (call (Value.builtin "list.index") _) _ _ _)); (first | (with_reducible refine modP ?k1 ?_; (case k1 => decide)) | (k_here; (with_reducible show wpAny _ _ (call (Value.builtin "len") [Value.ref _]) _ _ _); with_unfolding_all refine' len_ints ?k1 ?k2 ?k3 ?k4 ?_; (case k1 => assumption); (case k2 => k_mem); (case k3 => assumption); (case k4 => walk_at "mar")) | (k_here; (with_reducible show wpAny _ _ (subscriptTail _ (PySem.Expr.Slice _ _ none _) (Value.ref _) (Value.ref _)) _ _ _); k_dflt (refine' kmk_slice_ints ?F ?N ?l ?p ?q ?i ?m rfl ?_ ?s ?t ?z; (case F => assumption); (case N => assumption); (case l => first | exact News.isList (by assumption) (by k_mem) | exact Fr.lst (by assumption) (by assumption)); (case p => kmk_part); (case q => kmk_part); (case i => assumption); (case m => first | exact kmk_all (by assumption) | exact kmk_upto (by assumption) (by omega) | exact kmk_run (by assumption) (by omega) (by omega) | exact kmk_from (by assumption) (by omega)); (case s => with_unfolding_all rfl); (case t => kmk_pure); (case z => (rw [List.size_toArray, PySem.sizeLine_eq]; omega))); intro _ _ _ _ _ _ _ hC' _; clear hC'; (try k_sweep)) | walk_at "mstep"))); (all_goals (try dsimp only)))
          rename Fr _ _ _ _ => F
          rw [Int.toNat_natCast]
          refine index_ints (N (B2, listOf b2.toArray 0) (.head _)).1 hb2 hin (by rw [List.length_reverse, List.length_take]; exact Nat.le_trans (Nat.min_le_right _ _) (Nat.le_trans (Nat.le_of_eq hkl) (Nat.le_trans hnl (by decide)))) ?_
          ((repeat' ((fail_if_success (with_reducible first | show wpAny _ _ (exec (Stmt.If _ _ _ _) _) _ _ _ | show wpAny _ _ (subscriptTail _ _ _ (Value.ref _)) _ _ _ | show wpAny _ _ (compareOp _ _ (Value.ref _)) _ _ _ | show wpAny _ _ (call (Value.builtin "list.index") _) _ _ _)); (first | (with_reducible refine modP ?k1 ?_; (case k1 => decide)) | (k_here; (with_reducible show wpAny _ _ (call (Value.builtin "len") [Value.ref _]) _ _ _); with_unfolding_all refine' len_ints ?k1 ?k2 ?k3 ?k4 ?_; (case k1 => assumption); (case k2 => k_mem); (case k3 => assumption); (case k4 => walk_at "mar")) | (k_here; (with_reducible show wpAny _ _ (subscriptTail _ (PySem.Expr.Slice _ _ none _) (Value.ref _) (Value.ref _)) _ _ _); k_dflt (refine' kmk_slice_ints ?F ?N ?l ?p ?q ?i ?m rfl ?_ ?s ?t ?z; (case F => assumption); (case N => assumption); (case l => first | exact News.isList (by assumption) (by k_mem) | exact Fr.lst (by assumption) (by assumption)); (case p => kmk_part); (case q => kmk_part); (case i => assumption); (case m => first | exact kmk_all (by assumption) | exact kmk_upto (by assumption) (by omega) | exact kmk_run (by assumption) (by omega) (by omega) | exact kmk_from (by assumption) (by omega)); (case s => with_unfolding_all rfl); (case t => kmk_pure); (case z => (rw [List.size_toArray, PySem.sizeLine_eq]; omega))); intro _ _ _ _ _ _ _ hC' _; clear hC'; (try k_sweep)) | walk_at "mstep"))); (all_goals (try dsimp only)))
          have hix := List.idxOf_lt_length_iff.mpr hin
          refine slice_at (lo := none) (hi := some (((ks.take i).reverse.idxOf (ks.getD i 0) : Nat) : Int)) (st := none) F N (News.isList N (.head _)) .none (.int _ _) .none (by decide) (by rw [List.size_toArray]; exact Nat.le_trans hb2l (by decide)) ?_ (by with_unfolding_all rfl)
          intro B3 h3' F3 N3 l3'
          have hb3 := kmk_upto (y := (((ks.take i).reverse.idxOf (ks.getD i 0) : Nat) : Int)) hb2 (by omega)
          rw [Int.toNat_natCast] at hb3
          have hbf : backF ks i = (ks.take i).reverse.take ((ks.take i).reverse.idxOf (ks.getD i 0)) := by unfold backF; rw [if_pos hin]
          rw [← hbf] at hb3
          revert N3 hb3
          refine gen_at (slicePick b2.toArray none (some (((ks.take i).reverse.idxOf (ks.getD i 0) : Nat) : Int)) none) ?_
          intro b3 _ N3 hb3
          obtain ⟨b3⟩ := b3
          replace N3 := News.sub N3 (news' := ((B3, listOf b3.toArray 0) :: (Du, listOf dv.toArray nd) :: (P, listOf pv np) :: (O, listOf zs.toArray n3) :: (K, listOf ys.toArray n2) :: (D, listOf ws.toArray 0) :: (L + 1 + 1 + 1 + 1, ob2) :: (L + 1 + 1 + 1, oo) :: (L + 1 + 1, ok) :: (L + 1, ot) :: own)) (fun p hp => by
            rcases List.mem_cons.mp hp with rfl | hp
            · exact .head _
            · exact .tail _ (.tail _ hp))
          have a3 : ∀ p ∈ own, p.1 ≠ B3 := fun p hp e => Nat.ne_of_lt (l3' p (.tail _ (.tail _ (.tail _ (.tail _ (.tail _ (.tail _ (.tail _ (.tail _ (.tail _ (.tail _ hp))))))))))) e
          have b3N1 : @Ne Addr Du B3 := Nat.ne_of_lt (l3' _ (.tail _ (.head _)))
          have b3N2 : @Ne Addr (L + 1 + 1 + 1 + 1) B3 := Nat.ne_of_lt (l3' _ (.tail _ (.tail _ (.tail _ (.tail _ (.tail _ (.tail _ (.head _))))))))
          clear F N l3'
          ((repeat' ((fail_if_success (with_reducible first | show wpAny _ _ (exec (Stmt.If _ _ _ _) _) _ _ _ | show wpAny _ _ (subscriptTail _ _ _ (Value.ref _)) _ _ _ | show wpAny _ _ (compareOp _ _ (Value.ref _)) _ _ _ | show wpAny _ _ (call (Value.builtin "list.index") _) _ _ _)); (first | (with_reducible refine modP ?k1 ?_; (case k1 => decide)) | (k_here; (with_reducible show wpAny _ _ (call (Value.builtin "len") [Value.ref _]) _ _ _); with_unfolding_all refine' len_ints ?k1 ?k2 ?k3 ?k4 ?_; (case k1 => assumption); (case k2 => k_mem); (case k3 => assumption); (case k4 => walk_at "mar")) | (k_here; (with_reducible show wpAny _ _ (subscriptTail _ (PySem.Expr.Slice _ _ none _) (Value.ref _) (Value.ref _)) _ _ _); k_dflt (refine' kmk_slice_ints ?F ?N ?l ?p ?q ?i ?m rfl ?_ ?s ?t ?z; (case F => assumption); (case N => assumption); (case l => first | exact News.isList (by assumption) (by k_mem) | exact Fr.lst (by assumption) (by assumption)); (case p => kmk_part); (case q => kmk_part); (case i => assumption); (case m => first | exact kmk_all (by assumption) | exact kmk_upto (by assumption) (by omega) | exact kmk_run (by assumption) (by omega) (by omega) | exact kmk_from (by assumption) (by omega)); (case s => with_unfolding_all rfl); (case t => kmk_pure); (case z => (rw [List.size_toArray, PySem.sizeLine_eq]; omega))); intro _ _ _ _ _ _ _ hC' _; clear hC'; (try k_sweep)) | walk_at "mstep"))); (all_goals (try dsimp only)))
          rename Fr _ _ _ _ => F
          rename News _ _ _ _ => N
          rename Obj.data _ = Data.cell (some (Value.ref B3)) => hob3
          (try rename IntsAre b3 _ => hb3)
          exact hRM _ _ ⟨_, _, B3, b3, 0, _, rfl, rfl, F, N, hob3, hb3, b3N1⟩
        · simp only [hin, decide_false]
          ((repeat' ((fail_if_success (with_reducible first | show wpAny _ _ (exec (Stmt.If _ _ _ _) _) _ _ _ | show wpAny _ _ (subscriptTail _ _ _ (Value.ref _)) _ _ _ | show wpAny _ _ (compareOp _ _ (Value.ref _)) _ _ _ | show wpAny _ _ (call (Value.builtin "list.index") _) _ _ _)); (first | (with_reducible refine modP ?k1 ?_; (case k1 => decide)) | (k_here; (with_reducible show wpAny _ _ (call (Value.builtin "len") [Value.ref _]) _ _ _); with_unfolding_all refine' len_ints ?k1 ?k2 ?k3 ?k4 ?_; (case k1 => assumption); (case k2 => k_mem); (case k3 => assumption); (case k4 => walk_at "mar")) | (k_here; (with_reducible show wpAny _ _ (subscriptTail _ (PySem.Expr.Slice _ _ none _) (Value.ref _) (Value.ref _)) _ _ _); k_dflt (refine' kmk_slice_ints ?F ?N ?l ?p ?q ?i ?m rfl ?_ ?s ?t ?z; (case F => assumption); (case N => assumption); (case l => first | exact News.isList (by assumption) (by k_mem) | exact Fr.lst (by assumption) (by assumption)); (case p => kmk_part); (case q => kmk_part); (case i => assumption); (case m => first | exact kmk_all (by assumption) | exact kmk_upto (by assumption) (by omega) | exact kmk_run (by assumption) (by omega) (by omega) | exact kmk_from (by assumption) (by omega)); (case s => with_unfolding_all rfl); (case t => kmk_pure); (case z => (rw [List.size_toArray, PySem.sizeLine_eq]; omega))); intro _ _ _ _ _ _ _ hC' _; clear hC'; (try k_sweep)) | walk_at "mstep"))); (all_goals (try dsimp only)))
          rename Fr _ _ _ _ => F
          have hbf : backF ks i = (ks.take i).reverse := by unfold backF; rw [if_neg hin]
          exact hRM _ _ ⟨_, _, B2, b2, 0, _, rfl, rfl, F, N, hob2, by rw [hbf]; exact hb2, b2N1⟩
      clear F2 N hob2 hb2 a2 b2N1 b2N2
      rintro f s' ⟨h3', tk3', B3, b3, nb3, ob3, rfl, rfl, F, N, hob3, hb3, b3N⟩
      dsimp only
      ((repeat' ((fail_if_success (with_reducible first | show wpAny _ _ (exec (Stmt.If _ _ _ _) _) _ _ _ | show wpAny _ _ (subscriptTail _ _ _ (Value.ref _)) _ _ _ | show wpAny _ _ (compareOp _ _ (Value.ref _)) _ _ _ | show wpAny _ _ (call (Value.builtin "list.index") _) _ _ _)); (first | (with_reducible refine modP ?k1 ?_; (case k1 => decide)) | (k_here; (with_reducible show wpAny _ _ (call (Value.builtin "len") [Value.ref _]) _ _ _); with_unfolding_all refine' len_ints ?k1 ?k2 ?k3 ?k4 ?_; (case k1 => assumption); (case k2 => k_mem); (case k3 => assumption); (case k4 => walk_at "mar")) | (k_here; (with_reducible show wpAny _ _ (subscriptTail _ (PySem.Expr.Slice _ _ none _) (Value.ref _) (Value.ref _)) _ _ _); k_dflt (refine' kmk_slice_ints ?F ?N ?l ?p ?q ?i ?m rfl ?_ ?s ?t ?z; (case F => assumption); (case N => assumption); (case l => first | exact News.isList (by assumption) (by k_mem) | exact Fr.lst (by assumption) (by assumption)); (case p => kmk_part); (case q => kmk_part); (case i => assumption); (case m => first | exact kmk_all (by assumption) | exact kmk_upto (by assumption) (by omega) | exact kmk_run (by assumption) (by omega) (by omega) | exact kmk_from (by assumption) (by omega)); (case s => with_unfolding_all rfl); (case t => kmk_pure); (case z => (rw [List.size_toArray, PySem.sizeLine_eq]; omega))); intro _ _ _ _ _ _ _ hC' _; clear hC'; (try k_sweep)) | walk_at "mstep"))); (all_goals (try dsimp only)))
      refine comp_eval (cl := [(Str.ofString "back", L + 1 + 1 + 1 + 1)]) (inP (backF ks i)) (fun v y => y = v) (by rfl) (by decide) rfl (by decide) rfl ?_
      ((repeat' (first | (with_reducible refine modP ?k1 ?_; (case k1 => decide)) | (k_here; (with_reducible show wpAny _ _ (call (Value.builtin "len") [Value.ref _]) _ _ _); with_unfolding_all refine' len_ints ?k1 ?k2 ?k3 ?k4 ?_; (case k1 => assumption); (case k2 => k_mem); (case k3 => assumption); (case k4 => walk_at "mar")) | (k_here; (with_reducible show wpAny _ _ (subscriptTail _ (PySem.Expr.Slice _ _ none _) (Value.ref _) (Value.ref _)) _ _ _); k_dflt (refine' kmk_slice_ints ?F ?N ?l ?p ?q ?i ?m rfl ?_ ?s ?t ?z; (case F => assumption); (case N => assumption); (case l => first | exact News.isList (by assumption) (by k_mem) | exact Fr.lst (by assumption) (by assumption)); (case p => kmk_part); (case q => kmk_part); (case i => assumption); (case m => first | exact kmk_all (by assumption) | exact kmk_upto (by assumption) (by omega) | exact kmk_run (by assumption) (by omega) (by omega) | exact kmk_from (by assumption) (by omega)); (case s => with_unfolding_all rfl); (case t => kmk_pure); (case z => (rw [List.size_toArray, PySem.sizeLine_eq]; omega))); intro _ _ _ _ _ _ _ hC' _; clear hC'; (try k_sweep)) | walk_at "mstep")); (all_goals (try dsimp only)))
      rename Fr _ _ _ _ => F
      rename News _ _ _ _ => N
      rename IsRange _ _ _ _ _ _ _ _ => hrg
      have hcb : Heap.IsCell _ (L + 1 + 1 + 1 + 1) (some (.ref B3)) := ⟨ob3, (N (L + 1 + 1 + 1 + 1, ob3) (.tail _ (.tail _ (.tail _ (.tail _ (.tail _ (.tail _ (.head _)))))))).1, hob3⟩
      have hlb : Heap.IsList _ B3 b3.toArray := News.isList N (.head _)
      have G2 := G.keeps F.keep
      refine comp_range (n := 5) (Room.deeper (hr.less (by decide : 2 ≤ 12))).hd hrg (by decide) (by decide) (by decide) ⟨?tests, ?elt⟩ ?_
      case tests =>
        rintro C j v s₃ m₃ E' ⟨hj, t, rfl⟩ hn3 hm3 kp3
        have hcb3 := hcb.keeps kp3
        have hlb3 := hlb.at fun o e => kp3 _ _ e
        have KX3 := (G2.keeps kp3).X
        have KT3 := (G2.keeps kp3).T
        have k3' : ∀ b o, s₃.heap.get? b = some o → s₃.heap.get? b = some o := fun _ _ e => e
        clear F N kp3 hcb hlb G2 hrg
        refine wpAny_tests_one ?_
        ((repeat' ((fail_if_success (with_reducible first | show wpAny _ _ (exec (Stmt.If _ _ _ _) _) _ _ _ | show wpAny _ _ (subscriptTail _ _ _ (Value.ref _)) _ _ _ | show wpAny _ _ (compareOp _ _ (Value.ref _)) _ _ _ | show wpAny _ _ (call (Value.builtin "list.index") _) _ _ _)); (first | (with_reducible refine modP ?k1 ?_; (case k1 => decide)) | (k_here; (with_reducible show wpAny _ _ (call (Value.builtin "len") [Value.ref _]) _ _ _); with_unfolding_all refine' len_ints ?k1 ?k2 ?k3 ?k4 ?_; (case k1 => assumption); (case k2 => k_mem); (case k3 => assumption); (case k4 => walk_at "mar")) | (k_here; (with_reducible show wpAny _ _ (subscriptTail _ (PySem.Expr.Slice _ _ none _) (Value.ref _) (Value.ref _)) _ _ _); k_dflt (refine' kmk_slice_ints ?F ?N ?l ?p ?q ?i ?m rfl ?_ ?s ?t ?z; (case F => assumption); (case N => assumption); (case l => first | exact News.isList (by assumption) (by k_mem) | exact Fr.lst (by assumption) (by assumption)); (case p => kmk_part); (case q => kmk_part); (case i => assumption); (case m => first | exact kmk_all (by assumption) | exact kmk_upto (by assumption) (by omega) | exact kmk_run (by assumption) (by omega) (by omega) | exact kmk_from (by assumption) (by omega)); (case s => with_unfolding_all rfl); (case t => kmk_pure); (case z => (rw [List.size_toArray, PySem.sizeLine_eq]; omega))); intro _ _ _ _ _ _ _ hC' _; clear hC'; (try k_sweep)) | walk_at "mstep"))); (all_goals (try dsimp only)))
        (try rename IntsAre b3 _ => hb3)
        refine in_list_ints hlb3 hb3 ?_
        rw [any_dec]
        ((repeat' ((fail_if_success (with_reducible first | show wpAny _ _ (exec (Stmt.If _ _ _ _) _) _ _ _ | show wpAny _ _ (subscriptTail _ _ _ (Value.ref _)) _ _ _ | show wpAny _ _ (compareOp _ _ (Value.ref _)) _ _ _ | show wpAny _ _ (call (Value.builtin "list.index") _) _ _ _)); (first | (with_reducible refine modP ?k1 ?_; (case k1 => decide)) | (k_here; (with_reducible show wpAny _ _ (call (Value.builtin "len") [Value.ref _]) _ _ _); with_unfolding_all refine' len_ints ?k1 ?k2 ?k3 ?k4 ?_; (case k1 => assumption); (case k2 => k_mem); (case k3 => assumption); (case k4 => walk_at "mar")) | (k_here; (with_reducible show wpAny _ _ (subscriptTail _ (PySem.Expr.Slice _ _ none _) (Value.ref _) (Value.ref _)) _ _ _); k_dflt (refine' kmk_slice_ints ?F ?N ?l ?p ?q ?i ?m rfl ?_ ?s ?t ?z; (case F => assumption); (case N => assumption); (case l => first | exact News.isList (by assumption) (by k_mem) | exact Fr.lst (by assumption) (by assumption)); (case p => kmk_part); (case q => kmk_part); (case i => assumption); (case m => first | exact kmk_all (by assumption) | exact kmk_upto (by assumption) (by omega) | exact kmk_run (by assumption) (by omega) (by omega) | exact kmk_from (by assumption) (by omega)); (case s => with_unfolding_all rfl); (case t => kmk_pure); (case z => (rw [List.size_toArray, PySem.sizeLine_eq]; omega))); intro _ _ _ _ _ _ _ hC' _; clear hC'; (try k_sweep)) | walk_at "mstep"))); (all_goals (try dsimp only)))
        exact ⟨rfl, Keeps.refl _⟩
      case elt =>
        rintro C j v s₃ m₃ E' ⟨hj, t, rfl⟩ hp3 hn3 hm3 kp3
        have KX3 := (G2.keeps kp3).X
        have KT3 := (G2.keeps kp3).T
        have k3' : ∀ b o, s₃.heap.get? b = some o → s₃.heap.get? b = some o := fun _ _ e => e
        clear F N kp3 hcb hlb G2 hrg
        ((repeat' (first | (with_reducible refine modP ?k1 ?_; (case k1 => decide)) | (k_here; (with_reducible show wpAny _ _ (call (Value.builtin "len") [Value.ref _]) _ _ _); with_unfolding_all refine' len_ints ?k1 ?k2 ?k3 ?k4 ?_; (case k1 => assumption); (case k2 => k_mem); (case k3 => assumption); (case k4 => walk_at "mar")) | (k_here; (with_reducible show wpAny _ _ (subscriptTail _ (PySem.Expr.Slice _ _ none _) (Value.ref _) (Value.ref _)) _ _ _); k_dflt (refine' kmk_slice_ints ?F ?N ?l ?p ?q ?i ?m rfl ?_ ?s ?t ?z; (case F => assumption); (case N => assumption); (case l => first | exact News.isList (by assumption) (by k_mem) | exact Fr.lst (by assumption) (by assumption)); (case p => kmk_part); (case q => kmk_part); (case i => assumption); (case m => first | exact kmk_all (by assumption) | exact kmk_upto (by assumption) (by omega) | exact kmk_run (by assumption) (by omega) (by omega) | exact kmk_from (by assumption) (by omega)); (case s => with_unfolding_all rfl); (case t => kmk_pure); (case z => (rw [List.size_toArray, PySem.sizeLine_eq]; omega))); intro _ _ _ _ _ _ _ hC' _; clear hC'; (try k_sweep)) | walk_at "mstep")); (all_goals (try dsimp only)))
        exact ⟨rfl, Keeps.refl _⟩
      intro Z h5 tk5 zz nz vz hZ hZ' hvl hvv hF hk
      obtain ⟨F', N', hZn⟩ := addNew F N hk hZ hZ'
      clear F N G2 hcb hlb hrg
      have hzz := ints_pres _ hvl hvv hF
      have hzl : (presF (backF ks i)).length ≤ 5 := List.length_filter_le _ _
      have zN : @Ne Addr Du Z := hZn _ (.tail _ (.head _))
      have aZ : ∀ p ∈ own, p.1 ≠ Z := fun p hp => hZn _ (.tail _ (.tail _ (.tail _ (.tail _ (.tail _ (.tail _ (.tail _ (.tail _ (.tail _ (.tail _ hp))))))))))
      clear hZn hF hk hZ hZ' hvv hvl
      ((repeat' ((fail_if_success (with_reducible first | show wpAny _ _ (exec (Stmt.If _ _ _ _) _) _ _ _ | show wpAny _ _ (subscriptTail _ _ _ (Value.ref _)) _ _ _ | show wpAny _ _ (compareOp _ _ (Value.ref _)) _ _ _ | show wpAny _ _ (call (Value.builtin "list.index") _) _ _ _)); (first | (with_reducible refine modP ?k1 ?_; (case k1 => decide)) | (k_here; (with_reducible show wpAny _ _ (call (Value.builtin "len") [Value.ref _]) _ _ _); with_unfolding_all refine' len_ints ?k1 ?k2 ?k3 ?k4 ?_; (case k1 => assumption); (case k2 => k_mem); (case k3 => assumption); (case k4 => walk_at "mar")) | (k_here; (with_reducible show wpAny _ _ (subscriptTail _ (PySem.Expr.Slice _ _ none _) (Value.ref _) (Value.ref _)) _ _ _); k_dflt (refine' kmk_slice_ints ?F ?N ?l ?p ?q ?i ?m rfl ?_ ?s ?t ?z; (case F => assumption); (case N => assumption); (case l => first | exact News.isList (by assumption) (by k_mem) | exact Fr.lst (by assumption) (by assumption)); (case p => kmk_part); (case q => kmk_part); (case i => assumption); (case m => first | exact kmk_all (by assumption) | exact kmk_upto (by assumption) (by omega) | exact kmk_run (by assumption) (by omega) (by omega) | exact kmk_from (by assumption) (by omega)); (case s => with_unfolding_all rfl); (case t => kmk_pure); (case z => (rw [List.size_toArray, PySem.sizeLine_eq]; omega))); intro _ _ _ _ _ _ _ hC' _; clear hC'; (try k_sweep)) | walk_at "mstep"))); (all_goals (try dsimp only)))
      rename Fr _ _ _ _ => F
      rename News _ _ _ _ => N
      replace N := News.sub N (news' := ((Du, listOf dv.toArray nd) :: (P, listOf pv np) :: (O, listOf zs.toArray n3) :: (K, listOf ys.toArray n2) :: (D, listOf ws.toArray 0) :: (L + 1 + 1 + 1 + 1, ob3) :: (L + 1 + 1 + 1, oo) :: (L + 1 + 1, ok) :: (L + 1, ot) :: own)) (fun p hp => .tail _ (.tail _ hp))
      obtain ⟨d1, d2, d3, d4, d5, d6, d7, d8⟩ := l5
      refine app_ints (vs := dv) (n := nd) F N (Upd.head (fun p hp => ?updDu)) hdv (by rw [List.length_map, List.length_range]; exact Nat.lt_of_lt_of_le hi (Nat.le_trans hnl (by decide))) ?_
      case updDu =>
        simp only [List.mem_cons] at hp
        rcases hp with rfl | rfl | rfl | rfl | rfl | rfl | rfl | rfl | hp
        · exact Nat.ne_of_lt d1
        · exact Nat.ne_of_lt d2
        · exact Nat.ne_of_lt d3
        · exact Nat.ne_of_lt d4
        · exact Nat.ne_of_lt d5
        · exact Nat.ne_of_lt d6
        · exact Nat.ne_of_lt d7
        · exact Nat.ne_of_lt d8
        · exact aD p hp
      intro h6 F6 N6 hdv6
      obtain ⟨dv6, hdv6, N6⟩ : ∃ dv6, IntsAre dv6 _ ∧ News s1.heap L _ ((Du, listOf dv6.toArray (nd + 1)) :: _) := ⟨_, hdv6, N6⟩
      clear F N
      ((repeat' ((fail_if_success (with_reducible first | show wpAny _ _ (exec (Stmt.If _ _ _ _) _) _ _ _ | show wpAny _ _ (subscriptTail _ _ _ (Value.ref _)) _ _ _ | show wpAny _ _ (compareOp _ _ (Value.ref _)) _ _ _ | show wpAny _ _ (call (Value.builtin "list.index") _) _ _ _)); (first | (with_reducible refine modP ?k1 ?_; (case k1 => decide)) | (k_here; (with_reducible show wpAny _ _ (call (Value.builtin "len") [Value.ref _]) _ _ _); with_unfolding_all refine' len_ints ?k1 ?k2 ?k3 ?k4 ?_; (case k1 => assumption); (case k2 => k_mem); (case k3 => assumption); (case k4 => walk_at "mar")) | (k_here; (with_reducible show wpAny _ _ (subscriptTail _ (PySem.Expr.Slice _ _ none _) (Value.ref _) (Value.ref _)) _ _ _); k_dflt (refine' kmk_slice_ints ?F ?N ?l ?p ?q ?i ?m rfl ?_ ?s ?t ?z; (case F => assumption); (case N => assumption); (case l => first | exact News.isList (by assumption) (by k_mem) | exact Fr.lst (by assumption) (by assumption)); (case p => kmk_part); (case q => kmk_part); (case i => assumption); (case m => first | exact kmk_all (by assumption) | exact kmk_upto (by assumption) (by omega) | exact kmk_run (by assumption) (by omega) (by omega) | exact kmk_from (by assumption) (by omega)); (case s => with_unfolding_all rfl); (case t => kmk_pure); (case z => (rw [List.size_toArray, PySem.sizeLine_eq]; omega))); intro _ _ _ _ _ _ _ hC' _; clear hC'; (try k_sweep)) | walk_at "mstep"))); (all_goals (try dsimp only)))
      refine hTE _ _ ?_
      refine ⟨_, _, _, ((Du, listOf dv6.toArray (nd + 1)) :: (P, listOf pv np) :: (O, listOf zs.toArray n3) :: (K, listOf ys.toArray n2) :: (D, listOf ws.toArray 0) :: (L + 1 + 1 + 1 + 1, ob3) :: (L + 1 + 1 + 1, oo) :: (L + 1 + 1, ok) :: (L + 1, ot) :: []), rfl, F6, N6, off_of hoff rfl, _, _, _, _, rfl, .cons rfl (.cons rfl (.cons rfl .nil)), hob3, ?_⟩
      rw [hks, List.range_succ, List.map_append]
      exact hdv6
end Mine
set_option maxRecDepth 100000 in
set_option maxHeartbeats 8000000 in
theorem PySem.Challenge.cw_om0074_01_holds : PySem.Challenge.rw_om0074_01.Holds := by
  exact Mine.law_holds
