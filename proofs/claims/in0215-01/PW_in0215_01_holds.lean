import PyProof.Rows.All
import Wide.All
import OpenK.AllK
import Wide.FinOn
import Lean
import PySem.Challenge.RW_in0215_01
set_option Elab.async false
set_option maxRecDepth 100000
set_option maxHeartbeats 8000000
set_option rowWalk.seconds 0
section
open PySem PySem.W PyProof.Rows
namespace Mine
noncomputable def cellAt (i : Nat) : Stmt := PySem.Challenge.pw_in0215_01.main.body.getD i default
noncomputable def viewQ : Program := { PySem.Challenge.pw_in0215_01 with main := { PySem.Challenge.pw_in0215_01.main with body := [cellAt 0, cellAt 2, cellAt 3, cellAt 5, cellAt 6, cellAt 8, cellAt 10, cellAt 12, cellAt 13, cellAt 14, cellAt 15, cellAt 16, cellAt 17, cellAt 18, cellAt 19, cellAt 20] } }
noncomputable def looseQ : List Str := [Str.ofString "_twin_re_1", Str.ofString "_special_chars_map"]

theorem left_tw {p q : Program} {loose : List Str} {Xt : Shared → Bool} {α : Type} {Yf : Shared → α} {Ya : World → α} {N : Nat} {g0 : Bool}
    (h : ∀ w, (((PySem.W.Fast.tw10274390034422433532 PySem.W.Fast.tw14364793385576792824 (opening p) w N (start (opening p)).1 (start (opening p)).2).bind (PySem.W.Fast.tw14289696077712309145 p)).bind fun s₀ =>
      match s₀.heap.isNs mainGlobals && s₀.gens.size == 0 with
      | true => (PySem.W.Fast.tw14082659384304107361 PySem.W.Fast.tw14364793385576792824 p w s₀.heap.objs.size (s₀.heap.nsMap mainGlobals "__annotations__") N s₀ (topStub p)).bind fun s₁ =>
          match staticsOk (importedModules p.main.body) s₀.heap s₁.heap && namesBound p s₁.heap && gensDone s₁ && laidKept s₀.heap s₁.heap with
          | true => some s₁
          | false => none
      | false => none).map (fun s => (PySem.W.Fast.tw4187177175401517315 q loose (importedModules p.main.body) Xt g0 s, Yf s)) = some (openGood q loose, Ya w)) : LeftO p q loose Xt Yf Ya N g0 := by
  intro w
  have e := h w
  rw [← PySem.W.Fast.te10274390034422433532, ← PySem.W.Fast.te14364793385576792824, ← PySem.W.Fast.te14289696077712309145, ← PySem.W.Fast.te14082659384304107361, ← PySem.W.Fast.te4187177175401517315] at e
  exact e
theorem holds2 {r : OpenRow} {q : Program} {loose : List Str} {Xt : Shared → Bool} {XP : (Str → Option Value) → Heap → Prop} {α : Type} {Yf : Shared → α} {Ya : World → α} {YP : World → Heap → Prop} {d : DefRec} {kwd : List (Str × Expr)} {N : Nat}
    (hY : ∀ w s, Yf s = Ya w → YP w s.heap) (hYk : ∀ w h h', YP w h → (∀ b o, h.get? b = some o → h'.get? b = some o) → YP w h')
    (hX : ∀ s, Xt s = true → XP (s.heap.nsMap mainGlobals) s.heap) (hXk : ∀ mg h h', XP mg h → (∀ b o, h.get? b = some o → h'.get? b = some o) → XP mg h')
    (hdef : defOf q r.name = some (d, kwd)) (hp : r.prog.theDef r.name = some (d.params, d.body, d.scope)) (hk : kwWritten? d.params.kwonlyargs d.params.kw_defaults = some kwd) (hRf : ∀ s, Xt s = true → RecFacts r.records s.heap) (hwr : (!r.writes || r.records.isEmpty) = true)
    (k1 : r.wellSaid = true) (ok : (chainsOk q && opensWell r.prog && (frees r.toRowW && r.within.isEmpty)) = true) (hb : r.prog.bare) (hw : r.toRowW.promised)
    (lc : LeftO r.prog q loose Xt Yf Ya N ∧ WalkO q loose XP YP r.toRowW d kwd fun f vs => PySem.call f vs) : r.Holds :=
  PySem.W.holds_open lc.1 hY hYk hX hXk hdef hp hk hRf hwr k1 ok hb hw lc.2
theorem holds3 (said : (OpenLaw.row PySem.Challenge.rw_in0215_01).wellSaid = true) (H : Hook) {d : DefRec} {kwd : List (Str × Expr)}
    (hdef : defOf viewQ (OpenLaw.row PySem.Challenge.rw_in0215_01).name = some (d, kwd)) (hp : (OpenLaw.row PySem.Challenge.rw_in0215_01).prog.theDef (OpenLaw.row PySem.Challenge.rw_in0215_01).name = some (d.params, d.body, d.scope)) (hk : kwWritten? d.params.kwonlyargs d.params.kw_defaults = some kwd)
    (hw : (OpenLaw.row PySem.Challenge.rw_in0215_01).toRowW.promised)
    (lc : LeftO (OpenLaw.row PySem.Challenge.rw_in0215_01).prog viewQ looseQ (fun s => xlAt viewQ [] s && recOk (RowW.records (OpenRow.toRowW (OpenLaw.row PySem.Challenge.rw_in0215_01))) s) (Hook.obs H) (Hook.val H) 4240 ∧ WalkO viewQ looseQ (XL viewQ []) (Hook.says H) (OpenLaw.row PySem.Challenge.rw_in0215_01).toRowW d kwd fun f vs => PySem.call f vs) : (OpenLaw.row PySem.Challenge.rw_in0215_01).Holds :=
  holds2 (Hook.of H) (Hook.keeps H) (fun s e => xl_of s (Bool.and_eq_true_iff.mp e).1) XL.keeps hdef hp hk (fun s e => recFacts_of (Bool.and_eq_true_iff.mp e).2) (by rfl) said (by decide +kernel) ⟨rfl, rfl, rfl, rfl, rfl, by decide +kernel⟩ hw lc
local macro_rules | `(tactic| o_head $H) => `(tactic| refine holds3 (by assumption) $H (by rfl) (by rfl) (by rfl) ?hw ?hc)
local macro_rules | `(tactic| o_law) => `(tactic| (refine holds_law (by kernel_rfl) fun said => ?_))
open_top hd for PySem.Challenge.rw_in0215_01

noncomputable def TwAt (p q : Program) (loose : List Str) (Xt : Shared → Bool) {α : Type} (Yf : Shared → α) (Ya : World → α) (N : Nat) (w : World) : Prop :=
  (((PySem.W.Fast.tw10274390034422433532 PySem.W.Fast.tw14364793385576792824 (opening p) w N (start (opening p)).1 (start (opening p)).2).bind (PySem.W.Fast.tw14289696077712309145 p)).bind fun s₀ =>
      match s₀.heap.isNs mainGlobals && s₀.gens.size == 0 with
      | true => (PySem.W.Fast.tw14082659384304107361 PySem.W.Fast.tw14364793385576792824 p w s₀.heap.objs.size (s₀.heap.nsMap mainGlobals "__annotations__") N s₀ (topStub p)).bind fun s₁ =>
          match staticsOk (importedModules p.main.body) s₀.heap s₁.heap && namesBound p s₁.heap && gensDone s₁ && laidKept s₀.heap s₁.heap with
          | true => some s₁
          | false => none
      | false => none).map (fun s => (PySem.W.Fast.tw4187177175401517315 q loose (importedModules p.main.body) Xt true s, Yf s)) = some (openGood q loose, Ya w)
noncomputable def asked (b c : Bool) (w : World) : World := (w.withFollow "special-get-raises" c).withFollow "comprehension-iter-twice" b
noncomputable def LeafOf {p q : Program} {loose : List Str} {Xt : Shared → Bool} {α : Type} {Yf : Shared → α} {Ya : World → α} {N : Nat} {B C : Prop} (_ : LeftO p q loose Xt Yf Ya N ∧ B → C) (b c : Bool) : Prop :=
  ∀ w, TwAt p q loose Xt Yf Ya N (asked b c w)
theorem of_leaves {p q : Program} {loose : List Str} {Xt : Shared → Bool} {α : Type} {Yf : Shared → α} {Ya : World → α} {N : Nat} {B C : Prop} (f : LeftO p q loose Xt Yf Ya N ∧ B → C)
    (h1 : LeafOf f false false) (h2 : LeafOf f false true) (h3 : LeafOf f true false) (h4 : LeafOf f true true) (b : B) : C := by
  refine f ⟨?_, b⟩
  have H : ∀ w, TwAt p q loose Xt Yf Ya N w := by
    refine byRow2 "comprehension-iter-twice" ?_ ?_
    · refine byRow2 "special-get-raises" ?_ ?_
      · exact h1
      · exact h2
    · refine byRow2 "special-get-raises" ?_ ?_
      · exact h3
      · exact h4
  exact left_tw H
theorem leaf1 : LeafOf hd false false := by intro w; unfold TwAt; kernel_rfl
theorem leaf2 : LeafOf hd false true := by intro w; unfold TwAt; kernel_rfl
theorem leaf3 : LeafOf hd true false := by intro w; unfold TwAt; kernel_rfl
theorem leaf4 : LeafOf hd true true := by intro w; unfold TwAt; kernel_rfl
noncomputable def hdw := of_leaves hd leaf1 leaf2 leaf3 leaf4
end Mine

end
local macro_rules | `(tactic| walk_at $s:str) => `(tactic| k_extra $s)
local macro_rules | `(tactic| k_steps) => `(tactic| k_extra "mine k_steps")
local macro_rules | `(tactic| ktr_enter) => `(tactic| k_extra "mine enter")
local macro_rules | `(tactic| ktr_room) => `(tactic| k_extra "mine room")
local macro_rules | `(tactic| k_ne) => `(tactic| k_extra "mine ne")
local macro_rules | `(tactic| units_room) => `(tactic| k_extra "mine units")
local macro_rules | `(tactic| k_all) => `(tactic| k_extra "mine k_all")
section F_B0
open PySem PySem.Spec PySem.W PySem.Calls PyProof.Rows
namespace Mine
abbrev PP : Program := PySem.Challenge.rw_in0215_01.row.prog
theorem fill (w : World) (h : Heap) (X : (hd.heap_1 w.params).In h) : PySem.Challenge.rw_in0215_01.row.prog = PP ∧ (hd.heap_1 w.params).In h := by
  k_fill
  exact ⟨rfl, X⟩

theorem all_nil {α : Type} {P : α → Prop} : ∀ p ∈ ([] : List α), P p := fun _ h => nomatch h
theorem all_cons {α : Type} {P : α → Prop} {a : α} {l : List α} (h : P a) (r : ∀ p ∈ l, P p) : ∀ p ∈ a :: l, P p := fun p hp => by
  cases hp with
  | head => exact h
  | tail _ hp => exact r p hp
theorem nin3 {a b c d : Nat} (h1 : a ≠ b) (h2 : a ≠ c) (h3 : a ≠ d) : a ∉ [b, c, d] := fun h => by
  cases h with
  | head => exact h1 rfl
  | tail _ h => cases h with
    | head => exact h2 rfl
    | tail _ h => cases h with
      | head => exact h3 rfl
      | tail _ h => cases h
theorem nin4 {a b c d e : Nat} (h1 : a ≠ b) (h2 : a ≠ c) (h3 : a ≠ d) (h4 : a ≠ e) : a ∉ [b, c, d, e] := fun h => by
  cases h with
  | head => exact h1 rfl
  | tail _ h => exact nin3 h2 h3 h4 h
theorem all_app {α : Type} {P : α → Prop} {a l : List α} (h : ∀ p ∈ a, P p) (r : ∀ p ∈ l, P p) : ∀ p ∈ a ++ l, P p := fun p hp => (List.mem_append.mp hp).elim (h p) (r p)
theorem mem_h {α : Type} {a : α} {l : List α} : a ∈ a :: l := .head _
theorem mem_t {α : Type} {a b : α} {l : List α} (h : a ∈ l) : a ∈ b :: l := .tail _ h
theorem newsSub {h₀ h : Heap} {L : Addr} {a b : List (Addr × Obj)} (N : News h₀ L h a) (s : ∀ p ∈ b, p ∈ a) : News h₀ L h b := fun p hp => N p (s p hp)
theorem rm0 {d b R : Nat} (h : d + b < R) : d < R := Nat.lt_of_le_of_lt (Nat.le_add_right d b) h
theorem rm1 {d a b R : Nat} (h : d + b < R) (e : Nat.ble a b = true) : d + a < R := Nat.lt_of_le_of_lt (Nat.add_le_add_left (Nat.le_of_ble_eq_true e) d) h
theorem rm2 {d a c b R : Nat} (h : d + b < R) (e : Nat.ble (a + c) b = true) : d + a + c < R := by rw [Nat.add_assoc]; exact rm1 h e
theorem rm3 {d a c x b R : Nat} (h : d + b < R) (e : Nat.ble (a + c + x) b = true) : d + a + c + x < R := by rw [Nat.add_assoc, Nat.add_assoc]; exact rm1 h (by rw [← Nat.add_assoc]; exact e)
theorem rm4 {d a c x y b R : Nat} (h : d + b < R) (e : Nat.ble (a + c + x + y) b = true) : d + a + c + x + y < R := by rw [Nat.add_assoc, Nat.add_assoc, Nat.add_assoc]; exact rm1 h (by rw [← Nat.add_assoc, ← Nat.add_assoc]; exact e)
theorem leL {x b c : Nat} (h : x ≤ b) (e : Nat.ble b c = true) : x ≤ c := Nat.le_trans h (Nat.le_of_ble_eq_true e)

/-- the around of a call: nothing handled -/
abbrev Ar (dp un : Nat) (fr : Option (List Env)) (gd : Option (List Code)) : Around := { handled := none, depth := dp, frames := fr, guards := gd, units := un }

/-- g is a heap below h that lacks the objects of mu, which stand in h -/
structure Gh (g h : Heap) (mu : List (Addr × Obj)) : Prop where
  up : ∀ b o, g.get? b = some o → h.get? b = some o
  at_ : ∀ p ∈ mu, h.get? p.1 = some p.2 ∧ g.get? p.1 = none
  size : g.objs.size ≤ h.objs.size

theorem Gh.refl (h : Heap) : Gh h h [] := ⟨fun _ _ e => e, (fun _ hp => nomatch hp), Nat.le_refl _⟩

abbrev Kept (h h' : Heap) : Prop := ∀ b o, h.get? b = some o → h'.get? b = some o

theorem Gh.hide {h : Heap} {mu : List (Addr × Obj)} (hm : ∀ p ∈ mu, h.get? p.1 = some p.2) : Gh (hideAll h (mu.map (·.1))) h mu :=
  ⟨fun b o e => of_hideAll _ e, fun p hp => ⟨hm p hp, hideAll_none _ (List.mem_map_of_mem hp)⟩, Nat.le_of_eq (hideAll_size _ _)⟩

/-- out of a frame's facts: a ghost for a callee, and the way back -/
theorem Gh.sub {h₀ h : Heap} {L : Addr} {m : PySem.Str → Option Value} {news mu : List (Addr × Obj)} (F : Fr h₀ L h m) (N : News h₀ L h news) (hs : ∀ p ∈ mu, p ∈ news) :
    ∃ g, Gh g h mu ∧ Kept h₀ g ∧ (∀ p ∈ news, p.1 ∉ mu.map (·.1) → g.get? p.1 = some p.2) ∧
      ∀ h' mu', Gh g h' mu' → Fr h₀ L h' m ∧ News h₀ L h' mu' ∧ ∀ rest, (∀ p ∈ rest, p ∈ news ∧ p.1 ∉ mu.map (·.1)) → News h₀ L h' (mu' ++ rest) := by
  have nm : ∀ b o, h₀.get? b = some o → b ∉ mu.map (·.1) := fun b o e q => by
    obtain ⟨p, hp, rfl⟩ := List.mem_map.mp q
    rw [(N p (hs p hp)).2.2] at e; cases e
  have st : Kept h₀ (hideAll h (mu.map (·.1))) := fun b o e => hideAll_get _ (F.keep b o e) (nm b o e)
  obtain ⟨oL, es, ep, hL, hLd, hLk, hLf⟩ := F.ns
  have nL : L ∉ mu.map (·.1) := fun q => by
    obtain ⟨p, hp, e⟩ := List.mem_map.mp q
    exact (N p (hs p hp)).2.1 e
  have hLg := hideAll_get (mu.map (·.1)) hL nL
  have sub : ∀ p ∈ news, p.1 ∉ mu.map (·.1) → (hideAll h (mu.map (·.1))).get? p.1 = some p.2 := fun p hp hn => hideAll_get _ (N p hp).1 hn
  refine ⟨_, Gh.hide (fun p hp => (N p (hs p hp)).1), st, sub, fun h' mu' G' => ?_⟩
  have F' : Fr h₀ L h' m := ⟨⟨oL, es, ep, G'.up L oL hLg, hLd, hLk, hLf⟩, fun b o q => G'.up b o (st b o q), F.above⟩
  have N' : News h₀ L h' mu' := fun p hp => by
    refine ⟨(G'.at_ p hp).1, fun q => ?_, ?_⟩
    · have := (G'.at_ p hp).2; rw [q, hLg] at this; cases this
    · cases q : h₀.get? p.1 with
      | none => rfl
      | some o => have := (G'.at_ p hp).2; rw [st _ _ q] at this; cases this
  refine ⟨F', N', fun rest hr p hp => ?_⟩
  rcases List.mem_append.mp hp with hp | hp
  · exact N' p hp
  · exact ⟨G'.up _ _ (sub p (hr p hp).1 (hr p hp).2), (N p (hr p hp).1).2⟩

section
variable {prog : Program} {w : World} {A : Around} {s : Shared} {g : Heap} {mu : List (Addr × Obj)} {K : Frag} {p : Program} {loose : List PySem.Str} {mean : ExcName → Option Value} {mg mb : PySem.Str → Option Value}
  {R : Result → Shared → Prop} {name qual : PySem.Str} {params : Arguments} {body : List Stmt} {scope : Scope} {dV kV doc pm cdv ct oc : Value} {an od : Option Addr} {osl : Array (Option Value)} {f : Addr} {args : Args} {binds : List (PySem.Str × Value)}

theorem enterG (G : Gh g s.heap mu) (X : K.In g) (T : Top p loose mean mg mb g)
    (ho : K.lookup f = some ⟨oc, od, .func (fnOf name qual params body scope dV kV doc pm an cdv ct), osl⟩) (hcd : codeIn K cdv qual = true) (hroom : A.depth < recursionLimit)
    (hbind : BindsTo s (fnOf name qual params body scope dV kV doc pm an cdv ct) args binds) (hloc : ∀ y ∈ binds, scope.names.lookup y.1 = some .local)
    (h : ∀ L' h₁, Fr g L' h₁ (fun y => binds.reverse.lookup y) → News g L' h₁ mu → (∀ p ∈ mu, p.1 < L') →
      wpAny (model prog w) (A.deeper (envOf qual scope L' f cdv)) (execs body (envOf qual scope L' f cdv))
        (fun fl s' => R (.ok (.ret (match fl with | .ret v => v | _ => .none))) s')
        (fun e s' => wpAny (model prog w) (A.deeper (envOf qual scope L' f cdv)) (leaving (envOf qual scope L' f cdv) e) (fun _ s'' => R (.error e) s'') (fun e' s'' => R (.error e') s'') s')
        { s with heap := h₁, toks := s.toks + binds.length })
    (hco : scope.isCoroutine = false) (hgen : scope.isGenerator = false) (hk : scope.kind = .function)
    (hcell : ∀ x ∈ scope.names, x.2 ≠ .cell) : codeAny (model prog w) A (.call (.ref f) args) R s := by
  have up := G.up
  refine codeAny_call_def (fd := fnX name qual params body scope [] dV kV doc pm an cdv ct) (body := body) (binds := binds) hroom ((X.keeps up) _ _ ho) rfl (T.nolimit.keeps up) (codeRec_of (X.keeps up) hcd) rfl hbind hcell hloc (fun h₁ hns hk₁ => ?_) hco hgen hk
  exact h s.heap.objs.size h₁ ⟨hns, fun b o e => hk₁ b o (up _ _ e), G.size⟩ (fun q hq => ⟨hk₁ _ _ (G.at_ q hq).1, Nat.ne_of_lt (Heap.lt_size (G.at_ q hq).1), (G.at_ q hq).2⟩) (fun q hq => Heap.lt_size (G.at_ q hq).1)

theorem enterC (G : Gh g s.heap mu) (X : K.In g) (T : Top p loose mean mg mb g)
    (ho : K.lookup f = some ⟨oc, od, .func (fnOf name qual params body scope dV kV doc pm an cdv ct), osl⟩) (hcd : codeIn K cdv qual = true) (hroom : A.depth < recursionLimit)
    (hbind : BindsTo s (fnOf name qual params body scope dV kV doc pm an cdv ct) args binds) (hkind : (binds.all fun y => scope.names.lookup y.1 == some .local || scope.names.lookup y.1 == some .cell) = true)
    (hnd : ((cellsFrom 0 scope.names []).map (·.1)).Nodup)
    (h : ∀ L' h₁ tk cells, Fr g L' h₁ (bindL (envOfC qual scope L' f cdv).kindOf binds fun _ => none) → News g L' h₁ (cells ++ mu) →
      CellsAre (bindC (envOfC qual scope L' f cdv).kindOf binds fun _ => none) (cellsFrom (L' + 1) scope.names []) cells → (∀ p ∈ mu, p.1 < L') →
      wpAny (model prog w) (A.deeper (envOfC qual scope L' f cdv)) (execs body (envOfC qual scope L' f cdv))
        (fun fl s' => R (.ok (.ret (match fl with | .ret v => v | _ => .none))) s')
        (fun e s' => wpAny (model prog w) (A.deeper (envOfC qual scope L' f cdv)) (leaving (envOfC qual scope L' f cdv) e) (fun _ s'' => R (.error e) s'') (fun e' s'' => R (.error e') s'') s')
        { s with heap := h₁, toks := tk })
    (hco : scope.isCoroutine = false) (hgen : scope.isGenerator = false) (hk : scope.kind = .function) : codeAny (model prog w) A (.call (.ref f) args) R s := by
  have up := G.up
  refine codeAny_call_function hroom ((X.keeps up) _ _ ho) rfl hco hgen rfl (codeRec_of (X.keeps up) hcd) (hbind _ _ _ _ ?_)
  refine wpAny_newFunctionEnv_cells hk (kindsX hkind _) fun env' he s' x => ?_
  subst he
  refine ⟨(T.nolimit.keeps up).keeps x.toInCall.keep, codeAny_func ?_⟩
  obtain ⟨h₁, tk, rfl, _⟩ := x.done
  have hk₁ := x.toInCall.keep
  obtain ⟨cells, NC, Y⟩ := Cl.news (h₀ := s.heap) (Nat.le_refl _) fun n c hm => ⟨x.cell n c (lookup_of_mem_nodup (cellsFrom_names scope.names 0 (s.heap.objs.size + 1) [] [] rfl ▸ hnd) hm), x.above n c hm⟩
  refine h s.heap.objs.size h₁ tk cells ⟨x.toInCall.ns, fun b o e => hk₁ b o (up _ _ e), G.size⟩ (fun q hq => ?_) Y (fun q hq => Heap.lt_size (G.at_ q hq).1)
  rcases List.mem_append.mp hq with hq | hq
  · refine ⟨(NC q hq).1, (NC q hq).2.1, ?_⟩
    cases e : g.get? q.1 with
    | none => rfl
    | some o => have := up _ _ e; rw [(NC q hq).2.2] at this; cases this
  · exact ⟨hk₁ _ _ (G.at_ q hq).1, Nat.ne_of_lt (Heap.lt_size (G.at_ q hq).1), (G.at_ q hq).2⟩
end
end Mine

end F_B0
section F_B1
open PySem PySem.Spec PySem.W PySem.Calls PyProof.Rows
namespace Mine
theorem rows_hdr_B1 : True := by
  k_with_none
  w_top off
  k_with "mine units" => (first | (refine' rm1 ?zuaa ?zuab; (case zuaa => with_reducible assumption); (case zuab => rfl)) | (refine' rm2 ?zuba ?zubb; (case zuba => with_reducible assumption); (case zubb => rfl)) | (refine' rm3 ?zuca ?zucb; (case zuca => with_reducible assumption); (case zucb => rfl)) | (dsimp only [Ar, Around.deeper, Around.in1]; first | (refine' rm1 ?zuda ?zudb; (case zuda => with_reducible assumption); (case zudb => rfl)) | (refine' rm2 ?zuea ?zueb; (case zuea => with_reducible assumption); (case zueb => rfl)) | (refine' rm3 ?zufa ?zufb; (case zufa => with_reducible assumption); (case zufb => rfl)) | (refine' rm4 ?zuga ?zugb; (case zuga => with_reducible assumption); (case zugb => rfl))))
  k_with "mine mem" => (first | with_reducible exact mem_h | with_reducible assumption | (with_reducible refine List.mem_append_left _ ?_; k_extra "mine mem") | (with_reducible refine List.mem_append_right _ ?_; k_extra "mine mem") | (with_reducible refine mem_t ?_; k_extra "mine mem"))
  k_with "mine sub" => (first | exact all_nil | (refine all_cons ?_ ?_; k_extra "mine mem"; k_extra "mine sub") | (refine all_app ?_ ?_; k_extra "mine sub"; k_extra "mine sub") | (intro pq hpq; k_extra "mine mem"))
  k_with "mine room" => (first | with_reducible assumption | (refine' rm1 ?zraa ?zrab; (case zraa => with_reducible assumption); (case zrab => rfl)) | (refine' rm2 ?zrba ?zrbb; (case zrba => with_reducible assumption); (case zrbb => rfl)) | (refine' rm3 ?zrca ?zrcb; (case zrca => with_reducible assumption); (case zrcb => rfl)) | (refine' rm0 ?zrd; (case zrd => with_reducible assumption)) | (refine' leL ?zrea ?zreb; (case zrea => with_reducible assumption); (case zreb => rfl)) | (refine Ne.symm ?zrf; (case zrf => with_reducible assumption)) | (refine Nat.ne_of_lt ?zrg; (case zrg => with_reducible assumption)) | (refine Nat.ne_of_gt ?zrh; (case zrh => with_reducible assumption)) | ((try dsimp only [Ar, Around.deeper, Around.in1]); first | (refine' rm1 ?zria ?zrib; (case zria => with_reducible assumption); (case zrib => rfl)) | (refine' rm2 ?zrja ?zrjb; (case zrja => with_reducible assumption); (case zrjb => rfl)) | (refine' rm3 ?zrka ?zrkb; (case zrka => with_reducible assumption); (case zrkb => rfl)) | (refine' rm4 ?zrla ?zrlb; (case zrla => with_reducible assumption); (case zrlb => rfl)) | omega))
  k_with "mine ne" => (first | with_reducible assumption | (refine Ne.symm ?zna; (case zna => with_reducible assumption)) | (refine Nat.ne_of_lt ?znb; (case znb => with_reducible assumption)) | (refine Nat.ne_of_gt ?znc; (case znc => with_reducible assumption)))
  k_with "mine enter" => (first
  | (refine' enterG ?zqkG ?zqk3 ?zqk5 ?zqk6 ?zqk7 ?zqk8 ?zqk9 ?zqkB ?_ ?zqc2 ?zqc3 ?zqc4 ?zqc5; (case zqkG => k_asm); (case zqk3 => k_asm); (case zqk5 => k_asm); (case zqk6 => k_is); (case zqk7 => k_is); (case zqk8 => ktr_room); (case zqk9 => exact BindsTo.of_eq rfl); (case zqc5 => decide); (case zqkB => exact locs rfl); (case zqc2 => exact rfl); (case zqc3 => exact rfl); (case zqc4 => exact rfl); k_whole; intro Lq' hq' Fq' Nq' l1q; (try k_lt l1q); (try dsimp only); (try k_fold))
  | (refine' enterC ?zqkG ?zqk3 ?zqk5 ?zqk6 ?zqk7 ?zqk8 ?zqk9 ?zqkB ?zqkD ?_ ?zqc2 ?zqc3 ?zqc4; (case zqkG => k_asm); (case zqk3 => k_asm); (case zqk5 => k_asm); (case zqk6 => k_is); (case zqk7 => k_is); (case zqk8 => ktr_room); (case zqk9 => exact BindsTo.of_eq rfl); (case zqkB => exact rfl); (case zqkD => decide +kernel); (case zqc2 => exact rfl); (case zqc3 => exact rfl); (case zqc4 => exact rfl); k_whole; intro Lq' hq' tkq' cellsq' Fq' Nq' Yq' l1q; (try k_lt l1q); k_cells Yq'; (try simp only [List.cons_append, List.nil_append] at Nq'); (try dsimp only); (try k_fold)))
  k_with "mine k_steps" => ((try k_unmd); (try k_fold); repeat' (first | (k_unfold; (try dsimp only)) | ((fail_if_success (k_extra "mine stop")); (fail_if_success (with_reducible show wpAny _ _ (exec (Stmt.For _ _ _ _ _) _) _ _ _)); (fail_if_success (with_reducible show wpAny _ _ (exec (Stmt.While _ _ _ _) _) _ _ _)); (fail_if_success (with_reducible show wpAny _ _ (exec (Stmt.Try _ _ _ _ _) _) _ _ _)); (fail_if_success (with_reducible show wpAny _ _ (eval (PySem.Expr.ListComp _ _ _ _) _) _ _ _)); (fail_if_success (with_reducible show wpAny _ _ (exec (Stmt.Assign _ (PySem.Expr.ListComp _ _ _ _) _) _) _ _ _)); (first | walk1 | (dsimp only; walk1) | (leave1; walk_say "STEP leave1"; try dsimp only))) | fail "no step"))
  k_with "execs cons" => ((try k_made); (try k_gentoks); (with_reducible refine wpAny_execs_cons ?_); (try dsimp only); try k_fold)
  k_with "storeName" => (k_dflt (refine' storeX_L ?z1 ?z2 ?_ ?z3 ?z4; (case z1 => k_asm); (case z2 => k_asm); (case z3 => exact rfl); (case z4 => exact rfl); k_whole); intro hq' Fq' Nq'; (try dsimp only at Fq'); (try k_sweep))
  k_with "eval Name" => (name_kind "local"; k_dflt (refine' nameX_L ?z5 ?z6 ?_ ?z7 ?z8; (case z5 => with_reducible assumption); (case z6 => exact Eq.refl (some _)); (case z7 => exact rfl); (case z8 => exact rfl); k_whole))
  k_with "eval Name" => ((with_reducible show wpAny _ _ (eval (PySem.Expr.Name _ _) (compEnvC _ _ _ _)) _ _ _); k_dflt (first
  | (refine' nm_L ?zqF ?zqv ?_ ?zqa ?zqb ?zqc; (case zqa => rfl); (case zqb => rfl); (case zqc => decide); (case zqF => k_asm); (case zqv => first | with_reducible assumption | assumption | rfl); k_whole)
  | (refine' nm_C ?zqF ?zqhc ?zqho ?zqhd ?_ ?zqa ?zqb ?zqc; (case zqa => rfl); (case zqb => rfl); (case zqc => decide); (case zqF => k_asm); (case zqhc => rfl); (case zqho => first | with_reducible assumption | assumption); (case zqhd => first | with_reducible assumption | assumption); k_whole)
  | (refine' nm_K ?zqF ?zqX ?zqT ?zqe ?_ ?zqg ?zqa ?zqb ?zqc; (case zqa => rfl); (case zqb => rfl); (case zqc => decide); (case zqg => rfl); (case zqF => k_asm); (case zqX => k_asm); (case zqT => k_asm); (case zqe => k_is); k_whole)
  | (refine' nm_B ?zqF ?zqX ?zqT ?zqe ?zqv ?zqn ?_ ?zqg ?zqbn ?zqa ?zqb ?zqc; (case zqa => rfl); (case zqb => rfl); (case zqc => decide); (case zqg => rfl); (case zqbn => rfl); (case zqF => k_asm); (case zqX => k_asm); (case zqT => k_asm); (case zqe => k_is); (case zqv => boot_fast); (case zqn => decide); k_whole)))
  k_with "callWith ref" => (k_here; k_dflt (first
  | ((with_reducible show wpAny _ _ (callWith _ (Value.ref _) _ (backTo _ (starEach (_ :: _) _)) []) _ _ _); first | (refine' callWith_M ?z9 ?z10 ?z11 ?z12 ?_; (case z9 => with_reducible assumption); (case z10 => with_reducible assumption); (case z11 => k_mem); (case z12 => k_is); k_whole) | (refine' callWith_K ?z13 ?z14 ?_; (case z13 => with_reducible assumption); (case z14 => k_is); k_whole))
  | ((with_reducible show wpAny _ _ (callWith _ (Value.ref _) _ (backTo _ (starEach [] _)) []) _ _ _); first | (refine' callWith_M0 ?z15 ?z16 ?_; (case z15 => k_meth); (case z16 => k_is); k_whole; try dsimp only [List.nil_append, List.cons_append]) | (refine' callWith_K0 ?z17 ?z18 ?_; (case z17 => (refine' Frag.In.keeps ?zia (Fr.keep ?zib); (case zib => with_reducible assumption); (case zia => with_reducible assumption))); (case z18 => k_is); k_whole))))
  k_with "subscriptTail" => (k_here; (with_reducible show wpAny _ _ (subscriptTail _ _ (Value.ref _) (Value.int _ _)) _ _ _); (with_unfolding_all refine' item_litK ?z19 ?z20 ?z21 ?z22 ?_ ?z23; (case z19 => is_list); (case z20 => decide); (case z21 => decide); (case z22 => rfl); (case z23 => with_unfolding_all rfl)); k_whole)
  k_with "subscriptTail Name Constant ref int" => (k_here; (with_reducible show wpAny _ _ (subscriptTail _ _ (Value.ref _) (Value.int _ _)) _ _ _); (with_unfolding_all refine' item_litK ?z24 ?z25 ?z26 ?z27 ?_ ?z28; (case z24 => is_list); (case z25 => decide); (case z26 => decide); (case z27 => rfl); (case z28 => with_unfolding_all rfl)); k_whole)
  k_with "eval Name" => (k_here; name_kind "globalImplicit"; k_dflt (first
  | (refine' nameX_K ?zqgF ?zqgX ?zqgT ?zqge ?_ ?zqga ?zqgb; (case zqgF => with_reducible assumption); (case zqgX => with_reducible assumption); (case zqgT => k_asm); (case zqga => rfl); (case zqgb => rfl); (case zqge => k_is); k_whole)
  | (refine' nameX_B ?zqgF ?zqgX ?zqgT ?zqge ?zqgv ?zqgn ?_ ?zqga ?zqgb; (case zqgF => with_reducible assumption); (case zqgX => with_reducible assumption); (case zqgT => k_asm); (case zqga => rfl); (case zqgb => rfl); (case zqge => k_is); (case zqgv => boot_fast); (case zqgn => decide); k_whole)))
  trivial
section
variable {w : World} {p : Program} {loose : List PySem.Str} {mean : ExcName → Option Value} {mg mb : PySem.Str → Option Value}
   {dp un : Nat} {fr : Option (List Env)} {gd : Option (List Code)} {s : Shared} {Q : Value → Shared → Prop} {E : Value → Shared → Prop}

noncomputable def signs : PySem.Str := Str.ofString "ab.\" \\\n"
noncomputable def word (n : Int) : PySem.Str := Txt.slice (Txt.item signs ((n.fdiv 3).fmod 7) ++ Txt.item signs ((n.fdiv 21).fmod 7) ++ Txt.item signs ((n.fdiv 147).fmod 7)) none (some (n.fmod 3 + 1))

theorem fill1 (w : World) (h : Heap) (X : (hd.heap_1 w.params).In h) : PySem.Challenge.rw_in0215_01.row.prog = PP ∧ (hd.heap_1 w.params).In h := by
  k_fill
  exact ⟨rfl, X⟩

theorem word_call (n : Int) (t : Tok) (X : (hd.heap_1 w.params).In s.heap) (T : Top p loose mean mg mb s.heap) (hdp : dp + 1 < recursionLimit)
   (hret : ∀ t h' tk', Kept s.heap h' → Q (.str (word n) t) {s with heap := h', toks := tk'}) : wpAny (model PP w) (Ar dp un fr gd) (call (.ref 118) [.int n t]) Q E s := by
  have G := Gh.refl s.heap
  refine wpAny_call ?_
  k_dflt ktr_enter
  k_steps
  (with_reducible rename Fr _ _ _ _ => kF)
  exact hret _ _ _ kF.keep
end
end Mine

end F_B1
section F_S0
open PySem PySem.Spec PySem.W PySem.Calls PyProof.Rows
namespace Mine

/-- the letters of the alphabet -/
noncomputable def sg (k : Int) : Nat := ([97, 98, 46, 34, 32, 92, 10] : List Nat).getD k.toNat 0
/-- a text of codes -/
abbrev tx (l : List Nat) : PySem.Str := ⟨l.toArray⟩
noncomputable def letters (n : Int) : List Nat := [sg ((n.fdiv 3).fmod 7), sg ((n.fdiv 21).fmod 7), sg ((n.fdiv 147).fmod 7)]
noncomputable def wordL (n : Int) : List Nat := (letters n).take ((n.fmod 3).toNat + 1)

theorem fmod_rng (a : Int) (k : Int) (hk : 0 < k) : 0 ≤ a.fmod k ∧ a.fmod k < k := ⟨Int.fmod_nonneg_of_pos a hk, Int.fmod_lt_of_pos a hk⟩

theorem or7 {k : Int} (h0 : 0 ≤ k) (h7 : k < 7) : k = 0 ∨ k = 1 ∨ k = 2 ∨ k = 3 ∨ k = 4 ∨ k = 5 ∨ k = 6 := by omega
theorem or3 {k : Int} (h0 : 0 ≤ k) (h3 : k < 3) : k = 0 ∨ k = 1 ∨ k = 2 := by omega
theorem orN {k : Nat} (h0 : 1 ≤ k) (h3 : k ≤ 3) : k = 1 ∨ k = 2 ∨ k = 3 := by omega
theorem or3N {k : Nat} (h3 : k < 3) : k = 0 ∨ k = 1 ∨ k = 2 := by omega
theorem item_sg (k : Int) (h0 : 0 ≤ k) (h7 : k < 7) : Txt.item signs k = tx [sg k] := by
  have : k = 0 ∨ k = 1 ∨ k = 2 ∨ k = 3 ∨ k = 4 ∨ k = 5 ∨ k = 6 := or7 h0 h7
  rcases this with rfl | rfl | rfl | rfl | rfl | rfl | rfl <;> decide +kernel

theorem str_ext {x y : PySem.Str} (h : x.cps.toList = y.cps.toList) : x = y := PySem.Str.ext' (Array.toList_inj.mp h)
theorem tx_append (a b : List Nat) : tx a ++ tx b = tx (a ++ b) := by
  apply str_ext
  rw [PySem.Str.cps_append]; simp
theorem cps_app (x y : PySem.Str) : (x ++ y).cps.toList = x.cps.toList ++ y.cps.toList := by rw [PySem.Str.cps_append]; simp
theorem tx_toList (x : PySem.Str) : tx x.cps.toList = x := rfl

theorem slice3 (a b c : Nat) (r : Int) (h0 : 0 ≤ r) (h3 : r < 3) : Txt.slice (tx [a, b, c]) none (some (r + 1)) = tx (([a, b, c] : List Nat).take (r.toNat + 1)) := by
  have : r = 0 ∨ r = 1 ∨ r = 2 := or3 h0 h3
  rcases this with rfl | rfl | rfl <;> rfl

theorem word_eq (n : Int) : word n = tx (wordL n) := by
  unfold word wordL letters
  rw [item_sg _ (fmod_rng _ 7 (by decide)).1 (fmod_rng _ 7 (by decide)).2, item_sg _ (fmod_rng _ 7 (by decide)).1 (fmod_rng _ 7 (by decide)).2, item_sg _ (fmod_rng _ 7 (by decide)).1 (fmod_rng _ 7 (by decide)).2, tx_append, tx_append]
  exact slice3 _ _ _ _ (fmod_rng n 3 (by decide)).1 (fmod_rng n 3 (by decide)).2
theorem wordL_len (n : Int) : 1 ≤ (wordL n).length ∧ (wordL n).length ≤ 3 := by
  unfold wordL letters
  rw [List.length_take]
  simp only [List.length_cons, List.length_nil]
  have := (fmod_rng n 3 (by decide)).1
  have := (fmod_rng n 3 (by decide)).2
  omega
theorem word_len (n : Int) : 1 ≤ (word n).length ∧ (word n).length ≤ 3 := by
  have := wordL_len n
  rw [word_eq]
  simpa [PySem.Str.length] using this
theorem word_cps (n : Int) : (word n).cps.toList = wordL n := by rw [word_eq]

theorem occ_none {x : PySem.Str} {c : Nat} (h : (Builtin.Str.occurrences x ⟨#[c]⟩ 0 x.length 1).isEmpty = true) : c ∉ x.cps.toList := by
  have := StrLaws.found_one x c
  rw [h] at this
  simpa using this
theorem occ_some {x : PySem.Str} {c : Nat} (h : (Builtin.Str.occurrences x ⟨#[c]⟩ 0 x.length 1).isEmpty = false) : c ∈ x.cps.toList := by
  have := StrLaws.found_one x c
  rw [h] at this
  simpa using this

noncomputable def escq (c : Nat) : List Nat := if c = 34 ∨ c = 92 then [92, c] else [c]
theorem quote_cps : (Str.ofString "\"\\").cps.toList = [34, 92] := by decide +kernel
theorem join_empty : ∀ (ys : List (List Nat)), Str.join (tx []) (ys.map tx) = tx ys.flatten
  | [] => rfl
  | [a] => by simp [Str.join]
  | a :: b :: r => by
    have ih := join_empty (b :: r)
    show tx a ++ tx [] ++ Str.join (tx []) ((b :: r).map tx) = _
    rw [ih, tx_append, tx_append]
    simp
end Mine

end F_S0
section F_B3
open PySem PySem.Spec PySem.W PySem.Calls PyProof.Rows
namespace Mine

/-- what a loop that stores nothing walks over: a text, a list, a range -/
inductive Src (h : Heap) : Value → Nat → (Nat → Value → Prop) → Prop
  | str (x : PySem.Str) (t : Tok) : Src h (.str x t) x.cps.size (SignAt x)
  | list (l : Addr) (items : Array Value) (hl : h.IsList l items) : Src h (.ref l) items.size (fun i v => items[i]? = some v)
  | range (r : Addr) (a b : Int) (t u v : Tok) (n : Nat) (hr : IsRange h r a b 1 t u v) (hsm : Builtin.Range.small a b 1 = true) (hn : Builtin.Range.rangeSize a b 1 = ((n : Nat) : Int)) :
      Src h (.ref r) n (fun i v => ∃ t, v = .int (a + (i : Int)) t)

section
variable {prog : Program} {w : World} {A : Around} {E : Value → Shared → Prop} {s : Shared}

theorem Src.iter {xv : Value} {n : Nat} {P : Nat → Value → Prop} {Q : Value → Shared → Prop} (S : Src s.heap xv n P) (hh : A.handled = none)
    (h : ∀ (o : Obj) (fp : List Addr) (St : Nat → Heap → Prop), Walks prog w A s.heap.objs.size fp [s.heap.objs.size] n P St → St 0 (s.heap.push o) →
      (∀ b ∈ fp, b = s.heap.objs.size ∨ (xv = .ref b ∧ ∃ items, s.heap.IsList b items)) → Q (.ref s.heap.objs.size) { s with heap := s.heap.push o }) :
    wpAny (model prog w) A (pyIter xv) Q E s := by
  cases S with
  | str x t =>
    refine wpAny_pyIter_str fun o St hW hst => ?_
    exact h o _ St (hW A hh) hst (fun b hb => .inl (List.mem_singleton.mp hb))
  | list l items hl =>
    obtain ⟨ol, hol, _⟩ := id hl
    have hne : l ≠ s.heap.objs.size := Nat.ne_of_lt (Heap.lt_size hol)
    refine wpAny_pyIter_list hl ?_
    refine h _ _ _ (Walks.list (prog := prog) (w := w) hh s.heap.objs.size l hne items) ⟨⟨_, Heap.get?_push_size _ rfl, rfl, rfl⟩, hl.at fun o e => Heap.get?_push_of_some _ e⟩ (fun b hb => ?_)
    rcases List.mem_cons.mp hb with e | hb
    · exact .inl e
    · rw [List.mem_singleton.mp hb]; exact .inr ⟨rfl, _, hl⟩
  | range r a b t u v n hr hsm hn =>
    refine wpAny_pyIter_range hr hsm ?_
    refine h _ _ _ (LCg.range_walks hh a n) ?_ (fun b hb => .inl (List.mem_singleton.mp hb))
    have e : (s.heap.push { cls := .type "range_iterator", data := .fields #[rawInt a, rawInt (Builtin.Range.rangeSize a b 1), rawInt 1] }).get? s.heap.objs.size = some _ := Heap.get?_push_size _ rfl
    show (Heap.get? _ _) = some _
    rw [e, hn]
    simp

theorem keeps_refl (s : Shared) : Keeps s s := ⟨s.heap, s.toks, rfl, fun _ _ e => e⟩
theorem Keeps.of {s : Shared} {h' : Heap} {tk : Nat} (k : Kept s.heap h') : Keeps s { s with heap := h', toks := tk } := ⟨h', tk, rfl, k⟩

/-- what an element's end shows -/
noncomputable def EltPost (F : Value → Prop) (s₃ : Shared) (y : Value) (s₄ : Shared) : Prop := F y ∧ Keeps s₃ s₄
theorem EltPost.mk {F : Value → Prop} {s₃ : Shared} {y : Value} {h' : Heap} {tk : Nat} (hF : F y) (k : Kept s₃.heap h') : EltPost F s₃ y { s₃ with heap := h', toks := tk } := ⟨hF, h', tk, rfl, k⟩
/-- the tests' end -/
noncomputable def TestPost (b : Bool) (s₃ : Shared) (ok : Bool) (s₄ : Shared) : Prop := ok = b ∧ Keeps s₃ s₄
theorem TestPost.mk {b ok : Bool} {s₃ : Shared} {h' : Heap} {tk : Nat} (hb : ok = b) (k : Kept s₃.heap h') : TestPost b s₃ ok { s₃ with heap := h', toks := tk } := ⟨hb, h', tk, rfl, k⟩

/-- what stands behind the source of a comprehension -/
structure CompPre (prog : Program) (w : World) (A : Around) (env : Env) (scope : Scope) (cl : List (PySem.Str × Addr)) (x : PySem.Str) (ifs : List PySem.Expr) (elt : PySem.Expr) (p : Value → Bool) (F : Value → Value → Prop) (Q : Value → Shared → Prop) (xv : Value) (s₁ : Shared) (n : Nat) (P : Nat → Value → Prop) : Prop where
  src : Src s₁.heap xv n P
  size : n ≤ sizeLine
  tests : ∀ C i v s₃ m₃ E', P i v → Fr s₁.heap C s₃.heap m₃ → m₃ x = some v → s₁.toks ≤ s₃.toks →
        wpAny (model prog w) A (forIn ifs true fun c r => if r = true then do let ok ← isTrue c (compEnvC scope cl C env) (eval c (compEnvC scope cl C env)); pure (ForInStep.yield ok) else pure (ForInStep.yield r))
          (TestPost (p v) s₃) E' s₃
  elt : ∀ C i v s₃ m₃ E', P i v → p v = true → Fr s₁.heap C s₃.heap m₃ → m₃ x = some v → s₁.toks ≤ s₃.toks →
        wpAny (model prog w) A (eval elt (compEnvC scope cl C env)) (EltPost (F v) s₃) E' s₃
  done : ∀ D k h' tk (ys : Array Value) (vs : List Value), s₁.heap.get? D = none → h'.get? D = some (W.listOf ys k) → vs.length = n → (∀ j v, vs[j]? = some v → P j v) → Paired F (vs.filter p) ys.toList →
        Kept s₁.heap h' → Q (.ref D) { s₁ with heap := h', toks := tk }
inductive CompAt (prog : Program) (w : World) (A : Around) (env : Env) (scope : Scope) (cl : List (PySem.Str × Addr)) (x : PySem.Str) (ifs : List PySem.Expr) (elt : PySem.Expr) (p : Value → Bool) (F : Value → Value → Prop) (Q : Value → Shared → Prop) (xv : Value) (s₁ : Shared) : Prop
  | mk (n : Nat) (P : Nat → Value → Prop) (h : CompPre prog w A env scope cl x ifs elt p F Q xv s₁ n P)

/-- a comprehension of one clause with a plain target, its element and its tests pure -/
theorem lcomp {elt iter : PySem.Expr} {x : PySem.Str} {px : Pos} {ifs : List PySem.Expr} {scope : Scope} {cl : List (PySem.Str × Addr)} {pos : Pos} {env : Env} {Q : Value → Shared → Prop} (p : Value → Bool) (F : Value → Value → Prop)
    (hh : A.handled = none)
    (hclos : closureFor scope env = pure cl) (hcell : ∀ y ∈ scope.names, y.2 ≠ .cell) (hkind : scope.kind = .function)
    (hnames : ∀ y ∈ scope.names, y.2 = .local → scope.names.lookup y.1 = some .local) (hx : scope.names.lookup x = some .local)
    (h : wpAny (model prog w) A (eval iter env) (CompAt prog w A env scope cl x ifs elt p F Q) E s)
    (hs : ∀ x, foldedSetIterable iter env x = pure x := by intro _; rfl) :
    wpAny (model prog w) A (eval (.ListComp elt [⟨.Name x px, iter, ifs, 0⟩] scope pos) env) Q E s := by
  refine wpAny_ListComp_free p F hclos hcell hkind hnames hx ?_ hs
  refine wpAny_mono h (fun xv s₁ h₁ => ?_) fun _ _ e => e
  obtain ⟨n, P, S, hsz, ht, he, hQ⟩ := h₁
  refine Src.iter S hh fun o fp St W hst hfp => ?_
  have sz : (s₁.heap.push o).objs.size = s₁.heap.objs.size + 1 := Heap.size_push ..
  have up : ∀ s₃ : Shared, (∀ b o', b ∉ [s₁.heap.objs.size] → (s₁.heap.push o).get? b = some o' → s₃.heap.get? b = some o') → Kept s₁.heap s₃.heap := fun s₃ k b o' e =>
    k b o' (fun hm => by rw [List.mem_singleton] at hm; exact absurd (Heap.lt_size e) (hm ▸ Nat.lt_irrefl _)) (Heap.get?_push_of_some _ e)
  refine ⟨_, fp, _, n, P, St, rfl, W, hsz, hst, fun b hb => ?_, ⟨?_, ?_⟩, ?_⟩
  · show b < (s₁.heap.push o).objs.size
    rw [sz]
    rcases hfp b hb with rfl | e
    · exact Nat.lt_succ_self _
    · obtain ⟨_, _, o', e', _⟩ := e
      exact Nat.lt_succ_of_lt (Heap.lt_size e')
  · intro C i v s₃ m₃ E' hC hP hn hm hk htk
    exact ht C i v s₃ m₃ E' hP ⟨hn, up s₃ hk, Nat.le_trans (by rw [sz]; exact Nat.le_succ _) hC⟩ hm htk
  · intro C i v s₃ m₃ E' hC hP hp hn hm hk htk
    exact he C i v s₃ m₃ E' hP hp ⟨hn, up s₃ hk, Nat.le_trans (by rw [sz]; exact Nat.le_succ _) hC⟩ hm htk
  · intro D h' tk ys vs hD _ hpl hlen hP hF hk
    obtain ⟨k, e⟩ := hpl
    have hD₁ : s₁.heap.get? D = none := by
      cases q : s₁.heap.get? D with
      | none => rfl
      | some o' => have := Heap.get?_push_of_some o q; rw [hD] at this; cases this
    exact hQ D k h' tk ys vs hD₁ e hlen hP hF (up { s₁ with heap := h' } hk)

theorem inv_end0 {h₀ h' : Heap} {L : Addr} {J : (PySem.Str → Option Value) → List (Addr × Obj) → Prop} {m' : PySem.Str → Option Value} {own news' : List (Addr × Obj)} {s₁ : Shared} {tk : Nat} (F : Fr h₀ L h' m') (N : News h₀ L h' news') (ho : ∀ p ∈ own, p ∈ news') (hj : J m' []) :
    InvEndN h₀ L J own (([] : List (Addr × Obj)).map (·.1)) s₁ { s₁ with heap := h', toks := tk } := ⟨h', tk, m', news', [], rfl, F, N, (fun _ h => nomatch h), ho, rfl, hj⟩

/-- a for loop over a source, its state by an invariant -/
structure ForPre (prog : Program) (w : World) (A : Around) (h₀ : Heap) (env : Env) (x : PySem.Str) (body : List Stmt) (Q : Flow → Shared → Prop) (E : Value → Shared → Prop) (J : Nat → (PySem.Str → Option Value) → List (Addr × Obj) → Prop)
    (xv : Value) (s₁ : Shared) (n : Nat) (P : Nat → Value → Prop) (m₀ : PySem.Str → Option Value) (news : List (Addr × Obj)) : Prop where
  hh : A.handled = none
  src : Src s₁.heap xv n P
  F : Fr h₀ env.locals s₁.heap m₀
  N : News h₀ env.locals s₁.heap news
  off : ∀ b items, xv = .ref b → s₁.heap.IsList b items → ∀ q ∈ news, q.1 ≠ b
  start : J 0 m₀ news
  turn : ∀ i v m₁ nx h tk own, i < n → P i v → nx.map (·.1) = news.map (·.1) → OwnOff own (news.map (·.1)) → J i m₁ nx → Fr h₀ env.locals h (fun y => if y = x then some v else m₁ y) → News h₀ env.locals h (nx ++ own) →
      wpAny (model prog w) A (execs body env) (InvPostN h₀ env.locals (J (i + 1)) own (news.map (·.1)) { s₁ with heap := h, toks := tk } Q) E { s₁ with heap := h, toks := tk }
  done : ∀ m₁ nx h tk, J n m₁ nx → Fr h₀ env.locals h m₁ → News h₀ env.locals h nx → Q .next { s₁ with heap := h, toks := tk }
inductive ForAt (prog : Program) (w : World) (A : Around) (h₀ : Heap) (env : Env) (x : PySem.Str) (body : List Stmt) (Q : Flow → Shared → Prop) (E : Value → Shared → Prop) (J : Nat → (PySem.Str → Option Value) → List (Addr × Obj) → Prop)
    (xv : Value) (s₁ : Shared) : Prop
  | mk (n : Nat) (P : Nat → Value → Prop) (m₀ : PySem.Str → Option Value) (news : List (Addr × Obj)) (h : ForPre prog w A h₀ env x body Q E J xv s₁ n P m₀ news)

theorem for_src {x : PySem.Str} {px pos : Pos} {iter : PySem.Expr} {body : List Stmt} {env : Env} {Q : Flow → Shared → Prop} (h₀ : Heap) (J : Nat → (PySem.Str → Option Value) → List (Addr × Obj) → Prop)
    (hx : env.kindOf x = some .local)
    (hp : (env.scope.kind == .class || (env.scope.kind == .module && env.locals != env.globals)) = false)
    (h : wpAny (model prog w) A (eval iter env) (ForAt prog w A h₀ env x body Q E J) E s)
    (hs : ∀ x, foldedSetIterable iter env x = pure x := by intro _; rfl)
    (hE : PassesOwn (model prog w) A env E := by passes_own) :
    wpAny (model prog w) A (exec (.For (.Name x px) iter body [] pos) env) Q E s := by
  refine For_invV h₀ hx hp (wpAny_mono h (fun xv s₁ h₁ => ?_) fun _ _ e => e) hs hE
  obtain ⟨n, P, m₀, news, R⟩ := h₁
  refine Src.iter R.src R.hh fun o fp St W hst hfp => ?_
  have hL : env.locals < s₁.heap.objs.size := R.F.ns.lt
  have fresh : h₀.get? s₁.heap.objs.size = none := by
    cases e : h₀.get? s₁.heap.objs.size with
    | none => rfl
    | some o' => exact absurd (Heap.lt_size (R.F.keep _ _ e)) (Nat.lt_irrefl _)
  refine loop_invN J W ?_ ?_ ?_ ?_ hst (R.F.push o) (fun p hp => ⟨Heap.get?_push_of_some _ (R.N p hp).1, (R.N p hp).2⟩) R.start R.turn R.done
  · intro hm
    rcases hfp _ hm with e | ⟨_, items, o', e', hc, k, hd⟩
    · exact absurd hL (e ▸ Nat.lt_irrefl _)
    · obtain ⟨oL, _, _, eL, dL, _⟩ := R.F.ns
      rw [e'] at eL; cases eL
      rw [hd] at dL; cases dL
  · intro b hb
    rw [List.mem_singleton.mp hb]; exact fresh
  · intro q hq hm
    exact absurd (Heap.lt_size (R.N q hq).1) (by rw [List.mem_singleton.mp hm]; exact Nat.lt_irrefl _)
  · intro q hq hm
    rcases hfp _ hm with e | ⟨e1, items, e2⟩
    · exact absurd (Heap.lt_size (R.N q hq).1) (by rw [e]; exact Nat.lt_irrefl _)
    · exact R.off _ _ e1 e2 q hq rfl
end
end Mine

end F_B3
section F_B4
open PySem PySem.Spec PySem.W PySem.Calls PyProof.Rows
namespace Mine
section
variable {M : Model} {A : Around} {E : Value → Shared → Prop} {s : Shared} {K : Frag} {g : Heap} {C : Addr} {m mg mb : PySem.Str → Option Value} {p : Program} {loose : List PySem.Str} {env : Env}
  {x : PySem.Str} {pos : Pos} {v : Value} {Q : Value → Shared → Prop} {c : Addr} {o : Obj}
theorem nm_L (F : Fr g env.locals s.heap m) (hv : m x = some v) (h : Q v s)
    (hk : env.scope.kind = .function) (hx : env.kindOf x = some .local) (hd : (x == ("__debug__" : PySem.Str)) = false) :
    wpAny M A (eval (.Name x pos) env) Q E s := wpAny_Name (wpAny_loadName_local hk hx F.ns hv h) hd
theorem nm_C (F : Fr g C s.heap m) (hc : env.cells.lookup x = some c) (ho : g.get? c = some o) (hd : o.data = .cell (some v)) (h : Q v s)
    (hk : env.scope.kind = .function) (hx : env.kindOf x = some .cell) (hb : (x == ("__debug__" : PySem.Str)) = false) :
    wpAny M A (eval (.Name x pos) env) Q E s := wpAny_Name (wpAny_loadName_cell hk hx hc ⟨o, F.keep _ _ ho, hd⟩ h) hb
theorem nm_K (F : Fr g C s.heap m) (X : K.In g) (T : TopRead p loose mg mb g) (e : nsIn K mainGlobals x = some (some v)) (h : Q v s)
    (hg : env.globals = mainGlobals) (hk : env.scope.kind = .function) (hx : env.kindOf x = some .globalImplicit) (hd : (x == ("__debug__" : PySem.Str)) = false) :
    wpAny M A (eval (.Name x pos) env) Q E s := nameG_K F X T e h hg hk hx hd
theorem nm_B (F : Fr g C s.heap m) (X : K.In g) (T : TopRead p loose mg mb g) (e : nsIn K mainGlobals x = some none) (hv : bootBuiltins x = some v) (hn : x ≠ "__name__") (h : Q v s)
    (hg : env.globals = mainGlobals) (hbn : env.builtins = builtinsNs) (hk : env.scope.kind = .function) (hx : env.kindOf x = some .globalImplicit) (hd : (x == ("__debug__" : PySem.Str)) = false) :
    wpAny M A (eval (.Name x pos) env) Q E s :=
  Name_function_global hk hx (loadGlobal_builtin (env := env) (by rw [hg]; exact T.g.keeps F.keep) (mg_none_of X T.g e) (by rw [hbn]; exact T.b.keeps F.keep) ((T.builtins x hn).trans hv) h) hd
end
theorem src_range {h : Heap} {r : Addr} {n : Nat} {t u v : Tok} (hr : IsRange h r 0 (n : Int) 1 t u v) (hn : n < 2 ^ 60) : Src h (.ref r) n (fun i v => ∃ t, v = .int ((0 : Int) + (i : Int)) t) :=
  Src.range r 0 n t u v n hr (PySem.small_one (by decide) (by decide) (by omega) (by omega)) (by rw [rangeSize_nat]; simp)
theorem pin {m : PySem.Str → Option Value} {x : PySem.Str} {v : Value} (h : m x = some v) : m = fun y => if y = x then some v else m y := by
  funext y
  by_cases e : y = x
  · rw [if_pos e, e, h]
  · rw [if_neg e]

theorem news_new {h₀ h h' : Heap} {L D : Addr} {m : PySem.Str → Option Value} {news : List (Addr × Obj)} {o : Obj} (F : Fr h₀ L h m) (N : News h₀ L h news) (hK : Kept h h') (hD : h.get? D = none) (hk : h'.get? D = some o) :
    News h₀ L h' ((D, o) :: news) := fun p hp => by
  rcases List.mem_cons.mp hp with rfl | hp
  · refine ⟨hk, ?_, ?_⟩
    · rintro rfl
      obtain ⟨oL, _, _, e, _⟩ := F.ns
      rw [hD] at e; cases e
    · cases q : h₀.get? D with
      | none => rfl
      | some o' => have := F.keep _ _ q; rw [hD] at this; cases this
  · exact ⟨hK _ _ (N p hp).1, (N p hp).2⟩

theorem paired_map {F : Value → Value → Prop} {vs : List Value} {ys : List Value} (h : Paired F (vs.filter fun _ => true) ys) : Paired F vs ys := by
  rwa [List.filter_eq_self.mpr (fun _ _ => rfl)] at h

theorem signs_items {x : PySem.Str} : ∀ (vs : List Value), vs.length = x.cps.size → (∀ j v, vs[j]? = some v → SignAt x j v) → ∃ ts : List Tok, ts.length = x.cps.size ∧ vs = (x.cps.toList.zip ts).map fun p => Value.str ⟨#[p.1]⟩ p.2 := by
  intro vs hl hv
  refine ⟨vs.map fun v => match v with | .str _ t => t | _ => 0, by simpa using hl, ?_⟩
  apply List.ext_getElem?
  intro j
  rw [List.getElem?_map]
  cases hj : vs[j]? with
  | none =>
    have : vs.length ≤ j := List.getElem?_eq_none_iff.mp hj
    rw [List.getElem?_eq_none (by simp; omega)]
    rfl
  | some v =>
    obtain ⟨c, u, hc, rfl⟩ := hv j v hj
    have : (x.cps.toList.zip (vs.map fun v => match v with | .str _ t => t | _ => 0))[j]? = some (c, u) := by
      rw [List.getElem?_zip_eq_some]
      refine ⟨by simpa using hc, by rw [List.getElem?_map, hj]; rfl⟩
    rw [this]; rfl

end Mine

end F_B4
section F_B3a
open PySem PySem.Spec PySem.W PySem.Calls PyProof.Rows
namespace Mine
structure CompPreA (prog : Program) (w : World) (A : Around) (env : Env) (scope : Scope) (cl : List (PySem.Str × Addr)) (x y : PySem.Str) (ifs : List PySem.Expr) (elt : PySem.Expr) (p : Value → Bool) (Fx : Value → Value → Prop) (Q : Flow → Shared → Prop) (g : Heap) (xv : Value) (s₁ : Shared) (n : Nat) (P : Nat → Value → Prop)
    (m : PySem.Str → Option Value) (news : List (Addr × Obj)) : Prop where
  src : Src s₁.heap xv n P
  size : n ≤ sizeLine
  tests : ∀ C i v s₃ m₃ E', P i v → Fr s₁.heap C s₃.heap m₃ → m₃ x = some v → s₁.toks ≤ s₃.toks →
        wpAny (model prog w) A (forIn ifs true fun c r => if r = true then do let ok ← isTrue c (compEnvC scope cl C env) (eval c (compEnvC scope cl C env)); pure (ForInStep.yield ok) else pure (ForInStep.yield r))
          (TestPost (p v) s₃) E' s₃
  elt : ∀ C i v s₃ m₃ E', P i v → p v = true → Fr s₁.heap C s₃.heap m₃ → m₃ x = some v → s₁.toks ≤ s₃.toks →
        wpAny (model prog w) A (eval elt (compEnvC scope cl C env)) (EltPost (Fx v) s₃) E' s₃
  F : Fr g env.locals s₁.heap m
  N : News g env.locals s₁.heap news
  done : ∀ D k h' tk (ys : Array Value) (vs : List Value), Fr g env.locals h' (fun z => if z = y then some (.ref D) else m z) → News g env.locals h' ((D, W.listOf ys k) :: news) → (∀ q ∈ news, q.1 ≠ D) → vs.length = n → (∀ j v, vs[j]? = some v → P j v) → Paired Fx (vs.filter p) ys.toList →
        Q .next { s₁ with heap := h', toks := tk }
inductive CompAtA (prog : Program) (w : World) (A : Around) (env : Env) (scope : Scope) (cl : List (PySem.Str × Addr)) (x y : PySem.Str) (ifs : List PySem.Expr) (elt : PySem.Expr) (p : Value → Bool) (Fx : Value → Value → Prop) (Q : Flow → Shared → Prop) (g : Heap) (xv : Value) (s₁ : Shared) : Prop
  | mk (n : Nat) (P : Nat → Value → Prop) (m : PySem.Str → Option Value) (news : List (Addr × Obj)) (h : CompPreA prog w A env scope cl x y ifs elt p Fx Q g xv s₁ n P m news)

theorem lcompA {prog : Program} {w : World} {A : Around} {E : Value → Shared → Prop} {s : Shared} {elt iter : PySem.Expr} {x y : PySem.Str} {px py : Pos} {ifs : List PySem.Expr} {scope : Scope} {cl : List (PySem.Str × Addr)} {pos spos : Pos} {env : Env} {Q : Flow → Shared → Prop} (g : Heap) (p : Value → Bool) (F : Value → Value → Prop)
    (hh : A.handled = none)
    (hsw : swapsWith (.ListComp elt [⟨.Name x px, iter, ifs, 0⟩] scope pos) (some (.Name y py)) spos.line env = pure true)
    (hclos : closureFor scope env = pure cl) (hcell : ∀ y ∈ scope.names, y.2 ≠ .cell) (hkind : scope.kind = .function)
    (hnames : ∀ y ∈ scope.names, y.2 = .local → scope.names.lookup y.1 = some .local) (hx : scope.names.lookup x = some .local)
    (hy : env.kindOf y = some .local) (hp : (env.scope.kind == .class || (env.scope.kind == .module && env.locals != env.globals)) = false)
    (h : wpAny (model prog w) A (eval iter env) (CompAtA prog w A env scope cl x y ifs elt p F Q g) E s)
    (hs : ∀ x, foldedSetIterable iter env x = pure x := by intro _; rfl) :
    wpAny (model prog w) A (exec (.Assign [.Name y py] (.ListComp elt [⟨.Name x px, iter, ifs, 0⟩] scope pos) spos) env) Q E s := by
  refine wpAny_Assign_ListComp_free p F hsw hclos hcell hkind hnames hx hy hp ?_ hs
  refine wpAny_mono h (fun xv s₁ h₁ => ?_) fun _ _ e => e
  obtain ⟨n, P, m, news, R⟩ := h₁
  refine Src.iter R.src hh fun o fp St W hst hfp => ?_
  have sz : (s₁.heap.push o).objs.size = s₁.heap.objs.size + 1 := Heap.size_push ..
  have up : ∀ s₃ : Shared, (∀ b o', b ∉ [s₁.heap.objs.size] → (s₁.heap.push o).get? b = some o' → s₃.heap.get? b = some o') → Kept s₁.heap s₃.heap := fun s₃ k b o' e =>
    k b o' (fun hm => by rw [List.mem_singleton] at hm; exact absurd (Heap.lt_size e) (hm ▸ Nat.lt_irrefl _)) (Heap.get?_push_of_some _ e)
  have hL : env.locals < s₁.heap.objs.size := R.F.ns.lt
  refine ⟨_, fp, _, n, P, St, m, rfl, W, R.size, hst, fun b hb => ?_, ?_, (R.F.push o).ns, ⟨?_, ?_⟩, ?_⟩
  · show b < (s₁.heap.push o).objs.size
    rw [sz]
    rcases hfp b hb with rfl | e
    · exact Nat.lt_succ_self _
    · obtain ⟨_, _, o', e', _⟩ := e
      exact Nat.lt_succ_of_lt (Heap.lt_size e')
  · intro hm
    rw [List.mem_singleton.mp hm] at hL; exact Nat.lt_irrefl _ hL
  · intro C i v s₃ m₃ E' hC hP hn hm hk htk
    exact R.tests C i v s₃ m₃ E' hP ⟨hn, up s₃ hk, Nat.le_trans (by rw [sz]; exact Nat.le_succ _) hC⟩ hm htk
  · intro C i v s₃ m₃ E' hC hP hp hn hm hk htk
    exact R.elt C i v s₃ m₃ E' hP hp ⟨hn, up s₃ hk, Nat.le_trans (by rw [sz]; exact Nat.le_succ _) hC⟩ hm htk
  · intro D h' tk ys vs hD _ hpl hlen hP hF hns hk
    obtain ⟨k, e⟩ := hpl
    have hD₁ : s₁.heap.get? D = none := by
      cases q : s₁.heap.get? D with
      | none => rfl
      | some o' => have := Heap.get?_push_of_some o q; rw [hD] at this; cases this
    have keep : ∀ b o', b ≠ env.locals → s₁.heap.get? b = some o' → h'.get? b = some o' := fun b o' hb e =>
      hk b o' hb (fun hm => by rw [List.mem_singleton] at hm; exact absurd (Heap.lt_size e) (hm ▸ Nat.lt_irrefl _)) (Heap.get?_push_of_some _ e)
    have gL : g.get? env.locals = none := Heap.get?_none_of_le R.F.above
    refine R.done D k h' tk ys vs ⟨hns, fun b o' e => keep b o' (fun z => by rw [z, gL] at e; cases e) (R.F.keep b o' e), R.F.above⟩ (fun q hq => ?_) (fun q hq z => ?_) hlen hP hF
    · rcases List.mem_cons.mp hq with rfl | hq
      · refine ⟨e, ?_, ?_⟩
        · rintro rfl
          obtain ⟨_, _, _, e', _⟩ := R.F.ns
          rw [hD₁] at e'; cases e'
        · cases q : g.get? D with
          | none => rfl
          | some o' => have := R.F.keep _ _ q; rw [hD₁] at this; cases this
      · exact ⟨keep _ _ (R.N q hq).2.1 (R.N q hq).1, (R.N q hq).2⟩
    · have := (R.N q hq).1
      rw [z, hD₁] at this; cases this
end Mine

end F_B3a
section F_B3b
open PySem PySem.Spec PySem.W PySem.Calls PyProof.Rows
namespace Mine
inductive CellMore (g : Heap) (L : Addr) (I c : Addr) (oI : Obj) (J : (PySem.Str → Option Value) → List (Addr × Obj) → Prop) (s₁ s' : Shared) : Prop
  | mk (h' : Heap) (tk' : Nat) (m' : PySem.Str → Option Value) (nx' : List (Addr × Obj)) (oc' : Obj) (hs : s' = { s₁ with heap := h', toks := tk' }) (F : Fr g L h' m') (N : News g L h' ((I, oI) :: (c, oc') :: nx')) (hc : ∃ u, oc'.data = .cell u) (ap : ∀ p ∈ nx', p.1 ≠ I ∧ p.1 ≠ c) (j : J m' nx')
inductive CellInv (g : Heap) (L I c l : Addr) (J : Nat → (PySem.Str → Option Value) → List (Addr × Obj) → Prop) (vs : List Value) (s₁ : Shared) (k : Nat) (s' : Shared) : Prop
  | mk (i : Nat) (m₁ : PySem.Str → Option Value) (nx : List (Addr × Obj)) (oc oI : Obj) (h : Heap) (tk : Nat) (hs : s' = { s₁ with heap := h, toks := tk }) (hi : i ≤ vs.length) (hk : k = vs.length - i) (hJ : J i m₁ nx) (F : Fr g L h m₁) (N : News g L h ((I, oI) :: (c, oc) :: nx)) (hc : ∃ u, oc.data = .cell u) (hit : h.IsListIter I l i) (hIc : I ≠ c) (ap : ∀ p ∈ nx, p.1 ≠ I ∧ p.1 ≠ c)
/-- a turn of a loop whose target is a cell ends -/
noncomputable def CellEnd (g : Heap) (L : Addr) (I c : Addr) (oI : Obj) (v : Value) (J : (PySem.Str → Option Value) → List (Addr × Obj) → Prop) (Q : Flow → Shared → Prop) (s₁ : Shared) (f : Flow) (s' : Shared) : Prop :=
  match f with
  | .next | .cont => CellMore g L I c oI J s₁ s'
  | .brk => Q .next s'
  | .ret v => Q (.ret v) s'
structure CellPre (prog : Program) (w : World) (A : Around) (g : Heap) (env : Env) (x : PySem.Str) (c : Addr) (body : List Stmt) (Q : Flow → Shared → Prop) (E : Value → Shared → Prop) (J : Nat → (PySem.Str → Option Value) → List (Addr × Obj) → Prop)
    (xv : Value) (s₁ : Shared) (l : Addr) (vs : List Value) (m₀ : PySem.Str → Option Value) (oc : Obj) (nx : List (Addr × Obj)) : Prop where
  hx : xv = .ref l
  hl : g.IsList l vs.toArray
  F : Fr g env.locals s₁.heap m₀
  N : News g env.locals s₁.heap ((c, oc) :: nx)
  hc : ∃ u, oc.data = .cell u
  ap : ∀ p ∈ nx, p.1 ≠ c
  start : J 0 m₀ nx
  turn : ∀ i v m₁ nx oc I oI h tk, vs[i]? = some v → J i m₁ nx → Fr g env.locals h m₁ → News g env.locals h ((I, oI) :: (c, oc) :: nx) → oc.data = .cell (some v) → @Ne Nat I c → (∀ p ∈ nx, @Ne Nat p.1 I ∧ @Ne Nat p.1 c) →
    wpAny (model prog w) A (execs body env) (CellEnd g env.locals I c oI v (J (i + 1)) Q { s₁ with heap := h, toks := tk }) E { s₁ with heap := h, toks := tk }
  done : ∀ m₁ nx oc h tk, J vs.length m₁ nx → Fr g env.locals h m₁ → News g env.locals h ((c, oc) :: nx) → Q .next { s₁ with heap := h, toks := tk }
inductive CellAt (prog : Program) (w : World) (A : Around) (g : Heap) (env : Env) (x : PySem.Str) (c : Addr) (body : List Stmt) (Q : Flow → Shared → Prop) (E : Value → Shared → Prop) (J : Nat → (PySem.Str → Option Value) → List (Addr × Obj) → Prop)
    (xv : Value) (s₁ : Shared) : Prop
  | mk (l : Addr) (vs : List Value) (m₀ : PySem.Str → Option Value) (oc : Obj) (nx : List (Addr × Obj)) (h : CellPre prog w A g env x c body Q E J xv s₁ l vs m₀ oc nx)

theorem for_cell {prog : Program} {w : World} {A : Around} {E : Value → Shared → Prop} {s : Shared} {x : PySem.Str} {c : Addr} {px pos : Pos} {iter : PySem.Expr} {body : List Stmt} {env : Env} {Q : Flow → Shared → Prop} (g : Heap) (J : Nat → (PySem.Str → Option Value) → List (Addr × Obj) → Prop)
    (hh : A.handled = none) (hcl : env.cells.lookup x = some c) (hk : env.scope.kind = .function) (hx : env.kindOf x = some .cell)
    (h : wpAny (model prog w) A (eval iter env) (CellAt prog w A g env x c body Q E J) E s)
    (hs : ∀ x, foldedSetIterable iter env x = pure x := by intro _; rfl)
    (hE : PassesOwn (model prog w) A env E := by passes_own) :
    wpAny (model prog w) A (exec (.For (.Name x px) iter body [] pos) env) Q E s := by
  refine wpAny_For (wpAny_mono h (fun xv s₁ h₁ => ?_) fun _ _ e => e) hs
  obtain ⟨l, vs, m₀, oc, nx, rfl, hl, F, N, hc, ap, start, turn, done⟩ := h₁
  have hls : s₁.heap.IsList l vs.toArray := hl.at fun o e => F.keep l o e
  obtain ⟨ol, hol, hlc, kl, hld⟩ := id hl
  have hIg : g.get? s₁.heap.objs.size = none := by
    cases e : g.get? s₁.heap.objs.size with
    | none => rfl
    | some o' => exact absurd (Heap.lt_size (F.keep _ _ e)) (Nat.lt_irrefl _)
  refine wpAny_pyIter_list hls ?_
  have F1 := F.push { cls := .type "list_iterator", data := .fields #[.ref l, .int 0 0] }
  have N1 := N.push F { cls := .type "list_iterator", data := .fields #[.ref l, .int 0 0] } rfl
  have hfr : ∀ p ∈ (c, oc) :: nx, p.1 ≠ s₁.heap.objs.size := fun p hp => Nat.ne_of_lt (Heap.lt_size (N p hp).1)
  generalize hI : s₁.heap.objs.size = I at N1 hfr hIg
  refine codeAny_forLoop (fun k s' => CellInv g env.locals I c l J vs s₁ k s') ?_ _
    ⟨0, m₀, nx, oc, _, _, s₁.toks, rfl, Nat.zero_le _, rfl, start, F1, N1, hc, ⟨_, (N1 _ (.head _)).1, rfl, rfl⟩, fun q => hfr _ (.head _) q.symm, fun p hp => ⟨hfr p (.tail _ hp), ap p hp⟩⟩
  clear F1 N1 F N hc ap start
  rintro k s' ⟨i, m₁, nx, oc, oI, h, tk, rfl, hi, rfl, hJ, F, N, ⟨u, hc⟩, hit, hIc, hap⟩
  have hlh : h.IsList l vs.toArray := hl.at fun o e => F.keep l o e
  have nI := (N _ (.head _)).2
  by_cases hlt : i < vs.length
  · refine wpAny_pyNext_list_item (s := { s₁ with heap := h, toks := tk }) hit hlh (x := vs[i]) (by simp [hlt]) fun h' hit' hs' => ?_
    have hcN := N (c, oc) (.tail _ (.head _))
    have F' : Fr g env.locals h' m₁ := ⟨F.ns.sameBut hs' (Ne.symm nI.1), fun b o e => (hs'.2 b (fun z => by rw [z, hIg] at e; cases e)).trans (F.keep b o e), F.above⟩
    obtain ⟨oI', hoI', r1, r2⟩ := id hit'
    have N' : News g env.locals h' ((I, oI') :: (c, oc) :: nx) := fun p hp => by
      rcases List.mem_cons.mp hp with rfl | hp
      · exact ⟨hoI', nI⟩
      · have z := N p (.tail _ hp)
        refine ⟨(hs'.2 _ ?_).trans z.1, z.2⟩
        rcases List.mem_cons.mp hp with rfl | hp
        · exact Ne.symm hIc
        · exact (hap p hp).1
    refine wpAny_assign_Name (wpAny_storeName_cell (s := { s₁ with heap := h', toks := tk }) hk hx hcl ⟨oc, (N' (c, oc) (.tail _ (.head _))).1, hc⟩ fun h₂ hv hs₂ => ?_)
    obtain ⟨o', ho', hd'⟩ := hv
    have F2 : Fr g env.locals h₂ m₁ := ⟨F'.ns.sameBut hs₂ (Ne.symm hcN.2.1), fun b o e => (hs₂.2 b (fun z => by rw [z, hcN.2.2] at e; cases e)).trans (F'.keep b o e), F.above⟩
    have N2 : News g env.locals h₂ ((I, oI') :: (c, o') :: nx) := fun p hp => by
      rcases List.mem_cons.mp hp with rfl | hp
      · exact ⟨(hs₂.2 _ hIc).trans hoI', nI⟩
      · rcases List.mem_cons.mp hp with rfl | hp
        · exact ⟨ho', hcN.2⟩
        · have z := N' p (.tail _ (.tail _ hp))
          exact ⟨(hs₂.2 _ (hap p hp).2).trans z.1, z.2⟩
    refine wpAny_passesOwn hE (wpAny_mono (turn i vs[i] m₁ nx o' I oI' h₂ tk (by simp [hlt]) hJ F2 N2 hd' hIc hap) (fun f s₃ hf => ?_) fun _ _ z => z)
    have nxt : ∀ {hb tb}, CellMore g env.locals I c oI' (J (i + 1)) { s₁ with heap := hb, toks := tb } s₃ → ∃ m, m < vs.length - i ∧ CellInv g env.locals I c l J vs s₁ m s₃ := by
      rintro hb tb ⟨h3, tk3, m3, nx3, oc3, rfl, F3, N3, hc3, hap3, hJ3⟩
      exact ⟨vs.length - (i + 1), by omega, i + 1, m3, nx3, oc3, oI', h3, tk3, rfl, hlt, rfl, hJ3, F3, N3, hc3, ⟨oI', (N3 _ (.head _)).1, r1, r2⟩, hIc, hap3⟩
    cases f with
    | next => exact nxt hf
    | cont => exact nxt hf
    | brk => exact hf
    | ret v => exact hf
  · have hin : i = vs.length := by omega
    subst hin
    refine wpAny_pyNext_list_end (s := { s₁ with heap := h, toks := tk }) hh hit hlh (by simp) fun h' ext => ?_
    refine wpAny_execs_nil ?_
    have F' : Fr g env.locals h' m₁ := ⟨F.ns.extBut ext (Ne.symm nI.1), fun b o e => ext b o (fun z => by rw [z, hIg] at e; cases e) (F.keep b o e), F.above⟩
    refine done m₁ nx oc h' tk hJ F' fun p hp => ?_
    have z := N p (.tail _ hp)
    refine ⟨ext _ _ ?_ z.1, z.2⟩
    rcases List.mem_cons.mp hp with rfl | hp
    · exact Ne.symm hIc
    · exact (hap p hp).1
end Mine

end F_B3b
section F_B3c
open PySem PySem.Spec PySem.W PySem.Calls PyProof.Rows
namespace Mine
/-- the frame and the ledger stand behind a test or an element -/
inductive StandN (g : Heap) (C : Addr) (m : PySem.Str → Option Value) (own : List (Addr × Obj)) (s₃ s₄ : Shared) : Prop
  | mk (h' : Heap) (tk : Nat) (nx' : List (Addr × Obj)) (hs : s₄ = { s₃ with heap := h', toks := tk }) (F : Fr g C h' m) (N : News g C h' nx') (ho : ∀ p ∈ own, p ∈ nx')
structure TestN (b : Bool) (g : Heap) (C : Addr) (m : PySem.Str → Option Value) (own : List (Addr × Obj)) (s₃ : Shared) (ok : Bool) (s₄ : Shared) : Prop where
  ok : ok = b
  st : StandN g C m own s₃ s₄
structure EltN (F : Value → Prop) (g : Heap) (C : Addr) (m : PySem.Str → Option Value) (own : List (Addr × Obj)) (s₃ : Shared) (y : Value) (s₄ : Shared) : Prop where
  ok : F y
  st : StandN g C m own s₃ s₄
theorem TestN.mk' {b ok : Bool} {g : Heap} {C : Addr} {m : PySem.Str → Option Value} {own nx' : List (Addr × Obj)} {s₃ : Shared} {h' : Heap} {tk : Nat} (hb : ok = b) (F : Fr g C h' m) (N : News g C h' nx') (hn : ∀ p ∈ own, p ∈ nx') : TestN b g C m own s₃ ok { s₃ with heap := h', toks := tk } := ⟨hb, ⟨h', tk, nx', rfl, F, N, hn⟩⟩
theorem EltN.mk' {F' : Value → Prop} {y : Value} {g : Heap} {C : Addr} {m : PySem.Str → Option Value} {own nx' : List (Addr × Obj)} {s₃ : Shared} {h' : Heap} {tk : Nat} (hb : F' y) (F : Fr g C h' m) (N : News g C h' nx') (hn : ∀ p ∈ own, p ∈ nx') : EltN F' g C m own s₃ y { s₃ with heap := h', toks := tk } := ⟨hb, ⟨h', tk, nx', rfl, F, N, hn⟩⟩

section
variable {prog : Program} {w : World} {A : Around} {E : Value → Shared → Prop} {s : Shared}

theorem snoc_all {P : Nat → Value → Prop} {vs : List Value} {v : Value} (hP : ∀ j u, vs[j]? = some u → P j u) (hv : P vs.length v) : ∀ j u, (vs ++ [v])[j]? = some u → P j u := fun j u hj => by
  rcases Nat.lt_trichotomy j vs.length with h | h | h
  · exact hP j u (by rwa [List.getElem?_append_left h] at hj)
  · subst h; simp at hj; subst hj; exact hv
  · have hnone : (vs ++ [v])[j]? = none := List.getElem?_eq_none (by rw [List.length_append, List.length_singleton]; omega)
    rw [hnone] at hj; cases hj

/-- how a target is stored -/
structure Tgt (prog : Program) (w : World) (A : Around) (g : Heap) (cenv : Env) (target : PySem.Expr) (I D : Addr) (TA : List (Addr × Obj) → Prop) (TV : Value → (PySem.Str → Option Value) → List (Addr × Obj) → Prop) : Prop where
  va : ∀ v m cs, TV v m cs → TA cs
  ap : ∀ cs, TA cs → ∀ p ∈ cs, p.1 ≠ D ∧ p.1 ≠ I
  asg : ∀ v s₂ m oD oI cs Q' E', TA cs → Fr g cenv.locals s₂.heap m → News g cenv.locals s₂.heap ((D, oD) :: (I, oI) :: cs) →
    (∀ h' tk' m' cs', TV v m' cs' → Fr g cenv.locals h' m' → News g cenv.locals h' ((D, oD) :: (I, oI) :: cs') → Q' () { s₂ with heap := h', toks := tk' }) → wpAny (model prog w) A (assign target cenv v) Q' E' s₂

/-- the loop of a comprehension, with frame and ledger -/
inductive CompInv (g : Heap) (L D I : Addr) (n : Nat) (P : Nat → Value → Prop) (St : Nat → Heap → Prop) (p : Value → Bool) (F : Value → Value → Prop) (TA : List (Addr × Obj) → Prop) (s : Shared) (k : Nat) (s' : Shared) : Prop
  | mk (h' : Heap) (tk : Nat) (m' : PySem.Str → Option Value) (ys : Array Value) (k9 : Nat) (oI : Obj) (cs : List (Addr × Obj)) (vs : List Value) (hs : s' = { s with heap := h', toks := tk }) (st : St vs.length h') (Ff : Fr g L h' m') (Nf : News g L h' ((D, W.listOf ys k9) :: (I, oI) :: cs)) (ta : TA cs) (hP : ∀ j v, vs[j]? = some v → P j v)
    (hF : Paired F (vs.filter p) ys.toList) (hi : vs.length ≤ n) (hk : k = n + 1 - vs.length)
theorem loopN {elt iter target : PySem.Expr} {ifs : List PySem.Expr} {scope : Scope} {pos : Pos} {I D : Addr} {fp wr : List Addr} {n : Nat} {P : Nat → Value → Prop} {St : Nat → Heap → Prop}
    {cenv : Env} {g : Heap} {m : PySem.Str → Option Value} {k0 : Nat} {oI : Obj} {cs : List (Addr × Obj)} {R : Result → Shared → Prop} {TA : List (Addr × Obj) → Prop} {TV : Value → (PySem.Str → Option Value) → List (Addr × Obj) → Prop} (W' : Walks prog w A I fp wr n P St) (p : Value → Bool) (F : Value → Value → Prop)
    (TG : Tgt prog w A g cenv target I D TA TV)
    (hwr : ∀ b ∈ wr, b = I) (hfp : ∀ b ∈ fp, b = I ∨ ∃ o, g.get? b = some o) (hlive : ∀ i h, St i h → ∃ o, h.get? I = some o) (hID : D ≠ I)
    (hst : St 0 s.heap) (hta : TA cs) (Fs : Fr g cenv.locals s.heap m) (Ns : News g cenv.locals s.heap ((D, W.listOf #[] k0) :: (I, oI) :: cs))
    (htests : ∀ i v s₂ m₂ own cs, i < n → P i v → Fr g cenv.locals s₂.heap m₂ → TV v m₂ cs → (∀ p ∈ cs, p ∈ own) → News g cenv.locals s₂.heap own →
      wpAny (model prog w) A (forIn ifs true fun c r => if r = true then do let ok ← isTrue c cenv (eval c cenv); pure (ForInStep.yield ok) else pure (ForInStep.yield r))
        (TestN (p v) g cenv.locals m₂ own s₂) (notedBy (model prog w) A cenv fun e s' => R (.error e) s') s₂)
    (helt : ∀ i v s₂ m₂ own cs, i < n → P i v → p v = true → Fr g cenv.locals s₂.heap m₂ → TV v m₂ cs → (∀ p ∈ cs, p ∈ own) → News g cenv.locals s₂.heap own →
      wpAny (model prog w) A (eval elt cenv) (EltN (F v) g cenv.locals m₂ own s₂) (notedBy (model prog w) A cenv fun e s' => R (.error e) s') s₂)
    (hR : ∀ h' tk m' ys k (vs : List Value), Fr g cenv.locals h' m' → News g cenv.locals h' [(D, W.listOf ys k)] → vs.length = n → (∀ j v, vs[j]? = some v → P j v) →
      Paired F (vs.filter p) ys.toList → R (.ok .next) { s with heap := h', toks := tk })
    (hsz : n ≤ sizeLine) (ht : ∀ v, letOwnedTupleGo target (.ref I) v = pure () := by intro _; rfl) :
    codeAny (model prog w) A (.compLoop (.ListComp elt [⟨target, iter, ifs, 0⟩] scope pos) 0 (.ref I) (.ref D) cenv) R s := by
  refine codeAny_compLoop_tests (ht := ht)
    (fun k s' => CompInv g cenv.locals D I n P St p F TA s k s') ?_ (n + 1)
    ⟨s.heap, s.toks, m, #[], k0, oI, cs, [], rfl, hst, Fs, Ns, hta, by simp, by simpa using Paired.nil, Nat.zero_le _, rfl⟩
  clear hst Fs Ns hta
  rintro k s' ⟨H, tk, m', ys, k9, oI, cs, vs, rfl, hst', F', N', hta, hP, hF, hi, rfl⟩
  have nD := N' _ (.head _)
  have nI := N' _ (.tail _ (.head _))
  have offg : ∀ b ∈ wr, g.get? b = none := fun b hb => by rw [hwr b hb]; exact nI.2.2
  have hCw : cenv.locals ∉ wr := fun h => nI.2.1 (hwr _ h).symm
  have hDw : D ∉ wr := fun h => hID (hwr _ h)
  have keepfp : ∀ {h₂ h₃ : Heap} {m₂ m₃ : PySem.Str → Option Value} {oI : Obj}, Fr g cenv.locals h₂ m₂ → Fr g cenv.locals h₃ m₃ → h₂.get? I = some oI → h₃.get? I = some oI → ∀ b ∈ fp, ∀ o, h₂.get? b = some o → h₃.get? b = some o := by
    intro h₂ h₃ m₂ m₃ oI f2 f3 e2 e3 b hb o e
    rcases hfp b hb with rfl | ⟨o', e'⟩
    · rw [e2] at e; cases e; exact e3
    · have := f2.keep _ _ e'
      rw [this] at e; cases e
      exact f3.keep _ _ e'
  by_cases hlt : vs.length < n
  · refine W'.item vs.length _ _ _ hlt hst' fun v h₁ tk₁ hPv hst₁ hk₁ => ?_
    have F1 : Fr g cenv.locals h₁ m' := ⟨F'.ns.at' fun o e => hk₁ _ o hCw e, fun b o e => hk₁ b o (fun z => by rw [offg b z] at e; cases e) (F'.keep b o e), F'.above⟩
    obtain ⟨oI1, eI1⟩ := hlive _ _ hst₁
    have N1 : News g cenv.locals h₁ ((D, W.listOf ys k9) :: (I, oI1) :: cs) := fun q hq => by
      rcases List.mem_cons.mp hq with rfl | hq
      · exact ⟨hk₁ _ _ hDw nD.1, nD.2⟩
      · rcases List.mem_cons.mp hq with rfl | hq
        · exact ⟨eI1, nI.2⟩
        · have z := N' q (.tail _ (.tail _ hq))
          exact ⟨hk₁ _ _ (fun h => (TG.ap cs hta q hq).2 (hwr _ h)) z.1, z.2⟩
    refine TG.asg v { s with heap := h₁, toks := tk₁ } m' _ _ cs _ _ hta F1 N1 fun h₂ tk₁ m₂ cs₂ htv F2 N2 => ?_
    have ap2 := TG.ap _ (TG.va _ _ _ htv)
    have hst₂ : St (vs.length + 1) h₂ := W'.frame _ _ _ hst₁ (keepfp F1 F2 eI1 (N2 _ (.tail _ (.head _))).1)
    refine wpAny_mono (htests vs.length v { s with heap := h₂, toks := tk₁ } _ _ cs₂ hlt hPv F2 htv (fun q hq => .tail _ (.tail _ hq)) N2) (fun ok s₃ h₃ => ?_) fun _ _ e => e
    obtain ⟨rfl, ⟨h₃, tk₃, nx₃, rfl, F3, N3, sub3⟩⟩ := h₃
    have N3' : News g cenv.locals h₃ ((D, W.listOf ys k9) :: (I, oI1) :: cs₂) := fun q hq => N3 q (sub3 q hq)
    have hst₃ : St (vs.length + 1) h₃ := W'.frame _ _ _ hst₂ (keepfp F2 F3 (N2 _ (.tail _ (.head _))).1 (N3' _ (.tail _ (.head _))).1)
    cases hpv : p v with
    | false =>
      simp only [Bool.false_eq_true, if_false]
      refine ⟨n + 1 - (vs.length + 1), by omega, h₃, tk₃, _, ys, k9, oI1, cs₂, vs ++ [v], rfl, by simpa using hst₃, F3, N3', TG.va _ _ _ htv, snoc_all hP hPv, ?_, (by rw [List.length_append, List.length_singleton]; exact hlt), (by rw [List.length_append, List.length_singleton])⟩
      rw [List.filter_append]; simpa [hpv] using hF
    | true =>
      simp only [if_true]
      refine wpAny_mono (helt vs.length v { s with heap := h₃, toks := tk₃ } _ _ cs₂ hlt hPv hpv F3 htv (fun q hq => .tail _ (.tail _ hq)) N3') (fun y s₄ h₄ => ?_) fun _ _ e => e
      obtain ⟨hy, ⟨h₄, tk₄, nx₄, rfl, F4, N4, sub4⟩⟩ := h₄
      have N4' : News g cenv.locals h₄ ((D, W.listOf ys k9) :: (I, oI1) :: cs₂) := fun q hq => N4 q (sub4 q hq)
      have hst₄ : St (vs.length + 1) h₄ := W'.frame _ _ _ hst₃ (keepfp F3 F4 (N3' _ (.tail _ (.head _))).1 (N4' _ (.tail _ (.head _))).1)
      have hysz : ys.size ≤ n := by
        have := hF.length
        have h2 := List.length_filter_le p vs
        rw [← Array.length_toList]; omega
      refine append_K (s := { s with heap := h₄, toks := tk₄ }) F4 N4' (Upd.head fun q hq => ?_) (fun h₅ F5 N5 => ?_) (by omega)
      · rcases List.mem_cons.mp hq with rfl | hq
        · exact Ne.symm hID
        · exact (ap2 q hq).1
      refine ⟨n + 1 - (vs.length + 1), by omega, h₅, tk₄, _, ys.push y, k9 + 1, oI1, cs₂, vs ++ [v], rfl, ?_, F5, N5, TG.va _ _ _ htv, snoc_all hP hPv, ?_, (by rw [List.length_append, List.length_singleton]; exact hlt), (by rw [List.length_append, List.length_singleton])⟩
      · rw [List.length_append, List.length_singleton]
        exact W'.frame _ _ _ hst₄ (keepfp F4 F5 (N4' _ (.tail _ (.head _))).1 (N5 _ (.tail _ (.head _))).1)
      · rw [List.filter_append, Array.toList_push]
        have : [v].filter p = [v] := by simp [hpv]
        rw [this]
        exact hF.snoc hy
  · have hin : vs.length = n := by omega
    rw [hin] at hst'
    refine W'.done { s with heap := H, toks := tk } _ _ hst' fun h₁ tk₁ hk₁ => ?_
    have F1 : Fr g cenv.locals h₁ m' := ⟨F'.ns.at' fun o e => hk₁ _ o hCw e, fun b o e => hk₁ b o (fun z => by rw [offg b z] at e; cases e) (F'.keep b o e), F'.above⟩
    exact hR h₁ tk₁ m' ys k9 vs F1 (fun q hq => by rw [List.mem_singleton.mp hq]; exact ⟨hk₁ _ _ hDw nD.1, nD.2⟩) hin hP hF

theorem tgt_local {g : Heap} {cenv : Env} {x : PySem.Str} {px : Pos} {I D : Addr} (hx : cenv.kindOf x = some .local) (hp : (cenv.scope.kind == .class || (cenv.scope.kind == .module && cenv.locals != cenv.globals)) = false) :
    Tgt prog w A g cenv (.Name x px) I D (fun cs => cs = []) (fun v m cs => m x = some v ∧ cs = []) where
  va := fun _ _ _ h => h.2
  ap := fun cs h q hq => by rw [h] at hq; cases hq
  asg := fun v s₂ m oD oI cs Q' E' hcs F N h => by
    subst hcs
    refine wpAny_assign_Name (wpAny_storeName_local hx F.ns (fun h₂ hn₂ hs₂ => ?_) hp)
    refine h h₂ _ _ [] ⟨by simp, rfl⟩ ⟨hn₂, fun b o e => hs₂.extBut b o (fun z => by rw [z, Heap.get?_none_of_le F.above] at e; cases e) (F.keep b o e), F.above⟩ (fun q hq => ?_)
    have z := N q hq
    exact ⟨hs₂.extBut _ _ z.2.1 z.1, z.2⟩
theorem tgt_cell {g : Heap} {cenv : Env} {x : PySem.Str} {px : Pos} {I D c : Addr} (hk : cenv.scope.kind = .function) (hx : cenv.kindOf x = some .cell) (hcl : cenv.cells.lookup x = some c) (h1 : c ≠ D) (h2 : c ≠ I) :
    Tgt prog w A g cenv (.Name x px) I D (fun cs => ∃ oc u, cs = [(c, oc)] ∧ oc.data = .cell u) (fun v m cs => ∃ oc, cs = [(c, oc)] ∧ oc.data = .cell (some v)) where
  va := fun _ _ _ ⟨oc, e, d⟩ => ⟨oc, _, e, d⟩
  ap := fun cs ⟨oc, u, e, d⟩ q hq => by
    rw [e] at hq; rw [List.mem_singleton.mp hq]; exact ⟨h1, h2⟩
  asg := fun v s₂ m oD oI cs Q' E' ⟨oc, u, hcs, hd⟩ F N h => by
    subst hcs
    have nc := N (c, oc) (.tail _ (.tail _ (.head _)))
    refine wpAny_assign_Name (wpAny_storeName_cell hk hx hcl ⟨oc, nc.1, hd⟩ fun h₂ hv hs₂ => ?_)
    obtain ⟨o', ho', hd'⟩ := hv
    refine h h₂ _ m [(c, o')] ⟨o', rfl, hd'⟩ ⟨F.ns.sameBut hs₂ (Ne.symm nc.2.1), fun b o e => (hs₂.2 b (fun z => by rw [z, nc.2.2] at e; cases e)).trans (F.keep b o e), F.above⟩ (fun q hq => ?_)
    simp only [List.mem_cons, List.not_mem_nil, or_false] at hq
    rcases hq with rfl | rfl | rfl
    · have z := N (D, oD) (.head _)
      exact ⟨(hs₂.2 _ (Ne.symm h1)).trans z.1, z.2⟩
    · have z := N (I, oI) (.tail _ (.head _))
      exact ⟨(hs₂.2 _ (Ne.symm h2)).trans z.1, z.2⟩
    · exact ⟨ho', nc.2⟩

theorem Src.iterL {xv : Value} {n : Nat} {P : Nat → Value → Prop} {Q : Value → Shared → Prop} (S : Src s.heap xv n P) (hns : ∀ x t, xv ≠ .str x t) (hh : A.handled = none)
    (h : ∀ (o : Obj) (fp : List Addr) (St : Nat → Heap → Prop), Walks prog w A s.heap.objs.size fp [s.heap.objs.size] n P St → St 0 (s.heap.push o) →
      (∀ b ∈ fp, b = s.heap.objs.size ∨ ∃ o, s.heap.get? b = some o) → (∀ i h, St i h → ∃ o, h.get? s.heap.objs.size = some o) → Q (.ref s.heap.objs.size) { s with heap := s.heap.push o }) :
    wpAny (model prog w) A (pyIter xv) Q E s := by
  cases S with
  | str x t => exact absurd rfl (hns x t)
  | list l items hl =>
    obtain ⟨ol, hol, _⟩ := id hl
    have hne : l ≠ s.heap.objs.size := Nat.ne_of_lt (Heap.lt_size hol)
    refine wpAny_pyIter_list hl ?_
    refine h _ _ _ (Walks.list (prog := prog) (w := w) hh s.heap.objs.size l hne items) ⟨⟨_, Heap.get?_push_size _ rfl, rfl, rfl⟩, hl.at fun o e => Heap.get?_push_of_some _ e⟩ (fun b hb => ?_) (fun i h st => ?_)
    · rcases List.mem_cons.mp hb with e | hb
      · exact .inl e
      · rw [List.mem_singleton.mp hb]; exact .inr ⟨_, hol⟩
    · obtain ⟨⟨o, ho, _⟩, _⟩ := st
      exact ⟨o, ho⟩
  | range r a b t u v n hr hsm hn =>
    refine wpAny_pyIter_range hr hsm ?_
    refine h _ _ _ (LCg.range_walks hh a n) ?_ (fun b hb => .inl (List.mem_singleton.mp hb)) (fun i h st => ⟨_, st⟩)
    have e : (s.heap.push { cls := .type "range_iterator", data := .fields #[rawInt a, rawInt (Builtin.Range.rangeSize a b 1), rawInt 1] }).get? s.heap.objs.size = some _ := Heap.get?_push_size _ rfl
    show (Heap.get? _ _) = some _
    rw [e, hn]
    simp

structure CompNPre (prog : Program) (w : World) (A : Around) (env : Env) (scope : Scope) (cl : List (PySem.Str × Addr)) (x : PySem.Str) (ifs : List PySem.Expr) (elt : PySem.Expr) (p : Value → Bool) (F : Value → Value → Prop) (Q : Value → Shared → Prop) (xv : Value) (s₁ : Shared) (n : Nat) (P : Nat → Value → Prop) : Prop where
  src : Src s₁.heap xv n P
  ns : ∀ x t, xv ≠ .str x t
  size : n ≤ sizeLine
  tests : ∀ C i v s₃ m₃ own E', i < n → P i v → Fr s₁.heap C s₃.heap m₃ → m₃ x = some v → News s₁.heap C s₃.heap own →
        wpAny (model prog w) A (forIn ifs true fun c r => if r = true then do let ok ← isTrue c (compEnvC scope cl C env) (eval c (compEnvC scope cl C env)); pure (ForInStep.yield ok) else pure (ForInStep.yield r))
          (TestN (p v) s₁.heap C m₃ own s₃) E' s₃
  elt : ∀ C i v s₃ m₃ own E', i < n → P i v → p v = true → Fr s₁.heap C s₃.heap m₃ → m₃ x = some v → News s₁.heap C s₃.heap own →
        wpAny (model prog w) A (eval elt (compEnvC scope cl C env)) (EltN (F v) s₁.heap C m₃ own s₃) E' s₃
  done : ∀ D k h' tk (ys : Array Value) (vs : List Value), s₁.heap.get? D = none → h'.get? D = some (W.listOf ys k) → vs.length = n → (∀ j v, vs[j]? = some v → P j v) → Paired F (vs.filter p) ys.toList →
        Kept s₁.heap h' → Q (.ref D) { s₁ with heap := h', toks := tk }
inductive CompNAt (prog : Program) (w : World) (A : Around) (env : Env) (scope : Scope) (cl : List (PySem.Str × Addr)) (x : PySem.Str) (ifs : List PySem.Expr) (elt : PySem.Expr) (p : Value → Bool) (F : Value → Value → Prop) (Q : Value → Shared → Prop) (xv : Value) (s₁ : Shared) : Prop
  | mk (n : Nat) (P : Nat → Value → Prop) (h : CompNPre prog w A env scope cl x ifs elt p F Q xv s₁ n P)
theorem fresh_ge {h : Heap} {a : Addr} (ha : h.objs.size ≤ a) : h.get? a = none := by
  cases e : h.get? a with
  | none => rfl
  | some o' => exact absurd (Heap.lt_size e) (Nat.not_lt.mpr ha)
theorem lcompN {elt iter : PySem.Expr} {x : PySem.Str} {px : Pos} {ifs : List PySem.Expr} {scope : Scope} {cl : List (PySem.Str × Addr)} {pos : Pos} {env : Env} {Q : Value → Shared → Prop} (p : Value → Bool) (F : Value → Value → Prop)
    (hh : A.handled = none)
    (hclos : closureFor scope env = pure cl) (hcell : ∀ y ∈ scope.names, y.2 ≠ .cell) (hkind : scope.kind = .function)
    (hnames : ∀ y ∈ scope.names, y.2 = .local → scope.names.lookup y.1 = some .local) (hx : scope.names.lookup x = some .local)
    (h : wpAny (model prog w) A (eval iter env) (CompNAt prog w A env scope cl x ifs elt p F Q) E s)
    (hs : ∀ x, foldedSetIterable iter env x = pure x := by intro _; rfl) :
    wpAny (model prog w) A (eval (.ListComp elt [⟨.Name x px, iter, ifs, 0⟩] scope pos) env) Q E s := by
  rw [eval_ListComp]
  refine wpAny_comprehension_free (use := none) rfl hs hclos hkind hnames (wpAny_mono h (fun xv s₁ h₁ => ?_) fun _ _ e => e)
  obtain ⟨n, P, R⟩ := h₁
  refine Src.iterL R.src R.ns hh fun o fp St W' hst hfp hlive => ?_
  refine wpAny_newObj_type (wpAny_newFunctionEnv hcell (by intro y hy; simp at hy) (fun h₁ hns₁ hsb₁ => ?_) hkind)
  dsimp only at hns₁ hsb₁ ⊢
  have sz1 : (s₁.heap.push o).objs.size = s₁.heap.objs.size + 1 := Heap.size_push ..
  generalize hH2 : (s₁.heap.push o).push { cls := .type "list", dict := none, data := .seq ([] : List Value).toArray } = H2 at hns₁ hsb₁ ⊢
  have hC : H2.objs.size = s₁.heap.objs.size + 2 := by rw [← hH2, Heap.size_push, sz1]
  generalize eI : s₁.heap.objs.size = I at *
  generalize eD : (s₁.heap.push o).objs.size = D at *
  generalize eC : H2.objs.size = C at *
  have old2 : ∀ b o', H2.get? b = some o' → h₁.get? b = some o' := fun b o' e => hsb₁.extBut b o' (fun z => by have := Heap.lt_size e; rw [z, eC] at this; exact Nat.lt_irrefl _ this) (Heap.get?_push_of_some _ e)
  obtain ⟨oi, hoi⟩ := hlive _ _ hst
  have gI : h₁.get? I = some oi := old2 _ _ (by rw [← hH2]; exact Heap.get?_push_of_some _ hoi)
  have gD : h₁.get? D = some (W.listOf #[] 0) := old2 _ _ (by rw [← hH2, ← eD]; exact Heap.get?_push_size _ rfl)
  have old : Kept s₁.heap h₁ := fun b o' e => old2 b o' (by rw [← hH2]; exact Heap.get?_push_of_some _ (Heap.get?_push_of_some _ e))
  have F0 : Fr s₁.heap C h₁ _ := ⟨hns₁, old, by rw [eI, hC]; exact Nat.le_add_right _ _⟩
  have N0 : News s₁.heap C h₁ ((D, W.listOf #[] 0) :: (I, oi) :: []) := fun q hq => by
    simp only [List.mem_cons, List.not_mem_nil, or_false] at hq
    rcases hq with rfl | rfl
    · exact ⟨gD, (fun z : @Eq Nat D C => by omega), fresh_ge (by rw [eI]; show @LE.le Nat _ I D; omega)⟩
    · exact ⟨gI, (fun z : @Eq Nat I C => by omega), fresh_ge (by rw [eI]; exact Nat.le_refl _)⟩
  have hst₁ : St 0 h₁ := W'.frame _ _ _ hst fun b hb o' e => old2 b o' (by rw [← hH2]; exact Heap.get?_push_of_some _ e)
  have hID : D ≠ I := fun z : @Eq Nat D I => by omega
  have loop : ∀ s₃ : Shared, s₃.heap = h₁ → s₃ = { s₁ with heap := h₁, toks := s₃.toks } →
      codeAny (model prog w) A (.compLoop (.ListComp elt [⟨.Name x px, iter, ifs, 0⟩] scope pos) 0 (.ref I) (.ref D) (compEnvC scope cl C env))
        (compPost (model prog w) A E none Q (.ref D) C) s₃ := by
    rintro s₃ e1 e2
    have hxk : (compEnvC scope cl C env).kindOf x = some .local := lookup_relabel_local hx
    have hpk : ((compEnvC scope cl C env).scope.kind == .class || ((compEnvC scope cl C env).scope.kind == .module && (compEnvC scope cl C env).locals != (compEnvC scope cl C env).globals)) = false := by simp [compEnvC, relabel, hkind]
    refine loopN (cenv := compEnvC scope cl C env) W' p F (tgt_local hxk hpk) (fun b hb => List.mem_singleton.mp hb) hfp hlive hID (by rw [e1]; exact hst₁) rfl (by rw [e1]; exact F0) (by rw [e1]; exact N0)
      (fun i v s₂ m₂ own cs hi hv hF htv hcs hN => R.tests C i v s₂ m₂ own _ hi hv hF htv.1 hN)
      (fun i v s₂ m₂ own cs hi hv hpv hF htv hcs hN => R.elt C i v s₂ m₂ own _ hi hv hpv hF htv.1 hN) (fun h' tk m' ys k vs hF hN hlen hP hPr => ?_) R.size
    rw [e2]
    have nD := hN _ (.head _)
    refine ⟨m', hF.ns, fun h'' hs'' => ?_⟩
    exact R.done D k h'' tk ys vs nD.2.2 (hs''.extBut _ _ nD.2.1 nD.1) hlen hP hPr fun b o' e => hs''.extBut b o' (fun z => by rw [z, fresh_ge (by rw [eI]; show @LE.le Nat _ I C; omega)] at e; cases e) (hF.keep b o' e)
  exact codeAny_compStart_list (loop _ rfl rfl) (W'.self 0 _ _ _ hst₁ (loop _ rfl rfl))
end
end Mine

end F_B3c
section F_B3d
open PySem PySem.Spec PySem.W PySem.Calls PyProof.Rows
namespace Mine
section
variable {prog : Program} {w : World} {A : Around} {E : Value → Shared → Prop} {s : Shared}
theorem cellsFrom_no : ∀ (rest : List (PySem.Str × NameKind)) (n : Nat) (acc : List (PySem.Str × Addr)), (∀ y ∈ rest, y.2 ≠ .cell) → cellsFrom n rest acc = acc
  | [], _, _, _ => rfl
  | (y, k) :: r, n, acc, h => by
    have hk : (k == NameKind.cell) = false := by simpa using h (y, k) (.head _)
    unfold cellsFrom
    rw [hk, if_neg (by decide)]
    exact cellsFrom_no r n acc fun z hz => h z (.tail _ hz)
theorem pushCells_no : ∀ (rest : List (PySem.Str × NameKind)) (h : Heap), (∀ y ∈ rest, y.2 ≠ .cell) → pushCells h rest = h
  | [], _, _ => rfl
  | (y, k) :: r, h, hr => by
    have hk : (k == NameKind.cell) = false := by simpa using hr (y, k) (.head _)
    unfold pushCells
    rw [hk, if_neg (by decide)]
    exact pushCells_no r h fun z hz => hr z (.tail _ hz)

structure CompCPre (prog : Program) (w : World) (A : Around) (env : Env) (scope : Scope) (cl : List (PySem.Str × Addr)) (x : PySem.Str) (ifs : List PySem.Expr) (elt : PySem.Expr) (p : Value → Bool) (F : Value → Value → Prop) (Q : Value → Shared → Prop) (xv : Value) (s₁ : Shared) (n : Nat) (P : Nat → Value → Prop) : Prop where
  src : Src s₁.heap xv n P
  ns : ∀ x t, xv ≠ .str x t
  size : n ≤ sizeLine
  tests : ∀ C i v s₃ m₃ own oc E', i < n → P i v → Fr s₁.heap C s₃.heap m₃ → (C + 1, oc) ∈ own → oc.data = .cell (some v) → News s₁.heap C s₃.heap own →
        wpAny (model prog w) A (forIn ifs true fun c r => if r = true then do let ok ← isTrue c (compEnvC scope ((x, C + 1) :: cl) C env) (eval c (compEnvC scope ((x, C + 1) :: cl) C env)); pure (ForInStep.yield ok) else pure (ForInStep.yield r))
          (TestN (p v) s₁.heap C m₃ own s₃) E' s₃
  elt : ∀ C i v s₃ m₃ own oc E', i < n → P i v → p v = true → Fr s₁.heap C s₃.heap m₃ → (C + 1, oc) ∈ own → oc.data = .cell (some v) → News s₁.heap C s₃.heap own →
        wpAny (model prog w) A (eval elt (compEnvC scope ((x, C + 1) :: cl) C env)) (EltN (F v) s₁.heap C m₃ own s₃) E' s₃
  done : ∀ D k h' tk (ys : Array Value) (vs : List Value), s₁.heap.get? D = none → h'.get? D = some (W.listOf ys k) → vs.length = n → (∀ j v, vs[j]? = some v → P j v) → Paired F (vs.filter p) ys.toList →
        Kept s₁.heap h' → Q (.ref D) { s₁ with heap := h', toks := tk }
inductive CompCAt (prog : Program) (w : World) (A : Around) (env : Env) (scope : Scope) (cl : List (PySem.Str × Addr)) (x : PySem.Str) (ifs : List PySem.Expr) (elt : PySem.Expr) (p : Value → Bool) (F : Value → Value → Prop) (Q : Value → Shared → Prop) (xv : Value) (s₁ : Shared) : Prop
  | mk (n : Nat) (P : Nat → Value → Prop) (h : CompCPre prog w A env scope cl x ifs elt p F Q xv s₁ n P)
theorem lcompNC {elt iter : PySem.Expr} {x z0 : PySem.Str} {px : Pos} {ifs : List PySem.Expr} {scope : Scope} {rest : List (PySem.Str × NameKind)} {cl : List (PySem.Str × Addr)} {pos : Pos} {env : Env} {Q : Value → Shared → Prop} (p : Value → Bool) (F : Value → Value → Prop)
    (hh : A.handled = none)
    (hclos : closureFor scope env = pure cl) (hnm : scope.names = (z0, .local) :: (x, .cell) :: rest) (hrest : ∀ y ∈ rest, y.2 ≠ .cell) (hkind : scope.kind = .function)
    (hnames : ∀ y ∈ scope.names, y.2 = .local → scope.names.lookup y.1 = some .local) (hx : (relabel scope env).names.lookup x = some .cell)
    (h : wpAny (model prog w) A (eval iter env) (CompCAt prog w A env scope cl x ifs elt p F Q) E s)
    (hs : ∀ x, foldedSetIterable iter env x = pure x := by intro _; rfl) :
    wpAny (model prog w) A (eval (.ListComp elt [⟨.Name x px, iter, ifs, 0⟩] scope pos) env) Q E s := by
  rw [eval_ListComp]
  refine wpAny_comprehension_free (use := none) rfl hs hclos hkind hnames (wpAny_mono h (fun xv s₁ h₁ => ?_) fun _ _ e => e)
  obtain ⟨n, P, R⟩ := h₁
  refine Src.iterL R.src R.ns hh fun o fp St W' hst hfp hlive => ?_
  refine wpAny_newObj_type ?_
  try dsimp only
  have sz1 : (s₁.heap.push o).objs.size = s₁.heap.objs.size + 1 := Heap.size_push ..
  generalize hH2 : (s₁.heap.push o).push { cls := .type "list", dict := none, data := .seq ([] : List Value).toArray } = H2
  have hC : H2.objs.size = s₁.heap.objs.size + 2 := by rw [← hH2, Heap.size_push, sz1]
  obtain ⟨oi, hoi⟩ := hlive _ _ hst
  generalize eI : s₁.heap.objs.size = I at *
  generalize eD : (s₁.heap.push o).objs.size = D at *
  simp only [newFunctionEnv]
  refine wpAny_bind (wpAny_alloc ?_)
  refine wpAny_bind (wpAny_layCells _ (fun name kind cells => by cases hkc : kind == NameKind.cell <;> simp [hkc]) _ _ _ _ ?_)
  try dsimp only
  rw [hnm]
  simp only [List.forIn_nil]
  have c1 : ∀ k, cellsFrom k ((z0, NameKind.local) :: (x, NameKind.cell) :: rest) cl = (x, k) :: cl := fun k => by
    show cellsFrom k ((x, NameKind.cell) :: rest) cl = _
    show cellsFrom (k + 1) rest ((x, k) :: cl) = _
    exact cellsFrom_no _ _ _ hrest
  have c2 : ∀ h : Heap, pushCells h ((z0, NameKind.local) :: (x, NameKind.cell) :: rest) = h.push { cls := .type "cell", data := .cell none } := fun h => by
    show pushCells (h.push _) rest = _
    exact pushCells_no _ _ hrest
  rw [c1, c2]
  refine wpAny_bind (wpAny_pure (wpAny_pure ?_))
  dsimp only [Option.isSome]
  simp only [if_true]
  generalize eC : H2.objs.size = C at *
  have old2 : ∀ b o', H2.get? b = some o' → ((H2.push { cls := .type "dict", data := .dict #[] }).push { cls := .type "cell", data := .cell none }).get? b = some o' := fun b o' e => Heap.get?_push_of_some _ (Heap.get?_push_of_some _ e)
  have eC1 : (H2.push { cls := .type "dict", data := .dict #[] }).objs.size = C + 1 := by rw [Heap.size_push, eC]
  have hns₁ : ((H2.push { cls := .type "dict", data := .dict #[] }).push { cls := .type "cell", data := .cell none }).Ns C (fun _ => none) := by
    have := (Heap.Ns.new H2 (.type "dict")).keeps (h' := (H2.push { cls := .type "dict", data := .dict #[] }).push { cls := .type "cell", data := .cell none }) (fun b o e => Heap.get?_push_of_some _ e)
    rw [eC] at this
    exact this
  have gc : ((H2.push { cls := .type "dict", data := .dict #[] }).push { cls := .type "cell", data := .cell none }).get? (C + 1) = some { cls := .type "cell", data := .cell none } := by
    rw [← eC1]; exact Heap.get?_push_size _ rfl
  generalize eh : (H2.push { cls := .type "dict", data := .dict #[] }).push { cls := .type "cell", data := .cell none } = h₁ at *
  rw [eC1]
  have gI : h₁.get? I = some oi := old2 _ _ (by rw [← hH2]; exact Heap.get?_push_of_some _ hoi)
  have gD : h₁.get? D = some (W.listOf #[] 0) := old2 _ _ (by rw [← hH2, ← eD]; exact Heap.get?_push_size _ rfl)
  have old : Kept s₁.heap h₁ := fun b o' e => old2 b o' (by rw [← hH2]; exact Heap.get?_push_of_some _ (Heap.get?_push_of_some _ e))
  have F0 : Fr s₁.heap C h₁ _ := ⟨hns₁, old, by rw [eI, hC]; exact Nat.le_add_right _ _⟩
  have N0 : News s₁.heap C h₁ ((D, W.listOf #[] 0) :: (I, oi) :: [(C + 1, { cls := .type "cell", data := .cell none })]) := fun q hq => by
    simp only [List.mem_cons, List.not_mem_nil, or_false] at hq
    rcases hq with rfl | rfl | rfl
    · exact ⟨gD, (fun z : @Eq Nat D C => by omega), fresh_ge (by rw [eI]; show @LE.le Nat _ I D; omega)⟩
    · exact ⟨gI, (fun z : @Eq Nat I C => by omega), fresh_ge (by rw [eI]; exact Nat.le_refl _)⟩
    · exact ⟨gc, (fun z : @Eq Nat (C + 1) C => by omega), fresh_ge (by rw [eI]; show @LE.le Nat _ I (C + 1); omega)⟩
  have hst₁ : St 0 h₁ := W'.frame _ _ _ hst fun b hb o' e => old2 b o' (by rw [← hH2]; exact Heap.get?_push_of_some _ e)
  have hID : D ≠ I := fun z : @Eq Nat D I => by omega
  have loop : ∀ s₃ : Shared, s₃.heap = h₁ → s₃ = { s₁ with heap := h₁, toks := s₃.toks } →
      codeAny (model prog w) A (.compLoop (.ListComp elt [⟨.Name x px, iter, ifs, 0⟩] scope pos) 0 (.ref I) (.ref D) (compEnvC scope ((x, C + 1) :: cl) C env))
        (compPost (model prog w) A E none Q (.ref D) C) s₃ := by
    rintro s₃ e1 e2
    refine loopN (cenv := compEnvC scope ((x, C + 1) :: cl) C env) W' p F (tgt_cell (c := C + 1) hkind hx (by show List.lookup x ((x, C + 1) :: cl) = _; simp) (fun z : @Eq Nat (C + 1) D => by omega) (fun z : @Eq Nat (C + 1) I => by omega)) (fun b hb => List.mem_singleton.mp hb) hfp hlive hID (by rw [e1]; exact hst₁) ⟨_, _, rfl, rfl⟩ (by rw [e1]; exact F0) (by rw [e1]; exact N0)
      (fun i v s₂ m₂ own cs hi hv hF htv hcs hN => by
        obtain ⟨oc, rfl, hd⟩ := htv
        exact R.tests C i v s₂ m₂ own oc _ hi hv hF (hcs _ (.head _)) hd hN)
      (fun i v s₂ m₂ own cs hi hv hpv hF htv hcs hN => by
        obtain ⟨oc, rfl, hd⟩ := htv
        exact R.elt C i v s₂ m₂ own oc _ hi hv hpv hF (hcs _ (.head _)) hd hN) (fun h' tk m' ys k vs hF hN hlen hP hPr => ?_) R.size
    rw [e2]
    have nD := hN _ (.head _)
    refine ⟨m', hF.ns, fun h'' hs'' => ?_⟩
    exact R.done D k h'' tk ys vs nD.2.2 (hs''.extBut _ _ nD.2.1 nD.1) hlen hP hPr fun b o' e => hs''.extBut b o' (fun z => by rw [z, fresh_ge (by rw [eI]; show @LE.le Nat _ I C; omega)] at e; cases e) (hF.keep b o' e)
  exact codeAny_compStart_list (loop _ rfl rfl) (W'.self 0 _ _ _ hst₁ (loop _ rfl rfl))
end
end Mine

end F_B3d
section F_B4a
open PySem PySem.Spec PySem.W PySem.Calls PyProof.Rows Builtin Builtin.ObjectAttr
namespace Mine
theorem slot_fn_setattr : Slot "function" "__setattr__" "object.__setattr__" :=
  .of (owner := "object") (n := "__setattr__") (by rw [typeLookup_type, builtinLookup_eq_fast]; kernel_rfl) (by decide +kernel) (by decide +kernel) (by decide +kernel)
    (by first | exact .inl (by decide +kernel) | exact .inr (by decide +kernel)) (by rw [isSubtype_type]; kernel_rfl)
theorem fn_no_read : typeLookup (.type "function") "read" = pure none := by rw [typeLookup_type, builtinLookup_eq_fast]; kernel_rfl
theorem fn_mro : mroOf (.type "function") = pure [.type "function", .type "object"] := by kernel_rfl
theorem fn_passes (self : Value) : refuseLoop self "__setattr__" [.type "function", .type "object"] = pure () := by kernel_rfl
theorem fn_hasDict : typeHasDict (.type "function") = true := by decide +kernel

theorem setAttr_fn {prog : Program} {w : World} {A : Around} {E : Value → Shared → Prop} {s : Shared} {h₀ : Heap} {L f : Addr} {m : PySem.Str → Option Value} {pre post : List (Addr × Obj)} {fd : FuncData} {sl : Array (Option Value)} {v : Value} {Q : Unit → Shared → Prop}
    (F : Fr h₀ L s.heap m) (N : News h₀ L s.heap (pre ++ (f, ⟨.type "function", none, .func fd, sl⟩) :: post)) (h1 : ∀ p ∈ pre, p.1 ≠ f) (h2 : ∀ p ∈ post, p.1 ≠ f)
    (h : ∀ d key tk' h', Fr h₀ L h' m → News h₀ L h' ((d, dictOf [⟨PyData.keyHash w.params "read", .str "read" key, v⟩] 1) :: pre ++ (f, ⟨.type "function", some d, .func fd, sl⟩) :: post) → (∀ p ∈ pre, p.1 < d) → f < d → (∀ p ∈ post, p.1 < d) → Q () { s with heap := h', toks := tk' }) :
    wpAny (model prog w) A (setAttr (.ref f) "read" v) Q E s := by
  have hfm : (f, (⟨.type "function", none, .func fd, sl⟩ : Obj)) ∈ pre ++ (f, ⟨.type "function", none, .func fd, sl⟩) :: post := List.mem_append_right _ (.head _)
  have hf := (N _ hfm).1
  unfold setAttr
  refine wpAny_bind (wpAny_mkText (wpAny_bind ?_))
  refine wpAny_callSpecial?_slot (s := { s with toks := s.toks + 1 }) (T := "function") ⟨_, hf, rfl⟩ slot_fn_setattr (wpAny_call_entry slot_fn_setattr ⟨_, hf, rfl⟩ PySem.F.store_object.entry ?_ (PySem.F.store_object.args _ _ _))
  rw [osa_eq, refuse_eq]
  refine wpAny_bind (wpAny_bind (wpAny_typeOf ⟨_, hf, rfl⟩ ?_))
  rw [fn_mro]
  refine wpAny_bind (wpAny_pure ?_)
  rw [fn_passes]
  refine wpAny_pure (wpAny_bind (wpAny_typeOf ⟨_, hf, rfl⟩ ?_))
  rw [fn_no_read]
  refine wpAny_bind (wpAny_pure (wpAny_bind (wpAny_pure ?_)))
  show wpAny _ _ (storeInOwnDict _ _ _ _ _ _) _ _ _
  unfold storeInOwnDict
  refine wpAny_bind (wpAny_pure ?_)
  show wpAny _ _ (ownDictForStores (.ref f) >>= _) _ _ _
  unfold ownDictForStores
  show wpAny _ _ (instanceDict f true >>= _) _ _ _
  unfold instanceDict
  refine wpAny_bind (wpAny_bind (wpAny_loadPart hf ?_))
  try dsimp only
  rw [fn_hasDict]
  have hnew : ∀ q ∈ pre ++ (f, (⟨.type "function", none, .func fd, sl⟩ : Obj)) :: post, q.1 < s.heap.objs.size := fun q hq => Heap.lt_size (N q hq).1
  have F1 := F.push (dictOf [] 0)
  have N1 := N.push F (dictOf [] 0) rfl
  have hsz : s.heap.objs.size = s.heap.objs.size := rfl
  generalize hd : s.heap.objs.size = d at hsz hnew N1
  have hdf : d ≠ f := Ne.symm (Nat.ne_of_lt (hnew _ hfm))
  have N1' : News h₀ L (s.heap.push (dictOf [] 0)) (((d, dictOf [] 0) :: pre) ++ (f, ⟨.type "function", none, .func fd, sl⟩) :: post) := N1
  obtain ⟨F2, N2⟩ := news_upd (f := fun o => { o with dict := some d }) (o' := ⟨.type "function", some d, .func fd, sl⟩) F1 N1' (fun q hq => by
    rcases List.mem_cons.mp hq with rfl | hq
    · exact hdf
    · exact h1 q hq) h2 rfl rfl
  have hf1 := (N1 _ (List.mem_cons_of_mem _ hfm)).1
  have hd2 := (N2 (d, dictOf [] 0) (.head _)).1
  refine wpAny_bind (wpAny_alloc ?_)
  rw [hd]
  refine wpAny_bind (wpAny_update hf1 ?_)
  unfold dictMade
  refine wpAny_bind (wpAny_pure (wpAny_pure ?_))
  try dsimp only
  unfold storeInDict
  refine wpAny_bind (wpAny_pure (wpAny_bind ?_))
  unfold nsSet
  refine wpAny_bind (wpAny_bind (wpAny_askSetting (wpAny_pure (wpAny_bind (wpAny_mkText (wpAny_bind (wpAny_loadPart hd2 ?_)))))))
  try dsimp only
  rw [aRefKeyMayBeTheName_at]
  have e0 : (dictOf [] 0) = (dictOf [] 0) := rfl
  have hput : ∀ key, Obj.putName "read" (PyData.keyHash w.params "read") key v (dictOf [] 0) = dictOf [⟨PyData.keyHash w.params "read", key, v⟩] 1 := fun key => putName_dict _ _ _ _ _ _
  obtain ⟨F3, N3⟩ := news_upd (pre := []) (post := pre ++ (f, ⟨.type "function", some d, .func fd, sl⟩) :: post) (f := Obj.putName "read" (PyData.keyHash w.params "read") (.str "read" (s.toks + 1)) v) F2 N2 (fun _ h => nomatch h) (fun q hq => by
    rcases List.mem_append.mp hq with hq | hq
    · exact Nat.ne_of_lt (hnew q (List.mem_append_left _ hq))
    · rcases List.mem_cons.mp hq with rfl | hq
      · exact Ne.symm hdf
      · exact Nat.ne_of_lt (hnew q (List.mem_append_right _ (.tail _ hq)))) (hput _) rfl
  have hd3 := (N3 (d, _) (.head _)).1
  rw [show (!([] : List DictEntry).toArray.any (·.key.isStr "read") && ([] : List DictEntry).toArray.any (·.refKey)) = false from by simp]
  refine wpAny_updatePart hd2 ?_
  refine wpAny_bind (wpAny_lookBehind hd3 (pastItsLine_dict (by show 1 ≤ _; rw [sizeLine_eq]; decide)) ?_)
  refine wpAny_pure ⟨_, rfl, ?_⟩
  refine wpAny_pure ?_
  exact h d _ _ _ F3 N3 (fun q hq => hnew q (List.mem_append_left _ hq)) (hnew _ hfm) (fun q hq => hnew q (List.mem_append_right _ (.tail _ hq)))
theorem setAttr_fnU {prog : Program} {w : World} {A : Around} {E : Value → Shared → Prop} {s : Shared} {h₀ : Heap} {L f : Addr} {m : PySem.Str → Option Value} {news : List (Addr × Obj)} {gg : Obj → List (Addr × Obj)} {fd : FuncData} {sl : Array (Option Value)} {v : Value} {Q : Unit → Shared → Prop}
    (F : Fr h₀ L s.heap m) (N : News h₀ L s.heap news) (U : UpdF f ⟨.type "function", none, .func fd, sl⟩ news gg)
    (h : ∀ d key tk' h', Fr h₀ L h' m → News h₀ L h' ((d, dictOf [⟨PyData.keyHash w.params "read", .str "read" key, v⟩] 1) :: gg ⟨.type "function", some d, .func fd, sl⟩) → (∀ p ∈ news, p.1 < d) → Q () { s with heap := h', toks := tk' }) :
    wpAny (model prog w) A (setAttr (.ref f) "read" v) Q E s := by
  obtain ⟨own, rest, rfl, hg, h1, h2⟩ := U.split
  refine setAttr_fn F N h1 h2 fun d key tk' h' F' N' a b c => h d key tk' h' F' (by rw [hg]; exact N') fun p hp => ?_
  rcases List.mem_append.mp hp with hp | hp
  · exact a p hp
  · rcases List.mem_cons.mp hp with rfl | hp
    · exact b
    · exact c p hp
/-- the letters of a list of codes, each a text -/
noncomputable def chs (l : List Nat) : List PySem.Str := l.map fun c => tx [c]
theorem list_strN {prog : Program} {w : World} {A : Around} {E : Value → Shared → Prop} {s : Shared} {h₀ : Heap} {L : Addr} {m : PySem.Str → Option Value} {news : List (Addr × Obj)} {Q : Value → Shared → Prop} {x : PySem.Str} {t : Tok} (hh : A.handled = none)
    (F : Fr h₀ L s.heap m) (N : News h₀ L s.heap news) (hsz : x.length ≤ sizeLine)
    (h : ∀ D ys k h' tk, Fr h₀ L h' m → News h₀ L h' ((D, W.listOf ys k) :: news) → StrsAre ys.toList (chs x.cps.toList) → (∀ p ∈ news, p.1 < D) → Q (.ref D) { s with heap := h', toks := tk }) :
    wpAny (model prog w) A (call (.type "list") [.str x t]) Q E s := by
  refine list_strD hh F N (fun h' tk ys F' N' hk hD hl hp hc => ?_) hsz
  obtain ⟨⟨k, e⟩, hne⟩ := hp
  refine h _ ys.toArray k h' tk F' (fun q hq => ?_) (by have := StrsAre.of_carried hc; simpa [chs, PyProof.Rows.signs] using this) (fun p hp => Heap.lt_size (N p hp).1)
  rcases List.mem_cons.mp hq with rfl | hq
  · exact ⟨e, Nat.ne_of_gt F.ns.lt, hD⟩
  · exact N' q hq
section
variable {prog : Program} {w : World} {A : Around} {s : Shared} {g : Heap} {mu : List (Addr × Obj)} {p : Program} {loose : List PySem.Str} {mean : ExcName → Option Value} {mg mb : PySem.Str → Option Value}
  {R : Result → Shared → Prop} {name qual : PySem.Str} {params : Arguments} {body : PySem.Expr} {scope : Scope} {cl : List (PySem.Str × Addr)} {pm ctv : Value} {c' f : Addr} {args : Args} {binds : List (PySem.Str × Value)}
theorem enterL (G : Gh g s.heap mu) (T : Top p loose mean mg mb g) (ho : g.get? f = some (kla_obj name qual params body scope cl pm c' ctv)) (hcd : g.CodeRec (.ref c') qual) (hroom : A.depth < recursionLimit)
    (hbind : bindArgs (kla_fn name qual params body scope cl pm (.ref c') ctv) args = pure binds) (hloc : ∀ y ∈ binds, scope.names.lookup y.1 = some .local)
    (h : ∀ L' h₁, Fr g L' h₁ (fun y => binds.reverse.lookup y) → News g L' h₁ mu → (∀ p ∈ mu, p.1 < L') →
      wpAny (model prog w) (A.deeper (envX qual scope L' f (.ref c') cl)) (eval body (envX qual scope L' f (.ref c') cl)) (fun v s' => R (.ok (.ret v)) s')
        (fun e s' => wpAny (model prog w) (A.deeper (envX qual scope L' f (.ref c') cl)) (leaving (envX qual scope L' f (.ref c') cl) e) (fun _ s'' => R (.error e) s'') (fun e' s'' => R (.error e') s'') s')
        { s with heap := h₁, toks := s.toks + binds.length })
    (hco : scope.isCoroutine = false) (hgen : scope.isGenerator = false) (hk : scope.kind = .function)
    (hcell : ∀ x ∈ scope.names, x.2 ≠ .cell) : codeAny (model prog w) A (.call (.ref f) args) R s := by
  have up := G.up
  refine kla_callFunE hroom (up _ _ ho) rfl hco hgen rfl (hcd.keeps up) ?_
  rw [hbind]
  refine wpAny_pure (wpAny_newFunctionEnv hcell hloc (fun h₁ hns hsb => ⟨((T.nolimit).keeps up).fresh _ hsb, ?_⟩) hk)
  show codeAny _ _ (.expr body (envX qual scope s.heap.objs.size f (.ref c') cl)) _ _
  have hk₁ : ∀ b o, s.heap.get? b = some o → h₁.get? b = some o := fun b o e => hsb.extBut b o (Nat.ne_of_lt (Heap.lt_size e)) (Heap.get?_push_of_some _ e)
  exact kla_codeExpr (h s.heap.objs.size h₁ ⟨hns, fun b o e => hk₁ b o (up _ _ e), G.size⟩ (fun q hq => ⟨hk₁ _ _ (G.at_ q hq).1, Nat.ne_of_lt (Heap.lt_size (G.at_ q hq).1), (G.at_ q hq).2⟩) (fun q hq => Heap.lt_size (G.at_ q hq).1))
end
theorem nm_F {M : Model} {A : Around} {E : Value → Shared → Prop} {s : Shared} {g : Heap} {C : Addr} {m : PySem.Str → Option Value} {env : Env} {x : PySem.Str} {pos : Pos} {v : Value} {Q : Value → Shared → Prop} {c : Addr} {o : Obj}
    (F : Fr g C s.heap m) (hc : env.cells.lookup x = some c) (ho : g.get? c = some o) (hd : o.data = .cell (some v)) (h : Q v s)
    (hk : env.scope.kind = .function) (hx : env.kindOf x = some .free) (hb : (x == ("__debug__" : PySem.Str)) = false) (hn : (x == ("__classdict__" : PySem.Str)) = false) :
    wpAny M A (eval (.Name x pos) env) Q E s := wpAny_Name (wpAny_loadName_free hk hx hc ⟨o, F.keep _ _ ho, hd⟩ h hn) hb
/-- what the reader's function does: the first letter of the list goes -/
noncomputable def ReadSpec (w : World) (lm lst : Addr) (O : List (Addr × Obj)) : Prop :=
  ∀ {p : Program} {loose : List PySem.Str} {mean : ExcName → Option Value} {mg mb : PySem.Str → Option Value} {dp un : Nat} {fr : Option (List Env)} {gd : Option (List Code)} {s : Shared} {Q E : Value → Shared → Prop}
    (g : Heap) (its : Array Value) (k : Nat) (cs : List Nat) (t : Tok), (∀ p ∈ O, g.get? p.1 = some p.2) → (hd.heap_1 w.params).In g → Top p loose mean mg mb g → Gh g s.heap [(lst, W.listOf its k)] → StrsAre its.toList (chs cs) → cs.length ≤ 1000 → (∀ c ∈ cs, c < 128) →
    dp + 1 < recursionLimit → un + 80 < cLine →
    (∀ its' k' t' h' tk', Gh g h' [(lst, W.listOf its' k')] → StrsAre its'.toList (chs cs.tail) → Q (.str (tx cs.head?.toList) t') { s with heap := h', toks := tk' }) →
    wpAny (model PP w) (Ar dp un fr gd) (call (.ref lm) [.int 1 t]) Q E s
/-- the stream: its objects -/
structure StreamIs (w : World) (fs lst : Addr) (O : List (Addr × Obj)) : Prop where
  ex : ∃ d key lm fd sl fd' sl', (fs, (⟨.type "function", some d, .func fd, sl⟩ : Obj)) ∈ O ∧ (d, dictOf [⟨PyData.keyHash w.params "read", .str "read" key, .ref lm⟩] 1) ∈ O ∧ (lm, (⟨.type "function", none, .func fd', sl'⟩ : Obj)) ∈ O ∧ ReadSpec w lm lst O
end Mine

end F_B4a
section F_B4b
open PySem PySem.Spec PySem.W PySem.Calls PyProof.Rows PyProof.V PySem.SeqAt
namespace Mine
theorem readsAll_strs {h : Heap} : ∀ {vs : List Value} {xs : List PySem.Str}, StrsAre vs xs → ReadsAll h vs (xs.map PyData.str) []
  | _, _, .nil => .nil
  | _, _, .cons k t r => by
    have := ReadsAll.cons (Reads.str (h := h) k t) (readsAll_strs (h := h) r)
    simpa using this
theorem reads_strs {h : Heap} {a : Addr} {items : Array Value} {xs : List PySem.Str} (hl : h.IsList a items) (hi : StrsAre items.toList xs) : Reads h (.ref a) (.list (xs.map PyData.str)) [a] := by
  obtain ⟨o, ho, hc, n, hd⟩ := hl
  exact Reads.list ho hc hd (by simpa using readsAll_strs hi)
noncomputable def Low (l : List Nat) : Prop := ∀ c ∈ l, c < 128
noncomputable def LowS (xs : List PySem.Str) : Prop := ∀ x ∈ xs, Low x.cps.toList
theorem strOk_low {x : PySem.Str} (h : Low x.cps.toList) : PyData.strOk x = true := by
  unfold PyData.strOk
  rw [Array.all_eq_true']
  intro c hc
  have := h c (Array.mem_toList_iff.mpr hc)
  exact decide_eq_true (by omega)
theorem canLayAll0_strs : ∀ xs : List PySem.Str, LowS xs → PyData.canLayAll0 (xs.map PyData.str) = true
  | [], _ => by simp [PyData.canLayAll0]
  | n :: r, h => by simp [PyData.canLayAll0, PyData.canLay0, canLayAll0_strs r (fun x hx => h x (.tail _ hx)), strOk_low (h n (.head _))]
theorem depthAll_strs : ∀ xs : List PySem.Str, PyData.depthAll (xs.map PyData.str) ≤ 1
  | [] => by simp [PyData.depthAll]
  | n :: r => by
    have := depthAll_strs r
    simp only [List.map_cons, PyData.depthAll, PyData.depth]
    omega
theorem shaped_strs (xs : List PySem.Str) (hx : LowS xs) : shaped (.list (xs.map PyData.str)) = true := by
  have h1 := depthAll_strs xs
  have h2 : PyData.depth (.list (xs.map PyData.str)) ≤ 64 := by simp only [PyData.depth]; omega
  show (PyData.canLay0 (.list (xs.map PyData.str)) && decide (PyData.depth (.list (xs.map PyData.str)) ≤ 64)) = true
  rw [Bool.and_eq_true]
  exact ⟨by simp only [PyData.canLay0]; exact canLayAll0_strs xs hx, decide_eq_true h2⟩
theorem noMix_strs : ∀ ns ms : List PySem.Str, noMixAll (ns.map PyData.str) (ms.map PyData.str) = true
  | [], [] => by simp [noMixAll]
  | [], _ :: _ => by simp [noMixAll]
  | _ :: _, [] => by simp [noMixAll]
  | _ :: r, _ :: q => by simp [noMixAll, noMix, noMix_strs r q]
theorem same_strs : ∀ ns ms : List PySem.Str, PySem.Spec.sameAll (ns.map PyData.str) (ms.map PyData.str) = decide (ns = ms)
  | [], [] => by simp [PySem.Spec.sameAll]
  | [], _ :: _ => by simp [PySem.Spec.sameAll]
  | _ :: _, [] => by simp [PySem.Spec.sameAll]
  | n :: r, k :: q => by
    simp only [List.map_cons, PySem.Spec.sameAll, PySem.Spec.same, same_strs r q]
    by_cases h : n = k <;> simp [h]
section
variable {prog : Program} {w : World} {A : Around} {E : Value → Shared → Prop} {s : Shared}
theorem eq_strs {a b : Addr} {vs us : Array Value} {ns ms : List PySem.Str} {Q : Value → Shared → Prop} (hl : s.heap.IsList a vs) (hi : StrsAre vs.toList ns) (hl' : s.heap.IsList b us) (hi' : StrsAre us.toList ms) (hu : A.units + 64 < cLine) (h1 : LowS ns) (h2 : LowS ms)
    (h : Q (.bool (decide (ns = ms))) s) : wpAny (model prog w) A (compareOp .Eq (.ref a) (.ref b)) Q E s :=
  eq_dataH_same (reads_strs hl hi) (reads_strs hl' hi') (shaped_strs ns h1) (shaped_strs ms h2) hu (by simp only [noMix]; exact noMix_strs ns ms) (by simp only [PySem.Spec.same]; rw [same_strs]; exact h)
theorem ne_strs {a b : Addr} {vs us : Array Value} {ns ms : List PySem.Str} {Q : Value → Shared → Prop} (hl : s.heap.IsList a vs) (hi : StrsAre vs.toList ns) (hl' : s.heap.IsList b us) (hi' : StrsAre us.toList ms) (hu : A.units + 64 < cLine) (h1 : LowS ns) (h2 : LowS ms)
    (h : Q (.bool (!decide (ns = ms))) s) : wpAny (model prog w) A (compareOp .NotEq (.ref a) (.ref b)) Q E s :=
  ne_dataH_same (reads_strs hl hi) (reads_strs hl' hi') (shaped_strs ns h1) (shaped_strs ms h2) hu (by simp only [noMix]; exact noMix_strs ns ms) (by simp only [PySem.Spec.same]; rw [same_strs]; exact h)
end
theorem lows_nil : LowS [] := fun _ h => nomatch h
theorem lows_chs {cs : List Nat} (h : Low cs) : LowS (chs cs) := fun x hx => by
  obtain ⟨c, hc, rfl⟩ := List.mem_map.mp hx
  intro d hd
  have : d = c := by simpa using hd
  exact this ▸ h c hc
theorem strs_len : ∀ {vs : List Value} {xs : List PySem.Str}, StrsAre vs xs → vs.length = xs.length
  | _, _, .nil => rfl
  | _, _, .cons _ _ r => by simp [strs_len r]
theorem pop0 {prog : Program} {w : World} {A : Around} {E : Value → Shared → Prop} {s : Shared} {h₀ : Heap} {L D : Addr} {m : PySem.Str → Option Value} {news news' : List (Addr × Obj)} {n : Nat} {v : Value} {vs : List Value} {u : Tok} {Q : Value → Shared → Prop}
    (F : Fr h₀ L s.heap m) (N : News h₀ L s.heap news) (U : Upd D (W.listOf (v :: vs).toArray n) (W.listOf vs.toArray (n + 1)) news news') (hz : vs.length + 1 ≤ sizeLine)
    (h : ∀ h', Fr h₀ L h' m → News h₀ L h' news' → Q v { s with heap := h' }) : wpAny (model prog w) A (call (.builtin "list.pop") [.ref D, .int 0 u]) Q E s :=
  kl_popAt (p := []) (q := vs) (k := 0) F N rfl (by simp [seqIndex?]) rfl U (by simpa using hz) h
theorem strs_cons {its : List Value} {x : PySem.Str} {xs : List PySem.Str} (h : StrsAre its (x :: xs)) : ∃ t vs, its = Value.str x t :: vs ∧ StrsAre vs xs := by
  cases h with
  | cons y t r => exact ⟨t, _, rfl, r⟩
theorem strs_nil {its : List Value} (h : StrsAre its []) : its = [] := by cases h; rfl
end Mine

end F_B4b
section F_B4c
open PySem PySem.Spec PySem.W PySem.Calls PyProof.Rows Builtin Builtin.ObjectAttr
namespace Mine
theorem slot_fn_ga : Slot "function" "__getattribute__" "object.__getattribute__" :=
  .of (owner := "object") (n := "__getattribute__") (by rw [typeLookup_type, builtinLookup_eq_fast]; kernel_rfl) (by decide +kernel) (by decide +kernel) (by decide +kernel)
    (by first | exact .inl (by decide +kernel) | exact .inr (by decide +kernel)) (by rw [isSubtype_type]; kernel_rfl)
theorem fn_no_getattr : typeLookup (.type "function") "__getattr__" = pure none := by rw [typeLookup_type, builtinLookup_eq_fast]; kernel_rfl
theorem canon_ga : (Manifest.canonical "object.__getattribute__" != "object.__getattribute__") = false := by decide +kernel
theorem oga_eq (self : Value) (name : PySem.Str) (tk : Tok) : Builtin.«object.__getattribute__» ⟨[self, .str name tk], []⟩ = (typeOf self >>= fun tp => find self tp name >>= fun r => match r with
    | .value v => ret v
    | .bind g a => bindTo g a self tp
    | .missing => do
      if tp == .type "module" then
        if ← isOpaqueModuleObj self then
          let byTheModulesOwnEntry := match (← stack).drop 1 with
            | (.builtin "module.__getattribute__" ⟨m :: _, _⟩, _) :: _ => m == self
            | _ => false
          if !byTheModulesOwnEntry then unsupported "thirdparty:object.__getattribute__:a-miss-on-an-opaque-module"
      if tp == .type "type" then
        if let some key ← opaqueClassAbove self then unsupported s!"thirdparty:{key.toString}.{name.toString}:object.__getattribute__-misses-on-an-opaque-class"
      noSuchAttribute self name) := by kernel_rfl

section
variable {prog : Program} {w : World} {A : Around} {E : Value → Shared → Prop} {s : Shared} {f d : Addr} {fd : FuncData} {sl : Array (Option Value)} {P : Int} {key : Tok} {v : Value}
theorem getAttr_fn_read {Q : Value → Shared → Prop} {hs : Int} {lm : Addr} {ex : Bool} (hf : s.heap.get? f = some ⟨.type "function", some d, .func fd, sl⟩) (hd : s.heap.get? d = some (dictOf [⟨hs, .str "read" key, .ref lm⟩] 1))
    (h : Q (.ref lm) { s with toks := s.toks + 1 }) : wpAny (model prog w) A (getAttr (.ref f) "read" ex) Q E s := by
  unfold getAttr
  refine wpAny_bind (wpAny_mkText ?_)
  unfold getAttrBy
  refine wpAny_holding (wpAny_bind (wpAny_typeOf ⟨_, hf, rfl⟩ ?_))
  rw [slot_fn_ga.lookup]
  refine wpAny_bind (wpAny_pure ?_)
  show wpAny _ _ (getAttrByItsOwn (.ref f) (.str "read" s.toks) (.type "function") (.builtin "object.__getattribute__") true ex) _ _ _
  unfold getAttrByItsOwn hookBefore callGetattribute boundAndCalled
  refine wpAny_bind (wpAny_pure (wpAny_bind ?_))
  refine wpAny_attempt (wpAny_holding ?_)
  rw [show (ex && onTheHeap (.builtin "object.__getattribute__")) = false from by cases ex <;> rfl]
  show wpAny _ _ (bindSpecial (.builtin "object.__getattribute__") (.ref f) >>= _) _ _ _
  rw [slot_fn_ga.bind]
  refine wpAny_bind (wpAny_pure ?_)
  refine wpAny_call_entry (s := { s with toks := s.toks + 1 }) slot_fn_ga ⟨_, hf, rfl⟩ PySem.F.entry_object_getattribute ?_ (PySem.F.args_object_getattribute_2 _ _)
  show wpAny _ _ (Builtin.«object.__getattribute__» ⟨[.ref f, .str "read" s.toks], []⟩) _ _ _
  rw [oga_eq]
  refine wpAny_bind (wpAny_typeOf ⟨_, hf, rfl⟩ ?_)
  unfold find
  rw [fn_no_read]
  refine wpAny_bind (wpAny_bind (wpAny_pure (wpAny_bind (wpAny_pure (wpAny_bind (wpAny_pure ?_))))))
  show wpAny _ _ (ownThenClass (.ref f) "read" none none) _ _ _
  unfold ownThenClass inOwnDict
  refine wpAny_bind (wpAny_bind ?_)
  unfold Builtin.ObjectAttr.ownDict
  refine wpAny_bind (wpAny_loadPart hf ?_)
  try dsimp only
  unfold instanceDict
  refine wpAny_bind (wpAny_loadPart hf ?_)
  try dsimp only
  refine wpAny_bind (wpAny_pure (wpAny_pure ?_))
  unfold inDict
  refine wpAny_bind (wpAny_loadPart hd ?_)
  rw [nsLook_of (r := some (.ref lm)) (by rfl)]
  refine wpAny_pure ?_
  try dsimp only
  refine wpAny_bind (wpAny_rule (wpAny_pure ?_))
  try dsimp only
  refine wpAny_pure ⟨_, rfl, ?_⟩
  exact wpAny_pure h
theorem getMethod_fn_read {Q : Value × List Value → Shared → Prop} {hs : Int} {lm : Addr} {pl : Sem Bool} (hf : s.heap.get? f = some ⟨.type "function", some d, .func fd, sl⟩) (hd : s.heap.get? d = some (dictOf [⟨hs, .str "read" key, .ref lm⟩] 1))
    (h : Q (.ref lm, []) { s with toks := s.toks + 1 }) : wpAny (model prog w) A (getMethod (.ref f) "read" pl) Q E s := by
  unfold getMethod
  refine wpAny_bind (wpAny_specialOf (T := "function") ⟨_, hf, rfl⟩ slot_fn_ga.lookup ?_)
  show wpAny _ A (if (Manifest.canonical "object.__getattribute__" != "object.__getattribute__") = true then _ else _) Q E s
  rw [canon_ga, if_neg Bool.false_ne_true]
  refine wpAny_bind (wpAny_specialOf (T := "function") ⟨_, hf, rfl⟩ fn_no_getattr ?_)
  refine wpAny_bind (wpAny_specialOf (T := "function") ⟨_, hf, rfl⟩ fn_no_read ?_)
  exact wpAny_bind (getAttr_fn_read hf hd (wpAny_pure h))
theorem fn_keeper {M : Model} {h : Heap} (hf : h.get? f = some ⟨.type "function", none, .func fd, sl⟩) : ∃ k, (k = Keeper.frame ∨ k = Keeper.machine ∨ k = Keeper.boundFrame) ∧ Looks M h (keeperOf (.ref f)) k :=
  ⟨.frame, .inl rfl, (Looks.ld (part := none) hf).andThen .now⟩
theorem callWith_fn {env : Env} {pos : Pos} {first : List Value} {e : PySem.Expr} {rest : List PySem.Expr} {Q : Value → Shared → Prop} {M : Model}
    (h : wpAny M A (spliced (backTo pos (starEach (e :: rest) env))) (fun vs s₁ => s₁.heap.get? f = some ⟨.type "function", none, .func fd, sl⟩ ∧ wpAny M A (call (.ref f) (first ++ vs)) Q E s₁) E s)
    (he : starEach (e :: rest) env = (false, eval e env) :: starEach rest env := by rfl) (hplain : (backTo pos (starEach rest env)).any (·.1) = false := by rfl) :
    wpAny M A (callWith pos (.ref f) first (backTo pos (starEach (e :: rest) env)) []) Q E s := by
  rw [he] at h ⊢
  exact callWith_of (P := fun h => h.get? f = some ⟨.type "function", none, .func fd, sl⟩) (by show ((false || (backTo pos (starEach rest env)).any (·.1)) || false) = false; rw [hplain]; rfl) (fun _ hf => fn_keeper hf) (evalArgs_plain h)
theorem wpAny_callBorrowed {M : Model} {f : Value} {pos : List Value} {Q : Value → Shared → Prop}
    (hc : codeAny M A (.call f ⟨pos, []⟩) (fun r s' => match r with | .ok (.ret v) => Q v s' | .ok _ => False | .error e => E e s') s) : wpAny M A (callBorrowed f pos) Q E s := fun Γ p hΓ => by
  refine wpCode_mono (fun r s' h => ?_) (hc _ p rfl (hΓ.enter (.call f ⟨pos, []⟩) none p (by intro x; cases x)))
  rcases r with e | (v | _ | _ | _) <;> first | exact h | exact h.elim
theorem slot_ci_next : Slot "callable_iterator" "__next__" "callable_iterator.__next__" :=
  .of (owner := "callable_iterator") (n := "__next__") (by rw [typeLookup_type, builtinLookup_eq_fast]; kernel_rfl) (by decide +kernel) (by decide +kernel) (by decide +kernel)
    (by first | exact .inl (by decide +kernel) | exact .inr (by decide +kernel)) (by rw [isSubtype_type]; kernel_rfl)
theorem slot_ci_iter : Slot "callable_iterator" "__iter__" "callable_iterator.__iter__" :=
  .of (owner := "callable_iterator") (n := "__iter__") (by rw [typeLookup_type, builtinLookup_eq_fast]; kernel_rfl) (by decide +kernel) (by decide +kernel) (by decide +kernel)
    (by first | exact .inl (by decide +kernel) | exact .inr (by decide +kernel)) (by rw [isSubtype_type]; kernel_rfl)
theorem entry_ci_iter : entryFor table "callable_iterator.__iter__" = some Builtin.«dict_keyiterator.__iter__» :=
  entryFor_alias (id' := "dict_keyiterator.__iter__") (by kernel_rfl) (by first | rfl | decide +kernel | (unfold String.splitOn; simp +decide [String.splitOnAux])) (by decide +kernel) (by kernel_rfl)
theorem args_ci_iter (a : Value) : argsOk "callable_iterator.__iter__" ⟨[a], []⟩ := by unfold argsOk; kernel_rfl
abbrev ciObj (q : Addr) (x : PySem.Str) (t : Tok) (e : Bool) : Obj := { cls := .type "callable_iterator", data := .fields #[.ref q, .str x t, .bool e] }
theorem pyIter_ci {I q : Addr} {x : PySem.Str} {t : Tok} {e : Bool} {Q : Value → Shared → Prop} (hI : s.heap.get? I = some (ciObj q x t e)) (h : Q (.ref I) s) : wpAny (model prog w) A (pyIter (.ref I)) Q E s := by
  have hT : s.TypeIs (.ref I) "callable_iterator" := ⟨_, hI, rfl⟩
  refine wpAny_pyIter_slot hT slot_ci_iter (wpAny_call_entry slot_ci_iter hT entry_ci_iter ?_ (args_ci_iter _))
  show wpAny _ _ (ret (.ref I)) _ _ s
  exact wpAny_pure ⟨_, rfl, "callable_iterator", _, hT, slot_ci_next.lookup, h⟩
theorem entry_ci_next : entryFor table "callable_iterator.__next__" = some Builtin.«callable_iterator.__next__» := entryFor_of_tree (by kernel_rfl)
theorem args_ci_next (a : Value) : argsOk "callable_iterator.__next__" ⟨[a], []⟩ := by unfold argsOk; kernel_rfl
theorem wpAny_borrows {q f : Addr} {self : Value} {fd : FuncData} {of : Obj} {M : Model} {Q : Bool → Shared → Prop} (hq : s.heap.get? q = some (methodObj (.ref f) self)) (hf : s.heap.get? f = some of) (hfd : of.data = .func fd) (h : Q true s) :
    wpAny M A (borrowsExactly (.ref q)) Q E s := by
  unfold borrowsExactly
  refine wpAny_bind (wpAny_load hq ?_)
  try dsimp only
  refine wpAny_ite ?_
  rw [if_pos (by rfl)]
  refine wpAny_bind (wpAny_load hf ?_)
  rw [hfd]
  exact wpAny_pure h
abbrev ciEnd : Obj := { cls := .type "callable_iterator", data := .fields #[.none, .none, .bool true] }
theorem stop_now {α : Type} {I : Addr} {s₁ : Shared} {Q : Option Value → Shared → Prop} {E' : Value → Shared → Prop} (hh : A.handled = none)
    (hQ : ∀ h', (∀ b o, s₁.heap.get? b = some o → h'.get? b = some o) → Q none { s₁ with heap := h' }) :
    wpAny (model prog w) A.in1 (Builtin.SmallTypes.stopIteration : Sem α) (fun _ _ => False) (fun e s' => wpAny (model prog w) A (do if ← isInstance e (.type "StopIteration") then pure none else throw e) Q E' s') s₁ := by
  unfold Builtin.SmallTypes.stopIteration
  refine wpAny_bind ?_
  simp only [newExc, newTuple]
  refine wpAny_bind (wpAny_newObj_type ?_ (by size_fits))
  refine wpAny_bind (m := firstArgMember _ _) (wpAny_of_eq (a := Value.none) (by first | rfl | (simp only [firstArgMember]; rfl)) ?_)
  refine wpAny_newObj_type ?_ (by size_fits)
  simp only [raiseNew]
  refine wpAny_bind (wpAny_handled ?_)
  rw [show A.in1.handled = none from hh]
  refine wpAny_bind (wpAny_pure (wpAny_throw ?_))
  refine wpAny_bind (wpAny_isInstance (T := "StopIteration") (b := true) ⟨_, Heap.get?_push_size _ rfl, rfl⟩ isSubtype_stop ?_)
  exact wpAny_pure (hQ _ fun b o e => Heap.get?_push_of_some _ (Heap.get?_push_of_some _ e))
noncomputable def CiPost (I q f : Addr) (t : Tok) (Q : Option Value → Shared → Prop) (r : Result) (s' : Shared) : Prop :=
  ∃ x u of fd self, r = .ok (.ret (.str x u)) ∧ s'.heap.get? I = some (ciObj q (Str.ofString "") t false) ∧ s'.heap.get? q = some (methodObj (.ref f) self) ∧ s'.heap.get? f = some of ∧ of.data = .func fd ∧
    (x ≠ Str.ofString "" → Q (some (.str x u)) s') ∧ (x = Str.ofString "" → ∀ h' tk, Heap.ExtBut I s'.heap h' → h'.get? I = some ciEnd → Q none { s' with heap := h', toks := tk })
theorem pyNext_ci {I q f : Addr} {t : Tok} {self : Value} {fd : FuncData} {of : Obj} {Q : Option Value → Shared → Prop} (hh : A.handled = none) (hI : s.heap.get? I = some (ciObj q (Str.ofString "") t false)) (hq : s.heap.get? q = some (methodObj (.ref f) self)) (hf : s.heap.get? f = some of) (hfd : of.data = .func fd)
    (hc : codeAny (model prog w) A.in1 (.call (.ref q) ⟨[], []⟩) (CiPost I q f t Q) s) : wpAny (model prog w) A (pyNext (.ref I)) Q E s := by
  have hT : s.TypeIs (.ref I) "callable_iterator" := ⟨_, hI, rfl⟩
  unfold pyNext
  refine wpAny_bind (wpAny_attempt (wpAny_callSpecial?_slot (name := Str.ofString "__next__") hT slot_ci_next (wpAny_call_entry slot_ci_next hT entry_ci_next ?_ (args_ci_next _))))
  show wpAny _ _ (field (.ref I) 2 >>= _) _ _ s
  refine wpAny_bind (wpAny_field hI rfl (x := .bool false) rfl ?_)
  show wpAny _ _ (if (Value.bool false == Value.bool true) = true then _ else _) _ _ s
  rw [if_neg (by decide)]
  refine wpAny_bind (wpAny_field hI rfl (x := .ref q) rfl ?_)
  refine wpAny_bind (wpAny_attempt ?_)
  unfold callOutOfASlot
  refine wpAny_bind (wpAny_borrows hq hf hfd ?_)
  simp only [if_true]
  refine wpAny_callBorrowed (codeAny_mono hc fun r s' hr => ?_)
  obtain ⟨x, u, of', fd', self', rfl, hI', hq', hf', hfd', h1, h2⟩ := hr
  try dsimp only
  refine wpAny_bind (wpAny_field hI' rfl (x := .bool false) rfl ?_)
  show wpAny _ _ (if (Value.bool false == Value.bool true) = true then _ else _) _ _ s'
  rw [if_neg (by decide)]
  refine wpAny_bind (wpAny_field hI' rfl (x := .str (Str.ofString "") t) rfl ?_)
  refine wpAny_bind (wpAny_holding (eqBool_str ?_))
  by_cases hx : x = Str.ofString ""
  · have e : (Str.ofString "" == x) = true := by rw [hx]; exact beq_self_eq_true _
    rw [e]
    show wpAny _ _ (rule _ >>= _) _ _ s'
    refine wpAny_bind (wpAny_rule (wpAny_bind ?_))
    show wpAny _ _ (field (.ref I) 0 >>= _) _ _ s'
    refine wpAny_bind (wpAny_field hI' rfl (x := .ref q) rfl (wpAny_bind ?_))
    unfold slotLetsGo
    refine wpAny_bind (wpAny_borrows hq' hf' hfd' ?_)
    simp only [if_true]
    refine wpAny_pure ?_
    refine wpAny_bind (wpAny_setField_rec hI' (by simp) fun ha hIa sa => ?_)
    refine wpAny_bind (wpAny_setField_rec hIa (by simp) fun hb hIb sb => ?_)
    refine wpAny_setField_rec hIb (by simp) fun hc hIc sc => ?_
    refine wpAny_mono (stop_now (I := I) (Q := Q) (E' := E) hh (fun h₉ k₉ => h2 hx h₉ _ (fun b o hb' e => k₉ b o ((sc.2 b hb').trans ((sb.2 b hb').trans ((sa.2 b hb').trans e)))) (k₉ _ _ hIc)) ) (fun _ _ z => z.elim) fun _ _ z => z
  · have e : (Str.ofString "" == x) = false := by
      cases q : (Str.ofString "" == x) with
      | false => rfl
      | true => exact absurd (eq_of_beq q).symm hx
    rw [e]
    show wpAny _ _ (ret _ >>= _) _ _ s'
    refine wpAny_bind (wpAny_pure (wpAny_pure ⟨_, rfl, ?_⟩))
    exact wpAny_pure (h1 hx)
theorem pyNext_ciEnd {I : Addr} {Q : Option Value → Shared → Prop} (hh : A.handled = none) (hI : s.heap.get? I = some ciEnd)
    (h : ∀ h', Kept s.heap h' → Q none { s with heap := h' }) : wpAny (model prog w) A (pyNext (.ref I)) Q E s := by
  have hT : s.TypeIs (.ref I) "callable_iterator" := ⟨_, hI, rfl⟩
  unfold pyNext
  refine wpAny_bind (wpAny_attempt (wpAny_callSpecial?_slot (name := Str.ofString "__next__") hT slot_ci_next (wpAny_call_entry slot_ci_next hT entry_ci_next ?_ (args_ci_next _))))
  show wpAny _ _ (field (.ref I) 2 >>= _) _ _ s
  refine wpAny_bind (wpAny_field hI rfl (x := .bool true) rfl ?_)
  show wpAny _ _ (rule _ >>= _) _ _ s
  refine wpAny_bind (wpAny_rule (wpAny_bind ?_))
  refine wpAny_mono (stop_now (I := I) (Q := Q) (E' := E) hh h) (fun _ _ z => z.elim) fun _ _ z => z
theorem meth_call_lookup : typeLookup (.type "method") "__call__" = pure (some (.builtin "method.__call__")) := by rw [typeLookup_type, builtinLookup_eq_fast]; kernel_rfl
theorem kind_iter : builtinKind "iter" = none := by decide +kernel
theorem plain_iter : plainId "iter" = true := by decide +kernel
theorem entry_iter : entryFor table "iter" = some Builtin.«iter» := entryFor_of_tree (by kernel_rfl)
theorem args_iter2 (a b : Value) : argsOk "iter" ⟨[a, b], []⟩ := by unfold argsOk; kernel_rfl
theorem iter_ci {q : Addr} {fv self : Value} {x : PySem.Str} {t : Tok} {Q : Value → Shared → Prop} (hq : s.heap.get? q = some (methodObj fv self)) (h : Q (.ref s.heap.objs.size) { s with heap := s.heap.push (ciObj q x t false) }) :
    wpAny (model prog w) A (call (.builtin "iter") [.ref q, .str x t]) Q E s := by
  refine call_function_entry kind_iter plain_iter entry_iter (args_iter2 _ _) ?_
  unfold Builtin.«iter»
  refine wpAny_bind (m := someArgs "iter" 1 2 _) (wpAny_of_eq (a := [.ref q, .str x t]) (by rfl) ?_)
  refine wpAny_bind (wpAny_specialOf (T := "method") ⟨_, hq, rfl⟩ meth_call_lookup ?_)
  show wpAny _ _ (rule _ >>= _) _ _ s
  refine wpAny_bind (wpAny_rule (wpAny_bind ?_))
  exact wpAny_newObj_type (wpAny_pure ⟨_, rfl, h⟩) (by size_fits)
end
end Mine

end F_B4c
section F_B5
open PySem PySem.Spec PySem.W PySem.Calls PyProof.Rows
namespace Mine
theorem rows_hdr_B5 : True := by
  k_with_none
  w_top off
  k_with "mine units" => (first | (refine' rm1 ?zuaa ?zuab; (case zuaa => with_reducible assumption); (case zuab => rfl)) | (refine' rm2 ?zuba ?zubb; (case zuba => with_reducible assumption); (case zubb => rfl)) | (refine' rm3 ?zuca ?zucb; (case zuca => with_reducible assumption); (case zucb => rfl)) | (dsimp only [Ar, Around.deeper, Around.in1]; first | (refine' rm1 ?zuda ?zudb; (case zuda => with_reducible assumption); (case zudb => rfl)) | (refine' rm2 ?zuea ?zueb; (case zuea => with_reducible assumption); (case zueb => rfl)) | (refine' rm3 ?zufa ?zufb; (case zufa => with_reducible assumption); (case zufb => rfl)) | (refine' rm4 ?zuga ?zugb; (case zuga => with_reducible assumption); (case zugb => rfl))))
  k_with "mine mem" => (first | with_reducible exact mem_h | with_reducible assumption | (with_reducible refine List.mem_append_left _ ?_; k_extra "mine mem") | (with_reducible refine List.mem_append_right _ ?_; k_extra "mine mem") | (with_reducible refine mem_t ?_; k_extra "mine mem"))
  k_with "mine sub" => (first | exact all_nil | (refine all_cons ?_ ?_; k_extra "mine mem"; k_extra "mine sub") | (refine all_app ?_ ?_; k_extra "mine sub"; k_extra "mine sub") | (intro pq hpq; k_extra "mine mem"))
  k_with "mine room" => (first | with_reducible assumption | (refine' rm1 ?zraa ?zrab; (case zraa => with_reducible assumption); (case zrab => rfl)) | (refine' rm2 ?zrba ?zrbb; (case zrba => with_reducible assumption); (case zrbb => rfl)) | (refine' rm3 ?zrca ?zrcb; (case zrca => with_reducible assumption); (case zrcb => rfl)) | (refine' rm0 ?zrd; (case zrd => with_reducible assumption)) | (refine' leL ?zrea ?zreb; (case zrea => with_reducible assumption); (case zreb => rfl)) | (refine Ne.symm ?zrf; (case zrf => with_reducible assumption)) | (refine Nat.ne_of_lt ?zrg; (case zrg => with_reducible assumption)) | (refine Nat.ne_of_gt ?zrh; (case zrh => with_reducible assumption)) | ((try dsimp only [Ar, Around.deeper, Around.in1]); first | (refine' rm1 ?zria ?zrib; (case zria => with_reducible assumption); (case zrib => rfl)) | (refine' rm2 ?zrja ?zrjb; (case zrja => with_reducible assumption); (case zrjb => rfl)) | (refine' rm3 ?zrka ?zrkb; (case zrka => with_reducible assumption); (case zrkb => rfl)) | (refine' rm4 ?zrla ?zrlb; (case zrla => with_reducible assumption); (case zrlb => rfl)) | omega))
  k_with "mine ne" => (first | with_reducible assumption | (refine Ne.symm ?zna; (case zna => with_reducible assumption)) | (refine Nat.ne_of_lt ?znb; (case znb => with_reducible assumption)) | (refine Nat.ne_of_gt ?znc; (case znc => with_reducible assumption)))
  k_with "mine enter" => (first
  | (refine' enterG ?zqkG ?zqk3 ?zqk5 ?zqk6 ?zqk7 ?zqk8 ?zqk9 ?zqkB ?_ ?zqc2 ?zqc3 ?zqc4 ?zqc5; (case zqkG => k_asm); (case zqk3 => k_asm); (case zqk5 => k_asm); (case zqk6 => k_is); (case zqk7 => k_is); (case zqk8 => ktr_room); (case zqk9 => exact BindsTo.of_eq rfl); (case zqc5 => decide); (case zqkB => exact locs rfl); (case zqc2 => exact rfl); (case zqc3 => exact rfl); (case zqc4 => exact rfl); k_whole; intro Lq' hq' Fq' Nq' l1q; (try k_lt l1q); (try dsimp only); (try k_fold))
  | (refine' enterC ?zqkG ?zqk3 ?zqk5 ?zqk6 ?zqk7 ?zqk8 ?zqk9 ?zqkB ?zqkD ?_ ?zqc2 ?zqc3 ?zqc4; (case zqkG => k_asm); (case zqk3 => k_asm); (case zqk5 => k_asm); (case zqk6 => k_is); (case zqk7 => k_is); (case zqk8 => ktr_room); (case zqk9 => exact BindsTo.of_eq rfl); (case zqkB => exact rfl); (case zqkD => decide +kernel); (case zqc2 => exact rfl); (case zqc3 => exact rfl); (case zqc4 => exact rfl); k_whole; intro Lq' hq' tkq' cellsq' Fq' Nq' Yq' l1q; (try k_lt l1q); k_cells Yq'; (try simp only [List.cons_append, List.nil_append] at Nq'); (try dsimp only); (try k_fold)))
  k_with "mine k_steps" => ((try k_unmd); (try k_fold); repeat' (first | (k_unfold; (try dsimp only)) | ((fail_if_success (k_extra "mine stop")); (fail_if_success (with_reducible show wpAny _ _ (exec (Stmt.For _ _ _ _ _) _) _ _ _)); (fail_if_success (with_reducible show wpAny _ _ (exec (Stmt.While _ _ _ _) _) _ _ _)); (fail_if_success (with_reducible show wpAny _ _ (exec (Stmt.Try _ _ _ _ _) _) _ _ _)); (fail_if_success (with_reducible show wpAny _ _ (eval (PySem.Expr.ListComp _ _ _ _) _) _ _ _)); (fail_if_success (with_reducible show wpAny _ _ (exec (Stmt.Assign _ (PySem.Expr.ListComp _ _ _ _) _) _) _ _ _)); (first | walk1 | (dsimp only; walk1) | (leave1; walk_say "STEP leave1"; try dsimp only))) | fail "no step"))
  k_with "execs cons" => ((try k_made); (try k_gentoks); (with_reducible refine wpAny_execs_cons ?_); (try dsimp only); try k_fold)
  k_with "storeName" => (k_dflt (refine' storeX_L ?z1 ?z2 ?_ ?z3 ?z4; (case z1 => k_asm); (case z2 => k_asm); (case z3 => exact rfl); (case z4 => exact rfl); k_whole); intro hq' Fq' Nq'; (try dsimp only at Fq'); (try k_sweep))
  k_with "eval Name" => (name_kind "local"; k_dflt (refine' nameX_L ?z5 ?z6 ?_ ?z7 ?z8; (case z5 => with_reducible assumption); (case z6 => exact Eq.refl (some _)); (case z7 => exact rfl); (case z8 => exact rfl); k_whole))
  k_with "eval Name" => ((with_reducible show wpAny _ _ (eval (PySem.Expr.Name _ _) (compEnvC _ _ _ _)) _ _ _); k_dflt (first
  | (refine' nm_L ?zqF ?zqv ?_ ?zqa ?zqb ?zqc; (case zqa => rfl); (case zqb => rfl); (case zqc => decide); (case zqF => k_asm); (case zqv => first | with_reducible assumption | assumption | rfl); k_whole)
  | (refine' nm_C ?zqF ?zqhc ?zqho ?zqhd ?_ ?zqa ?zqb ?zqc; (case zqa => rfl); (case zqb => rfl); (case zqc => decide); (case zqF => k_asm); (case zqhc => rfl); (case zqho => first | with_reducible assumption | assumption); (case zqhd => first | with_reducible assumption | assumption); k_whole)
  | (refine' nm_K ?zqF ?zqX ?zqT ?zqe ?_ ?zqg ?zqa ?zqb ?zqc; (case zqa => rfl); (case zqb => rfl); (case zqc => decide); (case zqg => rfl); (case zqF => k_asm); (case zqX => k_asm); (case zqT => k_asm); (case zqe => k_is); k_whole)
  | (refine' nm_B ?zqF ?zqX ?zqT ?zqe ?zqv ?zqn ?_ ?zqg ?zqbn ?zqa ?zqb ?zqc; (case zqa => rfl); (case zqb => rfl); (case zqc => decide); (case zqg => rfl); (case zqbn => rfl); (case zqF => k_asm); (case zqX => k_asm); (case zqT => k_asm); (case zqe => k_is); (case zqv => boot_fast); (case zqn => decide); k_whole)))
  k_with "callWith ref" => (k_here; k_dflt (first
  | ((with_reducible show wpAny _ _ (callWith _ (Value.ref _) _ (backTo _ (starEach (_ :: _) _)) []) _ _ _); first | (refine' callWith_M ?z9 ?z10 ?z11 ?z12 ?_; (case z9 => with_reducible assumption); (case z10 => with_reducible assumption); (case z11 => k_mem); (case z12 => k_is); k_whole) | (refine' callWith_K ?z13 ?z14 ?_; (case z13 => with_reducible assumption); (case z14 => k_is); k_whole))
  | ((with_reducible show wpAny _ _ (callWith _ (Value.ref _) _ (backTo _ (starEach [] _)) []) _ _ _); first | (refine' callWith_M0 ?z15 ?z16 ?_; (case z15 => k_meth); (case z16 => k_is); k_whole; try dsimp only [List.nil_append, List.cons_append]) | (refine' callWith_K0 ?z17 ?z18 ?_; (case z17 => (refine' Frag.In.keeps ?zia (Fr.keep ?zib); (case zib => with_reducible assumption); (case zia => with_reducible assumption))); (case z18 => k_is); k_whole))))
  k_with "subscriptTail" => (k_here; (with_reducible show wpAny _ _ (subscriptTail _ _ (Value.ref _) (Value.int _ _)) _ _ _); (with_unfolding_all refine' item_litK ?z19 ?z20 ?z21 ?z22 ?_ ?z23; (case z19 => is_list); (case z20 => decide); (case z21 => decide); (case z22 => rfl); (case z23 => with_unfolding_all rfl)); k_whole)
  k_with "subscriptTail Name Constant ref int" => (k_here; (with_reducible show wpAny _ _ (subscriptTail _ _ (Value.ref _) (Value.int _ _)) _ _ _); (with_unfolding_all refine' item_litK ?z24 ?z25 ?z26 ?z27 ?_ ?z28; (case z24 => is_list); (case z25 => decide); (case z26 => decide); (case z27 => rfl); (case z28 => with_unfolding_all rfl)); k_whole)
  k_with "eval Name" => (k_here; name_kind "globalImplicit"; k_dflt (first
  | (refine' nameX_K ?zqgF ?zqgX ?zqgT ?zqge ?_ ?zqga ?zqgb; (case zqgF => with_reducible assumption); (case zqgX => with_reducible assumption); (case zqgT => k_asm); (case zqga => rfl); (case zqgb => rfl); (case zqge => k_is); k_whole)
  | (refine' nameX_B ?zqgF ?zqgX ?zqgT ?zqge ?zqgv ?zqgn ?_ ?zqga ?zqgb; (case zqgF => with_reducible assumption); (case zqgX => with_reducible assumption); (case zqgT => k_asm); (case zqga => rfl); (case zqgb => rfl); (case zqge => k_is); (case zqgv => boot_fast); (case zqgn => decide); k_whole)))
  trivial
theorem rows_B5_0 : True := by
  k_with "mine stop" => (first | with_reducible show wpAny _ _ (call (Value.builtin "str.join") _) _ _ _)
  k_with "mine stop" => (with_reducible show InvEndN _ _ _ _ _ _ _)
  k_with "call ref" => (k_here; (with_reducible show wpAny _ _ (call (Value.ref 118) _) _ _ _); (with_reducible rename Fr _ _ _ _ => kFq); (with_reducible rename News _ _ _ _ => kNq); k_dflt (refine' word_call _ _ ?z1 ?z2 ?z3 ?_; (case z1 => exact Frag.In.keeps (by with_reducible assumption) kFq.keep); (case z2 => exact Top.keeps (by with_reducible assumption) kFq.keep); (case z3 => ktr_room); k_whole; intro tq' hq' tkq' kpq'; (have Fq' := kFq.keeps kpq'); (have Nq' := kNq.grown kpq'); clear kFq kNq kpq'; (try dsimp only); (try k_fold)))
  trivial

section
variable {w : World} {p : Program} {loose : List PySem.Str} {mean : ExcName → Option Value} {mg mb : PySem.Str → Option Value}
   {dp un : Nat} {fr : Option (List Env)} {gd : Option (List Code)} {s : Shared} {Q : Value → Shared → Prop} {E : Value → Shared → Prop}

theorem fill2 (w : World) (h : Heap) (X : (hd.heap_1 w.params).In h) : PySem.Challenge.rw_in0215_01.row.prog = PP ∧ (hd.heap_1 w.params).In h := by
  k_fill
  exact ⟨rfl, X⟩

theorem txt_join_empty (n : Int) : Txt.join (Str.ofString "") ((wordL n).map fun c => tx (escq c)) = tx ((wordL n).flatMap escq) := by
  rw [eq_of_beq (join_plain_closes _ _), show (Str.ofString "") = tx [] from by decide +kernel]
  have := join_empty ((wordL n).map escq)
  rw [List.map_map] at this
  exact this
theorem escq_len (c : Nat) : 1 ≤ (escq c).length ∧ (escq c).length ≤ 2 := by unfold escq; split <;> simp
theorem flat_le (f : Nat → List Nat) (h : ∀ c, (f c).length ≤ 2) : ∀ l : List Nat, (l.flatMap f).length ≤ 2 * l.length
  | [] => by simp
  | c :: r => by
    have := flat_le f h r
    have := h c
    simp only [List.flatMap_cons, List.length_append, List.length_cons]; omega
theorem quoted_len (n : Int) : (tx ((wordL n).flatMap escq)).length ≤ 6 := by
  have := flat_le escq (fun c => (escq_len c).2) (wordL n)
  have := (wordL_len n).2
  simp only [PySem.Str.length, List.size_toArray]; omega
theorem quoted_size (n : Int) : (((wordL n).map fun c => tx (escq c)).map (·.length)).sum + ((wordL n).map fun c => tx (escq c)).length * (Str.ofString "").length ≤ 16777216 := by
  have key : ∀ l : List Nat, ((l.map fun c => tx (escq c)).map (·.length)).sum ≤ 2 * l.length := by
    intro l
    induction l with
    | nil => simp
    | cons c r ih =>
      have := (escq_len c).2
      simp only [List.map_cons, List.sum_cons, List.length_cons]
      simp only [PySem.Str.length, List.size_toArray] at ih ⊢
      omega
  have := key (wordL n)
  have := (wordL_len n).2
  rw [show (Str.ofString "").length = 0 from by decide +kernel]
  omega

theorem quoted_items (n : Int) {vs : List Value} {ys : Array Value} (hl : vs.length = (word n).cps.size) (hv : ∀ j v, vs[j]? = some v → SignAt (word n) j v)
    (hP : Paired (fun v y => ∃ c t u, v = Value.str ⟨#[c]⟩ t ∧ y = Value.str ⟨(escq c).toArray⟩ u) (vs.filter fun _ => true) ys.toList) :
    StrsAre ys.toList ((wordL n).map fun c => tx (escq c)) ∧ True := by
  refine ⟨?_, trivial⟩
  obtain ⟨ts, htl, rfl⟩ := signs_items vs hl hv
  have hP := paired_map hP
  have key : ∀ (cs : List Nat) (ts : List Tok) (ys : List Value), ts.length = cs.length → Paired (fun v y => ∃ c t u, v = Value.str ⟨#[c]⟩ t ∧ y = Value.str ⟨(escq c).toArray⟩ u) ((cs.zip ts).map fun p => Value.str ⟨#[p.1]⟩ p.2) ys →
      StrsAre ys (cs.map fun c => tx (escq c)) := by
    intro cs
    induction cs with
    | nil => intro ts ys _ h; cases h; exact .nil
    | cons c cs ih =>
      intro ts ys hl h
      cases ts with
      | nil => cases hl
      | cons t ts =>
        simp only [List.zip_cons_cons, List.map_cons] at h
        cases h with
        | cons h1 h2 =>
          obtain ⟨c', t', u, e, rfl⟩ := h1
          cases e
          exact .cons _ _ (ih ts _ (by simpa using hl) h2)
  have := key _ ts _ (by rw [htl]; simp) hP
  rwa [word_cps] at this

noncomputable def sepq (n : Int) : List Nat := ([[], [32], [10]] : List (List Nat)).getD ((n.fdiv 4).fmod 3).toNat []
noncomputable def sepb (n : Int) : List Nat := ([[32], [10], [9, 13]] : List (List Nat)).getD ((n.fdiv 4).fmod 3).toNat []
noncomputable def sh (n : Int) (k : Nat) (c : Nat) : Bool := n.fmod 4 == 2 || (c == 32 || c == 92 || c == 10) || (c == 34 && (k == 0 || n.fmod 4 == 0))
noncomputable def bareL (n : Int) : Nat → List Nat → List Nat
  | _, [] => []
  | k, c :: r => (if sh n k c then [92, c] else [c]) ++ bareL n (k + 1) r
noncomputable def writtenL (n : Int) : List Nat := if n.fmod 4 = 1 then [34] ++ (wordL n).flatMap escq ++ [34] ++ sepq n else bareL n 0 (wordL n) ++ sepb n
theorem bareL_snoc (n : Int) (c : Nat) : ∀ (l : List Nat) (k : Nat), bareL n k (l ++ [c]) = bareL n k l ++ (if sh n (k + l.length) c then [92, c] else [c])
  | [], k => by simp [bareL]
  | d :: l, k => by
    have ih := bareL_snoc n c l (k + 1)
    simp only [List.cons_append, bareL, ih, List.length_cons, List.append_assoc]
    rw [show k + 1 + l.length = k + (l.length + 1) by omega]
theorem bareL_le (n : Int) : ∀ (l : List Nat) (k : Nat), (bareL n k l).length ≤ 2 * l.length
  | [], k => by simp [bareL]
  | d :: l, k => by
    have ih := bareL_le n l (k + 1)
    simp only [bareL, List.length_append, List.length_cons]
    split <;> simp <;> omega
theorem bareL_len (n m : Int) (i : Nat) : (tx (bareL n 0 ((wordL m).take i))).length ≤ 6 := by
  have h1 := bareL_le n ((wordL m).take i) 0
  have h2 := (wordL_len m).2
  have h3 : ((wordL m).take i).length ≤ (wordL m).length := by rw [List.length_take]; omega
  simp only [PySem.Str.length, List.size_toArray]; omega
theorem bare_step {n : Int} {i c : Nat} {X : PySem.Str} (hc : (wordL n)[i]? = some c) (hx : X = tx (if sh n i c then [92, c] else [c])) : tx (bareL n 0 ((wordL n).take i)) ++ X = tx (bareL n 0 ((wordL n).take (i + 1))) := by
  have hi : i < (wordL n).length := by
    rcases Nat.lt_or_ge i (wordL n).length with h | h
    · exact h
    · rw [List.getElem?_eq_none h] at hc; cases hc
  rw [hx, tx_append, List.take_add_one, hc]
  show _ = tx (bareL n 0 ((wordL n).take i ++ [c]))
  rw [bareL_snoc]
  have : ((wordL n).take i).length = i := by rw [List.length_take]; omega
  rw [this, Nat.zero_add]
theorem item_word {n : Int} {i c : Nat} (hc : (wordL n)[i]? = some c) : Txt.item (word n) (i : Int) = tx [c] := by
  have hi : i < (wordL n).length := by
    rcases Nat.lt_or_ge i (wordL n).length with h | h
    · exact h
    · rw [List.getElem?_eq_none h] at hc; cases hc
  have h1 : i = 0 ∨ i = 1 ∨ i = 2 := or3N (by have := (wordL_len n).2; omega)
  have h2 : (wordL n).length = 1 ∨ (wordL n).length = 2 ∨ (wordL n).length = 3 := orN (wordL_len n).1 (wordL_len n).2
  rw [word_eq]
  generalize wordL n = l at *
  match l, h2 with
  | [a], _ => rcases h1 with rfl | rfl | rfl <;> first | (cases hc; rfl) | (simp at hi; done)
  | [a, b], _ => rcases h1 with rfl | rfl | rfl <;> first | (cases hc; rfl) | (simp at hi; done)
  | [a, b, d], _ => rcases h1 with rfl | rfl | rfl <;> first | (cases hc; rfl) | (simp at hi; done)
theorem bs_sh {n : Int} {i c : Nat} (h : sh n i c = true) : Str.ofString "\\" ++ tx [c] = tx (if sh n i c then [92, c] else [c]) := by
  rw [if_pos h, show Str.ofString "\\" = tx [92] from by decide +kernel, tx_append]; rfl
theorem bs_no {n : Int} {i c : Nat} (h : sh n i c = false) : tx [c] = tx (if sh n i c then [92, c] else [c]) := by
  rw [if_neg (by rw [h]; decide)]
theorem occ3 (c : Nat) : (Builtin.Str.occurrences (Str.ofString " \\\n") (tx [c]) 0 (Str.ofString " \\\n").length 1).isEmpty = !(c == 32 || c == 92 || c == 10) := by
  have := StrLaws.found_one (Str.ofString " \\\n") c
  rw [show (Str.ofString " \\\n").cps.toList = [32, 92, 10] from by decide +kernel] at this
  rw [Bool.not_eq_eq_eq_not] at this
  rw [this]
  simp [Bool.or_assoc]
  rfl
theorem eq34 (c : Nat) : (tx [c] == Str.ofString "\"") = (c == 34) := by
  rw [show Str.ofString "\"" = tx [34] from by decide +kernel, Bool.eq_iff_iff]
  simp [tx]
theorem ret_str {s : Shared} {Q : Value → Shared → Prop} {x y : PySem.Str} {t : Tok} {h' : Heap} {tk' : Nat} (hret : ∀ t h' tk', Kept s.heap h' → Q (.str x t) {s with heap := h', toks := tk'}) (e : y = x) (k : Kept s.heap h') : Q (.str y t) {s with heap := h', toks := tk'} := e ▸ hret t h' tk' k
theorem written_q {n k : Int} {x : PySem.Str} (e1 : n.fmod 4 = 1) (e4 : (n.fdiv 4).fmod 3 = k) (e : x = tx (([[], [32], [10]] : List (List Nat)).getD k.toNat [])) : Str.ofString "\"" ++ tx ((wordL n).flatMap escq) ++ Str.ofString "\"" ++ x = tx (writtenL n) := by
  rw [e, show Str.ofString "\"" = tx [34] from by decide +kernel, tx_append, tx_append, tx_append, writtenL, if_pos e1, sepq, e4]
theorem written_b {n k : Int} {x : PySem.Str} (e1 : n.fmod 4 ≠ 1) (e4 : (n.fdiv 4).fmod 3 = k) (e : x = tx (([[32], [10], [9, 13]] : List (List Nat)).getD k.toNat [])) : tx (bareL n 0 ((wordL n).take (word n).length)) ++ x = tx (writtenL n) := by
  have : (wordL n).take (word n).length = wordL n := by rw [word_eq]; exact List.take_of_length_le (by simp [PySem.Str.length])
  rw [e, this, tx_append, writtenL, if_neg e1, sepb, e4]
theorem written_call (n : Int) (t : Tok) (X : (hd.heap_1 w.params).In s.heap) (T : Top p loose mean mg mb s.heap) (hdp : dp + 2 < recursionLimit)
   (hret : ∀ t h' tk', Kept s.heap h' → Q (.str (tx (writtenL n)) t) {s with heap := h', toks := tk'}) : wpAny (model PP w) (Ar dp un fr gd) (call (.ref 123) [.int n t]) Q E s := by
  have G := Gh.refl s.heap
  refine wpAny_call ?_
  k_dflt ktr_enter
  k_steps
  · refine lcomp (fun _ => true) (fun v y => ∃ c t u, v = Value.str ⟨#[c]⟩ t ∧ y = Value.str ⟨(escq c).toArray⟩ u) rfl rfl (by decide) rfl (by decide) rfl ?_
    k_steps
    refine ⟨_, _, Src.str _ _, ?_, ?_, ?_, ?_⟩
    · show (word n).length ≤ sizeLine
      exact Nat.le_trans (word_len n).2 (by decide)
    · intros; exact wpAny_tests_nil ⟨rfl, keeps_refl _⟩
    · intro C i v s₃ m₃ E' hP _ hF hm _
      obtain ⟨c, u, hc, rfl⟩ := hP
      k_steps
      · rename_i ho
        have ho := occ_none ho
        rw [quote_cps] at ho
        exact EltPost.mk ⟨c, u, u, rfl, by simp only [escq]; rw [if_neg (by simpa using ho)]⟩ (fun _ _ e => e)
      · rename_i ho _ _ _
        have ho := occ_some ho
        rw [quote_cps] at ho
        exact EltPost.mk ⟨c, u, _, rfl, by simp only [escq]; rw [if_pos (by simpa using ho)]; rfl⟩ (fun _ _ e => e)
    · intro D k h' tk ys vs hD hk hl hv hP hK
      (with_reducible rename Fr _ _ _ _ => kF)
      (with_reducible rename News _ _ _ _ => kN)
      have hF := kF.keeps hK
      have hN := news_new kF kN hK hD hk
      clear kF kN hK
      have hS := (quoted_items n hl hv hP).1
      k_steps
      refine join_list ⟨_, (hN.get (.head _)), rfl, _, rfl⟩ hS (quoted_size n) fun t9 k9 => ?_
      rw [txt_join_empty]
      have hl9 := quoted_len n
      k_steps
      all_goals ((with_reducible rename Fr _ _ _ _ => kF); refine ret_str (s := s) hret ?_ kF.keep)
      all_goals (rename (n.fdiv 4).fmod 3 = _ => e4; rename n.fmod 4 = 1 => e1; exact written_q e1 e4 (by rfl))
  · have hwl := word_len n
    refine for_src s.heap (fun i m nx => nx = [] ∧ (∃ t, m "text" = some (.str (tx (bareL n 0 ((wordL n).take i))) t)) ∧ (∃ t, m "word" = some (.str (word n) t)) ∧ (∃ t, m "n" = some (.int n t))) rfl rfl ?_
    k_steps
    (with_reducible rename Fr _ _ _ _ => kF)
    (with_reducible rename IsRange _ _ _ _ _ _ _ _ => kR)
    (with_reducible rename News _ _ _ _ => kN)
    refine ⟨(word n).length, _, _, [], ⟨rfl, src_range kR (Nat.lt_of_le_of_lt hwl.2 (by decide)), kF, kN, (fun _ _ _ _ _ h => nomatch h), ⟨rfl, ⟨_, rfl⟩, ⟨_, rfl⟩, ⟨_, rfl⟩⟩, ?_, ?_⟩⟩
    · rintro i v m₁ nx h₂ tk₂ own hi ⟨tv, rfl⟩ _ hoff ⟨rfl, ⟨t1, h1⟩, ⟨t2, h2⟩, ⟨t3, h3⟩⟩ F2 N2
      clear kF kN kR
      rw [pin h1, pin h2, pin h3] at F2
      clear h1 h2 h3
      have hbl := bareL_len n n i
      obtain ⟨c, hc⟩ : ∃ c, (wordL n)[i]? = some c := by
        rw [word_eq] at hi
        have : i < (wordL n).length := by simpa [PySem.Str.length] using hi
        exact ⟨_, List.getElem?_eq_getElem this⟩
      k_steps
      all_goals (
        (with_reducible rename Fr _ _ _ _ => kF)
        (with_reducible rename News _ _ _ _ => kN)
        refine inv_end0 kF kN (fun p hp => List.mem_append_right _ hp) ⟨rfl, ⟨_, congrArg (fun z => some (Value.str z _)) (bare_step hc ?_)⟩, ⟨_, rfl⟩, ⟨_, rfl⟩⟩
        clear kF kN hbl hdp G hret X T
        clear F2 N2
        simp only [Int.zero_add, item_word hc, occ3, eq34, Int.natCast_eq_zero] at *
        first
          | (refine bs_sh ?_; simp_all [sh]; done)
          | (refine bs_no ?_; simp_all [sh]; done)
          | (refine bs_sh ?_; rename (!(_ || _ || _)) = false => h9; rw [Bool.not_eq_false'] at h9; simp only [sh, h9, Bool.true_or, Bool.or_true]))
    · rintro m₁ nx h tk ⟨rfl, ⟨t1, h1⟩, ⟨t2, h2⟩, ⟨t3, h3⟩⟩ F2 N2
      clear kF kN kR
      rw [pin h1, pin h2, pin h3] at F2
      clear h1 h2 h3
      have hbl := bareL_len n n (word n).length
      k_steps
      all_goals ((with_reducible rename Fr _ _ _ _ => kF); refine ret_str (s := s) hret ?_ kF.keep)
      all_goals (rename (n.fdiv 4).fmod 3 = _ => e4; rename n.fmod 4 ≠ 1 => e1; exact written_b e1 e4 (by decide +kernel))
end
end Mine

end F_B5
section F_B6
open PySem PySem.Spec PySem.W PySem.Calls PyProof.Rows
namespace Mine
theorem rows_hdr_B6 : True := by
  k_with_none
  w_top off
  k_with "mine units" => (first | (refine' rm1 ?zuaa ?zuab; (case zuaa => with_reducible assumption); (case zuab => rfl)) | (refine' rm2 ?zuba ?zubb; (case zuba => with_reducible assumption); (case zubb => rfl)) | (refine' rm3 ?zuca ?zucb; (case zuca => with_reducible assumption); (case zucb => rfl)) | (dsimp only [Ar, Around.deeper, Around.in1]; first | (refine' rm1 ?zuda ?zudb; (case zuda => with_reducible assumption); (case zudb => rfl)) | (refine' rm2 ?zuea ?zueb; (case zuea => with_reducible assumption); (case zueb => rfl)) | (refine' rm3 ?zufa ?zufb; (case zufa => with_reducible assumption); (case zufb => rfl)) | (refine' rm4 ?zuga ?zugb; (case zuga => with_reducible assumption); (case zugb => rfl))))
  k_with "mine mem" => (first | with_reducible exact mem_h | with_reducible assumption | (with_reducible refine List.mem_append_left _ ?_; k_extra "mine mem") | (with_reducible refine List.mem_append_right _ ?_; k_extra "mine mem") | (with_reducible refine mem_t ?_; k_extra "mine mem"))
  k_with "mine sub" => (first | exact all_nil | (refine all_cons ?_ ?_; k_extra "mine mem"; k_extra "mine sub") | (refine all_app ?_ ?_; k_extra "mine sub"; k_extra "mine sub") | (intro pq hpq; k_extra "mine mem"))
  k_with "mine room" => (first | with_reducible assumption | (refine' rm1 ?zraa ?zrab; (case zraa => with_reducible assumption); (case zrab => rfl)) | (refine' rm2 ?zrba ?zrbb; (case zrba => with_reducible assumption); (case zrbb => rfl)) | (refine' rm3 ?zrca ?zrcb; (case zrca => with_reducible assumption); (case zrcb => rfl)) | (refine' rm0 ?zrd; (case zrd => with_reducible assumption)) | (refine' leL ?zrea ?zreb; (case zrea => with_reducible assumption); (case zreb => rfl)) | (refine Ne.symm ?zrf; (case zrf => with_reducible assumption)) | (refine Nat.ne_of_lt ?zrg; (case zrg => with_reducible assumption)) | (refine Nat.ne_of_gt ?zrh; (case zrh => with_reducible assumption)) | ((try dsimp only [Ar, Around.deeper, Around.in1]); first | (refine' rm1 ?zria ?zrib; (case zria => with_reducible assumption); (case zrib => rfl)) | (refine' rm2 ?zrja ?zrjb; (case zrja => with_reducible assumption); (case zrjb => rfl)) | (refine' rm3 ?zrka ?zrkb; (case zrka => with_reducible assumption); (case zrkb => rfl)) | (refine' rm4 ?zrla ?zrlb; (case zrla => with_reducible assumption); (case zrlb => rfl)) | omega))
  k_with "mine ne" => (first | with_reducible assumption | (refine Ne.symm ?zna; (case zna => with_reducible assumption)) | (refine Nat.ne_of_lt ?znb; (case znb => with_reducible assumption)) | (refine Nat.ne_of_gt ?znc; (case znc => with_reducible assumption)))
  k_with "mine enter" => (first
  | (refine' enterG ?zqkG ?zqk3 ?zqk5 ?zqk6 ?zqk7 ?zqk8 ?zqk9 ?zqkB ?_ ?zqc2 ?zqc3 ?zqc4 ?zqc5; (case zqkG => k_asm); (case zqk3 => k_asm); (case zqk5 => k_asm); (case zqk6 => k_is); (case zqk7 => k_is); (case zqk8 => ktr_room); (case zqk9 => exact BindsTo.of_eq rfl); (case zqc5 => decide); (case zqkB => exact locs rfl); (case zqc2 => exact rfl); (case zqc3 => exact rfl); (case zqc4 => exact rfl); k_whole; intro Lq' hq' Fq' Nq' l1q; (try k_lt l1q); (try dsimp only); (try k_fold))
  | (refine' enterC ?zqkG ?zqk3 ?zqk5 ?zqk6 ?zqk7 ?zqk8 ?zqk9 ?zqkB ?zqkD ?_ ?zqc2 ?zqc3 ?zqc4; (case zqkG => k_asm); (case zqk3 => k_asm); (case zqk5 => k_asm); (case zqk6 => k_is); (case zqk7 => k_is); (case zqk8 => ktr_room); (case zqk9 => exact BindsTo.of_eq rfl); (case zqkB => exact rfl); (case zqkD => decide +kernel); (case zqc2 => exact rfl); (case zqc3 => exact rfl); (case zqc4 => exact rfl); k_whole; intro Lq' hq' tkq' cellsq' Fq' Nq' Yq' l1q; (try k_lt l1q); k_cells Yq'; (try simp only [List.cons_append, List.nil_append] at Nq'); (try dsimp only); (try k_fold)))
  k_with "mine k_steps" => ((try k_unmd); (try k_fold); repeat' (first | (k_unfold; (try dsimp only)) | ((fail_if_success (k_extra "mine stop")); (fail_if_success (with_reducible show wpAny _ _ (exec (Stmt.For _ _ _ _ _) _) _ _ _)); (fail_if_success (with_reducible show wpAny _ _ (exec (Stmt.While _ _ _ _) _) _ _ _)); (fail_if_success (with_reducible show wpAny _ _ (exec (Stmt.Try _ _ _ _ _) _) _ _ _)); (fail_if_success (with_reducible show wpAny _ _ (eval (PySem.Expr.ListComp _ _ _ _) _) _ _ _)); (fail_if_success (with_reducible show wpAny _ _ (exec (Stmt.Assign _ (PySem.Expr.ListComp _ _ _ _) _) _) _ _ _)); (first | walk1 | (dsimp only; walk1) | (leave1; walk_say "STEP leave1"; try dsimp only))) | fail "no step"))
  k_with "execs cons" => ((try k_made); (try k_gentoks); (with_reducible refine wpAny_execs_cons ?_); (try dsimp only); try k_fold)
  k_with "storeName" => (k_dflt (refine' storeX_L ?z1 ?z2 ?_ ?z3 ?z4; (case z1 => k_asm); (case z2 => k_asm); (case z3 => exact rfl); (case z4 => exact rfl); k_whole); intro hq' Fq' Nq'; (try dsimp only at Fq'); (try k_sweep))
  k_with "eval Name" => (name_kind "local"; k_dflt (refine' nameX_L ?z5 ?z6 ?_ ?z7 ?z8; (case z5 => with_reducible assumption); (case z6 => exact Eq.refl (some _)); (case z7 => exact rfl); (case z8 => exact rfl); k_whole))
  k_with "eval Name" => ((with_reducible show wpAny _ _ (eval (PySem.Expr.Name _ _) (compEnvC _ _ _ _)) _ _ _); k_dflt (first
  | (refine' nm_L ?zqF ?zqv ?_ ?zqa ?zqb ?zqc; (case zqa => rfl); (case zqb => rfl); (case zqc => decide); (case zqF => k_asm); (case zqv => first | with_reducible assumption | assumption | rfl); k_whole)
  | (refine' nm_C ?zqF ?zqhc ?zqho ?zqhd ?_ ?zqa ?zqb ?zqc; (case zqa => rfl); (case zqb => rfl); (case zqc => decide); (case zqF => k_asm); (case zqhc => rfl); (case zqho => first | with_reducible assumption | assumption); (case zqhd => first | with_reducible assumption | assumption); k_whole)
  | (refine' nm_K ?zqF ?zqX ?zqT ?zqe ?_ ?zqg ?zqa ?zqb ?zqc; (case zqa => rfl); (case zqb => rfl); (case zqc => decide); (case zqg => rfl); (case zqF => k_asm); (case zqX => k_asm); (case zqT => k_asm); (case zqe => k_is); k_whole)
  | (refine' nm_B ?zqF ?zqX ?zqT ?zqe ?zqv ?zqn ?_ ?zqg ?zqbn ?zqa ?zqb ?zqc; (case zqa => rfl); (case zqb => rfl); (case zqc => decide); (case zqg => rfl); (case zqbn => rfl); (case zqF => k_asm); (case zqX => k_asm); (case zqT => k_asm); (case zqe => k_is); (case zqv => boot_fast); (case zqn => decide); k_whole)))
  k_with "callWith ref" => (k_here; k_dflt (first
  | ((with_reducible show wpAny _ _ (callWith _ (Value.ref _) _ (backTo _ (starEach (_ :: _) _)) []) _ _ _); first | (refine' callWith_M ?z9 ?z10 ?z11 ?z12 ?_; (case z9 => with_reducible assumption); (case z10 => with_reducible assumption); (case z11 => k_mem); (case z12 => k_is); k_whole) | (refine' callWith_K ?z13 ?z14 ?_; (case z13 => with_reducible assumption); (case z14 => k_is); k_whole))
  | ((with_reducible show wpAny _ _ (callWith _ (Value.ref _) _ (backTo _ (starEach [] _)) []) _ _ _); first | (refine' callWith_M0 ?z15 ?z16 ?_; (case z15 => k_meth); (case z16 => k_is); k_whole; try dsimp only [List.nil_append, List.cons_append]) | (refine' callWith_K0 ?z17 ?z18 ?_; (case z17 => (refine' Frag.In.keeps ?zia (Fr.keep ?zib); (case zib => with_reducible assumption); (case zia => with_reducible assumption))); (case z18 => k_is); k_whole))))
  k_with "subscriptTail" => (k_here; (with_reducible show wpAny _ _ (subscriptTail _ _ (Value.ref _) (Value.int _ _)) _ _ _); (with_unfolding_all refine' item_litK ?z19 ?z20 ?z21 ?z22 ?_ ?z23; (case z19 => is_list); (case z20 => decide); (case z21 => decide); (case z22 => rfl); (case z23 => with_unfolding_all rfl)); k_whole)
  k_with "subscriptTail Name Constant ref int" => (k_here; (with_reducible show wpAny _ _ (subscriptTail _ _ (Value.ref _) (Value.int _ _)) _ _ _); (with_unfolding_all refine' item_litK ?z24 ?z25 ?z26 ?z27 ?_ ?z28; (case z24 => is_list); (case z25 => decide); (case z26 => decide); (case z27 => rfl); (case z28 => with_unfolding_all rfl)); k_whole)
  k_with "eval Name" => (k_here; name_kind "globalImplicit"; k_dflt (first
  | (refine' nameX_K ?zqgF ?zqgX ?zqgT ?zqge ?_ ?zqga ?zqgb; (case zqgF => with_reducible assumption); (case zqgX => with_reducible assumption); (case zqgT => k_asm); (case zqga => rfl); (case zqgb => rfl); (case zqge => k_is); k_whole)
  | (refine' nameX_B ?zqgF ?zqgX ?zqgT ?zqge ?zqgv ?zqgn ?_ ?zqga ?zqgb; (case zqgF => with_reducible assumption); (case zqgX => with_reducible assumption); (case zqgT => k_asm); (case zqga => rfl); (case zqgb => rfl); (case zqge => k_is); (case zqgv => boot_fast); (case zqgn => decide); k_whole)))
  trivial
theorem rows_B6_0 : True := by
  k_with "setAttr ref" => (k_here; k_dflt (refine' setAttr_fnU ?z4 ?z5 ?z6 ?_; (case z4 => k_asm); (case z5 => k_asm); (case z6 => k_updF); k_whole); intro dq' kyq' tkq' hq' Fq' Nq' l1q; (try dsimp only at Nq'); (try k_lt l1q); (try k_sweep))
  k_with "call type:list" => (k_here; (with_reducible show wpAny _ _ (call (Value.type "list") [Value.str _ _]) _ _ _); k_dflt (refine' list_strN rfl ?z7 ?z8 ?z9 ?_; (case z7 => k_asm); (case z8 => k_asm); (case z9 => (rw [sizeLine_eq]; omega)); k_whole); intro Dq' ysq' kkq' hq' tkq' Fq' Nq' hSq' l1q; (try k_lt l1q); (try k_sweep))
  k_with "eval Name" => (k_dflt (refine' nm_F ?z10 ?z11 ?z12 ?z13 ?_ ?z14 ?z15 ?z16 ?z17; (case z10 => k_asm); (case z11 => rfl); (case z12 => assumption); (case z13 => assumption); (case z14 => rfl); (case z15 => rfl); (case z16 => decide); (case z17 => decide); k_whole))
  k_with "compareOp NotEq ref ref" => ((with_reducible show wpAny _ _ (compareOp CmpOp.NotEq (Value.ref _) (Value.ref _)) _ _ _); k_dflt (refine' ne_strs (by exact ⟨_, News.get (by k_asm) (by k_mem), rfl, _, rfl⟩) (by first | assumption | exact .nil) (by exact ⟨_, News.get (by k_asm) (by k_mem), rfl, _, rfl⟩) (by first | exact .nil | assumption) (by ktr_room) (by first | exact lows_nil | exact lows_chs (by assumption)) (by first | exact lows_nil | exact lows_chs (by assumption)) ?_; k_whole))
  k_with "call builtin:list.pop" => (k_dflt (refine' pop0 ?z25 ?z26 ?z27 ?z28 ?_; (case z25 => k_asm); (case z26 => k_asm); (case z27 => k_upd); (case z28 => (have := strs_len (by with_reducible assumption); simp only [chs, List.length_map, List.length_cons] at *; rw [sizeLine_eq]; omega)); k_whole); intro hq' Fq' Nq'; (try dsimp only at Nq'); (try k_sweep))
  trivial
section
variable {w : World} {p : Program} {loose : List PySem.Str} {mean : ExcName → Option Value} {mg mb : PySem.Str → Option Value}
   {dp un : Nat} {fr : Option (List Env)} {gd : Option (List Code)} {s : Shared} {Q : Value → Shared → Prop} {E : Value → Shared → Prop}
theorem fill6 (w : World) (h : Heap) (X : (hd.heap_1 w.params).In h) : PySem.Challenge.rw_in0215_01.row.prog = PP ∧ (hd.heap_1 w.params).In h := by
  k_fill
  exact ⟨rfl, X⟩

theorem gh_of {g h : Heap} {L : Addr} {m : PySem.Str → Option Value} {news mu : List (Addr × Obj)} (F : Fr g L h m) (N : News g L h news) (hs : ∀ p ∈ mu, p ∈ news) : Gh g h mu :=
  ⟨F.keep, fun p hp => ⟨(N p (hs p hp)).1, (N p (hs p hp)).2.2⟩, Nat.le_trans F.above (Nat.le_of_lt F.ns.lt)⟩
theorem stream_end {g h : Heap} {L d f c f1 c1 D e b k : Nat} {od of oc of1 oc1 oe tb : Obj} {its : Array Value} {m : PySem.Str → Option Value}
    (F : Fr g L h m) (N : News g L h [(d, od), (f, of), (c, oc), (f1, of1), (c1, oc1), (D, W.listOf its k), (e, oe), (b, tb)]) : Gh g h ([(d, od), (f, of), (c, oc), (f1, of1), (c1, oc1), (e, oe)] ++ [(D, W.listOf its k), (b, tb)]) :=
  gh_of F N (by k_extra "mine sub")
theorem stream_call {g : Heap} (x : PySem.Str) (t : Tok) (hx : x.length ≤ 1000) (G : Gh g s.heap [(106, tabObj #[])]) (CH : CodeHd g 110 106) (X : (hd.heap_1 w.params).In g) (T : Top p loose mean mg mb g) (hdp : dp + 2 < recursionLimit)
   (hret : ∀ fs lst its k O h' tk' tb, Gh g h' (O ++ [(lst, W.listOf its k), (106, tabObj tb)]) → (∀ p ∈ O, p.1 ≠ lst ∧ p.1 ≠ 106) → lst ≠ 106 → StrsAre its.toList (chs x.cps.toList) → StreamIs w fs lst O → Q (.ref fs) {s with heap := h', toks := tk'}) : wpAny (model PP w) (Ar dp un fr gd) (call (.ref 111) [.str x t]) Q E s := by
  refine wpAny_call ?_
  k_dflt ktr_enter
  k_steps
  (with_reducible rename Fr _ _ _ _ => kF)
  (with_reducible rename News _ _ _ _ => kN)
  try dsimp only
  refine hret _ _ _ _ _ _ _ _ (stream_end kF kN) ?_ ?_ (by assumption) ?_
  · (repeat (with_reducible rename _ ∧ _ => hc9; obtain ⟨_, _⟩ := hc9))
    refine all_cons ?_ (all_cons ?_ (all_cons ?_ (all_cons ?_ (all_cons ?_ (all_cons ?_ all_nil))))) <;> refine ⟨neN ?_, neN ?_⟩ <;> dsimp only <;> ktr_room
  · exact neN (by ktr_room)
  · skip
    refine ⟨_, _, _, _, _, _, _, by k_mem, by k_mem, by k_mem, ?_⟩
    clear kF kN hret G X T hdp
    unfold ReadSpec
    intro p loose mean mg' mb dp un fr gd s Q E g its k cs t hO X T G hS hcl hlow hdp hun hret
    have hlam := hO (_, kla_obj _ _ _ _ _ _ _ _ _) (.tail _ (.head _))
    have hcode := hO (_, _) (.tail _ (.tail _ (.head _)))
    have hcell := hO (_, _) (.tail _ (.tail _ (.tail _ (.tail _ (.tail _ (.head _))))))
    clear hO
    refine wpAny_call ?_
    refine enterL G T hlam ⟨_, _, _, _, rfl, hcode, by assumption, by assumption⟩ ?_ rfl (locs rfl) ?_ rfl rfl rfl (by decide)
    · ktr_room
    intro L' h₁ F N l1
    k_lt l1
    try dsimp only
    cases cs with
    | nil =>
      have hS' : StrsAre its.toList [] := hS
      k_steps
      (with_reducible rename Fr _ _ _ _ => kF)
      (with_reducible rename News _ _ _ _ => kN)
      exact hret its k _ _ _ (gh_of kF kN (fun p hp => List.mem_cons_of_mem _ hp)) hS
    | cons c r =>
      obtain ⟨u, vs, e0, hS2⟩ := strs_cons hS
      have e1 : its = (Value.str (tx [c]) u :: vs).toArray := by rw [← e0]
      subst e1
      k_steps
      all_goals (
        (with_reducible rename Fr _ _ _ _ => kF)
        (with_reducible rename News _ _ _ _ => kN)
        first
          | (exfalso; rename decide (chs (c :: r) = []) = true => h9; simp [chs] at h9; done)
          | exact hret vs.toArray _ _ _ _ (gh_of kF kN (fun p hp => List.mem_cons_of_mem _ hp)) hS2)
end
end Mine

end F_B6
section F_S1
open PySem PySem.Spec PySem.W PySem.Calls PyProof.Rows
namespace Mine
/-- white space of the lexer -/
noncomputable def ws (c : Nat) : Bool := c == 10 || c == 9 || c == 13 || c == 32
/-- within double quotes: the word and what is left -/
noncomputable def quo (tok : List Nat) : List Nat → List Nat × List Nat
  | [] => (tok, [])
  | c :: r => if c == 34 then (tok, r) else if c == 92 then (match r with | [] => (tok, []) | d :: r' => quo (tok ++ [d]) r') else quo (tok ++ [c]) r
/-- a bare word -/
noncomputable def bar (tok : List Nat) : List Nat → List Nat × List Nat
  | [] => (tok, [])
  | c :: r => if ws c then (tok, r) else if c == 92 then (match r with | [] => (tok, []) | d :: r' => bar (tok ++ [d]) r') else bar (tok ++ [c]) r
noncomputable def tokn : List Nat → List Nat × List Nat
  | [] => ([], [])
  | c :: r => if ws c then tokn r else if c == 34 then quo [] r else if c == 92 then bar r.head?.toList r.tail else bar [c] r
theorem quo34 (tok r : List Nat) : quo tok (34 :: r) = (tok, r) := by cases r <;> simp [quo]
theorem quo92 (tok r : List Nat) : quo tok (92 :: r) = quo (tok ++ r.head?.toList) r.tail := by cases r <;> simp [quo]
theorem quoc (tok r : List Nat) (c : Nat) (h1 : (c == 34) = false) (h2 : (c == 92) = false) : quo tok (c :: r) = quo (tok ++ [c]) r := by cases r <;> simp [quo, h1, h2]
theorem barw (tok r : List Nat) (c : Nat) (h : ws c = true) : bar tok (c :: r) = (tok, r) := by cases r <;> simp [bar, h]
theorem bar92 (tok r : List Nat) : bar tok (92 :: r) = bar (tok ++ r.head?.toList) r.tail := by cases r <;> simp [bar, ws]
theorem barc (tok r : List Nat) (c : Nat) (h1 : ws c = false) (h2 : (c == 92) = false) : bar tok (c :: r) = bar (tok ++ [c]) r := by cases r <;> simp [bar, h1, h2]
end Mine

end F_S1
section F_B7
open PySem PySem.Spec PySem.W PySem.Calls PyProof.Rows
namespace Mine
theorem rows_hdr_B7 : True := by
  k_with_none
  w_top off
  k_with "mine units" => (first | (refine' rm1 ?zuaa ?zuab; (case zuaa => with_reducible assumption); (case zuab => rfl)) | (refine' rm2 ?zuba ?zubb; (case zuba => with_reducible assumption); (case zubb => rfl)) | (refine' rm3 ?zuca ?zucb; (case zuca => with_reducible assumption); (case zucb => rfl)) | (dsimp only [Ar, Around.deeper, Around.in1]; first | (refine' rm1 ?zuda ?zudb; (case zuda => with_reducible assumption); (case zudb => rfl)) | (refine' rm2 ?zuea ?zueb; (case zuea => with_reducible assumption); (case zueb => rfl)) | (refine' rm3 ?zufa ?zufb; (case zufa => with_reducible assumption); (case zufb => rfl)) | (refine' rm4 ?zuga ?zugb; (case zuga => with_reducible assumption); (case zugb => rfl))))
  k_with "mine mem" => (first | with_reducible exact mem_h | with_reducible assumption | (with_reducible refine List.mem_append_left _ ?_; k_extra "mine mem") | (with_reducible refine List.mem_append_right _ ?_; k_extra "mine mem") | (with_reducible refine mem_t ?_; k_extra "mine mem"))
  k_with "mine sub" => (first | exact all_nil | (refine all_cons ?_ ?_; k_extra "mine mem"; k_extra "mine sub") | (refine all_app ?_ ?_; k_extra "mine sub"; k_extra "mine sub") | (intro pq hpq; k_extra "mine mem"))
  k_with "mine room" => (first | with_reducible assumption | (refine' rm1 ?zraa ?zrab; (case zraa => with_reducible assumption); (case zrab => rfl)) | (refine' rm2 ?zrba ?zrbb; (case zrba => with_reducible assumption); (case zrbb => rfl)) | (refine' rm3 ?zrca ?zrcb; (case zrca => with_reducible assumption); (case zrcb => rfl)) | (refine' rm0 ?zrd; (case zrd => with_reducible assumption)) | (refine' leL ?zrea ?zreb; (case zrea => with_reducible assumption); (case zreb => rfl)) | (refine Ne.symm ?zrf; (case zrf => with_reducible assumption)) | (refine Nat.ne_of_lt ?zrg; (case zrg => with_reducible assumption)) | (refine Nat.ne_of_gt ?zrh; (case zrh => with_reducible assumption)) | ((try dsimp only [Ar, Around.deeper, Around.in1]); first | (refine' rm1 ?zria ?zrib; (case zria => with_reducible assumption); (case zrib => rfl)) | (refine' rm2 ?zrja ?zrjb; (case zrja => with_reducible assumption); (case zrjb => rfl)) | (refine' rm3 ?zrka ?zrkb; (case zrka => with_reducible assumption); (case zrkb => rfl)) | (refine' rm4 ?zrla ?zrlb; (case zrla => with_reducible assumption); (case zrlb => rfl)) | omega))
  k_with "mine ne" => (first | with_reducible assumption | (refine Ne.symm ?zna; (case zna => with_reducible assumption)) | (refine Nat.ne_of_lt ?znb; (case znb => with_reducible assumption)) | (refine Nat.ne_of_gt ?znc; (case znc => with_reducible assumption)))
  k_with "mine enter" => (first
  | (refine' enterG ?zqkG ?zqk3 ?zqk5 ?zqk6 ?zqk7 ?zqk8 ?zqk9 ?zqkB ?_ ?zqc2 ?zqc3 ?zqc4 ?zqc5; (case zqkG => k_asm); (case zqk3 => k_asm); (case zqk5 => k_asm); (case zqk6 => k_is); (case zqk7 => k_is); (case zqk8 => ktr_room); (case zqk9 => exact BindsTo.of_eq rfl); (case zqc5 => decide); (case zqkB => exact locs rfl); (case zqc2 => exact rfl); (case zqc3 => exact rfl); (case zqc4 => exact rfl); k_whole; intro Lq' hq' Fq' Nq' l1q; (try k_lt l1q); (try dsimp only); (try k_fold))
  | (refine' enterC ?zqkG ?zqk3 ?zqk5 ?zqk6 ?zqk7 ?zqk8 ?zqk9 ?zqkB ?zqkD ?_ ?zqc2 ?zqc3 ?zqc4; (case zqkG => k_asm); (case zqk3 => k_asm); (case zqk5 => k_asm); (case zqk6 => k_is); (case zqk7 => k_is); (case zqk8 => ktr_room); (case zqk9 => exact BindsTo.of_eq rfl); (case zqkB => exact rfl); (case zqkD => decide +kernel); (case zqc2 => exact rfl); (case zqc3 => exact rfl); (case zqc4 => exact rfl); k_whole; intro Lq' hq' tkq' cellsq' Fq' Nq' Yq' l1q; (try k_lt l1q); k_cells Yq'; (try simp only [List.cons_append, List.nil_append] at Nq'); (try dsimp only); (try k_fold)))
  k_with "mine k_steps" => ((try k_unmd); (try k_fold); repeat' (first | (k_unfold; (try dsimp only)) | ((fail_if_success (k_extra "mine stop")); (fail_if_success (with_reducible show wpAny _ _ (exec (Stmt.For _ _ _ _ _) _) _ _ _)); (fail_if_success (with_reducible show wpAny _ _ (exec (Stmt.While _ _ _ _) _) _ _ _)); (fail_if_success (with_reducible show wpAny _ _ (exec (Stmt.Try _ _ _ _ _) _) _ _ _)); (fail_if_success (with_reducible show wpAny _ _ (eval (PySem.Expr.ListComp _ _ _ _) _) _ _ _)); (fail_if_success (with_reducible show wpAny _ _ (exec (Stmt.Assign _ (PySem.Expr.ListComp _ _ _ _) _) _) _ _ _)); (first | walk1 | (dsimp only; walk1) | (leave1; walk_say "STEP leave1"; try dsimp only))) | fail "no step"))
  k_with "execs cons" => ((try k_made); (try k_gentoks); (with_reducible refine wpAny_execs_cons ?_); (try dsimp only); try k_fold)
  k_with "storeName" => (k_dflt (refine' storeX_L ?z1 ?z2 ?_ ?z3 ?z4; (case z1 => k_asm); (case z2 => k_asm); (case z3 => exact rfl); (case z4 => exact rfl); k_whole); intro hq' Fq' Nq'; (try dsimp only at Fq'); (try k_sweep))
  k_with "eval Name" => (name_kind "local"; k_dflt (refine' nameX_L ?z5 ?z6 ?_ ?z7 ?z8; (case z5 => with_reducible assumption); (case z6 => exact Eq.refl (some _)); (case z7 => exact rfl); (case z8 => exact rfl); k_whole))
  k_with "eval Name" => ((with_reducible show wpAny _ _ (eval (PySem.Expr.Name _ _) (compEnvC _ _ _ _)) _ _ _); k_dflt (first
  | (refine' nm_L ?zqF ?zqv ?_ ?zqa ?zqb ?zqc; (case zqa => rfl); (case zqb => rfl); (case zqc => decide); (case zqF => k_asm); (case zqv => first | with_reducible assumption | assumption | rfl); k_whole)
  | (refine' nm_C ?zqF ?zqhc ?zqho ?zqhd ?_ ?zqa ?zqb ?zqc; (case zqa => rfl); (case zqb => rfl); (case zqc => decide); (case zqF => k_asm); (case zqhc => rfl); (case zqho => first | with_reducible assumption | assumption); (case zqhd => first | with_reducible assumption | assumption); k_whole)
  | (refine' nm_K ?zqF ?zqX ?zqT ?zqe ?_ ?zqg ?zqa ?zqb ?zqc; (case zqa => rfl); (case zqb => rfl); (case zqc => decide); (case zqg => rfl); (case zqF => k_asm); (case zqX => k_asm); (case zqT => k_asm); (case zqe => k_is); k_whole)
  | (refine' nm_B ?zqF ?zqX ?zqT ?zqe ?zqv ?zqn ?_ ?zqg ?zqbn ?zqa ?zqb ?zqc; (case zqa => rfl); (case zqb => rfl); (case zqc => decide); (case zqg => rfl); (case zqbn => rfl); (case zqF => k_asm); (case zqX => k_asm); (case zqT => k_asm); (case zqe => k_is); (case zqv => boot_fast); (case zqn => decide); k_whole)))
  k_with "callWith ref" => (k_here; k_dflt (first
  | ((with_reducible show wpAny _ _ (callWith _ (Value.ref _) _ (backTo _ (starEach (_ :: _) _)) []) _ _ _); first | (refine' callWith_M ?z9 ?z10 ?z11 ?z12 ?_; (case z9 => with_reducible assumption); (case z10 => with_reducible assumption); (case z11 => k_mem); (case z12 => k_is); k_whole) | (refine' callWith_K ?z13 ?z14 ?_; (case z13 => with_reducible assumption); (case z14 => k_is); k_whole))
  | ((with_reducible show wpAny _ _ (callWith _ (Value.ref _) _ (backTo _ (starEach [] _)) []) _ _ _); first | (refine' callWith_M0 ?z15 ?z16 ?_; (case z15 => k_meth); (case z16 => k_is); k_whole; try dsimp only [List.nil_append, List.cons_append]) | (refine' callWith_K0 ?z17 ?z18 ?_; (case z17 => (refine' Frag.In.keeps ?zia (Fr.keep ?zib); (case zib => with_reducible assumption); (case zia => with_reducible assumption))); (case z18 => k_is); k_whole))))
  k_with "subscriptTail" => (k_here; (with_reducible show wpAny _ _ (subscriptTail _ _ (Value.ref _) (Value.int _ _)) _ _ _); (with_unfolding_all refine' item_litK ?z19 ?z20 ?z21 ?z22 ?_ ?z23; (case z19 => is_list); (case z20 => decide); (case z21 => decide); (case z22 => rfl); (case z23 => with_unfolding_all rfl)); k_whole)
  k_with "subscriptTail Name Constant ref int" => (k_here; (with_reducible show wpAny _ _ (subscriptTail _ _ (Value.ref _) (Value.int _ _)) _ _ _); (with_unfolding_all refine' item_litK ?z24 ?z25 ?z26 ?z27 ?_ ?z28; (case z24 => is_list); (case z25 => decide); (case z26 => decide); (case z27 => rfl); (case z28 => with_unfolding_all rfl)); k_whole)
  k_with "eval Name" => (k_here; name_kind "globalImplicit"; k_dflt (first
  | (refine' nameX_K ?zqgF ?zqgX ?zqgT ?zqge ?_ ?zqga ?zqgb; (case zqgF => with_reducible assumption); (case zqgX => with_reducible assumption); (case zqgT => k_asm); (case zqga => rfl); (case zqgb => rfl); (case zqge => k_is); k_whole)
  | (refine' nameX_B ?zqgF ?zqgX ?zqgT ?zqge ?zqgv ?zqgn ?_ ?zqga ?zqgb; (case zqgF => with_reducible assumption); (case zqgX => with_reducible assumption); (case zqgT => k_asm); (case zqga => rfl); (case zqgb => rfl); (case zqge => k_is); (case zqgv => boot_fast); (case zqgn => decide); k_whole)))
  trivial
theorem rows_B7_0 : True := by
  k_with "getMethod ref" => ((with_reducible rename Fr _ _ _ _ => kFq); k_dflt (refine' getMethod_fn_read ?z29 ?z30 ?_; (case z29 => exact kFq.keep _ _ (by with_reducible assumption)); (case z30 => exact kFq.keep _ _ (by with_reducible assumption)); k_whole))
  k_with "callWith ref" => (k_dflt (refine' callWith_fn ?_; k_whole))
  k_with "And" => ((with_reducible show _ = some (Obj.mk (Value.type "function") _ _ _) ∧ _); (with_reducible rename Fr _ _ _ _ => kFq); refine ⟨kFq.keep _ _ (by with_reducible assumption), ?_⟩; try dsimp only [List.nil_append, List.cons_append])
  trivial
section
variable {w : World} {p : Program} {loose : List PySem.Str} {mean : ExcName → Option Value} {mg mb : PySem.Str → Option Value}
   {dp un : Nat} {fr : Option (List Env)} {gd : Option (List Code)} {s : Shared} {Q : Value → Shared → Prop} {E : Value → Shared → Prop}
theorem fill7 (w : World) (h : Heap) (X : (hd.heap_1 w.params).In h) : PySem.Challenge.rw_in0215_01.row.prog = PP ∧ (hd.heap_1 w.params).In h := by
  k_fill
  exact ⟨rfl, X⟩

abbrev lexD (w : World) (k1 k2 k3 k4 : Tok) (ln : Int) (t1 : Tok) (fs : Addr) (tw : Tok) (pb : Addr) : List DictEntry :=
  [⟨PyData.keyHash w.params (Str.ofString "lineno"), .str (Str.ofString "lineno") k1, .int ln t1⟩, ⟨PyData.keyHash w.params (Str.ofString "instream"), .str (Str.ofString "instream") k2, .ref fs⟩,
   ⟨PyData.keyHash w.params (Str.ofString "whitespace"), .str (Str.ofString "whitespace") k3, .str (Str.ofString "\n\t\r ") tw⟩, ⟨PyData.keyHash w.params (Str.ofString "pushback"), .str (Str.ofString "pushback") k4, .ref pb⟩]

theorem lex_put {w : World} {k1 k2 k3 k4 t1 tw n : Nat} {ln ln' : Int} {fs pb : Addr} {hs : Int} {key : Value} {t' : Tok} : (putL (Str.ofString "lineno") hs key (.int ln' t') (lexD w k1 k2 k3 k4 ln t1 fs tw pb), putN (Str.ofString "lineno") (lexD w k1 k2 k3 k4 ln t1 fs tw pb) n) = (lexD w k1 k2 k3 k4 ln' t' fs tw pb, n) := by
  rfl
theorem rows_B7_1 : True := by
  k_with "setAttr ref" => (k_here; k_dflt (refine' set_dict ?z31 ?z32 ?z33 ?z34 ?z35 ?z36 ?z37 ?z38 ?z39 ?z40 ?z41 ?z42 ?z43 ?_; (case z31 => k_asm); (case z32 => k_asm); (case z33 => k_asm); (case z34 => k_inst); (case z35 => exact rfl); (case z36 => k_is); (case z37 => k_is); (case z38 => k_is); (case z39 => k_is); (case z40 => k_get); (case z41 => exact lex_put); (case z42 => k_upd); (case z43 => exact Nat.le_of_ble_eq_true rfl); k_whole; intro hq' Fq' Nq'; (try k_sweep)))
  trivial
theorem lex_nl {cs : List Nat} (h : (tx cs.head?.toList == Str.ofString "\n") = true) (ln : Int) : ln + 1 = ln + if cs.head? = some 10 then 1 else 0 := by
  have e := eq_of_beq h
  rw [show Str.ofString "\n" = tx [10] from by decide +kernel] at e
  cases cs with
  | nil => cases e
  | cons c r =>
    have : c = 10 := by simpa [tx] using e
    simp [this]
theorem lex_nonl {cs : List Nat} (h : (tx cs.head?.toList == Str.ofString "\n") = false) (ln : Int) : ln = ln + if cs.head? = some 10 then 1 else 0 := by
  rw [show Str.ofString "\n" = tx [10] from by decide +kernel] at h
  cases cs with
  | nil => simp
  | cons c r =>
    have : c ≠ 10 := by rintro rfl; simp at h
    simp [this]
theorem lex_gh {w : World} {g h : Heap} {L x dx lst fs pb : Addr} {m : PySem.Str → Option Value} {its : Array Value} {k n k1 k2 k3 k4 t1 tw : Nat} {ln ln' : Int} (e : ln = ln') (F : Fr g L h m) (N : News g L h [(lst, W.listOf its k), (x, instObj 69 dx), (dx, dictOf (lexD w k1 k2 k3 k4 ln t1 fs tw pb) n)]) :
    Gh g h [(x, instObj 69 dx), (dx, dictOf (lexD w k1 k2 k3 k4 ln' t1 fs tw pb) n), (lst, W.listOf its k)] := by
  subst e
  refine ⟨F.keep, fun p hp => ?_, Nat.le_trans F.above (Nat.le_of_lt F.ns.lt)⟩
  have : p ∈ [(lst, W.listOf its k), (x, instObj 69 dx), (dx, dictOf (lexD w k1 k2 k3 k4 ln t1 fs tw pb) n)] := by
    simp only [List.mem_cons, List.not_mem_nil, or_false] at hp ⊢
    rcases hp with h | h | h
    · exact .inr (.inl h)
    · exact .inr (.inr h)
    · exact .inl h
  exact ⟨(N p this).1, (N p this).2.2⟩
theorem readchar_code {R : Result → Shared → Prop} {g : Heap} {x dx fs lst pb : Addr} {O : List (Addr × Obj)} {its : Array Value} {k n k1 k2 k3 k4 t1 tw : Nat} {ln : Int} {cs : List Nat}
   (G : Gh g s.heap [(x, instObj 69 dx), (dx, dictOf (lexD w k1 k2 k3 k4 ln t1 fs tw pb) n), (lst, W.listOf its k)]) (hne : x ≠ dx ∧ x ≠ lst ∧ dx ≠ lst) (SI : StreamIs w fs lst O) (hO : ∀ p ∈ O, g.get? p.1 = some p.2)
   (hS : StrsAre its.toList (chs cs)) (hl : cs.length ≤ 1000) (hlow : ∀ c ∈ cs, c < 128) (X : (hd.heap_1 w.params).In g) (T : Top p loose mean mg mb g) (hdp : dp + 3 < recursionLimit) (hun : un + 100 < cLine)
   (hret : ∀ its' k' t1' t' h' tk', Gh g h' [(x, instObj 69 dx), (dx, dictOf (lexD w k1 k2 k3 k4 (ln + if cs.head? = some 10 then 1 else 0) t1' fs tw pb) n), (lst, W.listOf its' k')] → StrsAre its'.toList (chs cs.tail) →
     R (.ok (.ret (.str (tx cs.head?.toList) t'))) {s with heap := h', toks := tk'}) : codeAny (model PP w) (Ar dp un fr gd) (.call (.ref 52) ⟨[.ref x], []⟩) R s := by
  obtain ⟨d, key, lm, fd, sl, fd', sl', m1, m2, m3, RS⟩ := SI.ex
  have o1 := hO _ m1
  have o2 := hO _ m2
  have o3 := hO _ m3
  k_dflt ktr_enter
  k_steps
  (with_reducible rename Fr _ _ _ _ => kF)
  (with_reducible rename News _ _ _ _ => kN)
  obtain ⟨g2, G2, up2, at2, back2⟩ := Gh.sub (mu := [(lst, W.listOf its k)]) kF kN (fun p hp => List.mem_cons_of_mem _ (List.mem_cons_of_mem _ hp))
  refine RS g2 its k cs _ (fun p hp => up2 _ _ (hO p hp)) (X.keeps up2) (T.keeps up2) G2 hS hl hlow (by ktr_room) (by ktr_room) ?_
  intro its' k' t' h' tk' G3 hS3
  obtain ⟨kF', _, back3⟩ := back2 h' _ G3
  have kN' := back3 [(x, instObj 69 dx), (dx, dictOf (lexD w k1 k2 k3 k4 ln t1 fs tw pb) n)] (by
    intro p hp
    simp only [List.mem_cons, List.not_mem_nil, or_false, List.map_cons, List.map_nil] at hp ⊢
    rcases hp with rfl | rfl
    · exact ⟨.inl rfl, hne.2.1⟩
    · exact ⟨.inr (.inl rfl), hne.2.2⟩)
  simp only [List.cons_append, List.nil_append] at kN'
  obtain ⟨ne1, ne2, ne3⟩ : (@Ne Nat x dx) ∧ (@Ne Nat x lst) ∧ (@Ne Nat dx lst) := hne
  clear kF kN G2 back2 back3 at2 up2 G3
  try dsimp only
  k_steps
  all_goals (
    (with_reducible rename Fr _ _ _ _ => kF)
    (with_reducible rename News _ _ _ _ => kN)
    rename (_ == Str.ofString "\n") = _ => e10)
  · exact hret its' k' _ _ _ _ (lex_gh (lex_nl e10 _) kF kN) hS3
  · exact hret its' k' _ _ _ _ (lex_gh (lex_nonl e10 _) kF kN) hS3
end
end Mine

end F_B7
section F_B8a
open PySem PySem.Spec PySem.W PySem.Calls PyProof.Rows
namespace Mine
abbrev Led (w : World) (x dx fs lst pb I q k1 k2 k3 k4 tw n pk : Nat) (pits : Array Value) (oI : Obj) (its : Array Value) (k : Nat) (ln : Int) (t1 : Tok) : List (Addr × Obj) :=
  [(I, oI), (q, methodObj (.ref 52) (.ref x)), (x, instObj 69 dx), (dx, dictOf (lexD w k1 k2 k3 k4 ln t1 fs tw pb) n), (lst, W.listOf its k), (pb, W.listOf pits pk)]
noncomputable def Apart (x dx lst pb I q : Nat) : Prop := x ≠ dx ∧ x ≠ lst ∧ dx ≠ lst ∧ (I ≠ x ∧ I ≠ dx ∧ I ≠ lst) ∧ (q ≠ x ∧ q ≠ dx ∧ q ≠ lst) ∧ (pb ≠ x ∧ pb ≠ dx ∧ pb ≠ lst) ∧ I ≠ q ∧ I ≠ pb ∧ q ≠ pb
section
variable {w : World} {p : Program} {loose : List PySem.Str} {mean : ExcName → Option Value} {mg mb : PySem.Str → Option Value}
   {dp un : Nat} {fr : Option (List Env)} {gd : Option (List Code)} {s : Shared} {g : Heap} {L x dx fs lst pb I q k1 k2 k3 k4 tw n pk : Nat} {O : List (Addr × Obj)} {pits : Array Value}

theorem readchar_N {R : Result → Shared → Prop} {m : PySem.Str → Option Value} {oI : Obj} {its : Array Value} {k t1 : Nat} {ln : Int} {cs : List Nat}
    (F : Fr g L s.heap m) (N : News g L s.heap (Led w x dx fs lst pb I q k1 k2 k3 k4 tw n pk pits oI its k ln t1)) (ap : Apart x dx lst pb I q) (SI : StreamIs w fs lst O) (hO : ∀ p ∈ O, g.get? p.1 = some p.2)
    (hS : StrsAre its.toList (chs cs)) (hl : cs.length ≤ 1000) (hlow : ∀ c ∈ cs, c < 128) (X : (hd.heap_1 w.params).In g) (T : Top p loose mean mg mb g) (hdp : dp + 3 < recursionLimit) (hun : un + 100 < cLine)
    (h : ∀ its' k' t1' t' h' tk', Fr g L h' m → News g L h' (Led w x dx fs lst pb I q k1 k2 k3 k4 tw n pk pits oI its' k' (ln + if cs.head? = some 10 then 1 else 0) t1') → StrsAre its'.toList (chs cs.tail) →
      R (.ok (.ret (.str (tx cs.head?.toList) t'))) {s with heap := h', toks := tk'}) : codeAny (model PP w) (Ar dp un fr gd) (.call (.ref 52) ⟨[.ref x], []⟩) R s := by
  obtain ⟨a1, a2, a3, ⟨b1, b2, b3⟩, ⟨c1, c2, c3⟩, ⟨d1, d2, d3⟩, _⟩ := ap
  obtain ⟨g2, G2, up2, at2, back2⟩ := Gh.sub (mu := [(x, instObj 69 dx), (dx, dictOf (lexD w k1 k2 k3 k4 ln t1 fs tw pb) n), (lst, W.listOf its k)]) F N (by
    refine all_cons ?_ (all_cons ?_ (all_cons ?_ all_nil))
    · exact .tail _ (.tail _ (.head _))
    · exact .tail _ (.tail _ (.tail _ (.head _)))
    · exact .tail _ (.tail _ (.tail _ (.tail _ (.head _)))))
  refine readchar_code G2 ⟨a1, a2, a3⟩ SI (fun p hp => up2 _ _ (hO p hp)) hS hl hlow (X.keeps up2) (T.keeps up2) hdp hun ?_
  intro its' k' t1' t' h' tk' G3 hS3
  obtain ⟨F3, _, back3⟩ := back2 h' _ G3
  have N3 := back3 [(I, oI), (q, methodObj (.ref 52) (.ref x)), (pb, W.listOf pits pk)] (by
    refine all_cons ?_ (all_cons ?_ (all_cons ?_ all_nil))
    · exact ⟨.head _, nin3 b1 b2 b3⟩
    · exact ⟨.tail _ (.head _), nin3 c1 c2 c3⟩
    · exact ⟨.tail _ (.tail _ (.tail _ (.tail _ (.tail _ (.head _))))), nin3 d1 d2 d3⟩)
  refine h its' k' t1' t' h' tk' F3 ?_ hS3
  refine all_cons ?_ (all_cons ?_ (all_cons ?_ (all_cons ?_ (all_cons ?_ (all_cons ?_ all_nil)))))
  · exact N3 _ (.tail _ (.tail _ (.tail _ (.head _))))
  · exact N3 _ (.tail _ (.tail _ (.tail _ (.tail _ (.head _)))))
  · exact N3 _ (.head _)
  · exact N3 _ (.tail _ (.head _))
  · exact N3 _ (.tail _ (.tail _ (.head _)))
  · exact N3 _ (.tail _ (.tail _ (.tail _ (.tail _ (.tail _ (.head _))))))

theorem fn_of {K : Frag} {h : Heap} {f : Addr} (X : K.In h) (e : fnIn K f = true) : ∃ of fd, h.get? f = some of ∧ of.data = .func fd := by
  unfold fnIn at e
  split at e
  · rename_i q; exact ⟨_, _, X _ _ q, rfl⟩
  · cases e

/-- the state of the loops over the reader -/
inductive LexSt (w : World) (x dx fs lst pb I q k1 k2 k3 k4 tw n pk : Nat) (pits : Array Value) (g : Heap) (L : Addr) (N : Int) (cs tok : List Nat) (e : Bool) (h : Heap) : Prop
  | mk (m : PySem.Str → Option Value) (its : Array Value) (k : Nat) (ln : Int) (t1 ti tt : Tok) (F : Fr g L h m) (Nw : News g L h (Led w x dx fs lst pb I q k1 k2 k3 k4 tw n pk pits (if e then ciEnd else ciObj q (Str.ofString "") ti false) its k ln t1)) (hS : StrsAre its.toList (chs cs)) (hN : ln + (cs.count 10 : Int) = N)
    (m1 : m (Str.ofString "self") = some (.ref x)) (m2 : m (Str.ofString "token") = some (.str (tx tok) tt)) (m3 : m (Str.ofString "fiter") = some (.ref I)) (he : e = true → cs = [])

inductive LexMore (w : World) (x dx fs lst pb I q k1 k2 k3 k4 tw n pk : Nat) (pits : Array Value) (g : Heap) (L : Addr) (N : Int) (J : List Nat → List Nat → Prop) (bnd : Nat) (s₀ s' : Shared) : Prop
  | mk (cs' tok' : List Nat) (e : Bool) (h' : Heap) (tk' : Nat) (hs : s' = { s₀ with heap := h', toks := tk' }) (st : LexSt w x dx fs lst pb I q k1 k2 k3 k4 tw n pk pits g L N cs' tok' e h') (hb : cs'.length ≤ bnd) (hlow : ∀ c ∈ cs', c < 128) (hJ : J cs' tok')
inductive LexInv (w : World) (x dx fs lst pb I q k1 k2 k3 k4 tw n pk : Nat) (pits : Array Value) (g : Heap) (L : Addr) (N : Int) (J : List Nat → List Nat → Prop) (s : Shared) (k : Nat) (s' : Shared) : Prop
  | mk (cs tok : List Nat) (e : Bool) (h : Heap) (tk : Nat) (hs : s' = { s with heap := h, toks := tk }) (st : LexSt w x dx fs lst pb I q k1 k2 k3 k4 tw n pk pits g L N cs tok e h) (hl : cs.length ≤ 1000) (hlow : ∀ c ∈ cs, c < 128) (hJ : J cs tok) (hk : k = 2 * cs.length + (if e then 0 else 1))
/-- a loop's turn ends -/
noncomputable def LexEnd (w : World) (x dx fs lst pb I q k1 k2 k3 k4 tw n pk : Nat) (pits : Array Value) (g : Heap) (L : Addr) (N : Int) (J : List Nat → List Nat → Prop) (bnd : Nat) (Qr : Value → Shared → Prop) (s₀ : Shared) (f : Flow) (s' : Shared) : Prop :=
  match f with
  | .next | .cont => LexMore w x dx fs lst pb I q k1 k2 k3 k4 tw n pk pits g L N J bnd s₀ s'
  | .ret v => Qr v s'
  | .brk => False

theorem count_head (cs : List Nat) : ((if cs.head? = some 10 then 1 else 0 : Int)) + (cs.tail.count 10 : Int) = (cs.count 10 : Int) := by
  cases cs with
  | nil => simp
  | cons c r =>
    by_cases h : c = 10
    · subst h; simp; omega
    · simp [h, List.count_cons]

theorem for_ci {body : List Stmt} {px pi pos : Pos} {env : Env} {Q : Flow → Shared → Prop} {E : Value → Shared → Prop} {N : Int} (J : List Nat → List Nat → Prop) {cs tok : List Nat} {e : Bool} {h : Heap} {tk : Nat}
    (ap : Apart x dx lst pb I q) (SI : StreamIs w fs lst O) (hO : ∀ p ∈ O, g.get? p.1 = some p.2) (X : (hd.heap_1 w.params).In g) (T : Top p loose mean mg mb g) (h52 : fnIn (hd.heap_1 w.params) 52 = true) (hdp : dp + 4 < recursionLimit) (hun : un + 110 < cLine)
    (hL : env.locals = L) (hk : env.scope.kind = .function) (hch : env.kindOf (Str.ofString "ch") = some .local) (hfi : env.kindOf (Str.ofString "fiter") = some .local) (hp : (env.scope.kind == .class || (env.scope.kind == .module && env.locals != env.globals)) = false)
    (st : LexSt w x dx fs lst pb I q k1 k2 k3 k4 tw n pk pits g L N cs tok e h) (hl : cs.length ≤ 1000) (hlow : ∀ c ∈ cs, c < 128) (hJ : J cs tok)
    (turn : ∀ (c : Nat) (r tok : List Nat) (m : PySem.Str → Option Value) (u : Tok) (its : Array Value) (k : Nat) (ln : Int) (t1 ti tt : Tok) (h₁ : Heap) (tk₁ : Nat), r.length + 1 ≤ 1000 → c < 128 → (∀ d ∈ r, d < 128) → J (c :: r) tok →
      Fr g L h₁ (fun y => if y = Str.ofString "ch" then some (.str (tx [c]) u) else if y = Str.ofString "token" then some (.str (tx tok) tt) else if y = Str.ofString "self" then some (.ref x) else if y = Str.ofString "fiter" then some (.ref I) else m y) →
      News g L h₁ (Led w x dx fs lst pb I q k1 k2 k3 k4 tw n pk pits (ciObj q (Str.ofString "") ti false) its k ln t1) → StrsAre its.toList (chs r) → ln + (r.count 10 : Int) = N →
      wpAny (model PP w) (Ar dp un fr gd) (execs body env) (LexEnd w x dx fs lst pb I q k1 k2 k3 k4 tw n pk pits g L N J r.length (fun v s' => Q (.ret v) s') { s with heap := h₁, toks := tk₁ }) E { s with heap := h₁, toks := tk₁ })
    (done : ∀ tok h' tk', J [] tok → LexSt w x dx fs lst pb I q k1 k2 k3 k4 tw n pk pits g L N [] tok true h' → Q .next { s with heap := h', toks := tk' })
    (hs : ∀ x, foldedSetIterable (.Name (Str.ofString "fiter") pi) env x = pure x := by intro _; rfl)
    (hE : PassesOwn (model PP w) (Ar dp un fr gd) env E := by passes_own) :
    wpAny (model PP w) (Ar dp un fr gd) (exec (.For (.Name (Str.ofString "ch") px) (.Name (Str.ofString "fiter") pi) body [] pos) env) Q E { s with heap := h, toks := tk } := by
  subst hL
  obtain ⟨of, fd, hof, hfd⟩ := fn_of X h52
  refine wpAny_For ?_ hs
  obtain ⟨m, its, k, ln, t1, ti, tt, F, Nw, hS, hN, m1, m2, m3, he⟩ := id st
  refine wpAny_Name (wpAny_loadName_local (s := { s with heap := h, toks := tk }) hk hfi F.ns m3 ?_) (by decide)
  have hI := (Nw _ (.head _)).1
  have hIter : wpAny (model PP w) (Ar dp un fr gd) (pyIter (.ref I)) (fun it s₂ => it = .ref I ∧ s₂ = { s with heap := h, toks := tk }) E { s with heap := h, toks := tk } := by
    cases e with
    | false => exact pyIter_ci (s := { s with heap := h, toks := tk }) hI ⟨rfl, rfl⟩
    | true =>
      have hT : (⟨h, s.gens, s.drawn, tk, s.os⟩ : Shared).TypeIs (.ref I) "callable_iterator" := ⟨_, hI, rfl⟩
      refine wpAny_pyIter_slot hT slot_ci_iter (wpAny_call_entry slot_ci_iter hT entry_ci_iter ?_ (args_ci_iter _))
      show wpAny _ _ (ret (.ref I)) _ _ _
      exact wpAny_pure ⟨_, rfl, "callable_iterator", _, hT, slot_ci_next.lookup, rfl, rfl⟩
  refine wpAny_mono hIter (fun it s₂ hh => ?_) fun _ _ z => z
  obtain ⟨rfl, rfl⟩ := hh
  refine codeAny_forLoop (fun k s' => LexInv w x dx fs lst pb I q k1 k2 k3 k4 tw n pk pits g env.locals N J s k s') ?_ _ ⟨cs, tok, e, h, tk, rfl, st, hl, hlow, hJ, rfl⟩
  clear st hl hlow hJ F Nw hS hN m1 m2 m3 he hI hIter
  rintro kk s' ⟨cs, tok, e, h, tk, rfl, st, hl, hlow, hJ, rfl⟩
  obtain ⟨m, its, k, ln, t1, ti, tt, F, Nw, hS, hN, m1, m2, m3, he⟩ := st
  have hI := (Nw _ (.head _)).1
  have hq := (Nw _ (.tail _ (.head _))).1
  cases e with
  | true =>
    obtain rfl := he rfl
    refine pyNext_ciEnd (s := { s with heap := h, toks := tk }) rfl hI fun h' kp => ?_
    refine wpAny_execs_nil ?_
    refine done tok h' tk hJ ⟨m, its, k, ln, t1, ti, tt, F.keeps kp, Nw.grown kp, hS, hN, m1, m2, m3, he⟩
  | false =>
    refine pyNext_ci (s := { s with heap := h, toks := tk }) rfl hI hq (F.keep _ _ hof) hfd ?_
    refine method_call hq ?_
    refine readchar_N (dp := dp) (un := un + 1) (fr := fr) (gd := gd) (s := { s with heap := h, toks := tk }) F Nw ap SI hO hS hl hlow X T (by omega) (by omega) ?_
    intro its' k' t1' t' h' tk' F' N' hS'
    refine ⟨_, _, of, fd, _, rfl, (N' _ (.head _)).1, (N' _ (.tail _ (.head _))).1, F'.keep _ _ hof, hfd, fun hx => ?_, fun hx h2 tk2 ext hend => ?_⟩
    · cases cs with
      | nil => exact absurd (show tx [] = Str.ofString "" from by decide +kernel) hx
      | cons c r =>
        refine wpAny_assign_Name (wpAny_storeName_local (s := { s with heap := h', toks := tk' }) hch F'.ns (fun h₂ hn₂ hs₂ => ?_) hp)
        have F2 := F'.set hn₂ hs₂
        have N2 := N'.set hs₂
        have cl : r.length + 1 ≤ 1000 := hl
        have := count_head (c :: r)
        refine wpAny_passesOwn hE (wpAny_mono (turn c r tok m t' its' k' _ t1' ti tt h₂ _ cl (hlow c (.head _)) (fun d hd => hlow d (.tail _ hd)) hJ ?_ N2 hS' (by simp only [List.tail_cons] at this; omega)) (fun f s₃ hf => ?_) fun _ _ z => z)
        · rw [pin m2, pin m1, pin m3] at F2
          exact F2
        · cases f with
          | next =>
            obtain ⟨cs', tok', e', h3, tk3, rfl, st3, hb, hlow3, hJ3⟩ := hf
            exact ⟨_, by split <;> simp only [List.length_cons] <;> omega, cs', tok', e', h3, tk3, rfl, st3, by omega, hlow3, hJ3, rfl⟩
          | cont =>
            obtain ⟨cs', tok', e', h3, tk3, rfl, st3, hb, hlow3, hJ3⟩ := hf
            exact ⟨_, by split <;> simp only [List.length_cons] <;> omega, cs', tok', e', h3, tk3, rfl, st3, by omega, hlow3, hJ3, rfl⟩
          | brk => exact hf.elim
          | ret v => exact hf
    · cases cs with
      | cons c r => exact absurd hx (by rw [show Str.ofString "" = tx [] from by decide +kernel]; simp [tx])
      | nil =>
        refine wpAny_execs_nil ?_
        have NI := N' _ (.head _)
        have hIg := NI.2.2
        obtain ⟨b1, b2, b3⟩ := ap.2.2.2.1
        obtain ⟨d1, d2⟩ := ap.2.2.2.2.2.2
        refine done tok h2 tk2 hJ ⟨m, its', k', (ln + if ([] : List Nat).head? = some 10 then 1 else 0), t1', ti, tt, ⟨F'.ns.extBut ext (Ne.symm NI.2.1), fun b o e => ext b o (fun z => by rw [z, hIg] at e; cases e) (F'.keep b o e), F'.above⟩, fun p hp => ?_, hS', by simpa using hN, m1, m2, m3, fun _ => rfl⟩
        rcases List.mem_cons.mp hp with rfl | hp
        · exact ⟨hend, NI.2⟩
        · have z := N' p (.tail _ hp)
          refine ⟨ext _ _ ?_ z.1, z.2⟩
          simp only [List.mem_cons, List.not_mem_nil, or_false] at hp
          rcases hp with rfl | rfl | rfl | rfl | rfl
          · exact fun z => d1 z.symm
          · exact fun z => b1 z.symm
          · exact fun z => b2 z.symm
          · exact fun z => b3 z.symm
          · exact fun z => d2.1 z.symm

theorem lexend {J : List Nat → List Nat → Prop} {bnd : Nat} {Qr : Value → Shared → Prop} {s₀ : Shared} {h' : Heap} {tk' : Nat} {m' : PySem.Str → Option Value} {N : Int} {f : Flow} {its : Array Value} {k t1 ti tt : Nat} {ln : Int} {r tok' : List Nat} {X : PySem.Str} (hf : f = .next ∨ f = .cont)
    (F : Fr g L h' m') (Nw : News g L h' (Led w x dx fs lst pb I q k1 k2 k3 k4 tw n pk pits (ciObj q (Str.ofString "") ti false) its k ln t1)) (hS : StrsAre its.toList (chs r)) (hN : ln + (r.count 10 : Int) = N)
    (m1 : m' (Str.ofString "self") = some (.ref x)) (m2 : m' (Str.ofString "token") = some (.str X tt)) (hX : X = tx tok') (m3 : m' (Str.ofString "fiter") = some (.ref I)) (hb : r.length ≤ bnd) (hlow : ∀ c ∈ r, c < 128) (hJ : J r tok') :
    LexEnd w x dx fs lst pb I q k1 k2 k3 k4 tw n pk pits g L N J bnd Qr s₀ f { s₀ with heap := h', toks := tk' } := by
  have st : LexSt w x dx fs lst pb I q k1 k2 k3 k4 tw n pk pits g L N r tok' false h' := ⟨m', its, k, ln, t1, ti, tt, F, Nw, hS, hN, m1, by rw [m2, hX], m3, fun h => nomatch h⟩
  rcases hf with rfl | rfl <;> exact ⟨r, tok', false, h', tk', rfl, st, hb, hlow, hJ⟩
theorem lexend_done {J : List Nat → List Nat → Prop} {bnd : Nat} {Qr : Value → Shared → Prop} {s₀ : Shared} {h' : Heap} {tk' : Nat} {N : Int} {tok' : List Nat}
    (st : LexSt w x dx fs lst pb I q k1 k2 k3 k4 tw n pk pits g L N [] tok' true h') (hJ : J [] tok') :
    LexEnd w x dx fs lst pb I q k1 k2 k3 k4 tw n pk pits g L N J bnd Qr s₀ .next { s₀ with heap := h', toks := tk' } := ⟨[], tok', true, h', tk', rfl, st, Nat.zero_le _, (fun _ h => nomatch h), hJ⟩
theorem lex_gh2 {h : Heap} {m : PySem.Str → Option Value} {oI : Obj} {its : Array Value} {k t1 : Nat} {ln : Int} (F : Fr g L h m) (N : News g L h (Led w x dx fs lst pb I q k1 k2 k3 k4 tw n pk pits oI its k ln t1)) :
    Gh g h [(x, instObj 69 dx), (dx, dictOf (lexD w k1 k2 k3 k4 ln t1 fs tw pb) n), (lst, W.listOf its k), (pb, W.listOf pits pk)] :=
  ⟨F.keep, fun p hp => ⟨(N p (.tail _ (.tail _ hp))).1, (N p (.tail _ (.tail _ hp))).2.2⟩, Nat.le_trans F.above (Nat.le_of_lt F.ns.lt)⟩
theorem ap_of {h : Heap} {oI : Obj} {its : Array Value} {k t1 : Nat} {ln : Int} (N : News g L h (Led w x dx fs lst pb I q k1 k2 k3 k4 tw n pk pits oI its k ln t1)) (a : Apart x dx lst pb I q) : Apart x dx lst pb I q := a
end
theorem ws_occ (c : Nat) : (Builtin.Str.occurrences (Str.ofString "\n\t\r ") (tx [c]) 0 (Str.ofString "\n\t\r ").length 1).isEmpty = !ws c := by
  have := StrLaws.found_one (Str.ofString "\n\t\r ") c
  rw [show (Str.ofString "\n\t\r ").cps.toList = [10, 9, 13, 32] from by decide +kernel, Bool.not_eq_eq_eq_not] at this
  rw [this]
  simp [ws, Bool.or_assoc]
  rfl
theorem eq1 (c : Nat) (x : PySem.Str) (d : Nat) (hx : x = tx [d]) : (tx [c] == x) = (c == d) := by
  rw [hx, Bool.eq_iff_iff]; simp [tx]
end Mine

end F_B8a
section F_B8
open PySem PySem.Spec PySem.W PySem.Calls PyProof.Rows
namespace Mine
theorem rows_hdr_B8 : True := by
  k_with_none
  w_top off
  k_with "mine units" => (first | (refine' rm1 ?zuaa ?zuab; (case zuaa => with_reducible assumption); (case zuab => rfl)) | (refine' rm2 ?zuba ?zubb; (case zuba => with_reducible assumption); (case zubb => rfl)) | (refine' rm3 ?zuca ?zucb; (case zuca => with_reducible assumption); (case zucb => rfl)) | (dsimp only [Ar, Around.deeper, Around.in1]; first | (refine' rm1 ?zuda ?zudb; (case zuda => with_reducible assumption); (case zudb => rfl)) | (refine' rm2 ?zuea ?zueb; (case zuea => with_reducible assumption); (case zueb => rfl)) | (refine' rm3 ?zufa ?zufb; (case zufa => with_reducible assumption); (case zufb => rfl)) | (refine' rm4 ?zuga ?zugb; (case zuga => with_reducible assumption); (case zugb => rfl))))
  k_with "mine mem" => (first | with_reducible exact mem_h | with_reducible assumption | (with_reducible refine List.mem_append_left _ ?_; k_extra "mine mem") | (with_reducible refine List.mem_append_right _ ?_; k_extra "mine mem") | (with_reducible refine mem_t ?_; k_extra "mine mem"))
  k_with "mine sub" => (first | exact all_nil | (refine all_cons ?_ ?_; k_extra "mine mem"; k_extra "mine sub") | (refine all_app ?_ ?_; k_extra "mine sub"; k_extra "mine sub") | (intro pq hpq; k_extra "mine mem"))
  k_with "mine room" => (first | with_reducible assumption | (refine' rm1 ?zraa ?zrab; (case zraa => with_reducible assumption); (case zrab => rfl)) | (refine' rm2 ?zrba ?zrbb; (case zrba => with_reducible assumption); (case zrbb => rfl)) | (refine' rm3 ?zrca ?zrcb; (case zrca => with_reducible assumption); (case zrcb => rfl)) | (refine' rm0 ?zrd; (case zrd => with_reducible assumption)) | (refine' leL ?zrea ?zreb; (case zrea => with_reducible assumption); (case zreb => rfl)) | (refine Ne.symm ?zrf; (case zrf => with_reducible assumption)) | (refine Nat.ne_of_lt ?zrg; (case zrg => with_reducible assumption)) | (refine Nat.ne_of_gt ?zrh; (case zrh => with_reducible assumption)) | ((try dsimp only [Ar, Around.deeper, Around.in1]); first | (refine' rm1 ?zria ?zrib; (case zria => with_reducible assumption); (case zrib => rfl)) | (refine' rm2 ?zrja ?zrjb; (case zrja => with_reducible assumption); (case zrjb => rfl)) | (refine' rm3 ?zrka ?zrkb; (case zrka => with_reducible assumption); (case zrkb => rfl)) | (refine' rm4 ?zrla ?zrlb; (case zrla => with_reducible assumption); (case zrlb => rfl)) | omega))
  k_with "mine ne" => (first | with_reducible assumption | (refine Ne.symm ?zna; (case zna => with_reducible assumption)) | (refine Nat.ne_of_lt ?znb; (case znb => with_reducible assumption)) | (refine Nat.ne_of_gt ?znc; (case znc => with_reducible assumption)))
  k_with "mine enter" => (first
  | (refine' enterG ?zqkG ?zqk3 ?zqk5 ?zqk6 ?zqk7 ?zqk8 ?zqk9 ?zqkB ?_ ?zqc2 ?zqc3 ?zqc4 ?zqc5; (case zqkG => k_asm); (case zqk3 => k_asm); (case zqk5 => k_asm); (case zqk6 => k_is); (case zqk7 => k_is); (case zqk8 => ktr_room); (case zqk9 => exact BindsTo.of_eq rfl); (case zqc5 => decide); (case zqkB => exact locs rfl); (case zqc2 => exact rfl); (case zqc3 => exact rfl); (case zqc4 => exact rfl); k_whole; intro Lq' hq' Fq' Nq' l1q; (try k_lt l1q); (try dsimp only); (try k_fold))
  | (refine' enterC ?zqkG ?zqk3 ?zqk5 ?zqk6 ?zqk7 ?zqk8 ?zqk9 ?zqkB ?zqkD ?_ ?zqc2 ?zqc3 ?zqc4; (case zqkG => k_asm); (case zqk3 => k_asm); (case zqk5 => k_asm); (case zqk6 => k_is); (case zqk7 => k_is); (case zqk8 => ktr_room); (case zqk9 => exact BindsTo.of_eq rfl); (case zqkB => exact rfl); (case zqkD => decide +kernel); (case zqc2 => exact rfl); (case zqc3 => exact rfl); (case zqc4 => exact rfl); k_whole; intro Lq' hq' tkq' cellsq' Fq' Nq' Yq' l1q; (try k_lt l1q); k_cells Yq'; (try simp only [List.cons_append, List.nil_append] at Nq'); (try dsimp only); (try k_fold)))
  k_with "mine k_steps" => ((try k_unmd); (try k_fold); repeat' (first | (k_unfold; (try dsimp only)) | ((fail_if_success (k_extra "mine stop")); (fail_if_success (with_reducible show wpAny _ _ (exec (Stmt.For _ _ _ _ _) _) _ _ _)); (fail_if_success (with_reducible show wpAny _ _ (exec (Stmt.While _ _ _ _) _) _ _ _)); (fail_if_success (with_reducible show wpAny _ _ (exec (Stmt.Try _ _ _ _ _) _) _ _ _)); (fail_if_success (with_reducible show wpAny _ _ (eval (PySem.Expr.ListComp _ _ _ _) _) _ _ _)); (fail_if_success (with_reducible show wpAny _ _ (exec (Stmt.Assign _ (PySem.Expr.ListComp _ _ _ _) _) _) _ _ _)); (first | walk1 | (dsimp only; walk1) | (leave1; walk_say "STEP leave1"; try dsimp only))) | fail "no step"))
  k_with "execs cons" => ((try k_made); (try k_gentoks); (with_reducible refine wpAny_execs_cons ?_); (try dsimp only); try k_fold)
  k_with "storeName" => (k_dflt (refine' storeX_L ?z1 ?z2 ?_ ?z3 ?z4; (case z1 => k_asm); (case z2 => k_asm); (case z3 => exact rfl); (case z4 => exact rfl); k_whole); intro hq' Fq' Nq'; (try dsimp only at Fq'); (try k_sweep))
  k_with "eval Name" => (name_kind "local"; k_dflt (refine' nameX_L ?z5 ?z6 ?_ ?z7 ?z8; (case z5 => with_reducible assumption); (case z6 => exact Eq.refl (some _)); (case z7 => exact rfl); (case z8 => exact rfl); k_whole))
  k_with "eval Name" => ((with_reducible show wpAny _ _ (eval (PySem.Expr.Name _ _) (compEnvC _ _ _ _)) _ _ _); k_dflt (first
  | (refine' nm_L ?zqF ?zqv ?_ ?zqa ?zqb ?zqc; (case zqa => rfl); (case zqb => rfl); (case zqc => decide); (case zqF => k_asm); (case zqv => first | with_reducible assumption | assumption | rfl); k_whole)
  | (refine' nm_C ?zqF ?zqhc ?zqho ?zqhd ?_ ?zqa ?zqb ?zqc; (case zqa => rfl); (case zqb => rfl); (case zqc => decide); (case zqF => k_asm); (case zqhc => rfl); (case zqho => first | with_reducible assumption | assumption); (case zqhd => first | with_reducible assumption | assumption); k_whole)
  | (refine' nm_K ?zqF ?zqX ?zqT ?zqe ?_ ?zqg ?zqa ?zqb ?zqc; (case zqa => rfl); (case zqb => rfl); (case zqc => decide); (case zqg => rfl); (case zqF => k_asm); (case zqX => k_asm); (case zqT => k_asm); (case zqe => k_is); k_whole)
  | (refine' nm_B ?zqF ?zqX ?zqT ?zqe ?zqv ?zqn ?_ ?zqg ?zqbn ?zqa ?zqb ?zqc; (case zqa => rfl); (case zqb => rfl); (case zqc => decide); (case zqg => rfl); (case zqbn => rfl); (case zqF => k_asm); (case zqX => k_asm); (case zqT => k_asm); (case zqe => k_is); (case zqv => boot_fast); (case zqn => decide); k_whole)))
  k_with "callWith ref" => (k_here; k_dflt (first
  | ((with_reducible show wpAny _ _ (callWith _ (Value.ref _) _ (backTo _ (starEach (_ :: _) _)) []) _ _ _); first | (refine' callWith_M ?z9 ?z10 ?z11 ?z12 ?_; (case z9 => with_reducible assumption); (case z10 => with_reducible assumption); (case z11 => k_mem); (case z12 => k_is); k_whole) | (refine' callWith_K ?z13 ?z14 ?_; (case z13 => with_reducible assumption); (case z14 => k_is); k_whole))
  | ((with_reducible show wpAny _ _ (callWith _ (Value.ref _) _ (backTo _ (starEach [] _)) []) _ _ _); first | (refine' callWith_M0 ?z15 ?z16 ?_; (case z15 => k_meth); (case z16 => k_is); k_whole; try dsimp only [List.nil_append, List.cons_append]) | (refine' callWith_K0 ?z17 ?z18 ?_; (case z17 => (refine' Frag.In.keeps ?zia (Fr.keep ?zib); (case zib => with_reducible assumption); (case zia => with_reducible assumption))); (case z18 => k_is); k_whole))))
  k_with "subscriptTail" => (k_here; (with_reducible show wpAny _ _ (subscriptTail _ _ (Value.ref _) (Value.int _ _)) _ _ _); (with_unfolding_all refine' item_litK ?z19 ?z20 ?z21 ?z22 ?_ ?z23; (case z19 => is_list); (case z20 => decide); (case z21 => decide); (case z22 => rfl); (case z23 => with_unfolding_all rfl)); k_whole)
  k_with "subscriptTail Name Constant ref int" => (k_here; (with_reducible show wpAny _ _ (subscriptTail _ _ (Value.ref _) (Value.int _ _)) _ _ _); (with_unfolding_all refine' item_litK ?z24 ?z25 ?z26 ?z27 ?_ ?z28; (case z24 => is_list); (case z25 => decide); (case z26 => decide); (case z27 => rfl); (case z28 => with_unfolding_all rfl)); k_whole)
  k_with "eval Name" => (k_here; name_kind "globalImplicit"; k_dflt (first
  | (refine' nameX_K ?zqgF ?zqgX ?zqgT ?zqge ?_ ?zqga ?zqgb; (case zqgF => with_reducible assumption); (case zqgX => with_reducible assumption); (case zqgT => k_asm); (case zqga => rfl); (case zqgb => rfl); (case zqge => k_is); k_whole)
  | (refine' nameX_B ?zqgF ?zqgX ?zqgT ?zqge ?zqgv ?zqgn ?_ ?zqga ?zqgb; (case zqgF => with_reducible assumption); (case zqgX => with_reducible assumption); (case zqgT => k_asm); (case zqga => rfl); (case zqgb => rfl); (case zqge => k_is); (case zqgv => boot_fast); (case zqgn => decide); k_whole)))
  trivial
theorem iter_ciN {prog : Program} {w : World} {A : Around} {E : Value → Shared → Prop} {s : Shared} {h₀ : Heap} {L q : Addr} {m : PySem.Str → Option Value} {news : List (Addr × Obj)} {fv self : Value} {x : PySem.Str} {t : Tok} {Q : Value → Shared → Prop} (F : Fr h₀ L s.heap m) (N : News h₀ L s.heap news) (hq : (q, methodObj fv self) ∈ news)
    (h : ∀ I h', Fr h₀ L h' m → News h₀ L h' ((I, ciObj q x t false) :: news) → (∀ p ∈ news, p.1 < I) → Q (.ref I) { s with heap := h' }) : wpAny (model prog w) A (call (.builtin "iter") [.ref q, .str x t]) Q E s :=
  iter_ci (N _ hq).1 (h _ _ (F.push _) (N.push F _) fun p hp => Heap.lt_size (N p hp).1)
theorem truthyN {prog : Program} {w : World} {A : Around} {E : Value → Shared → Prop} {s : Shared} {h₀ : Heap} {L l : Addr} {news : List (Addr × Obj)} {v : Value} {vs : List Value} {k : Nat} {Q : Bool → Shared → Prop} (N : News h₀ L s.heap news) (hl : (l, W.listOf (v :: vs).toArray k) ∈ news) (hz : vs.length ≤ 2000)
    (h : ∀ tk, Q true { s with toks := tk }) : wpAny (model prog w) A (truthy (.ref l)) Q E s :=
  wpAny_truthy_list ⟨_, (N _ hl).1, rfl, _, rfl⟩ (by simp; omega) (by simpa using h _)
theorem rows_B8_0 : True := by
  k_with "call builtin:iter" => (k_dflt (refine' iter_ciN ?z44 ?z45 ?z46 ?_; (case z44 => k_asm); (case z45 => k_asm); (case z46 => k_mem); k_whole); intro Iq' hq' Fq' Nq' l1q; (try k_lt l1q); (try k_sweep))
  k_with "truthy ref" => (k_dflt (refine' truthyN ?z47 ?z48 ?z49 ?_; (case z47 => k_asm); (case z48 => k_mem); (case z49 => (have := strs_len (by with_reducible assumption); simp only [List.length_cons] at *; omega)); k_whole); intro tkq'; (try dsimp only))
  k_with "call builtin:list.pop" => (k_dflt (refine' pop0 ?z50 ?z51 ?z52 ?z53 ?_; (case z50 => k_asm); (case z51 => k_asm); (case z52 => k_upd); (case z53 => (have := strs_len (by with_reducible assumption); simp only [List.length_cons] at *; rw [sizeLine_eq]; omega)); k_whole); intro hq' Fq' Nq'; (try dsimp only at Nq'); (try k_sweep))
  k_with "call ref" => ((with_reducible show wpAny _ _ (call (Value.ref 52) _) _ _ _); (with_reducible rename Fr _ _ _ _ => kFq); (with_reducible rename News _ _ _ _ => kNq); k_dflt (refine wpAny_call ?_; refine' readchar_N kFq kNq ?z54 ?z55 ?z56 ?z57 ?z58 ?z59 ?z60 ?z61 ?z62 ?z63 ?_; (case z54 => assumption); (case z55 => assumption); (case z56 => assumption); (case z57 => assumption); (case z58 => ktr_room); (case z59 => assumption); (case z60 => assumption); (case z61 => assumption); (case z62 => ktr_room); (case z63 => ktr_room); k_whole); intro itsq' kq' t1q' tq' hq' tkq' Fq' Nq' hSq'; (try dsimp only); clear kFq kNq)
  trivial
section
variable {w : World} {p : Program} {loose : List PySem.Str} {mean : ExcName → Option Value} {mg mb : PySem.Str → Option Value}
   {dp un : Nat} {fr : Option (List Env)} {gd : Option (List Code)} {s : Shared} {Q : Value → Shared → Prop} {E : Value → Shared → Prop}
theorem fill8 (w : World) (h : Heap) (X : (hd.heap_1 w.params).In h) : PySem.Challenge.rw_in0215_01.row.prog = PP ∧ (hd.heap_1 w.params).In h := by
  k_fill
  exact ⟨rfl, X⟩

theorem eq34b (c : Nat) : (tx [c] == Str.ofString "\"") = (c == 34) := eq1 c _ 34 (by decide +kernel)
theorem eq92b (c : Nat) : (tx [c] == Str.ofString "\\") = (c == 92) := eq1 c _ 92 (by decide +kernel)
theorem token_call {g : Heap} {x dx fs lst pb : Addr} {O : List (Addr × Obj)} {its pits : Array Value} {k n pk k1 k2 k3 k4 t1 tw : Nat} {ln : Int} {cs : List Nat} {pbs : List PySem.Str}
   (G : Gh g s.heap [(x, instObj 69 dx), (dx, dictOf (lexD w k1 k2 k3 k4 ln t1 fs tw pb) n), (lst, W.listOf its k), (pb, W.listOf pits pk)]) (hne : (@Ne Nat x dx) ∧ (@Ne Nat x lst) ∧ (@Ne Nat dx lst) ∧ (@Ne Nat x pb) ∧ (@Ne Nat dx pb) ∧ (@Ne Nat lst pb)) (SI : StreamIs w fs lst O) (hO : ∀ p ∈ O, g.get? p.1 = some p.2)
   (hS : StrsAre its.toList (chs cs)) (hP : StrsAre pits.toList pbs) (hl : cs.length ≤ 1000) (hpl : pbs.length ≤ 1000) (hlow : ∀ c ∈ cs, c < 128) (X : (hd.heap_1 w.params).In g) (T : Top p loose mean mg mb g) (hdp : dp + 6 < recursionLimit) (hun : un + 200 < cLine)
   (hret : ∀ its' k' pits' pk' ln' t1' t' h' tk' tok cs' pbs', (match pbs with | p :: ps => tok = p ∧ cs' = cs ∧ pbs' = ps | [] => tok = tx (tokn cs).1 ∧ cs' = (tokn cs).2 ∧ pbs' = []) → ln' + (cs'.count 10 : Int) = ln + (cs.count 10 : Int) →
     Gh g h' [(x, instObj 69 dx), (dx, dictOf (lexD w k1 k2 k3 k4 ln' t1' fs tw pb) n), (lst, W.listOf its' k'), (pb, W.listOf pits' pk')] → StrsAre its'.toList (chs cs') → StrsAre pits'.toList pbs' →
     Q (.str tok t') {s with heap := h', toks := tk'}) : wpAny (model PP w) (Ar dp un fr gd) (call (.ref 59) [.ref x]) Q E s := by
  obtain ⟨ne1, ne2, ne3, ne4, ne5, ne6⟩ := hne
  refine wpAny_call ?_
  cases pbs with
  | cons p ps =>
    obtain ⟨u, vs, e0, hP2⟩ := strs_cons hP
    have e1 : pits = (Value.str p u :: vs).toArray := by rw [← e0]
    subst e1
    k_dflt ktr_enter
    k_steps
    (with_reducible rename Fr _ _ _ _ => kF)
    (with_reducible rename News _ _ _ _ => kN)
    exact hret its k vs.toArray _ ln t1 _ _ _ p cs ps ⟨rfl, rfl, rfl⟩ rfl ⟨kF.keep, fun p hp => ⟨(kN p hp).1, (kN p hp).2.2⟩, Nat.le_trans kF.above (Nat.le_of_lt kF.ns.lt)⟩ hS hP2
  | nil =>
    have e0 := strs_nil hP
    have e1 : pits = ([] : List Value).toArray := by rw [← e0]
    subst e1
    have h52 : fnIn (hd.heap_1 w.params) 52 = true := by k_is
    have hret9 : ∀ (its' : Array Value) (k' : Nat) (ln' : Int) (t1' t' : Tok) (h' : Heap) (tk' : Nat) (tok r : List Nat) (X : PySem.Str), X = tx tok → (tok, r) = tokn cs → ln' + (r.count 10 : Int) = ln + (cs.count 10 : Int) →
        Gh g h' [(x, instObj 69 dx), (dx, dictOf (lexD w k1 k2 k3 k4 ln' t1' fs tw pb) n), (lst, W.listOf its' k'), (pb, W.listOf #[] pk)] → StrsAre its'.toList (chs r) → Q (.str X t') {s with heap := h', toks := tk'} := by
      intro its' k' ln' t1' t' h' tk' tok r X hX e e2 hG hS'
      subst hX
      exact hret its' k' #[] pk ln' t1' t' h' tk' (tx tok) r [] ⟨by rw [← e], by rw [← e], rfl⟩ e2 hG hS' .nil
    clear hret
    k_dflt ktr_enter
    k_steps
    (with_reducible rename Fr _ _ _ _ => kF)
    (with_reducible rename News _ _ _ _ => kN)
    have ap := ap_of kN (by refine ⟨?_, ?_, ?_, ⟨?_, ?_, ?_⟩, ⟨?_, ?_, ?_⟩, ⟨?_, ?_, ?_⟩, ?_, ?_, ?_⟩ <;> ktr_room)
    refine for_ci (dp := dp + 1) (un := un + 3) (J := fun cs' tok' => tok'.length + cs'.length ≤ 1000 ∧ ((tok' = [] ∧ tokn cs' = tokn cs) ∨ (cs' = [] ∧ (tok', ([] : List Nat)) = tokn cs))) (N := ln + (cs.count 10 : Int)) (cs := cs) (tok := []) (e := false) ap SI hO X T h52 (by ktr_room) (by ktr_room) rfl rfl rfl rfl rfl
      ⟨_, its, k, ln, t1, _, _, kF, kN, hS, rfl, rfl, rfl, rfl, fun h => nomatch h⟩ hl hlow ⟨by simpa using hl, .inl ⟨rfl, rfl⟩⟩ ?_ ?_
    · intro c r tok m u its2 k2 ln2 t12 ti2 tt2 h₁ tk₁ hr hc hrl hJ F2 N2 hS2 hN2
      obtain ⟨hsz, hJ⟩ := hJ
      obtain ⟨rfl, hT⟩ := hJ.resolve_right (fun h => nomatch h.1)
      have htl : (tx ([] : List Nat)).length ≤ 1000 := by decide
      have hcl : (tx [c]).length ≤ 1 := Nat.le_refl 1
      have hrd : (tx r.head?.toList).length ≤ 1 := by cases r <;> simp [PySem.Str.length]
      clear kF kN hS hP hl hpl hlow hJ
      k_steps
      · (with_reducible rename Fr _ _ _ _ => kF)
        (with_reducible rename News _ _ _ _ => kN)
        rename (Builtin.Str.occurrences _ _ _ _ _).isEmpty = _ => e0
        rw [ws_occ] at e0
        have e0' : ws c = false := by simpa using e0
        rename (tx [c] == Str.ofString "\"") = true => e1
        rw [eq34b] at e1
        have hc34 : c = 34 := by simpa using e1
        subst hc34
        have hT2 : quo [] r = tokn cs := by rw [← hT]; simp [tokn, ws]
        refine for_ci (J := fun cs' tok' => tok'.length + cs'.length ≤ 1000 ∧ quo tok' cs' = tokn cs) (N := ln + (cs.count 10 : Int)) (cs := r) (tok := []) (e := false) ap SI hO X T h52 (by ktr_room) (by ktr_room) rfl rfl rfl rfl rfl
          ⟨_, its2, k2, ln2, t12, _, _, kF, kN, hS2, hN2, rfl, rfl, rfl, fun h => nomatch h⟩ (by ktr_room) hrl ⟨by simp at hsz ⊢; omega, hT2⟩ ?_ ?_
        · intro c2 r2 tok2 m2 u2 its3 k3' ln3 t13 ti3 tt3 h₂ tk₂ hr2 hc2 hrl2 hJ2 F3 N3 hS3 hN3
          obtain ⟨hsz2, hQ⟩ := hJ2
          have htl : (tx tok2).length ≤ 1000 := by simp only [PySem.Str.length, List.size_toArray]; omega
          have hcl : (tx [c2]).length ≤ 1 := Nat.le_refl 1
          have hrd2 : (tx r2.head?.toList).length ≤ 1 := by cases r2 <;> simp [PySem.Str.length]
          clear kF kN hS2 hrl hsz hN2
          (try clear F2)
          (try clear N2)
          k_steps
          all_goals (
            (with_reducible rename Fr _ _ _ _ => kF)
            (with_reducible rename News _ _ _ _ => kN))
          · rename (tx [c2] == Str.ofString "\"") = true => g1
            rw [eq34b] at g1
            have hc34 : c2 = 34 := by simpa using g1
            subst hc34
            exact hret9 its3 k3' ln3 t13 _ _ _ tok2 r2 _ rfl (by rw [← hQ, quo34]) hN3 (lex_gh2 kF kN) hS3
          · rename (tx [c2] == Str.ofString "\"") = false => g1
            rename (tx [c2] == Str.ofString "\\") = true => g2
            rw [eq34b] at g1
            rw [eq92b] at g2
            have hc92 : c2 = 92 := by simpa using g2
            subst hc92
            refine lexend (tok' := tok2 ++ r2.head?.toList) (r := r2.tail) (.inl rfl) kF kN (by assumption) (by have := count_head r2; omega) rfl rfl (tx_append _ _) rfl (by simp) (fun d hd => hrl2 d (List.mem_of_mem_tail hd)) ⟨?_, ?_⟩
            · cases r2 <;> simp at hsz2 ⊢ <;> omega
            · rw [← hQ, quo92]
          · rename (tx [c2] == Str.ofString "\"") = false => g1
            rename (tx [c2] == Str.ofString "\\") = false => g2
            rw [eq34b] at g1
            rw [eq92b] at g2
            refine lexend (tok' := tok2 ++ [c2]) (r := r2) (.inl rfl) kF kN hS3 hN3 rfl rfl (tx_append _ _) rfl (Nat.le_refl _) hrl2 ⟨?_, ?_⟩
            · simp at hsz2 ⊢; omega
            · rw [← hQ, quoc _ _ _ g1 g2]
        · rintro tok h' tk' hJ2 st2
          clear kF kN
          (try clear F2)
          (try clear N2)
          k_steps
          exact lexend_done st2 ⟨hJ2.1, .inr ⟨rfl, by rw [← hJ2.2]; simp [quo]⟩⟩
      · (with_reducible rename Fr _ _ _ _ => kF)
        (with_reducible rename News _ _ _ _ => kN)
        rename (Builtin.Str.occurrences _ _ _ _ _).isEmpty = _ => e0
        rw [ws_occ] at e0
        have e0' : ws c = false := by simpa using e0
        rename (tx [c] == Str.ofString "\"") = false => e1
        rename (tx [c] == Str.ofString "\\") = true => e2
        rw [eq34b] at e1
        rw [eq92b] at e2
        have hc92 : c = 92 := by simpa using e2
        subst hc92
        have hT2 : bar ([] ++ r.head?.toList) r.tail = tokn cs := by rw [← hT]; simp [tokn, ws]
        refine for_ci (J := fun cs' tok' => tok'.length + cs'.length ≤ 1000 ∧ bar tok' cs' = tokn cs) (N := ln + (cs.count 10 : Int)) (cs := r.tail) (tok := [] ++ r.head?.toList) (e := false) ap SI hO X T h52 (by ktr_room) (by ktr_room) rfl rfl rfl rfl rfl
          ⟨_, _, _, _, _, _, _, kF, kN, by assumption, (by have := count_head r; omega), rfl, congrArg (fun z => some (Value.str z _)) (tx_append [] r.head?.toList), rfl, fun h => nomatch h⟩ (by rw [List.length_tail]; omega) (fun d hd => hrl d (List.mem_of_mem_tail hd)) ⟨by cases r <;> simp at hsz ⊢ <;> omega, hT2⟩ ?_ ?_
        · intro c2 r2 tok2 m2 u2 its3 k3' ln3 t13 ti3 tt3 h₂ tk₂ hr2 hc2 hrl2 hJ2 F3 N3 hS3 hN3
          obtain ⟨hsz2, hQ⟩ := hJ2
          have htl : (tx tok2).length ≤ 1000 := by simp only [PySem.Str.length, List.size_toArray]; omega
          have hcl : (tx [c2]).length ≤ 1 := Nat.le_refl 1
          have hrd2 : (tx r2.head?.toList).length ≤ 1 := by cases r2 <;> simp [PySem.Str.length]
          clear kF kN hS2 hrl hsz hN2
          (try clear F2)
          (try clear N2)
          k_steps
          all_goals (
            (with_reducible rename Fr _ _ _ _ => kF)
            (with_reducible rename News _ _ _ _ => kN))
          · rename (Builtin.Str.occurrences _ _ _ (Str.length _) _).isEmpty = true => g1
            rename (tx [c2] == Str.ofString "\\") = true => g2
            rw [ws_occ] at g1
            rw [eq92b] at g2
            have hc92 : c2 = 92 := by simpa using g2
            subst hc92
            refine lexend (tok' := tok2 ++ r2.head?.toList) (r := r2.tail) (.inl rfl) kF kN (by assumption) (by have := count_head r2; omega) rfl rfl (tx_append _ _) rfl (by simp) (fun d hd => hrl2 d (List.mem_of_mem_tail hd)) ⟨?_, ?_⟩
            · cases r2 <;> simp at hsz2 ⊢ <;> omega
            · rw [← hQ, bar92]
          · rename (Builtin.Str.occurrences _ _ _ (Str.length _) _).isEmpty = true => g1
            rename (tx [c2] == Str.ofString "\\") = false => g2
            rw [ws_occ] at g1
            rw [eq92b] at g2
            have g1' : ws c2 = false := by simpa using g1
            refine lexend (tok' := tok2 ++ [c2]) (r := r2) (.inl rfl) kF kN hS3 hN3 rfl rfl (tx_append _ _) rfl (Nat.le_refl _) hrl2 ⟨?_, ?_⟩
            · simp at hsz2 ⊢; omega
            · rw [← hQ, barc _ _ _ g1' g2]
          · rename (Builtin.Str.occurrences _ _ _ (Str.length _) _).isEmpty = false => g1
            rw [ws_occ] at g1
            have g1' : ws c2 = true := by simpa using g1
            exact hret9 its3 k3' ln3 t13 _ _ _ tok2 r2 _ rfl (by rw [← hQ, barw _ _ _ g1']) hN3 (lex_gh2 kF kN) hS3
        · rintro tok h' tk' hJ2 st2
          clear kF kN
          (try clear F2)
          (try clear N2)
          k_steps
          exact lexend_done st2 ⟨hJ2.1, .inr ⟨rfl, by rw [← hJ2.2]; simp [bar]⟩⟩
      · (with_reducible rename Fr _ _ _ _ => kF)
        (with_reducible rename News _ _ _ _ => kN)
        rename (Builtin.Str.occurrences _ _ _ _ _).isEmpty = _ => e0
        rw [ws_occ] at e0
        have e0' : ws c = false := by simpa using e0
        rename (tx [c] == Str.ofString "\"") = false => e1
        rename (tx [c] == Str.ofString "\\") = false => e2
        rw [eq34b] at e1
        rw [eq92b] at e2
        have hT2 : bar ([] ++ [c]) r = tokn cs := by rw [← hT]; simp [tokn, e0', e1, e2]
        refine for_ci (J := fun cs' tok' => tok'.length + cs'.length ≤ 1000 ∧ bar tok' cs' = tokn cs) (N := ln + (cs.count 10 : Int)) (cs := r) (tok := [] ++ [c]) (e := false) ap SI hO X T h52 (by ktr_room) (by ktr_room) rfl rfl rfl rfl rfl
          ⟨_, its2, k2, ln2, t12, _, _, kF, kN, hS2, hN2, rfl, congrArg (fun z => some (Value.str z _)) (tx_append [] [c]), rfl, fun h => nomatch h⟩ (by ktr_room) hrl ⟨by cases r <;> simp at hsz ⊢ <;> omega, hT2⟩ ?_ ?_
        · intro c2 r2 tok2 m2 u2 its3 k3' ln3 t13 ti3 tt3 h₂ tk₂ hr2 hc2 hrl2 hJ2 F3 N3 hS3 hN3
          obtain ⟨hsz2, hQ⟩ := hJ2
          have htl : (tx tok2).length ≤ 1000 := by simp only [PySem.Str.length, List.size_toArray]; omega
          have hcl : (tx [c2]).length ≤ 1 := Nat.le_refl 1
          have hrd2 : (tx r2.head?.toList).length ≤ 1 := by cases r2 <;> simp [PySem.Str.length]
          clear kF kN hS2 hrl hsz hN2
          (try clear F2)
          (try clear N2)
          k_steps
          all_goals (
            (with_reducible rename Fr _ _ _ _ => kF)
            (with_reducible rename News _ _ _ _ => kN))
          · rename (Builtin.Str.occurrences _ _ _ (Str.length _) _).isEmpty = true => g1
            rename (tx [c2] == Str.ofString "\\") = true => g2
            rw [ws_occ] at g1
            rw [eq92b] at g2
            have hc92 : c2 = 92 := by simpa using g2
            subst hc92
            refine lexend (tok' := tok2 ++ r2.head?.toList) (r := r2.tail) (.inl rfl) kF kN (by assumption) (by have := count_head r2; omega) rfl rfl (tx_append _ _) rfl (by simp) (fun d hd => hrl2 d (List.mem_of_mem_tail hd)) ⟨?_, ?_⟩
            · cases r2 <;> simp at hsz2 ⊢ <;> omega
            · rw [← hQ, bar92]
          · rename (Builtin.Str.occurrences _ _ _ (Str.length _) _).isEmpty = true => g1
            rename (tx [c2] == Str.ofString "\\") = false => g2
            rw [ws_occ] at g1
            rw [eq92b] at g2
            have g1' : ws c2 = false := by simpa using g1
            refine lexend (tok' := tok2 ++ [c2]) (r := r2) (.inl rfl) kF kN hS3 hN3 rfl rfl (tx_append _ _) rfl (Nat.le_refl _) hrl2 ⟨?_, ?_⟩
            · simp at hsz2 ⊢; omega
            · rw [← hQ, barc _ _ _ g1' g2]
          · rename (Builtin.Str.occurrences _ _ _ (Str.length _) _).isEmpty = false => g1
            rw [ws_occ] at g1
            have g1' : ws c2 = true := by simpa using g1
            exact hret9 its3 k3' ln3 t13 _ _ _ tok2 r2 _ rfl (by rw [← hQ, barw _ _ _ g1']) hN3 (lex_gh2 kF kN) hS3
        · rintro tok h' tk' hJ2 st2
          clear kF kN
          (try clear F2)
          (try clear N2)
          k_steps
          exact lexend_done st2 ⟨hJ2.1, .inr ⟨rfl, by rw [← hJ2.2]; simp [bar]⟩⟩
      · (with_reducible rename Fr _ _ _ _ => kF)
        (with_reducible rename News _ _ _ _ => kN)
        rename (Builtin.Str.occurrences _ _ _ _ _).isEmpty = _ => e0
        rw [ws_occ] at e0
        refine lexend (.inr rfl) kF kN hS2 hN2 rfl rfl rfl rfl (Nat.le_refl _) hrl ⟨by simp at hsz ⊢; omega, .inl ⟨rfl, ?_⟩⟩
        rw [← hT]
        have : ws c = true := by simpa using e0
        simp [tokn, this]
    · rintro tok h' tk' hJ ⟨m, its2, k2, ln2, t12, ti2, tt2, F2, N2, hS2, hN2, m1, m2, m3, _⟩
      have hfin : (tok, ([] : List Nat)) = tokn cs := by
        rcases hJ.2 with ⟨rfl, h⟩ | ⟨_, h⟩
        · exact h
        · exact h
      rw [pin m2] at F2
      clear kF kN
      k_steps
      exact hret9 its2 k2 ln2 t12 _ _ _ tok [] _ rfl hfin hN2 (lex_gh2 F2 N2) hS2
end
end Mine

end F_B8
section F_B9
open PySem PySem.Spec PySem.W PySem.Calls PyProof.Rows
namespace Mine
theorem rows_hdr_B9 : True := by
  k_with_none
  w_top off
  k_with "mine units" => (first | (refine' rm1 ?zuaa ?zuab; (case zuaa => with_reducible assumption); (case zuab => rfl)) | (refine' rm2 ?zuba ?zubb; (case zuba => with_reducible assumption); (case zubb => rfl)) | (refine' rm3 ?zuca ?zucb; (case zuca => with_reducible assumption); (case zucb => rfl)) | (dsimp only [Ar, Around.deeper, Around.in1]; first | (refine' rm1 ?zuda ?zudb; (case zuda => with_reducible assumption); (case zudb => rfl)) | (refine' rm2 ?zuea ?zueb; (case zuea => with_reducible assumption); (case zueb => rfl)) | (refine' rm3 ?zufa ?zufb; (case zufa => with_reducible assumption); (case zufb => rfl)) | (refine' rm4 ?zuga ?zugb; (case zuga => with_reducible assumption); (case zugb => rfl))))
  k_with "mine mem" => (first | with_reducible exact mem_h | with_reducible assumption | (with_reducible refine List.mem_append_left _ ?_; k_extra "mine mem") | (with_reducible refine List.mem_append_right _ ?_; k_extra "mine mem") | (with_reducible refine mem_t ?_; k_extra "mine mem"))
  k_with "mine sub" => (first | exact all_nil | (refine all_cons ?_ ?_; k_extra "mine mem"; k_extra "mine sub") | (refine all_app ?_ ?_; k_extra "mine sub"; k_extra "mine sub") | (intro pq hpq; k_extra "mine mem"))
  k_with "mine room" => (first | with_reducible assumption | (refine' rm1 ?zraa ?zrab; (case zraa => with_reducible assumption); (case zrab => rfl)) | (refine' rm2 ?zrba ?zrbb; (case zrba => with_reducible assumption); (case zrbb => rfl)) | (refine' rm3 ?zrca ?zrcb; (case zrca => with_reducible assumption); (case zrcb => rfl)) | (refine' rm0 ?zrd; (case zrd => with_reducible assumption)) | (refine' leL ?zrea ?zreb; (case zrea => with_reducible assumption); (case zreb => rfl)) | (refine Ne.symm ?zrf; (case zrf => with_reducible assumption)) | (refine Nat.ne_of_lt ?zrg; (case zrg => with_reducible assumption)) | (refine Nat.ne_of_gt ?zrh; (case zrh => with_reducible assumption)) | ((try dsimp only [Ar, Around.deeper, Around.in1]); first | (refine' rm1 ?zria ?zrib; (case zria => with_reducible assumption); (case zrib => rfl)) | (refine' rm2 ?zrja ?zrjb; (case zrja => with_reducible assumption); (case zrjb => rfl)) | (refine' rm3 ?zrka ?zrkb; (case zrka => with_reducible assumption); (case zrkb => rfl)) | (refine' rm4 ?zrla ?zrlb; (case zrla => with_reducible assumption); (case zrlb => rfl)) | omega))
  k_with "mine ne" => (first | with_reducible assumption | (refine Ne.symm ?zna; (case zna => with_reducible assumption)) | (refine Nat.ne_of_lt ?znb; (case znb => with_reducible assumption)) | (refine Nat.ne_of_gt ?znc; (case znc => with_reducible assumption)))
  k_with "mine enter" => (first
  | (refine' enterG ?zqkG ?zqk3 ?zqk5 ?zqk6 ?zqk7 ?zqk8 ?zqk9 ?zqkB ?_ ?zqc2 ?zqc3 ?zqc4 ?zqc5; (case zqkG => k_asm); (case zqk3 => k_asm); (case zqk5 => k_asm); (case zqk6 => k_is); (case zqk7 => k_is); (case zqk8 => ktr_room); (case zqk9 => exact BindsTo.of_eq rfl); (case zqc5 => decide); (case zqkB => exact locs rfl); (case zqc2 => exact rfl); (case zqc3 => exact rfl); (case zqc4 => exact rfl); k_whole; intro Lq' hq' Fq' Nq' l1q; (try k_lt l1q); (try dsimp only); (try k_fold))
  | (refine' enterC ?zqkG ?zqk3 ?zqk5 ?zqk6 ?zqk7 ?zqk8 ?zqk9 ?zqkB ?zqkD ?_ ?zqc2 ?zqc3 ?zqc4; (case zqkG => k_asm); (case zqk3 => k_asm); (case zqk5 => k_asm); (case zqk6 => k_is); (case zqk7 => k_is); (case zqk8 => ktr_room); (case zqk9 => exact BindsTo.of_eq rfl); (case zqkB => exact rfl); (case zqkD => decide +kernel); (case zqc2 => exact rfl); (case zqc3 => exact rfl); (case zqc4 => exact rfl); k_whole; intro Lq' hq' tkq' cellsq' Fq' Nq' Yq' l1q; (try k_lt l1q); k_cells Yq'; (try simp only [List.cons_append, List.nil_append] at Nq'); (try dsimp only); (try k_fold)))
  k_with "mine k_steps" => ((try k_unmd); (try k_fold); repeat' (first | (k_unfold; (try dsimp only)) | ((fail_if_success (k_extra "mine stop")); (fail_if_success (with_reducible show wpAny _ _ (exec (Stmt.For _ _ _ _ _) _) _ _ _)); (fail_if_success (with_reducible show wpAny _ _ (exec (Stmt.While _ _ _ _) _) _ _ _)); (fail_if_success (with_reducible show wpAny _ _ (exec (Stmt.Try _ _ _ _ _) _) _ _ _)); (fail_if_success (with_reducible show wpAny _ _ (eval (PySem.Expr.ListComp _ _ _ _) _) _ _ _)); (fail_if_success (with_reducible show wpAny _ _ (exec (Stmt.Assign _ (PySem.Expr.ListComp _ _ _ _) _) _) _ _ _)); (first | walk1 | (dsimp only; walk1) | (leave1; walk_say "STEP leave1"; try dsimp only))) | fail "no step"))
  k_with "execs cons" => ((try k_made); (try k_gentoks); (with_reducible refine wpAny_execs_cons ?_); (try dsimp only); try k_fold)
  k_with "storeName" => (k_dflt (refine' storeX_L ?z1 ?z2 ?_ ?z3 ?z4; (case z1 => k_asm); (case z2 => k_asm); (case z3 => exact rfl); (case z4 => exact rfl); k_whole); intro hq' Fq' Nq'; (try dsimp only at Fq'); (try k_sweep))
  k_with "eval Name" => (name_kind "local"; k_dflt (refine' nameX_L ?z5 ?z6 ?_ ?z7 ?z8; (case z5 => with_reducible assumption); (case z6 => exact Eq.refl (some _)); (case z7 => exact rfl); (case z8 => exact rfl); k_whole))
  k_with "eval Name" => ((with_reducible show wpAny _ _ (eval (PySem.Expr.Name _ _) (compEnvC _ _ _ _)) _ _ _); k_dflt (first
  | (refine' nm_L ?zqF ?zqv ?_ ?zqa ?zqb ?zqc; (case zqa => rfl); (case zqb => rfl); (case zqc => decide); (case zqF => k_asm); (case zqv => first | with_reducible assumption | assumption | rfl); k_whole)
  | (refine' nm_C ?zqF ?zqhc ?zqho ?zqhd ?_ ?zqa ?zqb ?zqc; (case zqa => rfl); (case zqb => rfl); (case zqc => decide); (case zqF => k_asm); (case zqhc => rfl); (case zqho => first | with_reducible assumption | assumption); (case zqhd => first | with_reducible assumption | assumption); k_whole)
  | (refine' nm_K ?zqF ?zqX ?zqT ?zqe ?_ ?zqg ?zqa ?zqb ?zqc; (case zqa => rfl); (case zqb => rfl); (case zqc => decide); (case zqg => rfl); (case zqF => k_asm); (case zqX => k_asm); (case zqT => k_asm); (case zqe => k_is); k_whole)
  | (refine' nm_B ?zqF ?zqX ?zqT ?zqe ?zqv ?zqn ?_ ?zqg ?zqbn ?zqa ?zqb ?zqc; (case zqa => rfl); (case zqb => rfl); (case zqc => decide); (case zqg => rfl); (case zqbn => rfl); (case zqF => k_asm); (case zqX => k_asm); (case zqT => k_asm); (case zqe => k_is); (case zqv => boot_fast); (case zqn => decide); k_whole)))
  k_with "callWith ref" => (k_here; k_dflt (first
  | ((with_reducible show wpAny _ _ (callWith _ (Value.ref _) _ (backTo _ (starEach (_ :: _) _)) []) _ _ _); first | (refine' callWith_M ?z9 ?z10 ?z11 ?z12 ?_; (case z9 => with_reducible assumption); (case z10 => with_reducible assumption); (case z11 => k_mem); (case z12 => k_is); k_whole) | (refine' callWith_K ?z13 ?z14 ?_; (case z13 => with_reducible assumption); (case z14 => k_is); k_whole))
  | ((with_reducible show wpAny _ _ (callWith _ (Value.ref _) _ (backTo _ (starEach [] _)) []) _ _ _); first | (refine' callWith_M0 ?z15 ?z16 ?_; (case z15 => k_meth); (case z16 => k_is); k_whole; try dsimp only [List.nil_append, List.cons_append]) | (refine' callWith_K0 ?z17 ?z18 ?_; (case z17 => (refine' Frag.In.keeps ?zia (Fr.keep ?zib); (case zib => with_reducible assumption); (case zia => with_reducible assumption))); (case z18 => k_is); k_whole))))
  k_with "subscriptTail" => (k_here; (with_reducible show wpAny _ _ (subscriptTail _ _ (Value.ref _) (Value.int _ _)) _ _ _); (with_unfolding_all refine' item_litK ?z19 ?z20 ?z21 ?z22 ?_ ?z23; (case z19 => is_list); (case z20 => decide); (case z21 => decide); (case z22 => rfl); (case z23 => with_unfolding_all rfl)); k_whole)
  k_with "subscriptTail Name Constant ref int" => (k_here; (with_reducible show wpAny _ _ (subscriptTail _ _ (Value.ref _) (Value.int _ _)) _ _ _); (with_unfolding_all refine' item_litK ?z24 ?z25 ?z26 ?z27 ?_ ?z28; (case z24 => is_list); (case z25 => decide); (case z26 => decide); (case z27 => rfl); (case z28 => with_unfolding_all rfl)); k_whole)
  k_with "eval Name" => (k_here; name_kind "globalImplicit"; k_dflt (first
  | (refine' nameX_K ?zqgF ?zqgX ?zqgT ?zqge ?_ ?zqga ?zqgb; (case zqgF => with_reducible assumption); (case zqgX => with_reducible assumption); (case zqgT => k_asm); (case zqga => rfl); (case zqgb => rfl); (case zqge => k_is); k_whole)
  | (refine' nameX_B ?zqgF ?zqgX ?zqgT ?zqge ?zqgv ?zqgn ?_ ?zqga ?zqgb; (case zqgF => with_reducible assumption); (case zqgX => with_reducible assumption); (case zqgT => k_asm); (case zqga => rfl); (case zqgb => rfl); (case zqge => k_is); (case zqgv => boot_fast); (case zqgn => decide); k_whole)))
  trivial
inductive Pt | any | one | na | dot
deriving DecidableEq
noncomputable def Pt.str : Pt → PySem.Str
  | .any => Str.ofString "*" | .one => Str.ofString "?" | .na => Str.ofString "[^a]" | .dot => Str.ofString "\\."
noncomputable def stepP (nm : List Nat) : Pt → List Nat → List Nat
  | .any, js => match js with | [] => [] | j :: _ => (List.range (nm.length + 1 - j)).map (· + j)
  | .one, js => (js.filter fun j => decide (j < nm.length)).map (· + 1)
  | .na, js => (js.filter fun j => decide (j < nm.length) && nm[j]? != some 97).map (· + 1)
  | .dot, js => (js.filter fun j => nm[j]? == some 46).map (· + 1)
noncomputable def reachL (nm : List Nat) (ps : List Pt) : List Nat := ps.foldl (fun js q => stepP nm q js) [0]
theorem stepP_len (nm : List Nat) (q : Pt) (js : List Nat) (h : js.length ≤ nm.length + 1) : (stepP nm q js).length ≤ nm.length + 1 := by
  cases q with
  | any =>
    cases js with
    | nil => simp [stepP]
    | cons j r => simp [stepP]
  | one => simp only [stepP, List.length_map]; exact Nat.le_trans (List.length_filter_le _ _) h
  | na => simp only [stepP, List.length_map]; exact Nat.le_trans (List.length_filter_le _ _) h
  | dot => simp only [stepP, List.length_map]; exact Nat.le_trans (List.length_filter_le _ _) h
theorem stepP_le (nm : List Nat) (q : Pt) (js : List Nat) (h : ∀ j ∈ js, j ≤ nm.length) : ∀ j ∈ stepP nm q js, j ≤ nm.length := by
  intro j hj
  cases q with
  | any =>
    cases js with
    | nil => simp [stepP] at hj
    | cons a r =>
      simp only [stepP, List.mem_map, List.mem_range] at hj
      obtain ⟨x, hx, rfl⟩ := hj
      have := h a (.head _)
      omega
  | one =>
    simp only [stepP, List.mem_map, List.mem_filter, decide_eq_true_eq] at hj
    obtain ⟨x, ⟨_, hx⟩, rfl⟩ := hj
    omega
  | na =>
    simp only [stepP, List.mem_map, List.mem_filter, Bool.and_eq_true, decide_eq_true_eq] at hj
    obtain ⟨x, ⟨_, hx, _⟩, rfl⟩ := hj
    omega
  | dot =>
    simp only [stepP, List.mem_map, List.mem_filter] at hj
    obtain ⟨x, ⟨_, hx⟩, rfl⟩ := hj
    have hx := eq_of_beq hx
    rcases Nat.lt_or_ge x nm.length with h | h
    · exact h
    · rw [List.getElem?_eq_none h] at hx; cases hx
theorem reachL_snoc (nm : List Nat) (ps : List Pt) (q : Pt) : reachL nm (ps ++ [q]) = stepP nm q (reachL nm ps) := by simp [reachL]
theorem reachL_ok (nm : List Nat) (ps : List Pt) : (reachL nm ps).length ≤ nm.length + 1 ∧ ∀ j ∈ reachL nm ps, j ≤ nm.length := by
  unfold reachL
  have : ∀ js : List Nat, js.length ≤ nm.length + 1 → (∀ j ∈ js, j ≤ nm.length) → (ps.foldl (fun js q => stepP nm q js) js).length ≤ nm.length + 1 ∧ ∀ j ∈ ps.foldl (fun js q => stepP nm q js) js, j ≤ nm.length := by
    induction ps with
    | nil => exact fun _ h1 h2 => ⟨h1, h2⟩
    | cons q r ih => exact fun js h1 h2 => ih _ (stepP_len nm q js h1) (stepP_le nm q js h2)
  exact this [0] (by simp) (by simp)
abbrev ni (js : List Nat) : List Int := js.map fun (j : Nat) => (j : Int)
theorem getL {g h : Heap} {L : Addr} {m : PySem.Str → Option Value} (F : Fr g L h m) : ∃ L' : Addr, L' = L := ⟨L, rfl⟩
theorem news_rot {g h : Heap} {L : Addr} {a b c : Addr × Obj} (N : News g L h [a, b, c]) : News g L h [b, a, c] := newsSub N (by k_extra "mine sub")
theorem takesEnd {g h' : Heap} {L I c cn : Addr} {oI oc' on : Obj} {v : Value} {Q : Flow → Shared → Prop} {s₁ : Shared} {tk' : Nat} {m' : PySem.Str → Option Value} {news : List (Addr × Obj)} {D : Addr} {ys : Array Value} {k : Nat} {js : List Nat}
  (F : Fr g L h' m') (N : News g L h' news) (hI : (I, oI) ∈ news) (hc : (c, oc') ∈ news) (hcd : ∃ u, oc'.data = .cell u) (hm : m' "reach" = some (.ref D)) (hD : (D, W.listOf ys k) ∈ news) (hn : (cn, on) ∈ news) (hap : (@Ne Nat D I) ∧ (@Ne Nat D c) ∧ (@Ne Nat cn I) ∧ (@Ne Nat cn c)) (hJ : IntsAre ys.toList (ni js)) :
  CellEnd g L I c oI v (fun m nx => ∃ D k ys, m "reach" = some (.ref D) ∧ nx = [(D, W.listOf ys k), (cn, on)] ∧ IntsAre ys.toList (ni js)) Q s₁ .next { s₁ with heap := h', toks := tk' } := ⟨h', tk', m', [(D, W.listOf ys k), (cn, on)], oc', rfl, F, (fun p hp => by
    simp only [List.mem_cons, List.not_mem_nil, or_false] at hp
    rcases hp with rfl | rfl | rfl | rfl
    · exact N _ hI
    · exact N _ hc
    · exact N _ hD
    · exact N _ hn), hcd, (fun p hp => by
    simp only [List.mem_cons, List.not_mem_nil, or_false] at hp
    rcases hp with rfl | rfl
    · exact ⟨hap.1, hap.2.1⟩
    · exact ⟨hap.2.2.1, hap.2.2.2⟩), D, k, ys, hm, rfl, hJ⟩
theorem take_at {ps : List Pt} {i : Nat} {q : Pt} (h : ps[i]? = some q) : ps.take (i + 1) = ps.take i ++ [q] := by rw [List.take_add_one, h]; rfl
/-- a test of numbers, and what an element does -/
noncomputable def pv (pn : Nat → Bool) : Value → Bool
  | .int z _ => pn z.toNat
  | _ => false
noncomputable def Fi (v y : Value) : Prop := ∃ (j : Nat) (t u : Tok), v = .int (j : Int) t ∧ y = .int ((j + 1 : Nat) : Int) u
theorem ni_size {its : Array Value} {js : List Nat} (h : IntsAre its.toList (ni js)) : its.size = js.length := by
  have := IntsAre.length h
  simpa using this
theorem ints_at' {vs : List Value} {xs : List Int} (h : IntsAre vs xs) : ∀ {i : Nat} {v : Value}, vs[i]? = some v → ∃ x t, xs[i]? = some x ∧ v = .int x t := by
  induction h with
  | nil => intro i v e; simp at e
  | cons x t r ih =>
    intro i v e
    cases i with
    | zero => simp at e; exact ⟨_, _, rfl, e.symm⟩
    | succ i => simpa using ih (by simpa using e)
theorem ni_at {its : Array Value} {js : List Nat} (h : IntsAre its.toList (ni js)) {i : Nat} {v : Value} (e : its[i]? = some v) : ∃ (j : Nat) (t : Tok), js[i]? = some j ∧ v = .int (j : Int) t := by
  obtain ⟨x, t, hx, rfl⟩ := ints_at' h (i := i) (v := v) (by rw [Array.getElem?_toList]; exact e)
  rw [List.getElem?_map] at hx
  obtain ⟨j, hj, rfl⟩ := Option.map_eq_some_iff.mp hx
  exact ⟨j, t, hj, rfl⟩
theorem same_list {its : Array Value} {vs : List Value} (hl : vs.length = its.size) (h : ∀ (j : Nat) (v : Value), vs[j]? = some v → its[j]? = some v) : vs = its.toList := by
  apply List.ext_getElem?
  intro j
  cases e : vs[j]? with
  | some v => rw [Array.getElem?_toList]; exact (h j v e).symm
  | none =>
    have := List.getElem?_eq_none_iff.mp e
    rw [List.getElem?_eq_none (by simp; omega)]
theorem comp_ints {vs ys : List Value} {js : List Nat} (pn : Nat → Bool) (h : IntsAre vs (ni js)) (hP : Paired Fi (vs.filter (pv pn)) ys) : IntsAre ys (ni ((js.filter pn).map (· + 1))) := by
  induction js generalizing vs ys with
  | nil => cases h; cases hP; exact .nil
  | cons j r ih =>
    cases h with
    | cons _ t h =>
      by_cases hp : pn j = true
      · rw [List.filter_cons_of_pos (by exact hp)] at hP
        rw [List.filter_cons_of_pos hp]
        cases hP with
        | cons h1 h2 =>
          obtain ⟨j', t', u, e, rfl⟩ := h1
          cases e
          exact .cons _ _ (ih h h2)
      · rw [List.filter_cons_of_neg (by exact hp)] at hP
        rw [List.filter_cons_of_neg hp]
        exact ih h hP
theorem ret_bool {s : Shared} {Q : Value → Shared → Prop} {a b : Bool} {h' : Heap} {tk' : Nat} (hret : ∀ h' tk', Kept s.heap h' → Q (.bool a) {s with heap := h', toks := tk'}) (e : b = a) (k : Kept s.heap h') : Q (.bool b) {s with heap := h', toks := tk'} := e ▸ hret h' tk' k
theorem tx_len (l : List Nat) : (tx l).length = l.length := by simp [PySem.Str.length]
theorem ni_any (js nm : List Nat) : ((ni js).any fun x => x == ((tx nm).length : Int)) = decide (nm.length ∈ js) := by
  rw [tx_len, Bool.eq_iff_iff]
  simp only [List.any_eq_true, List.mem_map, beq_iff_eq, decide_eq_true_eq]
  constructor
  · rintro ⟨x, ⟨j, hj, rfl⟩, e⟩
    have : j = nm.length := by have e : (j : Int) = (nm.length : Int) := e; omega
    exact this ▸ hj
  · intro h
    exact ⟨_, ⟨_, h, rfl⟩, rfl⟩
theorem item_nm {nm : List Nat} {j : Nat} (h : (j : Int) < ((tx nm).length : Int)) : ∃ c, nm[j]? = some c ∧ Txt.item (tx nm) (j : Int) = tx [c] := by
  rw [tx_len] at h
  have h' : j < nm.length := by omega
  refine ⟨nm[j], List.getElem?_eq_getElem h', ?_⟩
  rw [eq_of_beq (item_closes (x := tx nm) (i := (j : Int)) ⟨by omega, by rw [tx_len]; exact h⟩), Int.toNat_natCast]
  simp [tx, h']
theorem na_pat : (Txt.slice (Str.ofString "[^a]") (some 2) (some (-1))) = tx [97] := by decide +kernel
theorem na_true {nm : List Nat} {j : Nat} {t : Tok} (hlt : (j : Int) < ((tx nm).length : Int))
    (ho : (Builtin.Str.occurrences (Txt.slice (Str.ofString "[^a]") (some 2) (some (-1))) (Txt.item (tx nm) (j : Int)) 0 (Txt.slice (Str.ofString "[^a]") (some 2) (some (-1))).length 1).isEmpty = true) : true = pv (fun j => decide (j < nm.length) && nm[j]? != some 97) (.int (j : Int) t) := by
  obtain ⟨c, hc, hi⟩ := item_nm hlt
  rw [hi] at ho
  have h1 := occ_none ho
  rw [na_pat] at h1
  rw [tx_len] at hlt
  show _ = (decide (((j : Int)).toNat < nm.length) && nm[((j : Int)).toNat]? != some 97)
  rw [Int.toNat_natCast, hc]
  have : c ≠ 97 := by simpa using h1
  simp [this]; omega
theorem na_false {nm : List Nat} {j : Nat} {t : Tok} (hlt : (j : Int) < ((tx nm).length : Int))
    (ho : (Builtin.Str.occurrences (Txt.slice (Str.ofString "[^a]") (some 2) (some (-1))) (Txt.item (tx nm) (j : Int)) 0 (Txt.slice (Str.ofString "[^a]") (some 2) (some (-1))).length 1).isEmpty = false) : false = pv (fun j => decide (j < nm.length) && nm[j]? != some 97) (.int (j : Int) t) := by
  obtain ⟨c, hc, hi⟩ := item_nm hlt
  rw [hi] at ho
  have h1 := occ_some ho
  rw [na_pat] at h1
  show _ = (decide (((j : Int)).toNat < nm.length) && nm[((j : Int)).toNat]? != some 97)
  rw [Int.toNat_natCast, hc]
  have : c = 97 := by simpa using h1
  simp [this]
theorem na_out {nm : List Nat} {j : Nat} {t : Tok} (hlt : ¬ (j : Int) < ((tx nm).length : Int)) : false = pv (fun j => decide (j < nm.length) && nm[j]? != some 97) (.int (j : Int) t) := by
  rw [tx_len] at hlt
  show _ = (decide (((j : Int)).toNat < nm.length) && nm[((j : Int)).toNat]? != some 97)
  rw [Int.toNat_natCast, decide_eq_false (by ktr_room)]
  rfl
theorem ks_ints {us : List Value} {j n : Nat} (h : IntsAre us (rangeKs (j : Int) n)) : IntsAre us (ni ((List.range n).map (· + j))) := by
  have : rangeKs (j : Int) n = ni ((List.range n).map (· + j)) := by
    unfold rangeKs ni
    rw [List.map_map]
    apply List.map_congr_left
    intro a _
    show (j : Int) + (a : Int) = ((a + j : Nat) : Int)
    omega
  exact this ▸ h
theorem idx_clip {n : Nat} {i k : Int} (h : (n : Int) ≤ k) : Builtin.Str.strSliceIndices (some i) (some k) 1 n = Builtin.Str.strSliceIndices (some i) (some (n : Int)) 1 n := by
  have h0 : ¬ k < 0 := by omega
  have h1 : ¬ ((n : Int) < 0) := by omega
  have h2 : (1 : Int) > 0 := by decide
  simp only [Builtin.Str.strSliceIndices, h0, h1, h2, if_false, if_true, Int.min_eq_right h, Int.min_self]
theorem slice_clip {x : PySem.Str} {i k : Int} (h : (x.length : Int) ≤ k) : Txt.slice x (some i) (some k) = Txt.slice x (some i) (some (x.length : Int)) := by
  unfold Txt.slice
  rw [idx_clip h]
theorem slice_tx (l : List Nat) (i k : Nat) (hik : i ≤ k) (hi : i ≤ l.length) : Txt.slice (tx l) (some (i : Int)) (some (k : Int)) = tx ((l.drop i).take (k - i)) := by
  rcases Nat.lt_or_ge k l.length with h | h
  · have := eq_of_beq (slice_closes (x := tx l) (i := (i : Int)) (j := (k : Int)) ⟨by omega, by omega, by simp; omega⟩)
    rw [this, Int.toNat_natCast, show ((k : Int) - (i : Int)).toNat = k - i by omega]
  · rw [slice_clip (by rw [tx_len]; omega), tx_len]
    have := eq_of_beq (slice_closes (x := tx l) (i := (i : Int)) (j := (l.length : Int)) ⟨by omega, by omega, by simp⟩)
    rw [this, Int.toNat_natCast, List.take_of_length_le (by simp <;> omega), List.take_of_length_le (by simp <;> omega)]
theorem dot_eq {nm : List Nat} {j : Nat} {t : Tok} (hj : j ≤ nm.length) : (Txt.slice (tx nm) (some (j : Int)) (some ((j : Int) + 1)) == Txt.item (Str.ofString "\\.") (-1)) = pv (fun j => nm[j]? == some 46) (.int (j : Int) t) := by
  rw [show ((j : Int) + 1) = ((j + 1 : Nat) : Int) by omega, slice_tx nm j (j + 1) (by ktr_room) hj, show Txt.item (Str.ofString "\\.") (-1) = tx [46] from by decide +kernel, show j + 1 - j = 1 by omega]
  show _ = (nm[((j : Int)).toNat]? == some 46)
  rw [Int.toNat_natCast]
  rcases Nat.lt_or_ge j nm.length with h | h
  · rw [List.getElem?_eq_getElem h, List.drop_eq_getElem_cons h]
    simp only [List.take_succ_cons, List.take_zero]
    rw [Bool.eq_iff_iff]
    simp [tx]
  · rw [List.getElem?_eq_none h, List.drop_of_length_le h]
    decide +kernel
theorem getO {o : Obj} {u : Data} (F : o.data = u) : ∃ o' : Obj, o' = o := ⟨o, rfl⟩
theorem strs_at {vs : List Value} {xs : List PySem.Str} (h : StrsAre vs xs) : ∀ {i : Nat} {v : Value}, vs[i]? = some v → ∃ x t, xs[i]? = some x ∧ v = .str x t := by
  induction h with
  | nil => intro i v e; simp at e
  | cons x t r ih =>
    intro i v e
    cases i with
    | zero => simp at e; exact ⟨_, _, rfl, e.symm⟩
    | succ i => simpa using ih (by simpa using e)
structure KK (b h : Heap) : Prop where
  k : Kept b h
theorem KK.refl (h : Heap) : KK h h := ⟨fun _ _ e => e⟩
theorem keptFK {h₀ b : Heap} {L : Addr} {m : PySem.Str → Option Value} : KeptH (fun h => Fr h₀ L h m ∧ KK b h) := fun h ob p => ⟨p.1.push ob, ⟨fun a o e => Heap.get?_push_of_some _ (p.2.k a o e)⟩⟩
section
variable {prog : Program} {w : World} {A : Around} {E : Value → Shared → Prop} {s : Shared} {value slice : PySem.Expr} {x : PySem.Str} {t : Tok} {h₀ b : Heap} {L : Addr} {m : PySem.Str → Option Value} {Q : Value → Shared → Prop}
theorem sliceK_ss {i j : Int} {ui uj : Tok} (hI : Fr h₀ L s.heap m) (hK : KK b s.heap) (h : ∀ h' t' k, Fr h₀ L h' m → KK b h' → (Txt.slice x (some i) (some j)).length ≤ x.length → Q (.str (Txt.slice x (some i) (some j)) t') { s with heap := h', toks := k })
    (hs : subscripted slice false (.str x t) (.ref s.heap.objs.size) = operate [.ref s.heap.objs.size, .str x t] (getItem (.str x t) (.ref s.heap.objs.size)) := by with_unfolding_all rfl)
    (ht : ∀ r, letTemporaryGo value (.str x t) r = pure () := by intro _; with_unfolding_all rfl) (hsz : x.length ≤ sizeLine := by size_fits) :
    wpAny (model prog w) A (subscriptTail value slice (.str x t) (.ref s.heap.objs.size)) Q E { s with heap := s.heap.push { cls := .type "slice", data := .fields #[.int i ui, .int j uj, .none] } } :=
  tail_of_ItemOn (SBH.sliceItem_ss keptFK ⟨hI, hK⟩ (fun h' t' k p => h h' t' k p.1 p.2 (PyProof.Txt.length_slice_le x _ _)) hsz) hs ht
theorem sliceK_sn {i : Int} {ui : Tok} (hI : Fr h₀ L s.heap m) (hK : KK b s.heap) (h : ∀ h' t' k, Fr h₀ L h' m → KK b h' → (Txt.slice x (some i) none).length ≤ x.length → Q (.str (Txt.slice x (some i) none) t') { s with heap := h', toks := k })
    (hs : subscripted slice false (.str x t) (.ref s.heap.objs.size) = operate [.ref s.heap.objs.size, .str x t] (getItem (.str x t) (.ref s.heap.objs.size)) := by with_unfolding_all rfl)
    (ht : ∀ r, letTemporaryGo value (.str x t) r = pure () := by intro _; with_unfolding_all rfl) (hsz : x.length ≤ sizeLine := by size_fits) :
    wpAny (model prog w) A (subscriptTail value slice (.str x t) (.ref s.heap.objs.size)) Q E { s with heap := s.heap.push { cls := .type "slice", data := .fields #[.int i ui, .none, .none] } } :=
  tail_of_ItemOn (SBH.sliceItem_sn keptFK ⟨hI, hK⟩ (fun h' t' k p => h h' t' k p.1 p.2 (PyProof.Txt.length_slice_le x _ _)) hsz) hs ht
end
theorem rows_B9_0 : True := by
  k_with "mine stop" => (first | with_reducible show wpAny _ _ (call (Value.type "list") _) _ _ _)
  k_with "subscriptTail Name Slice str ref" => ((with_reducible show wpAny _ _ (subscriptTail _ (PySem.Expr.Slice (some _) (some _) none _) _ _) _ _ _); (with_reducible rename Fr _ _ _ _ => Fq'); (with_reducible rename KK _ _ => Kq'); refine sliceK_ss (s := ⟨_, _, _, _, _⟩) Fq' Kq' ?_; clear Fq' Kq'; intro _ _ _ Fq' Kq' _)
  trivial
section
variable {w : World} {p : Program} {loose : List PySem.Str} {mean : ExcName → Option Value} {mg mb : PySem.Str → Option Value}
   {dp un : Nat} {fr : Option (List Env)} {gd : Option (List Code)} {s : Shared} {Q : Value → Shared → Prop} {E : Value → Shared → Prop}
theorem fill_B9 (w : World) (h : Heap) (X : (hd.heap_1 w.params).In h) : PySem.Challenge.rw_in0215_01.row.prog = PP ∧ (hd.heap_1 w.params).In h := by
  k_fill
  exact ⟨rfl, X⟩
theorem takes_call {l : Addr} {its : Array Value} {ps : List Pt} {nm : List Nat} {t : Tok} (hl : s.heap.IsList l its) (hS : StrsAre its.toList (ps.map Pt.str)) (hps : ps.length ≤ 10) (hnm : nm.length ≤ 10) (hlow : ∀ c ∈ nm, c < 128) (X : (hd.heap_1 w.params).In s.heap) (T : Top p loose mean mg mb s.heap) (hdp : dp + 2 < recursionLimit) (hun : un + 100 < cLine)
   (hret : ∀ h' tk', Kept s.heap h' → Q (.bool (decide (nm.length ∈ reachL nm ps))) {s with heap := h', toks := tk'}) : wpAny (model PP w) (Ar dp un fr gd) (call (.ref 128) [.ref l, .str (tx nm) t]) Q E s := by
  have G := Gh.refl s.heap
  have hsz : (tx nm).length ≤ 10 := by simpa [PySem.Str.length] using hnm
  refine wpAny_call ?_
  k_dflt ktr_enter
  k_steps
  (with_reducible rename Fr _ _ _ _ => kF)
  (with_reducible rename News _ _ _ _ => kN)
  obtain ⟨L, eL⟩ := getL kF
  subst eL
  rename (Obj.data _ = _) => d2
  revert d2
  rename (Obj.data _ = _) => d1
  intro d2
  obtain ⟨oc, eo⟩ := getO d1
  subst eo
  obtain ⟨on, eo⟩ := getO d2
  subst eo
  replace d1 : oc.data = .cell none := d1
  replace d2 : on.data = .cell (some (.str (tx nm) t)) := d2
  refine for_cell s.heap (fun i m nx => ∃ D k ys, m "reach" = some (.ref D) ∧ nx = [(D, W.listOf ys k), (L + 1, on)] ∧ IntsAre ys.toList (ni (reachL nm (ps.take i)))) rfl rfl rfl rfl ?_
  k_steps
  refine ⟨l, its.toList, _, oc, _, ⟨rfl, by simpa using hl, by assumption, news_rot (by assumption), ⟨_, d1⟩, ?_, ⟨_, _, _, rfl, rfl, .cons _ _ .nil⟩, ?_, ?_⟩⟩
  · intro p hp
    simp only [List.mem_cons, List.not_mem_nil, or_false] at hp
    rcases hp with rfl | rfl
    · show @Ne Nat _ (L + 1 + 1)
      omega
    · show @Ne Nat (L + 1) (L + 1 + 1)
      omega
  · clear kF kN d1 
    rintro i v m₁ nx o3 I oI h tk hv ⟨D, k, ys, hm, rfl, hI⟩ F3 N3 dv ne1 ne2
    obtain ⟨x, u, hx, rfl⟩ := strs_at hS hv
    rw [List.getElem?_map] at hx
    obtain ⟨q, hq, rfl⟩ := Option.map_eq_some_iff.mp hx
    have hne := (ne2 (D, W.listOf ys k) (.head _))
    have ne3 := (ne2 (L+1, on) (.tail _ (.head _))).1
    rw [pin hm] at F3
    have hrl := reachL_ok nm (ps.take i)
    cases q
    · simp only [Pt.str] at *
      have hI0 := hI
      cases hr : reachL nm (ps.take i) with
      | nil =>
        rw [hr] at hI
        cases ys with | mk yl =>
        cases hI
        k_steps
        all_goals (
          (with_reducible rename Fr _ _ _ _ => kF)
          (with_reducible rename News _ _ _ _ => kN))
        all_goals exact takesEnd kF kN (by k_mem) (by k_mem) ⟨_, dv⟩ rfl (by k_mem) (by k_mem) ⟨by omega, by omega, by omega, by omega⟩ (by rw [take_at hq, reachL_snoc, hr]; exact .nil)
      | cons j r =>
        rw [hr] at hI hrl
        cases ys with | mk yl =>
        cases hI with
        | cons _ t0 hI =>
        k_steps
        · rename decide _ = true => a
          rw [hr] at a
          cases a
        have hjn := hrl.2 j (.head _)
        (with_reducible rename Fr _ _ _ _ => kF)
        (with_reducible rename News _ _ _ _ => kN)
        (with_reducible rename IsRange _ _ _ _ _ _ _ _ => kR)
        have e9 : ((tx nm).length : Int) + 1 = (j : Int) + ((nm.length + 1 - j : Nat) : Int) := by
          have : (tx nm).length = nm.length := by simp [PySem.Str.length]
          rw [this]
          show (nm.length : Int) + 1 = (j : Int) + _
          omega
        rw [e9] at kR
        refine kll_range (n := nm.length + 1 - j) rfl kF kN kR (small_one ?_ ?_ ?_ ?_) ?_ (by ktr_room) ?_
        · show -(_ : Int) ≤ (j : Int); omega
        · show (j : Int) < _; omega
        · show -(_ : Int) ≤ (j : Int) + _; omega
        · show (j : Int) + _ < _; omega
        · rw [rangeSize_nat]; congr 1; omega
        intro D' us c' h' tk' F' N' l1 hI'
        have hn0 := l1 (I, oI) (by simp)
        have hn1 := l1 (L + 1 + 1, o3) (by simp)
        clear l1
        clear kF kN kR
        k_steps
        all_goals (
          (with_reducible rename Fr _ _ _ _ => kF)
          (with_reducible rename News _ _ _ _ => kN))
        all_goals exact takesEnd kF kN (by k_mem) (by k_mem) ⟨_, dv⟩ rfl (by k_mem) (by k_mem) ⟨Ne.symm (Nat.ne_of_lt hn0), Ne.symm (Nat.ne_of_lt hn1), ne3, fun z => by have z : L + 1 = L + 1 + 1 := z; omega⟩ (by rw [take_at hq, reachL_snoc, hr]; exact ks_ints hI')
    · simp only [Pt.str] at *
      k_steps
      refine lcompA s.heap (pv (fun j => decide (j < nm.length))) Fi rfl rfl rfl (by decide) rfl (by decide) rfl rfl rfl ?_
      k_steps
      (with_reducible rename Fr _ _ _ _ => kF)
      (with_reducible rename News _ _ _ _ => kN)
      have kl := (kN (D, W.listOf ys k) (by k_mem)).1
      have c1 := (kN (L + 1, on) (by k_mem)).1
      have c2 := (kN (L + 1 + 1, o3) (by k_mem)).1
      have X1 := Frag.In.keeps X kF.keep
      have T1 := Top.keeps T kF.keep
      refine ⟨_, _, _, _, Src.list _ _ ⟨_, kl, rfl, _, rfl⟩, ?_, ?_, ?_, kF, kN, ?_⟩
      · have := ni_size hI
        rw [sizeLine_eq]; omega
      · intro C i v s₃ m₃ E' hP hF hm _
        obtain ⟨j, t7, hj, rfl⟩ := ni_at hI hP
        have hjn := hrl.2 j (List.mem_of_getElem? hj)
        refine wpAny_tests_one ?_
        k_steps
        exact TestPost.mk (by simp [pv, tx_len]) (fun _ _ e => e)
      · intro C i v s₃ m₃ E' hP hp hF hm _
        obtain ⟨j, t7, hj, rfl⟩ := ni_at hI hP
        have hjn := hrl.2 j (List.mem_of_getElem? hj)
        k_steps
        exact EltPost.mk ⟨j, _, _, rfl, rfl⟩ (fun _ _ e => e)
      · intro D2 k2 h2 tk2 ys2 vs2 F2 N2 hap hlen hvs hpair
        clear kF kN
        have hys := comp_ints _ (by rw [same_list hlen hvs]; exact hI) hpair
        k_steps
        all_goals (
          (with_reducible rename Fr _ _ _ _ => kF)
          (with_reducible rename News _ _ _ _ => kN))
        have hn0 := hap (I, oI) (by simp)
        have hn1 := hap (L + 1 + 1, o3) (by simp)
        exact takesEnd kF kN (by k_mem) (by k_mem) ⟨_, dv⟩ rfl (by k_mem) (by k_mem) ⟨Ne.symm hn0, Ne.symm hn1, ne3, fun z => by have z : L + 1 = L + 1 + 1 := z; omega⟩ (by rw [take_at hq, reachL_snoc]; exact hys)
    · simp only [Pt.str] at *
      k_steps
      refine lcompA s.heap (pv (fun j => decide (j < nm.length) && nm[j]? != some 97)) Fi rfl rfl rfl (by decide) rfl (by decide) rfl rfl rfl ?_
      k_steps
      (with_reducible rename Fr _ _ _ _ => kF)
      (with_reducible rename News _ _ _ _ => kN)
      have kl := (kN (D, W.listOf ys k) (by k_mem)).1
      have c1 := (kN (L + 1, on) (by k_mem)).1
      have c2 := (kN (L + 1 + 1, o3) (by k_mem)).1
      have X1 := Frag.In.keeps X kF.keep
      have T1 := Top.keeps T kF.keep
      refine ⟨_, _, _, _, Src.list _ _ ⟨_, kl, rfl, _, rfl⟩, ?_, ?_, ?_, kF, kN, ?_⟩
      · have := ni_size hI
        rw [sizeLine_eq]; omega
      · intro C i v s₃ m₃ E' hP hF hm _
        obtain ⟨j, t7, hj, rfl⟩ := ni_at hI hP
        have hjn := hrl.2 j (List.mem_of_getElem? hj)
        refine wpAny_tests_one ?_
        have hkk := KK.refl s₃.heap
        k_steps
        · rename (Builtin.Str.occurrences _ _ _ _ _).isEmpty = true => ho
          rename (j : Int) < _ => hlt
          (with_reducible rename KK _ _ => kK)
          exact TestPost.mk (na_true hlt ho) kK.k
        · rename (Builtin.Str.occurrences _ _ _ _ _).isEmpty = false => ho
          rename (j : Int) < _ => hlt
          (with_reducible rename KK _ _ => kK)
          exact TestPost.mk (na_false hlt ho) kK.k
        · rename ¬ (j : Int) < _ => hlt
          exact TestPost.mk (na_out hlt) (fun _ _ e => e)
      · intro C i v s₃ m₃ E' hP hp hF hm _
        obtain ⟨j, t7, hj, rfl⟩ := ni_at hI hP
        have hjn := hrl.2 j (List.mem_of_getElem? hj)
        k_steps
        exact EltPost.mk ⟨j, _, _, rfl, rfl⟩ (fun _ _ e => e)
      · intro D2 k2 h2 tk2 ys2 vs2 F2 N2 hap hlen hvs hpair
        clear kF kN
        have hys := comp_ints _ (by rw [same_list hlen hvs]; exact hI) hpair
        k_steps
        all_goals (
          (with_reducible rename Fr _ _ _ _ => kF)
          (with_reducible rename News _ _ _ _ => kN))
        have hn0 := hap (I, oI) (by simp)
        have hn1 := hap (L + 1 + 1, o3) (by simp)
        exact takesEnd kF kN (by k_mem) (by k_mem) ⟨_, dv⟩ rfl (by k_mem) (by k_mem) ⟨Ne.symm hn0, Ne.symm hn1, ne3, fun z => by have z : L + 1 = L + 1 + 1 := z; omega⟩ (by rw [take_at hq, reachL_snoc]; exact hys)
    · simp only [Pt.str] at *
      k_steps
      refine lcompA s.heap (pv (fun j => nm[j]? == some 46)) Fi rfl rfl rfl (by decide) rfl (by decide) rfl rfl rfl ?_
      k_steps
      (with_reducible rename Fr _ _ _ _ => kF)
      (with_reducible rename News _ _ _ _ => kN)
      have kl := (kN (D, W.listOf ys k) (by k_mem)).1
      have c1 := (kN (L + 1, on) (by k_mem)).1
      have c2 := (kN (L + 1 + 1, o3) (by k_mem)).1
      have X1 := Frag.In.keeps X kF.keep
      have T1 := Top.keeps T kF.keep
      refine ⟨_, _, _, _, Src.list _ _ ⟨_, kl, rfl, _, rfl⟩, ?_, ?_, ?_, kF, kN, ?_⟩
      · have := ni_size hI
        rw [sizeLine_eq]; omega
      · intro C i v s₃ m₃ E' hP hF hm _
        obtain ⟨j, t7, hj, rfl⟩ := ni_at hI hP
        have hjn := hrl.2 j (List.mem_of_getElem? hj)
        refine wpAny_tests_one ?_
        have hkk := KK.refl s₃.heap
        k_steps
        (with_reducible rename KK _ _ => kK)
        exact TestPost.mk (dot_eq hjn) kK.k
      · intro C i v s₃ m₃ E' hP hp hF hm _
        obtain ⟨j, t7, hj, rfl⟩ := ni_at hI hP
        have hjn := hrl.2 j (List.mem_of_getElem? hj)
        k_steps
        exact EltPost.mk ⟨j, _, _, rfl, rfl⟩ (fun _ _ e => e)
      · intro D2 k2 h2 tk2 ys2 vs2 F2 N2 hap hlen hvs hpair
        clear kF kN
        have hys := comp_ints _ (by rw [same_list hlen hvs]; exact hI) hpair
        k_steps
        all_goals (
          (with_reducible rename Fr _ _ _ _ => kF)
          (with_reducible rename News _ _ _ _ => kN))
        have hn0 := hap (I, oI) (by simp)
        have hn1 := hap (L + 1 + 1, o3) (by simp)
        exact takesEnd kF kN (by k_mem) (by k_mem) ⟨_, dv⟩ rfl (by k_mem) (by k_mem) ⟨Ne.symm hn0, Ne.symm hn1, ne3, fun z => by have z : L + 1 = L + 1 + 1 := z; omega⟩ (by rw [take_at hq, reachL_snoc]; exact hys)
  · rintro m₁ nx o3 h tk ⟨D, k, ys, hm, rfl, hI⟩ F3 N3
    clear kF kN
    rw [pin hm] at F3
    rw [List.take_of_length_le (by have := strs_len hS; simp at this ⊢; omega)] at hI
    have hrl := reachL_ok nm ps
    k_steps
    (with_reducible rename Fr _ _ _ _ => kF)
    exact ret_bool (s := s) hret (ni_any _ _) kF.keep
end
end Mine

end F_B9
section F_B10
open PySem PySem.Spec PySem.W PySem.Calls PyProof.Rows
namespace Mine
theorem rows_hdr_B10 : True := by
  k_with_none
  w_top off
  k_with "mine units" => (first | (refine' rm1 ?zuaa ?zuab; (case zuaa => with_reducible assumption); (case zuab => rfl)) | (refine' rm2 ?zuba ?zubb; (case zuba => with_reducible assumption); (case zubb => rfl)) | (refine' rm3 ?zuca ?zucb; (case zuca => with_reducible assumption); (case zucb => rfl)) | (dsimp only [Ar, Around.deeper, Around.in1]; first | (refine' rm1 ?zuda ?zudb; (case zuda => with_reducible assumption); (case zudb => rfl)) | (refine' rm2 ?zuea ?zueb; (case zuea => with_reducible assumption); (case zueb => rfl)) | (refine' rm3 ?zufa ?zufb; (case zufa => with_reducible assumption); (case zufb => rfl)) | (refine' rm4 ?zuga ?zugb; (case zuga => with_reducible assumption); (case zugb => rfl))))
  k_with "mine mem" => (first | with_reducible exact mem_h | with_reducible assumption | (with_reducible refine List.mem_append_left _ ?_; k_extra "mine mem") | (with_reducible refine List.mem_append_right _ ?_; k_extra "mine mem") | (with_reducible refine mem_t ?_; k_extra "mine mem"))
  k_with "mine sub" => (first | exact all_nil | (refine all_cons ?_ ?_; k_extra "mine mem"; k_extra "mine sub") | (refine all_app ?_ ?_; k_extra "mine sub"; k_extra "mine sub") | (intro pq hpq; k_extra "mine mem"))
  k_with "mine room" => (first | with_reducible assumption | (refine' rm1 ?zraa ?zrab; (case zraa => with_reducible assumption); (case zrab => rfl)) | (refine' rm2 ?zrba ?zrbb; (case zrba => with_reducible assumption); (case zrbb => rfl)) | (refine' rm3 ?zrca ?zrcb; (case zrca => with_reducible assumption); (case zrcb => rfl)) | (refine' rm0 ?zrd; (case zrd => with_reducible assumption)) | (refine' leL ?zrea ?zreb; (case zrea => with_reducible assumption); (case zreb => rfl)) | (refine Ne.symm ?zrf; (case zrf => with_reducible assumption)) | (refine Nat.ne_of_lt ?zrg; (case zrg => with_reducible assumption)) | (refine Nat.ne_of_gt ?zrh; (case zrh => with_reducible assumption)) | ((try dsimp only [Ar, Around.deeper, Around.in1]); first | (refine' rm1 ?zria ?zrib; (case zria => with_reducible assumption); (case zrib => rfl)) | (refine' rm2 ?zrja ?zrjb; (case zrja => with_reducible assumption); (case zrjb => rfl)) | (refine' rm3 ?zrka ?zrkb; (case zrka => with_reducible assumption); (case zrkb => rfl)) | (refine' rm4 ?zrla ?zrlb; (case zrla => with_reducible assumption); (case zrlb => rfl)) | omega))
  k_with "mine ne" => (first | with_reducible assumption | (refine Ne.symm ?zna; (case zna => with_reducible assumption)) | (refine Nat.ne_of_lt ?znb; (case znb => with_reducible assumption)) | (refine Nat.ne_of_gt ?znc; (case znc => with_reducible assumption)))
  k_with "mine enter" => (first
  | (refine' enterG ?zqkG ?zqk3 ?zqk5 ?zqk6 ?zqk7 ?zqk8 ?zqk9 ?zqkB ?_ ?zqc2 ?zqc3 ?zqc4 ?zqc5; (case zqkG => k_asm); (case zqk3 => k_asm); (case zqk5 => k_asm); (case zqk6 => k_is); (case zqk7 => k_is); (case zqk8 => ktr_room); (case zqk9 => exact BindsTo.of_eq rfl); (case zqc5 => decide); (case zqkB => exact locs rfl); (case zqc2 => exact rfl); (case zqc3 => exact rfl); (case zqc4 => exact rfl); k_whole; intro Lq' hq' Fq' Nq' l1q; (try k_lt l1q); (try dsimp only); (try k_fold))
  | (refine' enterC ?zqkG ?zqk3 ?zqk5 ?zqk6 ?zqk7 ?zqk8 ?zqk9 ?zqkB ?zqkD ?_ ?zqc2 ?zqc3 ?zqc4; (case zqkG => k_asm); (case zqk3 => k_asm); (case zqk5 => k_asm); (case zqk6 => k_is); (case zqk7 => k_is); (case zqk8 => ktr_room); (case zqk9 => exact BindsTo.of_eq rfl); (case zqkB => exact rfl); (case zqkD => decide +kernel); (case zqc2 => exact rfl); (case zqc3 => exact rfl); (case zqc4 => exact rfl); k_whole; intro Lq' hq' tkq' cellsq' Fq' Nq' Yq' l1q; (try k_lt l1q); k_cells Yq'; (try simp only [List.cons_append, List.nil_append] at Nq'); (try dsimp only); (try k_fold)))
  k_with "mine k_steps" => ((try k_unmd); (try k_fold); repeat' (first | (k_unfold; (try dsimp only)) | ((fail_if_success (k_extra "mine stop")); (fail_if_success (with_reducible show wpAny _ _ (exec (Stmt.For _ _ _ _ _) _) _ _ _)); (fail_if_success (with_reducible show wpAny _ _ (exec (Stmt.While _ _ _ _) _) _ _ _)); (fail_if_success (with_reducible show wpAny _ _ (exec (Stmt.Try _ _ _ _ _) _) _ _ _)); (fail_if_success (with_reducible show wpAny _ _ (eval (PySem.Expr.ListComp _ _ _ _) _) _ _ _)); (fail_if_success (with_reducible show wpAny _ _ (exec (Stmt.Assign _ (PySem.Expr.ListComp _ _ _ _) _) _) _ _ _)); (first | walk1 | (dsimp only; walk1) | (leave1; walk_say "STEP leave1"; try dsimp only))) | fail "no step"))
  k_with "execs cons" => ((try k_made); (try k_gentoks); (with_reducible refine wpAny_execs_cons ?_); (try dsimp only); try k_fold)
  k_with "storeName" => (k_dflt (refine' storeX_L ?z1 ?z2 ?_ ?z3 ?z4; (case z1 => k_asm); (case z2 => k_asm); (case z3 => exact rfl); (case z4 => exact rfl); k_whole); intro hq' Fq' Nq'; (try dsimp only at Fq'); (try k_sweep))
  k_with "eval Name" => (name_kind "local"; k_dflt (refine' nameX_L ?z5 ?z6 ?_ ?z7 ?z8; (case z5 => with_reducible assumption); (case z6 => exact Eq.refl (some _)); (case z7 => exact rfl); (case z8 => exact rfl); k_whole))
  k_with "eval Name" => ((with_reducible show wpAny _ _ (eval (PySem.Expr.Name _ _) (compEnvC _ _ _ _)) _ _ _); k_dflt (first
  | (refine' nm_L ?zqF ?zqv ?_ ?zqa ?zqb ?zqc; (case zqa => rfl); (case zqb => rfl); (case zqc => decide); (case zqF => k_asm); (case zqv => first | with_reducible assumption | assumption | rfl); k_whole)
  | (refine' nm_C ?zqF ?zqhc ?zqho ?zqhd ?_ ?zqa ?zqb ?zqc; (case zqa => rfl); (case zqb => rfl); (case zqc => decide); (case zqF => k_asm); (case zqhc => rfl); (case zqho => first | with_reducible assumption | assumption); (case zqhd => first | with_reducible assumption | assumption); k_whole)
  | (refine' nm_K ?zqF ?zqX ?zqT ?zqe ?_ ?zqg ?zqa ?zqb ?zqc; (case zqa => rfl); (case zqb => rfl); (case zqc => decide); (case zqg => rfl); (case zqF => k_asm); (case zqX => k_asm); (case zqT => k_asm); (case zqe => k_is); k_whole)
  | (refine' nm_B ?zqF ?zqX ?zqT ?zqe ?zqv ?zqn ?_ ?zqg ?zqbn ?zqa ?zqb ?zqc; (case zqa => rfl); (case zqb => rfl); (case zqc => decide); (case zqg => rfl); (case zqbn => rfl); (case zqF => k_asm); (case zqX => k_asm); (case zqT => k_asm); (case zqe => k_is); (case zqv => boot_fast); (case zqn => decide); k_whole)))
  k_with "callWith ref" => (k_here; k_dflt (first
  | ((with_reducible show wpAny _ _ (callWith _ (Value.ref _) _ (backTo _ (starEach (_ :: _) _)) []) _ _ _); first | (refine' callWith_M ?z9 ?z10 ?z11 ?z12 ?_; (case z9 => with_reducible assumption); (case z10 => with_reducible assumption); (case z11 => k_mem); (case z12 => k_is); k_whole) | (refine' callWith_K ?z13 ?z14 ?_; (case z13 => with_reducible assumption); (case z14 => k_is); k_whole))
  | ((with_reducible show wpAny _ _ (callWith _ (Value.ref _) _ (backTo _ (starEach [] _)) []) _ _ _); first | (refine' callWith_M0 ?z15 ?z16 ?_; (case z15 => k_meth); (case z16 => k_is); k_whole; try dsimp only [List.nil_append, List.cons_append]) | (refine' callWith_K0 ?z17 ?z18 ?_; (case z17 => (refine' Frag.In.keeps ?zia (Fr.keep ?zib); (case zib => with_reducible assumption); (case zia => with_reducible assumption))); (case z18 => k_is); k_whole))))
  k_with "subscriptTail" => (k_here; (with_reducible show wpAny _ _ (subscriptTail _ _ (Value.ref _) (Value.int _ _)) _ _ _); (with_unfolding_all refine' item_litK ?z19 ?z20 ?z21 ?z22 ?_ ?z23; (case z19 => is_list); (case z20 => decide); (case z21 => decide); (case z22 => rfl); (case z23 => with_unfolding_all rfl)); k_whole)
  k_with "subscriptTail Name Constant ref int" => (k_here; (with_reducible show wpAny _ _ (subscriptTail _ _ (Value.ref _) (Value.int _ _)) _ _ _); (with_unfolding_all refine' item_litK ?z24 ?z25 ?z26 ?z27 ?_ ?z28; (case z24 => is_list); (case z25 => decide); (case z26 => decide); (case z27 => rfl); (case z28 => with_unfolding_all rfl)); k_whole)
  k_with "eval Name" => (k_here; name_kind "globalImplicit"; k_dflt (first
  | (refine' nameX_K ?zqgF ?zqgX ?zqgT ?zqge ?_ ?zqga ?zqgb; (case zqgF => with_reducible assumption); (case zqgX => with_reducible assumption); (case zqgT => k_asm); (case zqga => rfl); (case zqgb => rfl); (case zqge => k_is); k_whole)
  | (refine' nameX_B ?zqgF ?zqgX ?zqgT ?zqge ?zqgv ?zqgn ?_ ?zqga ?zqgb; (case zqgF => with_reducible assumption); (case zqgX => with_reducible assumption); (case zqgT => k_asm); (case zqga => rfl); (case zqgb => rfl); (case zqge => k_is); (case zqgv => boot_fast); (case zqgn => decide); k_whole)))
  trivial
inductive It | any | one | dot | nota
deriving DecidableEq
noncomputable def It.str : It → PySem.Str
  | .any => Str.ofString "any" | .one => Str.ofString "one" | .dot => Str.ofString "." | .nota => Str.ofString "b.\" \\\n"
noncomputable def It.has : It → Nat → Bool
  | .any, _ => true
  | .one, _ => true
  | .dot, c => c == 46
  | .nota, c => [98, 46, 34, 32, 92, 10].contains c
noncomputable def fitsL : List It → List Nat → Bool
  | [], nm => nm == []
  | .any :: r, nm => (List.range (nm.length + 1)).any fun k => fitsL r (nm.drop k)
  | _ :: _, [] => false
  | i :: r, c :: t => i.has c && fitsL r t
theorem it_low (i : It) : Low i.str.cps.toList := by
  cases i <;> (unfold Low; decide +kernel)
theorem its_low (is : List It) : LowS (is.map It.str) := fun x hx => by
  obtain ⟨i, _, rfl⟩ := List.mem_map.mp hx
  exact it_low i
theorem pick1 (v : Value) (vs : List Value) : kms_pick (v :: vs) (some 1) none = vs := by
  unfold kms_pick kms_lo kms_hi
  simp
theorem rows_B10_0 : True := by
  k_with "subscriptTail Name Slice ref ref" => (k_here; (with_reducible show wpAny _ _ (subscriptTail _ (PySem.Expr.Slice _ _ none _) (Value.ref _) (Value.ref _)) _ _ _); k_dflt (refine' kms_slice_lit ?z64 ?z65 ?z66 ?z67 ?z68 ?z69 ?_ ?z70 ?z71 ?z72; (case z64 => k_asm); (case z65 => k_asm); (case z66 => exact Heap.IsList.at (by with_reducible assumption) (fun o e => Fr.keep (by with_reducible assumption) _ _ e)); (case z67 => kmk_part); (case z68 => kmk_part); (case z69 => exact pick1 _ _); (case z70 => with_unfolding_all rfl); (case z71 => kmk_pure); (case z72 => (show (List.length _ + 1 : Nat) ≤ sizeLine; rw [sizeLine_eq]; omega))); intro Dq' hq' Fq' Nq' l1q; (try k_lt l1q); (try k_sweep))
  trivial
theorem nil_eq (nm : List Nat) : (tx nm == Str.ofString "") = fitsL [] nm := by
  rw [show Str.ofString "" = tx [] from by decide +kernel, Bool.eq_iff_iff]
  simp [tx, fitsL]
theorem slice_from_tx (l : List Nat) (i : Nat) (hi : i ≤ l.length) : Txt.slice (tx l) (some (i : Int)) none = tx (l.drop i) := by
  rw [slice_from_eq (x := tx l) (i := (i : Int)) (b := (l.length : Int)) (by ktr_room) (by rw [tx_len]; omega) (by rw [tx_len]), Int.toNat_natCast, List.take_of_length_le (by simp <;> omega)]
theorem slice_one (l : List Nat) (hi : 1 ≤ l.length) : Txt.slice (tx l) (some 1) none = tx (l.drop 1) := slice_from_tx l 1 hi
theorem range_ints {n : Nat} {vs : List Value} (hlen : vs.length = n) (hv : ∀ (j : Nat) (v : Value), vs[j]? = some v → ∃ t, v = Value.int ((0 : Int) + (j : Int)) t) : IntsAre vs (rangeKs 0 n) := by
  refine kll_ints _ _ _ hlen fun j v hj => ?_
  obtain ⟨t, rfl⟩ := hv j v hj
  exact ⟨t, by rw [Int.mul_one]⟩
theorem filt_ints {pn : Int → Bool} {vs ys : List Value} {ns : List Int} (h : IntsAre vs ns) (hP : Paired (fun v y => ∃ k t u, v = Value.int k t ∧ y = Value.int k u) (vs.filter fun v => match v with | .int k _ => pn k | _ => false) ys) : IntsAre ys (ns.filter pn) := by
  induction h generalizing ys with
  | nil => cases hP; exact .nil
  | cons j t h ih =>
    by_cases hp : pn j = true
    · rw [List.filter_cons_of_pos (by exact hp)] at hP
      rw [List.filter_cons_of_pos hp]
      cases hP with
      | cons h1 h2 =>
        obtain ⟨j', t', u, e, rfl⟩ := h1
        cases e
        exact .cons _ _ (ih h2)
    · rw [List.filter_cons_of_neg (by exact hp)] at hP
      rw [List.filter_cons_of_neg hp]
      exact ih hP
theorem any_eq (r : List It) (nm : List Nat) : (!decide ((rangeKs 0 (nm.length + 1)).filter (fun k => fitsL r (nm.drop k.toNat)) = [])) = fitsL (.any :: r) nm := by
  have e : fitsL (.any :: r) nm = (List.range (nm.length + 1)).any fun k => fitsL r (nm.drop k) := by rw [fitsL]
  rw [e, Bool.eq_iff_iff]
  unfold rangeKs
  simp only [Bool.not_eq_true', decide_eq_false_iff_not, List.filter_eq_nil_iff, List.any_eq_true, List.mem_map, List.mem_range]
  constructor
  · intro h
    refine Classical.byContradiction fun h2 => h ?_
    rintro a ⟨k, hk, rfl⟩ hf
    exact h2 ⟨k, hk, by simpa using hf⟩
  · rintro ⟨k, hk, hf⟩ h
    exact h _ ⟨k, hk, rfl⟩ (by simpa using hf)
theorem ne_nil {nm : List Nat} (h : (tx nm != Str.ofString "") = true) : ∃ c t, nm = c :: t := by
  cases nm with
  | nil => rw [show Str.ofString "" = tx [] from by decide +kernel] at h; simp at h
  | cons c t => exact ⟨c, t, rfl⟩
theorem eq_nil {nm : List Nat} (h : (tx nm != Str.ofString "") = false) : nm = [] := by
  cases nm with
  | nil => rfl
  | cons c t => rw [show Str.ofString "" = tx [] from by decide +kernel] at h; simp [tx] at h
theorem item0 (c : Nat) (t : List Nat) : Txt.item (tx (c :: t)) 0 = tx [c] := by
  obtain ⟨d, hd, e⟩ := item_nm (nm := c :: t) (j := 0) (by rw [tx_len, List.length_cons]; omega)
  cases hd
  exact e
theorem has_occ (i : It) (c : Nat) (hi : i = .dot ∨ i = .nota) : (Builtin.Str.occurrences i.str (tx [c]) 0 i.str.length 1).isEmpty = !i.has c := by
  have h := StrLaws.found_one i.str c
  rcases hi with rfl | rfl
  · rw [show It.dot.str.cps.toList = [46] from by decide +kernel] at h
    rw [Bool.not_eq_eq_eq_not] at h
    rw [h]
    simp [It.has]
    rfl
  · rw [show It.nota.str.cps.toList = [98, 46, 34, 32, 92, 10] from by decide +kernel] at h
    rw [Bool.not_eq_eq_eq_not] at h
    rw [h]
    simp [It.has]
theorem fits_cons {i : It} {c : Nat} {t : List Nat} {r : List It} (hi : i = .dot ∨ i = .nota) : fitsL (i :: r) (c :: t) = (i.has c && fitsL r t) := by
  rcases hi with rfl | rfl <;> rfl
theorem has_fin {i : It} {c : Nat} {t : List Nat} {r : List It} (hi : i = .dot ∨ i = .nota) (ho : (Builtin.Str.occurrences i.str (tx [c]) 0 i.str.length 1).isEmpty = false) : fitsL r ((c :: t).drop 1) = fitsL (i :: r) (c :: t) := by
  rw [has_occ i c hi] at ho
  rw [fits_cons hi]
  simp only [Bool.not_eq_false'] at ho
  rw [ho]; rfl
theorem no_fin {i : It} {c : Nat} {t : List Nat} {r : List It} (hi : i = .dot ∨ i = .nota) (ho : (Builtin.Str.occurrences i.str (tx [c]) 0 i.str.length 1).isEmpty = true) : (!true) = fitsL (i :: r) (c :: t) := by
  rw [has_occ i c hi] at ho
  rw [fits_cons hi]
  simp only [Bool.not_eq_true'] at ho
  rw [ho]; rfl
section
variable {w : World} {p : Program} {loose : List PySem.Str} {mean : ExcName → Option Value} {mg mb : PySem.Str → Option Value}
   {dp un : Nat} {fr : Option (List Env)} {gd : Option (List Code)} {s : Shared} {Q : Value → Shared → Prop} {E : Value → Shared → Prop}
theorem fill_B10 (w : World) (h : Heap) (X : (hd.heap_1 w.params).In h) : PySem.Challenge.rw_in0215_01.row.prog = PP ∧ (hd.heap_1 w.params).In h := by
  k_fill
  exact ⟨rfl, X⟩
theorem fits_call {is : List It} : ∀ {dp un : Nat} {l : Addr} {its : Array Value} {nm : List Nat} {t : Tok} {fr : Option (List Env)} {gd : Option (List Code)} {s : Shared} {Q : Value → Shared → Prop} {E : Value → Shared → Prop} (hl : s.heap.IsList l its) (hS : StrsAre its.toList (is.map It.str)) (his : is.length ≤ 4) (hnm : nm.length ≤ 10) (hlow : ∀ c ∈ nm, c < 128) (X : (hd.heap_1 w.params).In s.heap) (T : Top p loose mean mg mb s.heap) (hdp : dp + is.length + 2 < recursionLimit) (hun : un + 20 * is.length + 100 < cLine)
   (hret : ∀ h' tk', Kept s.heap h' → Q (.bool (fitsL is nm)) {s with heap := h', toks := tk'}), wpAny (model PP w) (Ar dp un fr gd) (call (.ref 133) [.ref l, .str (tx nm) t]) Q E s := by
  induction is with
  | nil =>
    intro dp un l its nm t fr gd s Q E hl hS his hnm hlow X T hdp hun hret
    have e0 := strs_nil hS
    cases its with | mk yl =>
    subst e0
    have G := Gh.refl s.heap
    have hsz : (tx nm).length ≤ 10 := by rw [tx_len]; exact hnm
    refine wpAny_call ?_
    k_dflt ktr_enter
    k_steps
    (with_reducible rename Fr _ _ _ _ => kF)
    (with_reducible rename News _ _ _ _ => kN)
    (with_reducible rename Fr _ _ _ _ => kF)
    exact ret_bool (s := s) hret (nil_eq nm) kF.keep
  | cons i r ih =>
    k_with "mine stop" => (first | with_reducible show wpAny _ _ (compareOp CmpOp.Eq (Value.ref _) (Value.ref _)) _ _ _ | with_reducible show wpAny _ _ (call (Value.ref 133) _) _ _ _)
    intro dp un l its nm t fr gd s Q E hl hS his hnm hlow X T hdp hun hret
    obtain ⟨t0, vs, e0, hS2⟩ := strs_cons hS
    cases its with | mk yl =>
    subst e0
    have G := Gh.refl s.heap
    have hsz : (tx nm).length ≤ 10 := by rw [tx_len]; exact hnm
    have hvl : vs.length ≤ 4 := by have := strs_len hS2; simp only [List.length_map, List.length_cons] at *; omega
    simp only [List.length_cons] at hdp his hun
    refine wpAny_call ?_
    k_dflt ktr_enter
    k_steps
    (with_reducible rename Fr _ _ _ _ => kF)
    (with_reducible rename News _ _ _ _ => kN)
    obtain ⟨L, eL⟩ := getL kF
    subst eL
    rename (Obj.data _ = _) => d2
    revert d2
    rename (Obj.data _ = _) => d1
    intro d2
    obtain ⟨on, eo⟩ := getO d1
    subst eo
    obtain ⟨oi, eo⟩ := getO d2
    subst eo
    replace d2 : oi.data = .cell (some (.ref l)) := d2
    replace d1 : on.data = .cell (some (.str (tx nm) t)) := d1
    refine eq_strs (hl.at fun o e => kF.keep _ _ e) hS ⟨_, (kN _ (.head _)).1, rfl, _, rfl⟩ .nil (by ktr_room) (its_low _) lows_nil ?_
    rw [decide_eq_false (by simp)]
    cases i
    · simp only [It.str] at *
      k_steps
      refine lcompN (fun v => match v with | .int k _ => fitsL r (nm.drop k.toNat) | _ => false) (fun v y => ∃ k t u, v = Value.int k t ∧ y = Value.int k u) rfl rfl (by decide) rfl (by decide) rfl ?_
      k_steps
      (with_reducible rename Fr _ _ _ _ => kF)
      (with_reducible rename News _ _ _ _ => kN)
      (with_reducible rename IsRange _ _ _ _ _ _ _ _ => kR)
      have c1 := (kN (L + 1 + 1, on) (by k_mem)).1
      have c2 := (kN (L + 1, oi) (by k_mem)).1
      have X1 := Frag.In.keeps X kF.keep
      have T1 := Top.keeps T kF.keep
      have hl1 := Heap.IsList.at hl (fun o e => kF.keep _ _ e)
      refine ⟨nm.length + 1, _, src_range (n := nm.length + 1) (by rw [tx_len] at kR; exact kR) (by ktr_room), (fun x t z => by cases z), (by rw [sizeLine_eq]; omega), ?_, ?_, ?_⟩
      · intro C i v s₃ m₃ own E' hi hP hF hm hN
        obtain ⟨tv, rfl⟩ := hP
        clear kF kN
        refine wpAny_tests_one ?_
        k_steps
        (with_reducible rename Fr _ _ _ _ => kF)
        (with_reducible rename News _ _ _ _ => kN)
        rw [Int.zero_add, slice_from_tx _ _ (by ktr_room)]
        refine' ih (nm := nm.drop i) ?z1 hS2 ?z2 ?z3 ?z4 ?z5 ?z6 ?z7 ?z8 (fun h9 tk9 kp => ?_)
        case z1 => exact News.isList kN (.head _)
        case z2 => omega
        case z3 => rw [List.length_drop]; omega
        case z4 => exact fun c hc => hlow c (List.mem_of_mem_drop hc)
        case z5 => exact Frag.In.keeps X1 kF.keep
        case z6 => exact Top.keeps T1 kF.keep
        case z7 => (try dsimp only [Ar]); omega
        case z8 => (try dsimp only [Ar]); omega
        have F9 := kF.keeps kp
        have N9 := kN.grown kp
        clear kF kN
        k_steps
        refine TestN.mk' ?_ F9 N9 (fun _ h => .tail _ h)
        simp
      · intro C i v s₃ m₃ own E' hi hP hp hF hm hN
        obtain ⟨tv, rfl⟩ := hP
        clear kF kN
        k_steps
        exact EltN.mk' ⟨_, _, _, rfl, rfl⟩ (by assumption) (by assumption) (fun _ h => h)
      · intro D k h' tk ys vs2 hD hk hlen hv hpair hK
        have F9 := kF.keeps hK
        have N9 := news_new kF kN hK hD hk
        clear kF kN
        have hns := filt_ints (pn := fun k => fitsL r (nm.drop k.toNat)) (range_ints hlen hv) hpair
        have hnl : ((rangeKs 0 (nm.length + 1)).filter (fun k => fitsL r (nm.drop k.toNat))).length ≤ 11 := Nat.le_trans (List.length_filter_le _ _) (by rw [rangeKs_length]; omega)
        have hae := any_eq r nm
        generalize (rangeKs 0 (nm.length + 1)).filter (fun k => fitsL r (nm.drop k.toNat)) = ns at hns hnl hae
        k_steps
        (with_reducible rename Fr _ _ _ _ => kF)
        exact ret_bool (s := s) hret hae kF.keep
    · simp only [It.str] at *
      k_steps
      all_goals first
        | (rename (tx nm != _) = false => e0
           have e0 := eq_nil e0
           subst e0
           (with_reducible rename Fr _ _ _ _ => kF)
           exact ret_bool (s := s) hret rfl kF.keep)
        | (rename (tx nm != _) = true => e0
           obtain ⟨c, t, e0⟩ := ne_nil e0
           subst e0
           (with_reducible rename Fr _ _ _ _ => kF)
           (with_reducible rename News _ _ _ _ => kN)
           rw [slice_one _ (by simp)]
           refine' ih (nm := (c :: t).drop 1) ?z1 hS2 ?z2 ?z3 ?z4 ?z5 ?z6 ?z7 ?z8 (fun h9 tk9 kp => ?_)
           case z1 => exact News.isList kN (.head _)
           case z2 => omega
           case z3 => rw [List.length_drop]; omega
           case z4 => exact fun c hc => hlow c (List.mem_of_mem_drop hc)
           case z5 => exact Frag.In.keeps X kF.keep
           case z6 => exact Top.keeps T kF.keep
           case z7 => (try dsimp only [Ar]); omega
           case z8 => (try dsimp only [Ar]); omega
           have F9 := kF.keeps kp
           clear kF kN
           k_steps
           exact ret_bool (s := s) hret (by rfl) F9.keep)
        | (rename (tx nm != _) = true => e0
           obtain ⟨c, t, e0⟩ := ne_nil e0
           subst e0
           (with_reducible rename Fr _ _ _ _ => kF)
           rename (Builtin.Str.occurrences _ _ _ _ _).isEmpty = true => ho
           rw [item0] at ho
           exact ret_bool (s := s) hret (by rw [item0, ho]; exact rfl) kF.keep)
        
    · simp only [It.str] at *
      k_steps
      all_goals first
        | (rename (tx nm != _) = false => e0
           have e0 := eq_nil e0
           subst e0
           (with_reducible rename Fr _ _ _ _ => kF)
           exact ret_bool (s := s) hret rfl kF.keep)
        | (rename (tx nm != _) = true => e0
           obtain ⟨c, t, e0⟩ := ne_nil e0
           subst e0
           (with_reducible rename Fr _ _ _ _ => kF)
           (with_reducible rename News _ _ _ _ => kN)
           rw [slice_one _ (by simp)]
           refine' ih (nm := (c :: t).drop 1) ?z1 hS2 ?z2 ?z3 ?z4 ?z5 ?z6 ?z7 ?z8 (fun h9 tk9 kp => ?_)
           case z1 => exact News.isList kN (.head _)
           case z2 => omega
           case z3 => rw [List.length_drop]; omega
           case z4 => exact fun c hc => hlow c (List.mem_of_mem_drop hc)
           case z5 => exact Frag.In.keeps X kF.keep
           case z6 => exact Top.keeps T kF.keep
           case z7 => (try dsimp only [Ar]); omega
           case z8 => (try dsimp only [Ar]); omega
           have F9 := kF.keeps kp
           clear kF kN
           k_steps
           exact ret_bool (s := s) hret (by rename (Builtin.Str.occurrences _ _ _ _ _).isEmpty = false => ho; rw [item0] at ho; exact has_fin (.inl rfl) ho) F9.keep)
        | (rename (tx nm != _) = true => e0
           obtain ⟨c, t, e0⟩ := ne_nil e0
           subst e0
           (with_reducible rename Fr _ _ _ _ => kF)
           rename (Builtin.Str.occurrences _ _ _ _ _).isEmpty = true => ho
           rw [item0] at ho
           exact ret_bool (s := s) hret (by rw [item0, ho]; exact no_fin (.inl rfl) ho) kF.keep)
        
    · simp only [It.str] at *
      k_steps
      all_goals first
        | (rename (tx nm != _) = false => e0
           have e0 := eq_nil e0
           subst e0
           (with_reducible rename Fr _ _ _ _ => kF)
           exact ret_bool (s := s) hret rfl kF.keep)
        | (rename (tx nm != _) = true => e0
           obtain ⟨c, t, e0⟩ := ne_nil e0
           subst e0
           (with_reducible rename Fr _ _ _ _ => kF)
           (with_reducible rename News _ _ _ _ => kN)
           rw [slice_one _ (by simp)]
           refine' ih (nm := (c :: t).drop 1) ?z1 hS2 ?z2 ?z3 ?z4 ?z5 ?z6 ?z7 ?z8 (fun h9 tk9 kp => ?_)
           case z1 => exact News.isList kN (.head _)
           case z2 => omega
           case z3 => rw [List.length_drop]; omega
           case z4 => exact fun c hc => hlow c (List.mem_of_mem_drop hc)
           case z5 => exact Frag.In.keeps X kF.keep
           case z6 => exact Top.keeps T kF.keep
           case z7 => (try dsimp only [Ar]); omega
           case z8 => (try dsimp only [Ar]); omega
           have F9 := kF.keeps kp
           clear kF kN
           k_steps
           exact ret_bool (s := s) hret (by rename (Builtin.Str.occurrences _ _ _ _ _).isEmpty = false => ho; rw [item0] at ho; exact has_fin (.inr rfl) ho) F9.keep)
        | (rename (tx nm != _) = true => e0
           obtain ⟨c, t, e0⟩ := ne_nil e0
           subst e0
           (with_reducible rename Fr _ _ _ _ => kF)
           rename (Builtin.Str.occurrences _ _ _ _ _).isEmpty = true => ho
           rw [item0] at ho
           exact ret_bool (s := s) hret (by rw [item0, ho]; exact no_fin (.inr rfl) ho) kF.keep)
        
end
end Mine

end F_B10
section F_B11
open PySem PySem.Spec PySem.W PySem.Calls PyProof.Rows
namespace Mine
theorem rows_hdr_B11 : True := by
  k_with_none
  w_top off
  k_with "mine units" => (first | (refine' rm1 ?zuaa ?zuab; (case zuaa => with_reducible assumption); (case zuab => rfl)) | (refine' rm2 ?zuba ?zubb; (case zuba => with_reducible assumption); (case zubb => rfl)) | (refine' rm3 ?zuca ?zucb; (case zuca => with_reducible assumption); (case zucb => rfl)) | (dsimp only [Ar, Around.deeper, Around.in1]; first | (refine' rm1 ?zuda ?zudb; (case zuda => with_reducible assumption); (case zudb => rfl)) | (refine' rm2 ?zuea ?zueb; (case zuea => with_reducible assumption); (case zueb => rfl)) | (refine' rm3 ?zufa ?zufb; (case zufa => with_reducible assumption); (case zufb => rfl)) | (refine' rm4 ?zuga ?zugb; (case zuga => with_reducible assumption); (case zugb => rfl))))
  k_with "mine mem" => (first | with_reducible exact mem_h | with_reducible assumption | (with_reducible refine List.mem_append_left _ ?_; k_extra "mine mem") | (with_reducible refine List.mem_append_right _ ?_; k_extra "mine mem") | (with_reducible refine mem_t ?_; k_extra "mine mem"))
  k_with "mine sub" => (first | exact all_nil | (refine all_cons ?_ ?_; k_extra "mine mem"; k_extra "mine sub") | (refine all_app ?_ ?_; k_extra "mine sub"; k_extra "mine sub") | (intro pq hpq; k_extra "mine mem"))
  k_with "mine room" => (first | with_reducible assumption | (refine' rm1 ?zraa ?zrab; (case zraa => with_reducible assumption); (case zrab => rfl)) | (refine' rm2 ?zrba ?zrbb; (case zrba => with_reducible assumption); (case zrbb => rfl)) | (refine' rm3 ?zrca ?zrcb; (case zrca => with_reducible assumption); (case zrcb => rfl)) | (refine' rm0 ?zrd; (case zrd => with_reducible assumption)) | (refine' leL ?zrea ?zreb; (case zrea => with_reducible assumption); (case zreb => rfl)) | (refine Ne.symm ?zrf; (case zrf => with_reducible assumption)) | (refine Nat.ne_of_lt ?zrg; (case zrg => with_reducible assumption)) | (refine Nat.ne_of_gt ?zrh; (case zrh => with_reducible assumption)) | ((try dsimp only [Ar, Around.deeper, Around.in1]); first | (refine' rm1 ?zria ?zrib; (case zria => with_reducible assumption); (case zrib => rfl)) | (refine' rm2 ?zrja ?zrjb; (case zrja => with_reducible assumption); (case zrjb => rfl)) | (refine' rm3 ?zrka ?zrkb; (case zrka => with_reducible assumption); (case zrkb => rfl)) | (refine' rm4 ?zrla ?zrlb; (case zrla => with_reducible assumption); (case zrlb => rfl)) | omega))
  k_with "mine ne" => (first | with_reducible assumption | (refine Ne.symm ?zna; (case zna => with_reducible assumption)) | (refine Nat.ne_of_lt ?znb; (case znb => with_reducible assumption)) | (refine Nat.ne_of_gt ?znc; (case znc => with_reducible assumption)))
  k_with "mine enter" => (first
  | (refine' enterG ?zqkG ?zqk3 ?zqk5 ?zqk6 ?zqk7 ?zqk8 ?zqk9 ?zqkB ?_ ?zqc2 ?zqc3 ?zqc4 ?zqc5; (case zqkG => k_asm); (case zqk3 => k_asm); (case zqk5 => k_asm); (case zqk6 => k_is); (case zqk7 => k_is); (case zqk8 => ktr_room); (case zqk9 => exact BindsTo.of_eq rfl); (case zqc5 => decide); (case zqkB => exact locs rfl); (case zqc2 => exact rfl); (case zqc3 => exact rfl); (case zqc4 => exact rfl); k_whole; intro Lq' hq' Fq' Nq' l1q; (try k_lt l1q); (try dsimp only); (try k_fold))
  | (refine' enterC ?zqkG ?zqk3 ?zqk5 ?zqk6 ?zqk7 ?zqk8 ?zqk9 ?zqkB ?zqkD ?_ ?zqc2 ?zqc3 ?zqc4; (case zqkG => k_asm); (case zqk3 => k_asm); (case zqk5 => k_asm); (case zqk6 => k_is); (case zqk7 => k_is); (case zqk8 => ktr_room); (case zqk9 => exact BindsTo.of_eq rfl); (case zqkB => exact rfl); (case zqkD => decide +kernel); (case zqc2 => exact rfl); (case zqc3 => exact rfl); (case zqc4 => exact rfl); k_whole; intro Lq' hq' tkq' cellsq' Fq' Nq' Yq' l1q; (try k_lt l1q); k_cells Yq'; (try simp only [List.cons_append, List.nil_append] at Nq'); (try dsimp only); (try k_fold)))
  k_with "mine k_steps" => ((try k_unmd); (try k_fold); repeat' (first | (k_unfold; (try dsimp only)) | ((fail_if_success (k_extra "mine stop")); (fail_if_success (with_reducible show wpAny _ _ (exec (Stmt.For _ _ _ _ _) _) _ _ _)); (fail_if_success (with_reducible show wpAny _ _ (exec (Stmt.While _ _ _ _) _) _ _ _)); (fail_if_success (with_reducible show wpAny _ _ (exec (Stmt.Try _ _ _ _ _) _) _ _ _)); (fail_if_success (with_reducible show wpAny _ _ (eval (PySem.Expr.ListComp _ _ _ _) _) _ _ _)); (fail_if_success (with_reducible show wpAny _ _ (exec (Stmt.Assign _ (PySem.Expr.ListComp _ _ _ _) _) _) _ _ _)); (first | walk1 | (dsimp only; walk1) | (leave1; walk_say "STEP leave1"; try dsimp only))) | fail "no step"))
  k_with "execs cons" => ((try k_made); (try k_gentoks); (with_reducible refine wpAny_execs_cons ?_); (try dsimp only); try k_fold)
  k_with "storeName" => (k_dflt (refine' storeX_L ?z1 ?z2 ?_ ?z3 ?z4; (case z1 => k_asm); (case z2 => k_asm); (case z3 => exact rfl); (case z4 => exact rfl); k_whole); intro hq' Fq' Nq'; (try dsimp only at Fq'); (try k_sweep))
  k_with "eval Name" => (name_kind "local"; k_dflt (refine' nameX_L ?z5 ?z6 ?_ ?z7 ?z8; (case z5 => with_reducible assumption); (case z6 => exact Eq.refl (some _)); (case z7 => exact rfl); (case z8 => exact rfl); k_whole))
  k_with "eval Name" => ((with_reducible show wpAny _ _ (eval (PySem.Expr.Name _ _) (compEnvC _ _ _ _)) _ _ _); k_dflt (first
  | (refine' nm_L ?zqF ?zqv ?_ ?zqa ?zqb ?zqc; (case zqa => rfl); (case zqb => rfl); (case zqc => decide); (case zqF => k_asm); (case zqv => first | with_reducible assumption | assumption | rfl); k_whole)
  | (refine' nm_C ?zqF ?zqhc ?zqho ?zqhd ?_ ?zqa ?zqb ?zqc; (case zqa => rfl); (case zqb => rfl); (case zqc => decide); (case zqF => k_asm); (case zqhc => rfl); (case zqho => first | with_reducible assumption | assumption); (case zqhd => first | with_reducible assumption | assumption); k_whole)
  | (refine' nm_K ?zqF ?zqX ?zqT ?zqe ?_ ?zqg ?zqa ?zqb ?zqc; (case zqa => rfl); (case zqb => rfl); (case zqc => decide); (case zqg => rfl); (case zqF => k_asm); (case zqX => k_asm); (case zqT => k_asm); (case zqe => k_is); k_whole)
  | (refine' nm_B ?zqF ?zqX ?zqT ?zqe ?zqv ?zqn ?_ ?zqg ?zqbn ?zqa ?zqb ?zqc; (case zqa => rfl); (case zqb => rfl); (case zqc => decide); (case zqg => rfl); (case zqbn => rfl); (case zqF => k_asm); (case zqX => k_asm); (case zqT => k_asm); (case zqe => k_is); (case zqv => boot_fast); (case zqn => decide); k_whole)))
  k_with "callWith ref" => (k_here; k_dflt (first
  | ((with_reducible show wpAny _ _ (callWith _ (Value.ref _) _ (backTo _ (starEach (_ :: _) _)) []) _ _ _); first | (refine' callWith_M ?z9 ?z10 ?z11 ?z12 ?_; (case z9 => with_reducible assumption); (case z10 => with_reducible assumption); (case z11 => k_mem); (case z12 => k_is); k_whole) | (refine' callWith_K ?z13 ?z14 ?_; (case z13 => with_reducible assumption); (case z14 => k_is); k_whole))
  | ((with_reducible show wpAny _ _ (callWith _ (Value.ref _) _ (backTo _ (starEach [] _)) []) _ _ _); first | (refine' callWith_M0 ?z15 ?z16 ?_; (case z15 => k_meth); (case z16 => k_is); k_whole; try dsimp only [List.nil_append, List.cons_append]) | (refine' callWith_K0 ?z17 ?z18 ?_; (case z17 => (refine' Frag.In.keeps ?zia (Fr.keep ?zib); (case zib => with_reducible assumption); (case zia => with_reducible assumption))); (case z18 => k_is); k_whole))))
  k_with "subscriptTail" => (k_here; (with_reducible show wpAny _ _ (subscriptTail _ _ (Value.ref _) (Value.int _ _)) _ _ _); (with_unfolding_all refine' item_litK ?z19 ?z20 ?z21 ?z22 ?_ ?z23; (case z19 => is_list); (case z20 => decide); (case z21 => decide); (case z22 => rfl); (case z23 => with_unfolding_all rfl)); k_whole)
  k_with "subscriptTail Name Constant ref int" => (k_here; (with_reducible show wpAny _ _ (subscriptTail _ _ (Value.ref _) (Value.int _ _)) _ _ _); (with_unfolding_all refine' item_litK ?z24 ?z25 ?z26 ?z27 ?_ ?z28; (case z24 => is_list); (case z25 => decide); (case z26 => decide); (case z27 => rfl); (case z28 => with_unfolding_all rfl)); k_whole)
  k_with "eval Name" => (k_here; name_kind "globalImplicit"; k_dflt (first
  | (refine' nameX_K ?zqgF ?zqgX ?zqgT ?zqge ?_ ?zqga ?zqgb; (case zqgF => with_reducible assumption); (case zqgX => with_reducible assumption); (case zqgT => k_asm); (case zqga => rfl); (case zqgb => rfl); (case zqge => k_is); k_whole)
  | (refine' nameX_B ?zqgF ?zqgX ?zqgT ?zqge ?zqgv ?zqgn ?_ ?zqga ?zqgb; (case zqgF => with_reducible assumption); (case zqgX => with_reducible assumption); (case zqgT => k_asm); (case zqga => rfl); (case zqgb => rfl); (case zqge => k_is); (case zqgv => boot_fast); (case zqgn => decide); k_whole)))
  trivial
theorem nm_CN {M : Model} {A : Around} {E : Value → Shared → Prop} {s : Shared} {g : Heap} {C : Addr} {env : Env} {x : PySem.Str} {pos : Pos} {v : Value} {Q : Value → Shared → Prop} {c : Addr} {o : Obj} {news : List (Addr × Obj)} (N : News g C s.heap news) (hm : (c, o) ∈ news) (hc : env.cells.lookup x = some c) (hd : o.data = .cell (some v)) (h : Q v s)
    (hk : env.scope.kind = .function) (hx : env.kindOf x = some .cell) (hb : (x == ("__debug__" : PySem.Str)) = false) :
    wpAny M A (eval (.Name x pos) env) Q E s := wpAny_Name (wpAny_loadName_cell hk hx hc ⟨o, (N _ hm).1, hd⟩ h) hb
theorem rows_B11_0 : True := by
  k_with "eval Name" => ((with_reducible show wpAny _ _ (eval (PySem.Expr.Name _ _) (compEnvC _ _ _ _)) _ _ _); k_dflt (first
  | (refine' nm_L (by k_asm) (by first | assumption | rfl) ?_ (by rfl) (by rfl) (by decide); k_whole)
  | (refine' nm_C (by k_asm) (by rfl) (by assumption) (by assumption) ?_ (by rfl) (by rfl) (by decide); k_whole)
  | (refine' nm_CN (by k_asm) (by repeat' (first | assumption | apply List.mem_cons_of_mem)) (by rfl) (by assumption) ?_ (by rfl) (by rfl) (by decide); k_whole)
  | (refine' nm_K (by k_asm) (by k_asm) (by k_asm) (by k_is) ?_ (by rfl) (by rfl) (by rfl) (by decide); k_whole)
  | (refine' nm_B (by k_asm) (by k_asm) (by k_asm) (by k_is) (by boot_fast) (by decide) ?_ (by rfl) (by rfl) (by rfl) (by rfl) (by decide); k_whole)))
  trivial
theorem pick_to (l : List Value) (i : Nat) : kms_pick l none (some (i : Int)) = l.take i := by
  unfold kms_pick kms_lo kms_hi
  simp only [Nat.sub_zero, List.drop_zero]
  rw [if_neg (by ktr_room), Int.toNat_natCast, kmk_take_min]
theorem strs_take : ∀ {vs : List Value} {xs : List PySem.Str} (i : Nat), StrsAre vs xs → StrsAre (vs.take i) (xs.take i)
  | _, _, 0, _ => by simpa using StrsAre.nil
  | _, _, _ + 1, .nil => by simpa using StrsAre.nil
  | _, _, i + 1, .cons x t r => by simpa using StrsAre.cons x t (strs_take i r)
theorem rows_B11_1 : True := by
  k_with "mine stop" => (first | with_reducible show wpAny _ _ (compareOp CmpOp.Eq (Value.ref _) (Value.ref _)) _ _ _)
  k_with "subscriptTail Name Slice ref ref" => (k_here; (with_reducible show wpAny _ _ (subscriptTail _ (PySem.Expr.Slice none _ none _) (Value.ref _) (Value.ref _)) _ _ _); k_dflt (refine' kms_slice_lit ?z73 ?z74 ?z75 ?z76 ?z77 ?z78 ?_ ?z79 ?z80 ?z81; (case z73 => k_asm); (case z74 => k_asm); (case z75 => exact Heap.IsList.at (by with_reducible assumption) (fun o e => Fr.keep (by with_reducible assumption) _ _ e)); (case z76 => kmk_part); (case z77 => kmk_part); (case z78 => exact pick_to _ _); (case z79 => with_unfolding_all rfl); (case z80 => kmk_pure); (case z81 => (rw [sizeLine_eq]; omega))); intro Dq' hq' Fq' Nq' l1q; (try k_lt l1q); (try k_sweep))
  trivial
noncomputable def ltS (x y : PySem.Str) : Bool := decide (x.cps.toList < y.cps.toList)
noncomputable def aloneP (hs ts : List PySem.Str) (i : Nat) : Bool := !(ts.any fun x => x == hs.getD i Str.empty) && (!((hs.take i).any fun x => x == hs.getD i Str.empty) || decide (ts.filter (fun x => ltS (hs.getD i Str.empty) x) = []))
noncomputable def aloneL (hs ts : List PySem.Str) : List PySem.Str := ((rangeKs 0 hs.length).filter fun k => aloneP hs ts k.toNat).map fun k => hs.getD k.toNat Str.empty
noncomputable def pnI (pn : Int → Bool) : Value → Bool
  | .int k _ => pn k
  | _ => false
noncomputable def pnS (pn : PySem.Str → Bool) : Value → Bool
  | .str x _ => pn x
  | _ => false
theorem filt_strs {pn : Int → Bool} {f : Int → PySem.Str} {vs ys : List Value} {ns : List Int} (h : IntsAre vs ns) (hP : Paired (fun v y => ∃ k t u, v = Value.int k t ∧ y = Value.str (f k) u) (vs.filter (pnI pn)) ys) : StrsAre ys ((ns.filter pn).map f) := by
  induction h generalizing ys with
  | nil => cases hP; exact .nil
  | cons j t h ih =>
    by_cases hp : pn j = true
    · rw [List.filter_cons_of_pos (by exact hp)] at hP
      rw [List.filter_cons_of_pos hp]
      cases hP with
      | cons h1 h2 =>
        obtain ⟨j', t', u, e, rfl⟩ := h1
        cases e
        exact .cons _ _ (ih h2)
    · rw [List.filter_cons_of_neg (by exact hp)] at hP
      rw [List.filter_cons_of_neg hp]
      exact ih hP
theorem filt_strs2 {pn : PySem.Str → Bool} {vs ys : List Value} {xs : List PySem.Str} (h : StrsAre vs xs) (hP : Paired (fun v y => ∃ x t u, v = Value.str x t ∧ y = Value.str x u) (vs.filter (pnS pn)) ys) : StrsAre ys (xs.filter pn) := by
  induction h generalizing ys with
  | nil => cases hP; exact .nil
  | cons j t h ih =>
    by_cases hp : pn j = true
    · rw [List.filter_cons_of_pos (by exact hp)] at hP
      rw [List.filter_cons_of_pos hp]
      cases hP with
      | cons h1 h2 =>
        obtain ⟨j', t', u, e, rfl⟩ := h1
        cases e
        exact .cons _ _ (ih h2)
    · rw [List.filter_cons_of_neg (by exact hp)] at hP
      rw [List.filter_cons_of_neg hp]
      exact ih hP
theorem lows_filter {xs : List PySem.Str} (pn : PySem.Str → Bool) (h : LowS xs) : LowS (xs.filter pn) := fun x hx => h x (List.mem_filter.mp hx).1
section
variable {w : World} {p : Program} {loose : List PySem.Str} {mean : ExcName → Option Value} {mg mb : PySem.Str → Option Value}
   {dp un : Nat} {fr : Option (List Env)} {gd : Option (List Code)} {s : Shared} {Q : Value → Shared → Prop} {E : Value → Shared → Prop}
theorem fill_B11 (w : World) (h : Heap) (X : (hd.heap_1 w.params).In h) : PySem.Challenge.rw_in0215_01.row.prog = PP ∧ (hd.heap_1 w.params).In h := by
  k_fill
  exact ⟨rfl, X⟩
theorem alone_call {a b : Addr} {ia ib : Array Value} {hs ts : List PySem.Str} (ha : s.heap.IsList a ia) (hb : s.heap.IsList b ib) (hA : StrsAre ia.toList hs) (hB : StrsAre ib.toList ts) (hla : hs.length ≤ 64) (hlb : ts.length ≤ 64) (hlo : LowS hs) (hlt : LowS ts) (hsh : ∀ x ∈ hs, x.length ≤ 10) (hst : ∀ x ∈ ts, x.length ≤ 10)
   (X : (hd.heap_1 w.params).In s.heap) (T : Top p loose mean mg mb s.heap) (hdp : dp + 2 < recursionLimit) (hun : un + 200 < cLine)
   (hret : ∀ h' tk' D k ys, Kept s.heap h' → s.heap.get? D = none → h'.get? D = some (W.listOf ys k) → StrsAre ys.toList (aloneL hs ts) → Q (.ref D) {s with heap := h', toks := tk'}) : wpAny (model PP w) (Ar dp un fr gd) (call (.ref 143) [.ref a, .ref b]) Q E s := by
  have G := Gh.refl s.heap
  refine wpAny_call ?_
  k_dflt ktr_enter
  k_steps
  (with_reducible rename Fr _ _ _ _ => kF)
  (with_reducible rename News _ _ _ _ => kN)
  obtain ⟨L, eL⟩ := getL kF
  subst eL
  rename (Obj.data _ = _) => d2
  revert d2
  rename (Obj.data _ = _) => d1
  intro d2
  obtain ⟨ot, eo⟩ := getO d1
  subst eo
  obtain ⟨oh, eo⟩ := getO d2
  subst eo
  replace d2 : oh.data = .cell (some (.ref a)) := d2
  replace d1 : ot.data = .cell (some (.ref b)) := d1
  refine lcompNC (pnI fun k => aloneP hs ts k.toNat) (fun v y => ∃ k t u, v = Value.int k t ∧ y = Value.str (hs.getD k.toNat Str.empty) u) rfl rfl rfl (by decide) rfl (by decide) rfl ?_
  k_steps
  (with_reducible rename Fr _ _ _ _ => kF)
  (with_reducible rename News _ _ _ _ => kN)
  (with_reducible rename IsRange _ _ _ _ _ _ _ _ => kR)
  have e9 : ia.size = hs.length := by rw [← strs_len hA, Array.length_toList]
  have c1 := (kN (L + 1 + 1, ot) (by k_mem)).1
  have c2 := (kN (L + 1, oh) (by k_mem)).1
  have X1 := Frag.In.keeps X kF.keep
  have T1 := Top.keeps T kF.keep
  have ha1 := Heap.IsList.at ha (fun o e => kF.keep _ _ e)
  have hb1 := Heap.IsList.at hb (fun o e => kF.keep _ _ e)
  refine ⟨hs.length, _, src_range (n := hs.length) (by first | exact kR | (rw [← e9]; exact kR)) (by ktr_room), (fun x t z => by cases z), (by rw [sizeLine_eq]; omega), ?_, ?_, ?_⟩
  · intro C i v s₃ m₃ own oc E' hi hP hF hoc hd hN
    obtain ⟨tv, rfl⟩ := hP
    clear kF kN kR
    rw [Int.zero_add] at hd
    have htk := strs_take i hA
    have hia : ia.size ≤ 64 := by omega
    refine wpAny_tests_one ?_
    k_steps
    · rename (List.any ts _) = true => e1
      exact TestN.mk' (by rw [Int.zero_add]; show false = aloneP hs ts _; unfold aloneP; rw [e1]; rfl) (by assumption) (by assumption) (by intro q hq; repeat' (first | assumption | apply List.mem_cons_of_mem))
    · rename (List.any (hs.take i) _) = true => e2
      rename (List.any ts _) = false => e1
      (with_reducible rename Fr _ _ _ _ => kF)
      (with_reducible rename News _ _ _ _ => kN)
      refine lcompN (pnS fun x => ltS (hs.getD ((i : Int)).toNat Str.empty) x) (fun v y => ∃ x t u, v = Value.str x t ∧ y = Value.str x u) rfl rfl (by decide) rfl (by decide) rfl ?_
      have d1' := (kN (C + 1, oc) (by repeat' (first | assumption | apply List.mem_cons_of_mem))).1
      have d2' := kF.keep _ _ c2
      have d3' := kF.keep _ _ c1
      have ha2 := Heap.IsList.at ha1 (fun o e => kF.keep _ _ e)
      have hb2 := Heap.IsList.at hb1 (fun o e => kF.keep _ _ e)
      k_steps
      refine ⟨ib.size, _, Src.list _ _ hb2, (fun x t z => by cases z), (by rw [sizeLine_eq, ← Array.length_toList, strs_len ‹StrsAre ib.toList ts›]; omega), ?_, ?_, ?_⟩
      · intro C2 i2 v s4 m4 own2 E' hi2 hP2 hF2 hm2 hN2
        obtain ⟨x2, u2, hx2, rfl⟩ := strs_at ‹StrsAre ib.toList ts› (i := i2) (v := v) (by rw [Array.getElem?_toList]; exact hP2)
        clear kF kN
        refine wpAny_tests_one ?_
        k_steps
        exact TestN.mk' rfl (by assumption) (by assumption) (fun _ h => h)
      · intro C2 i2 v s4 m4 own2 E' hi2 hP2 hp2 hF2 hm2 hN2
        obtain ⟨x2, u2, hx2, rfl⟩ := strs_at ‹StrsAre ib.toList ts› (i := i2) (v := v) (by rw [Array.getElem?_toList]; exact hP2)
        clear kF kN
        k_steps
        exact EltN.mk' ⟨_, _, _, rfl, rfl⟩ (by assumption) (by assumption) (fun _ h => h)
      · intro D k h' tk ys vs2 hD hk hlen hv hpair hK
        have F9 := kF.keeps hK
        have N9 := news_new kF kN hK hD hk
        clear kF kN
        k_steps
        (with_reducible rename Fr _ _ _ _ => kF)
        (with_reducible rename News _ _ _ _ => kN)
        have hys := filt_strs2 ‹StrsAre ib.toList ts› (by rw [← same_list hlen hv]; exact hpair)
        refine' eq_strs (vs := ys) (us := #[]) (ms := []) ?z1 hys ?z2 .nil ?z3 ?z4 lows_nil ?_
        case z1 => exact News.isList kN (by k_mem)
        case z2 => exact News.isList kN (by k_mem)
        case z3 => (try dsimp only [Ar, Around.deeper]); omega
        case z4 => exact lows_filter _ ‹LowS ts›
        k_steps
        all_goals exact TestN.mk' (by rw [Int.zero_add]; show _ = aloneP hs ts _; unfold aloneP; rw [Int.toNat_natCast] at *; rw [e1, e2]; simp only [Bool.not_false, Bool.not_true, Bool.true_and, Bool.false_or]; first | rfl | (symm; assumption) | simp_all) kF kN (by intro q hq; repeat' (first | assumption | apply List.mem_cons_of_mem))
    · rename (List.any (hs.take i) _) = false => e2
      rename (List.any ts _) = false => e1
      exact TestN.mk' (by rw [Int.zero_add]; show true = aloneP hs ts _; unfold aloneP; rw [Int.toNat_natCast] at *; rw [e1, e2]; rfl) (by assumption) (by assumption) (by intro q hq; repeat' (first | assumption | apply List.mem_cons_of_mem))
  · intro C i v s₃ m₃ own oc E' hi hP hp hF hoc hd hN
    obtain ⟨tv, rfl⟩ := hP
    clear kF kN kR
    rw [Int.zero_add] at hd
    k_steps
    exact EltN.mk' ⟨_, _, _, rfl, by rw [Int.zero_add]⟩ (by assumption) (by assumption) (fun _ h => h)
  · intro D k h' tk ys vs2 hD hk hlen hv hpair hK
    have hys := filt_strs (range_ints hlen hv) hpair
    have F9 := kF.keeps hK
    have nD : s.heap.get? D = none := by
      cases q : s.heap.get? D with
      | none => rfl
      | some o' => have := kF.keep _ _ q; rw [hD] at this; cases this
    clear kF kN kR
    k_steps
    exact hret _ _ D k ys F9.keep nD hk hys
end
end Mine

end F_B11
section F_B12
open PySem PySem.Spec PySem.W PySem.Calls PyProof.Rows
namespace Mine
/-- an exception's object: its class, its traceback, its context -/
structure ExO (t1 ctx : Value) (o : Obj) : Prop where
  cls : o.cls = .type "IndexError"
  d : ∃ tt, o.data = .fields #[tt, t1, ctx, .none, .bool false, .none]
structure TbO (fl : Value) (o : Obj) : Prop where
  d : ∃ tvs, o.data = .fields tvs ∧ tvs[3]? = some fl

section
variable {prog : Program} {w : World} {A A₀ : Around} {E : Value → Shared → Prop} {s s' : Shared} {g h : Heap} {L a e tb : Addr} {m : PySem.Str → Option Value} {name : PySem.Str} {scope : Scope} {cd : Value} {Q : Unit → Shared → Prop} {l : List Env} {frs new news : List (Addr × Obj)} {oe ot : Obj} {t1 ctx fl : Value}

theorem exc_of_new {h h' : Heap} (F : Fr g L h m) (N : News g L h news) (x : Heap.NewExc h h' e "IndexError") : Fr g L h' m ∧ ∃ oe, ExO .none .none oe ∧ News g L h' ((e, oe) :: news) ∧ ∀ p ∈ news, @Ne Nat p.1 e := by
  obtain ⟨ob, t, ho, hc, hd⟩ := x.there
  have ne : ∀ b o, h.get? b = some o → b ≠ e := fun b o e1 z => by rw [z, x.new] at e1; cases e1
  refine ⟨⟨F.ns.keeps x.keeps, fun b o q => x.keeps _ _ (F.keep b o q), F.above⟩, ob, ⟨hc, t, hd⟩, fun p hp => ?_, fun p hp => ne _ _ (N p hp).1⟩
  rcases List.mem_cons.mp hp with rfl | hp
  · refine ⟨ho, ?_, ?_⟩
    · obtain ⟨oL, _, _, eL, _⟩ := F.ns
      exact (ne _ _ eL).symm
    · cases q : g.get? e with
      | none => rfl
      | some o' => exact absurd rfl (ne _ _ (F.keep _ _ q))
  · exact ⟨x.keeps _ _ (N p hp).1, (N p hp).2⟩

theorem note_new (hA : A.frames = some (envOf name scope L a cd :: l)) (Fs : TI.Frs l frs) (F : Fr g L s.heap m) (N : News g L s.heap ((e, oe) :: (new ++ frs))) (ho : ExO .none ctx oe) (ape : ∀ p ∈ new ++ frs, @Ne Nat p.1 e) (apf : ∀ p ∈ new, ∀ q ∈ frs, @Ne Nat p.1 q.1)
    (k : ∀ h' frs' tb oe' ot, TI.SameUp frs frs' → TI.Frs l frs' → Fr g L h' m → News g L h' ((e, oe') :: (tb, ot) :: (new ++ frs')) → ExO (.ref tb) ctx oe' → TbO (rawInt L) ot → (∀ p ∈ (e, oe') :: (new ++ frs'), @Ne Nat p.1 tb) → Q () { s with heap := h' }) (hk : scope.kind = .function) :
    wpAny (model prog w) A (noteFrame (.ref e) (envOf name scope L a cd)) Q E s := by
  obtain ⟨tt, hd⟩ := ho.d
  have he := (N _ (.head _)).1
  have sub : ∀ p ∈ frs, p ∈ (e, oe) :: (new ++ frs) := fun p hp => .tail _ (List.mem_append_right _ hp)
  obtain ⟨hff, hNs, frs₁, SU, ht⟩ := TI.frames_at (name := name) (a := a) (cd := cd) (h' := s.heap) (base := TI.gone s.heap (L :: frs.map (·.1))) hk Fs F N sub (fun b o hb' => ⟨o.slots, hb'⟩) fun b hm => TI.gone_none hm
  unfold noteFrame
  simp only [show (envOf name scope L a cd).frame = some L from rfl]
  refine wpAny_bind (wpAny_field he hd (x := .none) rfl ?_)
  rw [if_neg (by decide)]
  refine wpAny_bind (wpAny_frameOf_fun hA hff rfl fun h₁ hs₁ => ?_)
  rw [TI.frames_are Fs] at hs₁
  refine wpAny_bind (wpAny_entryPlaceOf fun pl hpl => ?_)
  unfold EntryCells.newEntry newFields
  refine wpAny_bind (wpAny_newObj_type ?_ (hpl.sizeOk5 _ _ _ _ _))
  have eL : e ≠ L := (N _ (.head _)).2.1
  have efr : e ∉ L :: frs.map (·.1) := fun hm => by
    rcases List.mem_cons.mp hm with z | hm
    · exact eL z
    · obtain ⟨p, hp, z⟩ := List.mem_map.mp hm
      exact ape p (List.mem_append_right _ hp) z
  have he₁ : h₁.get? e = some oe := (hs₁.2.1 e efr).trans he
  generalize hot : ({ cls := .type "traceback", dict := none, data := .fields ([Value.none, .ref L, .none, rawInt L, .none] ++ (if pl.isEmpty then List.replicate 6 Value.none else pl)).toArray } : Obj) = ot
  have htb : (h₁.push ot).get? h₁.objs.size = some ot := Heap.get?_push_size _ (by rw [← hot]; rfl)
  have he₂ := Heap.get?_push_of_some (h := h₁) ot he₁
  refine wpAny_setField he₂ hd (by show 1 < 6; decide) ?_
  have hd₃ := Obj.data_mapFields hd (·.setIfInBounds 1 (Value.ref h₁.objs.size))
  have he₃ := Heap.get?_update_self (Obj.mapFields (·.setIfInBounds 1 (Value.ref h₁.objs.size))) he₂ (Obj.isFreed_of_fields hd₃)
  have hTe : h₁.objs.size ≠ e := Nat.ne_of_gt (Heap.lt_size he₁)
  have oth : ∀ b o, b ≠ e → h₁.get? b = some o → ((h₁.push ot).update e (Obj.mapFields (·.setIfInBounds 1 (Value.ref h₁.objs.size)))).get? b = some o := fun b o hb q => by
    rw [Heap.get?_update_other _ _ (Ne.symm hb)]
    exact Heap.get?_push_of_some _ q
  obtain ⟨frs₂, SU₂, ht₂⟩ := TI.sameUp_of (frs := frs) (h' := h₁) fun p hp => hs₁.2.2 p.1 p.2 (N p (sub p hp)).1
  obtain ⟨oL, es, ep, hL, hLd, hLk, hLf⟩ := F.ns
  obtain ⟨slL, hL₁⟩ := hs₁.2.2 L oL hL
  have F' : Fr g L ((h₁.push ot).update e (Obj.mapFields (·.setIfInBounds 1 (Value.ref h₁.objs.size)))) m := by
    refine ⟨⟨_, es, ep, oth _ _ (Ne.symm eL) hL₁, hLd, hLk, hLf⟩, fun b o q => ?_, F.above⟩
    refine oth b o (fun z => by rw [z, (N _ (.head _)).2.2] at q; cases q) ?_
    exact (hs₁.2.1 b (TI.base_apart F N sub q)).trans (F.keep b o q)
  have hTL : h₁.objs.size ≠ L := Nat.ne_of_gt (Heap.lt_size hL₁)
  have old1 : ∀ b o, s.heap.get? b = some o → b ≠ h₁.objs.size := fun b o q z => by
    obtain ⟨sl, q'⟩ := hs₁.2.2 b o q
    exact absurd (Heap.lt_size q') (by rw [z]; exact Nat.lt_irrefl _)
  have gT : g.get? h₁.objs.size = none := by
    cases q : g.get? h₁.objs.size with
    | none => rfl
    | some o => exact absurd rfl (old1 _ _ (F.keep _ _ q))
  refine k _ frs₂ h₁.objs.size _ ot SU₂ (Fs.up SU₂) F' (fun p hp => ?_) ⟨(Obj.cls_mapFields _ _).trans ho.cls, tt, hd₃⟩ ⟨_, by rw [← hot], by first | (simp; done) | (rcases hpl with rfl | ⟨_, _, _, _, _, _, _, rfl⟩ <;> simp)⟩ (fun p hp => ?_)
  · rcases List.mem_cons.mp hp with rfl | hp
    · exact ⟨he₃, eL, (N _ (.head _)).2.2⟩
    rcases List.mem_cons.mp hp with rfl | hp
    · exact ⟨by rw [Heap.get?_update_other _ _ (Ne.symm hTe)]; exact htb, hTL, gT⟩
    rcases List.mem_append.mp hp with hp | hp
    · have z := N p (.tail _ (List.mem_append_left _ hp))
      refine ⟨oth _ _ (ape p (List.mem_append_left _ hp)) ?_, z.2⟩
      refine (hs₁.2.1 p.1 fun hm => ?_).trans z.1
      rcases List.mem_cons.mp hm with q | hm
      · exact z.2.1 q
      · obtain ⟨x, hx, q⟩ := List.mem_map.mp hm
        exact apf p hp x hx q.symm
    · obtain ⟨x, hx, q⟩ := SU₂.fwd p hp
      have z := N x (sub x hx)
      refine ⟨oth _ _ (by rw [q]; exact ape x (List.mem_append_right _ hx)) (ht₂ p hp), by rw [q]; exact z.2.1, by rw [q]; exact z.2.2⟩
  · rcases List.mem_cons.mp hp with rfl | hp
    · exact Ne.symm hTe
    rcases List.mem_append.mp hp with hp | hp
    · exact old1 _ _ (N p (.tail _ (List.mem_append_left _ hp))).1
    · obtain ⟨x, hx, q⟩ := SU₂.fwd p hp
      show p.1 ≠ _
      rw [q]
      exact old1 _ _ (N x (sub x hx)).1

theorem note_again {env : Env} (hf : env.frame = some L) (N : News g L s.heap news) (he : (e, oe) ∈ news) (ht : (tb, ot) ∈ news) (o1 : ExO (.ref tb) ctx oe) (o2 : TbO (rawInt L) ot) (h : Q () s) :
    wpAny (model prog w) A (noteFrame (.ref e) env) Q E s := by
  obtain ⟨tt, d1⟩ := o1.d
  obtain ⟨tvs, d2, d3⟩ := o2.d
  exact wpAny_noteFrame_inFlight hf (N _ he).1 d1 rfl (N _ ht).1 d2 d3 h

theorem set_flight {v : Option Addr} (F : Fr g L s.heap m) (N : News g L s.heap ((e, oe) :: (tb, ot) :: news)) (o1 : ExO (.ref tb) ctx oe) (o2 : TbO fl ot) (ap : ∀ p ∈ (e, oe) :: news, @Ne Nat p.1 tb)
    (h : ∀ h' ot', Fr g L h' m → News g L h' ((e, oe) :: (tb, ot') :: news) → TbO (v.elim .none fun f => rawInt f) ot' → Q () { s with heap := h' }) :
    wpAny (model prog w) A (setFlight (.ref e) v) Q E s := by
  obtain ⟨tt, d1⟩ := o1.d
  obtain ⟨tvs, d2, d3⟩ := o2.d
  have n1 := N _ (.head _)
  have n2 := N _ (.tail _ (.head _))
  have hsz : 3 < tvs.size := (Array.getElem?_eq_some_iff.mp d3).1
  unfold setFlight
  refine wpAny_bind (wpAny_field n1.1 d1 (x := .ref tb) rfl ?_)
  rw [if_pos (show (Value.ref tb != Value.none) = true from by simp)]
  refine wpAny_setField n2.1 d2 hsz ?_
  have d4 := Obj.data_mapFields d2 (·.setIfInBounds 3 (v.elim Value.none fun f => rawInt f))
  have oth : ∀ b o, b ≠ tb → s.heap.get? b = some o → (s.heap.update tb (Obj.mapFields (·.setIfInBounds 3 (v.elim Value.none fun f => rawInt f)))).get? b = some o := fun b o hb q => by
    rw [Heap.get?_update_other _ _ (Ne.symm hb)]; exact q
  refine h _ _ ⟨F.ns.at' fun o q => oth _ _ (Ne.symm n2.2.1) q, fun b o q => oth _ _ (fun z => by rw [z, n2.2.2] at q; cases q) (F.keep b o q), F.above⟩ (fun p hp => ?_) ⟨_, d4, by simp [hsz]⟩
  rcases List.mem_cons.mp hp with rfl | hp
  · exact ⟨oth _ _ (ap _ (.head _)) n1.1, n1.2⟩
  rcases List.mem_cons.mp hp with rfl | hp
  · exact ⟨Heap.get?_update_self _ n2.1 (Obj.isFreed_of_fields d4), n2.2⟩
  · have z := N p (.tail _ (.tail _ hp))
    exact ⟨oth _ _ (ap p (.tail _ hp)) z.1, z.2⟩

theorem pass_on {env : Env} {α : Type} {what : String} {Q : α → Shared → Prop} (hf : env.frame = some L) (F : Fr g L s.heap m) (N : News g L s.heap ((e, oe) :: (tb, ot) :: news)) (o1 : ExO (.ref tb) ctx oe) (o2 : TbO fl ot) (ap : ∀ p ∈ (e, oe) :: news, @Ne Nat p.1 tb)
    (h : ∀ h' ot', Fr g L h' m → News g L h' ((e, oe) :: (tb, ot') :: news) → TbO (rawInt L) ot' → E (.ref e) { s with heap := h' }) :
    wpAny (model prog w) A (PySem.passOn what (.ref e) env : Sem α) Q E s := by
  obtain ⟨tt, d1⟩ := o1.d
  have n1 := N _ (.head _)
  unfold PySem.passOn
  refine wpAny_bind (wpAny_field n1.1 d1 (x := .ref tb) rfl ?_)
  rw [if_neg (by simp)]
  refine wpAny_bind ?_
  rw [hf]
  exact set_flight (v := some L) F N o1 o2 ap fun h' ot' F' N' o' => wpAny_throw (h h' ot' F' N' o')

theorem came_back {env : Env} (hf : env.frame = some L) (F : Fr g L s.heap m) (N : News g L s.heap ((e, oe) :: (tb, ot) :: news)) (o1 : ExO (.ref tb) ctx oe) (o2 : TbO fl ot) (ap : ∀ p ∈ (e, oe) :: news, @Ne Nat p.1 tb)
    (h : ∀ h' ot', Fr g L h' m → News g L h' ((e, oe) :: (tb, ot') :: news) → TbO (rawInt L) ot' → E (.ref e) { s with heap := h' }) :
    cameBackBy (model prog w) A env E (.ref e) s := by
  obtain ⟨tt, d1⟩ := o1.d
  have n1 := N _ (.head _)
  unfold cameBackBy
  refine wpAny_bind (wpAny_field n1.1 d1 (x := .ref tb) rfl ?_)
  rw [if_neg (by simp)]
  rw [hf]
  exact set_flight (v := some L) F N o1 o2 ap fun h' ot' F' N' o' => h h' ot' F' N' o'

theorem entry_unchain : entryFor table "proto.unchain" = some Builtin.«proto.unchain» := entryFor_of_fast (by kernel_rfl)
theorem unchain {Q : Value → Shared → Prop} {v c : Value} {h0 : Addr} {oh : Obj} {vs : Array Value} (he : s.heap.get? h0 = some oh) (hd : oh.data = .fields vs) (h2 : vs[2]? = some .none) (h : Q .none s) :
    wpAny (model prog w) A (runValue (.builtin "proto.unchain" ⟨[v, .ref h0, c, .bool false], []⟩)) Q E s := by
  refine wpAny_runValue (codeAny_builtin entry_unchain ?_)
  show wpAny _ _ (field (.ref h0) 2 >>= _) _ _ s
  refine wpAny_bind (wpAny_field he hd h2 ?_)
  rw [if_pos (by simp)]
  show wpAny _ _ (pure (Fin.done (Flow.ret Value.none))) _ _ s
  exact wpAny_pure h

theorem raise_new_h {α : Type} {Q : α → Shared → Prop} {e0 : Addr} {o0 : Obj} (hh : A.handled = some (.ref e0)) (F : Fr g L s.heap m) (N : News g L s.heap ((e, oe) :: news)) (hm : (e0, o0) ∈ news) (ap : ∀ p ∈ news, @Ne Nat p.1 e) (o1 : ExO t1 ctx oe) (o2 : ExO tb0 .none o0)
    (h : ∀ h' oe', Fr g L h' m → News g L h' ((e, oe') :: news) → ExO t1 (.ref e0) oe' → E (.ref e) { s with heap := h' }) :
    wpAny (model prog w) A (raiseNew (.ref e) : Sem α) Q E s := by
  obtain ⟨tt, d1⟩ := o1.d
  obtain ⟨tt2, d2⟩ := o2.d
  have n1 := N _ (.head _)
  have n2 := N _ (.tail _ hm)
  have ne : e0 ≠ e := ap _ hm
  unfold raiseNew
  refine wpAny_bind (wpAny_handled ?_)
  rw [hh]
  try dsimp only
  rw [if_pos (by simpa using ne)]
  refine wpAny_bind (wpAny_holding (unchain n2.1 d2 rfl ?_))
  have d4 := Obj.data_mapFields d1 (·.setIfInBounds 2 (Value.ref e0))
  have oth : ∀ b o, b ≠ e → s.heap.get? b = some o → (s.heap.update e (Obj.mapFields (·.setIfInBounds 2 (Value.ref e0)))).get? b = some o := fun b o hb q => by
    rw [Heap.get?_update_other _ _ (Ne.symm hb)]; exact q
  refine wpAny_bind ?_
  show wpAny _ _ (setField (.ref e) 2 (.ref e0)) _ _ s
  refine wpAny_setField (i := 2) (x := .ref e0) n1.1 d1 (by show 2 < 6; decide) (wpAny_throw ?_)
  refine h _ _ ⟨F.ns.at' fun o q => oth _ _ (Ne.symm n1.2.1) q, fun b o q => oth _ _ (fun z => by rw [z, n1.2.2] at q; cases q) (F.keep b o q), F.above⟩ (fun p hp => ?_) ⟨(Obj.cls_mapFields _ _).trans o1.cls, tt, d4⟩
  rcases List.mem_cons.mp hp with rfl | hp
  · exact ⟨Heap.get?_update_self _ n1.1 (Obj.isFreed_of_fields d4), n1.2⟩
  · have z := N p (.tail _ hp)
    exact ⟨oth _ _ (ap p hp) z.1, z.2⟩

theorem raise_index_h {α : Type} {msg : String} {Q : α → Shared → Prop} {e0 : Addr} {o0 : Obj} {tb0 : Value} (hh : A.handled = some (.ref e0)) (F : Fr g L s.heap m) (N : News g L s.heap news) (hm : (e0, o0) ∈ news) (o2 : ExO tb0 .none o0)
    (h : ∀ h' tk e oe', Fr g L h' m → News g L h' ((e, oe') :: news) → ExO .none (.ref e0) oe' → (∀ p ∈ news, @Ne Nat p.1 e) → E (.ref e) { s with heap := h', toks := tk }) :
    wpAny (model prog w) A (raiseErrorWords "IndexError" msg : Sem α) Q E s := by
  unfold raiseErrorWords
  refine wpAny_bind (wpAny_mkText (wpAny_bind ?_))
  refine wpAny_newExc_plain (s := { s with toks := s.toks + 1 }) plainExc_IndexError fun h' e hx => ?_
  obtain ⟨F', oe, ho, N', ap⟩ := exc_of_new F N hx.newExc
  exact raise_new_h (s := { s with heap := h', toks := s.toks + 1 }) hh F' N' hm ap ho o2 fun h2 oe' F2 N2 o' => h _ _ _ _ F2 N2 o' ap

theorem item_out0 {value slice : PySem.Expr} {lst : Addr} {items : Array Value} {k : Int} {u : Tok} {Q : Value → Shared → Prop} (hA : A.handled = none) (F : Fr g L s.heap m) (N : News g L s.heap news) (hl : s.heap.IsList lst items)
    (hout : (items.size : Int) ≤ k) (hhi : k < 2 ^ 63)
    (h : ∀ h' tk e oe', Fr g L h' m → News g L h' ((e, oe') :: news) → ExO .none .none oe' → (∀ p ∈ news, @Ne Nat p.1 e) → E (.ref e) { s with heap := h', toks := tk })
    (hs : subscripted slice false (.ref lst) (.int k u) = operate [.ref lst, .int k u] (getItem (.ref lst) (.int k u)) := by with_unfolding_all rfl) :
    wpAny (model prog w) A (subscriptTail value slice (.ref lst) (.int k u)) Q E s :=
  item_outK hA hl (.inr hout) (by omega) hhi (fun h' tk e hx => by
    obtain ⟨F', oe, ho, N', ap⟩ := exc_of_new F N hx
    exact h _ _ _ _ F' N' ho ap) hs

theorem item_out_h {value slice : PySem.Expr} {lst : Addr} {items : Array Value} {k : Int} {u : Tok} {Q : Value → Shared → Prop} {e0 : Addr} {o0 : Obj} {tb0 : Value} (hA : A.handled = some (.ref e0)) (F : Fr g L s.heap m) (N : News g L s.heap news) (hm : (e0, o0) ∈ news) (o2 : ExO tb0 .none o0) (hl : s.heap.IsList lst items)
    (hout : (items.size : Int) ≤ k) (hhi : k < 2 ^ 63)
    (h : ∀ h' tk e oe', Fr g L h' m → News g L h' ((e, oe') :: news) → ExO .none (.ref e0) oe' → (∀ p ∈ news, @Ne Nat p.1 e) → E (.ref e) { s with heap := h', toks := tk })
    (hs : subscripted slice false (.ref lst) (.int k u) = operate [.ref lst, .int k u] (getItem (.ref lst) (.int k u)) := by with_unfolding_all rfl) :
    wpAny (model prog w) A (subscriptTail value slice (.ref lst) (.int k u)) Q E s := by
  refine tail_any hl.typeIs slot_list_getitem.lookup ?_ hs
  obtain ⟨o, ho, hc, ne, hd⟩ := id hl
  unfold getItem
  try with_reducible refine wpAny_holding ?_
  first | refine wpAny_bind (wpAny_pure ?_) | skip
  refine wpAny_bind (wpAny_sequenceKey hl.typeIs (by decide) ?_)
  refine wpAny_bind (wpAny_callSpecial?_slot (name := Str.ofString "__getitem__") hl.typeIs slot_list_getitem
    (wpAny_call_entry slot_list_getitem hl.typeIs entry_list_getitem ?_ (args_list_getitem _ _)))
  show wpAny _ _ (Builtin.List.listSubscript? (.int k u) >>= _) _ _ s
  refine wpAny_bind (wpAny_listSubscript_int (fitsIndex_both (by omega) hhi) ?_)
  obtain ⟨j, rfl⟩ : ∃ j : Nat, k = Int.ofNat j := ⟨k.toNat, by simp; omega⟩
  have hx : items[j]? = none := Array.getElem?_eq_none (by have : (items.size : Int) ≤ (j : Int) := hout; omega)
  show wpAny _ _ ((seqItemAt lst j >>= fun r => pure (r.map (j, ·))) >>= _) _ _ s
  refine wpAny_bind (wpAny_bind (wpAny_seqItemAt ho hd (wpAny_pure ?_)))
  rw [hx]
  have key : ∀ {α : Type} {msg : String} {Q' : α → Shared → Prop} {A' : Around}, A'.handled = some (.ref e0) → wpAny (model prog w) A' (raiseErrorWords "IndexError" msg : Sem α) Q' E s := fun hA' => raise_index_h hA' F N hm o2 h
  first
    | exact wpAny_bind (wpAny_rule (key (by exact hA)))
    | exact wpAny_bind (wpAny_rule (wpAny_bind (key (by exact hA))))
    | exact wpAny_bind (wpAny_bind (wpAny_rule (key (by exact hA))))
    | exact wpAny_rule (key (by exact hA))

/-- the clause takes it -/
theorem clause_hit {x : PySem.Str} {np pos : Pos} {b₀ : Stmt} {suite : List Stmt} {rest : List ExceptHandler} {Q : Flow → Shared → Prop}
    (F : Fr g L s.heap m) (N : News g L s.heap ((e, oe) :: (tb, ot) :: news)) (o1 : ExO (.ref tb) ctx oe) (o2 : TbO fl ot) (ap : ∀ p ∈ (e, oe) :: news, @Ne Nat p.1 tb)
    (hname : ∀ (Q' : Value → Shared → Prop), Q' (.type "IndexError") s → ∀ E', wpAny (model prog w) ((A₀.deeper (envOf name scope L a cd)).mark (some (.ref e))) (eval (.Name x np) (envOf name scope L a cd)) Q' E' s)
    (k : ∀ h', Fr g L h' m → News g L h' news → wpAny (model prog w) ((A₀.deeper (envOf name scope L a cd)).mark (some (.ref e))) (execs (b₀ :: suite) (envOf name scope L a cd)) Q E { s with heap := h' })
    (hE : PassesOwnAt (model prog w) ((A₀.deeper (envOf name scope L a cd)).mark (some (.ref e))) (A₀.deeper (envOf name scope L a cd)) (envOf name scope L a cd) E) :
    wpAny (model prog w) (A₀.deeper (envOf name scope L a cd)) (handleBy (.ref e) (envOf name scope L a cd) (.ExceptHandler (some (.Name x np)) none (b₀ :: suite) pos :: rest)) Q E s := by
  refine wpAny_handleBy_builtin (X := "IndexError") (T := "IndexError") (b := true) PySem.F.isExc_IndexError PySem.F.notTuple_IndexError (by rw [isSubtype_type]; kernel_rfl) (wpAny_passesOwnAt hE (hname _ ⟨rfl, ⟨oe, (N _ (.head _)).1, o1.cls⟩, ?_⟩ _))
  rw [if_pos rfl]
  refine set_flight (v := none) F N o1 o2 ap fun h' ot' F' N' _ => ?_
  exact wpAny_passesOwnAt hE (k h' F' fun q hq => N' q (.tail _ (.tail _ hq)))
end
end Mine

end F_B12
section F_B12a
open PySem PySem.Spec PySem.W PySem.Calls PyProof.Rows
namespace Mine
theorem rows_hdr_B12a : True := by
  k_with_none
  w_top off
  k_with "mine units" => (first | (refine' rm1 ?zuaa ?zuab; (case zuaa => with_reducible assumption); (case zuab => rfl)) | (refine' rm2 ?zuba ?zubb; (case zuba => with_reducible assumption); (case zubb => rfl)) | (refine' rm3 ?zuca ?zucb; (case zuca => with_reducible assumption); (case zucb => rfl)) | (dsimp only [Ar, Around.deeper, Around.in1]; first | (refine' rm1 ?zuda ?zudb; (case zuda => with_reducible assumption); (case zudb => rfl)) | (refine' rm2 ?zuea ?zueb; (case zuea => with_reducible assumption); (case zueb => rfl)) | (refine' rm3 ?zufa ?zufb; (case zufa => with_reducible assumption); (case zufb => rfl)) | (refine' rm4 ?zuga ?zugb; (case zuga => with_reducible assumption); (case zugb => rfl))))
  k_with "mine mem" => (first | with_reducible exact mem_h | with_reducible assumption | (with_reducible refine List.mem_append_left _ ?_; k_extra "mine mem") | (with_reducible refine List.mem_append_right _ ?_; k_extra "mine mem") | (with_reducible refine mem_t ?_; k_extra "mine mem"))
  k_with "mine sub" => (first | exact all_nil | (refine all_cons ?_ ?_; k_extra "mine mem"; k_extra "mine sub") | (refine all_app ?_ ?_; k_extra "mine sub"; k_extra "mine sub") | (intro pq hpq; k_extra "mine mem"))
  k_with "mine room" => (first | with_reducible assumption | (refine' rm1 ?zraa ?zrab; (case zraa => with_reducible assumption); (case zrab => rfl)) | (refine' rm2 ?zrba ?zrbb; (case zrba => with_reducible assumption); (case zrbb => rfl)) | (refine' rm3 ?zrca ?zrcb; (case zrca => with_reducible assumption); (case zrcb => rfl)) | (refine' rm0 ?zrd; (case zrd => with_reducible assumption)) | (refine' leL ?zrea ?zreb; (case zrea => with_reducible assumption); (case zreb => rfl)) | (refine Ne.symm ?zrf; (case zrf => with_reducible assumption)) | (refine Nat.ne_of_lt ?zrg; (case zrg => with_reducible assumption)) | (refine Nat.ne_of_gt ?zrh; (case zrh => with_reducible assumption)) | ((try dsimp only [Ar, Around.deeper, Around.in1]); first | (refine' rm1 ?zria ?zrib; (case zria => with_reducible assumption); (case zrib => rfl)) | (refine' rm2 ?zrja ?zrjb; (case zrja => with_reducible assumption); (case zrjb => rfl)) | (refine' rm3 ?zrka ?zrkb; (case zrka => with_reducible assumption); (case zrkb => rfl)) | (refine' rm4 ?zrla ?zrlb; (case zrla => with_reducible assumption); (case zrlb => rfl)) | omega))
  k_with "mine ne" => (first | with_reducible assumption | (refine Ne.symm ?zna; (case zna => with_reducible assumption)) | (refine Nat.ne_of_lt ?znb; (case znb => with_reducible assumption)) | (refine Nat.ne_of_gt ?znc; (case znc => with_reducible assumption)))
  k_with "mine enter" => (first
  | (refine' enterG ?zqkG ?zqk3 ?zqk5 ?zqk6 ?zqk7 ?zqk8 ?zqk9 ?zqkB ?_ ?zqc2 ?zqc3 ?zqc4 ?zqc5; (case zqkG => k_asm); (case zqk3 => k_asm); (case zqk5 => k_asm); (case zqk6 => k_is); (case zqk7 => k_is); (case zqk8 => ktr_room); (case zqk9 => exact BindsTo.of_eq rfl); (case zqc5 => decide); (case zqkB => exact locs rfl); (case zqc2 => exact rfl); (case zqc3 => exact rfl); (case zqc4 => exact rfl); k_whole; intro Lq' hq' Fq' Nq' l1q; (try k_lt l1q); (try dsimp only); (try k_fold))
  | (refine' enterC ?zqkG ?zqk3 ?zqk5 ?zqk6 ?zqk7 ?zqk8 ?zqk9 ?zqkB ?zqkD ?_ ?zqc2 ?zqc3 ?zqc4; (case zqkG => k_asm); (case zqk3 => k_asm); (case zqk5 => k_asm); (case zqk6 => k_is); (case zqk7 => k_is); (case zqk8 => ktr_room); (case zqk9 => exact BindsTo.of_eq rfl); (case zqkB => exact rfl); (case zqkD => decide +kernel); (case zqc2 => exact rfl); (case zqc3 => exact rfl); (case zqc4 => exact rfl); k_whole; intro Lq' hq' tkq' cellsq' Fq' Nq' Yq' l1q; (try k_lt l1q); k_cells Yq'; (try simp only [List.cons_append, List.nil_append] at Nq'); (try dsimp only); (try k_fold)))
  k_with "mine k_steps" => ((try k_unmd); (try k_fold); repeat' (first | (k_unfold; (try dsimp only)) | ((fail_if_success (k_extra "mine stop")); (fail_if_success (with_reducible show wpAny _ _ (exec (Stmt.For _ _ _ _ _) _) _ _ _)); (fail_if_success (with_reducible show wpAny _ _ (exec (Stmt.While _ _ _ _) _) _ _ _)); (fail_if_success (with_reducible show wpAny _ _ (exec (Stmt.Try _ _ _ _ _) _) _ _ _)); (fail_if_success (with_reducible show wpAny _ _ (eval (PySem.Expr.ListComp _ _ _ _) _) _ _ _)); (fail_if_success (with_reducible show wpAny _ _ (exec (Stmt.Assign _ (PySem.Expr.ListComp _ _ _ _) _) _) _ _ _)); (first | walk1 | (dsimp only; walk1) | (leave1; walk_say "STEP leave1"; try dsimp only))) | fail "no step"))
  k_with "execs cons" => ((try k_made); (try k_gentoks); (with_reducible refine wpAny_execs_cons ?_); (try dsimp only); try k_fold)
  k_with "storeName" => (k_dflt (refine' storeX_L ?z1 ?z2 ?_ ?z3 ?z4; (case z1 => k_asm); (case z2 => k_asm); (case z3 => exact rfl); (case z4 => exact rfl); k_whole); intro hq' Fq' Nq'; (try dsimp only at Fq'); (try k_sweep))
  k_with "eval Name" => (name_kind "local"; k_dflt (refine' nameX_L ?z5 ?z6 ?_ ?z7 ?z8; (case z5 => with_reducible assumption); (case z6 => exact Eq.refl (some _)); (case z7 => exact rfl); (case z8 => exact rfl); k_whole))
  k_with "eval Name" => ((with_reducible show wpAny _ _ (eval (PySem.Expr.Name _ _) (compEnvC _ _ _ _)) _ _ _); k_dflt (first
  | (refine' nm_L ?zqF ?zqv ?_ ?zqa ?zqb ?zqc; (case zqa => rfl); (case zqb => rfl); (case zqc => decide); (case zqF => k_asm); (case zqv => first | with_reducible assumption | assumption | rfl); k_whole)
  | (refine' nm_C ?zqF ?zqhc ?zqho ?zqhd ?_ ?zqa ?zqb ?zqc; (case zqa => rfl); (case zqb => rfl); (case zqc => decide); (case zqF => k_asm); (case zqhc => rfl); (case zqho => first | with_reducible assumption | assumption); (case zqhd => first | with_reducible assumption | assumption); k_whole)
  | (refine' nm_K ?zqF ?zqX ?zqT ?zqe ?_ ?zqg ?zqa ?zqb ?zqc; (case zqa => rfl); (case zqb => rfl); (case zqc => decide); (case zqg => rfl); (case zqF => k_asm); (case zqX => k_asm); (case zqT => k_asm); (case zqe => k_is); k_whole)
  | (refine' nm_B ?zqF ?zqX ?zqT ?zqe ?zqv ?zqn ?_ ?zqg ?zqbn ?zqa ?zqb ?zqc; (case zqa => rfl); (case zqb => rfl); (case zqc => decide); (case zqg => rfl); (case zqbn => rfl); (case zqF => k_asm); (case zqX => k_asm); (case zqT => k_asm); (case zqe => k_is); (case zqv => boot_fast); (case zqn => decide); k_whole)))
  k_with "callWith ref" => (k_here; k_dflt (first
  | ((with_reducible show wpAny _ _ (callWith _ (Value.ref _) _ (backTo _ (starEach (_ :: _) _)) []) _ _ _); first | (refine' callWith_M ?z9 ?z10 ?z11 ?z12 ?_; (case z9 => with_reducible assumption); (case z10 => with_reducible assumption); (case z11 => k_mem); (case z12 => k_is); k_whole) | (refine' callWith_K ?z13 ?z14 ?_; (case z13 => with_reducible assumption); (case z14 => k_is); k_whole))
  | ((with_reducible show wpAny _ _ (callWith _ (Value.ref _) _ (backTo _ (starEach [] _)) []) _ _ _); first | (refine' callWith_M0 ?z15 ?z16 ?_; (case z15 => k_meth); (case z16 => k_is); k_whole; try dsimp only [List.nil_append, List.cons_append]) | (refine' callWith_K0 ?z17 ?z18 ?_; (case z17 => (refine' Frag.In.keeps ?zia (Fr.keep ?zib); (case zib => with_reducible assumption); (case zia => with_reducible assumption))); (case z18 => k_is); k_whole))))
  k_with "subscriptTail" => (k_here; (with_reducible show wpAny _ _ (subscriptTail _ _ (Value.ref _) (Value.int _ _)) _ _ _); (with_unfolding_all refine' item_litK ?z19 ?z20 ?z21 ?z22 ?_ ?z23; (case z19 => is_list); (case z20 => decide); (case z21 => decide); (case z22 => rfl); (case z23 => with_unfolding_all rfl)); k_whole)
  k_with "subscriptTail Name Constant ref int" => (k_here; (with_reducible show wpAny _ _ (subscriptTail _ _ (Value.ref _) (Value.int _ _)) _ _ _); (with_unfolding_all refine' item_litK ?z24 ?z25 ?z26 ?z27 ?_ ?z28; (case z24 => is_list); (case z25 => decide); (case z26 => decide); (case z27 => rfl); (case z28 => with_unfolding_all rfl)); k_whole)
  k_with "eval Name" => (k_here; name_kind "globalImplicit"; k_dflt (first
  | (refine' nameX_K ?zqgF ?zqgX ?zqgT ?zqge ?_ ?zqga ?zqgb; (case zqgF => with_reducible assumption); (case zqgX => with_reducible assumption); (case zqgT => k_asm); (case zqga => rfl); (case zqgb => rfl); (case zqge => k_is); k_whole)
  | (refine' nameX_B ?zqgF ?zqgX ?zqgT ?zqge ?zqgv ?zqgn ?_ ?zqga ?zqgb; (case zqgF => with_reducible assumption); (case zqgX => with_reducible assumption); (case zqgT => k_asm); (case zqga => rfl); (case zqgb => rfl); (case zqge => k_is); (case zqgv => boot_fast); (case zqgn => decide); k_whole)))
  trivial
/-- what the two lists have alone, as the loop finds it -/
noncomputable def diffL : Nat → List PySem.Str → List PySem.Str → List PySem.Str × List PySem.Str
  | 0, _, _ => ([], [])
  | _ + 1, [], zs => ([], zs)
  | _ + 1, x :: xs, [] => (x :: xs, [])
  | n + 1, x :: xs, z :: zs =>
    if ltS x z then (x :: (diffL n (xs.dropWhile (· == x)) (z :: zs)).1, (diffL n (xs.dropWhile (· == x)) (z :: zs)).2)
    else if ltS z x then ((diffL n (x :: xs) (zs.dropWhile (· == z))).1, z :: (diffL n (x :: xs) (zs.dropWhile (· == z))).2)
    else diffL n (xs.dropWhile (· == x)) (zs.dropWhile (· == z))
structure MS (m : PySem.Str → Option Value) (a b : Addr) (i j : Nat) (D1 D2 : Addr) : Prop where
  ex : m "expected" = some (.ref a)
  ac : m "actual" = some (.ref b)
  i : ∃ t, m "i" = some (.int (i : Int) t)
  j : ∃ t, m "j" = some (.int (j : Int) t)
  ms : m "missing" = some (.ref D1)
  us : m "unexpected" = some (.ref D2)
inductive Fresh (cp : Value → Prop) (g : Heap) (L : Addr) (l : List Env) (frs new : List (Addr × Obj)) (m : PySem.Str → Option Value) (e : Addr) (h' : Heap) : Prop
  | mk (oe : Obj) (ctx : Value) (hc : cp ctx) (ho : ExO .none ctx oe) (F : Fr g L h' m) (N : News g L h' ((e, oe) :: (new ++ frs))) (Fs : TI.Frs l frs) (ap : ∀ p ∈ new ++ frs, @Ne Nat p.1 e)
inductive Flight (cp : Value → Prop) (fl : Value) (g : Heap) (L : Addr) (l : List Env) (frs new : List (Addr × Obj)) (m : PySem.Str → Option Value) (e : Addr) (h' : Heap) : Prop
  | mk (oe : Obj) (ctx : Value) (tb : Addr) (ot : Obj) (hc : cp ctx) (ho : ExO (.ref tb) ctx oe) (ht : TbO fl ot) (F : Fr g L h' m) (N : News g L h' ((e, oe) :: (tb, ot) :: (new ++ frs))) (Fs : TI.Frs l frs) (ap : ∀ p ∈ (e, oe) :: (new ++ frs), @Ne Nat p.1 tb) (ap2 : ∀ p ∈ new ++ frs, @Ne Nat p.1 e)
/-- the loop's own facts where an exception flies -/
inductive Bad (G : Nat → List (Addr × Obj) → List (Addr × Obj) → (PySem.Str → Option Value) → Addr → Heap → Prop) (frs : List (Addr × Obj)) (a b D1 D2 : Addr) (Inv : (PySem.Str → Option Value) → Nat → Nat → List PySem.Str → List PySem.Str → Prop) (s : Shared) (e : Value) (s' : Shared) : Prop
  | mk (ea : Addr) (h' : Heap) (tk : Nat) (m' : PySem.Str → Option Value) (i j : Nat) (ms us : List PySem.Str) (ya : Array Value) (k1 : Nat) (yb : Array Value) (k2 : Nat) (frs' : List (Addr × Obj)) (z : Nat) (he : e = .ref ea) (hs : s' = { s with heap := h', toks := tk }) (M : MS m' a b i j D1 D2) (h1 : StrsAre (Array.toList ya) ms) (h2 : StrsAre (Array.toList yb) us) (SU : TI.SameUp frs frs') (I : Inv m' i j ms us)
      (hG : G z frs' [(D2, W.listOf yb k2), (D1, W.listOf ya k1)] m' ea h')
/-- an exception that is new, or one that is on its way -/
noncomputable def Either (cp : Value → Prop) (g : Heap) (L : Addr) (l : List Env) : Nat → List (Addr × Obj) → List (Addr × Obj) → (PySem.Str → Option Value) → Addr → Heap → Prop := fun z frs new m e h' => Fresh cp g L l frs new m e h' ∨ Flight cp (rawInt L) g L l frs new m e h'
noncomputable def Noted (cp : Value → Prop) (fl : Value) (g : Heap) (L : Addr) (l : List Env) : Nat → List (Addr × Obj) → List (Addr × Obj) → (PySem.Str → Option Value) → Addr → Heap → Prop := fun z frs new m e h' => Flight cp fl g L l frs new m e h'
section
variable {prog : Program} {w : World} {A A' : Around} {E : Value → Shared → Prop} {s s' : Shared} {g : Heap} {L a0 a b D1 D2 : Addr} {name : PySem.Str} {scope : Scope} {cd : Value} {l : List Env} {frs : List (Addr × Obj)} {Inv : (PySem.Str → Option Value) → Nat → Nat → List PySem.Str → List PySem.Str → Prop} {cp : Value → Prop} {e : Value}
theorem bad_note {Q : Unit → Shared → Prop} (hA : A.frames = some (envOf name scope L a0 cd :: l)) (hk : scope.kind = .function) (hD : ∀ q ∈ frs, @Ne Nat D1 q.1 ∧ @Ne Nat D2 q.1) (B : Bad (Either cp g L l) frs a b D1 D2 Inv s e s') (h : ∀ s'', Bad (Noted cp (rawInt L) g L l) frs a b D1 D2 Inv s e s'' → Q () s'') :
    wpAny (model prog w) A (noteFrame e (envOf name scope L a0 cd)) Q E s' := by
  obtain ⟨ea, h', tk, m', i, j, ms, us, ya, k1, yb, k2, frs', z, rfl, rfl, M, h1, h2, SU, I, G⟩ := B
  rcases G with ⟨oe, ctx, hc, ho, F, N, Fs, ap⟩ | G
  · refine note_new (s := { s with heap := h', toks := tk }) hA Fs F N ho ap (fun p hp q hq => ?_) (fun h2' frs2 tb oe' ot SU2 Fs2 F2 N2 o1 o2 ap2 => h _ ⟨ea, h2', tk, m', i, j, ms, us, ya, k1, yb, k2, frs2, z, rfl, rfl, M, h1, h2, SU.trans SU2, I, ⟨oe', ctx, tb, ot, hc, o1, o2, F2, N2, Fs2, ap2, fun p hp => ?_⟩⟩) hk
    · obtain ⟨x, hx, e1⟩ := SU.fwd q hq
      simp only [List.mem_cons, List.not_mem_nil, or_false] at hp
      rcases hp with rfl | rfl
      · rw [e1]; exact (hD x hx).2
      · rw [e1]; exact (hD x hx).1
    · rcases List.mem_append.mp hp with hp | hp
      · exact ap p (List.mem_append_left _ hp)
      · obtain ⟨x, hx, e1⟩ := SU2.fwd p hp
        rw [e1]; exact ap x (List.mem_append_right _ hx)
  · obtain ⟨oe, ctx, tb, ot, hc, o1, o2, F, N, Fs, ap, ap2⟩ := id G
    refine note_again (env := envOf name scope L a0 cd) rfl N (.head _) (.tail _ (.head _)) o1 o2 (h _ ⟨ea, h', tk, m', i, j, ms, us, ya, k1, yb, k2, frs', z, rfl, rfl, M, h1, h2, SU, I, G⟩)
theorem bad_set {Q : Unit → Shared → Prop} {fl : Value} (v : Option Addr) (B : Bad (Noted cp fl g L l) frs a b D1 D2 Inv s e s') (h : ∀ s'', Bad (Noted cp (v.elim .none fun f => rawInt f) g L l) frs a b D1 D2 Inv s e s'' → Q () s'') :
    wpAny (model prog w) A (setFlight e v) Q E s' := by
  obtain ⟨ea, h', tk, m', i, j, ms, us, ya, k1, yb, k2, frs', z, rfl, rfl, M, h1, h2, SU, I, oe, ctx, tb, ot, hc, o1, o2, F, N, Fs, ap, ap2⟩ := B
  exact set_flight (v := v) F N o1 o2 ap fun h2' ot' F2 N2 o' => h _ ⟨ea, h2', tk, m', i, j, ms, us, ya, k1, yb, k2, frs', z, rfl, rfl, M, h1, h2, SU, I, oe, ctx, tb, ot', hc, o1, o', F2, N2, Fs, fun p hp => ap p hp, ap2⟩
theorem bad_pass (hA : A'.frames = some (envOf name scope L a0 cd :: l)) (hk : scope.kind = .function) (hD : ∀ q ∈ frs, @Ne Nat D1 q.1 ∧ @Ne Nat D2 q.1) :
    PassesOwnAt (model prog w) A' A (envOf name scope L a0 cd) (Bad (Either cp g L l) frs a b D1 D2 Inv s) := fun e s' B => by
  refine bad_note hA hk hD B fun s'' B2 => ?_
  obtain ⟨ea, h', tk, m', i, j, ms, us, ya, k1, yb, k2, frs', z, rfl, rfl, M, h1, h2, SU, I, oe, ctx, tb, ot, hc, o1, o2, F, N, Fs, ap, ap2⟩ := B2
  exact came_back (env := envOf name scope L a0 cd) rfl F N o1 o2 ap fun h2' ot' F2 N2 o' => ⟨ea, h2', tk, m', i, j, ms, us, ya, k1, yb, k2, frs', z, rfl, rfl, M, h1, h2, SU, I, .inr ⟨oe, ctx, tb, ot', hc, o1, o', F2, N2, Fs, ap, ap2⟩⟩
theorem noted_either (B : Bad (Noted cp (rawInt L) g L l) frs a b D1 D2 Inv s e s') : Bad (Either cp g L l) frs a b D1 D2 Inv s e s' := by
  obtain ⟨ea, h', tk, m', i, j, ms, us, ya, k1, yb, k2, frs', z, h1, h2, M, h3, h4, SU, I, G⟩ := B
  exact ⟨ea, h', tk, m', i, j, ms, us, ya, k1, yb, k2, frs', z, h1, h2, M, h3, h4, SU, I, .inr G⟩
theorem bad_own (hA : A.frames = some (envOf name scope L a0 cd :: l)) (hk : scope.kind = .function) (hD : ∀ q ∈ frs, @Ne Nat D1 q.1 ∧ @Ne Nat D2 q.1) :
    PassesOwn (model prog w) A (envOf name scope L a0 cd) (Bad (Either cp g L l) frs a b D1 D2 Inv s) := bad_pass hA hk hD
end
theorem pick_from (l : List Value) (i : Nat) : kms_pick l (some (i : Int)) none = l.drop i := by
  unfold kms_pick kms_lo kms_hi
  try dsimp only
  rw [if_neg (by ktr_room), Int.toNat_natCast]
  by_cases h : i ≤ l.length
  · rw [Nat.min_eq_left h, List.take_of_length_le (by simp)]
  · rw [Nat.min_eq_right (by ktr_room), List.drop_of_length_le (Nat.le_refl _), List.drop_of_length_le (by ktr_room)]; simp
theorem strs_drop : ∀ {vs : List Value} {xs : List PySem.Str} (i : Nat), StrsAre vs xs → StrsAre (vs.drop i) (xs.drop i)
  | _, _, 0, h => by simpa using h
  | _, _, _ + 1, .nil => by simpa using StrsAre.nil
  | _, _, i + 1, .cons x t r => by simpa using strs_drop i r
theorem rows_B12a_0 : True := by
  k_with "subscriptTail Name Slice ref ref" => (k_here; (with_reducible show wpAny _ _ (subscriptTail _ (PySem.Expr.Slice (some _) none none _) (Value.ref _) (Value.ref _)) _ _ _); k_dflt (refine' kms_slice_lit ?z82 ?z83 ?z84 ?z85 ?z86 ?z87 ?_ ?z88 ?z89 ?z90; (case z82 => k_asm); (case z83 => k_asm); (case z84 => exact Heap.IsList.at (by with_reducible assumption) (fun o e => Fr.keep (by with_reducible assumption) _ _ e)); (case z85 => kmk_part); (case z86 => kmk_part); (case z87 => exact pick_from _ _); (case z88 => with_unfolding_all rfl); (case z89 => kmk_pure); (case z90 => (rw [sizeLine_eq]; omega))); intro Dq' hq' Fq' Nq' l1q; (try k_lt l1q); (try k_sweep))
  trivial
theorem getN {g h : Heap} {L D1 D2 : Addr} {o1 o2 : Obj} {r : List (Addr × Obj)} (N : News g L h ((D2, o2) :: (D1, o1) :: r)) : ∃ D2' D1' : Addr, D2' = D2 ∧ D1' = D1 := ⟨_, _, rfl, rfl⟩
theorem ext_any {prog : Program} {w : World} {A : Around} {E : Value → Shared → Prop} {s : Shared} {h₀ : Heap} {L D b : Addr} {m : PySem.Str → Option Value} {news : List (Addr × Obj)} {its its2 : Array Value} {n n2 : Nat} {Q : Value → Shared → Prop} {news' : Obj → List (Addr × Obj)} (F : Fr h₀ L s.heap m) (N : News h₀ L s.heap news) (hb : (b, W.listOf its2 n2) ∈ news)
    (U : ∀ o', Upd D (W.listOf its n) o' news (news' o')) (hz : its.size + its2.size ≤ 1000)
    (h : ∀ h' n', Fr h₀ L h' m → News h₀ L h' (news' (W.listOf (its.toList ++ its2.toList).toArray n')) → Q .none { s with heap := h' }) : wpAny (model prog w) A (call (.builtin "list.extend") [.ref D, .ref b]) Q E s := by
  have hd : ¬(!its.isEmpty && Builtin.List.listTooLong (its.size + its2.size)) = true := by
    unfold Builtin.List.listTooLong
    simp only [Bool.and_eq_true, not_and]
    intro _
    simp only [decide_eq_true_eq]
    rw [sizeLine_eq]
    omega
  by_cases he : its2.toList.length = 0
  · have e0 : its2.toList = [] := List.eq_nil_of_length_eq_zero he
    refine kxn_extend F N hb e0 (U _) hd (by rw [sizeLine_eq, Array.length_toList]; omega) (by rw [sizeLine_eq]; omega) fun h' F' N' => h h' n F' ?_
    rw [e0, List.append_nil, Array.toArray_toList]
    exact N'
  · exact kl_extend F N hb rfl he (U _) hd (by rw [sizeLine_eq, Array.length_toList]; omega) (by rw [sizeLine_eq]; omega) fun h' F' N' => h h' _ F' N'
theorem strs_app : ∀ {vs us : List Value} {xs ys : List PySem.Str}, StrsAre vs xs → StrsAre us ys → StrsAre (vs ++ us) (xs ++ ys)
  | _, _, _, _, .nil, h => h
  | _, _, _, _, .cons x t r, h => .cons x t (strs_app r h)
theorem ms_fun {m : PySem.Str → Option Value} {a b : Addr} {i j : Nat} {D1 D2 : Addr} (M : MS m a b i j D1 D2) : ∃ (m0 : PySem.Str → Option Value) (t3 t4 : Tok), m = fun y => if y = (Str.ofString "i") then some (.int (i : Int) t3) else if y = (Str.ofString "j") then some (.int (j : Int) t4) else if y = (Str.ofString "expected") then some (.ref a) else if y = (Str.ofString "actual") then some (.ref b) else if y = (Str.ofString "missing") then some (.ref D1) else if y = (Str.ofString "unexpected") then some (.ref D2) else m0 y := by
  obtain ⟨q1, q2, ⟨t3, q3⟩, ⟨t4, q4⟩, q5, q6⟩ := M
  refine ⟨m, t3, t4, ?_⟩
  funext y
  by_cases h1 : y = (Str.ofString "i")
  · rw [if_pos h1, h1]; exact q3
  rw [if_neg h1]
  by_cases h2 : y = (Str.ofString "j")
  · rw [if_pos h2, h2]; exact q4
  rw [if_neg h2]
  by_cases h3 : y = (Str.ofString "expected")
  · rw [if_pos h3, h3]; exact q1
  rw [if_neg h3]
  by_cases h4 : y = (Str.ofString "actual")
  · rw [if_pos h4, h4]; exact q2
  rw [if_neg h4]
  by_cases h5 : y = (Str.ofString "missing")
  · rw [if_pos h5, h5]; exact q5
  rw [if_neg h5]
  by_cases h6 : y = (Str.ofString "unexpected")
  · rw [if_pos h6, h6]; exact q6
  rw [if_neg h6]
theorem ms_fun8 {m : PySem.Str → Option Value} {a b : Addr} {i j : Nat} {D1 D2 : Addr} {x y : PySem.Str} (M : MS m a b i j D1 D2) (he : ∃ t, m "e" = some (.str x t)) (ha : ∃ t, m "a" = some (.str y t)) : ∃ (m0 : PySem.Str → Option Value) (t3 t4 te ta : Tok), m = fun z => if z = (Str.ofString "i") then some (.int (i : Int) t3) else if z = (Str.ofString "j") then some (.int (j : Int) t4) else if z = (Str.ofString "e") then some (.str x te) else if z = (Str.ofString "a") then some (.str y ta) else if z = (Str.ofString "expected") then some (.ref a) else if z = (Str.ofString "actual") then some (.ref b) else if z = (Str.ofString "missing") then some (.ref D1) else if z = (Str.ofString "unexpected") then some (.ref D2) else m0 z := by
  obtain ⟨te, he⟩ := he
  obtain ⟨ta, ha⟩ := ha
  obtain ⟨q1, q2, ⟨t3, q3⟩, ⟨t4, q4⟩, q5, q6⟩ := M
  refine ⟨m, t3, t4, te, ta, ?_⟩
  funext z
  by_cases h1 : z = (Str.ofString "i")
  · rw [if_pos h1, h1]; exact q3
  rw [if_neg h1]
  by_cases h2 : z = (Str.ofString "j")
  · rw [if_pos h2, h2]; exact q4
  rw [if_neg h2]
  by_cases h7 : z = (Str.ofString "e")
  · rw [if_pos h7, h7]; exact he
  rw [if_neg h7]
  by_cases h8 : z = (Str.ofString "a")
  · rw [if_pos h8, h8]; exact ha
  rw [if_neg h8]
  by_cases h3 : z = (Str.ofString "expected")
  · rw [if_pos h3, h3]; exact q1
  rw [if_neg h3]
  by_cases h4 : z = (Str.ofString "actual")
  · rw [if_pos h4, h4]; exact q2
  rw [if_neg h4]
  by_cases h5 : z = (Str.ofString "missing")
  · rw [if_pos h5, h5]; exact q5
  rw [if_neg h5]
  by_cases h6 : z = (Str.ofString "unexpected")
  · rw [if_pos h6, h6]; exact q6
  rw [if_neg h6]
structure InvO (xs zs : List PySem.Str) (R : List PySem.Str × List PySem.Str) (m : PySem.Str → Option Value) (i j : Nat) (ms us : List PySem.Str) : Prop where
  hi : i ≤ xs.length
  hj : j ≤ zs.length
  r1 : ms ++ xs.drop i = R.1
  r2 : us ++ zs.drop j = R.2
  l1 : ms.length ≤ i
  l2 : us.length ≤ j
inductive JO (g : Heap) (a b D1 D2 : Addr) (frs : List (Addr × Obj)) (xs zs : List PySem.Str) (R : List PySem.Str × List PySem.Str) (n : Nat) (m : PySem.Str → Option Value) (news : List (Addr × Obj)) : Prop
  | mk (i j : Nat) (ms us : List PySem.Str) (ya : Array Value) (k1 : Nat) (yb : Array Value) (k2 : Nat) (M : MS m a b i j D1 D2) (h1 : StrsAre (Array.toList ya) ms) (h2 : StrsAre (Array.toList yb) us) (hn : news = (D2, W.listOf yb k2) :: (D1, W.listOf ya k1) :: frs) (hi : i ≤ xs.length) (hj : j ≤ zs.length) (hlt : (xs.length - i) + (zs.length - j) < n)
    (r1 : ms ++ (diffL n (xs.drop i) (zs.drop j)).1 = R.1) (r2 : us ++ (diffL n (xs.drop i) (zs.drop j)).2 = R.2) (l1 : ms.length ≤ i) (l2 : us.length ≤ j)
theorem fin_nil {n : Nat} {ms us Z R1 R2 : List PySem.Str} (hn : 1 ≤ n) (h1 : ms ++ (diffL n [] Z).1 = R1) (h2 : us ++ (diffL n [] Z).2 = R2) : ms ++ [] = R1 ∧ us ++ Z = R2 := by
  obtain ⟨k, rfl⟩ : ∃ k, n = k + 1 := ⟨n - 1, by omega⟩
  exact ⟨h1, h2⟩
theorem fin_nil2 {n : Nat} {ms us Z R1 R2 : List PySem.Str} (hn : 1 ≤ n) (h1 : ms ++ (diffL n Z []).1 = R1) (h2 : us ++ (diffL n Z []).2 = R2) : ms ++ Z = R1 ∧ us ++ [] = R2 := by
  obtain ⟨k, rfl⟩ : ∃ k, n = k + 1 := ⟨n - 1, by omega⟩
  cases Z with
  | nil => exact ⟨h1, h2⟩
  | cons z Z => exact ⟨h1, h2⟩
theorem drop_at {xs : List PySem.Str} {i : Nat} (h : i < xs.length) : xs.drop i = xs.getD i Str.empty :: xs.drop (i + 1) := by
  rw [List.drop_eq_getElem_cons h, List.getD_eq_getElem?_getD, List.getElem?_eq_getElem h]; rfl
theorem diff_lt {n : Nat} {ms us X Z R1 R2 : List PySem.Str} {x z : PySem.Str} (hl : ltS x z = true) (h1 : ms ++ (diffL (n + 1) (x :: X) (z :: Z)).1 = R1) (h2 : us ++ (diffL (n + 1) (x :: X) (z :: Z)).2 = R2) :
    (ms ++ [x]) ++ (diffL n (X.dropWhile (· == x)) (z :: Z)).1 = R1 ∧ us ++ (diffL n (X.dropWhile (· == x)) (z :: Z)).2 = R2 := by
  unfold diffL at h1 h2
  rw [if_pos hl] at h1 h2
  exact ⟨by rw [List.append_assoc]; exact h1, h2⟩
theorem diff_gt {n : Nat} {ms us X Z R1 R2 : List PySem.Str} {x z : PySem.Str} (hl : ltS x z = false) (hg : ltS z x = true) (h1 : ms ++ (diffL (n + 1) (x :: X) (z :: Z)).1 = R1) (h2 : us ++ (diffL (n + 1) (x :: X) (z :: Z)).2 = R2) :
    ms ++ (diffL n (x :: X) (Z.dropWhile (· == z))).1 = R1 ∧ (us ++ [z]) ++ (diffL n (x :: X) (Z.dropWhile (· == z))).2 = R2 := by
  unfold diffL at h1 h2
  rw [if_neg (by rw [hl]; decide), if_pos hg] at h1 h2
  exact ⟨h1, by rw [List.append_assoc]; exact h2⟩
theorem diff_eq {n : Nat} {ms us X Z R1 R2 : List PySem.Str} {x z : PySem.Str} (hl : ltS x z = false) (hg : ltS z x = false) (h1 : ms ++ (diffL (n + 1) (x :: X) (z :: Z)).1 = R1) (h2 : us ++ (diffL (n + 1) (x :: X) (z :: Z)).2 = R2) :
    ms ++ (diffL n (X.dropWhile (· == x)) (Z.dropWhile (· == z))).1 = R1 ∧ us ++ (diffL n (X.dropWhile (· == x)) (Z.dropWhile (· == z))).2 = R2 := by
  unfold diffL at h1 h2
  rw [if_neg (by rw [hl]; decide), if_neg (by rw [hg]; decide)] at h1 h2
  exact ⟨h1, h2⟩
noncomputable def tupO (D1 D2 : Addr) : Obj := { cls := .type "tuple", data := .seq #[.ref D1, .ref D2] 0 }
theorem inv_l {xs Z ms us : List PySem.Str} {R : List PySem.Str × List PySem.Str} {n i : Nat} (h : xs.drop i = []) (hn : 1 ≤ n) (h1 : ms ++ (diffL n (xs.drop i) Z).1 = R.1) (h2 : us ++ (diffL n (xs.drop i) Z).2 = R.2) : ms ++ xs.drop i = R.1 ∧ us ++ Z = R.2 := by
  rw [h] at h1 h2 ⊢
  exact fin_nil hn h1 h2
theorem inv_r {zs Z ms us : List PySem.Str} {R : List PySem.Str × List PySem.Str} {n i : Nat} (h : zs.drop i = []) (hn : 1 ≤ n) (h1 : ms ++ (diffL n Z (zs.drop i)).1 = R.1) (h2 : us ++ (diffL n Z (zs.drop i)).2 = R.2) : ms ++ Z = R.1 ∧ us ++ zs.drop i = R.2 := by
  rw [h] at h1 h2 ⊢
  exact fin_nil2 hn h1 h2
theorem allLt_ne {d : Nat} : ∀ {l : List (Addr × Obj)}, AllLt d l → ∀ q ∈ l, @LT.lt Nat _ q.1 d
  | [], _, _, h => nomatch h
  | p :: r, x, q, h => by
    rcases List.mem_cons.mp h with rfl | h
    · exact x.1
    · exact allLt_ne x.2 q h
inductive JI (a b D1 D2 : Addr) (news0 : List (Addr × Obj)) (xs : List PySem.Str) (x y : PySem.Str) (j lo : Nat) (Rest : List PySem.Str) (n : Nat) (m : PySem.Str → Option Value) (news : List (Addr × Obj)) : Prop
  | mk (i : Nat) (M : MS m a b i j D1 D2) (e : ∃ t, m "e" = some (.str x t)) (a' : ∃ t, m "a" = some (.str y t)) (hn : news = news0) (hi : i ≤ xs.length) (hlt : xs.length - i < n) (hr : (xs.drop i).dropWhile (· == x) = Rest) (hlo : lo ≤ i)
inductive JJ (a b D1 D2 : Addr) (news0 : List (Addr × Obj)) (zs : List PySem.Str) (x y : PySem.Str) (i lo : Nat) (Rest : List PySem.Str) (n : Nat) (m : PySem.Str → Option Value) (news : List (Addr × Obj)) : Prop
  | mk (j : Nat) (M : MS m a b i j D1 D2) (e : ∃ t, m "e" = some (.str x t)) (a' : ∃ t, m "a" = some (.str y t)) (hn : news = news0) (hj : j ≤ zs.length) (hlt : zs.length - j < n) (hr : (zs.drop j).dropWhile (· == y) = Rest) (hlo : lo ≤ j)
theorem drop_eq' {xs : List PySem.Str} {i : Nat} {x : PySem.Str} {Rest : List PySem.Str} (h : i < xs.length) (he : (xs.getD i Str.empty == x) = true) (hr : (xs.drop i).dropWhile (· == x) = Rest) : (xs.drop (i + 1)).dropWhile (· == x) = Rest := by
  rw [drop_at h, List.dropWhile_cons_of_pos (by exact he)] at hr
  exact hr
theorem drop_ne' {xs : List PySem.Str} {i : Nat} {x : PySem.Str} {Rest : List PySem.Str} (h : i < xs.length) (he : (xs.getD i Str.empty == x) = false) (hr : (xs.drop i).dropWhile (· == x) = Rest) : xs.drop i = Rest := by
  rw [drop_at h, List.dropWhile_cons_of_neg (by rw [he]; decide)] at hr
  rw [drop_at h]; exact hr
theorem drop_end {xs : List PySem.Str} {i : Nat} {x : PySem.Str} {Rest : List PySem.Str} (h : i = xs.length) (hr : (xs.drop i).dropWhile (· == x) = Rest) : Rest = [] ∧ xs.drop i = [] := by
  rw [List.drop_of_length_le (by ktr_room)] at hr ⊢
  exact ⟨hr.symm, rfl⟩
abbrev dScope : Scope := { kind := .function, names := [("expected", .local), ("actual", .local), ("i", .local), ("j", .local), ("missing", .local), ("unexpected", .local), ("e", .local), ("a", .local), ("IndexError", .globalImplicit)], isGenerator := false, isCoroutine := false }
section
variable {w : World} {p : Program} {loose : List PySem.Str} {mean : ExcName → Option Value} {mg mb : PySem.Str → Option Value}
   {dp un : Nat} {fr : Option (List Env)} {gd : Option (List Code)} {s : Shared} {Q : Value → Shared → Prop} {E : Value → Shared → Prop}
theorem fill_B12a (w : World) (h : Heap) (X : (hd.heap_1 w.params).In h) : PySem.Challenge.rw_in0215_01.row.prog = PP ∧ (hd.heap_1 w.params).In h := by
  k_fill
  exact ⟨rfl, X⟩
variable {g : Heap} {L a b D1 D2 : Addr} {l : List Env} {A : Around} {ia ib : Array Value} {xs zs : List PySem.Str} {news0 : List (Addr × Obj)} {Qf : Flow → Shared → Prop}
theorem loopI {x y : PySem.Str} {i0 j lo : Nat} {Rest : List PySem.Str} {m : PySem.Str → Option Value} {p1 p2 p3 p4 p5 p6 p7 p8 p9 : Pos} {kk : Nat}
   (hr : A.handled = none ∨ ∃ e0 o0 tb0, A.handled = some (.ref e0) ∧ (e0, o0) ∈ news0 ∧ ExO tb0 .none o0)
   (ha : g.IsList a ia) (hA : StrsAre ia.toList xs) (hla : xs.length ≤ 64) (X : (hd.heap_1 w.params).In g) (T : Top p loose mean mg mb g)
   (F : Fr g L s.heap m) (N : News g L s.heap news0) (M : MS m a b i0 j D1 D2) (he : ∃ t, m "e" = some (.str x t)) (hy : ∃ t, m "a" = some (.str y t)) (hi : i0 ≤ xs.length) (hlo : lo ≤ i0) (hrest : (xs.drop i0).dropWhile (· == x) = Rest)
   (hQ : ∀ h' tk' m' i', Fr g L h' m' → News g L h' news0 → MS m' a b i' j D1 D2 → (∃ t, m' "e" = some (.str x t)) → (∃ t, m' "a" = some (.str y t)) → i' ≤ xs.length → lo ≤ i' → xs.drop i' = Rest → Qf .next { s with heap := h', toks := tk' })
   (hX : ∀ h' tk' m' i' ea oe ctx, Fr g L h' m' → News g L h' ((ea, oe) :: news0) → ExO .none ctx oe → (A.handled = none → ctx = .none) → (∀ q ∈ news0, @Ne Nat q.1 ea) → MS m' a b i' j D1 D2 → (∃ t, m' "e" = some (.str x t)) → (∃ t, m' "a" = some (.str y t)) → i' ≤ xs.length → lo ≤ i' → xs.drop i' = [] → Rest = [] → E (.ref ea) { s with heap := h', toks := tk' })
   (hE : PassesOwn (model PP w) A (envOf "sorted_list_difference" dScope L 104 (.ref 103)) E) :
   wpAny (model PP w) A (exec (.While (.Compare (.Subscript (.Name "expected" p1) (.Name "i" p2) p3) [.Eq] [.Name "e" p4] p5) [.AugAssign (.Name "i" p6) .Add (.Constant (.int 1) kk p7) p8] [] p9) (envOf "sorted_list_difference" dScope L 104 (.ref 103))) Qf E s := by
  refine While_inv2 (J := JI a b D1 D2 news0 xs x y j lo Rest) (n₀ := xs.length - i0 + 1) F N ⟨i0, M, he, hy, rfl, hi, by omega, hrest, hlo⟩ ?_ (hE := hE)
  clear F N M he hy hi hlo hrest
  rintro n5 m5 news5 h5 tk5 F5 N5 ⟨i5, hM, hMe, hMa, rfl, hi5, hn5, hrest, hlo⟩
  obtain ⟨m0, t3, t4, te, ta, hm0⟩ := ms_fun8 hM hMe hMa
  clear hM hMe hMa
  subst hm0
  by_cases hb5 : i5 < xs.length
  · k_steps
    · (with_reducible rename Fr _ _ _ _ => kF)
      (with_reducible rename News _ _ _ _ => kN)
      have hq := drop_eq' hb5 (by assumption) hrest
      exact ⟨_, _, _, _, n5 - 1, rfl, kF, kN, by omega, i5 + 1, ⟨rfl, rfl, ⟨_, rfl⟩, ⟨_, rfl⟩, rfl, rfl⟩, ⟨_, rfl⟩, ⟨_, rfl⟩, rfl, by omega, by omega, hq, by omega⟩
    · (with_reducible rename Fr _ _ _ _ => kF)
      (with_reducible rename News _ _ _ _ => kN)
      exact hQ _ _ _ i5 kF kN ⟨rfl, rfl, ⟨_, rfl⟩, ⟨_, rfl⟩, rfl, rfl⟩ ⟨_, rfl⟩ ⟨_, rfl⟩ hi5 hlo (drop_ne' hb5 (by assumption) hrest)
  · have hbe : i5 = xs.length := by omega
    k_steps
    (with_reducible rename Fr _ _ _ _ => kF)
    (with_reducible rename News _ _ _ _ => kN)
    obtain ⟨r1, r2⟩ := drop_end hbe hrest
    rcases hr with hr | ⟨e0, o0, tb0, hr, hm, o2⟩
    · refine item_out0 hr kF kN (ha.at fun o e => kF.keep _ _ e) (by rw [← Array.length_toList, strs_len ‹StrsAre ia.toList xs›]; omega) (by ktr_room) (fun h9 tk9 e9 oe9 F9 N9 o9 ap9 => ?_)
      exact hX _ _ _ i5 e9 oe9 _ F9 N9 o9 (fun _ => rfl) ap9 ⟨rfl, rfl, ⟨_, rfl⟩, ⟨_, rfl⟩, rfl, rfl⟩ ⟨_, rfl⟩ ⟨_, rfl⟩ hi5 hlo r2 r1
    · refine item_out_h hr kF kN hm o2 (ha.at fun o e => kF.keep _ _ e) (by rw [← Array.length_toList, strs_len ‹StrsAre ia.toList xs›]; omega) (by ktr_room) (fun h9 tk9 e9 oe9 F9 N9 o9 ap9 => ?_)
      exact hX _ _ _ i5 e9 oe9 _ F9 N9 o9 (fun z => by rw [hr] at z; cases z) ap9 ⟨rfl, rfl, ⟨_, rfl⟩, ⟨_, rfl⟩, rfl, rfl⟩ ⟨_, rfl⟩ ⟨_, rfl⟩ hi5 hlo r2 r1
theorem loopJ {x y : PySem.Str} {i j0 lo : Nat} {Rest : List PySem.Str} {m : PySem.Str → Option Value} {p1 p2 p3 p4 p5 p6 p7 p8 p9 : Pos} {kk : Nat}
   (hr : A.handled = none ∨ ∃ e0 o0 tb0, A.handled = some (.ref e0) ∧ (e0, o0) ∈ news0 ∧ ExO tb0 .none o0)
   (hb : g.IsList b ib) (hB : StrsAre ib.toList zs) (hlb : zs.length ≤ 64) (X : (hd.heap_1 w.params).In g) (T : Top p loose mean mg mb g)
   (F : Fr g L s.heap m) (N : News g L s.heap news0) (M : MS m a b i j0 D1 D2) (he : ∃ t, m "e" = some (.str x t)) (hy : ∃ t, m "a" = some (.str y t)) (hi : j0 ≤ zs.length) (hlo : lo ≤ j0) (hrest : (zs.drop j0).dropWhile (· == y) = Rest)
   (hQ : ∀ h' tk' m' j', Fr g L h' m' → News g L h' news0 → MS m' a b i j' D1 D2 → (∃ t, m' "e" = some (.str x t)) → (∃ t, m' "a" = some (.str y t)) → j' ≤ zs.length → lo ≤ j' → zs.drop j' = Rest → Qf .next { s with heap := h', toks := tk' })
   (hX : ∀ h' tk' m' j' ea oe ctx, Fr g L h' m' → News g L h' ((ea, oe) :: news0) → ExO .none ctx oe → (A.handled = none → ctx = .none) → (∀ q ∈ news0, @Ne Nat q.1 ea) → MS m' a b i j' D1 D2 → (∃ t, m' "e" = some (.str x t)) → (∃ t, m' "a" = some (.str y t)) → j' ≤ zs.length → lo ≤ j' → zs.drop j' = [] → Rest = [] → E (.ref ea) { s with heap := h', toks := tk' })
   (hE : PassesOwn (model PP w) A (envOf "sorted_list_difference" dScope L 104 (.ref 103)) E) :
   wpAny (model PP w) A (exec (.While (.Compare (.Subscript (.Name "actual" p1) (.Name "j" p2) p3) [.Eq] [.Name "a" p4] p5) [.AugAssign (.Name "j" p6) .Add (.Constant (.int 1) kk p7) p8] [] p9) (envOf "sorted_list_difference" dScope L 104 (.ref 103))) Qf E s := by
  refine While_inv2 (J := JJ a b D1 D2 news0 zs x y i lo Rest) (n₀ := zs.length - j0 + 1) F N ⟨j0, M, he, hy, rfl, hi, by omega, hrest, hlo⟩ ?_ (hE := hE)
  clear F N M he hy hi hlo hrest
  rintro n5 m5 news5 h5 tk5 F5 N5 ⟨i5, hM, hMe, hMa, rfl, hi5, hn5, hrest, hlo⟩
  obtain ⟨m0, t3, t4, te, ta, hm0⟩ := ms_fun8 hM hMe hMa
  clear hM hMe hMa
  subst hm0
  by_cases hb5 : i5 < zs.length
  · k_steps
    · (with_reducible rename Fr _ _ _ _ => kF)
      (with_reducible rename News _ _ _ _ => kN)
      have hq := drop_eq' hb5 (by assumption) hrest
      exact ⟨_, _, _, _, n5 - 1, rfl, kF, kN, by omega, i5 + 1, ⟨rfl, rfl, ⟨_, rfl⟩, ⟨_, rfl⟩, rfl, rfl⟩, ⟨_, rfl⟩, ⟨_, rfl⟩, rfl, by omega, by omega, hq, by omega⟩
    · (with_reducible rename Fr _ _ _ _ => kF)
      (with_reducible rename News _ _ _ _ => kN)
      exact hQ _ _ _ i5 kF kN ⟨rfl, rfl, ⟨_, rfl⟩, ⟨_, rfl⟩, rfl, rfl⟩ ⟨_, rfl⟩ ⟨_, rfl⟩ hi5 hlo (drop_ne' hb5 (by assumption) hrest)
  · have hbe : i5 = zs.length := by omega
    k_steps
    (with_reducible rename Fr _ _ _ _ => kF)
    (with_reducible rename News _ _ _ _ => kN)
    obtain ⟨r1, r2⟩ := drop_end hbe hrest
    rcases hr with hr | ⟨e0, o0, tb0, hr, hm, o2⟩
    · refine item_out0 hr kF kN (hb.at fun o e => kF.keep _ _ e) (by rw [← Array.length_toList, strs_len ‹StrsAre ib.toList zs›]; omega) (by ktr_room) (fun h9 tk9 e9 oe9 F9 N9 o9 ap9 => ?_)
      exact hX _ _ _ i5 e9 oe9 _ F9 N9 o9 (fun _ => rfl) ap9 ⟨rfl, rfl, ⟨_, rfl⟩, ⟨_, rfl⟩, rfl, rfl⟩ ⟨_, rfl⟩ ⟨_, rfl⟩ hi5 hlo r2 r1
    · refine item_out_h hr kF kN hm o2 (hb.at fun o e => kF.keep _ _ e) (by rw [← Array.length_toList, strs_len ‹StrsAre ib.toList zs›]; omega) (by ktr_room) (fun h9 tk9 e9 oe9 F9 N9 o9 ap9 => ?_)
      exact hX _ _ _ i5 e9 oe9 _ F9 N9 o9 (fun z => by rw [hr] at z; cases z) ap9 ⟨rfl, rfl, ⟨_, rfl⟩, ⟨_, rfl⟩, rfl, rfl⟩ ⟨_, rfl⟩ ⟨_, rfl⟩ hi5 hlo r2 r1
end
end Mine

end F_B12a
section F_B13
open PySem PySem.Spec PySem.W PySem.Calls PyProof.Rows
namespace Mine
theorem rows_hdr_B13 : True := by
  k_with_none
  w_top off
  k_with "mine units" => (first | (refine' rm1 ?zuaa ?zuab; (case zuaa => with_reducible assumption); (case zuab => rfl)) | (refine' rm2 ?zuba ?zubb; (case zuba => with_reducible assumption); (case zubb => rfl)) | (refine' rm3 ?zuca ?zucb; (case zuca => with_reducible assumption); (case zucb => rfl)) | (dsimp only [Ar, Around.deeper, Around.in1]; first | (refine' rm1 ?zuda ?zudb; (case zuda => with_reducible assumption); (case zudb => rfl)) | (refine' rm2 ?zuea ?zueb; (case zuea => with_reducible assumption); (case zueb => rfl)) | (refine' rm3 ?zufa ?zufb; (case zufa => with_reducible assumption); (case zufb => rfl)) | (refine' rm4 ?zuga ?zugb; (case zuga => with_reducible assumption); (case zugb => rfl))))
  k_with "mine mem" => (first | with_reducible exact mem_h | with_reducible assumption | (with_reducible refine List.mem_append_left _ ?_; k_extra "mine mem") | (with_reducible refine List.mem_append_right _ ?_; k_extra "mine mem") | (with_reducible refine mem_t ?_; k_extra "mine mem"))
  k_with "mine sub" => (first | exact all_nil | (refine all_cons ?_ ?_; k_extra "mine mem"; k_extra "mine sub") | (refine all_app ?_ ?_; k_extra "mine sub"; k_extra "mine sub") | (intro pq hpq; k_extra "mine mem"))
  k_with "mine room" => (first | with_reducible assumption | (refine' rm1 ?zraa ?zrab; (case zraa => with_reducible assumption); (case zrab => rfl)) | (refine' rm2 ?zrba ?zrbb; (case zrba => with_reducible assumption); (case zrbb => rfl)) | (refine' rm3 ?zrca ?zrcb; (case zrca => with_reducible assumption); (case zrcb => rfl)) | (refine' rm0 ?zrd; (case zrd => with_reducible assumption)) | (refine' leL ?zrea ?zreb; (case zrea => with_reducible assumption); (case zreb => rfl)) | (refine Ne.symm ?zrf; (case zrf => with_reducible assumption)) | (refine Nat.ne_of_lt ?zrg; (case zrg => with_reducible assumption)) | (refine Nat.ne_of_gt ?zrh; (case zrh => with_reducible assumption)) | ((try dsimp only [Ar, Around.deeper, Around.in1]); first | (refine' rm1 ?zria ?zrib; (case zria => with_reducible assumption); (case zrib => rfl)) | (refine' rm2 ?zrja ?zrjb; (case zrja => with_reducible assumption); (case zrjb => rfl)) | (refine' rm3 ?zrka ?zrkb; (case zrka => with_reducible assumption); (case zrkb => rfl)) | (refine' rm4 ?zrla ?zrlb; (case zrla => with_reducible assumption); (case zrlb => rfl)) | omega))
  k_with "mine ne" => (first | with_reducible assumption | (refine Ne.symm ?zna; (case zna => with_reducible assumption)) | (refine Nat.ne_of_lt ?znb; (case znb => with_reducible assumption)) | (refine Nat.ne_of_gt ?znc; (case znc => with_reducible assumption)))
  k_with "mine enter" => (first
  | (refine' enterG ?zqkG ?zqk3 ?zqk5 ?zqk6 ?zqk7 ?zqk8 ?zqk9 ?zqkB ?_ ?zqc2 ?zqc3 ?zqc4 ?zqc5; (case zqkG => k_asm); (case zqk3 => k_asm); (case zqk5 => k_asm); (case zqk6 => k_is); (case zqk7 => k_is); (case zqk8 => ktr_room); (case zqk9 => exact BindsTo.of_eq rfl); (case zqc5 => decide); (case zqkB => exact locs rfl); (case zqc2 => exact rfl); (case zqc3 => exact rfl); (case zqc4 => exact rfl); k_whole; intro Lq' hq' Fq' Nq' l1q; (try k_lt l1q); (try dsimp only); (try k_fold))
  | (refine' enterC ?zqkG ?zqk3 ?zqk5 ?zqk6 ?zqk7 ?zqk8 ?zqk9 ?zqkB ?zqkD ?_ ?zqc2 ?zqc3 ?zqc4; (case zqkG => k_asm); (case zqk3 => k_asm); (case zqk5 => k_asm); (case zqk6 => k_is); (case zqk7 => k_is); (case zqk8 => ktr_room); (case zqk9 => exact BindsTo.of_eq rfl); (case zqkB => exact rfl); (case zqkD => decide +kernel); (case zqc2 => exact rfl); (case zqc3 => exact rfl); (case zqc4 => exact rfl); k_whole; intro Lq' hq' tkq' cellsq' Fq' Nq' Yq' l1q; (try k_lt l1q); k_cells Yq'; (try simp only [List.cons_append, List.nil_append] at Nq'); (try dsimp only); (try k_fold)))
  k_with "mine k_steps" => ((try k_unmd); (try k_fold); repeat' (first | (k_unfold; (try dsimp only)) | ((fail_if_success (k_extra "mine stop")); (fail_if_success (with_reducible show wpAny _ _ (exec (Stmt.For _ _ _ _ _) _) _ _ _)); (fail_if_success (with_reducible show wpAny _ _ (exec (Stmt.While _ _ _ _) _) _ _ _)); (fail_if_success (with_reducible show wpAny _ _ (exec (Stmt.Try _ _ _ _ _) _) _ _ _)); (fail_if_success (with_reducible show wpAny _ _ (eval (PySem.Expr.ListComp _ _ _ _) _) _ _ _)); (fail_if_success (with_reducible show wpAny _ _ (exec (Stmt.Assign _ (PySem.Expr.ListComp _ _ _ _) _) _) _ _ _)); (first | walk1 | (dsimp only; walk1) | (leave1; walk_say "STEP leave1"; try dsimp only))) | fail "no step"))
  k_with "execs cons" => ((try k_made); (try k_gentoks); (with_reducible refine wpAny_execs_cons ?_); (try dsimp only); try k_fold)
  k_with "storeName" => (k_dflt (refine' storeX_L ?z1 ?z2 ?_ ?z3 ?z4; (case z1 => k_asm); (case z2 => k_asm); (case z3 => exact rfl); (case z4 => exact rfl); k_whole); intro hq' Fq' Nq'; (try dsimp only at Fq'); (try k_sweep))
  k_with "eval Name" => (name_kind "local"; k_dflt (refine' nameX_L ?z5 ?z6 ?_ ?z7 ?z8; (case z5 => with_reducible assumption); (case z6 => exact Eq.refl (some _)); (case z7 => exact rfl); (case z8 => exact rfl); k_whole))
  k_with "eval Name" => ((with_reducible show wpAny _ _ (eval (PySem.Expr.Name _ _) (compEnvC _ _ _ _)) _ _ _); k_dflt (first
  | (refine' nm_L ?zqF ?zqv ?_ ?zqa ?zqb ?zqc; (case zqa => rfl); (case zqb => rfl); (case zqc => decide); (case zqF => k_asm); (case zqv => first | with_reducible assumption | assumption | rfl); k_whole)
  | (refine' nm_C ?zqF ?zqhc ?zqho ?zqhd ?_ ?zqa ?zqb ?zqc; (case zqa => rfl); (case zqb => rfl); (case zqc => decide); (case zqF => k_asm); (case zqhc => rfl); (case zqho => first | with_reducible assumption | assumption); (case zqhd => first | with_reducible assumption | assumption); k_whole)
  | (refine' nm_K ?zqF ?zqX ?zqT ?zqe ?_ ?zqg ?zqa ?zqb ?zqc; (case zqa => rfl); (case zqb => rfl); (case zqc => decide); (case zqg => rfl); (case zqF => k_asm); (case zqX => k_asm); (case zqT => k_asm); (case zqe => k_is); k_whole)
  | (refine' nm_B ?zqF ?zqX ?zqT ?zqe ?zqv ?zqn ?_ ?zqg ?zqbn ?zqa ?zqb ?zqc; (case zqa => rfl); (case zqb => rfl); (case zqc => decide); (case zqg => rfl); (case zqbn => rfl); (case zqF => k_asm); (case zqX => k_asm); (case zqT => k_asm); (case zqe => k_is); (case zqv => boot_fast); (case zqn => decide); k_whole)))
  k_with "callWith ref" => (k_here; k_dflt (first
  | ((with_reducible show wpAny _ _ (callWith _ (Value.ref _) _ (backTo _ (starEach (_ :: _) _)) []) _ _ _); first | (refine' callWith_M ?z9 ?z10 ?z11 ?z12 ?_; (case z9 => with_reducible assumption); (case z10 => with_reducible assumption); (case z11 => k_mem); (case z12 => k_is); k_whole) | (refine' callWith_K ?z13 ?z14 ?_; (case z13 => with_reducible assumption); (case z14 => k_is); k_whole))
  | ((with_reducible show wpAny _ _ (callWith _ (Value.ref _) _ (backTo _ (starEach [] _)) []) _ _ _); first | (refine' callWith_M0 ?z15 ?z16 ?_; (case z15 => k_meth); (case z16 => k_is); k_whole; try dsimp only [List.nil_append, List.cons_append]) | (refine' callWith_K0 ?z17 ?z18 ?_; (case z17 => (refine' Frag.In.keeps ?zia (Fr.keep ?zib); (case zib => with_reducible assumption); (case zia => with_reducible assumption))); (case z18 => k_is); k_whole))))
  k_with "subscriptTail" => (k_here; (with_reducible show wpAny _ _ (subscriptTail _ _ (Value.ref _) (Value.int _ _)) _ _ _); (with_unfolding_all refine' item_litK ?z19 ?z20 ?z21 ?z22 ?_ ?z23; (case z19 => is_list); (case z20 => decide); (case z21 => decide); (case z22 => rfl); (case z23 => with_unfolding_all rfl)); k_whole)
  k_with "subscriptTail Name Constant ref int" => (k_here; (with_reducible show wpAny _ _ (subscriptTail _ _ (Value.ref _) (Value.int _ _)) _ _ _); (with_unfolding_all refine' item_litK ?z24 ?z25 ?z26 ?z27 ?_ ?z28; (case z24 => is_list); (case z25 => decide); (case z26 => decide); (case z27 => rfl); (case z28 => with_unfolding_all rfl)); k_whole)
  k_with "eval Name" => (k_here; name_kind "globalImplicit"; k_dflt (first
  | (refine' nameX_K ?zqgF ?zqgX ?zqgT ?zqge ?_ ?zqga ?zqgb; (case zqgF => with_reducible assumption); (case zqgX => with_reducible assumption); (case zqgT => k_asm); (case zqga => rfl); (case zqgb => rfl); (case zqge => k_is); k_whole)
  | (refine' nameX_B ?zqgF ?zqgX ?zqgT ?zqge ?zqgv ?zqgn ?_ ?zqga ?zqgb; (case zqgF => with_reducible assumption); (case zqgX => with_reducible assumption); (case zqgT => k_asm); (case zqga => rfl); (case zqgb => rfl); (case zqge => k_is); (case zqgv => boot_fast); (case zqgn => decide); k_whole)))
  trivial
/-- the try's body ends so -/
inductive BP (g : Heap) (L : Addr) (J' : (PySem.Str → Option Value) → List (Addr × Obj) → Prop) (s : Shared) (f : Flow) (s' : Shared) : Prop
  | mk (hf : f = .next) (h' : Heap) (tk : Nat) (m2 : PySem.Str → Option Value) (news2 : List (Addr × Obj)) (hs : s' = { s with heap := h', toks := tk }) (F : Fr g L h' m2) (N : News g L h' news2) (j : J' m2 news2)
theorem rows_B13_0 : True := by
  k_with "subscriptTail Name Slice ref ref" => (k_here; (with_reducible show wpAny _ _ (subscriptTail _ (PySem.Expr.Slice (some _) none none _) (Value.ref _) (Value.ref _)) _ _ _); k_dflt (refine' kms_slice_lit ?z91 ?z92 ?z93 ?z94 ?z95 ?z96 ?_ ?z97 ?z98 ?z99; (case z91 => k_asm); (case z92 => k_asm); (case z93 => exact Heap.IsList.at (by with_reducible assumption) (fun o e => Fr.keep (by with_reducible assumption) _ _ e)); (case z94 => kmk_part); (case z95 => kmk_part); (case z96 => exact pick_from _ _); (case z97 => with_unfolding_all rfl); (case z98 => kmk_pure); (case z99 => (rw [sizeLine_eq]; omega))); intro Dq' hq' Fq' Nq' l1q; (try k_lt l1q); (try k_sweep))
  trivial
theorem ms_i {a b i i' j n : Nat} (h : (a - i) + (b - j) < n + 1) (hi : i < a) (h1 : i + 1 ≤ i') : (a - i') + (b - j) < n := by omega
theorem ms_j {a b i j j' n : Nat} (h : (a - i) + (b - j) < n + 1) (hj : j < b) (h1 : j + 1 ≤ j') : (a - i) + (b - j') < n := by omega
theorem ms_ij {a b i i' j j' n : Nat} (h : (a - i) + (b - j) < n + 1) (hi : i < a) (h1 : i + 1 ≤ i') (h2 : j + 1 ≤ j') : (a - i') + (b - j') < n := by omega
theorem rows_B13_m : True := by
  k_with "mine stop" => (first | with_reducible show wpAny _ _ (call (Value.builtin "list.extend") _) _ _ _)
  k_with "mine meas" => (first | exact ms_i (by with_reducible assumption) (by with_reducible assumption) (by with_reducible assumption) | exact ms_j (by with_reducible assumption) (by with_reducible assumption) (by with_reducible assumption) | exact ms_ij (by with_reducible assumption) (by with_reducible assumption) (by with_reducible assumption) (by with_reducible assumption) | omega)
  trivial
section
variable {w : World} {p : Program} {loose : List PySem.Str} {mean : ExcName → Option Value} {mg mb : PySem.Str → Option Value}
   {dp un : Nat} {fr : Option (List Env)} {gd : Option (List Code)} {s : Shared} {Q : Value → Shared → Prop} {E : Value → Shared → Prop}
theorem fill_B13 (w : World) (h : Heap) (X : (hd.heap_1 w.params).In h) : PySem.Challenge.rw_in0215_01.row.prog = PP ∧ (hd.heap_1 w.params).In h := by
  k_fill
  exact ⟨rfl, X⟩
theorem diff_call {g : Heap} {l : List Env} {frs : List (Addr × Obj)} {a b : Addr} {ia ib : Array Value} {xs zs : List PySem.Str} (G : Gh g s.heap frs) (Fs : TI.Frs l frs) (ha : g.IsList a ia) (hb : g.IsList b ib) (hA : StrsAre ia.toList xs) (hB : StrsAre ib.toList zs) (hla : xs.length ≤ 64) (hlb : zs.length ≤ 64)
   (X : (hd.heap_1 w.params).In g) (T : Top p loose mean mg mb g) (hdp : dp + 2 < recursionLimit) (hun : un + 200 < cLine)
   (hret : ∀ h' tk' frs' T D1 D2 k1 k2 ya yb, TI.SameUp frs frs' → Gh g h' ((T, tupO D1 D2) :: (D1, W.listOf ya k1) :: (D2, W.listOf yb k2) :: frs') → StrsAre ya.toList (diffL (xs.length + zs.length + 1) xs zs).1 → StrsAre yb.toList (diffL (xs.length + zs.length + 1) xs zs).2 → (@Ne Nat D1 D2) → (@Ne Nat T D1) → (@Ne Nat T D2) → (∀ q ∈ frs', @Ne Nat q.1 D1 ∧ @Ne Nat q.1 D2 ∧ @Ne Nat q.1 T) → Q (.ref T) {s with heap := h', toks := tk'}) :
   wpAny (model PP w) (Ar dp un (some l) gd) (call (.ref 104) [.ref a, .ref b]) Q E s := by
  have hia : ia.size ≤ 64 := by have := strs_len hA; rw [Array.length_toList] at this; omega
  have hib : ib.size ≤ 64 := by have := strs_len hB; rw [Array.length_toList] at this; omega
  refine wpAny_call ?_
  k_dflt ktr_enter
  k_steps
  (with_reducible rename Fr _ _ _ _ => kF)
  (with_reducible rename News _ _ _ _ => kN)
  obtain ⟨L, eL⟩ := getL kF
  subst eL
  obtain ⟨D2, D1, e2, e1⟩ := getN kN
  subst e2
  subst e1
  rename @LT.lt Nat _ _ _ ∧ _ => l8
  have hlt12 : @LT.lt Nat _ D1 D2 := l8.1
  have l7 : ∀ p ∈ frs, p.1 < D1 := by assumption
  have hD : ∀ q ∈ frs, @Ne Nat D1 q.1 ∧ @Ne Nat D2 q.1 := fun q hq => ⟨Nat.ne_of_gt (l7 q hq), Nat.ne_of_gt (allLt_ne l8.2 q hq)⟩
  generalize hR : diffL (xs.length + zs.length + 1) xs zs = R
  refine While_inv2 (J := JO g a b D1 D2 frs xs zs R) (n₀ := xs.length + zs.length + 1) kF kN ⟨0, 0, [], [], #[], 0, #[], 0, ⟨rfl, rfl, ⟨_, rfl⟩, ⟨_, rfl⟩, rfl, rfl⟩, .nil, .nil, rfl, Nat.zero_le _, Nat.zero_le _, by k_extra "mine meas", by simp [hR], by simp [hR], by simp, by simp⟩ ?_
  clear kF kN
  rintro n m₁ news₁ h₁ tk₁ F1 N1 ⟨i, j, ms, us, ya, k1, yb, k2, hM, hms, hus, rfl, hi, hj, hn, hr1, hr2, hl1, hl2⟩
  obtain ⟨m0, t3, t4, hm0⟩ := ms_fun hM
  clear hM
  subst hm0
  k_steps
  by_cases h0 : n = 0
  · omega
  refine wpAny_Try_except (wpAny_mono (Q := BP g L (JO g a b D1 D2 frs xs zs R (n - 1)) s) (E := Bad (Either (fun _ => True) g L l) frs a b D1 D2 (InvO xs zs R) s) ?_ (fun f s' hf => ?_) ?_)
  · by_cases hi2 : i < xs.length
    · by_cases hj2 : j < zs.length
      · obtain ⟨n', rfl⟩ : ∃ n', n = n' + 1 := ⟨n - 1, by omega⟩
        have hx := drop_at hi2
        have hz := drop_at hj2
        rw [hx, hz] at hr1 hr2
        rw [Nat.add_sub_cancel]
        k_steps
        · (with_reducible rename Fr _ _ _ _ => kF)
          (with_reducible rename News _ _ _ _ => kN)
          have hl : ltS (xs.getD i Str.empty) (zs.getD j Str.empty) = true := decide_eq_true (by assumption)
          obtain ⟨g1, g2⟩ := diff_lt hl hr1 hr2
          refine loopI (x := xs.getD i Str.empty) (y := zs.getD j Str.empty) (a := a) (b := b) (D1 := D1) (D2 := D2) (j := j) (i0 := i + 1) (lo := i + 1) (.inl rfl) ha ‹StrsAre ia.toList xs› hla X T kF kN ⟨rfl, rfl, ⟨_, rfl⟩, ⟨_, rfl⟩, rfl, rfl⟩ ⟨_, rfl⟩ ⟨_, rfl⟩ (by ktr_room) (Nat.le_refl _) rfl ?_ ?_ (bad_own rfl rfl hD)
          · intro h' tk' m' i' F9 N9 M9 he9 ha9 hi9 hlo9 hr9
            try dsimp only
            repeat' (refine wpAny_execs_nil ?_; try dsimp only)
            refine ⟨rfl, h', tk', m', _, rfl, F9, N9, i', j, ms ++ [xs.getD i Str.empty], us, _, _, _, _, M9, ?_, ‹StrsAre yb.toList us›, rfl, hi9, hj, by k_extra "mine meas", ?_, ?_, by simp; omega, hl2⟩
            · rw [Array.toList_push]; exact strs_app ‹StrsAre ya.toList ms› (.cons _ _ .nil)
            · rw [hr9, hz]; exact g1
            · rw [hr9, hz]; exact g2
          · intro h' tk' m' i' ea oe ctx F9 N9 o9 hc9 ap9 M9 he9 ha9 hi9 hlo9 hd9 hr9
            rw [hr9] at g1 g2
            have z := fin_nil (by ktr_room) g1 g2
            rw [← hz] at z
            exact ⟨ea, h', tk', m', i', j, ms ++ [xs.getD i Str.empty], us, _, _, yb, k2, frs, 0, rfl, rfl, M9, (by rw [Array.toList_push]; exact strs_app ‹StrsAre ya.toList ms› (.cons _ _ .nil)), ‹StrsAre yb.toList us›, TI.SameUp.refl _, ⟨hi9, hj, by rw [hd9]; exact z.1, z.2, by simp; omega, hl2⟩, .inl ⟨oe, ctx, trivial, o9, F9, N9, Fs, ap9⟩⟩
        · (with_reducible rename Fr _ _ _ _ => kF)
          (with_reducible rename News _ _ _ _ => kN)
          have hl : ltS (xs.getD i Str.empty) (zs.getD j Str.empty) = false := decide_eq_false (by assumption)
          have hg : ltS (zs.getD j Str.empty) (xs.getD i Str.empty) = true := decide_eq_true (by assumption)
          obtain ⟨g1, g2⟩ := diff_gt hl hg hr1 hr2
          refine loopJ (x := xs.getD i Str.empty) (y := zs.getD j Str.empty) (a := a) (b := b) (D1 := D1) (D2 := D2) (i := i) (j0 := j + 1) (lo := j + 1) (.inl rfl) hb ‹StrsAre ib.toList zs› hlb X T kF kN ⟨rfl, rfl, ⟨_, rfl⟩, ⟨_, rfl⟩, rfl, rfl⟩ ⟨_, rfl⟩ ⟨_, rfl⟩ (by ktr_room) (Nat.le_refl _) rfl ?_ ?_ (bad_own rfl rfl hD)
          · intro h' tk' m' j' F9 N9 M9 he9 ha9 hj9 hlo9 hr9
            try dsimp only
            repeat' (refine wpAny_execs_nil ?_; try dsimp only)
            refine ⟨rfl, h', tk', m', _, rfl, F9, N9, i, j', ms, us ++ [zs.getD j Str.empty], _, _, _, _, M9, ‹StrsAre ya.toList ms›, ?_, rfl, hi, hj9, by k_extra "mine meas", ?_, ?_, hl1, by simp; omega⟩
            · rw [Array.toList_push]; exact strs_app ‹StrsAre yb.toList us› (.cons _ _ .nil)
            · rw [hr9, hx]; exact g1
            · rw [hr9, hx]; exact g2
          · intro h' tk' m' j' ea oe ctx F9 N9 o9 hc9 ap9 M9 he9 ha9 hj9 hlo9 hd9 hr9
            rw [hr9] at g1 g2
            have z := fin_nil2 (by ktr_room) g1 g2
            rw [← hx] at z
            exact ⟨ea, h', tk', m', i, j', ms, us ++ [zs.getD j Str.empty], ya, k1, _, _, frs, 0, rfl, rfl, M9, ‹StrsAre ya.toList ms›, (by rw [Array.toList_push]; exact strs_app ‹StrsAre yb.toList us› (.cons _ _ .nil)), TI.SameUp.refl _, ⟨hi, hj9, z.1, by rw [hd9]; exact z.2, hl1, by simp; omega⟩, .inl ⟨oe, ctx, trivial, o9, F9, N9, Fs, ap9⟩⟩
        · (with_reducible rename Fr _ _ _ _ => kF)
          (with_reducible rename News _ _ _ _ => kN)
          have hl : ltS (xs.getD i Str.empty) (zs.getD j Str.empty) = false := decide_eq_false (by assumption)
          have hg : ltS (zs.getD j Str.empty) (xs.getD i Str.empty) = false := decide_eq_false (by assumption)
          obtain ⟨g1, g2⟩ := diff_eq hl hg hr1 hr2
          generalize hRx : (xs.drop (i + 1)).dropWhile (· == xs.getD i Str.empty) = Rx at g1 g2
          generalize hRz : (zs.drop (j + 1)).dropWhile (· == zs.getD j Str.empty) = Rz at g1 g2
          refine wpAny_Try_finally (wpAny_mono (Q := BP g L (fun m news => ∃ i', MS m a b i' j D1 D2 ∧ (∃ t, m "e" = some (.str (xs.getD i Str.empty) t)) ∧ (∃ t, m "a" = some (.str (zs.getD j Str.empty) t)) ∧ news = (D2, W.listOf yb k2) :: (D1, W.listOf ya k1) :: frs ∧ i' ≤ xs.length ∧ i + 1 ≤ i' ∧ xs.drop i' = Rx) s) (E := Bad (Either (fun c => c = .none) g L l) frs a b D1 D2 (fun m i' j' ms' us' => j' = j ∧ ms' = ms ∧ us' = us ∧ i' ≤ xs.length ∧ i + 1 ≤ i' ∧ xs.drop i' = [] ∧ Rx = [] ∧ (∃ t, m "e" = some (.str (xs.getD i Str.empty) t)) ∧ (∃ t, m "a" = some (.str (zs.getD j Str.empty) t))) s) ?_ (fun f s' hf => ?_) (fun e s' B => ?_))
          · refine wpAny_execs_cons ?_
            refine loopI (x := xs.getD i Str.empty) (y := zs.getD j Str.empty) (a := a) (b := b) (D1 := D1) (D2 := D2) (j := j) (i0 := i + 1) (lo := i + 1) (.inl rfl) ha ‹StrsAre ia.toList xs› hla X T kF kN ⟨rfl, rfl, ⟨_, rfl⟩, ⟨_, rfl⟩, rfl, rfl⟩ ⟨_, rfl⟩ ⟨_, rfl⟩ (by ktr_room) (Nat.le_refl _) hRx ?_ ?_ (bad_own rfl rfl hD)
            · intro h' tk' m' i' F9 N9 M9 he9 ha9 hi9 hlo9 hr9
              try dsimp only
              repeat' (refine wpAny_execs_nil ?_; try dsimp only)
              exact ⟨rfl, h', tk', m', _, rfl, F9, N9, i', M9, he9, ha9, rfl, hi9, hlo9, hr9⟩
            · intro h' tk' m' i' ea oe ctx F9 N9 o9 hc9 ap9 M9 he9 ha9 hi9 hlo9 hd9 hr9
              exact ⟨ea, h', tk', m', i', j, ms, us, _, _, yb, k2, frs, 0, rfl, rfl, M9, ‹StrsAre ya.toList ms›, ‹StrsAre yb.toList us›, TI.SameUp.refl _, ⟨rfl, rfl, rfl, hi9, hlo9, hd9, hr9, he9, ha9⟩, .inl ⟨oe, ctx, hc9 rfl, o9, F9, N9, Fs, ap9⟩⟩
          · obtain ⟨rfl, h', tk', m2, news2, rfl, F2, N2, i2, M2, he2, ha2, rfl, hi2, hlo2, hr2'⟩ := hf
            try dsimp only
            refine wpAny_execs_nil ?_
            clear kF kN
            refine wpAny_mono (Q := BP g L (JO g a b D1 D2 frs xs zs R n') s) (E := Bad (Either (fun _ => True) g L l) frs a b D1 D2 (InvO xs zs R) s) ?_ (fun f s' hf => ?_) (bad_pass rfl rfl hD)
            · obtain ⟨m0, t3, t4, te, ta, hm0⟩ := ms_fun8 M2 he2 ha2
              clear M2 he2 ha2
              subst hm0
              k_steps
              (with_reducible rename Fr _ _ _ _ => kF)
              (with_reducible rename News _ _ _ _ => kN)
              refine loopJ (x := xs.getD i Str.empty) (y := zs.getD j Str.empty) (a := a) (b := b) (D1 := D1) (D2 := D2) (i := i2) (j0 := j + 1) (lo := j + 1) (.inl rfl) hb ‹StrsAre ib.toList zs› hlb X T kF kN ⟨rfl, rfl, ⟨_, rfl⟩, ⟨_, rfl⟩, rfl, rfl⟩ ⟨_, rfl⟩ ⟨_, rfl⟩ (by ktr_room) (Nat.le_refl _) hRz ?_ ?_ (bad_own rfl rfl hD)
              · intro h9 tk9 m9 j9 F9 N9 M9 he9 ha9 hj9 hlo9 hr9
                try dsimp only
                repeat' (refine wpAny_execs_nil ?_; try dsimp only)
                exact ⟨rfl, h9, tk9, m9, _, rfl, F9, N9, i2, j9, ms, us, _, _, _, _, M9, ‹StrsAre ya.toList ms›, ‹StrsAre yb.toList us›, rfl, hi2, hj9, by k_extra "mine meas", by rw [hr2', hr9]; exact g1, by rw [hr2', hr9]; exact g2, by k_extra "mine meas", by omega⟩
              · intro h9 tk9 m9 j9 ea oe ctx F9 N9 o9 hc9 ap9 M9 he9 ha9 hj9 hlo9 hd9 hr9
                rw [hr9] at g1 g2
                have z := fin_nil2 (by ktr_room) g1 g2
                exact ⟨ea, h9, tk9, m9, i2, j9, ms, us, ya, k1, yb, k2, frs, 0, rfl, rfl, M9, ‹StrsAre ya.toList ms›, ‹StrsAre yb.toList us›, TI.SameUp.refl _, ⟨hi2, hj9, by rw [hr2']; exact z.1, by rw [hd9]; exact z.2, by k_extra "mine meas", by omega⟩, .inl ⟨oe, ctx, trivial, o9, F9, N9, Fs, ap9⟩⟩
            · obtain ⟨rfl, h9, tk9, m9, news9, rfl, F9, N9, J9⟩ := hf
              try dsimp only
              repeat' (refine wpAny_execs_nil ?_; try dsimp only)
              exact ⟨rfl, h9, tk9, m9, news9, rfl, F9, N9, J9⟩
          · clear kF kN
            refine bad_note rfl rfl hD B fun s2 B2 => ?_
            refine ⟨by obtain ⟨ea, _, _, _, _, _, _, _, _, _, _, _, _, _, rfl, _⟩ := B2; exact ref_ne_byPass ea, ?_⟩
            refine bad_note rfl rfl hD (noted_either B2) fun s3 B3 => ?_
            refine bad_set none B3 fun s4 B4 => ?_
            obtain ⟨ea, h', tk', m', i2, j2, ms2, us2, ya2, k12, yb2, k22, frs2, z, rfl, rfl, M2, hms2, hus2, SU2, ⟨rfl, rfl, rfl, hi2, hlo2, hd2, hr2, he2, ha2⟩, oe, ctx, tb, ot, rfl, o1, o2, F2, N2, Fs2, ap, ap2⟩ := B4
            subst hr2
            refine wpAny_mono (Q := BP g L (fun m news => ∃ j', MS m a b i2 j' D1 D2 ∧ news = (ea, oe) :: (tb, ot) :: ([(D2, W.listOf yb2 k22), (D1, W.listOf ya2 k12)] ++ frs2) ∧ j' ≤ zs.length ∧ j2 + 1 ≤ j' ∧ zs.drop j' = Rz) s) (E := Bad (Either (fun _ => True) g L l) frs a b D1 D2 (InvO xs zs R) s) ?_ (fun f s' hf => ?_) (bad_pass rfl rfl hD)
            · obtain ⟨m0, t3, t4, te, ta, hm0⟩ := ms_fun8 M2 he2 ha2
              clear M2 he2 ha2
              subst hm0
              k_steps
              (with_reducible rename Fr _ _ _ _ => kF)
              (with_reducible rename News _ _ _ _ => kN)
              refine loopJ (x := xs.getD i Str.empty) (y := zs.getD j2 Str.empty) (a := a) (b := b) (D1 := D1) (D2 := D2) (i := i2) (j0 := j2 + 1) (lo := j2 + 1) (.inr ⟨ea, oe, .ref tb, rfl, .head _, o1⟩) hb ‹StrsAre ib.toList zs› hlb X T kF kN ⟨rfl, rfl, ⟨_, rfl⟩, ⟨_, rfl⟩, rfl, rfl⟩ ⟨_, rfl⟩ ⟨_, rfl⟩ (by ktr_room) (Nat.le_refl _) hRz ?_ ?_ (bad_own rfl rfl hD)
              · intro h9 tk9 m9 j9 F9 N9 M9 he9 ha9 hj9 hlo9 hr9
                try dsimp only
                repeat' (refine wpAny_execs_nil ?_; try dsimp only)
                exact ⟨rfl, h9, tk9, m9, _, rfl, F9, N9, j9, M9, rfl, hj9, hlo9, hr9⟩
              · intro h9 tk9 m9 j9 e9 oe9 ctx F9 N9 o9 hc9 ap9 M9 he9 ha9 hj9 hlo9 hd9 hr9
                rw [hr9] at g1 g2
                have z := fin_nil (by ktr_room) g1 g2
                exact ⟨e9, h9, tk9, m9, i2, j9, ms2, us2, ya2, k12, yb2, k22, frs2, 0, rfl, rfl, M9, hms2, hus2, SU2, ⟨hi2, hj9, by rw [hd2]; exact z.1, by rw [hd9]; exact z.2, by k_extra "mine meas", by omega⟩, .inl ⟨oe9, ctx, trivial, o9, F9, (fun q hq => N9 q (by
                  rcases List.mem_cons.mp hq with rfl | hq
                  · exact .head _
                  · exact .tail _ (.tail _ (.tail _ hq)))), Fs2, fun q hq => ap9 q (.tail _ (.tail _ hq))⟩⟩
            · obtain ⟨rfl, h9, tk9, m9, news9, rfl, F9, N9, j9, M9, rfl, hj9, hlo9, hr9⟩ := hf
              try dsimp only
              have z := fin_nil (by ktr_room) g1 g2
              refine pass_on rfl F9 N9 o1 o2 ap fun h5 ot5 F5 N5 o5 => ?_
              exact ⟨ea, h5, tk9, m9, i2, j9, ms2, us2, ya2, k12, yb2, k22, frs2, 0, rfl, rfl, M9, hms2, hus2, SU2, ⟨hi2, hj9, by rw [hd2]; exact z.1, by rw [hr9]; exact z.2, by k_extra "mine meas", by omega⟩, .inr ⟨oe, .none, tb, ot5, trivial, o1, o5, F5, N5, Fs2, ap, ap2⟩⟩
      · have hje : j = zs.length := by omega
        k_with "mine stop" => (first | with_reducible show wpAny _ _ (subscriptTail _ _ (Value.ref b) (Value.int _ _)) _ _ _)
        k_steps
        (with_reducible rename Fr _ _ _ _ => kF)
        (with_reducible rename News _ _ _ _ => kN)
        refine item_out0 rfl kF kN (hb.at fun o e => kF.keep _ _ e) (by rw [← Array.length_toList, strs_len ‹StrsAre ib.toList zs›]; omega) (by ktr_room) (fun h9 tk9 e9 oe9 F9 N9 o9 ap9 => ?_)
        exact ⟨e9, h9, tk9, _, i, j, ms, us, ya, k1, yb, k2, frs, 0, rfl, rfl, ⟨rfl, rfl, ⟨_, rfl⟩, ⟨_, rfl⟩, rfl, rfl⟩, ‹StrsAre ya.toList ms›, ‹StrsAre yb.toList us›, TI.SameUp.refl _, (have z := inv_r (List.drop_of_length_le (by ktr_room)) (by ktr_room) hr1 hr2; ⟨hi, hj, z.1, z.2, hl1, hl2⟩), .inl ⟨oe9, .none, trivial, o9, F9, N9, Fs, ap9⟩⟩
    · have hie : i = xs.length := by omega
      k_with "mine stop" => (first | with_reducible show wpAny _ _ (subscriptTail _ _ (Value.ref a) (Value.int _ _)) _ _ _)
      (with_reducible rename Fr _ _ _ _ => kF)
      (with_reducible rename News _ _ _ _ => kN)
      k_steps
      refine item_out0 rfl kF kN (ha.at fun o e => kF.keep _ _ e) (by rw [← Array.length_toList, strs_len ‹StrsAre ia.toList xs›]; omega) (by ktr_room) (fun h9 tk9 e9 oe9 F9 N9 o9 ap9 => ?_)
      exact ⟨e9, h9, tk9, _, i, j, ms, us, ya, k1, yb, k2, frs, 0, rfl, rfl, ⟨rfl, rfl, ⟨_, rfl⟩, ⟨_, rfl⟩, rfl, rfl⟩, ‹StrsAre ya.toList ms›, ‹StrsAre yb.toList us›, TI.SameUp.refl _, (have z := inv_l (List.drop_of_length_le (by ktr_room)) (by ktr_room) hr1 hr2; ⟨hi, hj, z.1, z.2, hl1, hl2⟩), .inl ⟨oe9, .none, trivial, o9, F9, N9, Fs, ap9⟩⟩
  · obtain ⟨rfl, h', tk', m2, news2, rfl, F2, N2, J2⟩ := hf
    try dsimp only
    refine wpAny_execs_nil ?_
    try dsimp only
    refine wpAny_execs_nil ?_
    exact ⟨_, _, _, _, n - 1, rfl, F2, N2, by k_extra "mine meas", J2⟩
  · intro e s' B
    clear F1 N1 hms hus hi hj hn hr1 hr2 hl1 hl2
    refine bad_note rfl rfl hD B fun s'' B2 => ?_
    refine bad_set none B2 fun s3 B3 => ?_
    obtain ⟨ea, h', tk, m', i, j, ms, us, ya, k1, yb, k2, frs', z, rfl, rfl, hM, hms, hus, SU, ⟨hi, hj, hr1, hr2, hl1, hl2⟩, oe, ctx, tb, ot, hc, o1, o2, F1, N1, Fs1, ap, ap2⟩ := B3
    obtain ⟨m0, t3, t4, hm0⟩ := ms_fun hM
    clear hM
    subst hm0
    refine clause_hit F1 N1 o1 o2 ap ?_ ?_ ?_
    · intro Q' hq E'
      k_steps
      exact hq
    · intro h2 F2 N2
      clear F1 N1
      simp only [List.cons_append, List.nil_append] at N2
      have hD' : ∀ q ∈ frs', @Ne Nat q.1 D1 ∧ @Ne Nat q.1 D2 := fun q hq => by
        obtain ⟨x, hx, e⟩ := SU.fwd q hq
        rw [e]; exact ⟨(hD x hx).1.symm, (hD x hx).2.symm⟩
      have ny := strs_len hms
      have nz := strs_len hus
      have nx := strs_len ‹StrsAre ia.toList xs›
      have nw := strs_len ‹StrsAre ib.toList zs›
      rw [Array.length_toList] at ny nz nx nw
      k_steps
      (with_reducible rename Fr _ _ _ _ => kF)
      (with_reducible rename News _ _ _ _ => kN)
      rename @LT.lt Nat _ _ _ ∧ _ => l9
      have hne12 : @LT.lt Nat _ D2 _ := l9.1
      refine ext_any kF kN (by k_mem) (fun o' => Upd.tail (Nat.ne_of_gt l9.2.1) (Upd.tail (Nat.ne_of_gt hlt12) (Upd.head (fun q hq => (hD' q hq).1)))) (by simp; omega) (fun h3 n3 F3 N3 => ?_)
      clear kF kN l9
      k_steps
      (with_reducible rename Fr _ _ _ _ => kF)
      (with_reducible rename News _ _ _ _ => kN)
      rename @LT.lt Nat _ _ _ ∧ _ => l9
      refine ext_any kF kN (by k_mem) (fun o' => Upd.tail (Nat.ne_of_gt l9.2.1) (Upd.tail (Nat.ne_of_gt hne12) (Upd.head (fun q hq => ?_)))) (by simp; omega) (fun h4 n4 F4 N4 => ?_)
      · rcases List.mem_cons.mp hq with rfl | hq
        · exact Nat.ne_of_lt hlt12
        · exact (hD' q hq).2
      clear kF kN l9
      k_steps
      try dsimp only
      unfold WhileStep2
      try dsimp only
      k_steps
      (with_reducible rename Fr _ _ _ _ => kF)
      (with_reducible rename News _ _ _ _ => kN)
      rename @LT.lt Nat _ _ _ ∧ _ => l9
      have htt := l9.2.2.2.2
      refine hret _ _ frs' _ D1 D2 n3 n4 (ya.toList ++ (ia.toList.drop i).toArray.toList).toArray (yb.toList ++ (ib.toList.drop j).toArray.toList).toArray SU ⟨kF.keep, fun q hq => ?_, Nat.le_trans kF.above (Nat.le_of_lt kF.ns.lt)⟩ ?_ ?_ (Nat.ne_of_lt hlt12) (Nat.ne_of_gt l9.2.2.2.1) (Nat.ne_of_gt l9.2.2.1) (fun q hq => ⟨(hD' q hq).1, (hD' q hq).2, Nat.ne_of_lt (allLt_ne htt q hq)⟩)
      · have z := kN q (by
          rcases List.mem_cons.mp hq with rfl | hq
          · exact .head _
          refine .tail _ (.tail _ (.tail _ ?_))
          rcases List.mem_cons.mp hq with rfl | hq
          · exact .tail _ (.head _)
          rcases List.mem_cons.mp hq with rfl | hq
          · exact .head _
          · exact .tail _ (.tail _ hq))
        exact ⟨z.1, z.2.2⟩
      · rw [hR, ← hr1]; exact strs_app ‹StrsAre ya.toList ms› (strs_drop _ ‹StrsAre ia.toList xs›)
      · rw [hR, ← hr2]; exact strs_app ‹StrsAre yb.toList us› (strs_drop _ ‹StrsAre ib.toList zs›)
    · passes_own
end
end Mine

end F_B13
section F_B14
open PySem PySem.Spec PySem.W PySem.Calls PyProof.Rows
namespace Mine
/-- a ghost for a callee that may look at the caller's own frame -/
theorem Gh.subL {h₀ h : Heap} {L : Addr} {m : PySem.Str → Option Value} {news mu : List (Addr × Obj)} (F : Fr h₀ L h m) (N : News h₀ L h news) (hs : ∀ p ∈ mu, p ∈ news) :
    ∃ g oL, Gh g h ((L, oL) :: mu) ∧ Kept h₀ g ∧ (∀ p ∈ news, p.1 ∉ mu.map (·.1) → g.get? p.1 = some p.2) ∧ (∃ es ep, oL.data = .dict es ep) ∧
      ∀ h' sl mu', Gh g h' ((L, { oL with slots := sl }) :: mu') → (∀ p ∈ mu', @Ne Nat p.1 L) → Fr h₀ L h' m ∧ News h₀ L h' mu' ∧ ∀ rest, (∀ p ∈ rest, p ∈ news ∧ p.1 ∉ mu.map (·.1)) → News h₀ L h' (mu' ++ rest) := by
  obtain ⟨oL, es, ep, hL, hLd, hLk, hLf⟩ := F.ns
  have h₀L : h₀.get? L = none := Heap.get?_none_of_le F.above
  have nm : ∀ b o, h₀.get? b = some o → b ∉ ((L, oL) :: mu).map (·.1) := fun b o e q => by
    obtain ⟨p, hp, rfl⟩ := List.mem_map.mp q
    rcases List.mem_cons.mp hp with rfl | hp
    · rw [h₀L] at e; cases e
    · rw [(N p (hs p hp)).2.2] at e; cases e
  have st : Kept h₀ (hideAll h (((L, oL) :: mu).map (·.1))) := fun b o e => hideAll_get _ (F.keep b o e) (nm b o e)
  have sub : ∀ p ∈ news, p.1 ∉ mu.map (·.1) → (hideAll h (((L, oL) :: mu).map (·.1))).get? p.1 = some p.2 := fun p hp hn => hideAll_get _ (N p hp).1 (fun q => by
    rcases List.mem_cons.mp q with q | q
    · exact (N p hp).2.1 q
    · exact hn q)
  refine ⟨_, oL, Gh.hide (mu := (L, oL) :: mu) (fun p hp => ?_), st, sub, ⟨es, ep, hLd⟩, fun h' sl mu' G' hne => ?_⟩
  · rcases List.mem_cons.mp hp with rfl | hp
    · exact hL
    · exact (N p (hs p hp)).1
  have hL' := (G'.at_ _ (.head _)).1
  have F' : Fr h₀ L h' m := ⟨⟨_, es, ep, hL', hLd, hLk, hLf⟩, fun b o q => G'.up b o (st b o q), F.above⟩
  have gn : ∀ b, (hideAll h (((L, oL) :: mu).map (·.1))).get? b = none → h₀.get? b = none := fun b q => by
    cases z : h₀.get? b with
    | none => rfl
    | some o => rw [st _ _ z] at q; cases q
  have N' : News h₀ L h' mu' := fun p hp => by
    have z := G'.at_ p (.tail _ hp)
    exact ⟨z.1, hne p hp, gn _ z.2⟩
  refine ⟨F', N', fun rest hr p hp => ?_⟩
  rcases List.mem_append.mp hp with hp | hp
  · exact N' p hp
  · exact ⟨G'.up _ _ (sub p (hr p hp).1 (hr p hp).2), (N p (hr p hp).1).2⟩
end Mine

end F_B14
section F_B15
open PySem PySem.Spec PySem.W PySem.Calls PyProof.Rows Builtin Builtin.ObjectAttr
namespace Mine
noncomputable def boundAp (a : Addr) : Obj := { cls := .type "builtin_function_or_method", data := .fields #[.builtin "list.append", .ref a] }
theorem md_slot_get : Slot "method_descriptor" "__get__" "method_descriptor.__get__" :=
  .of (owner := "method_descriptor") (n := "__get__") (by rw [typeLookup_type, builtinLookup_eq_fast]; kernel_rfl) (by decide +kernel) (by decide +kernel) (by decide +kernel)
    (by first | exact .inl (by decide +kernel) | exact .inr (by decide +kernel)) (by rw [isSubtype_type]; kernel_rfl)
theorem md_entry_get : entryFor table "method_descriptor.__get__" = some Builtin.«method_descriptor.__get__» := entryFor_of_tree (by kernel_rfl)
theorem md_args_get (a b c : Value) : argsOk "method_descriptor.__get__" ⟨[a, b, c], []⟩ := by unfold argsOk; kernel_rfl
theorem md_type : typeOf (.builtin "list.append") = pure (.type "method_descriptor") := by show builtinType _ = _; rw [builtinType_eq_fast]; kernel_rfl
theorem md_no_set : typeLookup (.type "method_descriptor") "__set__" = pure none := by rw [typeLookup_type, builtinLookup_eq_fast]; kernel_rfl
theorem md_no_del : typeLookup (.type "method_descriptor") "__delete__" = pure none := by rw [typeLookup_type, builtinLookup_eq_fast]; kernel_rfl
theorem lk_append : typeLookup (.type "list") "append" = pure (some (.builtin "list.append")) := by rw [typeLookup_type, builtinLookup_eq_fast]; kernel_rfl
theorem la_owner : (kfb_private% "ownerAndName") "list.append" = ("list", "append") := by first | decide +kernel | kernel_rfl
theorem la_name : (kfb_private% "nameAndClass") (.builtin "list.append") = pure ((Str.ofString "append" : PySem.Str), Value.type "list") := by
  show (match (kfb_private% "ownerAndName") "list.append" with | (owner, name) => (pure ((name : PySem.Str), Value.type owner) : Sem (PySem.Str × Value))) = _
  rw [la_owner]
theorem la_check {M : Model} {A : Around} {E : Value → Shared → Prop} {s : Shared} {a : Addr} {o : Obj} {Q : Unit → Shared → Prop} (ho : s.heap.get? a = some o) (hc : o.cls = .type "list") (h : Q () s) :
    wpAny M A ((kfb_private% "checkInstance") (.builtin "list.append") (.ref a)) Q E s := by
  show wpAny M A ((kfb_private% "nameAndClass") (.builtin "list.append") >>= _) _ _ _
  rw [la_name]
  refine wpAny_bind (wpAny_pure ?_)
  try dsimp only
  refine wpAny_bind (wpAny_isInstance (b := true) ⟨_, ho, hc⟩ (by rw [isSubtype_type]; kernel_rfl) ?_)
  exact wpAny_pure h
section
variable {prog : Program} {w : World} {A : Around} {E : Value → Shared → Prop} {s : Shared} {a : Addr} {its : Array Value} {n : Nat}
theorem getAttr_append {Q : Value → Shared → Prop} (hl : s.heap.get? a = some (W.listOf its n))
    (h : Q (.ref s.heap.objs.size) { s with heap := s.heap.push (boundAp a), toks := s.toks + 1 }) : wpAny (model prog w) A (getAttr (.ref a) "append" true) Q E s := by
  unfold getAttr
  refine wpAny_bind (wpAny_mkText ?_)
  unfold getAttrBy
  refine wpAny_holding (wpAny_bind (wpAny_typeOf ⟨_, hl, rfl⟩ ?_))
  rw [list_getattribute]
  refine wpAny_bind (wpAny_pure ?_)
  show wpAny _ _ (getAttrByItsOwn (.ref a) (.str "append" s.toks) (.type "list") (.builtin "list.__getattribute__") true true) _ _ _
  unfold getAttrByItsOwn hookBefore callGetattribute boundAndCalled
  refine wpAny_bind (wpAny_pure (wpAny_bind ?_))
  refine wpAny_attempt (wpAny_holding ?_)
  rw [show (true && onTheHeap (.builtin "list.__getattribute__")) = false from rfl]
  show wpAny _ _ (bindSpecial (.builtin "list.__getattribute__") (.ref a) >>= _) _ _ _
  rw [F.slot_list_getattribute.bind]
  refine wpAny_bind (wpAny_pure ?_)
  refine wpAny_call_entry (s := { s with toks := s.toks + 1 }) F.slot_list_getattribute ⟨_, hl, rfl⟩ am_entry_list_getattribute ?_ (F.args_list_getattribute_2 _ _)
  show wpAny _ _ (Builtin.«object.__getattribute__» ⟨[.ref a, .str "append" s.toks], []⟩) _ _ _
  rw [oga_eq]
  refine wpAny_bind (wpAny_typeOf ⟨_, hl, rfl⟩ ?_)
  unfold find
  rw [lk_append]
  refine wpAny_bind (wpAny_bind (wpAny_pure ?_))
  refine wpAny_bind ?_
  unfold getOf
  refine wpAny_specialOf (T := "method_descriptor") md_type md_slot_get.lookup ?_
  refine wpAny_bind ?_
  unfold dataDescriptor?
  refine wpAny_bind ?_
  unfold takesStores
  refine wpAny_bind (wpAny_specialOf (T := "method_descriptor") md_type md_no_set ?_)
  rw [if_neg (by decide)]
  refine wpAny_bind (wpAny_specialOf (T := "method_descriptor") md_type md_no_del ?_)
  refine wpAny_pure ?_
  rw [if_neg (by decide)]
  refine wpAny_pure ?_
  try dsimp only
  unfold ownThenClass inOwnDict
  refine wpAny_bind (wpAny_bind ?_)
  unfold Builtin.ObjectAttr.ownDict
  refine wpAny_bind (wpAny_loadPart hl ?_)
  dsimp only [W.listOf]
  unfold instanceDict
  refine wpAny_bind (wpAny_loadPart hl ?_)
  dsimp only [W.listOf]
  rw [if_pos (by decide)]
  refine wpAny_pure ?_
  unfold inDict
  refine wpAny_pure ?_
  try dsimp only
  refine wpAny_bind ?_
  unfold copiedAttributeGuard
  rw [if_neg (by decide +kernel)]
  refine wpAny_pure ?_
  unfold byTheClass
  refine wpAny_bind (wpAny_rule (wpAny_pure ?_))
  try dsimp only
  unfold bindTo
  try dsimp only
  refine wpAny_bind (wpAny_holding ?_)
  refine wpAny_call_entry md_slot_get md_type md_entry_get ?_ (md_args_get _ _ _)
  unfold Builtin.«method_descriptor.__get__»
  refine wpAny_bind (wpAny_of_eq (a := (.builtin "list.append", some (.ref a), some (.type "list"))) (by first | rfl | kernel_rfl) ?_)
  try dsimp only
  have bb : ∀ {M : Model} {A' : Around} {E' : Value → Shared → Prop} {Q' : Fin → Shared → Prop} {s' : Shared}, s'.heap.get? a = some (W.listOf its n) → Q' (.done (.ret (.ref s'.heap.objs.size))) { s' with heap := s'.heap.push (boundAp a) } → wpAny M A' ((kfb_private% "bindBuiltin") "builtin_function_or_method" (.builtin "list.append") (some (.ref a))) Q' E' s' := by
    intro M A' E' Q' s' hl' hq
    show wpAny M A' ((kfb_private% "checkInstance") (.builtin "list.append") (.ref a) >>= _) _ _ _
    refine wpAny_bind (la_check hl' rfl ?_)
    exact wpAny_bind (wpAny_newObj_type (wpAny_pure hq))
  split
  · refine wpAny_bind (la_check hl rfl ?_)
    refine wpAny_bind (wpAny_of_eq (a := true) (by first | rfl | kernel_rfl | (unfold isType; rw [isSubtype_type]; kernel_rfl)) ?_)
    rw [if_neg (by decide)]
    refine bb hl ?_
    refine ⟨_, rfl, wpAny_pure ⟨_, rfl, ?_⟩⟩
    exact wpAny_pure h
  · refine bb hl ?_
    refine ⟨_, rfl, wpAny_pure ⟨_, rfl, ?_⟩⟩
    exact wpAny_pure h

theorem check_ap {M : Model} {A : Around} {E : Value → Shared → Prop} {s : Shared} {a : Addr} {o : Obj} {v : Value} {Q : Unit → Shared → Prop} (ho : s.heap.get? a = some o) (hc : o.cls = .type "list") (hd : ∃ x n, o.data = .seq x n) (h : Q () s) : wpAny M A (checkBoundCall "list.append" ⟨[.ref a, v], []⟩) Q E s := by
  unfold checkBoundCall
  obtain ⟨sig, hsig⟩ : ∃ sig, Manifest.signature? "list.append" = some sig := Option.isSome_iff_exists.mp (by decide +kernel)
  have hk : builtinKind "list.append" = some .method := by decide +kernel
  rw [hsig, hk]
  try dsimp only
  rw [if_neg (by decide)]
  refine wpAny_bind (wpAny_isInstance (b := false) ⟨_, ho, hc⟩ (by rw [isSubtype_type]; kernel_rfl) ?_)
  rw [if_neg (by decide +kernel)]
  unfold isType
  refine wpAny_bind (wpAny_bind (wpAny_loadPart ho ?_))
  obtain ⟨x, n, hd⟩ := hd
  rw [hd]
  refine wpAny_pure ?_
  try dsimp only
  rw [if_neg (by decide)]
  refine wpAny_bind (wpAny_typeOf ⟨_, ho, hc⟩ ?_)
  try dsimp only
  have key : ∀ sg, Manifest.signature? "list.append" = some sg → Bind.checkArgs "list.append" { machinery := sg.machinery, full := toString (Bind.lastOf "list") ++ toString "." ++ toString (Bind.lastOf "list.append"), short := sg.short, receiver := sg.receiver, params := sg.params } ⟨[.ref a, v], []⟩ = pure () := by
    intro sg hs
    obtain rfl : sg = (Manifest.signature? "list.append").get (by decide +kernel) := by simp [hs]
    kernel_rfl
  rw [key _ hsig]
  exact wpAny_pure h
theorem quiet_ap {as : Args} : (Code.builtin "list.append" as).quiet = true := Code.quiet_builtin _ (by decide +kernel)
theorem call_ap {h₀ : Heap} {L x : Addr} {m : PySem.Str → Option Value} {news news' : List (Addr × Obj)} {v : Value} {Q : Value → Shared → Prop} (F : Fr h₀ L s.heap m) (N : News h₀ L s.heap news) (hx : (x, boundAp a) ∈ news) (U : Upd a (W.listOf its n) (W.listOf (its.push v) (n + 1)) news news') (hz : its.size ≤ 1000)
    (h : ∀ h', Fr h₀ L h' m → News h₀ L h' news' → Q .none { s with heap := h' }) : wpAny (model prog w) A (call (.ref x) [v]) Q E s := by
  have ho := (N _ hx).1
  obtain ⟨pre, post, e1, e2, ap1, ap2⟩ := U.split
  have hl' := (N (a, W.listOf its n) (by rw [e1]; exact List.mem_append_right _ (.head _))).1
  refine wpAny_call (codeAny_of_tree ?_)
  show wpAny _ A.in1 (callAny (.ref x) ⟨[v], []⟩) _ _ s
  simp only [callAny]
  refine wpAny_bind (wpAny_load ho ?_)
  simp only [boundAp, show (Value.type "builtin_function_or_method" == Value.type "method" || Value.type "builtin_function_or_method" == Value.type "builtin_function_or_method" || Value.type "builtin_function_or_method" == Value.type "method-wrapper") = true by decide, if_true]
  refine KFB.if_so (by decide) ?_
  refine wpAny_bind (check_ap hl' rfl ⟨_, _, rfl⟩ ?_)
  refine wpAny_bind (wpAny_pure (wpAny_pure ?_))
  refine ⟨quiet_ap, codeAny_builtin entry_list_append ?_⟩
  show wpAny _ _ (updateSeq a (·.push v) >>= fun _ => ret .none) _ _ s
  refine wpAny_bind ?_
  refine wpAny_updateSeq hl' rfl (wpAny_pure ?_)
  subst e1 e2
  have z := N (a, W.listOf its n) (List.mem_append_right _ (.head _))
  have ho2 : (s.heap.update a (Obj.mapSeq (·.push v))).get? a = some (W.listOf (its.push v) (n + 1)) := by
    rw [Heap.get?_update_self _ hl' (by rw [mapSeq_push]; rfl), mapSeq_push]
  exact h _ (F.change (Heap.SameBut.update ..) z.2.1 z.2.2) (news_set N ap1 ap2 (Heap.SameBut.update ..) ho2)

noncomputable def ApAt (x a : Addr) (h : Heap) : Prop := h.get? x = some (boundAp a)
theorem callWith_apf {M : Model} {pos : Pos} {x : Addr} {first : List Value} {args : List (Bool × Sem Value)} {Q : Value → Shared → Prop} (hplain : args.any (·.1) = false)
    (h : wpAny M A (evalArgs (.ref x) true args []) (fun y s₁ => ApAt x a s₁.heap ∧ wpAny M A (call (.ref x) (first ++ y.pos) y.kw) Q E s₁) E s) : wpAny M A (callWith pos (.ref x) first args []) Q E s := by
  unfold callWith
  refine wpAny_bind (wpAny_holding (wpAny_mono h (fun y s₁ h₁ => wpAny_bind (wpAny_standAt ?_)) fun _ _ z => z))
  obtain ⟨ho, hcall⟩ := h₁
  simp only [hplain, List.any_nil, Bool.or_false]
  refine wpAny_bind (m := keeperOf (.ref x)) ?_
  unfold keeperOf
  refine wpAny_bind (wpAny_load ho ?_)
  simp only [boundAp, show (Value.type "builtin_function_or_method" != Value.type "method") = true by decide, show (Value.type "builtin_function_or_method" == Value.type "builtin_function_or_method" || Value.type "builtin_function_or_method" == Value.type "method-wrapper") = true by decide, if_true]
  refine wpAny_pure ?_
  exact wpAny_bind (wpAny_mono hcall (fun r s₂ hr => wpAny_bind (wpAny_holding (wpAny_point (wpAny_pure hr)))) fun _ _ z => z)
theorem callWith_ap {M : Model} {h₀ : Heap} {L x : Addr} {news : List (Addr × Obj)} {pos : Pos} {first : List Value} {env : Env} {e : PySem.Expr} {rest : List PySem.Expr} {Q : Value → Shared → Prop} (_N : News h₀ L s.heap news) (_hm : (x, boundAp a) ∈ news)
    (h : wpAny M A (spliced (backTo pos (starEach (e :: rest) env))) (fun vs s₁ => ApAt x a s₁.heap ∧ wpAny M A (call (.ref x) (first ++ vs)) Q E s₁) E s)
    (he : starEach (e :: rest) env = (false, eval e env) :: starEach rest env := by rfl) (hplain : (backTo pos (starEach rest env)).any (·.1) = false := by rfl) :
    wpAny M A (callWith pos (.ref x) first (backTo pos (starEach (e :: rest) env)) []) Q E s := by
  rw [he] at h ⊢
  refine callWith_apf (a := a) (by show (false || (backTo pos (starEach rest env)).any (·.1)) = false; rw [hplain]; rfl) ?_
  exact evalArgs_plain h
end
end Mine

end F_B15
section F_T0
open PySem PySem.Spec PySem.W PySem.Calls PyProof.Rows
namespace Mine
theorem runs_toks {M : Model} {Γ : PySem.Ctx} {p : Pos} {t : Sem Fin} {fs : List Frame} {s s' : Shared} {e : End} (h : Runs M Γ p t fs s e s') : s.toks ≤ s'.toks := by
  induction h <;> first | exact Nat.le_refl _ | assumption | (simp only [Shared.setGen] at *; omega) | omega | (trace_state; fail)
theorem code_toks {M : Model} {A : Around} {c : Code} {R : Result → Shared → Prop} {s : Shared} (h : codeAny M A c (fun r s' => s.toks ≤ s'.toks → R r s') s) : codeAny M A c R s := by
  intro Γ p e b
  obtain ⟨r, s', hr, hR⟩ := h Γ p e b
  exact ⟨r, s', hr, hR (runs_toks hr)⟩
theorem wakes_toks {M : Model} {Γ : PySem.Ctx} {p : Pos} {g : Nat} {r : Resume} {s s' : Shared} {res : GenResult} (h : Wakes M Γ p g r s res s') : s.toks ≤ s'.toks := by
  unfold Wakes at h
  split at h
  · exact h.elim
  · split at h
    · obtain ⟨e₁, s₁, h1, _, _, rfl⟩ := h; exact (show s.toks ≤ s₁.toks from runs_toks (s := s.setGen g .running) h1)
    · rw [h.2]; exact Nat.le_refl _
    · rw [h.2]; exact Nat.le_refl _
  · obtain ⟨e₁, s₁, h1, _, _, rfl⟩ := h; exact (show s.toks ≤ s₁.toks from runs_toks (s := s.setGen g .running) h1)
  · rw [h.2]; exact Nat.le_refl _
  · rw [h.2]; exact Nat.le_refl _
theorem wp_toks {α : Type} {M : Model} {Γ : PySem.Ctx} (t : Sem α) : ∀ (n : Nat) (Q : α → Pos → Shared → Prop) (E : Value → Pos → Shared → Prop) (p : Pos) (s : Shared), n ≤ s.toks → Sem.wp M Γ t (fun a p' s' => n ≤ s'.toks → Q a p' s') (fun e p' s' => n ≤ s'.toks → E e p' s') p s → Sem.wp M Γ t Q E p s := by
  induction t with
  | pure a => intro n Q E p s hn h; rw [Sem.wp] at h ⊢; exact h hn
  | raise e => intro n Q E p s hn h; rw [Sem.wp] at h ⊢; exact h hn
  | call c hh g l k ih =>
    intro n Q E p s hn h
    rw [Sem.wp] at h ⊢
    obtain ⟨r, s', hr, hR⟩ := h
    exact ⟨r, s', hr, ih r n Q E p s' (Nat.le_trans hn (runs_toks hr)) hR⟩
  | resume g r l k ih =>
    intro n Q E p s hn h
    rw [Sem.wp] at h ⊢
    obtain ⟨r, s', hr, hR⟩ := h
    exact ⟨r, s', hr, ih r n Q E p s' (Nat.le_trans hn (wakes_toks hr)) hR⟩
  | load a part k ih => intro n Q E p s hn h; rw [Sem.wp] at h ⊢; obtain ⟨o, ho, h⟩ := h; exact ⟨o, ho, ih _ n Q E _ _ hn h⟩
  | update a part f k ih => intro n Q E p s hn h; rw [Sem.wp] at h ⊢; exact ⟨h.1, ih _ n Q E _ _ hn h.2⟩
  | choose src m k ih => intro n Q E p s hn h; rw [Sem.wp] at h ⊢; exact ⟨h.1, ih _ n Q E _ _ hn h.2⟩
  | genState g k ih => intro n Q E p s hn h; rw [Sem.wp] at h ⊢; obtain ⟨o, ho, h⟩ := h; exact ⟨o, ho, ih _ n Q E _ _ hn h⟩
  | fresh k ih => intro n Q E p s hn h; rw [Sem.wp] at h ⊢; exact ih _ n Q E _ _ (Nat.le_succ_of_le hn) h
  | _ => intro n Q E p s hn h; rw [Sem.wp] at h ⊢; first | exact h.elim | (rename_i ih; exact ih _ n Q E _ _ hn h)
theorem wpAny_toks {α : Type} {M : Model} {A : Around} {t : Sem α} {Q : α → Shared → Prop} {E : Value → Shared → Prop} {s : Shared} (h : wpAny M A t (fun a s' => s.toks ≤ s'.toks → Q a s') (fun e s' => s.toks ≤ s'.toks → E e s') s) : wpAny M A t Q E s :=
  fun Γ p hΓ => wp_toks t s.toks _ _ p s (Nat.le_refl _) (h Γ p hΓ)
end Mine

end F_T0
section F_T1
open PySem PySem.Spec PySem.W PySem.Calls PyProof.Rows Builtin
namespace Mine
noncomputable def intKeyB (e : DictEntry) : Bool := match e.key with | .int k _ => e.hash == hashInt k | _ => false
theorem intKeys_of {es : Array DictEntry} (h : es.all intKeyB = true) : IntKeys es := by
  intro e he
  have := Array.all_eq_true'.mp h e he
  unfold intKeyB at this
  split at this
  · rename_i k t hk; exact ⟨k, t, hk, eq_of_beq this⟩
  · cases this
theorem esc_map {w : World} {h : Heap} (X : (hd.heap_1 w.params).In h) : ∃ f t, h.IntMap 80 f ∧ f 46 = some (.str (Str.ofString "\\.") t) := by
  have ho := X 80 _ rfl
  refine ⟨_, 471, ⟨_, _, _, ho, rfl, rfl, intKeys_of (by decide +kernel), fun _ => rfl⟩, ?_⟩
  rfl
section
variable {prog : Program} {w : World} {A : Around} {E : Value → Shared → Prop} {s : Shared}
theorem lookup_text {d : Addr} {f : Int → Option Value} {c : Nat} {x : PySem.Str} {t : Tok} {Q : Builtin.Str.Mapped → Shared → Prop} (hm : s.heap.IntMap d f) (hv : f (c : Int) = some (.str x t)) (h : ∀ tk, Q (.text x) { s with toks := tk }) :
    wpAny (model prog w) A (Builtin.Str.tableLookup (.ref d) c) Q E s := by
  unfold Builtin.Str.tableLookup
  refine wpAny_bind (wpAny_attempt (wpAny_bind (wpAny_mkInt ?_)))
  refine wpAny_getItem_intMap (s := { s with toks := s.toks + 1 }) hm hv ?_
  try dsimp only
  refine wpAny_bind (wpAny_of_eq (a := none) rfl ?_)
  try dsimp only
  refine wpAny_bind (wpAny_of_eq (a := some x) rfl ?_)
  exact wpAny_pure (h _)
theorem translate_dot {d : Addr} {f : Int → Option Value} {t tx : Tok} {Q : Value → Shared → Prop} (hm : s.heap.IntMap d f) (hv : f 46 = some (.str (Str.ofString "\\.") tx)) (h : ∀ t tk, Q (.str (Str.ofString "\\.") t) { s with toks := tk }) :
    wpAny (model prog w) A (call (.builtin "str.translate") [.str (Str.ofString ".") t, .ref d]) Q E s := by
  refine call_meets (S := fun _ R s' => s'.heap.IntMap d f ∧ ∀ t tk, R (.ok (.ret (.str (Str.ofString "\\.") t))) { s' with toks := tk }) F.slot_str_translate (typeIs_str _ _ _) F.entry_str_translate (F.args_str_translate_2 _ _) ?_ ⟨hm, h⟩
  rintro prog' w' A' R s' ⟨hm, hR⟩
  unfold Builtin.«str.translate»
  refine wpAny_bind (wpAny_of_eq (a := (.str (Str.ofString ".") t, Str.ofString ".", .ref d)) rfl ?_)
  try dsimp only
  rw [if_neg (by decide +kernel)]
  refine wpAny_bind ?_
  rw [← Array.forIn_toList, show (Str.ofString ".").cps.toList = [46] from by decide +kernel, List.forIn_cons]
  refine wpAny_bind ?_
  try dsimp only
  rw [if_neg (by decide +kernel), if_pos (by decide +kernel)]
  dsimp only [List.lookup]
  refine wpAny_bind (lookup_text hm hv fun tk1 => ?_)
  try dsimp only
  rw [if_neg (by decide +kernel)]
  try dsimp only
  refine wpAny_bind (wpAny_pure ?_)
  try dsimp only
  refine wpAny_bind (wpAny_rule ?_)
  rw [if_neg (by decide +kernel)]
  refine wpAny_bind (lookup_text (s := { s' with toks := tk1 }) hm hv fun tk2 => ?_)
  refine wpAny_pure ?_
  try dsimp only
  rw [List.forIn_nil]
  refine wpAny_pure ?_
  try dsimp only
  rw [if_neg (by decide +kernel)]
  refine wpAny_bind (wpAny_mkStr ?_ (by rw [sizeLine_eq]; decide +kernel))
  refine wpAny_pure ?_
  rw [show ({ cps := List.foldl (fun acc p => acc ++ p.cps) #[] [Str.ofString "\\."].reverse } : PySem.Str) = Str.ofString "\\." from by decide +kernel]
  exact hR _ _
end
end Mine

end F_T1
section F_T2
open PySem PySem.Spec PySem.W PySem.Calls PyProof.Rows Builtin Builtin.Re
namespace Mine
theorem plainAttrs_pat : PlainAttrs "re.Pattern" :=
  ⟨⟨"object.__getattribute__", by rw [typeLookup_type, builtinLookup_eq_fast]; kernel_rfl, by decide +kernel⟩, by rw [typeLookup_type, builtinLookup_eq_fast]; kernel_rfl⟩
theorem slot_pat_sub : Slot "re.Pattern" "sub" "re.Pattern.sub" :=
  .of (owner := "re.Pattern") (n := "sub") (by rw [typeLookup_type, builtinLookup_eq_fast]; kernel_rfl) (by decide +kernel) (by decide +kernel) (by decide +kernel)
    (by first | exact .inl (by decide +kernel) | exact .inr (by decide +kernel)) (by rw [isSubtype_type]; kernel_rfl)
theorem type_pat_sub : typeOf (.builtin "re.Pattern.sub") = pure (.type "method_descriptor") := by show builtinType _ = _; rw [builtinType_eq_fast]; kernel_rfl
theorem entry_pat_sub : entryFor table "re.Pattern.sub" = some Builtin.«re.Pattern.sub» := entryFor_of_tree (by kernel_rfl)
theorem entry_pat_loop : entryFor table "re.Pattern.sub.loop" = some Builtin.«re.Pattern.sub.loop» := entryFor_of_tree (by kernel_rfl)
theorem args_pat_sub (a b c : Value) : argsOk "re.Pattern.sub" ⟨[a, b, c], []⟩ := by unfold argsOk; kernel_rfl
theorem fn_call : typeLookup (.type "function") "__call__" = pure (some (.builtin "function.__call__")) := by rw [typeLookup_type, builtinLookup_eq_fast]; kernel_rfl
theorem re_named (a b : Value) : reNamed "re.Pattern.sub" "sub" ["repl", "string", "count"] 2 [a, b] [] = pure [some a, some b, none] := by
  first | rfl | kernel_rfl
section
variable {prog : Program} {w : World} {A : Around} {E : Value → Shared → Prop} {s : Shared}
theorem forIn_rules {f : Nat → Bool} {g : Nat → String} {Q : PUnit → Shared → Prop} (h : Q PUnit.unit s) : ∀ l : List Nat, wpAny (model prog w) A (forIn l PUnit.unit fun i _ => do
    if f i then rule (g i)
    pure (ForInStep.yield PUnit.unit)) Q E s
  | [] => by rw [List.forIn_nil]; exact wpAny_pure h
  | i :: l => by
    rw [List.forIn_cons]
    refine wpAny_bind ?_
    cases hf : f i with
    | true => simp only [if_true]; exact wpAny_bind (wpAny_rule (wpAny_pure (forIn_rules h l)))
    | false => simp only [Bool.false_eq_true, if_false]; exact wpAny_pure (forIn_rules h l)
theorem run_failed {m : Sre.M} {Q : Option Sre.M → Shared → Prop} (hf : (m.runFor 4).outcome = some .failed) (h : Q none s) : wpAny (model prog w) A (reRunToEnd m) Q E s := by
  unfold reRunToEnd
  rw [show (2 ^ 64 : Nat) = 18446744073709551615 + 1 from rfl]
  refine wpAny_bind ?_
  unfold reDrive
  dsimp only [reTurnSteps]
  rw [if_pos (by rw [hf]; rfl)]
  refine wpAny_pure ?_
  refine wpAny_bind ?_
  refine forIn_rules ?_ _
  rw [hf]
  exact wpAny_pure h
theorem whole_target {x : PySem.Str} {t : Tok} {Q : ReTarget → Shared → Prop} {o77 o78 : Obj} {fs its : Array Value} {n : Nat} (h78 : s.heap.get? 78 = some o78) (d78 : o78.data = .fields fs) (f6 : fs.getD 6 .none = .int 0 0) (f5 : fs.getD 5 .none = .ref 77) (h77 : s.heap.get? 77 = some o77) (d77 : o77.data = .seq its n)
    (h : Q { pattern := .ref 78, string := .str x t, code := (its.map reRawOf).map (·.toNat), text := x.cps, kind := 0, groups := reRawNat (fs.getD 2 .none), pos := 0, lim := x.cps.size } s) : wpAny (model prog w) A (reWholeTarget (.ref 78) (.str x t)) Q E s := by
  unfold reWholeTarget
  refine wpAny_bind (wpAny_fieldsOf h78 d78 ?_)
  refine wpAny_bind (wpAny_of_eq (a := (x.cps, 0)) rfl ?_)
  try dsimp only
  rw [f6, if_neg (by decide), if_neg (by decide)]
  refine wpAny_bind (wpAny_of_eq (a := ()) rfl ?_)
  rw [f5]
  refine wpAny_bind ?_
  unfold reRawItems
  refine wpAny_bind (wpAny_seqItems h77 d77 ?_)
  exact wpAny_pure (wpAny_pure h)
theorem sub_none {lam : Addr} {t : Tok} {o : Obj} {Q : Value → Shared → Prop} (X : (hd.heap_1 w.params).In s.heap) (ho : s.heap.get? lam = some o) (hc : o.cls = .type "function")
    (hret : ∀ h' t' tk', Kept s.heap h' → Q (.str (Str.ofString "!a") t') { s with heap := h', toks := tk' }) : wpAny (model prog w) A (call (.builtin "re.Pattern.sub") [.ref 78, .ref lam, .str (Str.ofString "!a") t]) Q E s := by
  have h77 := X 77 _ rfl
  have h78 := X 78 _ rfl
  refine call_meetsIn (S := fun _ R s' => (hd.heap_1 w.params).In s'.heap ∧ s'.heap.get? lam = some o ∧ ∀ h' t' tk', Kept s'.heap h' → R (.ok (.ret (.str (Str.ofString "!a") t'))) { s' with heap := h', toks := tk' }) slot_pat_sub ⟨_, h78, rfl⟩ entry_pat_sub (args_pat_sub _ _ _) ?_ ⟨X, ho, hret⟩
  clear h77 h78
  rintro A' R s' ⟨X', ho', hR⟩
  have h77 := X' 77 _ rfl
  have h78 := X' 78 _ rfl
  show wpAny _ _ (reSubstitute "re.Pattern.sub" "sub" false ⟨[.ref 78, .ref lam, .str (Str.ofString "!a") t], []⟩) _ _ _
  unfold reSubstitute
  try dsimp only
  rw [re_named]
  refine wpAny_bind (wpAny_pure ?_)
  try dsimp only
  refine wpAny_bind (wpAny_pure ?_)
  refine wpAny_bind (wpAny_specialOf ⟨_, ho', hc⟩ fn_call ?_)
  dsimp only [Option.isSome]
  rw [if_pos rfl]
  refine wpAny_bind (wpAny_pure ?_)
  rw [if_pos rfl]
  refine wpAny_bind (wpAny_pure ?_)
  try dsimp only
  refine wpAny_bind (wpAny_holding (whole_target h78 rfl rfl rfl h77 rfl ?_))
  rw [if_pos (by decide)]
  refine wpAny_bind ?_
  unfold reNotHeld
  refine wpAny_bind (wpAny_isInstance (b := false) (typeIs_str _ _ _) (by rw [isSubtype_type]; kernel_rfl) ?_)
  try dsimp only
  rw [if_neg (by decide)]
  refine wpAny_pure ?_
  refine wpAny_bind (wpAny_newList ?_)
  refine wpAny_pure ?_
  refine ⟨Code.quiet_builtin _ (by decide +kernel), codeAny_builtin entry_pat_loop ?_⟩
  have g77 := Heap.get?_push_of_some { cls := .type "list", data := .seq ([] : List Value).toArray } h77
  have g78 := Heap.get?_push_of_some { cls := .type "list", data := .seq ([] : List Value).toArray } h78
  have gD : (s'.heap.push { cls := .type "list", data := .seq ([] : List Value).toArray }).get? s'.heap.objs.size = some _ := Heap.get?_push_size _ rfl
  unfold Builtin.«re.Pattern.sub.loop»
  dsimp only [rawInt]
  refine wpAny_bind (whole_target g78 rfl rfl rfl g77 rfl ?_)
  rw [if_neg (by decide)]
  refine wpAny_bind ?_
  rw [if_neg (by decide)]
  unfold reNextFound
  try dsimp only
  refine run_failed (by kernel_rfl) ?_
  try dsimp only
  rw [if_pos (by decide +kernel)]
  have eS : ({ cps := (Str.ofString "!a").cps.extract (Int.toNat 0) (Str.ofString "!a").cps.size } : PySem.Str) = Str.ofString "!a" := by decide +kernel
  have eE : ({ cps := (Str.ofString "!a").cps.extract 0 0 } : PySem.Str) = Str.ofString "" := by decide +kernel
  unfold reSlice
  rw [if_pos (by decide), if_pos (by decide), eS, eE]
  refine wpAny_bind (wpAny_mkStr ?_ (by rw [sizeLine_eq]; decide +kernel))
  have gD : (s'.heap.push { cls := .type "list", data := .seq ([] : List Value).toArray }).get? s'.heap.objs.size = some (W.listOf #[] 0) := Heap.get?_push_size _ rfl
  refine wpAny_bind (wpAny_updateSeq gD rfl ?_)
  refine wpAny_bind (wpAny_mkStr ?_ (by rw [sizeLine_eq]; decide +kernel))
  have ho2 : ((s'.heap.push { cls := .type "list", data := .seq ([] : List Value).toArray }).update s'.heap.objs.size (Obj.mapSeq (·.push (Value.str (Str.ofString "!a") s'.toks)))).get? s'.heap.objs.size = some (W.listOf (#[].push (Value.str (Str.ofString "!a") s'.toks)) 1) := by
    rw [Heap.get?_update_self _ gD (by rw [mapSeq_push]; rfl), mapSeq_push]
  refine wpAny_bind (wpAny_seqItems ho2 rfl ?_)
  rw [if_neg (by simp)]
  refine wpAny_bind ?_
  refine join_list (ys := [Str.ofString "!a"]) ⟨_, ho2, rfl, _, rfl⟩ (.cons _ _ .nil) (by decide +kernel) fun t9 k9 => ?_
  rw [if_neg (by decide), show Txt.join (Str.ofString "") [Str.ofString "!a"] = Str.ofString "!a" from by decide +kernel]
  refine wpAny_pure (hR _ _ _ fun b o' e => ?_)
  rw [Heap.get?_update_other _ _ (Nat.ne_of_gt (Heap.lt_size e))]
  exact Heap.get?_push_of_some _ e
end
end Mine

end F_T2
section F_B16
open PySem PySem.Spec PySem.W PySem.Calls PyProof.Rows
namespace Mine
theorem rows_hdr_B16 : True := by
  k_with_none
  w_top off
  k_with "mine units" => (first | (refine' rm1 ?zuaa ?zuab; (case zuaa => with_reducible assumption); (case zuab => rfl)) | (refine' rm2 ?zuba ?zubb; (case zuba => with_reducible assumption); (case zubb => rfl)) | (refine' rm3 ?zuca ?zucb; (case zuca => with_reducible assumption); (case zucb => rfl)) | (dsimp only [Ar, Around.deeper, Around.in1]; first | (refine' rm1 ?zuda ?zudb; (case zuda => with_reducible assumption); (case zudb => rfl)) | (refine' rm2 ?zuea ?zueb; (case zuea => with_reducible assumption); (case zueb => rfl)) | (refine' rm3 ?zufa ?zufb; (case zufa => with_reducible assumption); (case zufb => rfl)) | (refine' rm4 ?zuga ?zugb; (case zuga => with_reducible assumption); (case zugb => rfl))))
  k_with "mine mem" => (first | with_reducible exact mem_h | with_reducible assumption | (with_reducible refine List.mem_append_left _ ?_; k_extra "mine mem") | (with_reducible refine List.mem_append_right _ ?_; k_extra "mine mem") | (with_reducible refine mem_t ?_; k_extra "mine mem"))
  k_with "mine sub" => (first | exact all_nil | (refine all_cons ?_ ?_; k_extra "mine mem"; k_extra "mine sub") | (refine all_app ?_ ?_; k_extra "mine sub"; k_extra "mine sub") | (intro pq hpq; k_extra "mine mem"))
  k_with "mine room" => (first | with_reducible assumption | (refine' rm1 ?zraa ?zrab; (case zraa => with_reducible assumption); (case zrab => rfl)) | (refine' rm2 ?zrba ?zrbb; (case zrba => with_reducible assumption); (case zrbb => rfl)) | (refine' rm3 ?zrca ?zrcb; (case zrca => with_reducible assumption); (case zrcb => rfl)) | (refine' rm0 ?zrd; (case zrd => with_reducible assumption)) | (refine' leL ?zrea ?zreb; (case zrea => with_reducible assumption); (case zreb => rfl)) | (refine Ne.symm ?zrf; (case zrf => with_reducible assumption)) | (refine Nat.ne_of_lt ?zrg; (case zrg => with_reducible assumption)) | (refine Nat.ne_of_gt ?zrh; (case zrh => with_reducible assumption)) | ((try dsimp only [Ar, Around.deeper, Around.in1]); first | (refine' rm1 ?zria ?zrib; (case zria => with_reducible assumption); (case zrib => rfl)) | (refine' rm2 ?zrja ?zrjb; (case zrja => with_reducible assumption); (case zrjb => rfl)) | (refine' rm3 ?zrka ?zrkb; (case zrka => with_reducible assumption); (case zrkb => rfl)) | (refine' rm4 ?zrla ?zrlb; (case zrla => with_reducible assumption); (case zrlb => rfl)) | omega))
  k_with "mine ne" => (first | with_reducible assumption | (refine Ne.symm ?zna; (case zna => with_reducible assumption)) | (refine Nat.ne_of_lt ?znb; (case znb => with_reducible assumption)) | (refine Nat.ne_of_gt ?znc; (case znc => with_reducible assumption)))
  k_with "mine enter" => (first
  | (refine' enterG ?zqkG ?zqk3 ?zqk5 ?zqk6 ?zqk7 ?zqk8 ?zqk9 ?zqkB ?_ ?zqc2 ?zqc3 ?zqc4 ?zqc5; (case zqkG => k_asm); (case zqk3 => k_asm); (case zqk5 => k_asm); (case zqk6 => k_is); (case zqk7 => k_is); (case zqk8 => ktr_room); (case zqk9 => exact BindsTo.of_eq rfl); (case zqc5 => decide); (case zqkB => exact locs rfl); (case zqc2 => exact rfl); (case zqc3 => exact rfl); (case zqc4 => exact rfl); k_whole; intro Lq' hq' Fq' Nq' l1q; (try k_lt l1q); (try dsimp only); (try k_fold))
  | (refine' enterC ?zqkG ?zqk3 ?zqk5 ?zqk6 ?zqk7 ?zqk8 ?zqk9 ?zqkB ?zqkD ?_ ?zqc2 ?zqc3 ?zqc4; (case zqkG => k_asm); (case zqk3 => k_asm); (case zqk5 => k_asm); (case zqk6 => k_is); (case zqk7 => k_is); (case zqk8 => ktr_room); (case zqk9 => exact BindsTo.of_eq rfl); (case zqkB => exact rfl); (case zqkD => decide +kernel); (case zqc2 => exact rfl); (case zqc3 => exact rfl); (case zqc4 => exact rfl); k_whole; intro Lq' hq' tkq' cellsq' Fq' Nq' Yq' l1q; (try k_lt l1q); k_cells Yq'; (try simp only [List.cons_append, List.nil_append] at Nq'); (try dsimp only); (try k_fold)))
  k_with "mine k_steps" => ((try k_unmd); (try k_fold); repeat' (first | (k_unfold; (try dsimp only)) | ((fail_if_success (k_extra "mine stop")); (fail_if_success (with_reducible show wpAny _ _ (exec (Stmt.For _ _ _ _ _) _) _ _ _)); (fail_if_success (with_reducible show wpAny _ _ (exec (Stmt.While _ _ _ _) _) _ _ _)); (fail_if_success (with_reducible show wpAny _ _ (exec (Stmt.Try _ _ _ _ _) _) _ _ _)); (fail_if_success (with_reducible show wpAny _ _ (eval (PySem.Expr.ListComp _ _ _ _) _) _ _ _)); (fail_if_success (with_reducible show wpAny _ _ (exec (Stmt.Assign _ (PySem.Expr.ListComp _ _ _ _) _) _) _ _ _)); (first | walk1 | (dsimp only; walk1) | (leave1; walk_say "STEP leave1"; try dsimp only))) | fail "no step"))
  k_with "execs cons" => ((try k_made); (try k_gentoks); (with_reducible refine wpAny_execs_cons ?_); (try dsimp only); try k_fold)
  k_with "storeName" => (k_dflt (refine' storeX_L ?z1 ?z2 ?_ ?z3 ?z4; (case z1 => k_asm); (case z2 => k_asm); (case z3 => exact rfl); (case z4 => exact rfl); k_whole); intro hq' Fq' Nq'; (try dsimp only at Fq'); (try k_sweep))
  k_with "eval Name" => (name_kind "local"; k_dflt (refine' nameX_L ?z5 ?z6 ?_ ?z7 ?z8; (case z5 => with_reducible assumption); (case z6 => exact Eq.refl (some _)); (case z7 => exact rfl); (case z8 => exact rfl); k_whole))
  k_with "eval Name" => ((with_reducible show wpAny _ _ (eval (PySem.Expr.Name _ _) (compEnvC _ _ _ _)) _ _ _); k_dflt (first
  | (refine' nm_L ?zqF ?zqv ?_ ?zqa ?zqb ?zqc; (case zqa => rfl); (case zqb => rfl); (case zqc => decide); (case zqF => k_asm); (case zqv => first | with_reducible assumption | assumption | rfl); k_whole)
  | (refine' nm_C ?zqF ?zqhc ?zqho ?zqhd ?_ ?zqa ?zqb ?zqc; (case zqa => rfl); (case zqb => rfl); (case zqc => decide); (case zqF => k_asm); (case zqhc => rfl); (case zqho => first | with_reducible assumption | assumption); (case zqhd => first | with_reducible assumption | assumption); k_whole)
  | (refine' nm_K ?zqF ?zqX ?zqT ?zqe ?_ ?zqg ?zqa ?zqb ?zqc; (case zqa => rfl); (case zqb => rfl); (case zqc => decide); (case zqg => rfl); (case zqF => k_asm); (case zqX => k_asm); (case zqT => k_asm); (case zqe => k_is); k_whole)
  | (refine' nm_B ?zqF ?zqX ?zqT ?zqe ?zqv ?zqn ?_ ?zqg ?zqbn ?zqa ?zqb ?zqc; (case zqa => rfl); (case zqb => rfl); (case zqc => decide); (case zqg => rfl); (case zqbn => rfl); (case zqF => k_asm); (case zqX => k_asm); (case zqT => k_asm); (case zqe => k_is); (case zqv => boot_fast); (case zqn => decide); k_whole)))
  k_with "callWith ref" => (k_here; k_dflt (first
  | ((with_reducible show wpAny _ _ (callWith _ (Value.ref _) _ (backTo _ (starEach (_ :: _) _)) []) _ _ _); first | (refine' callWith_M ?z9 ?z10 ?z11 ?z12 ?_; (case z9 => with_reducible assumption); (case z10 => with_reducible assumption); (case z11 => k_mem); (case z12 => k_is); k_whole) | (refine' callWith_K ?z13 ?z14 ?_; (case z13 => with_reducible assumption); (case z14 => k_is); k_whole))
  | ((with_reducible show wpAny _ _ (callWith _ (Value.ref _) _ (backTo _ (starEach [] _)) []) _ _ _); first | (refine' callWith_M0 ?z15 ?z16 ?_; (case z15 => k_meth); (case z16 => k_is); k_whole; try dsimp only [List.nil_append, List.cons_append]) | (refine' callWith_K0 ?z17 ?z18 ?_; (case z17 => (refine' Frag.In.keeps ?zia (Fr.keep ?zib); (case zib => with_reducible assumption); (case zia => with_reducible assumption))); (case z18 => k_is); k_whole))))
  k_with "subscriptTail" => (k_here; (with_reducible show wpAny _ _ (subscriptTail _ _ (Value.ref _) (Value.int _ _)) _ _ _); (with_unfolding_all refine' item_litK ?z19 ?z20 ?z21 ?z22 ?_ ?z23; (case z19 => is_list); (case z20 => decide); (case z21 => decide); (case z22 => rfl); (case z23 => with_unfolding_all rfl)); k_whole)
  k_with "subscriptTail Name Constant ref int" => (k_here; (with_reducible show wpAny _ _ (subscriptTail _ _ (Value.ref _) (Value.int _ _)) _ _ _); (with_unfolding_all refine' item_litK ?z24 ?z25 ?z26 ?z27 ?_ ?z28; (case z24 => is_list); (case z25 => decide); (case z26 => decide); (case z27 => rfl); (case z28 => with_unfolding_all rfl)); k_whole)
  k_with "eval Name" => (k_here; name_kind "globalImplicit"; k_dflt (first
  | (refine' nameX_K ?zqgF ?zqgX ?zqgT ?zqge ?_ ?zqga ?zqgb; (case zqgF => with_reducible assumption); (case zqgX => with_reducible assumption); (case zqgT => k_asm); (case zqga => rfl); (case zqgb => rfl); (case zqge => k_is); k_whole)
  | (refine' nameX_B ?zqgF ?zqgX ?zqgT ?zqge ?zqgv ?zqgn ?_ ?zqga ?zqgb; (case zqgF => with_reducible assumption); (case zqgX => with_reducible assumption); (case zqgT => k_asm); (case zqga => rfl); (case zqgb => rfl); (case zqge => k_is); (case zqgv => boot_fast); (case zqgn => decide); k_whole)))
  trivial
theorem getAttr_apN {prog : Program} {w : World} {A : Around} {E : Value → Shared → Prop} {s : Shared} {h₀ : Heap} {L a : Addr} {m : PySem.Str → Option Value} {news : List (Addr × Obj)} {its : Array Value} {n : Nat} {Q : Value → Shared → Prop} (F : Fr h₀ L s.heap m) (N : News h₀ L s.heap news) (hm : (a, W.listOf its n) ∈ news)
    (h : ∀ x h' tk, Fr h₀ L h' m → News h₀ L h' ((x, boundAp a) :: news) → (∀ p ∈ news, p.1 < x) → Q (.ref x) { s with heap := h', toks := tk }) : wpAny (model prog w) A (getAttr (.ref a) "append" true) Q E s :=
  getAttr_append (N _ hm).1 (h _ _ _ (F.push _) (N.push F _) fun p hp => Heap.lt_size (N p hp).1)
theorem replace_none {prog : Program} {w : World} {A : Around} {E : Value → Shared → Prop} {s : Shared} {x y z : PySem.Str} {t u v : Tok} {Q : Value → Shared → Prop} (hc : ((Builtin.Str.occurrences x y 0 x.length (x.length + 1)).isEmpty || (y.length == 0 && z.length == 0)) = true)
    (h : Q (.str x t) s) : wpAny (model prog w) A (call (.builtin "str.replace") [.str x t, .str y u, .str z v]) Q E s := by
  refine call_gives F.slot_str_replace (typeIs_str _ _ _) F.entry_str_replace (F.args_str_replace_3 _ _ _) (gives_str_replace x y z t u v fun q => by rw [hc] at q; cases q) ?_
  rw [if_pos hc]
  exact h
theorem isNot_strs {M : Model} {A : Around} {E : Value → Shared → Prop} {s : Shared} {x y : PySem.Str} {t u : Tok} {Q : Value → Shared → Prop} (h0 : t ≠ 0) (h1 : u ≠ 0) (h2 : t ≠ u) (hxy : (x == y) = false) (h : Q (.bool true) s) : wpAny M A (compareOp .IsNot (.str x t) (.str y u)) Q E s := by
  show wpAny _ _ (do return Value.bool (!(← isSame (.str x t) (.str y u)))) _ _ _
  rw [isSame_str_other x y t u (by simp [h0, h1]) (by simp [h2]) hxy]
  exact wpAny_bind (wpAny_pure (wpAny_pure h))
theorem rows_B16_0 : True := by
  k_with "getAttr ref" => (k_dflt (refine' getAttr_apN ?z100 ?z101 ?z102 ?_; (case z100 => k_asm); (case z101 => k_asm); (case z102 => k_mem); k_whole); intro xq' hq' tkq' Fq' Nq' l1q; (try k_lt l1q); (try k_sweep))
  k_with "callWith ref" => (k_here; (with_reducible show wpAny _ _ (callWith _ (Value.ref _) _ (backTo _ (starEach (_ :: _) _)) []) _ _ _); k_dflt (refine' callWith_ap ?z103 ?z104 ?_; (case z103 => k_asm); (case z104 => k_mem); k_whole))
  k_with "mine k_steps" => ((try k_unmd); (try k_fold); repeat' (first | (k_unfold; (try dsimp only)) | walk1 | (dsimp only; walk1) | (leave1; walk_say "STEP leave1"; try dsimp only) | fail "no step"))
  k_with "leaving" => (exfalso; rename @LT.lt Int _ _ _ ∨ _ => h9q; exact absurd h9q (by decide +kernel))
  k_with "ApAt" => (unfold ApAt; exact News.get (by k_asm) (by k_mem))
  k_with "getMethod str" => (with_reducible refine GM.of (.str _ _) (typeIs_str _ _ _) F.slot_str_translate F.type_str_translate GM.noRef ?_)
  k_with "call builtin:str.replace" => (refine' replace_none ?z105 ?_; (case z105 => decide +kernel))
  k_with "compareOp IsNot" => (refine' isNot_strs ?z106 ?z107 ?z108 ?z109 ?_; (case z106 => assumption); (case z107 => assumption); (case z108 => assumption); (case z109 => decide +kernel))
  trivial
theorem execs_cons_tk {M : Model} {A : Around} {E : Value → Shared → Prop} {s : Shared} {st : Stmt} {rest : List Stmt} {env : Env} {Q : Flow → Shared → Prop}
    (h : wpAny M A (exec st env) (fun f s' => match f with | .next => ∀ tk, s.toks ≤ tk → wpAny M A (execs rest env) Q E { s' with toks := tk } | f => Q f s') E s) : wpAny M A (execs (st :: rest) env) Q E s := by
  refine wpAny_execs_cons (wpAny_toks (wpAny_mono h (fun f s' h1 h2 => ?_) fun _ _ h1 _ => h1))
  cases f with
  | next => exact h1 s'.toks h2
  | _ => exact h1
theorem formatField_str_tk {prog : Program} {w : World} {A : Around} {E : Value → Shared → Prop} {s : Shared} {x : PySem.Str} {t : Tok} {Q : Value → Shared → Prop} (h : ∀ t' tk, s.toks ≤ tk → Q (.str x t') { s with toks := tk }) (hx : x.length ≤ sizeLine := by size_fits) : wpAny (model prog w) A (formatField (.str x t) Str.empty) Q E s :=
  wpAny_formatField_str (h _ _ (Nat.le_refl _)) (h _ _ (Nat.le_succ _)) hx
theorem If_tk {M : Model} {A : Around} {E : Value → Shared → Prop} {s : Shared} {env : Env} {test : PySem.Expr} {body orelse : List Stmt} {pos : Pos} {Q : Flow → Shared → Prop}
    (h : wpAny M A (isTrue test env (eval test env)) (fun b s₂ => ∀ tk, s.toks ≤ tk → if b then wpAny M A (execs body env) Q E { s₂ with toks := tk } else wpAny M A (execs orelse env) Q E { s₂ with toks := tk }) E s) : wpAny M A (exec (.If test body orelse pos) env) Q E s := by
  refine wpAny_If (wpAny_toks (wpAny_mono h (fun b s' h1 h2 => ?_) fun _ _ h1 _ => h1))
  exact h1 s'.toks h2
theorem tr_end {g h : Heap} {L D : Addr} {m : PySem.Str → Option Value} {news : List (Addr × Obj)} {its : Array Value} {k : Nat} {tb : Obj} (F : Fr g L h m) (N : News g L h news) (hD : (D, W.listOf its k) ∈ news) (hT : (92, tb) ∈ news) : Gh g h [(D, W.listOf its k), (92, tb)] :=
  gh_of F N fun p hp => by
    rcases List.mem_cons.mp hp with rfl | hp
    · exact hD
    · rw [List.mem_singleton.mp hp]; exact hT
section
variable {w : World} {p : Program} {loose : List PySem.Str} {mean : ExcName → Option Value} {mg mb : PySem.Str → Option Value}
   {dp un : Nat} {fr : Option (List Env)} {gd : Option (List Code)} {s : Shared} {Q : Value → Shared → Prop} {E : Value → Shared → Prop}
theorem fill_B16 (w : World) (h : Heap) (X : (hd.heap_1 w.params).In h) : PySem.Challenge.rw_in0215_01.row.prog = PP ∧ (hd.heap_1 w.params).In h := by
  k_fill
  exact ⟨rfl, X⟩
theorem rows_B16_1 : True := by
  k_with "call builtin:str.translate" => ((with_reducible rename Fr _ _ _ _ => kFq); obtain ⟨f9q, t9q, hm9q, hv9q⟩ := esc_map (w := w) (Frag.In.keeps (by with_reducible assumption) kFq.keep); refine' translate_dot hm9q hv9q ?_; clear hm9q hv9q; intro t8q tk8q)
  trivial
theorem esc_call {t : Tok} (X : (hd.heap_1 w.params).In s.heap) (T : Top p loose mean mg mb s.heap) (hdp : dp + 2 < recursionLimit) (hun : un + 200 < cLine)
   (hret : ∀ t h' tk', Kept s.heap h' → Q (.str (Str.ofString "\\.") t) {s with heap := h', toks := tk'}) :
   wpAny (model PP w) (Ar dp un fr gd) (call (.ref 90) [.str (Str.ofString ".") t]) Q E s := by
  have G := Gh.refl s.heap
  refine wpAny_call ?_
  k_dflt ktr_enter
  k_steps
  (with_reducible rename Fr _ _ _ _ => kF)
  exact hret _ _ _ kF.keep
theorem item_nmS {prog : Program} {w : World} {A : Around} {E : Value → Shared → Prop} {s : Shared} {Q : Value → Shared → Prop} {x : PySem.Str} {t u : Tok} {i : Int} {a b : PySem.Str} {pa pb : Pos} (hr : fitsSsize i = true) (h1 : -(x.length : Int) ≤ i) (h2 : i < x.length) (h : Q (.str (Txt.item x i) s.toks) { s with toks := s.toks + 1 }) : wpAny (model prog w) A (subscriptTail (.Name a pa) (.Name b pb) (.str x t) (.int i u)) Q E s := item_str hr h1 h2 (fun _ => h)
theorem rows_B16_2 : True := by
  k_with "subscriptTail Name Name str int" => ((with_reducible refine item_nmS ?zsa ?zsb ?zsc ?_); (case zsa => decide +kernel); (case zsb => decide +kernel); (case zsc => decide +kernel); k_whole)
  k_with "getMethod ref" => (k_dflt ((with_reducible rename Fr _ _ _ _ => kFq); (have h78q := Frag.In.keeps (by assumption : (hd.heap_1 w.params).In _) kFq.keep 78 _ rfl); k_dflt (refine' getMethod_builtin ⟨_, h78q, rfl⟩ plainAttrs_pat slot_pat_sub type_pat_sub (fun a e => by cases e; exact ⟨_, h78q, rfl⟩) ?_); clear h78q))
  k_with "call builtin:re.Pattern.sub" => ((with_reducible rename Fr _ _ _ _ => kFq); (with_reducible rename News _ _ _ _ => kNq); refine' sub_none ?z110 ?z111 ?z112 ?_; (case z110 => exact Frag.In.keeps (by with_reducible assumption) kFq.keep); (case z111 => exact News.get kNq (.head _)); (case z112 => rfl); intro hq' tq' tkq' kpq'; (have Fq' := kFq.keeps kpq'); (have Nq' := kNq.grown kpq'); clear kFq kNq kpq'; (try dsimp only))
  k_with "call builtin:str.find" => (exfalso; rename List.isEmpty _ = true → False => h9; exact absurd h9 (by decide +kernel))
  k_with "call builtin:str.find" => (exfalso; rename List.isEmpty _ = false => h9; exact absurd h9 (by decide +kernel))
  k_with "call ref" => (k_dflt (refine' call_ap ?z113 ?z114 ?z115 ?z116 ?z117 ?_; (case z113 => k_asm); (case z114 => k_asm); (case z115 => k_mem); (case z116 => k_upd); (case z117 => first | decide | (simp; done)); k_whole); intro hq' Fq' Nq'; (try dsimp only at Nq'); (try k_sweep))
  k_with "call ref" => ((with_reducible show wpAny _ _ (call (Value.ref 90) _) _ _ _); (with_reducible rename Fr _ _ _ _ => kFq); (with_reducible rename News _ _ _ _ => kNq); k_dflt (refine' esc_call ?z118 ?z119 ?z120 ?z121 ?_; (case z118 => exact Frag.In.keeps (by with_reducible assumption) kFq.keep); (case z119 => exact Top.keeps (by with_reducible assumption) kFq.keep); (case z120 => ktr_room); (case z121 => ktr_room); k_whole); intro tq' hq' tkq' kpq'; (have Fq' := kFq.keeps kpq'); (have Nq' := kNq.grown kpq'); clear kFq kNq kpq'; (try dsimp only); (try k_fold))
  trivial
theorem trans_call1 {g : Heap} {tk1 tk2 tk3 : Tok} (G : Gh g s.heap [(92, tabObj #[])]) (CH : CodeHd g 96 92) (h2 : tk2 ≠ 0) (h3 : tk3 ≠ 0) (h23 : tk3 ≠ tk2)
   (X : (hd.heap_1 w.params).In g) (T : Top p loose mean mg mb g) (hdp : dp + 5 < recursionLimit) (hun : un + 300 < cLine)
   (hret : ∀ h' tk' D k its tb, Gh g h' [(D, W.listOf its k), (92, tabObj tb)] → @Ne Nat D 92 → StrsAre its.toList ([Pt.any, Pt.dot].map Pt.str) → Q (.ref D) {s with heap := h', toks := tk'}) :
   wpAny (model PP w) (Ar dp un fr gd) (call (.ref 97) [.str (Str.ofString "*.") tk1, .str (Str.ofString "*") tk2, .str (Str.ofString "?") tk3]) Q E s := by
  refine wpAny_call ?_
  k_dflt ktr_enter
  k_steps
  (with_reducible rename Fr _ _ _ _ => kF)
  (with_reducible rename News _ _ _ _ => kN)
  try dsimp only
  refine hret _ _ _ _ _ _ (tr_end kF kN (by k_mem) (by k_mem)) (by first | assumption | (simp only [ne_eq] at *; omega)) ?_
  exact .cons _ _ (.cons _ _ .nil)
theorem trans_call2 {g : Heap} {tk1 tk2 tk3 : Tok} (G : Gh g s.heap [(92, tabObj #[])]) (CH : CodeHd g 96 92) (h2 : tk2 ≠ 0) (h3 : tk3 ≠ 0) (h23 : tk3 ≠ tk2)
   (X : (hd.heap_1 w.params).In g) (T : Top p loose mean mg mb g) (hdp : dp + 5 < recursionLimit) (hun : un + 300 < cLine)
   (hret : ∀ h' tk' D k its tb, Gh g h' [(D, W.listOf its k), (92, tabObj tb)] → @Ne Nat D 92 → StrsAre its.toList ([Pt.one].map Pt.str) → Q (.ref D) {s with heap := h', toks := tk'}) :
   wpAny (model PP w) (Ar dp un fr gd) (call (.ref 97) [.str (Str.ofString "?") tk1, .str (Str.ofString "*") tk2, .str (Str.ofString "?") tk3]) Q E s := by
  refine wpAny_call ?_
  k_dflt ktr_enter
  k_steps
  (with_reducible rename Fr _ _ _ _ => kF)
  (with_reducible rename News _ _ _ _ => kN)
  try dsimp only
  refine hret _ _ _ _ _ _ (tr_end kF kN (by k_mem) (by k_mem)) (by first | assumption | (simp only [ne_eq] at *; omega)) ?_
  exact .cons _ _ .nil
theorem trans_call4 {g : Heap} {tk1 tk2 tk3 : Tok} (G : Gh g s.heap [(92, tabObj #[])]) (CH : CodeHd g 96 92) (h2 : tk2 ≠ 0) (h3 : tk3 ≠ 0) (h23 : tk3 ≠ tk2)
   (X : (hd.heap_1 w.params).In g) (T : Top p loose mean mg mb g) (hdp : dp + 5 < recursionLimit) (hun : un + 300 < cLine)
   (hret : ∀ h' tk' D k its tb, Gh g h' [(D, W.listOf its k), (92, tabObj tb)] → @Ne Nat D 92 → StrsAre its.toList ([Pt.one, Pt.any].map Pt.str) → Q (.ref D) {s with heap := h', toks := tk'}) :
   wpAny (model PP w) (Ar dp un fr gd) (call (.ref 97) [.str (Str.ofString "?*") tk1, .str (Str.ofString "*") tk2, .str (Str.ofString "?") tk3]) Q E s := by
  refine wpAny_call ?_
  k_dflt ktr_enter
  k_steps
  (with_reducible rename Fr _ _ _ _ => kF)
  (with_reducible rename News _ _ _ _ => kN)
  try dsimp only
  refine hret _ _ _ _ _ _ (tr_end kF kN (by k_mem) (by k_mem)) (by first | assumption | (simp only [ne_eq] at *; omega)) ?_
  exact .cons _ _ (.cons _ _ .nil)
theorem rows_B16_3 : True := by
  k_with "formatField str" => ((refine formatField_str_tk ?_); intro tq' tkq htkq; (try dsimp only at htkq))
  k_with "exec If" => ((with_reducible refine If_tk ?_); try dsimp only)
  k_with "execs cons" => ((with_reducible refine execs_cons_tk ?_); (try dsimp only); try k_fold)
  k_with "mine k_steps" => ((try k_unmd); (try k_fold); repeat' (first | (k_unfold; (try dsimp only)) | (with_reducible refine (fun (tk : Nat) (htk : @LE.le Nat _ _ tk) => ?_); try dsimp only at htk) | walk1 | (dsimp only; walk1) | (leave1; walk_say "STEP leave1"; try dsimp only) | fail "no step"))
  k_with "compareOp IsNot" => (refine' isNot_strs ?z122 ?z123 ?z124 ?z125 ?_; (case z122 => show @Ne Nat _ _; omega); (case z123 => assumption); (case z124 => show @Ne Nat _ _; omega); (case z125 => decide +kernel))
  trivial
theorem trans_call3 {g : Heap} {tk1 tk2 tk3 : Tok} (G : Gh g s.heap [(92, tabObj #[])]) (CH : CodeHd g 96 92) (h2 : tk2 ≠ 0) (h3 : tk3 ≠ 0) (h23 : tk3 ≠ tk2) (h20 : @LT.lt Nat _ tk2 s.toks)
   (X : (hd.heap_1 w.params).In g) (T : Top p loose mean mg mb g) (hdp : dp + 5 < recursionLimit) (hun : un + 300 < cLine)
   (hret : ∀ h' tk' D k its tb, Gh g h' [(D, W.listOf its k), (92, tabObj tb)] → @Ne Nat D 92 → StrsAre its.toList ([Pt.na, Pt.any].map Pt.str) → Q (.ref D) {s with heap := h', toks := tk'}) :
   wpAny (model PP w) (Ar dp un fr gd) (call (.ref 97) [.str (Str.ofString "[!a]*") tk1, .str (Str.ofString "*") tk2, .str (Str.ofString "?") tk3]) Q E s := by
  refine wpAny_call ?_
  k_dflt ktr_enter
  k_steps
  (with_reducible rename Fr _ _ _ _ => kF)
  (with_reducible rename News _ _ _ _ => kN)
  try dsimp only
  refine hret _ _ _ _ _ _ (tr_end kF kN (by k_mem) (by k_mem)) (by first | assumption | (simp only [ne_eq] at *; omega)) ?_
  exact .cons _ _ (.cons _ _ .nil)
end
end Mine

end F_B16
section F_P1
open PySem PySem.Spec PySem.W PySem.Calls PyProof.Rows
namespace Mine
abbrev abc : List Nat := [97, 98, 46, 34, 32, 92, 10]
theorem ws_abc : ∀ c ∈ abc, ws c = true → c = 32 ∨ c = 10 := by decide
theorem sg_in (n : Int) (k : Int) (h : 0 < k) : sg ((n.fdiv k).fmod 7) ∈ abc := by
  have h1 := fmod_rng (n.fdiv k) 7 (by decide)
  generalize (n.fdiv k).fmod 7 = j at *
  have : j = 0 ∨ j = 1 ∨ j = 2 ∨ j = 3 ∨ j = 4 ∨ j = 5 ∨ j = 6 := or7 h1.1 h1.2
  rcases this with rfl | rfl | rfl | rfl | rfl | rfl | rfl <;> decide
theorem letters_in (n : Int) : ∀ c ∈ letters n, c ∈ abc := by
  intro c hc
  simp only [letters, List.mem_cons, List.not_mem_nil, or_false] at hc
  rcases hc with rfl | rfl | rfl
  · exact sg_in n 3 (by decide)
  · exact sg_in n 21 (by decide)
  · exact sg_in n 147 (by decide)
theorem wordL_in (n : Int) : ∀ c ∈ wordL n, c ∈ abc := fun c hc => letters_in n c (List.mem_of_mem_take hc)
theorem quo_esc : ∀ (l tok r : List Nat), quo tok (l.flatMap escq ++ 34 :: r) = (tok ++ l, r)
  | [], tok, r => by simp [quo34]
  | c :: l, tok, r => by
    rw [List.flatMap_cons, List.append_assoc]
    unfold escq
    by_cases h : c = 34 ∨ c = 92
    · rw [if_pos h, List.cons_append, List.cons_append, List.nil_append, quo92]
      have := quo_esc l (tok ++ [c]) r
      simp only [List.head?_cons, Option.toList_some, List.tail_cons]
      unfold escq at this
      rw [this]
      simp
    · rw [if_neg h, List.cons_append, List.nil_append, quoc _ _ _ (by simp; omega) (by simp; omega)]
      have := quo_esc l (tok ++ [c]) r
      unfold escq at this
      rw [this]
      simp
theorem bar_bare (n : Int) : ∀ (l tok : List Nat) (k s : Nat) (r : List Nat), 1 ≤ k → ws s = true → (∀ c ∈ l, c ∈ abc) → bar tok (bareL n k l ++ s :: r) = (tok ++ l, r)
  | [], tok, k, s, r, _, hs, _ => by simp [bareL, barw _ _ _ hs]
  | c :: l, tok, k, s, r, hk, hs, hc => by
    have ih := bar_bare n l (tok ++ [c]) (k + 1) s r (by omega) hs (fun d hd => hc d (.tail _ hd))
    have hca := hc c (.head _)
    rw [bareL, List.append_assoc]
    by_cases h : sh n k c = true
    · rw [if_pos h, List.cons_append, List.cons_append, List.nil_append, bar92]
      simp only [List.head?_cons, Option.toList_some, List.tail_cons]
      rw [ih]; simp
    · rw [if_neg h, List.cons_append, List.nil_append]
      have h2 : c ≠ 32 ∧ c ≠ 92 ∧ c ≠ 10 := by
        simp only [sh, Bool.or_eq_true, beq_iff_eq] at h
        refine ⟨?_, ?_, ?_⟩ <;> (intro e; exact h (.inl (.inr (by simp [e]))))
      rw [barc _ _ _ (by cases e : ws c with | false => rfl | true => exact ((ws_abc c hca e).elim h2.1 h2.2.2).elim) (beq_eq_false_iff_ne.mpr h2.2.1), ih]
      simp
theorem tokn_ws : ∀ (p r : List Nat), (∀ c ∈ p, ws c = true) → tokn (p ++ r) = tokn r
  | [], r, _ => rfl
  | c :: p, r, h => by
    rw [List.cons_append, tokn, if_pos (h c (.head _)), tokn_ws p r fun d hd => h d (.tail _ hd)]
theorem tokn_bare (n : Int) (c : Nat) (l : List Nat) (s : Nat) (r : List Nat) (hs : ws s = true) (hc : ∀ d ∈ c :: l, d ∈ abc) : tokn (bareL n 0 (c :: l) ++ s :: r) = (c :: l, r) := by
  have ih := bar_bare n l [c] 1 s r (by omega) hs (fun d hd => hc d (.tail _ hd))
  have hca := hc c (.head _)
  rw [bareL, List.append_assoc]
  by_cases h : sh n 0 c = true
  · rw [if_pos h, List.cons_append, List.cons_append, List.nil_append, tokn, if_neg (by decide), if_neg (by decide), if_pos (by decide)]
    simp only [List.head?_cons, Option.toList_some, List.tail_cons, Nat.zero_add]
    rw [ih]; simp
  · rw [if_neg h, List.cons_append, List.nil_append]
    have h2 : c ≠ 32 ∧ c ≠ 92 ∧ c ≠ 10 ∧ c ≠ 34 := by
      simp only [sh, Bool.or_eq_true, beq_iff_eq] at h
      refine ⟨?_, ?_, ?_, ?_⟩
      · intro e; exact h (.inl (.inr (by simp [e])))
      · intro e; exact h (.inl (.inr (by simp [e])))
      · intro e; exact h (.inl (.inr (by simp [e])))
      · intro e; exact h (.inr (by simp [e]))
    rw [tokn, if_neg (fun e => (ws_abc c hca e).elim h2.1 h2.2.2.1), if_neg (fun e => h2.2.2.2 (eq_of_beq e)), if_neg (fun e => h2.2.1 (eq_of_beq e)), Nat.zero_add, ih]
    simp
/-- what is left of the file: white space and the words of the numbers -/
noncomputable def Rest (cs : List Nat) (ns : List Int) : Prop := ∃ p, (∀ c ∈ p, ws c = true) ∧ p.length ≤ 1 ∧ cs = p ++ ns.flatMap writtenL
theorem sepq_len (n : Int) : (sepq n).length ≤ 1 := by
  unfold sepq
  generalize ((n.fdiv 4).fmod 3).toNat = j
  match j with
  | 0 | 1 | 2 => simp
  | j + 3 => simp
theorem sepq_ws (n : Int) : ∀ c ∈ sepq n, ws c = true := by
  unfold sepq
  generalize ((n.fdiv 4).fmod 3).toNat = j
  match j with
  | 0 | 1 | 2 => decide
  | j + 3 => simp
theorem sepb_ws (n : Int) : ∃ s r, sepb n = s :: r ∧ ws s = true ∧ r.length ≤ 1 ∧ ∀ c ∈ r, ws c = true := by
  unfold sepb
  have h1 := fmod_rng (n.fdiv 4) 3 (by decide)
  generalize (n.fdiv 4).fmod 3 = j at *
  have : j = 0 ∨ j = 1 ∨ j = 2 := by omega
  rcases this with rfl | rfl | rfl
  · exact ⟨32, [], rfl, rfl, by simp, by simp⟩
  · exact ⟨10, [], rfl, rfl, by simp, by simp⟩
  · exact ⟨9, [13], rfl, rfl, by simp, by decide⟩
theorem wordL_cons (n : Int) : ∃ c l, wordL n = c :: l := by
  have := (wordL_len n).1
  cases h : wordL n with
  | nil => rw [h] at this; simp at this
  | cons c l => exact ⟨c, l, rfl⟩
theorem tok_nil {cs : List Nat} (h : Rest cs []) : tokn cs = ([], []) := by
  obtain ⟨p, hp, hp1, rfl⟩ := h
  rw [tokn_ws _ _ hp]; rfl
theorem tok_cons {cs : List Nat} {n : Int} {r : List Int} (h : Rest cs (n :: r)) : (tokn cs).1 = wordL n ∧ Rest (tokn cs).2 r := by
  obtain ⟨p, hp, hp1, rfl⟩ := h
  rw [tokn_ws _ _ hp, List.flatMap_cons, writtenL]
  by_cases h1 : n.fmod 4 = 1
  · rw [if_pos h1]
    simp only [List.append_assoc, List.cons_append, List.nil_append]
    rw [tokn, if_neg (by decide), if_pos (by decide), quo_esc]
    exact ⟨by simp, sepq n, sepq_ws n, sepq_len n, rfl⟩
  · rw [if_neg h1]
    obtain ⟨c, l, hw⟩ := wordL_cons n
    obtain ⟨s, t, hs, h2, h4, h3⟩ := sepb_ws n
    rw [hs, hw, List.append_assoc, List.cons_append, tokn_bare n c l s _ h2 (by rw [← hw]; exact wordL_in n)]
    exact ⟨rfl, t, h3, h4, rfl⟩
theorem rest_all (ns : List Int) : Rest (ns.flatMap writtenL) ns := ⟨[], by simp, by simp, rfl⟩
end Mine

end F_P1
section F_P2
open PySem PySem.Spec PySem.W PySem.Calls PyProof.Rows
namespace Mine
/-- the four patterns: the parts and the items -/
noncomputable def ptsOf : Nat → List Pt | 0 => [.any, .dot] | 1 => [.one] | 2 => [.na, .any] | _ => [.one, .any]
noncomputable def itsOf : Nat → List It | 0 => [.any, .dot] | 1 => [.one] | 2 => [.nota, .any] | _ => [.one, .any]
noncomputable def agree (k : Nat) (nm : List Nat) : Bool := decide (nm.length ∈ reachL nm (ptsOf k)) == fitsL (itsOf k) nm
theorem agree1 : (abc.all fun a => (List.range 4).all fun k => agree k [a]) = true := by decide +kernel
theorem agree2 : (abc.all fun a => abc.all fun b => (List.range 4).all fun k => agree k [a, b]) = true := by decide +kernel
theorem agree3 : (abc.all fun a => abc.all fun b => abc.all fun c => (List.range 4).all fun k => agree k [a, b, c]) = true := by decide +kernel
theorem takes_fits {k : Nat} (hk : k < 4) {nm : List Nat} (h1 : 1 ≤ nm.length) (h3 : nm.length ≤ 3) (hc : ∀ c ∈ nm, c ∈ abc) : decide (nm.length ∈ reachL nm (ptsOf k)) = fitsL (itsOf k) nm := by
  have key : agree k nm = true := by
    match nm, h1, h3, hc with
    | [a], _, _, hc =>
      have := List.all_eq_true.mp agree1 a (hc a (by simp))
      exact List.all_eq_true.mp this k (List.mem_range.mpr hk)
    | [a, b], _, _, hc =>
      have := List.all_eq_true.mp agree2 a (hc a (by simp))
      have := List.all_eq_true.mp this b (hc b (by simp))
      exact List.all_eq_true.mp this k (List.mem_range.mpr hk)
    | [a, b, c], _, _, hc =>
      have := List.all_eq_true.mp agree3 a (hc a (by simp))
      have := List.all_eq_true.mp this b (hc b (by simp))
      have := List.all_eq_true.mp this c (hc c (by simp))
      exact List.all_eq_true.mp this k (List.mem_range.mpr hk)
  exact eq_of_beq key
end Mine

end F_P2
section F_P3
open PySem PySem.Spec PySem.W PySem.Calls PyProof.Rows
namespace Mine
theorem ltS_iff {x y : PySem.Str} : ltS x y = true ↔ x.cps.toList < y.cps.toList := by simp [ltS]
theorem ltS_irr (x : PySem.Str) : ltS x x = false := by
  simp only [ltS, decide_eq_false_iff_not]; exact List.lt_irrefl _
theorem ltS_trans {x y z : PySem.Str} (h1 : ltS x y = true) (h2 : ltS y z = true) : ltS x z = true := ltS_iff.mpr (List.lt_trans (ltS_iff.mp h1) (ltS_iff.mp h2))
theorem ltS_asy {x y : PySem.Str} (h1 : ltS x y = true) : ltS y x = false := by
  cases h : ltS y x with
  | false => rfl
  | true => have := ltS_trans h1 h; rw [ltS_irr] at this; cases this
theorem ltS_ne {x y : PySem.Str} (h1 : ltS x y = true) : x ≠ y := by
  rintro rfl; rw [ltS_irr] at h1; cases h1
theorem ltS_eq {x y : PySem.Str} (h1 : ltS x y = false) (h2 : ltS y x = false) : x = y := by
  simp only [ltS, decide_eq_false_iff_not] at h1 h2
  have h1 := List.not_lt.mp h1
  have h2 := List.not_lt.mp h2
  exact str_ext (List.le_antisymm h2 h1)
theorem ltS_le {x y z : PySem.Str} (h1 : ltS x y = true) (h2 : ltS z y = false) : ltS x z = true := by
  cases h : ltS x z with
  | true => rfl
  | false =>
    cases h3 : ltS y z with
    | true => rw [ltS_trans h1 h3] at h; cases h
    | false => rw [ltS_eq h2 h3, h1] at h; cases h
abbrev Srt (l : List PySem.Str) : Prop := l.Pairwise fun a b => ltS b a = false
noncomputable def okA (pre ts : List PySem.Str) (x : PySem.Str) : Bool := !(ts.any fun y => y == x) && (!(pre.any fun y => y == x) || decide (ts.filter (fun y => ltS x y) = []))
noncomputable def aloneG (pre ts : List PySem.Str) : List PySem.Str → List PySem.Str
  | [] => []
  | x :: r => if okA pre ts x then x :: aloneG (pre ++ [x]) ts r else aloneG (pre ++ [x]) ts r
theorem okA_mem {pre ts : List PySem.Str} {x : PySem.Str} (h : x ∈ ts) : okA pre ts x = false := by
  have : (ts.any fun y => y == x) = true := List.any_eq_true.mpr ⟨x, h, beq_self_eq_true x⟩
  simp [okA, this]
theorem okA_dup {pre ts : List PySem.Str} {x t : PySem.Str} (h : x ∈ pre) (ht : t ∈ ts) (hl : ltS x t = true) : okA pre ts x = false := by
  have h1 : (pre.any fun y => y == x) = true := List.any_eq_true.mpr ⟨x, h, beq_self_eq_true x⟩
  have h2 : ts.filter (fun y => ltS x y) ≠ [] := fun e => by
    have : t ∈ ts.filter (fun y => ltS x y) := List.mem_filter.mpr ⟨ht, hl⟩
    rw [e] at this; cases this
  simp only [okA, h1, Bool.not_true, Bool.false_or, Bool.and_eq_false_iff, decide_eq_false_iff_not]
  exact .inr h2
theorem not_any {ts : List PySem.Str} {x : PySem.Str} (h : x ∉ ts) : (ts.any fun y => y == x) = false := by
  rw [Bool.eq_false_iff]
  intro e
  obtain ⟨y, hy, e⟩ := List.any_eq_true.mp e
  rw [eq_of_beq e] at hy
  exact h hy
theorem okA_new {pre ts : List PySem.Str} {x : PySem.Str} (h : x ∉ ts) (h2 : x ∉ pre) : okA pre ts x = true := by
  simp [okA, not_any h, not_any h2]
theorem okA_last {pre ts : List PySem.Str} {x : PySem.Str} (h : x ∉ ts) (h2 : ∀ t ∈ ts, ltS x t = false) : okA pre ts x = true := by
  have : ts.filter (fun y => ltS x y) = [] := List.filter_eq_nil_iff.mpr fun t ht => by rw [h2 t ht]; decide
  simp [okA, not_any h, this]
theorem alone_skip (ts r : List PySem.Str) : ∀ (l pre : List PySem.Str), (∀ y ∈ l, ∀ s, okA (pre ++ s) ts y = false) → aloneG pre ts (l ++ r) = aloneG (pre ++ l) ts r
  | [], pre, _ => by simp
  | y :: l, pre, h => by
    have h0 : okA pre ts y = false := by have := h y (.head _) []; rwa [List.append_nil] at this
    rw [List.cons_append, aloneG, if_neg (by rw [h0]; decide), alone_skip ts r l (pre ++ [y]) (fun z hz s => by rw [List.append_assoc]; exact h z (.tail _ hz) _), List.append_assoc]; rfl
theorem alone_all (ts : List PySem.Str) : ∀ (l pre : List PySem.Str), (∀ y ∈ l, ∀ p, okA p ts y = true) → aloneG pre ts l = l
  | [], pre, _ => rfl
  | y :: l, pre, h => by
    rw [aloneG, if_pos (h y (.head _) _), alone_all ts l _ fun z hz => h z (.tail _ hz)]
theorem tw_eq {x y : PySem.Str} : ∀ {l : List PySem.Str}, y ∈ l.takeWhile (· == x) → y = x
  | a :: l, h => by
    rw [List.takeWhile_cons] at h
    split at h
    · rename_i e
      rcases List.mem_cons.mp h with rfl | h
      · exact eq_of_beq e
      · exact tw_eq h
    · cases h
theorem tw_split (x : PySem.Str) (l : List PySem.Str) : x :: l = (x :: l.takeWhile (· == x)) ++ l.dropWhile (· == x) := by
  rw [List.cons_append, List.takeWhile_append_dropWhile]
theorem dw_sub {x y : PySem.Str} : ∀ {l : List PySem.Str}, y ∈ l.dropWhile (· == x) → y ∈ l
  | a :: l, h => by
    rw [List.dropWhile_cons] at h
    split at h
    · exact .tail _ (dw_sub h)
    · exact h
theorem srt_dw {x : PySem.Str} : ∀ {l : List PySem.Str}, Srt l → Srt (l.dropWhile (· == x))
  | [], _ => List.Pairwise.nil
  | a :: l, h => by
    rw [List.dropWhile_cons]
    split
    · exact srt_dw (List.pairwise_cons.mp h).2
    · exact h
theorem dw_gt {x : PySem.Str} : ∀ {l : List PySem.Str}, Srt (x :: l) → ∀ y ∈ l.dropWhile (· == x), ltS x y = true
  | [], _, _, hy => by cases hy
  | a :: l, h, y, hy => by
    have h1 := List.pairwise_cons.mp h
    rw [List.dropWhile_cons] at hy
    split at hy
    · rename_i e
      exact dw_gt (List.pairwise_cons.mpr ⟨fun z hz => h1.1 z (.tail _ hz), (List.pairwise_cons.mp h1.2).2⟩) y hy
    · rename_i e
      have ha : ltS x a = true := by
        cases q : ltS x a with
        | true => rfl
        | false => exact absurd (by rw [ltS_eq q (h1.1 a (.head _))]; exact beq_self_eq_true a) e
      rcases List.mem_cons.mp hy with rfl | hy
      · exact ha
      · exact ltS_le ha ((List.pairwise_cons.mp h1.2).1 y hy)
theorem dw_len (x : PySem.Str) (l : List PySem.Str) : (l.dropWhile (· == x)).length ≤ l.length := by
  have := congrArg List.length (List.takeWhile_append_dropWhile (p := (· == x)) (l := l))
  rw [List.length_append] at this; omega
theorem diff_aux : ∀ (n : Nat) (pre xs pz zs : List PySem.Str), xs.length + zs.length < n → Srt xs → Srt zs → (∀ p ∈ pre, ∀ q ∈ xs ++ zs, ltS p q = true) → (∀ p ∈ pz, ∀ q ∈ xs ++ zs, ltS p q = true) →
    diffL n xs zs = (aloneG pre (pz ++ zs) xs, aloneG pz (pre ++ xs) zs)
  | 0, _, _, _, _, h, _, _, _, _ => by omega
  | n + 1, pre, [], pz, zs, _, _, hz, hp, hq => by
    rw [diffL, alone_all _ zs pz fun y hy p => okA_last (fun hm => ?_) fun t ht => ?_]
    · rfl
    · rw [List.append_nil] at hm
      exact ltS_ne (hp y hm y (by simpa using hy)) rfl
    · rw [List.append_nil] at ht
      exact ltS_asy (hp t ht y (by simpa using hy))
  | n + 1, pre, x :: xs, pz, [], _, _, hz, hp, hq => by
    rw [diffL, alone_all _ (x :: xs) pre fun y hy p => okA_last (fun hm => ?_) fun t ht => ?_]
    · rfl
    · rw [List.append_nil] at hm
      exact ltS_ne (hq y hm y (by simpa using hy)) rfl
    · rw [List.append_nil] at ht
      exact ltS_asy (hq t ht y (by simpa using hy))
  | n + 1, pre, x :: xs, pz, z :: zs, hn, hx, hz, hp, hq => by
    have hx1 := List.pairwise_cons.mp hx
    have hz1 := List.pairwise_cons.mp hz
    have lx := dw_len x xs
    have lz := dw_len z zs
    simp only [List.length_cons] at hn
    rw [diffL]
    by_cases h1 : ltS x z = true
    · rw [if_pos h1, diff_aux n (pre ++ x :: xs.takeWhile (· == x)) (xs.dropWhile (· == x)) pz (z :: zs) (by simp only [List.length_cons]; omega) (srt_dw hx1.2) hz (fun p hm q hq' => ?_) (fun p hm q hq' => hq p hm q ?_)]
      · have xz : ∀ q ∈ z :: zs, ltS x q = true := fun q hm => by
          rcases List.mem_cons.mp hm with rfl | hm
          · exact h1
          · exact ltS_le h1 (hz1.1 q hm)
        have nts : x ∉ pz ++ z :: zs := fun hm => by
          rcases List.mem_append.mp hm with hm | hm
          · exact ltS_ne (hq x hm x (by simp)) rfl
          · exact ltS_ne (xz x hm) rfl
        have npre : x ∉ pre := fun hm => ltS_ne (hp x hm x (by simp)) rfl
        have e1 : aloneG pre (pz ++ z :: zs) (x :: xs) = x :: aloneG (pre ++ x :: xs.takeWhile (· == x)) (pz ++ z :: zs) (xs.dropWhile (· == x)) := by
          rw [aloneG, if_pos (okA_new nts npre)]
          congr 1
          conv => lhs; rw [← List.takeWhile_append_dropWhile (p := (· == x)) (l := xs)]
          rw [alone_skip _ _ _ _ (fun y hy s => ?_), List.append_assoc]
          · rfl
          · rw [tw_eq hy]
            exact okA_dup (t := z) (by simp) (by simp) h1
        rw [e1, List.append_assoc, ← tw_split]
      · rcases List.mem_append.mp hm with hm | hm
        · refine hp p hm q ?_
          rcases List.mem_append.mp hq' with hq' | hq'
          · exact List.mem_append_left _ (.tail _ (dw_sub hq'))
          · exact List.mem_append_right _ hq'
        · have : p = x := by
            rcases List.mem_cons.mp hm with rfl | hm
            · rfl
            · exact tw_eq hm
          subst this
          rcases List.mem_append.mp hq' with hq' | hq'
          · exact dw_gt hx q hq'
          · rcases List.mem_cons.mp hq' with rfl | hm
            · exact h1
            · exact ltS_le h1 (hz1.1 q hm)
      · rcases List.mem_append.mp hq' with hq' | hq'
        · exact List.mem_append_left _ (.tail _ (dw_sub hq'))
        · exact List.mem_append_right _ hq'
    · rw [if_neg h1]
      have h1 := Bool.eq_false_iff.mpr h1
      by_cases h2 : ltS z x = true
      · rw [if_pos h2, diff_aux n pre (x :: xs) (pz ++ z :: zs.takeWhile (· == z)) (zs.dropWhile (· == z)) (by simp only [List.length_cons]; omega) hx (srt_dw hz1.2) (fun p hm q hq' => hp p hm q ?_) (fun p hm q hq' => ?_)]
        · have zx : ∀ q ∈ x :: xs, ltS z q = true := fun q hm => by
            rcases List.mem_cons.mp hm with rfl | hm
            · exact h2
            · exact ltS_le h2 (hx1.1 q hm)
          have nts : z ∉ pre ++ x :: xs := fun hm => by
            rcases List.mem_append.mp hm with hm | hm
            · exact ltS_ne (hp z hm z (by simp)) rfl
            · exact ltS_ne (zx z hm) rfl
          have npre : z ∉ pz := fun hm => ltS_ne (hq z hm z (by simp)) rfl
          have e1 : aloneG pz (pre ++ x :: xs) (z :: zs) = z :: aloneG (pz ++ z :: zs.takeWhile (· == z)) (pre ++ x :: xs) (zs.dropWhile (· == z)) := by
            rw [aloneG, if_pos (okA_new nts npre)]
            congr 1
            conv => lhs; rw [← List.takeWhile_append_dropWhile (p := (· == z)) (l := zs)]
            rw [alone_skip _ _ _ _ (fun y hy s => ?_), List.append_assoc]
            · rfl
            · rw [tw_eq hy]
              exact okA_dup (t := x) (by simp) (by simp) h2
          rw [e1, List.append_assoc, ← tw_split]
        · rcases List.mem_append.mp hq' with hq' | hq'
          · exact List.mem_append_left _ hq'
          · exact List.mem_append_right _ (.tail _ (dw_sub hq'))
        · rcases List.mem_append.mp hm with hm | hm
          · refine hq p hm q ?_
            rcases List.mem_append.mp hq' with hq' | hq'
            · exact List.mem_append_left _ hq'
            · exact List.mem_append_right _ (.tail _ (dw_sub hq'))
          · have : p = z := by
              rcases List.mem_cons.mp hm with rfl | hm
              · rfl
              · exact tw_eq hm
            subst this
            rcases List.mem_append.mp hq' with hq' | hq'
            · rcases List.mem_cons.mp hq' with rfl | hm
              · exact h2
              · exact ltS_le h2 (hx1.1 q hm)
            · exact dw_gt hz q hq'
      · rw [if_neg h2]
        have h2 := Bool.eq_false_iff.mpr h2
        obtain rfl := ltS_eq h1 h2
        rw [diff_aux n (pre ++ x :: xs.takeWhile (· == x)) (xs.dropWhile (· == x)) (pz ++ x :: zs.takeWhile (· == x)) (zs.dropWhile (· == x)) (by omega) (srt_dw hx1.2) (srt_dw hz1.2) (fun p hm q hq' => ?_) (fun p hm q hq' => ?_)]
        · have e1 : ∀ (pre ts l : List PySem.Str), x ∈ ts → aloneG pre ts (x :: l) = aloneG (pre ++ x :: l.takeWhile (· == x)) ts (l.dropWhile (· == x)) := by
            intro pre ts l hm
            conv => lhs; rw [tw_split x l]
            rw [alone_skip _ _ _ _ (fun y hy s => ?_)]
            have : y = x := by
              rcases List.mem_cons.mp hy with rfl | hm
              · rfl
              · exact tw_eq hm
            rw [this]
            exact okA_mem hm
          rw [e1 pre _ xs (by simp), e1 pz _ zs (by simp), List.append_assoc, List.append_assoc, ← tw_split, ← tw_split]
        · rcases List.mem_append.mp hm with hm | hm
          · refine hp p hm q ?_
            rcases List.mem_append.mp hq' with hq' | hq'
            · exact List.mem_append_left _ (.tail _ (dw_sub hq'))
            · exact List.mem_append_right _ (.tail _ (dw_sub hq'))
          · have : p = x := by
              rcases List.mem_cons.mp hm with rfl | hm
              · rfl
              · exact tw_eq hm
            subst this
            rcases List.mem_append.mp hq' with hq' | hq'
            · exact dw_gt hx q hq'
            · exact dw_gt hz q hq'
        · rcases List.mem_append.mp hm with hm | hm
          · refine hq p hm q ?_
            rcases List.mem_append.mp hq' with hq' | hq'
            · exact List.mem_append_left _ (.tail _ (dw_sub hq'))
            · exact List.mem_append_right _ (.tail _ (dw_sub hq'))
          · have : p = x := by
              rcases List.mem_cons.mp hm with rfl | hm
              · rfl
              · exact tw_eq hm
            subst this
            rcases List.mem_append.mp hq' with hq' | hq'
            · exact dw_gt hx q hq'
            · exact dw_gt hz q hq'
theorem aloneG_idx (ts hs : List PySem.Str) : ∀ (r pre : List PySem.Str), hs = pre ++ r → ((List.range' pre.length r.length).filter fun i => aloneP hs ts i).map (fun i => hs.getD i Str.empty) = aloneG pre ts r
  | [], pre, _ => by simp [aloneG]
  | x :: r, pre, e => by
    have e2 : hs = (pre ++ [x]) ++ r := by rw [e]; simp
    have ih := aloneG_idx ts hs r (pre ++ [x]) e2
    have hg : hs.getD pre.length Str.empty = x := by rw [e]; simp
    have ht : hs.take pre.length = pre := by rw [e]; simp
    have hk : aloneP hs ts pre.length = okA pre ts x := by simp only [aloneP, okA, hg, ht]
    rw [List.length_append, List.length_cons, List.length_nil] at ih
    rw [List.length_cons, List.range'_succ, aloneG]
    by_cases h : okA pre ts x = true
    · rw [List.filter_cons_of_pos (by rw [hk]; exact h), if_pos h, List.map_cons, hg, ih]
    · rw [List.filter_cons_of_neg (by rw [hk]; exact h), if_neg h, ih]
theorem aloneL_eq (hs ts : List PySem.Str) : aloneL hs ts = aloneG [] ts hs := by
  rw [← aloneG_idx ts hs hs [] rfl]
  unfold aloneL rangeKs
  rw [List.filter_map, List.map_map, List.length_nil, List.range_eq_range']
  simp [Function.comp_def]
theorem diff_alone {xs zs : List PySem.Str} (hx : Srt xs) (hz : Srt zs) : diffL (xs.length + zs.length + 1) xs zs = (aloneL xs zs, aloneL zs xs) := by
  rw [diff_aux _ [] xs [] zs (by omega) hx hz (fun _ h => nomatch h) (fun _ h => nomatch h), aloneL_eq, aloneL_eq]
  rfl
/-- two sorted lists of the same texts are one -/
theorem srt_unique {xs zs : List PySem.Str} (hx : Srt xs) (hz : Srt zs) (hp : xs.Perm zs) : xs = zs := by
  induction xs generalizing zs with
  | nil => exact (List.nil_perm.mp hp).symm
  | cons x xs ih =>
    cases zs with
    | nil => cases (List.perm_nil.mp hp)
    | cons z zs =>
      have hx1 := List.pairwise_cons.mp hx
      have hz1 := List.pairwise_cons.mp hz
      have e : x = z := by
        have m1 : x ∈ z :: zs := hp.subset (.head _)
        have m2 : z ∈ x :: xs := hp.symm.subset (.head _)
        rcases List.mem_cons.mp m1 with e | m1
        · exact e
        · rcases List.mem_cons.mp m2 with e | m2
          · exact e.symm
          · exact ltS_eq (hz1.1 x m1) (hx1.1 z m2) |>.symm ▸ rfl
      subst e
      rw [ih hx1.2 hz1.2 ((List.perm_cons x).mp hp)]
theorem srt_of : ∀ {l : List PySem.Str}, sortedS l = true → Srt l
  | [], _ => List.Pairwise.nil
  | x :: r, h => by
    have key : ∀ (r : List PySem.Str) (x : PySem.Str), risingS x r = true → Srt (x :: r) := by
      intro r
      induction r with
      | nil => intro x _; exact List.pairwise_cons.mpr ⟨(fun _ h => nomatch h), List.Pairwise.nil⟩
      | cons y r ih =>
        intro x h
        have h : (!ltCps y.cps.toList x.cps.toList && risingS y r) = true := h
        rw [Bool.and_eq_true, Bool.not_eq_true', ltCps_eq] at h
        have h2 := ih y h.2
        refine List.pairwise_cons.mpr ⟨fun z hz => ?_, h2⟩
        rcases List.mem_cons.mp hz with rfl | hz
        · exact h.1
        · have h3 := (List.pairwise_cons.mp h2).1 z hz
          cases q : ltS z x with
          | false => rfl
          | true => have := ltS_le q (show ltS y x = false from h.1); rw [h3] at this; cases this
    exact key r x h
end Mine

end F_P3
section F_B17
open PySem PySem.Spec PySem.W PySem.Calls PyProof.Rows
namespace Mine
theorem rows_hdr_B17 : True := by
  k_with_none
  w_top off
  k_with "mine units" => (first | (refine' rm1 ?zuaa ?zuab; (case zuaa => with_reducible assumption); (case zuab => rfl)) | (refine' rm2 ?zuba ?zubb; (case zuba => with_reducible assumption); (case zubb => rfl)) | (refine' rm3 ?zuca ?zucb; (case zuca => with_reducible assumption); (case zucb => rfl)) | (dsimp only [Ar, Around.deeper, Around.in1]; first | (refine' rm1 ?zuda ?zudb; (case zuda => with_reducible assumption); (case zudb => rfl)) | (refine' rm2 ?zuea ?zueb; (case zuea => with_reducible assumption); (case zueb => rfl)) | (refine' rm3 ?zufa ?zufb; (case zufa => with_reducible assumption); (case zufb => rfl)) | (refine' rm4 ?zuga ?zugb; (case zuga => with_reducible assumption); (case zugb => rfl))))
  k_with "mine mem" => (first | with_reducible exact mem_h | with_reducible assumption | (with_reducible refine List.mem_append_left _ ?_; k_extra "mine mem") | (with_reducible refine List.mem_append_right _ ?_; k_extra "mine mem") | (with_reducible refine mem_t ?_; k_extra "mine mem"))
  k_with "mine sub" => (first | exact all_nil | (refine all_cons ?_ ?_; k_extra "mine mem"; k_extra "mine sub") | (refine all_app ?_ ?_; k_extra "mine sub"; k_extra "mine sub") | (intro pq hpq; k_extra "mine mem"))
  k_with "mine room" => (first | with_reducible assumption | (refine' rm1 ?zraa ?zrab; (case zraa => with_reducible assumption); (case zrab => rfl)) | (refine' rm2 ?zrba ?zrbb; (case zrba => with_reducible assumption); (case zrbb => rfl)) | (refine' rm3 ?zrca ?zrcb; (case zrca => with_reducible assumption); (case zrcb => rfl)) | (refine' rm0 ?zrd; (case zrd => with_reducible assumption)) | (refine' leL ?zrea ?zreb; (case zrea => with_reducible assumption); (case zreb => rfl)) | (refine Ne.symm ?zrf; (case zrf => with_reducible assumption)) | (refine Nat.ne_of_lt ?zrg; (case zrg => with_reducible assumption)) | (refine Nat.ne_of_gt ?zrh; (case zrh => with_reducible assumption)) | ((try dsimp only [Ar, Around.deeper, Around.in1]); first | (refine' rm1 ?zria ?zrib; (case zria => with_reducible assumption); (case zrib => rfl)) | (refine' rm2 ?zrja ?zrjb; (case zrja => with_reducible assumption); (case zrjb => rfl)) | (refine' rm3 ?zrka ?zrkb; (case zrka => with_reducible assumption); (case zrkb => rfl)) | (refine' rm4 ?zrla ?zrlb; (case zrla => with_reducible assumption); (case zrlb => rfl)) | omega))
  k_with "mine ne" => (first | with_reducible assumption | (refine Ne.symm ?zna; (case zna => with_reducible assumption)) | (refine Nat.ne_of_lt ?znb; (case znb => with_reducible assumption)) | (refine Nat.ne_of_gt ?znc; (case znc => with_reducible assumption)))
  k_with "mine enter" => (first
  | (refine' enterG ?zqkG ?zqk3 ?zqk5 ?zqk6 ?zqk7 ?zqk8 ?zqk9 ?zqkB ?_ ?zqc2 ?zqc3 ?zqc4 ?zqc5; (case zqkG => k_asm); (case zqk3 => k_asm); (case zqk5 => k_asm); (case zqk6 => k_is); (case zqk7 => k_is); (case zqk8 => ktr_room); (case zqk9 => exact BindsTo.of_eq rfl); (case zqc5 => decide); (case zqkB => exact locs rfl); (case zqc2 => exact rfl); (case zqc3 => exact rfl); (case zqc4 => exact rfl); k_whole; intro Lq' hq' Fq' Nq' l1q; (try k_lt l1q); (try dsimp only); (try k_fold))
  | (refine' enterC ?zqkG ?zqk3 ?zqk5 ?zqk6 ?zqk7 ?zqk8 ?zqk9 ?zqkB ?zqkD ?_ ?zqc2 ?zqc3 ?zqc4; (case zqkG => k_asm); (case zqk3 => k_asm); (case zqk5 => k_asm); (case zqk6 => k_is); (case zqk7 => k_is); (case zqk8 => ktr_room); (case zqk9 => exact BindsTo.of_eq rfl); (case zqkB => exact rfl); (case zqkD => decide +kernel); (case zqc2 => exact rfl); (case zqc3 => exact rfl); (case zqc4 => exact rfl); k_whole; intro Lq' hq' tkq' cellsq' Fq' Nq' Yq' l1q; (try k_lt l1q); k_cells Yq'; (try simp only [List.cons_append, List.nil_append] at Nq'); (try dsimp only); (try k_fold)))
  k_with "mine k_steps" => ((try k_unmd); (try k_fold); repeat' (first | (k_unfold; (try dsimp only)) | ((fail_if_success (k_extra "mine stop")); (fail_if_success (with_reducible show wpAny _ _ (exec (Stmt.For _ _ _ _ _) _) _ _ _)); (fail_if_success (with_reducible show wpAny _ _ (exec (Stmt.While _ _ _ _) _) _ _ _)); (fail_if_success (with_reducible show wpAny _ _ (exec (Stmt.Try _ _ _ _ _) _) _ _ _)); (fail_if_success (with_reducible show wpAny _ _ (eval (PySem.Expr.ListComp _ _ _ _) _) _ _ _)); (fail_if_success (with_reducible show wpAny _ _ (exec (Stmt.Assign _ (PySem.Expr.ListComp _ _ _ _) _) _) _ _ _)); (first | walk1 | (dsimp only; walk1) | (leave1; walk_say "STEP leave1"; try dsimp only))) | fail "no step"))
  k_with "execs cons" => ((try k_made); (try k_gentoks); (with_reducible refine wpAny_execs_cons ?_); (try dsimp only); try k_fold)
  k_with "storeName" => (k_dflt (refine' storeX_L ?z1 ?z2 ?_ ?z3 ?z4; (case z1 => k_asm); (case z2 => k_asm); (case z3 => exact rfl); (case z4 => exact rfl); k_whole); intro hq' Fq' Nq'; (try dsimp only at Fq'); (try k_sweep))
  k_with "eval Name" => (name_kind "local"; k_dflt (refine' nameX_L ?z5 ?z6 ?_ ?z7 ?z8; (case z5 => with_reducible assumption); (case z6 => exact Eq.refl (some _)); (case z7 => exact rfl); (case z8 => exact rfl); k_whole))
  k_with "eval Name" => ((with_reducible show wpAny _ _ (eval (PySem.Expr.Name _ _) (compEnvC _ _ _ _)) _ _ _); k_dflt (first
  | (refine' nm_L ?zqF ?zqv ?_ ?zqa ?zqb ?zqc; (case zqa => rfl); (case zqb => rfl); (case zqc => decide); (case zqF => k_asm); (case zqv => first | with_reducible assumption | assumption | rfl); k_whole)
  | (refine' nm_C ?zqF ?zqhc ?zqho ?zqhd ?_ ?zqa ?zqb ?zqc; (case zqa => rfl); (case zqb => rfl); (case zqc => decide); (case zqF => k_asm); (case zqhc => rfl); (case zqho => first | with_reducible assumption | assumption); (case zqhd => first | with_reducible assumption | assumption); k_whole)
  | (refine' nm_K ?zqF ?zqX ?zqT ?zqe ?_ ?zqg ?zqa ?zqb ?zqc; (case zqa => rfl); (case zqb => rfl); (case zqc => decide); (case zqg => rfl); (case zqF => k_asm); (case zqX => k_asm); (case zqT => k_asm); (case zqe => k_is); k_whole)
  | (refine' nm_B ?zqF ?zqX ?zqT ?zqe ?zqv ?zqn ?_ ?zqg ?zqbn ?zqa ?zqb ?zqc; (case zqa => rfl); (case zqb => rfl); (case zqc => decide); (case zqg => rfl); (case zqbn => rfl); (case zqF => k_asm); (case zqX => k_asm); (case zqT => k_asm); (case zqe => k_is); (case zqv => boot_fast); (case zqn => decide); k_whole)))
  k_with "callWith ref" => (k_here; k_dflt (first
  | ((with_reducible show wpAny _ _ (callWith _ (Value.ref _) _ (backTo _ (starEach (_ :: _) _)) []) _ _ _); first | (refine' callWith_M ?z9 ?z10 ?z11 ?z12 ?_; (case z9 => with_reducible assumption); (case z10 => with_reducible assumption); (case z11 => k_mem); (case z12 => k_is); k_whole) | (refine' callWith_K ?z13 ?z14 ?_; (case z13 => with_reducible assumption); (case z14 => k_is); k_whole))
  | ((with_reducible show wpAny _ _ (callWith _ (Value.ref _) _ (backTo _ (starEach [] _)) []) _ _ _); first | (refine' callWith_M0 ?z15 ?z16 ?_; (case z15 => k_meth); (case z16 => k_is); k_whole; try dsimp only [List.nil_append, List.cons_append]) | (refine' callWith_K0 ?z17 ?z18 ?_; (case z17 => (refine' Frag.In.keeps ?zia (Fr.keep ?zib); (case zib => with_reducible assumption); (case zia => with_reducible assumption))); (case z18 => k_is); k_whole))))
  k_with "subscriptTail" => (k_here; (with_reducible show wpAny _ _ (subscriptTail _ _ (Value.ref _) (Value.int _ _)) _ _ _); (with_unfolding_all refine' item_litK ?z19 ?z20 ?z21 ?z22 ?_ ?z23; (case z19 => is_list); (case z20 => decide); (case z21 => decide); (case z22 => rfl); (case z23 => with_unfolding_all rfl)); k_whole)
  k_with "subscriptTail Name Constant ref int" => (k_here; (with_reducible show wpAny _ _ (subscriptTail _ _ (Value.ref _) (Value.int _ _)) _ _ _); (with_unfolding_all refine' item_litK ?z24 ?z25 ?z26 ?z27 ?_ ?z28; (case z24 => is_list); (case z25 => decide); (case z26 => decide); (case z27 => rfl); (case z28 => with_unfolding_all rfl)); k_whole)
  k_with "eval Name" => (k_here; name_kind "globalImplicit"; k_dflt (first
  | (refine' nameX_K ?zqgF ?zqgX ?zqgT ?zqge ?_ ?zqga ?zqgb; (case zqgF => with_reducible assumption); (case zqgX => with_reducible assumption); (case zqgT => k_asm); (case zqga => rfl); (case zqgb => rfl); (case zqge => k_is); k_whole)
  | (refine' nameX_B ?zqgF ?zqgX ?zqgT ?zqge ?zqgv ?zqgn ?_ ?zqga ?zqgb; (case zqgF => with_reducible assumption); (case zqgX => with_reducible assumption); (case zqgT => k_asm); (case zqga => rfl); (case zqgb => rfl); (case zqge => k_is); (case zqgv => boot_fast); (case zqgn => decide); k_whole)))
  trivial
noncomputable def patOf : Nat → PySem.Str | 0 => Str.ofString "*." | 1 => Str.ofString "?" | 2 => Str.ofString "[!a]*" | _ => Str.ofString "?*"
theorem comp_intsF {f : Int → PySem.Str} {vs : List Value} {ia ys : Array Value} {ns : List Int} (hA : IntsAre ia.toList ns) (hl : vs.length = ia.size) (hv : ∀ (j : Nat) (v : Value), vs[j]? = some v → ia[j]? = some v) (hP : Paired (fun v y => ∃ n t u, v = Value.int n t ∧ y = Value.str (f n) u) (vs.filter fun _ => true) ys.toList) : StrsAre ys.toList (ns.map f) := by
  have e : vs = ia.toList := by
    apply List.ext_getElem?
    intro j
    cases h : vs[j]? with
    | some v => have := hv j v h; rw [← this]; simp
    | none =>
      have : vs.length ≤ j := List.getElem?_eq_none_iff.mp h
      rw [List.getElem?_eq_none (by rw [Array.length_toList]; omega)]
  subst e
  have hP2 := paired_map hP
  clear hl hv hP
  generalize ys.toList = ys at *
  generalize ia.toList = vs at *
  induction hA generalizing ys with
  | nil => cases hP2; exact .nil
  | cons n t h ih =>
    cases hP2 with
    | cons h1 h2 =>
      obtain ⟨n', t', u, e, rfl⟩ := h1
      cases e
      exact .cons _ _ (ih _ h2)
theorem written_len (n : Int) : (writtenL n).length ≤ 10 := by
  unfold writtenL
  split
  · have h1 := flat_le escq (fun c => (escq_len c).2) (wordL n)
    have h2 := (wordL_len n).2
    have h3 : (sepq n).length ≤ 1 := by
      unfold sepq
      generalize ((n.fdiv 4).fmod 3).toNat = j
      match j with
      | 0 | 1 | 2 => simp
      | j + 3 => simp
    simp only [List.length_append, List.length_cons, List.length_nil]; omega
  · have h1 := bareL_le n (wordL n) 0
    have h2 := (wordL_len n).2
    have h3 : (sepb n).length ≤ 2 := by
      unfold sepb
      generalize ((n.fdiv 4).fmod 3).toNat = j
      match j with
      | 0 | 1 | 2 => simp
      | j + 3 => simp
    simp only [List.length_append]; omega
theorem file_len : ∀ ns : List Int, (ns.flatMap writtenL).length ≤ 10 * ns.length
  | [] => by simp
  | n :: r => by
    have := file_len r
    have := written_len n
    simp only [List.flatMap_cons, List.length_append, List.length_cons]; omega
theorem sh_abc {n : Int} {l : List Nat} {k : Nat} (h : ∀ c ∈ l, c ∈ abc) : ∀ c ∈ bareL n k l, c < 128 := by
  induction l generalizing k with
  | nil => simp [bareL]
  | cons d l ih =>
    intro c hc
    have hd := h d (.head _)
    simp only [bareL, List.mem_append] at hc
    rcases hc with hc | hc
    · have hd2 : d < 128 := by
        simp only [List.mem_cons, List.not_mem_nil, or_false] at hd
        omega
      split at hc
      · simp only [List.mem_cons, List.not_mem_nil, or_false] at hc; omega
      · rw [List.mem_singleton.mp hc]; exact hd2
    · exact ih (fun c hc => h c (.tail _ hc)) c hc
theorem written_low (n : Int) : ∀ c ∈ writtenL n, c < 128 := by
  intro c hc
  have ha := wordL_in n
  unfold writtenL at hc
  split at hc
  · simp only [List.mem_append, List.mem_cons, List.not_mem_nil, or_false, List.mem_flatMap] at hc
    rcases hc with ((h | ⟨d, hd, h⟩) | h) | h
    · omega
    · have := ha d hd
      simp only [List.mem_cons, List.not_mem_nil, or_false] at this
      unfold escq at h
      split at h
      · simp only [List.mem_cons, List.not_mem_nil, or_false] at h; omega
      · rw [List.mem_singleton.mp h]; omega
    · omega
    · have := sepq_ws n c h
      simp only [ws, Bool.or_eq_true, beq_iff_eq] at this; omega
  · rcases List.mem_append.mp hc with h | h
    · exact sh_abc ha c h
    · obtain ⟨s, r, e, h1, _, h2⟩ := sepb_ws n
      rw [e] at h
      have : ws c = true := by
        rcases List.mem_cons.mp h with rfl | h
        · exact h1
        · exact h2 c h
      simp only [ws, Bool.or_eq_true, beq_iff_eq] at this; omega
theorem file_low (ns : List Int) : ∀ c ∈ ns.flatMap writtenL, c < 128 := by
  intro c hc
  obtain ⟨n, _, h⟩ := List.mem_flatMap.mp hc
  exact written_low n c h
theorem file_join (ns : List Int) : Txt.join (Str.ofString "") (ns.map fun n => tx (writtenL n)) = tx (ns.flatMap writtenL) := by
  rw [eq_of_beq (join_plain_closes _ _), show (Str.ofString "") = tx [] from by decide +kernel]
  have := join_empty (ns.map writtenL)
  rw [List.map_map] at this
  exact this
theorem file_size (ns : List Int) (h : ns.length ≤ 100) : ((ns.map fun n => tx (writtenL n)).map (·.length)).sum + (ns.map fun n => tx (writtenL n)).length * (Str.ofString "").length ≤ 16777216 := by
  have key : ∀ l : List Int, ((l.map fun n => tx (writtenL n)).map (·.length)).sum ≤ 10 * l.length := by
    intro l
    induction l with
    | nil => simp
    | cons c r ih =>
      have := written_len c
      simp only [List.map_cons, List.sum_cons, List.length_cons]
      simp only [PySem.Str.length, List.size_toArray] at ih ⊢
      omega
  have := key ns
  rw [show (Str.ofString "").length = 0 from by decide +kernel]
  omega
theorem ints_at {ia : Array Value} {ns : List Int} (hA : IntsAre ia.toList ns) {i : Nat} {v : Value} (h : ia[i]? = some v) : ∃ n u, v = Value.int n u := by
  have h : v ∈ ia.toList := by
    rw [← Array.getElem?_toList] at h
    exact List.mem_of_getElem? h
  generalize ia.toList = vs at *
  induction hA with
  | nil => cases h
  | cons n t _ ih =>
    rcases List.mem_cons.mp h with rfl | h
    · exact ⟨_, _, rfl⟩
    · exact ih h
theorem gh3 {g h : Heap} {L : Addr} {m : PySem.Str → Option Value} {news : List (Addr × Obj)} {p1 p2 p3 : Addr × Obj} (F : Fr g L h m) (N : News g L h news) (h1 : p1 ∈ news) (h2 : p2 ∈ news) (h3 : p3 ∈ news) : Gh g h [p1, p2, p3] :=
  gh_of F N fun p hp => by
    simp only [List.mem_cons, List.not_mem_nil, or_false] at hp
    rcases hp with rfl | rfl | rfl <;> assumption
noncomputable def wS (n : Int) : PySem.Str := tx (wordL n)
noncomputable def rS (n : Int) : PySem.Str := tx (wordL n).reverse
noncomputable def bS (n : Int) : PySem.Str := tx (98 :: wordL n)
/-- the words due -/
noncomputable def dueW (kp : Nat) (ns : List Int) : List PySem.Str := ns.flatMap fun n => if fitsL (itsOf kp) (wordL n) then [wS n, rS n, bS n] else [wS n]
theorem dueW_len (kp : Nat) : ∀ ns : List Int, (dueW kp ns).length ≤ 3 * ns.length
  | [] => by simp [dueW]
  | n :: r => by
    have := dueW_len kp r
    unfold dueW at *
    rw [List.flatMap_cons, List.length_append, List.length_cons]
    split <;> simp only [List.length_cons, List.length_nil] <;> omega
/-- where the reading stands -/
inductive Ph (kp : Nat) (all : List Int) : List Int → List PySem.Str → Int → PySem.Str → List PySem.Str → Nat → Prop
  | word {n r rd} : rd ++ dueW kp (n :: r) = dueW kp all → Ph kp all r rd 0 (wS n) [] (3 * r.length + 3)
  | done {rd} : rd = dueW kp all → Ph kp all [] rd 0 (tx []) [] 0
  | back2 {n r rd} : rd ++ (rS n :: bS n :: dueW kp r) = dueW kp all → Ph kp all r rd 2 (rS n) [bS n] (3 * r.length + 2)
  | back1 {n r rd} : rd ++ (bS n :: dueW kp r) = dueW kp all → Ph kp all r rd 1 (bS n) [] (3 * r.length + 1)
theorem wS_ne (n : Int) : wS n ≠ tx [] := fun e => by
  have h := (wordL_len n).1
  have : wordL n = [] := by simpa [wS, tx] using e
  rw [this] at h; simp at h
theorem rS_ne (n : Int) : rS n ≠ tx [] := fun e => by
  have h := (wordL_len n).1
  have : wordL n = [] := by simpa [rS, tx] using e
  rw [this] at h; simp at h
theorem bS_ne (n : Int) : bS n ≠ tx [] := fun e => by simp [bS, tx] at e
theorem Ph.next {kp : Nat} {all r : List Int} {rd : List PySem.Str} {cs : List Nat} (hR : Rest cs r) (h : rd ++ dueW kp r = dueW kp all) : ∃ r' n', Ph kp all r' rd 0 (tx (tokn cs).1) [] n' ∧ Rest (tokn cs).2 r' ∧ n' ≤ 3 * r.length ∧ r'.length ≤ r.length ∧ (tx (tokn cs).1 = tx [] → (tokn cs).2 = []) := by
  cases r with
  | nil =>
    rw [tok_nil hR]
    exact ⟨[], 0, .done (by simpa [dueW] using h), ⟨[], by simp, by simp, rfl⟩, by simp, by simp, fun _ => rfl⟩
  | cons n r =>
    obtain ⟨h1, h2⟩ := tok_cons hR
    rw [h1]
    exact ⟨r, 3 * r.length + 3, .word h, h2, by simp only [List.length_cons]; omega, by simp, fun e => absurd e (wS_ne n)⟩
theorem Ph.len {kp : Nat} {all r : List Int} {rd : List PySem.Str} {b : Int} {W : PySem.Str} {pbs : List PySem.Str} {n : Nat} (h : Ph kp all r rd b W pbs n) : rd.length ≤ 3 * all.length ∧ pbs.length ≤ 1 := by
  have hd := dueW_len kp all
  cases h with
  | word e => rw [← e, List.length_append] at hd; exact ⟨by omega, by simp⟩
  | done e => rw [← e] at hd; exact ⟨hd, by simp⟩
  | back2 e => rw [← e, List.length_append] at hd; exact ⟨by omega, by simp⟩
  | back1 e => rw [← e, List.length_append] at hd; exact ⟨by omega, by simp⟩
theorem Rest.len {cs : List Nat} {ns : List Int} (h : Rest cs ns) : cs.length ≤ 1 + 10 * ns.length := by
  obtain ⟨p, _, h1, rfl⟩ := h
  have := file_len ns
  rw [List.length_append]; omega
theorem Rest.low {cs : List Nat} {ns : List Int} (h : Rest cs ns) : ∀ c ∈ cs, c < 128 := by
  obtain ⟨p, h0, h1, rfl⟩ := h
  intro c hc
  rcases List.mem_append.mp hc with hc | hc
  · have := h0 c hc
    simp only [ws, Bool.or_eq_true, beq_iff_eq] at this; omega
  · exact file_low ns c hc
/-- the ledger of the reading -/
abbrev TL (w : World) (R x dx pb lst : Addr) (rits : Array Value) (kr : Nat) (k1 k2 k3 k4 : Tok) (ln : Int) (t1 : Tok) (fs : Addr) (tw : Tok) (pits : Array Value) (pk : Nat) (its : Array Value) (kl : Nat) (Z : List (Addr × Obj)) : List (Addr × Obj) :=
  (R, W.listOf rits kr) :: (x, instObj 69 dx) :: (dx, dictOf (lexD w k1 k2 k3 k4 ln t1 fs tw pb) 4) :: (pb, W.listOf pits pk) :: (lst, W.listOf its kl) :: Z
structure Dis (R x dx pb lst : Addr) (Z : List (Addr × Obj)) : Prop where
  rx : @Ne Nat R x
  rd : @Ne Nat R dx
  rp : @Ne Nat R pb
  rl : @Ne Nat R lst
  xd : @Ne Nat x dx
  xp : @Ne Nat x pb
  xl : @Ne Nat x lst
  dp : @Ne Nat dx pb
  dl : @Ne Nat dx lst
  pl : @Ne Nat pb lst
  z : ∀ p ∈ Z, @Ne Nat p.1 R ∧ @Ne Nat p.1 x ∧ @Ne Nat p.1 dx ∧ @Ne Nat p.1 pb ∧ @Ne Nat p.1 lst
inductive TJ (w : World) (R x dx pb lst P fs a : Addr) (k1 k2 k3 k4 tw : Tok) (Z : List (Addr × Obj)) (kp : Nat) (all : List Int) (n : Nat) (m : PySem.Str → Option Value) (news : List (Addr × Obj)) : Prop
  | mk (rits : Array Value) (kr : Nat) (ln : Int) (t1 : Tok) (pits : Array Value) (pk : Nat) (its : Array Value) (kl : Nat) (cs : List Nat) (pbs rd : List PySem.Str) (b : Int) (W : PySem.Str) (r : List Int) (hn : news = TL w R x dx pb lst rits kr k1 k2 k3 k4 ln t1 fs tw pits pk its kl Z) (h1 : StrsAre (Array.toList its) (chs cs)) (h2 : StrsAre (Array.toList pits) pbs) (h3 : StrsAre (Array.toList rits) rd) (h4 : ln + (cs.count 10 : Int) = 1 + ((all.flatMap writtenL).count 10 : Int)) (h5 : Rest cs r) (h6 : Ph kp all r rd b W pbs n) (h7 : r.length ≤ all.length) (h8 : W = tx [] → cs = [])
    (m1 : m "numbers" = some (.ref a)) (m2 : m "lexer" = some (.ref x)) (m3 : m "parts" = some (.ref P)) (m4 : m "read" = some (.ref R)) (m5 : ∃ t, m "back" = some (.int b t)) (m6 : ∃ t, m "word" = some (.str W t))
/-- behind the reading -/
inductive TF (w : World) (R x dx pb lst P fs a : Addr) (k1 k2 k3 k4 tw : Tok) (Z : List (Addr × Obj)) (kp : Nat) (all : List Int) (g : Heap) (L : Addr) (s : Shared) (f : Flow) (s' : Shared) : Prop
  | mk (hf : f = .next) (h' : Heap) (tk : Nat) (m : PySem.Str → Option Value) (rits : Array Value) (kr : Nat) (t1 : Tok) (pits : Array Value) (pk : Nat) (its : Array Value) (kl : Nat) (hs : s' = { s with heap := h', toks := tk }) (F : Fr g L h' m) (N : News g L h' (TL w R x dx pb lst rits kr k1 k2 k3 k4 (1 + ((all.flatMap writtenL).count 10 : Int)) t1 fs tw pits pk its kl Z)) (hr : StrsAre (Array.toList rits) (dueW kp all))
    (m1 : m "numbers" = some (.ref a)) (m2 : m "lexer" = some (.ref x)) (m3 : m "read" = some (.ref R))
theorem getHd {g h : Heap} {L R : Addr} {o1 : Obj} {r : List (Addr × Obj)} (N : News g L h ((R, o1) :: r)) : ∃ R' : Addr, R' = R := ⟨_, rfl⟩
theorem ne_false {x : PySem.Str} (h : (x != Str.ofString "") = false) : x = tx [] := by
  rw [bne_eq_false_iff_eq] at h
  rw [h]; decide +kernel
theorem gtk {h : Heap} {m : PySem.Str → Option Value} {g : Heap} {L : Addr} (_F : Fr g L h m) : True := trivial
theorem dueW_no {kp : Nat} {n : Int} {r : List Int} (h : fitsL (itsOf kp) (wordL n) = false) : dueW kp (n :: r) = wS n :: dueW kp r := by
  unfold dueW
  rw [List.flatMap_cons, if_neg (by rw [h]; decide)]; rfl
theorem dueW_yes {kp : Nat} {n : Int} {r : List Int} (h : fitsL (itsOf kp) (wordL n) = true) : dueW kp (n :: r) = wS n :: rS n :: bS n :: dueW kp r := by
  unfold dueW
  rw [List.flatMap_cons, if_pos h]; rfl
theorem pts_len (k : Nat) : (ptsOf k).length ≤ 10 := by unfold ptsOf; split <;> simp
theorem wordL_low (n : Int) : ∀ c ∈ wordL n, c < 128 := fun c hc => by
  have := wordL_in n c hc
  simp only [List.mem_cons, List.not_mem_nil, or_false] at this; omega
theorem strs_push {its : Array Value} {rd : List PySem.Str} {y : PySem.Str} {t : Tok} (h : StrsAre its.toList rd) : StrsAre (its.push (.str y t)).toList (rd ++ [y]) := by
  rw [Array.toList_push]; exact strs_app h (.cons _ _ .nil)
theorem slice_rev (n : Int) (t : Tok) : Txt.sliceBy (wS n) none none (-1, t) = rS n := by
  have h2 : (wordL n).length = 1 ∨ (wordL n).length = 2 ∨ (wordL n).length = 3 := orN (wordL_len n).1 (wordL_len n).2
  unfold wS rS
  generalize wordL n = l at *
  match l, h2 with
  | [a], _ =>
    show (⟨((Builtin.Str.strSliceIndices none none (-1) 1).filterMap ((tx [a]).cps[·]?)).toArray⟩ : PySem.Str) = _
    rw [show Builtin.Str.strSliceIndices none none (-1) 1 = [0] from by decide +kernel]; rfl
  | [a, b], _ =>
    show (⟨((Builtin.Str.strSliceIndices none none (-1) 2).filterMap ((tx [a, b]).cps[·]?)).toArray⟩ : PySem.Str) = _
    rw [show Builtin.Str.strSliceIndices none none (-1) 2 = [1, 0] from by decide +kernel]; rfl
  | [a, b, d], _ =>
    show (⟨((Builtin.Str.strSliceIndices none none (-1) 3).filterMap ((tx [a, b, d]).cps[·]?)).toArray⟩ : PySem.Str) = _
    rw [show Builtin.Str.strSliceIndices none none (-1) 3 = [2, 1, 0] from by decide +kernel]; rfl
theorem b_word (n : Int) : Str.ofString "b" ++ wS n = bS n := by
  rw [show Str.ofString "b" = tx [98] from by decide +kernel, wS, tx_append]; rfl
theorem lst_ne {g h : Heap} {L a : Addr} {l : List Env} {frs news : List (Addr × Obj)} {its : Array Value} {k : Nat} (N : News g L h news) (Fs : TI.Frs l frs) (hf : ∀ p ∈ frs, p ∈ news) (ha : (a, W.listOf its k) ∈ news) : a ∉ frs.map (·.1) := fun hm => by
  obtain ⟨p, hp, e⟩ := List.mem_map.mp hm
  obtain ⟨es, ep, hd⟩ := TI.Frs.dict Fs p hp
  have h1 := (N p (hf p hp)).1
  have h2 := (N _ ha).1
  rw [e] at h1
  have e2 : p.2 = W.listOf its k := Option.some.inj (h1.symm.trans h2)
  rw [e2] at hd
  cases hd
theorem srt_len {S1 : List PySem.Str} {l : List PySem.Str} (h : S1.Perm l) : S1.length = l.length := h.length_eq
theorem frs_cons {env : Env} {l : List Env} {L : Addr} {oL : Obj} {frs : List (Addr × Obj)} (hk : env.scope.kind ≠ .module) (hf : env.frame = some L) (hd : ∃ es ep, oL.data = .dict es ep) (Fs : TI.Frs l frs) : TI.Frs (env :: l) ((L, oL) :: frs) := ⟨hk, hf, hd, Fs⟩
section
variable {w : World} {p : Program} {loose : List PySem.Str} {mean : ExcName → Option Value} {mg mb : PySem.Str → Option Value}
   {dp un : Nat} {fr : Option (List Env)} {gd : Option (List Code)} {s : Shared} {Q : Value → Shared → Prop} {E : Value → Shared → Prop}
theorem fill_B17 (w : World) (h : Heap) (X : (hd.heap_1 w.params).In h) : PySem.Challenge.rw_in0215_01.row.prog = PP ∧ (hd.heap_1 w.params).In h := by
  k_fill
  exact ⟨rfl, X⟩
theorem trans_any {k : Nat} (hk : k < 4) {g : Heap} {tk1 tk2 tk3 : Tok} (G : Gh g s.heap [(92, tabObj #[])]) (CH : CodeHd g 96 92) (h2 : tk2 ≠ 0) (h3 : tk3 ≠ 0) (h23 : tk3 ≠ tk2) (h20 : @LT.lt Nat _ tk2 s.toks)
   (X : (hd.heap_1 w.params).In g) (T : Top p loose mean mg mb g) (hdp : dp + 5 < recursionLimit) (hun : un + 300 < cLine)
   (hret : ∀ h' tk' D k' its tb, Gh g h' [(D, W.listOf its k'), (92, tabObj tb)] → @Ne Nat D 92 → StrsAre its.toList ((ptsOf k).map Pt.str) → Q (.ref D) {s with heap := h', toks := tk'}) :
   wpAny (model PP w) (Ar dp un fr gd) (call (.ref 97) [.str (patOf k) tk1, .str (Str.ofString "*") tk2, .str (Str.ofString "?") tk3]) Q E s := by
  match k, hk with
  | 0, _ => exact trans_call1 G CH h2 h3 h23 X T hdp hun hret
  | 1, _ => exact trans_call2 G CH h2 h3 h23 X T hdp hun hret
  | 2, _ => exact trans_call3 G CH h2 h3 h23 h20 X T hdp hun hret
  | 3, _ => exact trans_call4 G CH h2 h3 h23 X T hdp hun hret
theorem push_call {g : Heap} {x dx fs pb : Addr} {pits : Array Value} {n pk k1 k2 k3 k4 t1 tw : Nat} {ln : Int} {y : PySem.Str} {t : Tok}
   (G : Gh g s.heap [(x, instObj 69 dx), (dx, dictOf (lexD w k1 k2 k3 k4 ln t1 fs tw pb) n), (pb, W.listOf pits pk)]) (hne : (@Ne Nat x dx) ∧ (@Ne Nat x pb) ∧ (@Ne Nat dx pb)) (hsz : pits.size ≤ 1000)
   (X : (hd.heap_1 w.params).In g) (T : Top p loose mean mg mb g) (hdp : dp + 2 < recursionLimit) (hun : un + 200 < cLine)
   (hret : ∀ h' tk', Gh g h' [(x, instObj 69 dx), (dx, dictOf (lexD w k1 k2 k3 k4 ln t1 fs tw pb) n), (pb, W.listOf (pits.push (.str y t)) (pk + 1))] → Q .none {s with heap := h', toks := tk'}) :
   wpAny (model PP w) (Ar dp un fr gd) (call (.ref 66) [.ref x, .str y t]) Q E s := by
  obtain ⟨ne1, ne2, ne3⟩ := hne
  refine wpAny_call ?_
  k_dflt ktr_enter
  k_steps
  (with_reducible rename Fr _ _ _ _ => kF)
  (with_reducible rename News _ _ _ _ => kN)
  exact hret _ _ (gh_of kF kN fun p hp => hp)
theorem token_N {g : Heap} {L R x dx pb lst fs : Addr} {m : PySem.Str → Option Value} {O Z : List (Addr × Obj)} {rits its pits : Array Value} {kr kl pk k1 k2 k3 k4 t1 tw : Nat} {ln : Int} {cs : List Nat} {pbs : List PySem.Str}
   (F : Fr g L s.heap m) (N : News g L s.heap (TL w R x dx pb lst rits kr k1 k2 k3 k4 ln t1 fs tw pits pk its kl Z)) (D : Dis R x dx pb lst Z) (SI : StreamIs w fs lst O) (hZO : ∀ p ∈ O, p ∈ Z)
   (hS : StrsAre its.toList (chs cs)) (hP : StrsAre pits.toList pbs) (hl : cs.length ≤ 1000) (hpl : pbs.length ≤ 1000) (hlow : ∀ c ∈ cs, c < 128) (X : (hd.heap_1 w.params).In g) (T : Top p loose mean mg mb g) (hdp : dp + 6 < recursionLimit) (hun : un + 200 < cLine)
   (hret : ∀ its' kl' pits' pk' ln' t1' t' h' tk' tok cs' pbs', (match pbs with | p :: ps => tok = p ∧ cs' = cs ∧ pbs' = ps | [] => tok = tx (tokn cs).1 ∧ cs' = (tokn cs).2 ∧ pbs' = []) → ln' + (cs'.count 10 : Int) = ln + (cs.count 10 : Int) →
     Fr g L h' m → News g L h' (TL w R x dx pb lst rits kr k1 k2 k3 k4 ln' t1' fs tw pits' pk' its' kl' Z) → StrsAre its'.toList (chs cs') → StrsAre pits'.toList pbs' → Q (.str tok t') {s with heap := h', toks := tk'}) :
   wpAny (model PP w) (Ar dp un fr gd) (call (.ref 59) [.ref x]) Q E s := by
  have hr : ∀ p ∈ (R, W.listOf rits kr) :: Z, p.1 ∉ [(x, instObj 69 dx), (dx, dictOf (lexD w k1 k2 k3 k4 ln t1 fs tw pb) 4), (lst, W.listOf its kl), (pb, W.listOf pits pk)].map (·.1) := all_cons (nin4 D.rx D.rd D.rl D.rp) fun p hp => nin4 (D.z p hp).2.1 (D.z p hp).2.2.1 (D.z p hp).2.2.2.2 (D.z p hp).2.2.2.1
  have hi : ∀ p ∈ (R, W.listOf rits kr) :: Z, p ∈ TL w R x dx pb lst rits kr k1 k2 k3 k4 ln t1 fs tw pits pk its kl Z := all_cons (.head _) fun p hp => .tail _ (.tail _ (.tail _ (.tail _ (.tail _ hp))))
  obtain ⟨g1, G1, st1, sub1, back1⟩ := Gh.sub F N (mu := [(x, instObj 69 dx), (dx, dictOf (lexD w k1 k2 k3 k4 ln t1 fs tw pb) 4), (lst, W.listOf its kl), (pb, W.listOf pits pk)]) (by k_extra "mine sub")
  refine token_call G1 ⟨D.xd, D.xl, D.dl, D.xp, D.dp, D.pl.symm⟩ SI (fun p hp => sub1 p (hi p (.tail _ (hZO p hp))) (hr p (.tail _ (hZO p hp)))) hS hP hl hpl hlow (X.keeps st1) (T.keeps st1) hdp hun ?_
  intro its' kl' pits' pk' ln' t1' t' h' tk' tok cs' pbs' hm hc G2 hS' hP'
  obtain ⟨F2, N2, R2⟩ := back1 _ _ G2
  have N3 := R2 _ (fun p hp => ⟨hi p hp, hr p hp⟩)
  exact hret its' kl' pits' pk' ln' t1' t' h' tk' tok cs' pbs' hm hc F2 (newsSub N3 (by k_extra "mine sub")) hS' hP'
theorem push_N {g : Heap} {L R x dx pb lst fs : Addr} {m : PySem.Str → Option Value} {Z : List (Addr × Obj)} {rits its pits : Array Value} {kr kl pk k1 k2 k3 k4 t1 tw : Nat} {ln : Int} {y : PySem.Str} {t : Tok}
   (F : Fr g L s.heap m) (N : News g L s.heap (TL w R x dx pb lst rits kr k1 k2 k3 k4 ln t1 fs tw pits pk its kl Z)) (D : Dis R x dx pb lst Z) (hsz : pits.size ≤ 1000) (X : (hd.heap_1 w.params).In g) (T : Top p loose mean mg mb g) (hdp : dp + 2 < recursionLimit) (hun : un + 200 < cLine)
   (hret : ∀ h' tk', Fr g L h' m → News g L h' (TL w R x dx pb lst rits kr k1 k2 k3 k4 ln t1 fs tw (pits.push (.str y t)) (pk + 1) its kl Z) → Q .none {s with heap := h', toks := tk'}) :
   wpAny (model PP w) (Ar dp un fr gd) (call (.ref 66) [.ref x, .str y t]) Q E s := by
  have hr : ∀ p ∈ (R, W.listOf rits kr) :: (lst, W.listOf its kl) :: Z, p.1 ∉ [(x, instObj 69 dx), (dx, dictOf (lexD w k1 k2 k3 k4 ln t1 fs tw pb) 4), (pb, W.listOf pits pk)].map (·.1) := all_cons (nin3 D.rx D.rd D.rp) (all_cons (nin3 D.xl.symm D.dl.symm D.pl.symm) fun p hp => nin3 (D.z p hp).2.1 (D.z p hp).2.2.1 (D.z p hp).2.2.2.1)
  have hi : ∀ p ∈ (R, W.listOf rits kr) :: (lst, W.listOf its kl) :: Z, p ∈ TL w R x dx pb lst rits kr k1 k2 k3 k4 ln t1 fs tw pits pk its kl Z := by k_extra "mine sub"
  obtain ⟨g1, G1, st1, sub1, back1⟩ := Gh.sub F N (mu := [(x, instObj 69 dx), (dx, dictOf (lexD w k1 k2 k3 k4 ln t1 fs tw pb) 4), (pb, W.listOf pits pk)]) (by k_extra "mine sub")
  refine push_call G1 ⟨D.xd, D.xp, D.dp⟩ hsz (X.keeps st1) (T.keeps st1) hdp hun ?_
  intro h' tk' G2
  obtain ⟨F2, N2, R2⟩ := back1 _ _ G2
  have N3 := R2 _ (fun p hp => ⟨hi p hp, hr p hp⟩)
  exact hret h' tk' F2 (newsSub N3 (by k_extra "mine sub"))
theorem rows_B17_0 : True := by
  k_with "mine k_all" => assumption
  trivial
theorem init_code {R : Result → Shared → Prop} {g : Heap} {x dx fs : Addr}
   (G : Gh g s.heap [(x, instObj 69 dx), (dx, dictOf [] 0)]) (hne : @Ne Nat x dx)
   (X : (hd.heap_1 w.params).In g) (T : Top p loose mean mg mb g) (hdp : dp + 2 < recursionLimit) (hun : un + 200 < cLine)
   (hret : ∀ h' tk' pb k1 k2 k3 k4 t1 tw, Gh g h' [(x, instObj 69 dx), (dx, dictOf (lexD w k1 k2 k3 k4 1 t1 fs tw pb) 4), (pb, W.listOf #[] 0)] → @Ne Nat x pb → @Ne Nat dx pb → R (.ok (.ret .none)) {s with heap := h', toks := tk'}) :
   codeAny (model PP w) (Ar dp un fr gd) (.call (.ref 45) ⟨[.ref x, .ref fs], []⟩) R s := by
  k_dflt ktr_enter
  k_steps
  (with_reducible rename Fr _ _ _ _ => kF)
  (with_reducible rename News _ _ _ _ => kN)
  exact hret _ _ _ _ _ _ _ _ _ (gh3 kF kN (by k_mem) (by k_mem) (by k_mem)) (neN (by ktr_room)) (neN (by ktr_room))
theorem rows_B17_1 : True := by
  k_with "mine stop" => (first | with_reducible show wpAny _ _ (call (Value.builtin "sorted") _) _ _ _ | with_reducible show wpAny _ _ (call (Value.builtin "str.join") _) _ _ _ | with_reducible show wpAny _ _ (call (Value.ref 59) _) _ _ _ | with_reducible show wpAny _ _ (call (Value.ref 66) _) _ _ _ | with_reducible show wpAny _ _ (call (Value.ref 69) _) _ _ _ | with_reducible show wpAny _ _ (call (Value.ref 97) _) _ _ _ | with_reducible show wpAny _ _ (call (Value.ref 104) _) _ _ _ | with_reducible show wpAny _ _ (call (Value.ref 111) _) _ _ _ | with_reducible show wpAny _ _ (call (Value.ref 128) _) _ _ _ | with_reducible show wpAny _ _ (binaryOp Operator.Add (Value.ref _) (Value.ref _)) _ _ _)
  k_with "call ref" => (k_here; (with_reducible show wpAny _ _ (call (Value.ref 118) _) _ _ _); (with_reducible rename Fr _ _ _ _ => kFq); k_dflt (refine' word_call _ _ ?z126 ?z127 ?z128 ?_; (case z126 => exact Frag.In.keeps (by with_reducible assumption) kFq.keep); (case z127 => exact Top.keeps (by with_reducible assumption) kFq.keep); (case z128 => ktr_room); k_whole; intro tq' hq' tkq' kpq'; (have Fq' := kFq.keeps kpq'); clear kFq; (try dsimp only); (try k_fold)))
  k_with "call ref" => (k_here; (with_reducible show wpAny _ _ (call (Value.ref 123) _) _ _ _); (with_reducible rename Fr _ _ _ _ => kFq); k_dflt (refine' written_call _ _ ?z129 ?z130 ?z131 ?_; (case z129 => exact Frag.In.keeps (by with_reducible assumption) kFq.keep); (case z130 => exact Top.keeps (by with_reducible assumption) kFq.keep); (case z131 => ktr_room); k_whole; intro tq' hq' tkq' kpq'; (have Fq' := kFq.keeps kpq'); clear kFq; (try dsimp only); (try k_fold)))
  trivial
theorem told_call {k : Nat} (hk : k < 4) {g : Heap} {l : List Env} {frs : List (Addr × Obj)} {a : Addr} {ia : Array Value} {ns : List Int} {t : Tok} (G : Gh g s.heap ((106, tabObj #[]) :: (92, tabObj #[]) :: frs)) (Fs : TI.Frs l frs) (CH1 : CodeHd g 110 106) (CH2 : CodeHd g 96 92)
   (ha : g.IsList a ia) (hA : IntsAre ia.toList ns) (hlen : ns.length ≤ 11) (hfr : ∀ q ∈ frs, @Ne Nat q.1 106 ∧ @Ne Nat q.1 92)
   (X : (hd.heap_1 w.params).In g) (T : Top p loose mean mg mb g) (hdp : dp + 20 < recursionLimit) (hun : un + 600 < cLine)
   (hret : ∀ h' tk' frs' V R D1 D2 kr kd1 kd2 rits ya yb tv S1 S2 ta tc, TI.SameUp frs frs' → Gh g h' ((V, W.listOf #[.ref R, .int (1 + ((ns.flatMap writtenL).count 10 : Int)) tv, .ref D1, .ref D2] 0) :: (R, W.listOf rits kr) :: (D1, W.listOf ya kd1) :: (D2, W.listOf yb kd2) :: (106, tabObj ta) :: (92, tabObj tc) :: frs') →
     StrsAre rits.toList (dueW k ns) → Srt S1 → S1.Perm (dueW k ns) → Srt S2 → S2.Perm (ns.map word ++ [Str.ofString "A"]) → StrsAre ya.toList (aloneL S1 S2) → StrsAre yb.toList (aloneL S2 S1) → Q (.ref V) {s with heap := h', toks := tk'}) :
   wpAny (model PP w) (Ar dp un (some l) gd) (call (.ref 138) [.ref a, .str (patOf k) t]) Q E s := by
  have hia : ia.size = ns.length := by
    have : ∀ {vs : List Value} {ns : List Int}, IntsAre vs ns → vs.length = ns.length := fun h => by induction h <;> simp_all
    rw [← this hA, Array.length_toList]
  refine wpAny_call ?_
  k_dflt ktr_enter
  refine execs_cons_tk ?_
  try dsimp only
  k_steps
  (with_reducible rename Fr _ _ _ _ => kF)
  (with_reducible rename News _ _ _ _ => kN)
  refine lcomp (fun _ => true) (fun v y => ∃ n t u, v = Value.int n t ∧ y = Value.str (tx (writtenL n)) u) rfl rfl (by decide) rfl (by decide) rfl ?_
  k_steps
  refine ⟨_, _, Src.list _ _ (ha.at fun o e => kF.keep _ _ e), ?_, ?_, ?_, ?_⟩
  · show ia.size ≤ sizeLine
    rw [hia, sizeLine_eq]; omega
  · intros; exact wpAny_tests_nil ⟨rfl, keeps_refl _⟩
  · intro C i v s₃ m₃ E' hP _ hF hm _
    obtain ⟨n, u, rfl⟩ := ints_at hA hP
    have X3 := X.keeps kF.keep
    have T3 := T.keeps kF.keep
    clear kF kN
    k_steps
    (with_reducible rename Fr _ _ _ _ => kF)
    exact EltPost.mk ⟨n, u, _, rfl, rfl⟩ (by assumption)
  · intro D kk h' tk' ys vs hD hk' hl hv hP hK
    have hF := kF.keeps hK
    have hN := news_new kF kN hK hD hk'
    have hS := comp_intsF (f := fun n => tx (writtenL n)) hA hl hv hP
    clear kF kN hK hl hv hP
    k_steps
    refine join_list ⟨_, (hN.get (.head _)), rfl, _, rfl⟩ hS (file_size ns (by ktr_room)) fun t9 k9 => ?_
    rw [file_join]
    have hl9 : (tx (ns.flatMap writtenL)).length ≤ 110 := by
      have := file_len ns
      simp only [PySem.Str.length, List.size_toArray]; omega
    k_steps
    (with_reducible rename Fr _ _ _ _ => kF)
    (with_reducible rename News _ _ _ _ => kN)
    obtain ⟨L, eL⟩ := getL kF
    subst eL
    obtain ⟨g1, G1, st1, sub1, back1⟩ := Gh.sub kF kN (mu := [(106, tabObj #[])]) (fun p hp => by rw [List.mem_singleton.mp hp]; k_mem)
    refine stream_call _ _ (by simp only [PySem.Str.length, List.size_toArray] at hl9 ⊢; omega) G1 (CH1.keeps st1) (X.keeps st1) (T.keeps st1) ?_ ?_
    · ktr_room
    intro fs lst its kl O h2 tk2 tb G2 hO hl106 hS2 SI
    obtain ⟨F2, N2, R2⟩ := back1 _ _ G2
    have N3 := R2 ((92, tabObj #[]) :: frs) (fun p hp => ⟨.tail _ (.tail _ hp), fun hm => by
      have e : p.1 = 106 := by simpa using hm
      rcases List.mem_cons.mp hp with rfl | hp
      · cases e
      · exact (hfr p hp).1 e⟩)
    have g92 := sub1 (92, tabObj #[]) (.tail _ (.tail _ (.head _))) (by simp)
    have gfr : ∀ p ∈ frs, g1.get? p.1 = some p.2 := fun p hp => sub1 p (.tail _ (.tail _ (.tail _ hp))) (by simpa using (hfr p hp).1)
    have gno : ∀ p ∈ O ++ [(lst, W.listOf its kl), (106, tabObj tb)], g1.get? p.1 = none := fun p hp => (G2.at_ p hp).2
    have hZ : ∃ Z, Z = O ++ (106, tabObj tb) :: frs := ⟨_, rfl⟩
    obtain ⟨Z, eZ⟩ := hZ
    have hZ92 : ∀ p ∈ Z, @Ne Nat p.1 92 := fun p hp e => by
      rw [eZ] at hp
      rcases List.mem_append.mp hp with hp | hp
      · have := gno p (List.mem_append_left _ hp); rw [e, g92] at this; cases this
      · rcases List.mem_cons.mp hp with rfl | hp
        · cases e
        · exact (hfr p hp).2 e
    have hZl : ∀ p ∈ Z, @Ne Nat p.1 lst := fun p hp e => by
      rw [eZ] at hp
      rcases List.mem_append.mp hp with hp | hp
      · exact (hO p hp).1 e
      · rcases List.mem_cons.mp hp with rfl | hp
        · exact hl106 e.symm
        · have h1 := gno (lst, W.listOf its kl) (List.mem_append_right _ (.head _))
          have h2 := gfr p hp
          rw [e, h1] at h2; cases h2
    have hl92 : @Ne Nat lst 92 := fun e => by
      have h1 := gno (lst, W.listOf its kl) (List.mem_append_right _ (.head _))
      rw [show (lst, W.listOf its kl).1 = 92 from e, g92] at h1; cases h1
    have N4 : News g L h2 ((lst, W.listOf its kl) :: (92, tabObj #[]) :: Z) := by rw [eZ]; exact newsSub N3 (by k_extra "mine sub")
    have hZO : ∀ p ∈ O, p ∈ Z := fun p hp => by rw [eZ]; exact List.mem_append_left _ hp
    have hZf : ∀ p ∈ frs, p ∈ Z := fun p hp => by rw [eZ]; exact List.mem_append_right _ (.tail _ hp)
    have hZt : (106, tabObj tb) ∈ Z := by rw [eZ]; exact List.mem_append_right _ (.head _)
    clear eZ gno gfr g92 N3 kF kN G1 back1 sub1 R2 N2 G2 hO hl106 st1
    try dsimp only
    k_steps
    k_dflt (refine' call_cls ?k1 ?k2 ?k3 ?k4 ?k5 ?k6 ?_; (case k1 => k_asm); (case k2 => k_asm); (case k3 => k_asm); (case k4 => k_is); (case k5 => k_is); (case k6 => k_is); k_whole; intro x' d' h' F' N' l1 l2; (try k_lt l1); (try k_lt2 l2); (try k_sweep))
    (with_reducible rename Fr _ _ _ _ => kF)
    (with_reducible rename News _ _ _ _ => kN)
    rename @LT.lt Nat _ lst _ ∧ _ => l1
    rename @LT.lt Nat _ _ _ => l2
    obtain ⟨x, dx, ex, edx⟩ := getN kN
    subst ex
    subst edx
    obtain ⟨g1, G1, st1, sub1, back1⟩ := Gh.sub kF kN (mu := [(x, instObj 69 dx), (dx, dictOf [] 0)]) (fun p hp => by
      rcases List.mem_cons.mp hp with rfl | hp
      · exact .head _
      · rw [List.mem_singleton.mp hp]; exact .tail _ (.head _))
    show codeAny _ (Ar (dp + 1 + 1) (un + 3 + 1) _ _) _ _ _
    refine init_code G1 (Nat.ne_of_gt l2) (X.keeps st1) (T.keeps st1) (by ktr_room) (by ktr_room) ?_
    intro h3 tk3 pb k1 k2 k3 k4 t1 tw G2 ne1 ne2
    refine ⟨rfl, ?_⟩
    have hrest : ∀ p ∈ (lst, W.listOf its kl) :: (92, tabObj #[]) :: Z, p.1 ∉ [(x, instObj 69 dx), (dx, dictOf [] 0)].map (·.1) := fun p hp hm => by
      have hlt : @LT.lt Nat _ p.1 dx := by
        rcases List.mem_cons.mp hp with rfl | hp
        · exact l1.1
        rcases List.mem_cons.mp hp with rfl | hp
        · exact l1.2.1
        · exact allLt_ne l1.2.2 p hp
      simp only [List.map_cons, List.map_nil, List.mem_cons, List.not_mem_nil, or_false] at hm
      rcases hm with e | e
      · rw [e] at hlt; exact absurd hlt (Nat.lt_asymm l2)
      · rw [e] at hlt; exact absurd hlt (Nat.lt_irrefl _)
    obtain ⟨F2, N2, R2⟩ := back1 _ _ G2
    have N3 := R2 ((lst, W.listOf its kl) :: (92, tabObj #[]) :: Z) (fun p hp => ⟨.tail _ (.tail _ hp), hrest p hp⟩)
    have hpb : ∀ p ∈ (lst, W.listOf its kl) :: (92, tabObj #[]) :: Z, @Ne Nat p.1 pb := fun p hp e => by
      have h1 := sub1 p (.tail _ (.tail _ hp)) (hrest p hp)
      have h2 := (G2.at_ (pb, W.listOf #[] 0) (.tail _ (.tail _ (.head _)))).2
      rw [e] at h1; rw [h1] at h2; cases h2
    clear kF kN G1 back1 sub1 R2 N2 G2 st1
    try dsimp only
    k_steps
    (with_reducible rename Fr _ _ _ _ => kF)
    rename @LE.le Nat _ _ _ => htk
    rename Nat => tk0
    have htk : @LE.le Nat _ (s.toks + 2) tk0 := htk
    (with_reducible rename News _ _ _ _ => kN)
    have hl1 := l1
    have h92x : @LT.lt Nat _ 92 dx := l1.2.1
    have e1 : ∀ p ∈ ([(x, instObj 69 dx), (dx, dictOf (lexD w k1 k2 k3 k4 1 t1 fs tw pb) 4), (pb, W.listOf #[] 0), (lst, W.listOf its kl)] : List (Addr × Obj)) ++ Z, @Ne Nat p.1 92 := all_cons (Nat.ne_of_gt (Nat.lt_trans h92x l2)) (all_cons (Nat.ne_of_gt h92x) (all_cons (hpb (92, tabObj #[]) (.tail _ (.head _))).symm (all_cons hl92 hZ92)))
    obtain ⟨g2, G2, st2, sub2, back2⟩ := Gh.sub kF kN (mu := [(92, tabObj #[])]) (fun p hp => by rw [List.mem_singleton.mp hp]; exact List.mem_append_right _ (.tail _ (.head _)))
    show wpAny _ (Ar (dp + 1) (un + 3) _ _) _ _ _ _
    refine trans_any hk G2 (CH2.keeps st2) (show @Ne Nat _ _ by ktr_room) (show @Ne Nat _ _ by ktr_room) (show @Ne Nat _ _ by ktr_room) (Nat.lt_succ_of_lt (Nat.lt_succ_self _)) (X.keeps st2) (T.keeps st2) (by ktr_room) (by ktr_room) ?_
    intro h4 tk4 P kp pts tb2 G3 hP92 hPS
    have inn : ∀ p ∈ ([(x, instObj 69 dx), (dx, dictOf (lexD w k1 k2 k3 k4 1 t1 fs tw pb) 4), (pb, W.listOf #[] 0), (lst, W.listOf its kl)] : List (Addr × Obj)) ++ Z, p ∈ [(x, instObj 69 dx), (dx, dictOf (lexD w k1 k2 k3 k4 1 t1 fs tw pb) 4), (pb, W.listOf #[] 0)] ++ (lst, W.listOf its kl) :: (92, tabObj #[]) :: Z := by k_extra "mine sub"
    have n92 : ∀ p ∈ ([(x, instObj 69 dx), (dx, dictOf (lexD w k1 k2 k3 k4 1 t1 fs tw pb) 4), (pb, W.listOf #[] 0), (lst, W.listOf its kl)] : List (Addr × Obj)) ++ Z, p.1 ∉ [((92 : Addr), tabObj #[])].map (·.1) := fun p hp hm => e1 p hp (by simpa using hm)
    obtain ⟨F3, N3, R3⟩ := back2 _ _ G3
    have N5 := R3 _ (fun p hp => ⟨inn p hp, n92 p hp⟩)
    have hPn : ∀ p ∈ ([(x, instObj 69 dx), (dx, dictOf (lexD w k1 k2 k3 k4 1 t1 fs tw pb) 4), (pb, W.listOf #[] 0), (lst, W.listOf its kl)] : List (Addr × Obj)) ++ Z, @Ne Nat p.1 P := fun p hp e => by
      have h1 := sub2 p (inn p hp) (n92 p hp)
      have h2 := (G3.at_ (P, W.listOf pts kp) (.head _)).2
      rw [e] at h1; rw [h1] at h2; cases h2
    have hZ2 : ∃ Z2, Z2 = (P, W.listOf pts kp) :: (92, tabObj tb2) :: Z := ⟨_, rfl⟩
    obtain ⟨Z2, eZ2⟩ := hZ2
    have N6 : News g L h4 ((x, instObj 69 dx) :: (dx, dictOf (lexD w k1 k2 k3 k4 1 t1 fs tw pb) 4) :: (pb, W.listOf #[] 0) :: (lst, W.listOf its kl) :: Z2) := by rw [eZ2]; exact newsSub N5 (by k_extra "mine sub")
    have d2 : ∀ p ∈ Z2, @Ne Nat p.1 x ∧ @Ne Nat p.1 dx ∧ @Ne Nat p.1 pb ∧ @Ne Nat p.1 lst := by
      rw [eZ2]
      exact all_cons ⟨(hPn _ (.head _)).symm, (hPn _ (.tail _ (.head _))).symm, (hPn _ (.tail _ (.tail _ (.head _)))).symm, (hPn _ (.tail _ (.tail _ (.tail _ (.head _))))).symm⟩
        (all_cons ⟨(e1 _ (.head _)).symm, (e1 _ (.tail _ (.head _))).symm, (e1 _ (.tail _ (.tail _ (.head _)))).symm, (e1 _ (.tail _ (.tail _ (.tail _ (.head _))))).symm⟩
        fun p hp => ⟨Nat.ne_of_lt (Nat.lt_trans (allLt_ne hl1.2.2 p hp) l2), Nat.ne_of_lt (allLt_ne hl1.2.2 p hp), hpb p (.tail _ (.tail _ hp)), hZl p hp⟩)
    have hPZ : (P, W.listOf pts kp) ∈ Z2 := by rw [eZ2]; exact .head _
    have hZO2 : ∀ p ∈ O, p ∈ Z2 := fun p hp => by rw [eZ2]; exact .tail _ (.tail _ (hZO p hp))
    have hZf2 : ∀ p ∈ frs, p ∈ Z2 := fun p hp => by rw [eZ2]; exact .tail _ (.tail _ (hZf p hp))
    have hZt2 : (106, tabObj tb) ∈ Z2 := by rw [eZ2]; exact .tail _ (.tail _ hZt)
    have hZu2 : (92, tabObj tb2) ∈ Z2 := by rw [eZ2]; exact .tail _ (.head _)
    have nlx : @Ne Nat lst x := Nat.ne_of_lt (Nat.lt_trans hl1.1 l2)
    have nld : @Ne Nat lst dx := Nat.ne_of_lt hl1.1
    have nlp : @Ne Nat lst pb := hpb _ (.head _)
    have nxd : @Ne Nat x dx := Nat.ne_of_gt l2
    clear eZ2 hPn N5 R3 N3 G3 kF kN back2 sub2 st2 G2 e1 inn n92 hZ92 hZl hZO hZf hpb hrest hl92 h92x hl1 l1 l2 hP92
    try dsimp only
    k_steps
    (with_reducible rename Fr _ _ _ _ => kF)
    (with_reducible rename News _ _ _ _ => kN)
    obtain ⟨R, eR⟩ := getHd kN
    subst eR
    rename @LT.lt Nat _ x _ ∧ _ => l1
    have zr : ∀ p ∈ Z2, @Ne Nat p.1 R := fun p hp => Nat.ne_of_lt (allLt_ne l1.2.2.2.2 p hp)
    have D : Dis R x dx pb lst Z2 := ⟨Nat.ne_of_gt l1.1, Nat.ne_of_gt l1.2.1, Nat.ne_of_gt l1.2.2.1, Nat.ne_of_gt l1.2.2.2.1, nxd, ne1, nlx.symm, ne2, nld.symm, nlp.symm, fun p hp => ⟨zr p hp, d2 p hp⟩⟩
    show wpAny _ (Ar (dp + 1) (un + 3) _ _) (call (.ref 59) [.ref x]) _ _ _
    have hfl := file_len ns
    refine token_N kF kN D SI hZO2 (cs := ns.flatMap writtenL) (pbs := []) hS2 .nil (by ktr_room) (by simp) (file_low ns) X T (by ktr_room) (by ktr_room) ?_
    intro its1 kl1 pits1 pk1 ln1 t11 t91 h9 tk9 tok cs1 pbs1 hm hc F9 N9 hS9 hP9
    obtain ⟨rfl, rfl, rfl⟩ := hm
    obtain ⟨r, n0, hPh, hRest, hn0, hr0, hW0⟩ := Ph.next (kp := k) (all := ns) (rd := []) (rest_all ns) rfl
    have a1 := D.rx
    have a2 := D.rd
    have a3 := D.rp
    have a4 := D.rl
    have a5 := D.xd
    have a6 := D.xp
    have a7 := D.xl
    have a8 := D.dp
    have a9 := D.dl
    have a10 := D.pl
    clear kF kN l1 d2
    try dsimp only
    k_steps
    (with_reducible rename Fr _ _ _ _ => kF)
    (with_reducible rename News _ _ _ _ => kN)
    refine wpAny_mono (Q := TF w R x dx pb lst P fs a k1 k2 k3 k4 tw Z2 k ns g L s) (E := fun _ _ => False) ?_ (fun f s' hf => ?_) (fun _ _ h => h.elim)
    · refine While_inv2 (J := TJ w R x dx pb lst P fs a k1 k2 k3 k4 tw Z2 k ns) (n₀ := n0) kF kN ⟨_, _, _, _, _, _, _, _, _, _, _, _, _, r, rfl, hS9, hP9, .nil, hc, hRest, hPh, hr0, hW0, rfl, rfl, rfl, rfl, ⟨_, rfl⟩, ⟨_, rfl⟩⟩ ?_ (fun _ _ h => h.elim)
      clear kF kN hPh hRest hn0 hr0 hW0 hc hS9 hP9 hS2
      rintro n m₁ news₁ h₁ tk₁ F1 N1 ⟨rits, kr, ln, t1, pits, pk, its, kl, cs, pbs, rd, b, wd, r, rfl, hS, hP, hRd, hln, hRest, hPh, hr, hW, q1, q2, q3, q4, ⟨t5, q5⟩, ⟨t6, q6⟩⟩
      rw [pin q1, pin q2, pin q3, pin q4, pin q5, pin q6] at F1
      clear q1 q2 q3 q4 q5 q6
      have hlen := hPh.len
      have hcl := hRest.len
      have hcl2 := hRest.low
      have hrl := strs_len hRd
      have hpl := strs_len hP
      rw [Array.length_toList] at hrl hpl
      have hsz : rits.size ≤ sizeLine := by rw [sizeLine_eq]; omega
      have N1 : News g L h₁ ((R, W.listOf rits kr) :: (x, instObj 69 dx) :: (dx, dictOf (lexD w k1 k2 k3 k4 ln t1 fs tw pb) 4) :: (pb, W.listOf pits pk) :: (lst, W.listOf its kl) :: Z2) := N1
      cases hPh with
      | @word n r rd e =>
        k_steps
        · (with_reducible rename Fr _ _ _ _ => kF)
          (with_reducible rename News _ _ _ _ => kN)
          show wpAny _ (Ar (dp + 1) (un + 3) _ _) (call (.ref 128) [.ref P, .str (tx (wordL n)) t6]) _ _ _
          refine takes_call (ps := ptsOf k) (nm := wordL n) ⟨_, (kN.get (List.mem_cons_of_mem _ (List.mem_cons_of_mem _ (List.mem_cons_of_mem _ (List.mem_cons_of_mem _ (List.mem_cons_of_mem _ hPZ)))))), rfl, _, rfl⟩ hPS (pts_len k) (by have := (wordL_len n).2; omega) (wordL_low n) (X.keeps kF.keep) (T.keeps kF.keep) (by ktr_room) (by ktr_room) ?_
          intro h5 tk5 kp5
          rw [takes_fits hk (wordL_len n).1 (wordL_len n).2 (wordL_in n)]
          have F5 := kF.keeps kp5
          have N5 := kN.grown kp5
          clear kF kN kp5
          have hwl : (wS n).length ≤ 3 := by have := (wordL_len n).2; simpa [wS, PySem.Str.length] using this
          cases hf : fitsL (itsOf k) (wordL n)
          · dsimp only
            k_steps
            (with_reducible rename Fr _ _ _ _ => kF)
            (with_reducible rename News _ _ _ _ => kN)
            show wpAny _ (Ar (dp + 1) (un + 3) _ _) (call (.ref 59) [.ref x]) _ _ _
            refine token_N kF kN D SI hZO2 (cs := cs) (pbs := []) hS hP (by ktr_room) (by simp) hcl2 X T (by ktr_room) (by ktr_room) ?_
            intro its1 kl1 pits1 pk1 ln1 t11 t91 h9 tk9 tok cs1 pbs1 hm hc F9 N9 hS9 hP9
            obtain ⟨rfl, rfl, rfl⟩ := hm
            obtain ⟨r', n', hPh', hR', hn', hr', hW'⟩ := Ph.next hRest (rd := rd ++ [wS n]) (by rw [List.append_assoc]; rw [dueW_no hf] at e; exact e)
            clear kF kN
            try dsimp only
            k_steps
            (with_reducible rename Fr _ _ _ _ => kF)
            (with_reducible rename News _ _ _ _ => kN)
            exact ⟨_, _, _, _, _, rfl, kF, kN, by omega, _, _, _, _, _, _, _, _, _, _, _, _, _, _, rfl, hS9, hP9, strs_push hRd, by omega, hR', hPh', by omega, hW', rfl, rfl, rfl, rfl, ⟨_, rfl⟩, ⟨_, rfl⟩⟩
          · dsimp only
            k_steps
            (with_reducible rename Fr _ _ _ _ => kF)
            (with_reducible rename News _ _ _ _ => kN)
            rw [slice_rev]
            show wpAny _ (Ar (dp + 1) (un + 3) _ _) (call (.ref 66) [.ref x, .str (rS n) _]) _ _ _
            refine push_N kF kN D (by ktr_room) X T (by ktr_room) (by ktr_room) ?_
            intro h6 tk6 F6 N6
            clear kF kN
            try dsimp only
            k_steps
            (with_reducible rename Fr _ _ _ _ => kF)
            (with_reducible rename News _ _ _ _ => kN)
            rw [b_word]
            show wpAny _ (Ar (dp + 1) (un + 3) _ _) (call (.ref 66) [.ref x, .str (bS n) _]) _ _ _
            refine push_N kF kN D (by rw [Array.size_push]; omega) X T (by ktr_room) (by ktr_room) ?_
            intro h7 tk7 F7 N7
            clear kF kN
            try dsimp only
            k_steps
            (with_reducible rename Fr _ _ _ _ => kF)
            (with_reducible rename News _ _ _ _ => kN)
            show wpAny _ (Ar (dp + 1) (un + 3) _ _) (call (.ref 59) [.ref x]) _ _ _
            refine token_N kF kN D SI hZO2 (cs := cs) (pbs := [rS n, bS n]) hS (strs_push (rd := [rS n]) (strs_push (rd := []) hP)) (by ktr_room) (by simp) hcl2 X T (by ktr_room) (by ktr_room) ?_
            intro its1 kl1 pits1 pk1 ln1 t11 t91 h9 tk9 tok cs1 pbs1 hm hc F9 N9 hS9 hP9
            obtain ⟨rfl, rfl, rfl⟩ := hm
            clear kF kN
            try dsimp only
            k_steps
            (with_reducible rename Fr _ _ _ _ => kF)
            (with_reducible rename News _ _ _ _ => kN)
            exact ⟨_, _, _, _, _, rfl, kF, kN, (by omega : 3 * r.length + 2 < 3 * r.length + 3), _, _, _, _, _, _, _, _, _, _, _, _, _, _, rfl, hS9, hP9, strs_push hRd, by omega, hRest, .back2 (by rw [List.append_assoc]; rw [dueW_yes hf] at e; exact e), hr, fun q => absurd q (rS_ne n), rfl, rfl, rfl, rfl, ⟨_, rfl⟩, ⟨_, rfl⟩⟩
        · exact absurd (ne_false (by assumption)) (wS_ne n)
      | @done rd e =>
        k_steps
        (with_reducible rename Fr _ _ _ _ => kF)
        (with_reducible rename News _ _ _ _ => kN)
        obtain rfl := hW rfl
        obtain rfl : ln = 1 + ((ns.flatMap writtenL).count 10 : Int) := by simpa using hln
        exact ⟨rfl, _, _, _, rits, kr, t1, pits, pk, its, kl, rfl, kF, kN, e ▸ hRd, rfl, rfl, rfl⟩
      | @back2 n r rd e =>
        k_steps
        · (with_reducible rename Fr _ _ _ _ => kF)
          (with_reducible rename News _ _ _ _ => kN)
          show wpAny _ (Ar (dp + 1) (un + 3) _ _) (call (.ref 59) [.ref x]) _ _ _
          refine token_N kF kN D SI hZO2 (cs := cs) (pbs := [bS n]) hS hP (by ktr_room) (by simp) hcl2 X T (by ktr_room) (by ktr_room) ?_
          intro its1 kl1 pits1 pk1 ln1 t11 t91 h9 tk9 tok cs1 pbs1 hm hc F9 N9 hS9 hP9
          obtain ⟨rfl, rfl, rfl⟩ := hm
          clear kF kN
          try dsimp only
          k_steps
          (with_reducible rename Fr _ _ _ _ => kF)
          (with_reducible rename News _ _ _ _ => kN)
          exact ⟨_, _, _, _, _, rfl, kF, kN, (by omega : 3 * r.length + 1 < 3 * r.length + 2), _, _, _, _, _, _, _, _, _, _, _, _, _, _, rfl, hS9, hP9, strs_push hRd, by omega, hRest, .back1 (by rw [List.append_assoc]; exact e), hr, fun q => absurd q (bS_ne n), rfl, rfl, rfl, rfl, ⟨_, rfl⟩, ⟨_, rfl⟩⟩
        · exact absurd (ne_false (by assumption)) (rS_ne n)
      | @back1 n r rd e =>
        k_steps
        · (with_reducible rename Fr _ _ _ _ => kF)
          (with_reducible rename News _ _ _ _ => kN)
          show wpAny _ (Ar (dp + 1) (un + 3) _ _) (call (.ref 59) [.ref x]) _ _ _
          refine token_N kF kN D SI hZO2 (cs := cs) (pbs := []) hS hP (by ktr_room) (by simp) hcl2 X T (by ktr_room) (by ktr_room) ?_
          intro its1 kl1 pits1 pk1 ln1 t11 t91 h9 tk9 tok cs1 pbs1 hm hc F9 N9 hS9 hP9
          obtain ⟨rfl, rfl, rfl⟩ := hm
          obtain ⟨r', n', hPh', hR', hn', hr', hW'⟩ := Ph.next hRest (rd := rd ++ [bS n]) (by rw [List.append_assoc]; exact e)
          clear kF kN
          try dsimp only
          k_steps
          (with_reducible rename Fr _ _ _ _ => kF)
          (with_reducible rename News _ _ _ _ => kN)
          exact ⟨_, _, _, _, _, rfl, kF, kN, by omega, _, _, _, _, _, _, _, _, _, _, _, _, _, _, rfl, hS9, hP9, strs_push hRd, by omega, hR', hPh', by omega, hW', rfl, rfl, rfl, rfl, ⟨_, rfl⟩, ⟨_, rfl⟩⟩
        · exact absurd (ne_false (by assumption)) (bS_ne n)
    · obtain ⟨rfl, h', tk', m', rits, kr, t1', pits, pk, its', kl', rfl, F9, N9, hRd, q1, q2, q3⟩ := hf
      rw [pin q1, pin q2, pin q3] at F9
      clear q1 q2 q3 kF kN
      have N9 : News g L h' ((R, W.listOf rits kr) :: (x, instObj 69 dx) :: (dx, dictOf (lexD w k1 k2 k3 k4 (1 + ((ns.flatMap writtenL).count 10 : Int)) t1' fs tw pb) 4) :: (pb, W.listOf pits pk) :: (lst, W.listOf its' kl') :: Z2) := N9
      try dsimp only
      k_steps
      (with_reducible rename Fr _ _ _ _ => kF)
      have hdl := dueW_len k ns
      have hrs := strs_len hRd
      refine sorted_N_str kF N9 (l := R) (vs := rits.toList) (ss := dueW k ns) ⟨_, (N9.get (.head _)), rfl, _, rfl⟩ hRd (by ktr_room) ?_
      intro h10 vs1 S1 e10 F10 N10 hS1 hP1 hs1
      clear kF N9
      generalize (Shared.mk _ _ _ _ _).heap.objs.size + 1 = R1 at N10 ⊢
      dsimp only at F10 N10 ⊢
      have N10 : News g L h10 ((R1, W.listOf vs1.toArray e10) :: (R, W.listOf rits kr) :: (x, instObj 69 dx) :: (dx, dictOf (lexD w k1 k2 k3 k4 (1 + ((ns.flatMap writtenL).count 10 : Int)) t1' fs tw pb) 4) :: (pb, W.listOf pits pk) :: (lst, W.listOf its' kl') :: Z2) := N10
      k_steps
      (with_reducible rename Fr _ _ _ _ => kF)
      (with_reducible rename News _ _ _ _ => kN)
      refine lcomp (fun _ => true) (fun v y => ∃ n t u, v = Value.int n t ∧ y = Value.str (word n) u) rfl rfl (by decide) rfl (by decide) rfl ?_
      k_steps
      refine ⟨_, _, Src.list _ _ (ha.at fun o e => kF.keep _ _ e), ?_, ?_, ?_, ?_⟩
      · show ia.size ≤ sizeLine
        rw [hia, sizeLine_eq]; omega
      · intros; exact wpAny_tests_nil ⟨rfl, keeps_refl _⟩
      · intro C i v s₃ m₃ E' hP _ hF hm _
        obtain ⟨n, u, rfl⟩ := ints_at hA hP
        have X3 := X.keeps kF.keep
        have T3 := T.keeps kF.keep
        clear kF kN
        k_steps
        (with_reducible rename Fr _ _ _ _ => kF)
        exact EltPost.mk ⟨n, u, _, rfl, rfl⟩ (by assumption)
      · intro D3 kk3 h11 tk11 ys3 vs3 hD3 hk3 hl3 hv3 hP3 hK3
        have F11 := kF.keeps hK3
        have N11 := news_new kF kN hK3 hD3 hk3
        have hS3 := comp_intsF (f := word) hA hl3 hv3 hP3
        clear kF kN hK3 hl3 hv3 hP3
        k_steps
        (with_reducible rename Fr _ _ _ _ => kF)
        (with_reducible rename News _ _ _ _ => kN)
        have hns3 := strs_len hS3
        rw [List.length_map] at hns3
        refine kmk_add_lit kF kN ⟨_, (kN.get (.tail _ (.head _))), rfl, _, rfl⟩ ⟨_, (kN.get (.head _)), rfl, _, rfl⟩ rfl ?_ (by rw [sizeLine_eq]; simp only [List.length_cons, List.length_nil]; omega)
        intro D4 h12 F12 N12 l12
        have hS4 := strs_app hS3 (StrsAre.cons (Str.ofString "A") tk11 .nil)
        clear kF kN l12
        try dsimp only
        k_steps
        (with_reducible rename Fr _ _ _ _ => kF)
        (with_reducible rename News _ _ _ _ => kN)
        refine sorted_N_str kF kN (l := D4) ⟨_, (kN.get (.head _)), rfl, _, rfl⟩ hS4 (by rw [List.length_append]; simp only [List.length_cons, List.length_nil]; omega) ?_
        intro h13 vs2 S2 e13 F13 N13 hS2' hP2 hs2
        clear kF kN
        generalize (Shared.mk _ _ _ _ _).heap.objs.size + 1 = R2 at N13 ⊢
        dsimp only at F13 N13 ⊢
        k_steps
        (with_reducible rename Fr _ _ _ _ => kF)
        have N14 : News g L h13 ((R2, W.listOf vs2.toArray e13) :: (R1, W.listOf vs1.toArray e10) :: (R, W.listOf rits kr) :: (x, instObj 69 dx) :: (dx, dictOf (lexD w k1 k2 k3 k4 (1 + ((ns.flatMap writtenL).count 10 : Int)) t1' fs tw pb) 4) :: (106, tabObj tb) :: (92, tabObj tb2) :: frs) := newsSub N13 (by
          refine all_cons ?_ (all_cons ?_ (all_cons ?_ (all_cons ?_ (all_cons ?_ (all_cons ?_ (all_cons ?_ ?_))))))
          case refine_8 => exact fun p hp => .tail _ (.tail _ (.tail _ (.tail _ (.tail _ (.tail _ (.tail _ (.tail _ (.tail _ (.tail _ (hZf2 p hp))))))))))
          all_goals k_extra "mine mem")
        clear N13
        have hf : ∀ p ∈ frs, p ∈ (R2, W.listOf vs2.toArray e13) :: (R1, W.listOf vs1.toArray e10) :: (R, W.listOf rits kr) :: (x, instObj 69 dx) :: (dx, dictOf (lexD w k1 k2 k3 k4 (1 + ((ns.flatMap writtenL).count 10 : Int)) t1' fs tw pb) 4) :: (106, tabObj tb) :: (92, tabObj tb2) :: frs := fun p hp => .tail _ (.tail _ (.tail _ (.tail _ (.tail _ (.tail _ (.tail _ hp))))))
        have nR2 := lst_ne N14 Fs hf (.head _)
        have nR1 := lst_ne N14 Fs hf (.tail _ (.head _))
        have nR := lst_ne N14 Fs hf (.tail _ (.tail _ (.head _)))
        obtain ⟨g5, oL, G5, st5, sub5, ⟨es5, ep5, hoL⟩, back5⟩ := Gh.subL kF N14 (mu := frs) hf
        have hl1 : S1.length ≤ 64 := by rw [hP1.length_eq]; omega
        have hl2 : S2.length ≤ 64 := by rw [hP2.length_eq, List.length_append, List.length_map]; simp only [List.length_cons, List.length_nil]; omega
        have da := diff_alone (srt_of hs1) (srt_of hs2)
        show wpAny _ (Ar (dp + 1) (un + 3) (some (_ :: l)) _) (call (.ref 104) [.ref R1, .ref R2]) _ _ _
        refine diff_call (ia := vs1.toArray) (ib := vs2.toArray) (xs := S1) (zs := S2) G5 (frs_cons ?_ ?_ ⟨es5, ep5, hoL⟩ Fs) ⟨_, sub5 _ (.tail _ (.head _)) nR1, rfl, _, rfl⟩ ⟨_, sub5 _ (.head _) nR2, rfl, _, rfl⟩ hS1 hS2' hl1 hl2 (X.keeps st5) (T.keeps st5) (by ktr_room) (by ktr_room) ?_
        · exact fun h => nomatch h
        · rfl
        intro h14 tk14 frs2 Tt D1 D2 kd1 kd2 ya yb SU G6 hya hyb n12 nT1 nT2 hq
        cases frs2 with
        | nil => exact SU.elim
        | cons q qs =>
          obtain ⟨e1, ⟨sl, e2⟩, SU2⟩ := SU
          obtain ⟨qa, qo⟩ := q
          dsimp only at e1 e2
          subst e1
          subst e2
          have hqL := hq _ (.head _)
          have nqL : ∀ p ∈ qs, @Ne Nat p.1 qa := fun p hp => by
            obtain ⟨y, hy, e⟩ := SU2.fwd p hp
            rw [e]
            exact (N14 y (hf y hy)).2.1
          have G7 : Gh g5 h14 ((qa, { oL with slots := sl }) :: (Tt, tupO D1 D2) :: (D1, W.listOf ya kd1) :: (D2, W.listOf yb kd2) :: qs) := ⟨G6.up, fun p hp => G6.at_ p ((by k_extra "mine sub" : ∀ p ∈ ((qa, { oL with slots := sl }) :: (Tt, tupO D1 D2) :: (D1, W.listOf ya kd1) :: (D2, W.listOf yb kd2) :: qs), p ∈ ((Tt, tupO D1 D2) :: (D1, W.listOf ya kd1) :: (D2, W.listOf yb kd2) :: (qa, { oL with slots := sl }) :: qs)) p hp), G6.size⟩
          obtain ⟨F8, _, R8⟩ := back5 _ sl _ G7 (all_cons hqL.2.2.symm (all_cons hqL.1.symm (all_cons hqL.2.1.symm nqL)))
          have nin : ∀ q : Addr, (∀ y ∈ frs, @Ne Nat y.1 q) → q ∉ frs.map (·.1) := fun q hq hm => by
            obtain ⟨y, hy, e⟩ := List.mem_map.mp hm
            exact hq y hy e
          have N8 := R8 [(R, W.listOf rits kr), (x, instObj 69 dx), (dx, dictOf (lexD w k1 k2 k3 k4 (1 + ((ns.flatMap writtenL).count 10 : Int)) t1' fs tw pb) 4), (106, tabObj tb), (92, tabObj tb2)]
            (all_cons ⟨by k_extra "mine mem", nin _ fun y hy => (D.z y (hZf2 y hy)).1⟩ (all_cons ⟨by k_extra "mine mem", nin _ fun y hy => (D.z y (hZf2 y hy)).2.1⟩ (all_cons ⟨by k_extra "mine mem", nin _ fun y hy => (D.z y (hZf2 y hy)).2.2.1⟩ (all_cons ⟨by k_extra "mine mem", nin _ fun y hy => (hfr y hy).1⟩ (all_cons ⟨by k_extra "mine mem", nin _ fun y hy => (hfr y hy).2⟩ all_nil)))))
          have N9 : News g qa h14 ((Tt, tupO D1 D2) :: (D1, W.listOf ya kd1) :: (D2, W.listOf yb kd2) :: (R, W.listOf rits kr) :: (x, instObj 69 dx) :: (dx, dictOf (lexD w k1 k2 k3 k4 (1 + ((ns.flatMap writtenL).count 10 : Int)) t1' fs tw pb) 4) :: (106, tabObj tb) :: (92, tabObj tb2) :: qs) := newsSub N8 (by k_extra "mine sub")
          rw [da] at hya hyb
          clear N8 R8 G7 G6 back5 sub5 kF N14 hf nR nR1 nR2 st5 G5
          try dsimp only
          k_steps
          (with_reducible rename Fr _ _ _ _ => kF)
          (with_reducible rename News _ _ _ _ => kN)
          exact hret _ _ qs _ R D1 D2 kr kd1 kd2 rits ya yb t1' S1 S2 tb tb2 SU2 (gh_of kF kN (by k_extra "mine sub")) hRd (srt_of hs1) hP1 (srt_of hs2) hP2 hya hyb
end
end Mine

end F_B17
section F_B18a
open PySem PySem.Spec PySem.W PySem.Calls PyProof.Rows
namespace Mine
inductive LedMore (g : Heap) (L : Addr) (I l : Addr) (oI ol : Obj) (J : (PySem.Str → Option Value) → List (Addr × Obj) → Prop) (s₁ s' : Shared) : Prop
  | mk (h' : Heap) (tk' : Nat) (m' : PySem.Str → Option Value) (nx' : List (Addr × Obj)) (hs : s' = { s₁ with heap := h', toks := tk' }) (F : Fr g L h' m') (N : News g L h' ((I, oI) :: (l, ol) :: nx')) (ap : ∀ p ∈ nx', p.1 ≠ I ∧ p.1 ≠ l) (j : J m' nx')
inductive LedInv (g : Heap) (L I l : Addr) (kl : Nat) (J : Nat → (PySem.Str → Option Value) → List (Addr × Obj) → Prop) (vs : List Value) (s₁ : Shared) (k : Nat) (s' : Shared) : Prop
  | mk (i : Nat) (m₁ : PySem.Str → Option Value) (nx : List (Addr × Obj)) (oI : Obj) (h : Heap) (tk : Nat) (hs : s' = { s₁ with heap := h, toks := tk }) (hi : i ≤ vs.length) (hk : k = vs.length - i) (hJ : J i m₁ nx) (F : Fr g L h m₁) (N : News g L h ((I, oI) :: (l, W.listOf vs.toArray kl) :: nx)) (hit : h.IsListIter I l i) (hIc : I ≠ l) (ap : ∀ p ∈ nx, p.1 ≠ I ∧ p.1 ≠ l)
/-- a turn's end of a loop over a list of the frame's own -/
noncomputable def LedEnd (g : Heap) (L : Addr) (I l : Addr) (oI ol : Obj) (J : (PySem.Str → Option Value) → List (Addr × Obj) → Prop) (Q : Flow → Shared → Prop) (s₁ : Shared) (f : Flow) (s' : Shared) : Prop :=
  match f with
  | .next | .cont => LedMore g L I l oI ol J s₁ s'
  | .brk => Q .next s'
  | .ret v => Q (.ret v) s'
structure LedPre (prog : Program) (w : World) (A : Around) (g : Heap) (env : Env) (x : PySem.Str) (body : List Stmt) (Q : Flow → Shared → Prop) (E : Value → Shared → Prop) (J : Nat → (PySem.Str → Option Value) → List (Addr × Obj) → Prop)
    (xv : Value) (s₁ : Shared) (l : Addr) (vs : List Value) (kl : Nat) (m₀ : PySem.Str → Option Value) (nx : List (Addr × Obj)) : Prop where
  hx : xv = .ref l
  F : Fr g env.locals s₁.heap m₀
  N : News g env.locals s₁.heap ((l, W.listOf vs.toArray kl) :: nx)
  ap : ∀ p ∈ nx, p.1 ≠ l
  start : J 0 m₀ nx
  turn : ∀ i v m₁ nx I oI h tk, vs[i]? = some v → J i m₁ nx → Fr g env.locals h (fun y => if y = x then some v else m₁ y) → News g env.locals h ((I, oI) :: (l, W.listOf vs.toArray kl) :: nx) → @Ne Nat I l → (∀ p ∈ nx, @Ne Nat p.1 I ∧ @Ne Nat p.1 l) →
    wpAny (model prog w) A (execs body env) (LedEnd g env.locals I l oI (W.listOf vs.toArray kl) (J (i + 1)) Q { s₁ with heap := h, toks := tk }) E { s₁ with heap := h, toks := tk }
  done : ∀ m₁ nx h tk, J vs.length m₁ nx → Fr g env.locals h m₁ → News g env.locals h ((l, W.listOf vs.toArray kl) :: nx) → Q .next { s₁ with heap := h, toks := tk }
inductive LedAt (prog : Program) (w : World) (A : Around) (g : Heap) (env : Env) (x : PySem.Str) (body : List Stmt) (Q : Flow → Shared → Prop) (E : Value → Shared → Prop) (J : Nat → (PySem.Str → Option Value) → List (Addr × Obj) → Prop)
    (xv : Value) (s₁ : Shared) : Prop
  | mk (l : Addr) (vs : List Value) (kl : Nat) (m₀ : PySem.Str → Option Value) (nx : List (Addr × Obj)) (h : LedPre prog w A g env x body Q E J xv s₁ l vs kl m₀ nx)

theorem for_led {prog : Program} {w : World} {A : Around} {E : Value → Shared → Prop} {s : Shared} {x : PySem.Str} {px pos : Pos} {iter : PySem.Expr} {body : List Stmt} {env : Env} {Q : Flow → Shared → Prop} (g : Heap) (J : Nat → (PySem.Str → Option Value) → List (Addr × Obj) → Prop)
    (hh : A.handled = none) (hx : env.kindOf x = some .local) (hp : (env.scope.kind == .class || (env.scope.kind == .module && env.locals != env.globals)) = false)
    (h : wpAny (model prog w) A (eval iter env) (LedAt prog w A g env x body Q E J) E s)
    (hs : ∀ x, foldedSetIterable iter env x = pure x := by intro _; rfl)
    (hE : PassesOwn (model prog w) A env E := by passes_own) :
    wpAny (model prog w) A (exec (.For (.Name x px) iter body [] pos) env) Q E s := by
  refine wpAny_For (wpAny_mono h (fun xv s₁ h₁ => ?_) fun _ _ e => e) hs
  obtain ⟨l, vs, kl, m₀, nx, rfl, F, N, ap, start, turn, done⟩ := h₁
  have hls : s₁.heap.IsList l vs.toArray := ⟨_, (N _ (.head _)).1, rfl, _, rfl⟩
  have hIg : g.get? s₁.heap.objs.size = none := by
    cases e : g.get? s₁.heap.objs.size with
    | none => rfl
    | some o' => exact absurd (Heap.lt_size (F.keep _ _ e)) (Nat.lt_irrefl _)
  refine wpAny_pyIter_list hls ?_
  have F1 := F.push { cls := .type "list_iterator", data := .fields #[.ref l, .int 0 0] }
  have N1 := N.push F { cls := .type "list_iterator", data := .fields #[.ref l, .int 0 0] } rfl
  have hfr : ∀ p ∈ (l, W.listOf vs.toArray kl) :: nx, p.1 ≠ s₁.heap.objs.size := fun p hp => Nat.ne_of_lt (Heap.lt_size (N p hp).1)
  generalize hI : s₁.heap.objs.size = I at N1 hfr hIg
  refine codeAny_forLoop (fun k s' => LedInv g env.locals I l kl J vs s₁ k s') ?_ _
    ⟨0, m₀, nx, _, _, s₁.toks, rfl, Nat.zero_le _, rfl, start, F1, N1, ⟨_, (N1 _ (.head _)).1, rfl, rfl⟩, fun q => hfr _ (.head _) q.symm, fun p hp => ⟨hfr p (.tail _ hp), ap p hp⟩⟩
  clear F1 N1 F N ap start
  rintro k s' ⟨i, m₁, nx, oI, h, tk, rfl, hi, rfl, hJ, F, N, hit, hIc, hap⟩
  have hlh : h.IsList l vs.toArray := ⟨_, (N _ (.tail _ (.head _))).1, rfl, _, rfl⟩
  have nI := (N _ (.head _)).2
  by_cases hlt : i < vs.length
  · refine wpAny_pyNext_list_item (s := { s₁ with heap := h, toks := tk }) hit hlh (x := vs[i]) (by simp [hlt]) fun h' hit' hs' => ?_
    have F' : Fr g env.locals h' m₁ := ⟨F.ns.sameBut hs' (Ne.symm nI.1), fun b o e => (hs'.2 b (fun z => by rw [z, hIg] at e; cases e)).trans (F.keep b o e), F.above⟩
    obtain ⟨oI', hoI', r1, r2⟩ := id hit'
    have N' : News g env.locals h' ((I, oI') :: (l, W.listOf vs.toArray kl) :: nx) := fun p hp => by
      rcases List.mem_cons.mp hp with rfl | hp
      · exact ⟨hoI', nI⟩
      · have z := N p (.tail _ hp)
        refine ⟨(hs'.2 _ ?_).trans z.1, z.2⟩
        rcases List.mem_cons.mp hp with rfl | hp
        · exact Ne.symm hIc
        · exact (hap p hp).1
    have gL : g.get? env.locals = none := Heap.get?_none_of_le F.above
    refine wpAny_assign_Name (wpAny_storeName_local (s := { s₁ with heap := h', toks := tk }) hx F'.ns (fun h₂ hn hs₂ => ?_) hp)
    have F2 : Fr g env.locals h₂ (fun y => if y = x then some vs[i] else m₁ y) := ⟨hn, fun b o e => (hs₂.2 b (fun z => by rw [z, gL] at e; cases e)).trans (F'.keep b o e), F.above⟩
    have N2 : News g env.locals h₂ ((I, oI') :: (l, W.listOf vs.toArray kl) :: nx) := fun p hp => by
      have z := N' p hp
      exact ⟨(hs₂.2 _ z.2.1).trans z.1, z.2⟩
    refine wpAny_passesOwn hE (wpAny_mono (turn i vs[i] m₁ nx I oI' h₂ _ (by simp [hlt]) hJ F2 N2 hIc hap) (fun f s₃ hf => ?_) fun _ _ z => z)
    have nxt : ∀ {hb tb}, LedMore g env.locals I l oI' (W.listOf vs.toArray kl) (J (i + 1)) { s₁ with heap := hb, toks := tb } s₃ → ∃ m, m < vs.length - i ∧ LedInv g env.locals I l kl J vs s₁ m s₃ := by
      rintro hb tb ⟨h3, tk3, m3, nx3, rfl, F3, N3, hap3, hJ3⟩
      exact ⟨vs.length - (i + 1), by omega, i + 1, m3, nx3, oI', h3, tk3, rfl, hlt, rfl, hJ3, F3, N3, ⟨oI', (N3 _ (.head _)).1, r1, r2⟩, hIc, hap3⟩
    cases f with
    | next => exact nxt hf
    | cont => exact nxt hf
    | brk => exact hf
    | ret v => exact hf
  · have hin : i = vs.length := by omega
    subst hin
    refine wpAny_pyNext_list_end (s := { s₁ with heap := h, toks := tk }) hh hit hlh (by simp) fun h' ext => ?_
    refine wpAny_execs_nil ?_
    have F' : Fr g env.locals h' m₁ := ⟨F.ns.extBut ext (Ne.symm nI.1), fun b o e => ext b o (fun z => by rw [z, hIg] at e; cases e) (F.keep b o e), F.above⟩
    refine done m₁ nx h' tk hJ F' fun p hp => ?_
    have z := N p (.tail _ hp)
    refine ⟨ext _ _ ?_ z.1, z.2⟩
    rcases List.mem_cons.mp hp with rfl | hp
    · exact Ne.symm hIc
    · exact (hap p hp).1
end Mine

end F_B18a
section F_B18
open PySem PySem.Spec PySem.W PySem.Calls PyProof.Rows
namespace Mine
theorem rows_hdr_B18 : True := by
  k_with_none
  w_top off
  k_with "mine units" => (first | (refine' rm1 ?zuaa ?zuab; (case zuaa => with_reducible assumption); (case zuab => rfl)) | (refine' rm2 ?zuba ?zubb; (case zuba => with_reducible assumption); (case zubb => rfl)) | (refine' rm3 ?zuca ?zucb; (case zuca => with_reducible assumption); (case zucb => rfl)) | (dsimp only [Ar, Around.deeper, Around.in1]; first | (refine' rm1 ?zuda ?zudb; (case zuda => with_reducible assumption); (case zudb => rfl)) | (refine' rm2 ?zuea ?zueb; (case zuea => with_reducible assumption); (case zueb => rfl)) | (refine' rm3 ?zufa ?zufb; (case zufa => with_reducible assumption); (case zufb => rfl)) | (refine' rm4 ?zuga ?zugb; (case zuga => with_reducible assumption); (case zugb => rfl))))
  k_with "mine mem" => (first | with_reducible exact mem_h | with_reducible assumption | (with_reducible refine List.mem_append_left _ ?_; k_extra "mine mem") | (with_reducible refine List.mem_append_right _ ?_; k_extra "mine mem") | (with_reducible refine mem_t ?_; k_extra "mine mem"))
  k_with "mine sub" => (first | exact all_nil | (refine all_cons ?_ ?_; k_extra "mine mem"; k_extra "mine sub") | (refine all_app ?_ ?_; k_extra "mine sub"; k_extra "mine sub") | (intro pq hpq; k_extra "mine mem"))
  k_with "mine room" => (first | with_reducible assumption | (refine' rm1 ?zraa ?zrab; (case zraa => with_reducible assumption); (case zrab => rfl)) | (refine' rm2 ?zrba ?zrbb; (case zrba => with_reducible assumption); (case zrbb => rfl)) | (refine' rm3 ?zrca ?zrcb; (case zrca => with_reducible assumption); (case zrcb => rfl)) | (refine' rm0 ?zrd; (case zrd => with_reducible assumption)) | (refine' leL ?zrea ?zreb; (case zrea => with_reducible assumption); (case zreb => rfl)) | (refine Ne.symm ?zrf; (case zrf => with_reducible assumption)) | (refine Nat.ne_of_lt ?zrg; (case zrg => with_reducible assumption)) | (refine Nat.ne_of_gt ?zrh; (case zrh => with_reducible assumption)) | ((try dsimp only [Ar, Around.deeper, Around.in1]); first | (refine' rm1 ?zria ?zrib; (case zria => with_reducible assumption); (case zrib => rfl)) | (refine' rm2 ?zrja ?zrjb; (case zrja => with_reducible assumption); (case zrjb => rfl)) | (refine' rm3 ?zrka ?zrkb; (case zrka => with_reducible assumption); (case zrkb => rfl)) | (refine' rm4 ?zrla ?zrlb; (case zrla => with_reducible assumption); (case zrlb => rfl)) | omega))
  k_with "mine ne" => (first | with_reducible assumption | (refine Ne.symm ?zna; (case zna => with_reducible assumption)) | (refine Nat.ne_of_lt ?znb; (case znb => with_reducible assumption)) | (refine Nat.ne_of_gt ?znc; (case znc => with_reducible assumption)))
  k_with "mine enter" => (first
  | (refine' enterG ?zqkG ?zqk3 ?zqk5 ?zqk6 ?zqk7 ?zqk8 ?zqk9 ?zqkB ?_ ?zqc2 ?zqc3 ?zqc4 ?zqc5; (case zqkG => k_asm); (case zqk3 => k_asm); (case zqk5 => k_asm); (case zqk6 => k_is); (case zqk7 => k_is); (case zqk8 => ktr_room); (case zqk9 => exact BindsTo.of_eq rfl); (case zqc5 => decide); (case zqkB => exact locs rfl); (case zqc2 => exact rfl); (case zqc3 => exact rfl); (case zqc4 => exact rfl); k_whole; intro Lq' hq' Fq' Nq' l1q; (try k_lt l1q); (try dsimp only); (try k_fold))
  | (refine' enterC ?zqkG ?zqk3 ?zqk5 ?zqk6 ?zqk7 ?zqk8 ?zqk9 ?zqkB ?zqkD ?_ ?zqc2 ?zqc3 ?zqc4; (case zqkG => k_asm); (case zqk3 => k_asm); (case zqk5 => k_asm); (case zqk6 => k_is); (case zqk7 => k_is); (case zqk8 => ktr_room); (case zqk9 => exact BindsTo.of_eq rfl); (case zqkB => exact rfl); (case zqkD => decide +kernel); (case zqc2 => exact rfl); (case zqc3 => exact rfl); (case zqc4 => exact rfl); k_whole; intro Lq' hq' tkq' cellsq' Fq' Nq' Yq' l1q; (try k_lt l1q); k_cells Yq'; (try simp only [List.cons_append, List.nil_append] at Nq'); (try dsimp only); (try k_fold)))
  k_with "mine k_steps" => ((try k_unmd); (try k_fold); repeat' (first | (k_unfold; (try dsimp only)) | ((fail_if_success (k_extra "mine stop")); (fail_if_success (with_reducible show wpAny _ _ (exec (Stmt.For _ _ _ _ _) _) _ _ _)); (fail_if_success (with_reducible show wpAny _ _ (exec (Stmt.While _ _ _ _) _) _ _ _)); (fail_if_success (with_reducible show wpAny _ _ (exec (Stmt.Try _ _ _ _ _) _) _ _ _)); (fail_if_success (with_reducible show wpAny _ _ (eval (PySem.Expr.ListComp _ _ _ _) _) _ _ _)); (fail_if_success (with_reducible show wpAny _ _ (exec (Stmt.Assign _ (PySem.Expr.ListComp _ _ _ _) _) _) _ _ _)); (first | walk1 | (dsimp only; walk1) | (leave1; walk_say "STEP leave1"; try dsimp only))) | fail "no step"))
  k_with "execs cons" => ((try k_made); (try k_gentoks); (with_reducible refine wpAny_execs_cons ?_); (try dsimp only); try k_fold)
  k_with "storeName" => (k_dflt (refine' storeX_L ?z1 ?z2 ?_ ?z3 ?z4; (case z1 => k_asm); (case z2 => k_asm); (case z3 => exact rfl); (case z4 => exact rfl); k_whole); intro hq' Fq' Nq'; (try dsimp only at Fq'); (try k_sweep))
  k_with "eval Name" => (name_kind "local"; k_dflt (refine' nameX_L ?z5 ?z6 ?_ ?z7 ?z8; (case z5 => with_reducible assumption); (case z6 => exact Eq.refl (some _)); (case z7 => exact rfl); (case z8 => exact rfl); k_whole))
  k_with "eval Name" => ((with_reducible show wpAny _ _ (eval (PySem.Expr.Name _ _) (compEnvC _ _ _ _)) _ _ _); k_dflt (first
  | (refine' nm_L ?zqF ?zqv ?_ ?zqa ?zqb ?zqc; (case zqa => rfl); (case zqb => rfl); (case zqc => decide); (case zqF => k_asm); (case zqv => first | with_reducible assumption | assumption | rfl); k_whole)
  | (refine' nm_C ?zqF ?zqhc ?zqho ?zqhd ?_ ?zqa ?zqb ?zqc; (case zqa => rfl); (case zqb => rfl); (case zqc => decide); (case zqF => k_asm); (case zqhc => rfl); (case zqho => first | with_reducible assumption | assumption); (case zqhd => first | with_reducible assumption | assumption); k_whole)
  | (refine' nm_K ?zqF ?zqX ?zqT ?zqe ?_ ?zqg ?zqa ?zqb ?zqc; (case zqa => rfl); (case zqb => rfl); (case zqc => decide); (case zqg => rfl); (case zqF => k_asm); (case zqX => k_asm); (case zqT => k_asm); (case zqe => k_is); k_whole)
  | (refine' nm_B ?zqF ?zqX ?zqT ?zqe ?zqv ?zqn ?_ ?zqg ?zqbn ?zqa ?zqb ?zqc; (case zqa => rfl); (case zqb => rfl); (case zqc => decide); (case zqg => rfl); (case zqbn => rfl); (case zqF => k_asm); (case zqX => k_asm); (case zqT => k_asm); (case zqe => k_is); (case zqv => boot_fast); (case zqn => decide); k_whole)))
  k_with "callWith ref" => (k_here; k_dflt (first
  | ((with_reducible show wpAny _ _ (callWith _ (Value.ref _) _ (backTo _ (starEach (_ :: _) _)) []) _ _ _); first | (refine' callWith_M ?z9 ?z10 ?z11 ?z12 ?_; (case z9 => with_reducible assumption); (case z10 => with_reducible assumption); (case z11 => k_mem); (case z12 => k_is); k_whole) | (refine' callWith_K ?z13 ?z14 ?_; (case z13 => with_reducible assumption); (case z14 => k_is); k_whole))
  | ((with_reducible show wpAny _ _ (callWith _ (Value.ref _) _ (backTo _ (starEach [] _)) []) _ _ _); first | (refine' callWith_M0 ?z15 ?z16 ?_; (case z15 => k_meth); (case z16 => k_is); k_whole; try dsimp only [List.nil_append, List.cons_append]) | (refine' callWith_K0 ?z17 ?z18 ?_; (case z17 => (refine' Frag.In.keeps ?zia (Fr.keep ?zib); (case zib => with_reducible assumption); (case zia => with_reducible assumption))); (case z18 => k_is); k_whole))))
  k_with "subscriptTail" => (k_here; (with_reducible show wpAny _ _ (subscriptTail _ _ (Value.ref _) (Value.int _ _)) _ _ _); (with_unfolding_all refine' item_litK ?z19 ?z20 ?z21 ?z22 ?_ ?z23; (case z19 => is_list); (case z20 => decide); (case z21 => decide); (case z22 => rfl); (case z23 => with_unfolding_all rfl)); k_whole)
  k_with "subscriptTail Name Constant ref int" => (k_here; (with_reducible show wpAny _ _ (subscriptTail _ _ (Value.ref _) (Value.int _ _)) _ _ _); (with_unfolding_all refine' item_litK ?z24 ?z25 ?z26 ?z27 ?_ ?z28; (case z24 => is_list); (case z25 => decide); (case z26 => decide); (case z27 => rfl); (case z28 => with_unfolding_all rfl)); k_whole)
  k_with "eval Name" => (k_here; name_kind "globalImplicit"; k_dflt (first
  | (refine' nameX_K ?zqgF ?zqgX ?zqgT ?zqge ?_ ?zqga ?zqgb; (case zqgF => with_reducible assumption); (case zqgX => with_reducible assumption); (case zqgT => k_asm); (case zqga => rfl); (case zqgb => rfl); (case zqge => k_is); k_whole)
  | (refine' nameX_B ?zqgF ?zqgX ?zqgT ?zqge ?zqgv ?zqgn ?_ ?zqga ?zqgb; (case zqgF => with_reducible assumption); (case zqgX => with_reducible assumption); (case zqgT => k_asm); (case zqga => rfl); (case zqgb => rfl); (case zqge => k_is); (case zqgv => boot_fast); (case zqgn => decide); k_whole)))
  trivial
theorem ints_len : ∀ {vs : List Value} {ns : List Int}, IntsAre vs ns → vs.length = ns.length
  | _, _, .nil => rfl
  | _, _, .cons _ _ h => by simp [ints_len h]
theorem dueW_snoc {k i : Nat} {ns : List Int} {n : Int} (h : ns[i]? = some n) : dueW k (ns.take (i + 1)) = dueW k (ns.take i) ++ (if fitsL (itsOf k) (wordL n) then [wS n, rS n, bS n] else [wS n]) := by
  rw [List.take_add_one, h]
  unfold dueW
  rw [List.flatMap_append]
  simp
theorem its_len (k : Nat) : (itsOf k).length ≤ 2 := by unfold itsOf; split <;> simp
theorem bs_len (n : Int) : (bS n).length ≤ 4 := by have := (wordL_len n).2; simp only [bS, PySem.Str.length, List.size_toArray, List.length_cons]; omega
theorem ws_len (n : Int) : (wS n).length ≤ 3 := by have := (wordL_len n).2; simp only [wS, PySem.Str.length, List.size_toArray]; omega
theorem count_tx (l : List Nat) : Txt.count (tx l) (Str.ofString "\n") = (l.count 10 : Int) := by
  rw [show Str.ofString "\n" = ⟨#[10]⟩ from by decide +kernel, PyProof.Rows.count_cnt]
  show PyProof.Rows.cnt 10 l = _
  induction l with
  | nil => rfl
  | cons n r ih =>
    rw [PyProof.Rows.cnt_cons, ih, List.count_cons]
    by_cases h : n = 10
    · simp [h]; omega
    · simp [h]
noncomputable def Mild (x : PySem.Str) : Prop := Low x.cps.toList ∧ x.length ≤ 10
theorem mild_w (n : Int) : Mild (wS n) := ⟨wordL_low n, by have := ws_len n; omega⟩
theorem mild_r (n : Int) : Mild (rS n) := ⟨fun c hc => wordL_low n c (by simpa [rS, tx] using hc), by have := (wordL_len n).2; simp only [rS, PySem.Str.length, List.size_toArray, List.length_reverse]; omega⟩
theorem mild_b (n : Int) : Mild (bS n) := ⟨fun c hc => by
  have hc : c ∈ 98 :: wordL n := hc
  rcases List.mem_cons.mp hc with rfl | hc
  · decide
  · exact wordL_low n c hc, by have := bs_len n; omega⟩
theorem dueW_mild (k : Nat) (ns : List Int) : ∀ x ∈ dueW k ns, Mild x := by
  intro x hx
  unfold dueW at hx
  obtain ⟨n, _, hx⟩ := List.mem_flatMap.mp hx
  split at hx
  · simp only [List.mem_cons, List.not_mem_nil, or_false] at hx
    rcases hx with rfl | rfl | rfl
    · exact mild_w n
    · exact mild_r n
    · exact mild_b n
  · rw [List.mem_singleton.mp hx]; exact mild_w n
theorem wordsA_mild (ns : List Int) : ∀ x ∈ ns.map word ++ [Str.ofString "A"], Mild x := by
  intro x hx
  rcases List.mem_append.mp hx with hx | hx
  · obtain ⟨n, _, rfl⟩ := List.mem_map.mp hx
    rw [word_eq]; exact mild_w n
  · rw [List.mem_singleton.mp hx]; exact ⟨by unfold Low; decide +kernel, by decide +kernel⟩
theorem mild_perm {S l : List PySem.Str} (h : S.Perm l) (hl : ∀ x ∈ l, Mild x) : LowS S ∧ ∀ x ∈ S, x.length ≤ 10 :=
  ⟨fun x hx => (hl x (h.subset hx)).1, fun x hx => (hl x (h.subset hx)).2⟩
section
variable {w : World} {p : Program} {loose : List PySem.Str} {mean : ExcName → Option Value} {mg mb : PySem.Str → Option Value}
   {dp un : Nat} {fr : Option (List Env)} {gd : Option (List Code)} {s : Shared} {Q : Value → Shared → Prop} {E : Value → Shared → Prop}
theorem fill_B18 (w : World) (h : Heap) (X : (hd.heap_1 w.params).In h) : PySem.Challenge.rw_in0215_01.row.prog = PP ∧ (hd.heap_1 w.params).In h := by
  k_fill
  exact ⟨rfl, X⟩
theorem rows_B18_0 : True := by
  k_with "mine stop" => (first | with_reducible show wpAny _ _ (call (Value.builtin "sorted") _) _ _ _ | with_reducible show wpAny _ _ (call (Value.builtin "str.join") _) _ _ _ | with_reducible show wpAny _ _ (call (Value.builtin "list.extend") _) _ _ _ | with_reducible show wpAny _ _ (call (Value.ref 133) _) _ _ _ | with_reducible show wpAny _ _ (call (Value.ref 143) _) _ _ _)
  k_with "call ref" => (k_here; (with_reducible show wpAny _ _ (call (Value.ref 118) _) _ _ _); (with_reducible rename Fr _ _ _ _ => kFq); k_dflt (refine' word_call _ _ ?z132 ?z133 ?z134 ?_; (case z132 => exact Frag.In.keeps (by with_reducible assumption) kFq.keep); (case z133 => exact Top.keeps (by with_reducible assumption) kFq.keep); (case z134 => ktr_room); k_whole; intro tq' hq' tkq' kpq'; (have Fq' := kFq.keeps kpq'); clear kFq; (try dsimp only); (try k_fold)))
  k_with "call ref" => (k_here; (with_reducible show wpAny _ _ (call (Value.ref 123) _) _ _ _); (with_reducible rename Fr _ _ _ _ => kFq); k_dflt (refine' written_call _ _ ?z135 ?z136 ?z137 ?_; (case z135 => exact Frag.In.keeps (by with_reducible assumption) kFq.keep); (case z136 => exact Top.keeps (by with_reducible assumption) kFq.keep); (case z137 => ktr_room); k_whole; intro tq' hq' tkq' kpq'; (have Fq' := kFq.keeps kpq'); clear kFq; (try dsimp only); (try k_fold)))
  trivial
theorem due_call {k : Nat} (hk : k < 4) {a b : Addr} {ia ib : Array Value} {ns : List Int} (ha : s.heap.IsList a ia) (hA : IntsAre ia.toList ns) (hlen : ns.length ≤ 11) (hb : s.heap.IsList b ib) (hB : StrsAre ib.toList ((itsOf k).map It.str))
   (X : (hd.heap_1 w.params).In s.heap) (T : Top p loose mean mg mb s.heap) (hdp : dp + 20 < recursionLimit) (hun : un + 600 < cLine)
   (hret : ∀ h' tk' V R D1 D2 kr kd1 kd2 rits ya yb tv S1 S2, Kept s.heap h' → h'.get? V = some (W.listOf #[.ref R, .int (1 + ((ns.flatMap writtenL).count 10 : Int)) tv, .ref D1, .ref D2] 0) → h'.get? R = some (W.listOf rits kr) → h'.get? D1 = some (W.listOf ya kd1) → h'.get? D2 = some (W.listOf yb kd2) →
     StrsAre rits.toList (dueW k ns) → Srt S1 → S1.Perm (dueW k ns) → Srt S2 → S2.Perm (ns.map word ++ [Str.ofString "A"]) → StrsAre ya.toList (aloneL S1 S2) → StrsAre yb.toList (aloneL S2 S1) → Q (.ref V) {s with heap := h', toks := tk'}) :
   wpAny (model PP w) (Ar dp un fr gd) (call (.ref 148) [.ref a, .ref b]) Q E s := by
  have hia : ia.size = ns.length := by rw [← ints_len hA, Array.length_toList]
  have G := Gh.refl s.heap
  refine wpAny_call ?_
  k_dflt ktr_enter
  k_steps
  (with_reducible rename Fr _ _ _ _ => kF)
  (with_reducible rename News _ _ _ _ => kN)
  obtain ⟨L, eL⟩ := getL kF
  subst eL
  refine lcompA s.heap (fun _ => true) (fun v y => ∃ n t u, v = Value.int n t ∧ y = Value.str (word n) u) rfl rfl rfl (by decide) rfl (by decide) rfl rfl rfl ?_
  k_steps
  refine ⟨_, _, _, _, Src.list _ _ (ha.at fun o e => kF.keep _ _ e), ?_, ?_, ?_, kF, kN, ?_⟩
  · rw [hia, sizeLine_eq]; omega
  · intros; exact wpAny_tests_nil ⟨rfl, keeps_refl _⟩
  · intro C i v s₃ m₃ E' hP _ hF hm _
    obtain ⟨n, u, rfl⟩ := ints_at hA hP
    have X3 := X.keeps kF.keep
    have T3 := T.keeps kF.keep
    clear kF kN
    k_steps
    (with_reducible rename Fr _ _ _ _ => kF)
    exact EltPost.mk ⟨n, u, _, rfl, rfl⟩ (by assumption)
  · intro D kk h' tk' ys vs F1 N1 ap hl hv hP
    have hS := comp_intsF (f := word) hA hl hv hP
    clear kF kN hl hv hP
    try dsimp only
    k_steps
    (with_reducible rename Fr _ _ _ _ => kF)
    (with_reducible rename News _ _ _ _ => kN)
    obtain ⟨R, eR⟩ := getHd kN
    subst eR
    have hDR : @Ne Nat D R := by
      rename @LT.lt Nat _ D _ => l9
      exact Nat.ne_of_lt l9
    have kN : News s.heap L _ [(D, W.listOf ys.toList.toArray kk), (R, W.listOf #[] 0)] := newsSub kN (by
      rw [Array.toArray_toList]
      k_extra "mine sub")
    have hys := strs_len hS
    rw [List.length_map] at hys
    refine for_led s.heap (fun i m nx => ∃ rits kr, nx = [(R, W.listOf rits kr)] ∧ StrsAre (Array.toList rits) (dueW k (ns.take i)) ∧ m "numbers" = some (.ref a) ∧ m "items" = some (.ref b) ∧ m "words" = some (.ref D) ∧ m "read" = some (.ref R)) rfl rfl rfl ?_
    k_steps
    refine ⟨D, ys.toList, kk, _, [(R, W.listOf #[] 0)], rfl, kF, kN, fun p hp => by rw [List.mem_singleton.mp hp]; exact hDR.symm, ⟨#[], 0, rfl, .nil, rfl, rfl, rfl, rfl⟩, ?_, ?_⟩
    · rintro i v m₁ nx I oI h tk hv ⟨rits, kr, rfl, hR, q1, q2, q3, q4⟩ F2 N2 hI hap
      rw [pin q1, pin q2, pin q3, pin q4] at F2
      clear q1 q2 q3 q4 kF kN
      obtain ⟨x, u, hx, rfl⟩ := strs_at hS hv
      obtain ⟨n, hn, rfl⟩ : ∃ n, ns[i]? = some n ∧ word n = x := by
        rw [List.getElem?_map] at hx
        cases e : ns[i]? with
        | none => rw [e] at hx; cases hx
        | some n => rw [e] at hx; exact ⟨n, rfl, Option.some.inj hx⟩
      rw [show word n = wS n from word_eq n] at F2
      have hdl := dueW_len k (ns.take i)
      have htl : (ns.take i).length ≤ ns.length := by rw [List.length_take]; omega
      have hrl := strs_len hR
      rw [Array.length_toList] at hrl
      have b1 := bs_len n
      have b2 := ws_len n
      k_steps
      (with_reducible rename Fr _ _ _ _ => kF)
      (with_reducible rename News _ _ _ _ => kN)
      show wpAny _ (Ar (dp + 1) (un + 3) _ _) (call (.ref 133) [.ref b, .str (tx (wordL n)) u]) _ _ _
      have il := its_len k
      refine fits_call (is := itsOf k) (hb.at fun o e => kF.keep _ _ e) hB (by ktr_room) (by have := (wordL_len n).2; omega) (wordL_low n) (X.keeps kF.keep) (T.keeps kF.keep) (by ktr_room) (by ktr_room) ?_
      intro h5 tk5 kp5
      have F5 : Fr s.heap L h5 _ := kF.keeps kp5
      have N5 : News s.heap L h5 _ := kN.grown kp5
      clear kF kN kp5
      have hIR : @Ne Nat I R := ((hap _ (.head _)).1).symm
      have hap' : ∀ o, ∀ p ∈ [((R : Addr), (o : Obj))], p.1 ≠ I ∧ p.1 ≠ D := fun o p hp => by rw [List.mem_singleton.mp hp]; exact hap (R, W.listOf rits kr) (.head _)
      cases hf : fitsL (itsOf k) (wordL n)
      · dsimp only
        k_steps
        (with_reducible rename Fr _ _ _ _ => kF)
        (with_reducible rename News _ _ _ _ => kN)
        rename @LT.lt Nat _ I _ ∧ _ => l9
        refine ext_any kF kN (by k_mem) (fun o' => Upd.tail (Nat.ne_of_gt l9.2.2) (Upd.tail hIR (Upd.tail hDR (Upd.head (fun q hq => nomatch hq))))) (by simp; omega) (fun h3 n3 F3 N3 => ?_)
        clear kF kN
        try dsimp only
        k_steps
        (with_reducible rename Fr _ _ _ _ => kF)
        (with_reducible rename News _ _ _ _ => kN)
        refine ⟨_, _, _, [(R, _)], rfl, kF, (fun p hp => kN p (.tail _ hp)), hap' _, ⟨_, _, rfl, ?_, rfl, rfl, rfl, rfl⟩⟩
        rw [dueW_snoc hn, hf]
        exact strs_app hR (.cons _ _ .nil)
      · dsimp only
        k_steps
        (with_reducible rename Fr _ _ _ _ => kF)
        (with_reducible rename News _ _ _ _ => kN)
        rename @LT.lt Nat _ I _ ∧ _ => l9
        refine ext_any kF kN (by k_mem) (fun o' => Upd.tail (Nat.ne_of_gt l9.2.2) (Upd.tail hIR (Upd.tail hDR (Upd.head (fun q hq => nomatch hq))))) (by simp; omega) (fun h3 n3 F3 N3 => ?_)
        clear kF kN
        try dsimp only
        k_steps
        (with_reducible rename Fr _ _ _ _ => kF)
        (with_reducible rename News _ _ _ _ => kN)
        refine ⟨_, _, _, [(R, _)], rfl, kF, (fun p hp => kN p (.tail _ hp)), hap' _, ⟨_, _, rfl, ?_, rfl, rfl, rfl, rfl⟩⟩
        rw [dueW_snoc hn, hf]
        refine strs_app hR ?_
        rw [if_pos rfl, ← slice_rev n (tk5 + 1), ← b_word n]
        exact .cons _ _ (.cons _ _ (.cons _ _ .nil))
    · rintro m₁ nx h tk ⟨rits, kr, rfl, hR, q1, q2, q3, q4⟩ F2 N2
      rw [pin q1, pin q2, pin q3, pin q4] at F2
      clear q1 q2 q3 q4 kF kN
      rw [hys, List.take_length] at hR
      try dsimp only
      k_steps
      (with_reducible rename Fr _ _ _ _ => kF)
      (with_reducible rename News _ _ _ _ => kN)
      have kF : Fr s.heap L _ _ := kF
      have kN : News s.heap L _ [(D, W.listOf ys.toList.toArray kk), (R, W.listOf rits kr)] := kN
      refine lcomp (fun _ => true) (fun v y => ∃ n t u, v = Value.int n t ∧ y = Value.str (tx (writtenL n)) u) rfl rfl (by decide) rfl (by decide) rfl ?_
      k_steps
      refine ⟨_, _, Src.list _ _ (ha.at fun o e => kF.keep _ _ e), ?_, ?_, ?_, ?_⟩
      · show ia.size ≤ sizeLine
        rw [hia, sizeLine_eq]; omega
      · intros; exact wpAny_tests_nil ⟨rfl, keeps_refl _⟩
      · intro C i v s₃ m₃ E' hP _ hF hm _
        obtain ⟨n, u, rfl⟩ := ints_at hA hP
        have X3 := X.keeps kF.keep
        have T3 := T.keeps kF.keep
        clear kF kN
        k_steps
        (with_reducible rename Fr _ _ _ _ => kF)
        exact EltPost.mk ⟨n, u, _, rfl, rfl⟩ (by assumption)
      · intro D2 kk2 h2 tk2 ys2 vs2 hD2 hk2 hl2 hv2 hP2 hK2
        have hF := kF.keeps hK2
        have hN := news_new kF kN hK2 hD2 hk2
        have hS2 := comp_intsF (f := fun n => tx (writtenL n)) hA hl2 hv2 hP2
        clear kF kN hK2 hl2 hv2 hP2
        k_steps
        refine join_list ⟨_, (hN.get (.head _)), rfl, _, rfl⟩ hS2 (file_size ns (by ktr_room)) fun t9 k9 => ?_
        rw [file_join]
        have hl9 : (tx (ns.flatMap writtenL)).length ≤ 110 := by
          have := file_len ns
          simp only [PySem.Str.length, List.size_toArray]; omega
        k_steps
        rw [count_tx] at *
        (with_reducible rename Fr _ _ _ _ => kF)
        (with_reducible rename News _ _ _ _ => kN)
        have hdl := dueW_len k ns
        have hrs := strs_len hR
        refine sorted_N_str kF kN (l := R) (vs := rits.toList) (ss := dueW k ns) ⟨_, (kN.get (by k_mem)), rfl, _, rfl⟩ hR (by ktr_room) ?_
        intro h10 vs1 S1 e10 F10 N10 hS1 hP1 hs1
        clear kF kN
        generalize (Shared.mk _ _ _ _ _).heap.objs.size + 1 = R1 at N10 ⊢
        dsimp only at F10 N10 ⊢
        k_steps
        (with_reducible rename Fr _ _ _ _ => kF)
        (with_reducible rename News _ _ _ _ => kN)
        refine sorted_N_str kF kN (ss := ns.map word ++ [Str.ofString "A"]) ⟨_, (kN.get (.head _)), rfl, _, rfl⟩ (strs_app hS (.cons _ _ .nil)) (by simp only [List.length_append, List.length_cons, List.length_nil]; omega) ?_
        intro h13 vs2 S2 e13 F13 N13 hS2' hP2 hs2
        clear kF kN
        generalize (Shared.mk _ _ _ _ _).heap.objs.size + 1 = R2 at N13 ⊢
        dsimp only at F13 N13 ⊢
        k_steps
        (with_reducible rename Fr _ _ _ _ => kF)
        (with_reducible rename News _ _ _ _ => kN)
        (with_reducible rename StrsAre vs1 S1 => hS1)
        (with_reducible rename List.Perm S1 _ => hP1)
        (with_reducible rename sortedS S1 = true => hs1)
        have m1 := mild_perm hP1 (dueW_mild k ns)
        have m2 := mild_perm hP2 (wordsA_mild ns)
        have hl1 : S1.length ≤ 64 := by rw [hP1.length_eq]; omega
        have hl2 : S2.length ≤ 64 := by rw [hP2.length_eq, List.length_append, List.length_map]; simp only [List.length_cons, List.length_nil]; omega
        show wpAny _ (Ar (dp + 1) (un + 3) _ _) (call (.ref 143) [.ref R1, .ref R2]) _ _ _
        refine alone_call (ia := vs1.toArray) (ib := vs2.toArray) ⟨_, (kN.get (.tail _ (.tail _ (.tail _ (.head _))))), rfl, _, rfl⟩ ⟨_, (kN.get (.head _)), rfl, _, rfl⟩ hS1 hS2' hl1 hl2 m1.1 m2.1 m1.2 m2.2 (X.keeps kF.keep) (T.keeps kF.keep) (by ktr_room) (by ktr_room) ?_
        intro h14 tk14 D5 k5 ya hK5 hD5 hk5 hya
        have F14 := kF.keeps hK5
        have N14 := news_new kF kN hK5 hD5 hk5
        have N15 : News s.heap L h14 [(D5, W.listOf ya k5), (D, W.listOf ys.toList.toArray kk), (R, W.listOf rits kr)] := newsSub N14 (by k_extra "mine sub")
        clear kF kN N14 hK5 hD5 hk5
        try dsimp only
        k_steps
        (with_reducible rename Fr _ _ _ _ => kF)
        (with_reducible rename News _ _ _ _ => kN)
        refine sorted_N_str kF kN (ss := ns.map word ++ [Str.ofString "A"]) ⟨_, (kN.get (.head _)), rfl, _, rfl⟩ (strs_app hS (.cons _ _ .nil)) (by simp only [List.length_append, List.length_cons, List.length_nil]; omega) ?_
        intro h16 vs3 S3 e16 F16 N16 hS3' hP3 hs3
        clear kF kN
        generalize (Shared.mk _ _ _ _ _).heap.objs.size + 1 = R3 at N16 ⊢
        dsimp only at F16 N16 ⊢
        k_steps
        (with_reducible rename Fr _ _ _ _ => kF)
        (with_reducible rename News _ _ _ _ => kN)
        refine sorted_N_str kF kN (l := R) (vs := rits.toList) (ss := dueW k ns) ⟨_, (kN.get (by k_mem)), rfl, _, rfl⟩ hR (by ktr_room) ?_
        intro h17 vs4 S4 e17 F17 N17 hS4 hP4 hs4
        clear kF kN
        generalize (Shared.mk _ _ _ _ _).heap.objs.size + 1 = R4 at N17 ⊢
        dsimp only at F17 N17 ⊢
        k_steps
        (with_reducible rename Fr _ _ _ _ => kF)
        (with_reducible rename News _ _ _ _ => kN)
        (with_reducible rename StrsAre vs3 S3 => hS3)
        (with_reducible rename List.Perm S3 _ => hP3)
        (with_reducible rename sortedS S3 = true => hs3)
        have e32 : S3 = S2 := srt_unique (srt_of hs3) (srt_of hs2) (hP3.trans hP2.symm)
        have e41 : S4 = S1 := srt_unique (srt_of hs4) (srt_of hs1) (hP4.trans hP1.symm)
        subst e32
        subst e41
        show wpAny _ (Ar (dp + 1) (un + 3) _ _) (call (.ref 143) [.ref R3, .ref R4]) _ _ _
        refine alone_call (ia := vs3.toArray) (ib := vs4.toArray) ⟨_, (kN.get (.tail _ (.head _))), rfl, _, rfl⟩ ⟨_, (kN.get (.head _)), rfl, _, rfl⟩ hS3 hS4 hl2 hl1 m2.1 m1.1 m2.2 m1.2 (X.keeps kF.keep) (T.keeps kF.keep) (by ktr_room) (by ktr_room) ?_
        intro h18 tk18 D6 k6 yb hK6 hD6 hk6 hyb
        have F18 := kF.keeps hK6
        have N18 := news_new kF kN hK6 hD6 hk6
        have N19 : News s.heap L h18 [(D6, W.listOf yb k6), (D5, W.listOf ya k5), (R, W.listOf rits kr)] := newsSub N18 (by k_extra "mine sub")
        clear kF kN N18 hK6 hD6 hk6
        try dsimp only
        k_steps
        (with_reducible rename Fr _ _ _ _ => kF)
        (with_reducible rename News _ _ _ _ => kN)
        (with_reducible rename StrsAre (Array.toList ya) _ => hya)
        exact hret _ _ _ R D5 D6 kr k5 k6 rits ya yb _ S4 S3 kF.keep (kN.get (.head _)) (kN.get (by k_mem)) (kN.get (by k_mem)) (kN.get (by k_mem)) hR (srt_of hs1) hP1 (srt_of hs2) hP2 hya hyb
end
end Mine

end F_B18
section F_B19
open PySem PySem.Spec PySem.W PySem.Calls PyProof.Rows PyProof.V PySem.SeqAt
namespace Mine
noncomputable def lawD (r a b : List PySem.Str) (n : Int) : PyData := .list [.list (r.map .str), .int n, .list (a.map .str), .list (b.map .str)]
theorem reads_law {h : Heap} {V R D1 D2 : Addr} {rits ya yb : Array Value} {kr k1 k2 : Nat} {n : Int} {t : Tok} {r a b : List PySem.Str} (hV : h.get? V = some (W.listOf #[.ref R, .int n t, .ref D1, .ref D2] 0)) (hR : h.get? R = some (W.listOf rits kr)) (h1 : h.get? D1 = some (W.listOf ya k1)) (h2 : h.get? D2 = some (W.listOf yb k2))
    (sR : StrsAre rits.toList r) (s1 : StrsAre ya.toList a) (s2 : StrsAre yb.toList b) : ∃ as, Reads h (.ref V) (lawD r a b n) as :=
  ⟨_, Reads.list hV rfl rfl (ReadsAll.cons (reads_strs ⟨_, hR, rfl, _, rfl⟩ sR) (ReadsAll.cons (Reads.int n t) (ReadsAll.cons (reads_strs ⟨_, h1, rfl, _, rfl⟩ s1) (ReadsAll.cons (reads_strs ⟨_, h2, rfl, _, rfl⟩ s2) .nil))))⟩
theorem same_strs_self (xs : List PySem.Str) : PySem.Spec.same (.list (xs.map PyData.str)) (.list (xs.map PyData.str)) = true := by
  simp only [PySem.Spec.same]
  rw [same_strs]; simp
theorem same_law (r a b : List PySem.Str) (n : Int) : PySem.Spec.same (lawD r a b n) (lawD r a b n) = true := by
  have h1 := same_strs_self r
  have h2 := same_strs_self a
  have h3 := same_strs_self b
  simp only [lawD, PySem.Spec.same, PySem.Spec.sameAll] at *
  simp [h1, h2, h3]
theorem noMix_law (r a b : List PySem.Str) (n : Int) : noMix (lawD r a b n) (lawD r a b n) = true := by
  simp only [lawD, noMix, noMixAll, noMix_strs, Bool.and_self]
theorem shaped_law {r a b : List PySem.Str} {n : Int} (h1 : LowS r) (h2 : LowS a) (h3 : LowS b) : shaped (lawD r a b n) = true := by
  have e1 := depthAll_strs r
  have e2 := depthAll_strs a
  have e3 := depthAll_strs b
  show (PyData.canLay0 (lawD r a b n) && decide (PyData.depth (lawD r a b n) ≤ 64)) = true
  rw [Bool.and_eq_true]
  refine ⟨?_, decide_eq_true ?_⟩
  · simp only [lawD, PyData.canLay0, PyData.canLayAll0, canLayAll0_strs _ h1, canLayAll0_strs _ h2, canLayAll0_strs _ h3, Bool.and_self]
  · simp only [lawD, PyData.depth, PyData.depthAll]; omega
theorem eq_law {prog : Program} {w : World} {A : Around} {E : Value → Shared → Prop} {s : Shared} {V V2 : Addr} {as bs : List Addr} {r a b : List PySem.Str} {n : Int} {Q : Value → Shared → Prop} (r1 : Reads s.heap (.ref V) (lawD r a b n) as) (r2 : Reads s.heap (.ref V2) (lawD r a b n) bs) (h1 : LowS r) (h2 : LowS a) (h3 : LowS b) (hu : A.units + 64 < cLine)
    (h : Q (.bool true) s) : wpAny (model prog w) A (compareOp .Eq (.ref V) (.ref V2)) Q E s :=
  eq_dataH_same r1 r2 (shaped_law h1 h2 h3) (shaped_law h1 h2 h3) hu (noMix_law _ _ _ _) (by rw [same_law]; exact h)
theorem alone_mild {hs ts : List PySem.Str} (h : ∀ x ∈ hs, Mild x) : LowS (aloneL hs ts) := by
  intro x hx
  unfold aloneL at hx
  obtain ⟨k, hk, rfl⟩ := List.mem_map.mp hx
  have hk := (List.mem_filter.mp hk).1
  have := mem_rangeKs hk
  have hlt : k.toNat < hs.length := by omega
  have e : hs.getD k.toNat Str.empty = hs[k.toNat] := by simp [hlt]
  rw [e]
  exact (h _ (List.getElem_mem hlt)).1
theorem dict_ne {h : Heap} {L a : Addr} {oL : Obj} {es : Array DictEntry} {ep : Nat} {its : Array Value} {k : Nat} (hL : h.get? L = some oL) (hd : oL.data = .dict es ep) (ha : h.get? a = some (W.listOf its k)) : @Ne Nat a L := fun e => by
  rw [e, hL] at ha
  rw [Option.some.inj ha] at hd
  cases hd
theorem sameUp_one {L : Addr} {oL : Obj} {frs' : List (Addr × Obj)} (h : TI.SameUp [(L, oL)] frs') : ∃ sl, frs' = [(L, { oL with slots := sl })] := by
  cases frs' with
  | nil => exact h.elim
  | cons q qs =>
    obtain ⟨e1, ⟨sl, e2⟩, h3⟩ := h
    cases qs with
    | cons _ _ => exact h3.elim
    | nil =>
      obtain ⟨qa, qo⟩ := q
      dsimp only at e1 e2
      subst e1
      subst e2
      exact ⟨sl, rfl⟩
end Mine

end F_B19
section F_B20
open PySem PySem.Spec PySem.W PySem.Calls PyProof.Rows
namespace Mine
theorem some_ints {vs : List Value} {ns : List Int} (h : IntsAre vs ns) (hl : ns.length ≤ 11) : ∃ ns', IntsAre vs ns' ∧ ns'.length ≤ 11 := ⟨ns, h, hl⟩
section
variable {w : World} {p : Program} {loose : List PySem.Str} {mean : ExcName → Option Value} {mg mb : PySem.Str → Option Value}
   {dp un : Nat} {fr : Option (List Env)} {gd : Option (List Code)} {s : Shared} {Q : Value → Shared → Prop} {E : Value → Shared → Prop}
theorem fill_B20 (w : World) (h : Heap) (X : (hd.heap_1 w.params).In h) : PySem.Challenge.rw_in0215_01.row.prog = PP ∧ (hd.heap_1 w.params).In h := by
  k_fill
  exact ⟨rfl, X⟩
theorem law_told {k : Nat} (hk : k < 4) {g : Heap} {L : Addr} {m : PySem.Str → Option Value} {news : List (Addr × Obj)} {env : Env} {D it : Addr} {dits iits : Array Value} {kd ki : Nat} {ns : List Int} {t : Tok}
   (F : Fr g L s.heap m) (N : News g L s.heap news) (hD : (D, W.listOf dits kd) ∈ news) (hi : (it, W.listOf iits ki) ∈ news) (h106 : (106, tabObj #[]) ∈ news) (h92 : (92, tabObj #[]) ∈ news) (hm : m "items" = some (.ref it)) (hek : env.scope.kind ≠ .module) (hef : env.frame = some L)
   (CH1 : CodeHd g 110 106) (CH2 : CodeHd g 96 92) (hA : IntsAre dits.toList ns) (hlen : ns.length ≤ 11) (X : (hd.heap_1 w.params).In g) (T : Top p loose mean mg mb g) (hdp : dp + 20 < recursionLimit) (hun : un + 600 < cLine)
   (hret : ∀ h' tk' V R D1 D2 kr kd1 kd2 rits ya yb tv S1 S2 ta tc, Fr g L h' m → News g L h' [(V, W.listOf #[.ref R, .int (1 + ((ns.flatMap writtenL).count 10 : Int)) tv, .ref D1, .ref D2] 0), (R, W.listOf rits kr), (D1, W.listOf ya kd1), (D2, W.listOf yb kd2), (106, tabObj ta), (92, tabObj tc), (D, W.listOf dits kd), (it, W.listOf iits ki)] →
     StrsAre rits.toList (dueW k ns) → Srt S1 → S1.Perm (dueW k ns) → Srt S2 → S2.Perm (ns.map word ++ [Str.ofString "A"]) → StrsAre ya.toList (aloneL S1 S2) → StrsAre yb.toList (aloneL S2 S1) → Q (.ref V) {s with heap := h', toks := tk'}) :
   wpAny (model PP w) (Ar dp un (some [env]) gd) (call (.ref 138) [.ref D, .str (patOf k) t]) Q E s := by
  have nl : ∀ {a : Addr} {its : Array Value} {kk : Nat}, (a, W.listOf its kk) ∈ news → a ∉ [((106 : Addr), tabObj #[]), (92, tabObj #[])].map (·.1) := fun {a its kk} ha hm => by
    have h1 := (N _ ha).1
    simp only [List.map_cons, List.map_nil, List.mem_cons, List.not_mem_nil, or_false] at hm
    rcases hm with rfl | rfl
    · have h2 := (N _ h106).1
      rw [h1] at h2; cases h2
    · have h2 := (N _ h92).1
      rw [h1] at h2; cases h2
  obtain ⟨g1, oL, G1, st1, sub1, ⟨es, ep, hoL⟩, back1⟩ := Gh.subL F N (mu := [(106, tabObj #[]), (92, tabObj #[])]) (all_cons h106 (all_cons h92 all_nil))
  have G2 : Gh g1 s.heap ((106, tabObj #[]) :: (92, tabObj #[]) :: [(L, oL)]) := ⟨G1.up, all_cons (G1.at_ _ (.tail _ (.head _))) (all_cons (G1.at_ _ (.tail _ (.tail _ (.head _)))) (all_cons (G1.at_ _ (.head _)) all_nil)), G1.size⟩
  have hL : @Ne Nat L 106 ∧ @Ne Nat L 92 := ⟨fun e => (N _ h106).2.1 e.symm, fun e => (N _ h92).2.1 e.symm⟩
  refine told_call hk G2 (l := [env]) (frs := [(L, oL)]) ⟨hek, hef, ⟨es, ep, hoL⟩, trivial⟩ (CH1.keeps st1) (CH2.keeps st1) (ia := dits) ⟨_, sub1 _ hD (nl hD), rfl, _, rfl⟩ hA hlen (fun q hq => by rw [List.mem_singleton.mp hq]; exact hL) (X.keeps st1) (T.keeps st1) hdp hun ?_
  intro h' tk' frs' V R D1 D2 kr kd1 kd2 rits ya yb tv S1 S2 ta tc SU G3 hR hs1 hp1 hs2 hp2 hya hyb
  obtain ⟨sl, rfl⟩ := sameUp_one SU
  have gL := (G3.at_ (L, { oL with slots := sl }) (.tail _ (.tail _ (.tail _ (.tail _ (.tail _ (.tail _ (.head _)))))))).1
  have G4 : Gh g1 h' ((L, { oL with slots := sl }) :: [(V, W.listOf #[.ref R, .int (1 + ((ns.flatMap writtenL).count 10 : Int)) tv, .ref D1, .ref D2] 0), (R, W.listOf rits kr), (D1, W.listOf ya kd1), (D2, W.listOf yb kd2), (106, tabObj ta), (92, tabObj tc)]) := ⟨G3.up, (all_cons (G3.at_ _ (.tail _ (.tail _ (.tail _ (.tail _ (.tail _ (.tail _ (.head _)))))))) (all_cons (G3.at_ _ (.head _)) (all_cons (G3.at_ _ (.tail _ (.head _))) (all_cons (G3.at_ _ (.tail _ (.tail _ (.head _)))) (all_cons (G3.at_ _ (.tail _ (.tail _ (.tail _ (.head _))))) (all_cons (G3.at_ _ (.tail _ (.tail _ (.tail _ (.tail _ (.head _)))))) (all_cons (G3.at_ _ (.tail _ (.tail _ (.tail _ (.tail _ (.tail _ (.head _))))))) all_nil))))))), G3.size⟩
  obtain ⟨F5, _, R5⟩ := back1 _ sl _ G4 (all_cons (dict_ne gL hoL (G4.at_ _ (.tail _ (.head _))).1) (all_cons (dict_ne gL hoL (G4.at_ _ (.tail _ (.tail _ (.head _)))).1) (all_cons (dict_ne gL hoL (G4.at_ _ (.tail _ (.tail _ (.tail _ (.head _))))).1) (all_cons (dict_ne gL hoL (G4.at_ _ (.tail _ (.tail _ (.tail _ (.tail _ (.head _)))))).1) (all_cons hL.1.symm (all_cons hL.2.symm all_nil))))))
  have N5 := R5 [(D, W.listOf dits kd), (it, W.listOf iits ki)] (all_cons ⟨hD, nl hD⟩ (all_cons ⟨hi, nl hi⟩ all_nil))
  exact hret h' tk' V R D1 D2 kr kd1 kd2 rits ya yb tv S1 S2 ta tc F5 N5 hR hs1 hp1 hs2 hp2 hya hyb
theorem law_due {k : Nat} (hk : k < 4) {g : Heap} {L : Addr} {m : PySem.Str → Option Value} {news : List (Addr × Obj)} {D it : Addr} {dits iits : Array Value} {kd ki : Nat} {ns : List Int}
   (F : Fr g L s.heap m) (N : News g L s.heap news) (hD : (D, W.listOf dits kd) ∈ news) (hi : (it, W.listOf iits ki) ∈ news) (hA : IntsAre dits.toList ns) (hB : StrsAre iits.toList ((itsOf k).map It.str)) (hlen : ns.length ≤ 11)
   (X : (hd.heap_1 w.params).In g) (T : Top p loose mean mg mb g) (hdp : dp + 20 < recursionLimit) (hun : un + 600 < cLine)
   (hret : ∀ h' tk' V2 as2 S1 S2, Fr g L h' m → News g L h' news → Reads h' (.ref V2) (lawD (dueW k ns) (aloneL S1 S2) (aloneL S2 S1) (1 + ((ns.flatMap writtenL).count 10 : Int))) as2 → Srt S1 → S1.Perm (dueW k ns) → Srt S2 → S2.Perm (ns.map word ++ [Str.ofString "A"]) → Q (.ref V2) {s with heap := h', toks := tk'}) :
   wpAny (model PP w) (Ar dp un fr gd) (call (.ref 148) [.ref D, .ref it]) Q E s := by
  refine due_call hk (ia := dits) (ib := iits) ⟨_, (N _ hD).1, rfl, _, rfl⟩ hA hlen ⟨_, (N _ hi).1, rfl, _, rfl⟩ hB (X.keeps F.keep) (T.keeps F.keep) hdp hun ?_
  intro h' tk' V R D1 D2 kr kd1 kd2 rits ya yb tv S1 S2 hK hV hR' h1 h2 hR hs1 hp1 hs2 hp2 hya hyb
  obtain ⟨as2, r2⟩ := reads_law hV hR' h1 h2 hR hya hyb
  exact hret h' tk' V as2 S1 S2 (F.keeps hK) (N.grown hK) r2 hs1 hp1 hs2 hp2
end
end Mine

end F_B20
section F_J2
open PySem PySem.Spec PySem.W PySem.Calls PyProof.Rows Mine
theorem Mine.rows_hdr_J2 : True := by
  k_with_none
  w_top off
  k_with "mine units" => (first | (refine' rm1 ?zuaa ?zuab; (case zuaa => with_reducible assumption); (case zuab => rfl)) | (refine' rm2 ?zuba ?zubb; (case zuba => with_reducible assumption); (case zubb => rfl)) | (refine' rm3 ?zuca ?zucb; (case zuca => with_reducible assumption); (case zucb => rfl)) | (dsimp only [Ar, Around.deeper, Around.in1]; first | (refine' rm1 ?zuda ?zudb; (case zuda => with_reducible assumption); (case zudb => rfl)) | (refine' rm2 ?zuea ?zueb; (case zuea => with_reducible assumption); (case zueb => rfl)) | (refine' rm3 ?zufa ?zufb; (case zufa => with_reducible assumption); (case zufb => rfl)) | (refine' rm4 ?zuga ?zugb; (case zuga => with_reducible assumption); (case zugb => rfl))))
  k_with "mine mem" => (first | with_reducible exact mem_h | with_reducible assumption | (with_reducible refine List.mem_append_left _ ?_; k_extra "mine mem") | (with_reducible refine List.mem_append_right _ ?_; k_extra "mine mem") | (with_reducible refine mem_t ?_; k_extra "mine mem"))
  k_with "mine sub" => (first | exact all_nil | (refine all_cons ?_ ?_; k_extra "mine mem"; k_extra "mine sub") | (refine all_app ?_ ?_; k_extra "mine sub"; k_extra "mine sub") | (intro pq hpq; k_extra "mine mem"))
  k_with "mine room" => (first | with_reducible assumption | (refine' rm1 ?zraa ?zrab; (case zraa => with_reducible assumption); (case zrab => rfl)) | (refine' rm2 ?zrba ?zrbb; (case zrba => with_reducible assumption); (case zrbb => rfl)) | (refine' rm3 ?zrca ?zrcb; (case zrca => with_reducible assumption); (case zrcb => rfl)) | (refine' rm0 ?zrd; (case zrd => with_reducible assumption)) | (refine' leL ?zrea ?zreb; (case zrea => with_reducible assumption); (case zreb => rfl)) | (refine Ne.symm ?zrf; (case zrf => with_reducible assumption)) | (refine Nat.ne_of_lt ?zrg; (case zrg => with_reducible assumption)) | (refine Nat.ne_of_gt ?zrh; (case zrh => with_reducible assumption)) | ((try dsimp only [Ar, Around.deeper, Around.in1]); first | (refine' rm1 ?zria ?zrib; (case zria => with_reducible assumption); (case zrib => rfl)) | (refine' rm2 ?zrja ?zrjb; (case zrja => with_reducible assumption); (case zrjb => rfl)) | (refine' rm3 ?zrka ?zrkb; (case zrka => with_reducible assumption); (case zrkb => rfl)) | (refine' rm4 ?zrla ?zrlb; (case zrla => with_reducible assumption); (case zrlb => rfl)) | omega))
  k_with "mine ne" => (first | with_reducible assumption | (refine Ne.symm ?zna; (case zna => with_reducible assumption)) | (refine Nat.ne_of_lt ?znb; (case znb => with_reducible assumption)) | (refine Nat.ne_of_gt ?znc; (case znc => with_reducible assumption)))
  k_with "mine enter" => (first
  | (refine' enterG ?zqkG ?zqk3 ?zqk5 ?zqk6 ?zqk7 ?zqk8 ?zqk9 ?zqkB ?_ ?zqc2 ?zqc3 ?zqc4 ?zqc5; (case zqkG => k_asm); (case zqk3 => k_asm); (case zqk5 => k_asm); (case zqk6 => k_is); (case zqk7 => k_is); (case zqk8 => ktr_room); (case zqk9 => exact BindsTo.of_eq rfl); (case zqc5 => decide); (case zqkB => exact locs rfl); (case zqc2 => exact rfl); (case zqc3 => exact rfl); (case zqc4 => exact rfl); k_whole; intro Lq' hq' Fq' Nq' l1q; (try k_lt l1q); (try dsimp only); (try k_fold))
  | (refine' enterC ?zqkG ?zqk3 ?zqk5 ?zqk6 ?zqk7 ?zqk8 ?zqk9 ?zqkB ?zqkD ?_ ?zqc2 ?zqc3 ?zqc4; (case zqkG => k_asm); (case zqk3 => k_asm); (case zqk5 => k_asm); (case zqk6 => k_is); (case zqk7 => k_is); (case zqk8 => ktr_room); (case zqk9 => exact BindsTo.of_eq rfl); (case zqkB => exact rfl); (case zqkD => decide +kernel); (case zqc2 => exact rfl); (case zqc3 => exact rfl); (case zqc4 => exact rfl); k_whole; intro Lq' hq' tkq' cellsq' Fq' Nq' Yq' l1q; (try k_lt l1q); k_cells Yq'; (try simp only [List.cons_append, List.nil_append] at Nq'); (try dsimp only); (try k_fold)))
  k_with "mine k_steps" => ((try k_unmd); (try k_fold); repeat' (first | (k_unfold; (try dsimp only)) | ((fail_if_success (k_extra "mine stop")); (fail_if_success (with_reducible show wpAny _ _ (exec (Stmt.For _ _ _ _ _) _) _ _ _)); (fail_if_success (with_reducible show wpAny _ _ (exec (Stmt.While _ _ _ _) _) _ _ _)); (fail_if_success (with_reducible show wpAny _ _ (exec (Stmt.Try _ _ _ _ _) _) _ _ _)); (fail_if_success (with_reducible show wpAny _ _ (eval (PySem.Expr.ListComp _ _ _ _) _) _ _ _)); (fail_if_success (with_reducible show wpAny _ _ (exec (Stmt.Assign _ (PySem.Expr.ListComp _ _ _ _) _) _) _ _ _)); (first | walk1 | (dsimp only; walk1) | (leave1; walk_say "STEP leave1"; try dsimp only))) | fail "no step"))
  k_with "execs cons" => ((try k_made); (try k_gentoks); (with_reducible refine wpAny_execs_cons ?_); (try dsimp only); try k_fold)
  k_with "storeName" => (k_dflt (refine' storeX_L ?z1 ?z2 ?_ ?z3 ?z4; (case z1 => k_asm); (case z2 => k_asm); (case z3 => exact rfl); (case z4 => exact rfl); k_whole); intro hq' Fq' Nq'; (try dsimp only at Fq'); (try k_sweep))
  k_with "eval Name" => (name_kind "local"; k_dflt (refine' nameX_L ?z5 ?z6 ?_ ?z7 ?z8; (case z5 => with_reducible assumption); (case z6 => exact Eq.refl (some _)); (case z7 => exact rfl); (case z8 => exact rfl); k_whole))
  k_with "eval Name" => ((with_reducible show wpAny _ _ (eval (PySem.Expr.Name _ _) (compEnvC _ _ _ _)) _ _ _); k_dflt (first
  | (refine' nm_L ?zqF ?zqv ?_ ?zqa ?zqb ?zqc; (case zqa => rfl); (case zqb => rfl); (case zqc => decide); (case zqF => k_asm); (case zqv => first | with_reducible assumption | assumption | rfl); k_whole)
  | (refine' nm_C ?zqF ?zqhc ?zqho ?zqhd ?_ ?zqa ?zqb ?zqc; (case zqa => rfl); (case zqb => rfl); (case zqc => decide); (case zqF => k_asm); (case zqhc => rfl); (case zqho => first | with_reducible assumption | assumption); (case zqhd => first | with_reducible assumption | assumption); k_whole)
  | (refine' nm_K ?zqF ?zqX ?zqT ?zqe ?_ ?zqg ?zqa ?zqb ?zqc; (case zqa => rfl); (case zqb => rfl); (case zqc => decide); (case zqg => rfl); (case zqF => k_asm); (case zqX => k_asm); (case zqT => k_asm); (case zqe => k_is); k_whole)
  | (refine' nm_B ?zqF ?zqX ?zqT ?zqe ?zqv ?zqn ?_ ?zqg ?zqbn ?zqa ?zqb ?zqc; (case zqa => rfl); (case zqb => rfl); (case zqc => decide); (case zqg => rfl); (case zqbn => rfl); (case zqF => k_asm); (case zqX => k_asm); (case zqT => k_asm); (case zqe => k_is); (case zqv => boot_fast); (case zqn => decide); k_whole)))
  k_with "callWith ref" => (k_here; k_dflt (first
  | ((with_reducible show wpAny _ _ (callWith _ (Value.ref _) _ (backTo _ (starEach (_ :: _) _)) []) _ _ _); first | (refine' callWith_M ?z9 ?z10 ?z11 ?z12 ?_; (case z9 => with_reducible assumption); (case z10 => with_reducible assumption); (case z11 => k_mem); (case z12 => k_is); k_whole) | (refine' callWith_K ?z13 ?z14 ?_; (case z13 => with_reducible assumption); (case z14 => k_is); k_whole))
  | ((with_reducible show wpAny _ _ (callWith _ (Value.ref _) _ (backTo _ (starEach [] _)) []) _ _ _); first | (refine' callWith_M0 ?z15 ?z16 ?_; (case z15 => k_meth); (case z16 => k_is); k_whole; try dsimp only [List.nil_append, List.cons_append]) | (refine' callWith_K0 ?z17 ?z18 ?_; (case z17 => (refine' Frag.In.keeps ?zia (Fr.keep ?zib); (case zib => with_reducible assumption); (case zia => with_reducible assumption))); (case z18 => k_is); k_whole))))
  k_with "subscriptTail" => (k_here; (with_reducible show wpAny _ _ (subscriptTail _ _ (Value.ref _) (Value.int _ _)) _ _ _); (with_unfolding_all refine' item_litK ?z19 ?z20 ?z21 ?z22 ?_ ?z23; (case z19 => is_list); (case z20 => decide); (case z21 => decide); (case z22 => rfl); (case z23 => with_unfolding_all rfl)); k_whole)
  k_with "subscriptTail Name Constant ref int" => (k_here; (with_reducible show wpAny _ _ (subscriptTail _ _ (Value.ref _) (Value.int _ _)) _ _ _); (with_unfolding_all refine' item_litK ?z24 ?z25 ?z26 ?z27 ?_ ?z28; (case z24 => is_list); (case z25 => decide); (case z26 => decide); (case z27 => rfl); (case z28 => with_unfolding_all rfl)); k_whole)
  k_with "eval Name" => (k_here; name_kind "globalImplicit"; k_dflt (first
  | (refine' nameX_K ?zqgF ?zqgX ?zqgT ?zqge ?_ ?zqga ?zqgb; (case zqgF => with_reducible assumption); (case zqgX => with_reducible assumption); (case zqgT => k_asm); (case zqga => rfl); (case zqgb => rfl); (case zqge => k_is); k_whole)
  | (refine' nameX_B ?zqgF ?zqgX ?zqgT ?zqge ?zqgv ?zqgn ?_ ?zqga ?zqgb; (case zqgF => with_reducible assumption); (case zqgX => with_reducible assumption); (case zqgT => k_asm); (case zqga => rfl); (case zqgb => rfl); (case zqge => k_is); (case zqgv => boot_fast); (case zqgn => decide); k_whole)))
  trivial
theorem Mine.rows_J2_0 : True := by
  k_with "mine k_steps" => ((try k_unmd); (try k_fold); repeat' (first | (k_unfold; (try dsimp only)) | ((fail_if_success (with_reducible show wpAny _ _ (exec (Stmt.Assign [PySem.Expr.Tuple _ _ _] _ _) _) _ _ _)); (fail_if_success (with_reducible show wpAny _ _ (call (Value.ref 138) _) _ _ _)); (fail_if_success (with_reducible show wpAny _ _ (call (Value.ref 148) _) _ _ _)); (fail_if_success (with_reducible show wpAny _ _ (compareOp CmpOp.Eq (Value.ref _) (Value.ref _)) _ _ _)); (first | walk1 | (dsimp only; walk1) | (leave1; walk_say "STEP leave1"; try dsimp only))) | fail "no step"))
  trivial
theorem Mine.law_post (ns : List Int) : PySem.Challenge.rw_in0215_01.row.claim.post [ofPy (PyData.list (ns.map PyData.int))] (WData.bool true) [ofPy (PyData.list (ns.map PyData.int))] = true := by
  wrow_post
inductive Mine.Cut (g : Heap) (L a : Addr) (news : List (Addr × Obj)) (s : Shared) (f : Flow) (s' : Shared) : Prop
  | mk (hf : f = .next) (k : Nat) (hk : k < 4) (t : Tok) (it : Addr) (iits : Array Value) (kit : Nat) (h' : Heap) (tk : Nat) (m : PySem.Str → Option Value) (hs : s' = { s with heap := h', toks := tk }) (F : Fr g L h' m) (N : News g L h' news) (m1 : m "pattern" = some (.str (patOf k) t)) (m2 : m "items" = some (.ref it)) (m3 : m "script" = some (.ref a)) (hi : (it, W.listOf iits kit) ∈ news) (hB : StrsAre iits.toList ((itsOf k).map It.str))
theorem Mine.cut4 {prog : Program} {w : World} {A : Around} {st : Stmt} {env : Env} {Q : Flow → Shared → Prop} {E : Value → Shared → Prop} {s : Shared} {g : Heap} {L a : Addr} {m : PySem.Str → Option Value} {news : List (Addr × Obj)} (F : Fr g L s.heap m) (N : News g L s.heap news) (ha : m "script" = some (.ref a))
    (walk : wpAny (model prog w) A (exec st env) (Cut g L a news s) E s)
    (rest : ∀ k t it iits kit h' tk m, k < 4 → Fr g L h' m → News g L h' news → m "pattern" = some (.str (patOf k) t) → m "items" = some (.ref it) → m "script" = some (.ref a) → (it, W.listOf iits kit) ∈ news → StrsAre iits.toList ((itsOf k).map It.str) → Q .next { s with heap := h', toks := tk }) : wpAny (model prog w) A (exec st env) Q E s :=
  wpAny_mono walk (fun f s' c => by
    obtain ⟨rfl, k, hk, t, it, iits, kit, h', tk, m, rfl, F, N, m1, m2, m3, hi, hB⟩ := c
    exact rest k t it iits kit h' tk m hk F N m1 m2 m3 hi hB) fun _ _ e => e
theorem PySem.Challenge.cw_in0215_01_holds : PySem.Challenge.rw_in0215_01.Holds := by
  refine hdw ?_
  k_go0
  all_goals try k_fold
  k_steps
  (with_reducible rename Fr _ _ _ _ => kF)
  (with_reducible rename News _ _ _ _ => kN)
  refine cut4 kF kN (by exact Eq.refl (some _)) ?_ ?_
  · k_with "mine k_steps" => ((try k_unmd); (try k_fold); repeat' (first | (k_unfold; (try dsimp only)) | ((fail_if_success (with_reducible show wpAny _ _ (call (Value.ref 138) _) _ _ _)); (fail_if_success (with_reducible show wpAny _ _ (call (Value.ref 148) _) _ _ _)); (fail_if_success (with_reducible show wpAny _ _ (compareOp CmpOp.Eq (Value.ref _) (Value.ref _)) _ _ _)); (first | walk1 | (dsimp only; walk1) | (leave1; walk_say "STEP leave1"; try dsimp only))) | fail "no step"))
    k_steps
    · (with_reducible rename Fr _ _ _ _ => kF)
      (with_reducible rename News _ _ _ _ => kN)
      exact ⟨rfl, 0, by decide, _, _, _, _, _, _, _, rfl, kF, kN, rfl, rfl, rfl, by k_mem, .cons _ _ (.cons _ _ .nil)⟩
    · (with_reducible rename Fr _ _ _ _ => kF)
      (with_reducible rename News _ _ _ _ => kN)
      exact ⟨rfl, 1, by decide, _, _, _, _, _, _, _, rfl, kF, kN, rfl, rfl, rfl, by k_mem, .cons _ _ .nil⟩
    · (with_reducible rename Fr _ _ _ _ => kF)
      (with_reducible rename News _ _ _ _ => kN)
      exact ⟨rfl, 2, by decide, _, _, _, _, _, _, _, rfl, kF, kN, rfl, rfl, rfl, by k_mem, .cons _ _ (.cons _ _ .nil)⟩
    · (with_reducible rename Fr _ _ _ _ => kF)
      (with_reducible rename News _ _ _ _ => kN)
      exact ⟨rfl, 3, by decide, _, _, _, _, _, _, _, rfl, kF, kN, rfl, rfl, rfl, by k_mem, .cons _ _ (.cons _ _ .nil)⟩
  · intro k t it iits kit h' tk m hk F N m1 m2 m3 hi hB
    rw [pin m1, pin m2, pin m3] at F
    clear kF kN
    k_steps
    (with_reducible rename Fr _ _ _ _ => kF)
    (with_reducible rename News _ _ _ _ => kN)
    (with_reducible rename CodeHd _ (96, 92).1 _ => CH2)
    (with_reducible rename CodeHd _ (110, 106).1 _ => CH1)
    (with_reducible rename IntsAre _ (_ ++ _) => hI)
    (with_reducible rename Frag.In _ _ => kX)
    (with_reducible rename Top _ _ _ _ _ (ghostOf _ _) => kT)
    obtain ⟨ns, hI, hlen⟩ := some_ints hI (by rw [List.length_append, List.length_take]; simp only [List.length_cons, List.length_nil]; omega)
    k_dflt (refine' law_told (k := k) hk kF kN ?hD ?hi ?h106 ?h92 ?hm ?hek ?hef CH1 CH2 hI ?hlen kX kT ?hdp ?hun ?_)
    case hm => rfl
    case hi => k_extra "mine mem"
    case hD => k_mem
    case h106 => k_mem
    case h92 => k_mem
    case hek => exact fun h => nomatch h
    case hef => rfl
    case hdp => show 1 + claimMargin + 1 + 20 < recursionLimit; decide
    case hun => show 4 + 3 + 600 < cLine; decide
    case hlen => exact hlen
    intro h5 tk5 V R D1 D2 kr kd1 kd2 rits ya yb tv S1 S2 ta tc F5 N5 hR hs1 hp1 hs2 hp2 hya hyb
    clear kF kN
    try dsimp only
    k_steps
    (with_reducible rename Fr _ _ _ _ => kF)
    (with_reducible rename News _ _ _ _ => kN)
    k_dflt (refine' law_due (k := k) hk kF kN ?hD ?hi hI ?hB ?hlen kX kT ?hdp ?hun ?_)
    case hi => k_mem
    case hD => k_mem
    case hB => exact hB
    case hdp => show 1 + claimMargin + 1 + 20 < recursionLimit; decide
    case hun => show 4 + 3 + 600 < cLine; decide
    case hlen => exact hlen
    intro h6 tk6 V2 as2 T1 T2 F6 N6 r2 ht1 hq1 ht2 hq2
    obtain rfl := srt_unique ht1 hs1 (hq1.trans hp1.symm)
    obtain rfl := srt_unique ht2 hs2 (hq2.trans hp2.symm)
    obtain ⟨as1, r1⟩ := reads_law (N6.get (.head _)) (N6.get (.tail _ (.head _))) (N6.get (.tail _ (.tail _ (.head _)))) (N6.get (.tail _ (.tail _ (.tail _ (.head _))))) hR hya hyb
    clear kF kN
    try dsimp only
    k_dflt (refine' eq_law r1 r2 ?l1 ?l2 ?l3 ?hu ?_)
    case l1 => exact fun x hx => (dueW_mild _ _ x hx).1
    case l2 => exact alone_mild (fun x hx => dueW_mild _ _ x (hp1.subset hx))
    case l3 => exact alone_mild (fun x hx => wordsA_mild _ x (hp2.subset hx))
    case hu => show 4 + 3 + 64 < cLine; decide
    refine ⟨?_, GrownAt.of N6 (by k_mem), GrownAt.of N6 (by k_mem), trivial⟩
    refine goodW_bool F6 (by assumption) (raisesW_false ?_) (law_post _)
    wrow_none_raised

end F_J2
