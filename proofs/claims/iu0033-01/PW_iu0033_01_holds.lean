import PyProof.Rows.All
import Wide.All
import OpenK.AllK
import Wide.FinOn
import Lean
import PySem.Challenge.RW_iu0033_01
open PySem PySem.W PyProof.Rows
set_option Elab.async false
set_option maxRecDepth 100000

namespace Mine
def vset (b : Bool) : Obj :=
  { cls := .type "set", data := .set #[(0, .int 0 255), (1, .int 1 257), (2, .int 2 259), (3, .int 3 261), (4, .int 4 263),
        (5, .int 5 265), (6, .int 6 267), (7, .int 7 269), (8, .int 8 271), (9, .int 9 273),
        (10, .int 10 275), (11, .int 11 277), (12, .int 12 279), (13, .int 13 281),
        (14, .int 14 283), (15, .int 15 285)] 17
      { mask := 31, place := #[0, 1, 2, 3, 4, 5, 6, 7, 8, 9, 10, 11, 12, 13, 14, 15], dummies := #[], finger := 0, led := b, moves := 1, plain := true } }
def ctab : Obj := { cls := .none, data := .fields #[] }
def more (b : Bool) : List (Option Obj) := [some (vset b), some ctab]
def hookOf (k : Hook) : Hook :=
  ⟨k.α × List (Option Obj), fun s => (k.obs s, [s.heap.get? 56, s.heap.get? 61]), fun w => (k.val w, more (!w.params.followText "set-order")),
   fun w h => k.says w h ∧ (h.get? 56 = some (vset (!w.params.followText "set-order")) ∧ h.get? 61 = some ctab),
   fun w s e => ⟨k.of w s (congrArg Prod.fst e), (List.cons.inj (congrArg Prod.snd e)).1, (List.cons.inj (List.cons.inj (congrArg Prod.snd e)).2).1⟩,
   fun w h h' x kp => ⟨k.keeps w h h' x.1 kp, kp _ _ x.2.1, kp _ _ x.2.2⟩⟩
end Mine

local macro_rules | `(tactic| o_head ($f:term $a:term $b:term $c:term)) => `(tactic| o_head (Mine.hookOf ($f $a $b $c)))
set_option maxHeartbeats 8000000 in
open_top hd for PySem.Challenge.rw_iu0033_01
open PySem PySem.W PyProof.Rows PySem.Calls

-- B1
namespace Mine

/-- what every frame knows of the top -/
structure TW (w : World) (p : Program) (loose : List Str) (mg mb : Str → Option Value) (h : Heap) : Prop where
  k : (hd.heap_39 w.params).In h
  v : h.get? 56 = some (vset (!w.params.followText "set-order"))
  t : TopRead p loose mg mb h
  bm : ∃ ob, h.get? 4 = some ob ∧ ob.cls = .type "module" ∧ ob.dict = some builtinsNs ∧ ob.data = .plain

/-- g is H with some objects hidden -/
structure Hole (H g : Heap) (as : List (Addr × Obj)) : Prop where
  size : g.objs.size = H.objs.size
  get : ∀ b o, g.get? b = some o ↔ (H.get? b = some o ∧ b ∉ as.map (·.1))
theorem hole_is (H : Heap) (as : List (Addr × Obj)) : Hole H (hideAll H (as.map (·.1))) as :=
  ⟨hideAll_size _ _, fun b o => ⟨fun e => ⟨of_hideAll _ e, fun hm => by rw [hideAll_none _ hm] at e; cases e⟩, fun e => hideAll_get _ e.1 e.2⟩⟩
theorem Hole.none {H g : Heap} {as : List (Addr × Obj)} (x : Hole H g as) {b : Addr} (hb : b ∈ as.map (·.1)) : g.get? b = none := by
  cases q : g.get? b with
  | none => rfl
  | some o => exact absurd hb ((x.get _ _).mp q).2

variable {w : World} {p : Program} {loose : List Str} {mg mb : Str → Option Value}

/-- may be hidden: the code table, or what the top did not make -/
def Free (as : List (Addr × Obj)) : Prop := ∀ q ∈ as, q.1 = 61 ∨ 172 < q.1
theorem ns_hole {H g : Heap} {as : List (Addr × Obj)} (x : Hole H g as) (hf : Free as) {a : Addr} {m : Str → Option Value} (ha : a ≠ 61 ∧ a ≤ 172) (n : H.Ns a m) : g.Ns a m := by
  obtain ⟨o, es, ep, e, r⟩ := n
  refine ⟨o, es, ep, (x.get a o).mpr ⟨e, fun hm => ?_⟩, r⟩
  obtain ⟨q, hq, rfl⟩ := List.mem_map.mp hm
  rcases hf q hq with z | z
  · exact ha.1 z
  · exact absurd ha.2 (Nat.not_le.mpr z)
theorem k_small (P : Params) : ((hd.heap_39 P).map (·.1)).all (fun a => a ≠ 61 && Nat.ble a 172) = true := by rfl
theorem lookup_mem {β : Type} {a : Nat} {o : β} : ∀ {l : List (Nat × β)}, l.lookup a = some o → (a, o) ∈ l
  | (b, x) :: r, e => by
    simp only [List.lookup] at e
    split at e
    · rename_i q; cases e; rw [beq_iff_eq.mp q]; exact .head _
    · exact .tail _ (lookup_mem e)
theorem k_at {P : Params} {a : Addr} {o : Obj} (e : (hd.heap_39 P).lookup a = some o) : a ≠ 61 ∧ a ≤ 172 := by
  have hm : a ∈ (hd.heap_39 P).map (·.1) := by
    exact List.mem_map.mpr ⟨_, lookup_mem e, rfl⟩
  have := List.all_eq_true.mp (k_small P) a hm
  simp only [Bool.and_eq_true, decide_eq_true_eq, Nat.ble_eq] at this
  exact ⟨by simpa using this.1, this.2⟩
theorem TW.hole {H g : Heap} {as : List (Addr × Obj)} (W : TW w p loose mg mb H) (x : Hole H g as) (hf : Free as) : TW w p loose mg mb g := by
  have get : ∀ a o, H.get? a = some o → a ≠ 61 ∧ a ≤ 172 → g.get? a = some o := fun a o e ha => (x.get a o).mpr ⟨e, fun hm => by
    obtain ⟨q, hq, rfl⟩ := List.mem_map.mp hm
    rcases hf q hq with z | z
    · exact ha.1 z
    · exact absurd ha.2 (Nat.not_le.mpr z)⟩
  refine ⟨fun a o e => get a o (W.k a o e) (k_at e), get _ _ W.v (by decide), ⟨ns_hole x hf (by decide) W.t.g, ns_hole x hf (by decide) W.t.b, ?_, W.t.builtins, W.t.free⟩, ?_⟩
  · obtain ⟨mc, h1, h2⟩ := W.t.nolimit
    exact ⟨mc, ns_hole x hf (by decide) h1, h2⟩
  · obtain ⟨ob, h1, h2⟩ := W.bm
    exact ⟨ob, get _ _ h1 (by decide), h2⟩
theorem TW.keeps {h h' : Heap} (W : TW w p loose mg mb h) (hk : ∀ b o, h.get? b = some o → h'.get? b = some o) : TW w p loose mg mb h' :=
  ⟨W.k.keeps hk, hk _ _ W.v, W.t.keeps hk, let ⟨ob, h1, h2⟩ := W.bm; ⟨ob, hk _ _ h1, h2⟩⟩

/-- the code table of nibbles_to_bytes: as the top left it, or with the generator expression's code -/
def tabOf (ps : Array Value) : Obj := { cls := .none, data := .fields ps }
def Tb (ps : Array Value) : Prop := ps = #[] ∨ ∃ c, ps = #[rawInt 18, rawInt 11, .ref c]
def Tab (h : Heap) : Prop := ∃ ps : Array Value, h.get? 61 = some (tabOf ps) ∧ Tb ps

/-- how a call that does not raise leaves the state -/
structure Go (s s' : Shared) : Prop where
  keep : ∀ b o, b ≠ 61 → s.heap.get? b = some o → s'.heap.get? b = some o
  tab : Tab s'.heap
  gens : AllBare s'.gens
  os : s'.os = s.os

/-- the state is fit for a call; anc is an object that the call's list brought: behind the top -/
structure Fit (w : World) (p : Program) (loose : List Str) (mg mb : Str → Option Value) (s : Shared) : Prop where
  top : TW w p loose mg mb s.heap
  tab : Tab s.heap
  gens : AllBare s.gens
  anc : ∃ a o, 172 < a ∧ s.heap.get? a = some o

theorem Go.trans {s s' s'' : Shared} (x : Go s s') (y : Go s' s'') : Go s s'' :=
  ⟨fun b o hb e => y.keep b o hb (x.keep b o hb e), y.tab, y.gens, y.os.trans x.os⟩
theorem TW.go {h h' : Heap} (W : TW w p loose mg mb h) (hk : ∀ b o, b ≠ 61 → h.get? b = some o → h'.get? b = some o) : TW w p loose mg mb h' := by
  have x := hole_is h [(61, tabOf #[])]
  refine (W.hole x fun q hq => .inl (by rw [List.mem_singleton.mp hq])).keeps fun b o e => ?_
  obtain ⟨e, hb⟩ := (x.get b o).mp e
  exact hk b o (by simpa using hb) e
theorem Fit.go {s s' : Shared} (W : Fit w p loose mg mb s) (x : Go s s') : Fit w p loose mg mb s' := by
  obtain ⟨a, o, h1, h2⟩ := W.anc
  exact ⟨W.top.go x.keep, x.tab, x.gens, a, o, h1, x.keep _ _ (fun q => by rw [q] at h1; exact absurd h1 (by decide)) h2⟩

/-- the caller's frame behind such a call -/
theorem fr_go {s s' : Shared} {g : Heap} {L : Addr} {m : Str → Option Value} (x : Go s s') (F : Fr g L s.heap m) (h61 : g.get? 61 = none) (hL : L ≠ 61) : Fr g L s'.heap m := by
  obtain ⟨⟨o, es, ep, e, r⟩, k, a⟩ := F
  exact ⟨⟨o, es, ep, x.keep _ _ hL e, r⟩, fun b o e => x.keep b o (fun q => by rw [q, h61] at e; cases e) (k b o e), a⟩

/-- what a body knows of its call -/
structure Inn (w : World) (p : Program) (loose : List Str) (mg mb : Str → Option Value) (s : Shared) (g : Heap) (L an : Addr) (ao : Obj) (ps : Array Value) (as : List (Addr × Obj)) : Prop where
  hole : Hole s.heap g ((an, ao) :: (61, tabOf ps) :: as)
  has : ∀ q ∈ (an, ao) :: as, s.heap.get? q.1 = some q.2
  W : TW w p loose mg mb g
  h61 : g.get? 61 = none
  hL : L ≠ 61
  han : 172 < an
  gens : AllBare s.gens
  hLs : s.heap.get? L = none

section
variable {prog : Program} {A : Around} {R : Result → Shared → Prop} {s : Shared} {f : Addr} {oc : Value} {od : Option Addr} {osl : Array (Option Value)} {name : Str} {params : Arguments} {body : List Stmt} {scope : Scope} {pm cd doc : Value} {args : List Value} {binds : List (Str × Value)}

/-- into a def: as is what it is handed (laid on the ledger) -/
theorem enter (as : List (Addr × Obj)) (W : Fit w p loose mg mb s) (has : ∀ q ∈ as, s.heap.get? q.1 = some q.2 ∧ 172 < q.1) (hroom : A.depth < recursionLimit)
    (ho : (hd.heap_39 w.params).lookup f = some ⟨oc, od, .func (docDef name params body scope pm cd doc), osl⟩) (hcd : codeIn (hd.heap_39 w.params) cd name = true)
    (hbind : bindArgs (docDef name params body scope pm cd doc) ⟨args, []⟩ = pure binds) (hloc : ∀ x ∈ binds, scope.names.lookup x.1 = some .local)
    (h : ∀ g L h₁ ps an ao, Inn w p loose mg mb s g L an ao ps as → (hd.heap_39 w.params).In g → TopRead p loose mg mb g → Fr g L h₁ (fun x => binds.reverse.lookup x) →
      News g L h₁ ((an, ao) :: (61, tabOf ps) :: as) → Tb ps → (∀ b o, s.heap.get? b = some o → h₁.get? b = some o) →
      wpAny (model prog w) (A.deeper (envOf name scope L f cd)) (execs body (envOf name scope L f cd))
        (fun fl s' => R (.ok (.ret (match fl with | .ret v => v | _ => .none))) s')
        (fun e s' => wpAny (model prog w) (A.deeper (envOf name scope L f cd)) (leaving (envOf name scope L f cd) e) (fun _ s'' => R (.error e) s'') (fun e' s'' => R (.error e') s'') s')
        { s with heap := h₁, toks := s.toks + binds.length })
    (hco : scope.isCoroutine = false := by rfl) (hgen : scope.isGenerator = false := by rfl) (hk : scope.kind = .function := by rfl) (hcell : ∀ x ∈ scope.names, x.2 ≠ .cell := by decide) :
    codeAny (model prog w) A (.call (.ref f) ⟨args, []⟩) R s := by
  refine call_plain hroom (W.top.k _ _ ho) rfl W.top.t.nolimit (codeRec_of W.top.k hcd) hbind hloc (fun h₁ F => ?_) hco hgen hk hcell
  obtain ⟨ps, hps, tb⟩ := W.tab
  obtain ⟨an, ao, han, hao⟩ := W.anc
  have x := hole_is s.heap ((an, ao) :: (61, tabOf ps) :: as)
  have hf : Free ((an, ao) :: (61, tabOf ps) :: as) := fun q hq => by
    rcases List.mem_cons.mp hq with rfl | hq
    · exact .inr han
    · rcases List.mem_cons.mp hq with rfl | hq
      · exact .inl rfl
      · exact .inr (has q hq).2
  have W' := W.top.hole x hf
  have h172 : 172 < s.heap.objs.size := Heap.lt_size (W.top.k 172 _ rfl)
  have n61 := x.none (b := 61) (by simp)
  have nL : s.heap.objs.size ≠ 61 := fun q => by rw [q] at h172; exact absurd h172 (by decide)
  have I : Inn w p loose mg mb s _ s.heap.objs.size an ao ps as := ⟨x, fun q hq => by
    rcases List.mem_cons.mp hq with rfl | hq
    · exact hao
    · exact (has q hq).1, W', n61, nL, han, W.gens, by
    cases q : s.heap.get? s.heap.objs.size with
    | none => rfl
    | some o => exact absurd (Heap.lt_size q) (Nat.lt_irrefl _)⟩
  refine h _ s.heap.objs.size h₁ ps an ao I W'.k W'.t ⟨F.ns, fun b o e => F.keep b o ((x.get b o).mp e).1, Nat.le_of_eq x.size⟩ (fun q hq => ?_) tb F.keep
  have hq' : s.heap.get? q.1 = some q.2 := by
    rcases List.mem_cons.mp hq with rfl | hq
    · exact hao
    · rcases List.mem_cons.mp hq with rfl | hq
      · exact hps
      · exact (has q hq).1
  exact ⟨F.keep _ _ hq', fun q' => by rw [q'] at hq'; exact absurd (Heap.lt_size hq') (Nat.lt_irrefl _), x.none (List.mem_map_of_mem hq)⟩
end

theorem tab_of {g h : Heap} {L : Addr} {news : List (Addr × Obj)} {ps : Array Value} (N : News g L h news) (hm : (61, tabOf ps) ∈ news) (tb : Tb ps) : Tab h := ⟨ps, (N _ hm).1, tb⟩
/-- inside a body: what the call found stands -/
theorem kept_in {s s' : Shared} {g : Heap} {L an : Addr} {ao : Obj} {m : Str → Option Value} {as news : List (Addr × Obj)} {ps₀ : Array Value} (I : Inn w p loose mg mb s g L an ao ps₀ as)
    (F : Fr g L s'.heap m) (N : News g L s'.heap news) (hn : ∀ q ∈ (an, ao) :: as, q ∈ news) (b : Addr) (o : Obj) (hb : b ≠ 61) (e : s.heap.get? b = some o) : s'.heap.get? b = some o := by
  have x := I.hole
  have has := I.has
  by_cases hq : b ∈ ((an, ao) :: (61, tabOf ps₀) :: as).map (·.1)
  · obtain ⟨q, hq1, rfl⟩ := List.mem_map.mp hq
    have hq' : q ∈ (an, ao) :: as := by
      rcases List.mem_cons.mp hq1 with z | hq2
      · rw [z]; exact .head _
      · rcases List.mem_cons.mp hq2 with z | hq3
        · rw [z] at hb; exact absurd rfl hb
        · exact .tail _ hq3
    have := has q hq'
    rw [e] at this
    cases this
    exact (N q (hn q hq')).1
  · exact F.keep b o ((x.get b o).mpr ⟨e, hq⟩)
/-- a body's end: the frame keeps the base, the ledger what was hidden -/
theorem go_end {s s' : Shared} {g : Heap} {L an : Addr} {ao : Obj} {m : Str → Option Value} {as news : List (Addr × Obj)} {ps₀ ps : Array Value} (I : Inn w p loose mg mb s g L an ao ps₀ as)
    (F : Fr g L s'.heap m) (N : News g L s'.heap news) (tb : Tb ps) (b : AllBare s'.gens) (o : s'.os = s.os)
    (hm : (61, tabOf ps) ∈ news) (hn : ∀ q ∈ (an, ao) :: as, q ∈ news) : Go s s' :=
  ⟨fun b o hb e => kept_in I F N hn b o hb e, tab_of N hm tb, b, o⟩
/-- what is new to a body is new to its caller -/
theorem fresh_in {s s' : Shared} {g : Heap} {L an t : Addr} {ao : Obj} {m : Str → Option Value} {as news : List (Addr × Obj)} {ps₀ ps : Array Value} (I : Inn w p loose mg mb s g L an ao ps₀ as)
    (F : Fr g L s'.heap m) (N : News g L s'.heap news) (hn : ∀ q ∈ (an, ao) :: as, q ∈ news) (hm : (61, tabOf ps) ∈ news) (ht : s'.heap.get? t = none) : s.heap.get? t = none := by
  cases e : s.heap.get? t with
  | none => rfl
  | some o =>
    by_cases h : t = 61
    · subst h
      rw [(N _ hm).1] at ht
      cases ht
    · rw [kept_in I F N hn t o h e] at ht
      cases ht
theorem fresh_led {s : Shared} {g h : Heap} {L an D : Addr} {ao o : Obj} {as news : List (Addr × Obj)} {ps₀ : Array Value} (I : Inn w p loose mg mb s g L an ao ps₀ as)
    (N : News g L h news) (hm : (D, o) ∈ news) (h1 : @LT.lt Nat _ an D) (h2 : @LT.lt Nat _ 61 D) (h3 : ∀ q ∈ as, @LT.lt Nat _ q.1 D) : 172 < D ∧ s.heap.get? D = none := by
  refine ⟨Nat.lt_trans I.han h1, ?_⟩
  cases e : s.heap.get? D with
  | none => rfl
  | some o' =>
    have := (I.hole.get D o').mpr ⟨e, fun hq => by
      obtain ⟨q, hq, z⟩ := List.mem_map.mp hq
      rcases List.mem_cons.mp hq with rfl | hq
      · exact Nat.ne_of_lt h1 z
      · rcases List.mem_cons.mp hq with rfl | hq
        · exact Nat.ne_of_lt h2 z
        · exact Nat.ne_of_lt (h3 q hq) z⟩
    rw [(N _ hm).2.2] at this
    cases this
theorem big_ne {a : Addr} (h : 172 < a) : a ≠ 61 := fun e => by rw [e] at h; exact absurd h (by decide)
theorem led_lt {g h : Heap} {L a : Addr} {o : Obj} {news : List (Addr × Obj)} (N : News g L h news) (hm : (a, o) ∈ news) : @LT.lt Nat _ a h.objs.size := Heap.lt_size (N _ hm).1
theorem inn_big {s : Shared} {g h : Heap} {L an : Addr} {ao : Obj} {m : Str → Option Value} {as : List (Addr × Obj)} {ps₀ : Array Value} (I : Inn w p loose mg mb s g L an ao ps₀ as) (F : Fr g L h m) : 172 < L := by
  have h1 := F.above
  rw [I.hole.size] at h1
  exact Nat.lt_of_lt_of_le (Nat.lt_trans I.han (Heap.lt_size (I.has _ (.head _)))) h1
theorem get?_size (h : Heap) : h.get? h.objs.size = none := by
  cases e : h.get? h.objs.size with
  | none => rfl
  | some o => exact absurd (Heap.lt_size e) (Nat.lt_irrefl _)
theorem new_big {g h : Heap} {L an : Addr} {ao : Obj} {news : List (Addr × Obj)} (N : News g L h news) (ha : (an, ao) ∈ news) (han : 172 < an) : 172 < h.objs.size :=
  Nat.lt_trans han (Heap.lt_size (N _ ha).1)
/-- fit for a call, inside a body -/
theorem fit_in {s s₁ : Shared} {g : Heap} {L an : Addr} {ao : Obj} {m : Str → Option Value} {as news : List (Addr × Obj)} {ps₀ ps : Array Value} (I : Inn w p loose mg mb s g L an ao ps₀ as) (F : Fr g L s₁.heap m) (N : News g L s₁.heap news) (tb : Tb ps) (b : AllBare s₁.gens)
    (hm : (61, tabOf ps) ∈ news) (ha : (an, ao) ∈ news) : Fit w p loose mg mb s₁ := ⟨I.W.keeps F.keep, tab_of N hm tb, b, an, ao, I.han, (N _ ha).1⟩
/-- the frame behind a call -/
theorem fr_back {s₀ s s' : Shared} {g : Heap} {L an : Addr} {ao : Obj} {m : Str → Option Value} {as : List (Addr × Obj)} {ps₀ : Array Value} (x : Go s s') (I : Inn w p loose mg mb s₀ g L an ao ps₀ as) (F : Fr g L s.heap m) : Fr g L s'.heap m := fr_go x F I.h61 I.hL
/-- behind a call: the table stands anew on the ledger -/
theorem news_back {s₀ s s' : Shared} {g : Heap} {L an : Addr} {ao : Obj} {as news : List (Addr × Obj)} {ps₀ : Array Value} (news' : List (Addr × Obj)) (x : Go s s') (I : Inn w p loose mg mb s₀ g L an ao ps₀ as) (N : News g L s.heap news) (hn : ∀ q ∈ news', q ∈ news ∧ q.1 ≠ 61) :
    ∃ ps', Tb ps' ∧ News g L s'.heap ((61, tabOf ps') :: news') := by
  obtain ⟨ps', e, tb⟩ := x.tab
  refine ⟨ps', tb, fun q hq => ?_⟩
  rcases List.mem_cons.mp hq with rfl | hq
  · exact ⟨e, Ne.symm I.hL, I.h61⟩
  · exact ⟨x.keep _ _ (hn q hq).2 (N q (hn q hq).1).1, (N q (hn q hq).1).2⟩

/-- a call's answer onto the ledger -/
theorem news_res {s s' : Shared} {g : Heap} {L t : Addr} {o : Obj} {m : Str → Option Value} {news news' : List (Addr × Obj)} (F : Fr g L s.heap m) (N : News g L s.heap news) (N' : News g L s'.heap news') (e : s'.heap.get? t = some o)
    (h : s.heap.get? t = none ∨ ∃ o', (t, o') ∈ news) : News g L s'.heap ((t, o) :: news') := by
  intro q hq
  rcases List.mem_cons.mp hq with rfl | hq
  · rcases h with h | ⟨o', h⟩
    · obtain ⟨oL, _, _, hL, _⟩ := F.ns
      refine ⟨e, fun z => ?_, ?_⟩
      · rw [show t = L from z, hL] at h; cases h
      · cases z : g.get? t with
        | none => rfl
        | some o' => rw [F.keep _ _ z] at h; cases h
    · exact ⟨e, (N _ h).2.1, (N _ h).2.2⟩
  · exact N' q hq

/-- a list (b) or a tuple -/
def seqO (b : Bool) (vs : List Value) (n : Nat) : Obj := { cls := .type (if b then "list" else "tuple"), data := .seq vs.toArray n }
abbrev tupO (vs : List Value) (n : Nat) : Obj := { cls := .type "tuple", data := .seq vs.toArray n }
abbrev lstO (vs : List Value) (n : Nat) : Obj := { cls := .type "list", data := .seq vs.toArray n }
def SeqAt (h : Heap) (x : Addr) (vs : List Value) : Prop := h.IsList x vs.toArray ∨ IsTup h x vs.toArray
theorem seqAt {h : Heap} {x : Addr} {b : Bool} {vs : List Value} {n : Nat} (e : h.get? x = some (seqO b vs n)) : SeqAt h x vs := by
  cases b
  · exact .inr ⟨_, e, rfl, n, rfl⟩
  · exact .inl ⟨_, e, rfl, n, rfl⟩
theorem seqAt_in {g h : Heap} {L : Addr} {news : List (Addr × Obj)} {x : Addr} {b : Bool} {vs : List Value} {n : Nat} (N : News g L h news) (e : (x, seqO b vs n) ∈ news) : SeqAt h x vs := seqAt (N _ e).1
end Mine

-- S1
namespace Mine
variable {w : World} {p : Program} {loose : List Str} {mg mb : Str → Option Value}
theorem seq_bool {vs : List Value} {ns : List Int} (hi : IntsAre vs ns) : (!vs.toArray.isEmpty) = decide (ns ≠ []) := by
  cases hi <;> simp
section
variable {prog : Program} {A : Around} {E : Value → Shared → Prop} {s : Shared} {x : Addr} {vs : List Value} {ns : List Int}
theorem truthy_seq {Q : Bool → Shared → Prop} (hx : SeqAt s.heap x vs) (hi : IntsAre vs ns) (hn : ns.length < 1000)
    (h : Q (decide (ns ≠ [])) { s with toks := s.toks + 1 + 1 }) : wpAny (model prog w) A (truthy (.ref x)) Q E s := by
  have hl := hi.length
  rw [← seq_bool hi] at h
  rcases hx with hx | hx
  · exact wpAny_truthy_list hx (by simp only [List.size_toArray]; omega) h
  · exact truthy_tuple hx (by simp only [List.size_toArray]; omega) h
theorem meets_bool_seq (hi : IntsAre vs ns) (hn : ns.length < 1000) :
    Meets (Builtin.«bool.__new__» ⟨[.type "bool", .ref x], []⟩) (fun _ R s => SeqAt s.heap x vs ∧ R (.ok (.ret (.bool (decide (ns ≠ []))))) { s with toks := s.toks + 1 + 1 }) :=
  Meets.of_wp fun prog w A R s hs => by
    obtain ⟨hp, g, d, tk, os⟩ := s
    have f1 := F.conv_sub_bool
    obtain ⟨hx, hs⟩ := hs
    repeat (any_goals (first | assumption | (with_reducible refine truthy_seq hx hi hn ?_) | wp_step))
    all_goals first | exact ⟨_, rfl, hs⟩ | exact hs | skip
theorem call_bool_seq {Q : Value → Shared → Prop} (hx : SeqAt s.heap x vs) (hi : IntsAre vs ns) (hn : ns.length < 1000) (h : Q (.bool (decide (ns ≠ []))) { s with toks := s.toks + 1 + 1 }) :
    wpAny (model prog w) A (call (.type "bool") [.ref x]) Q E s :=
  call_bool_1 (meets_bool_seq hi hn) ⟨hx, rfl, h⟩
end
theorem intsAre_get {vs : List Value} {ns : List Int} (hi : IntsAre vs ns) : ∀ {j : Nat} {n : Int}, ns[j]? = some n → ∃ t, vs[j]? = some (.int n t) := by
  induction hi with
  | nil => intro j n h; simp at h
  | cons a t _ ih =>
    intro j n h
    cases j with
    | zero => simp at h; subst h; exact ⟨t, rfl⟩
    | succ j => exact ih (by simpa using h)
section
variable {prog : Program} {A : Around} {E : Value → Shared → Prop} {s : Shared} {x : Addr} {vs : List Value} {ns : List Int} {k n : Int} {j : Nat} {u : Tok}
theorem getItem_seq {Q : Value → Shared → Prop} (hx : SeqAt s.heap x vs) (hi : IntsAre vs ns) (hn : ns.length < 1000) (hk : 0 ≤ k ∧ k = j ∨ k < 0 ∧ k + ns.length = j) (hj : ns[j]? = some n)
    (h : ∀ t, Q (.int n t) s) : wpAny (model prog w) A (getItem (.ref x) (.int k u)) Q E s := by
  obtain ⟨t, ht⟩ := intsAre_get hi hj
  have hl := hi.length
  have hlt : j < ns.length := by
    rcases Nat.lt_or_ge j ns.length with q | q
    · exact q
    · rw [List.getElem?_eq_none q] at hj; cases hj
  have ht' : vs.toArray[j]? = some (.int n t) := by simpa using ht
  rcases hx with hx | hx
  · rcases hk with ⟨h0, rfl⟩ | ⟨h0, h1⟩
    · exact wpAny_getItem_list hx h0 (by omega) (by simpa using ht) (h t)
    · exact wpAny_getItem_list_neg hx h0 (by simp only [List.size_toArray]; omega) (by omega) (by simp only [List.size_toArray, hl]; rw [h1]; simpa using ht) (h t)
  · refine getItem_tuple hx (by omega) (by omega) (j := j) ?_ ht' (h t)
    unfold seqIndex?
    simp only [List.size_toArray, hl]
    rcases hk with ⟨h0, rfl⟩ | ⟨h0, h1⟩
    · have e : ¬ ((j : Int) < 0) := by omega
      simp only [e, if_false]
      simp [hlt]
    · simp only [h0, if_true, h1]
      simp [hlt]
theorem item_seq {value slice : PySem.Expr} {Q : Value → Shared → Prop} (hx : SeqAt s.heap x vs) (hi : IntsAre vs ns) (hn : ns.length < 1000) (hk : 0 ≤ k ∧ k = j ∨ k < 0 ∧ k + ns.length = j) (hj : ns[j]? = some n)
    (h : ∀ t, Q (.int n t) s) (hs : subscripted slice false (.ref x) (.int k u) = operate [.ref x, .int k u] (getItem (.ref x) (.int k u)) := by with_unfolding_all rfl) :
    wpAny (model prog w) A (subscriptTail value slice (.ref x) (.int k u)) Q E s := by
  have hg := getItem_seq (prog := prog) (w := w) (A := A) (Q := Q) (E := E) (u := u) hx hi hn hk hj h
  rcases hx with hx | hx
  · exact tail_any hx.typeIs slot_list_getitem.lookup hg hs
  · exact tail_any hx.typeIs slot_tuple_getitem.lookup hg hs
theorem item_last {value slice : PySem.Expr} {Q : Value → Shared → Prop} (hx : SeqAt s.heap x vs) (hi : IntsAre vs ns) (hn : ns.length < 1000) (hne : ns ≠ [])
    (h : ∀ t, Q (.int (ns.getLast hne) t) s) (hs : subscripted slice false (.ref x) (.int (-1) u) = operate [.ref x, .int (-1) u] (getItem (.ref x) (.int (-1) u)) := by with_unfolding_all rfl) :
    wpAny (model prog w) A (subscriptTail value slice (.ref x) (.int (-1) u)) Q E s := by
  have hp : 0 < ns.length := List.length_pos_iff.mpr hne
  refine item_seq hx hi hn (j := ns.length - 1) (.inr ⟨by omega, by omega⟩) ?_ h hs
  rw [List.getLast_eq_getElem, List.getElem?_eq_getElem]
end
section
variable {prog : Program} {A : Around} {E : Value → Shared → Prop} {s₀ s : Shared} {x L an : Addr} {ao : Obj} {b : Bool} {vs : List Value} {n : Nat} {g : Heap} {m : Str → Option Value} {as news : List (Addr × Obj)} {ps₀ ps : Array Value}
/-- tuple(x) of a list or a tuple -/
theorem tuple_of {Q : Value → Shared → Prop} (I : Inn w p loose mg mb s₀ g L an ao ps₀ as) (F : Fr g L s.heap m) (N : News g L s.heap news) (hx : (x, seqO b vs n) ∈ news) (h172 : 172 < x) (hn : vs.length < 1000)
    (hm : (61, tabOf ps) ∈ news) (hs : ∀ q ∈ (an, ao) :: as, q ∈ news)
    (h : ∀ t h' n', Fr g L h' m → News g L h' ((t, tupO vs n') :: news) → 172 < t → (t = x ∨ s₀.heap.get? t = none) → Q (.ref t) { s with heap := h' }) :
    wpAny (model prog w) A (call (.type "tuple") [.ref x]) Q E s := by
  have e := (N _ hx).1
  cases b
  · exact call_tuple_tup ⟨_, e, rfl, n, rfl⟩ (h x s.heap n F (fun q hq => by
      rcases List.mem_cons.mp hq with rfl | hq
      · exact ⟨e, (N _ hx).2⟩
      · exact N q hq) h172 (.inl rfl))
  · refine call_tuple_list ⟨_, e, rfl, n, rfl⟩ (fun h' hk => ?_) (by rw [sizeLine_eq, List.size_toArray]; omega)
    have F' := F.keeps hk
    have N' : News g L h' news := fun q hq => ⟨hk _ _ (N q hq).1, (N q hq).2⟩
    exact h _ _ 0 (F'.push _) (N'.push F' _) (new_big N' (hs _ (.head _)) I.han) (.inr (fresh_in (s' := { s with heap := h' }) I F' N' hs hm (get?_size _)))
end
end Mine

-- S2
namespace Mine
section
variable {prog : Program} {w : World} {A : Around} {E : Value → Shared → Prop} {s : Shared}
theorem pick_init (items : Array Value) (h : 1 ≤ items.size) : slicePick items none (some (-1)) none = (items.toList.take (items.size - 1)).toArray := by
  have e : sliceBounds none (some (-1)) none items.size = (((0 : Nat) : Int), ((items.size - 1 : Nat) : Int), 1) := by
    simp only [sliceBounds, Option.getD_none, show (1 : Int) > 0 by decide, if_true, if_pos (show ((-1 : Int)) < 0 by decide)]
    congr 1
    congr 1
    omega
  rw [kmk_pick_nat _ e]
  simp
theorem sliceApplied_init {sl : Addr} {n : Nat} {u : Tok} {Q : Int × Int × Nat → Shared → Prop} (hs : s.heap.IsSliceOf sl .none (.int (-1) u) .none) (hn : 1 ≤ n) (h : Q (0, 1, n - 1) s) :
    wpAny (model prog w) A (Builtin.Slice.sliceApplied (.ref sl) (pure (n : Int))) Q E s := by
  obtain ⟨os, hos, hcs, hds⟩ := id hs
  unfold Builtin.Slice.sliceApplied Builtin.Slice.sliceFields
  refine wpAny_bind (wpAny_bind (wpAny_field hos hds (x := .none) rfl (wpAny_bind (wpAny_field hos hds (x := .int (-1) u) rfl (wpAny_bind (wpAny_field hos hds (x := .none) rfl (wpAny_pure ?_)))))))
  refine wpAny_bind (slicePart_none ?_)
  show wpAny _ _ (if ((1 : Int) == 0) = true then _ else _) _ _ s
  rw [if_neg (by decide)]
  refine wpAny_bind (slicePart_none (wpAny_bind (slicePart_int (wpAny_bind (wpAny_pure ?_)))))
  show wpAny _ _ (match Builtin.Slice.sliceAdjust none (some (-1 : Int)) 1 (n : Int) with | (lo, hi) => pure (lo, (1 : Int), Builtin.Slice.slicePlaces lo hi 1)) _ _ s
  have e1 : Builtin.Slice.sliceAdjust none (some (-1 : Int)) 1 (n : Int) = (0, ((n - 1 : Nat) : Int)) := by
    unfold Builtin.Slice.sliceAdjust
    simp only [show ¬ ((1 : Int) < 0) by omega, show ((-1 : Int) < 0) by omega, if_true, if_false]
    congr 1
    omega
  rw [e1]
  show wpAny _ _ (pure ((0 : Int), (1 : Int), Builtin.Slice.slicePlaces (0 : Int) ((n - 1 : Nat) : Int) 1)) _ _ s
  have e2 : Builtin.Slice.slicePlaces (0 : Int) ((n - 1 : Nat) : Int) 1 = n - 1 := by
    unfold Builtin.Slice.slicePlaces
    simp only [show (1 : Int) > 0 by omega, if_true, Int.ediv_one]
    split <;> omega
  rw [e2]
  exact wpAny_pure h
theorem getItem_tuple_init {t sl : Addr} {items : Array Value} {u : Tok} {Q : Value → Shared → Prop} (ht : IsTup s.heap t items) (hs : s.heap.IsSliceOf sl .none (.int (-1) u) .none) (h1 : 1 ≤ items.size)
    (h : Q (.ref s.heap.objs.size) { s with heap := s.heap.push { cls := .type "tuple", data := .seq (items.toList.take (items.size - 1)).toArray } })
    (hsz : items.size ≤ sizeLine) : wpAny (model prog w) A (getItem (.ref t) (.ref sl)) Q E s := by
  have hdrop : sizeOk (.seq (items.toList.take (items.size - 1)).toArray) := by
    show (items.toList.take (items.size - 1)).toArray.size ≤ sizeLine
    rw [List.size_toArray, List.length_take, Array.length_toList]
    omega
  obtain ⟨os, hos, hcs, hds⟩ := id hs
  have hTs : s.TypeIs (.ref sl) "slice" := ⟨os, hos, hcs⟩
  unfold getItem
  try with_reducible refine wpAny_holding ?_
  first | refine wpAny_bind (wpAny_pure ?_) | skip
  refine wpAny_bind (wpAny_sequenceKey ht.typeIs (by decide) ?_)
  refine wpAny_bind (wpAny_callSpecial?_slot (name := Str.ofString "__getitem__") ht.typeIs slot_tuple_getitem
    (wpAny_call_entry slot_tuple_getitem ht.typeIs entry_tuple_getitem ?_ (args_tuple_getitem _ _)))
  show wpAny _ _ (Builtin.Tuple.tupleItemsOf (.ref t) >>= _) _ _ s
  refine wpAny_bind (tupleItemsOf_ ht ?_)
  refine wpAny_bind (wpAny_typeOf hTs ?_)
  rw [if_pos (by decide)]
  refine wpAny_bind (sliceApplied_init hs h1 ?_)
  have hno : ¬ (((0 : Int) == 0 && (1 : Int) == 1 && (items.size - 1) == items.size) = true) := by
    have : ((items.size - 1) == items.size) = false := by rw [beq_eq_false_iff_ne]; omega
    rw [this]; simp
  show wpAny _ _ (if ((0 : Int) == 0 && (1 : Int) == 1 && (items.size - 1) == items.size) = true then _ else _) _ _ s
  have e : ((List.range (items.size - 1)).filterMap fun (k : Nat) => items[((0 : Int) + (k : Int) * 1).toNat]?).toArray = (items.toList.take (items.size - 1)).toArray := by
    have e : (fun (k : Nat) => items[((0 : Int) + (k : Int) * 1).toNat]?) = fun k => items[0 + k]? := by
      funext k
      have : ((0 : Int) + (k : Int) * 1).toNat = 0 + k := by omega
      rw [this]
    rw [e]
    have := pick_run items 0 (items.size - 1)
    rw [List.filterMap_map] at this
    have e2 : ((fun x => items[x]?) ∘ fun x => 0 + x) = fun k => items[0 + k]? := rfl
    rw [e2] at this
    rw [this, List.drop_zero]
  rw [if_neg hno, e]
  first
    | exact wpAny_bind (m := Builtin.Tuple.tupleExact _) (wpAny_newObj_type (wpAny_pure ⟨_, rfl, wpAny_pure h⟩) hdrop)
    | exact wpAny_bind (m := Builtin.Tuple.tupleExact _) (wpAny_newObj_type (wpAny_bind (wpAny_pure (wpAny_pure ⟨_, rfl, wpAny_pure h⟩))) hdrop)
    | exact wpAny_bind (wpAny_bind (m := Builtin.Tuple.tupleExact _) (wpAny_newObj_type (wpAny_pure (wpAny_pure ⟨_, rfl, wpAny_pure h⟩)) hdrop))
    | exact wpAny_bind (wpAny_bind (m := Builtin.Tuple.tupleExact _) (wpAny_newObj_type (wpAny_pure ⟨_, rfl, wpAny_pure h⟩) hdrop))
variable {g : Heap} {L x : Addr} {m : Str → Option Value} {news : List (Addr × Obj)} {b : Bool} {vs : List Value} {n : Nat}
/-- x[:-1] of a list or a tuple that is not empty -/
theorem slice_init {value slice : PySem.Expr} {u : Tok} {Q : Value → Shared → Prop} (F : Fr g L s.heap m) (N : News g L s.heap news) (hx : (x, seqO b vs n) ∈ news) (h1 : vs ≠ []) (hn : vs.length < 1000)
    (h : ∀ D h', Fr g L h' m → News g L h' ((D, seqO b vs.dropLast 0) :: news) → (∀ p ∈ news, p.1 < D) → Q (.ref D) { s with heap := h' })
    (hs : subscripted slice false (.ref x) (.ref s.heap.objs.size) = operate [.ref s.heap.objs.size, .ref x] (getItem (.ref x) (.ref s.heap.objs.size)))
    (hg : ∀ r, letTemporaryGo value (.ref x) r = pure ()) :
    wpAny (model prog w) A (subscriptTail value slice (.ref x) (.ref s.heap.objs.size)) Q E { s with heap := s.heap.push { cls := .type "slice", data := .fields #[.none, .int (-1) u, .none] } } := by
  have e := (N _ hx).1
  have hp : 1 ≤ vs.toArray.size := by
    rw [List.size_toArray]
    exact List.length_pos_iff.mpr h1
  have hz : vs.toArray.size ≤ sizeLine := by rw [sizeLine_eq, List.size_toArray]; omega
  have et : (vs.toArray.toList.take (vs.toArray.size - 1)).toArray = vs.dropLast.toArray := by
    rw [List.dropLast_eq_take]
    simp
  cases b
  · have ht' : IsTup (s.heap.push { cls := .type "slice", data := .fields #[.none, .int (-1) u, .none] }) x vs.toArray := ⟨_, Heap.get?_push_of_some _ e, rfl, n, rfl⟩
    refine subscriptTail_ops (s := { s with heap := s.heap.push { cls := .type "slice", data := .fields #[.none, .int (-1) u, .none] } }) ht'.typeIs slot_tuple_getitem.lookup
      (getItem_tuple_init ht' (Heap.IsSliceOf.new ..) hp ?_ hz) hs hg
    have N1 := News.push (F.push { cls := .type "slice", data := .fields #[.none, .int (-1) u, .none] }) (N.grown fun _ _ e => Heap.get?_push_of_some _ e) { cls := .type "tuple", data := .seq (vs.toArray.toList.take (vs.toArray.size - 1)).toArray }
    rw [et] at N1 ⊢
    exact h _ _ ((F.push _).push _) N1 fun p hp => by rw [Heap.size_push]; exact Nat.lt_succ_of_lt (Heap.lt_size (N p hp).1)
  · refine slice_list F N ⟨_, e, rfl, n, rfl⟩ .none (.int _ _) (fun h' F' N' => ?_) hs hg hz
    rw [pick_init _ hp, et] at N'
    exact h _ _ F' N' fun p hp => Nat.lt_succ_of_lt (Heap.lt_size (N p hp).1)
end
theorem intsAre_init {vs : List Value} {ns : List Int} (hi : IntsAre vs ns) : IntsAre vs.dropLast ns.dropLast := by
  rw [List.dropLast_eq_take, List.dropLast_eq_take, hi.length]
  exact hi.take _
end Mine

-- C1
namespace Mine
variable {w : World} {p : Program} {loose : List Str} {mg mb : Str → Option Value}
theorem fill_one (P : Params) : PySem.Challenge.rw_iu0033_01.name = PySem.Challenge.rw_iu0033_01.name ∧ hd.heap_39 P = hd.heap_39 P := by
  k_fill
  exact ⟨rfl, rfl⟩
theorem N_get {g h : Heap} {L a : Addr} {o : Obj} {news : List (Addr × Obj)} (N : News g L h news) (hm : (a, o) ∈ news) : h.get? a = some o := (N _ hm).1
def isT (ns : List Int) : Bool := decide (ns.getLast? = some 16)
def addT (ns : List Int) : List Int := if isT ns then ns else ns ++ [16]
def remT (ns : List Int) : List Int := if isT ns then ns.dropLast else ns
theorem isT_ne {ns : List Int} (h : ns ≠ []) : (ns.getLast h == 16) = isT ns := by
  unfold isT
  rw [List.getLast?_eq_some_getLast h]
  simp [Bool.beq_eq_decide_eq]
local macro_rules | `(tactic| k_steps) => `(tactic| repeat' (first | (k_unfold; (try dsimp only)) | (walk1 <;> (try dsimp only)) | (dsimp only; walk1) | (leave1; walk_say "STEP leave1"; try dsimp only) | fail "no step"))
local macro_rules | `(tactic| ktr_room) => `(tactic| (simp only [depth_deeper, depth_in1] at *; omega))
section
variable {prog : Program} {A : Around} {R : Result → Shared → Prop} {s : Shared} {x : Addr} {b : Bool} {n : Nat} {vs : List Value} {ns : List Int}
set_option maxHeartbeats 4000000 in
theorem c_ist (W : Fit w p loose mg mb s) (hd : A.depth + 2 < recursionLimit) (hx : s.heap.get? x = some (seqO b vs n)) (h172 : 172 < x) (hi : IntsAre vs ns) (hn : ns.length < 1000)
    (h : ∀ s', Go s s' → R (.ok (.ret (.bool (isT ns)))) s') :
    codeAny (model prog w) A (.call (.ref 71) ⟨[.ref x], []⟩) R s := by
  refine enter [(x, seqO b vs n)] (binds := [("nibbles", .ref x)]) W (fun q hq => by rw [List.mem_singleton.mp hq]; exact ⟨hx, h172⟩) (by omega) (by k_is) (by k_is) rfl (locs rfl) ?_
  intro g L h₁ ps an ao I X T F N tb hk₁
  have hx' := seqAt (hk₁ _ _ hx)
  have hb := I.gens
  k_steps
  · refine call_bool_seq hx' hi hn ?_
    (try dsimp only)
    k_steps
    · refine item_last hx' hi hn (by assumption) (fun t => ?_)
      k_steps
      rw [isT_ne]
      exact h _ (go_end I F N tb hb rfl (by k_mem) (by simp))
    · rename_i he
      have e : ns = [] := Classical.not_not.mp he
      subst e
      exact h _ (go_end I F N tb hb rfl (by k_mem) (by simp))
end
local macro_rules | `(tactic| walk_at "call ref") => `(tactic| ((with_reducible show wpAny _ _ (call (Value.ref 71) [Value.ref _]) _ _ _); refine wpAny_call ?_; refine c_ist (fit_in (by assumption) (by assumption) (by assumption) (by assumption) (by assumption) (by k_mem) (by k_mem)) (by ktr_room) (N_get (by assumption) (by k_mem)) (by assumption) (by assumption) (by omega) ?_; intro s' go))
section
variable {prog : Program} {A : Around} {R : Result → Shared → Prop} {s : Shared} {x : Addr} {b : Bool} {n : Nat} {vs : List Value} {ns : List Int}
set_option maxHeartbeats 4000000 in
theorem c_addT (W : Fit w p loose mg mb s) (hd : A.depth + 3 < recursionLimit) (hx : s.heap.get? x = some (seqO b vs n)) (h172 : 172 < x) (hi : IntsAre vs ns) (hn : ns.length < 900)
    (h : ∀ t ws n' s', Go s s' → s'.heap.get? t = some (tupO ws n') → IntsAre ws (addT ns) → 172 < t → (t = x ∨ s.heap.get? t = none) → R (.ok (.ret (.ref t))) s') :
    codeAny (model prog w) A (.call (.ref 78) ⟨[.ref x], []⟩) R s := by
  have hlen := hi.length
  refine enter [(x, seqO b vs n)] (binds := [("nibbles", .ref x)]) W (fun q hq => by rw [List.mem_singleton.mp hq]; exact ⟨hx, h172⟩) (by omega) (by k_is) (by k_is) rfl (locs rfl) ?_
  intro g L h₁ ps an ao I X T F N tb hk₁
  have hb := I.gens
  k_steps
  all_goals (
    rename_i s' go hT
    have F' := fr_back go I F
    obtain ⟨ps', tb', N'⟩ := news_back [(an, ao), (x, seqO b vs n)] go I N (by simp; exact ⟨big_ne I.han, big_ne h172⟩)
    have hb' := go.gens
    clear F N tb hb
    k_steps
    refine tuple_of I F' N' (by k_mem) h172 (by omega) (by k_mem) (by simp) ?_
    intro t h2 n' F2 N2 ht hf
    k_steps)
  · exact h _ _ _ _ (go_end I F2 N2 tb' hb' go.os (by k_mem) (by simp)) (N2 _ (.head _)).1 (by unfold addT; rw [if_pos hT]; exact hi) ht hf
  · rename_i D h3 F3 N3 l1 hnil
    subst hnil
    have f := fresh_led I N3 (.head _) l1.2.2.1 l1.2.1 (by simp; exact l1.2.2.2)
    exact h _ [.int 16 187] 0 _ (go_end I F3 N3 tb' hb' go.os (by k_mem) (by simp)) (N3 _ (.head _)).1 (by unfold addT; rw [hT]; exact .cons _ _ .nil) f.1 (.inr f.2)
  · rename_i D h3 F3 N3 l1 h4 F4 N4 i4
    have f := fresh_led I N4 (.head _) (led_lt N3 (by k_mem)) (led_lt N3 (by k_mem : (61, tabOf ps') ∈ _)) (by simp; exact led_lt N3 (by k_mem))
    exact h _ _ 0 _ (go_end I F4 N4 tb' hb' go.os (by k_mem) (by simp)) (N4 _ (.head _)).1 (by unfold addT; rw [hT]; exact i4) f.1 (.inr f.2)
set_option maxHeartbeats 4000000 in
theorem c_remT (W : Fit w p loose mg mb s) (hd : A.depth + 3 < recursionLimit) (hx : s.heap.get? x = some (seqO b vs n)) (h172 : 172 < x) (hi : IntsAre vs ns) (hn : ns.length < 900)
    (h : ∀ t ws n' s', Go s s' → s'.heap.get? t = some (tupO ws n') → IntsAre ws (remT ns) → 172 < t → (t = x ∨ s.heap.get? t = none) → R (.ok (.ret (.ref t))) s') :
    codeAny (model prog w) A (.call (.ref 85) ⟨[.ref x], []⟩) R s := by
  have hlen := hi.length
  refine enter [(x, seqO b vs n)] (binds := [("nibbles", .ref x)]) W (fun q hq => by rw [List.mem_singleton.mp hq]; exact ⟨hx, h172⟩) (by omega) (by k_is) (by k_is) rfl (locs rfl) ?_
  intro g L h₁ ps an ao I X T F N tb hk₁
  have hb := I.gens
  k_steps
  all_goals (
    rename_i s' go hT
    have F' := fr_back go I F
    obtain ⟨ps', tb', N'⟩ := news_back [(an, ao), (x, seqO b vs n)] go I N (by simp; exact ⟨big_ne I.han, big_ne h172⟩)
    have hb' := go.gens
    clear F N tb hb
    k_steps)
  · refine slice_init (s := { s' with toks := s'.toks + 1 + 1 }) F' N' (by k_mem) ?_ (by omega) ?_ ?hs ?hg
    case hs => with_unfolding_all rfl
    case hg => intro _; with_unfolding_all rfl
    · rintro rfl
      cases hi
      simp [isT] at hT
    intro D h2 F2 N2 l1
    k_steps
    refine tuple_of I F2 N2 (by k_mem) (Nat.lt_trans I.han (l1 (an, ao) (by k_mem))) (by rw [List.length_dropLast]; omega) (by k_mem) (by simp) ?_
    intro t h3 n' F3 N3 ht hf
    k_steps
    have f := fresh_led I N2 (.head _) (l1 (an, ao) (by k_mem)) (l1 (61, tabOf ps') (by k_mem)) (by simp; exact l1 (x, seqO b vs n) (by k_mem))
    have hf' : s.heap.get? t = none := by
      rcases hf with rfl | hf
      · exact f.2
      · exact hf
    exact h _ _ _ _ (go_end I F3 N3 tb' hb' go.os (by k_mem) (by simp)) (N3 _ (.head _)).1 (by unfold remT; rw [if_pos hT]; exact intsAre_init hi) ht (.inr hf')
  · refine tuple_of I F' N' (by k_mem) h172 (by omega) (by k_mem) (by simp) ?_
    intro t h2 n' F2 N2 ht hf
    k_steps
    exact h _ _ _ _ (go_end I F2 N2 tb' hb' go.os (by k_mem) (by simp)) (N2 _ (.head _)).1 (by unfold remT; rw [hT]; exact hi) ht hf
end
end Mine

-- G1
namespace Mine
section
variable {M : Model} {A : Around} {R : GenEnd} {Y : Protocol} {n : Nat} {s₀ : Shared} {c : Code} {fs : List Frame} {s : Shared} {env : Env}
  {K : Flow → Sem Fin} {H : Value → Sem Fin} {gd : Bool → Bool} {lv : List Value → List Value}
/-- the frame that waits for a loop of the body's own -/
abbrev backF (env : Env) (K : Flow → Sem Fin) (H : Value → Sem Fin) (gd : Bool → Bool) (lv : List Value → List Value) (c : Code) (p : Pos) : Frame :=
  .ret (fun r => ((match r with | .ok f => (.pure f : Sem Flow) | .error e => .raise e).onRaise fun (x : Value) => do
    if (← field x 1) == Value.none then unsupported "frame.own-activation:exception-without-traceback"
    setFlight x env.frame).wrap K H gd lv) none (gd false) (lv []) c p []
theorem seg_For {target iter : PySem.Expr} {body orelse : List Stmt} {pos : Pos}
    (h : wpAny M (A.over c fs) (eval iter env) (fun x s₁ => wpAny M (A.over c fs) (pyIter x) (fun it s₂ =>
        ∀ p, Seg M A R Y n s₀ (.forLoop target it body orelse env) (M.den (.forLoop target it body orelse env)) (backF env K H gd lv c p :: fs) s₂)
      (fun x s' => Seg M A R Y n s₀ c (H x) fs s') s₁) (fun x s' => Seg M A R Y n s₀ c (H x) fs s') s)
    (hs : ∀ x, foldedSetIterable iter env x = pure x) :
    Seg M A R Y n s₀ c ((exec (.For target iter body orelse pos) env).wrap K H gd lv) fs s := by
  rw [exec_For]
  refine seg_bind_wrap (wpAny_standAt ?_)
  refine seg_bind_wrap (wpAny_mono h (fun x s₁ h₁ => ?_) fun _ _ e => e)
  refine seg_bind_wrap (wpAny_of_eq (hs x) ?_)
  refine seg_bind_wrap (wpAny_standAt ?_)
  refine seg_bind_wrap (wpAny_holding (wpAny_mono h₁ (fun it s₂ h₂ => ?_) fun _ _ e => e))
  exact seg_call h₂
end
section
variable {prog : Program} {w : World} {A : Around} {R : GenEnd} {Y : Protocol} {n : Nat} {s₀ : Shared} {fs : List Frame} {s : Shared} {env : Env}
abbrev loopC (x : Str) (px : Pos) (it : Value) (body : List Stmt) (env : Env) : Code := .forLoop (.Name x px) it body [] env
abbrev turnK (x : Str) (px : Pos) (it : Value) (body : List Stmt) (env : Env) : Flow → Sem Fin := fun f => match f with
  | .next | .cont => .pure (.again (loopC x px it body env))
  | .brk => .pure (.done .next)
  | .ret v => .pure (.done (.ret v))
abbrev turnH (env : Env) : Value → Sem Fin := fun e => (do noteFrame e env; theTreesLotGoes e : Sem Unit).wrap (fun _ => .raise e) .raise id id
theorem seg_forLoop {x : Str} {px : Pos} {it : Value} {body : List Stmt}
    (h : wpAny (model prog w) (A.over (loopC x px it body env) fs) (pyNext it) (fun o s' => match o with
        | none => Seg (model prog w) A R Y n s₀ (loopC x px it body env) (.pure (.again (.block [] env))) fs s'
        | some v => wpAny (model prog w) (A.over (loopC x px it body env) fs) (storeName env x v) (fun _ s'' =>
            Seg (model prog w) A R Y n s₀ (loopC x px it body env) ((execs body env).wrap (turnK x px it body env) (turnH env) id id) fs s'') (fun _ _ => False) s') (fun _ _ => False) s) :
    Seg (model prog w) A R Y n s₀ (loopC x px it body env) ((model prog w).den (loopC x px it body env)) fs s := by
  show Seg _ A R Y n s₀ _ ((forTurn (.Name x px) it body [] env).onRaise (fun x => do noteFrame x env; theTreesLotGoes x)) fs s
  unfold forTurn
  rw [Sem.onRaise_eq_wrap]
  refine seg_bind_wrap (wpAny_standAt ?_)
  refine seg_bind_wrap (wpAny_onRaise (wpAny_mono h (fun o s' h' => ?_) fun _ _ e => e.elim))
  cases o with
  | none => exact h'
  | some v =>
    refine seg_bind_wrap (wpAny_of_eq (rfl : letOwnedTupleGo (.Name x px) it v = pure ()) ?_)
    refine seg_bind_wrap (wpAny_assign_Name (wpAny_mono h' (fun _ s'' h'' => ?_) fun _ _ e => e.elim))
    rw [Sem.bind_eq_wrap', Sem.wrap_wrap]
    rw [Sem.wrap_congr (execs body env) _ _ (K' := turnK x px it body env) (H' := turnH env)
      (fun f => by cases f <;> rfl) (fun e => by first | exact Sem.bind_eq_wrap _ _ | (show (do noteFrame e env; theTreesLotGoes e : Sem Unit).bind (fun _ => .raise e) = _; rw [Sem.bind_eq_wrap]))]
    exact h''
end
end Mine

-- G2
namespace Mine
/-- the half octets of octets -/
def b2n (bs : List Int) : List Int := bs.flatMap fun x => [x / 16, x % 16]
theorem b2n_len : ∀ bs : List Int, (b2n bs).length = 2 * bs.length
  | [] => rfl
  | x :: r => by
    have := b2n_len r
    simp only [b2n, List.flatMap_cons, List.length_append, List.length_cons, List.length_nil] at this ⊢
    omega
theorem b2n_at : ∀ {bs : List Int} {i : Nat} {x : Int}, bs[i]? = some x → (b2n bs)[2 * i]? = some (x / 16) ∧ (b2n bs)[2 * i + 1]? = some (x % 16)
  | y :: r, 0, x, h => by
    simp at h
    subst h
    simp [b2n]
  | y :: r, i + 1, x, h => by
    have ih := b2n_at (bs := r) (i := i) (x := x) (by simpa using h)
    have e : b2n (y :: r) = (y / 16) :: (y % 16) :: b2n r := by simp [b2n]
    rw [e]
    constructor
    · have : 2 * (i + 1) = (2 * i + 1) + 1 := by omega
      rw [this]
      simpa using ih.1
    · have : 2 * (i + 1) + 1 = (2 * i + 1 + 1) + 1 := by omega
      rw [this]
      simpa using ih.2

/-- since the generator was woken: below N₀ it has turned its locals alone -/
def Since (N₀ L : Addr) (s₀ s : Shared) : Prop :=
  ∃ h' tk, s = { s₀ with heap := h', toks := tk } ∧ ∀ b o, Nat.ble b N₀ = true → b ≠ L → s₀.heap.get? b = some o → h'.get? b = some o
theorem Since.refl (N₀ L : Addr) (s : Shared) : Since N₀ L s s := ⟨s.heap, s.toks, rfl, fun _ _ _ _ e => e⟩
theorem Since.step {N₀ L : Addr} {s₀ s : Shared} (x : Since N₀ L s₀ s) {h' : Heap} {tk : Nat} (hk : ∀ b o, Nat.ble b N₀ = true → b ≠ L → s.heap.get? b = some o → h'.get? b = some o) :
    Since N₀ L s₀ { s with heap := h', toks := tk } := by
  obtain ⟨h₁, tk₁, rfl, hk₁⟩ := x
  exact ⟨h', tk, rfl, fun b o hC hw e => hk b o hC hw (hk₁ b o hC hw e)⟩
def gProto (N₀ L : Addr) (bn : List Int) : Protocol := fun m s₀ v s kap =>
  (∃ x t, bn[bn.length - 1 - m]? = some x ∧ v = .int x t) ∧ Since N₀ L s₀ s ∧ ∀ s'' : Shared, (∀ b o, b ≠ N₀ → s.heap.get? b = some o → s''.heap.get? b = some o) → kap (.send .none) s''
def gEnd (N₀ L : Addr) : GenEnd := fun n s₀ r s₁ => r = .ok (.ret .none) ∧ (n = 0 ∧ Since N₀ L s₀ s₁)

section
variable {prog : Program} {w : World} {A : Around} {N₀ : Addr} {env : Env} {b : Array UInt8} {tb : Tok}
abbrev bodyG (p3 p4 p5 p6 p7 p8 p9 p10 p11 p12 : Pos) (k4 k9 : Nat) : List Stmt :=
  [.Expr (.Yield (some (.BinOp (.Name "byte" p3) .RShift (.Constant (.int 4) k4 p4) p5)) p6) p7, .Expr (.Yield (some (.BinOp (.Name "byte" p8) .BitAnd (.Constant (.int 15) k9 p9) p10)) p11) p12]

theorem seg_gen_loop {p1 p3 p4 p5 p6 p7 p8 p9 p10 p11 p12 pp : Pos} {k4 k9 : Nat} {I : Addr} {cF : Code} {K1 : Flow → Sem Fin} {H1 : Value → Sem Fin} {gd : Bool → Bool} {lv : List Value → List Value}
    (hh : A.handled = none) (hk : env.scope.kind = .function) (hlb : env.kindOf "byte" = some .local) (hco : env.scope.isCoroutine = false) (hi : interactive env = false)
    (hp : (env.scope.kind == .class || (env.scope.kind == .module && env.locals != env.globals)) = false) (hIN : N₀ < I) (hIL : I ≠ env.locals) (hLN : env.locals ≠ N₀) (hgd : gd false = false)
    (hend : ∀ s₀ s, Since N₀ env.locals s₀ s → Seg (model prog w) A (gEnd N₀ env.locals) (gProto N₀ env.locals (b2n (KBw.bInts b))) 0 s₀ cF (K1 .next) [] s) :
    ∀ (k i : Nat) (s₀ s : Shared) (m : Str → Option Value), b.size - i = k → i ≤ b.size → KBw.IsBytesIter s.heap I b tb i → s.heap.Ns env.locals m → Since N₀ env.locals s₀ s →
      Seg (model prog w) A (gEnd N₀ env.locals) (gProto N₀ env.locals (b2n (KBw.bInts b))) (2 * k) s₀ (loopC "byte" p1 (.ref I) (bodyG p3 p4 p5 p6 p7 p8 p9 p10 p11 p12 k4 k9) env)
        ((model prog w).den (loopC "byte" p1 (.ref I) (bodyG p3 p4 p5 p6 p7 p8 p9 p10 p11 p12 k4 k9) env)) [backF env K1 H1 gd lv cF pp] s := by
  intro k
  have hI0 : ∀ bb : Addr, Nat.ble bb N₀ = true → bb ≠ I := fun bb h e => by
    have := Nat.le_of_ble_eq_true h
    rw [e] at this
    exact absurd hIN (Nat.not_lt.mpr this)
  have hIN' : I ≠ N₀ := fun e => by rw [e] at hIN; exact Nat.lt_irrefl _ hIN
  have hho : ∀ c, (A.over c [backF env K1 H1 gd lv cF pp]).handled = none := fun c => by
    show (marksOver _ (A.handled, A.handled)).1 = none
    rw [hh]
    rfl
  induction k with
  | zero =>
    intro i s₀ s m hk0 hi0 hit hn hs
    refine seg_forLoop (KBw.next_end (hho _) hit (by simp; omega) fun h' hx => ?_)
    refine seg_again rfl ?_
    show Seg _ A _ _ _ s₀ _ (leafOf (.ok .next)) _ _
    refine seg_leaf (.ok .next) ?_
    exact hend _ _ (hs.step fun bb o h1 _ e => hx bb o (hI0 bb h1) e)
  | succ k ih =>
    intro i s₀ s m hk0 hi0 hit hn hs
    have hlt : i < b.size := by omega
    have hget : b[i]? = some b[i] := by simp [hlt]
    have hat := b2n_at (KBw.ints_get hget)
    have hlen : (b2n (KBw.bInts b)).length = 2 * b.size := by rw [b2n_len, KBw.ints_length]
    have h256 := KBw.ints_in (List.mem_of_getElem? (KBw.ints_get hget))
    refine seg_forLoop (KBw.next_item hit hget fun h₁ hit₁ hx₁ => ?_)
    refine wpAny_storeName_local hlb (hn.at' fun o e => hx₁.extBut _ _ (Ne.symm hIL) e) (fun h₂ hn₂ hx₂ => ?_) hp
    have hit₂ : KBw.IsBytesIter h₂ I b tb (i + 1) := by
      obtain ⟨o, ho, r⟩ := hit₁
      exact ⟨o, hx₂.extBut _ _ hIL ho, r⟩
    have hs₂ : Since N₀ env.locals s₀ { s with heap := h₂, toks := s.toks + 1 + 1 } := hs.step fun bb o h1 h2 e => hx₂.extBut bb o h2 (hx₁.extBut bb o (hI0 bb h1) e)
    have e2 : 2 * (k + 1) = (2 * k + 1) + 1 := by omega
    rw [e2]
    refine seg_execs_cons ?_
    refine seg_Expr_Yield (by rfl) (by rfl) (by simp [Frame.guarded, hgd]) ?_ hco hi
    refine wpAny_BinOp (wpAny_Name (wpAny_loadName_local hk hlb hn₂ (v := .int (b[i].toNat : Int) s.toks) (by simp) (wpAny_Constant_int (rshift_int (by decide) ?_))))
    intro kap hkap
    refine ⟨⟨_, _, ?_, rfl⟩, hs₂.step fun bb o _ _ e => e, fun s'' hal => hkap .none s'' ?_⟩
    · rw [hlen, show 2 * b.size - 1 - (2 * k + 1) = 2 * i by omega, hat.1]
      exact congrArg some (Int.fdiv_eq_ediv_of_nonneg _ (by decide)).symm
    have hit₃ : KBw.IsBytesIter s''.heap I b tb (i + 1) := by
      obtain ⟨o, ho, r⟩ := hit₂
      exact ⟨o, hal _ _ hIN' ho, r⟩
    have hn₃ := hn₂.at' (h' := s''.heap) fun o e => hal _ _ hLN e
    show Seg _ A _ _ (2 * k + 1) s'' _ _ _ s''
    refine seg_execs_cons ?_
    refine seg_Expr_Yield (by rfl) (by rfl) (by simp [Frame.guarded, hgd]) ?_ hco hi
    refine wpAny_BinOp (wpAny_Name (wpAny_loadName_local hk hlb hn₃ (v := .int (b[i].toNat : Int) s.toks) (by simp) (wpAny_Constant_int (and_int ?_))))
    intro kap hkap
    refine ⟨⟨_, _, ?_, rfl⟩, (Since.refl _ _ s'').step fun bb o _ _ e => e, fun s₄ hal₄ => hkap .none s₄ ?_⟩
    · rw [hlen, show 2 * b.size - 1 - (2 * k) = 2 * i + 1 by omega, hat.2, bitAnd_m4]
    show Seg _ A _ _ (2 * k) s₄ _ _ _ s₄
    refine seg_execs_nil ?_
    refine seg_again rfl ?_
    refine ih (i + 1) s₄ s₄ _ (by omega) (by omega) ?_ (hn₃.at' fun o e => hal₄ _ _ hLN e) (Since.refl _ _ _)
    obtain ⟨o, ho, r⟩ := hit₃
    exact ⟨o, hal₄ _ _ hIN' ho, r⟩
end
end Mine

-- G3
namespace Mine
section
variable {prog : Program} {w : World} {A : Around} {E : Value → Shared → Prop} {s : Shared}
theorem pyNext_genQ {a : Addr} {g n : Nat} {gs : GenState} {P : Nat → Shared → Shared → Prop} {Y : Protocol} {Q : Option Value → Shared → Prop} (hh : A.handled = none)
    (hl : s.heap.NoLimit) (hroom : A.depth < recursionLimit) (hg : s.heap.IsGen a g) (hgs : s.gens[g]? = some gs)
    (hgo : gs.Goes (model prog w) A.in1 (fun n s₀ r s₁ => r = .ok (.ret .none) ∧ P n s₀ s₁) Y n (.send .none) (s.setGen g .running))
    (hY : ∀ v s₁ gs', gs'.bare = true → Y (n - 1) (s.setGen g .running) v s₁ (fun r' s'' => match n with
        | 0 => False
        | m + 1 => gs'.Goes (model prog w) A.in1 (fun n s₀ r s₁ => r = .ok (.ret .none) ∧ P n s₀ s₁) Y m r' s'') → Q (some v) (s₁.setGen g gs'))
    (hP : ∀ s₁, P n (s.setGen g .running) s₁ → ∀ h', (∀ b o, s₁.heap.get? b = some o → h'.get? b = some o) → Q none { s₁.setGen g .finished with heap := h' }) :
    wpAny (model prog w) A (pyNext (.ref a)) Q E s := by
  unfold pyNext
  refine wpAny_bind (wpAny_attempt (wpAny_callSpecial?_slot (name := Str.ofString "__next__") hg.typeIs slot_gen_next
    (wpAny_call_entry slot_gen_next hg.typeIs entry_gen_next ?_ (args_gen_next _))))
  show wpAny _ A.in1 (Builtin.Generator.genWake (.ref a) (.send .none)) _ _ s
  unfold Builtin.Generator.genWake
  refine wpAny_bind (wpAny_holding (wpAny_genNumber hg (wpAny_bind (wpAny_genState hgs ?_))))
  cases gs with
  | running => exact hgo.elim
  | finished => exact hgo.elim
  | _ =>
    refine wpAny_bind (wpAny_roomToWake hl hroom ?_)
    show wpAny _ A.in1 (.resume g (.send .none) [] _) _ _ s
    refine wpAny_resumeQ hgs hgo (fun x s₁ hx => ?_) (fun v s₁ gs' hb hv => ?_)
    · obtain ⟨rfl, hp⟩ := hx
      show wpAny _ A.in1 (newExc (.type "StopIteration") [] >>= _) _ _ _
      refine wpAny_bind ?_
      simp only [newExc, newTuple]
      refine wpAny_bind (wpAny_newObj_type ?_ (by size_fits))
      refine wpAny_bind (m := firstArgMember _ _) (wpAny_of_eq (a := Value.none) (by first | rfl | (simp only [firstArgMember]; rfl)) ?_)
      refine wpAny_newObj_type ?_ (by size_fits)
      simp only [raiseNew]
      refine wpAny_bind (wpAny_bind (wpAny_handled ?_))
      rw [show A.in1.handled = none from hh]
      refine wpAny_throw ?_
      refine wpAny_bind (wpAny_isInstance (T := "StopIteration") (b := true) ⟨_, Heap.get?_push_size _ rfl, rfl⟩ isSubtype_stop ?_)
      exact wpAny_pure (hP s₁ hp _ fun b o hb => Heap.get?_push_of_some _ (Heap.get?_push_of_some _ hb))
    · exact wpAny_pure ⟨v, rfl, wpAny_pure (hY v s₁ gs' hb hv)⟩
end

/-- the generator, j items behind it -/
def GAt (prog : Program) (w : World) (A : Around) (N₀ L a : Addr) (gn : Nat) (bn : List Int) (j : Nat) (s : Shared) : Prop :=
  s.heap.IsGen a gn ∧ s.heap.NoLimit ∧ AllBare s.gens ∧ ∃ gs, s.gens[gn]? = some gs ∧
    ∀ s'' : Shared, (∀ b o, b ≠ N₀ → s.heap.get? b = some o → s''.heap.get? b = some o) → (∃ o, s''.heap.get? N₀ = some o) →
      gs.Goes (model prog w) A.in1 (gEnd N₀ L) (gProto N₀ L bn) (bn.length - j) (.send .none) s''
def FinG (N₀ L : Addr) (s s' : Shared) : Prop := (∀ b o, Nat.blt b N₀ = true → b ≠ L → s.heap.get? b = some o → s'.heap.get? b = some o) ∧ s'.os = s.os ∧ AllBare s'.gens
theorem FinG.trans {N₀ L : Addr} {s s' s'' : Shared} (x : FinG N₀ L s s') (y : FinG N₀ L s' s'') : FinG N₀ L s s'' :=
  ⟨fun b o h1 h2 e => y.1 b o h1 h2 (x.1 b o h1 h2 e), y.2.1.trans x.2.1, y.2.2⟩
theorem allBare_set {s : Shared} {g : Nat} {gs : GenState} (x : AllBare s.gens) (hb : gs.bare = true) : AllBare (s.setGen g gs).gens := by
  intro y hy
  have hy' : y ∈ s.gens.setIfInBounds g gs := hy
  obtain ⟨i, hi, rfl⟩ := Array.mem_iff_getElem.mp hy'
  have hi' : i < s.gens.size := by simpa using hi
  rw [Array.getElem_setIfInBounds hi']
  split
  · exact hb
  · exact x _ (Array.getElem_mem _)
theorem since_gens {N₀ L : Addr} {s₀ s : Shared} (x : Since N₀ L s₀ s) : s.gens = s₀.gens ∧ s.os = s₀.os := by
  obtain ⟨h, t, rfl, -⟩ := x
  exact ⟨rfl, rfl⟩
section
variable {prog : Program} {w : World} {A : Around} {N₀ L a : Addr} {gn : Nat} {bn : List Int}
theorem gat_item (hh : A.handled = none) (hroom : A.depth < recursionLimit) (haN : Nat.ble a N₀ = true) (haL : a ≠ L) (hsN : Nat.ble cStatics N₀ = true) (hsL : cStatics ≠ L) {j : Nat} {s : Shared} {E : Value → Shared → Prop} {Q : Option Value → Shared → Prop}
    (hj : j < bn.length) (st : GAt prog w A N₀ L a gn bn j s) (hS : ∃ o, s.heap.get? N₀ = some o)
    (hQ : ∀ x t s', bn[j]? = some x → GAt prog w A N₀ L a gn bn (j + 1) s' → (∀ b o, Nat.ble b N₀ = true → b ≠ L → s.heap.get? b = some o → s'.heap.get? b = some o) → s'.os = s.os → AllBare s'.gens → Q (some (.int x t)) s') :
    wpAny (model prog w) A (pyNext (.ref a)) Q E s := by
  obtain ⟨hg, hl, hb, gs, hgs, hgo⟩ := st
  obtain ⟨m, hm⟩ : ∃ m, bn.length - j = m + 1 := ⟨bn.length - j - 1, by omega⟩
  rw [hm] at hgo
  refine pyNext_genQ (P := fun n s₀ s₁ => n = 0 ∧ Since N₀ L s₀ s₁) hh hl hroom hg hgs (hgo _ (fun _ _ _ e => e) hS) (fun v s₁ gs' hbare hv => ?_) (fun s₁ hp h' hk => ?_)
  · obtain ⟨⟨x, t, hx, rfl⟩, hsin, hkap⟩ := hv
    have hidx : bn.length - 1 - (m + 1 - 1) = j := by omega
    rw [hidx] at hx
    obtain ⟨hsg, hso⟩ := since_gens hsin
    obtain ⟨h₁, tk₁, rfl, hk₁⟩ := hsin
    have hgens : (s.setGen gn .running).gens[gn]? = some .running := setGen_self hgs
    refine hQ x t _ hx ⟨let ⟨o, nm, qn, ho, r⟩ := hg; ⟨o, nm, qn, hk₁ a o haN haL ho, r⟩, (let ⟨mc, hns, hnn⟩ := hl; ⟨mc, hns.at' fun o e => hk₁ cStatics o hsN hsL e, hnn⟩), ?_, gs', setGen_self (gs := .running) hgens, fun s'' hal hS'' => ?_⟩
      (fun b o h1 h2 e => hk₁ b o h1 h2 e) rfl ?_
    · exact allBare_set (s := { s.setGen gn .running with heap := h₁, toks := tk₁ }) (allBare_set hb rfl) hbare
    · have e : bn.length - (j + 1) = m := by omega
      rw [e]
      exact hkap s'' hal
    · exact allBare_set (s := { s.setGen gn .running with heap := h₁, toks := tk₁ }) (allBare_set hb rfl) hbare
  · exact absurd hp.1 (Nat.succ_ne_zero m)
theorem gat_done (hh : A.handled = none) (hroom : A.depth < recursionLimit) {s : Shared} {E : Value → Shared → Prop} {Q : Option Value → Shared → Prop}
    (st : GAt prog w A N₀ L a gn bn bn.length s) (hS : ∃ o, s.heap.get? N₀ = some o)
    (hQ : ∀ s', (∀ b o, Nat.ble b N₀ = true → b ≠ L → s.heap.get? b = some o → s'.heap.get? b = some o) → s'.os = s.os → AllBare s'.gens → Q none s') :
    wpAny (model prog w) A (pyNext (.ref a)) Q E s := by
  obtain ⟨hg, hl, hb, gs, hgs, hgo⟩ := st
  rw [Nat.sub_self] at hgo
  refine pyNext_genQ (P := fun n s₀ s₁ => n = 0 ∧ Since N₀ L s₀ s₁) hh hl hroom hg hgs (hgo _ (fun _ _ _ e => e) hS) (fun v s₁ gs' hbare hv => ?_) (fun s₁ hp h' hk => ?_)
  · obtain ⟨_, _, hkap⟩ := hv
    exact False.elim (hkap s₁ fun _ _ _ e => e)
  · obtain ⟨_, h₁, tk₁, rfl, hk₁⟩ := hp
    exact hQ _ (fun b o h1 h2 e => hk b o (hk₁ b o h1 h2 e)) rfl (allBare_set (s := { s.setGen gn .running with heap := h₁, toks := tk₁ }) (allBare_set hb rfl) rfl)
theorem gat_frame {j : Nat} {s : Shared} {h' : Heap} {tk : Nat} (st : GAt prog w A N₀ L a gn bn j s) (haN : a ≠ N₀) (hsN : cStatics ≠ N₀) (hk : ∀ b o, b ≠ N₀ → s.heap.get? b = some o → h'.get? b = some o) :
    GAt prog w A N₀ L a gn bn j { s with heap := h', toks := tk } := by
  obtain ⟨hg, hl, hb, gs, hgs, hgo⟩ := st
  exact ⟨let ⟨o, nm, qn, ho, r⟩ := hg; ⟨o, nm, qn, hk a o haN ho, r⟩, (let ⟨mc, hns, hnn⟩ := hl; ⟨mc, hns.at' fun o e => hk cStatics o hsN e, hnn⟩), hb, gs, hgs, fun s'' hal hS => hgo s'' (fun b o h e => hal b o h (hk b o h e)) hS⟩

theorem gen_ext_loop (hh : A.handled = none) (hroom : A.depth + 1 < recursionLimit) (haN : Nat.blt a N₀ = true) (haL : a ≠ L) (hsN : Nat.blt cStatics N₀ = true) (hsL : cStatics ≠ L) (hNL : N₀ ≠ L) (hn : bn.length ≤ sizeLine) (res : Value) {R : Result → Shared → Prop} :
    ∀ (k i : Nat) (s : Shared) (acc : Array Value) (c : Nat), bn.length - i = k → i ≤ bn.length → GAt prog w A.in1 N₀ L a gn bn i s →
      s.heap.get? N₀ = some { cls := .type "list", dict := none, data := .seq acc c, slots := #[] } → ItemsOf (fun j v => ∃ x t, bn[j]? = some x ∧ v = .int x t) acc i →
      (∀ s' acc' c', FinG N₀ L s s' → s'.heap.get? N₀ = some { cls := .type "list", dict := none, data := .seq acc' c', slots := #[] } → ItemsOf (fun j v => ∃ x t, bn[j]? = some x ∧ v = .int x t) acc' bn.length → R (.ok (.ret res)) s') →
      codeAny (model prog w) A (.builtin "list.extend.loop" ⟨[.ref N₀, .ref a, res], []⟩) R s := by
  have le_of : ∀ b, Nat.blt b N₀ = true → Nat.ble b N₀ = true := fun b h => Nat.ble_eq.mpr (Nat.le_of_lt (Nat.le_of_ble_eq_true h))
  have ne_of : ∀ b, Nat.blt b N₀ = true → b ≠ N₀ := fun b h => Nat.ne_of_lt (Nat.le_of_ble_eq_true h)
  intro k
  induction k with
  | zero =>
    intro i s acc c hk hi hst hS hacc hR
    have hin : i = bn.length := by omega
    subst hin
    refine codeAny_builtin F.entry_extend_loop ?_
    rw [Around.under_plainId F.plain_extend_loop _]
    show wpAny _ A.in1 (pyNext (.ref a) >>= _) _ _ s
    refine wpAny_bind (gat_done (A := A.in1) hh (Nat.lt_of_succ_lt hroom) hst ⟨_, hS⟩ fun s' h1 h2 h3 => ?_)
    exact wpAny_pure (hR s' acc c ⟨fun b o hb hL e => h1 b o (le_of b hb) hL e, h2, h3⟩ (h1 _ _ (Nat.ble_eq.mpr (Nat.le_refl _)) hNL hS) hacc)
  | succ k ih =>
    intro i s acc c hk hi hst hS hacc hR
    have hlt : i < bn.length := by omega
    refine codeAny_builtin F.entry_extend_loop ?_
    rw [Around.under_plainId F.plain_extend_loop _]
    show wpAny _ A.in1 (pyNext (.ref a) >>= _) _ _ s
    refine wpAny_bind (gat_item (A := A.in1) hh (Nat.lt_of_succ_lt hroom) (le_of a haN) haL (le_of _ hsN) hsL hlt hst ⟨_, hS⟩ fun x t s' hx hst' h1 h2 h3 => ?_)
    have hS' := h1 _ _ (Nat.ble_eq.mpr (Nat.le_refl _)) hNL hS
    show wpAny _ A.in1 (updateSeq N₀ (·.push (.int x t)) >>= _) _ _ _
    refine wpAny_bind ?_
    refine wpAny_updateSeq hS' rfl (wpAny_pure ⟨plainId_quiet F.plain_extend_loop _, ih (i + 1) _ (acc.push (.int x t)) _ (by omega) hlt
      (gat_frame hst' (ne_of a haN) (ne_of _ hsN) fun b o hb e => (Heap.get?_update_other _ _ (Ne.symm hb)).trans e) (Heap.get?_update_self _ hS' rfl) (hacc.push ⟨x, t, hx, rfl⟩) fun s'' acc' c' hf hS'' hacc' => ?_⟩)
      (by rw [hacc.1]; omega) (by show (acc.push (.int x t)).size ≤ sizeLine + 1; rw [Array.size_push, hacc.1]; omega)
    refine hR s'' acc' c' ⟨fun b o hb hL e => hf.1 b o hb hL ((Heap.get?_update_other _ _ (Ne.symm (ne_of b hb))).trans (h1 b o (le_of b hb) hL e)), hf.2.1.trans h2, hf.2.2⟩ hS'' hacc'
end
end Mine

-- G4
namespace Mine
section
variable {prog : Program} {w : World} {A : Around} {L a : Addr} {gn : Nat} {bn : List Int} {s : Shared}
def ItemsG (bn : List Int) (acc : Array Value) : Prop := ItemsOf (fun j v => ∃ x t, bn[j]? = some x ∧ v = Value.int x t) acc bn.length
theorem itemsG_ints {bn : List Int} {acc : Array Value} (h : ItemsG bn acc) : IntsAre acc.toList bn := by
  have key : ∀ (l : List Value) (bs : List Int), l.length = bs.length → (∀ (j : Nat) (v : Value), l[j]? = some v → ∃ x t, bs[j]? = some x ∧ v = Value.int x t) → IntsAre l bs := by
    intro l
    induction l with
    | nil => intro bs hl _; cases bs with
      | nil => exact .nil
      | cons _ _ => simp at hl
    | cons v r ih =>
      intro bs hl hv
      cases bs with
      | nil => simp at hl
      | cons y bs =>
        obtain ⟨x, t, hx, rfl⟩ := hv 0 v rfl
        simp at hx
        subst hx
        exact .cons _ _ (ih bs (by simpa using hl) fun j v h => by simpa using hv (j + 1) v (by simpa using h))
  exact key _ _ (by simpa using h.1) fun j v hj => h.2 j v (by simpa using hj)
theorem gen_collect {E : Value → Shared → Prop} {Q : List Value → Shared → Prop} (hh : A.handled = none) (hroom : A.depth + 1 < recursionLimit) (haL : a ≠ L) (hsL : cStatics ≠ L) (hNL : s.heap.objs.size ≠ L) (hn : bn.length ≤ sizeLine)
    (st : GAt prog w A.in1 s.heap.objs.size L a gn bn 0 s)
    (hQ : ∀ s' acc, FinG s.heap.objs.size L s s' → ItemsG bn acc → Q acc.toList s') : wpAny (model prog w) A (collect (.ref a)) Q E s := by
  have hg := st.1
  have haN : a < s.heap.objs.size := by obtain ⟨o, _, _, ho, _⟩ := hg; exact Heap.lt_size ho
  have hsN : cStatics < s.heap.objs.size := by obtain ⟨_, hn, _⟩ := st.2.1; exact hn.lt
  have hSI : s.heap.objs.size ≠ a := Nat.ne_of_gt haN
  unfold collect
  refine wpAny_bind (wpAny_runValue (codeAny_builtin F.entry_proto_collect ?_))
  rw [Around.under_plainId F.plain_proto_collect _]
  show wpAny _ A.in1 (newList [] >>= fun l => again (.builtin "list.__iadd__" ⟨[l, .ref a], []⟩)) _ _ s
  refine wpAny_bind (wpAny_newObj_type ?_)
  refine wpAny_pure ⟨plainId_quiet F.plain_list_iadd _, codeAny_builtin F.entry_list_iadd ?_⟩
  rw [Around.under_plainId F.plain_list_iadd _]
  have hst₁ : GAt prog w A.in1 s.heap.objs.size L a gn bn 0 { s with heap := s.heap.push { cls := .type "list", data := .seq ([] : List Value).toArray } } :=
    gat_frame (tk := s.toks) st (Ne.symm hSI) (Nat.ne_of_lt hsN) fun b o _ e => Heap.get?_push_of_some _ e
  show wpAny _ A.in1 (Builtin.List.listExtendWith (.ref s.heap.objs.size) (.ref a) (.ref s.heap.objs.size)) _ _ _
  unfold Builtin.List.listExtendWith
  refine wpAny_bind (wpAny_typeOf hst₁.1.typeIs ?_)
  have h1 : Builtin.List.listSameRef (.ref s.heap.objs.size) (.ref a) = false := by simp [Builtin.List.listSameRef, hSI]
  have h2 : (Value.type "generator" == Value.type "list") = false := by decide
  have h3 : (Value.type "generator" == Value.type "tuple") = false := by decide
  simp only [h1, h2, h3, Bool.or_false, Bool.false_eq_true, if_false]
  refine wpAny_bind (wpAny_pyIter_gen hst₁.1 ?_)
  refine wpAny_bind (wpAny_holding ?_)
  unfold Builtin.List.listLengthHint
  refine wpAny_bind (wpAny_specialOf hst₁.1.typeIs F.gen_no_len ?_)
  show wpAny _ A.in1 (specialOf (Value.ref a) (Str.ofString "__length_hint__") >>= _) _ _ _
  refine wpAny_bind (wpAny_specialOf hst₁.1.typeIs F.gen_no_hint ?_)
  refine wpAny_pure ?_
  show wpAny _ A.in1 (rule "list.extend.makes-room" >>= fun _ => Builtin.List.listTouch (.ref s.heap.objs.size) >>= fun _ =>
    again (.builtin "list.extend.loop" ⟨[.ref s.heap.objs.size, .ref a, .ref s.heap.objs.size], []⟩)) _ _ _
  refine wpAny_bind (wpAny_rule ?_)
  have hS₁ : (s.heap.push { cls := .type "list", data := .seq ([] : List Value).toArray }).get? s.heap.objs.size = some { cls := .type "list", data := .seq ([] : List Value).toArray } := Heap.get?_push_size _ rfl
  refine wpAny_bind ?_
  show wpAny _ A.in1 (updateSeq s.heap.objs.size (·.push .none) >>= fun _ => updateSeq s.heap.objs.size (·.pop)) _ _ _
  refine wpAny_bind (wpAny_updateSeq hS₁ rfl ?_)
  have hS₂ := Heap.get?_update_self (Obj.mapSeq (·.push Value.none)) hS₁ rfl
  refine wpAny_updateSeq hS₂ rfl ?_
  have hS₃ := Heap.get?_update_self (Obj.mapSeq (·.pop)) hS₂ rfl
  have oth : ∀ b o, b ≠ s.heap.objs.size → (s.heap.push { cls := .type "list", data := .seq ([] : List Value).toArray }).get? b = some o →
      (((s.heap.push { cls := .type "list", data := .seq ([] : List Value).toArray }).update s.heap.objs.size (Obj.mapSeq (·.push Value.none))).update s.heap.objs.size (Obj.mapSeq (·.pop))).get? b = some o :=
    fun b o hb e => (Heap.get?_update_other _ _ (Ne.symm hb)).trans ((Heap.get?_update_other _ _ (Ne.symm hb)).trans e)
  have blt : ∀ b, b < s.heap.objs.size → Nat.blt b s.heap.objs.size = true := fun b h => by simpa [Nat.blt] using Nat.le_of_lt_succ (Nat.succ_lt_succ h)
  refine wpAny_pure ⟨plainId_quiet F.plain_extend_loop _, gen_ext_loop (N₀ := s.heap.objs.size) hh hroom (blt a haN) haL (blt _ hsN) hsL hNL hn _ bn.length 0 _ _ _ (Nat.sub_zero _) (Nat.zero_le _)
    (gat_frame (s := { s with heap := s.heap.push { cls := .type "list", data := .seq ([] : List Value).toArray } }) (tk := s.toks) hst₁ (Ne.symm hSI) (Nat.ne_of_lt hsN) oth) hS₃ (ItemsOf.nil _) fun s' acc' c' hf hS' hacc => ?_⟩
  show wpAny _ A (load s.heap.objs.size >>= _) _ _ s'
  refine wpAny_bind (wpAny_load hS' ?_)
  refine wpAny_pure (hQ s' acc' ⟨fun b o hb hL e => hf.1 b o hb hL (oth b o (Nat.ne_of_lt (Nat.le_of_ble_eq_true hb)) (Heap.get?_push_of_some _ e)), hf.2.1, hf.2.2⟩ hacc)

theorem gen_tuple_new {E : Value → Shared → Prop} {Q₁ : Value → Shared → Prop} (hh : A.handled = none) (hroom : A.depth + 1 < recursionLimit) (haL : a ≠ L) (hsL : cStatics ≠ L) (hNL : s.heap.objs.size ≠ L) (hn : bn.length ≤ sizeLine)
    (st : GAt prog w A.in1.in1 s.heap.objs.size L a gn bn 0 s)
    (h : ∀ s' acc, FinG s.heap.objs.size L s s' → ItemsG bn acc → Q₁ (.ref s'.heap.objs.size) { s' with heap := s'.heap.push { cls := .type "tuple", data := .seq acc } }) :
    codeAny (model prog w) A (.call (.builtin "tuple.__new__") ⟨[.type "tuple", .ref a], []⟩) (wants Q₁ E) s := by
  refine codeAny_of_tree ?_
  show wpAny _ A.in1 (do checkBuiltinCall "tuple.__new__" ⟨[.type "tuple", .ref a], []⟩; again (.builtin "tuple.__new__" ⟨[.type "tuple", .ref a], []⟩)) _ _ s
  refine wpAny_bind (wpAny_of_eq (F.newCall_tuple_1 _) (wpAny_pure ⟨plainId_quiet F.plain_tuple_new _, codeAny_builtin F.entry_tuple_new ?_⟩))
  rw [Around.under_plainId F.plain_tuple_new _]
  have hsub := sub_tuple_self
  have hinit := init_tuple_lookup
  have hmh := madeHere_tuple
  have hTI := st.1.typeIs
  wp_walk using wpAny_typeOf hTI, gen_collect (A := A.in1) hh hroom haL hsL hNL hn st
  intro s' acc hm hacc
  show wpAny _ _ (Builtin.Tuple.tupleExact acc.toList.toArray >>= fun v => ret v) _ _ _
  unfold Builtin.Tuple.tupleExact
  refine wpAny_bind (wpAny_newObj_type ?_ (by show acc.toList.toArray.size ≤ sizeLine; simp only [Array.toArray_toList]; rw [hacc.1]; exact hn))
  refine wpAny_pure ?_
  have e : acc.toList.toArray = acc := by simp
  rw [e]
  exact h s' acc hm hacc

theorem gen_tuple {E : Value → Shared → Prop} {Q : Value → Shared → Prop} (hh : A.handled = none) (hroom : A.depth + 1 < recursionLimit) (haL : a ≠ L) (hsL : cStatics ≠ L) (hNL : s.heap.objs.size ≠ L) (hn : bn.length ≤ sizeLine)
    (st : GAt prog w A.in1.in1.in1 s.heap.objs.size L a gn bn 0 s)
    (hQ : ∀ s' acc, FinG s.heap.objs.size L s s' → ItemsG bn acc → Q (.ref s'.heap.objs.size) { s' with heap := s'.heap.push { cls := .type "tuple", data := .seq acc } }) :
    wpAny (model prog w) A (call (.type "tuple") [.ref a]) Q E s := by
  refine callType_codes (Q₁ := fun obj s₁ => s₁.TypeIs obj "tuple" ∧ Q obj s₁) F.called_tuple (F.typeCall_tuple_1 _) F.entry_object_init
    (gen_tuple_new (A := A.in1) hh hroom haL hsL hNL hn st fun s' acc hm hacc => ⟨⟨_, Heap.get?_push_size _ rfl, rfl⟩, hQ s' acc hm hacc⟩) fun obj s₁ h₁ => ?_
  exact ⟨h₁.1, F.args_object_init_2 obj _, object_init_meets F.called_tuple.init.lookup F.called_tuple.made (by decide) prog w A.in1 _ s₁ ⟨h₁.1, rfl, h₁.2⟩⟩
end
end Mine

-- G5
namespace Mine
variable {w : World} {p : Program} {loose : List Str} {mg mb : Str → Option Value}
local macro_rules | `(tactic| k_steps) => `(tactic| repeat' (first | (k_unfold; (try dsimp only)) | (walk1 <;> (try dsimp only)) | (dsimp only; walk1) | (leave1; walk_say "STEP leave1"; try dsimp only) | fail "no step"))
local macro_rules | `(tactic| ktr_room) => `(tactic| (simp only [depth_deeper, depth_in1] at *; omega))
theorem fill_two (P : Params) : PySem.Challenge.rw_iu0033_01.name = PySem.Challenge.rw_iu0033_01.name ∧ hd.heap_39 P = hd.heap_39 P := by
  k_fill
  exact ⟨rfl, rfl⟩
section
variable {prog : Program} {A : Around} {R : Result → Shared → Prop} {s : Shared} {b : Array UInt8} {tb : Tok}
/-- the half octets' maker: a generator -/
theorem gen_make (W : Fit w p loose mg mb s) (hroom : A.depth < recursionLimit)
    (h : ∀ h' gs tk, h'.objs.size = s.heap.objs.size + 2 → (∀ b o, s.heap.get? b = some o → h'.get? b = some o) → gs.bare = true →
      (∀ A' : Around, A'.handled = none → GAt prog w A' h'.objs.size s.heap.objs.size (s.heap.objs.size + 1) s.gens.size (b2n (KBw.bInts b)) 0 { s with heap := h', gens := s.gens.push gs, toks := tk }) →
      R (.ok (.ret (.ref (s.heap.objs.size + 1)))) { s with heap := h', gens := s.gens.push gs, toks := tk }) :
    codeAny (model prog w) A (.call (.ref 47) ⟨[.bytes b tb], []⟩) R s := by
  refine codeAny_call_generator hroom (W.top.k 47 _ (by k_is)) rfl rfl rfl rfl (codeRec_of W.top.k (by k_is)) ?_
  refine wpAny_of_eq (a := [(Str.ofString "value", Value.bytes b tb)]) rfl ?_
  refine wpAny_newFunctionEnv (by decide) (locs rfl) (fun h₁ hn hs => ⟨?_, ?_⟩)
  · obtain ⟨mc, h1, h2⟩ := W.top.t.nolimit
    exact ⟨mc, h1.at' fun o e => hs.extBut _ _ (Nat.ne_of_lt (Heap.lt_size e)) (Heap.get?_push_of_some _ e), h2⟩
  · dsimp only
    have hz : h₁.objs.size = s.heap.objs.size + 1 := by rw [hs.1, Heap.size_push]
    have keep : ∀ b o, s.heap.get? b = some o → h₁.get? b = some o := fun b o e => hs.extBut _ _ (Nat.ne_of_lt (Heap.lt_size e)) (Heap.get?_push_of_some _ e)
    rw [hz]
    refine h _ _ _ (by rw [Heap.size_push, hz]) (fun b o e => Heap.get?_push_of_some _ (keep b o e)) rfl fun A' hA' => ?_
    refine ⟨⟨_, _, _, by rw [← hz]; exact Heap.get?_push_size _ rfl, rfl, rfl, rfl⟩, ?_, W.gens.push rfl, _, Array.getElem?_push_size .., fun s'' hal hS => ⟨rfl, ?_⟩⟩
    · obtain ⟨mc, h1, h2⟩ := W.top.t.nolimit
      exact ⟨mc, h1.keeps fun b o e => Heap.get?_push_of_some _ (keep b o e), h2⟩
    · dsimp only at hal ⊢
      rw [Heap.size_push, hz] at hal hS ⊢
      have hN : s.heap.objs.size ≠ s.heap.objs.size + 1 + 1 := by omega
      have hn' : s''.heap.Ns s.heap.objs.size _ := hn.at' fun o e => hal _ _ hN (Heap.get?_push_of_some _ e)
      obtain ⟨oS, hS⟩ := hS
      have hI := Heap.lt_size hS
      have e0 : (b2n (KBw.bInts b)).length - 0 = 2 * b.size := by rw [b2n_len, KBw.ints_length, Nat.sub_zero]
      rw [e0]
      refine seg_func ?_
      refine seg_execs_cons ?_
      refine seg_For (wpAny_Name (wpAny_loadName_local rfl rfl hn' (v := .bytes b tb) rfl (KBw.pyIter_bytes fun pp => ?_))) (fun _ => rfl)
      refine seg_gen_loop (A := A'.in1) (env := newEnv _ s.heap.objs.size _ _ _ _ _ none _) (N₀ := s.heap.objs.size + 1 + 1) (I := s''.heap.objs.size) (b := b) (tb := tb) hA' ?_ ?_ ?_ ?_ ?_ hI ?hil ?hln ?_ ?hend b.size 0 _ _ ?mm (Nat.sub_zero _) (Nat.zero_le _) ?it ?ns ?since
      case ns => exact hn'.push _
      case it => exact ⟨_, Heap.get?_push_size _ rfl, rfl, rfl⟩
      case since => exact (Since.refl _ _ s'').step fun bb o _ _ e => Heap.get?_push_of_some _ e
      case hil =>
        intro e
        have e' : s''.heap.objs.size = s.heap.objs.size := e
        have hI' : @LT.lt Nat _ (s.heap.objs.size + 1 + 1) s''.heap.objs.size := hI
        omega
      case hln => exact hN
      case hend =>
        intro s₀ s' hsin
        exact seg_end (.ok (.ret .none)) ⟨rfl, rfl, hsin⟩
      all_goals rfl
set_option maxHeartbeats 4000000 in
theorem c_b2n (W : Fit w p loose mg mb s) (hh : A.handled = none) (hd : A.depth + 5 < recursionLimit) (hn : b.size < 1000)
    (h : ∀ t ws n' s', Go s s' → s'.heap.get? t = some (tupO ws n') → IntsAre ws (b2n (KBw.bInts b)) → 172 < t → s.heap.get? t = none → R (.ok (.ret (.ref t))) s') :
    codeAny (model prog w) A (.call (.ref 54) ⟨[.bytes b tb], []⟩) R s := by
  refine enter [] (binds := [("value", .bytes b tb)]) W (fun q hq => nomatch hq) (by omega) (by k_is) (by k_is) rfl (locs rfl) ?_
  intro g L h₁ ps an ao I X T F N tb hk₁
  have hb := I.gens
  k_steps
  refine wpAny_call (gen_make (fit_in I F N tb hb (by k_mem) (by k_mem)) (by ktr_room) ?_)
  intro h' gs tk hz hk hbare gat
  dsimp only at hz hk gat ⊢
  k_steps
  have big := new_big N (by k_mem) I.han
  have hlt : ∀ bb o, h₁.get? bb = some o → @LT.lt Nat _ bb h₁.objs.size := fun bb o e => Heap.lt_size e
  refine gen_tuple (L := h₁.objs.size) hh (by ktr_room) (Nat.succ_ne_self _) (Nat.ne_of_lt (Nat.lt_trans (by decide) big)) (by dsimp only; omega) (by rw [b2n_len, KBw.ints_length, sizeLine_eq]; omega) (gat _ hh) ?_
  intro s' acc hf hacc
  (try dsimp only)
  have kp : ∀ bb o, h₁.get? bb = some o → s'.heap.get? bb = some o := fun bb o e => hf.1 bb o (by
    have := hlt bb o e
    dsimp only
    rw [hz]
    exact Nat.ble_eq.mpr (by omega)) (Nat.ne_of_lt (hlt bb o e)) (hk bb o e)
  have ha := itemsG_ints hacc
  have kp' : ∀ bb o, s.heap.get? bb = some o → s'.heap.get? bb = some o := fun bb o e => kp bb o (hk₁ bb o e)
  refine h _ acc.toList 0 _ ⟨fun bb o _ e => Heap.get?_push_of_some _ (kp' bb o e), ?_, hf.2.2, hf.2.1⟩ ?_ ha ?_ ?_
  · exact ⟨ps, Heap.get?_push_of_some _ (kp _ _ (N _ (by k_mem : (61, tabOf ps) ∈ _)).1), tb⟩
  · have e : ({ cls := .type "tuple", data := .seq acc } : Obj) = tupO acc.toList 0 := by simp
    rw [← e]
    exact Heap.get?_push_size _ rfl
  · exact Heap.lt_size (kp _ _ (N _ (by k_mem : (an, ao) ∈ _)).1) |> Nat.lt_trans I.han
  · cases q : s.heap.get? s'.heap.objs.size with
    | none => rfl
    | some o => exact absurd (Heap.lt_size (kp' _ _ q)) (Nat.lt_irrefl _)
end
end Mine

-- N1
namespace Mine
variable {w : World} {p : Program} {loose : List Str} {mg mb : Str → Option Value}
def half (n : Int) : Bool := decide (0 ≤ n) && decide (n ≤ 15)
def okN (ns : List Int) : Bool := ns.all half
theorem half_in : ∀ k : Int, half k = true ↔ k ∈ ([0, 1, 2, 3, 4, 5, 6, 7, 8, 9, 10, 11, 12, 13, 14, 15] : List Int) := by
  intro k
  simp only [half, Bool.and_eq_true, decide_eq_true_eq, List.mem_cons, List.not_mem_nil, or_false]
  omega
def vsetL : List (Int × Value) := [(0, .int 0 255), (1, .int 1 257), (2, .int 2 259), (3, .int 3 261), (4, .int 4 263), (5, .int 5 265), (6, .int 6 267), (7, .int 7 269), (8, .int 8 271), (9, .int 9 273), (10, .int 10 275), (11, .int 11 277), (12, .int 12 279), (13, .int 13 281), (14, .int 14 283), (15, .int 15 285)]
theorem vset_is (prog : Program) (b : Bool) : (vset b).SetObjOf (intKind prog w) half 16 := by
  refine ⟨⟨rfl, rfl, rfl⟩, vsetL.toArray, 17, _, rfl, ?_, fun k => ?_, rfl, by cases b <;> decide +kernel⟩
  · intro e he
    have he' : e ∈ vsetL := by simpa using he
    have key : vsetL.all (fun e => match e.2 with | .int k _ => decide (e.1 = hashInt k) | _ => false) = true := by decide +kernel
    have := List.all_eq_true.mp key e he'
    obtain ⟨h, v⟩ := e
    cases v with
    | int k t => exact ⟨⟨k, intKind_is _ _ _ _, of_decide_eq_true this⟩, rfl⟩
    | _ => cases this
  · rw [half_in]
    constructor
    · intro hk
      have key : ([0, 1, 2, 3, 4, 5, 6, 7, 8, 9, 10, 11, 12, 13, 14, 15] : List Int).all (fun k => vsetL.any fun e => Value.isInt k e.2) = true := by decide +kernel
      obtain ⟨e, he, hi⟩ := List.any_eq_true.mp (List.all_eq_true.mp key k hk)
      exact ⟨e, by simpa using he, hi⟩
    · rintro ⟨e, he, hk⟩
      have he' : e ∈ vsetL := by simpa using he
      have key : vsetL.all (fun e => match e.2 with | .int k _ => ([0, 1, 2, 3, 4, 5, 6, 7, 8, 9, 10, 11, 12, 13, 14, 15] : List Int).contains k | _ => false) = true := by decide +kernel
      have := List.all_eq_true.mp key e he'
      obtain ⟨h, v⟩ := e
      obtain ⟨t, rfl⟩ := Value.isInt_shape hk
      simpa using this
end Mine

-- N2
namespace Mine
variable {w : World} {p : Program} {loose : List Str} {mg mb : Str → Option Value}
theorem code63 (P : Params) : ∃ o vs file tf flags tg inF text tt, (hd.heap_39 P).lookup 63 = some o ∧ o.cls = .type "code" ∧ o.data = .fields vs ∧ vs.getD 11 .none = .ref 61 ∧ vs[11]? = some (.ref 61) ∧ vs.getD 18 .none = .str file tf ∧
    vs.getD 7 .none = .int flags tg ∧ vs.getD 9 .none = .bool inF ∧ vs.getD 10 .none = .int text tt :=
  ⟨_, _, _, _, _, _, _, _, _, rfl, rfl, rfl, rfl, rfl, rfl, rfl, rfl, rfl⟩
theorem isCode63 {h : Heap} {ps : Array Value} (X : (hd.heap_39 w.params).In h) (hp : h.get? 61 = some (tabOf ps)) (tb : Tb ps) : h.IsCode 63 61 ps ∧ h.TableAt 63 61 ps := by
  obtain ⟨o, vs, file, tf, flags, tg, inF, text, tt, ho, hc, hd, h11, h11', h18, h7, h9, h10⟩ := code63 w.params
  have ht : TriplesOk ps.toList := by
    rcases tb with rfl | ⟨c, rfl⟩
    · trivial
    · exact trivial
  exact ⟨⟨o, vs, file, tf, flags, tg, inF, text, tt, _, X _ _ ho, hd, h11, h18, h7, h9, h10, hp, rfl, ht, by decide⟩, ⟨o, vs, X _ _ ho, hc, hd, h11'⟩, hp⟩
abbrev gsc : Scope := { kind := .function, names := [(Str.ofString ".0", .local), (Str.ofString "nibble", .local), (Str.ofString "VALID_NIBBLES", .globalImplicit)], isGenerator := true, isCoroutine := false }
section
variable {prog : Program} {A : Around} {E : Value → Shared → Prop} {s : Shared} {x : Addr} {b : Bool} {n : Nat} {vs : List Value} {ns : List Int}
/-- an iterator over a list or a tuple -/
theorem seq_iter (hx : s.heap.get? x = some (seqO b vs n)) : ∃ (io : Obj) (St : Nat → Heap → Prop), io.isFreed = false ∧ (∀ (Q : Value → Shared → Prop) (A : Around), Q (.ref s.heap.objs.size) { s with heap := s.heap.push io } → wpAny (model prog w) A (pyIter (.ref x)) Q E s) ∧
    (∀ A' : Around, A'.handled = none → Walks prog w A' s.heap.objs.size [s.heap.objs.size, x] [s.heap.objs.size] vs.toArray.size (fun i v => vs.toArray[i]? = some v) St) ∧ St 0 (s.heap.push io) := by
  have hne : x ≠ s.heap.objs.size := Nat.ne_of_lt (Heap.lt_size hx)
  cases b
  · exact ⟨_, _, rfl, fun Q A hQ => wpAny_pyIter_tuple ⟨_, hx, rfl, n, rfl⟩ hQ, fun A' hA => Walks.tuple hA _ _ hne _, ⟨_, Heap.get?_push_size _ rfl, rfl, rfl⟩, ⟨_, Heap.get?_push_of_some _ hx, rfl, n, rfl⟩⟩
  · exact ⟨_, _, rfl, fun Q A hQ => wpAny_pyIter_list ⟨_, hx, rfl, n, rfl⟩ hQ, fun A' hA => Walks.list hA _ _ hne _, ⟨_, Heap.get?_push_size _ rfl, rfl, rfl⟩, ⟨_, Heap.get?_push_of_some _ hx, rfl, n, rfl⟩⟩
theorem any_half (ns : List Int) : (List.range ns.length).any (fun i => match ns[i]? with | some m => !half m | none => false) = !okN ns := by
  have e := any_rangeD ns (fun m => !half m)
  have e2 : (List.range ns.length).any (fun i => match ns[i]? with | some m => !half m | none => false) = ns.any (fun m => !half m) := by
    rw [← e]
    congr 1
    funext i
    cases ns[i]? <;> rfl
  rw [e2]
  unfold okN
  rw [List.not_all_eq_any_not]
theorem gen_valid {env : Env} {iter : PySem.Expr} {px p1 p2 p3 pos : Pos} {Q : Value → Shared → Prop} (W : Fit w p loose mg mb s) (hh : A.handled = none) (hroom : A.depth < recursionLimit) (hx : s.heap.get? x = some (seqO b vs n)) (h172 : 172 < x) (hi : IntsAre vs ns)
    (hcode : env.code = .ref 63) (hglob : env.globals = mainGlobals) (hiter : ∀ Q' : Value → Shared → Prop, Q' (.ref x) s → wpAny (model prog w) A (eval iter env) Q' E s) (hs : ∀ x, genFold iter env x = pure x)
    (hl : pos.line = 18) (hc : pos.col = 11)
    (h : ∀ a s', s'.os = s.os → (∀ (Q' E' : Value → Shared → Prop), (∀ s'', Go s s'' → Q' (.bool (!okN ns)) s'') → wpAny (model prog w) A (call (.builtin "any") [.ref a]) Q' E' s') → Q (.ref a) s') :
    wpAny (model prog w) A (eval (.GeneratorExp (.Compare (.Name (Str.ofString "nibble") p1) [.NotIn] [.Name (Str.ofString "VALID_NIBBLES") p2] p3) [⟨.Name (Str.ofString "nibble") px, iter, [], 0⟩] gsc pos) env) Q E s := by
  obtain ⟨io, St, hio, hpi, hW, hSt⟩ := seq_iter (prog := prog) (w := w) (E := E) hx
  obtain ⟨ps, hps, tb⟩ := W.tab
  have hx61 := big_ne h172
  have hxs := Heap.lt_size hx
  refine wpAny_GeneratorExp_walksQ (cl := []) hh rfl rfl (by decide) rfl rfl rfl hroom (hiter _ (hpi _ _ ⟨W.top.t.nolimit.push _, ?_⟩)) hs
  -- what follows the code
  have go : ∀ (code : Value) (h₃ : Heap) (tk : Tok), Heap.ExtBut 61 (s.heap.push io) h₃ → (s.heap.push io).objs.size ≤ h₃.objs.size → Tab h₃ →
      wpAny (model prog w) A (builtinsFor env.globals env.builtins) (fun bi s₄ =>
        ∃ I fp wr n₀ P St₀ pz F, (Value.ref s.heap.objs.size) = .ref I ∧ (∀ A' : Around, A'.handled = none → Walks prog w A' I fp wr n₀ P St₀) ∧ St₀ 0 s₄.heap ∧ (∀ b ∈ fp, b < s₄.heap.objs.size) ∧ s₄.heap.NoLimit ∧ cStatics ∉ wr ∧
          (∀ href : Heap, (∀ b o, s₄.heap.get? b = some o → href.get? b = some o) →
            QuietGen prog w (genEnv gsc [] s₄.heap.objs.size code bi env) (Str.ofString "nibble") [] (.Compare (.Name (Str.ofString "nibble") p1) [.NotIn] [.Name (Str.ofString "VALID_NIBBLES") p2] p3) (List.range s₄.heap.objs.size) wr P pz F href) ∧
          (∀ a h₅ tk gs, gs.bare = true → s₄.heap.objs.size < a → h₅.objs.size = a + 1 → (∀ b o, s₄.heap.get? b = some o → h₅.get? b = some o) →
            WalksS prog w A.in4 a (a :: s₄.heap.objs.size :: List.range s₄.heap.objs.size) (s₄.heap.objs.size :: wr) (GenOnlyQ s₄.gens.size) (passing pz n₀ 0).length
              (fun j y => ∃ i, (passing pz n₀ 0)[j]? = some i ∧ F i y) (GenAt prog w A.in4 a s₄.gens.size s₄.heap.objs.size (List.range s₄.heap.objs.size) wr pz n₀ F) →
            GenAt prog w A.in4 a s₄.gens.size s₄.heap.objs.size (List.range s₄.heap.objs.size) wr pz n₀ F 0 { s₄ with gens := s₄.gens.push gs, toks := tk, heap := h₅ } →
            Q (.ref a) { s₄ with gens := s₄.gens.push gs, toks := tk, heap := h₅ })) E { s with heap := h₃, toks := tk } := by
    intro code h₃ tk hx₃ hsz ht₃
    have keep : ∀ bb o, bb ≠ 61 → s.heap.get? bb = some o → h₃.get? bb = some o := fun bb o hb e => hx₃ bb o hb (Heap.get?_push_of_some _ e)
    have W₃ := W.top.go keep
    obtain ⟨ob, ho4, hcl, hdi, hda⟩ := W₃.bm
    have hmg : mg "__builtins__" = some (.ref 4) := mg_of W₃.k W₃.t.g (by rfl)
    have hlt : s.heap.objs.size < h₃.objs.size := by
      rw [Heap.size_push] at hsz
      exact hsz
    refine wpAny_builtinsFor (by rw [hglob]; exact W₃.t.g) hmg (by decide) ho4 hcl hdi hda ?_
    have hn61 : s.heap.objs.size ≠ 61 := fun e => by
      have := Heap.lt_size hps
      rw [e] at this
      exact Nat.lt_irrefl _ this
    have hst₃ : St 0 h₃ := (hW A hh).frame _ _ _ hSt fun bb hb o e => hx₃ bb o (by
      rcases List.mem_cons.mp hb with rfl | hb
      · exact hn61
      · rw [List.mem_singleton.mp hb]; exact hx61) e
    refine ⟨_, _, _, _, _, St, fun _ => true, fun i y => ∃ m, ns[i]? = some m ∧ y = .bool (!half m), rfl, hW, hst₃, ?_, W₃.t.nolimit, ?_, ?_, ?_⟩
    · intro bb hb
      rcases List.mem_cons.mp hb with rfl | hb
      · exact hlt
      · rw [List.mem_singleton.mp hb]; exact Nat.lt_trans hxs hlt
    · intro hm
      have := List.mem_singleton.mp hm
      have h2 := Heap.lt_size hps
      rw [← this] at h2
      exact absurd h2 (by decide)
    · intro href hhref
      have small : ∀ bb : Addr, bb ≤ 172 → bb ∈ List.range h₃.objs.size ∧ bb ∉ [s.heap.objs.size] := fun bb hb => by
        have hbig := Nat.lt_trans h172 hxs
        refine ⟨List.mem_range.mpr (Nat.lt_trans (Nat.lt_of_le_of_lt hb hbig) hlt), fun hm => ?_⟩
        have := List.mem_singleton.mp hm
        rw [this] at hb
        exact absurd hbig (Nat.not_lt.mpr hb)
      refine ⟨fun A' E' i v s₂ m₂ hA' hP hns hm hkp => ?_, fun A' E' i v s₂ m₂ hA' hP _ hns hm hkp => ?_⟩
      · exact wpAny_pure ⟨rfl, s₂.heap, s₂.toks, rfl, fun _ _ e => e⟩
      · have hP' : vs[i]? = some v := by simpa using hP
        have hlt' : i < ns.length := by
          rw [← hi.length]
          exact (List.getElem?_eq_some_iff.mp hP').1
        obtain ⟨t, ht⟩ := intsAre_get hi (List.getElem?_eq_getElem hlt')
        rw [hP'] at ht
        obtain rfl := Option.some.inj ht
        have up : ∀ bb o, bb ≤ 172 → h₃.get? bb = some o → s₂.heap.get? bb = some o := fun bb o hb e => hkp bb (small bb hb).1 (small bb hb).2 o (hhref _ _ e)
        refine wpAny_Compare1 (wpAny_Name (wpAny_loadName_local rfl rfl hns hm ?_))
        refine Name_function_global rfl rfl (loadGlobal_global (env := genEnv gsc [] h₃.objs.size code builtinsNs env) (mg := mg) ?_ (mg_of W₃.k W₃.t.g (by rfl) : mg (Str.ofString "VALID_NIBBLES") = some (.ref 56)) ?_) rfl
        · show s₂.heap.Ns env.globals mg
          rw [hglob]
          exact W₃.t.g.at' fun o e => up _ _ (by decide) e
        · refine wpAny_notInSet_of (knd := intKind prog w) (intKind_is _ _ _ _) rfl ((vset_is prog _).setOf (up 56 _ (by decide) W₃.v) (by decide)) ?_
          exact ⟨⟨_, List.getElem?_eq_getElem hlt', rfl⟩, s₂.heap, _, rfl, fun _ _ e => e⟩
    · intro a h₅ tk' gs hbare ha hsz₅ hk₅ WS hat
      refine h a _ rfl fun Q' E' hQ' => ?_
      refine call_any_walkS (wpAny_pyIter_gen hat.1 ⟨a, _, _, _, _, _, _, (fun i => match ns[i]? with | some m => !half m | none => false), rfl, WalksS.in4_1 WS, hat, ?_, fun s'' hm => ?_⟩)
      · rintro i v s₆ Q₆ E₆ ⟨j, hj, m, hm, rfl⟩ hQ
        have e : passing (fun _ => true) vs.toArray.size 0 = List.range vs.toArray.size := by simp [passing]
        rw [e] at hj
        obtain ⟨hlt, hjj⟩ := List.getElem?_eq_some_iff.mp hj
        rw [List.getElem_range] at hjj
        subst hjj
        refine wpAny_truthy_bool ?_
        simpa [hm] using hQ
      · have e : (passing (fun _ => true) vs.toArray.size 0).length = ns.length := by
          have e1 : passing (fun _ => true) vs.toArray.size 0 = List.range vs.toArray.size := by simp [passing]
          rw [e1, List.length_range, List.size_toArray, hi.length]
        rw [e, any_half]
        refine hQ' s'' ⟨fun bb o hb eo => ?_, ?_, ?_, ?_⟩
        · have hbs := Heap.lt_size eo
          refine hm.heap bb o (fun hmem => ?_) (hk₅ _ _ (keep bb o hb eo))
          rcases List.mem_cons.mp hmem with z | hmem
          · rw [z] at hbs; exact absurd (Nat.lt_trans hbs hlt) (Nat.lt_irrefl _)
          · rw [List.mem_singleton.mp hmem] at hbs; exact absurd hbs (Nat.lt_irrefl _)
        · obtain ⟨ps₃, e₃, tb₃⟩ := ht₃
          refine ⟨ps₃, hm.heap 61 _ (fun hmem => ?_) (hk₅ _ _ e₃), tb₃⟩
          have h61 := Heap.lt_size hps
          rcases List.mem_cons.mp hmem with z | hmem
          · have z' : (61 : Nat) = h₃.objs.size := z
            have h61' : (61 : Nat) < s.heap.objs.size := h61
            have hlt'' : (s.heap.objs.size : Nat) < h₃.objs.size := hlt
            omega
          · exact hn61 (List.mem_singleton.mp hmem).symm
        · exact (GenOnlyQ.bare hm.gens (W.gens.push hbare))
        · exact hm.os
  have hc2 := isCode63 (h := s.heap.push io) (W.top.k.keeps fun _ _ e => Heap.get?_push_of_some _ e) (Heap.get?_push_of_some _ hps) tb
  rcases tb with rfl | ⟨c, rfl⟩
  · refine wpAny_genexprCodeX hcode hc2.1 hc2.2 rfl fun c' h' tk hx' h1 h2 h3 h4 h5 h6 => ?_
    refine go _ h' tk hx' (Nat.le_trans h1 (Nat.le_of_lt h2)) ⟨_, h5.2, .inr ⟨c', ?_⟩⟩
    rw [hl, hc]
    rfl
  · refine wpAny_genexprCode_hit (c' := .ref c) hcode hc2.1 ?_ ?_
    · show (if ((18 : Int) == pos.line && (11 : Int) == pos.col) = true then some (Value.ref c) else _) = _
      rw [hl, hc]
      rfl
    · exact go _ _ _ (Heap.ExtBut.refl _ _) (Nat.le_refl _) ⟨_, Heap.get?_push_of_some _ hps, .inr ⟨c, rfl⟩⟩
end
end Mine

-- X1
namespace Mine
variable {w : World} {p : Program} {loose : List Str} {mg mb : Str → Option Value}
def e0 : Heap := {}
theorem e0_none (b : Addr) : e0.get? b = none := by
  cases e : e0.get? b with
  | none => rfl
  | some o => exact absurd (Heap.lt_size e) (Nat.not_lt_zero _)
abbrev Stk (A : Around) (outer : List Env) (h : Heap) : Prop := Below A e0 outer h
/-- an exception of the own class under way: what the frames below see -/
def Up (outer : List Env) (h : Heap) (e : Addr) (h' : Heap) : Prop :=
  ∃ B t, (∀ b o, b ≠ 61 → b ∉ outer.filterMap (·.frame) → h.get? b = some o → B.get? b = some o) ∧ Tab B ∧ Heap.FlyingW B outer e (.ref 24) (.ref t) h' ∧ h.UpToSlots h'
structure Rz (outer : List Env) (s : Shared) (e : Addr) (s' : Shared) : Prop where
  up : Up outer s.heap e s'.heap
  gens : AllBare s'.gens
  os : s'.os = s.os
section
variable {M : Model} {A : Around} {E : Value → Shared → Prop} {s s₁ s' : Shared} {g : Heap} {L an e : Addr} {ao : Obj} {m : Str → Option Value} {as news : List (Addr × Obj)} {ps₀ ps : Array Value} {outer : List Env} {env : Env} {Q : Unit → Shared → Prop}
theorem stk_in (W : Fit w p loose mg mb s) (K : Stk A outer s.heap) (I : Inn w p loose mg mb s g L an ao ps₀ as) (F : Fr g L s₁.heap m) (N : News g L s₁.heap news) (hn : ∀ q ∈ (an, ao) :: as, q ∈ news) (hf : env.frame = some L := by rfl) (hk : env.scope.kind = .function := by rfl) :
    Stk (A.deeper env) (env :: outer) s₁.heap := by
  refine ⟨Around.frames_deeper K.stack, fun b o q => (by rw [e0_none] at q; cases q), ?_⟩
  refine .cons (by rw [hk]; decide) hf F.ns (e0_none _) (K.frames.of_keeps fun b o q hd => ⟨o, kept_in I F N hn b o (fun z => ?_) q, rfl⟩)
  obtain ⟨ps, hp, _⟩ := W.tab
  rw [z, hp] at q
  cases q
  exact hd _ rfl
theorem led_keeps (W : Fit w p loose mg mb s) (I : Inn w p loose mg mb s g L an ao ps₀ as) (F : Fr g L s₁.heap m) (N : News g L s₁.heap news) (hn : ∀ q ∈ (an, ao) :: as, q ∈ news) : s.heap.UpToSlots s₁.heap := fun b o q hd => by
  refine ⟨o.slots, kept_in I F N hn b o (fun z => ?_) q⟩
  obtain ⟨ps, hp, _⟩ := W.tab
  rw [z, hp] at q
  cases q
  exact hd _ rfl
theorem frames_ne {h : Heap} {ps : Array Value} {l : List Env} (K : h.FunFrames e0 l) (hp : h.get? 61 = some (tabOf ps)) : 61 ∉ l.filterMap (·.frame) := fun hm => by
  obtain ⟨_, o, ho, hd⟩ := K.mem hm
  rw [hp] at ho
  cases ho
  exact hd _ rfl
theorem up_made {vs : List Value} (W : Fit w p loose mg mb s) (K : Stk A outer s.heap) (I : Inn w p loose mg mb s g L an ao ps₀ as) (F : Fr g L s₁.heap m) (N : News g L s₁.heap news) (tb : Tb ps) (hm : (61, tabOf ps) ∈ news) (hn : ∀ q ∈ (an, ao) :: as, q ∈ news)
    (hx : Heap.MadeExcOf s₁.heap s'.heap e (.ref 24) vs) (hQ : ∀ h', Up outer s.heap e h' → Q () { s' with heap := h' }) (hf : env.frame = some L := by rfl) (hk : env.scope.kind = .function := by rfl) :
    wpAny M (A.deeper env) (leaving env (.ref e)) Q E s' := by
  have K' := stk_in (env := env) W K I F N hn hf hk
  have hin : ∀ env' ∈ (env :: outer), ∀ b, env'.frame = some b → b ∈ (env :: outer).filterMap (·.frame) := fun env' he b hb => List.mem_filterMap.mpr ⟨env', he, hb⟩
  refine wpAny_leaves_madeW K'.stack hf (base := hideAll s₁.heap ((env :: outer).filterMap (·.frame))) (fun b o q => of_hideAll _ q) (funFrames_hide K'.frames hin) hx fun h' t x1 x2 x3 x4 => hQ h' ⟨_, t, fun b o hb ho q => ?_, ⟨ps, ?_, tb⟩, x1, ?_⟩
  · refine hideAll_get _ (kept_in I F N hn b o hb q) fun hmem => ?_
    rw [List.filterMap_cons, hf] at hmem
    rcases List.mem_cons.mp hmem with rfl | hmem
    · rw [I.hLs] at q; cases q
    · exact ho hmem
  · exact hideAll_get _ (N _ hm).1 (frames_ne K'.frames (N _ hm).1)
  · exact ((led_keeps W I F N hn).trans (Heap.UpToSlots.of_keeps hx.keeps)).trans x4
/-- an exception of a call's goes on through this frame -/
theorem up_on (W : Fit w p loose mg mb s) (K : Stk A outer s.heap) (I : Inn w p loose mg mb s g L an ao ps₀ as) (F : Fr g L s₁.heap m) (N : News g L s₁.heap news) (hn : ∀ q ∈ (an, ao) :: as, q ∈ news)
    (U : Up (env :: outer) s₁.heap e s'.heap) (hQ : ∀ h', Up outer s.heap e h' → Q () { s' with heap := h' }) (hf : env.frame = some L := by rfl) :
    wpAny M (A.deeper env) (leaving env (.ref e)) Q E s' := by
  obtain ⟨B, t, kp, tb, fl, up⟩ := U
  refine wpAny_leaves_onW (Around.frames_deeper K.stack) hf fl fun h' x1 x2 => hQ h' ⟨B, t, fun b o hb ho q => ?_, tb, x1, ((led_keeps W I F N hn).trans up).trans x2⟩
  refine kp b o hb (fun hmem => ?_) (kept_in I F N hn b o hb q)
  rw [List.filterMap_cons, hf] at hmem
  rcases List.mem_cons.mp hmem with rfl | hmem
  · rw [I.hLs] at q; cases q
  · exact ho hmem
end
section
variable {prog : Program} {A : Around} {R : Result → Shared → Prop} {s : Shared} {f : Addr} {oc : Value} {od : Option Addr} {osl : Array (Option Value)} {name : Str} {params : Arguments} {body : List Stmt} {scope : Scope} {pm cd doc : Value} {args : List Value} {binds : List (Str × Value)}
/-- into a def that has cells -/
theorem enterC (as : List (Addr × Obj)) (W : Fit w p loose mg mb s) (has : ∀ q ∈ as, s.heap.get? q.1 = some q.2 ∧ 172 < q.1) (hroom : A.depth < recursionLimit)
    (ho : (hd.heap_39 w.params).lookup f = some ⟨oc, od, .func (docDef name params body scope pm cd doc), osl⟩) (hcd : codeIn (hd.heap_39 w.params) cd name = true)
    (hbind : bindArgs (docDef name params body scope pm cd doc) ⟨args, []⟩ = pure binds)
    (hkind : ∀ n, KindsOk scope n binds) (hnd : ((cellsFrom 0 scope.names []).map (·.1)).Nodup)
    (h : ∀ g L h₁ tk ps an ao cells, Inn w p loose mg mb s g L an ao ps as → (hd.heap_39 w.params).In g → TopRead p loose mg mb g → Fr g L h₁ (bindL (envOfC name scope L f cd).kindOf binds fun _ => none) →
      News g L h₁ (cells ++ (an, ao) :: (61, tabOf ps) :: as) → CellsAre (bindC (envOfC name scope L f cd).kindOf binds fun _ => none) (cellsFrom (L + 1) scope.names []) cells → Tb ps → (∀ b o, s.heap.get? b = some o → h₁.get? b = some o) →
      wpAny (model prog w) (A.deeper (envOfC name scope L f cd)) (execs body (envOfC name scope L f cd))
        (fun fl s' => R (.ok (.ret (match fl with | .ret v => v | _ => .none))) s')
        (fun e s' => wpAny (model prog w) (A.deeper (envOfC name scope L f cd)) (leaving (envOfC name scope L f cd) e) (fun _ s'' => R (.error e) s'') (fun e' s'' => R (.error e') s'') s')
        { s with heap := h₁, toks := tk })
    (hco : scope.isCoroutine = false := by rfl) (hgen : scope.isGenerator = false := by rfl) (hk : scope.kind = .function := by rfl) :
    codeAny (model prog w) A (.call (.ref f) ⟨args, []⟩) R s := by
  refine codeAny_call_cells (fd := Calls.docDef name params body scope pm cd doc) hroom (W.top.k _ _ ho) rfl W.top.t.nolimit (codeRec_of W.top.k hcd) rfl hbind rfl (kinds_of (hkind _)) (fun s₁ Xc => ?_) hco hgen hk
  obtain ⟨h₁, tk, rfl, _⟩ := Xc.done
  have hk₁ : ∀ b o, s.heap.get? b = some o → h₁.get? b = some o := Xc.toInCall.keep
  obtain ⟨cells, NC, Y⟩ := Cl.news (h₀ := s.heap) (Nat.le_refl _) fun n c hm => ⟨Xc.cell n c (lookup_of_mem_nodup (cellsFrom_names scope.names 0 (s.heap.objs.size + 1) [] [] rfl ▸ hnd) hm), Xc.above n c hm⟩
  obtain ⟨ps, hps, tb⟩ := W.tab
  obtain ⟨an, ao, han, hao⟩ := W.anc
  have x := hole_is s.heap ((an, ao) :: (61, tabOf ps) :: as)
  have hf : Free ((an, ao) :: (61, tabOf ps) :: as) := fun q hq => by
    rcases List.mem_cons.mp hq with rfl | hq
    · exact .inr han
    · rcases List.mem_cons.mp hq with rfl | hq
      · exact .inl rfl
      · exact .inr (has q hq).2
  have W' := W.top.hole x hf
  have h172 : 172 < s.heap.objs.size := Heap.lt_size (W.top.k 172 _ rfl)
  have n61 := x.none (b := 61) (by simp)
  have nL : s.heap.objs.size ≠ 61 := fun q => by rw [q] at h172; exact absurd h172 (by decide)
  have I : Inn w p loose mg mb s _ s.heap.objs.size an ao ps as := ⟨x, fun q hq => by
    rcases List.mem_cons.mp hq with rfl | hq
    · exact hao
    · exact (has q hq).1, W', n61, nL, han, W.gens, get?_size _⟩
  refine h _ s.heap.objs.size h₁ tk ps an ao cells I W'.k W'.t ⟨Xc.toInCall.ns, fun b o e => hk₁ b o ((x.get b o).mp e).1, Nat.le_of_eq x.size⟩ (fun q hq => ?_) Y tb hk₁
  rcases List.mem_append.mp hq with hq | hq
  · refine ⟨(NC q hq).1, (NC q hq).2.1, ?_⟩
    cases z : (hideAll s.heap (((an, ao) :: (61, tabOf ps) :: as).map (·.1))).get? q.1 with
    | none => rfl
    | some o => have := of_hideAll _ z; rw [(NC q hq).2.2] at this; cases this
  · have hq' : s.heap.get? q.1 = some q.2 := by
      rcases List.mem_cons.mp hq with rfl | hq
      · exact hao
      · rcases List.mem_cons.mp hq with rfl | hq
        · exact hps
        · exact (has q hq).1
    exact ⟨hk₁ _ _ hq', fun q' => by rw [q'] at hq'; exact absurd (Heap.lt_size hq') (Nat.lt_irrefl _), x.none (List.mem_map_of_mem hq)⟩
end
end Mine

-- S3
namespace Mine
section
variable {prog : Program} {w : World} {A : Around} {E : Value → Shared → Prop} {s : Shared} {x : Addr} {vs : List Value} {ns : List Int}
theorem len_seq {Q : Value → Shared → Prop} (hx : SeqAt s.heap x vs) (hi : IntsAre vs ns) (hn : ns.length < 1000)
    (h : Q (.int (ns.length : Nat) (s.toks + 1)) { s with toks := s.toks + 1 + 1 }) : wpAny (model prog w) A (call (.builtin "len") [.ref x]) Q E s := by
  have hl := hi.length
  have e : ((vs.toArray.size : Nat) : Int) = (ns.length : Nat) := by rw [List.size_toArray, hl]
  rw [← e] at h
  rcases hx with hx | hx
  · exact len_list hx (by rw [e]; omega) h
  · exact len_tuple hx (by rw [e]; omega) h
theorem len_tupO {Q : Value → Shared → Prop} {g : Heap} {L : Addr} {news : List (Addr × Obj)} {n : Nat} (N : News g L s.heap news) (hx : (x, tupO vs n) ∈ news) (hi : IntsAre vs ns) (hn : ns.length < 1000)
    (h : Q (.int (ns.length : Nat) (s.toks + 1)) { s with toks := s.toks + 1 + 1 }) : wpAny (model prog w) A (call (.builtin "len") [.ref x]) Q E s :=
  len_seq (.inr ⟨_, (N _ hx).1, rfl, n, rfl⟩) hi hn h
variable {g : Heap} {L a t an : Addr} {ao : Obj} {m : Str → Option Value} {news : List (Addr × Obj)} {us ws : List Value} {n1 n2 : Nat}
/-- a + t of two tuples -/
theorem cat_tup {Q : Value → Shared → Prop} (F : Fr g L s.heap m) (N : News g L s.heap news) (ha : (a, tupO us n1) ∈ news) (hb : (t, tupO ws n2) ∈ news) (h1 : 172 < a) (h2 : 172 < t) (hz : us.length + ws.length ≤ 16384)
    (h : ∀ D n h', Fr g L h' m → News g L h' ((D, tupO (us ++ ws) n) :: news) → 172 < D → Q (.ref D) { s with heap := h' }) : wpAny (model prog w) A (binaryOp .Add (.ref a) (.ref t)) Q E s := by
  have self : ∀ {b : Addr} {vs : List Value} {n : Nat}, (b, tupO vs n) ∈ news → News g L s.heap ((b, tupO vs n) :: news) := fun hm q hq => by
    rcases List.mem_cons.mp hq with rfl | hq
    · exact N _ hm
    · exact N _ hq
  refine add_tuples F N ⟨_, (N _ ha).1, rfl, n1, rfl⟩ ⟨_, (N _ hb).1, rfl, n2, rfl⟩ (fun q => ?_) (fun _ q => ?_) (fun _ _ h' F' N' => ?_) (by rw [sizeLine_eq]; omega)
  · have := h t n2 s.heap F
    subst q
    exact this (self hb) h2
  · have := h a n1 s.heap F
    subst q
    rw [List.append_nil] at this
    exact this (self ha) h1
  · exact h _ 0 h' F' N' (Nat.lt_trans h1 (Heap.lt_size (N _ ha).1))
end
end Mine

-- P1
namespace Mine
variable {w : World} {p : Program} {loose : List Str} {mg mb : Str → Option Value}
def pairAt (ns : List Int) (a : Int) : Int := 16 * ns.getD a.toNat 0 + ns.getD (a.toNat + 1) 0
def pack (ns : List Int) : List Int := (rangeInts 0 2 (ns.length / 2)).map (pairAt ns)
theorem okN_get {ns : List Int} (h : okN ns = true) (j : Nat) : 0 ≤ ns.getD j 0 ∧ ns.getD j 0 ≤ 15 := by
  rw [List.getD_eq_getElem?_getD]
  cases e : ns[j]? with
  | none => exact ⟨by decide, by decide⟩
  | some n =>
    have := List.all_eq_true.mp h n (List.mem_of_getElem? e)
    simpa [half] using this
theorem getD_get {ns : List Int} {j : Nat} (h : j < ns.length) : ns[j]? = some (ns.getD j 0) := by
  rw [List.getD_eq_getElem?_getD, List.getElem?_eq_getElem h]
  rfl
theorem pack_len (ns : List Int) : (pack ns).length = ns.length / 2 := by simp [pack, rangeInts]
theorem pack_byte {ns : List Int} (h : okN ns = true) : ∀ n ∈ pack ns, 0 ≤ n ∧ n < 256 := by
  intro n hn
  obtain ⟨a, _, rfl⟩ := List.mem_map.mp hn
  have h1 := okN_get h a.toNat
  have h2 := okN_get h (a.toNat + 1)
  unfold pairAt
  omega
section
variable {prog : Program} {A : Around} {E : Value → Shared → Prop} {s : Shared} {x c : Addr} {b : Bool} {n : Nat} {vs : List Value} {ns : List Int} {g : Heap} {L : Addr} {m : Str → Option Value} {news : List (Addr × Obj)} {env : Env} {y : Str} {co : Obj} {Q : Value → Shared → Prop}
abbrev ksc (y : Str) : Scope := { kind := .function, names := [(Str.ofString ".0", .local), (Str.ofString "k", .local), (y, .free)], isGenerator := false, isCoroutine := false }
theorem comp_pack {iter : PySem.Expr} {p1 p2 p3 p4 p5 p6 p7 p8 p9 p10 p11 px pos : Pos} (_F : Fr g L s.heap m) (_N : News g L s.heap news) (hx : (x, seqO b vs n) ∈ news) (hi : IntsAre vs ns) (hn : ns.length < 1000) (hev : ns.length % 2 = 0) (hc : (c, co) ∈ news) (hcd : co.data = .cell (some (.ref x))) (hh : A.handled = none)
    (hclos : closureFor (ksc y) env = pure [(y, c)]) (hyc : ∀ z ∈ (ksc y).names, z.2 ≠ .cell) (hnm : ∀ z ∈ (ksc y).names, z.2 = .local → (ksc y).names.lookup z.1 = some .local) (hkx : (ksc y).names.lookup (Str.ofString "k") = some .local)
    (hk : ∀ C, (compEnvC (ksc y) [(y, c)] C env).kindOf (Str.ofString "k") = some .local) (hy : ∀ C, (compEnvC (ksc y) [(y, c)] C env).kindOf y = some .cell)
    (hyd : (y == ("__debug__" : Str)) = false)
    (h : wpAny (model prog w) A (eval iter env) (fun xv s₁ => ∃ r t u v, xv = .ref r ∧ IsRange s₁.heap r 0 (ns.length : Nat) 2 t u v ∧ Fr g L s₁.heap m ∧ News g L s₁.heap news ∧
      ∀ D ys h' tk, Fr g L h' m → News g L h' news → h'.IsList D ys.toArray → IntsAre ys (pack ns) → Q (.ref D) { s₁ with heap := h', toks := tk }) E s)
    (hs : ∀ x, foldedSetIterable iter env x = pure x) :
    wpAny (model prog w) A (eval (.ListComp (.BinOp (.BinOp (.Constant (.int 16) 0 p1) .Mult (.Subscript (.Name y p2) (.Name (Str.ofString "k") p3) p4) p5) .Add
      (.Subscript (.Name y p6) (.BinOp (.Name (Str.ofString "k") p7) .Add (.Constant (.int 1) 0 p8) p9) p10) p11) [⟨.Name (Str.ofString "k") px, iter, [], 0⟩] (ksc y) pos) env) Q E s := by
  refine ListComp_DCr (pz := fun _ => true) (d := fun a => .int (pairAt ns a)) (h₀ := g) (L := L) (m := m) hh hclos hyc rfl hnm hkx (wpAny_mono h (fun xv s₁ h₁ => ?_) fun _ _ e => e) hs
  obtain ⟨r, t, u, v, rfl, hr, F₁, N₁, hQ⟩ := h₁
  have hln : Builtin.Range.rangeSize 0 (ns.length : Nat) 2 = ((ns.length / 2 : Nat) : Int) := by
    unfold Builtin.Range.rangeSize
    simp only [show (2 : Int) > 0 by decide, if_true]
    split <;> omega
  refine ⟨news, r, 0, (ns.length : Nat), 2, t, u, v, ns.length / 2, rfl, hr, ?_, hln, by rw [sizeLine_eq]; omega, F₁, N₁, ?_, ?_, ?_⟩
  · unfold Builtin.Range.small
    rw [hln]
    simp [Builtin.Range.rangeFitsLong]
    omega
  · intro C a v s₂ m₂ E' hC ha hv hns hm hkp
    exact wpAny_pure ⟨rfl, s₂.heap, s₂.toks, rfl, fun _ _ e => e⟩
  · intro C a v s₂ m₂ E' hC ha hv _ hns hm hkp
    obtain ⟨i, hi', rfl⟩ := List.mem_map.mp ha
    have hlt := List.mem_range.mp hi'
    obtain ⟨tk, rfl⟩ := hv
    have hcell : s₂.heap.IsCell c (some (.ref x)) := ⟨co, hkp _ _ (N₁ _ hc).1, hcd⟩
    have hseq : SeqAt s₂.heap x vs := seqAt (hkp _ _ (N₁ _ hx).1)
    have ea : ((0 : Int) + (i : Nat) * 2).toNat = 2 * i := by omega
    have k0 : ns[2 * i]? = some (ns.getD (2 * i) 0) := getD_get (by omega)
    have k1 : ns[2 * i + 1]? = some (ns.getD (2 * i + 1) 0) := getD_get (by omega)
    refine wpAny_BinOp (wpAny_BinOp (wpAny_Constant_int (Subscript_ (wpAny_Name (wpAny_loadName_cell rfl (hy C) (by show List.lookup y [(y, c)] = some c; simp) hcell ?_) hyd))))
    refine wpAny_Name (wpAny_loadName_local rfl (hk C) hns hm ?_) rfl
    refine item_seq (k := 0 + (i : Nat) * 2) (x := x) (by exact hseq) hi hn (j := 2 * i) (.inl ⟨by omega, by omega⟩) k0 fun t0 => ?_
    refine mul_int ?_
    refine Subscript_ (wpAny_Name (wpAny_loadName_cell rfl (hy C) (by show List.lookup y [(y, c)] = some c; simp) hcell ?_) hyd)
    refine wpAny_BinOp (wpAny_Name (wpAny_loadName_local rfl (hk C) hns hm ?_) rfl)
    refine wpAny_Constant_int (add_int ?_)
    refine item_seq (k := 0 + (i : Nat) * 2 + 1) (x := x) (by exact hseq) hi hn (j := 2 * i + 1) (.inl ⟨by omega, by omega⟩) k1 fun t1 => ?_
    refine add_int ?_
    refine ⟨?_, s₂.heap, _, rfl, fun _ _ e => e⟩
    have : pairAt ns (0 + (i : Nat) * 2) = 16 * ns.getD (2 * i) 0 + ns.getD (2 * i + 1) 0 := by unfold pairAt; rw [ea]
    rw [this]
    exact .int _ _
  · intro D ys h' tk F' N' _ hl _ hcar
    refine hQ D ys h' tk F' N' hl ?_
    have e : List.filter (fun _ => true) (rangeInts 0 2 (ns.length / 2)) = rangeInts 0 2 (ns.length / 2) := by simp
    rw [e] at hcar
    exact hcar.intsOf
end
end Mine

-- N3
namespace Mine
variable {w : World} {p : Program} {loose : List Str} {mg mb : Str → Option Value}
local macro_rules | `(tactic| k_steps) => `(tactic| repeat' (first | (k_unfold; (try dsimp only)) | (walk1 <;> (try dsimp only)) | (dsimp only; walk1) | (leave1; walk_say "STEP leave1"; try dsimp only) | fail "no step"))
local macro_rules | `(tactic| k_caughtB) => `(tactic| (first | (k_unfold; (try dsimp only)) | (walk1 <;> (try dsimp only)) | (dsimp only; walk1) | (leave1; walk_say "STEP leave1"; try dsimp only) | fail "no step"))
local macro_rules | `(tactic| ktr_room) => `(tactic| (simp only [depth_deeper, depth_in1] at *; omega))
theorem fill_3 (P : Params) : PySem.Challenge.rw_iu0033_01.name = PySem.Challenge.rw_iu0033_01.name ∧ hd.heap_39 P = hd.heap_39 P := by
  k_fill
  exact ⟨rfl, rfl⟩
theorem fmod2 (n : Nat) : ((n : Int).fmod 2) = ((n % 2 : Nat) : Int) := by
  rw [Int.fmod_eq_emod_of_nonneg _ (by decide)]
  omega
theorem led3 {a b c : Addr} {o₁ o₂ o₃ : Obj} {news : List (Addr × Obj)} (h1 : 172 < a) (h2 : 172 < b) (h3 : 172 < c) (hs : ∀ q ∈ [(a, o₁), (b, o₂), (c, o₃)], q ∈ news) :
    ∀ q ∈ [(a, o₁), (b, o₂), (c, o₃)], q ∈ news ∧ q.1 ≠ 61 := fun q hq => ⟨hs q hq, by
  rcases List.mem_cons.mp hq with rfl | hq
  · exact big_ne h1
  · rcases List.mem_cons.mp hq with rfl | hq
    · exact big_ne h2
    · rw [List.mem_singleton.mp hq]; exact big_ne h3⟩
section
variable {M : Model} {A : Around} {E : Value → Shared → Prop} {s : Shared} {g : Heap} {L : Addr} {m : Str → Option Value} {Q : Flow → Shared → Prop} {env : Env} {x : Str} {np cpos pos : Pos} {prog : Program}
/-- raise InvalidNibbles(..) -/
theorem raise_own {e₀ : PySem.Expr} {rest : List PySem.Expr} {C : Addr} {newId initId B : String} {bm : List Value} (F : Fr g L s.heap m) (hg : g.Ns mainGlobals mg) (O : OwnCls x C bm newId mg g) (FB : ExcBaseFacts B newId initId bm) (hh : A.handled = none)
    (h : wpAny (model prog w) A (spliced (backTo cpos (starEach (e₀ :: rest) env))) (fun vs s₂ => vs.length ≤ sizeLine ∧ (∀ b o, g.get? b = some o → s₂.heap.get? b = some o) ∧
      ∀ h' e, Heap.MadeExcOf s₂.heap h' e (.ref C) vs → E (.ref e) { s₂ with heap := h' }) E s)
    (hgl : env.globals = mainGlobals := by rfl)
    (he : starEach (e₀ :: rest) env = (false, eval e₀ env) :: starEach rest env := by rfl)
    (hplain : (backTo cpos (starEach rest env)).any (·.1) = false := by rfl)
    (hk : env.scope.kind = .function := by rfl) (hx : env.kindOf x = some .globalImplicit := by rfl) (hd : (x == ("__debug__" : Str)) = false := by decide) :
    wpAny (model prog w) A (exec (.Raise (some (.Call (.Name x np) (e₀ :: rest) [] cpos)) none pos) env) Q E s := by
  obtain ⟨tl, N, nm, q, bs, hdct, sn, sub, ab, col, dd, k0, k1, k2, k3, k5, mN, hC, hN, hni, T⟩ := O.obj
  refine wpAny_Raise_call_subT (C := C) (nm := nm) (q := q) (N := N) (bs := bs) (bm := tl) (hdct := hdct) (sn := sn) (sub := sub) (ab := ab) (col := col) (dd := dd) (k0 := k0) (k1 := k1) (k2 := k2) (k3 := k3) (k5 := k5)
    FB (mN := mN) (T.hasType FB.hasBase) hh (by rw [he]; show (false || (backTo cpos (starEach rest env)).any (·.1)) = false; rw [hplain]; rfl) hni
    (Name_function_global hk hx (loadGlobal_global (env := env) (by rw [hgl]; exact hg.keeps F.keep) O.bound ⟨rfl, ?_⟩) hd)
  rw [he] at h ⊢
  exact Calls.evalArgs_plain (wpAny_mono h (fun vs s₂ h₂ => ⟨rfl, h₂.1, h₂.2.1 _ _ hC, hN.keeps h₂.2.1, T.keeps h₂.2.1, h₂.2.2⟩) fun _ _ y => y)
end
local macro_rules | `(tactic| k_caught0) => `(tactic| (walk1; refine raise_own (by assumption) (TopRead.g (by assumption)) (C := 24) (bm := [.type "Exception", .type "BaseException", .type "object"]) (newId := "Exception.__new__") ?O PySem.F.excBase_Exception (by assumption) ?_ ?hgl ?he ?hplain ?hk ?hx ?hd; (case O => exact own_of_in (by assumption) (by assumption) (by k_is) (by k_exc)); (case hgl => rfl); (case he => rfl); (case hplain => rfl); (case hk => rfl); (case hx => rfl); (case hd => decide); walk1; walk1; walk1))
local macro_rules | `(tactic| walk_at "call builtin:len") => `(tactic| ((with_reducible show wpAny _ _ (call (Value.builtin _) [Value.ref _]) _ _ _); refine len_seq (seqAt_in (by assumption) (by k_mem)) (by assumption) (by omega) ?_))
section
variable {prog : Program} {A : Around} {R : Result → Shared → Prop} {s : Shared} {x : Addr} {b : Bool} {n : Nat} {vs : List Value} {ns : List Int} {outer : List Env}
set_option maxHeartbeats 1000000 in
theorem c_n2b (W : Fit w p loose mg mb s) (K : Stk A outer s.heap) (hh : A.handled = none) (hd : A.depth + 6 < recursionLimit) (hx : s.heap.get? x = some (seqO b vs n)) (h172 : 172 < x) (hi : IntsAre vs ns) (hn : ns.length < 900)
    (hR : ∀ t s', Go s s' → okN ns = true → ns.length % 2 = 0 → R (.ok (.ret (.bytes (byteArr (pack ns)) t))) s')
    (hE : ∀ e s', Rz outer s e s' → (okN ns && ns.length % 2 == 0) = false → R (.error (.ref e)) s') :
    codeAny (model prog w) A (.call (.ref 64) ⟨[.ref x], []⟩) R s := by
  have hlen := hi.length
  refine enterC [(x, seqO b vs n)] (binds := [("nibbles", .ref x)]) W (fun q hq => by rw [List.mem_singleton.mp hq]; exact ⟨hx, h172⟩) (by omega) (by k_is) (by k_is) rfl (fun k => ⟨.inr ⟨rfl, rfl⟩, trivial⟩) (by decide) ?_
  intro g L h₁ tk ps an ao cells I X T F N Y tb hk₁
  have hb := I.gens
  obtain ⟨co, rfl, hco⟩ := CellsAre.one Y
  replace hco : co.data = .cell (some (.ref x)) := hco
  rw [List.singleton_append] at N
  k_steps
  refine gen_valid (fit_in I F N tb hb (by k_mem) (by k_mem)) hh (by ktr_room) (N_get N (by k_mem : (x, seqO b vs n) ∈ _)) h172 hi rfl rfl (fun Q' hQ => nameX_C N rfl (by k_mem) hco hQ) (fun _ => rfl) rfl rfl ?_
  intro a s₁ hos hany
  k_steps
  refine hany _ _ fun s₂ go => ?_
  have F' := fr_back go I F
  obtain ⟨ps', tb', N'⟩ := news_back [(L + 1, co), (an, ao), (x, seqO b vs n)] go I N (led3 (Nat.lt_succ_of_lt (inn_big I F)) I.han h172 (by simp))
  have hb' := go.gens
  have hos' : s₂.os = s.os := go.os
  clear F N tb hb hany
  iterate 3 (all_goals try k_caughtB)
  rotate_left
  · rename_i hv
    k_caught0
    refine ⟨by size_fits, F'.keep, fun h' e hx => ?_⟩
    refine up_made W K I F' N' tb' (by k_mem) (by simp) hx fun h' up => ?_
    refine hE _ _ ⟨up, hb', hos'⟩ ?_
    rw [hv]; rfl
  · rename_i hv
    iterate 14 k_caughtB
    iterate 2 k_caughtB
    · rename_i he
      k_caughtB
      k_caught0
      refine ⟨by size_fits, F'.keep, fun h' e hx => ?_⟩
      refine up_made W K I F' N' tb' (by k_mem) (by simp) hx fun h' up => ?_
      refine hE _ _ ⟨up, hb', hos'⟩ ?_
      rw [hv]
      have : ns.length % 2 = 1 := by
        simp only [decide_eq_true_eq, ne_eq, fmod2] at he
        omega
      rw [this]; rfl
    · rename_i he
      iterate 8 (k_caughtB)
      have hev : ns.length % 2 = 0 := by
        simp only [decide_eq_false_iff_not, ne_eq, Classical.not_not, fmod2] at he
        omega
      refine comp_pack F' N' (by k_mem : (x, seqO b vs n) ∈ _) hi (by omega) hev (by k_mem : (L + 1, co) ∈ _) hco hh rfl (by decide) (by decide) rfl (fun _ => rfl) (fun _ => rfl) rfl ?_ (fun _ => rfl)
      iterate 17 k_caughtB
      rename_i h3 tk3 t1 u1 v1 hr F3 N3 k3
      refine ⟨_, t1, u1, v1, rfl, hr, F3, N3, fun D ys h4 tk4 F4 N4 hl4 hi4 => ?_⟩
      (try dsimp only)
      k_caughtB
      refine call_bytes_ints hl4 hi4 (pack_byte hv) (by rw [hi4.length, pack_len, sizeLine_eq]; omega) hh fun h5 t5 k5 hk5 => ?_
      have F5 := F4.keeps hk5
      have N5 := N4.grown hk5
      (try dsimp only)
      k_steps
      exact hR _ _ (go_end I (by assumption) (by assumption) tb' hb' hos' (by k_mem) (by simp)) hv hev
end
end Mine

-- E1
namespace Mine
variable {w : World} {p : Program} {loose : List Str} {mg mb : Str → Option Value}
local macro_rules | `(tactic| k_steps) => `(tactic| repeat' (first | (k_unfold; (try dsimp only)) | (walk1 <;> (try dsimp only)) | (dsimp only; walk1) | (leave1; walk_say "STEP leave1"; try dsimp only) | fail "no step"))
local macro_rules | `(tactic| ktr_room) => `(tactic| (simp only [depth_deeper, depth_in1] at *; omega))
theorem fill_4 (P : Params) : PySem.Challenge.rw_iu0033_01.name = PySem.Challenge.rw_iu0033_01.name ∧ hd.heap_39 P = hd.heap_39 P := by
  k_fill
  exact ⟨rfl, rfl⟩
local macro_rules | `(tactic| walk_at "call ref") => `(tactic| ((with_reducible show wpAny _ _ (call (Value.ref _) _) _ _ _); refine wpAny_call ?_))
local macro_rules | `(tactic| walk_at "call builtin:len") => `(tactic| ((with_reducible show wpAny _ _ (call (Value.builtin _) [Value.ref _]) _ _ _); refine len_tupO (by assumption) (by k_mem) (by assumption) (by omega) ?_))
def flagged (ns : List Int) : List Int := (if (remT ns).length % 2 = 1 then [(if isT ns then 2 else 0) + 1] else [(if isT ns then 2 else 0), 0]) ++ remT ns
def encB (ns : List Int) : Array UInt8 := byteArr (pack (flagged ns))
theorem flagged_ok (ns : List Int) : okN (flagged ns) = okN (remT ns) := by
  unfold flagged okN
  rw [List.all_append]
  cases isT ns <;> split <;> simp [half]
theorem flagged_even (ns : List Int) : (flagged ns).length % 2 = 0 := by
  unfold flagged
  rw [List.length_append]
  split
  · simp only [List.length_cons, List.length_nil]; omega
  · simp only [List.length_cons, List.length_nil]; omega
theorem remT_len (ns : List Int) : (remT ns).length ≤ ns.length := by
  unfold remT
  split
  · rw [List.length_dropLast]; omega
  · exact Nat.le_refl _
theorem flagged_len (ns : List Int) : (flagged ns).length ≤ ns.length + 2 := by
  have h := remT_len ns
  unfold flagged
  rw [List.length_append]
  split <;> simp only [List.length_cons, List.length_nil] <;> omega
section
variable {prog : Program} {A : Around} {R : Result → Shared → Prop} {s : Shared} {x : Addr} {b : Bool} {n : Nat} {vs : List Value} {ns : List Int} {outer : List Env}
set_option maxHeartbeats 4000000 in
theorem c_enc (W : Fit w p loose mg mb s) (K : Stk A outer s.heap) (hh : A.handled = none) (hd : A.depth + 8 < recursionLimit) (hx : s.heap.get? x = some (seqO b vs n)) (h172 : 172 < x) (hi : IntsAre vs ns) (hn : ns.length < 800)
    (hR : ∀ t s', Go s s' → okN (remT ns) = true → R (.ok (.ret (.bytes (encB ns) t))) s')
    (hE : ∀ e s', Rz outer s e s' → okN (remT ns) = false → R (.error (.ref e)) s') :
    codeAny (model prog w) A (.call (.ref 92) ⟨[.ref x], []⟩) R s := by
  have hlen := hi.length
  have hrl := remT_len ns
  refine enter [(x, seqO b vs n)] (binds := [("nibbles", .ref x)]) W (fun q hq => by rw [List.mem_singleton.mp hq]; exact ⟨hx, h172⟩) (by omega) (by k_is) (by k_is) rfl (locs rfl) ?_
  intro g L h₁ ps an ao I X T F N tb hk₁
  have hb := I.gens
  k_steps
  refine c_ist (fit_in I F N tb hb (by k_mem) (by k_mem)) (by ktr_room) (N_get N (by k_mem : (x, seqO b vs n) ∈ _)) h172 hi (by omega) fun s₁ go₁ => ?_
  have F₁ := fr_back go₁ I F
  obtain ⟨ps₁, tb₁, N₁⟩ := news_back [(an, ao), (x, seqO b vs n)] go₁ I N (by simp; exact ⟨big_ne I.han, big_ne h172⟩)
  have hb₁ := go₁.gens
  have ho₁ : s₁.os = s.os := go₁.os
  clear F N tb hb
  k_steps
  all_goals (
    refine c_remT (fit_in I (by assumption) (by assumption) tb₁ hb₁ (by k_mem) (by k_mem)) (by ktr_room) (N_get (by assumption) (by k_mem : (x, seqO b vs n) ∈ _)) h172 hi (by omega) ?_
    intro t ws nt s₂ go₂ ht hiw ht172 htx
    have F₂ := fr_back go₂ I (by assumption)
    obtain ⟨ps₂, tb₂, N₂⟩ := news_back [(an, ao), (x, seqO b vs n)] go₂ I (by assumption) (by simp; exact ⟨big_ne I.han, big_ne h172⟩)
    have N₃ := news_res (by assumption) (by assumption) N₂ ht (htx.elim (fun e => .inr ⟨_, e ▸ (by k_mem : (x, seqO b vs n) ∈ _)⟩) .inl)
    have hb₂ := go₂.gens
    have hwl := hiw.length
    have ho₂ : s₂.os = s.os := go₂.os.trans ho₁
    clear go₂ N₂
    k_steps)
  all_goals (
    refine cat_tup (by assumption) (by assumption) (.head _) (.tail _ (.head _)) ?_ (by assumption) (by simp only [List.length_cons, List.length_nil]; omega) ?_
    · have h1 : @LT.lt Nat _ 172 an := I.han
      show @LT.lt Nat _ _ _
      omega
    intro D nD hD FD ND hD172
    (try dsimp only)
    k_steps
    rename_i Fz Nz
    have hf := fmod2 (remT ns).length
    refine c_n2b (ns := flagged ns) (b := false) (fit_in I Fz Nz tb₂ hb₂ (by k_mem) (by k_mem)) (stk_in W K I Fz Nz (by simp)) hh (by ktr_room) (N_get Nz (.head _)) hD172 ?_ ?_ ?_ ?_
    · unfold flagged
      first
        | (rw [if_pos (by omega), show isT ns = true from by assumption]; exact .cons _ _ hiw)
        | (rw [if_pos (by omega), show isT ns = false from by assumption]; exact .cons _ _ hiw)
        | (rw [if_neg (by omega), show isT ns = true from by assumption]; exact .cons _ _ (.cons _ _ hiw))
        | (rw [if_neg (by omega), show isT ns = false from by assumption]; exact .cons _ _ (.cons _ _ hiw))
    · have := flagged_len ns
      omega
    · intro t3 s3 go3 ok3 ev3
      have F3 := fr_back go3 I Fz
      obtain ⟨ps₃, tb₃, N₃⟩ := news_back [(an, ao), (x, seqO b vs n)] go3 I Nz (by simp; exact ⟨big_ne I.han, big_ne h172⟩)
      k_steps
      rename_i Fy Ny
      exact hR _ _ (go_end I Fy Ny tb₃ go3.gens (go3.os.trans ho₂) (by k_mem) (by simp)) ((flagged_ok ns).symm.trans ok3)
    · intro e s3 rz ok3
      (try dsimp only)
      refine up_on W K I Fz Nz (by simp) rz.up fun h' up => ?_
      refine hE _ _ ⟨up, rz.gens, rz.os.trans ho₂⟩ ?_
      rw [flagged_even, flagged_ok] at ok3
      simpa using ok3)
end
end Mine

-- D1
namespace Mine
variable {w : World} {p : Program} {loose : List Str} {mg mb : Str → Option Value}
local macro_rules | `(tactic| k_steps) => `(tactic| repeat' (first | (k_unfold; (try dsimp only)) | (walk1 <;> (try dsimp only)) | (dsimp only; walk1) | (leave1; walk_say "STEP leave1"; try dsimp only) | fail "no step"))
local macro_rules | `(tactic| ktr_room) => `(tactic| (simp only [depth_deeper, depth_in1] at *; omega))
theorem fill_5 (P : Params) : PySem.Challenge.rw_iu0033_01.name = PySem.Challenge.rw_iu0033_01.name ∧ hd.heap_39 P = hd.heap_39 P := by
  k_fill
  exact ⟨rfl, rfl⟩
local macro_rules | `(tactic| walk_at "call ref") => `(tactic| ((with_reducible show wpAny _ _ (call (Value.ref _) _) _ _ _); refine wpAny_call ?_))
theorem intsAre_drop {vs : List Value} {ns : List Int} (a : Nat) (h : IntsAre vs ns) : IntsAre (vs.drop a) (ns.drop a) := by
  induction h generalizing a with
  | nil => simp; exact .nil
  | cons n t r ih =>
    cases a with
    | zero => exact .cons _ _ r
    | succ a => simpa using ih a
theorem drop_fresh {s : Shared} {g h : Heap} {L an D : Addr} {ao o : Obj} {news : List (Addr × Obj)} {ps₀ : Array Value} (I : Inn w p loose mg mb s g L an ao ps₀ [])
    (N : News g L h ((D, o) :: news)) (h1 : an < D) (h2 : (61 : Addr) < D) : 172 < D ∧ s.heap.get? D = none := fresh_led I N (.head _) h1 h2 (fun q hq => nomatch hq)
theorem slice_drop {prog : Program} {A : Around} {E : Value → Shared → Prop} {g h₁ : Heap} {L t : Addr} {m : Str → Option Value} {news : List (Addr × Obj)} {ws : List Value} {n : Nat} {gens : Array GenState} {drawn : Drawn} {toks : Nat} {os : OsState} {value slice : PySem.Expr} {u : Tok} {Q : Value → Shared → Prop} (a : Nat)
    (F : Fr g L h₁ m) (N : News g L h₁ news) (hx : (t, tupO ws n) ∈ news) (h1 : 1 ≤ a) (ha : a ≤ ws.length) (hn : ws.length < 1000)
    (h : ∀ D h', Fr g L h' m → News g L h' ((D, tupO (ws.drop a) 0) :: news) → (∀ p ∈ news, p.1 < D) → Q (.ref D) ⟨h', gens, drawn, toks, os⟩)
    (hs : subscripted slice false (.ref t) (.ref h₁.objs.size) = operate [.ref h₁.objs.size, .ref t] (getItem (.ref t) (.ref h₁.objs.size)) := by with_unfolding_all rfl)
    (hg : ∀ r, letTemporaryGo value (.ref t) r = pure () := by intro _; with_unfolding_all rfl) :
    wpAny (model prog w) A (subscriptTail value slice (.ref t) (.ref h₁.objs.size)) Q E ⟨h₁.push { cls := .type "slice", data := .fields #[.int a u, .none, .none] }, gens, drawn, toks, os⟩ :=
  slice_tuple_from (s := ⟨h₁, gens, drawn, toks, os⟩) F N ⟨_, (N _ hx).1, rfl, n, rfl⟩ h1 (by rw [List.size_toArray]; exact ha)
    (fun h' F' N' => h _ h' F' N' fun p hp => Nat.lt_succ_of_lt (Heap.lt_size (N p hp).1)) hs hg (by rw [sizeLine_eq, List.size_toArray]; omega)
def decL (nb : List Int) : List Int :=
  let raw := if nb.getD 0 0 = 1 ∨ nb.getD 0 0 = 3 then nb.drop 1 else nb.drop 2
  if nb.getD 0 0 = 2 ∨ nb.getD 0 0 = 3 then addT raw else raw
theorem decL_11 {nb : List Int} (q0 : (false || decide (nb.getD (Int.toNat 0) 0 = 0 + 1) || decide (nb.getD (Int.toNat 0) 0 = 2 + 1)) = true) (q1 : (false || decide (nb.getD (Int.toNat 0) 0 = 2) || decide (nb.getD (Int.toNat 0) 0 = 2 + 1)) = true) : decL nb = addT (nb.drop 1) := by
  simp only [Bool.false_or, Bool.or_eq_true, Bool.or_eq_false_iff, decide_eq_true_eq, decide_eq_false_iff_not, show Int.toNat 0 = 0 from rfl, show (0 : Int) + 1 = 1 from rfl, show (2 : Int) + 1 = 3 from rfl] at q0 q1
  unfold decL
  dsimp only
  rw [if_pos q1, if_pos q0]
theorem decL_10 {nb : List Int} (q0 : (false || decide (nb.getD (Int.toNat 0) 0 = 0 + 1) || decide (nb.getD (Int.toNat 0) 0 = 2 + 1)) = true) (q1 : (false || decide (nb.getD (Int.toNat 0) 0 = 2) || decide (nb.getD (Int.toNat 0) 0 = 2 + 1)) = false) : decL nb = nb.drop 1 := by
  simp only [Bool.false_or, Bool.or_eq_true, Bool.or_eq_false_iff, decide_eq_true_eq, decide_eq_false_iff_not, show Int.toNat 0 = 0 from rfl, show (0 : Int) + 1 = 1 from rfl, show (2 : Int) + 1 = 3 from rfl] at q0 q1
  unfold decL
  dsimp only
  rw [if_neg (not_or.mpr q1), if_pos q0]
theorem decL_21 {nb : List Int} (q0 : (false || decide (nb.getD (Int.toNat 0) 0 = 0 + 1) || decide (nb.getD (Int.toNat 0) 0 = 2 + 1)) = false) (q1 : (false || decide (nb.getD (Int.toNat 0) 0 = 2) || decide (nb.getD (Int.toNat 0) 0 = 2 + 1)) = true) : decL nb = addT (nb.drop 2) := by
  simp only [Bool.false_or, Bool.or_eq_true, Bool.or_eq_false_iff, decide_eq_true_eq, decide_eq_false_iff_not, show Int.toNat 0 = 0 from rfl, show (0 : Int) + 1 = 1 from rfl, show (2 : Int) + 1 = 3 from rfl] at q0 q1
  unfold decL
  dsimp only
  rw [if_pos q1, if_neg (not_or.mpr q0)]
theorem decL_20 {nb : List Int} (q0 : (false || decide (nb.getD (Int.toNat 0) 0 = 0 + 1) || decide (nb.getD (Int.toNat 0) 0 = 2 + 1)) = false) (q1 : (false || decide (nb.getD (Int.toNat 0) 0 = 2) || decide (nb.getD (Int.toNat 0) 0 = 2 + 1)) = false) : decL nb = nb.drop 2 := by
  simp only [Bool.false_or, Bool.or_eq_true, Bool.or_eq_false_iff, decide_eq_true_eq, decide_eq_false_iff_not, show Int.toNat 0 = 0 from rfl, show (0 : Int) + 1 = 1 from rfl, show (2 : Int) + 1 = 3 from rfl] at q0 q1
  unfold decL
  dsimp only
  rw [if_neg (not_or.mpr q1), if_neg (not_or.mpr q0)]
section
variable {prog : Program} {A : Around} {R : Result → Shared → Prop} {s : Shared} {b : Array UInt8} {tb : Tok}
set_option maxHeartbeats 4000000 in
theorem c_dec (W : Fit w p loose mg mb s) (hh : A.handled = none) (hd : A.depth + 8 < recursionLimit) (hn : b.size < 400) (hpos : 0 < b.size)
    (h : ∀ t ws n' s', Go s s' → s'.heap.get? t = some (tupO ws n') → IntsAre ws (decL (b2n (KBw.bInts b))) → 172 < t → s.heap.get? t = none → R (.ok (.ret (.ref t))) s') :
    codeAny (model prog w) A (.call (.ref 99) ⟨[.bytes b tb], []⟩) R s := by
  refine enter [] (binds := [("value", .bytes b tb)]) W (fun q hq => nomatch hq) (by omega) (by k_is) (by k_is) rfl (locs rfl) ?_
  intro g L h₁ ps an ao I X T F N tb' hk₁
  have hb := I.gens
  k_steps
  refine c_b2n (fit_in I F N tb' hb (by k_mem) (by k_mem)) hh (by ktr_room) (by omega) ?_
  intro t ws nt s₁ go₁ ht hi ht172 htx
  have hlen := hi.length
  have hnb : (b2n (KBw.bInts b)).length = 2 * b.size := by rw [b2n_len, KBw.ints_length]
  have F₁ := fr_back go₁ I F
  obtain ⟨ps₁, tb₁, N₁⟩ := news_back [(an, ao)] go₁ I N (by simp; exact big_ne I.han)
  have N₂ := news_res F N N₁ ht (.inl htx)
  have hb₁ := go₁.gens
  have ho₁ : s₁.os = s.os := go₁.os
  have hfr := htx
  clear F N N₁ tb' hb
  k_steps
  · rename_i q0
    refine slice_drop 1 (by assumption) (by assumption) (by k_mem) (by omega) (by omega) (by omega) ?_
    intro D h3 F3 N3 l3
    have hD := drop_fresh I N3 (l3 _ (by k_mem : (an, ao) ∈ _)) (l3 _ (by k_mem : (61, tabOf ps₁) ∈ _))
    have hi3 := intsAre_drop 1 hi
    (try dsimp only)
    k_steps
    · rename_i q1
      refine c_addT (b := false) (fit_in I (by assumption) (by assumption) tb₁ hb₁ (by k_mem) (by k_mem)) (by ktr_room) (N_get (by assumption) (by k_mem : (D, tupO _ _) ∈ _)) hD.1 hi3 (by rw [List.length_drop]; omega) ?_
      intro t4 ws4 n4 s4 go4 ht4 hi4 h4 hf4
      have F4 := fr_back go4 I (by assumption)
      obtain ⟨ps₄, tb₄, N4⟩ := news_back [(an, ao)] go4 I (by assumption) (by simp; exact big_ne I.han)
      have hf : s.heap.get? t4 = none := by
        rcases hf4 with rfl | hf4
        · exact hD.2
        · exact fresh_in I (by assumption) (by assumption) (by simp) (by k_mem) hf4
      have N5 := news_res (by assumption) (by assumption) N4 ht4 (hf4.elim (fun e => .inr ⟨_, e ▸ (by k_mem : (D, tupO _ _) ∈ _)⟩) .inl)
      have hb4 := go4.gens
      have ho4 : s4.os = s.os := go4.os.trans ho₁
      clear hf4
      clear go4 N4
      k_steps
      rename_i F6 N6
      refine h _ _ _ _ (go_end I F6 N6 tb₄ hb4 ho4 (by k_mem) (by simp)) (N_get N6 (by k_mem : (t4, tupO ws4 n4) ∈ _)) ?_ h4 hf
      rw [decL_11 q0 q1]
      exact hi4
    · rename_i q1 _ F6 N6
      refine h _ _ _ _ (go_end I F6 N6 tb₁ hb₁ ho₁ (by k_mem) (by simp)) (N_get N6 (by k_mem : (D, tupO _ _) ∈ _)) ?_ hD.1 hD.2
      rw [decL_10 q0 q1]
      exact hi3
  · rename_i q0
    refine slice_drop 2 (by assumption) (by assumption) (by k_mem) (by omega) (by omega) (by omega) ?_
    intro D h3 F3 N3 l3
    have hD := drop_fresh I N3 (l3 _ (by k_mem : (an, ao) ∈ _)) (l3 _ (by k_mem : (61, tabOf ps₁) ∈ _))
    have hi3 := intsAre_drop 2 hi
    (try dsimp only)
    k_steps
    · rename_i q1
      refine c_addT (b := false) (fit_in I (by assumption) (by assumption) tb₁ hb₁ (by k_mem) (by k_mem)) (by ktr_room) (N_get (by assumption) (by k_mem : (D, tupO _ _) ∈ _)) hD.1 hi3 (by rw [List.length_drop]; omega) ?_
      intro t4 ws4 n4 s4 go4 ht4 hi4 h4 hf4
      have F4 := fr_back go4 I (by assumption)
      obtain ⟨ps₄, tb₄, N4⟩ := news_back [(an, ao)] go4 I (by assumption) (by simp; exact big_ne I.han)
      have hf : s.heap.get? t4 = none := by
        rcases hf4 with rfl | hf4
        · exact hD.2
        · exact fresh_in I (by assumption) (by assumption) (by simp) (by k_mem) hf4
      have N5 := news_res (by assumption) (by assumption) N4 ht4 (hf4.elim (fun e => .inr ⟨_, e ▸ (by k_mem : (D, tupO _ _) ∈ _)⟩) .inl)
      have hb4 := go4.gens
      have ho4 : s4.os = s.os := go4.os.trans ho₁
      clear hf4
      clear go4 N4
      k_steps
      rename_i F6 N6
      refine h _ _ _ _ (go_end I F6 N6 tb₄ hb4 ho4 (by k_mem) (by simp)) (N_get N6 (by k_mem : (t4, tupO ws4 n4) ∈ _)) ?_ h4 hf
      rw [decL_21 q0 q1]
      exact hi4
    · rename_i q1 _ F6 N6
      refine h _ _ _ _ (go_end I F6 N6 tb₁ hb₁ ho₁ (by k_mem) (by simp)) (N_get N6 (by k_mem : (D, tupO _ _) ∈ _)) ?_ hD.1 hD.2
      rw [decL_20 q0 q1]
      exact hi3
end
end Mine

-- L1
namespace Mine
variable {w : World} {p : Program} {loose : List Str} {mg mb : Str → Option Value}
local macro_rules | `(tactic| k_steps) => `(tactic| repeat' (first | (k_unfold; (try dsimp only)) | (walk1 <;> (try dsimp only)) | (dsimp only; walk1) | (leave1; walk_say "STEP leave1"; try dsimp only) | fail "no step"))
local macro_rules | `(tactic| ktr_room) => `(tactic| (simp only [depth_deeper, depth_in1] at *; omega))
theorem fill_6 (P : Params) : PySem.Challenge.rw_iu0033_01.name = PySem.Challenge.rw_iu0033_01.name ∧ hd.heap_39 P = hd.heap_39 P := by
  k_fill
  exact ⟨rfl, rfl⟩
local macro_rules | `(tactic| walk_at "call ref") => `(tactic| ((with_reducible show wpAny _ _ (call (Value.ref _) _) _ _ _); refine wpAny_call ?_))
theorem addT_len (ns : List Int) : (addT ns).length ≤ ns.length + 1 := by
  unfold addT
  split
  · omega
  · rw [List.length_append]; simp
section
variable {prog : Program} {A : Around} {R : Result → Shared → Prop} {s : Shared} {x : Addr} {b : Bool} {n : Nat} {vs : List Value} {ns : List Int} {outer : List Env}
set_option maxHeartbeats 4000000 in
theorem c_ext (W : Fit w p loose mg mb s) (K : Stk A outer s.heap) (hh : A.handled = none) (hd : A.depth + 10 < recursionLimit) (hx : s.heap.get? x = some (seqO b vs n)) (h172 : 172 < x) (hi : IntsAre vs ns) (hn : ns.length < 700)
    (hok : okN (remT ns) = true) (hR : ∀ t s', Go s s' → R (.ok (.ret (.bytes (encB ns) t))) s') :
    codeAny (model prog w) A (.call (.ref 134) ⟨[.ref x], []⟩) R s := by
  refine enter [(x, seqO b vs n)] (binds := [("nibbles", .ref x)]) W (fun q hq => by rw [List.mem_singleton.mp hq]; exact ⟨hx, h172⟩) (by omega) (by k_is) (by k_is) rfl (locs rfl) ?_
  intro g L h₁ ps an ao I X T F N tb hk₁
  have hb := I.gens
  k_steps
  refine c_enc (fit_in I F N tb hb (by k_mem) (by k_mem)) (stk_in W K I F N (by simp)) hh (by ktr_room) (N_get N (by k_mem : (x, seqO b vs n) ∈ _)) h172 hi (by omega) (fun t s₁ go₁ _ => ?_) (fun e s₁ _ h => ?_)
  · have F₁ := fr_back go₁ I F
    obtain ⟨ps₁, tb₁, N₁⟩ := news_back [(an, ao), (x, seqO b vs n)] go₁ I N (by simp; exact ⟨big_ne I.han, big_ne h172⟩)
    k_steps
    exact hR _ _ (go_end I F₁ N₁ tb₁ go₁.gens go₁.os (by k_mem) (by simp))
  · rw [hok] at h; cases h
set_option maxHeartbeats 4000000 in
theorem c_leaf (W : Fit w p loose mg mb s) (K : Stk A outer s.heap) (hh : A.handled = none) (hd : A.depth + 10 < recursionLimit) (hx : s.heap.get? x = some (seqO b vs n)) (h172 : 172 < x) (hi : IntsAre vs ns) (hn : ns.length < 700)
    (hok : okN (remT (addT ns)) = true) (hR : ∀ t s', Go s s' → R (.ok (.ret (.bytes (encB (addT ns)) t))) s') :
    codeAny (model prog w) A (.call (.ref 127) ⟨[.ref x], []⟩) R s := by
  refine enter [(x, seqO b vs n)] (binds := [("nibbles", .ref x)]) W (fun q hq => by rw [List.mem_singleton.mp hq]; exact ⟨hx, h172⟩) (by omega) (by k_is) (by k_is) rfl (locs rfl) ?_
  intro g L h₁ ps an ao I X T F N tb hk₁
  have hb := I.gens
  have hal := addT_len ns
  k_steps
  refine c_addT (fit_in I F N tb hb (by k_mem) (by k_mem)) (by ktr_room) (N_get N (by k_mem : (x, seqO b vs n) ∈ _)) h172 hi (by omega) ?_
  intro t ws nt s₁ go₁ ht hiw ht172 htx
  have F₁ := fr_back go₁ I F
  obtain ⟨ps₁, tb₁, N₁⟩ := news_back [(an, ao), (x, seqO b vs n)] go₁ I N (by simp; exact ⟨big_ne I.han, big_ne h172⟩)
  have N₂ := news_res F N N₁ ht (htx.elim (fun e => .inr ⟨_, e ▸ (by k_mem : (x, seqO b vs n) ∈ _)⟩) .inl)
  have hb₁ := go₁.gens
  have ho₁ : s₁.os = s.os := go₁.os
  clear N₁ htx go₁ F N hb tb
  k_steps
  refine c_enc (b := false) (fit_in I F₁ N₂ tb₁ hb₁ (by k_mem) (by k_mem)) (stk_in W K I F₁ N₂ (by simp)) hh (by ktr_room) (N_get N₂ (by k_mem : (t, tupO ws nt) ∈ _)) ht172 hiw (by omega) (fun t2 s₂ go₂ _ => ?_) (fun e s₁ _ h => ?_)
  · have F₂ := fr_back go₂ I F₁
    obtain ⟨ps₂, tb₂, N₃⟩ := news_back [(an, ao), (x, seqO b vs n)] go₂ I N₂ (by simp; exact ⟨big_ne I.han, big_ne h172⟩)
    k_steps
    exact hR _ _ (go_end I F₂ N₃ tb₂ go₂.gens (go₂.os.trans ho₁) (by k_mem) (by simp))
  · rw [hok] at h; cases h
end
end Mine

-- L2
namespace Mine
variable {w : World} {p : Program} {loose : List Str} {mg mb : Str → Option Value}
local macro_rules | `(tactic| k_steps) => `(tactic| repeat' (first | (k_unfold; (try dsimp only)) | (walk1 <;> (try dsimp only)) | (dsimp only; walk1) | (leave1; walk_say "STEP leave1"; try dsimp only) | fail "no step"))
local macro_rules | `(tactic| ktr_room) => `(tactic| (simp only [depth_deeper, depth_in1] at *; omega))
theorem fill_7 (P : Params) : PySem.Challenge.rw_iu0033_01.name = PySem.Challenge.rw_iu0033_01.name ∧ hd.heap_39 P = hd.heap_39 P := by
  k_fill
  exact ⟨rfl, rfl⟩
local macro_rules | `(tactic| walk_at "call ref") => `(tactic| ((with_reducible show wpAny _ _ (call (Value.ref _) _) _ _ _); refine wpAny_call ?_))
abbrev nodeO (B : Array UInt8) (t : Tok) (v : Value) (n : Nat) : Obj := { cls := .type "list", data := .seq [Value.bytes B t, v].toArray n }
theorem decL_len (nb : List Int) : (decL nb).length ≤ nb.length + 1 := by
  unfold decL
  dsimp only
  have h := addT_len (if nb.getD 0 0 = 1 ∨ nb.getD 0 0 = 3 then nb.drop 1 else nb.drop 2)
  have h2 : (if nb.getD 0 0 = 1 ∨ nb.getD 0 0 = 3 then nb.drop 1 else nb.drop 2).length ≤ nb.length := by
    split <;> rw [List.length_drop] <;> omega
  split <;> omega
section
variable {prog : Program} {A : Around} {R : Result → Shared → Prop} {s : Shared} {x : Addr} {n : Nat} {B : Array UInt8} {u : Tok} {v : Value}
set_option maxHeartbeats 4000000 in
theorem c_isleaf (W : Fit w p loose mg mb s) (hh : A.handled = none) (hd : A.depth + 10 < recursionLimit) (hx : s.heap.get? x = some (nodeO B u v n)) (h172 : 172 < x) (hB : B.size < 400) (hpos : 0 < B.size)
    (hR : ∀ s', Go s s' → R (.ok (.ret (.bool (isT (decL (b2n (KBw.bInts B))))))) s') :
    codeAny (model prog w) A (.call (.ref 106) ⟨[.ref x], []⟩) R s := by
  refine enter [(x, nodeO B u v n)] (binds := [("node", .ref x)]) W (fun q hq => by rw [List.mem_singleton.mp hq]; exact ⟨hx, h172⟩) (by omega) (by k_is) (by k_is) rfl (locs rfl) ?_
  intro g L h₁ ps an ao I X T F N tb hk₁
  have hb := I.gens
  k_steps
  refine kun_list F N ⟨_, (N _ (by k_mem : (x, nodeO B u v n) ∈ _)).1, rfl, n, rfl⟩ hh rfl rfl ?_
  intro h' F' N'
  (try dsimp only)
  k_steps
  refine c_dec (fit_in I (by assumption) (by assumption) tb hb (by k_mem) (by k_mem)) hh (by ktr_room) hB hpos ?_
  intro t ws nt s₁ go₁ ht hi ht172 htx
  have hl1 := decL_len (b2n (KBw.bInts B))
  have hl2 : (b2n (KBw.bInts B)).length = 2 * B.size := by rw [b2n_len, KBw.ints_length]
  have F₁ := fr_back go₁ I (by assumption)
  obtain ⟨ps₁, tb₁, N₁⟩ := news_back [(an, ao), (x, nodeO B u v n)] go₁ I (by assumption) (by simp; exact ⟨big_ne I.han, big_ne h172⟩)
  have N₂ := news_res (by assumption) (by assumption) N₁ ht (.inl htx)
  have hb₁ := go₁.gens
  have ho₁ : s₁.os = s.os := go₁.os
  have hf : s.heap.get? t = none := fresh_in I (by assumption) (by assumption) (by simp) (by k_mem) htx
  clear N₁ htx go₁ tb
  k_steps
  refine c_ist (b := false) (fit_in I (by assumption) (by assumption) tb₁ hb₁ (by k_mem) (by k_mem)) (by ktr_room) (N_get (by assumption) (by k_mem : (t, tupO ws nt) ∈ _)) ht172 hi (by omega) ?_
  intro s₂ go₂
  have F₂ := fr_back go₂ I (by assumption)
  obtain ⟨ps₂, tb₂, N₃⟩ := news_back [(an, ao), (x, nodeO B u v n)] go₂ I (by assumption) (by simp; exact ⟨big_ne I.han, big_ne h172⟩)
  k_steps
  exact hR _ (go_end I F₂ N₃ tb₂ go₂.gens (go₂.os.trans ho₁) (by k_mem) (by simp))
set_option maxHeartbeats 4000000 in
theorem c_isext (W : Fit w p loose mg mb s) (hh : A.handled = none) (hd : A.depth + 10 < recursionLimit) (hx : s.heap.get? x = some (nodeO B u v n)) (h172 : 172 < x) (hB : B.size < 400) (hpos : 0 < B.size)
    (hR : ∀ s', Go s s' → R (.ok (.ret (.bool (!isT (decL (b2n (KBw.bInts B))))))) s') :
    codeAny (model prog w) A (.call (.ref 113) ⟨[.ref x], []⟩) R s := by
  refine enter [(x, nodeO B u v n)] (binds := [("node", .ref x)]) W (fun q hq => by rw [List.mem_singleton.mp hq]; exact ⟨hx, h172⟩) (by omega) (by k_is) (by k_is) rfl (locs rfl) ?_
  intro g L h₁ ps an ao I X T F N tb hk₁
  have hb := I.gens
  k_steps
  refine kun_list F N ⟨_, (N _ (by k_mem : (x, nodeO B u v n) ∈ _)).1, rfl, n, rfl⟩ hh rfl rfl ?_
  intro h' F' N'
  (try dsimp only)
  k_steps
  refine c_dec (fit_in I (by assumption) (by assumption) tb hb (by k_mem) (by k_mem)) hh (by ktr_room) hB hpos ?_
  intro t ws nt s₁ go₁ ht hi ht172 htx
  have hl1 := decL_len (b2n (KBw.bInts B))
  have hl2 : (b2n (KBw.bInts B)).length = 2 * B.size := by rw [b2n_len, KBw.ints_length]
  have F₁ := fr_back go₁ I (by assumption)
  obtain ⟨ps₁, tb₁, N₁⟩ := news_back [(an, ao), (x, nodeO B u v n)] go₁ I (by assumption) (by simp; exact ⟨big_ne I.han, big_ne h172⟩)
  have N₂ := news_res (by assumption) (by assumption) N₁ ht (.inl htx)
  have hb₁ := go₁.gens
  have ho₁ : s₁.os = s.os := go₁.os
  have hf : s.heap.get? t = none := fresh_in I (by assumption) (by assumption) (by simp) (by k_mem) htx
  clear N₁ htx go₁ tb
  k_steps
  refine c_ist (b := false) (fit_in I (by assumption) (by assumption) tb₁ hb₁ (by k_mem) (by k_mem)) (by ktr_room) (N_get (by assumption) (by k_mem : (t, tupO ws nt) ∈ _)) ht172 hi (by omega) ?_
  intro s₂ go₂
  have F₂ := fr_back go₂ I (by assumption)
  obtain ⟨ps₂, tb₂, N₃⟩ := news_back [(an, ao), (x, nodeO B u v n)] go₂ I (by assumption) (by simp; exact ⟨big_ne I.han, big_ne h172⟩)
  k_steps
  exact hR _ (go_end I F₂ N₃ tb₂ go₂.gens (go₂.os.trans ho₁) (by k_mem) (by simp))
set_option maxHeartbeats 4000000 in
theorem c_key (W : Fit w p loose mg mb s) (hh : A.handled = none) (hd : A.depth + 10 < recursionLimit) (hx : s.heap.get? x = some (nodeO B u v n)) (h172 : 172 < x) (hB : B.size < 400) (hpos : 0 < B.size)
    (hR : ∀ t ws n' s', Go s s' → s'.heap.get? t = some (tupO ws n') → IntsAre ws (remT (decL (b2n (KBw.bInts B)))) → 172 < t → s.heap.get? t = none → R (.ok (.ret (.ref t))) s') :
    codeAny (model prog w) A (.call (.ref 120) ⟨[.ref x], []⟩) R s := by
  refine enter [(x, nodeO B u v n)] (binds := [("node", .ref x)]) W (fun q hq => by rw [List.mem_singleton.mp hq]; exact ⟨hx, h172⟩) (by omega) (by k_is) (by k_is) rfl (locs rfl) ?_
  intro g L h₁ ps an ao I X T F N tb hk₁
  have hb := I.gens
  k_steps
  refine kun_list F N ⟨_, (N _ (by k_mem : (x, nodeO B u v n) ∈ _)).1, rfl, n, rfl⟩ hh rfl rfl ?_
  intro h' F' N'
  (try dsimp only)
  k_steps
  refine c_dec (fit_in I (by assumption) (by assumption) tb hb (by k_mem) (by k_mem)) hh (by ktr_room) hB hpos ?_
  intro t ws nt s₁ go₁ ht hi ht172 htx
  have hl1 := decL_len (b2n (KBw.bInts B))
  have hl2 : (b2n (KBw.bInts B)).length = 2 * B.size := by rw [b2n_len, KBw.ints_length]
  have F₁ := fr_back go₁ I (by assumption)
  obtain ⟨ps₁, tb₁, N₁⟩ := news_back [(an, ao), (x, nodeO B u v n)] go₁ I (by assumption) (by simp; exact ⟨big_ne I.han, big_ne h172⟩)
  have N₂ := news_res (by assumption) (by assumption) N₁ ht (.inl htx)
  have hb₁ := go₁.gens
  have ho₁ : s₁.os = s.os := go₁.os
  have hf : s.heap.get? t = none := fresh_in I (by assumption) (by assumption) (by simp) (by k_mem) htx
  clear N₁ htx go₁ tb
  k_steps
  refine c_remT (b := false) (fit_in I (by assumption) (by assumption) tb₁ hb₁ (by k_mem) (by k_mem)) (by ktr_room) (N_get (by assumption) (by k_mem : (t, tupO ws nt) ∈ _)) ht172 hi (by omega) ?_
  intro t4 ws4 n4 s₂ go₂ ht4 hi4 h4 hf4
  have F₂ := fr_back go₂ I (by assumption)
  obtain ⟨ps₂, tb₂, N₃⟩ := news_back [(an, ao), (x, nodeO B u v n)] go₂ I (by assumption) (by simp; exact ⟨big_ne I.han, big_ne h172⟩)
  have hf5 : s.heap.get? t4 = none := by
    rcases hf4 with rfl | hf4
    · exact hf
    · exact fresh_in I (by assumption) (by assumption) (by simp) (by k_mem) hf4
  have N5 := news_res (by assumption) (by assumption) N₃ ht4 (hf4.elim (fun e => .inr ⟨_, e ▸ (by k_mem : (t, tupO ws nt) ∈ _)⟩) .inl)
  have hb4 := go₂.gens
  have ho4 : s₂.os = s.os := go₂.os.trans ho₁
  clear hf4
  clear go₂ N₃
  k_steps
  rename_i F6 N6
  exact hR _ _ _ _ (go_end I F6 N6 tb₂ hb4 ho4 (by k_mem) (by simp)) (N_get N6 (by k_mem : (t4, tupO ws4 n4) ∈ _)) hi4 h4 hf5
end
end Mine

-- V1
namespace Mine
variable {w : World} {p : Program} {loose : List Str} {mg mb : Str → Option Value}
local macro_rules | `(tactic| k_steps) => `(tactic| repeat' (first | (k_unfold; (try dsimp only)) | (walk1 <;> (try dsimp only)) | (dsimp only; walk1) | (leave1; walk_say "STEP leave1"; try dsimp only) | fail "no step"))
local macro_rules | `(tactic| ktr_room) => `(tactic| (simp only [depth_deeper, depth_in1] at *; omega))
theorem fill_8 (P : Params) : PySem.Challenge.rw_iu0033_01.name = PySem.Challenge.rw_iu0033_01.name ∧ hd.heap_39 P = hd.heap_39 P := by
  k_fill
  exact ⟨rfl, rfl⟩
local macro_rules | `(tactic| walk_at "call ref") => `(tactic| ((with_reducible show wpAny _ _ (call (Value.ref _) _) _ _ _); refine wpAny_call ?_))
/-- a call that may have caught an exception: the frame below (Lo) may have got other slots -/
structure GoU (Lo : Addr) (s s' : Shared) : Prop where
  keep : ∀ b o, b ≠ 61 → b ≠ Lo → s.heap.get? b = some o → s'.heap.get? b = some o
  slots : ∀ o, s.heap.get? Lo = some o → ∃ sl, s'.heap.get? Lo = some { o with slots := sl }
  tab : Tab s'.heap
  gens : AllBare s'.gens
  os : s'.os = s.os
theorem Go.u {s s' : Shared} {Lo : Addr} (x : Go s s') (h : 172 < Lo) : GoU Lo s s' :=
  ⟨fun b o hb _ e => x.keep b o hb e, fun o e => ⟨o.slots, x.keep _ _ (big_ne h) e⟩, x.tab, x.gens, x.os⟩
section
variable {prog : Program} {A : Around} {E : Value → Shared → Prop} {s s₁ s' : Shared} {g : Heap} {L an a e : Addr} {ao : Obj} {m : Str → Option Value} {as news : List (Addr × Obj)} {ps₀ : Array Value} {envo : Env} {Lo : Addr} {name : Str} {scope : Scope} {cd : Value}
  {x : Str} {b₀ : Stmt} {suite : List Stmt} {pos np : Pos} {rest : List ExceptHandler} {Q : Flow → Shared → Prop} {bmB : List Value} {newId : String}
theorem up_caught (W : Fit w p loose mg mb s) (K : Stk A [envo] s.heap) (hfo : envo.frame = some Lo) (hLo172 : 172 < Lo) (hLoas : Lo ∈ as.map (·.1)) (I : Inn w p loose mg mb s g L an ao ps₀ as) (F : Fr g L s₁.heap m) (N : News g L s₁.heap news) (hn : ∀ q ∈ (an, ao) :: as, q ∈ news)
    (X : (hd.heap_39 w.params).In g) (T : TopRead p loose mg mb g)
    (U : Up (envOf name scope L a cd :: [envo]) s₁.heap e s'.heap) (hgens : AllBare s'.gens) (hos : s'.os = s.os)
    (ex : nsIn (hd.heap_39 w.params) mainGlobals x = some (some (.ref 24))) (q : excIn (hd.heap_39 w.params) 24 bmB newId = true) (hbase : bmB.contains (.type "BaseException") = true)
    (k : ∀ h', GoU Lo s { s' with heap := h' } → wpAny (model prog w) ((A.deeper (envOf name scope L a cd)).mark (some (.ref e))) (execs (b₀ :: suite) (envOf name scope L a cd)) Q E { s' with heap := h' })
    (hk : scope.kind = .function := by rfl) (hx : (envOf name scope L a cd).kindOf x = some .globalImplicit := by rfl) (hdb : (x == ("__debug__" : Str)) = false := by decide)
    (hE : PassesOwnAt (model prog w) ((A.deeper (envOf name scope L a cd)).mark (some (.ref e))) (A.deeper (envOf name scope L a cd)) (envOf name scope L a cd) E := by passes_own) :
    wpAny (model prog w) (A.deeper (envOf name scope L a cd)) (noteFrame (.ref e) (envOf name scope L a cd))
      (fun _ s₂ => wpAny (model prog w) (A.deeper (envOf name scope L a cd)) (setFlight (.ref e) none) (fun _ s₃ =>
        wpAny (model prog w) (A.deeper (envOf name scope L a cd)) (handleBy (.ref e) (envOf name scope L a cd) (.ExceptHandler (some (.Name x np)) none (b₀ :: suite) pos :: rest)) Q E s₃) E s₂) E s' := by
  obtain ⟨B, t, kp, tb, fl, up⟩ := U
  have hfr : ∀ b, b ≠ L → b ≠ Lo → b ∉ (envOf name scope L a cd :: [envo]).filterMap (·.frame) := fun b h1 h2 hm => by
    rw [List.filterMap_cons, List.filterMap_cons, hfo] at hm
    rcases List.mem_cons.mp hm with z | hm
    · exact h1 z
    · rcases List.mem_cons.mp hm with z | hm
      · exact h2 z
      · cases hm
  have hB : ∀ b o, g.get? b = some o → B.get? b = some o := fun b o q => by
    refine kp b o (fun z => by rw [z, I.h61] at q; cases q) (hfr b (fun z => ?_) (fun z => ?_)) (F.keep b o q)
    · rw [z] at q; exact absurd (Nat.lt_of_lt_of_le (Heap.lt_size q) F.above) (Nat.lt_irrefl _)
    · have := I.hole.none (b := Lo) (List.mem_cons_of_mem _ (List.mem_cons_of_mem _ hLoas))
      rw [z, this] at q; cases q
  refine wpAny_looks_onW (Around.frames_deeper K.stack) rfl fl fun h₄ hheld₄ hsm₄ => ?_
  refine wpAny_landsW hheld₄ fun h₅ hheld hsm₅' => ?_
  have hsm₅ := hsm₄.trans hsm₅'
  have F₅ : Fr g L h₅ m := F.of_stays (fun b o q => hheld.1 b o (hB b o q)) (up.trans hsm₅)
  obtain ⟨ob, hob, hobc⟩ := hheld.there
  refine wpAny_handleBy_cons (codeAny_handlers_test (name_K F₅ X T ex ?_ hk hx hdb)) (by intro q; cases q)
  obtain ⟨bm, N', nm, qn, bs, hdct, sn, sub, ab, col, dd, k0, k1, k2, k3, k5, mN, hC, hN, hni, TL⟩ := ((own_of_in X T ex q).keeps F₅.keep).obj
  refine wpAny_excMatches_sub_self hC hob hobc (TL.hasType hbase) (codeAny_handlers_suite ?_)
  refine lands_againW hheld fun h₆ hfl₆ hsm₆ => ?_
  have upAll : s.heap.UpToSlots h₆ := ((led_keeps W I F N hn).trans up).trans (hsm₅.trans hsm₆)
  refine wpAny_passesOwnAt hE (k h₆ ⟨fun b o hb hbo q => ?_, fun o q => ?_, ?_, hgens, hos⟩)
  · exact hfl₆.1 b o (kp b o hb (hfr b (fun z => by rw [z, I.hLs] at q; cases q) hbo) (kept_in I F N hn b o hb q))
  · refine upAll Lo o q ?_
    obtain ⟨_, o', ho', hd'⟩ := K.frames.mem (b := Lo) (by rw [List.filterMap_cons, hfo]; exact .head _)
    rw [q] at ho'
    cases ho'
    exact hd'
  · obtain ⟨ps, e1, e2⟩ := tb
    exact ⟨ps, hfl₆.1 _ _ e1, e2⟩
end
section
variable {prog : Program} {A : Around} {R : Result → Shared → Prop} {s : Shared} {x : Addr} {b : Bool} {n : Nat} {vs : List Value} {ns : List Int} {envo : Env} {Lo : Addr} {oLo : Obj}
set_option maxHeartbeats 4000000 in
theorem c_encoded (W : Fit w p loose mg mb s) (K : Stk A [envo] s.heap) (hfo : envo.frame = some Lo) (hLo : s.heap.get? Lo = some oLo) (hLo172 : 172 < Lo) (hh : A.handled = none) (hd : A.depth + 10 < recursionLimit) (hx : s.heap.get? x = some (seqO b vs n)) (h172 : 172 < x) (hi : IntsAre vs ns) (hn : ns.length < 700)
    (hR : ∀ t s', GoU Lo s s' → okN (remT ns) = true → R (.ok (.ret (.bytes (encB ns) t))) s')
    (hN : ∀ s', GoU Lo s s' → okN (remT ns) = false → R (.ok (.ret .none)) s') :
    codeAny (model prog w) A (.call (.ref 160) ⟨[.ref x], []⟩) R s := by
  refine enter [(x, seqO b vs n), (Lo, oLo)] (binds := [("row", .ref x)]) W (fun q hq => by
    rcases List.mem_cons.mp hq with rfl | hq
    · exact ⟨hx, h172⟩
    · rw [List.mem_singleton.mp hq]; exact ⟨hLo, hLo172⟩) (by omega) (by k_is) (by k_is) rfl (locs rfl) ?_
  intro g L h₁ ps an ao I X T F N tb hk₁
  have hb := I.gens
  k_steps
  refine c_enc (fit_in I F N tb hb (by k_mem) (by k_mem)) (stk_in W K I F N (by simp)) hh (by ktr_room) (N_get N (by k_mem : (x, seqO b vs n) ∈ _)) h172 hi (by omega) (fun t s₁ go₁ ok₁ => ?_) (fun e s₁ rz ok₁ => ?_)
  · exact hR _ _ ((go_end I (fr_back go₁ I F) (news_back [(an, ao), (x, seqO b vs n), (Lo, oLo)] go₁ I N (by simp; exact ⟨big_ne I.han, big_ne h172, big_ne hLo172⟩)).choose_spec.2 (news_back [(an, ao), (x, seqO b vs n), (Lo, oLo)] go₁ I N (by simp; exact ⟨big_ne I.han, big_ne h172, big_ne hLo172⟩)).choose_spec.1 go₁.gens go₁.os (.head _) (by simp)).u hLo172) ok₁
  · (try dsimp only)
    refine up_caught W K hfo hLo172 (by simp) I F N (by simp) X T rz.up rz.gens rz.os (bmB := [.type "Exception", .type "BaseException", .type "object"]) (newId := "Exception.__new__") (by k_is) (by k_exc) rfl ?_
    intro h' gu
    k_steps
    exact hN _ gu ok₁
set_option maxHeartbeats 4000000 in
theorem c_octets (W : Fit w p loose mg mb s) (K : Stk A [envo] s.heap) (hfo : envo.frame = some Lo) (hLo : s.heap.get? Lo = some oLo) (hLo172 : 172 < Lo) (hh : A.handled = none) (hd : A.depth + 10 < recursionLimit) (hx : s.heap.get? x = some (seqO b vs n)) (h172 : 172 < x) (hi : IntsAre vs ns) (hn : ns.length < 700)
    (hR : ∀ t s', GoU Lo s s' → okN ns = true → ns.length % 2 = 0 → R (.ok (.ret (.bytes (byteArr (pack ns)) t))) s')
    (hN : ∀ s', GoU Lo s s' → (okN ns && ns.length % 2 == 0) = false → R (.ok (.ret .none)) s') :
    codeAny (model prog w) A (.call (.ref 167) ⟨[.ref x], []⟩) R s := by
  refine enter [(x, seqO b vs n), (Lo, oLo)] (binds := [("row", .ref x)]) W (fun q hq => by
    rcases List.mem_cons.mp hq with rfl | hq
    · exact ⟨hx, h172⟩
    · rw [List.mem_singleton.mp hq]; exact ⟨hLo, hLo172⟩) (by omega) (by k_is) (by k_is) rfl (locs rfl) ?_
  intro g L h₁ ps an ao I X T F N tb hk₁
  have hb := I.gens
  k_steps
  refine c_n2b (fit_in I F N tb hb (by k_mem) (by k_mem)) (stk_in W K I F N (by simp)) hh (by ktr_room) (N_get N (by k_mem : (x, seqO b vs n) ∈ _)) h172 hi (by omega) (fun t s₁ go₁ ok₁ ev₁ => ?_) (fun e s₁ rz ok₁ => ?_)
  · exact hR _ _ ((go_end I (fr_back go₁ I F) (news_back [(an, ao), (x, seqO b vs n), (Lo, oLo)] go₁ I N (by simp; exact ⟨big_ne I.han, big_ne h172, big_ne hLo172⟩)).choose_spec.2 (news_back [(an, ao), (x, seqO b vs n), (Lo, oLo)] go₁ I N (by simp; exact ⟨big_ne I.han, big_ne h172, big_ne hLo172⟩)).choose_spec.1 go₁.gens go₁.os (.head _) (by simp)).u hLo172) ok₁ ev₁
  · (try dsimp only)
    refine up_caught W K hfo hLo172 (by simp) I F N (by simp) X T rz.up rz.gens rz.os (bmB := [.type "Exception", .type "BaseException", .type "object"]) (newId := "Exception.__new__") (by k_is) (by k_exc) rfl ?_
    intro h' gu
    k_steps
    exact hN _ gu ok₁
end
end Mine

-- H1
namespace Mine
variable {w : World} {p : Program} {loose : List Str} {mg mb : Str → Option Value}
local macro_rules | `(tactic| k_steps) => `(tactic| repeat' (first | (k_unfold; (try dsimp only)) | (walk1 <;> (try dsimp only)) | (dsimp only; walk1) | (leave1; walk_say "STEP leave1"; try dsimp only) | fail "no step"))
local macro_rules | `(tactic| ktr_room) => `(tactic| (simp only [depth_deeper, depth_in1] at *; omega))
theorem fill_9 (P : Params) : PySem.Challenge.rw_iu0033_01.name = PySem.Challenge.rw_iu0033_01.name ∧ hd.heap_39 P = hd.heap_39 P := by
  k_fill
  exact ⟨rfl, rfl⟩
theorem fr_map {g h : Heap} {L : Addr} {m m' : Str → Option Value} (F : Fr g L h m) (e : ∀ y, m y = m' y) : Fr g L h m' := by
  have : m = m' := funext e
  rw [← this]
  exact F
theorem append_list {prog : Program} {A : Around} {E : Value → Shared → Prop} {s : Shared} {g : Heap} {L D : Addr} {m : Str → Option Value} {us : List Value} {n : Nat} {x : Value} {rest : List (Addr × Obj)} {Q : Value → Shared → Prop}
    (F : Fr g L s.heap m) (N : News g L s.heap ((D, PySem.W.listOf us.toArray n) :: rest)) (hap : ∀ p ∈ rest, p.1 ≠ D) (hn : us.length ≤ 16000)
    (h : ∀ h', Fr g L h' m → News g L h' ((D, PySem.W.listOf (us ++ [x]).toArray (n + 1)) :: rest) → Q .none { s with heap := h' }) :
    wpAny (model prog w) A (call (.builtin "list.append") [.ref D, x]) Q E s :=
  append_head F N hap (fun h' F' N' => h h' F' (by rw [List.push_toArray] at N'; exact N')) (by rw [sizeLine_eq, List.size_toArray]; omega)
theorem b2n_take {ks : List Int} {i : Nat} {k : Int} (h : ks[i]? = some k) : b2n (ks.take (i + 1)) = b2n (ks.take i) ++ [k / 16, k % 16] := by
  rw [List.take_succ, h]
  simp [b2n]
section
variable {prog : Program} {A : Around} {R : Result → Shared → Prop} {s : Shared} {b : Array UInt8} {u : Tok}
set_option maxHeartbeats 4000000 in
theorem c_halves (W : Fit w p loose mg mb s) (hh : A.handled = none) (hd : A.depth + 5 < recursionLimit) (hn : b.size < 400)
    (h : ∀ t ws n' s', Go s s' → s'.heap.get? t = some (tupO ws n') → IntsAre ws (b2n (KBw.bInts b)) → 172 < t → s.heap.get? t = none → R (.ok (.ret (.ref t))) s') :
    codeAny (model prog w) A (.call (.ref 148) ⟨[.bytes b u], []⟩) R s := by
  refine enter [] (binds := [("octets", .bytes b u)]) W (fun q hq => nomatch hq) (by omega) (by k_is) (by k_is) rfl (locs rfl) ?_
  intro g L h₁ ps an ao I X T F N tb hk₁
  have hb := I.gens
  k_steps
  rename_i D _ l1 hD FD ND
  have hbl : (KBw.bInts b).length = b.size := KBw.ints_length b
  refine KBmo.iter_bytesN (fun i m nx => (∃ us n, nx = [(D, PySem.W.listOf us.toArray n), (an, ao), (61, tabOf ps)] ∧ IntsAre us (b2n ((KBw.bInts b).take i))) ∧ ∀ z, z ≠ Str.ofString "octet" → m z = (fun y => if y = Str.ofString "halves" then some (.ref D) else List.lookup y [(Str.ofString "octets", Value.bytes b u)].reverse) z) rfl hh FD ND ⟨⟨[], 0, rfl, .nil⟩, fun _ _ => rfl⟩ ?_ ?_
  · rintro i k t m₁ nx h₂ tk₂ own hk h0 h1 hoff ⟨⟨us, nn, rfl, hus⟩, hm⟩ F₂ N₂
    have F₂ := fr_map F₂ (fun y => by by_cases q : y = Str.ofString "octet" <;> simp only [q, if_true, if_false]; exact hm y q : ∀ y, _ = (fun y => if y = Str.ofString "octet" then some (Value.int k t) else if y = Str.ofString "halves" then some (.ref D) else List.lookup y [(Str.ofString "octets", Value.bytes b u)].reverse) y)
    have hlt : i < (KBw.bInts b).length := (List.getElem?_eq_some_iff.mp hk).1
    have hul : us.length = 2 * i := by rw [hus.length, b2n_len, List.length_take]; omega
    have hap : ∀ q ∈ [(an, ao), (61, tabOf ps)] ++ own, q.1 ≠ D := fun q hq => by
      rcases List.mem_append.mp hq with hq | hq
      · rcases List.mem_cons.mp hq with rfl | hq
        · exact Nat.ne_of_lt l1.1
        · rw [List.mem_singleton.mp hq]; exact Nat.ne_of_lt l1.2
      · exact hoff q hq D (.head _)
    k_steps
    rename_i _ tk0 h₄ F₄ N₄
    have e : ∀ v1 v2 : Value, (us.toArray.push v1).push v2 = (us ++ [v1, v2]).toArray := fun v1 v2 => by simp
    rw [e] at N₄
    refine ⟨h₄, tk, _, _, [(D, PySem.W.listOf (us ++ [Value.int (k.fdiv 16) (tk₂ + 1), Value.int (k.fmod 16) (tk0 + 1)]).toArray (nn + 1 + 1)), (an, ao), (61, tabOf ps)], rfl, F₄, N₄, ?_, ?_, rfl, ⟨⟨_, _, rfl, ?_⟩, fun z hz => if_neg hz⟩⟩
    · exact fun q hq => List.mem_append_left own hq
    · exact fun q hq => .tail _ (List.mem_append_right [(an, ao), (61, tabOf ps)] hq)
    · rw [b2n_take hk, Int.fdiv_eq_ediv_of_nonneg _ (by decide), Int.fmod_eq_emod_of_nonneg _ (by decide)]
      exact hus.append (.cons _ _ (.cons _ _ .nil))
  · rintro m₁ nx h₂ tk₂ ⟨⟨us, nn, rfl, hus⟩, hm⟩ F₂ N₂
    have F₂ := fr_map F₂ (fun y => by by_cases q : y = Str.ofString "octet" <;> simp only [q, if_true, if_false]; exact hm y q : ∀ y, _ = (fun y => if y = Str.ofString "octet" then m₁ (Str.ofString "octet") else if y = Str.ofString "halves" then some (.ref D) else List.lookup y [(Str.ofString "octets", Value.bytes b u)].reverse) y)
    rw [List.take_length] at hus
    have hul : us.length = 2 * b.size := by rw [hus.length, b2n_len, hbl]
    have N₂ : News g L h₂ [(D, seqO true us nn), (an, ao), (61, tabOf ps)] := N₂
    iterate 8 (walk1 <;> (try dsimp only))
    refine tuple_of I F₂ N₂ (by k_mem) (Nat.lt_trans I.han l1.1) (by omega) (by k_mem) (by simp) ?_
    intro t h3 n' F3 N3 ht hf
    (try dsimp only)
    k_steps
    refine h t us n' _ (go_end I F3 N3 tb hb rfl (by k_mem) (by simp)) (N_get N3 (.head _)) hus ht ?_
    rcases hf with rfl | hf
    · exact (fresh_led I N₂ (.head _) l1.1 l1.2 (fun q hq => nomatch hq)).2
    · exact hf
end
end Mine

-- K1
namespace Mine
variable {w : World} {p : Program} {loose : List Str} {mg mb : Str → Option Value}
local macro_rules | `(tactic| k_steps) => `(tactic| repeat' (first | (k_unfold; (try dsimp only)) | (walk1 <;> (try dsimp only)) | (dsimp only; walk1) | (leave1; walk_say "STEP leave1"; try dsimp only) | fail "no step"))
local macro_rules | `(tactic| ktr_room) => `(tactic| (simp only [depth_deeper, depth_in1] at *; omega))
theorem fill_10 (P : Params) : PySem.Challenge.rw_iu0033_01.name = PySem.Challenge.rw_iu0033_01.name ∧ hd.heap_39 P = hd.heap_39 P := by
  k_fill
  exact ⟨rfl, rfl⟩
local macro_rules | `(tactic| walk_at "call builtin:len") => `(tactic| ((with_reducible show wpAny _ _ (call (Value.builtin _) [Value.ref _]) _ _ _); refine len_seq (seqAt_in (by assumption) (by k_mem)) (by assumption) (by omega) ?_))
def rowP (c : Int) (ns : List Int) : List Int := (2 * c + ((ns.length % 2 : Nat) : Int)) :: List.replicate (1 - ns.length % 2) 0 ++ ns
theorem list_seq {prog : Program} {A : Around} {E : Value → Shared → Prop} {s : Shared} {g : Heap} {L x : Addr} {m : Str → Option Value} {news : List (Addr × Obj)} {b : Bool} {vs : List Value} {n : Nat} {Q : Value → Shared → Prop}
    (F : Fr g L s.heap m) (N : News g L s.heap news) (hx : (x, seqO b vs n) ∈ news) (hn : vs.length < 1000)
    (h : ∀ D c h', Fr g L h' m → News g L h' ((D, PySem.W.listOf vs.toArray c) :: news) → (∀ q ∈ news, q.1 < D) → Q (.ref D) { s with heap := h' }) :
    wpAny (model prog w) A (call (.type "list") [.ref x]) Q E s := by
  have hz : vs.toArray.size ≤ sizeLine := by rw [sizeLine_eq, List.size_toArray]; omega
  rcases seqAt_in N hx with hl | hl
  · exact list_copyK F N hl h hz
  · exact list_copyKT F N hl h hz
theorem rowP_len (c : Int) (ns : List Int) : (rowP c ns).length = 2 - ns.length % 2 + ns.length := by
  unfold rowP
  simp only [List.cons_append, List.length_cons, List.length_append, List.length_replicate]
  omega
theorem rowP_ok {c : Int} {ns : List Int} (hc : c = 0 ∨ c = 1) (h : okN ns = true) : okN (rowP c ns) = true := by
  unfold okN at h ⊢
  unfold rowP
  rw [List.cons_append, List.all_cons, List.all_append, h]
  have h2 : half (2 * c + ((ns.length % 2 : Nat) : Int)) = true := by
    unfold half
    rcases hc with rfl | rfl <;> simp <;> omega
  rw [h2]
  simp [half]
theorem rowP_byte {c : Int} {ns : List Int} (hc : c = 0 ∨ c = 1) (h : okN ns = true) : ∀ n ∈ pack (rowP c ns), 0 ≤ n ∧ n < 256 := pack_byte (rowP_ok hc h)
theorem row_eq (c : Int) (ns : List Int) : ([2 * c + (ns.length : Int).fmod 2] ++ (List.replicate (1 - (ns.length : Int).fmod 2).toNat [0]).flatten) ++ ns = rowP c ns := by
  rw [fmod2]
  unfold rowP
  have h : ns.length % 2 = 0 ∨ ns.length % 2 = 1 := by omega
  rcases h with h | h <;> rw [h] <;> simp
section
variable {prog : Program} {A : Around} {R : Result → Shared → Prop} {s : Shared} {x : Addr} {b : Bool} {n : Nat} {vs : List Value} {ns : List Int} {c : Int} {tc : Tok}
set_option maxHeartbeats 4000000 in
theorem c_packed (W : Fit w p loose mg mb s) (hh : A.handled = none) (hd : A.depth + 6 < recursionLimit) (hx : s.heap.get? x = some (seqO b vs n)) (h172 : 172 < x) (hi : IntsAre vs ns) (hn : ns.length < 700) (hc : c = 0 ∨ c = 1) (hok : okN ns = true)
    (hR : ∀ t s', Go s s' → R (.ok (.ret (.bytes (byteArr (pack (rowP c ns))) t))) s') :
    codeAny (model prog w) A (.call (.ref 153) ⟨[.ref x, .int c tc], []⟩) R s := by
  have hlen := hi.length
  refine enterC [(x, seqO b vs n)] (binds := [("halves", .ref x), ("closing", .int c tc)]) W (fun q hq => by rw [List.mem_singleton.mp hq]; exact ⟨hx, h172⟩) (by omega) (by k_is) (by k_is) rfl (fun k => ⟨.inl rfl, .inl rfl, trivial⟩) (by decide) ?_
  intro g L h₁ tk ps an ao cells I X T F N Y tb hk₁
  have hb := I.gens
  obtain ⟨co, rfl, hco⟩ := CellsAre.one Y
  replace hco : co.data = .cell none := hco
  rw [List.singleton_append] at N
  k_steps
  rename_i D2 ws2 h2 F2 N2 hi2 l2
  refine list_seq F2 N2 (by k_mem : (x, seqO b vs n) ∈ _) (by omega) ?_
  intro D3 c3 h3 F3 N3 l3
  (try dsimp only)
  have hl2 := hi2.length
  have hf := fmod2 ns.length
  have hr1 : ([2 * c + (ns.length : Int).fmod 2] ++ (List.replicate (1 - (ns.length : Int).fmod 2).toNat [0]).flatten).length ≤ 2 := by
    have h1 := congrArg List.length (row_eq c ns)
    rw [List.length_append, rowP_len] at h1
    omega
  refine kmk_add_ints F3 N3 (vs := ws2) (ws := vs) ⟨_, (N3 _ (by k_mem : (D2, PySem.W.listOf ws2.toArray 0) ∈ _)).1, rfl, _, rfl⟩ ⟨_, (N3 _ (.head _)).1, rfl, _, rfl⟩ hi2 hi ?_ (by rw [sizeLine_eq]; omega)
  intro D4 us4 h4 F4 N4 l4 hi4
  (try dsimp only)
  have hrow := row_eq c ns
  rw [hrow] at hi4
  have hL1 := N4 (L + 1, co) (by k_mem)
  have hsz : s.heap.objs.size ≤ L := by
    have h1 := F4.above
    rw [I.hole.size] at h1
    exact h1
  obtain ⟨ps', hp61, _⟩ := W.tab
  refine wpAny_storeName_cell rfl rfl rfl ⟨co, hL1.1, hco⟩ fun h5 hv5 hs5 => ?_
  obtain ⟨o5, ho5, hd5⟩ := hv5
  have F5 : Fr g L h5 _ := ⟨F4.ns.sameBut hs5 (Nat.ne_of_lt (Nat.lt_succ_self L)), fun bb o e => (hs5.2 bb (fun z => by rw [z, hL1.2.2] at e; cases e)).trans (F4.keep bb o e), F4.above⟩
  have below : ∀ {a : Addr}, @LT.lt Nat _ a s.heap.objs.size → a ≠ L + 1 := fun h => Nat.ne_of_lt (Nat.lt_succ_of_lt (Nat.lt_of_lt_of_le h hsz))
  have N5 : News g L h5 [(D4, PySem.W.listOf us4.toArray 0), (L + 1, o5), (an, ao), (61, tabOf ps), (x, seqO b vs n)] := by
    have mv : ∀ q, q ∈ [(D4, PySem.W.listOf us4.toArray 0), (an, ao), (61, tabOf ps), (x, seqO b vs n)] → q.1 ≠ L + 1 → h5.get? q.1 = some q.2 ∧ q.1 ≠ L ∧ g.get? q.1 = none := fun q hq hne => by
      have := N4 q (by
        rcases List.mem_cons.mp hq with rfl | hq
        · exact .head _
        · rcases List.mem_cons.mp hq with rfl | hq
          · k_mem
          · rcases List.mem_cons.mp hq with rfl | hq
            · k_mem
            · rw [List.mem_singleton.mp hq]; k_mem)
      exact ⟨(hs5.2 _ hne).trans this.1, this.2⟩
    intro q hq
    rcases List.mem_cons.mp hq with rfl | hq
    · exact mv _ (.head _) (Nat.ne_of_gt (l4 (L + 1, co) (by k_mem)))
    · rcases List.mem_cons.mp hq with rfl | hq
      · exact ⟨ho5, hL1.2⟩
      · rcases List.mem_cons.mp hq with rfl | hq
        · exact mv _ (by k_mem) (below (Heap.lt_size (I.has _ (.head _))))
        · rcases List.mem_cons.mp hq with rfl | hq
          · exact mv _ (by k_mem) (below (Heap.lt_size hp61))
          · rw [List.mem_singleton.mp hq]
            exact mv _ (by k_mem) (below (Heap.lt_size hx))
  clear N4 N3 N2 F4 F3 F2
  (try dsimp only)
  iterate 6 (walk1 <;> (try dsimp only))
  have hlr := rowP_len c ns
  refine comp_pack (b := true) (vs := us4) (ns := rowP c ns) F5 N5 (by k_mem : (D4, PySem.W.listOf us4.toArray 0) ∈ _) hi4 (by omega) (by omega) (by k_mem : (L + 1, o5) ∈ _) hd5 hh rfl (by decide) (by decide) rfl (fun _ => rfl) (fun _ => rfl) rfl ?_ (fun _ => rfl)
  iterate 12 (walk1 <;> (try dsimp only))
  refine len_seq (.inl ⟨_, (N5 _ (by k_mem : (D4, PySem.W.listOf us4.toArray 0) ∈ _)).1, rfl, _, rfl⟩) hi4 (by omega) ?_
  (try dsimp only)
  iterate 4 (walk1 <;> (try dsimp only))
  rename_i h6 tk6 t1 u1 v1 hr F6 N6 k6
  refine ⟨_, t1, u1, v1, rfl, hr, F6, N6, fun D ys h7 tk7 F7 N7 hl7 hi7 => ?_⟩
  (try dsimp only)
  walk1 <;> (try dsimp only)
  refine call_bytes_ints hl7 hi7 (rowP_byte hc hok) (by rw [hi7.length, pack_len, sizeLine_eq]; omega) hh fun h8 t8 k8 hk8 => ?_
  have F8 := F7.keeps hk8
  have N8 := N7.grown hk8
  (try dsimp only)
  k_steps
  exact hR _ _ (go_end I F8 N8 tb hb rfl (by k_mem) (by simp))
end
end Mine

-- PL
namespace Mine
theorem isT_append (ns : List Int) : isT (ns ++ [16]) = true := by simp [isT]
theorem isT_split {ns : List Int} (h : isT ns = true) : ns = ns.dropLast ++ [16] := by
  have h' : ns.getLast? = some 16 := of_decide_eq_true h
  cases ns with
  | nil => simp at h'
  | cons a r =>
    rw [List.getLast?_eq_some_getLast (by simp)] at h'
    have := List.dropLast_concat_getLast (l := a :: r) (by simp)
    rw [Option.some.inj h'] at this
    exact this.symm
theorem addT_remT (ns : List Int) : addT ns = remT ns ++ [16] := by
  unfold addT remT
  cases h : isT ns
  · rfl
  · simp only [if_true]; exact isT_split h
theorem okN_notT {ns : List Int} (h : okN ns = true) : isT ns = false := by
  cases q : isT ns
  · rfl
  · have := isT_split q
    unfold okN at h
    rw [this, List.all_append] at h
    simp [half] at h
theorem remT_ok {ns : List Int} (h : okN ns = true) : remT ns = ns := by unfold remT; rw [okN_notT h]; rfl
theorem remT_addT {ns : List Int} (h : okN ns = true) : remT (addT ns) = ns := by
  rw [addT_remT, remT_ok h]
  unfold remT
  rw [isT_append]
  simp
theorem isT_addT (ns : List Int) : isT (addT ns) = true := by rw [addT_remT]; exact isT_append _
/-- a row that is fair: halves, and the closing sign or none -/
theorem row_of {ns : List Int} : ns = remT ns ++ (if isT ns then [16] else []) := by
  unfold remT
  cases h : isT ns
  · simp
  · simpa using isT_split h
theorem flagged_rowP (ns : List Int) : flagged ns = rowP (if isT ns then 1 else 0) (remT ns) := by
  unfold flagged rowP
  have h : (remT ns).length % 2 = 0 ∨ (remT ns).length % 2 = 1 := by omega
  rcases h with h | h <;> rw [h] <;> cases isT ns <;> simp
theorem ints_bytes {ns : List Int} (h : ∀ n ∈ ns, 0 ≤ n ∧ n < 256) : KBw.bInts (byteArr ns) = ns := by
  unfold KBw.bInts byteArr
  induction ns with
  | nil => rfl
  | cons a r ih =>
    have ha := h a (by simp)
    have hr := ih fun n hn => h n (by simp [hn])
    simp only [List.map_cons] at hr ⊢
    rw [hr]
    congr 1
    have : a.toNat < 256 := by omega
    simp [Nat.mod_eq_of_lt this]
    omega
theorem byteArr_size (ns : List Int) : (byteArr ns).size = ns.length := by simp [byteArr]
theorem pack_cons {a b : Int} {r : List Int} : pack (a :: b :: r) = (16 * a + b) :: pack r := by
  unfold pack rangeInts
  have e : (a :: b :: r).length / 2 = r.length / 2 + 1 := by simp only [List.length_cons]; omega
  rw [e, List.range_succ_eq_map]
  simp only [List.map_cons, List.map_map, pairAt]
  congr 1
  refine List.map_congr_left fun i hi => ?_
  simp only [Function.comp]
  have e1 : (0 + ((i + 1 : Nat) : Int) * 2).toNat = 2 * i + 2 := by omega
  have e2 : (0 + (i : Int) * 2).toNat = 2 * i := by omega
  unfold pairAt
  rw [e1, e2]
  rfl
theorem unpack : ∀ {ns : List Int}, okN ns = true → ns.length % 2 = 0 → b2n (pack ns) = ns
  | [], _, _ => rfl
  | [a], _, h => by simp at h
  | a :: b :: r, h, he => by
    have hr : okN r = true := by
      unfold okN at h ⊢
      simp only [List.all_cons, Bool.and_eq_true] at h
      exact h.2.2
    have hab : (0 ≤ a ∧ a ≤ 15) ∧ 0 ≤ b ∧ b ≤ 15 := by
      unfold okN at h
      simp only [List.all_cons, Bool.and_eq_true, half, decide_eq_true_eq] at h
      exact ⟨h.1, h.2.1⟩
    rw [pack_cons]
    unfold b2n
    rw [List.flatMap_cons]
    have ih := unpack hr (by simp only [List.length_cons] at he; omega)
    unfold b2n at ih
    rw [ih]
    have e1 : (16 * a + b) / 16 = a := by omega
    have e2 : (16 * a + b) % 16 = b := by omega
    rw [e1, e2]
    rfl
theorem round {ns : List Int} (h : okN ns = true) (he : ns.length % 2 = 0) : b2n (KBw.bInts (byteArr (pack ns))) = ns := by
  rw [ints_bytes (pack_byte h)]
  exact unpack h he
theorem enc_round {ns : List Int} (h : okN (remT ns) = true) : b2n (KBw.bInts (encB ns)) = flagged ns :=
  round (by rw [flagged_ok]; exact h) (flagged_even ns)
theorem dec_flagged (ns : List Int) (h : okN (remT ns) = true) : decL (flagged ns) = ns := by
  have hn := okN_notT h
  have hr := row_of (ns := ns)
  have ha : addT (remT ns) = remT ns ++ [16] := by rw [addT_remT, remT_ok h]
  unfold flagged decL
  cases q : isT ns <;> rw [q] at hr <;> by_cases p : (remT ns).length % 2 = 1 <;> simp [p, ha]
  all_goals (try (simp at hr))
  all_goals first
    | exact hr.symm
    | exact hr
    | skip
theorem dec_enc {ns : List Int} (h : okN (remT ns) = true) : decL (b2n (KBw.bInts (encB ns))) = ns := by
  rw [enc_round h]
  exact dec_flagged ns h
theorem encB_size (ns : List Int) : (encB ns).size = (flagged ns).length / 2 := by
  unfold encB
  rw [byteArr_size, pack_len]
theorem flagged_pos (ns : List Int) : 2 ≤ (flagged ns).length := by
  have h := flagged_even ns
  have : flagged ns ≠ [] := by unfold flagged; split <;> simp
  have := List.length_pos_iff.mpr this
  omega
theorem encB_pos (ns : List Int) : 0 < (encB ns).size := by
  rw [encB_size]
  have := flagged_pos ns
  omega
theorem encB_le (ns : List Int) : (encB ns).size ≤ ns.length + 1 := by
  rw [encB_size]
  have := flagged_len ns
  omega
end Mine

-- LW
namespace Mine
variable {w : World} {p : Program} {loose : List Str} {mg mb : Str → Option Value}
theorem fill_11 (P : Params) : PySem.Challenge.rw_iu0033_01.name = PySem.Challenge.rw_iu0033_01.name ∧ hd.heap_39 P = hd.heap_39 P := by
  k_fill
  exact ⟨rfl, rfl⟩
/-- what the law's body knows -/
structure Lw (w : World) (p : Program) (loose : List Str) (mg mb : Str → Option Value) (s₁ : Shared) (g : Heap) (L : Addr) : Prop where
  W : TW w p loose mg mb g
  k : (hd.heap_39 w.params).In g
  t : TopRead p loose mg mb g
  h61 : g.get? 61 = none
  hL : 172 < L
  old : ∀ b o, b ≠ 61 → s₁.heap.get? b = some o → g.get? b = some o
  c61 : s₁.heap.get? 61 = some ctab
  k₀ : (hd.heap_39 w.params).In s₁.heap
theorem law_in {s₁ : Shared} {h₁ : Heap} {m : Str → Option Value} {bm : Addr} {ob : Obj} (KX : (hd.heap_39 w.params).In s₁.heap) (hv : s₁.heap.get? 56 = some (vset (!w.params.followText "set-order"))) (hc : s₁.heap.get? 61 = some ctab)
    (T : TopRead p loose mg mb s₁.heap) (M : BMod s₁.heap mainGlobals mg bm ob) (F : Fr s₁.heap s₁.heap.objs.size h₁ m) :
    ∃ g, Lw w p loose mg mb s₁ g s₁.heap.objs.size ∧ Fr g s₁.heap.objs.size h₁ m ∧ News g s₁.heap.objs.size h₁ [(61, tabOf #[])] := by
  have e4 : bm = 4 := by
    have h1 : mg "__builtins__" = some (.ref 4) := mg_of KX T.g (by rfl)
    have h2 := M.name
    rw [h1] at h2
    injection h2 with h2
    injection h2 with h2
    exact h2.symm
  subst e4
  have W : TW w p loose mg mb s₁.heap := ⟨KX, hv, T, ⟨ob, M.obj, M.cls, M.dict, M.data⟩⟩
  have x := hole_is s₁.heap [(61, tabOf #[])]
  have hf : Free [(61, tabOf #[])] := fun q hq => by rw [List.mem_singleton.mp hq]; exact .inl rfl
  have W' := W.hole x hf
  have n61 := x.none (b := 61) (by simp)
  have h172 : 172 < s₁.heap.objs.size := Heap.lt_size (KX 172 _ rfl)
  refine ⟨_, ⟨W', W'.k, W'.t, n61, h172, fun b o hb e => (x.get b o).mpr ⟨e, by simpa using hb⟩, hc, KX⟩, ⟨F.ns, fun b o e => F.keep b o ((x.get b o).mp e).1, Nat.le_of_eq x.size⟩, fun q hq => ?_⟩
  rw [List.mem_singleton.mp hq]
  exact ⟨F.keep _ _ hc, Ne.symm (big_ne h172), n61⟩
theorem ctab61 (P : Params) : ∃ o vs, (hd.heap_39 P).lookup 63 = some o ∧ o.cls = .type "code" ∧ o.data = .fields vs ∧ vs[11]? = some (.ref 61) := ⟨_, _, rfl, rfl, rfl, rfl⟩
theorem law_end {s₁ s' : Shared} {g : Heap} {L : Addr} {m : Str → Option Value} {news : List (Addr × Obj)} {ps : Array Value} {c : ClaimW} {cl : Str → Option Addr} {mean : ExcName → Option Value} {args : List WData}
    (X : Lw w p loose mg mb s₁ g L) (F : Fr g L s'.heap m) (N : News g L s'.heap news) (hm : (61, tabOf ps) ∈ news) (hb : AllBare s'.gens) (ho : s'.os = s₁.os)
    (hr : ∀ cls, c.raises args cls = false) (hp : c.post args (.bool true) args = true) : GoodWG c cl mean args s₁ (.ok (.ret (.bool true))) s' := by
  refine ⟨.inl ⟨_, _, [], rfl, hr, ReadsW.bool true, hp, fun _ => ⟨List.nodup_nil, fun _ h => nomatch h⟩⟩, ⟨fun b o e => ?_, fun b o e => ?_⟩, ho, hb⟩
  · by_cases h : b = 61
    · subst h
      rw [X.c61] at e
      cases e
      obtain ⟨o, vs, h1, h2, h3, h4⟩ := ctab61 w.params
      refine .inr (.inl ⟨⟨63, o, vs, X.k₀ _ _ h1, h2, h3, h4⟩, rfl, #[], ps, rfl, ?_⟩)
      have := (N _ hm).1
      rw [this]
      simp [tabOf, ctab]
    · exact .inl (F.keep b o (X.old b o h e))
  · by_cases h : b = 61
    · subst h; exact ⟨_, (N _ hm).1⟩
    · exact ⟨o, F.keep b o (X.old b o h e)⟩
section
variable {s₁ s s' : Shared} {g : Heap} {L : Addr} {m : Str → Option Value} {news : List (Addr × Obj)} {ps : Array Value}
/-- fit for a call, in the law -/
theorem fitL (X : Lw w p loose mg mb s₁ g L) (F : Fr g L s.heap m) (N : News g L s.heap news) (tb : Tb ps) (b : AllBare s.gens) (hm : (61, tabOf ps) ∈ news) : Fit w p loose mg mb s := by
  obtain ⟨o, _, _, h, _⟩ := F.ns
  exact ⟨X.W.keeps F.keep, tab_of N hm tb, b, L, o, X.hL, h⟩
theorem stkL {env : Env} (F : Fr g L s.heap m) (hf : env.frame = some L := by rfl) (hk : env.scope.kind = .function := by rfl) : Stk (callerA.deeper env) [env] s.heap :=
  ⟨Around.frames_deeper rfl, fun b o q => (by rw [e0_none] at q; cases q), .cons (by rw [hk]; decide) hf F.ns (e0_none _) trivial⟩
theorem frL (x : Go s s') (X : Lw w p loose mg mb s₁ g L) (F : Fr g L s.heap m) : Fr g L s'.heap m := fr_go x F X.h61 (big_ne X.hL)
theorem newsL (news' : List (Addr × Obj)) (x : Go s s') (X : Lw w p loose mg mb s₁ g L) (N : News g L s.heap news) (hn : ∀ q ∈ news', q ∈ news ∧ q.1 ≠ 61) : ∃ ps', Tb ps' ∧ News g L s'.heap ((61, tabOf ps') :: news') := by
  obtain ⟨ps', e, tb⟩ := x.tab
  refine ⟨ps', tb, fun q hq => ?_⟩
  rcases List.mem_cons.mp hq with rfl | hq
  · exact ⟨e, Ne.symm (big_ne X.hL), X.h61⟩
  · exact ⟨x.keep _ _ (hn q hq).2 (N q (hn q hq).1).1, (N q (hn q hq).1).2⟩
theorem frU (x : GoU L s s') (X : Lw w p loose mg mb s₁ g L) (F : Fr g L s.heap m) : Fr g L s'.heap m := by
  obtain ⟨⟨o, es, ep, e, hd, r⟩, k, a⟩ := F
  obtain ⟨sl, hs⟩ := x.slots o e
  refine ⟨⟨_, es, ep, hs, hd, r⟩, fun b o e => x.keep b o (fun q => by rw [q, X.h61] at e; cases e) (fun q => ?_) (k b o e), a⟩
  rw [q] at e
  exact absurd (Nat.lt_of_lt_of_le (Heap.lt_size e) a) (Nat.lt_irrefl _)
theorem newsU (news' : List (Addr × Obj)) (x : GoU L s s') (X : Lw w p loose mg mb s₁ g L) (N : News g L s.heap news) (hn : ∀ q ∈ news', q ∈ news ∧ q.1 ≠ 61) : ∃ ps', Tb ps' ∧ News g L s'.heap ((61, tabOf ps') :: news') := by
  obtain ⟨ps', e, tb⟩ := x.tab
  refine ⟨ps', tb, fun q hq => ?_⟩
  rcases List.mem_cons.mp hq with rfl | hq
  · exact ⟨e, Ne.symm (big_ne X.hL), X.h61⟩
  · exact ⟨x.keep _ _ (hn q hq).2 (N q (hn q hq).1).2.1 (N q (hn q hq).1).1, (N q (hn q hq).1).2⟩
theorem frame_at (F : Fr g L s.heap m) : ∃ o, s.heap.get? L = some o := let ⟨o, _, _, h, _⟩ := F.ns; ⟨o, h⟩
end
end Mine

-- O1
namespace Mine
variable {w : World} {p : Program} {loose : List Str} {mg mb : Str → Option Value}
local macro_rules | `(tactic| k_steps) => `(tactic| repeat' (first | (k_unfold; (try dsimp only)) | (walk1 <;> (try dsimp only)) | (dsimp only; walk1) | (leave1; walk_say "STEP leave1"; try dsimp only) | fail "no step"))
theorem fill_12 (P : Params) : PySem.Challenge.rw_iu0033_01.name = PySem.Challenge.rw_iu0033_01.name ∧ hd.heap_39 P = hd.heap_39 P := by
  k_fill
  exact ⟨rfl, rfl⟩
section
variable {prog : Program} {A : Around} {R : Result → Shared → Prop} {s : Shared}
def others : List Int := [16, 17, -1, 255, 16, 300]
set_option maxHeartbeats 4000000 in
theorem c_others (W : Fit w p loose mg mb s) (hd : A.depth + 2 < recursionLimit)
    (h : ∀ D us n h' tk, (∀ b o, s.heap.get? b = some o → h'.get? b = some o) → h'.get? D = some (lstO us n) → IntsAre us others → s.heap.get? D = none → R (.ok (.ret (.ref D))) { s with heap := h', toks := tk }) :
    codeAny (model prog w) A (.call (.ref 141) ⟨[], []⟩) R s := by
  refine enter [] (binds := []) W (fun q hq => nomatch hq) (by omega) (by k_is) (by k_is) rfl (locs rfl) ?_
  intro g L h₁ ps an ao I X T F N tb hk₁
  have hb := I.gens
  have h61 : h₁.get? 61 = some (tabOf ps) := (N _ (by k_mem : (61, tabOf ps) ∈ _)).1
  k_steps
  rename_i D h2 F2 N2 l1
  refine h D _ _ _ _ (fun b o e => ?_) (N2 _ (.head _)).1 (.cons _ _ (.cons _ _ (.cons _ _ (.cons _ _ (.cons _ _ (.cons _ _ .nil)))))) (fresh_led I N2 (.head _) l1.1 l1.2 (fun q hq => nomatch hq)).2
  by_cases q : b = 61
  · subst q
    have h1 := hk₁ _ _ e
    rw [h61] at h1
    rw [← Option.some.inj h1]
    exact (N2 _ (by k_mem : (61, tabOf ps) ∈ _)).1
  · exact kept_in (s' := { s with heap := h2 }) I F2 N2 (by simp) b o q e
end
end Mine

-- IT
namespace Mine
section
variable {prog : Program} {w : World} {A : Around} {E : Value → Shared → Prop} {s : Shared} {env : Env} {h₀ : Heap} {x : Str} {body : List Stmt} {Q : Flow → Shared → Prop} {l : Addr} {vs : List Value} {ns : List Int} {m₀ : Str → Option Value} {news : List (Addr × Obj)}
/-- a loop over a list of ints that is new to the frame -/
theorem iter_new (J : Nat → (Str → Option Value) → List (Addr × Obj) → Prop)
    (hh : A.handled = none) (hl : s.heap.IsList l vs.toArray) (hi : IntsAre vs ns) (hlL : l ≠ env.locals) (F : Fr h₀ env.locals s.heap m₀) (N : News h₀ env.locals s.heap news) (hnl : ∀ q ∈ news, q.1 ≠ l) (hj : J 0 m₀ news)
    (turn : ∀ i n t m₁ news₁ h tk own, ns[i]? = some n → OwnOff own (news.map (·.1)) → J i m₁ news₁ → Fr h₀ env.locals h (fun y => if y = x then some (.int n t) else m₁ y) → News h₀ env.locals h (news₁ ++ own) →
      wpAny (model prog w) A (execs body env) (InvPostN h₀ env.locals (J (i + 1)) own (news.map (·.1)) { s with heap := h, toks := tk } Q) E { s with heap := h, toks := tk })
    (done : ∀ m₁ news₁ h tk, J ns.length m₁ news₁ → Fr h₀ env.locals h m₁ → News h₀ env.locals h news₁ → Q .next { s with heap := h, toks := tk }) :
    wpAny (model prog w) A (pyIter (.ref l)) (fun it s₂ => LoopAtV prog w A h₀ env x body Q E it s₂) E s := by
  have hlt : l < s.heap.objs.size := by obtain ⟨_, e, _⟩ := hl; exact Heap.lt_size e
  have hne : l ≠ s.heap.objs.size := Nat.ne_of_lt hlt
  refine wpAny_pyIter_list hl ?_
  refine loop_invN J (Walks.list (prog := prog) (w := w) hh s.heap.objs.size l hne vs.toArray) ?_ ?_ ?_ ?_ ⟨⟨_, Heap.get?_push_size _ rfl, rfl, rfl⟩, hl.push _⟩ (F.push _) (fun p hp => ⟨Heap.get?_push_of_some _ (N p hp).1, (N p hp).2⟩) hj ?_ ?_
  · intro hm
    rcases List.mem_cons.mp hm with z | hm
    · exact absurd F.ns.lt (z ▸ Nat.lt_irrefl _)
    · exact hlL (List.mem_singleton.mp hm).symm
  · intro b hb
    rw [List.mem_singleton.mp hb]
    exact next_is_new F
  · intro p hp hI
    exact absurd (Heap.lt_size (N p hp).1) ((List.mem_singleton.mp hI) ▸ Nat.lt_irrefl _)
  · intro p hp hI
    rcases List.mem_cons.mp hI with z | hI
    · exact absurd (Heap.lt_size (N p hp).1) (z ▸ Nat.lt_irrefl _)
    · exact hnl p hp (List.mem_singleton.mp hI)
  · intro i v m₁ news₁ h tk own hin hP _ hoff hJ F₁ N₁
    have hlen := hi.length
    have hin' : i < ns.length := by rw [← hlen]; simpa using hin
    obtain ⟨t, ht⟩ := intsAre_get hi (List.getElem?_eq_getElem hin')
    have hP' : vs[i]? = some v := by simpa using hP
    rw [ht] at hP'
    cases hP'
    exact turn i _ t m₁ news₁ h tk own (List.getElem?_eq_getElem hin') hoff hJ F₁ N₁
  · intro m₁ news₁ h tk hJ F₁ N₁
    have e : vs.toArray.size = ns.length := by rw [List.size_toArray, hi.length]
    rw [e] at hJ
    exact done m₁ news₁ h tk hJ F₁ N₁
end
section
variable {M : Model} {A : Around} {E : Value → Shared → Prop} {s : Shared} {env : Env} {st : Stmt} {rest : List Stmt} {Q : Flow → Shared → Prop}
theorem cut (P : Shared → Prop) (h1 : wpAny M A (exec st env) (fun f s' => f = .next ∧ P s') E s) (h2 : ∀ s', P s' → wpAny M A (execs rest env) Q E s') : wpAny M A (execs (st :: rest) env) Q E s :=
  wpAny_execs_cons (wpAny_mono h1 (fun f s' ⟨e, p⟩ => by subst e; exact h2 s' p) (fun _ _ e => e))
end
/-- the state between two statements of the law -/
def St (g : Heap) (L : Addr) (s₁ : Shared) (P : (Str → Option Value) → List (Addr × Obj) → Prop) (s' : Shared) : Prop :=
  ∃ m news ps, P m news ∧ Tb ps ∧ Fr g L s'.heap m ∧ News g L s'.heap ((61, tabOf ps) :: news) ∧ AllBare s'.gens ∧ s'.os = s₁.os
theorem fr_two {g h : Heap} {L : Addr} {m : Str → Option Value} {a b : Str} {v u : Value} (F : Fr g L h m) (h1 : m a = some v) (h2 : m b = some u) : Fr g L h (fun y => if y = a then some v else if y = b then some u else m y) :=
  fr_map F fun y => by
    by_cases q : y = a
    · subst q; simp [h1]
    · by_cases q2 : y = b
      · subst q2; simp [q, h2]
      · simp [q, q2]
theorem pick_head (vs : List Value) : slicePick vs.toArray (some 1) (some 24) none = ((vs.drop 1).take 23).toArray := by
  have e : sliceBounds (some 1) (some 24) none vs.toArray.size = (((min 1 vs.length : Nat) : Int), ((min 24 vs.length : Nat) : Int), 1) := by
    simp only [sliceBounds, Option.getD_none, show (1 : Int) > 0 by decide, if_true, List.size_toArray, if_neg (show ¬ ((1 : Int) < 0) by decide), if_neg (show ¬ ((24 : Int) < 0) by decide)]
    congr 1
    · omega
    congr 1
    omega
  rw [kmk_pick_nat _ e]
  cases vs with
  | nil => rfl
  | cons a r =>
    have e1 : min 1 (a :: r).length = 1 := by simp only [List.length_cons]; omega
    rw [e1]
    show (List.take (min 24 (a :: r).length - 1) r).toArray = (List.take 23 r).toArray
    rcases Nat.le_total r.length 23 with h | h
    · rw [List.take_of_length_le h, List.take_of_length_le (by simp only [List.length_cons]; omega)]
    · have : min 24 (a :: r).length - 1 = 23 := by simp only [List.length_cons]; omega
      rw [this]
theorem newList_big {M : Model} {A : Around} {E : Value → Shared → Prop} {s : Shared} {g : Heap} {L : Addr} {m : Str → Option Value} {news : List (Addr × Obj)} {Q : Value → Shared → Prop} (hL : 172 < L) (F : Fr g L s.heap m) (N : News g L s.heap news)
    (h : ∀ D h', 172 < D → Fr g L h' m → News g L h' ((D, PySem.W.listOf #[] 0) :: news) → (∀ p ∈ news, p.1 < D) → Q (.ref D) { s with heap := h' }) : wpAny M A (newList []) Q E s := by
  unfold newList
  refine wpAny_newObj_type (h _ _ (Nat.lt_trans hL F.ns.lt) (F.push _) (N.push F _) fun p hp => Heap.lt_size (N p hp).1)
theorem news_swap {g h : Heap} {L : Addr} {a b : Addr × Obj} {news : List (Addr × Obj)} (N : News g L h (a :: b :: news)) : News g L h (b :: a :: news) := fun q hq => N q (by
  rcases List.mem_cons.mp hq with rfl | hq
  · exact .tail _ (.head _)
  · rcases List.mem_cons.mp hq with rfl | hq
    · exact .head _
    · exact .tail _ (.tail _ hq))
def item (k : Int) : Int := if k.fmod 23 = 22 then others.getD ((k.fdiv 23).fmod 6).toNat 0 else k.fmod 16
theorem append_row {prog : Program} {w : World} {A : Around} {E : Value → Shared → Prop} {s : Shared} {g : Heap} {L D : Addr} {m : Str → Option Value} {us : List Value} {n : Nat} {x : Value} {p₁ : Addr × Obj} {rest : List (Addr × Obj)} {Q : Value → Shared → Prop}
    (F : Fr g L s.heap m) (N : News g L s.heap (p₁ :: (D, PySem.W.listOf us.toArray n) :: rest)) (h1 : p₁.1 ≠ D) (hap : ∀ p ∈ rest, p.1 ≠ D) (hn : us.length ≤ 16000)
    (h : ∀ h', Fr g L h' m → News g L h' (p₁ :: (D, PySem.W.listOf (us ++ [x]).toArray (n + 1)) :: rest) → Q .none { s with heap := h' }) :
    wpAny (model prog w) A (call (.builtin "list.append") [.ref D, x]) Q E s :=
  append_second F N h1 hap (fun h' F' N' => h h' F' (by rw [List.push_toArray] at N'; exact N')) (by rw [sizeLine_eq, List.size_toArray]; omega)
theorem six_idx (k : Int) : 0 ≤ (k.fdiv 23).fmod 6 ∧ (k.fdiv 23).fmod 6 = (((k.fdiv 23).fmod 6).toNat : Int) := by
  rw [Int.fmod_eq_emod_of_nonneg _ (by decide)]
  have := Int.emod_nonneg (k.fdiv 23) (show (6 : Int) ≠ 0 by decide)
  omega
theorem six_get (k : Int) : others[((k.fdiv 23).fmod 6).toNat]? = some (others.getD ((k.fdiv 23).fmod 6).toNat 0) := getD_get (by
  rw [Int.fmod_eq_emod_of_nonneg _ (by decide)]
  have := Int.emod_lt_of_pos (k.fdiv 23) (show (0 : Int) < 6 by decide)
  have h2 := Int.emod_nonneg (k.fdiv 23) (show (6 : Int) ≠ 0 by decide)
  show _ < 6
  omega)
theorem inv_end {g h h7 : Heap} {L : Addr} {m' : Str → Option Value} {J : (Str → Option Value) → List (Addr × Obj) → Prop} {own : List (Addr × Obj)} {adr : List Addr} {a b : Addr × Obj} {gens : Array GenState} {drawn : Drawn} {tk tk7 : Nat} {os : OsState} {Q : Flow → Shared → Prop}
    (F : Fr g L h7 m') (N : News g L h7 (a :: b :: own)) (hadr : [a.1, b.1] = adr) (hJ : J m' [a, b]) : InvPostN g L J own adr ⟨h, gens, drawn, tk, os⟩ Q .next ⟨h7, gens, drawn, tk7, os⟩ := by
  refine ⟨h7, tk7, m', _, [a, b], rfl, F, N, fun p hp => ?_, fun p hp => .tail _ (.tail _ hp), hadr, hJ⟩
  rcases List.mem_cons.mp hp with rfl | hp
  · exact .head _
  · rw [List.mem_singleton.mp hp]; exact .tail _ (.head _)
theorem news_tail {g h : Heap} {L : Addr} {a : Addr × Obj} {news : List (Addr × Obj)} (N : News g L h (a :: news)) : News g L h news := fun q hq => N q (.tail _ hq)
theorem slice_init' {prog : Program} {w : World} {A : Around} {E : Value → Shared → Prop} {g h₁ : Heap} {L x : Addr} {m : Str → Option Value} {news : List (Addr × Obj)} {us : List Value} {n : Nat} {gens : Array GenState} {drawn : Drawn} {toks : Nat} {os : OsState} {value slice : PySem.Expr} {u : Tok} {Q : Value → Shared → Prop}
    (F : Fr g L h₁ m) (N : News g L h₁ news) (hx : (x, PySem.W.listOf us.toArray n) ∈ news) (h1 : us ≠ []) (hn : us.length < 1000)
    (h : ∀ D h', Fr g L h' m → News g L h' ((D, PySem.W.listOf us.dropLast.toArray 0) :: news) → (∀ p ∈ news, p.1 < D) → Q (.ref D) ⟨h', gens, drawn, toks, os⟩)
    (hs : subscripted slice false (.ref x) (.ref h₁.objs.size) = operate [.ref h₁.objs.size, .ref x] (getItem (.ref x) (.ref h₁.objs.size)))
    (hg : ∀ r, letTemporaryGo value (.ref x) r = pure ()) :
    wpAny (model prog w) A (subscriptTail value slice (.ref x) (.ref h₁.objs.size)) Q E ⟨h₁.push { cls := .type "slice", data := .fields #[.none, .int (-1) u, .none] }, gens, drawn, toks, os⟩ := by
  refine slice_init (s := ⟨h₁, gens, drawn, toks, os⟩) (b := true) (vs := us) (n := n) F N hx h1 hn (fun D h' F' N' l => h D h' F' N' l) hs hg
theorem item_take {ks : List Int} {i : Nat} {k : Int} (h : ks[i]? = some k) : (ks.take (i + 1)).map item = (ks.take i).map item ++ [item k] := by
  rw [List.take_succ, h]
  simp
/-- script[1:24] -/
theorem slice_head {prog : Program} {w : World} {A : Around} {E : Value → Shared → Prop} {g h₁ : Heap} {L x : Addr} {m : Str → Option Value} {news : List (Addr × Obj)} {vs : List Value} {gens : Array GenState} {drawn : Drawn} {toks : Nat} {os : OsState} {value slice : PySem.Expr} {u u2 : Tok} {Q : Value → Shared → Prop}
    (F : Fr g L h₁ m) (N : News g L h₁ news) (hl : h₁.IsList x vs.toArray) (hn : vs.length < 1000)
    (h : ∀ D h', Fr g L h' m → News g L h' ((D, PySem.W.listOf ((vs.drop 1).take 23).toArray 0) :: news) → (∀ p ∈ news, p.1 < D) → Q (.ref D) ⟨h', gens, drawn, toks, os⟩)
    (hs : subscripted slice false (.ref x) (.ref h₁.objs.size) = operate [.ref h₁.objs.size, .ref x] (getItem (.ref x) (.ref h₁.objs.size)))
    (hg : ∀ r, letTemporaryGo value (.ref x) r = pure ()) :
    wpAny (model prog w) A (subscriptTail value slice (.ref x) (.ref h₁.objs.size)) Q E ⟨h₁.push { cls := .type "slice", data := .fields #[.int 1 u, .int 24 u2, .none] }, gens, drawn, toks, os⟩ := by
  have hz : vs.toArray.size ≤ sizeLine := by rw [sizeLine_eq, List.size_toArray]; omega
  refine slice_list (s := ⟨h₁, gens, drawn, toks, os⟩) F N hl (.int _ _) (.int _ _) (fun h' F' N' => ?_) hs hg hz
  rw [pick_head] at N'
  exact h _ _ F' N' fun p hp => Nat.lt_succ_of_lt (Heap.lt_size (N p hp).1)
end Mine

-- IU
namespace Mine
theorem reads_tup {h : Heap} {a : Addr} {vs : List Value} {ns : List Int} (hl : IsTup h a vs.toArray) (hi : IntsAre vs ns) : Reads h (.ref a) (.tuple (ns.map PyData.int)) [] := by
  obtain ⟨o, ho, hc, n, hd⟩ := hl
  exact Reads.tuple ho hc hd (by simpa using readsAll_of_ints hi)
theorem shaped_tup (ns : List Int) : SeqAt.shaped (.tuple (ns.map PyData.int)) = true := by
  simp [SeqAt.shaped, PyData.canLay0, PyData.depth, ke_canLayAll0, ke_depthAll]
section
variable {prog : Program} {w : World} {A : Around} {E : Value → Shared → Prop} {s : Shared} {a b : Addr} {vs us : List Value} {ns ms : List Int} {Q : Value → Shared → Prop}
theorem eq_tups (hl : IsTup s.heap a vs.toArray) (hi : IntsAre vs ns) (hl' : IsTup s.heap b us.toArray) (hi' : IntsAre us ms) (hu : A.units + 64 < cLine)
    (h : Q (.bool (decide (ns = ms))) s) : wpAny (model prog w) A (compareOp .Eq (.ref a) (.ref b)) Q E s :=
  eq_dataH_same (reads_tup hl hi) (reads_tup hl' hi') (shaped_tup ns) (shaped_tup ms) hu (by simp only [SeqAt.noMix]; exact noMix_ints ns ms) (by simp only [PySem.Spec.same]; rw [same_ints]; exact h)
theorem ne_tups (hl : IsTup s.heap a vs.toArray) (hi : IntsAre vs ns) (hl' : IsTup s.heap b us.toArray) (hi' : IntsAre us ms) (hu : A.units + 64 < cLine)
    (h : Q (.bool (!decide (ns = ms))) s) : wpAny (model prog w) A (compareOp .NotEq (.ref a) (.ref b)) Q E s :=
  ne_dataH_same (reads_tup hl hi) (reads_tup hl' hi') (shaped_tup ns) (shaped_tup ms) hu (by simp only [SeqAt.noMix]; exact noMix_ints ns ms) (by simp only [PySem.Spec.same]; rw [same_ints]; exact h)
variable {g : Heap} {L x : Addr} {m : Str → Option Value} {news : List (Addr × Obj)} {n : Nat}
/-- tuple(x) of a list, in the law -/
theorem tuple_L (hL : 172 < L) (F : Fr g L s.heap m) (N : News g L s.heap news) (hx : (x, lstO vs n) ∈ news) (hn : vs.length < 1000)
    (h : ∀ t h' n', Fr g L h' m → News g L h' ((t, tupO vs n') :: news) → 172 < t → (∀ p ∈ news, p.1 < t) → Q (.ref t) { s with heap := h' }) :
    wpAny (model prog w) A (call (.type "tuple") [.ref x]) Q E s := by
  refine call_tuple_list ⟨_, (N _ hx).1, rfl, n, rfl⟩ (fun h' hk => ?_) (by rw [sizeLine_eq, List.size_toArray]; omega)
  have F' := F.keeps hk
  have N' : News g L h' news := fun q hq => ⟨hk _ _ (N q hq).1, (N q hq).2⟩
  exact h _ _ 0 (F'.push _) (N'.push F' _) (Nat.lt_trans hL F'.ns.lt) fun p hp => Heap.lt_size (N' p hp).1
end
theorem list_enters {g h : Heap} {L D : Addr} {m : Str → Option Value} {news : List (Addr × Obj)} {items : Array Value} (F : Fr g L h m) (N : News g L h news) (hn : g.get? D = none) (hl : h.IsList D items) :
    ∃ o, News g L h ((D, o) :: news) ∧ o.cls = .type "list" ∧ ∃ n, o.data = .seq items n := by
  obtain ⟨o, ho, hc, n, hd⟩ := hl
  refine ⟨o, fun q hq => ?_, hc, n, hd⟩
  rcases List.mem_cons.mp hq with rfl | hq
  · refine ⟨ho, fun z => ?_, hn⟩
    obtain ⟨oL, es, ep, e, hdL, _⟩ := F.ns
    rw [show D = L from z, e] at ho
    cases ho
    rw [hdL] at hd
    cases hd
  · exact N q hq
theorem fair_eq (ns : List Int) : decide (List.map (fun a => a) (List.filter (fun a => if a < 0 then true else if 15 < a then true else false) ns) = []) = okN ns := by
  unfold okN
  rw [show (fun a : Int => a) = id from rfl, List.map_id]
  cases e : ns.all half
  · simp only [decide_eq_false_iff_not, List.filter_eq_nil_iff]
    intro h
    have : ns.all half = true := List.all_eq_true.mpr fun n hn => by
      have := h n hn
      simp only [half, Bool.and_eq_true, decide_eq_true_eq]
      by_cases h1 : n < 0
      · simp [h1] at this
      · by_cases h2 : 15 < n
        · simp [h1, h2] at this
        · omega
    rw [this] at e
    cases e
  · simp only [decide_eq_true_eq, List.filter_eq_nil_iff]
    intro n hn
    have := List.all_eq_true.mp e n hn
    simp only [half, Bool.and_eq_true, decide_eq_true_eq] at this
    rw [if_neg (by omega), if_neg (by omega)]
    decide
def AllIn (news : List (Addr × Obj)) : List (Addr × Obj) → Prop
  | [] => True
  | q :: r => q ∈ news ∧ AllIn news r
theorem news_pick {g h : Heap} {L : Addr} {news : List (Addr × Obj)} (N : News g L h news) : ∀ {l : List (Addr × Obj)}, AllIn news l → News g L h l
  | [], _ => fun _ hq => nomatch hq
  | q :: r, hl => fun p hp => by
    rcases List.mem_cons.mp hp with rfl | hp
    · exact N _ hl.1
    · exact news_pick N hl.2 p hp
def AllBig : List (Addr × Obj) → Prop
  | [] => True
  | q :: r => 172 < q.1 ∧ AllBig r
theorem AllBig.mem : ∀ {l : List (Addr × Obj)}, AllBig l → ∀ q ∈ l, 172 < q.1
  | [], _, _, hq => nomatch hq
  | p :: r, hl, q, hq => by
    rcases List.mem_cons.mp hq with rfl | hq
    · exact hl.1
    · exact hl.2.mem q hq
section
variable {w : World} {p : Program} {loose : List Str} {mg mb : Str → Option Value} {s₁ s s' : Shared} {g : Heap} {L : Addr} {m : Str → Option Value} {news : List (Addr × Obj)} {ps : Array Value}
/-- what stands in the law behind a call -/
def Back (g : Heap) (L : Addr) (s₁ : Shared) (m : Str → Option Value) (news : List (Addr × Obj)) (s' : Shared) : Prop :=
  ∃ ps', Tb ps' ∧ Fr g L s'.heap m ∧ News g L s'.heap ((61, tabOf ps') :: news) ∧ AllBare s'.gens ∧ s'.os = s₁.os
theorem backL (x : Go s s') (X : Lw w p loose mg mb s₁ g L) (F : Fr g L s.heap m) (N : News g L s.heap ((61, tabOf ps) :: news)) (hb : AllBig news) (ho : s.os = s₁.os) : Back g L s₁ m news s' := by
  obtain ⟨ps', tb, N'⟩ := newsL news x X N fun q hq => ⟨.tail _ hq, big_ne (hb.mem q hq)⟩
  exact ⟨ps', tb, frL x X F, N', x.gens, x.os.trans ho⟩
theorem backU (x : GoU L s s') (X : Lw w p loose mg mb s₁ g L) (F : Fr g L s.heap m) (N : News g L s.heap ((61, tabOf ps) :: news)) (hb : AllBig news) (ho : s.os = s₁.os) : Back g L s₁ m news s' := by
  obtain ⟨ps', tb, N'⟩ := newsU news x X N fun q hq => ⟨.tail _ hq, big_ne (hb.mem q hq)⟩
  exact ⟨ps', tb, frU x X F, N', x.gens, x.os.trans ho⟩
theorem backT {t : Addr} {o : Obj} (x : Go s s') (X : Lw w p loose mg mb s₁ g L) (F : Fr g L s.heap m) (N : News g L s.heap ((61, tabOf ps) :: news)) (hb : AllBig news) (ho : s.os = s₁.os)
    (e : s'.heap.get? t = some o) (ht : s.heap.get? t = none ∨ ∃ o', (t, o') ∈ (61, tabOf ps) :: news) : Back g L s₁ m ((t, o) :: news) s' := by
  obtain ⟨ps', tb, F', N', h1, h2⟩ := backL x X F N hb ho
  exact ⟨ps', tb, F', news_swap (news_res F N N' e ht), h1, h2⟩
end
def Told (R : List Int) (tv : Value) : Prop := okN (remT R) = true ∧ (∃ t, tv = .bytes (encB R) t) ∨ okN (remT R) = false ∧ tv = .none
def Octs (ns : List Int) (ov : Value) : Prop := okN ns = true ∧ ns.length % 2 = 0 ∧ (∃ t, ov = .bytes (byteArr (pack ns)) t) ∨ (okN ns && ns.length % 2 == 0) = false ∧ ov = .none
section
variable {M : Model} {A : Around} {E : Value → Shared → Prop} {s₁ s : Shared} {env : Env} {st : Stmt} {rest : List Stmt} {Q : Flow → Shared → Prop} {g : Heap} {L : Addr} {m : Str → Option Value} {news : List (Addr × Obj)} {ps : Array Value}
theorem cutB (_F : Fr g L s.heap m) (_N : News g L s.heap ((61, tabOf ps) :: news)) (h1 : wpAny M A (exec st env) (fun f s' => f = .next ∧ Back g L s₁ m news s') E s) (h2 : ∀ s', Back g L s₁ m news s' → wpAny M A (execs rest env) Q E s') : wpAny M A (execs (st :: rest) env) Q E s :=
  cut _ h1 h2
def BackS (g : Heap) (L : Addr) (s₁ : Shared) (m : Str → Option Value) (x : Str) (P : Value → List (Addr × Obj) → Prop) (s' : Shared) : Prop :=
  ∃ v news', P v news' ∧ Back g L s₁ (fun y => if y = x then some v else m y) news' s'
theorem cutS (x : Str) (P : Value → List (Addr × Obj) → Prop) (_F : Fr g L s.heap m) (h1 : wpAny M A (exec st env) (fun f s' => f = .next ∧ BackS g L s₁ m x P s') E s)
    (h2 : ∀ s' v news', P v news' → Back g L s₁ (fun y => if y = x then some v else m y) news' s' → wpAny M A (execs rest env) Q E s') : wpAny M A (execs (st :: rest) env) Q E s :=
  cut _ h1 fun s' ⟨v, news', h, b⟩ => h2 s' v news' h b
end
theorem post_ok (d : List WData) : PySem.Challenge.rw_iu0033_01.row.claim.post d (.bool true) d = true := postW_of (by wrow_shape) (by wtm_val) (by rfl)
theorem enc_T {R : List Int} (h : isT R = true) : byteArr (pack (rowP 1 (remT R))) = encB R := by unfold encB; rw [flagged_rowP, h]; rfl
theorem enc_F {R : List Int} (h : isT R = false) : byteArr (pack (rowP 0 (remT R))) = encB R := by unfold encB; rw [flagged_rowP, h]; rfl
def NodeP (B : Array UInt8) (rest : List (Addr × Obj)) (v : Value) (news : List (Addr × Obj)) : Prop := ∃ A t q, v = .ref A ∧ 172 < A ∧ news = (A, nodeO B t (.bytes #[120] q) 0) :: rest
def OctP (ns : List Int) (rest : List (Addr × Obj)) (v : Value) (news : List (Addr × Obj)) : Prop := Octs ns v ∧ news = rest
end Mine

-- W1
set_option maxHeartbeats 8000000
local macro_rules | `(tactic| k_steps) => `(tactic| repeat' ((fail_if_success (first | (with_reducible show wpAny _ _ (call (Value.type "tuple") _) _ _ _) | (with_reducible show wpAny _ _ (compareOp CmpOp.NotEq (Value.ref _) (Value.ref _)) _ _ _) | (with_reducible show wpAny _ _ (compareOp CmpOp.Eq (Value.ref _) (Value.ref _)) _ _ _) | (with_reducible show wpAny _ _ (binaryOp Operator.Add (Value.ref _) (Value.ref _)) _ _ _) | (with_reducible show wpAny _ _ (subscriptTail _ _ (Value.ref _) (Value.ref _)) _ _ _))); first | (k_unfold; (try dsimp only)) | (walk1 <;> (try dsimp only)) | (dsimp only; walk1) | (leave1; walk_say "STEP leave1"; try dsimp only) | fail "no step"))
local macro_rules | `(tactic| ktr_room) => `(tactic| (simp only [depth_deeper, depth_in1] at *; omega))
local macro_rules | `(tactic| walk_at "call ref") => `(tactic| ((with_reducible show wpAny _ _ (call (Value.ref _) _) _ _ _); refine wpAny_call ?_))
local macro_rules | `(tactic| walk_at "eval Call") => `(tactic| ((with_reducible show wpAny _ _ (eval (PySem.Expr.Call (PySem.Expr.Name _ _) _ _ _) _) _ _ _); k_dflt (refine Call_ ?_)))
theorem Mine.law_holds : PySem.Challenge.rw_iu0033_01.Holds := by
  refine hd ?_
  k_fill
  intro w s₀ s₁ mg mb G Y fa o pm cd doc dV kV ho hd hcd hD hmg hg args vals as hpre hlay hrd hwl hlo
  obtain ⟨Y, hv, hc⟩ := Y
  have KX := kIn_of Y
  clear Y
  refine Ground.open G ?_
  intro T B D TE TW
  obtain ⟨bm, ob, M⟩ := bmod_of_top T
  clear hmg
  wrow_args hpre hlay hrd hwl hlo
  show wpAny _ _ (call (.ref fa) _) _ _ _
  refine enter_call ?_
  w_top on
  have K0 := below_caller (Top.heap T)
  w_call any ho hd hcd hD T F
  clear hd hcd hD ho G TE B D TW
  rename_i h₁ N0
  obtain ⟨g, XL, F2, N2⟩ := Mine.law_in KX hv hc (topRead_of T) M F
  clear N0 F K0
  rename_i al vs _ hlist _ _ _ hi _ hlen63 _
  have hgl : g.IsList al vs.toArray := by
    obtain ⟨oo, e, r⟩ := hlist
    refine ⟨oo, XL.old al oo (fun q => ?_) e, r⟩
    rw [q, hc] at e
    cases e
    cases r.1
  have Tr := topRead_of T
  clear T M KX hv
  generalize s₁.heap.objs.size = L at XL F2 N2 ⊢
  have Xk := XL.k
  have Xt := XL.t
  have hb : AllBare s₁.gens := by rw [hg]; exact AllBare.empty
  rename_i ns _ _ _ _ _ _ _ _ _ _ _ _ _
  (try dsimp only)
  have F3 : Fr g L h₁ (fun y => List.lookup y [(Str.ofString "script", Value.ref al)].reverse) := F2
  clear F2
  have hlen := hi.length
  have hl63 : ns.length ≤ 63 := by omega
  -- pick
  refine Mine.cut (Mine.St g L s₁ (fun m news => ∃ pk tp, m = (fun y => if y = Str.ofString "pick" then some (Value.int pk tp) else List.lookup y [(Str.ofString "script", Value.ref al)].reverse) ∧ news = [])) ?_ ?_
  · k_steps
    all_goals exact ⟨_, _, _, ⟨_, _, rfl, rfl⟩, .inl rfl, by assumption, by assumption, hb, rfl⟩
  rintro s₂ ⟨_, _, ps, ⟨pk, tp, rfl, rfl⟩, tb, F, N, hb₂, ho₂⟩
  clear F3 N2 hb
  -- row = []
  refine Mine.cut (Mine.St g L s₁ (fun m news => ∃ D, 172 < D ∧ m = (fun y => if y = Str.ofString "row" then some (Value.ref D) else if y = Str.ofString "pick" then some (Value.int pk tp) else List.lookup y [(Str.ofString "script", Value.ref al)].reverse) ∧ news = [(D, PySem.W.listOf #[] 0)])) ?_ ?_
  · iterate 3 (walk1 <;> (try dsimp only))
    refine Mine.newList_big XL.hL F N fun D h' hD F' N' l1 => ?_
    (try dsimp only)
    k_steps
    exact ⟨_, _, _, ⟨D, hD, rfl, rfl⟩, tb, by assumption, Mine.news_swap (by assumption), hb₂, ho₂⟩
  rintro s₃ ⟨_, _, ps₃, ⟨D, hD, rfl, rfl⟩, tb₃, F₃, N₃, hb₃, ho₃⟩
  clear F N tb
  -- the loop
  refine Mine.cut (Mine.St g L s₁ (fun m news => ∃ (us : List Value) (n : Nat) (R : List Int) (mr : Str → Option Value), IntsAre us R ∧ R.length ≤ 23 ∧ m = (fun y => if y = Str.ofString "row" then some (Value.ref D) else if y = Str.ofString "pick" then some (Value.int pk tp) else mr y) ∧ news = [(D, PySem.W.listOf us.toArray n)])) ?_ ?_
  · refine' For_invV g ?hx ?hp ?hmain ?hs ?hE
    case hx => rfl
    case hp => rfl
    case hs => intro _; rfl
    case hE => passes_own
    k_steps
    rename_i F₃ _
    refine Mine.slice_head F₃ N₃ (hgl.at fun o e => F₃.keep _ _ e) (by omega) ?_ ?hs ?hg
    case hs => with_unfolding_all rfl
    case hg => intro _; with_unfolding_all rfl
    intro l h₄ F₄ N₄ l4
    (try dsimp only)
    have hi4 := Mine.intsAre_drop 1 hi
    have hi5 := hi4.take 23
    have hlD : D ≠ l := Nat.ne_of_lt (l4 (D, _) (.tail _ (.head _)))
    have hl61 : (61 : Addr) ≠ l := Nat.ne_of_lt (l4 (61, _) (.head _))
    refine Mine.iter_new (fun i m nx => (∃ us n, nx = [(61, Mine.tabOf ps₃), (D, PySem.W.listOf us.toArray n)] ∧ IntsAre us ((((ns.drop 1).take 23).take i).map Mine.item)) ∧ ∀ z, z ≠ Str.ofString "number" → m z = (fun y => if y = Str.ofString "row" then some (Value.ref D) else if y = Str.ofString "pick" then some (Value.int pk tp) else List.lookup y [(Str.ofString "script", Value.ref al)].reverse) z) rfl ⟨_, (N₄ _ (.head _)).1, rfl, _, rfl⟩ hi5 (N₄ _ (.head _)).2.1 F₄ (fun q hq => N₄ q (.tail _ hq)) (fun q hq => ?_) ⟨⟨[], 0, rfl, .nil⟩, fun _ _ => rfl⟩ ?_ ?_
    · rcases List.mem_cons.mp hq with rfl | hq
      · exact hl61
      · rw [List.mem_singleton.mp hq]; exact hlD
    · rintro i k t m₁ nx h₅ tk₅ own hk hoff ⟨⟨us, nn, rfl, hus⟩, hm⟩ F₅ N₅
      have F₅ : Fr g L h₅ (fun y => if y = Str.ofString "number" then some (Value.int k t) else if y = Str.ofString "row" then some (Value.ref D) else if y = Str.ofString "pick" then some (Value.int pk tp) else List.lookup y [(Str.ofString "script", Value.ref al)].reverse) := Mine.fr_map F₅ (fun y => by by_cases q : y = Str.ofString "number" <;> simp only [q, if_true, if_false]; exact hm y q)
      have N₅ : News g L h₅ ([(61, Mine.tabOf ps₃), (D, PySem.W.listOf us.toArray nn)] ++ own) := N₅
      have hlt : i < ((ns.drop 1).take 23).length := (List.getElem?_eq_some_iff.mp hk).1
      have hul : us.length = i := by rw [hus.length, List.length_map, List.length_take]; omega
      have hlt2 : i < 23 := by rw [List.length_take] at hlt; omega
      have h61D : (61 : Addr) ≠ D := Ne.symm (Mine.big_ne hD)
      have hap : ∀ q ∈ own, q.1 ≠ D := fun q hq => hoff q hq D (.tail _ (.head _))
      iterate 22 (first | (k_unfold; (try dsimp only)) | (walk1 <;> (try dsimp only)) | (dsimp only; walk1) | (leave1; walk_say "STEP leave1"; try dsimp only) | fail "no step")
      · rename_i hc22
        refine Mine.c_others (Mine.fitL XL F₅ N₅ tb₃ hb₃ (.head _)) (by ktr_room) ?_
        intro D2 us2 n2 h6 tk6 k6 hg6 hi6 hn6
        have F₆ := F₅.keeps k6
        have N₆ := N₅.grown k6
        clear F₅ N₅
        (try dsimp only)
        iterate 7 (first | (k_unfold; (try dsimp only)) | (walk1 <;> (try dsimp only)) | (dsimp only; walk1) | (leave1; walk_say "STEP leave1"; try dsimp only) | fail "no step")
        refine Mine.item_seq (x := D2) (.inl ⟨_, hg6, rfl, n2, rfl⟩) hi6 (by decide) (j := ((k.fdiv 23).fmod 6).toNat) (.inl (Mine.six_idx k)) (Mine.six_get k) fun t6 => ?_
        (first | (k_unfold; (try dsimp only)) | (walk1 <;> (try dsimp only)) | (dsimp only; walk1) | (leave1; walk_say "STEP leave1"; try dsimp only) | fail "no step")
        refine Mine.append_row F₆ N₆ h61D hap (by omega) fun h7 F₇ N₇ => ?_
        (try dsimp only)
        iterate 2 (first | (k_unfold; (try dsimp only)) | (walk1 <;> (try dsimp only)) | (dsimp only; walk1) | (leave1; walk_say "STEP leave1"; try dsimp only) | fail "no step")
        refine Mine.inv_end F₇ N₇ rfl ⟨⟨_, _, rfl, ?_⟩, fun z hz => if_neg hz⟩
        rw [Mine.item_take hk]
        refine hus.append ?_
        rw [show Mine.item k = Mine.others.getD ((k.fdiv 23).fmod 6).toNat 0 from if_pos (by simpa using hc22)]
        exact .cons _ _ .nil
      · rename_i hc22
        iterate 5 (first | (k_unfold; (try dsimp only)) | (walk1 <;> (try dsimp only)) | (dsimp only; walk1) | (leave1; walk_say "STEP leave1"; try dsimp only) | fail "no step")
        refine Mine.append_row F₅ N₅ h61D hap (by omega) fun h7 F₇ N₇ => ?_
        (try dsimp only)
        iterate 2 (first | (k_unfold; (try dsimp only)) | (walk1 <;> (try dsimp only)) | (dsimp only; walk1) | (leave1; walk_say "STEP leave1"; try dsimp only) | fail "no step")
        refine Mine.inv_end F₇ N₇ rfl ⟨⟨_, _, rfl, ?_⟩, fun z hz => if_neg hz⟩
        rw [Mine.item_take hk]
        refine hus.append ?_
        rw [show Mine.item k = k.fmod 16 from if_neg (by simpa using hc22)]
        exact .cons _ _ .nil
    · rintro m₁ nx h₅ tk₅ ⟨⟨us, nn, rfl, hus⟩, hm⟩ F₅ N₅
      rw [List.take_length] at hus
      exact ⟨rfl, _, _, _, ⟨us, nn, _, m₁, hus, by rw [List.length_map, List.length_take]; omega, rfl, rfl⟩, tb₃, Mine.fr_two F₅ (hm _ (by decide)) (hm _ (by decide)), N₅, hb₃, ho₃⟩
  rintro s₄ ⟨_, _, ps₄, ⟨us, n, R, mr, hi4, hR, rfl, rfl⟩, tb₄, F₄, N₄, hb₄, ho₄⟩
  clear F₃ N₃ tb₃
  -- the closing sign
  refine Mine.cut (Mine.St g L s₁ (fun m news => ∃ (us : List Value) (n : Nat) (R : List Int) (mr : Str → Option Value), IntsAre us R ∧ R.length ≤ 24 ∧ m = (fun y => if y = Str.ofString "row" then some (Value.ref D) else if y = Str.ofString "pick" then some (Value.int pk tp) else mr y) ∧ news = [(D, PySem.W.listOf us.toArray n)])) ?_ ?_
  · have hul := hi4.length
    k_steps
    · refine Mine.append_row F₄ N₄ (Ne.symm (Mine.big_ne hD)) (fun q hq => nomatch hq) (by omega) fun h7 F7 N7 => ?_
      (try dsimp only)
      k_steps
      exact ⟨_, _, _, ⟨us ++ [_], n + 1, R ++ [16], mr, hi4.append (.cons _ _ .nil), by rw [List.length_append]; simp only [List.length_cons, List.length_nil]; omega, rfl, rfl⟩, tb₄, F7, N7, hb₄, ho₄⟩
    · exact ⟨_, _, _, ⟨us, n, R, mr, hi4, by omega, rfl, rfl⟩, tb₄, F₄, N₄, hb₄, ho₄⟩
  clear F₄ N₄ tb₄ hi4 hR us n R mr
  rintro s₅ ⟨_, _, ps₅, ⟨us, n, R, mr, hi5, hR, rfl, rfl⟩, tb₅, F₅, N₅, hb₅, ho₅⟩
  have hul := hi5.length
  -- closes
  refine Mine.cut (Mine.St g L s₁ (fun m news => m = (fun y => if y = Str.ofString "closes" then some (Value.bool (Mine.isT R)) else if y = Str.ofString "row" then some (Value.ref D) else if y = Str.ofString "pick" then some (Value.int pk tp) else mr y) ∧ news = [(D, PySem.W.listOf us.toArray n)])) ?_ ?_
  · k_steps
    walk1 <;> (try dsimp only)
    repeat' ((fail_if_success (with_reducible show wpAny _ _ (subscriptTail _ _ (Value.ref _) (Value.int _ _)) _ _ _)); (first | (k_unfold; (try dsimp only)) | (walk1 <;> (try dsimp only)) | (dsimp only; walk1) | (leave1; walk_say "STEP leave1"; try dsimp only) | fail "no step"))
    · rename_i hRn h6 F6 N6
      have hRn : R = [] := by simpa using hRn
      have e : (!decide (R = [])) = Mine.isT R := by subst hRn; rfl
      rw [e] at F6
      exact ⟨_, _, _, ⟨rfl, rfl⟩, tb₅, F6, Mine.news_tail N6, hb₅, ho₅⟩
    · rename_i hRn
      have hRn : R ≠ [] := by simpa using hRn
      rename_i F6 N6 _ _
      refine Mine.item_last (x := D) (.inl ⟨_, (N6 _ (.tail _ (.tail _ (.head _)))).1, rfl, _, rfl⟩) hi5 (by omega) hRn fun t => ?_
      (try dsimp only)
      k_steps
      rename_i F7 N7
      rw [Mine.isT_ne] at F7
      exact ⟨_, _, _, ⟨rfl, rfl⟩, tb₅, F7, Mine.news_tail N7, hb₅, ho₅⟩
  rintro s₆ ⟨_, _, ps₆, ⟨rfl, rfl⟩, tb₆, F₆, N₆, hb₆, ho₆⟩
  clear F₅ N₅ tb₅
  -- rest
  refine Mine.cut (Mine.St g L s₁ (fun m news => ∃ (Dr : Addr) (ur : List Value) (nr : Nat), 172 < Dr ∧ IntsAre ur (Mine.remT R) ∧ m = (fun y => if y = Str.ofString "rest" then some (Value.ref Dr) else if y = Str.ofString "closes" then some (Value.bool (Mine.isT R)) else if y = Str.ofString "row" then some (Value.ref D) else if y = Str.ofString "pick" then some (Value.int pk tp) else mr y) ∧ news = [(Dr, PySem.W.listOf ur.toArray nr), (D, PySem.W.listOf us.toArray n)])) ?_ ?_
  · k_steps
    · rename_i hT
      refine Mine.slice_init' (by assumption) (by assumption) (.tail _ (.head _)) ?_ (by omega) ?_ ?hs ?hg
      case hs => with_unfolding_all rfl
      case hg => intro _; with_unfolding_all rfl
      · rintro rfl
        cases hi5
        simp [Mine.isT] at hT
      intro D7 h7 F7 N7 l7
      (try dsimp only)
      k_steps
      rename_i F8 N8
      have e : Mine.remT R = R.dropLast := by unfold Mine.remT; rw [if_pos hT]
      refine ⟨_, _, _, ⟨D7, _, _, Nat.lt_trans hD (l7 (D, _) (.tail _ (.head _))), by rw [e]; exact Mine.intsAre_init hi5, rfl, rfl⟩, tb₆, F8, Mine.news_swap N8, hb₆, ho₆⟩
    · rename_i hT h7 F7 N7
      have e : Mine.remT R = R := by unfold Mine.remT; rw [hT]; rfl
      refine ⟨_, _, _, ⟨D, us, n, hD, by rw [e]; exact hi5, rfl, rfl⟩, tb₆, F7, fun q hq => N7 q ?_, hb₆, ho₆⟩
      rcases List.mem_cons.mp hq with rfl | hq
      · exact .head _
      · rcases List.mem_cons.mp hq with rfl | hq
        · exact .tail _ (.head _)
        · exact .tail _ hq
  rintro s₇ ⟨_, _, ps₇, ⟨Dr, ur, nr, hDr, hir, rfl, rfl⟩, tb₇, F₇, N₇, hb₇, ho₇⟩
  clear F₆ N₆ tb₆
  have hrl := hir.length
  have hrl2 := Mine.remT_len R
  -- fair
  refine Mine.cut (Mine.St g L s₁ (fun m news => m = (fun y => if y = Str.ofString "fair" then some (Value.bool (Mine.okN (Mine.remT R))) else if y = Str.ofString "rest" then some (Value.ref Dr) else if y = Str.ofString "closes" then some (Value.bool (Mine.isT R)) else if y = Str.ofString "row" then some (Value.ref D) else if y = Str.ofString "pick" then some (Value.int pk tp) else mr y) ∧ news = [(Dr, PySem.W.listOf ur.toArray nr), (D, PySem.W.listOf us.toArray n)])) ?_ ?_
  · repeat' ((fail_if_success (with_reducible show wpAny _ _ (eval (PySem.Expr.List _ _) _) _ _ _)); (first | (k_unfold; (try dsimp only)) | (walk1 <;> (try dsimp only)) | (dsimp only; walk1) | (leave1; walk_say "STEP leave1"; try dsimp only) | fail "no step"))
    rename_i F9 N9 hg9 hl9 hc9
    obtain ⟨o9, N10, ho9, hd9⟩ := Mine.list_enters F9 N9 hg9 hl9
    iterate 2 (first | (k_unfold; (try dsimp only)) | (walk1 <;> (try dsimp only)) | (dsimp only; walk1) | (leave1; walk_say "STEP leave1"; try dsimp only) | fail "no step")
    refine Mine.newList_big XL.hL F9 N10 fun D8 h8 hD8 F8 N8 l8 => ?_
    (try dsimp only)
    refine eq_intsK (us := []) (ms := []) ⟨o9, (N8 _ (.tail _ (.head _))).1, ho9, hd9⟩ (CarriedAll.intsOf hc9) ⟨_, (N8 _ (.head _)).1, rfl, _, rfl⟩ .nil (by units_room) ?_
    (try dsimp only)
    rw [Mine.fair_eq]
    k_steps
    rename_i F10 N10
    exact ⟨_, _, _, ⟨rfl, rfl⟩, tb₇, F10, fun q hq => N10 q (.tail _ (.tail _ hq)), hb₇, ho₇⟩
  rintro s₈ ⟨_, _, ps₈, ⟨rfl, rfl⟩, tb₈, F₈, N₈, hb₈, ho₈⟩
  clear F₇ N₇ tb₇
  have N₈ : News g L s₈.heap [(61, Mine.tabOf ps₈), (Dr, Mine.lstO ur nr), (D, Mine.lstO us n)] := N₈
  have hl1 : us.length < 100 := by omega
  have hl2 : ur.length < 100 := by omega
  have hl3 : R.length < 100 := by omega
  have hl4 : (Mine.remT R).length < 100 := by omega
  -- given
  refine Mine.cut (Mine.St g L s₁ (fun m news => ∃ (G : Addr) (bg : Bool) (ng : Nat), 172 < G ∧ m = (fun y => if y = Str.ofString "given" then some (Value.ref G) else if y = Str.ofString "fair" then some (Value.bool (Mine.okN (Mine.remT R))) else if y = Str.ofString "rest" then some (Value.ref Dr) else if y = Str.ofString "closes" then some (Value.bool (Mine.isT R)) else if y = Str.ofString "row" then some (Value.ref D) else if y = Str.ofString "pick" then some (Value.int pk tp) else mr y) ∧ news = [(G, Mine.seqO bg us ng), (Dr, Mine.lstO ur nr), (D, Mine.lstO us n)])) ?_ ?_
  · repeat' ((fail_if_success (with_reducible show wpAny _ _ (call (Value.type "tuple") _) _ _ _)); (first | (k_unfold; (try dsimp only)) | (walk1 <;> (try dsimp only)) | (dsimp only; walk1) | (leave1; walk_say "STEP leave1"; try dsimp only) | fail "no step"))
    · refine Mine.tuple_L XL.hL F₈ N₈ (by k_mem : (D, Mine.lstO us n) ∈ _) (by omega) fun t h7 n7 F7 N7 h172 l7 => ?_
      (try dsimp only)
      k_steps
      rename_i F8 N8
      exact ⟨_, _, _, ⟨t, false, n7, h172, rfl, rfl⟩, tb₈, F8, Mine.news_pick N8 ⟨by k_mem, by k_mem, by k_mem, by k_mem, trivial⟩, hb₈, ho₈⟩
    · rename_i _ h7 F7 N7
      exact ⟨_, _, _, ⟨D, true, n, hD, rfl, rfl⟩, tb₈, F7, Mine.news_pick N7 ⟨by k_mem, by k_mem, by k_mem, by k_mem, trivial⟩, hb₈, ho₈⟩
  rintro s₉ ⟨_, _, ps₉, ⟨G, bg, ng, hG, rfl, rfl⟩, tb₉, F₉, N₉, hb₉, ho₉⟩
  clear F₈ N₈ tb₈
  have big₉ : Mine.AllBig [(G, Mine.seqO bg us ng), (Dr, Mine.lstO ur nr), (D, Mine.lstO us n)] := ⟨hG, hDr, hD, trivial⟩
  -- told
  refine Mine.cut (Mine.St g L s₁ (fun m news => ∃ tv, Mine.Told R tv ∧ m = (fun y => if y = Str.ofString "told" then some tv else if y = Str.ofString "given" then some (Value.ref G) else if y = Str.ofString "fair" then some (Value.bool (Mine.okN (Mine.remT R))) else if y = Str.ofString "rest" then some (Value.ref Dr) else if y = Str.ofString "closes" then some (Value.bool (Mine.isT R)) else if y = Str.ofString "row" then some (Value.ref D) else if y = Str.ofString "pick" then some (Value.int pk tp) else mr y) ∧ news = [(G, Mine.seqO bg us ng), (Dr, Mine.lstO ur nr), (D, Mine.lstO us n)])) ?_ ?_
  · k_steps
    refine Mine.c_encoded (Mine.fitL XL F₉ N₉ tb₉ hb₉ (.head _)) (Mine.stkL F₉) rfl (Mine.frame_at F₉).choose_spec XL.hL rfl (by ktr_room) (Mine.N_get N₉ (by k_mem : (G, Mine.seqO bg us ng) ∈ _)) hG hi5 (by omega) (fun t s' gu ok => ?_) (fun s' gu ok => ?_)
    all_goals (
      obtain ⟨ps', tb', F', N', hb', ho'⟩ := Mine.backU gu XL F₉ N₉ big₉ ho₉
      (try dsimp only)
      k_steps
      rename_i F8 N8)
    · exact ⟨_, _, _, ⟨_, .inl ⟨ok, _, rfl⟩, rfl, rfl⟩, tb', F8, N8, hb', ho'⟩
    · exact ⟨_, _, _, ⟨_, .inr ⟨ok, rfl⟩, rfl, rfl⟩, tb', F8, N8, hb', ho'⟩
  rintro s₁₀ ⟨_, _, ps₁₀, ⟨tv, hto, rfl, rfl⟩, tb₁₀, F₁₀, N₁₀, hb₁₀, ho₁₀⟩
  clear F₉ N₉ tb₉
  -- is_nibbles_terminated
  refine Mine.cutB (s₁ := s₁) F₁₀ N₁₀ ?_ ?_
  · k_steps
    refine Mine.c_ist (Mine.fitL XL F₁₀ N₁₀ tb₁₀ hb₁₀ (.head _)) (by ktr_room) (Mine.N_get N₁₀ (by k_mem : (G, Mine.seqO bg us ng) ∈ _)) hG hi5 (by omega) fun s' go => ?_
    obtain ⟨ps', tb', F', N', hb', ho'⟩ := Mine.backL go XL F₁₀ N₁₀ big₉ ho₁₀
    (try dsimp only)
    k_steps
    · rename_i hq
      simp at hq
    · rename_i hq
      simp at hq
    · exact ⟨ps', tb', F', N', hb', ho'⟩
  rintro s₁₁ ⟨ps₁₁, tb₁₁, F₁₁, N₁₁, hb₁₁, ho₁₁⟩
  clear F₁₀ N₁₀ tb₁₀
  -- add, remove
  refine Mine.cutB (s₁ := s₁) F₁₁ N₁₁ ?_ ?_
  · k_steps
    refine Mine.c_addT (Mine.fitL XL F₁₁ N₁₁ tb₁₁ hb₁₁ (.head _)) (by ktr_room) (Mine.N_get N₁₁ (by k_mem : (G, Mine.seqO bg us ng) ∈ _)) hG hi5 (by omega) ?_
    intro t1 ws1 n1 s1 go1 ht1 hi1 h1 hf1
    obtain ⟨ps', tb', F', N', hb', ho'⟩ := Mine.backT go1 XL F₁₁ N₁₁ big₉ ho₁₁ ht1 (hf1.elim (fun e => .inr ⟨_, e ▸ (by k_mem : (G, Mine.seqO bg us ng) ∈ _)⟩) .inl)
    clear F₁₁ N₁₁ hf1
    (try dsimp only)
    k_steps
    refine Mine.tuple_L XL.hL F' N' (by k_mem : (Dr, Mine.lstO ur nr) ∈ _) (by omega) fun t2 h2 n2 F2 N2 h172 l2 => ?_
    (try dsimp only)
    k_steps
    rename_i D3 h3 F3 N3 l3
    refine Mine.cat_tup (us := ur) (ws := [.int 16 _]) F3 N3 (by k_mem : (t2, Mine.tupO ur n2) ∈ _) (.head _) h172 (Nat.lt_trans h172 l3.1) (by simp only [List.length_cons, List.length_nil]; omega) ?_
    intro D4 n4 h4 F4 N4 hD4
    (try dsimp only)
    k_steps
    refine Mine.ne_tups (ns := Mine.addT R) (ms := Mine.remT R ++ [16]) (vs := ws1) ⟨_, (N4 _ (by k_mem : (t1, Mine.tupO ws1 n1) ∈ _)).1, rfl, _, rfl⟩ hi1 ⟨_, (N4 _ (.head _)).1, rfl, _, rfl⟩ (hir.append (.cons _ _ .nil)) (by units_room) ?_
    rw [Mine.addT_remT, decide_eq_true rfl]
    (try dsimp only)
    k_steps
    have N5 : News g L h4 [(61, Mine.tabOf ps'), (G, Mine.seqO bg us ng), (Dr, Mine.lstO ur nr), (D, Mine.lstO us n)] := Mine.news_pick N4 ⟨by k_mem, by k_mem, by k_mem, by k_mem, trivial⟩
    (try clear N4); (try clear N3); (try clear F3); (try clear N2); (try clear F2); (try clear N'); (try clear F')
    refine Mine.c_remT (Mine.fitL XL F4 N5 tb' hb' (.head _)) (by ktr_room) (Mine.N_get N5 (by k_mem : (G, Mine.seqO bg us ng) ∈ _)) hG hi5 (by omega) ?_
    intro t5 ws5 n5 s5 go5 ht5 hi6 h5 hf5
    obtain ⟨ps6, tb6, F6, N6, hb6, ho6⟩ := Mine.backT go5 XL F4 N5 big₉ ho' ht5 (hf5.elim (fun e => .inr ⟨_, e ▸ (by k_mem : (G, Mine.seqO bg us ng) ∈ _)⟩) .inl)
    clear F4 N5 hf5
    (try dsimp only)
    k_steps
    refine Mine.tuple_L XL.hL F6 N6 (by k_mem : (Dr, Mine.lstO ur nr) ∈ _) (by omega) fun t7 h7 n7 F7 N7 h172' l7 => ?_
    (try dsimp only)
    k_steps
    refine Mine.ne_tups (ns := Mine.remT R) (ms := Mine.remT R) (vs := ws5) (us := ur) ⟨_, (N7 _ (by k_mem : (t5, Mine.tupO ws5 n5) ∈ _)).1, rfl, _, rfl⟩ hi6 ⟨_, (N7 _ (.head _)).1, rfl, _, rfl⟩ hir (by units_room) ?_
    rw [decide_eq_true rfl]
    (try dsimp only)
    k_steps
    exact ⟨ps6, tb6, F7, Mine.news_pick N7 ⟨by k_mem, by k_mem, by k_mem, by k_mem, trivial⟩, hb6, ho6⟩
  rintro s₁₂ ⟨ps₁₂, tb₁₂, F₁₂, N₁₂, hb₁₂, ho₁₂⟩
  clear F₁₁ N₁₁ tb₁₁
  -- octets
  refine Mine.cutS (s₁ := s₁) (g := g) (L := L) (Str.ofString "octets") (Mine.OctP (Mine.remT R) [(G, Mine.seqO bg us ng), (Dr, Mine.lstO ur nr), (D, Mine.lstO us n)]) F₁₂ ?_ ?_
  · k_steps
    refine Mine.c_octets (b := true) (Mine.fitL XL F₁₂ N₁₂ tb₁₂ hb₁₂ (.head _)) (Mine.stkL F₁₂) rfl (Mine.frame_at F₁₂).choose_spec XL.hL rfl (by ktr_room) (Mine.N_get N₁₂ (by k_mem : (Dr, Mine.lstO ur nr) ∈ _)) hDr hir (by omega) (fun t s' gu ok ev => ?_) (fun s' gu ok => ?_)
    all_goals (
      obtain ⟨ps', tb', F', N', hb', ho'⟩ := Mine.backU gu XL F₁₂ N₁₂ big₉ ho₁₂
      (try dsimp only)
      k_steps
      rename_i F8 N8)
    · exact ⟨_, _, ⟨.inl ⟨ok, ev, _, rfl⟩, rfl⟩, ps', tb', F8, N8, hb', ho'⟩
    · exact ⟨_, _, ⟨.inr ⟨ok, rfl⟩, rfl⟩, ps', tb', F8, N8, hb', ho'⟩
  rintro s₁₃ ov _ ⟨hov, rfl⟩ ⟨ps₁₃, tb₁₃, F₁₃, N₁₃, hb₁₃, ho₁₃⟩
  clear F₁₂ N₁₂ tb₁₂
  cases hfair : Mine.okN (Mine.remT R)
  · -- not fair
    obtain ⟨h, _⟩ | ⟨_, rfl⟩ := hto
    · rw [hfair] at h; cases h
    obtain ⟨h, _⟩ | ⟨_, rfl⟩ := hov
    · rw [hfair] at h; cases h
    rw [hfair] at F₁₃
    k_steps
    exact Mine.law_end XL F₁₃ N₁₃ (.head _) hb₁₃ ho₁₃ (fun _ => rfl) (Mine.post_ok _)
  · obtain ⟨_, tt, rfl⟩ | ⟨h, _⟩ := hto
    rotate_left
    · rw [hfair] at h; cases h
    rw [hfair] at F₁₃
    refine Mine.cutB (s₁ := s₁) F₁₃ N₁₃ ?_ ?_
    · k_steps
      exact ⟨ps₁₃, tb₁₃, F₁₃, N₁₃, hb₁₃, ho₁₃⟩
    rintro s₁₄ ⟨ps₁₄, tb₁₄, F₁₄, N₁₄, hb₁₄, ho₁₄⟩
    clear F₁₃ N₁₃ tb₁₃
    have hbs : (Mine.encB R).size < 100 := by have := Mine.encB_le R; omega
    have hbp := Mine.encB_pos R
    -- told against _law_packed, decode_nibbles
    refine Mine.cutB (s₁ := s₁) F₁₄ N₁₄ ?_ ?_
    · k_steps
      all_goals (
        rename_i hT
        refine Mine.c_packed (b := true) (Mine.fitL XL F₁₄ N₁₄ tb₁₄ hb₁₄ (.head _)) rfl (by ktr_room) (Mine.N_get N₁₄ (by k_mem : (Dr, Mine.lstO ur nr) ∈ _)) hDr hir (by omega) (by decide) hfair (fun t s' go => ?_)
        obtain ⟨ps', tb', F', N', hb', ho'⟩ := Mine.backL go XL F₁₄ N₁₄ big₉ ho₁₄
        (try dsimp only)
        first | rw [Mine.enc_T hT] | rw [Mine.enc_F hT]
        k_steps
        · rename_i hq
          simp at hq
        · rename_i hq
          simp at hq
        refine Mine.c_dec (Mine.fitL XL F' N' tb' hb' (.head _)) rfl (by ktr_room) (by omega) hbp ?_
        intro t5 ws5 n5 s5 go5 ht5 hi6 h5 hf5
        rw [Mine.dec_enc hfair] at hi6
        obtain ⟨ps6, tb6, F6, N6, hb6, ho6⟩ := Mine.backT go5 XL F' N' big₉ ho' ht5 (.inl hf5)
        clear F' N' hf5 F₁₄ N₁₄
        (try dsimp only)
        k_steps
        refine Mine.tuple_L XL.hL F6 N6 (by k_mem : (D, Mine.lstO us n) ∈ _) (by omega) fun t7 h7 n7 F7 N7 h172' l7 => ?_
        (try dsimp only)
        k_steps
        refine Mine.ne_tups (ns := R) (ms := R) (vs := ws5) (us := us) ⟨_, (N7 _ (by k_mem : (t5, Mine.tupO ws5 n5) ∈ _)).1, rfl, _, rfl⟩ hi6 ⟨_, (N7 _ (.head _)).1, rfl, _, rfl⟩ hi5 (by units_room) ?_
        rw [decide_eq_true rfl]
        (try dsimp only)
        k_steps
        exact ⟨ps6, tb6, F7, Mine.news_pick N7 ⟨by k_mem, by k_mem, by k_mem, by k_mem, trivial⟩, hb6, ho6⟩)
    rintro s₁₅ ⟨ps₁₅, tb₁₅, F₁₅, N₁₅, hb₁₅, ho₁₅⟩
    clear F₁₄ N₁₄ tb₁₄
    -- bytes_to_nibbles against _law_halves
    refine Mine.cutB (s₁ := s₁) F₁₅ N₁₅ ?_ ?_
    · k_steps
      refine Mine.c_b2n (Mine.fitL XL F₁₅ N₁₅ tb₁₅ hb₁₅ (.head _)) rfl (by ktr_room) (by omega) ?_
      intro t5 ws5 n5 s5 go5 ht5 hi6 h5 hf5
      obtain ⟨ps6, tb6, F6, N6, hb6, ho6⟩ := Mine.backT go5 XL F₁₅ N₁₅ big₉ ho₁₅ ht5 (.inl hf5)
      clear hf5
      (try dsimp only)
      k_steps
      refine Mine.c_halves (Mine.fitL XL F6 N6 tb6 hb6 (.head _)) rfl (by ktr_room) (by omega) ?_
      intro t7 ws7 n7 s7 go7 ht7 hi7 h7 hf7
      obtain ⟨ps8, tb8, F8, N8, hb8, ho8⟩ := Mine.backT go7 XL F6 N6 ⟨h5, big₉⟩ ho6 ht7 (.inl hf7)
      clear hf7 F6 N6
      (try dsimp only)
      k_steps
      refine Mine.ne_tups (ns := Mine.b2n (KBw.bInts (Mine.encB R))) (ms := Mine.b2n (KBw.bInts (Mine.encB R))) (vs := ws5) (us := ws7) ⟨_, (N8 _ (by k_mem : (t5, Mine.tupO ws5 n5) ∈ _)).1, rfl, _, rfl⟩ hi6 ⟨_, (N8 _ (by k_mem : (t7, Mine.tupO ws7 n7) ∈ _)).1, rfl, _, rfl⟩ hi7 (by units_room) ?_
      rw [decide_eq_true rfl]
      (try dsimp only)
      k_steps
      exact ⟨ps8, tb8, F8, Mine.news_pick N8 ⟨by k_mem, by k_mem, by k_mem, by k_mem, trivial⟩, hb8, ho8⟩
    rintro s₁₆ ⟨ps₁₆, tb₁₆, F₁₆, N₁₆, hb₁₆, ho₁₆⟩
    clear F₁₅ N₁₅ tb₁₅
    -- octets
    refine Mine.cutB (s₁ := s₁) F₁₆ N₁₆ ?_ ?_
    · obtain ⟨_, hev, to, rfl⟩ | ⟨hev, rfl⟩ := hov
      · have hf := Mine.fmod2 (Mine.remT R).length
        have hsz : (byteArr (Mine.pack (Mine.remT R))).size < 100 := by rw [Mine.byteArr_size, Mine.pack_len]; omega
        k_steps
        · rename_i hq
          omega
        · rename_i hq
          omega
        refine Mine.c_halves (Mine.fitL XL F₁₆ N₁₆ tb₁₆ hb₁₆ (.head _)) rfl (by ktr_room) (by omega) ?_
        intro t5 ws5 n5 s5 go5 ht5 hi6 h5 hf5
        rw [Mine.round hfair hev] at hi6
        obtain ⟨ps6, tb6, F6, N6, hb6, ho6⟩ := Mine.backT go5 XL F₁₆ N₁₆ big₉ ho₁₆ ht5 (.inl hf5)
        clear hf5 F₁₆ N₁₆
        (try dsimp only)
        k_steps
        refine Mine.tuple_L XL.hL F6 N6 (by k_mem : (Dr, Mine.lstO ur nr) ∈ _) (by omega) fun t7 h7 n7 F7 N7 h172' l7 => ?_
        (try dsimp only)
        k_steps
        refine Mine.ne_tups (ns := Mine.remT R) (ms := Mine.remT R) (vs := ws5) (us := ur) ⟨_, (N7 _ (by k_mem : (t5, Mine.tupO ws5 n5) ∈ _)).1, rfl, _, rfl⟩ hi6 ⟨_, (N7 _ (.head _)).1, rfl, _, rfl⟩ hir (by units_room) ?_
        rw [decide_eq_true rfl]
        (try dsimp only)
        k_steps
        have N8 : News g L h7 [(61, Mine.tabOf ps6), (G, Mine.seqO bg us ng), (Dr, Mine.lstO ur nr), (D, Mine.lstO us n)] := Mine.news_pick N7 ⟨by k_mem, by k_mem, by k_mem, by k_mem, trivial⟩
        clear N7 F6 N6
        refine Mine.c_b2n (Mine.fitL XL F7 N8 tb6 hb6 (.head _)) rfl (by ktr_room) (by omega) ?_
        intro t15 ws15 n15 s15 go15 ht15 hi16 h15 hf15
        rw [Mine.round hfair hev] at hi16
        obtain ⟨ps16, tb16, F16, N16, hb16, ho16⟩ := Mine.backT go15 XL F7 N8 big₉ ho6 ht15 (.inl hf15)
        clear hf15 F7 N8
        (try dsimp only)
        k_steps
        refine Mine.tuple_L XL.hL F16 N16 (by k_mem : (Dr, Mine.lstO ur nr) ∈ _) (by omega) fun t17 h17 n17 F17 N17 h172'' l17 => ?_
        (try dsimp only)
        k_steps
        refine Mine.ne_tups (ns := Mine.remT R) (ms := Mine.remT R) (vs := ws15) (us := ur) ⟨_, (N17 _ (by k_mem : (t15, Mine.tupO ws15 n15) ∈ _)).1, rfl, _, rfl⟩ hi16 ⟨_, (N17 _ (.head _)).1, rfl, _, rfl⟩ hir (by units_room) ?_
        rw [decide_eq_true rfl]
        (try dsimp only)
        k_steps
        exact ⟨ps16, tb16, F17, Mine.news_pick N17 ⟨by k_mem, by k_mem, by k_mem, by k_mem, trivial⟩, hb16, ho16⟩
      · have hf := Mine.fmod2 (Mine.remT R).length
        rw [hfair] at hev
        have hev : (Mine.remT R).length % 2 ≠ 0 := by simpa using hev
        k_steps
        · rename_i hq
          omega
        · rename_i hq
          omega
        exact ⟨ps₁₆, tb₁₆, F₁₆, N₁₆, hb₁₆, ho₁₆⟩
    rintro s₁₇ ⟨ps₁₇, tb₁₇, F₁₇, N₁₇, hb₁₇, ho₁₇⟩
    clear F₁₆ N₁₆ tb₁₆
    have hrr : Mine.remT (Mine.remT R) = Mine.remT R := Mine.remT_ok hfair
    have hra : Mine.remT (Mine.addT (Mine.remT R)) = Mine.remT R := Mine.remT_addT hfair
    -- leaf
    refine Mine.cutS (s₁ := s₁) (g := g) (L := L) (Str.ofString "leaf") (Mine.NodeP (Mine.encB (Mine.addT (Mine.remT R))) [(G, Mine.seqO bg us ng), (Dr, Mine.lstO ur nr), (D, Mine.lstO us n)]) F₁₇ ?_ ?_
    · k_steps
      refine Mine.c_leaf (b := true) (Mine.fitL XL F₁₇ N₁₇ tb₁₇ hb₁₇ (.head _)) (Mine.stkL F₁₇) rfl (by ktr_room) (Mine.N_get N₁₇ (by k_mem : (Dr, Mine.lstO ur nr) ∈ _)) hDr hir (by omega) (by rw [hra]; exact hfair) (fun t s' go => ?_)
      obtain ⟨ps', tb', F', N', hb', ho'⟩ := Mine.backL go XL F₁₇ N₁₇ big₉ ho₁₇
      (try dsimp only)
      k_steps
      rename_i A8 _ l8 h8 F8 N8
      exact ⟨_, _, ⟨A8, _, _, rfl, Nat.lt_trans hD l8.2.2.2, rfl⟩, ps', tb', F8, Mine.news_swap N8, hb', ho'⟩
    rintro s₁₈ _ _ ⟨A, tA, qA, rfl, hA, rfl⟩ ⟨ps₁₈, tb₁₈, F₁₈, N₁₈, hb₁₈, ho₁₈⟩
    clear F₁₇ N₁₇ tb₁₇
    -- extension
    refine Mine.cutS (s₁ := s₁) (g := g) (L := L) (Str.ofString "extension") (Mine.NodeP (Mine.encB (Mine.remT R)) [(A, Mine.nodeO (Mine.encB (Mine.addT (Mine.remT R))) tA (.bytes #[120] qA) 0), (G, Mine.seqO bg us ng), (Dr, Mine.lstO ur nr), (D, Mine.lstO us n)]) F₁₈ ?_ ?_
    · k_steps
      refine Mine.c_ext (b := true) (Mine.fitL XL F₁₈ N₁₈ tb₁₈ hb₁₈ (.head _)) (Mine.stkL F₁₈) rfl (by ktr_room) (Mine.N_get N₁₈ (by k_mem : (Dr, Mine.lstO ur nr) ∈ _)) hDr hir (by omega) (by rw [hrr]; exact hfair) (fun t s' go => ?_)
      obtain ⟨ps', tb', F', N', hb', ho'⟩ := Mine.backL go XL F₁₈ N₁₈ ⟨hA, big₉⟩ ho₁₈
      (try dsimp only)
      k_steps
      rename_i A8 _ l8 h8 F8 N8
      exact ⟨_, _, ⟨A8, _, _, rfl, Nat.lt_trans hD l8.2.2.2.2, rfl⟩, ps', tb', F8, Mine.news_swap N8, hb', ho'⟩
    rintro s₁₉ _ _ ⟨X, tX, qX, rfl, hX, rfl⟩ ⟨ps₁₉, tb₁₉, F₁₉, N₁₉, hb₁₉, ho₁₉⟩
    clear F₁₈ N₁₈ tb₁₈
    have big₁₉ : Mine.AllBig [(X, Mine.nodeO (Mine.encB (Mine.remT R)) tX (.bytes #[120] qX) 0), (A, Mine.nodeO (Mine.encB (Mine.addT (Mine.remT R))) tA (.bytes #[120] qA) 0), (G, Mine.seqO bg us ng), (Dr, Mine.lstO ur nr), (D, Mine.lstO us n)] := ⟨hX, hA, big₉⟩
    -- leaf[0], extension[0] against _law_packed
    refine Mine.cutB (s₁ := s₁) F₁₉ N₁₉ ?_ ?_
    · have hp1 : byteArr (Mine.pack (Mine.rowP 1 (Mine.remT R))) = Mine.encB (Mine.addT (Mine.remT R)) := by
        have h := Mine.enc_T (Mine.isT_addT (Mine.remT R))
        rwa [hra] at h
      have hp0 : byteArr (Mine.pack (Mine.rowP 0 (Mine.remT R))) = Mine.encB (Mine.remT R) := by
        have h := Mine.enc_F (Mine.okN_notT hfair)
        rwa [hrr] at h
      k_steps
      refine Mine.c_packed (b := true) (Mine.fitL XL F₁₉ N₁₉ tb₁₉ hb₁₉ (.head _)) rfl (by ktr_room) (Mine.N_get N₁₉ (by k_mem : (Dr, Mine.lstO ur nr) ∈ _)) hDr hir (by omega) (by decide) hfair (fun t s' go => ?_)
      obtain ⟨ps', tb', F', N', hb', ho'⟩ := Mine.backL go XL F₁₉ N₁₉ big₁₉ ho₁₉
      clear F₁₉ N₁₉
      (try dsimp only)
      rw [hp1]
      k_steps
      · rename_i hq
        simp at hq
      · rename_i hq
        simp at hq
      refine Mine.c_packed (b := true) (Mine.fitL XL F' N' tb' hb' (.head _)) rfl (by ktr_room) (Mine.N_get N' (by k_mem : (Dr, Mine.lstO ur nr) ∈ _)) hDr hir (by omega) (by decide) hfair (fun t s' go => ?_)
      obtain ⟨ps6, tb6, F6, N6, hb6, ho6⟩ := Mine.backL go XL F' N' big₁₉ ho'
      clear F' N'
      (try dsimp only)
      rw [hp0]
      k_steps
      · rename_i hq
        simp at hq
      · rename_i hq
        simp at hq
      exact ⟨ps6, tb6, F6, N6, hb6, ho6⟩
    rintro s₂₀ ⟨ps₂₀, tb₂₀, F₂₀, N₂₀, hb₂₀, ho₂₀⟩
    clear F₁₉ N₁₉ tb₁₉
    have hdl : Mine.decL (Mine.b2n (KBw.bInts (Mine.encB (Mine.addT (Mine.remT R))))) = Mine.addT (Mine.remT R) := Mine.dec_enc (by rw [hra]; exact hfair)
    have hdx : Mine.decL (Mine.b2n (KBw.bInts (Mine.encB (Mine.remT R)))) = Mine.remT R := Mine.dec_enc (by rw [hrr]; exact hfair)
    have htx := Mine.okN_notT hfair
    have hsl : (Mine.encB (Mine.addT (Mine.remT R))).size < 100 := by
      have h1 := Mine.encB_le (Mine.addT (Mine.remT R))
      have h2 := Mine.addT_len (Mine.remT R)
      omega
    have hsx : (Mine.encB (Mine.remT R)).size < 100 := by have := Mine.encB_le (Mine.remT R); omega
    have hpl := Mine.encB_pos (Mine.addT (Mine.remT R))
    have hpx := Mine.encB_pos (Mine.remT R)
    -- a leaf, an extension
    refine Mine.cutB (s₁ := s₁) F₂₀ N₂₀ ?_ ?_
    · k_steps
      refine Mine.c_isleaf (Mine.fitL XL F₂₀ N₂₀ tb₂₀ hb₂₀ (.head _)) rfl (by ktr_room) (Mine.N_get N₂₀ (by k_mem : (A, Mine.nodeO (Mine.encB (Mine.addT (Mine.remT R))) tA (.bytes #[120] qA) 0) ∈ _)) hA (by omega) hpl (fun s' go => ?_)
      obtain ⟨ps', tb', F', N', hb', ho'⟩ := Mine.backL go XL F₂₀ N₂₀ big₁₉ ho₂₀
      clear F₂₀ N₂₀
      (try dsimp only)
      rw [hdl, Mine.isT_addT]
      k_steps
      refine Mine.c_isleaf (Mine.fitL XL F' N' tb' hb' (.head _)) rfl (by ktr_room) (Mine.N_get N' (by k_mem : (X, Mine.nodeO (Mine.encB (Mine.remT R)) tX (.bytes #[120] qX) 0) ∈ _)) hX (by omega) hpx (fun s' go => ?_)
      obtain ⟨ps2, tb2, F2, N2, hb2, ho2⟩ := Mine.backL go XL F' N' big₁₉ ho'
      clear F' N'
      (try dsimp only)
      rw [hdx, htx]
      k_steps
      refine Mine.c_isext (Mine.fitL XL F2 N2 tb2 hb2 (.head _)) rfl (by ktr_room) (Mine.N_get N2 (by k_mem : (A, Mine.nodeO (Mine.encB (Mine.addT (Mine.remT R))) tA (.bytes #[120] qA) 0) ∈ _)) hA (by omega) hpl (fun s' go => ?_)
      obtain ⟨ps3, tb3, F3, N3, hb3, ho3⟩ := Mine.backL go XL F2 N2 big₁₉ ho2
      clear F2 N2
      (try dsimp only)
      rw [hdl, Mine.isT_addT]
      k_steps
      refine Mine.c_isext (Mine.fitL XL F3 N3 tb3 hb3 (.head _)) rfl (by ktr_room) (Mine.N_get N3 (by k_mem : (X, Mine.nodeO (Mine.encB (Mine.remT R)) tX (.bytes #[120] qX) 0) ∈ _)) hX (by omega) hpx (fun s' go => ?_)
      obtain ⟨ps4, tb4, F4, N4, hb4, ho4⟩ := Mine.backL go XL F3 N3 big₁₉ ho3
      clear F3 N3
      (try dsimp only)
      rw [hdx, htx]
      k_steps
      exact ⟨ps4, tb4, F4, N4, hb4, ho4⟩
    rintro s₂₁ ⟨ps₂₁, tb₂₁, F₂₁, N₂₁, hb₂₁, ho₂₁⟩
    clear F₂₀ N₂₀ tb₂₀
    -- the keys
    k_steps
    refine Mine.c_key (Mine.fitL XL F₂₁ N₂₁ tb₂₁ hb₂₁ (.head _)) rfl (by ktr_room) (Mine.N_get N₂₁ (by k_mem : (A, Mine.nodeO (Mine.encB (Mine.addT (Mine.remT R))) tA (.bytes #[120] qA) 0) ∈ _)) hA (by omega) hpl ?_
    intro t5 ws5 n5 s5 go5 ht5 hi6 h5 hf5
    rw [hdl, hra] at hi6
    obtain ⟨ps6, tb6, F6, N6, hb6, ho6⟩ := Mine.backT go5 XL F₂₁ N₂₁ big₁₉ ho₂₁ ht5 (.inl hf5)
    clear F₂₁ N₂₁ hf5
    (try dsimp only)
    k_steps
    refine Mine.tuple_L XL.hL F6 N6 (by k_mem : (Dr, Mine.lstO ur nr) ∈ _) (by omega) fun t7 h7 n7 F7 N7 h172' l7 => ?_
    (try dsimp only)
    k_steps
    refine Mine.eq_tups (ns := Mine.remT R) (ms := Mine.remT R) (vs := ws5) (us := ur) ⟨_, (N7 _ (by k_mem : (t5, Mine.tupO ws5 n5) ∈ _)).1, rfl, _, rfl⟩ hi6 ⟨_, (N7 _ (.head _)).1, rfl, _, rfl⟩ hir (by units_room) ?_
    rw [decide_eq_true rfl]
    (try dsimp only)
    k_steps
    have N8 : News g L h7 [(61, Mine.tabOf ps6), (X, Mine.nodeO (Mine.encB (Mine.remT R)) tX (.bytes #[120] qX) 0), (A, Mine.nodeO (Mine.encB (Mine.addT (Mine.remT R))) tA (.bytes #[120] qA) 0), (G, Mine.seqO bg us ng), (Dr, Mine.lstO ur nr), (D, Mine.lstO us n)] := Mine.news_pick N7 ⟨by k_mem, by k_mem, by k_mem, by k_mem, by k_mem, by k_mem, trivial⟩
    clear N7 F6 N6
    refine Mine.c_key (Mine.fitL XL F7 N8 tb6 hb6 (.head _)) rfl (by ktr_room) (Mine.N_get N8 (by k_mem : (X, Mine.nodeO (Mine.encB (Mine.remT R)) tX (.bytes #[120] qX) 0) ∈ _)) hX (by omega) hpx ?_
    intro t15 ws15 n15 s15 go15 ht15 hi16 h15 hf15
    rw [hdx, hrr] at hi16
    obtain ⟨ps16, tb16, F16, N16, hb16, ho16⟩ := Mine.backT go15 XL F7 N8 big₁₉ ho6 ht15 (.inl hf15)
    clear hf15 F7 N8
    (try dsimp only)
    k_steps
    refine Mine.tuple_L XL.hL F16 N16 (by k_mem : (Dr, Mine.lstO ur nr) ∈ _) (by omega) fun t17 h17 n17 F17 N17 h172'' l17 => ?_
    (try dsimp only)
    k_steps
    refine Mine.eq_tups (ns := Mine.remT R) (ms := Mine.remT R) (vs := ws15) (us := ur) ⟨_, (N17 _ (by k_mem : (t15, Mine.tupO ws15 n15) ∈ _)).1, rfl, _, rfl⟩ hi16 ⟨_, (N17 _ (.head _)).1, rfl, _, rfl⟩ hir (by units_room) ?_
    rw [decide_eq_true rfl]
    (try dsimp only)
    k_steps
    exact Mine.law_end XL F17 N17 (.tail _ (.head _)) hb16 ho16 (fun _ => rfl) (Mine.post_ok _)

theorem PySem.Challenge.cw_iu0033_01_holds : PySem.Challenge.rw_iu0033_01.Holds := by
  exact Mine.law_holds
