import PyProof.Rows.All
import Wide.All
import OpenK.AllK
import Wide.FinOn
import PySem.Challenge.RW_je0022_01
open PySem PySem.W PyProof.Rows
set_option Elab.async false
set_option maxRecDepth 100000
set_option linter.all false
local macro_rules | `(tactic| omega) => `(tactic| lia)
namespace Mine
def tabO : Obj := { cls := .none, data := .fields #[] }
def K2 (K : Params → Frag) (P : Params) : Frag := (162, tabO) :: (226, tabO) :: K P
def hookT (K : Params → Frag) (x : { as : List Addr // ∀ P, as = (K P).map (·.1) }) : Hook := kHook (K2 K) (162 :: 226 :: x.1) fun P => by rw [x.2 P]; rfl
def isBound : Stmt → Bool
  | .Assign .. => false
  | _ => true
def vw : Program := { PySem.Challenge.pw_je0022_01 with main := { PySem.Challenge.pw_je0022_01.main with body := PySem.Challenge.pw_je0022_01.main.body.filter isBound } }
abbrev rr : RowW := OpenRow.toRowW (OpenLaw.row PySem.Challenge.rw_je0022_01)
theorem said1 : PySem.Challenge.rw_je0022_01.wellSaid = true := by
  rw [PySem.W.Fast.te9446332074065402090]
  kernel_rfl
local macro_rules | `(tactic| o_law) => `(tactic| refine holds_law Mine.said1 fun said => ?_)
local macro_rules | `(tactic| o_head ($_f $K $as $e)) => do
  let hw := Lean.mkIdent `hw
  let hc := Lean.mkIdent `hc
  `(tactic| refine holds_open (q := Mine.vw) (loose := []) (Xt := fun s => xlAt Mine.vw [] s && recOk (RowW.records Mine.rr) s) (XP := XL Mine.vw []) (Yf := Hook.obs (Mine.hookT $K ⟨$as, $e⟩)) (Ya := Hook.val (Mine.hookT $K ⟨$as, $e⟩)) (YP := Hook.says (Mine.hookT $K ⟨$as, $e⟩)) (N := 4106) (fun w => by
    unfold openEnds fencedOpening topFrom
    rw [PySem.W.Fast.te10274390034422433532, PySem.W.Fast.te14082659384304107361, PySem.W.Fast.te4187177175401517315, PySem.W.Fast.te1435165496053646825, PySem.W.Fast.te14289696077712309145, PySem.W.Fast.te14364793385576792824]
    kernel_rfl) (Hook.of (Mine.hookT $K ⟨$as, $e⟩)) (Hook.keeps (Mine.hookT $K ⟨$as, $e⟩)) (fun s e => xl_of s (Bool.and_eq_true_iff.mp e).1) XL.keeps (by rfl) (by rfl) (by rfl) (fun s e => recFacts_of (Bool.and_eq_true_iff.mp e).2) (by rfl) (by assumption) (by decide +kernel) ⟨rfl, rfl, rfl, rfl, rfl, by decide +kernel⟩ ?$hw ?$hc)
set_option maxHeartbeats 8000000 in
open_top hd for PySem.Challenge.rw_je0022_01
end Mine
open PySem.Calls PySem.Spec
namespace Mine

noncomputable abbrev prg : Program := PySem.Challenge.rw_je0022_01.row.toRowW.prog

noncomputable def Sub (g h : Heap) : Prop := ∀ b o, g.get? b = some o → h.get? b = some o
theorem Sub.refl (g : Heap) : Sub g g := fun _ _ e => e
theorem Sub.trans {a b c : Heap} (x : Sub a b) (y : Sub b c) : Sub a c := fun _ _ e => y _ _ (x _ _ e)
theorem Sub.hide {h : Heap} (l : List Addr) : Sub (hideAll h l) h := fun _ _ e => of_hideAll l e
theorem Sub.toHide {g h : Heap} {l : List Addr} (x : Sub g h) (o : ∀ b ∈ l, g.get? b = none) : Sub g (hideAll h l) :=
  fun b ob e => hideAll_get _ (x b ob e) fun m => by rw [o b m] at e; cases e

structure Grow (X : List Addr) (g : Heap) (s : Shared) (g' : Heap) (s' : Shared) : Prop where
  sub : Sub g g'
  in_ : Sub g' s'.heap
  keep : ∀ b o, b ∉ X → s.heap.get? b = some o → s'.heap.get? b = some o
  fresh : ∀ b o, g'.get? b = some o → g.get? b = some o ∨ s.heap.get? b = none
  gens : ∀ (i : Nat) x, s.gens[i]? = some x → s'.gens[i]? = some x
  bare : AllBare s.gens → AllBare s'.gens
  os : s'.os = s.os

theorem none_of {h : Heap} {a : Addr} (e : ∀ o, h.get? a ≠ some o) : h.get? a = none := by
  cases q : h.get? a with
  | none => rfl
  | some o => exact absurd q (e o)
theorem Grow.trans {X Y : List Addr} {g g' g'' : Heap} {s s' s'' : Shared} (x : Grow X g s g' s') (y : Grow Y g' s' g'' s'')
    (hY : ∀ b ∈ Y, b ∈ X ∨ s.heap.get? b = none) (hx : ∀ b ∈ X, (s'.heap.get? b).isSome = true) : Grow X g s g'' s'' where
  sub := x.sub.trans y.sub
  in_ := y.in_
  keep := fun b o hb e => y.keep b o (fun m => (hY b m).elim hb fun q => by rw [q] at e; cases e) (x.keep b o hb e)
  fresh := fun b o e => by
    rcases y.fresh b o e with h | h
    · exact x.fresh b o h
    · refine .inr (none_of fun o' q => ?_)
      by_cases hb : b ∈ X
      · have := hx b hb; rw [h] at this; cases this
      · rw [x.keep b o' hb q] at h; cases h
  gens := fun i z e => y.gens i z (x.gens i z e)
  bare := fun h => y.bare (x.bare h)
  os := y.os.trans x.os
theorem Grow.toks {X : List Addr} {g g' : Heap} {s s' : Shared} (x : Grow X g s g' s') (t : Nat) : Grow X g s g' { s' with toks := t } :=
  ⟨x.sub, x.in_, x.keep, x.fresh, x.gens, x.bare, x.os⟩


noncomputable def restrict (h : Heap) (q : Addr → Bool) : Heap := hideAll h ((List.range h.objs.size).filter fun b => !q b)
theorem restrict_some {h : Heap} {q : Addr → Bool} {b : Addr} {o : Obj} : (restrict h q).get? b = some o ↔ h.get? b = some o ∧ q b = true := by
  constructor
  · intro e
    have e1 := of_hideAll _ e
    refine ⟨e1, ?_⟩
    cases hq : q b with
    | true => rfl
    | false =>
      have : b ∈ (List.range h.objs.size).filter fun b => !q b := List.mem_filter.mpr ⟨List.mem_range.mpr (Heap.lt_size e1), by rw [hq]; rfl⟩
      have := hideAll_none (h := h) _ this
      unfold restrict at e
      rw [e] at this; cases this
  · rintro ⟨e, hq⟩
    exact hideAll_get _ e fun hm => by
      have := (List.mem_filter.mp hm).2
      rw [hq] at this; cases this

structure St (X : List Addr) (g₀ : Heap) (s₀ : Shared) (L : Addr) (g : Heap) (s : Shared) (m : Str → Option Value) (ow : List (Addr × Obj)) : Prop where
  grow : Grow X g₀ s₀ g s
  ns : s.heap.Ns L m
  offL : g.get? L = none
  newL : s₀.heap.get? L = none
  own : ∀ p ∈ ow, s.heap.get? p.1 = some p.2 ∧ p.1 ≠ L ∧ g.get? p.1 = none ∧ (p.1 ∈ X ∨ s₀.heap.get? p.1 = none)
  nd : (ow.map (fun p => p.1)).Nodup
  xin : ∀ b ∈ X, (s.heap.get? b).isSome = true
  lo : 353 ≤ L

section
variable {X : List Addr} {g₀ g : Heap} {s₀ s : Shared} {L : Addr} {m : Str → Option Value} {ow : List (Addr × Obj)}

theorem St.in_ (S : St X g₀ s₀ L g s m ow) : Sub g s.heap := S.grow.in_
theorem St.get (S : St X g₀ s₀ L g s m ow) {a : Addr} {o : Obj} (h : (a, o) ∈ ow) : s.heap.get? a = some o := (S.own _ h).1
theorem St.back (S : St X g₀ s₀ L g s m ow) {b : Addr} (e : s.heap.get? b = none) : s₀.heap.get? b = none := none_of fun o q => by
  by_cases hb : b ∈ X
  · have := S.xin b hb; rw [e] at this; cases this
  · rw [S.grow.keep b o hb q] at e; cases e
theorem St.toks (S : St X g₀ s₀ L g s m ow) (t : Nat) : St X g₀ s₀ L g { s with toks := t } m ow :=
  ⟨S.grow.toks t, S.ns, S.offL, S.newL, S.own, S.nd, S.xin, S.lo⟩

theorem St.sameBut (S : St X g₀ s₀ L g s m ow) {a : Addr} {h' : Heap} (hs : Heap.SameBut a s.heap h')
    (hg : g.get? a = none) (hX : a ∈ X ∨ s₀.heap.get? a = none) : Grow X g₀ s₀ g { s with heap := h' } where
  sub := S.grow.sub
  in_ := fun b o e => (hs.2 b (by rintro rfl; rw [hg] at e; cases e)).trans (S.in_ b o e)
  keep := fun b o hb e => (hs.2 b (by rintro rfl; exact hX.elim hb fun q => by rw [q] at e; cases e)).trans (S.grow.keep b o hb e)
  fresh := S.grow.fresh
  gens := S.grow.gens
  bare := S.grow.bare
  os := S.grow.os
theorem xin_same {a : Addr} {h h' : Heap} (hs : Heap.SameBut a h h') (ha : (h'.get? a).isSome = true) (x : ∀ b ∈ X, (h.get? b).isSome = true) : ∀ b ∈ X, (h'.get? b).isSome = true := fun b hb => by
  by_cases e : b = a
  · rw [e]; exact ha
  · rw [hs.2 b e]; exact x b hb
theorem St.setL (S : St X g₀ s₀ L g s m ow) {h' : Heap} {m' : Str → Option Value} (hn : h'.Ns L m') (hs : Heap.SameBut L s.heap h') :
    St X g₀ s₀ L g { s with heap := h' } m' ow :=
  ⟨S.sameBut hs S.offL (.inr S.newL), hn, S.offL, S.newL,
    fun p hp => ⟨(hs.2 _ (S.own p hp).2.1).trans (S.own p hp).1, (S.own p hp).2⟩, S.nd, xin_same hs (by obtain ⟨o, _, _, ho, _⟩ := hn; rw [ho]; rfl) S.xin, S.lo⟩

theorem get_push_size_none (h : Heap) : h.get? h.objs.size = none := none_of fun _ e => absurd (Heap.lt_size e) (Nat.lt_irrefl _)
theorem get_push_none {h : Heap} {o : Obj} {b : Addr} (e : (h.push o).get? b = none) : h.get? b = none := by
  cases q : h.get? b with
  | none => rfl
  | some o' => rw [Heap.get?_push_of_some _ q] at e; cases e

theorem St.push (S : St X g₀ s₀ L g s m ow) (o : Obj) (hf : o.isFreed = false := by rfl) :
    St X g₀ s₀ L g { s with heap := s.heap.push o } m ((s.heap.objs.size, o) :: ow) where
  grow := ⟨S.grow.sub, fun b ob e => Heap.get?_push_of_some _ (S.in_ b ob e), fun b ob hb e => Heap.get?_push_of_some _ (S.grow.keep b ob hb e), S.grow.fresh, S.grow.gens, S.grow.bare, S.grow.os⟩
  ns := S.ns.push _
  offL := S.offL
  newL := S.newL
  own := fun p hp => by
    rcases List.mem_cons.mp hp with rfl | hp
    · refine ⟨Heap.get?_push_size _ hf, fun e => ?_, none_of fun o e => absurd (Heap.lt_size (S.in_ _ _ e)) (Nat.lt_irrefl _), .inr (S.back (get_push_size_none _))⟩
      obtain ⟨oL, _, _, hL, _⟩ := S.ns
      exact absurd (Heap.lt_size hL) (by rw [← e]; exact Nat.lt_irrefl _)
    · exact ⟨Heap.get?_push_of_some _ (S.own p hp).1, (S.own p hp).2⟩
  nd := by
    refine List.nodup_cons.mpr ⟨fun hm => ?_, S.nd⟩
    obtain ⟨p, hp, e⟩ := List.mem_map.mp hm
    exact absurd (Heap.lt_size (S.own p hp).1) (by rw [e]; exact Nat.lt_irrefl _)
  xin := fun b hb => by
    obtain ⟨o', h⟩ := Option.isSome_iff_exists.mp (S.xin b hb)
    dsimp only
    rw [Heap.get?_push_of_some _ h]; rfl
  lo := S.lo

theorem St.sub {ow' : List (Addr × Obj)} (S : St X g₀ s₀ L g s m ow) (hs : ∀ p ∈ ow', p ∈ ow) (hn : (ow'.map (fun p => p.1)).Nodup) : St X g₀ s₀ L g s m ow' :=
  ⟨S.grow, S.ns, S.offL, S.newL, fun q hq => S.own q (hs q hq), hn, S.xin, S.lo⟩
theorem St.drop {p : Addr × Obj} (S : St X g₀ s₀ L g s m (p :: ow)) : St X g₀ s₀ L g s m ow :=
  S.sub (fun _ h => .tail _ h) (List.nodup_cons.mp S.nd).2
theorem St.perm {ow' : List (Addr × Obj)} (S : St X g₀ s₀ L g s m ow) (hs : ow'.Perm ow) : St X g₀ s₀ L g s m ow' :=
  S.sub (fun _ h => hs.mem_iff.mp h) ((hs.map _).nodup_iff.mpr S.nd)

theorem St.freezes {fz : List (Addr × Obj)} (S : St X g₀ s₀ L g s m (fz ++ ow)) (hX : ∀ p ∈ fz, p.1 ∉ X) :
    ∃ g', Sub g g' ∧ (∀ p ∈ fz, g'.get? p.1 = some p.2) ∧ (∀ b o, g'.get? b = some o → g.get? b = some o ∨ (b, o) ∈ fz) ∧ St X g₀ s₀ L g' s m ow := by
  have hs : ∀ b, (decide (b ∈ fz.map (fun p => p.1)) = true) ↔ b ∈ fz.map (fun p => p.1) := fun b => by simp
  let q : Addr → Bool := fun b => (g.get? b).isSome || decide (b ∈ fz.map (fun p => p.1))
  have fwd : ∀ b o, (restrict s.heap q).get? b = some o → g.get? b = some o ∨ (b, o) ∈ fz := by
    intro b o e
    obtain ⟨e1, e2⟩ := restrict_some.mp e
    rcases Bool.or_eq_true_iff.mp e2 with h | h
    · obtain ⟨o', ho'⟩ := Option.isSome_iff_exists.mp h
      have := S.in_ b o' ho'
      rw [e1] at this; cases this; exact .inl ho'
    · obtain ⟨p, hp, rfl⟩ := List.mem_map.mp ((hs _).mp h)
      have := (S.own p (List.mem_append.mpr (.inl hp))).1
      rw [e1] at this; cases this; exact .inr hp
  have sub : Sub g (restrict s.heap q) := fun b o e => restrict_some.mpr ⟨S.in_ b o e, by show ((g.get? b).isSome || _) = true; rw [e]; rfl⟩
  have nd := List.nodup_append.mp (by simpa only [List.map_append] using S.nd)
  refine ⟨restrict s.heap q, sub, fun p hp => restrict_some.mpr ⟨(S.own p (List.mem_append.mpr (.inl hp))).1, by
      show (_ || decide _) = true; rw [(hs _).mpr (List.mem_map.mpr ⟨p, hp, rfl⟩)]; exact Bool.or_true _⟩, fwd, ?_⟩
  refine ⟨⟨S.grow.sub.trans sub, fun b o e => (restrict_some.mp e).1, S.grow.keep, fun b o e => ?_, S.grow.gens, S.grow.bare, S.grow.os⟩, S.ns, none_of fun o e => ?_, S.newL, fun p hp => ?_, nd.2.1, S.xin, S.lo⟩
  · rcases fwd b o e with h | h
    · exact S.grow.fresh b o h
    · exact .inr ((S.own _ (List.mem_append.mpr (.inl h))).2.2.2.resolve_left (hX _ h))
  · rcases fwd _ o e with h | h
    · rw [S.offL] at h; cases h
    · exact (S.own _ (List.mem_append.mpr (.inl h))).2.1 rfl
  · have z := S.own p (List.mem_append.mpr (.inr hp))
    refine ⟨z.1, z.2.1, none_of fun o e => ?_, z.2.2.2⟩
    rcases fwd _ o e with h | h
    · rw [z.2.2.1] at h; cases h
    · exact nd.2.2 _ (List.mem_map.mpr ⟨_, h, rfl⟩) _ (List.mem_map.mpr ⟨p, hp, rfl⟩) rfl
theorem St.freeze {a : Addr} {o : Obj} (S : St X g₀ s₀ L g s m ((a, o) :: ow)) (hX : a ∉ X) :
    ∃ g', Sub g g' ∧ g'.get? a = some o ∧ (∀ b ob, g'.get? b = some ob → g.get? b = some ob ∨ (b, ob) = (a, o)) ∧ St X g₀ s₀ L g' s m ow := by
  obtain ⟨g', h1, h2, h3, h4⟩ := S.freezes (fz := [(a, o)]) (ow := ow) fun p hp => by rw [List.mem_singleton.mp hp]; exact hX
  exact ⟨g', h1, h2 _ (.head _), fun b ob e => (h3 b ob e).imp id List.mem_singleton.mp, h4⟩

theorem St.upd {pre : List (Addr × Obj)} {a : Addr} {o o' : Obj} {h' : Heap} (S : St X g₀ s₀ L g s m (pre ++ (a, o) :: ow)) (hs : Heap.SameBut a s.heap h') (ho : h'.get? a = some o') :
    St X g₀ s₀ L g { s with heap := h' } m (pre ++ (a, o') :: ow) where
  grow := by
    have z := S.own (a, o) (List.mem_append.mpr (.inr (.head _)))
    exact S.sameBut hs z.2.2.1 z.2.2.2
  ns := S.ns.sameBut hs (S.own (a, o) (List.mem_append.mpr (.inr (.head _)))).2.1.symm
  offL := S.offL
  newL := S.newL
  own := fun p hp => by
    have nd := S.nd
    rw [List.map_append, List.map_cons] at nd
    have nd1 := List.nodup_append.mp nd
    rcases List.mem_append.mp hp with hp | hp
    · have z := S.own p (List.mem_append.mpr (.inl hp))
      exact ⟨(hs.2 _ fun e => nd1.2.2 _ (List.mem_map.mpr ⟨p, hp, rfl⟩) _ (.head _) e).trans z.1, z.2⟩
    · rcases List.mem_cons.mp hp with rfl | hp
      · exact ⟨ho, (S.own (a, o) (List.mem_append.mpr (.inr (.head _)))).2⟩
      · have z := S.own p (List.mem_append.mpr (.inr (.tail _ hp)))
        exact ⟨(hs.2 _ fun e => (List.nodup_cons.mp nd1.2.1).1 (List.mem_map.mpr ⟨p, hp, e⟩)).trans z.1, z.2⟩
  nd := by simpa only [List.map_append, List.map_cons] using S.nd
  xin := xin_same hs (by rw [ho]; rfl) S.xin
  lo := S.lo

theorem St.call (S : St X g₀ s₀ L g s m ow) {g' : Heap} {s' : Shared} (G : Grow [] g s g' s') : St X g₀ s₀ L g' s' m ow where
  grow := S.grow.trans G (fun _ h => nomatch h) S.xin
  ns := S.ns.keeps fun b o e => G.keep b o (fun h => nomatch h) e
  offL := none_of fun o e => by
    rcases G.fresh _ _ e with h | h
    · rw [S.offL] at h; cases h
    · obtain ⟨oL, _, _, hL, _⟩ := S.ns; rw [h] at hL; cases hL
  newL := S.newL
  own := fun p hp => by
    have z := S.own p hp
    refine ⟨G.keep _ _ (fun h => nomatch h) z.1, z.2.1, none_of fun o e => ?_, z.2.2.2⟩
    rcases G.fresh _ _ e with h | h
    · rw [z.2.2.1] at h; cases h
    · rw [z.1] at h; cases h
  nd := S.nd
  xin := fun b hb => by
    obtain ⟨o', h⟩ := Option.isSome_iff_exists.mp (S.xin b hb)
    rw [G.keep _ _ (fun h => nomatch h) h]; rfl
  lo := S.lo
end

noncomputable def upd (m : Str → Option Value) (x : Str) (v : Value) : Str → Option Value := fun y => if y = x then some v else m y
theorem upd_eq {m : Str → Option Value} {x : Str} {v : Value} : upd m x v x = some v := if_pos rfl
theorem upd_int {m : Str → Option Value} {x : Str} {a b : Int} {t : Tok} (h : a = b) : upd m x (.int a t) x = some (.int b t) := h ▸ upd_eq

structure Amb (w : World) (mg mb : Str → Option Value) (g : Heap) : Prop where
  K : (Mine.hd.heap_1 w.params).In g
  T : TopRead Mine.vw (looseW Mine.vw []) mg mb g
theorem Amb.keeps {w : World} {mg mb : Str → Option Value} {g h : Heap} (G : Amb w mg mb g) (k : Sub g h) : Amb w mg mb h := ⟨G.K.keeps k, G.T.keeps k⟩

theorem low_keys (P : Params) : (Mine.hd.heap_1 P).all (fun p => decide (p.1 < 353)) = true := by kernel_rfl
theorem mem_lookup {α : Type} : ∀ {l : List (Nat × α)} {a : Nat} {o : α}, l.lookup a = some o → (a, o) ∈ l
  | (b, x) :: r, a, o, h => by
    rw [List.lookup_cons] at h
    cases hb : a == b with
    | true => rw [hb] at h; cases h; rw [beq_iff_eq.mp hb]; exact .head _
    | false => rw [hb] at h; exact .tail _ (mem_lookup h)
theorem low_key {P : Params} {a : Addr} {o : Obj} (h : (Mine.hd.heap_1 P).lookup a = some o) : a < 353 :=
  of_decide_eq_true (List.all_eq_true.mp (low_keys P) _ (mem_lookup h))
theorem top_key (P : Params) : ((Mine.hd.heap_1 P).lookup 352).isSome = true := by kernel_rfl
theorem Amb.lo {w : World} {mg mb : Str → Option Value} {g : Heap} (G : Amb w mg mb g) : 353 ≤ g.objs.size := by
  obtain ⟨o, ho⟩ := Option.isSome_iff_exists.mp (top_key w.params)
  exact Heap.lt_size (G.K _ _ ho)

noncomputable def low (h : Heap) : Heap := ⟨h.objs.extract 0 353, h.life⟩
theorem low_get {h : Heap} {a : Addr} {o : Obj} : (low h).get? a = some o ↔ h.get? a = some o ∧ a < 353 := by
  rw [Heap.get?_some_iff, Heap.get?_some_iff]
  unfold low
  simp only [Array.getElem?_extract]
  constructor
  · rintro ⟨e, f⟩
    split at e
    · rename_i hl
      refine ⟨⟨by simpa using e, f⟩, ?_⟩
      have : min 353 h.objs.size - 0 ≤ 353 := by omega
      exact Nat.lt_of_lt_of_le hl this
    · cases e
  · rintro ⟨⟨e, f⟩, hl⟩
    refine ⟨?_, f⟩
    have hs : a < h.objs.size := (Array.getElem?_eq_some_iff.mp e).1
    rw [if_pos (show a < min 353 h.objs.size - 0 from Nat.lt_min.mpr ⟨hl, hs⟩)]
    simpa using e
noncomputable def high (h : Heap) (L : Addr) : List (Addr × Obj) := (List.range h.objs.size).filterMap fun a => if 353 ≤ a ∧ a ≠ L then (h.get? a).map fun o => (a, o) else none
theorem high_mem {h : Heap} {L : Addr} {p : Addr × Obj} : p ∈ high h L ↔ h.get? p.1 = some p.2 ∧ 353 ≤ p.1 ∧ p.1 ≠ L := by
  unfold high
  rw [List.mem_filterMap]
  constructor
  · rintro ⟨a, _, e⟩
    split at e
    · rename_i hc
      obtain ⟨o, ho, rfl⟩ := Option.map_eq_some_iff.mp e
      exact ⟨ho, hc⟩
    · cases e
  · rintro ⟨e, hc⟩
    exact ⟨p.1, List.mem_range.mpr (Heap.lt_size e), by rw [if_pos hc, e]; rfl⟩

section
variable {X : List Addr} {g₀ g : Heap} {s₀ s : Shared} {L : Addr} {m : Str → Option Value} {ow : List (Addr × Obj)}
theorem St.fr (S : St X g₀ s₀ L g s m ow) : Fr (low s.heap) L s.heap m :=
  ⟨S.ns, fun _ _ e => (low_get.mp e).1, by
    show (s.heap.objs.extract 0 353).size ≤ L
    rw [Array.size_extract]
    have := S.lo
    have h : min 353 s.heap.objs.size - 0 ≤ 353 := by omega
    exact Nat.le_trans h this⟩
theorem St.nw (S : St X g₀ s₀ L g s m ow) : News (low s.heap) L s.heap (high s.heap L) := fun p hp => by
  obtain ⟨h1, h2, h3⟩ := high_mem.mp hp
  exact ⟨h1, h3, none_of fun o e => absurd (low_get.mp e).2 (Nat.not_lt.mpr h2)⟩
theorem Amb.low {w : World} {mg mb : Str → Option Value} {h : Heap} (G : Amb w mg mb h) : Frag.In (Mine.hd.heap_1 w.params) (low h) := fun _ _ e => low_get.mpr ⟨G.K _ _ e, low_key e⟩
theorem St.bk {ex : List (Addr × Obj)} {h' : Heap} {tk : Nat} {m' : Str → Option Value} (S : St X g₀ s₀ L g s m ow) (F : Fr (Mine.low s.heap) L h' m') (N : News (Mine.low s.heap) L h' (ex ++ high s.heap L))
    (hex : ∀ p ∈ ex, s.heap.get? p.1 = none) (hn : (ex.map (fun p => p.1)).Nodup) : St X g₀ s₀ L g { s with heap := h', toks := tk } m' (ex ++ ow) := by
  have k : ∀ b o, b ≠ L → s.heap.get? b = some o → h'.get? b = some o := fun b o hb e => by
    rcases Nat.lt_or_ge b 353 with h | h
    · exact F.keep b o (low_get.mpr ⟨e, h⟩)
    · exact (N (b, o) (List.mem_append.mpr (.inr (high_mem.mpr ⟨e, h, hb⟩)))).1
  refine ⟨⟨S.grow.sub, fun b o e => k b o (by rintro rfl; rw [S.offL] at e; cases e) (S.in_ b o e), fun b o hb e => k b o (by rintro rfl; rw [S.newL] at e; cases e) (S.grow.keep b o hb e), S.grow.fresh, S.grow.gens, S.grow.bare, S.grow.os⟩, F.ns, S.offL, S.newL, fun p hp => ?_, ?_, fun b hb => ?_, S.lo⟩
  · rcases List.mem_append.mp hp with hp | hp
    · have z := N p (List.mem_append.mpr (.inl hp))
      exact ⟨z.1, z.2.1, none_of (fun o e => by have := S.in_ _ _ e; rw [hex p hp] at this; cases this), .inr (S.back (hex p hp))⟩
    · have z := S.own p hp
      exact ⟨k _ _ z.2.1 z.1, z.2⟩
  · rw [List.map_append]
    refine List.nodup_append.mpr ⟨hn, S.nd, fun a ha b hb e => ?_⟩
    obtain ⟨p, hp, rfl⟩ := List.mem_map.mp ha
    obtain ⟨q, hq, rfl⟩ := List.mem_map.mp hb
    have := (S.own q hq).1
    rw [← e, hex p hp] at this; cases this
  · obtain ⟨o, ho⟩ := Option.isSome_iff_exists.mp (S.xin b hb)
    dsimp only
    by_cases e : b = L
    · subst e; obtain ⟨oL, _, _, hL, _⟩ := F.ns; rw [hL]; rfl
    · rw [k b o e ho]; rfl
theorem St.bk0 {h' : Heap} {tk : Nat} {m' : Str → Option Value} (S : St X g₀ s₀ L g s m ow) (F : Fr (Mine.low s.heap) L h' m') (N : News (Mine.low s.heap) L h' (high s.heap L)) : St X g₀ s₀ L g { s with heap := h', toks := tk } m' ow :=
  S.bk (ex := []) F N (fun _ h => nomatch h) List.nodup_nil
theorem St.bk1 {h' : Heap} {tk : Nat} {m' : Str → Option Value} {o : Obj} (S : St X g₀ s₀ L g s m ow) (F : Fr (Mine.low s.heap) L h' m') (N : News (Mine.low s.heap) L h' ((s.heap.objs.size, o) :: high s.heap L)) : St X g₀ s₀ L g { s with heap := h', toks := tk } m' ((s.heap.objs.size, o) :: ow) :=
  S.bk (ex := [(s.heap.objs.size, o)]) F N (fun p h => by rw [List.mem_singleton.mp h]; exact get_push_size_none _) (by simp)
end

noncomputable def Room (A : Around) (n : Nat) : Prop := A.handled = none ∧ A.depth + n < recursionLimit ∧ A.units + 12 * n < cLine
theorem Room.le {A : Around} {n k : Nat} (h : Room A n) (hk : k ≤ n) : Room A k := ⟨h.1, by have := h.2.1; omega, by have := h.2.2; omega⟩
theorem Room.deeper {A : Around} {n : Nat} {env : Env} (h : Room A (n + 1)) : Room (A.deeper env) n :=
  ⟨h.1, by show A.depth + 1 + n < _; have := h.2.1; omega, by show A.units + 3 + _ < _; have := h.2.2; omega⟩
theorem Room.in1 {A : Around} {n : Nat} (h : Room A (n + 1)) : Room A.in1 n :=
  ⟨h.1, by show A.depth + n < _; have := h.2.1; omega, by show A.units + 1 + _ < _; have := h.2.2; omega⟩
theorem Room.depth {A : Around} {n : Nat} (h : Room A n) : A.depth < recursionLimit := by have := h.2.1; omega
theorem Room.units {A : Around} {n : Nat} (h : Room A n) : A.units < cLine := by have := h.2.2; omega

section
variable {w : World} {mg mb : Str → Option Value} {M : Model} {A : Around} {E : Value → Shared → Prop} {X : List Addr} {g₀ g : Heap} {s₀ s : Shared} {L : Addr} {m : Str → Option Value} {ow : List (Addr × Obj)} {env : Env}

theorem nmL {x : Str} {pos : Pos} {v : Value} {Q : Value → Shared → Prop} (S : St X g₀ s₀ L g s m ow) (hv : m x = some v) (h : Q v s) (hL : env.locals = L := by rfl)
    (hk : env.scope.kind = .function := by rfl) (hl : env.kindOf x = some .local := by rfl) (hd : (x == ("__debug__" : Str)) = false := by decide) :
    wpAny M A (eval (.Name x pos) env) Q E s := wpAny_Name (wpAny_loadName_local hk hl (hL ▸ S.ns) hv h) hd
theorem nmG {x : Str} {pos : Pos} {v : Value} {Q : Value → Shared → Prop} (G : Amb w mg mb g) (S : St X g₀ s₀ L g s m ow) (e : nsIn (Mine.hd.heap_1 w.params) mainGlobals x = some (some v)) (h : Q v s)
    (hg : env.globals = mainGlobals := by rfl) (hk : env.scope.kind = .function := by rfl) (hx : env.kindOf x = some .globalImplicit := by rfl) (hd : (x == ("__debug__" : Str)) = false := by decide) :
    wpAny M A (eval (.Name x pos) env) Q E s :=
  Name_function_global hk hx (loadGlobal_global (env := env) (by rw [hg]; exact (G.keeps S.in_).T.g) (mg_of G.K G.T.g e) h) hd
theorem nmB {x : Str} {pos : Pos} {v : Value} {Q : Value → Shared → Prop} (G : Amb w mg mb g) (S : St X g₀ s₀ L g s m ow) (e : nsIn (Mine.hd.heap_1 w.params) mainGlobals x = some none) (hv : bootBuiltins x = some v) (hn : x ≠ "__name__") (h : Q v s)
    (hg : env.globals = mainGlobals := by rfl) (hb : env.builtins = builtinsNs := by rfl) (hk : env.scope.kind = .function := by rfl) (hx : env.kindOf x = some .globalImplicit := by rfl) (hd : (x == ("__debug__" : Str)) = false := by decide) :
    wpAny M A (eval (.Name x pos) env) Q E s :=
  Name_function_global hk hx (loadGlobal_builtin (env := env) (by rw [hg]; exact (G.keeps S.in_).T.g) (mg_none_of G.K G.T.g e) (by rw [hb]; exact (G.keeps S.in_).T.b) ((G.T.builtins x hn).trans hv) h) hd
theorem stL {x : Str} {v : Value} {Q : Unit → Shared → Prop} (S : St X g₀ s₀ L g s m ow) (h : ∀ s', St X g₀ s₀ L g s' (upd m x v) ow → Q () s') (hL : env.locals = L := by rfl)
    (hk : env.scope.kind = .function := by rfl) (hl : env.kindOf x = some .local := by rfl) : wpAny M A (storeName env x v) Q E s :=
  wpAny_storeName_local hl (hL ▸ S.ns) (fun h' hn hs => h _ ((S.setL (hL ▸ hn) (hL ▸ hs)).toks _)) (by rw [hk]; rfl)

theorem xNil {Q : Flow → Shared → Prop} (h : Q .next s) : wpAny M A (execs [] env) Q E s := wpAny_execs_nil h
theorem xAsn {x : Str} {p' pos : Pos} {value : Expr} {rest : List Stmt} {Q : Flow → Shared → Prop}
    (h : wpAny M A (eval value env) (fun v s₁ => wpAny M A (storeName env x v) (fun _ s₂ => wpAny M A (execs rest env) Q E s₂) E s₁) E s)
    (hs : swapsWith value (some (.Name x p')) pos.line env = pure false := by rfl) : wpAny M A (execs (.Assign [.Name x p'] value pos :: rest) env) Q E s :=
  wpAny_execs_cons (wpAny_Assign_Name h hs)
theorem xRet {e : Expr} {pos : Pos} {rest : List Stmt} {Q : Flow → Shared → Prop} (h : wpAny M A (eval e env) (fun v s₁ => Q (.ret v) s₁) E s) :
    wpAny M A (execs (.Return (some e) pos :: rest) env) Q E s := wpAny_execs_cons (wpAny_Return_some h)
noncomputable def ThenQ (M : Model) (A : Around) (env : Env) (rest : List Stmt) (Q : Flow → Shared → Prop) (E : Value → Shared → Prop) (f : Flow) (s : Shared) : Prop :=
  match f with | .next => wpAny M A (execs rest env) Q E s | f => Q f s
theorem xIf {test : Expr} {body orelse rest : List Stmt} {pos : Pos} {Q : Flow → Shared → Prop}
    (h : wpAny M A (isTrue test env (eval test env)) (fun b s₂ => if b then wpAny M A (execs body env) (ThenQ M A env rest Q E) E s₂ else wpAny M A (execs orelse env) (ThenQ M A env rest Q E) E s₂) E s) :
    wpAny M A (execs (.If test body orelse pos :: rest) env) Q E s := wpAny_execs_cons (wpAny_If h)
theorem thenNext {rest : List Stmt} {Q : Flow → Shared → Prop} (h : wpAny M A (execs rest env) Q E s) : ThenQ M A env rest Q E .next s := h
theorem thenRet {rest : List Stmt} {Q : Flow → Shared → Prop} {v : Value} (h : Q (.ret v) s) : ThenQ M A env rest Q E (.ret v) s := h
theorem enterF {n : Nat} {f : Addr} {args : Args} {R : Result → Shared → Prop} {name qual : Str} {params : Arguments} {body : List Stmt} {scope : Scope} {dV kV doc pm cdv ct oc : Value} {an od : Option Addr} {osl : Array (Option Value)} {binds : List (Str × Value)}
    (G : Amb w mg mb g) (hs : Sub g s.heap) (hr : Room A n)
    (ho : (Mine.hd.heap_1 w.params).lookup f = some ⟨oc, od, .func (fnOf name qual params body scope dV kV doc pm an cdv ct), osl⟩) (hcd : codeIn (Mine.hd.heap_1 w.params) cdv qual = true)
    (hbind : BindsTo s (fnOf name qual params body scope dV kV doc pm an cdv ct) args binds) (hloc : ∀ y ∈ binds, scope.names.lookup y.1 = some .local)
    (h : ∀ L s', St [] g s L g s' (fun y => binds.reverse.lookup y) [] → wpAny (model prg w) (A.deeper (envOf qual scope L f cdv)) (execs body (envOf qual scope L f cdv))
      (fun fl s' => R (.ok (.ret (match fl with | .ret v => v | _ => .none))) s') (fun _ _ => False) s')
    (hco : scope.isCoroutine = false) (hgen : scope.isGenerator = false) (hk : scope.kind = .function) (hcell : ∀ x ∈ scope.names, x.2 ≠ .cell) : codeAny (model prg w) A (.call (.ref f) args) R s := by
  have G' := G.keeps hs
  refine codeAny_call_def (fd := fnOf name qual params body scope dV kV doc pm an cdv ct) (body := body) (binds := binds) hr.depth (G'.K _ _ ho) rfl G'.T.nolimit (codeRec_of G'.K hcd) rfl hbind hcell hloc (fun h₁ hns hk₁ => ?_) hco hgen hk
  refine wpAny_mono (h s.heap.objs.size _ ⟨⟨.refl _, fun b o e => hk₁ b o (hs b o e), fun b o _ e => hk₁ b o e, fun b o e => .inl e, fun _ _ e => e, id, rfl⟩, hns, none_of fun o e => absurd (Heap.lt_size (hs _ _ e)) (Nat.lt_irrefl _), get_push_size_none _, fun _ h => (nomatch h), List.nodup_nil, (fun _ h => nomatch h), Amb.lo G'⟩) (fun _ _ z => z) fun _ _ z => z.elim
theorem itT {a b : Prop} (h : a) : if true = true then a else b := h
theorem itF {a b : Prop} (h : b) : if false = true then a else b := h
end
end Mine
namespace Mine
section
variable {w : World} {mg mb : Str → Option Value} {M : Model} {A : Around} {E : Value → Shared → Prop} {X : List Addr} {g₀ g : Heap} {s₀ s : Shared} {L : Addr} {m : Str → Option Value} {ow : List (Addr × Obj)} {env : Env}

theorem Grow.kept {h' : Heap} {tk : Nat} (hg : Sub g s.heap) (hk : ∀ b o, s.heap.get? b = some o → h'.get? b = some o) : Grow [] g s g { s with heap := h', toks := tk } :=
  ⟨.refl _, fun b o e => hk b o (hg b o e), fun b o _ e => hk b o e, fun _ _ e => .inl e, fun _ _ e => e, id, rfl⟩
theorem St.kept {h' : Heap} {tk : Nat} (S : St X g₀ s₀ L g s m ow) (hk : ∀ b o, s.heap.get? b = some o → h'.get? b = some o) : St X g₀ s₀ L g { s with heap := h', toks := tk } m ow :=
  S.call (.kept S.in_ hk)
theorem St.lose {h' : Heap} {tk : Nat} {p : Addr × Obj} (S : St X g₀ s₀ L g s m (p :: ow)) (hX : p.1 ∉ X) (hk : ∀ b o, b ≠ p.1 → s.heap.get? b = some o → h'.get? b = some o) :
    St X g₀ s₀ L g { s with heap := h', toks := tk } m ow := by
  have z := S.own p (.head _)
  have zf := z.2.2.2.resolve_left hX
  refine ⟨⟨S.grow.sub, fun b o e => hk b o ?_ (S.in_ b o e), fun b o hb e => hk b o ?_ (S.grow.keep b o hb e), S.grow.fresh, S.grow.gens, S.grow.bare, S.grow.os⟩, S.ns.at' fun o e => hk _ o z.2.1.symm e, S.offL, S.newL, fun q hq => ?_, S.drop.nd, fun b hb => ?_, S.lo⟩
  · rintro rfl; rw [z.2.2.1] at e; cases e
  · rintro rfl; rw [zf] at e; cases e
  · have y := S.own q (.tail _ hq)
    refine ⟨hk _ _ (fun e => ?_) y.1, y.2⟩
    exact (List.nodup_cons.mp S.nd).1 (List.mem_map.mpr ⟨q, hq, e⟩)
  · obtain ⟨o', h⟩ := Option.isSome_iff_exists.mp (S.xin b hb)
    dsimp only
    rw [hk b o' (by rintro rfl; exact hX hb) h]; rfl

theorem isi {v t c : Value} {b : Bool} {H : Heap → Prop} {Q : Value → Shared → Prop} (Z : KitX (Mine.hd.heap_1 w.params) v t H) (G : Amb w mg mb g) (S : St X g₀ s₀ L g s m ow) (p : H s.heap)
    (e : kitOne (Mine.hd.heap_1 w.params) t c = some b) (h : ∀ s', St X g₀ s₀ L g s' m ow → Q (.bool b) s') (hx : v ≠ .builtin "__main__.__loader__#opaque" := by intro q; cases q) :
    wpAny (model prg w) A (call (.builtin "isinstance") [v, c]) Q E s :=
  kia_one Z (G.keeps S.in_).K p e hx fun tk => h _ (S.toks tk)

theorem biCall {id : String} {f : Str} {p pos : Pos} {e : Expr} {rest : List Expr} {Q : Value → Shared → Prop}
    (hf : wpAny M A (eval (.Name f p) env) (fun v s₁ => v = .builtin id ∧ wpAny M A (spliced (backTo pos (starEach (e :: rest) env))) (fun vs s₂ => wpAny M A (call (.builtin id) vs) Q E s₂) E s₁) E s)
    (he : starEach (e :: rest) env = (false, eval e env) :: starEach rest env := by rfl) (hp : (backTo pos (starEach (e :: rest) env)).any (·.1) = false := by rfl) :
    wpAny M A (eval (.Call (.Name f p) (e :: rest) [] pos) env) Q E s := by
  refine wpAny_Call_Name_kw (wpAny_mono hf (fun v s₁ h₁ => ?_) fun _ _ x => x)
  obtain ⟨rfl, h₁⟩ := h₁
  refine callWith_builtin hp ?_
  rw [he] at h₁ ⊢
  exact evalArgs_plain h₁
theorem arg1 {e : Expr} {rest : List Expr} {pos : Pos} {Q : List Value → Shared → Prop} (h : wpAny M A (eval e env) (fun v s₁ => wpAny M A (spliced (backTo pos (starEach rest env))) (fun vs s₂ => Q (v :: vs) s₂) E s₁) E s)
    (he : starEach (e :: rest) env = (false, eval e env) :: starEach rest env := by rfl) : wpAny M A (spliced (backTo pos (starEach (e :: rest) env))) Q E s := wpAny_items_cons h he
theorem arg0 {pos : Pos} {Q : List Value → Shared → Prop} (h : Q [] s) : wpAny M A (spliced (backTo pos (starEach [] env))) Q E s := wpAny_items_nil h

theorem fnCall {a : Addr} {f : Str} {p pos : Pos} {e : Expr} {rest : List Expr} {Q : Value → Shared → Prop} {K : Frag}
    (hf : wpAny M A (eval (.Name f p) env) (fun v s₁ => v = .ref a ∧ wpAny M A (spliced (backTo pos (starEach (e :: rest) env))) (fun vs s₂ => K.In s₂.heap ∧ wpAny M A (call (.ref a) vs) Q E s₂) E s₁) E s)
    (hk : keepIn K (.ref a) = true)
    (he : starEach (e :: rest) env = (false, eval e env) :: starEach rest env := by rfl) (hp : (backTo pos (starEach (e :: rest) env)).any (·.1) = false := by rfl) :
    wpAny M A (eval (.Call (.Name f p) (e :: rest) [] pos) env) Q E s := by
  refine wpAny_Call_Name_kw (wpAny_mono hf (fun v s₁ h₁ => ?_) fun _ _ x => x)
  obtain ⟨rfl, h₁⟩ := h₁
  refine callWith_of (P := fun h => K.In h) (by rw [hp]; rfl) (keeps_K hk) ?_
  rw [he] at h₁ ⊢
  exact evalArgs_plain h₁

theorem meCall0 {a : Addr} {o : Expr} {name : Str} {apos pos : Pos} {pl : Sem Bool} {Q : Value → Shared → Prop} {K : Frag}
    (h : wpAny M A (eval o env) (fun ov s₁ => wpAny M A (getMethod ov name pl) (fun fx s₂ => fx.1 = .ref a ∧ K.In s₂.heap ∧ wpAny M A (call (.ref a) (fx.2 ++ [])) Q E s₂) E s₁) E s)
    (hk : keepIn K (.ref a) = true)
    (he : eval (.Call (.Attribute o name apos) [] [] pos) env = (do
      let ov ← eval o env
      standAt apos.atName
      let (f, first) ← holding [ov] (getMethod ov name pl)
      callWith pos f first (backTo pos (starEach [] env)) (backToKw pos (keywordEach [] env))) := by rfl) :
    wpAny M A (eval (.Call (.Attribute o name apos) [] [] pos) env) Q E s := by
  refine methodCall_KW (wpAny_mono h (fun ov s₁ h₁ => wpAny_mono h₁ (fun fx s₂ h₂ => ?_) fun _ _ x => x) fun _ _ x => x) he
  obtain ⟨e, h₂⟩ := h₂
  obtain ⟨f, first⟩ := fx
  dsimp only at e h₂ ⊢
  subst e
  exact callWith_of (P := fun h => K.In h) rfl (keeps_K hk) (evalArgs_nil3 h₂)
theorem meCall {a : Addr} {o : Expr} {name : Str} {apos pos : Pos} {e : Expr} {rest : List Expr} {pl : Sem Bool} {Q : Value → Shared → Prop} {K : Frag}
    (h : wpAny M A (eval o env) (fun ov s₁ => wpAny M A (getMethod ov name pl) (fun fx s₂ => fx.1 = .ref a ∧
      wpAny M A (spliced (backTo pos (starEach (e :: rest) env))) (fun vs s₃ => K.In s₃.heap ∧ wpAny M A (call (.ref a) (fx.2 ++ vs)) Q E s₃) E s₂) E s₁) E s)
    (hk : keepIn K (.ref a) = true)
    (he : eval (.Call (.Attribute o name apos) (e :: rest) [] pos) env = (do
      let ov ← eval o env
      standAt apos.atName
      let (f, first) ← holding [ov] (getMethod ov name pl)
      callWith pos f first (backTo pos (starEach (e :: rest) env)) (backToKw pos (keywordEach [] env))) := by rfl)
    (hs : starEach (e :: rest) env = (false, eval e env) :: starEach rest env := by rfl)
    (hp : (backTo pos (starEach (e :: rest) env)).any (·.1) = false := by rfl) :
    wpAny M A (eval (.Call (.Attribute o name apos) (e :: rest) [] pos) env) Q E s := by
  refine methodCall_KW (wpAny_mono h (fun ov s₁ h₁ => wpAny_mono h₁ (fun fx s₂ h₂ => ?_) fun _ _ x => x) fun _ _ x => x) he
  obtain ⟨e, h₂⟩ := h₂
  obtain ⟨f, first⟩ := fx
  dsimp only at e h₂ ⊢
  subst e
  refine callWith_of (P := fun h => K.In h) (by rw [hp]; rfl) (keeps_K hk) ?_
  rw [hs] at h₂ ⊢
  exact evalArgs_plain h₂

theorem isT {e : Expr} {whole : Sem Value} {Q : Bool → Shared → Prop} (h : wpAny M A whole (fun v s₁ => ∃ b, v = .bool b ∧ Q b s₁) E s)
    (he : isTrue e env whole = (do let v ← whole; standAt e.pos; holding [v] (truthy v)) := by rfl) : wpAny M A (isTrue e env whole) Q E s :=
  wpAny_isTrue_value (wpAny_mono h (fun v s₁ h₁ => by obtain ⟨b, rfl, h₁⟩ := h₁; exact wpAny_truthy_bool h₁) fun _ _ x => x) he

theorem loopW {target : Expr} {body : List Stmt} {I : Addr} {fp : List Addr} {n : Nat} {P : Nat → Value → Prop} {Wt : Nat → Heap → Prop} {oi : Obj} {R : Result → Shared → Prop}
    (W : Walks prg w A I fp [I] n P Wt) (wl : ∀ i h, Wt i h → ∃ o, h.get? I = some o) (S : St X g₀ s₀ L g s m ((I, oi) :: ow)) (hIX : I ∉ X) (hst : Wt 0 s.heap) (hfp : ∀ b ∈ fp, b = I ∨ ∃ o, g.get? b = some o)
    (J : Nat → Heap → (Str → Option Value) → List (Addr × Obj) → Prop) (h0 : J 0 g m ow)
    (turn : ∀ i v it oi g' s' m' ow', i < n → P i v → Sub g g' → J i g' m' ow' → it ∉ X → St X g₀ s₀ L g' s' m' ((it, oi) :: ow') →
      wpAny (model prg w) A (letOwnedTupleGo target (.ref it) v) (fun _ s₁ => wpAny (model prg w) A (assign target env v) (fun _ s₂ => wpAny (model prg w) A (execs body env) (fun f s₃ => match f with
        | .next | .cont => ∃ g₃ m₃ ow₃, Sub g' g₃ ∧ St X g₀ s₀ L g₃ s₃ m₃ ((it, oi) :: ow₃) ∧ J (i + 1) g₃ m₃ ow₃
        | .brk => R (.ok .next) s₃
        | .ret v => R (.ok (.ret v)) s₃) (fun _ _ => False) s₂) (fun _ _ => False) s₁) (fun _ _ => False) s')
    (done : ∀ g' s' m' ow', Sub g g' → J n g' m' ow' → St X g₀ s₀ L g' s' m' ow' → R (.ok .next) s') :
    codeAny (model prg w) A (.forLoop target (.ref I) body [] env) R s := by
  refine codeAny_forLoop_any (fun k s' => ∃ i g' m' ow' oi', k = n + 1 - i ∧ i ≤ n ∧ Sub g g' ∧ J i g' m' ow' ∧ St X g₀ s₀ L g' s' m' ((I, oi') :: ow') ∧ Wt i s'.heap) ?_ (n + 1) ⟨0, g, m, ow, oi, rfl, Nat.zero_le _, .refl _, h0, S, hst⟩
  rintro k s' ⟨i, g', m', ow', oi', rfl, hi, hg, hJ, S', hst'⟩
  rcases Nat.lt_or_ge i n with hlt | hge
  · refine W.item i s' _ _ hlt hst' fun v h' tk hP hst₁ hk => ?_
    obtain ⟨o₁, ho₁⟩ := wl _ _ hst₁
    have z := S'.own _ (.head _)
    have S₁ : St X g₀ s₀ L g' { s' with heap := h', toks := tk } m' ((I, o₁) :: ow') := by
      have S₂ := S'.lose (tk := tk) hIX fun b o hb e => hk b o (fun hm => hb (List.mem_singleton.mp hm)) e
      refine ⟨S₂.grow, S₂.ns, S₂.offL, S₂.newL, fun p hp => ?_, S'.nd, S₂.xin, S₂.lo⟩
      rcases List.mem_cons.mp hp with rfl | hp
      · exact ⟨ho₁, z.2⟩
      · exact S₂.own p hp
    have hfp' : ∀ b ∈ fp, ∀ s₃ g₃ m₃ ow₃, Sub g' g₃ → St X g₀ s₀ L g₃ s₃ m₃ ((I, o₁) :: ow₃) → ∀ o, h'.get? b = some o → s₃.heap.get? b = some o := fun b hb s₃ g₃ m₃ ow₃ hg₃ S₃ o e => by
      rcases hfp b hb with rfl | ⟨o', ho'⟩
      · rw [ho₁] at e; cases e; exact S₃.get (.head _)
      · have e1 := S₁.in_ _ _ (hg _ _ ho')
        dsimp only at e1
        rw [e] at e1; cases e1
        exact S₃.in_ _ _ (hg₃ _ _ (hg _ _ ho'))
    refine wpAny_noRaise (wpAny_mono (turn i v I o₁ g' _ m' ow' hlt hP hg hJ hIX S₁) (fun _ s₁ t₁ => wpAny_noRaise (wpAny_mono t₁ (fun _ s₂ t₂ => wpAny_noRaise (wpAny_mono t₂ (fun f s₃ t₃ => ?_) fun _ _ x => x)) fun _ _ x => x)) fun _ _ x => x)
    have fin : (∃ g₃ m₃ ow₃, Sub g' g₃ ∧ St X g₀ s₀ L g₃ s₃ m₃ ((I, o₁) :: ow₃) ∧ J (i + 1) g₃ m₃ ow₃) → ∃ k', k' < n + 1 - i ∧ ∃ i g' m' ow' oi', k' = n + 1 - i ∧ i ≤ n ∧ Sub g g' ∧ J i g' m' ow' ∧ St X g₀ s₀ L g' s₃ m' ((I, oi') :: ow') ∧ Wt i s₃.heap := by
      rintro ⟨g₃, m₃, ow₃, hg₃, S₃, hJ₃⟩
      exact ⟨n + 1 - (i + 1), by omega, i + 1, g₃, m₃, ow₃, o₁, rfl, hlt, hg.trans hg₃, hJ₃, S₃, W.frame _ _ _ hst₁ fun b hb o e => hfp' b hb s₃ g₃ m₃ ow₃ hg₃ S₃ o e⟩
    cases f with
    | next => exact fin t₃
    | cont => exact fin t₃
    | brk => exact t₃
    | ret v => exact t₃
  · have hin : i = n := by omega
    subst hin
    refine W.done s' _ _ hst' fun h' tk hk => ?_
    exact xNil (done g' _ m' ow' hg hJ (S'.lose hIX fun b o hb e => hk b o (fun hm => hb (List.mem_singleton.mp hm)) e))

theorem loopList {target : Expr} {body : List Stmt} {l : Addr} {vs : List Value} {n : Nat} {R : Result → Shared → Prop}
    (hh : A.handled = none) (S : St X g₀ s₀ L g s m ow) (hl : g.get? l = some (listOf vs.toArray n))
    (J : Nat → Heap → (Str → Option Value) → List (Addr × Obj) → Prop) (h0 : J 0 g m ow)
    (turn : ∀ i v it oi g' s' m' ow', vs[i]? = some v → Sub g g' → J i g' m' ow' → it ∉ X → St X g₀ s₀ L g' s' m' ((it, oi) :: ow') →
      wpAny (model prg w) A (letOwnedTupleGo target (.ref it) v) (fun _ s₁ => wpAny (model prg w) A (assign target env v) (fun _ s₂ => wpAny (model prg w) A (execs body env) (fun f s₃ => match f with
        | .next | .cont => ∃ g₃ m₃ ow₃, Sub g' g₃ ∧ St X g₀ s₀ L g₃ s₃ m₃ ((it, oi) :: ow₃) ∧ J (i + 1) g₃ m₃ ow₃
        | .brk => R (.ok .next) s₃
        | .ret v => R (.ok (.ret v)) s₃) (fun _ _ => False) s₂) (fun _ _ => False) s₁) (fun _ _ => False) s')
    (done : ∀ g' s' m' ow', Sub g g' → J vs.length g' m' ow' → St X g₀ s₀ L g' s' m' ow' → R (.ok .next) s') :
    wpAny (model prg w) A (pyIter (.ref l)) (fun it s₂ => codeAny (model prg w) A (.forLoop target it body [] env) R s₂) E s := by
  have hls : s.heap.IsList l vs.toArray := ⟨_, S.in_ _ _ hl, rfl, n, rfl⟩
  refine wpAny_pyIter_list hls ?_
  have hne : l ≠ s.heap.objs.size := Nat.ne_of_lt (Heap.lt_size (S.in_ _ _ hl))
  have W := Walks.list (prog := prg) (w := w) hh s.heap.objs.size l hne vs.toArray
  have hX' : s.heap.objs.size ∉ X := fun hm => by
    have y := S.xin _ hm
    rw [get_push_size_none] at y; cases y
  refine loopW (P := fun i v => vs.toArray[i]? = some v) W (fun i h st => by obtain ⟨⟨o, ho, _⟩, _⟩ := st; exact ⟨o, ho⟩) (S.push _) hX' ⟨⟨_, Heap.get?_push_size _ rfl, rfl, rfl⟩, hls.push _⟩ (fun b hb => ?_) J h0 ?_ ?_
  · rcases List.mem_cons.mp hb with rfl | hb
    · exact .inl rfl
    · rw [List.mem_singleton.mp hb]; exact .inr ⟨_, hl⟩
  · intro i v it oi g' s' m' ow' _ hP hg hJ hit S'
    exact turn i v it oi g' s' m' ow' (by simpa using hP) hg hJ hit S'
  · intro g' s' m' ow' hg hJ S'
    exact done g' s' m' ow' hg (by simpa using hJ) S'

theorem xFor {target iter : Expr} {body rest : List Stmt} {pos : Pos} {Q : Flow → Shared → Prop}
    (h : wpAny M A (eval iter env) (fun v s₁ => wpAny M A (pyIter v) (fun it s₂ => codeAny M A (.forLoop target it body [] env) (fun r s' => match r with | .ok f => ThenQ M A env rest Q E f s' | .error _ => False) s₂) E s₁) E s)
    (hs : ∀ x, foldedSetIterable iter env x = pure x := by intro _; rfl) : wpAny M A (execs (.For target iter body [] pos :: rest) env) Q E s := by
  refine wpAny_execs_cons (wpAny_For (wpAny_mono h (fun v s₁ h₁ => wpAny_mono h₁ (fun it s₂ h₂ => codeAny_mono h₂ fun r s' hr => ?_) fun _ _ x => x) fun _ _ x => x) hs)
  cases r with
  | ok f => exact hr
  | error _ => exact hr.elim
end
end Mine
namespace Mine
structure Sym where
  s : Str
  ok : PyData.strOk s = true

inductive T where
  | leaf (x : Sym)
  | node (l : Sym) (cs : List T)

mutual
noncomputable def T.ht : T → Nat
  | .leaf _ => 1
  | .node _ cs => 1 + T.htL cs
noncomputable def T.htL : List T → Nat
  | [] => 0
  | t :: ts => max t.ht (T.htL ts)
end

mutual
inductive IsT (g : Heap) : Value → T → List Addr → Prop
  | leaf (x : Sym) (tk : Tok) : IsT g (.str x.s tk) (.leaf x) []
  | node {x dx l : Addr} {h1 h2 : Int} {t1 t2 tk : Tok} {n k : Nat} {lab : Sym} {vs : List Value} {cs : List T} {as : List Addr} : g.get? x = some (instObj 269 dx) →
      g.get? dx = some (dictOf [⟨h1, .str "_children" t1, .ref l⟩, ⟨h2, .str "_label" t2, .str lab.s tk⟩] n) → g.get? l = some (listOf vs.toArray k) → IsTs g vs cs as → IsT g (.ref x) (.node lab cs) (l :: as)
inductive IsTs (g : Heap) : List Value → List T → List Addr → Prop
  | nil : IsTs g [] [] []
  | cons {v : Value} {t : T} {as bs : List Addr} {vs : List Value} {ts : List T} : IsT g v t as → IsTs g vs ts bs → IsTs g (v :: vs) (t :: ts) (as ++ bs)
end

theorem IsT.both {g : Heap} {P : Value → T → List Addr → Prop} {Q : List Value → List T → List Addr → Prop} (h1 : ∀ (x : Sym) (tk : Tok), P (.str x.s tk) (.leaf x) [])
    (h2 : ∀ {x dx l : Addr} {h1 h2 : Int} {t1 t2 tk : Tok} {n k : Nat} {lab : Sym} {vs : List Value} {cs : List T} {as : List Addr}, g.get? x = some (instObj 269 dx) →
      g.get? dx = some (dictOf [⟨h1, .str "_children" t1, .ref l⟩, ⟨h2, .str "_label" t2, .str lab.s tk⟩] n) → g.get? l = some (listOf vs.toArray k) → IsTs g vs cs as → Q vs cs as → P (.ref x) (.node lab cs) (l :: as))
    (h3 : Q [] [] []) (h4 : ∀ {v : Value} {t : T} {as bs : List Addr} {vs : List Value} {ts : List T}, IsT g v t as → IsTs g vs ts bs → P v t as → Q vs ts bs → Q (v :: vs) (t :: ts) (as ++ bs)) :
    (∀ {v t as}, IsT g v t as → P v t as) ∧ ∀ {vs ts as}, IsTs g vs ts as → Q vs ts as :=
  ⟨fun h => IsT.rec (motive_1 := fun v t as _ => P v t as) (motive_2 := fun vs ts as _ => Q vs ts as) h1 h2 h3 h4 h, fun h => IsTs.rec (motive_1 := fun v t as _ => P v t as) (motive_2 := fun vs ts as _ => Q vs ts as) h1 h2 h3 h4 h⟩
theorem IsTs.ind {g : Heap} {Q : List Value → List T → List Addr → Prop} (h3 : Q [] [] []) (h4 : ∀ {v : Value} {t : T} {as bs : List Addr} {vs : List Value} {ts : List T}, IsT g v t as → IsTs g vs ts bs → Q vs ts bs → Q (v :: vs) (t :: ts) (as ++ bs))
    {vs ts as} (h : IsTs g vs ts as) : Q vs ts as := (IsT.both (P := fun _ _ _ => True) (fun _ _ => trivial) (fun _ _ _ _ _ => trivial) h3 fun a b _ d => h4 a b d).2 h
theorem IsT.mono2 {g h : Heap} (k : Sub g h) : (∀ {v t as}, IsT g v t as → IsT h v t as) ∧ ∀ {vs ts as}, IsTs g vs ts as → IsTs h vs ts as :=
  IsT.both (fun x tk => .leaf x tk) (fun a b c _ d => .node (k _ _ a) (k _ _ b) (k _ _ c) d) .nil fun _ _ a b => .cons a b
theorem IsT.mono {g h : Heap} (k : Sub g h) {v : Value} {t : T} {as : List Addr} (x : IsT g v t as) : IsT h v t as := (IsT.mono2 k).1 x
theorem IsTs.mono {g h : Heap} (k : Sub g h) {vs : List Value} {ts : List T} {as : List Addr} (x : IsTs g vs ts as) : IsTs h vs ts as := (IsT.mono2 k).2 x
theorem IsTs.length {g : Heap} {vs : List Value} {ts : List T} {as : List Addr} (h : IsTs g vs ts as) : vs.length = ts.length :=
  h.ind (Q := fun vs ts _ => vs.length = ts.length) rfl fun _ _ ih => congrArg (· + 1) ih
theorem IsTs.get {g : Heap} {vs : List Value} {ts : List T} {as : List Addr} (h : IsTs g vs ts as) : ∀ (i : Nat) (v : Value), vs[i]? = some v → ∃ t bs, ts[i]? = some t ∧ IsT g v t bs :=
  h.ind (Q := fun vs ts _ => ∀ (i : Nat) (v : Value), vs[i]? = some v → ∃ t bs, ts[i]? = some t ∧ IsT g v t bs) (fun i v e => by cases e) fun a _ ih i v e => by
    cases i with
    | zero => cases e; exact ⟨_, _, rfl, a⟩
    | succ i => exact ih i v e

theorem htL_le {ts : List T} {t : T} {i : Nat} (h : ts[i]? = some t) : t.ht ≤ T.htL ts := by
  induction ts generalizing i with
  | nil => simp at h
  | cons x r ih =>
    rw [T.htL]
    cases i with
    | zero => simp at h; subst h; exact Nat.le_max_left _ _
    | succ i => exact Nat.le_trans (ih (by simpa using h)) (Nat.le_max_right _ _)
theorem htL_snoc (ts : List T) (t : T) : T.htL (ts ++ [t]) = max (T.htL ts) t.ht := by
  induction ts with
  | nil => simp [T.htL]
  | cons x r ih => rw [List.cons_append, T.htL, ih, T.htL, Nat.max_assoc]
theorem take_snoc {α : Type} {l : List α} {i : Nat} {x : α} (h : l[i]? = some x) : l.take (i + 1) = l.take i ++ [x] := by
  rw [List.take_add_one, h]; rfl

noncomputable abbrev treeD (h1 h2 : Int) (t1 t2 : Tok) (l : Addr) (lv : Value) : List DictEntry := [⟨h1, .str "_children" t1, .ref l⟩, ⟨h2, .str "_label" t2, lv⟩]
theorem instT {g h : Heap} {x dx : Addr} {es : List DictEntry} {n : Nat} (k : Sub g h) (hx : g.get? x = some (instObj 269 dx)) (hd : g.get? dx = some (dictOf es n)) : InstAt h x (instObj 269 dx) 269 (some (dictOf es n)) :=
  ⟨k _ _ hx, rfl, rfl, k _ _ hd⟩
noncomputable def catL {α : Type} : List (List α) → List α
  | [] => []
  | [x] => x
  | x :: y :: r => x ++ catL (y :: r)
theorem catL_eq {α : Type} (xs : List (List α)) : catL xs = xs.flatten := by
  induction xs with
  | nil => rfl
  | cons x r ih =>
    cases r with
    | nil => exact (List.append_nil x).symm
    | cons y r => rw [catL, ih]; rfl
theorem permL {α : Type} (xs : List (List α)) {is js : List Nat} (h : is.Perm js) : (catL (is.map fun i => xs.getD i [])).Perm (catL (js.map fun i => xs.getD i [])) := by
  rw [catL_eq, catL_eq]; exact (h.map _).flatten
end Mine
namespace Mine
section
variable {w : World} {mg mb : Str → Option Value} {M : Model} {A : Around} {E : Value → Shared → Prop} {X : List Addr} {g₀ g : Heap} {s₀ s : Shared} {L : Addr} {m : Str → Option Value} {ow : List (Addr × Obj)} {env : Env}

theorem pgT (n : Str) : plainGet (Mine.hd.heap_1 w.params) 269 n = true := (by k_is : plainGet (Mine.hd.heap_1 w.params) 269 "x" = true)
theorem hdT : hasDictIn (Mine.hd.heap_1 w.params) 269 = true := by k_is

theorem getOwn {C x dx : Addr} {es : List DictEntry} {n : Nat} {name : Str} {v : Value} {expr : Bool} {Q : Value → Shared → Prop} (G : Amb w mg mb g) (S : St X g₀ s₀ L g s m ow) (I : InstAt s.heap x (instObj C dx) C (some (dictOf es n)))
    (hg : plainGet (Mine.hd.heap_1 w.params) C name = true) (hh : hasDictIn (Mine.hd.heap_1 w.params) C = true) (ha : findIn (Mine.hd.heap_1 w.params) (.ref C) name = some none) (hl : getL name es = some (some v)) (hv : handedIn v = true)
    (h : ∀ s', St X g₀ s₀ L g s' m ow → Q v s') : wpAny (model prg w) A (getAttr (.ref x) name expr) Q E s :=
  get_value (G.keeps S.in_).K I (plainGet_of hg).1 (findObj_own hh ha (by rfl) hl) hv (h _ (S.toks _))
theorem faC : findIn (Mine.hd.heap_1 w.params) (.ref 269) "_children" = some none := by k_is
theorem faL : findIn (Mine.hd.heap_1 w.params) (.ref 269) "_label" = some none := by k_is

theorem getChildren {x dx l : Addr} {h1 h2 : Int} {t1 t2 : Tok} {lv : Value} {n : Nat} {expr : Bool} {Q : Value → Shared → Prop} (G : Amb w mg mb g) (S : St X g₀ s₀ L g s m ow) (hx : g.get? x = some (instObj 269 dx)) (hd : g.get? dx = some (dictOf (treeD h1 h2 t1 t2 l lv) n))
    (h : ∀ s', St X g₀ s₀ L g s' m ow → Q (.ref l) s') : wpAny (model prg w) A (getAttr (.ref x) "_children" expr) Q E s :=
  getOwn G S (instT S.in_ hx hd) (pgT _) hdT faC rfl rfl h
theorem getLabel {x dx l : Addr} {h1 h2 : Int} {t1 t2 tk : Tok} {lv : Str} {n : Nat} {expr : Bool} {Q : Value → Shared → Prop} (G : Amb w mg mb g) (S : St X g₀ s₀ L g s m ow) (hx : g.get? x = some (instObj 269 dx)) (hd : g.get? dx = some (dictOf (treeD h1 h2 t1 t2 l (.str lv tk)) n))
    (h : ∀ s', St X g₀ s₀ L g s' m ow → Q (.str lv tk) s') : wpAny (model prg w) A (getAttr (.ref x) "_label" expr) Q E s :=
  getOwn G S (instT S.in_ hx hd) (pgT _) hdT faL rfl rfl h

theorem methT {x dx : Addr} {es : List DictEntry} {n : Nat} {name : Str} {f : Addr} {pl : Sem Bool} {Q : Value × List Value → Shared → Prop} (G : Amb w mg mb g) (S : St X g₀ s₀ L g s m ow) (I : InstAt s.heap x (instObj 269 dx) 269 (some (dictOf es n)))
    (hf : findIn (Mine.hd.heap_1 w.params) (.ref 269) name = some (some (.ref f))) (ht : typeIn (Mine.hd.heap_1 w.params) (.ref f) = some (.type "function")) (hl : getL name es = some none) (h : Q (.ref f, [.ref x]) s) :
    wpAny (model prg w) A (getMethod (.ref x) name pl) Q E s :=
  method_fn (G.keeps S.in_).K I (plainGet_of (pgT name)).1 (plainGet_of (pgT name)).2 hf ht (by show (lookIn name (dictOf es n)).map _ = _; rw [lookIn_dict, hl]; rfl) h

-- isinstance(.., Tree)
theorem isiT_leaf {y : Str} {u : Tok} {Q : Value → Shared → Prop} (G : Amb w mg mb g) (S : St X g₀ s₀ L g s m ow) (h : ∀ s', St X g₀ s₀ L g s' m ow → Q (.bool false) s') :
    wpAny (model prg w) A (call (.builtin "isinstance") [.str y u, .ref 269]) Q E s :=
  isi kitx_str G S trivial (by kernel_rfl) h
theorem kitT {x dx : Addr} {od : Obj} : KitX (Mine.hd.heap_1 w.params) (.ref x) (.ref 269) (fun h => InstAt h x (instObj 269 dx) 269 (some od)) :=
  kitx_own (pgT _) hdT (by k_is) (by k_is) (by k_is) (by k_is)
theorem isiT_node {x dx : Addr} {od : Obj} {Q : Value → Shared → Prop} (G : Amb w mg mb g) (S : St X g₀ s₀ L g s m ow) (I : InstAt s.heap x (instObj 269 dx) 269 (some od)) (h : ∀ s', St X g₀ s₀ L g s' m ow → Q (.bool true) s') :
    wpAny (model prg w) A (call (.builtin "isinstance") [.ref x, .ref 269]) Q E s :=
  isi kitT G S I (by kernel_rfl) h

theorem gTree : nsIn (Mine.hd.heap_1 w.params) mainGlobals "Tree" = some (some (.ref 269)) := by k_is
theorem gIsi : nsIn (Mine.hd.heap_1 w.params) mainGlobals "isinstance" = some none := by k_is
theorem gMax : nsIn (Mine.hd.heap_1 w.params) mainGlobals "max" = some none := by k_is
theorem gLen : nsIn (Mine.hd.heap_1 w.params) mainGlobals "len" = some none := by k_is
theorem gStr : nsIn (Mine.hd.heap_1 w.params) mainGlobals "str" = some none := by k_is
theorem gInt : nsIn (Mine.hd.heap_1 w.params) mainGlobals "int" = some none := by k_is
theorem gList : nsIn (Mine.hd.heap_1 w.params) mainGlobals "list" = some none := by k_is
theorem gTuple : nsIn (Mine.hd.heap_1 w.params) mainGlobals "tuple" = some none := by k_is
theorem gRange : nsIn (Mine.hd.heap_1 w.params) mainGlobals "range" = some none := by k_is
theorem gAbs : nsIn (Mine.hd.heap_1 w.params) mainGlobals "abs" = some none := by k_is
theorem gAll : nsIn (Mine.hd.heap_1 w.params) mainGlobals "all" = some none := by k_is
theorem gZip : nsIn (Mine.hd.heap_1 w.params) mainGlobals "zip" = some none := by k_is
theorem gEnum : nsIn (Mine.hd.heap_1 w.params) mainGlobals "enumerate" = some none := by k_is
theorem bIsi : bootBuiltins "isinstance" = some (.builtin "isinstance") := by boot_by_name
theorem bMax : bootBuiltins "max" = some (.builtin "max") := by boot_by_name
theorem bLen : bootBuiltins "len" = some (.builtin "len") := by boot_by_name
theorem bAbs : bootBuiltins "abs" = some (.builtin "abs") := by boot_by_name
theorem bAll : bootBuiltins "all" = some (.builtin "all") := by boot_by_name
theorem bStr : bootBuiltins "str" = some (.type "str") := by boot_by_name
theorem bInt : bootBuiltins "int" = some (.type "int") := by boot_by_name
theorem bList : bootBuiltins "list" = some (.type "list") := by boot_by_name
theorem bTuple : bootBuiltins "tuple" = some (.type "tuple") := by boot_by_name
theorem bRange : bootBuiltins "range" = some (.type "range") := by boot_by_name
theorem bZip : bootBuiltins "zip" = some (.type "zip") := by boot_by_name
theorem bEnum : bootBuiltins "enumerate" = some (.type "enumerate") := by boot_by_name
theorem maxI {a b : Int} {t u : Tok} {Q : Value → Shared → Prop} (hh : A.handled = none) (S : St X g₀ s₀ L g s m ow) (h : ∀ s' tk, St X g₀ s₀ L g s' m ow → Q (.int (max a b) tk) s') :
    wpAny (model prg w) A (call (.builtin "max") [.int a t, .int b u]) Q E s :=
  max_two_ints hh fun h' tk hk => by
    by_cases c : b > a
    · rw [if_pos c]; have := h _ u (S.kept (tk := tk) hk); rwa [Int.max_eq_right (Int.le_of_lt c)] at this
    · rw [if_neg c]; have := h _ t (S.kept (tk := tk) hk); rwa [Int.max_eq_left (Int.not_lt.mp c)] at this
end
end Mine
namespace Mine
section
variable {w : World} {mg mb : Str → Option Value} {M : Model} {A : Around} {E : Value → Shared → Prop} {X : List Addr} {g₀ g : Heap} {s₀ s : Shared} {L : Addr} {m : Str → Option Value} {ow : List (Addr × Obj)} {env : Env}

theorem St.callX {Y : List (Addr × Obj)} {g' : Heap} {s' : Shared} (S : St X g₀ s₀ L g s m (Y ++ ow)) (hY : ∀ p ∈ Y, p.1 ∉ X) (G : Grow (Y.map (fun p => p.1)) g s g' s') : St X g₀ s₀ L g' s' m ow := by
  have nd := List.nodup_append.mp (by simpa only [List.map_append] using S.nd)
  have off : ∀ b ∈ Y.map (fun p => p.1), s₀.heap.get? b = none := fun b hb => by
    obtain ⟨p, hp, rfl⟩ := List.mem_map.mp hb
    exact (S.own p (List.mem_append.mpr (.inl hp))).2.2.2.resolve_left (hY p hp)
  have offL : L ∉ Y.map (fun p => p.1) := fun hm => by
    obtain ⟨p, hp, e⟩ := List.mem_map.mp hm
    exact (S.own p (List.mem_append.mpr (.inl hp))).2.1 e
  refine ⟨S.grow.trans G (fun b hb => .inr (off b hb)) S.xin, S.ns.at' fun o e => G.keep _ o offL e, none_of fun o e => ?_, S.newL, fun p hp => ?_, nd.2.1, fun b hb => ?_, S.lo⟩
  · rcases G.fresh _ _ e with h | h
    · rw [S.offL] at h; cases h
    · obtain ⟨oL, _, _, hL, _⟩ := S.ns; rw [h] at hL; cases hL
  · have z := S.own p (List.mem_append.mpr (.inr hp))
    refine ⟨G.keep _ _ (fun hm => ?_) z.1, z.2.1, none_of fun o e => ?_, z.2.2.2⟩
    · obtain ⟨q, hq, e⟩ := List.mem_map.mp hm
      exact nd.2.2 _ (List.mem_map.mpr ⟨q, hq, rfl⟩) _ (List.mem_map.mpr ⟨p, hp, rfl⟩) e
    · rcases G.fresh _ _ e with h | h
      · rw [z.2.2.1] at h; cases h
      · rw [z.1] at h; cases h
  · obtain ⟨o', h⟩ := Option.isSome_iff_exists.mp (S.xin b hb)
    rw [G.keep _ _ (fun hm => by obtain ⟨p, hp, e⟩ := List.mem_map.mp hm; exact hY p hp (e ▸ hb)) h]; rfl

theorem appendL {D : Addr} {its : List Value} {n : Nat} {pre : List (Addr × Obj)} {x : Value} {Q : Value → Shared → Prop} (S : St X g₀ s₀ L g s m (pre ++ (D, listOf its.toArray n) :: ow)) (hz : its.length ≤ sizeLine)
    (h : ∀ s', St X g₀ s₀ L g s' m (pre ++ (D, listOf (its ++ [x]).toArray (n + 1)) :: ow) → Q .none s') : wpAny (model prg w) A (call (.builtin "list.append") [.ref D, x]) Q E s :=
  append_at (hsz := by simpa using hz) (S.get (List.mem_append.mpr (.inr (.head _)))) fun h' hs ho' => h _ (S.upd hs (by rw [ho']; simp))

theorem compW {elt iter target : Expr} {ifs : List Expr} {scope : Scope} {cl : List (Str × Addr)} {pos : Pos} {I : Addr} {fp : List Addr} {n : Nat} {P : Nat → Value → Prop} {Wt : Nat → Heap → Prop} {oi : Obj} {Q : Value → Shared → Prop}
    (W : Walks prg w A I fp [I] n P Wt) (wl : ∀ i h, Wt i h → ∃ o, h.get? I = some o) (S : St X g₀ s₀ L g s m ((I, oi) :: ow)) (hIX : I ∉ X) (hst : Wt 0 s.heap) (hfp : ∀ b ∈ fp, b = I ∨ ∃ o, g.get? b = some o) (hsz : n ≤ sizeLine)
    (hcell : ∀ y ∈ scope.names, y.2 ≠ .cell) (hkind : scope.kind = .function)
    (J : Nat → Heap → List Value → Prop) (h0 : J 0 g [])
    (turn : ∀ i v oi C D g' s' mC ys k, i < n → P i v → Sub g g' → J i g' ys → St [I] g s C g' s' mC [(I, oi), (D, listOf ys.toArray k)] →
      wpAny (model prg w) A (assign target (compEnvC scope cl C env) v) (fun _ s₂ =>
        wpAny (model prg w) A (forIn ifs true fun c r => if r = true then do let ok ← isTrue c (compEnvC scope cl C env) (eval c (compEnvC scope cl C env)); pure (ForInStep.yield ok) else pure (ForInStep.yield r)) (fun ok s₃ =>
          if ok = true then wpAny (model prg w) A (eval elt (compEnvC scope cl C env)) (fun y s₄ => ∃ g₄ m₄, Sub g' g₄ ∧ St [I] g s C g₄ s₄ m₄ [(I, oi), (D, listOf ys.toArray k)] ∧ J (i + 1) g₄ (ys ++ [y])) (fun _ _ => False) s₃
          else ∃ g₃ m₃, Sub g' g₃ ∧ St [I] g s C g₃ s₃ m₃ [(I, oi), (D, listOf ys.toArray k)] ∧ J (i + 1) g₃ ys) (fun _ _ => False) s₂) (fun _ _ => False) s')
    (done : ∀ D g' s' ys k, Sub g g' → J n g' ys → St X g₀ s₀ L g' s' m ((D, listOf ys.toArray k) :: ow) → Q (.ref D) s') (ht : ∀ v, letOwnedTupleGo target (.ref I) v = pure () := by intro _; rfl) :
    wpAny (model prg w) A (newList []) (fun acc s₃ => wpAny (model prg w) A (newFunctionEnv scope env.globals cl [] env.qual none .none (some env)) (fun cenv s₄ =>
      codeAny (model prg w) A (.compStart (.ListComp elt [⟨target, iter, ifs, 0⟩] scope pos) 0 (.ref I) acc { cenv with scope := relabel scope env }) (compPost (model prg w) A E none Q acc cenv.locals) s₄) E s₃) E s := by
  refine wpAny_newObj_type ?_
  have SD := S.push (listOf ([] : List Value).toArray 0)
  have hIs : s.heap.get? I = some oi := S.get (.head _)
  have hIne : I ≠ s.heap.objs.size := Nat.ne_of_lt (Heap.lt_size hIs)
  refine wpAny_newFunctionEnv hcell (by intro y hy; simp at hy) (fun h₁ hns₁ hsb₁ => ?_) hkind
  dsimp only at hns₁ hsb₁ ⊢
  generalize hH2 : s.heap.push { cls := .type "list", dict := none, data := .seq ([] : List Value).toArray } = H2 at hns₁ hsb₁ SD ⊢
  have hCz : H2.objs.size = s.heap.objs.size + 1 := by rw [← hH2, Heap.size_push]
  have old : ∀ b o, s.heap.get? b = some o → h₁.get? b = some o := fun b o e =>
    hsb₁.extBut b o (by rw [hCz]; exact Nat.ne_of_lt (Nat.lt_succ_of_lt (Heap.lt_size e))) (Heap.get?_push_of_some _ (hH2 ▸ Heap.get?_push_of_some _ e))
  have hD₁ : h₁.get? s.heap.objs.size = some (listOf ([] : List Value).toArray 0) :=
    hsb₁.extBut _ _ (by rw [hCz]; exact Nat.ne_of_lt (Nat.lt_succ_self _)) (Heap.get?_push_of_some _ (hH2 ▸ Heap.get?_push_size _ rfl))
  have hC0 : s.heap.get? H2.objs.size = none := none_of fun o e => by have := Heap.lt_size e; rw [hCz] at this; exact Nat.lt_irrefl _ (Nat.lt_of_succ_lt this)
  have hD0 := get_push_size_none s.heap
  have hDC : s.heap.objs.size ≠ H2.objs.size := by rw [hCz]; exact Nat.ne_of_lt (Nat.lt_succ_self _)
  have hgN : ∀ {b}, s.heap.get? b = none → g.get? b = none := fun h => none_of fun o e => by rw [S.in_ _ _ e] at h; cases h
  have hIC : I ≠ H2.objs.size := fun e => by rw [← e, hIs] at hC0; cases hC0
  have hClo : 353 ≤ H2.objs.size := by
    obtain ⟨oL, _, _, hL, _⟩ := S.ns
    rw [hCz]; exact Nat.le_trans S.lo (Nat.le_trans (Nat.le_of_lt (Heap.lt_size hL)) (Nat.le_succ _))
  have S₁ : St [I] g s H2.objs.size g { s with heap := h₁, toks := s.toks } (fun x => List.lookup x ([] : List (Str × Value)).reverse) [(I, oi), (s.heap.objs.size, listOf ([] : List Value).toArray 0)] := by
    refine ⟨⟨.refl _, fun b o e => old b o (S.in_ b o e), fun b o _ e => old b o e, fun b o e => .inl e, fun _ _ e => e, id, rfl⟩, hns₁, hgN hC0, hC0, fun p hp => ?_, ?_, fun b hb => by rw [List.mem_singleton.mp hb]; dsimp only; rw [old _ _ hIs]; rfl, hClo⟩
    · rcases List.mem_cons.mp hp with rfl | hp
      · exact ⟨old _ _ hIs, hIC, (S.own _ (.head _)).2.2.1, .inl (.head _)⟩
      · rw [List.mem_singleton.mp hp]
        exact ⟨hD₁, hDC, hgN hD0, .inr hD0⟩
    · simp only [List.map_cons, List.map_nil, List.nodup_cons, List.mem_singleton, List.not_mem_nil, not_false_eq_true, List.nodup_nil, and_true]
      exact hIne
  generalize hCC : H2.objs.size = C at *
  generalize hDD : s.heap.objs.size = D at *
  have loop : ∀ s₃ : Shared, s₃ = { s with heap := h₁, toks := s.toks } →
      codeAny (model prg w) A (.compLoop (.ListComp elt [⟨target, iter, ifs, 0⟩] scope pos) 0 (.ref I) (.ref D) (compEnvC scope cl C env)) (compPost (model prg w) A E none Q (.ref D) C) s₃ := by
    rintro s₃ rfl
    refine codeAny_compLoop_tests (fun k s' => ∃ i g' mC ys oi' e, k = n + 1 - i ∧ i ≤ n ∧ ys.length ≤ i ∧ Sub g g' ∧ J i g' ys ∧ St [I] g s C g' s' mC [(I, oi'), (D, listOf ys.toArray e)] ∧ Wt i s'.heap) ?_ (n + 1)
      ⟨0, g, _, [], oi, 0, rfl, Nat.zero_le _, Nat.le_refl _, .refl _, h0, S₁, W.frame _ _ _ hst fun b _ o e => old b o e⟩ ht
    rintro k s' ⟨i, g', mC, ys, oi', ep, rfl, hi, hys, hg, hJ, S', hst'⟩
    have hz : ys.length ≤ sizeLine := Nat.le_trans hys (Nat.le_trans hi hsz)
    rcases Nat.lt_or_ge i n with hlt | hge
    · refine W.item i s' _ _ hlt hst' fun v h' tk hP hst₁ hk => ?_
      obtain ⟨o₁, ho₁⟩ := wl _ _ hst₁
      have zI := S'.own _ (.head _)
      have zD := S'.own _ (.tail _ (.head _))
      have hk' : ∀ b o, b ≠ I → s'.heap.get? b = some o → h'.get? b = some o := fun b o hb e => hk b o (fun hm => hb (List.mem_singleton.mp hm)) e
      have S₂ : St [I] g s C g' { s' with heap := h', toks := tk } mC [(I, o₁), (D, listOf ys.toArray ep)] := by
        refine ⟨⟨S'.grow.sub, fun b o e => hk' b o (fun q => ?_) (S'.in_ b o e), fun b o hb e => hk' b o (fun q => hb (q ▸ .head _)) (S'.grow.keep b o hb e), S'.grow.fresh, S'.grow.gens, S'.grow.bare, S'.grow.os⟩, S'.ns.at' fun o e => hk' _ o zI.2.1.symm e, S'.offL, S'.newL, fun p hp => ?_, S'.nd, fun b hb => by rw [List.mem_singleton.mp hb]; dsimp only; rw [ho₁]; rfl, S'.lo⟩
        · rw [q, zI.2.2.1] at e; cases e
        · rcases List.mem_cons.mp hp with rfl | hp
          · exact ⟨ho₁, zI.2⟩
          · rw [List.mem_singleton.mp hp]
            refine ⟨hk' _ _ (fun q => ?_) zD.1, zD.2⟩
            have := S'.nd
            simp only [List.map_cons, List.map_nil, List.nodup_cons, List.mem_singleton] at this
            exact this.1 q.symm
      have hfp' : ∀ s₃ g₃ m₃ e₃, Sub g' g₃ → St [I] g s C g₃ s₃ m₃ [(I, o₁), e₃] → Wt (i + 1) s₃.heap := fun s₃ g₃ m₃ e₃ hg₃ S₃ => W.frame _ _ _ hst₁ fun b hb o e => by
        rcases hfp b hb with rfl | ⟨o', ho'⟩
        · rw [ho₁] at e; cases e; exact S₃.get (.head _)
        · have e1 := S₂.in_ _ _ (hg _ _ ho')
          dsimp only at e1
          rw [e] at e1; cases e1
          exact S₃.in_ _ _ (hg₃ _ _ (hg _ _ ho'))
      refine wpAny_noRaise (wpAny_mono (turn i v o₁ C D g' _ mC ys ep hlt hP hg hJ S₂) (fun _ s₂ t₂ => wpAny_noRaise (wpAny_mono t₂ (fun ok s₃ t₃ => ?_) fun _ _ x => x)) fun _ _ x => x)
      cases ok with
      | false =>
        rw [if_neg Bool.false_ne_true] at t₃ ⊢
        obtain ⟨g₃, m₃, hg₃, S₃, hJ₃⟩ := t₃
        exact ⟨n + 1 - (i + 1), by omega, i + 1, g₃, m₃, ys, o₁, ep, rfl, hlt, by omega, hg.trans hg₃, hJ₃, S₃, hfp' _ _ _ _ hg₃ S₃⟩
      | true =>
        rw [if_pos rfl] at t₃ ⊢
        refine wpAny_noRaise (wpAny_mono t₃ (fun y s₄ t₄ => ?_) fun _ _ x => x)
        obtain ⟨g₄, m₄, hg₄, S₄, hJ₄⟩ := t₄
        refine appendL (pre := [(I, o₁)]) (ow := []) S₄ hz fun s₅ S₅ => ?_
        exact ⟨n + 1 - (i + 1), by omega, i + 1, g₄, m₄, ys ++ [y], o₁, ep + 1, rfl, hlt, by simp only [List.length_append, List.length_singleton]; omega, hg.trans hg₄, hJ₄, S₅, hfp' _ _ _ _ hg₄ S₅⟩
    · have hin : i = n := by omega
      subst hin
      refine W.done s' _ _ hst' fun h' tk hk => ?_
      have hk' : ∀ b o, b ≠ I → s'.heap.get? b = some o → h'.get? b = some o := fun b o hb e => hk b o (fun hm => hb (List.mem_singleton.mp hm)) e
      have zI := S'.own _ (.head _)
      have zD := S'.own _ (.tail _ (.head _))
      have hDI : D ≠ I := fun q => by
        have := S'.nd
        simp only [List.map_cons, List.map_nil, List.nodup_cons, List.mem_singleton] at this
        exact this.1 q.symm
      refine ⟨mC, S'.ns.at' fun o e => hk' _ o zI.2.1.symm e, fun h₃ hs₃ => ?_⟩
      have hk₃ : ∀ b o, b ≠ I → b ≠ C → s'.heap.get? b = some o → h₃.get? b = some o := fun b o hb hc e => (hs₃.2 b hc).trans (hk' b o hb e)
      refine done D g' _ ys ep hg hJ ?_
      have Gr : Grow [I] g s g' { s' with heap := h₃, toks := tk } := by
        refine ⟨S'.grow.sub, fun b o e => hk₃ b o (fun q => ?_) (fun q => ?_) (S'.in_ b o e), fun b o hb e => hk₃ b o (fun q => hb (q ▸ .head _)) (fun q => ?_) (S'.grow.keep b o hb e), S'.grow.fresh, S'.grow.gens, S'.grow.bare, S'.grow.os⟩
        · rw [q, zI.2.2.1] at e; cases e
        · rw [q, S'.offL] at e; cases e
        · rw [q, S'.newL] at e; cases e
      have S₄ := S.callX (Y := [(I, oi)]) (fun p hp => by rw [List.mem_singleton.mp hp]; exact hIX) Gr
      refine ⟨S₄.grow, S₄.ns, S₄.offL, S₄.newL, fun p hp => ?_, ?_, S₄.xin, S₄.lo⟩
      · rcases List.mem_cons.mp hp with rfl | hp
        · refine ⟨hk₃ _ _ hDI zD.2.1 zD.1, fun q => ?_, zD.2.2.1, .inr (S.back hD0)⟩
          obtain ⟨oL, _, _, hL, _⟩ := S.ns
          rw [← q] at hL; dsimp only at hL; rw [hD0] at hL; cases hL
        · exact S₄.own p hp
      · refine List.nodup_cons.mpr ⟨fun hm => ?_, S₄.nd⟩
        obtain ⟨p, hp, q⟩ := List.mem_map.mp hm
        have := (S.own p (.tail _ hp)).1
        rw [q] at this; dsimp only at this; rw [hD0] at this; cases this
  exact codeAny_compStart_list (loop _ rfl) (W.self 0 _ _ _ (W.frame _ _ _ hst fun b _ o e => old b o e) (loop _ rfl))
end
end Mine
namespace Mine
section
variable {w : World} {mg mb : Str → Option Value} {M : Model} {A : Around} {E : Value → Shared → Prop} {X : List Addr} {g₀ g : Heap} {s₀ s : Shared} {L : Addr} {m : Str → Option Value} {ow : List (Addr × Obj)} {env : Env}

noncomputable def Rd (g : Heap) (v : Value) (d : PyData) : Prop := ∃ as, Reads g v d as
noncomputable def RdA (g : Heap) (vs : List Value) (ds : List PyData) : Prop := ∃ as, ReadsAll g vs ds as
theorem Rd.mono {g h : Heap} {v : Value} {d : PyData} (k : Sub g h) (r : Rd g v d) : Rd h v d := let ⟨as, q⟩ := r; ⟨as, Reads.keeps k q⟩
theorem RdA.mono {g h : Heap} {vs : List Value} {ds : List PyData} (k : Sub g h) (r : RdA g vs ds) : RdA h vs ds := let ⟨as, q⟩ := r; ⟨as, ReadsAll.keeps k q⟩
theorem Rd.int {g : Heap} (i : Int) (t : Tok) : Rd g (.int i t) (.int i) := ⟨_, .int i t⟩
theorem Rd.str {g : Heap} (x : Str) (t : Tok) : Rd g (.str x t) (.str x) := ⟨_, .str x t⟩
theorem Rd.bool {g : Heap} (b : Bool) : Rd g (.bool b) (.bool b) := ⟨_, .bool b⟩
theorem Rd.none {g : Heap} : Rd g .none .none := ⟨_, .none⟩
theorem RdA.nil {g : Heap} : RdA g [] [] := ⟨_, .nil⟩
theorem RdA.cons {g : Heap} {v : Value} {vs : List Value} {d : PyData} {ds : List PyData} (r : Rd g v d) (q : RdA g vs ds) : RdA g (v :: vs) (d :: ds) := let ⟨_, r⟩ := r; let ⟨_, q⟩ := q; ⟨_, .cons r q⟩
theorem Rd.list {g : Heap} {a : Addr} {vs : List Value} {ds : List PyData} (h : g.IsList a vs.toArray) (q : RdA g vs ds) : Rd g (.ref a) (.list ds) := by
  obtain ⟨o, h1, h2, n, h3⟩ := h
  obtain ⟨as, q⟩ := q
  exact ⟨_, .list h1 h2 h3 (by simpa using q)⟩
theorem Rd.tuple {g : Heap} {a : Addr} {vs : List Value} {ds : List PyData} (h : IsTup g a vs.toArray) (q : RdA g vs ds) : Rd g (.ref a) (.tuple ds) := by
  obtain ⟨o, h1, h2, n, h3⟩ := h
  obtain ⟨as, q⟩ := q
  exact ⟨_, .tuple h1 h2 h3 (by simpa using q)⟩
theorem Rd.asList {g : Heap} {v : Value} {ds : List PyData} (r : Rd g v (.list ds)) : ∃ a vs, v = .ref a ∧ g.IsList a vs.toArray ∧ RdA g vs ds := by
  obtain ⟨as, r⟩ := r
  cases r with
  | @list a o vs n _ as h1 h2 h3 q => exact ⟨a, vs.toList, rfl, ⟨o, h1, h2, n, by simpa using h3⟩, _, q⟩
theorem Rd.asTuple {g : Heap} {v : Value} {ds : List PyData} (r : Rd g v (.tuple ds)) : ∃ a vs, v = .ref a ∧ IsTup g a vs.toArray ∧ RdA g vs ds := by
  obtain ⟨as, r⟩ := r
  cases r with
  | @tuple a o vs n _ as h1 h2 h3 q => exact ⟨a, vs.toList, rfl, ⟨o, h1, h2, n, by simpa using h3⟩, _, q⟩
theorem Rd.asInt {g : Heap} {v : Value} {i : Int} (r : Rd g v (.int i)) : ∃ t, v = .int i t := by obtain ⟨as, r⟩ := r; cases r with | int _ t => exact ⟨t, rfl⟩
theorem Rd.asStr {g : Heap} {v : Value} {x : Str} (r : Rd g v (.str x)) : ∃ t, v = .str x t := by obtain ⟨as, r⟩ := r; cases r with | str _ t => exact ⟨t, rfl⟩
theorem RdA.length {g : Heap} {vs : List Value} {ds : List PyData} (r : RdA g vs ds) : vs.length = ds.length := by
  obtain ⟨as, q⟩ := r
  induction ds generalizing vs as with
  | nil => cases q; rfl
  | cons d ds ih => cases q with | cons a b => simp [ih _ b]
theorem RdA.get {g : Heap} {vs : List Value} {ds : List PyData} {i : Nat} {d : PyData} (r : RdA g vs ds) (h : ds[i]? = some d) : ∃ v, vs[i]? = some v ∧ Rd g v d := by
  obtain ⟨as, q⟩ := r
  induction ds generalizing vs as i with
  | nil => simp at h
  | cons e ds ih =>
    cases q with
    | cons a b =>
      cases i with
      | zero => simp at h; subst h; exact ⟨_, rfl, _, a⟩
      | succ i => simpa using ih (by simpa using h) _ b
theorem RdA.get' {g : Heap} {vs : List Value} {ds : List PyData} {i : Nat} {v : Value} (r : RdA g vs ds) (h : vs[i]? = some v) : ∃ d, ds[i]? = some d ∧ Rd g v d := by
  have hl : i < ds.length := by rw [← r.length]; exact (List.getElem?_eq_some_iff.mp h).1
  obtain ⟨v', h1, h2⟩ := r.get (List.getElem?_eq_getElem hl)
  rw [h] at h1; cases h1
  exact ⟨_, List.getElem?_eq_getElem hl, h2⟩
theorem RdA.append {g : Heap} {vs ws : List Value} {ds es : List PyData} (r : RdA g vs ds) (q : RdA g ws es) : RdA g (vs ++ ws) (ds ++ es) := by
  obtain ⟨as, r⟩ := r
  induction ds generalizing vs as with
  | nil => cases r; exact q
  | cons d ds ih => cases r with | cons a b => exact .cons ⟨_, a⟩ (ih _ b)
theorem RdA.split {g : Heap} {vs : List Value} {ds : List PyData} (r : RdA g vs ds) (n : Nat) : RdA g (vs.take n) (ds.take n) ∧ RdA g (vs.drop n) (ds.drop n) := by
  obtain ⟨as, r⟩ := r
  induction n generalizing vs ds as with
  | zero => exact ⟨.nil, _, r⟩
  | succ n ih =>
    cases r with
    | nil => exact ⟨.nil, .nil⟩
    | cons a b =>
      obtain ⟨h1, h2⟩ := ih _ b
      exact ⟨.cons ⟨_, a⟩ h1, h2⟩

noncomputable abbrev tupO (vs : List Value) : Obj := { cls := .type "tuple", data := .seq vs.toArray }
noncomputable abbrev lstO (vs : List Value) (n : Nat := 0) : Obj := { cls := .type "list", data := .seq vs.toArray n }
theorem isTup_of {h : Heap} {a : Addr} {vs : List Value} (e : h.get? a = some (tupO vs)) : IsTup h a vs.toArray := ⟨_, e, rfl, _, rfl⟩
theorem isList_of {h : Heap} {a : Addr} {vs : List Value} {n : Nat} (e : h.get? a = some (lstO vs n)) : h.IsList a vs.toArray := ⟨_, e, rfl, _, rfl⟩
theorem IsList.mono {g h : Heap} {a : Addr} {vs : Array Value} (k : Sub g h) (x : g.IsList a vs) : h.IsList a vs := x.at fun _ e => k _ _ e
theorem IsTup.mono {g h : Heap} {a : Addr} {vs : Array Value} (k : Sub g h) (x : IsTup g a vs) : IsTup h a vs := IsTup.keeps x k

theorem eTup {elts : List Expr} {k : Nat} {pos : Pos} {Q : Value → Shared → Prop} (h : wpAny M A (spliced (backTo pos (starEach elts env))) (fun vs s₁ => wpAny M A (newTuple vs) Q E s₁) E s) :
    wpAny M A (eval (.Tuple elts k pos) env) Q E s := Tuple_ h
theorem eLst {elts : List Expr} {pos : Pos} {Q : Value → Shared → Prop} (h : wpAny M A (spliced (backTo pos (starEach elts env))) (fun vs s₁ => wpAny M A (newList vs) Q E s₁) E s) :
    wpAny M A (eval (.List elts pos) env) Q E s := List_ h
theorem mkTup {vs : List Value} {ds : List PyData} {Q : Value → Shared → Prop} (S : St X g₀ s₀ L g s m ow) (r : RdA g vs ds) (hsz : vs.length ≤ sizeLine)
    (h : ∀ v g' s', Sub g g' → Rd g' v (.tuple ds) → St X g₀ s₀ L g' s' m ow → Q v s') : wpAny M A (newTuple vs) Q E s := by
  refine wpAny_newObj_type ?_ (by show vs.toArray.size ≤ sizeLine; rw [List.size_toArray]; exact hsz)
  have S' := S.push (tupO vs)
  obtain ⟨g', k, e, _, S''⟩ := S'.freeze fun hm => by have := S.xin _ hm; rw [get_push_size_none] at this; cases this
  exact h _ g' _ k (.tuple (isTup_of e) (r.mono k)) S''
theorem mkLst {vs : List Value} {Q : Value → Shared → Prop} (S : St X g₀ s₀ L g s m ow) (hsz : vs.length ≤ sizeLine) (h : ∀ a s', St X g₀ s₀ L g s' m ((a, lstO vs) :: ow) → a ∉ X → Q (.ref a) s') : wpAny M A (newList vs) Q E s := by
  refine wpAny_newObj_type (h _ _ (S.push (lstO vs)) fun hm => ?_) (by show vs.toArray.size ≤ sizeLine; rw [List.size_toArray]; exact hsz)
  have := S.xin _ hm; rw [get_push_size_none] at this; cases this
theorem mkLstF {vs : List Value} {ds : List PyData} {Q : Value → Shared → Prop} (S : St X g₀ s₀ L g s m ow) (r : RdA g vs ds) (hsz : vs.length ≤ sizeLine)
    (h : ∀ v g' s', Sub g g' → Rd g' v (.list ds) → St X g₀ s₀ L g' s' m ow → Q v s') : wpAny M A (newList vs) Q E s := by
  refine mkLst S hsz fun a s' S' ha => ?_
  obtain ⟨g', k, e, _, S''⟩ := S'.freeze ha
  exact h _ g' _ k (.list (isList_of e) (r.mono k)) S''

theorem addLst {l b : Addr} {vs ws : List Value} {Q : Value → Shared → Prop} (S : St X g₀ s₀ L g s m ow) (hl : s.heap.IsList l vs.toArray) (hb : s.heap.IsList b ws.toArray) (hsz : vs.length + ws.length ≤ sizeLine)
    (h : ∀ a s', St X g₀ s₀ L g s' m ((a, lstO (vs ++ ws)) :: ow) → a ∉ X → Q (.ref a) s') : wpAny (model prg w) A (binaryOp .Add (.ref l) (.ref b)) Q E s :=
  add_lists S.fr S.nw hl hb (fun h' F N => h _ _ (S.bk1 (tk := s.toks) F N) fun hm => by have := S.xin _ hm; rw [get_push_size_none] at this; cases this) hsz
theorem addLstF {v u : Value} {ds es : List PyData} {Q : Value → Shared → Prop} (S : St X g₀ s₀ L g s m ow) (r : Rd g v (.list ds)) (q : Rd g u (.list es)) (hsz : ds.length + es.length ≤ sizeLine)
    (h : ∀ v g' s', Sub g g' → Rd g' v (.list (ds ++ es)) → St X g₀ s₀ L g' s' m ow → Q v s') : wpAny (model prg w) A (binaryOp .Add v u) Q E s := by
  obtain ⟨a, vs, rfl, hl, r⟩ := r.asList
  obtain ⟨b, ws, rfl, hb, q⟩ := q.asList
  refine addLst S (IsList.mono S.in_ hl) (IsList.mono S.in_ hb) (by rw [r.length, q.length]; exact hsz) fun c s' S' hc => ?_
  obtain ⟨g', k, e, _, S''⟩ := S'.freeze hc
  exact h _ g' _ k (.list (isList_of e) ((r.append q).mono k)) S''
theorem addTup {v u : Value} {ds es : List PyData} {Q : Value → Shared → Prop} (S : St X g₀ s₀ L g s m ow) (r : Rd g v (.tuple ds)) (q : Rd g u (.tuple es)) (hsz : ds.length + es.length ≤ sizeLine)
    (h : ∀ v g' s', Sub g g' → Rd g' v (.tuple (ds ++ es)) → St X g₀ s₀ L g' s' m ow → Q v s') : wpAny (model prg w) A (binaryOp .Add v u) Q E s := by
  obtain ⟨a, vs, rfl, hl, r'⟩ := id r.asTuple
  obtain ⟨b, ws, rfl, hb, q'⟩ := id q.asTuple
  refine add_tuples S.fr S.nw (IsTup.mono S.in_ hl) (IsTup.mono S.in_ hb) (fun e => ?_) (fun _ e => ?_) (fun _ _ h' F N => ?_) (by rw [r'.length, q'.length]; exact hsz)
  · have hd : ds = [] := by have := r'.length; rw [e] at this; exact List.length_eq_zero_iff.mp this.symm
    subst hd
    exact h _ g _ (.refl _) q S
  · have hd : es = [] := by have := q'.length; rw [e] at this; exact List.length_eq_zero_iff.mp this.symm
    subst hd
    exact h _ g _ (.refl _) (by rw [List.append_nil]; exact r) S
  · have S' := S.bk1 (tk := s.toks) F N
    obtain ⟨g', k, e, _, S''⟩ := S'.freeze fun hm => by have := S.xin _ hm; rw [get_push_size_none] at this; cases this
    exact h _ g' _ k (.tuple (isTup_of e) ((r'.append q').mono k)) S''

theorem itLst {value slice : Expr} {l : Addr} {vs : List Value} {k : Int} {u : Tok} {x : Value} {Q : Value → Shared → Prop} (hl : s.heap.IsList l vs.toArray) (h0 : 0 ≤ k) (hx : vs[k.toNat]? = some x) (hk : k < 2 ^ 63) (h : Q x s)
    (hs : subscripted slice false (.ref l) (.int k u) = operate [.ref l, .int k u] (getItem (.ref l) (.int k u)) := by with_unfolding_all rfl) : wpAny (model prg w) A (subscriptTail value slice (.ref l) (.int k u)) Q E s :=
  tail_any hl.typeIs slot_list_getitem.lookup (wpAny_getItem_list hl h0 hk (by simpa using hx) h) hs
theorem itRdL {value slice : Expr} {v : Value} {ds : List PyData} {k : Int} {u : Tok} {d : PyData} {Q : Value → Shared → Prop} (S : St X g₀ s₀ L g s m ow) (r : Rd g v (.list ds)) (h0 : 0 ≤ k) (hd : ds[k.toNat]? = some d) (hk : k < 2 ^ 63)
    (h : ∀ x, Rd g x d → Q x s) (hs : ∀ l, subscripted slice false (.ref l) (.int k u) = operate [.ref l, .int k u] (getItem (.ref l) (.int k u)) := by intro _; with_unfolding_all rfl) : wpAny (model prg w) A (subscriptTail value slice v (.int k u)) Q E s := by
  obtain ⟨a, vs, rfl, hl, r⟩ := r.asList
  obtain ⟨x, hx, q⟩ := r.get hd
  exact itLst (IsList.mono S.in_ hl) h0 hx hk (h x q) (hs a)
theorem itRdT {value slice : Expr} {v : Value} {ds : List PyData} {k : Int} {u : Tok} {d : PyData} {Q : Value → Shared → Prop} (S : St X g₀ s₀ L g s m ow) (r : Rd g v (.tuple ds)) (h0 : 0 ≤ k) (hd : ds[k.toNat]? = some d) (hk : k < 2 ^ 63)
    (h : ∀ x, Rd g x d → Q x s) (hs : ∀ l, subscripted slice false (.ref l) (.int k u) = operate [.ref l, .int k u] (getItem (.ref l) (.int k u)) := by intro _; with_unfolding_all rfl) : wpAny (model prg w) A (subscriptTail value slice v (.int k u)) Q E s := by
  obtain ⟨a, vs, rfl, hl, r⟩ := r.asTuple
  obtain ⟨x, hx, q⟩ := r.get hd
  have hj : k.toNat < vs.length := (List.getElem?_eq_some_iff.mp hx).1
  refine item_tupleT (IsTup.mono S.in_ hl) (by omega) hk (j := k.toNat) ?_ hx (h x q) (hs a)
  unfold seqIndex?
  have e : (if k < 0 then k + (vs.length : Int) else k) = k := if_neg (by omega)
  simp only [e]
  rw [if_pos (by rw [Bool.and_eq_true, decide_eq_true_eq, decide_eq_true_eq]; omega)]
end
end Mine
namespace Mine
section
variable {w : World} {mg mb : Str → Option Value} {M : Model} {A : Around} {E : Value → Shared → Prop} {X : List Addr} {g₀ g : Heap} {s₀ s : Shared} {L : Addr} {m : Str → Option Value} {ow : List (Addr × Obj)} {env : Env}

noncomputable def RdL (g : Heap) (v : Value) (ds : List PyData) : Prop := ∃ a vs n, v = .ref a ∧ g.get? a = some (lstO vs n) ∧ RdA g vs ds
theorem RdL.rd {v : Value} {ds : List PyData} (r : RdL g v ds) : Rd g v (.list ds) := let ⟨_, _, _, e, h, q⟩ := r; e ▸ .list (isList_of h) q
theorem lenL {v : Value} {ds : List PyData} {Q : Value → Shared → Prop} (S : St X g₀ s₀ L g s m ow) (r : Rd g v (.list ds)) (hz : ds.length ≤ sizeLine) (h : ∀ tk s', St X g₀ s₀ L g s' m ow → Q (.int (ds.length : Nat) tk) s') : wpAny (model prg w) A (call (.builtin "len") [v]) Q E s := by
  obtain ⟨a, vs, rfl, hl, r⟩ := r.asList
  have hz' : (vs.toArray.size : Int) < 2 ^ 63 := by rw [List.size_toArray, r.length]; rw [sizeLine_eq] at hz; omega
  refine len_list (IsList.mono S.in_ hl) hz' ?_
  rw [List.size_toArray, r.length]
  exact h _ _ (S.toks _)
theorem lenT {v : Value} {ds : List PyData} {Q : Value → Shared → Prop} (S : St X g₀ s₀ L g s m ow) (r : Rd g v (.tuple ds)) (hz : ds.length ≤ sizeLine) (h : ∀ tk s', St X g₀ s₀ L g s' m ow → Q (.int (ds.length : Nat) tk) s') : wpAny (model prg w) A (call (.builtin "len") [v]) Q E s := by
  obtain ⟨a, vs, rfl, hl, r⟩ := r.asTuple
  have hz' : (vs.toArray.size : Int) < 2 ^ 63 := by rw [List.size_toArray, r.length]; rw [sizeLine_eq] at hz; omega
  refine PyProof.Rows.len_tuple (IsTup.mono S.in_ hl) hz' ?_
  rw [List.size_toArray, r.length]
  exact h _ _ (S.toks _)

theorem eqR {a b : Value} {da db : PyData} {Q : Value → Shared → Prop} {n : Nat} (hr : Room A n) (hn : 6 ≤ n) (S : St X g₀ s₀ L g s m ow) (ra : Rd g a da) (rb : Rd g b db) (ha : SeqAt.shaped da = true) (hb : SeqAt.shaped db = true) (h : Q (.bool (PyData.eqv da db)) s) :
    wpAny (model prg w) A (compareOp .Eq a b) Q E s := by
  obtain ⟨as, ra⟩ := ra
  obtain ⟨bs, rb⟩ := rb
  exact eq_dataH (Reads.keeps S.in_ ra) (Reads.keeps S.in_ rb) ha hb (by have := hr.2.2; omega) h
theorem neR {a b : Value} {da db : PyData} {Q : Value → Shared → Prop} {n : Nat} (hr : Room A n) (hn : 6 ≤ n) (S : St X g₀ s₀ L g s m ow) (ra : Rd g a da) (rb : Rd g b db) (ha : SeqAt.shaped da = true) (hb : SeqAt.shaped db = true) (h : Q (.bool (!PyData.eqv da db)) s) :
    wpAny (model prg w) A (compareOp .NotEq a b) Q E s := by
  obtain ⟨as, ra⟩ := ra
  obtain ⟨bs, rb⟩ := rb
  exact ne_dataH (Reads.keeps S.in_ ra) (Reads.keeps S.in_ rb) ha hb (by have := hr.2.2; omega) h
theorem eqv_self {d : PyData} (h : SeqAt.shaped d = true) : PyData.eqv d d = true := SeqAt.eqv_refl d (SeqAt.canLay_of_shaped h)

theorem tyCall {id : String} {f : Str} {p pos : Pos} {e : Expr} {rest : List Expr} {Q : Value → Shared → Prop}
    (hf : wpAny M A (eval (.Name f p) env) (fun v s₁ => v = .type id ∧ wpAny M A (spliced (backTo pos (starEach (e :: rest) env))) (fun vs s₂ => wpAny M A (call (.type id) vs) Q E s₂) E s₁) E s)
    (he : starEach (e :: rest) env = (false, eval e env) :: starEach rest env := by rfl) (hp : (backTo pos (starEach (e :: rest) env)).any (·.1) = false := by rfl) :
    wpAny M A (eval (.Call (.Name f p) (e :: rest) [] pos) env) Q E s := by
  refine wpAny_Call_Name_kw (wpAny_mono hf (fun v s₁ h₁ => ?_) fun _ _ x => x)
  obtain ⟨rfl, h₁⟩ := h₁
  refine PyProof.Rows.callWith_type hp ?_
  rw [he] at h₁ ⊢
  exact evalArgs_plain h₁

theorem meList {name : Str} {id : String} {o : Expr} {apos pos : Pos} {e : Expr} {rest : List Expr} {pl : Sem Bool} {Q : Value → Shared → Prop}
    (h : wpAny (model prg w) A (eval o env) (fun ov s₁ => ∃ l vs n, ov = .ref l ∧ s₁.heap.get? l = some (lstO vs n) ∧
      wpAny (model prg w) A (spliced (backTo pos (starEach (e :: rest) env))) (fun vs s₃ => wpAny (model prg w) A (call (.builtin id) (.ref l :: vs)) Q E s₃) E s₁) E s)
    (slot : Slot "list" name id) (hty : typeOf (.builtin id) = pure (.type "method_descriptor"))
    (he : eval (.Call (.Attribute o name apos) (e :: rest) [] pos) env = (do
      let ov ← eval o env
      standAt apos.atName
      let (f, first) ← holding [ov] (getMethod ov name pl)
      callWith pos f first (backTo pos (starEach (e :: rest) env)) (backToKw pos (keywordEach [] env))) := by rfl)
    (hs : starEach (e :: rest) env = (false, eval e env) :: starEach rest env := by rfl)
    (hp : (backTo pos (starEach rest env)).any (·.1) = false := by rfl) :
    wpAny (model prg w) A (eval (.Call (.Attribute o name apos) (e :: rest) [] pos) env) Q E s := by
  refine methodCall_KW (wpAny_mono h (fun ov s₁ h₁ => ?_) fun _ _ x => x) he
  obtain ⟨l, vs, n, rfl, hl, h₁⟩ := h₁
  exact getMethod_list_of slot hty (isList_of hl) ⟨_, hl, rfl⟩ (callWith_method1 h₁ hs hp)

theorem xExpr {e : Expr} {pos : Pos} {rest : List Stmt} {Q : Flow → Shared → Prop} (h : wpAny M A (eval e env) (fun v s₁ => v = .none ∧ wpAny M A (execs rest env) Q E s₁) E s)
    (hi : interactive env = false := by rfl) (hs : swapsWith e none pos.line env = pure false := by rfl) : wpAny M A (execs (.Expr e pos :: rest) env) Q E s :=
  wpAny_execs_cons (wpAny_Expr (wpAny_mono h (fun v s₁ h₁ => by obtain ⟨rfl, h₁⟩ := h₁; exact h₁) fun _ _ x => x) hi hs)

theorem mapSeq_app' (its its2 : List Value) (n : Nat) : ∃ n', Obj.mapSeq (fun x => x ++ its2.toArray) (lstO its n) = lstO (its ++ its2) n' :=
  ⟨_, by rw [mapSeq_app]; simp only [List.append_toArray, Obj.mk.injEq, Data.seq.injEq, true_and, and_true]; rfl⟩
theorem extendL {D b : Addr} {its its2 : List Value} {n n2 : Nat} {pre : List (Addr × Obj)} {Q : Value → Shared → Prop} (S : St X g₀ s₀ L g s m (pre ++ (D, lstO its n) :: ow)) (hb : s.heap.get? b = some (lstO its2 n2)) (hz : its.length + its2.length ≤ sizeLine)
    (h : ∀ s' n', St X g₀ s₀ L g s' m (pre ++ (D, lstO (its ++ its2) n') :: ow) → Q .none s') : wpAny (model prg w) A (call (.builtin "list.extend") [.ref D, .ref b]) Q E s := by
  have hm := S.get (List.mem_append.mpr (.inr (.head _)))
  have hz' : its.toArray.size + its2.toArray.size ≤ sizeLine := by simpa using hz
  refine call_meets PySem.F.slot_list_extend ⟨_, hm, rfl⟩ PySem.F.entry_list_extend (PySem.F.args_list_extend_2 _ _) (AutoSeq1.list_extend_list_list_0 D its.toArray n b its2.toArray n2 (extend_door hz') (Nat.le_trans (Nat.le_add_right _ _) hz')) ⟨hm, hb, ?_⟩
  obtain ⟨n', e⟩ := mapSeq_app' its its2 n
  exact h _ n' (S.upd (Heap.SameBut.update ..) ((Heap.get?_update_self _ hm (by rw [e]; rfl)).trans (by rw [e])))

theorem loopL {target : Expr} {body : List Stmt} {l : Addr} {vs : List Value} {R : Result → Shared → Prop}
    (hh : A.handled = none) (S : St X g₀ s₀ L g s m ow) (hl : g.IsList l vs.toArray)
    (J : Nat → Heap → (Str → Option Value) → List (Addr × Obj) → Prop) (h0 : J 0 g m ow)
    (turn : ∀ i v it oi g' s' m' ow', vs[i]? = some v → Sub g g' → J i g' m' ow' → it ∉ X → St X g₀ s₀ L g' s' m' ((it, oi) :: ow') →
      wpAny (model prg w) A (letOwnedTupleGo target (.ref it) v) (fun _ s₁ => wpAny (model prg w) A (assign target env v) (fun _ s₂ => wpAny (model prg w) A (execs body env) (fun f s₃ => match f with
        | .next | .cont => ∃ g₃ m₃ ow₃, Sub g' g₃ ∧ St X g₀ s₀ L g₃ s₃ m₃ ((it, oi) :: ow₃) ∧ J (i + 1) g₃ m₃ ow₃
        | .brk => R (.ok .next) s₃
        | .ret v => R (.ok (.ret v)) s₃) (fun _ _ => False) s₂) (fun _ _ => False) s₁) (fun _ _ => False) s')
    (done : ∀ g' s' m' ow', Sub g g' → J vs.length g' m' ow' → St X g₀ s₀ L g' s' m' ow' → R (.ok .next) s') :
    wpAny (model prg w) A (pyIter (.ref l)) (fun it s₂ => codeAny (model prg w) A (.forLoop target it body [] env) R s₂) E s := by
  have hls : s.heap.IsList l vs.toArray := IsList.mono S.in_ hl
  obtain ⟨ol, hol, _⟩ := id hl
  refine wpAny_pyIter_list hls ?_
  have hne : l ≠ s.heap.objs.size := Nat.ne_of_lt (Heap.lt_size (S.in_ _ _ hol))
  have W := Walks.list (prog := prg) (w := w) hh s.heap.objs.size l hne vs.toArray
  have hX' : s.heap.objs.size ∉ X := fun hm => by
    have y := S.xin _ hm
    rw [get_push_size_none] at y; cases y
  refine loopW (P := fun i v => vs.toArray[i]? = some v) W (fun i h st => by obtain ⟨⟨o, ho, _⟩, _⟩ := st; exact ⟨o, ho⟩) (S.push _) hX' ⟨⟨_, Heap.get?_push_size _ rfl, rfl, rfl⟩, hls.push _⟩ (fun b hb => ?_) J h0 ?_ ?_
  · rcases List.mem_cons.mp hb with rfl | hb
    · exact .inl rfl
    · rw [List.mem_singleton.mp hb]; exact .inr ⟨_, hol⟩
  · intro i v it oi g' s' m' ow' _ hP hg hJ hit S'
    exact turn i v it oi g' s' m' ow' (by simpa using hP) hg hJ hit S'
  · intro g' s' m' ow' hg hJ S'
    exact done g' s' m' ow' hg (by simpa using hJ) S'

theorem lcEval {elt target iter : Expr} {ifs : List Expr} {scope : Scope} {cl : List (Str × Addr)} {pos : Pos} {Q : Value → Shared → Prop}
    (hclos : closureFor scope env = pure cl) (hkind : scope.kind = .function) (hnames : ∀ y ∈ scope.names, y.2 = .local → scope.names.lookup y.1 = some .local)
    (h : wpAny M A (eval iter env) (fun xv s₁ => wpAny M A (pyIter xv) (fun it s₂ => wpAny M A (newList []) (fun acc s₃ => wpAny M A (newFunctionEnv scope env.globals cl [] env.qual none .none (some env)) (fun cenv s₄ =>
      codeAny M A (.compStart (.ListComp elt [⟨target, iter, ifs, 0⟩] scope pos) 0 it acc { cenv with scope := relabel scope env }) (compPost M A E none Q acc cenv.locals) s₄) E s₃) E s₂) E s₁) E s)
    (hs : ∀ x, foldedSetIterable iter env x = pure x := by intro _; rfl) : wpAny M A (eval (.ListComp elt [⟨target, iter, ifs, 0⟩] scope pos) env) Q E s := by
  rw [eval_ListComp]
  exact wpAny_comprehension_free (use := none) rfl hs hclos hkind hnames h

noncomputable def Turn1 (w : World) (A : Around) (I : Addr) (g : Heap) (se : Shared) (C : Addr) (cenv : Env) (elt : Expr) (g' : Heap) (s' : Shared) (ow2 : List (Addr × Obj)) (J : Heap → Value → Prop) : Prop :=
  wpAny (model prg w) A (eval elt cenv) (fun y s₄ => ∃ g₄ m₄, Sub g' g₄ ∧ St [I] g se C g₄ s₄ m₄ ow2 ∧ J g₄ y) (fun _ _ => False) s'
noncomputable def Turn2 (w : World) (A : Around) (I : Addr) (g : Heap) (se : Shared) (C : Addr) (cenv : Env) (test elt : Expr) (g' : Heap) (s' : Shared) (ow2 : List (Addr × Obj)) (J : Heap → Value → Prop) (J' : Heap → Prop) : Prop :=
  wpAny (model prg w) A (isTrue test cenv (eval test cenv)) (fun b s₃ => if b = true then wpAny (model prg w) A (eval elt cenv) (fun y s₄ => ∃ g₄ m₄, Sub g' g₄ ∧ St [I] g se C g₄ s₄ m₄ ow2 ∧ J g₄ y) (fun _ _ => False) s₃
    else ∃ g₃ m₃, Sub g' g₃ ∧ St [I] g se C g₃ s₃ m₃ ow2 ∧ J' g₃) (fun _ _ => False) s'

theorem compW1 {elt iter : Expr} {x : Str} {px : Pos} {scope : Scope} {cl : List (Str × Addr)} {pos : Pos} {I : Addr} {fp : List Addr} {n : Nat} {P : Nat → Value → Prop} {Wt : Nat → Heap → Prop} {oi : Obj} {Q : Value → Shared → Prop}
    (W : Walks prg w A I fp [I] n P Wt) (wl : ∀ i h, Wt i h → ∃ o, h.get? I = some o) (S : St X g₀ s₀ L g s m ((I, oi) :: ow)) (hIX : I ∉ X) (hst : Wt 0 s.heap) (hfp : ∀ b ∈ fp, b = I ∨ ∃ o, g.get? b = some o) (hsz : n ≤ sizeLine)
    (hcell : ∀ y ∈ scope.names, y.2 ≠ .cell) (hkind : scope.kind = .function) (hx : scope.names.lookup x = some .local)
    (J : Nat → Heap → List Value → Prop) (h0 : J 0 g [])
    (turn : ∀ i v C g' s' mC ys ow2, i < n → P i v → Sub g g' → J i g' ys → St [I] g s C g' s' (upd mC x v) ow2 →
      Turn1 w A I g s C (compEnvC scope cl C env) elt g' s' ow2 fun g₄ y => J (i + 1) g₄ (ys ++ [y]))
    (done : ∀ D g' s' ys k, Sub g g' → J n g' ys → St X g₀ s₀ L g' s' m ((D, lstO ys k) :: ow) → Q (.ref D) s') :
    wpAny (model prg w) A (newList []) (fun acc s₃ => wpAny (model prg w) A (newFunctionEnv scope env.globals cl [] env.qual none .none (some env)) (fun cenv s₄ =>
      codeAny (model prg w) A (.compStart (.ListComp elt [⟨.Name x px, iter, [], 0⟩] scope pos) 0 (.ref I) acc { cenv with scope := relabel scope env }) (compPost (model prg w) A E none Q acc cenv.locals) s₄) E s₃) E s := by
  refine compW W wl S hIX hst hfp hsz hcell hkind J h0 ?_ done
  intro i v oi' C D g' s' mC ys k hi hP hg hJ S'
  refine wpAny_assign_Name (stL S' (fun s₂ S₂ => ?_) rfl (by simp [compEnvC, relabel, hkind]) (lookup_relabel_local hx))
  refine wpAny_pure ?_
  rw [if_pos rfl]
  exact turn i v C g' s₂ mC ys _ hi hP hg hJ S₂
theorem compW2 {elt iter test : Expr} {x : Str} {px : Pos} {scope : Scope} {cl : List (Str × Addr)} {pos : Pos} {I : Addr} {fp : List Addr} {n : Nat} {P : Nat → Value → Prop} {Wt : Nat → Heap → Prop} {oi : Obj} {Q : Value → Shared → Prop}
    (W : Walks prg w A I fp [I] n P Wt) (wl : ∀ i h, Wt i h → ∃ o, h.get? I = some o) (S : St X g₀ s₀ L g s m ((I, oi) :: ow)) (hIX : I ∉ X) (hst : Wt 0 s.heap) (hfp : ∀ b ∈ fp, b = I ∨ ∃ o, g.get? b = some o) (hsz : n ≤ sizeLine)
    (hcell : ∀ y ∈ scope.names, y.2 ≠ .cell) (hkind : scope.kind = .function) (hx : scope.names.lookup x = some .local)
    (J : Nat → Heap → List Value → Prop) (h0 : J 0 g [])
    (turn : ∀ i v C g' s' mC ys ow2, i < n → P i v → Sub g g' → J i g' ys → St [I] g s C g' s' (upd mC x v) ow2 →
      Turn2 w A I g s C (compEnvC scope cl C env) test elt g' s' ow2 (fun g₄ y => J (i + 1) g₄ (ys ++ [y])) fun g₃ => J (i + 1) g₃ ys)
    (done : ∀ D g' s' ys k, Sub g g' → J n g' ys → St X g₀ s₀ L g' s' m ((D, lstO ys k) :: ow) → Q (.ref D) s') :
    wpAny (model prg w) A (newList []) (fun acc s₃ => wpAny (model prg w) A (newFunctionEnv scope env.globals cl [] env.qual none .none (some env)) (fun cenv s₄ =>
      codeAny (model prg w) A (.compStart (.ListComp elt [⟨.Name x px, iter, [test], 0⟩] scope pos) 0 (.ref I) acc { cenv with scope := relabel scope env }) (compPost (model prg w) A E none Q acc cenv.locals) s₄) E s₃) E s := by
  refine compW W wl S hIX hst hfp hsz hcell hkind J h0 ?_ done
  intro i v oi' C D g' s' mC ys k hi hP hg hJ S'
  refine wpAny_assign_Name (stL S' (fun s₂ S₂ => ?_) rfl (by simp [compEnvC, relabel, hkind]) (lookup_relabel_local hx))
  rw [List.forIn_cons]
  rw [if_pos rfl]
  refine wpAny_bind (wpAny_bind (wpAny_mono (turn i v C g' s₂ mC ys _ hi hP hg hJ S₂) (fun b s₃ t₃ => ?_) fun _ _ x => x))
  refine wpAny_pure ?_
  dsimp only
  rw [List.forIn_nil]
  exact wpAny_pure t₃

theorem compL {elt iter : Expr} {x : Str} {px : Pos} {scope : Scope} {cl : List (Str × Addr)} {pos : Pos} {l : Addr} {vs : List Value} {Q : Value → Shared → Prop}
    (hh : A.handled = none) (S : St X g₀ s₀ L g s m ow) (hl : g.IsList l vs.toArray) (hsz : vs.length ≤ sizeLine)
    (hcell : ∀ y ∈ scope.names, y.2 ≠ .cell) (hkind : scope.kind = .function) (hx : scope.names.lookup x = some .local)
    (J : Nat → Heap → List Value → Prop) (h0 : J 0 g [])
    (turn : ∀ i v I oi se C g' s' mC ys ow2, St X g₀ s₀ L g se m ((I, oi) :: ow) → vs[i]? = some v → Sub g g' → J i g' ys → St [I] g se C g' s' (upd mC x v) ow2 →
      Turn1 w A I g se C (compEnvC scope cl C env) elt g' s' ow2 fun g₄ y => J (i + 1) g₄ (ys ++ [y]))
    (done : ∀ D g' s' ys k, Sub g g' → J vs.length g' ys → St X g₀ s₀ L g' s' m ((D, lstO ys k) :: ow) → Q (.ref D) s') :
    wpAny (model prg w) A (pyIter (.ref l)) (fun it s₂ => wpAny (model prg w) A (newList []) (fun acc s₃ => wpAny (model prg w) A (newFunctionEnv scope env.globals cl [] env.qual none .none (some env)) (fun cenv s₄ =>
      codeAny (model prg w) A (.compStart (.ListComp elt [⟨.Name x px, iter, [], 0⟩] scope pos) 0 it acc { cenv with scope := relabel scope env }) (compPost (model prg w) A E none Q acc cenv.locals) s₄) E s₃) E s₂) E s := by
  have hls : s.heap.IsList l vs.toArray := IsList.mono S.in_ hl
  obtain ⟨ol, hol, _⟩ := id hl
  refine wpAny_pyIter_list hls ?_
  have hne : l ≠ s.heap.objs.size := Nat.ne_of_lt (Heap.lt_size (S.in_ _ _ hol))
  have W := Walks.list (prog := prg) (w := w) hh s.heap.objs.size l hne vs.toArray
  have hX' : s.heap.objs.size ∉ X := fun hm => by
    have y := S.xin _ hm
    rw [get_push_size_none] at y; cases y
  refine compW1 (P := fun i v => vs.toArray[i]? = some v) W (fun i h st => by obtain ⟨⟨o, ho, _⟩, _⟩ := st; exact ⟨o, ho⟩) (S.push _) hX' ⟨⟨_, Heap.get?_push_size _ rfl, rfl, rfl⟩, hls.push _⟩ (fun b hb => ?_) (by simpa using hsz) hcell hkind hx J h0 ?_ ?_
  · rcases List.mem_cons.mp hb with rfl | hb
    · exact .inl rfl
    · rw [List.mem_singleton.mp hb]; exact .inr ⟨_, hol⟩
  · intro i v C g' s' mC ys ow2 _ hP hg hJ S'
    exact turn i v _ _ _ C g' s' mC ys ow2 (S.push _) (by simpa using hP) hg hJ S'
  · intro D g' s' ys k hg hJ S'
    exact done D g' s' ys k hg (by simpa using hJ) S'
theorem compL2 {elt iter test : Expr} {x : Str} {px : Pos} {scope : Scope} {cl : List (Str × Addr)} {pos : Pos} {l : Addr} {vs : List Value} {Q : Value → Shared → Prop}
    (hh : A.handled = none) (S : St X g₀ s₀ L g s m ow) (hl : g.IsList l vs.toArray) (hsz : vs.length ≤ sizeLine)
    (hcell : ∀ y ∈ scope.names, y.2 ≠ .cell) (hkind : scope.kind = .function) (hx : scope.names.lookup x = some .local)
    (J : Nat → Heap → List Value → Prop) (h0 : J 0 g [])
    (turn : ∀ i v I oi se C g' s' mC ys ow2, St X g₀ s₀ L g se m ((I, oi) :: ow) → vs[i]? = some v → Sub g g' → J i g' ys → St [I] g se C g' s' (upd mC x v) ow2 →
      Turn2 w A I g se C (compEnvC scope cl C env) test elt g' s' ow2 (fun g₄ y => J (i + 1) g₄ (ys ++ [y])) fun g₃ => J (i + 1) g₃ ys)
    (done : ∀ D g' s' ys k, Sub g g' → J vs.length g' ys → St X g₀ s₀ L g' s' m ((D, lstO ys k) :: ow) → Q (.ref D) s') :
    wpAny (model prg w) A (pyIter (.ref l)) (fun it s₂ => wpAny (model prg w) A (newList []) (fun acc s₃ => wpAny (model prg w) A (newFunctionEnv scope env.globals cl [] env.qual none .none (some env)) (fun cenv s₄ =>
      codeAny (model prg w) A (.compStart (.ListComp elt [⟨.Name x px, iter, [test], 0⟩] scope pos) 0 it acc { cenv with scope := relabel scope env }) (compPost (model prg w) A E none Q acc cenv.locals) s₄) E s₃) E s₂) E s := by
  have hls : s.heap.IsList l vs.toArray := IsList.mono S.in_ hl
  obtain ⟨ol, hol, _⟩ := id hl
  refine wpAny_pyIter_list hls ?_
  have hne : l ≠ s.heap.objs.size := Nat.ne_of_lt (Heap.lt_size (S.in_ _ _ hol))
  have W := Walks.list (prog := prg) (w := w) hh s.heap.objs.size l hne vs.toArray
  have hX' : s.heap.objs.size ∉ X := fun hm => by
    have y := S.xin _ hm
    rw [get_push_size_none] at y; cases y
  refine compW2 (P := fun i v => vs.toArray[i]? = some v) W (fun i h st => by obtain ⟨⟨o, ho, _⟩, _⟩ := st; exact ⟨o, ho⟩) (S.push _) hX' ⟨⟨_, Heap.get?_push_size _ rfl, rfl, rfl⟩, hls.push _⟩ (fun b hb => ?_) (by simpa using hsz) hcell hkind hx J h0 ?_ ?_
  · rcases List.mem_cons.mp hb with rfl | hb
    · exact .inl rfl
    · rw [List.mem_singleton.mp hb]; exact .inr ⟨_, hol⟩
  · intro i v C g' s' mC ys ow2 _ hP hg hJ S'
    exact turn i v _ _ _ C g' s' mC ys ow2 (S.push _) (by simpa using hP) hg hJ S'
  · intro D g' s' ys k hg hJ S'
    exact done D g' s' ys k hg (by simpa using hJ) S'

-- range(n), n small
theorem mkRange {n : Nat} {t : Tok} {Q : Value → Shared → Prop} (S : St X g₀ s₀ L g s m ow)
    (h : ∀ r t₁ t₂ g' s', Sub g g' → IsRange g' r 0 n 1 t₁ t t₂ → St X g₀ s₀ L g' s' m ow → Q (.ref r) s') : wpAny (model prg w) A (call (.type "range") [.int (n : Int) t]) Q E s := by
  refine call_range_1 ?_
  have S' := S.push { cls := .type "range", data := .fields #[.int 0 s.toks, .int n t, .int 1 (s.toks + 1)] }
  obtain ⟨g', k, e, _, S''⟩ := S'.freeze fun hm => by have := S.xin _ hm; rw [get_push_size_none] at this; cases this
  exact h _ _ _ g' _ k e (S''.toks _)
theorem rangeWalk {r : Addr} {n : Nat} {t u v : Tok} (hh : A.handled = none) (S : St X g₀ s₀ L g s m ow) (hr : IsRange g r 0 n 1 t u v) (hn : n < 2 ^ 62) {Q : Value → Shared → Prop}
    (h : ∀ I oi, oi = ({ cls := .type "range_iterator", dict := none, data := .fields #[rawInt 0, rawInt (n : Int), rawInt 1], slots := #[] } : Obj) → St X g₀ s₀ L g { s with heap := s.heap.push oi } m ((I, oi) :: ow) → I ∉ X →
      Walks prg w A I [I] [I] n (fun i v => ∃ t, v = .int (0 + i * 1) t) (fun i h => IsRangeIter h I (0 + (i : Nat) * 1) ((n : Int) - (i : Nat)) 1) →
      IsRangeIter (s.heap.push oi) I (0 + ((0 : Nat) : Int) * 1) ((n : Int) - ((0 : Nat) : Int)) 1 → Q (.ref I) { s with heap := s.heap.push oi }) : wpAny (model prg w) A (pyIter (.ref r)) Q E s := by
  refine wpAny_pyIter_range (S.in_ _ _ hr) (small_one (by omega) (by omega) (by omega) (by omega)) ?_
  have hX' : s.heap.objs.size ∉ X := fun hm => by
    have y := S.xin _ hm
    rw [get_push_size_none] at y; cases y
  have e : Builtin.Range.rangeSize 0 (n : Int) 1 = (n : Int) := by rw [rangeSize_one]; split <;> omega
  rw [e]
  exact h _ _ rfl (S.push _) hX' (Walks.range hh _ 0 1 n) (by simpa using Heap.get?_push_size s.heap rfl)
theorem compR {elt iter : Expr} {x : Str} {px : Pos} {scope : Scope} {cl : List (Str × Addr)} {pos : Pos} {r : Addr} {n : Nat} {t u v : Tok} {Q : Value → Shared → Prop}
    (hh : A.handled = none) (S : St X g₀ s₀ L g s m ow) (hr : IsRange g r 0 n 1 t u v) (hsz : n ≤ sizeLine)
    (hcell : ∀ y ∈ scope.names, y.2 ≠ .cell) (hkind : scope.kind = .function) (hx : scope.names.lookup x = some .local)
    (J : Nat → Heap → List Value → Prop) (h0 : J 0 g [])
    (turn : ∀ i tk I oi se C g' s' mC ys ow2, St X g₀ s₀ L g se m ((I, oi) :: ow) → i < n → Sub g g' → J i g' ys → St [I] g se C g' s' (upd mC x (.int (i : Nat) tk)) ow2 →
      Turn1 w A I g se C (compEnvC scope cl C env) elt g' s' ow2 fun g₄ y => J (i + 1) g₄ (ys ++ [y]))
    (done : ∀ D g' s' ys k, Sub g g' → J n g' ys → St X g₀ s₀ L g' s' m ((D, lstO ys k) :: ow) → Q (.ref D) s') :
    wpAny (model prg w) A (pyIter (.ref r)) (fun it s₂ => wpAny (model prg w) A (newList []) (fun acc s₃ => wpAny (model prg w) A (newFunctionEnv scope env.globals cl [] env.qual none .none (some env)) (fun cenv s₄ =>
      codeAny (model prg w) A (.compStart (.ListComp elt [⟨.Name x px, iter, [], 0⟩] scope pos) 0 it acc { cenv with scope := relabel scope env }) (compPost (model prg w) A E none Q acc cenv.locals) s₄) E s₃) E s₂) E s := by
  refine rangeWalk hh S hr (by rw [sizeLine_eq] at hsz; omega) fun I oi _ S' hX W hst => ?_
  refine compW1 W (fun i h st => ⟨_, st⟩) S' hX hst (fun b hb => .inl (List.mem_singleton.mp hb)) hsz hcell hkind hx J h0 ?_ done
  rintro i v C g' s' mC ys ow2 hi ⟨tk, rfl⟩ hg hJ S₂
  rw [show (0 : Int) + (i : Nat) * 1 = (i : Nat) by omega] at S₂
  exact turn i tk I _ _ C g' s' mC ys ow2 S' hi hg hJ S₂
theorem loopR {target : Expr} {body : List Stmt} {r : Addr} {n : Nat} {t u v : Tok} {R : Result → Shared → Prop}
    (hh : A.handled = none) (S : St X g₀ s₀ L g s m ow) (hr : IsRange g r 0 n 1 t u v) (hsz : n ≤ sizeLine)
    (J : Nat → Heap → (Str → Option Value) → List (Addr × Obj) → Prop) (h0 : J 0 g m ow)
    (turn : ∀ i tk it oi g' s' m' ow', i < n → Sub g g' → J i g' m' ow' → it ∉ X → St X g₀ s₀ L g' s' m' ((it, oi) :: ow') →
      wpAny (model prg w) A (letOwnedTupleGo target (.ref it) (.int (i : Nat) tk)) (fun _ s₁ => wpAny (model prg w) A (assign target env (.int (i : Nat) tk)) (fun _ s₂ => wpAny (model prg w) A (execs body env) (fun f s₃ => match f with
        | .next | .cont => ∃ g₃ m₃ ow₃, Sub g' g₃ ∧ St X g₀ s₀ L g₃ s₃ m₃ ((it, oi) :: ow₃) ∧ J (i + 1) g₃ m₃ ow₃
        | .brk => R (.ok .next) s₃
        | .ret v => R (.ok (.ret v)) s₃) (fun _ _ => False) s₂) (fun _ _ => False) s₁) (fun _ _ => False) s')
    (done : ∀ g' s' m' ow', Sub g g' → J n g' m' ow' → St X g₀ s₀ L g' s' m' ow' → R (.ok .next) s') :
    wpAny (model prg w) A (pyIter (.ref r)) (fun it s₂ => codeAny (model prg w) A (.forLoop target it body [] env) R s₂) E s := by
  refine rangeWalk hh S hr (by rw [sizeLine_eq] at hsz; omega) fun I oi _ S' hX W hst => ?_
  refine loopW W (fun i h st => ⟨_, st⟩) S' hX hst (fun b hb => .inl (List.mem_singleton.mp hb)) J h0 ?_ done
  rintro i v it oi' g' s' m' ow' hi ⟨tk, rfl⟩ hg hJ hit S₂
  rw [show (0 : Int) + (i : Nat) * 1 = (i : Nat) by omega]
  exact turn i tk it oi' g' s' m' ow' hi hg hJ hit S₂
end
end Mine
namespace Mine
mutual
noncomputable def T.pd : T → PyData
  | .leaf x => .str x.s
  | .node l cs => .list [.str l.s, .list (T.pdL cs)]
noncomputable def T.pdL : List T → List PyData
  | [] => []
  | t :: ts => t.pd :: T.pdL ts
end
theorem pdL_map : ∀ ts : List T, T.pdL ts = ts.map T.pd
  | [] => rfl
  | t :: ts => by rw [T.pdL, pdL_map ts]; rfl
theorem pdL_get {ts : List T} {i : Nat} {t : T} (h : ts[i]? = some t) : (T.pdL ts)[i]? = some t.pd := by rw [pdL_map, List.getElem?_map, h]; rfl
theorem pdL_get' {ts : List T} {i : Nat} {d : PyData} (h : (T.pdL ts)[i]? = some d) : ∃ t, ts[i]? = some t ∧ d = t.pd := by
  rw [pdL_map, List.getElem?_map] at h
  obtain ⟨t, h1, h2⟩ := Option.map_eq_some_iff.mp h
  exact ⟨t, h1, h2.symm⟩
section
variable {w : World} {mg mb : Str → Option Value} {M : Model} {A : Around} {E : Value → Shared → Prop} {X : List Addr} {g₀ g : Heap} {s₀ s : Shared} {L : Addr} {m : Str → Option Value} {ow : List (Addr × Obj)} {env : Env}
theorem isiS_str {y : Str} {u : Tok} {Q : Value → Shared → Prop} (G : Amb w mg mb g) (S : St X g₀ s₀ L g s m ow) (h : ∀ s', St X g₀ s₀ L g s' m ow → Q (.bool true) s') :
    wpAny (model prg w) A (call (.builtin "isinstance") [.str y u, .type "str"]) Q E s := isi kitx_str G S trivial (by kernel_rfl) h
theorem isiS_list {v : Value} {ds : List PyData} {Q : Value → Shared → Prop} (G : Amb w mg mb g) (S : St X g₀ s₀ L g s m ow) (r : Rd g v (.list ds)) (h : ∀ s', St X g₀ s₀ L g s' m ow → Q (.bool false) s') :
    wpAny (model prg w) A (call (.builtin "isinstance") [v, .type "str"]) Q E s := by
  obtain ⟨a, vs, rfl, ⟨o, h1, h2, _⟩, _⟩ := r.asList
  exact isi kitx_list G S ⟨o, S.in_ _ _ h1, h2⟩ (by kernel_rfl) h
theorem isiS_tree {x dx : Addr} {od : Obj} {Q : Value → Shared → Prop} (G : Amb w mg mb g) (S : St X g₀ s₀ L g s m ow) (I : InstAt s.heap x (instObj 269 dx) 269 (some od)) (h : ∀ s', St X g₀ s₀ L g s' m ow → Q (.bool false) s') :
    wpAny (model prg w) A (call (.builtin "isinstance") [.ref x, .type "str"]) Q E s := isi kitT G S I (by kernel_rfl) h
theorem maxL {v : Value} {ns : List Int} {Q : Value → Shared → Prop} (hh : A.handled = none) (S : St X g₀ s₀ L g s m ow) (r : Rd g v (.list (ns.map PyData.int))) (hne : 0 < ns.length)
    (h : ∀ s' M tk, St X g₀ s₀ L g s' m ow → M ∈ ns → (∀ a ∈ ns, a ≤ M) → Q (.int M tk) s') : wpAny (model prg w) A (call (.builtin "max") [v]) Q E s := by
  obtain ⟨a, vs, e, hl, q⟩ := r.asList
  subst e
  have hi : IntsAre vs ns := by
    clear h hne hl r
    induction ns generalizing vs with
    | nil => have := q.length; simp at this; subst this; exact .nil
    | cons n ns ih =>
      obtain ⟨as, q⟩ := q
      cases q with
      | cons q1 q2 => cases q1 with | int _ t => exact .cons n t (ih _ ⟨_, q2⟩)
  exact max_list_N hh S.fr S.nw (IsList.mono S.in_ hl) hi hne fun h' M t tk F N h1 h2 => h _ M t (S.bk0 F N) h1 h2
end
end Mine
namespace Mine
mutual
noncomputable def T.sz : T → Nat
  | .leaf _ => 1
  | .node _ cs => 1 + T.szL cs
noncomputable def T.szL : List T → Nat
  | [] => 0
  | t :: ts => t.sz + T.szL ts
end
theorem T.sz_pos (t : T) : 1 ≤ t.sz := by cases t <;> rw [T.sz] <;> omega
theorem szL_le {ts : List T} {t : T} {i : Nat} (h : ts[i]? = some t) : t.sz ≤ T.szL ts := by
  induction ts generalizing i with
  | nil => simp at h
  | cons x r ih =>
    rw [T.szL]
    cases i with
    | zero => simp at h; subst h; exact Nat.le_add_right _ _
    | succ i => exact Nat.le_trans (ih (by simpa using h)) (Nat.le_add_left _ _)
theorem szL_len : ∀ ts : List T, ts.length ≤ T.szL ts
  | [] => Nat.le_refl _
  | t :: ts => by rw [T.szL, List.length_cons]; have := szL_len ts; have := t.sz_pos; omega
theorem szL_mem {ts : List T} {t : T} (h : t ∈ ts) : t.sz ≤ T.szL ts := by
  obtain ⟨i, hi⟩ := List.mem_iff_getElem?.mp h
  exact szL_le hi
theorem htL_mem {ts : List T} {t : T} (h : t ∈ ts) : t.ht ≤ T.htL ts := by
  obtain ⟨i, hi⟩ := List.mem_iff_getElem?.mp h
  exact htL_le hi
structure T.Small (n : Nat) (t : T) : Prop where
  ht : t.ht ≤ n
  sz : t.sz ≤ 400
theorem T.Small.kid {n : Nat} {l : Sym} {cs : List T} {i : Nat} {t : T} (h : (T.node l cs).Small (n + 1)) (e : cs[i]? = some t) : t.Small n :=
  ⟨by have := h.ht; have := htL_le e; rw [T.ht] at *; omega, by have := h.sz; have := szL_le e; rw [T.sz] at *; omega⟩
theorem T.Small.len {n : Nat} {l : Sym} {cs : List T} (h : (T.node l cs).Small n) : cs.length ≤ 400 := by
  have := h.sz; have := szL_len cs; rw [T.sz] at *; omega
theorem T.Small.zero {t : T} (h : t.Small 0) : False := by have := h.ht; cases t <;> simp [T.ht] at this
theorem sl {n : Nat} (h : n ≤ 1000) : n ≤ sizeLine := by rw [sizeLine_eq]; omega
theorem sl' {α : Type} {l : List α} {n : Nat} (h : l.length = n) (k : n ≤ 1000) : l.length ≤ sizeLine := by rw [h]; exact sl k

noncomputable abbrev Plc := List Nat
noncomputable def posD (p : Plc) : PyData := .tuple (p.map fun i => .int (i : Nat))
mutual
noncomputable def places : T → Plc → List (Plc × T)
  | .leaf x, p => [(p, .leaf x)]
  | .node l cs, p => (p, .node l cs) :: placesL cs 0 p
noncomputable def placesL : List T → Nat → Plc → List (Plc × T)
  | [], _, _ => []
  | t :: ts, k, p => places t (p ++ [k]) ++ placesL ts (k + 1) p
end
mutual
noncomputable def behind : T → Plc → List Plc
  | .leaf _, p => [p]
  | .node _ cs, p => behindL cs 0 p ++ [p]
noncomputable def behindL : List T → Nat → Plc → List Plc
  | [], _, _ => []
  | t :: ts, k, p => behind t (p ++ [k]) ++ behindL ts (k + 1) p
end
mutual
noncomputable def both : T → Plc → List Plc
  | .leaf _, p => [p]
  | .node _ cs, p => p :: bothL cs 0 p ++ [p]
noncomputable def bothL : List T → Nat → Plc → List Plc
  | [], _, _ => []
  | t :: ts, k, p => both t (p ++ [k]) ++ bothL ts (k + 1) p
end
mutual
theorem places_len : ∀ (t : T) (p : Plc), (places t p).length = t.sz
  | .leaf _, p => by rw [places, T.sz]; rfl
  | .node _ cs, p => by rw [places, T.sz, List.length_cons, placesL_len cs]; omega
theorem placesL_len : ∀ (ts : List T) (k : Nat) (p : Plc), (placesL ts k p).length = T.szL ts
  | [], _, _ => by rw [placesL, T.szL]; rfl
  | t :: ts, k, p => by rw [placesL, T.szL, List.length_append, places_len t, placesL_len ts]
end
mutual
theorem behind_len : ∀ (t : T) (p : Plc), (behind t p).length = t.sz
  | .leaf _, p => by rw [behind, T.sz]; rfl
  | .node _ cs, p => by rw [behind, T.sz, List.length_append, behindL_len cs, List.length_singleton]; omega
theorem behindL_len : ∀ (ts : List T) (k : Nat) (p : Plc), (behindL ts k p).length = T.szL ts
  | [], _, _ => by rw [behindL, T.szL]; rfl
  | t :: ts, k, p => by rw [behindL, T.szL, List.length_append, behind_len t, behindL_len ts]
end
mutual
theorem both_len : ∀ (t : T) (p : Plc), (both t p).length ≤ 2 * t.sz
  | .leaf _, p => by rw [both, T.sz]; simp
  | .node _ cs, p => by rw [both, T.sz, List.cons_append, List.length_cons, List.length_append, List.length_singleton]; have := bothL_len cs 0 p; omega
theorem bothL_len : ∀ (ts : List T) (k : Nat) (p : Plc), (bothL ts k p).length ≤ 2 * T.szL ts
  | [], _, _ => by rw [bothL, T.szL]; decide
  | t :: ts, k, p => by rw [bothL, T.szL, List.length_append]; have := both_len t (p ++ [k]); have := bothL_len ts (k + 1) p; omega
end
theorem placesL_snoc (ts : List T) (t : T) : ∀ (k : Nat) (p : Plc), placesL (ts ++ [t]) k p = placesL ts k p ++ places t (p ++ [k + ts.length]) := by
  induction ts with
  | nil => intro k p; simp [placesL]
  | cons x r ih => intro k p; rw [List.cons_append, placesL, placesL, ih, List.append_assoc, List.length_cons]; congr 5; omega
theorem behindL_snoc (ts : List T) (t : T) : ∀ (k : Nat) (p : Plc), behindL (ts ++ [t]) k p = behindL ts k p ++ behind t (p ++ [k + ts.length]) := by
  induction ts with
  | nil => intro k p; simp [behindL]
  | cons x r ih => intro k p; rw [List.cons_append, behindL, behindL, ih, List.append_assoc, List.length_cons]; congr 5; omega
theorem bothL_snoc (ts : List T) (t : T) : ∀ (k : Nat) (p : Plc), bothL (ts ++ [t]) k p = bothL ts k p ++ both t (p ++ [k + ts.length]) := by
  induction ts with
  | nil => intro k p; simp [bothL]
  | cons x r ih => intro k p; rw [List.cons_append, bothL, bothL, ih, List.append_assoc, List.length_cons]; congr 5; omega
theorem take_snocL {ts : List T} {i : Nat} {t : T} (h : ts[i]? = some t) : (ts.take i).length = i := by
  have := (List.getElem?_eq_some_iff.mp h).1
  rw [List.length_take]; omega
theorem szL_snoc (ts : List T) (t : T) : T.szL (ts ++ [t]) = T.szL ts + t.sz := by
  induction ts with
  | nil => simp [T.szL]
  | cons x r ih => rw [List.cons_append, T.szL, T.szL, ih]; omega
theorem szL_take (ts : List T) (i : Nat) : T.szL (ts.take i) ≤ T.szL ts := by
  induction ts generalizing i with
  | nil => simp
  | cons x r ih => cases i with
    | zero => simp [T.szL]
    | succ i => rw [List.take_succ_cons, T.szL, T.szL]; have := ih i; omega
end Mine
namespace Mine
section
variable {w : World} {mg mb : Str → Option Value} {M : Model} {A : Around} {E : Value → Shared → Prop} {X : List Addr} {g₀ g : Heap} {s₀ s : Shared} {L : Addr} {m : Str → Option Value} {ow : List (Addr × Obj)} {env : Env}
theorem fnG {a : Addr} {f : Str} {p pos : Pos} {e : Expr} {rest : List Expr} {Q : Value → Shared → Prop}
    (G : Amb w mg mb g) (S : St X g₀ s₀ L g s m ow) (hn : nsIn (Mine.hd.heap_1 w.params) mainGlobals f = some (some (.ref a))) (hk : keepIn (Mine.hd.heap_1 w.params) (.ref a) = true)
    (h : wpAny (model prg w) A (spliced (backTo pos (starEach (e :: rest) env))) (fun vs s₂ => Frag.In (Mine.hd.heap_1 w.params) s₂.heap ∧ wpAny (model prg w) A (call (.ref a) vs) Q E s₂) E s)
    (he : starEach (e :: rest) env = (false, eval e env) :: starEach rest env := by rfl) (hp : (backTo pos (starEach (e :: rest) env)).any (·.1) = false := by rfl)
    (hg : env.globals = mainGlobals := by rfl) (hkd : env.scope.kind = .function := by rfl) (hx : env.kindOf f = some .globalImplicit := by rfl) (hd : (f == ("__debug__" : Str)) = false := by decide) :
    wpAny (model prg w) A (eval (.Call (.Name f p) (e :: rest) [] pos) env) Q E s :=
  fnCall (K := Mine.hd.heap_1 w.params) (nmG G S hn ⟨rfl, h⟩ hg hkd hx hd) hk he hp
theorem biG {id : String} {f : Str} {p pos : Pos} {e : Expr} {rest : List Expr} {Q : Value → Shared → Prop}
    (G : Amb w mg mb g) (S : St X g₀ s₀ L g s m ow) (hn : nsIn (Mine.hd.heap_1 w.params) mainGlobals f = some none) (hv : bootBuiltins f = some (.builtin id))
    (h : wpAny (model prg w) A (spliced (backTo pos (starEach (e :: rest) env))) (fun vs s₂ => wpAny (model prg w) A (call (.builtin id) vs) Q E s₂) E s)
    (he : starEach (e :: rest) env = (false, eval e env) :: starEach rest env := by rfl) (hp : (backTo pos (starEach (e :: rest) env)).any (·.1) = false := by rfl) (hne : f ≠ "__name__" := by decide)
    (hg : env.globals = mainGlobals := by rfl) (hb : env.builtins = builtinsNs := by rfl) (hkd : env.scope.kind = .function := by rfl) (hx : env.kindOf f = some .globalImplicit := by rfl) (hd : (f == ("__debug__" : Str)) = false := by decide) :
    wpAny (model prg w) A (eval (.Call (.Name f p) (e :: rest) [] pos) env) Q E s :=
  biCall (nmB G S hn hv hne ⟨rfl, h⟩ hg hb hkd hx hd) he hp
theorem tyG {id : String} {f : Str} {p pos : Pos} {e : Expr} {rest : List Expr} {Q : Value → Shared → Prop}
    (G : Amb w mg mb g) (S : St X g₀ s₀ L g s m ow) (hn : nsIn (Mine.hd.heap_1 w.params) mainGlobals f = some none) (hv : bootBuiltins f = some (.type id))
    (h : wpAny (model prg w) A (spliced (backTo pos (starEach (e :: rest) env))) (fun vs s₂ => wpAny (model prg w) A (call (.type id) vs) Q E s₂) E s)
    (he : starEach (e :: rest) env = (false, eval e env) :: starEach rest env := by rfl) (hp : (backTo pos (starEach (e :: rest) env)).any (·.1) = false := by rfl) (hne : f ≠ "__name__" := by decide)
    (hg : env.globals = mainGlobals := by rfl) (hb : env.builtins = builtinsNs := by rfl) (hkd : env.scope.kind = .function := by rfl) (hx : env.kindOf f = some .globalImplicit := by rfl) (hd : (f == ("__debug__" : Str)) = false := by decide) :
    wpAny (model prg w) A (eval (.Call (.Name f p) (e :: rest) [] pos) env) Q E s :=
  tyCall (nmB G S hn hv hne ⟨rfl, h⟩ hg hb hkd hx hd) he hp
theorem tIsiB {xe : Expr} {ty : Str} {id : String} {p p2 pos : Pos} {Q : Bool → Shared → Prop}
    (G : Amb w mg mb g) (S : St X g₀ s₀ L g s m ow) (hn : nsIn (Mine.hd.heap_1 w.params) mainGlobals ty = some none) (hv : bootBuiltins ty = some (.type id))
    (h : wpAny (model prg w) A (eval xe env) (fun v s₁ => ∃ m' , St X g₀ s₀ L g s₁ m' ow ∧ wpAny (model prg w) A (call (.builtin "isinstance") [v, .type id]) (fun v s₂ => ∃ b, v = .bool b ∧ Q b s₂) E s₁) E s)
    (hne : ty ≠ "__name__" := by decide)
    (hg : env.globals = mainGlobals := by rfl) (hb : env.builtins = builtinsNs := by rfl) (hkd : env.scope.kind = .function := by rfl) (hx : env.kindOf "isinstance" = some .globalImplicit := by rfl) (hx2 : env.kindOf ty = some .globalImplicit := by rfl) (hd2 : (ty == ("__debug__" : Str)) = false := by decide)
    (he : starEach [xe, .Name ty p2] env = (false, eval xe env) :: starEach [.Name ty p2] env := by rfl) (hp : (backTo pos (starEach [xe, .Name ty p2] env)).any (·.1) = false := by rfl)
    (ht : isTrue (.Call (.Name "isinstance" p) [xe, .Name ty p2] [] pos) env (eval (.Call (.Name "isinstance" p) [xe, .Name ty p2] [] pos) env) = (do let v ← eval (.Call (.Name "isinstance" p) [xe, .Name ty p2] [] pos) env; standAt pos; holding [v] (truthy v)) := by rfl) :
    wpAny (model prg w) A (isTrue (.Call (.Name "isinstance" p) [xe, .Name ty p2] [] pos) env (eval (.Call (.Name "isinstance" p) [xe, .Name ty p2] [] pos) env)) Q E s := by
  refine isT (biG G S gIsi bIsi (arg1 (wpAny_mono h (fun v s₁ h₁ => ?_) fun _ _ x => x) he) he hp (by decide) hg hb hkd hx) ht
  obtain ⟨m', S₁, h₁⟩ := h₁
  exact arg1 (nmB G S₁ hn hv hne (arg0 h₁) hg hb hkd hx2 hd2)
theorem tIsiT {xe : Expr} {p p2 pos : Pos} {Q : Bool → Shared → Prop}
    (G : Amb w mg mb g) (S : St X g₀ s₀ L g s m ow)
    (h : wpAny (model prg w) A (eval xe env) (fun v s₁ => ∃ m', St X g₀ s₀ L g s₁ m' ow ∧ wpAny (model prg w) A (call (.builtin "isinstance") [v, .ref 269]) (fun v s₂ => ∃ b, v = .bool b ∧ Q b s₂) E s₁) E s)
    (hg : env.globals = mainGlobals := by rfl) (hb : env.builtins = builtinsNs := by rfl) (hkd : env.scope.kind = .function := by rfl) (hx : env.kindOf "isinstance" = some .globalImplicit := by rfl) (hx2 : env.kindOf "Tree" = some .globalImplicit := by rfl)
    (he : starEach [xe, .Name "Tree" p2] env = (false, eval xe env) :: starEach [.Name "Tree" p2] env := by rfl) (hp : (backTo pos (starEach [xe, .Name "Tree" p2] env)).any (·.1) = false := by rfl)
    (ht : isTrue (.Call (.Name "isinstance" p) [xe, .Name "Tree" p2] [] pos) env (eval (.Call (.Name "isinstance" p) [xe, .Name "Tree" p2] [] pos) env) = (do let v ← eval (.Call (.Name "isinstance" p) [xe, .Name "Tree" p2] [] pos) env; standAt pos; holding [v] (truthy v)) := by rfl) :
    wpAny (model prg w) A (isTrue (.Call (.Name "isinstance" p) [xe, .Name "Tree" p2] [] pos) env (eval (.Call (.Name "isinstance" p) [xe, .Name "Tree" p2] [] pos) env)) Q E s := by
  refine isT (biG G S gIsi bIsi (arg1 (wpAny_mono h (fun v s₁ h₁ => ?_) fun _ _ x => x) he) he hp (by decide) hg hb hkd hx) ht
  obtain ⟨m', S₁, h₁⟩ := h₁
  exact arg1 (nmG G S₁ gTree (arg0 h₁) hg hkd hx2)
theorem tStr {x : Str} {v : Value} {t : T} {p p2 p3 pos : PySem.Pos} {Q : Bool → Shared → Prop} (G : Amb w mg mb g) (S : St X g₀ s₀ L g s m ow) (hx0 : m x = some v) (r : Rd g v t.pd)
    (hlf : ∀ y u s', t = .leaf y → v = .str y.s u → St X g₀ s₀ L g s' m ow → Q true s') (hnd : ∀ lab cs s', t = .node lab cs → Rd g v (.list [.str lab.s, .list (T.pdL cs)]) → St X g₀ s₀ L g s' m ow → Q false s')
    (hL : env.locals = L := by rfl) (hl : env.kindOf x = some .local := by rfl) (hd : (x == ("__debug__" : Str)) = false := by decide)
    (hg : env.globals = mainGlobals := by rfl) (hb : env.builtins = builtinsNs := by rfl) (hkd : env.scope.kind = .function := by rfl) (hx : env.kindOf "isinstance" = some .globalImplicit := by rfl) (hx2 : env.kindOf "str" = some .globalImplicit := by rfl) :
    wpAny (model prg w) A (isTrue (.Call (.Name "isinstance" p) [.Name x p3, .Name "str" p2] [] pos) env (eval (.Call (.Name "isinstance" p) [.Name x p3, .Name "str" p2] [] pos) env)) Q E s := by
  refine tIsiB G S gStr bStr (nmL S hx0 ⟨m, S, ?_⟩ hL hkd hl hd) (by decide) hg hb hkd hx hx2
  cases t with
  | leaf y =>
    obtain ⟨u, rfl⟩ := r.asStr
    exact isiS_str G S fun s' S' => ⟨_, rfl, hlf y u s' rfl rfl S'⟩
  | node lab cs =>
    rw [T.pd] at r
    exact isiS_list G S r fun s' S' => ⟨_, rfl, hnd lab cs s' rfl r S'⟩
end
end Mine
namespace Mine
section
variable {w : World} {mg mb : Str → Option Value} {M : Model} {A : Around} {E : Value → Shared → Prop} {X : List Addr} {g₀ g : Heap} {s₀ s : Shared} {L : Addr} {m : Str → Option Value} {ow : List (Addr × Obj)} {env : Env}
theorem IsCell.mono {g h : Heap} {c : Addr} {v : Option Value} (k : Sub g h) (x : g.IsCell c v) : h.IsCell c v := let ⟨o, ho, hd⟩ := x; ⟨o, k _ _ ho, hd⟩
theorem nmC {x : Str} {pos : Pos} {c : Addr} {v : Value} {Q : Value → Shared → Prop} (hv : s.heap.IsCell c (some v)) (h : Q v s) (hc : env.cells.lookup x = some c := by rfl)
    (hk : env.scope.kind = .function := by rfl) (hl : env.kindOf x = some .cell := by rfl) (hd : (x == ("__debug__" : Str)) = false := by decide) :
    wpAny M A (eval (.Name x pos) env) Q E s := wpAny_Name (wpAny_loadName_cell hk hl hc hv h) hd
theorem nmFr {x : Str} {pos : Pos} {c : Addr} {v : Value} {Q : Value → Shared → Prop} (hv : s.heap.IsCell c (some v)) (h : Q v s) (hc : env.cells.lookup x = some c := by rfl)
    (hk : env.scope.kind = .function := by rfl) (hl : env.kindOf x = some .free := by rfl) (hd : (x == ("__debug__" : Str)) = false := by decide) (hn : (x == ("__classdict__" : Str)) = false := by decide) :
    wpAny M A (eval (.Name x pos) env) Q E s := wpAny_Name (wpAny_loadName_free hk hl hc hv h hn) hd
theorem stC {x : Str} {c : Addr} {o : Obj} {v₀ : Option Value} {v : Value} {pre : List (Addr × Obj)} {Q : Unit → Shared → Prop} (S : St X g₀ s₀ L g s m (pre ++ (c, o) :: ow)) (hd : o.data = .cell v₀)
    (h : ∀ o' s', o'.data = .cell (some v) → St X g₀ s₀ L g s' m (pre ++ (c, o') :: ow) → Q () s') (hc : env.cells.lookup x = some c := by rfl)
    (hk : env.scope.kind = .function := by rfl) (hl : env.kindOf x = some .cell := by rfl) : wpAny M A (storeName env x v) Q E s := by
  refine wpAny_storeName_cell hk hl hc ⟨o, S.get (List.mem_append.mpr (.inr (.head _))), hd⟩ fun h' hv hs => ?_
  obtain ⟨o', ho', hd'⟩ := hv
  exact h o' _ hd' (S.upd hs ho')
theorem enterC {n : Nat} {f : Addr} {args : Args} {R : Result → Shared → Prop} {name qual : Str} {params : Arguments} {body : List Stmt} {scope : Scope} {dV kV doc pm cdv ct oc : Value} {an od : Option Addr} {osl : Array (Option Value)} {binds : List (Str × Value)}
    (G : Amb w mg mb g) (hs : Sub g s.heap) (hr : Room A n)
    (ho : (Mine.hd.heap_1 w.params).lookup f = some ⟨oc, od, .func (fnOf name qual params body scope dV kV doc pm an cdv ct), osl⟩) (hcd : codeIn (Mine.hd.heap_1 w.params) cdv qual = true)
    (hbind : BindsTo s (fnOf name qual params body scope dV kV doc pm an cdv ct) args binds)
    (hkind : ∀ n, ∀ x ∈ binds, scope.names.lookup x.1 = some .local ∨ (scope.names.lookup x.1 = some .cell ∧ ((cellsFrom n scope.names []).lookup x.1).isSome = true))
    (hnd : ((cellsFrom 0 scope.names []).map (·.1)).Nodup)
    (h : ∀ L s' cells, St [] g s L g s' (bindL (envOfC qual scope L f cdv).kindOf binds fun _ => none) cells → CellsAre (bindC (envOfC qual scope L f cdv).kindOf binds fun _ => none) (cellsFrom (L + 1) scope.names []) cells →
      wpAny (model prg w) (A.deeper (envOfC qual scope L f cdv)) (execs body (envOfC qual scope L f cdv))
      (fun fl s' => R (.ok (.ret (match fl with | .ret v => v | _ => .none))) s') (fun _ _ => False) s')
    (hco : scope.isCoroutine = false) (hgen : scope.isGenerator = false) (hk : scope.kind = .function) : codeAny (model prg w) A (.call (.ref f) args) R s := by
  have G' := G.keeps hs
  refine codeAny_call_function hr.depth (G'.K _ _ ho) rfl hco hgen rfl (codeRec_of G'.K hcd) (hbind _ _ _ _ ?_)
  refine wpAny_newFunctionEnv_cells hk (hkind _) fun env' he s' x => ?_
  subst he
  refine ⟨G'.T.nolimit.keeps x.toInCall.keep, codeAny_func ?_⟩
  obtain ⟨h₁, tk, rfl, _⟩ := x.done
  have hk₁ := x.toInCall.keep
  have hnd' : ((cellsFrom (s.heap.objs.size + 1) scope.names []).map (·.1)).Nodup := cellsFrom_names scope.names 0 (s.heap.objs.size + 1) [] [] rfl ▸ hnd
  obtain ⟨cells, NC, Y⟩ := Cl.news (h₀ := s.heap) (Nat.le_refl _) fun n c hm => ⟨x.cell n c (lookup_of_mem_nodup hnd' hm), x.above n c hm⟩
  have addrs : ∀ {cm : Str → Option Value} {cs : List (Str × Addr)} {cells : List (Addr × Obj)}, CellsAre cm cs cells → cells.map (·.1) = cs.map (·.2) := fun y => by
    induction y with
    | nil => rfl
    | cons _ _ ih => rw [List.map_cons, List.map_cons, ih]
  have nd : (cells.map (fun p => p.1)).Nodup := by
    rw [addrs Y]
    refine List.pairwise_map.mpr ?_
    exact x.apart
  refine wpAny_mono (h s.heap.objs.size _ cells ⟨⟨.refl _, fun b o e => hk₁ b o (hs b o e), fun b o _ e => hk₁ b o e, fun b o e => .inl e, fun _ _ e => e, id, rfl⟩, x.toInCall.ns, none_of fun o e => absurd (Heap.lt_size (hs _ _ e)) (Nat.lt_irrefl _), get_push_size_none _, fun p hp => ?_, nd, (fun _ h => nomatch h), Amb.lo G'⟩ Y) (fun _ _ z => z) fun _ _ z => z.elim
  have z := NC p hp
  refine ⟨z.1, z.2.1, none_of fun o e => ?_, .inr z.2.2⟩
  rw [hs _ _ e] at z
  cases z.2.2

theorem noS : noSeq (Mine.hd.heap_1 w.params) 269 = true := by k_is
theorem lenTree {x dx : Addr} {es : List DictEntry} {n : Nat} {Q : Value → Shared → Prop} (G : Amb w mg mb g) (S : St X g₀ s₀ L g s m ow) (I : InstAt s.heap x (instObj 269 dx) 269 (some (dictOf es n)))
    (h : wpAny (model prg w) A.in1 (call (.ref 174) [.ref x]) (PySem.W.LenBack Q) E s) : wpAny (model prg w) A (call (.builtin "len") [.ref x]) Q E s :=
  len_K S.fr (G.keeps S.in_).low I (by k_is) (by k_is) h
theorem subTree {value slice : Expr} {x dx : Addr} {es : List DictEntry} {n : Nat} {i : Value} {Q : Value → Shared → Prop} (G : Amb w mg mb g) (S : St X g₀ s₀ L g s m ow) (I : InstAt s.heap x (instObj 269 dx) 269 (some (dictOf es n)))
    (h : wpAny (model prg w) A.in1 (call (.ref 181) [.ref x, i]) Q E s)
    (hsl : subscripted slice true (.ref x) i = runValue (.builtin "lifetime.subscript" ⟨[.ref x, i], []⟩) := by with_unfolding_all rfl) :
    wpAny (model prg w) A (subscriptTail value slice (.ref x) i) Q E s :=
  sub_K S.fr (G.keeps S.in_).low I (by k_is) (by k_is) (by k_is) h hsl
end
end Mine
namespace Mine
section
variable {w : World} {mg mb : Str → Option Value} {M : Model} {A : Around} {E : Value → Shared → Prop} {X : List Addr} {g₀ g : Heap} {s₀ s : Shared} {L : Addr} {m : Str → Option Value} {ow : List (Addr × Obj)} {env : Env}
noncomputable def cut (n : Nat) (b : Int) : Nat := (if b < 0 then max (b + n) 0 else min b n).toNat
theorem cut_le (n : Nat) (b : Int) : cut n b ≤ n := by unfold cut; split <;> omega
theorem adjust_upto (b : Int) (n : Nat) : Builtin.Slice.sliceAdjust none (some b) 1 (n : Int) = ((0 : Int), ((cut n b : Nat) : Int)) := by
  unfold Builtin.Slice.sliceAdjust cut
  have h1 : ¬ ((1 : Int) < 0) := by omega
  simp only [h1, if_false]
  congr 1
  split <;> omega
theorem places_upto (c : Nat) : Builtin.Slice.slicePlaces 0 (c : Int) 1 = c := by
  unfold Builtin.Slice.slicePlaces
  have h1 : (1 : Int) > 0 := by omega
  simp only [h1, if_true, Int.ediv_one]
  split <;> omega
theorem pick_upto (xs : Array Value) (c : Nat) (hc : c ≤ xs.size) : ((List.range c).filterMap fun (k : Nat) => xs[((0 : Int) + (k : Int) * 1).toNat]?).toArray = (xs.toList.take c).toArray := by
  have e : (fun (k : Nat) => xs[((0 : Int) + (k : Int) * 1).toNat]?) = fun k => xs[0 + k]? := by
    funext k
    have : ((0 : Int) + (k : Int) * 1).toNat = 0 + k := by omega
    rw [this]
  rw [e]
  have := pick_run xs 0 c
  rw [List.filterMap_map] at this
  have e2 : ((fun x => xs[x]?) ∘ fun x => 0 + x) = fun k => xs[0 + k]? := rfl
  rw [e2] at this
  rw [this, List.drop_zero]
theorem sliceApplied_upto {sl : Addr} {b : Int} {n : Nat} {u : Tok} {Q : Int × Int × Nat → Shared → Prop} (hs : s.heap.IsSliceOf sl .none (.int b u) .none) (h : Q (0, 1, cut n b) s) :
    wpAny (model prg w) A (Builtin.Slice.sliceApplied (.ref sl) (pure (n : Int))) Q E s := by
  obtain ⟨os, hos, hcs, hds⟩ := id hs
  unfold Builtin.Slice.sliceApplied Builtin.Slice.sliceFields
  refine wpAny_bind (wpAny_bind (wpAny_field hos hds (x := .none) rfl (wpAny_bind (wpAny_field hos hds (x := .int b u) rfl (wpAny_bind (wpAny_field hos hds (x := .none) rfl (wpAny_pure ?_)))))))
  refine wpAny_bind (slicePart_none ?_)
  show wpAny _ _ (if ((1 : Int) == 0) = true then _ else _) _ _ s
  rw [if_neg (by decide)]
  refine wpAny_bind (slicePart_none (wpAny_bind (slicePart_int (wpAny_bind (wpAny_pure ?_)))))
  show wpAny _ _ (match Builtin.Slice.sliceAdjust none (some b) 1 (n : Int) with | (lo, hi) => pure (lo, (1 : Int), Builtin.Slice.slicePlaces lo hi 1)) _ _ s
  rw [adjust_upto b n]
  show wpAny _ _ (pure ((0 : Int), (1 : Int), Builtin.Slice.slicePlaces (0 : Int) (cut n b : Nat) 1)) _ _ s
  rw [places_upto]
  exact wpAny_pure h
theorem getItem_tuple_upto {t sl : Addr} {items : Array Value} {b : Int} {u : Tok} {Q : Value → Shared → Prop} (ht : IsTup s.heap t items) (hs : s.heap.IsSliceOf sl .none (.int b u) .none)
    (h1 : cut items.size b = items.size → Q (.ref t) s)
    (h : Q (.ref s.heap.objs.size) { s with heap := s.heap.push { cls := .type "tuple", data := .seq (items.toList.take (cut items.size b)).toArray } })
    (hsz : items.size ≤ sizeLine := by size_fits) : wpAny (model prg w) A (getItem (.ref t) (.ref sl)) Q E s := by
  have hdrop : sizeOk (.seq (items.toList.take (cut items.size b)).toArray) := by
    show (items.toList.take (cut items.size b)).toArray.size ≤ sizeLine
    rw [List.size_toArray, List.length_take, Array.length_toList]
    omega
  obtain ⟨os, hos, hcs, hds⟩ := id hs
  have hTs : s.TypeIs (.ref sl) "slice" := ⟨os, hos, hcs⟩
  unfold getItem
  try with_reducible refine wpAny_holding ?_
  first | refine wpAny_bind (wpAny_pure ?_) | skip
  refine wpAny_bind (wpAny_sequenceKey ht.typeIs (by decide) ?_)
  refine wpAny_bind (wpAny_callSpecial?_slot (name := Str.ofString "__getitem__") ht.typeIs slot_tuple_getitem
    (wpAny_call_entry slot_tuple_getitem ht.typeIs entry_tuple_getitem ?_ (args_tuple_getitem _ _)))
  show wpAny _ _ (Builtin.Tuple.tupleItemsOf (.ref t) >>= _) _ _ s
  refine wpAny_bind (tupleItemsOf_ ht ?_)
  refine wpAny_bind (wpAny_typeOf hTs ?_)
  rw [if_pos (by decide)]
  refine wpAny_bind (sliceApplied_upto hs ?_)
  show wpAny _ _ (if ((0 : Int) == 0 && (1 : Int) == 1 && (cut items.size b) == items.size) = true then _ else _) _ _ s
  by_cases hc : cut items.size b = items.size
  · rw [if_pos (by rw [hc]; simp)]
    refine wpAny_bind (m := Builtin.Tuple.tupleIsExact _) ?_
    unfold Builtin.Tuple.tupleIsExact
    refine wpAny_bind (wpAny_typeOf ht.typeIs (wpAny_pure ?_))
    rw [if_pos (by decide)]
    exact wpAny_bind (wpAny_rule (wpAny_pure ⟨_, rfl, wpAny_pure (h1 hc)⟩))
  have hno : ¬ (((0 : Int) == 0 && (1 : Int) == 1 && (cut items.size b) == items.size) = true) := by simp [hc]
  rw [if_neg hno, pick_upto items _ (cut_le _ _)]
  first
    | exact wpAny_bind (m := Builtin.Tuple.tupleExact _) (wpAny_newObj_type (wpAny_pure ⟨_, rfl, wpAny_pure h⟩) hdrop)
    | exact wpAny_bind (m := Builtin.Tuple.tupleExact _) (wpAny_newObj_type (wpAny_bind (wpAny_pure (wpAny_pure ⟨_, rfl, wpAny_pure h⟩))) hdrop)
    | exact wpAny_bind (wpAny_bind (m := Builtin.Tuple.tupleExact _) (wpAny_newObj_type (wpAny_pure (wpAny_pure ⟨_, rfl, wpAny_pure h⟩)) hdrop))
    | exact wpAny_bind (wpAny_bind (m := Builtin.Tuple.tupleExact _) (wpAny_newObj_type (wpAny_pure ⟨_, rfl, wpAny_pure h⟩) hdrop))

theorem sliceFrom {value low : Expr} {p pos : PySem.Pos} {ds : List PyData} {a : Nat} {Q : Value → Shared → Prop}
    (h : wpAny (model prg w) A (eval value env) (fun o s₁ => wpAny (model prg w) A (eval low env) (fun l s₂ => ∃ u g₁ m₁ ow₁, l = .int (a : Nat) u ∧ Rd g₁ o (.tuple ds) ∧ 1 ≤ a ∧ a ≤ ds.length ∧ ds.length ≤ sizeLine ∧ St X g₀ s₀ L g₁ s₂ m₁ ow₁ ∧
      ∀ v g' s', Sub g₁ g' → Rd g' v (.tuple (ds.drop a)) → St X g₀ s₀ L g' s' m₁ ow₁ → Q v s') E s₁) E s)
    (hs : ∀ t i, subscripted (.Slice (some low) none none p) false (.ref t) (.ref i) = operate [.ref i, .ref t] (getItem (.ref t) (.ref i)) := by intro _ _; with_unfolding_all rfl)
    (hg : ∀ t r, letTemporaryGo value (.ref t) r = pure () := by intro _ _; with_unfolding_all rfl) : wpAny (model prg w) A (eval (.Subscript value (.Slice (some low) none none p) pos) env) Q E s := by
  refine Subscript_ (wpAny_mono h (fun o s₁ h₁ => ?_) fun _ _ x => x)
  refine wpAny_Slice (wpAny_evalPart_some (wpAny_mono h₁ (fun l s₂ h₂ => wpAny_evalPart_none (wpAny_evalPart_none ?_)) fun _ _ x => x))
  obtain ⟨u, g₁, m₁, ow₁, rfl, r, h1, ha, hz, S, hQ⟩ := h₂
  obtain ⟨t, vs, rfl, ht, rv⟩ := r.asTuple
  refine slice_tuple_from S.fr S.nw (IsTup.mono S.in_ ht) h1 (by rw [List.size_toArray, rv.length]; exact ha) (fun h' F N => ?_) (hs _ _) (hg _) (by rw [List.size_toArray, rv.length]; exact hz)
  have S' := S.push { cls := .type "slice", data := .fields #[.int (a : Nat) u, .none, .none] }
  have S₂ := S.bk (ex := [(s₂.heap.objs.size + 1, tupO (vs.drop a))]) (tk := s₂.toks) F N (fun p hp => by
    rw [List.mem_singleton.mp hp]; exact none_of fun o e => absurd (Heap.lt_size e) (by simp)) (by simp)
  obtain ⟨g', k, e, _, S₃⟩ := S₂.freeze fun hm => by
    have := S.xin _ hm
    rw [none_of (h := s₂.heap) (a := s₂.heap.objs.size + 1) fun o e => absurd (Heap.lt_size e) (by simp)] at this; cases this
  exact hQ _ g' _ k (.tuple (isTup_of e) ((rv.split a).2.mono k)) S₃
theorem sliceUpto {value up : Expr} {p pos : PySem.Pos} {ds : List PyData} {b : Int} {Q : Value → Shared → Prop}
    (h : wpAny (model prg w) A (eval value env) (fun o s₁ => wpAny (model prg w) A (eval up env) (fun l s₂ => ∃ u g₁ m₁ ow₁, l = .int b u ∧ Rd g₁ o (.tuple ds) ∧ ds.length ≤ sizeLine ∧ St X g₀ s₀ L g₁ s₂ m₁ ow₁ ∧
      ∀ v g' s', Sub g₁ g' → Rd g' v (.tuple (ds.take (cut ds.length b))) → St X g₀ s₀ L g' s' m₁ ow₁ → Q v s') E s₁) E s)
    (hs : ∀ t i, subscripted (.Slice none (some up) none p) false (.ref t) (.ref i) = operate [.ref i, .ref t] (getItem (.ref t) (.ref i)) := by intro _ _; with_unfolding_all rfl)
    (hg : ∀ t r, letTemporaryGo value (.ref t) r = pure () := by intro _ _; with_unfolding_all rfl) : wpAny (model prg w) A (eval (.Subscript value (.Slice none (some up) none p) pos) env) Q E s := by
  refine Subscript_ (wpAny_mono h (fun o s₁ h₁ => ?_) fun _ _ x => x)
  refine wpAny_Slice (wpAny_evalPart_none (wpAny_evalPart_some (wpAny_mono h₁ (fun l s₂ h₂ => wpAny_evalPart_none ?_) fun _ _ x => x)))
  obtain ⟨u, g₁, m₁, ow₁, rfl, r, hz, S, hQ⟩ := h₂
  obtain ⟨t, vs, rfl, ht, rv⟩ := id r.asTuple
  have S₁ := S.push { cls := .type "slice", data := .fields #[.none, .int b u, .none] }
  have ht₁ := IsTup.mono S₁.in_ ht
  have hz' : vs.toArray.size ≤ sizeLine := by rw [List.size_toArray, rv.length]; exact hz
  refine subscriptTail_ops (s := { s₂ with heap := s₂.heap.push { cls := .type "slice", data := .fields #[.none, .int b u, .none] } }) ht₁.typeIs slot_tuple_getitem.lookup (getItem_tuple_upto ht₁ (Heap.IsSliceOf.new ..) (fun hc => ?_) ?_ hz') (hs _ _) (hg _)
  · rw [List.size_toArray, rv.length] at hc
    exact hQ _ g₁ _ (.refl _) (by rw [hc, List.take_length]; exact r) S₁.drop
  · have S₂ := S₁.push (tupO (vs.take (cut ds.length b)))
    have eL : vs.toArray.size = ds.length := by rw [List.size_toArray, rv.length]
    rw [eL]
    obtain ⟨g', k, e, _, S₃⟩ := S₂.freeze fun hm => by have := S₁.xin _ hm; rw [get_push_size_none] at this; cases this
    exact hQ _ g' _ k (.tuple (isTup_of e) ((rv.split _).1.mono k)) S₃.drop
end
end Mine
namespace Mine
section
variable {w : World} {mg mb : Str → Option Value} {M : Model} {A : Around} {E : Value → Shared → Prop} {X : List Addr} {g₀ g : Heap} {s₀ s : Shared} {L : Addr} {m : Str → Option Value} {ow : List (Addr × Obj)} {env : Env}
noncomputable def prD (x : Plc × T) : PyData := .tuple [posD x.1, x.2.pd]
theorem posD_snoc (p : Plc) (k : Nat) : posD (p ++ [k]) = .tuple ((p.map fun i => PyData.int (i : Nat)) ++ [.int (k : Nat)]) := by rw [posD, List.map_append]; rfl
theorem plcAdd {x y : Str} {v : Value} {p : Plc} {k : Nat} {u : Tok} {p1 p2 p3 pos : PySem.Pos} {n : Nat} {Q : Value → Shared → Prop} (S : St X g₀ s₀ L g s m ow) (hx0 : m x = some v) (hy0 : m y = some (.int (k : Nat) u)) (r : Rd g v (posD p)) (hp : p.length ≤ 400)
    (h : ∀ v' g' s', Sub g g' → Rd g' v' (posD (p ++ [k])) → St X g₀ s₀ L g' s' m ow → Q v' s')
    (hL : env.locals = L := by rfl) (hl : env.kindOf x = some .local := by rfl) (hl2 : env.kindOf y = some .local := by rfl) (hkd : env.scope.kind = .function := by rfl) (hd : (x == ("__debug__" : Str)) = false := by decide) (hd2 : (y == ("__debug__" : Str)) = false := by decide)
    (he : starEach [.Name y p2] env = (false, eval (.Name y p2) env) :: starEach [] env := by rfl) :
    wpAny (model prg w) A (eval (.BinOp (.Name x p1) .Add (.Tuple [.Name y p2] n p3) pos) env) Q E s := by
  refine wpAny_BinOp (nmL S hx0 ?_ hL hkd hl hd)
  refine eTup (arg1 (nmL S hy0 ?_ hL hkd hl2 hd2) he)
  refine arg0 (mkTup S (.cons (.int _ _) .nil) (sl (by simp)) fun z g₁ s₁ k₁ r₁ S₁ => ?_)
  refine addTup S₁ (r.mono k₁) r₁ (by rw [List.length_map]; exact sl (by simp only [List.length_singleton]; omega)) fun v' g₂ s₂ k₂ r₂ S₂ => ?_
  exact h v' g₂ s₂ (k₁.trans k₂) (by rw [posD_snoc]; exact r₂) S₂
theorem gfplaces : nsIn (Mine.hd.heap_1 w.params) mainGlobals "_law_places" = some (some (.ref 323)) := by k_is
theorem kfplaces : keepIn (Mine.hd.heap_1 w.params) (.ref 323) = true := by k_is
theorem fplaces_spec : ∀ (n : Nat) (t : T), t.Small n → ∀ (A : Around) (g : Heap) (s : Shared) (v pv : Value) (p : Plc) (R : Result → Shared → Prop),
    Room A (2 * n) → Amb w mg mb g → Sub g s.heap → Rd g v t.pd → Rd g pv (posD p) → p.length + n ≤ 400 → (∀ u s' g', Grow [] g s g' s' → Rd g' u (.list ((places t p).map prD)) → R (.ok (.ret u)) s') → codeAny (model prg w) A (.call (.ref 323) ⟨[v, pv], []⟩) R s := by
  intro n
  induction n with
  | zero => intro t h; exact h.zero.elim
  | succ n ih =>
    intro t hn A g s v pv p R hr G hs hT hP hp hR
    refine enterF G hs hr (by k_is) (by k_is) (BindsTo.of_eq rfl) (locs rfl) ?_ rfl rfl rfl (by decide)
    intro L s₁ S
    try k_fold
    refine xAsn ?_
    refine eLst (arg1 (eTup (arg1 (nmL S (v := pv) rfl ?_))))
    refine arg1 (nmL S (v := v) rfl ?_)
    refine arg0 (mkTup S (.cons hP (.cons hT .nil)) (sl (by simp)) fun z g₁ s₁ k₁ r₁ S₁ => ?_)
    refine arg0 (mkLstF S₁ (.cons r₁ .nil) (sl (by simp)) fun z g₂ s₂ k₂ r₂ S₂ => ?_)
    refine stL S₂ fun s₂ S₂ => ?_
    have k₁₂ := k₁.trans k₂
    have G₂ := G.keeps k₁₂
    refine xIf (wpAny_isTrue_Not (tStr G₂ S₂ rfl (hT.mono k₁₂) ?_ ?_))
    · rintro y u s₃ rfl rfl S₃
      refine itF (xNil (thenNext ?_))
      refine xRet (nmL S₃ rfl ?_)
      exact hR _ _ _ S₃.grow r₂
    rintro lab cs s₃ rfl hT2 S₃
    refine itT ?_
    refine xFor ?_
    refine tyG G₂ S₃ gRange bRange (arg1 (biG G₂ S₃ gLen bLen (arg1 ?_)))
    refine Subscript_ (nmL S₃ (v := v) rfl ?_)
    refine wpAny_Constant_int ?_
    refine itRdL (S₃.toks _) hT2 (by decide) (d := .list (T.pdL cs)) rfl (by decide) (fun x rx => arg0 ?_)
    have hz : cs.length ≤ 400 := hn.len
    have hzl : (T.pdL cs).length = cs.length := by rw [pdL_map, List.length_map]
    refine lenL (S₃.toks _) rx (sl' hzl (by omega)) (fun tk s₄ S₄ => arg0 ?_)
    rw [hzl]
    refine mkRange S₄ fun r t₁ t₂ g₅ s₅ k₅ hrg S₅ => ?_
    have G₅ := G₂.keeps k₅
    refine loopR hr.1 S₅ hrg (sl (by omega)) (fun i g' m' ow' => ow' = [] ∧ m' "node" = some v ∧ m' "place" = some pv ∧ ∃ z, m' "found" = some z ∧ Rd g' z (.list (((p, T.node lab cs) :: placesL (cs.take i) 0 p).map prD))) ⟨rfl, rfl, rfl, _, rfl, (by have := r₂.mono k₅; rw [List.take_zero]; simpa only [placesL, behindL, bothL, T.pd, prD, List.map_cons, List.map_nil] using this)⟩ ?_ ?_
    · rintro k tk it oi g' s' m' ow' hk hg ⟨rfl, hm1, hm2, z, hm3, hz3⟩ hit S'
      try (show wpAny _ _ _ _ _ _; k_fold)
      refine wpAny_pure ?_
      refine wpAny_assign_Name (stL S' fun s₆ S₆ => ?_)
      have G' := G₅.keeps hg
      have kk := k₁₂.trans (k₅.trans hg)
      refine xAsn (wpAny_BinOp (nmL S₆ hm3 ?_))
      refine fnG G' S₆ gfplaces kfplaces ?_
      refine arg1 (Subscript_ (Subscript_ (nmL S₆ hm1 ?_)))
      refine wpAny_Constant_int ?_
      refine itRdL (S₆.toks _) (hT2.mono (k₅.trans hg)) (by decide) (d := .list (T.pdL cs)) rfl (by decide) (fun x rx => ?_)
      refine nmL (S₆.toks _) rfl ?_
      obtain ⟨t, ht⟩ : ∃ t, cs[k]? = some t := ⟨_, List.getElem?_eq_getElem hk⟩
      refine itRdL (S₆.toks _) rx (by omega) (d := t.pd) (pdL_get (by simpa using ht)) (by omega) (fun c rc => ?_)
      refine arg1 (plcAdd (S₆.toks _) hm2 rfl (hP.mono kk) (by omega) fun pv' g₇ s₇ k₇ r₇ S₇ => ?_)
      refine arg0 ⟨((G'.keeps k₇).keeps S₇.in_).K, ?_⟩
      refine wpAny_call (ih t (hn.kid ht) _ _ _ _ _ _ _ (hr.le (by omega)).deeper (G'.keeps k₇) S₇.in_ (rc.mono k₇) r₇ (by rw [List.length_append, List.length_singleton]; omega) fun u s₈ g₈ gr ru => ?_)
      have S₈ := S₇.call gr
      refine addLstF S₈ (hz3.mono (k₇.trans gr.sub)) ru ?_ fun u' g₉ s₉ k₉ r₉ S₉ => ?_
      · have h1 := hn.kid ht
        have h2 := szL_take cs (k + 1)
        rw [take_snoc ht, szL_snoc] at h2
        have h3 := hn.sz
        rw [T.sz] at h3
        refine sl ?_
        rw [List.length_map, List.length_map, List.length_cons, placesL_len, places_len]; omega
      refine stL S₉ fun s₉ S₉ => ?_
      refine xNil ⟨g₉, _, [], k₇.trans (gr.sub.trans k₉), S₉, rfl, hm1, hm2, _, rfl, ?_⟩
      rw [take_snoc ht, placesL_snoc, take_snocL ht, Nat.zero_add]
      simpa only [List.map_append, List.append_assoc, List.cons_append, List.map_cons, List.nil_append] using r₉
    · rintro g' s' m' ow' hg ⟨rfl, hm1, hm2, z, hm3, hz3⟩ S'
      try (show wpAny _ _ _ _ _ _; k_fold)
      rw [List.take_length] at hz3
      refine thenNext (xNil (thenNext ?_))
      refine xRet (nmL S' hm3 ?_)
      exact hR _ _ _ S'.grow hz3

theorem gfbehind : nsIn (Mine.hd.heap_1 w.params) mainGlobals "_law_behind" = some (some (.ref 330)) := by k_is
theorem kfbehind : keepIn (Mine.hd.heap_1 w.params) (.ref 330) = true := by k_is
theorem fbehind_spec : ∀ (n : Nat) (t : T), t.Small n → ∀ (A : Around) (g : Heap) (s : Shared) (v pv : Value) (p : Plc) (R : Result → Shared → Prop),
    Room A (2 * n) → Amb w mg mb g → Sub g s.heap → Rd g v t.pd → Rd g pv (posD p) → p.length + n ≤ 400 → (∀ u s' g', Grow [] g s g' s' → Rd g' u (.list ((behind t p).map posD)) → R (.ok (.ret u)) s') → codeAny (model prg w) A (.call (.ref 330) ⟨[v, pv], []⟩) R s := by
  intro n
  induction n with
  | zero => intro t h; exact h.zero.elim
  | succ n ih =>
    intro t hn A g s v pv p R hr G hs hT hP hp hR
    refine enterF G hs hr (by k_is) (by k_is) (BindsTo.of_eq rfl) (locs rfl) ?_ rfl rfl rfl (by decide)
    intro L s₁ S
    try k_fold
    refine xAsn ?_
    refine eLst (arg0 (mkLstF S .nil (sl (by simp)) fun z g₂ s₂ k₁₂ r₂ S₂ => ?_))
    refine stL S₂ fun s₂ S₂ => ?_
    have G₂ := G.keeps k₁₂
    refine xIf (wpAny_isTrue_Not (tStr G₂ S₂ rfl (hT.mono k₁₂) ?_ ?_))
    · rintro y u s₃ rfl rfl S₃
      refine itF (xNil (thenNext ?_))
      refine xRet (wpAny_BinOp (nmL S₃ rfl ?_))
      refine eLst (arg1 (nmL S₃ (v := pv) rfl (arg0 (mkLstF S₃ (.cons (hP.mono k₁₂) .nil) (sl (by simp)) fun z g₄ s₄ k₄ r₄ S₄ => ?_))))
      refine addLstF S₄ (r₂.mono k₄) r₄ (sl (by simp)) fun u' g₉ s₉ k₉ r₉ S₉ => ?_
      exact hR _ _ _ S₉.grow r₉
    rintro lab cs s₃ rfl hT2 S₃
    refine itT ?_
    refine xFor ?_
    refine tyG G₂ S₃ gRange bRange (arg1 (biG G₂ S₃ gLen bLen (arg1 ?_)))
    refine Subscript_ (nmL S₃ (v := v) rfl ?_)
    refine wpAny_Constant_int ?_
    refine itRdL (S₃.toks _) hT2 (by decide) (d := .list (T.pdL cs)) rfl (by decide) (fun x rx => arg0 ?_)
    have hz : cs.length ≤ 400 := hn.len
    have hzl : (T.pdL cs).length = cs.length := by rw [pdL_map, List.length_map]
    refine lenL (S₃.toks _) rx (sl' hzl (by omega)) (fun tk s₄ S₄ => arg0 ?_)
    rw [hzl]
    refine mkRange S₄ fun r t₁ t₂ g₅ s₅ k₅ hrg S₅ => ?_
    have G₅ := G₂.keeps k₅
    refine loopR hr.1 S₅ hrg (sl (by omega)) (fun i g' m' ow' => ow' = [] ∧ m' "node" = some v ∧ m' "place" = some pv ∧ ∃ z, m' "found" = some z ∧ Rd g' z (.list ((behindL (cs.take i) 0 p).map posD))) ⟨rfl, rfl, rfl, _, rfl, (by have := r₂.mono k₅; rw [List.take_zero]; simpa only [placesL, behindL, bothL, T.pd, prD, List.map_cons, List.map_nil] using this)⟩ ?_ ?_
    · rintro k tk it oi g' s' m' ow' hk hg ⟨rfl, hm1, hm2, z, hm3, hz3⟩ hit S'
      try (show wpAny _ _ _ _ _ _; k_fold)
      refine wpAny_pure ?_
      refine wpAny_assign_Name (stL S' fun s₆ S₆ => ?_)
      have G' := G₅.keeps hg
      have kk := k₁₂.trans (k₅.trans hg)
      refine xAsn (wpAny_BinOp (nmL S₆ hm3 ?_))
      refine fnG G' S₆ gfbehind kfbehind ?_
      refine arg1 (Subscript_ (Subscript_ (nmL S₆ hm1 ?_)))
      refine wpAny_Constant_int ?_
      refine itRdL (S₆.toks _) (hT2.mono (k₅.trans hg)) (by decide) (d := .list (T.pdL cs)) rfl (by decide) (fun x rx => ?_)
      refine nmL (S₆.toks _) rfl ?_
      obtain ⟨t, ht⟩ : ∃ t, cs[k]? = some t := ⟨_, List.getElem?_eq_getElem hk⟩
      refine itRdL (S₆.toks _) rx (by omega) (d := t.pd) (pdL_get (by simpa using ht)) (by omega) (fun c rc => ?_)
      refine arg1 (plcAdd (S₆.toks _) hm2 rfl (hP.mono kk) (by omega) fun pv' g₇ s₇ k₇ r₇ S₇ => ?_)
      refine arg0 ⟨((G'.keeps k₇).keeps S₇.in_).K, ?_⟩
      refine wpAny_call (ih t (hn.kid ht) _ _ _ _ _ _ _ (hr.le (by omega)).deeper (G'.keeps k₇) S₇.in_ (rc.mono k₇) r₇ (by rw [List.length_append, List.length_singleton]; omega) fun u s₈ g₈ gr ru => ?_)
      have S₈ := S₇.call gr
      refine addLstF S₈ (hz3.mono (k₇.trans gr.sub)) ru ?_ fun u' g₉ s₉ k₉ r₉ S₉ => ?_
      · have h1 := hn.kid ht
        have h2 := szL_take cs (k + 1)
        rw [take_snoc ht, szL_snoc] at h2
        have h3 := hn.sz
        rw [T.sz] at h3
        refine sl ?_
        rw [List.length_map, List.length_map, behindL_len, behind_len]; omega
      refine stL S₉ fun s₉ S₉ => ?_
      refine xNil ⟨g₉, _, [], k₇.trans (gr.sub.trans k₉), S₉, rfl, hm1, hm2, _, rfl, ?_⟩
      rw [take_snoc ht, behindL_snoc, take_snocL ht, Nat.zero_add]
      simpa only [List.map_append, List.append_assoc, List.cons_append, List.map_cons, List.nil_append] using r₉
    · rintro g' s' m' ow' hg ⟨rfl, hm1, hm2, z, hm3, hz3⟩ S'
      try (show wpAny _ _ _ _ _ _; k_fold)
      rw [List.take_length] at hz3
      refine thenNext (xNil (thenNext ?_))
      refine xRet (wpAny_BinOp (nmL S' hm3 ?_))
      refine eLst (arg1 (nmL S' hm2 (arg0 (mkLstF S' (.cons (hP.mono (k₁₂.trans (k₅.trans hg))) .nil) (sl (by simp)) fun z g₄ s₄ k₄ r₄ S₄ => ?_))))
      refine addLstF S₄ (hz3.mono k₄) r₄ ?_ fun u' g₉ s₉ k₉ r₉ S₉ => ?_
      · have h3 := hn.sz
        rw [T.sz] at h3
        refine sl ?_
        rw [List.length_map, behindL_len, List.length_singleton]; omega
      exact hR _ _ _ S₉.grow (by simpa [behind] using r₉)

theorem gfboth : nsIn (Mine.hd.heap_1 w.params) mainGlobals "_law_both" = some (some (.ref 337)) := by k_is
theorem kfboth : keepIn (Mine.hd.heap_1 w.params) (.ref 337) = true := by k_is
theorem fboth_spec : ∀ (n : Nat) (t : T), t.Small n → ∀ (A : Around) (g : Heap) (s : Shared) (v pv : Value) (p : Plc) (R : Result → Shared → Prop),
    Room A (2 * n) → Amb w mg mb g → Sub g s.heap → Rd g v t.pd → Rd g pv (posD p) → p.length + n ≤ 400 → (∀ u s' g', Grow [] g s g' s' → Rd g' u (.list ((both t p).map posD)) → R (.ok (.ret u)) s') → codeAny (model prg w) A (.call (.ref 337) ⟨[v, pv], []⟩) R s := by
  intro n
  induction n with
  | zero => intro t h; exact h.zero.elim
  | succ n ih =>
    intro t hn A g s v pv p R hr G hs hT hP hp hR
    refine enterF G hs hr (by k_is) (by k_is) (BindsTo.of_eq rfl) (locs rfl) ?_ rfl rfl rfl (by decide)
    intro L s₁ S
    try k_fold
    refine xIf (tStr G S rfl hT ?_ ?_)
    · rintro y u s₃ rfl rfl S₃
      refine itT ?_
      refine xRet (eLst (arg1 (nmL S₃ (v := pv) rfl ?_)))
      refine arg0 (mkLstF S₃ (.cons hP .nil) (sl (by simp)) fun z g₄ s₄ k₄ r₄ S₄ => ?_)
      exact thenRet (hR _ _ _ S₄.grow r₄)
    rintro lab cs s₂ rfl hT2 S₂
    refine itF (xNil (thenNext ?_))
    refine xAsn ?_
    refine eLst (arg1 (nmL S₂ (v := pv) rfl ?_))
    refine arg0 (mkLstF S₂ (.cons hP .nil) (sl (by simp)) fun z g₂ s₂ k₁₂ r₂ S₂ => ?_)
    refine stL S₂ fun s₃ S₃ => ?_
    have G₂ := G.keeps k₁₂
    refine xFor ?_
    refine tyG G₂ S₃ gRange bRange (arg1 (biG G₂ S₃ gLen bLen (arg1 ?_)))
    refine Subscript_ (nmL S₃ (v := v) rfl ?_)
    refine wpAny_Constant_int ?_
    refine itRdL (S₃.toks _) (hT2.mono k₁₂) (by decide) (d := .list (T.pdL cs)) rfl (by decide) (fun x rx => arg0 ?_)
    have hz : cs.length ≤ 400 := hn.len
    have hzl : (T.pdL cs).length = cs.length := by rw [pdL_map, List.length_map]
    refine lenL (S₃.toks _) rx (sl' hzl (by omega)) (fun tk s₄ S₄ => arg0 ?_)
    rw [hzl]
    refine mkRange S₄ fun r t₁ t₂ g₅ s₅ k₅ hrg S₅ => ?_
    have G₅ := G₂.keeps k₅
    refine loopR hr.1 S₅ hrg (sl (by omega)) (fun i g' m' ow' => ow' = [] ∧ m' "node" = some v ∧ m' "place" = some pv ∧ ∃ z, m' "found" = some z ∧ Rd g' z (.list ((p :: bothL (cs.take i) 0 p).map posD))) ⟨rfl, rfl, rfl, _, rfl, (by have := r₂.mono k₅; rw [List.take_zero]; simpa only [placesL, behindL, bothL, T.pd, prD, List.map_cons, List.map_nil] using this)⟩ ?_ ?_
    · rintro k tk it oi g' s' m' ow' hk hg ⟨rfl, hm1, hm2, z, hm3, hz3⟩ hit S'
      try (show wpAny _ _ _ _ _ _; k_fold)
      refine wpAny_pure ?_
      refine wpAny_assign_Name (stL S' fun s₆ S₆ => ?_)
      have G' := G₅.keeps hg
      have kk := k₁₂.trans (k₅.trans hg)
      refine xAsn (wpAny_BinOp (nmL S₆ hm3 ?_))
      refine fnG G' S₆ gfboth kfboth ?_
      refine arg1 (Subscript_ (Subscript_ (nmL S₆ hm1 ?_)))
      refine wpAny_Constant_int ?_
      refine itRdL (S₆.toks _) (hT2.mono kk) (by decide) (d := .list (T.pdL cs)) rfl (by decide) (fun x rx => ?_)
      refine nmL (S₆.toks _) rfl ?_
      obtain ⟨t, ht⟩ : ∃ t, cs[k]? = some t := ⟨_, List.getElem?_eq_getElem hk⟩
      refine itRdL (S₆.toks _) rx (by omega) (d := t.pd) (pdL_get (by simpa using ht)) (by omega) (fun c rc => ?_)
      refine arg1 (plcAdd (S₆.toks _) hm2 rfl (hP.mono kk) (by omega) fun pv' g₇ s₇ k₇ r₇ S₇ => ?_)
      refine arg0 ⟨((G'.keeps k₇).keeps S₇.in_).K, ?_⟩
      refine wpAny_call (ih t (hn.kid ht) _ _ _ _ _ _ _ (hr.le (by omega)).deeper (G'.keeps k₇) S₇.in_ (rc.mono k₇) r₇ (by rw [List.length_append, List.length_singleton]; omega) fun u s₈ g₈ gr ru => ?_)
      have S₈ := S₇.call gr
      refine addLstF S₈ (hz3.mono (k₇.trans gr.sub)) ru ?_ fun u' g₉ s₉ k₉ r₉ S₉ => ?_
      · have h1 := hn.kid ht
        have h2 := szL_take cs (k + 1)
        rw [take_snoc ht, szL_snoc] at h2
        have h3 := hn.sz
        rw [T.sz] at h3
        refine sl ?_
        rw [List.length_map, List.length_map, List.length_cons]; have := bothL_len (cs.take k) 0 p; have := both_len t (p ++ [k]); omega
      refine stL S₉ fun s₉ S₉ => ?_
      refine xNil ⟨g₉, _, [], k₇.trans (gr.sub.trans k₉), S₉, rfl, hm1, hm2, _, rfl, ?_⟩
      rw [take_snoc ht, bothL_snoc, take_snocL ht, Nat.zero_add]
      simpa only [List.map_append, List.append_assoc, List.cons_append, List.map_cons, List.nil_append] using r₉
    · rintro g' s' m' ow' hg ⟨rfl, hm1, hm2, z, hm3, hz3⟩ S'
      try (show wpAny _ _ _ _ _ _; k_fold)
      rw [List.take_length] at hz3
      refine thenNext (?_)
      refine xRet (wpAny_BinOp (nmL S' hm3 ?_))
      refine eLst (arg1 (nmL S' hm2 (arg0 (mkLstF S' (.cons (hP.mono (k₁₂.trans (k₅.trans hg))) .nil) (sl (by simp)) fun z g₄ s₄ k₄ r₄ S₄ => ?_))))
      refine addLstF S₄ (hz3.mono k₄) r₄ ?_ fun u' g₉ s₉ k₉ r₉ S₉ => ?_
      · have h3 := hn.sz
        rw [T.sz] at h3
        refine sl ?_
        rw [List.length_map, List.length_cons, List.length_singleton]; have := bothL_len cs 0 p; omega
      exact hR _ _ _ S₉.grow (by simpa [both] using r₉)

end
end Mine
namespace Mine
noncomputable def T.at : T → Plc → Option T
  | t, [] => some t
  | .leaf _, _ :: _ => none
  | .node _ cs, k :: p => match cs[k]? with
    | some c => c.at p
    | none => none
theorem at_cons {lab : Sym} {cs : List T} {k : Nat} {p : Plc} {t : T} (h : (T.node lab cs).at (k :: p) = some t) : ∃ c, cs[k]? = some c ∧ c.at p = some t := by
  rw [T.at] at h
  cases hc : cs[k]? with
  | none => rw [hc] at h; cases h
  | some c => rw [hc] at h; exact ⟨c, rfl, h⟩
section
variable {w : World} {mg mb : Str → Option Value} {M : Model} {A : Around} {E : Value → Shared → Prop} {X : List Addr} {g₀ g : Heap} {s₀ s : Shared} {L : Addr} {m : Str → Option Value} {ow : List (Addr × Obj)} {env : Env}
theorem isiI_int {i : Int} {u : Tok} {Q : Value → Shared → Prop} (G : Amb w mg mb g) (S : St X g₀ s₀ L g s m ow) (h : ∀ s', St X g₀ s₀ L g s' m ow → Q (.bool true) s') :
    wpAny (model prg w) A (call (.builtin "isinstance") [.int i u, .type "int"]) Q E s := isi kitx_int G S trivial (by kernel_rfl) h
theorem isiI_tup {v : Value} {ds : List PyData} {Q : Value → Shared → Prop} (G : Amb w mg mb g) (S : St X g₀ s₀ L g s m ow) (r : Rd g v (.tuple ds)) (h : ∀ s', St X g₀ s₀ L g s' m ow → Q (.bool false) s') :
    wpAny (model prg w) A (call (.builtin "isinstance") [v, .type "int"]) Q E s := by
  obtain ⟨a, vs, rfl, ⟨o, h1, h2, _⟩, _⟩ := r.asTuple
  exact isi kitx_tuple G S ⟨o, S.in_ _ _ h1, h2⟩ (by kernel_rfl) h
theorem isiLT {v : Value} {ds : List PyData} {xe : Expr} {p1 p2 p3 p4 pos : PySem.Pos} {n : Nat} {Q : Bool → Shared → Prop} (G : Amb w mg mb g) (S : St X g₀ s₀ L g s m ow) (r : Rd g v (.tuple ds))
    (hx0 : ∀ Q', Q' v s → wpAny (model prg w) A (eval xe env) Q' E s) (h : ∀ s', St X g₀ s₀ L g s' m ow → Q true s')
    (hg : env.globals = mainGlobals := by rfl) (hb : env.builtins = builtinsNs := by rfl) (hkd : env.scope.kind = .function := by rfl) (hx : env.kindOf "isinstance" = some .globalImplicit := by rfl) (hx2 : env.kindOf "list" = some .globalImplicit := by rfl) (hx3 : env.kindOf "tuple" = some .globalImplicit := by rfl)
    (he : starEach [xe, .Tuple [.Name "list" p1, .Name "tuple" p2] n p3] env = (false, eval xe env) :: starEach [.Tuple [.Name "list" p1, .Name "tuple" p2] n p3] env := by rfl) (hp : (backTo pos (starEach [xe, .Tuple [.Name "list" p1, .Name "tuple" p2] n p3] env)).any (·.1) = false := by rfl)
    (ht : isTrue (.Call (.Name "isinstance" p4) [xe, .Tuple [.Name "list" p1, .Name "tuple" p2] n p3] [] pos) env (eval (.Call (.Name "isinstance" p4) [xe, .Tuple [.Name "list" p1, .Name "tuple" p2] n p3] [] pos) env) = (do let v ← eval (.Call (.Name "isinstance" p4) [xe, .Tuple [.Name "list" p1, .Name "tuple" p2] n p3] [] pos) env; standAt pos; holding [v] (truthy v)) := by rfl) :
    wpAny (model prg w) A (isTrue (.Call (.Name "isinstance" p4) [xe, .Tuple [.Name "list" p1, .Name "tuple" p2] n p3] [] pos) env (eval (.Call (.Name "isinstance" p4) [xe, .Tuple [.Name "list" p1, .Name "tuple" p2] n p3] [] pos) env)) Q E s := by
  obtain ⟨a, vs, rfl, ⟨o, h1, h2, _⟩, _⟩ := r.asTuple
  refine isT (biG G S gIsi bIsi (arg1 (hx0 _ ?_) he) he hp (by decide) hg hb hkd hx) ht
  refine arg1 (eTup (arg1 (nmB G S gList bList (by decide) ?_ hg hb hkd hx2)))
  refine arg1 (nmB G S gTuple bTuple (by decide) ?_ hg hb hkd hx3)
  refine arg0 ?_
  refine wpAny_newObj_type ?_
  have S' := S.push (tupO [.type "list", .type "tuple"])
  refine arg0 ?_
  refine kia_tup (Z := kitx_tuple) (G.keeps S'.in_).K ⟨o, S'.in_ _ _ h1, h2⟩ (S'.get (.head _)) (by kernel_rfl) (by intro q; cases q) fun tk => ⟨_, rfl, h _ ((S'.toks tk).drop)⟩
end
end Mine
namespace Mine
section
variable {w : World} {mg mb : Str → Option Value} {M : Model} {A : Around} {E : Value → Shared → Prop} {X : List Addr} {g₀ g : Heap} {s₀ s : Shared} {L : Addr} {m : Str → Option Value} {ow : List (Addr × Obj)} {env : Env}
theorem tEqI {a b : Int} {t u : Tok} {Q : Bool → Shared → Prop} (h : Q (a == b) s) : wpAny (model prg w) A (compareOp .Eq (.int a t) (.int b u)) (fun c s₃ => wpAny (model prg w) A (truthy c) Q E s₃) E s :=
  PyProof.Rows.eq_int (wpAny_truthy_bool h)
theorem gPlain : nsIn (Mine.hd.heap_1 w.params) mainGlobals "_law_plain" = some (some (.ref 316)) := by k_is
theorem kPlain : keepIn (Mine.hd.heap_1 w.params) (.ref 316) = true := by k_is

theorem label_spec {lab : Sym} {cs : List T} {A : Around} {g : Heap} {s : Shared} {v : Value} {as : List Addr} {R : Result → Shared → Prop} (hr : Room A 1) (G : Amb w mg mb g) (hs : Sub g s.heap) (hT : IsT g v (.node lab cs) as)
    (hR : ∀ tk s' g', Grow [] g s g' s' → R (.ok (.ret (.str lab.s tk))) s') : codeAny (model prg w) A (.call (.ref 195) ⟨[v], []⟩) R s := by
  cases hT with
  | @node x dx l h1 h2 t1 t2 tk n' k _ vs _ as' hx hd hl hcs =>
  refine enterF G hs hr (by k_is) (by k_is) (BindsTo.of_eq rfl) (locs rfl) ?_ rfl rfl rfl (by decide)
  intro L s₁ S
  try k_fold
  refine xRet (Attribute_name (nmL S (v := .ref x) rfl ?_))
  exact getLabel G S hx hd fun s₂ S₂ => hR _ _ _ S₂.grow
theorem len_spec {lab : Sym} {cs : List T} {A : Around} {g : Heap} {s : Shared} {v : Value} {as : List Addr} {R : Result → Shared → Prop} (hr : Room A 1) (G : Amb w mg mb g) (hs : Sub g s.heap) (hT : IsT g v (.node lab cs) as) (hz : cs.length ≤ 400)
    (hR : ∀ tk s' g', Grow [] g s g' s' → R (.ok (.ret (.int (cs.length : Nat) tk))) s') : codeAny (model prg w) A (.call (.ref 174) ⟨[v], []⟩) R s := by
  cases hT with
  | @node x dx l h1 h2 t1 t2 tk n' k _ vs _ as' hx hd hl hcs =>
  refine enterF G hs hr (by k_is) (by k_is) (BindsTo.of_eq rfl) (locs rfl) ?_ rfl rfl rfl (by decide)
  intro L s₁ S
  try k_fold
  refine xRet (biG G S gLen bLen (arg1 (Attribute_name (nmL S (v := .ref x) rfl ?_))))
  refine getChildren G S hx hd fun s₂ S₂ => arg0 ?_
  have hz' : (vs.toArray.size : Int) < 2 ^ 63 := by rw [List.size_toArray, hcs.length]; omega
  refine len_list (isList_of (S₂.in_ _ _ hl)) hz' ?_
  rw [List.size_toArray, hcs.length]
  exact hR _ _ _ (S₂.toks _).grow
theorem item_spec {lab : Sym} {cs : List T} {A : Around} {g : Heap} {s : Shared} {v : Value} {as : List Addr} {R : Result → Shared → Prop} {k : Nat} {tk : Tok} {t : T} (hr : Room A 1) (G : Amb w mg mb g) (hs : Sub g s.heap) (hT : IsT g v (.node lab cs) as) (hk : cs[k]? = some t) (hz : cs.length ≤ 400)
    (hR : ∀ u bs s' g', Grow [] g s g' s' → IsT g u t bs → R (.ok (.ret u)) s') : codeAny (model prg w) A (.call (.ref 181) ⟨[v, .int (k : Nat) tk], []⟩) R s := by
  cases hT with
  | @node x dx l h1 h2 t1 t2 tk n' k' _ vs _ as' hx hd hl hcs =>
  refine enterF G hs hr (by k_is) (by k_is) (BindsTo.of_eq rfl) (locs rfl) ?_ rfl rfl rfl (by decide)
  intro L s₁ S
  try k_fold
  refine xIf (tIsiB G S gInt bInt (nmL S (v := .int (k : Nat) _) rfl ⟨_, S, ?_⟩))
  refine isiI_int G S fun s₂ S₂ => ⟨_, rfl, itT ?_⟩
  refine xRet (Subscript_ (Attribute_name (nmL S₂ (v := .ref x) rfl ?_)))
  refine getChildren G S₂ hx hd fun s₃ S₃ => nmL S₃ rfl ?_
  have hkl := (List.getElem?_eq_some_iff.mp hk).1
  have hkv : k < vs.length := by rw [hcs.length]; exact hkl
  obtain ⟨u, hu⟩ : ∃ u, vs[k]? = some u := ⟨_, List.getElem?_eq_getElem hkv⟩
  obtain ⟨t', bs, ht', hI⟩ := hcs.get k u hu
  rw [hk] at ht'; cases ht'
  refine itLst (isList_of (S₃.in_ _ _ hl)) (by omega) (by simpa using hu) (by omega) ?_
  exact thenRet (hR _ _ _ _ S₃.grow hI)
theorem isT_node_of {g : Heap} {v : Value} {lab : Sym} {cs : List T} {as : List Addr} (h : IsT g v (.node lab cs) as) : ∃ x dx l h1 h2 t1 t2 tk n, v = .ref x ∧ g.get? x = some (instObj 269 dx) ∧ g.get? dx = some (dictOf (treeD h1 h2 t1 t2 l (.str lab.s tk)) n) := by
  cases h with
  | @node x dx l h1 h2 t1 t2 tk n' k' _ vs _ as' hx hd hl hcs => exact ⟨x, dx, l, h1, h2, t1, t2, tk, n', rfl, hx, hd⟩
theorem lenV {lab : Sym} {cs : List T} {n : Nat} {v : Value} {as : List Addr} {Q : Value → Shared → Prop} (hr : Room A (n + 2)) (G : Amb w mg mb g) (S : St X g₀ s₀ L g s m ow) (hT : IsT g v (.node lab cs) as) (hz : cs.length ≤ 400)
    (h : ∀ tk g' s', Sub g g' → St X g₀ s₀ L g' s' m ow → Q (.int (cs.length : Nat) tk) s') : wpAny (model prg w) A (call (.builtin "len") [v]) Q E s := by
  obtain ⟨x, dx, l, h1, h2, t1, t2, tk, n', rfl, hx, hd⟩ := isT_node_of hT
  refine lenTree G S (instT S.in_ hx hd) ?_
  refine wpAny_call (len_spec (hr.in1.le (by omega)) G S.in_ hT hz fun tk s' g' gr => ?_)
  exact ⟨⟨by omega, by omega⟩, h _ g' _ gr.sub ((S.call gr).toks _)⟩
theorem itemV {value slice : Expr} {lab : Sym} {cs : List T} {n k : Nat} {v : Value} {as : List Addr} {tk : Tok} {t : T} {Q : Value → Shared → Prop} (hr : Room A (n + 2)) (G : Amb w mg mb g) (S : St X g₀ s₀ L g s m ow) (hT : IsT g v (.node lab cs) as) (hk : cs[k]? = some t) (hz : cs.length ≤ 400)
    (h : ∀ u bs g' s', Sub g g' → IsT g u t bs → St X g₀ s₀ L g' s' m ow → Q u s')
    (hsl : ∀ x, subscripted slice true (.ref x) (.int (k : Nat) tk) = runValue (.builtin "lifetime.subscript" ⟨[.ref x, (.int (k : Nat) tk)], []⟩) := by intro _; with_unfolding_all rfl) : wpAny (model prg w) A (subscriptTail value slice v (.int (k : Nat) tk)) Q E s := by
  obtain ⟨x, dx, l, h1, h2, t1, t2, tk, n', rfl, hx, hd⟩ := isT_node_of hT
  refine subTree G S (instT S.in_ hx hd) ?_ (hsl x)
  refine wpAny_call (item_spec (hr.in1.le (by omega)) G S.in_ hT hk hz fun u bs s' g' gr hI => ?_)
  exact h u bs g' _ gr.sub hI (S.call gr)

theorem item_tup : ∀ (p : Plc) (n : Nat) (t : T), t.Small n → ∀ (t' : T) (A : Around) (g : Heap) (s : Shared) (v pv : Value) (as : List Addr) (R : Result → Shared → Prop),
    Room A (3 * n + 3) → Amb w mg mb g → Sub g s.heap → IsT g v t as → 0 < p.length ∨ (∃ lab cs, t = .node lab cs) → Rd g pv (posD p) → p.length ≤ 400 → t.at p = some t' → (∀ u bs s' g', Grow [] g s g' s' → IsT g' u t' bs → R (.ok (.ret u)) s') → codeAny (model prg w) A (.call (.ref 181) ⟨[v, pv], []⟩) R s := by
  intro p
  induction p with
  | nil =>
    intro n t hn t' A g s v pv as R hr G hs hT hp hP hpl hat hR
    rw [T.at] at hat; cases hat
    obtain ⟨lab, cs, rfl⟩ : ∃ lab cs, t = .node lab cs := hp.resolve_left (by simp)
    obtain ⟨x, dx, l, h1, h2, t1, t2, tk, n', rfl, hx, hd⟩ := isT_node_of hT
    refine enterF G hs hr (by k_is) (by k_is) (BindsTo.of_eq rfl) (locs rfl) ?_ rfl rfl rfl (by decide)
    intro L s₁ S
    try k_fold
    refine xIf (tIsiB G S gInt bInt (nmL S (v := pv) rfl ⟨_, S, ?_⟩))
    refine isiI_tup G S hP fun s₂ S₂ => ⟨_, rfl, itF ?_⟩
    refine xIf (isiLT G S₂ hP (fun Q' hq => nmL S₂ rfl hq) fun s₃ S₃ => itT ?_)
    refine xIf (wpAny_isTrue_Compare1 (biG G S₃ gLen bLen (arg1 (nmL S₃ (v := pv) rfl (arg0 ?_)))))
    refine lenT S₃ hP (sl (by simp)) fun tk s₄ S₄ => wpAny_Constant_int ?_
    refine tEqI ?_
    refine itT (xRet (nmL (S₄.toks _) (v := .ref x) rfl ?_))
    exact hR _ _ _ _ (S₄.toks _).grow hT
  | cons k q ih =>
    intro n t hn t' A g s v pv as R hr G hs hT hp hP hpl hat hR
    cases t with
    | leaf y => rw [T.at] at hat; cases hat
    | node lab cs =>
    obtain ⟨c, hk, hat'⟩ := at_cons hat
    cases n with
    | zero => exact hn.zero.elim
    | succ n =>
    have hsm := hn.kid hk
    obtain ⟨x, dx, l, h1, h2, t1, t2, tk, n', rfl, hx, hd⟩ := isT_node_of hT
    refine enterF G hs hr (by k_is) (by k_is) (BindsTo.of_eq rfl) (locs rfl) ?_ rfl rfl rfl (by decide)
    intro L s₁ S
    try k_fold
    refine xIf (tIsiB G S gInt bInt (nmL S (v := pv) rfl ⟨_, S, ?_⟩))
    refine isiI_tup G S hP fun s₂ S₂ => ⟨_, rfl, itF ?_⟩
    refine xIf (isiLT G S₂ hP (fun Q' hq => nmL S₂ rfl hq) fun s₃ S₃ => itT ?_)
    refine xIf (wpAny_isTrue_Compare1 (biG G S₃ gLen bLen (arg1 (nmL S₃ (v := pv) rfl (arg0 ?_)))))
    refine lenT S₃ hP (by rw [List.length_map]; exact sl (by omega)) fun tk s₄ S₄ => wpAny_Constant_int ?_
    refine tEqI ?_
    have e0 : ((((k :: q).map fun i => PyData.int (i : Nat)).length : Nat) : Int) = (q.length : Nat) + 1 := by simp
    rw [e0, show (((q.length : Nat) : Int) + 1 == 0) = false from by simpa using (by omega : ¬ ((q.length : Nat) : Int) + 1 = 0)]
    refine itF ?_
    refine xIf (wpAny_isTrue_Compare1 (biG G (S₄.toks _) gLen bLen (arg1 (nmL (S₄.toks _) (v := pv) rfl (arg0 ?_)))))
    refine lenT (S₄.toks _) hP (by rw [List.length_map]; exact sl (by omega)) fun tk s₅ S₅ => wpAny_Constant_int ?_
    refine tEqI ?_
    rw [e0]
    cases q with
    | nil =>
      rw [T.at] at hat'; cases hat'
      refine itT (xRet (Subscript_ (nmL (S₅.toks _) (v := .ref x) rfl ?_)))
      refine Subscript_ (nmL (S₅.toks _) (v := pv) rfl (wpAny_Constant_int ?_))
      refine itRdT ((S₅.toks _).toks _) hP (by decide) (d := .int (k : Nat)) rfl (by decide) fun z rz => ?_
      obtain ⟨u, rfl⟩ := rz.asInt
      refine itemV (n := 0) (hr.deeper.le (by omega)) G ((S₅.toks _).toks _) hT hk hn.len fun u bs g' s' kk hI S' => ?_
      exact hR _ _ _ _ S'.grow (hI.mono kk)
    | cons k2 q =>
      rw [show ((((k2 :: q).length : Nat) : Int) + 1 == 1) = false from by simpa using (by omega : ¬ ((q.length : Nat) : Int) + 1 + 1 = 1)]
      refine itF (xRet (Subscript_ (Subscript_ (nmL (S₅.toks _) (v := .ref x) rfl ?_))))
      refine Subscript_ (nmL (S₅.toks _) (v := pv) rfl (wpAny_Constant_int ?_))
      refine itRdT ((S₅.toks _).toks _) hP (by decide) (d := .int (k : Nat)) rfl (by decide) fun z rz => ?_
      obtain ⟨u, rfl⟩ := rz.asInt
      refine itemV (n := 0) (hr.deeper.le (by omega)) G ((S₅.toks _).toks _) hT hk hn.len fun u bs g' s' kk hI S' => ?_
      refine sliceFrom (a := 1) (X := []) (nmL S' (v := pv) rfl (wpAny_Constant_int ⟨_, g', _, _, rfl, hP.mono kk, by decide, by simp, by rw [List.length_map]; exact sl (by omega), S'.toks _, fun pv' g₂ s₂ k₂ r₂ S₆ => ?_⟩))
      obtain ⟨lab2, cs2, rfl⟩ : ∃ lab cs, c = .node lab cs := by cases c with | leaf _ => rw [T.at] at hat'; cases hat' | node a b => exact ⟨a, b, rfl⟩
      have hI₂ := (hI.mono kk).mono k₂
      obtain ⟨x2, dx2, _, _, _, _, _, _, _, rfl, hx2, hd2⟩ := isT_node_of hI₂
      refine subTree ((G.keeps kk).keeps k₂) S₆ (instT S₆.in_ hx2 hd2) ?_
      refine wpAny_call (ih n _ hsm t' _ _ _ _ _ _ _ ((hr.deeper (n := 3 * (n + 1) + 2)).in1.le (by omega)) ((G.keeps kk).keeps k₂) S₆.in_ hI₂ (.inl (by simp)) (by simpa [posD] using r₂) (by simp at hpl ⊢; omega) hat' fun u bs s₇ g₇ gr hI => ?_)
      exact hR _ _ _ _ (S₆.call gr).grow (hI)

theorem plain_spec : ∀ (n : Nat) (t : T), t.Small n → ∀ (A : Around) (g : Heap) (s : Shared) (v : Value) (as : List Addr) (R : Result → Shared → Prop),
    Room A (3 * n + 3) → Amb w mg mb g → Sub g s.heap → IsT g v t as → (∀ u s' g', Grow [] g s g' s' → Rd g' u t.pd → R (.ok (.ret u)) s') → codeAny (model prg w) A (.call (.ref 316) ⟨[v], []⟩) R s := by
  intro n
  induction n with
  | zero => intro t h; exact h.zero.elim
  | succ n ih =>
    intro t hn A g s v as R hr G hs hT hR
    refine enterC G hs hr (by k_is) (by k_is) (BindsTo.of_eq rfl) (kindsX rfl) (by decide) ?_ rfl rfl rfl
    intro L s₁ cells S hC
    try k_fold
    obtain ⟨o, rfl, hd0⟩ := hC.one
    obtain ⟨g₁, k₁, e₁, _, S₁⟩ := S.freeze (fun h => nomatch h)
    have hcell : g₁.IsCell (L + 1) (some v) := ⟨o, e₁, hd0⟩
    have G₁ := G.keeps k₁
    have hT₁ := hT.mono k₁
    refine xIf (tIsiB G₁ S₁ gStr bStr (nmC (IsCell.mono S₁.in_ hcell) ⟨_, S₁, ?_⟩))
    cases hT₁ with
    | leaf y u =>
      refine isiS_str G₁ S₁ fun s₂ S₂ => ⟨_, rfl, itT ?_⟩
      refine xRet (nmC (IsCell.mono S₂.in_ hcell) (thenRet (hR _ _ _ S₂.grow (.str _ _))))
    | @node x dx l h1 h2 t1 t2 tk n' k' lab vs cs as' hx hd hl hcs =>
      have hT₁ : IsT g₁ (.ref x) (.node lab cs) _ := .node hx hd hl hcs
      refine isiS_tree G₁ S₁ (instT S₁.in_ hx hd) fun s₂ S₂ => ⟨_, rfl, itF (xNil (thenNext ?_))⟩
      refine xRet (eLst (arg1 ?_))
      refine meCall0 (a := 195) (K := Mine.hd.heap_1 w.params) (nmC (v := .ref x) (IsCell.mono S₂.in_ hcell) ?_) (by k_is)
      refine methT G₁ S₂ (instT S₂.in_ hx hd) (by k_is) (by k_is) (by rfl) ⟨rfl, (G₁.keeps S₂.in_).K, ?_⟩
      refine wpAny_call (label_spec (hr.deeper.le (by omega)) G₁ S₂.in_ hT₁ fun tk₃ s₃ g₃ gr => ?_)
      have S₃ := S₂.call gr
      have k₃ := gr.sub
      have G₃ := G₁.keeps k₃
      refine arg1 ?_
      refine lcEval (cl := [("tree", L + 1)]) rfl rfl (by decide) ?_
      refine tyG G₃ S₃ gRange bRange (arg1 (biG G₃ S₃ gLen bLen (arg1 (nmC (v := .ref x) (IsCell.mono (k₃.trans S₃.in_) hcell) (arg0 ?_)))))
      refine lenV (n := 1) (hr.deeper.le (by omega)) G₃ S₃ (hT₁.mono k₃) hn.len fun tk₄ g₄ s₄ k₄ S₄ => arg0 ?_
      refine mkRange S₄ fun r t₁ t₂ g₅ s₅ k₅ hrg S₅ => ?_
      have k₅' := k₃.trans (k₄.trans k₅)
      have G₅ := G₁.keeps k₅'
      have hz := hn.len
      refine compR hr.1 S₅ hrg (sl (by omega)) (by decide) rfl rfl (fun i g' ys => RdA g' ys ((cs.take i).map T.pd)) (by exact .nil) ?_ ?_
      · intro i tk I oi se C g' s' mC ys ow2 Se hi hg hJ S'
        try (show wpAny _ _ _ _ _ _; k_fold)
        have G' := G₅.keeps hg
        obtain ⟨t, ht⟩ : ∃ t, cs[i]? = some t := ⟨_, List.getElem?_eq_getElem hi⟩
        have kk := k₅'.trans hg
        refine fnG G' S' gPlain kPlain ?_
        refine arg1 (Subscript_ (nmC (v := .ref x) (IsCell.mono (kk.trans S'.in_) hcell) ?_))
        refine nmL S' rfl ?_
        refine itemV (n := 1) (hr.deeper.le (by omega)) G' S' (hT₁.mono kk) ht hn.len fun u bs g₆ s₆ k₆ hI S₆ => ?_
        refine arg0 ⟨((G'.keeps k₆).keeps S₆.in_).K, ?_⟩
        refine wpAny_call (ih t (hn.kid ht) _ _ _ _ _ _ (hr.deeper.le (by omega)) (G'.keeps k₆) S₆.in_ (hI.mono k₆) fun u s₇ g₇ gr ru => ?_)
        refine ⟨g₇, _, k₆.trans gr.sub, S₆.call gr, ?_⟩
        rw [take_snoc ht, List.map_append]
        exact (hJ.mono (k₆.trans gr.sub)).append (.cons ru .nil)
      · intro D g' s' ys k hg hJ S'
        try (show wpAny _ _ _ _ _ _; k_fold)
        obtain ⟨g₆, k₆, e₆, _, S₆⟩ := S'.freeze fun h => nomatch h
        rw [List.take_length] at hJ
        refine arg0 (mkLstF S₆ (.cons (.str _ _) (.cons (.list (isList_of e₆) (hJ.mono k₆)) .nil)) (sl (by simp)) fun v g₇ s₇ k₇ r₇ S₇ => ?_)
        exact hR _ _ _ S₇.grow (by rw [T.pd, pdL_map]; exact r₇)
end
end Mine
namespace Mine
section
variable {w : World} {mg mb : Str → Option Value} {M : Model} {A : Around} {E : Value → Shared → Prop} {X : List Addr} {g₀ g : Heap} {s₀ s : Shared} {L : Addr} {m : Str → Option Value} {ow : List (Addr × Obj)} {env : Env}
theorem St.keptNew {h' : Heap} {tk : Nat} {D : Addr} {o : Obj} (S : St X g₀ s₀ L g s m ow) (hk : ∀ b o, s.heap.get? b = some o → h'.get? b = some o) (hD : h'.get? D = some o) (hn : s.heap.get? D = none) :
    St X g₀ s₀ L g { s with heap := h', toks := tk } m ((D, o) :: ow) := by
  have S' := S.kept (tk := tk) hk
  refine ⟨S'.grow, S'.ns, S'.offL, S'.newL, fun p hp => ?_, ?_, S'.xin, S'.lo⟩
  · rcases List.mem_cons.mp hp with rfl | hp
    · refine ⟨hD, fun e => ?_, none_of fun o e => ?_, .inr (S.back hn)⟩
      · obtain ⟨oL, _, _, hL, _⟩ := S.ns; rw [← e] at hL; dsimp only at hL; rw [hn] at hL; cases hL
      · have := S.in_ _ _ e; dsimp only at this; rw [hn] at this; cases this
    · exact S'.own p hp
  · refine List.nodup_cons.mpr ⟨fun hm => ?_, S.nd⟩
    obtain ⟨p, hp, e⟩ := List.mem_map.mp hm
    have := (S.own p hp).1
    rw [e] at this; dsimp only at this; rw [hn] at this; cases this
theorem St.callY {Y Y' : List (Addr × Obj)} {g' : Heap} {s' : Shared} (S : St X g₀ s₀ L g s m (Y ++ ow)) (G : Grow (Y.map (fun p => p.1)) g s g' s')
    (he : Y'.map (fun p => p.1) = Y.map (fun p => p.1)) (hv : ∀ p ∈ Y', s'.heap.get? p.1 = some p.2) : St X g₀ s₀ L g' s' m (Y' ++ ow) := by
  have nd := List.nodup_append.mp (by simpa only [List.map_append] using S.nd)
  have offL : L ∉ Y.map (fun p => p.1) := fun hm => by
    obtain ⟨p, hp, e⟩ := List.mem_map.mp hm
    exact (S.own p (List.mem_append.mpr (.inl hp))).2.1 e
  have hv' : ∀ b ∈ Y.map (fun p => p.1), (s'.heap.get? b).isSome = true := fun b hb => by
    rw [← he] at hb
    obtain ⟨p, hp, rfl⟩ := List.mem_map.mp hb
    rw [hv p hp]; rfl
  refine ⟨S.grow.trans G (fun b hb => ?_) S.xin, S.ns.at' fun o e => G.keep _ o offL e, none_of fun o e => ?_, S.newL, fun p hp => ?_, ?_, fun b hb => ?_, S.lo⟩
  · obtain ⟨p, hp, rfl⟩ := List.mem_map.mp hb
    exact (S.own p (List.mem_append.mpr (.inl hp))).2.2.2
  · rcases G.fresh _ _ e with h | h
    · rw [S.offL] at h; cases h
    · obtain ⟨oL, _, _, hL, _⟩ := S.ns; rw [h] at hL; cases hL
  · rcases List.mem_append.mp hp with hp | hp
    · have hb : p.1 ∈ Y.map (fun p => p.1) := he ▸ List.mem_map.mpr ⟨p, hp, rfl⟩
      obtain ⟨q, hq, e⟩ := List.mem_map.mp hb
      have z := S.own q (List.mem_append.mpr (.inl hq))
      rw [e] at z
      refine ⟨hv p hp, z.2.1, none_of fun o e' => ?_, z.2.2.2⟩
      rcases G.fresh _ _ e' with h | h
      · rw [z.2.2.1] at h; cases h
      · rw [z.1] at h; cases h
    · have z := S.own p (List.mem_append.mpr (.inr hp))
      refine ⟨G.keep _ _ (fun hm => ?_) z.1, z.2.1, none_of fun o e => ?_, z.2.2.2⟩
      · obtain ⟨q, hq, e⟩ := List.mem_map.mp hm
        exact nd.2.2 _ (List.mem_map.mpr ⟨q, hq, rfl⟩) _ (List.mem_map.mpr ⟨p, hp, rfl⟩) e
      · rcases G.fresh _ _ e with h | h
        · rw [z.2.2.1] at h; cases h
        · rw [z.1] at h; cases h
  · rw [List.map_append, he, ← List.map_append]; exact S.nd
  · by_cases hy : b ∈ Y.map (fun p => p.1)
    · exact hv' b hy
    · obtain ⟨o', h⟩ := Option.isSome_iff_exists.mp (S.xin b hb)
      rw [G.keep _ _ hy h]; rfl
theorem St.updK {pre : List (Addr × Obj)} {a : Addr} {o o' : Obj} {h' : Heap} {tk : Nat} {m' : Str → Option Value} (S : St X g₀ s₀ L g s m (pre ++ (a, o) :: ow)) (hn : h'.Ns L m') (hk : ∀ b ob, b ≠ a → b ≠ L → s.heap.get? b = some ob → h'.get? b = some ob) (ho : h'.get? a = some o') :
    St X g₀ s₀ L g { s with heap := h', toks := tk } m' (pre ++ (a, o') :: ow) := by
  have z := S.own (a, o) (List.mem_append.mpr (.inr (.head _)))
  dsimp only at z
  have ng : ∀ {b ob}, g.get? b = some ob → b ≠ a ∧ b ≠ L := fun e => ⟨(by rintro rfl; rw [z.2.2.1] at e; cases e), (by rintro rfl; rw [S.offL] at e; cases e)⟩
  have nd := S.nd
  rw [List.map_append, List.map_cons] at nd
  have nd1 := List.nodup_append.mp nd
  refine ⟨⟨S.grow.sub, fun b ob e => hk b ob (ng e).1 (ng e).2 (S.in_ b ob e), fun b ob hb e => hk b ob (fun q => ?_) (fun q => ?_) (S.grow.keep b ob hb e), S.grow.fresh, S.grow.gens, S.grow.bare, S.grow.os⟩, hn, S.offL, S.newL, fun p hp => ?_, ?_, fun b hb => ?_, S.lo⟩
  · subst q; rcases z.2.2.2 with h | h
    · exact hb h
    · rw [h] at e; cases e
  · subst q; rw [S.newL] at e; cases e
  · rcases List.mem_append.mp hp with hp | hp
    · have y := S.own p (List.mem_append.mpr (.inl hp))
      exact ⟨hk _ _ (fun e => nd1.2.2 _ (List.mem_map.mpr ⟨p, hp, rfl⟩) _ (.head _) e) y.2.1 y.1, y.2⟩
    · rcases List.mem_cons.mp hp with rfl | hp
      · exact ⟨ho, z.2⟩
      · have y := S.own p (List.mem_append.mpr (.inr (.tail _ hp)))
        exact ⟨hk _ _ (fun e => (List.nodup_cons.mp nd1.2.1).1 (List.mem_map.mpr ⟨p, hp, e⟩)) y.2.1 y.1, y.2⟩
  · rw [List.map_append, List.map_cons]; exact nd
  · by_cases ha : b = a
    · subst ha; dsimp only; rw [ho]; rfl
    · by_cases hL : b = L
      · subst hL; obtain ⟨oL, _, _, hoL, _⟩ := hn; dsimp only; rw [hoL]; rfl
      · obtain ⟨o', h⟩ := Option.isSome_iff_exists.mp (S.xin b hb)
        dsimp only; rw [hk _ _ ha hL h]; rfl

theorem high_nodup (h : Heap) (L : Addr) : ((high h L).map (fun p => p.1)).Nodup := by
  unfold high
  rw [List.nodup_iff_pairwise_ne, List.pairwise_map]
  refine List.Pairwise.filterMap _ (S := fun (a b : Addr × Obj) => a.1 ≠ b.1) ?_ (List.nodup_iff_pairwise_ne.mp List.nodup_range)
  intro a a' ha b hb b' hb'
  split at hb
  · split at hb'
    · obtain ⟨o, _, e⟩ := Option.map_eq_some_iff.mp hb
      obtain ⟨o', _, e'⟩ := Option.map_eq_some_iff.mp hb'
      rw [← e, ← e']; exact ha
    · cases hb'
  · cases hb
theorem updOf {a : Addr} {o o' : Obj} : ∀ {l : List (Addr × Obj)}, (l.map (fun p => p.1)).Nodup → (a, o) ∈ l → ∃ l', Upd a o o' l l' ∧ (a, o') ∈ l' ∧ ∀ p ∈ l, p.1 ≠ a → p ∈ l'
  | p :: r, hn, hm => by
    rw [List.map_cons, List.nodup_cons] at hn
    rcases List.mem_cons.mp hm with rfl | hm
    · refine ⟨(a, o') :: r, .head fun q hq e => hn.1 (List.mem_map.mpr ⟨q, hq, e⟩), .head _, fun q hq hne => ?_⟩
      rcases List.mem_cons.mp hq with rfl | hq
      · exact absurd rfl hne
      · exact .tail _ hq
    · obtain ⟨l', h1, h2, h3⟩ := updOf hn.2 hm
      refine ⟨p :: l', .tail (fun e => hn.1 (List.mem_map.mpr ⟨_, hm, e.symm⟩)) h1, .tail _ h2, fun q hq hne => ?_⟩
      rcases List.mem_cons.mp hq with rfl | hq
      · exact .head _
      · exact .tail _ (h3 q hq hne)
theorem setOwn {C x dx : Addr} {es : List DictEntry} {n : Nat} {name : Str} {v : Value} {pre : List (Addr × Obj)} {Q : Unit → Shared → Prop} (G : Amb w mg mb g) (S : St X g₀ s₀ L g s m (pre ++ (dx, dictOf es n) :: ow)) (hdx : 353 ≤ dx) (hx : s.heap.get? x = some (instObj C dx))
    (hs : findIn (Mine.hd.heap_1 w.params) (.ref C) "__setattr__" = some (some (.builtin "object.__setattr__"))) (hp : plainOver (Mine.hd.heap_1 w.params) C = true) (ht : takerIn (Mine.hd.heap_1 w.params) C name = some none) (hh : hasDictIn (Mine.hd.heap_1 w.params) C = true) (hl : (getL name es).isSome = true)
    (hz : ∀ tk, (putL name (PyData.keyHash w.params name) (.str name tk) v es).length ≤ 1000)
    (h : ∀ s' tk, St X g₀ s₀ L g s' m (pre ++ (dx, dictOf (putL name (PyData.keyHash w.params name) (.str name tk) v es) (putN name es n)) :: ow) → Q () s') : wpAny (model prg w) A (setAttr (.ref x) name v) Q E s := by
  have z := S.own _ (List.mem_append.mpr (.inr (.head _)))
  obtain ⟨l', U, ha, hk⟩ := updOf (o' := dictOf (putL name (PyData.keyHash w.params name) (.str name (s.toks + 1)) v es) (putN name es n)) (high_nodup s.heap L) (high_mem.mpr ⟨z.1, hdx, z.2.1⟩)
  refine set_dict S.fr (G.keeps S.in_).low S.nw ⟨hx, rfl, rfl, z.1⟩ rfl hs hp ht hh hl rfl U (hz _) fun h' F N => h _ _ (S.updK (tk := s.toks + 2) F.ns (fun b ob hb hbL e => ?_) (N _ ha).1)
  rcases Nat.lt_or_ge b 353 with h | h
  · exact F.keep b ob (low_get.mpr ⟨e, h⟩)
  · exact (N (b, ob) (hk _ (high_mem.mpr ⟨e, h, hbL⟩) hb)).1
theorem enterX {n : Nat} {f : Addr} {args : Args} {R : Result → Shared → Prop} {name qual : Str} {params : Arguments} {body : List Stmt} {scope : Scope} {dV kV doc pm cdv ct oc : Value} {an od : Option Addr} {osl : Array (Option Value)} {binds : List (Str × Value)}
    (G : Amb w mg mb g) (hs : Sub g s.heap) (hr : Room A n) (how : ∀ p ∈ ow, s.heap.get? p.1 = some p.2 ∧ g.get? p.1 = none) (hnd : (ow.map (fun p => p.1)).Nodup)
    (ho : (Mine.hd.heap_1 w.params).lookup f = some ⟨oc, od, .func (fnOf name qual params body scope dV kV doc pm an cdv ct), osl⟩) (hcd : codeIn (Mine.hd.heap_1 w.params) cdv qual = true)
    (hbind : BindsTo s (fnOf name qual params body scope dV kV doc pm an cdv ct) args binds) (hloc : ∀ y ∈ binds, scope.names.lookup y.1 = some .local)
    (h : ∀ L s', St (ow.map (fun p => p.1)) g s L g s' (fun y => binds.reverse.lookup y) ow → wpAny (model prg w) (A.deeper (envOf qual scope L f cdv)) (execs body (envOf qual scope L f cdv))
      (fun fl s' => R (.ok (.ret (match fl with | .ret v => v | _ => .none))) s') (fun e s' => wpAny (model prg w) (A.deeper (envOf qual scope L f cdv)) (leaving (envOf qual scope L f cdv) e) (fun _ s'' => R (.error e) s'') (fun e' s'' => R (.error e') s'') s') s')
    (hco : scope.isCoroutine = false) (hgen : scope.isGenerator = false) (hk : scope.kind = .function) (hcell : ∀ x ∈ scope.names, x.2 ≠ .cell) : codeAny (model prg w) A (.call (.ref f) args) R s := by
  have G' := G.keeps hs
  refine codeAny_call_def (fd := fnOf name qual params body scope dV kV doc pm an cdv ct) (body := body) (binds := binds) hr.depth (G'.K _ _ ho) rfl G'.T.nolimit (codeRec_of G'.K hcd) rfl hbind hcell hloc (fun h₁ hns hk₁ => ?_) hco hgen hk
  refine wpAny_mono (h s.heap.objs.size _ ⟨⟨.refl _, fun b o e => hk₁ b o (hs b o e), fun b o _ e => hk₁ b o e, fun b o e => .inl e, fun _ _ e => e, id, rfl⟩, hns, none_of fun o e => absurd (Heap.lt_size (hs _ _ e)) (Nat.lt_irrefl _), get_push_size_none _, fun p hp => ?_, hnd, fun b hb => ?_, Amb.lo G'⟩) (fun _ _ z => z) fun _ _ z => z
  · exact ⟨hk₁ _ _ (how p hp).1, Nat.ne_of_lt (Heap.lt_size (how p hp).1), (how p hp).2, .inl (List.mem_map.mpr ⟨p, hp, rfl⟩)⟩
  · obtain ⟨p, hp, rfl⟩ := List.mem_map.mp hb
    dsimp only
    rw [hk₁ _ _ (how p hp).1]; rfl
end
end Mine
namespace Mine
section
variable {w : World} {mg mb : Str → Option Value} {M : Model} {A : Around} {E : Value → Shared → Prop} {X : List Addr} {g₀ g : Heap} {s₀ s : Shared} {L : Addr} {m : Str → Option Value} {ow : List (Addr × Obj)} {env : Env}
theorem xSet {o value : Expr} {attr : Str} {p' pos : PySem.Pos} {rest : List Stmt} {Q : Flow → Shared → Prop}
    (h : wpAny M A (eval value env) (fun v s₁ => wpAny M A (eval o env) (fun ov s₂ => wpAny M A (setAttr ov attr v) (fun _ s₃ => wpAny M A (execs rest env) Q E s₃) E s₂) E s₁) E s)
    (hs : swapsWith value (some (.Attribute o attr p')) pos.line env = pure false := by rfl) : wpAny M A (execs (.Assign [.Attribute o attr p'] value pos :: rest) env) Q E s :=
  wpAny_execs_cons (plainObj_wpAny_Assign_Attribute h hs)
theorem tc_units (A : Around) (C : Addr) (vals : List Value) (kw : List (Str × Value)) : (A.under (.builtin "type.__call__" ⟨.ref C :: vals, kw⟩)).units ≤ A.units + 12 := by
  show A.units + Code.cUnits (.builtin "type.__call__" ⟨.ref C :: vals, kw⟩) ≤ _
  have : Code.cUnits (.builtin "type.__call__" ⟨.ref C :: vals, kw⟩) ≤ 12 := Nat.le_of_ble_eq_true (by kernel_rfl)
  omega
theorem Room.made {A : Around} {n : Nat} {C : Addr} {vals : List Value} {kw : List (Str × Value)} (h : Room A (n + 1)) : Room (A.under (.builtin "type.__call__" ⟨.ref C :: vals, kw⟩)) n :=
  ⟨h.1, by rw [depth_under_kw]; have := h.2.1; omega, by have := tc_units A C vals kw; have := h.2.2; omega⟩
theorem init_spec {A : Around} {g : Heap} {s : Shared} {x dx lst : Addr} {lab : Str} {tk : Tok} {vs : List Value} {R : Result → Shared → Prop} (hr : Room A 1) (G : Amb w mg mb g) (hs : Sub g s.heap)
    (hx : g.get? x = some (instObj 269 dx)) (hd : s.heap.get? dx = some emptyDict) (hdg : g.get? dx = none) (hdl : 353 ≤ dx) (hl : g.IsList lst vs.toArray) (hz : vs.length ≤ 400)
    (hR : ∀ l h1 h2 t1 t2 n k s' g', Grow [dx] g s g' s' → s'.heap.get? dx = some (dictOf (treeD h1 h2 t1 t2 l (.str lab tk)) n) → g'.get? l = some (listOf vs.toArray k) → s.heap.get? l = none → R (.ok (.ret .none)) s') :
    codeAny (model prg w) A (.call (.ref 160) ⟨[.ref x, .str lab tk, .ref lst], []⟩) R s := by
  refine enterX (ow := [(dx, emptyDict)]) G hs hr (fun p hp => by rw [List.mem_singleton.mp hp]; exact ⟨hd, hdg⟩) (by simp) (by k_is) (by k_is) (binds_K (G.keeps hs).K rfl (by k_is) rfl rfl rfl) (locs rfl) ?_ rfl rfl rfl (by decide)
  intro L s₁ S
  try k_fold
  refine xIf (wpAny_isTrue_Compare1 (nmL S (v := .ref lst) rfl (wpAny_Constant_none (is_none (wpAny_truthy_bool ?_)))))
  refine itF (xIf (tIsiB G S gStr bStr (nmL S (v := .ref lst) rfl ⟨_, S, ?_⟩)))
  obtain ⟨ol, hol, hcl, nl, hdl'⟩ := id hl
  refine isi kitx_list G S ⟨ol, S.in_ _ _ hol, hcl⟩ (by kernel_rfl) fun s₂ S₂ => ⟨_, rfl, itF ?_⟩
  refine xSet (tyG G S₂ gList bList (arg1 (nmL S₂ (v := .ref lst) rfl (arg0 ?_))))
  refine call_list_seq lst (.inl rfl) (S₂.in_ _ _ hol) hcl hdl' (fun h' c' hk hD => ?_) (by rw [List.size_toArray]; exact sl (by omega))
  have S₃ := S₂.keptNew (tk := s₂.toks) hk hD (get_push_size_none _)
  have hl0 : s.heap.get? s₂.heap.objs.size = none := S₂.back (get_push_size_none _)
  generalize s₂.heap.objs.size = l at *
  have hlx : l ∉ ([(dx, emptyDict)] : List (Addr × Obj)).map (fun p => p.1) := fun hm => by
    have : l = dx := by simpa using hm
    rw [this, hd] at hl0; cases hl0
  obtain ⟨g', k', e', _, S₄⟩ := S₃.freeze hlx
  have G' := G.keeps k'
  refine nmL S₄ (v := .ref x) rfl ?_
  refine setOwn (pre := []) (es := []) (ow := []) G' S₄ hdl (S₄.in_ _ _ (k' _ _ hx)) (by k_is) (by k_is) (by k_is) (by k_is) rfl (fun _ => Nat.le_of_ble_eq_true rfl) fun s₅ tk₅ S₅ => ?_
  refine xSet (nmL S₅ (v := .str lab tk) rfl (nmL S₅ (v := .ref x) rfl ?_))
  refine setOwn (pre := []) (ow := []) G' S₅ hdl (S₅.in_ _ _ (k' _ _ hx)) (by k_is) (by k_is) (by k_is) (by k_is) rfl (fun _ => Nat.le_of_ble_eq_true rfl) fun s₆ tk₆ S₆ => ?_
  refine xNil (thenNext (xNil (thenNext (xNil ?_))))
  have e2 := S₆.get (.head _)
  exact hR l _ _ _ _ _ _ _ _ S₆.grow e2 e' hl0

theorem mkTree {lab : Sym} {tk : Tok} {lst : Addr} {vs : List Value} {cs : List T} {as : List Addr} {n : Nat} {Q : Value → Shared → Prop} (hr : Room A (n + 3)) (G : Amb w mg mb g) (S : St X g₀ s₀ L g s m ow)
    (hl : g.IsList lst vs.toArray) (hI : IsTs g vs cs as) (hz : cs.length ≤ 400) (h : ∀ u l g' s', Sub g g' → IsT g' u (.node lab cs) (l :: as) → s.heap.get? l = none → St X g₀ s₀ L g' s' m ow → Q u s') :
    wpAny (model prg w) A (call (.ref 269) [.str lab.s tk, .ref lst]) Q E s := by
  have K := (G.keeps S.in_).K
  refine wpAny_call (make_core (makes_of K (by k_is)) (looks_findIn K (by k_is : findIn (Mine.hd.heap_1 w.params) (.ref 269) "__init__" = some (some (.ref 160)))) (fun self => bind_fn K self (by k_is)) (.inl rfl) ?_)
  have S₁ := S.push emptyDict
  have S₂ := S₁.push (instObj 269 s.heap.objs.size)
  have hsz : ({ s with heap := s.heap.push emptyDict } : Shared).heap.objs.size = s.heap.objs.size + 1 := Heap.size_push ..
  rw [hsz] at S₂
  have fx : ∀ b, s.heap.get? b = none → b ∉ X := fun b hb hm => by have := S.xin _ hm; rw [hb] at this; cases this
  have n0 := get_push_size_none s.heap
  have n1 : s.heap.get? (s.heap.objs.size + 1) = none := none_of fun o e => absurd (Heap.lt_size e) (by simp)
  have hdl := (G.keeps S.in_).lo
  generalize s.heap.objs.size = dx at *
  obtain ⟨g₁, k₁, e₁, f₁, S₃⟩ := S₂.freeze (fx _ n1)
  have G₁ := G.keeps k₁
  have z := S₃.own _ (.head _)
  refine init_spec (g := g₁) (hr.made.le (by omega)) G₁ S₃.in_ e₁ z.1 z.2.2.1 hdl (hl.at fun o e => k₁ _ _ e) (by rw [hI.length]; exact hz) fun l h1 h2 t1 t2 n k s' g' gr hd' hl' hn => ?_
  have S₄ := S₃.callY (Y := [(dx, emptyDict)]) (Y' := [(dx, dictOf (treeD h1 h2 t1 t2 l (.str lab.s tk)) n)]) gr rfl fun p hp => by rw [List.mem_singleton.mp hp]; exact hd'
  obtain ⟨g₅, k₅, e₅, f₅, S₅⟩ := S₄.freeze (fx _ n0)
  have kk := k₁.trans (gr.sub.trans k₅)
  refine ⟨rfl, h _ l g₅ _ kk (.node ((gr.sub.trans k₅) _ _ e₁) e₅ (k₅ _ _ hl') (hI.mono kk)) ?_ S₅⟩
  exact get_push_none (get_push_none hn)
end
end Mine
namespace Mine
section
variable {w : World} {mg mb : Str → Option Value} {M : Model} {A : Around} {E : Value → Shared → Prop} {X : List Addr} {g₀ g : Heap} {s₀ s : Shared} {L : Addr} {m : Str → Option Value} {ow : List (Addr × Obj)} {env : Env}
theorem IsT.dom2 {g : Heap} : (∀ {v t as}, IsT g v t as → ∀ a ∈ as, ∃ o, g.get? a = some o) ∧ ∀ {vs ts as}, IsTs g vs ts as → ∀ a ∈ as, ∃ o, g.get? a = some o :=
  IsT.both (P := fun _ _ as => ∀ a ∈ as, ∃ o, g.get? a = some o) (Q := fun _ _ as => ∀ a ∈ as, ∃ o, g.get? a = some o) (fun _ _ a h => nomatch h) (fun h1 h2 h3 _ ih a h => by
    rcases List.mem_cons.mp h with rfl | h
    · exact ⟨_, h3⟩
    · exact ih a h) (fun a h => nomatch h) fun _ _ h1 h2 a h => (List.mem_append.mp h).elim (h1 a) (h2 a)
theorem IsT.dom {g : Heap} {v : Value} {t : T} {as : List Addr} (x : IsT g v t as) : ∀ a ∈ as, ∃ o, g.get? a = some o := IsT.dom2.1 x
theorem IsTs.dom {g : Heap} {vs : List Value} {ts : List T} {as : List Addr} (x : IsTs g vs ts as) : ∀ a ∈ as, ∃ o, g.get? a = some o := IsT.dom2.2 x
theorem IsTs.snoc {g : Heap} {vs : List Value} {ts : List T} {as bs : List Addr} {v : Value} {t : T} (x : IsTs g vs ts as) (h : IsT g v t bs) : IsTs g (vs ++ [v]) (ts ++ [t]) (as ++ bs) :=
  x.ind (Q := fun vs ts as => IsTs g (vs ++ [v]) (ts ++ [t]) (as ++ bs)) (by have := IsTs.cons h .nil; rw [List.append_nil] at this; exact this) fun a _ ih => by rw [List.append_assoc]; exact .cons a ih
theorem gBuilt : nsIn (Mine.hd.heap_1 w.params) mainGlobals "_law_built" = some (some (.ref 311)) := by k_is
theorem kBuilt : keepIn (Mine.hd.heap_1 w.params) (.ref 311) = true := by k_is
theorem kTree : keepIn (Mine.hd.heap_1 w.params) (.ref 269) = true := by k_is
theorem built_spec : ∀ (n : Nat) (t : T), t.Small n → ∀ (A : Around) (g : Heap) (s : Shared) (v : Value) (R : Result → Shared → Prop),
    Room A (3 * n + 3) → Amb w mg mb g → Sub g s.heap → Rd g v t.pd → (∀ u as s' g', Grow [] g s g' s' → IsT g' u t as → as.Nodup → (∀ a ∈ as, s.heap.get? a = none) → R (.ok (.ret u)) s') → codeAny (model prg w) A (.call (.ref 311) ⟨[v], []⟩) R s := by
  intro n
  induction n with
  | zero => intro t h; exact h.zero.elim
  | succ n ih =>
    intro t hn A g s v R hr G hs hT hR
    refine enterF G hs hr (by k_is) (by k_is) (BindsTo.of_eq rfl) (locs rfl) ?_ rfl rfl rfl (by decide)
    intro L s₁ S
    try k_fold
    refine xIf (tStr G S rfl hT ?_ ?_)
    · rintro y u s₃ rfl rfl S₃
      refine itT ?_
      refine xRet (nmL S₃ (v := .str y.s u) rfl ?_)
      exact thenRet (hR _ _ _ _ S₃.grow (.leaf y u) List.nodup_nil (fun _ h => nomatch h))
    rintro lab cs s₂ rfl hT2 S₂
    refine itF (xNil (thenNext ?_))
    refine xRet ?_
    refine fnG G S₂ gTree kTree ?_
    refine arg1 (Subscript_ (nmL S₂ (v := v) rfl ?_))
    refine wpAny_Constant_int ?_
    refine itRdL (S₂.toks _) hT2 (by decide) (d := .str lab.s) rfl (by decide) (fun x rx => ?_)
    obtain ⟨tk, rfl⟩ := rx.asStr
    refine arg1 ?_
    refine lcEval (cl := []) rfl rfl (by decide) ?_
    refine Subscript_ (nmL (S₂.toks _) (v := v) rfl ?_)
    refine wpAny_Constant_int ?_
    refine itRdL ((S₂.toks _).toks _) hT2 (by decide) (d := .list (T.pdL cs)) rfl (by decide) (fun x rx => ?_)
    obtain ⟨l, vs, rfl, hl, rvs⟩ := rx.asList
    have hz : cs.length ≤ 400 := hn.len
    have hzl : vs.length = cs.length := by rw [rvs.length, pdL_map, List.length_map]
    refine compL hr.1 ((S₂.toks _).toks _) hl (sl' hzl (by omega)) (by decide) rfl rfl
      (fun i g' ys => ∃ as, IsTs g' ys (cs.take i) as ∧ as.Nodup ∧ ∀ a ∈ as, s.heap.get? a = none) ⟨[], .nil, List.nodup_nil, fun _ h => nomatch h⟩ ?_ ?_
    · rintro i v' I oi se C g' s' mC ys ow2 Se hv hg ⟨as, hJ, hnd, hfr⟩ S'
      have G' := G.keeps hg
      obtain ⟨d, hd, rv⟩ := rvs.get' hv
      obtain ⟨t, ht, rfl⟩ := pdL_get' hd
      refine fnG G' S' gBuilt kBuilt ?_
      refine arg1 (nmL S' (v := v') rfl ?_)
      refine arg0 ⟨(G'.keeps S'.in_).K, ?_⟩
      refine wpAny_call (ih t (hn.kid ht) _ _ _ _ _ (hr.deeper.le (by omega)) G' S'.in_ (rv.mono hg) fun u bs s₄ g₄ gr hI hn2 hf2 => ?_)
      refine ⟨g₄, _, gr.sub, S'.call gr, as ++ bs, ?_, ?_, ?_⟩
      · rw [take_snoc ht]
        exact (hJ.mono gr.sub).snoc hI
      · refine List.nodup_append.mpr ⟨hnd, hn2, fun a ha b hb e => ?_⟩
        obtain ⟨o, ho⟩ := hJ.dom a ha
        have := S'.in_ _ _ ho
        rw [e, hf2 b hb] at this; cases this
      · intro a ha
        rcases List.mem_append.mp ha with ha | ha
        · exact hfr a ha
        · exact Se.back (S'.back (hf2 a ha))
    · rintro D g' s' ys k hg ⟨as, hJ, hnd, hfr⟩ S'
      obtain ⟨g₅, k₅, e₅, _, S₅⟩ := S'.freeze fun h => nomatch h
      rw [hzl, List.take_length] at hJ
      have G₅ := G.keeps (hg.trans k₅)
      refine arg0 ⟨(G₅.keeps S₅.in_).K, ?_⟩
      refine mkTree (n := 0) (hr.deeper.le (by omega)) G₅ S₅ (isList_of e₅) (hJ.mono k₅) hz fun u l' g₆ s₆ k₆ hI hl' S₆ => ?_
      refine hR u _ _ _ S₆.grow hI (List.nodup_cons.mpr ⟨fun hm => ?_, hnd⟩) fun a ha => ?_
      · obtain ⟨o, ho⟩ := hJ.dom _ hm
        have := S'.in_ _ _ ho
        rw [hl'] at this; cases this
      · rcases List.mem_cons.mp ha with rfl | ha
        · exact S'.back hl'
        · exact hfr a ha
end
end Mine
namespace Mine
noncomputable def symD (x : Sym) : PyData := .str x.s
mutual
noncomputable def T.lv : T → List Sym
  | .leaf x => [x]
  | .node _ cs => T.lvL cs
noncomputable def T.lvL : List T → List Sym
  | [] => []
  | t :: ts => t.lv ++ T.lvL ts
end
theorem lvL_snoc (ts : List T) (t : T) : T.lvL (ts ++ [t]) = T.lvL ts ++ t.lv := by
  induction ts with
  | nil => simp [T.lvL]
  | cons x r ih => rw [List.cons_append, T.lvL, T.lvL, ih, List.append_assoc]
mutual
theorem lv_len : ∀ t : T, t.lv.length ≤ t.sz
  | .leaf _ => by simp [T.lv, T.sz]
  | .node _ cs => by rw [T.lv, T.sz]; have := lvL_len cs; omega
theorem lvL_len : ∀ ts : List T, (T.lvL ts).length ≤ T.szL ts
  | [] => by simp [T.lvL]
  | t :: ts => by rw [T.lvL, T.szL, List.length_append]; have := lv_len t; have := lvL_len ts; omega
end
section
variable {w : World} {mg mb : Str → Option Value} {M : Model} {A : Around} {E : Value → Shared → Prop} {X : List Addr} {g₀ g : Heap} {s₀ s : Shared} {L : Addr} {m : Str → Option Value} {ow : List (Addr × Obj)} {env : Env}
theorem leaves_spec : ∀ (n : Nat) (lab : Sym) (cs : List T), (T.node lab cs).Small n → ∀ (A : Around) (g : Heap) (s : Shared) (v : Value) (as : List Addr) (R : Result → Shared → Prop),
    Room A (3 * n) → Amb w mg mb g → Sub g s.heap → IsT g v (.node lab cs) as → (∀ u s' g', Grow [] g s g' s' → RdL g' u ((T.lvL cs).map symD) → R (.ok (.ret u)) s') → codeAny (model prg w) A (.call (.ref 209) ⟨[v], []⟩) R s := by
  intro n
  induction n with
  | zero => intro lab cs h; exact h.zero.elim
  | succ n ih =>
    intro lab cs hn A g s v as R hr G hs hT hR
    cases hT with
    | @node x dx l h1 h2 t1 t2 tk n' k _ vs _ as' hx hd hl hcs =>
    refine enterF G hs hr (by k_is) (by k_is) (BindsTo.of_eq rfl) (locs rfl) ?_ rfl rfl rfl (by decide)
    intro L s₁ S
    try k_fold
    refine xAsn (eLst (arg0 (mkLst S (sl (by simp)) fun D s₂ S₂ hD => ?_)))
    refine stL S₂ (fun s₂ S₂ => ?_)
    refine xFor ?_
    refine Attribute_name (nmL S₂ (v := .ref x) rfl ?_)
    refine getChildren G S₂ hx hd (fun s₃ S₃ => ?_)
    refine loopList hr.1 S₃ hl (fun i g' m' ow' => m' "leaves" = some (.ref D) ∧ ∃ its n, ow' = [(D, lstO its n)] ∧ RdA g' its ((T.lvL (cs.take i)).map symD)) ⟨rfl, _, _, rfl, .nil⟩ ?_ ?_
    · rintro i v it oi g' s' m' ow' hv hg ⟨hm, its, n1, rfl, hJ⟩ hit S'
      try (show wpAny _ _ _ _ _ _; k_fold)
      refine wpAny_pure ?_
      refine wpAny_assign_Name (stL S' fun s₄ S₄ => ?_)
      obtain ⟨t, bs, ht, hvt⟩ := hcs.get i v hv
      have G' := G.keeps hg
      have hvt := hvt.mono hg
      have hsz : its.length + t.lv.length ≤ 400 := by
        have h1 := hJ.length
        rw [List.length_map] at h1
        have h2 := lvL_len (cs.take (i + 1))
        have h3 := szL_take cs (i + 1)
        have h4 := hn.sz
        rw [take_snoc ht, lvL_snoc, List.length_append] at h2
        rw [T.sz] at h4
        rw [take_snoc ht] at h3
        omega
      refine xIf (tIsiT G' S₄ (nmL S₄ (v := v) rfl ⟨_, S₄, ?_⟩))
      cases hvt with
      | leaf y u =>
        refine isiT_leaf G' S₄ (fun s₅ S₅ => ⟨_, rfl, itF ?_⟩)
        refine xExpr (meList (name := "append") (nmL S₅ hm ⟨D, its, n1, rfl, S₅.get (.tail _ (.head _)), ?_⟩) PySem.F.slot_list_append rfl)
        refine arg1 (nmL S₅ (v := .str y.s u) rfl (arg0 ?_))
        refine appendL (pre := [(it, oi)]) (ow := []) S₅ (sl (by omega)) fun s₆ S₆ => ⟨rfl, ?_⟩
        refine xNil (thenNext (xNil ⟨g', _, _, .refl _, S₆, hm, _, _, rfl, ?_⟩))
        rw [take_snoc ht, lvL_snoc, List.map_append]
        exact hJ.append (.cons (.str _ _) .nil)
      | @node x2 dx2 l2 _ _ _ _ _ _ _ lab2 _ cs2 _ a b c d =>
        refine isiT_node G' S₄ (instT S₄.in_ a b) (fun s₅ S₅ => ⟨_, rfl, itT ?_⟩)
        refine xExpr (meList (name := "extend") (nmL S₅ hm ⟨D, its, n1, rfl, S₅.get (.tail _ (.head _)), ?_⟩) PySem.F.slot_list_extend rfl)
        refine arg1 ?_
        refine meCall0 (a := 209) (K := Mine.hd.heap_1 w.params) (nmL S₅ (v := .ref x2) rfl ?_) (by k_is)
        refine methT G' S₅ (instT S₅.in_ a b) (by k_is) (by k_is) (by rfl) ⟨rfl, (G'.keeps S₅.in_).K, ?_⟩
        refine wpAny_call (ih _ _ (hn.kid ht) _ _ _ _ _ _ ((hr.le (by omega)).deeper) G' S₅.in_ (.node a b c d) fun u s₆ g₆ gr ru => ?_)
        have S₆ := S₅.call gr
        obtain ⟨b2, vs2, n2, rfl, hb2, hr2⟩ := ru
        refine arg0 (extendL (pre := [(it, oi)]) (ow := []) S₆ (S₆.in_ _ _ hb2) ?_ fun s₇ n7 S₇ => ⟨rfl, ?_⟩)
        · rw [hr2.length, List.length_map]; exact sl (by rw [T.lv] at hsz; omega)
        refine xNil (thenNext (xNil ⟨g₆, _, _, gr.sub, S₇, hm, _, _, rfl, ?_⟩))
        rw [take_snoc ht, lvL_snoc, List.map_append]
        exact (hJ.mono gr.sub).append hr2
    · rintro g' s' m' ow' hg ⟨hm, its, n1, rfl, hJ⟩ S'
      try (show wpAny _ _ _ _ _ _; k_fold)
      rw [hcs.length, List.take_length] at hJ
      refine thenNext (xRet (nmL S' hm ?_))
      obtain ⟨g₅, k₅, e₅, _, S₅⟩ := S'.freeze fun h => nomatch h
      exact hR _ _ _ S₅.grow ⟨D, its, n1, rfl, e₅, hJ.mono k₅⟩

theorem leaf_kids {g : Heap} : ∀ {xs : List Sym} {vs : List Value}, RdA g vs (xs.map symD) → IsTs g vs (xs.map .leaf) []
  | [], vs, h => by
    have := h.length
    rw [List.map_nil, List.length_nil] at this
    rw [List.length_eq_zero_iff.mp this]; exact .nil
  | x :: xs, vs, h => by
    obtain ⟨as, q⟩ := h
    cases q with
    | cons a b =>
      obtain ⟨u, rfl⟩ := Rd.asStr (x := x.s) ⟨_, a⟩
      exact .cons (.leaf x u) (leaf_kids ⟨_, b⟩)
noncomputable def T.flat (lab : Sym) (cs : List T) : T := .node lab ((T.lvL cs).map .leaf)
theorem szL_leaf (xs : List Sym) : T.szL (xs.map .leaf) = xs.length := by
  induction xs with
  | nil => rfl
  | cons x r ih => rw [List.map_cons, T.szL, ih, T.sz, List.length_cons]; omega
theorem htL_leaf (xs : List Sym) : T.htL (xs.map .leaf) ≤ 1 := by
  induction xs with
  | nil => simp [T.htL]
  | cons x r ih => rw [List.map_cons, T.htL, T.ht]; omega
theorem flat_small {n : Nat} {lab : Sym} {cs : List T} (h : (T.node lab cs).Small n) : (T.flat lab cs).Small 2 := by
  refine ⟨?_, ?_⟩
  · rw [T.flat, T.ht]; have := htL_leaf (T.lvL cs); omega
  · rw [T.flat, T.sz, szL_leaf]; have := lvL_len cs; have := h.sz; rw [T.sz] at this; omega
theorem flatten_spec {n : Nat} {lab : Sym} {cs : List T} {A : Around} {g : Heap} {s : Shared} {v : Value} {as : List Addr} {R : Result → Shared → Prop} (hn : (T.node lab cs).Small n) (hr : Room A (3 * n + 5)) (G : Amb w mg mb g) (hs : Sub g s.heap) (hT : IsT g v (.node lab cs) as)
    (hR : ∀ u bs s' g', Grow [] g s g' s' → IsT g' u (T.flat lab cs) bs → R (.ok (.ret u)) s') : codeAny (model prg w) A (.call (.ref 216) ⟨[v], []⟩) R s := by
  obtain ⟨x, dx, l, h1, h2, t1, t2, tk, n', rfl, hx, hd⟩ := isT_node_of hT
  refine enterF G hs hr (by k_is) (by k_is) (BindsTo.of_eq rfl) (locs rfl) ?_ rfl rfl rfl (by decide)
  intro L s₁ S
  try k_fold
  refine xRet (fnG G S gTree kTree ?_)
  refine arg1 (meCall0 (a := 195) (K := Mine.hd.heap_1 w.params) (nmL S (v := .ref x) rfl ?_) (by k_is))
  refine methT G S (instT S.in_ hx hd) (by k_is) (by k_is) (by rfl) ⟨rfl, (G.keeps S.in_).K, ?_⟩
  refine wpAny_call (label_spec (hr.deeper.le (by omega)) G S.in_ hT fun tk₃ s₃ g₃ gr => ?_)
  have S₃ := S.call gr
  have G₃ := G.keeps gr.sub
  refine arg1 (meCall0 (a := 209) (K := Mine.hd.heap_1 w.params) (nmL S₃ (v := .ref x) rfl ?_) (by k_is))
  refine methT G₃ S₃ (instT S₃.in_ (gr.sub _ _ hx) (gr.sub _ _ hd)) (by k_is) (by k_is) (by rfl) ⟨rfl, (G₃.keeps S₃.in_).K, ?_⟩
  refine wpAny_call (leaves_spec n lab cs hn _ _ _ _ _ _ ((hr.le (by omega)).deeper) G₃ S₃.in_ (hT.mono gr.sub) fun u s₄ g₄ gr₄ ru => ?_)
  have S₄ := S₃.call gr₄
  obtain ⟨b2, vs2, n2, rfl, hb2, hr2⟩ := ru
  have G₄ := G₃.keeps gr₄.sub
  refine arg0 ⟨(G₄.keeps S₄.in_).K, ?_⟩
  have hz : ((T.lvL cs).map T.leaf).length ≤ 400 := by
    have h1 := lvL_len cs
    have h2 := hn.sz
    rw [T.sz] at h2
    rw [List.length_map]; omega
  exact mkTree (n := 0) (hr.deeper.le (by omega)) G₄ S₄ (isList_of hb2) (leaf_kids hr2) hz fun u l' g₅ s₅ k₅ hI _ S₅ => hR _ _ _ _ S₅.grow hI
end
end Mine
namespace Mine
noncomputable def wtD (x : Sym × Sym) : PyData := .tuple [.str x.1.s, .str x.2.s]
mutual
noncomputable def T.po (lab : Sym) : T → List (Sym × Sym)
  | .leaf x => [(x, lab)]
  | .node l cs => T.poL l cs
noncomputable def T.poL (lab : Sym) : List T → List (Sym × Sym)
  | [] => []
  | t :: ts => t.po lab ++ T.poL lab ts
end
theorem poL_snoc {lab : Sym} (ts : List T) (t : T) : T.poL lab (ts ++ [t]) = T.poL lab ts ++ t.po lab := by
  induction ts with
  | nil => simp [T.poL]
  | cons x r ih => rw [List.cons_append, T.poL, T.poL, ih, List.append_assoc]
mutual
theorem po_len (lab : Sym) : ∀ t : T, (t.po lab).length ≤ t.sz
  | .leaf _ => by simp [T.po, T.sz]
  | .node l cs => by rw [T.po, T.sz]; have := poL_len l cs; omega
theorem poL_len (lab : Sym) : ∀ ts : List T, (T.poL lab ts).length ≤ T.szL ts
  | [] => by simp [T.poL]
  | t :: ts => by rw [T.poL, T.szL, List.length_append]; have := po_len lab t; have := poL_len lab ts; omega
end
section
variable {w : World} {mg mb : Str → Option Value} {M : Model} {A : Around} {E : Value → Shared → Prop} {X : List Addr} {g₀ g : Heap} {s₀ s : Shared} {L : Addr} {m : Str → Option Value} {ow : List (Addr × Obj)} {env : Env}
theorem pos_spec : ∀ (n : Nat) (lab : Sym) (cs : List T), (T.node lab cs).Small n → ∀ (A : Around) (g : Heap) (s : Shared) (v : Value) (as : List Addr) (R : Result → Shared → Prop),
    Room A (3 * n) → Amb w mg mb g → Sub g s.heap → IsT g v (.node lab cs) as → (∀ u s' g', Grow [] g s g' s' → RdL g' u ((T.poL lab cs).map wtD) → R (.ok (.ret u)) s') → codeAny (model prg w) A (.call (.ref 252) ⟨[v], []⟩) R s := by
  intro n
  induction n with
  | zero => intro lab cs h; exact h.zero.elim
  | succ n ih =>
    intro lab cs hn A g s v as R hr G hs hT hR
    cases hT with
    | @node x dx l h1 h2 t1 t2 tk n' k _ vs _ as' hx hd hl hcs =>
    refine enterF G hs hr (by k_is) (by k_is) (BindsTo.of_eq rfl) (locs rfl) ?_ rfl rfl rfl (by decide)
    intro L s₁ S
    try k_fold
    refine xAsn (eLst (arg0 (mkLst S (sl (by simp)) fun D s₂ S₂ hD => ?_)))
    refine stL S₂ (fun s₂ S₂ => ?_)
    refine xFor ?_
    refine Attribute_name (nmL S₂ (v := .ref x) rfl ?_)
    refine getChildren G S₂ hx hd (fun s₃ S₃ => ?_)
    refine loopList hr.1 S₃ hl (fun i g' m' ow' => m' "self" = some (.ref x) ∧ m' "pos" = some (.ref D) ∧ ∃ its n, ow' = [(D, lstO its n)] ∧ RdA g' its ((T.poL lab (cs.take i)).map wtD)) ⟨rfl, rfl, _, _, rfl, .nil⟩ ?_ ?_
    · rintro i v it oi g' s' m' ow' hv hg ⟨hm0, hm, its, n1, rfl, hJ⟩ hit S'
      try (show wpAny _ _ _ _ _ _; k_fold)
      refine wpAny_pure ?_
      refine wpAny_assign_Name (stL S' fun s₄ S₄ => ?_)
      obtain ⟨t, bs, ht, hvt⟩ := hcs.get i v hv
      have G' := G.keeps hg
      have hvt := hvt.mono hg
      have hsz : its.length + (t.po lab).length ≤ 400 := by
        have h1 := hJ.length
        rw [List.length_map] at h1
        have h2 := poL_len lab (cs.take (i + 1))
        have h3 := szL_take cs (i + 1)
        have h4 := hn.sz
        rw [take_snoc ht, poL_snoc, List.length_append] at h2
        rw [T.sz] at h4
        rw [take_snoc ht] at h3
        omega
      refine xIf (tIsiT G' S₄ (nmL S₄ (v := v) rfl ⟨_, S₄, ?_⟩))
      cases hvt with
      | leaf y u =>
        refine isiT_leaf G' S₄ (fun s₅ S₅ => ⟨_, rfl, itF ?_⟩)
        refine xExpr (meList (name := "append") (nmL S₅ hm ⟨D, its, n1, rfl, S₅.get (.tail _ (.head _)), ?_⟩) PySem.F.slot_list_append rfl)
        refine arg1 (eTup (arg1 (nmL S₅ (v := .str y.s u) rfl ?_)))
        refine arg1 (Attribute_name (nmL S₅ (v := .ref x) hm0 ?_))
        refine getLabel G' S₅ (hg _ _ hx) (hg _ _ hd) fun s₅ S₅ => arg0 ?_
        refine mkTup S₅ (.cons (.str y.s u) (.cons (.str lab.s tk) .nil)) (sl (by simp)) fun z g₈ s₈ k₈ r₈ S₈ => arg0 ?_
        refine appendL (pre := [(it, oi)]) (ow := []) S₈ (sl (by omega)) fun s₆ S₆ => ⟨rfl, ?_⟩
        refine xNil (thenNext (xNil ⟨g₈, _, _, k₈, S₆, hm0, hm, _, _, rfl, ?_⟩))
        rw [take_snoc ht, poL_snoc, List.map_append]
        exact (hJ.mono k₈).append (.cons r₈ .nil)
      | @node x2 dx2 l2 _ _ _ _ _ _ _ lab2 _ cs2 _ a b c d =>
        refine isiT_node G' S₄ (instT S₄.in_ a b) (fun s₅ S₅ => ⟨_, rfl, itT ?_⟩)
        refine xExpr (meList (name := "extend") (nmL S₅ hm ⟨D, its, n1, rfl, S₅.get (.tail _ (.head _)), ?_⟩) PySem.F.slot_list_extend rfl)
        refine arg1 ?_
        refine meCall0 (a := 252) (K := Mine.hd.heap_1 w.params) (nmL S₅ (v := .ref x2) rfl ?_) (by k_is)
        refine methT G' S₅ (instT S₅.in_ a b) (by k_is) (by k_is) (by rfl) ⟨rfl, (G'.keeps S₅.in_).K, ?_⟩
        refine wpAny_call (ih _ _ (hn.kid ht) _ _ _ _ _ _ ((hr.le (by omega)).deeper) G' S₅.in_ (.node a b c d) fun u s₆ g₆ gr ru => ?_)
        have S₆ := S₅.call gr
        obtain ⟨b2, vs2, n2, rfl, hb2, hr2⟩ := ru
        refine arg0 (extendL (pre := [(it, oi)]) (ow := []) S₆ (S₆.in_ _ _ hb2) ?_ fun s₇ n7 S₇ => ⟨rfl, ?_⟩)
        · rw [hr2.length, List.length_map]; exact sl (by rw [T.po] at hsz; omega)
        refine xNil (thenNext (xNil ⟨g₆, _, _, gr.sub, S₇, hm0, hm, _, _, rfl, ?_⟩))
        rw [take_snoc ht, poL_snoc, List.map_append]
        exact (hJ.mono gr.sub).append hr2
    · rintro g' s' m' ow' hg ⟨hm0, hm, its, n1, rfl, hJ⟩ S'
      try (show wpAny _ _ _ _ _ _; k_fold)
      rw [hcs.length, List.take_length] at hJ
      refine thenNext (xRet (nmL S' hm ?_))
      obtain ⟨g₅, k₅, e₅, _, S₅⟩ := S'.freeze fun h => nomatch h
      exact hR _ _ _ S₅.grow ⟨D, its, n1, rfl, e₅, hJ.mono k₅⟩

end
end Mine
namespace Mine
noncomputable def IsN (g : Heap) (v : Value) (x : Str) : Prop := ∃ a d h t tk n, v = .ref a ∧ g.get? a = some (instObj 66 d) ∧ g.get? d = some (dictOf [⟨h, .str "_symbol" t, .str x tk⟩] n)
noncomputable def IsI (g : Heap) (v : Value) (b : Bool × Sym) : Prop := if b.1 = true then ∃ tk, v = .str b.2.s tk else IsN g v b.2.s
inductive All2 {α : Type} (P : Value → α → Prop) : List Value → List α → Prop
  | nil : All2 P [] []
  | cons {v : Value} {x : α} {vs : List Value} {xs : List α} : P v x → All2 P vs xs → All2 P (v :: vs) (x :: xs)
theorem All2.imp {α : Type} {P Q : Value → α → Prop} (h : ∀ v x, P v x → Q v x) : ∀ {vs : List Value} {xs : List α}, All2 P vs xs → All2 Q vs xs := by
  intro vs xs q
  induction q with
  | nil => exact .nil
  | cons a _ ih => exact .cons (h _ _ a) ih
theorem All2.append {α : Type} {P : Value → α → Prop} {vs' : List Value} {xs' : List α} (q : All2 P vs' xs') : ∀ {vs : List Value} {xs : List α}, All2 P vs xs → All2 P (vs ++ vs') (xs ++ xs')
  | _, _, .nil => q
  | _, _, .cons a b => .cons a (All2.append q b)
theorem All2.length {α : Type} {P : Value → α → Prop} : ∀ {vs : List Value} {xs : List α}, All2 P vs xs → vs.length = xs.length
  | _, _, .nil => rfl
  | _, _, .cons _ b => by simp [b.length]
theorem All2.get {α : Type} {P : Value → α → Prop} : ∀ {vs : List Value} {xs : List α}, All2 P vs xs → ∀ (i : Nat) (v : Value), vs[i]? = some v → ∃ x, xs[i]? = some x ∧ P v x := by
  intro vs xs h
  induction h with
  | nil => intro i v e; cases e
  | cons a _ ih =>
    intro i v e
    cases i with
    | zero => cases e; exact ⟨_, rfl, a⟩
    | succ i => exact ih i v e
noncomputable abbrev Rule := Sym × List (Bool × Sym)
noncomputable def IsP (g : Heap) (v : Value) (r : Rule) : Prop := ∃ a d h1 h2 t1 t2 n v1 t vs, v = .ref a ∧ g.get? a = some (instObj 141 d) ∧ g.get? d = some (dictOf [⟨h1, .str "_lhs" t1, v1⟩, ⟨h2, .str "_rhs" t2, .ref t⟩] n) ∧ handedIn v1 = true ∧
  IsN g v1 r.1.s ∧ IsTup g t vs.toArray ∧ All2 (IsI g) vs r.2
theorem IsN.mono {g h : Heap} {v : Value} {x : Str} (k : Sub g h) (q : IsN g v x) : IsN h v x := by
  obtain ⟨a, d, h1, t, tk, n, e, h2, h3⟩ := q; exact ⟨a, d, h1, t, tk, n, e, k _ _ h2, k _ _ h3⟩
theorem IsI.mono {g h : Heap} {v : Value} {b : Bool × Sym} (k : Sub g h) (q : IsI g v b) : IsI h v b := by
  unfold IsI at q ⊢
  split
  · rename_i hb; rw [if_pos hb] at q; exact q
  · rename_i hb; rw [if_neg hb] at q; exact q.mono k
theorem IsP.mono {g h : Heap} {v : Value} {r : Rule} (k : Sub g h) (q : IsP g v r) : IsP h v r := by
  obtain ⟨a, d, h1, h2, t1, t2, n, v1, t, vs, e, e1, e2, e3, e4, e5, e6⟩ := q; exact ⟨a, d, h1, h2, t1, t2, n, v1, t, vs, e, k _ _ e1, k _ _ e2, e3, e4.mono k, IsTup.mono k e5, e6.imp fun _ _ z => IsI.mono k z⟩
noncomputable def T.kid : T → Bool × Sym
  | .leaf x => (true, x)
  | .node l _ => (false, l)
mutual
noncomputable def T.pr : T → List Rule
  | .leaf _ => []
  | .node l cs => (l, cs.map T.kid) :: T.prL cs
noncomputable def T.prL : List T → List Rule
  | [] => []
  | t :: ts => t.pr ++ T.prL ts
end
theorem prL_snoc (ts : List T) (t : T) : T.prL (ts ++ [t]) = T.prL ts ++ t.pr := by
  induction ts with
  | nil => simp [T.prL]
  | cons x r ih => rw [List.cons_append, T.prL, T.prL, ih, List.append_assoc]
mutual
theorem pr_len : ∀ t : T, t.pr.length ≤ t.sz
  | .leaf _ => by simp [T.pr, T.sz]
  | .node l cs => by rw [T.pr, T.sz, List.length_cons]; have := prL_len cs; omega
theorem prL_len : ∀ ts : List T, (T.prL ts).length ≤ T.szL ts
  | [] => by simp [T.prL]
  | t :: ts => by rw [T.prL, T.szL, List.length_append]; have := pr_len t; have := prL_len ts; omega
end
section
variable {w : World} {mg mb : Str → Option Value} {M : Model} {A : Around} {E : Value → Shared → Prop} {X : List Addr} {g₀ g : Heap} {s₀ s : Shared} {L : Addr} {m : Str → Option Value} {ow : List (Addr × Obj)} {env : Env}
theorem St.fx (S : St X g₀ s₀ L g s m ow) {b : Addr} (hb : s.heap.get? b = none) : b ∉ X := fun hm => by have := S.xin _ hm; rw [hb] at this; cases this
theorem mkInst {C fI : Addr} {args : List Value} {n : Nat} {Q : Value → Shared → Prop} (hr : Room A (n + 2)) (G : Amb w mg mb g) (S : St X g₀ s₀ L g s m ow) (hm : makesIn (Mine.hd.heap_1 w.params) C = true)
    (hi : findIn (Mine.hd.heap_1 w.params) (.ref C) "__init__" = some (some (.ref fI))) (hf : typeIn (Mine.hd.heap_1 w.params) (.ref fI) = some (.type "function"))
    (h : ∀ A' x dx g₁ s₁, Room A' (n + 1) → Sub g g₁ → g₁.get? x = some (instObj C dx) → s₁.heap.get? dx = some emptyDict → g₁.get? dx = none → 353 ≤ dx → Sub g₁ s₁.heap →
      codeAny (model prg w) A' (.call (.ref fI) ⟨.ref x :: args, []⟩) (fun r s' => r = .ok (.ret .none) ∧ ∃ g' od, Grow [dx] g₁ s₁ g' s' ∧ s'.heap.get? dx = some od ∧
        (∀ g'' s'', Sub g' g'' → g''.get? dx = some od → St X g₀ s₀ L g'' s'' m ow → Q (.ref x) s'')) s₁) : wpAny (model prg w) A (call (.ref C) args) Q E s := by
  have K := (G.keeps S.in_).K
  refine wpAny_call (make_core (makes_of K hm) (looks_findIn K hi) (fun self => bind_fn K self hf) (.inl rfl) ?_)
  have S₁ := S.push emptyDict
  have S₂ := S₁.push (instObj C s.heap.objs.size)
  have hsz : ({ s with heap := s.heap.push emptyDict } : Shared).heap.objs.size = s.heap.objs.size + 1 := Heap.size_push ..
  rw [hsz] at S₂
  have n0 := get_push_size_none s.heap
  have n1 : s.heap.get? (s.heap.objs.size + 1) = none := none_of fun o e => absurd (Heap.lt_size e) (by simp)
  have hdl := (G.keeps S.in_).lo
  generalize s.heap.objs.size = dx at *
  obtain ⟨g₁, k₁, e₁, f₁, S₃⟩ := S₂.freeze (S.fx n1)
  have z := S₃.own _ (.head _)
  refine codeAny_mono (h _ _ dx g₁ _ ((Room.made hr).le (by omega)) k₁ e₁ z.1 z.2.2.1 hdl S₃.in_) fun r s' hr' => ?_
  obtain ⟨rfl, g', od, gr, hd', hQ⟩ := hr'
  have S₄ := S₃.callY (Y := [(dx, emptyDict)]) (Y' := [(dx, od)]) gr rfl fun p hp => by rw [List.mem_singleton.mp hp]; exact hd'
  obtain ⟨g₅, k₅, e₅, f₅, S₅⟩ := S₄.freeze (S.fx n0)
  exact ⟨rfl, hQ g₅ _ k₅ e₅ S₅⟩
theorem ninit_spec {A : Around} {g : Heap} {s : Shared} {x dx : Addr} {v : Value} {R : Result → Shared → Prop} (hr : Room A 1) (G : Amb w mg mb g) (hs : Sub g s.heap)
    (hx : g.get? x = some (instObj 66 dx)) (hd : s.heap.get? dx = some emptyDict) (hdg : g.get? dx = none) (hdl : 353 ≤ dx)
    (hR : ∀ h1 t1 n s', Grow [dx] g s g s' → s'.heap.get? dx = some (dictOf [⟨h1, .str "_symbol" t1, v⟩] n) → R (.ok (.ret .none)) s') :
    codeAny (model prg w) A (.call (.ref 35) ⟨[.ref x, v], []⟩) R s := by
  refine enterX (ow := [(dx, emptyDict)]) G hs hr (fun p hp => by rw [List.mem_singleton.mp hp]; exact ⟨hd, hdg⟩) (by simp) (by k_is) (by k_is) (BindsTo.of_eq rfl) (locs rfl) ?_ rfl rfl rfl (by decide)
  intro L s₁ S
  try k_fold
  refine xSet (nmL S (v := v) rfl (nmL S (v := .ref x) rfl ?_))
  refine setOwn (pre := []) (es := []) (ow := []) G S hdl (S.in_ _ _ hx) (by k_is) (by k_is) (by k_is) (by k_is) rfl (fun _ => Nat.le_of_ble_eq_true rfl) fun s₅ tk₅ S₅ => ?_
  refine xNil ?_
  have e2 := S₅.get (.head _)
  exact hR _ _ _ _ S₅.grow e2
theorem mkN {x : Sym} {tk : Tok} {n : Nat} {Q : Value → Shared → Prop} (hr : Room A (n + 2)) (G : Amb w mg mb g) (S : St X g₀ s₀ L g s m ow) (h : ∀ v g' s', Sub g g' → IsN g' v x.s → handedIn v = true → St X g₀ s₀ L g' s' m ow → Q v s') :
    wpAny (model prg w) A (call (.ref 66) [.str x.s tk]) Q E s := by
  refine mkInst (fI := 35) hr G S (by k_is) (by k_is) (by k_is) fun A' a d g₁ s₁ hr' k₁ h1 h2 h3 h4 h5 => ?_
  refine ninit_spec (hr'.le (by omega)) (G.keeps k₁) h5 h1 h2 h3 h4 fun h1' t1 n' s' gr e => ⟨rfl, g₁, _, gr, e, fun g'' s'' k q S' => h _ g'' s'' (k₁.trans k) ⟨a, d, _, _, _, _, rfl, k _ _ h1, q⟩ rfl S'⟩
theorem pinit_spec {A : Around} {g : Heap} {s : Shared} {x dx lst : Addr} {v : Value} {vs : List Value} {R : Result → Shared → Prop} (hr : Room A 1) (G : Amb w mg mb g) (hs : Sub g s.heap)
    (hx : g.get? x = some (instObj 141 dx)) (hd : s.heap.get? dx = some emptyDict) (hdg : g.get? dx = none) (hdl : 353 ≤ dx) (hl : g.IsList lst vs.toArray) (hz : vs.length ≤ 400)
    (hR : ∀ t h1 h2 t1 t2 n s' g', Grow [dx] g s g' s' → s'.heap.get? dx = some (dictOf [⟨h1, .str "_lhs" t1, v⟩, ⟨h2, .str "_rhs" t2, .ref t⟩] n) → IsTup g' t vs.toArray → R (.ok (.ret .none)) s') :
    codeAny (model prg w) A (.call (.ref 91) ⟨[.ref x, v, .ref lst], []⟩) R s := by
  refine enterX (ow := [(dx, emptyDict)]) G hs hr (fun p hp => by rw [List.mem_singleton.mp hp]; exact ⟨hd, hdg⟩) (by simp) (by k_is) (by k_is) (BindsTo.of_eq rfl) (locs rfl) ?_ rfl rfl rfl (by decide)
  intro L s₁ S
  try k_fold
  refine xIf (tIsiB G S gStr bStr (nmL S (v := .ref lst) rfl ⟨_, S, ?_⟩))
  obtain ⟨ol, hol, hcl, nl, hdl'⟩ := id hl
  refine isi kitx_list G S ⟨ol, S.in_ _ _ hol, hcl⟩ (by kernel_rfl) fun s₂ S₂ => ⟨_, rfl, itF (xNil (thenNext ?_))⟩
  refine xSet (nmL S₂ (v := v) rfl (nmL S₂ (v := .ref x) rfl ?_))
  refine setOwn (pre := []) (es := []) (ow := []) G S₂ hdl (S₂.in_ _ _ hx) (by k_is) (by k_is) (by k_is) (by k_is) rfl (fun _ => Nat.le_of_ble_eq_true rfl) fun s₅ tk₅ S₅ => ?_
  refine xSet (tyG G S₅ gTuple bTuple (arg1 (nmL S₅ (v := .ref lst) rfl (arg0 ?_))))
  refine call_tuple_list (hl.at fun o e => S₅.in_ _ _ e) (fun h' hk => ?_) (by rw [List.size_toArray]; exact sl (by omega))
  have S₆ := (S₅.kept (tk := s₅.toks) hk).push (tupO vs)
  obtain ⟨g', k', e', _, S₇⟩ := S₆.freeze (St.fx (S₅.kept (tk := s₅.toks) hk) (get_push_size_none _))
  refine nmL S₇ (v := .ref x) rfl ?_
  refine setOwn (pre := []) (ow := []) (G.keeps k') S₇ hdl (S₇.in_ _ _ (k' _ _ hx)) (by k_is) (by k_is) (by k_is) (by k_is) rfl (fun _ => Nat.le_of_ble_eq_true rfl) fun s₈ tk₈ S₈ => ?_
  refine xNil ?_
  have e2 := S₈.get (.head _)
  exact hR _ _ _ _ _ _ _ _ S₈.grow e2 (isTup_of e')
theorem mkP {r : Rule} {v1 : Value} {lst : Addr} {vs : List Value} {n : Nat} {Q : Value → Shared → Prop} (hr : Room A (n + 2)) (G : Amb w mg mb g) (S : St X g₀ s₀ L g s m ow) (hN : IsN g v1 r.1.s) (hh : handedIn v1 = true) (hl : g.IsList lst vs.toArray) (hI : All2 (IsI g) vs r.2) (hz : r.2.length ≤ 400)
    (h : ∀ v g' s', Sub g g' → IsP g' v r → St X g₀ s₀ L g' s' m ow → Q v s') : wpAny (model prg w) A (call (.ref 141) [v1, .ref lst]) Q E s := by
  refine mkInst (fI := 91) hr G S (by k_is) (by k_is) (by k_is) fun A' a d g₁ s₁ hr' k₁ h1 h2 h3 h4 h5 => ?_
  refine pinit_spec (hr'.le (by omega)) (G.keeps k₁) h5 h1 h2 h3 h4 (hl.at fun o e => k₁ _ _ e) (by rw [hI.length]; exact hz) fun t h1' h2' t1 t2 n' s' g' gr e ht => ⟨rfl, g', _, gr, e, fun g'' s'' k q S' => ?_⟩
  have kk := k₁.trans (gr.sub.trans k)
  exact h _ g'' s'' kk ⟨a, d, _, _, _, _, _, _, _, _, rfl, (gr.sub.trans k) _ _ h1, q, hh, hN.mono kk, IsTup.mono k ht, hI.imp fun _ _ z => IsI.mono kk z⟩ S'
end
end Mine
namespace Mine
section
variable {w : World} {mg mb : Str → Option Value} {M : Model} {A : Around} {E : Value → Shared → Prop} {X : List Addr} {g₀ g : Heap} {s₀ s : Shared} {L : Addr} {m : Str → Option Value} {ow : List (Addr × Obj)} {env : Env}
theorem gNont : nsIn (Mine.hd.heap_1 w.params) mainGlobals "Nonterminal" = some (some (.ref 66)) := by k_is
theorem kNont : keepIn (Mine.hd.heap_1 w.params) (.ref 66) = true := by k_is
theorem gProd : nsIn (Mine.hd.heap_1 w.params) mainGlobals "Production" = some (some (.ref 141)) := by k_is
theorem kProd : keepIn (Mine.hd.heap_1 w.params) (.ref 141) = true := by k_is
theorem gKids : nsIn (Mine.hd.heap_1 w.params) mainGlobals "_child_names" = some (some (.ref 280)) := by k_is
theorem kKids : keepIn (Mine.hd.heap_1 w.params) (.ref 280) = true := by k_is
theorem kids_spec {n : Nat} {lab : Sym} {cs : List T} {A : Around} {g : Heap} {s : Shared} {v : Value} {as : List Addr} {R : Result → Shared → Prop} (hn : (T.node lab cs).Small n) (hr : Room A 3) (G : Amb w mg mb g) (hs : Sub g s.heap) (hT : IsT g v (.node lab cs) as)
    (hR : ∀ a vs k s' g', Grow [] g s g' s' → g'.get? a = some (lstO vs k) → All2 (IsI g') vs (cs.map T.kid) → R (.ok (.ret (.ref a))) s') : codeAny (model prg w) A (.call (.ref 280) ⟨[v], []⟩) R s := by
  cases hT with
  | @node x dx l h1 h2 t1 t2 tk n' k _ vs _ as' hx hd hl hcs =>
  refine enterF G hs hr (by k_is) (by k_is) (BindsTo.of_eq rfl) (locs rfl) ?_ rfl rfl rfl (by decide)
  intro L s₁ S
  try k_fold
  refine xAsn (eLst (arg0 (mkLst S (sl (by simp)) fun D s₂ S₂ hD => ?_)))
  refine stL S₂ (fun s₂ S₂ => ?_)
  refine xFor ?_
  refine Attribute_name (nmL S₂ (v := .ref x) rfl ?_)
  refine getChildren G S₂ hx hd (fun s₃ S₃ => ?_)
  refine loopList hr.1 S₃ hl (fun i g' m' ow' => m' "names" = some (.ref D) ∧ ∃ its n, ow' = [(D, lstO its n)] ∧ All2 (IsI g') its ((cs.take i).map T.kid)) ⟨rfl, _, _, rfl, .nil⟩ ?_ ?_
  · rintro i v it oi g' s' m' ow' hv hg ⟨hm, its, n1, rfl, hJ⟩ hit S'
    try (show wpAny _ _ _ _ _ _; k_fold)
    refine wpAny_pure ?_
    refine wpAny_assign_Name (stL S' fun s₄ S₄ => ?_)
    obtain ⟨t, bs, ht, hvt⟩ := hcs.get i v hv
    have G' := G.keeps hg
    have hvt := hvt.mono hg
    have hsz : its.length ≤ 400 := by
      have h1 := hJ.length
      rw [List.length_map, List.length_take] at h1
      have := hn.len
      omega
    refine xIf (tIsiT G' S₄ (nmL S₄ (v := v) rfl ⟨_, S₄, ?_⟩))
    cases hvt with
    | leaf y u =>
      refine isiT_leaf G' S₄ (fun s₅ S₅ => ⟨_, rfl, itF ?_⟩)
      refine xExpr (meList (name := "append") (nmL S₅ hm ⟨D, its, n1, rfl, S₅.get (.tail _ (.head _)), ?_⟩) PySem.F.slot_list_append rfl)
      refine arg1 (nmL S₅ (v := .str y.s u) rfl (arg0 ?_))
      refine appendL (pre := [(it, oi)]) (ow := []) S₅ (sl (by omega)) fun s₆ S₆ => ⟨rfl, ?_⟩
      refine xNil (thenNext (xNil ⟨g', _, _, .refl _, S₆, hm, _, _, rfl, ?_⟩))
      rw [take_snoc ht, List.map_append]
      exact All2.append (.cons (show IsI g' _ (true, y) from ⟨_, rfl⟩) .nil) hJ
    | @node x2 dx2 l2 _ _ _ _ _ _ _ lab2 _ cs2 _ a b c d =>
      refine isiT_node G' S₄ (instT S₄.in_ a b) (fun s₅ S₅ => ⟨_, rfl, itT ?_⟩)
      refine xExpr (meList (name := "append") (nmL S₅ hm ⟨D, its, n1, rfl, S₅.get (.tail _ (.head _)), ?_⟩) PySem.F.slot_list_append rfl)
      refine arg1 (fnG G' S₅ gNont kNont ?_)
      refine arg1 (Attribute_name (nmL S₅ (v := .ref x2) rfl ?_))
      refine getLabel G' S₅ a b fun s₆ S₆ => arg0 ⟨(G'.keeps S₆.in_).K, ?_⟩
      refine mkN (n := 0) (hr.deeper.le (by omega)) G' S₆ fun v g₇ s₇ k₇ hN hh S₇ => arg0 ?_
      refine appendL (pre := [(it, oi)]) (ow := []) S₇ (sl (by omega)) fun s₆ S₆ => ⟨rfl, ?_⟩
      refine xNil (thenNext (xNil ⟨g₇, _, _, k₇, S₆, hm, _, _, rfl, ?_⟩))
      rw [take_snoc ht, List.map_append]
      exact All2.append (.cons (show IsI g₇ _ (false, lab2) from hN) .nil) (hJ.imp fun _ _ z => IsI.mono k₇ z)
  · rintro g' s' m' ow' hg ⟨hm, its, n1, rfl, hJ⟩ S'
    try (show wpAny _ _ _ _ _ _; k_fold)
    rw [hcs.length, List.take_length] at hJ
    refine thenNext (xRet (nmL S' hm ?_))
    obtain ⟨g₅, k₅, e₅, _, S₅⟩ := S'.freeze fun h => nomatch h
    exact hR _ _ _ _ _ S₅.grow e₅ (hJ.imp fun _ _ z => IsI.mono k₅ z)
theorem lf : typeLookup (.type "list") (dunderI "add") = pure (some (.builtin "list.__iadd__")) := PySem.F.slot_list_iadd.lookup
theorem inplace_seq {a b : Value} {Q : Value → Shared → Prop} (ha : s.TypeIs a "list") (hb : s.TypeIs b "list") (hfill : fillsNumberSlot (.type "list") "add" = pure false)
    (hc : wpAny M A (call (.builtin "list.__iadd__") [a, b]) Q E s) : wpAny M A (inplaceOp .Add a b) Q E s := by
  have hs : isSeqSlot (some (.builtin "list.__iadd__")) = true := by kernel_rfl
  unfold inplaceOp
  refine wpAny_holding ?_
  have hfi : fillsInplaceSlot (.type "list") "add" (Operator.Add == .Add) = pure false := by
    unfold fillsInplaceSlot
    show (typeLookup (.type "list") (dunderI "add") >>= fun fi => pure (fi.isSome && !isSeqSlot fi)) = pure false
    rw [lf, pure_bind, hs]; rfl
  have hsi : seqSlot? (.type "list") (dunderI "add") = pure (some (.builtin "list.__iadd__")) := PyProof.Rows.seqSlot_of lf hs
  refine wpAny_bind (wpAny_typeOf ha (wpAny_bind (wpAny_of_eq hfi ?_)))
  show wpAny M A (if false = true then _ else _) Q E s
  rw [if_neg Bool.false_ne_true]
  refine wpAny_bind (wpAny_binaryOp1_none (nm := "add") ha hb hfill ?_)
  refine wpAny_bind (wpAny_of_eq hsi ?_)
  exact wpAny_bind (wpAny_rule hc)
theorem iaddL {D b : Addr} {its its2 : List Value} {n n2 : Nat} {pre : List (Addr × Obj)} {Q : Value → Shared → Prop} (S : St X g₀ s₀ L g s m (pre ++ (D, lstO its n) :: ow)) (hb : s.heap.get? b = some (lstO its2 n2)) (hz : its.length + its2.length ≤ sizeLine)
    (hfill : fillsNumberSlot (.type "list") "add" = pure false)
    (h : ∀ s' n', St X g₀ s₀ L g s' m (pre ++ (D, lstO (its ++ its2) n') :: ow) → Q (.ref D) s') : wpAny (model prg w) A (inplaceOp .Add (.ref D) (.ref b)) Q E s := by
  have hm := S.get (List.mem_append.mpr (.inr (.head _)))
  have hz' : its.toArray.size + its2.toArray.size ≤ sizeLine := by simpa using hz
  refine inplace_seq ⟨_, hm, rfl⟩ ⟨_, hb, rfl⟩ hfill ?_
  refine call_meets PySem.F.slot_list_iadd ⟨_, hm, rfl⟩ PySem.F.entry_list_iadd (PySem.F.args_list_iadd_2 _ _) (AutoSeq1.list___iadd___list_list_0 D its.toArray n b its2.toArray n2 (extend_door hz') (Nat.le_trans (Nat.le_add_right _ _) hz') (Nat.le_succ_of_le hz')) ⟨hm, hb, ?_⟩
  obtain ⟨n', e⟩ := mapSeq_app' its its2 n
  exact h _ n' (S.upd (Heap.SameBut.update ..) ((Heap.get?_update_self _ hm (by rw [e]; rfl)).trans (by rw [e])))
theorem prods_spec : ∀ (n : Nat) (lab : Sym) (cs : List T), (T.node lab cs).Small n → ∀ (A : Around) (g : Heap) (s : Shared) (v : Value) (as : List Addr) (R : Result → Shared → Prop),
    Room A (3 * n + 3) → Amb w mg mb g → Sub g s.heap → IsT g v (.node lab cs) as → (∀ a vs k s' g', Grow [] g s g' s' → g'.get? a = some (lstO vs k) → All2 (IsP g') vs (T.node lab cs).pr → R (.ok (.ret (.ref a))) s') → codeAny (model prg w) A (.call (.ref 245) ⟨[v], []⟩) R s := by
  intro n
  induction n with
  | zero => intro lab cs h; exact h.zero.elim
  | succ n ih =>
    intro lab cs hn A g s v as R hr G hs hT hR
    have hT0 := hT
    cases hT with
    | @node x dx l h1 h2 t1 t2 tk n' k _ vs _ as' hx hd hl hcs =>
    refine enterF G hs hr (by k_is) (by k_is) (BindsTo.of_eq rfl) (locs rfl) ?_ rfl rfl rfl (by decide)
    intro L s₁ S
    try k_fold
    refine xIf (wpAny_isTrue_Not (tIsiB G S gStr bStr (Attribute_name (nmL S (v := .ref x) rfl ?_))))
    refine getLabel G S hx hd fun s₂ S₂ => ⟨_, S₂, ?_⟩
    refine isiS_str G S₂ fun s₂ S₂ => ⟨_, rfl, itF (xNil (thenNext ?_))⟩
    refine xAsn (eLst (arg1 (fnG G S₂ gProd kProd (arg1 (fnG G S₂ gNont kNont (arg1 (Attribute_name (nmL S₂ (v := .ref x) rfl ?_))))))))
    refine getLabel G S₂ hx hd fun s₃ S₃ => arg0 ⟨(G.keeps S₃.in_).K, ?_⟩
    refine mkN (n := 0) (hr.deeper.le (by omega)) G S₃ fun v1 g₄ s₄ k₄ hN hh S₄ => ?_
    have G₄ := G.keeps k₄
    refine arg1 (fnG G₄ S₄ gKids kKids (arg1 (nmL S₄ (v := .ref x) rfl (arg0 ⟨(G₄.keeps S₄.in_).K, ?_⟩))))
    refine wpAny_call (kids_spec hn (hr.deeper.le (by omega)) G₄ S₄.in_ (hT0.mono k₄) fun b vs2 k2 s₅ g₅ gr hb hI => ?_)
    have S₅ := S₄.call gr
    have G₅ := G₄.keeps gr.sub
    refine arg0 ⟨(G₅.keeps S₅.in_).K, ?_⟩
    refine mkP (n := 0) (r := (lab, cs.map T.kid)) (hr.deeper.le (by omega)) G₅ S₅ (hN.mono gr.sub) hh (isList_of hb) hI (by rw [List.length_map]; exact hn.len) fun vp g₆ s₆ k₆ hP S₆ => ?_
    refine arg0 (mkLst S₆ (sl (by simp)) fun D s₇ S₇ hD => ?_)
    refine stL S₇ fun s₇ S₇ => ?_
    have kk := k₄.trans (gr.sub.trans k₆)
    have G₆ := G.keeps kk
    refine xFor ?_
    refine Attribute_name (nmL S₇ (v := .ref x) rfl ?_)
    refine getChildren G₆ S₇ (kk _ _ hx) (kk _ _ hd) (fun s₃ S₃ => ?_)
    refine loopList hr.1 S₃ (kk _ _ hl) (fun i g' m' ow' => m' "prods" = some (.ref D) ∧ ∃ its n, ow' = [(D, lstO its n)] ∧ All2 (IsP g') its ((lab, cs.map T.kid) :: T.prL (cs.take i))) ⟨rfl, _, _, rfl, .cons hP .nil⟩ ?_ ?_
    · rintro i v it oi g' s' m' ow' hv hg ⟨hm, its, n1, rfl, hJ⟩ hit S'
      try (show wpAny _ _ _ _ _ _; k_fold)
      refine wpAny_pure ?_
      refine wpAny_assign_Name (stL S' fun s₄ S₄ => ?_)
      obtain ⟨t, bs, ht, hvt⟩ := hcs.get i v hv
      have G' := G₆.keeps hg
      have hvt := hvt.mono (kk.trans hg)
      have hsz : its.length + t.pr.length ≤ 800 := by
        have h1 := hJ.length
        rw [List.length_cons] at h1
        have h2 := prL_len (cs.take (i + 1))
        have h3 := szL_take cs (i + 1)
        have h4 := hn.sz
        rw [take_snoc ht, prL_snoc, List.length_append] at h2
        rw [T.sz] at h4
        rw [take_snoc ht] at h3
        omega
      refine xIf (tIsiT G' S₄ (nmL S₄ (v := v) rfl ⟨_, S₄, ?_⟩))
      cases hvt with
      | leaf y u =>
        refine isiT_leaf G' S₄ (fun s₅ S₅ => ⟨_, rfl, itF ?_⟩)
        refine xNil (thenNext (xNil ⟨g', _, _, .refl _, S₅, hm, _, _, rfl, ?_⟩))
        rw [take_snoc ht, prL_snoc, T.pr, List.append_nil]
        exact hJ
      | @node x2 dx2 l2 _ _ _ _ _ _ _ lab2 _ cs2 _ a b c d =>
        refine isiT_node G' S₄ (instT S₄.in_ a b) (fun s₅ S₅ => ⟨_, rfl, itT ?_⟩)
        refine wpAny_execs_cons (wpAny_AugAssign_Name (wpAny_loadName_local rfl rfl S₅.ns hm ?_))
        refine meCall0 (a := 245) (K := Mine.hd.heap_1 w.params) (nmL S₅ (v := .ref x2) rfl ?_) (by k_is)
        refine methT G' S₅ (instT S₅.in_ a b) (by k_is) (by k_is) (by rfl) ⟨rfl, (G'.keeps S₅.in_).K, ?_⟩
        refine wpAny_call (ih _ _ (hn.kid ht) _ _ _ _ _ _ (hr.deeper.le (by omega)) G' S₅.in_ (.node a b c d) fun b2 vs3 n3 s₆ g₆ gr hb2 hI2 => ?_)
        have S₆ := S₅.call gr
        refine iaddL (pre := [(it, oi)]) (ow := []) S₆ (S₆.in_ _ _ hb2) ?_ noFill_list_add fun s₇ n7 S₇ => ?_
        · rw [hI2.length]; exact sl (by omega)
        refine stL S₇ fun s₇ S₇ => ?_
        refine xNil (thenNext (xNil ⟨g₆, _, _, gr.sub, S₇, rfl, _, _, rfl, ?_⟩))
        rw [take_snoc ht, prL_snoc]
        exact All2.append (xs := (lab, cs.map T.kid) :: T.prL (cs.take i)) hI2 (hJ.imp fun _ _ z => IsP.mono gr.sub z)
    · rintro g' s' m' ow' hg ⟨hm, its, n1, rfl, hJ⟩ S'
      try (show wpAny _ _ _ _ _ _; k_fold)
      rw [hcs.length, List.take_length] at hJ
      refine thenNext (xRet (nmL S' hm ?_))
      obtain ⟨g₅, k₅, e₅, _, S₅⟩ := S'.freeze fun h => nomatch h
      exact hR _ _ _ _ _ S₅.grow e₅ (by rw [T.pr]; exact hJ.imp fun _ _ z => IsP.mono k₅ z)
end
end Mine
namespace Mine
section
variable {w : World} {mg mb : Str → Option Value} {M : Model} {A : Around} {E : Value → Shared → Prop} {X : List Addr} {g₀ g : Heap} {s₀ s : Shared} {L : Addr} {m : Str → Option Value} {ow : List (Addr × Obj)} {env : Env}
theorem pgN (n : Str) : plainGet (Mine.hd.heap_1 w.params) 66 n = true := (by k_is : plainGet (Mine.hd.heap_1 w.params) 66 "x" = true)
theorem pgP (n : Str) : plainGet (Mine.hd.heap_1 w.params) 141 n = true := (by k_is : plainGet (Mine.hd.heap_1 w.params) 141 "x" = true)
theorem methC {C x dx : Addr} {es : List DictEntry} {n : Nat} {name : Str} {f : Addr} {pl : Sem Bool} {Q : Value × List Value → Shared → Prop} (G : Amb w mg mb g) (S : St X g₀ s₀ L g s m ow) (I : InstAt s.heap x (instObj C dx) C (some (dictOf es n)))
    (hp : plainGet (Mine.hd.heap_1 w.params) C name = true)
    (hf : findIn (Mine.hd.heap_1 w.params) (.ref C) name = some (some (.ref f))) (ht : typeIn (Mine.hd.heap_1 w.params) (.ref f) = some (.type "function")) (hl : getL name es = some none) (h : Q (.ref f, [.ref x]) s) :
    wpAny (model prg w) A (getMethod (.ref x) name pl) Q E s :=
  method_fn (G.keeps S.in_).K I (plainGet_of hp).1 (plainGet_of hp).2 hf ht (by show (lookIn name (dictOf es n)).map _ = _; rw [lookIn_dict, hl]; rfl) h
theorem instC {C : Addr} {g h : Heap} {x dx : Addr} {es : List DictEntry} {n : Nat} (k : Sub g h) (hx : g.get? x = some (instObj C dx)) (hd : g.get? dx = some (dictOf es n)) : InstAt h x (instObj C dx) C (some (dictOf es n)) :=
  ⟨k _ _ hx, rfl, rfl, k _ _ hd⟩
theorem symbol_spec {x : Str} {A : Around} {g : Heap} {s : Shared} {v : Value} {R : Result → Shared → Prop} (hr : Room A 1) (G : Amb w mg mb g) (hs : Sub g s.heap) (hN : IsN g v x)
    (hR : ∀ tk s' g', Grow [] g s g' s' → R (.ok (.ret (.str x tk))) s') : codeAny (model prg w) A (.call (.ref 42) ⟨[v], []⟩) R s := by
  obtain ⟨a, d, h1, t, tk, n, rfl, hx, hd⟩ := hN
  refine enterF G hs hr (by k_is) (by k_is) (BindsTo.of_eq rfl) (locs rfl) ?_ rfl rfl rfl (by decide)
  intro L s₁ S
  try k_fold
  refine xRet (Attribute_name (nmL S (v := .ref a) rfl ?_))
  exact getOwn G S (instC S.in_ hx hd) (pgN _) (by k_is) (by k_is) rfl rfl fun s₂ S₂ => hR _ _ _ S₂.grow
theorem lhs_spec {r : Rule} {A : Around} {g : Heap} {s : Shared} {v : Value} {R : Result → Shared → Prop} (hr : Room A 1) (G : Amb w mg mb g) (hs : Sub g s.heap) (hP : IsP g v r)
    (hR : ∀ u s' g', Grow [] g s g' s' → IsN g' u r.1.s → R (.ok (.ret u)) s') : codeAny (model prg w) A (.call (.ref 98) ⟨[v], []⟩) R s := by
  obtain ⟨a, d, h1, h2, t1, t2, n, v1, t, vs, rfl, hx, hd, hh, hN, ht, hI⟩ := hP
  refine enterF G hs hr (by k_is) (by k_is) (BindsTo.of_eq rfl) (locs rfl) ?_ rfl rfl rfl (by decide)
  intro L s₁ S
  try k_fold
  refine xRet (Attribute_name (nmL S (v := .ref a) rfl ?_))
  exact getOwn G S (instC S.in_ hx hd) (pgP _) (by k_is) (by k_is) rfl hh fun s₂ S₂ => hR _ _ _ S₂.grow hN
theorem rhs_spec {r : Rule} {A : Around} {g : Heap} {s : Shared} {v : Value} {R : Result → Shared → Prop} (hr : Room A 1) (G : Amb w mg mb g) (hs : Sub g s.heap) (hP : IsP g v r)
    (hR : ∀ t vs s' g', Grow [] g s g' s' → IsTup g' t vs.toArray → All2 (IsI g') vs r.2 → R (.ok (.ret (.ref t))) s') : codeAny (model prg w) A (.call (.ref 105) ⟨[v], []⟩) R s := by
  obtain ⟨a, d, h1, h2, t1, t2, n, v1, t, vs, rfl, hx, hd, hh, hN, ht, hI⟩ := hP
  refine enterF G hs hr (by k_is) (by k_is) (BindsTo.of_eq rfl) (locs rfl) ?_ rfl rfl rfl (by decide)
  intro L s₁ S
  try k_fold
  refine xRet (Attribute_name (nmL S (v := .ref a) rfl ?_))
  exact getOwn G S (instC S.in_ hx hd) (pgP _) (by k_is) (by k_is) rfl rfl fun s₂ S₂ => hR _ _ _ _ S₂.grow ht hI
theorem kitN {x dx : Addr} {od : Obj} : KitX (Mine.hd.heap_1 w.params) (.ref x) (.ref 66) (fun h => InstAt h x (instObj 66 dx) 66 (some od)) :=
  kitx_own (pgN _) (by k_is) (by k_is) (by k_is) (by k_is) (by k_is)
theorem isiS_N {x dx : Addr} {od : Obj} {Q : Value → Shared → Prop} (G : Amb w mg mb g) (S : St X g₀ s₀ L g s m ow) (I : InstAt s.heap x (instObj 66 dx) 66 (some od)) (h : ∀ s', St X g₀ s₀ L g s' m ow → Q (.bool false) s') :
    wpAny (model prg w) A (call (.builtin "isinstance") [.ref x, .type "str"]) Q E s := isi kitN G S I (by kernel_rfl) h
end
end Mine
namespace Mine
structure TapeOk (g : Heap) (cv : Value) (ns : List Int) : Prop where
  rd : Rd g cv (.list (ns.map PyData.int))
  lo : 1 ≤ ns.length
  hi : ns.length ≤ 100
  pos : ∀ n ∈ ns, 0 ≤ n
theorem TapeOk.mono {g h : Heap} {cv : Value} {ns : List Int} (k : Sub g h) (x : TapeOk g cv ns) : TapeOk h cv ns := ⟨x.rd.mono k, x.lo, x.hi, x.pos⟩
noncomputable abbrev tapeO (cv : Value) (k : Int) (tk : Tok) (n : Nat) : Obj := lstO [cv, .int k tk] n
section
variable {w : World} {mg mb : Str → Option Value} {M : Model} {A : Around} {E : Value → Shared → Prop} {X : List Addr} {g₀ g : Heap} {s₀ s : Shared} {L : Addr} {m : Str → Option Value} {ow : List (Addr × Obj)} {env : Env}
theorem xSub {o i value : Expr} {p' pos : PySem.Pos} {rest : List Stmt} {Q : Flow → Shared → Prop}
    (h : wpAny M A (eval value env) (fun v s₁ => wpAny M A (eval o env) (fun ov s₂ => wpAny M A (eval i env) (fun iv s₃ => wpAny M A (setItem ov iv v) (fun _ s₄ => wpAny M A (execs rest env) Q E s₄) E s₃) E s₂) E s₁) E s)
    (hs : swapsWith value (some (.Subscript o i p')) pos.line env = pure false := by rfl) : wpAny M A (execs (.Assign [.Subscript o i p'] value pos :: rest) env) Q E s :=
  wpAny_execs_cons (wpAny_Assign_Subscript h hs)
theorem mapSeq_set (its : List Value) (j n : Nat) (v : Value) : ∃ n', Obj.mapSeq (·.setIfInBounds j v) (lstO its n) = lstO (its.set j v) n' := by
  refine ⟨if ((its.toArray.setIfInBounds j v).size == its.toArray.size) = true then n else n + 1, ?_⟩
  show (⟨_, _, .seq (its.toArray.setIfInBounds j v) (if ((its.toArray.setIfInBounds j v).size == its.toArray.size) = true then n else n + 1), _⟩ : Obj) = _
  rw [List.setIfInBounds_toArray]
theorem setL {D : Addr} {its : List Value} {n : Nat} {pre : List (Addr × Obj)} {k : Int} {tk : Tok} {v : Value} {Q : Unit → Shared → Prop} (S : St X g₀ s₀ L g s m (pre ++ (D, lstO its n) :: ow)) (h0 : 0 ≤ k) (hk : k < its.length) (hz : its.length ≤ 400)
    (h : ∀ s' n', St X g₀ s₀ L g s' m (pre ++ (D, lstO (its.set k.toNat v) n') :: ow) → Q () s') : wpAny (model prg w) A (setItem (.ref D) (.int k tk) v) Q E s := by
  have hm := S.get (List.mem_append.mpr (.inr (.head _)))
  have hT : s.TypeIs (.ref D) "list" := ⟨_, hm, rfl⟩
  have hb : k < 2 ^ 63 := by omega
  unfold setItem
  try with_reducible refine wpAny_holding ?_
  first | refine wpAny_bind (wpAny_pure ?_) | skip
  refine wpAny_bind (wpAny_sequenceKey hT (by decide) ?_)
  refine wpAny_bind (wpAny_callSpecial?_slot (name := Str.ofString "__setitem__") hT slot_list_setitem (wpAny_call_entry slot_list_setitem hT entry_list_setitem ?_ (args_list_setitem _ _ _)))
  show wpAny _ _ (Builtin.List.listSubscript? (.int k tk) >>= _) _ _ s
  refine wpAny_bind (wpAny_listSubscript_int (fitsIndex_of h0 hb) ?_)
  clear hb
  obtain ⟨j, rfl⟩ := Int.eq_ofNat_of_zero_le h0
  have hj : j < its.toArray.size := by simpa using hk
  obtain ⟨n', e⟩ := mapSeq_set its j n v
  show wpAny _ _ ((seqItemAt D j >>= fun r => pure (r.map (j, ·))) >>= _) _ _ s
  refine wpAny_bind (wpAny_bind (wpAny_seqItemAt hm rfl (wpAny_pure ?_)))
  rw [Array.getElem?_eq_getElem hj]
  show wpAny _ _ (setSeqItemAt D j v >>= _) _ _ s
  have hu : (s.heap.update D (Obj.mapSeq (·.setIfInBounds j v))).get? D = some (lstO (its.set j v) n') := (Heap.get?_update_self _ hm (by rw [e]; rfl)).trans (by rw [e])
  have fin := h { s with heap := s.heap.update D (Obj.mapSeq (·.setIfInBounds j v)) } n' (S.upd (Heap.SameBut.update ..) hu)
  refine wpAny_bind (wpAny_setSeqItemAt hm rfl ?_)
  first
    | exact wpAny_bind (wpAny_pure (wpAny_pure ⟨.none, rfl, wpAny_pure fin⟩))
    | exact wpAny_pure ⟨.none, rfl, wpAny_pure fin⟩
theorem seqIndex_nat {k : Int} {n : Nat} (h0 : 0 ≤ k) (h1 : k < n) : seqIndex? k n = some k.toNat := by
  unfold seqIndex?
  have e : (if k < 0 then k + (n : Int) else k) = k := if_neg (by omega)
  simp only [e]
  rw [if_pos (by rw [Bool.and_eq_true, decide_eq_true_eq, decide_eq_true_eq]; omega)]
theorem itStr {value slice : Expr} {x : Str} {t : Tok} {k : Int} {u : Tok} {c : Nat} {Q : Value → Shared → Prop} (S : St X g₀ s₀ L g s m ow) (h0 : 0 ≤ k) (hk : k < 1000) (hx : k < x.length) (hc : x.cps[k.toNat]? = some c)
    (h : ∀ tk s', St X g₀ s₀ L g s' m ow → Q (.str ⟨#[c]⟩ tk) s')
    (hs : subscripted slice false (.str x t) (.int k u) = operate [.str x t, .int k u] (getItem (.str x t) (.int k u)) := by with_unfolding_all rfl) : wpAny (model prg w) A (subscriptTail value slice (.str x t) (.int k u)) Q E s :=
  tail_any (typeIs_str s x t) PyProof.Rows.slot_str_getitem.lookup (PyProof.Rows.getItem_str (by simp; omega) (by rw [seqIndex_nat h0 hx]; exact hc) (h _ _ (S.toks _))) hs
theorem gTape : nsIn (Mine.hd.heap_1 w.params) mainGlobals "_law_tape" = some (some (.ref 292)) := by k_is
theorem kTape : keepIn (Mine.hd.heap_1 w.params) (.ref 292) = true := by k_is
theorem gTake : nsIn (Mine.hd.heap_1 w.params) mainGlobals "_law_take" = some (some (.ref 299)) := by k_is
theorem kTake : keepIn (Mine.hd.heap_1 w.params) (.ref 299) = true := by k_is
theorem gNode : nsIn (Mine.hd.heap_1 w.params) mainGlobals "_law_node" = some (some (.ref 306)) := by k_is
theorem kNode : keepIn (Mine.hd.heap_1 w.params) (.ref 306) = true := by k_is
theorem take_spec {A : Around} {g : Heap} {s : Shared} {tp : Addr} {cv : Value} {ns : List Int} {k : Int} {tk : Tok} {n : Nat} {most : Int} {u : Tok} {R : Result → Shared → Prop} (hr : Room A 1) (G : Amb w mg mb g) (hs : Sub g s.heap)
    (ht : s.heap.get? tp = some (tapeO cv k tk n)) (htg : g.get? tp = none) (hO : TapeOk g cv ns) (hk : 0 ≤ k) (hm : 1 ≤ most)
    (hR : ∀ r v k' tk' n' s' g', Grow [tp] g s g' s' → s'.heap.get? tp = some (tapeO cv k' tk' n') → 0 ≤ k' → 0 ≤ r → r < most → R (.ok (.ret (.int r v))) s') :
    codeAny (model prg w) A (.call (.ref 299) ⟨[.ref tp, .int most u], []⟩) R s := by
  refine enterX (ow := [(tp, tapeO cv k tk n)]) G hs hr (fun p hp => by rw [List.mem_singleton.mp hp]; exact ⟨ht, htg⟩) (by simp) (by k_is) (by k_is) (BindsTo.of_eq rfl) (locs rfl) ?_ rfl rfl rfl (by decide)
  intro L s₁ S
  try k_fold
  refine xAsn (Subscript_ (nmL S (v := .ref tp) rfl (wpAny_Constant_int ?_)))
  have S := S.toks (s₁.toks + 1)
  refine itLst (isList_of (S.get (.head _))) (by decide) (x := .int k tk) rfl (by decide) ?_
  refine stL S fun s₂ S₂ => ?_
  refine xSub (wpAny_BinOp (nmL S₂ (v := .int k tk) rfl (wpAny_Constant_int (add_int ?_))))
  have S₂ := (S₂.toks (s₂.toks + 1)).toks (s₂.toks + 1 + 1)
  refine nmL S₂ (v := .ref tp) rfl (wpAny_Constant_int ?_)
  have S₂ := S₂.toks (s₂.toks + 1 + 1 + 1)
  refine setL (pre := []) (ow := []) S₂ (by decide) (by simp) (by simp) fun s₃ n₃ S₃ => ?_
  refine xAsn (Subscript_ (nmL S₃ (v := .ref tp) rfl (wpAny_Constant_int ?_)))
  have S₃ := S₃.toks (s₃.toks + 1)
  refine itLst (isList_of (S₃.get (.head _))) (by decide) (x := cv) rfl (by decide) ?_
  refine stL S₃ fun s₄ S₄ => ?_
  have hlen : (ns.map PyData.int).length = ns.length := by rw [List.length_map]
  have hlo := hO.lo
  have hhi := hO.hi
  refine xRet (wpAny_BinOp (wpAny_BinOp (Subscript_ (nmL S₄ (v := cv) rfl ?_))))
  refine wpAny_BinOp (nmL S₄ (v := .int k tk) rfl ?_)
  refine biG G S₄ gLen bLen (arg1 (nmL S₄ (v := cv) rfl (arg0 ?_)))
  refine lenL S₄ hO.rd (sl' hlen (by omega)) fun tk₅ s₅ S₅ => ?_
  rw [hlen]
  refine PyProof.Rows.mod_int (by omega) ?_
  have S₆ := S₅.toks (s₅.toks + 1)
  have h0 : 0 ≤ k.fmod (ns.length : Nat) := Int.fmod_nonneg_of_pos _ (by omega)
  have h1 : k.fmod (ns.length : Nat) < (ns.length : Nat) := Int.fmod_lt_of_pos _ (by omega)
  obtain ⟨c, hc⟩ : ∃ c, ns[(k.fmod (ns.length : Nat)).toNat]? = some c := ⟨_, List.getElem?_eq_getElem (by omega)⟩
  refine itRdL S₆ hO.rd h0 (d := .int c) (by rw [List.getElem?_map, hc]; rfl) (by omega) fun x rx => ?_
  obtain ⟨u₆, rfl⟩ := rx.asInt
  refine wpAny_BinOp (wpAny_Constant_int (wpAny_BinOp (nmL (S₆.toks _) (v := .int k tk) rfl ?_)))
  refine biG G (S₆.toks _) gLen bLen (arg1 (nmL (S₆.toks _) (v := cv) rfl (arg0 ?_)))
  refine lenL (S₆.toks _) hO.rd (sl' hlen (by omega)) fun tk₇ s₇ S₇ => ?_
  rw [hlen]
  refine AutoIntOps.floordiv_1 (by rw [beq_iff_eq]; omega) (by rw [PyProof.noPylong_of_log2 (Nat.lt_of_le_of_lt (Nat.log2_le_self _) (by omega))]; exact Bool.false_ne_true) ?_
  have S₈ := S₇.toks (s₇.toks + 1)
  refine PyProof.Rows.mul_int ?_ (.of_left (by decide))
  have S₉ := S₈.toks (s₇.toks + 1 + 1)
  refine add_int ?_
  have S₁₀ := S₉.toks (s₇.toks + 1 + 1 + 1)
  refine nmL S₁₀ (v := .int most u) rfl ?_
  refine PyProof.Rows.mod_int (by omega) ?_
  have S₁₁ := S₁₀.toks (s₇.toks + 1 + 1 + 1 + 1)
  refine hR _ _ (k + 1) _ _ _ g S₁₁.grow (S₁₁.get (.head _)) (by omega) (Int.fmod_nonneg_of_pos _ (by omega)) (Int.fmod_lt_of_pos _ (by omega))
end
end Mine
namespace Mine
section
variable {w : World} {mg mb : Str → Option Value} {M : Model} {A : Around} {E : Value → Shared → Prop} {X : List Addr} {g₀ g : Heap} {s₀ s : Shared} {L : Addr} {m : Str → Option Value} {ow : List (Addr × Obj)} {env : Env}
theorem tape_spec {A : Around} {g : Heap} {s : Shared} {sc : Value} {ns : List Int} {R : Result → Shared → Prop} (hr : Room A 1) (G : Amb w mg mb g) (hs : Sub g s.heap) (hsc : Rd g sc (.list (ns.map PyData.int))) (hz : ns.length ≤ 400)
    (hR : ∀ tp cv ms tk s' g', Grow [] g s g' s' → s'.heap.get? tp = some (tapeO cv 0 tk 0) → g'.get? tp = none → s.heap.get? tp = none → TapeOk g' cv ms → R (.ok (.ret (.ref tp))) s') :
    codeAny (model prg w) A (.call (.ref 292) ⟨[sc], []⟩) R s := by
  refine enterF G hs hr (by k_is) (by k_is) (BindsTo.of_eq rfl) (locs rfl) ?_ rfl rfl rfl (by decide)
  intro L s₁ S
  try k_fold
  refine xRet (eLst (arg1 (wpAny_BinOp ?_)))
  refine lcEval (cl := []) rfl rfl (by decide) ?_
  refine Subscript_ (nmL S (v := sc) rfl ?_)
  refine wpAny_Slice (wpAny_evalPart_none (wpAny_evalPart_some (wpAny_Constant_int (wpAny_evalPart_none ?_))))
  obtain ⟨l, vs, rfl, hl, rvs⟩ := hsc.asList
  have S₁ := S.toks (s₁.toks + 1)
  have hlen : vs.length = ns.length := by rw [rvs.length, List.length_map]
  refine slice_list (lo := none) (hi := some (24 : Nat)) S₁.fr S₁.nw (IsList.mono S₁.in_ hl) .none (.int 24 _) (fun h' F N => ?_) (by with_unfolding_all rfl) (by intro _; with_unfolding_all rfl) (by rw [List.size_toArray]; exact sl (by omega))
  rw [slicePick_upto'] at N
  have S₂ := S₁.bk (ex := [(s₁.heap.objs.size + 1, lstO (vs.take 24))]) (tk := s₁.toks + 1) F N (fun p hp => by
    rw [List.mem_singleton.mp hp]; exact none_of fun o e => absurd (Heap.lt_size e) (by simp)) (by simp)
  obtain ⟨g₂, k₂, e₂, _, S₃⟩ := S₂.freeze (fun h => nomatch h)
  have G₂ := G.keeps k₂
  refine compL hr.1 S₃ (isList_of e₂) (by rw [List.length_take]; exact sl (by omega)) (by decide) rfl rfl
    (fun i g' ys => ∃ ms : List Int, RdA g' ys (ms.map PyData.int) ∧ ms.length = i ∧ ∀ n ∈ ms, 0 ≤ n) ⟨[], .nil, rfl, fun _ h => nomatch h⟩ ?_ ?_
  · rintro i v' I oi se C g' s' mC ys ow2 Se hv hg ⟨ms, hJ, hml, hp⟩ S'
    have G' := G₂.keeps hg
    have hd : ∃ n u, v' = .int n u := by
      have r24 := (rvs.mono k₂).split 24
      obtain ⟨d, hd, rd⟩ := r24.1.get' hv
      rw [List.getElem?_take] at hd
      split at hd
      · rw [List.getElem?_map] at hd
        obtain ⟨n, _, rfl⟩ := Option.map_eq_some_iff.mp hd
        obtain ⟨u, rfl⟩ := rd.asInt
        exact ⟨n, u, rfl⟩
      · cases hd
    obtain ⟨n, u, rfl⟩ := hd
    refine wpAny_BinOp (biG G' S' gAbs bAbs (arg1 (nmL S' (v := .int n u) rfl (arg0 ?_))))
    refine call_abs_int fun u₅ tk₅ => wpAny_Constant_int ?_
    refine PyProof.Rows.mod_int (by decide) ?_
    refine ⟨g', _, .refl _, ((S'.toks _).toks _).toks _, ms ++ [(if n < 0 then -n else n).fmod 1000003], ?_, by simp [hml], ?_⟩
    · rw [List.map_append]; exact hJ.append (.cons (.int _ _) .nil)
    · intro a ha
      rcases List.mem_append.mp ha with ha | ha
      · exact hp a ha
      · rw [List.mem_singleton.mp ha]; exact Int.fmod_nonneg_of_pos _ (by decide)
  · rintro D g' s' ys k hg ⟨ms, hJ, hml, hp⟩ S'
    obtain ⟨g₅, k₅, e₅, _, S₅⟩ := S'.freeze fun h => nomatch h
    refine eLst (arg1 (wpAny_Constant_int (arg1 (wpAny_Constant_int (arg1 (wpAny_Constant_int (arg0 ?_)))))))
    have S₆ := ((S₅.toks (s'.toks + 1)).toks (s'.toks + 1 + 1)).toks (s'.toks + 1 + 1 + 1)
    refine mkLstF S₆ (.cons (.int 7 _) (.cons (.int 2 _) (.cons (.int 5 _) .nil))) (sl (by simp)) fun z g₇ s₇ k₇ r₇ S₇ => ?_
    have hm24 : ms.length ≤ 24 := by rw [hml, List.length_take]; omega
    refine addLstF S₇ (.list (isList_of (k₇ _ _ e₅)) ((hJ.mono k₅).mono k₇)) r₇ (by rw [List.length_map]; exact sl (by simp only [List.length_cons, List.length_nil]; omega)) fun cv g₈ s₈ k₈ r₈ S₈ => ?_
    refine arg1 (wpAny_Constant_int (arg0 ?_))
    refine mkLst (S₈.toks (s₈.toks + 1)) (sl (by simp)) fun tp s₉ S₉ htp => ?_
    have z := S₉.own _ (.head _)
    exact hR tp cv (ms ++ [7, 2, 5]) _ _ g₈ S₉.grow z.1 z.2.2.1 (z.2.2.2.resolve_left fun h => nomatch h) ⟨by rw [List.map_append]; exact r₈, by simp, by simp; omega, by
      intro a ha
      rcases List.mem_append.mp ha with ha | ha
      · exact hp a ha
      · simp at ha; omega⟩
end
end Mine
namespace Mine
noncomputable def szB : Nat → Nat
  | 0 => 1
  | n + 1 => 1 + 3 * szB n
theorem szB_pos : ∀ n, 1 ≤ szB n
  | 0 => by decide
  | n + 1 => by rw [szB]; omega
section
variable {w : World} {mg mb : Str → Option Value} {M : Model} {A : Around} {E : Value → Shared → Prop} {X : List Addr} {g₀ g : Heap} {s₀ s : Shared} {L : Addr} {m : Str → Option Value} {ow : List (Addr × Obj)} {env : Env}
theorem St.pull {pre : List (Addr × Obj)} {p : Addr × Obj} (S : St X g₀ s₀ L g s m (pre ++ p :: ow)) : St X g₀ s₀ L g s m (p :: (pre ++ ow)) := S.perm List.perm_middle.symm
theorem St.put {pre : List (Addr × Obj)} {p : Addr × Obj} (S : St X g₀ s₀ L g s m (p :: (pre ++ ow))) : St X g₀ s₀ L g s m (pre ++ p :: ow) := S.perm List.perm_middle
theorem St.turn {pre : List (Addr × Obj)} (S : St X g₀ s₀ L g s m (pre ++ ow)) : St X g₀ s₀ L g s m (ow ++ pre) := S.perm List.perm_append_comm
theorem takeK {tp : Addr} {cv : Value} {ns : List Int} {k : Int} {tk : Tok} {n : Nat} {most : Int} {u : Tok} {pre : List (Addr × Obj)} {Q : Value → Shared → Prop} (hr : Room A 1) (G : Amb w mg mb g) (S : St X g₀ s₀ L g s m (pre ++ (tp, tapeO cv k tk n) :: ow)) (hO : TapeOk g cv ns) (hk : 0 ≤ k) (hm : 1 ≤ most)
    (h : ∀ r v k' tk' n' g' s', Sub g g' → 0 ≤ k' → 0 ≤ r → r < most → St X g₀ s₀ L g' s' m (pre ++ (tp, tapeO cv k' tk' n') :: ow) → Q (.int r v) s') :
    wpAny (model prg w) A (call (.ref 299) [.ref tp, .int most u]) Q E s := by
  have S' := S.pull
  have z := S'.own _ (.head _)
  refine wpAny_call (take_spec hr G S.in_ z.1 z.2.2.1 hO hk hm fun r v k' tk' n' s' g' gr e h0 h1 h2 => ?_)
  exact h r v k' tk' n' g' s' gr.sub h0 h1 h2 (St.put (S'.callY (Y := [(tp, tapeO cv k tk n)]) (Y' := [(tp, tapeO cv k' tk' n')]) gr rfl fun p hp => by rw [List.mem_singleton.mp hp]; exact e))
theorem letter {x : Str} {k : Int} {u t : Tok} {value slice : Expr} {Q : Value → Shared → Prop} (S : St X g₀ s₀ L g s m ow) (h0 : 0 ≤ k) (hk : k < 3) (hx : x.length = 3) (hok : (x.cps.all fun c => PyData.strOk ⟨#[c]⟩) = true)
    (h : ∀ (y : Sym) tk s', (∃ c ∈ x.cps.toList, y.s = ⟨#[c]⟩) → St X g₀ s₀ L g s' m ow → Q (.str y.s tk) s')
    (hs : subscripted slice false (.str x t) (.int k u) = operate [.str x t, .int k u] (getItem (.str x t) (.int k u)) := by with_unfolding_all rfl) : wpAny (model prg w) A (subscriptTail value slice (.str x t) (.int k u)) Q E s := by
  have hl : k.toNat < x.cps.size := by have : x.cps.size = 3 := hx; omega
  refine itStr S h0 (by omega) (by rw [hx]; exact hk) (c := x.cps[k.toNat]) (Array.getElem?_eq_getElem hl) (fun tk s' S' => ?_) hs
  exact h ⟨⟨#[x.cps[k.toNat]]⟩, Array.all_eq_true.mp hok k.toNat hl⟩ tk s' ⟨_, Array.mem_toList_iff.mpr (Array.getElem_mem hl), rfl⟩ S'
theorem tGtI {a b : Int} {t u : Tok} {Q : Bool → Shared → Prop} (h : Q (decide (b < a)) s) : wpAny (model prg w) A (compareOp .Gt (.int a t) (.int b u)) (fun c s₃ => wpAny (model prg w) A (truthy c) Q E s₃) E s :=
  PyProof.Rows.gt_int (wpAny_truthy_bool h)
theorem tLtI {a b : Int} {t u : Tok} {Q : Bool → Shared → Prop} (h : Q (decide (a < b)) s) : wpAny (model prg w) A (compareOp .Lt (.int a t) (.int b u)) (fun c s₃ => wpAny (model prg w) A (truthy c) Q E s₃) E s :=
  PyProof.Rows.lt_int (wpAny_truthy_bool h)
theorem okABC : ((Str.ofString "abc").cps.all fun c => PyData.strOk ⟨#[c]⟩) = true := by kernel_rfl
theorem okSNV : ((Str.ofString "SNV").cps.all fun c => PyData.strOk ⟨#[c]⟩) = true := by kernel_rfl
noncomputable def NotZ (l : Sym) : Prop := (l.s.cps.toList == (Str.ofString "Z").cps.toList) = false
theorem notZ_all : ((Str.ofString "SNV").cps.toList.all fun c => ([c] == (Str.ofString "Z").cps.toList) == false) = true := by kernel_rfl
theorem notZ_of {l : Sym} (h : ∃ c ∈ (Str.ofString "SNV").cps.toList, l.s = ⟨#[c]⟩) : NotZ l := by
  obtain ⟨c, hc, e⟩ := h
  have := List.all_eq_true.mp notZ_all c hc
  unfold NotZ
  rw [e]
  exact beq_iff_eq.mp this
theorem node_spec : ∀ (n : Nat) (d : Nat), d + n = 5 → 1 ≤ n → ∀ (A : Around) (g : Heap) (s : Shared) (tp rm : Addr) (cv : Value) (ns : List Int) (k : Int) (tk : Tok) (n0 : Nat) (r : Int) (rtk : Tok) (rn : Nat) (u : Tok) (R : Result → Shared → Prop),
    Room A (n + 1) → Amb w mg mb g → Sub g s.heap → s.heap.get? tp = some (tapeO cv k tk n0) → s.heap.get? rm = some (lstO [.int r rtk] rn) → g.get? tp = none → g.get? rm = none → tp ≠ rm → TapeOk g cv ns → 0 ≤ k →
    (∀ lab cs v k' tk' n' r' rtk' rn' s' g', Grow [tp, rm] g s g' s' → s'.heap.get? tp = some (tapeO cv k' tk' n') → 0 ≤ k' → s'.heap.get? rm = some (lstO [.int r' rtk'] rn') → (T.node lab cs).ht ≤ n + 1 → (T.node lab cs).sz ≤ szB n → Rd g' v (T.node lab cs).pd → NotZ lab → R (.ok (.ret v)) s') →
    codeAny (model prg w) A (.call (.ref 306) ⟨[.ref tp, .int (d : Nat) u, .ref rm], []⟩) R s := by
  intro n
  induction n with
  | zero => intro d h1 h2; omega
  | succ n ih =>
    intro d hd _ A g s tp rm cv ns k tk n0 r rtk rn u R hr G hs ht hrm htg hrg hne hO hk hR
    refine enterX (ow := [(tp, tapeO cv k tk n0), (rm, lstO [.int r rtk] rn)]) G hs hr (fun p hp => by
      rcases List.mem_cons.mp hp with rfl | hp
      · exact ⟨ht, htg⟩
      · rw [List.mem_singleton.mp hp]; exact ⟨hrm, hrg⟩) (by simpa using hne) (by k_is) (by k_is) (BindsTo.of_eq rfl) (locs rfl) ?_ rfl rfl rfl (by decide)
    intro L s₁ S
    try k_fold
    refine xAsn (eLst (arg0 (mkLst S (sl (by simp)) fun D s₂ S₂ hD => ?_)))
    refine stL S₂ fun s₂ S₂ => ?_
    try k_fold
    refine xFor (tyG G S₂ gRange bRange (arg1 (Subscript_ ?_)))
    refine eLst (arg1 (wpAny_Constant_int (arg1 (wpAny_Constant_int (arg1 (wpAny_Constant_int (arg1 (wpAny_Constant_int (arg1 (wpAny_Constant_int (arg0 ?_)))))))))))
    have S₃ := ((((S₂.toks (s₂.toks + 1)).toks (s₂.toks + 1 + 1)).toks (s₂.toks + 1 + 1 + 1)).toks (s₂.toks + 1 + 1 + 1 + 1)).toks (s₂.toks + 1 + 1 + 1 + 1 + 1)
    refine mkLstF S₃ (.cons (.int 2 _) (.cons (.int 3 _) (.cons (.int 1 _) (.cons (.int 2 _) (.cons (.int 0 _) .nil))))) (sl (by simp)) fun z g₄ s₄ k₄ r₄ S₄ => ?_
    have G₄ := G.keeps k₄
    refine fnG G₄ S₄ gTake kTake (arg1 (nmL S₄ (v := .ref tp) rfl (arg1 (wpAny_Constant_int (arg0 ⟨(G₄.keeps S₄.in_).K, ?_⟩)))))
    refine takeK (pre := [_]) (hr.deeper.le (by omega)) G₄ (S₄.toks _) (hO.mono k₄) hk (by decide) fun c v₅ k₅ tk₅ n₅ g₅ s₅ kk₅ hk₅ hc0 hc1 S₅ => ?_
    have G₅ := G₄.keeps kk₅
    obtain ⟨cnt, hcnt, hc3⟩ : ∃ cnt : Nat, ([PyData.int 2, .int 3, .int 1, .int 2, .int 0] : List PyData)[c.toNat]? = some (.int (cnt : Nat)) ∧ cnt ≤ 3 := by
      have : c = 0 ∨ c = 1 ∨ c = 2 ∨ c = 3 ∨ c = 4 := by omega
      rcases this with rfl | rfl | rfl | rfl | rfl
      · exact ⟨2, rfl, by decide⟩
      · exact ⟨3, rfl, by decide⟩
      · exact ⟨1, rfl, by decide⟩
      · exact ⟨2, rfl, by decide⟩
      · exact ⟨0, rfl, by decide⟩
    refine itRdL S₅ (r₄.mono kk₅) hc0 hcnt (by omega) fun x rx => arg0 ?_
    obtain ⟨u₆, rfl⟩ := rx.asInt
    refine mkRange S₅ fun ra t₁ t₂ g₆ s₆ k₆ hrg S₆ => ?_
    have kk₆ := k₄.trans (kk₅.trans k₆)
    have G₆ := G.keeps kk₆
    refine loopR hr.1 S₆ hrg (sl (by omega)) (fun i g' m' ow' => m' "children" = some (.ref D) ∧ m' "tape" = some (.ref tp) ∧ m' "room" = some (.ref rm) ∧ m' "depth" = some (.int (d : Nat) u) ∧
      ∃ its n1 ts k tk n2 r rtk rn, ow' = [(D, lstO its n1), (tp, tapeO cv k tk n2), (rm, lstO [.int r rtk] rn)] ∧ 0 ≤ k ∧ RdA g' its (T.pdL ts) ∧ ts.length = i ∧ T.htL ts ≤ n + 1 ∧ T.szL ts ≤ i * szB n)
      ⟨rfl, rfl, rfl, rfl, _, _, [], _, _, _, _, _, _, rfl, hk₅, .nil, rfl, Nat.zero_le _, Nat.zero_le _⟩ ?_ ?_
    · rintro i tki it oi g' s' m' ow' hi hg ⟨hm1, hm2, hm3, hm4, its, n1, ts, k, tk, n2, r, rtk, rn, rfl, hk, hJ, hl, hht, hsz⟩ hit S'
      refine wpAny_pure ?_
      refine wpAny_assign_Name (stL S' fun s₇ S₇ => ?_)
      try k_fold
      have G' := G₆.keeps hg
      refine xSub (wpAny_BinOp (Subscript_ (nmL S₇ (v := .ref rm) hm3 (wpAny_Constant_int ?_))))
      have S₇ := S₇.toks (s₇.toks + 1)
      refine itLst (isList_of (S₇.get (.tail _ (.tail _ (.tail _ (.head _)))))) (by decide) (x := .int r rtk) rfl (by decide) (wpAny_Constant_int (PyProof.Rows.sub_int ?_))
      have S₇ := (S₇.toks (s₇.toks + 1 + 1)).toks (s₇.toks + 1 + 1 + 1)
      refine nmL S₇ (v := .ref rm) hm3 (wpAny_Constant_int ?_)
      have S₇ := S₇.toks (s₇.toks + 1 + 1 + 1 + 1)
      refine setL (pre := [_, _, _]) (ow := []) S₇ (by decide) (by simp) (by simp) fun s₈ n₈ S₈ => ?_
      have hits : its.length = i := by rw [hJ.length, pdL_map, List.length_map, hl]
      refine xIf (wpAny_mono (wpAny_isTrue_BoolOp (Q := fun b s₉ => ∃ g₉ k₉ tk₉ n₉ rtk₉ rn₉, Sub g' g₉ ∧ 0 ≤ k₉ ∧ St [tp, rm] g s L g₉ s₉ (upd m' "k" (.int (i : Nat) tki)) [(it, oi), (D, lstO its n1), (tp, tapeO cv k₉ tk₉ n₉), (rm, lstO [.int (r - 1) rtk₉] rn₉)] ∧ (b = true → d < 4)) ?_) ?_ fun _ _ x => x)
      · refine wpAny_allTrue_And_cons (wpAny_isTrue_Compare1 (Subscript_ (nmL S₈ (v := .ref rm) hm3 (wpAny_Constant_int ?_))))
        have S₈ := S₈.toks (s₈.toks + 1)
        refine itLst (isList_of (S₈.get (.tail _ (.tail _ (.tail _ (.head _)))))) (by decide) (x := .int (r - 1) _) rfl (by decide) (wpAny_Constant_int (tGtI ?_))
        have S₈ := S₈.toks (s₈.toks + 1 + 1)
        split
        · refine wpAny_allTrue_And_cons (wpAny_isTrue_Compare1 (nmL S₈ (v := .int (d : Nat) u) hm4 (wpAny_Constant_int (tLtI ?_))))
          have S₈ := S₈.toks (s₈.toks + 1 + 1 + 1)
          split
          · rename_i hlt
            have hd4 : (d : Int) < 4 := of_decide_eq_true hlt
            refine wpAny_allTrue_And_cons (wpAny_isTrue_Compare1 (fnG G' S₈ gTake kTake (arg1 (nmL S₈ (v := .ref tp) hm2 (arg1 (wpAny_Constant_int (arg0 ⟨(G'.keeps S₈.in_).K, ?_⟩)))))))
            refine takeK (pre := [_, _]) (hr.deeper.le (by omega)) G' (S₈.toks _) (hO.mono (kk₆.trans hg)) hk (by decide) fun c v₅ k₅ tk₅ n₅ g₅ s₅ kk₅ hk₅ hc0 hc1 S₅ => wpAny_Constant_int (tGtI ?_)
            have S₅ := S₅.toks (s₅.toks + 1)
            split
            · exact wpAny_allTrue_And_nil ⟨g₅, k₅, tk₅, n₅, _, _, kk₅, hk₅, S₅, fun _ => by omega⟩
            · exact ⟨g₅, k₅, tk₅, n₅, _, _, kk₅, hk₅, S₅, fun h => nomatch h⟩
          · exact ⟨g', k, tk, n2, _, _, .refl _, hk, S₈, fun h => nomatch h⟩
        · exact ⟨g', k, tk, n2, _, _, .refl _, hk, S₈, fun h => nomatch h⟩
      · rintro b s₉ ⟨g₉, k₉, tk₉, n₉, rtk₉, rn₉, kk₉, hk₉, S₉, hb⟩
        have G₉ := G'.keeps kk₉
        cases b with
        | true =>
          have hd4 := hb rfl
          refine itT ?_
          refine xExpr (meList (name := "append") (nmL S₉ (v := .ref D) hm1 ⟨D, its, n1, rfl, S₉.get (.tail _ (.head _)), ?_⟩) PySem.F.slot_list_append rfl)
          refine arg1 (fnG G₉ S₉ gNode kNode (arg1 (nmL S₉ (v := .ref tp) hm2 (arg1 (wpAny_BinOp (nmL S₉ (v := .int (d : Nat) u) hm4 (wpAny_Constant_int (add_int ?_))))))))
          have S₉ := (S₉.toks (s₉.toks + 1)).toks (s₉.toks + 1 + 1)
          refine arg1 (nmL S₉ (v := .ref rm) hm3 (arg0 ⟨(G₉.keeps S₉.in_).K, ?_⟩))
          have z1 := S₉.own _ (.tail _ (.tail _ (.head _)))
          have z2 := S₉.own _ (.tail _ (.tail _ (.tail _ (.head _))))
          refine wpAny_call (ih (d + 1) (by omega) (by omega) _ g₉ _ tp rm cv ns k₉ tk₉ n₉ (r - 1) rtk₉ rn₉ _ _ (hr.deeper) G₉ S₉.in_ z1.1 z2.1 z1.2.2.1 z2.2.2.1 hne (hO.mono ((kk₆.trans hg).trans kk₉)) hk₉ fun lab cs v k₁ tk₁ n₁ r₁ rtk₁ rn₁ s₁₀ g₁₀ gr et hk₁ er hht₁ hsz₁ rv _ => ?_)
          have S₁₀ := St.turn (pre := [_, _]) (ow := [_, _]) (St.callY (Y := [_, _]) (Y' := [(tp, tapeO cv k₁ tk₁ n₁), (rm, lstO [.int r₁ rtk₁] rn₁)]) (St.turn (pre := [_, _]) (ow := [_, _]) S₉) gr rfl fun p hp => by
            rcases List.mem_cons.mp hp with rfl | hp
            · exact et
            · rw [List.mem_singleton.mp hp]; exact er)
          refine arg0 (appendL (pre := [(it, oi)]) S₁₀ (sl (by omega)) fun s₁₁ S₁₁ => ⟨rfl, ?_⟩)
          refine xNil (thenNext (xNil ⟨g₁₀, _, _, kk₉.trans gr.sub, S₁₁, hm1, hm2, hm3, hm4, _, _, ts ++ [.node lab cs], _, _, _, _, _, _, rfl, hk₁, ?_, by rw [List.length_append, hl]; rfl, ?_, ?_⟩))
          · rw [pdL_map, List.map_append, ← pdL_map]
            exact (hJ.mono (kk₉.trans gr.sub)).append (.cons rv .nil)
          · rw [htL_snoc]; omega
          · rw [szL_snoc, Nat.add_mul, Nat.one_mul]; omega
        | false =>
          refine itF ?_
          refine xExpr (meList (name := "append") (nmL S₉ (v := .ref D) hm1 ⟨D, its, n1, rfl, S₉.get (.tail _ (.head _)), ?_⟩) PySem.F.slot_list_append rfl)
          refine arg1 (Subscript_ (wpAny_Constant_str ?_))
          have S₉ := S₉.toks (s₉.toks + 1)
          refine fnG G₉ S₉ gTake kTake (arg1 (nmL S₉ (v := .ref tp) hm2 (arg1 (wpAny_Constant_int (arg0 ⟨(G₉.keeps S₉.in_).K, ?_⟩)))))
          refine takeK (pre := [_, _]) (hr.deeper.le (by omega)) G₉ (S₉.toks _) (hO.mono ((kk₆.trans hg).trans kk₉)) hk₉ (by decide) fun c v₅ k₅ tk₅ n₅ g₅ s₅ kk₅ hk₅ hc0 hc1 S₅ => ?_
          refine letter S₅ hc0 hc1 (by kernel_rfl) okABC fun y ytk s₆ _ S₆ => ?_
          refine arg0 (appendL (pre := [(it, oi)]) S₆ (sl (by omega)) fun s₁₁ S₁₁ => ⟨rfl, ?_⟩)
          refine xNil (thenNext (xNil ⟨g₅, _, _, kk₉.trans kk₅, S₁₁, hm1, hm2, hm3, hm4, _, _, ts ++ [.leaf y], _, _, _, _, _, _, rfl, hk₅, ?_, by rw [List.length_append, hl]; rfl, ?_, ?_⟩))
          · rw [pdL_map, List.map_append, ← pdL_map]
            exact (hJ.mono (kk₉.trans kk₅)).append (.cons (.str _ _) .nil)
          · rw [htL_snoc, T.ht]; omega
          · rw [szL_snoc, Nat.add_mul, Nat.one_mul, T.sz]; have := szB_pos n; omega
    · rintro g' s' m' ow' hg ⟨hm1, hm2, hm3, hm4, its, n1, ts, k, tk, n2, r, rtk, rn, rfl, hk, hJ, hl, hht, hsz⟩ S'
      have G' := G₆.keeps hg
      refine thenNext (xRet (eLst (arg1 (Subscript_ (wpAny_Constant_str ?_)))))
      have S' := S'.toks (s'.toks + 1)
      refine fnG G' S' gTake kTake (arg1 (nmL S' (v := .ref tp) hm2 (arg1 (wpAny_Constant_int (arg0 ⟨(G'.keeps S'.in_).K, ?_⟩)))))
      refine takeK (pre := [_]) (hr.deeper.le (by omega)) G' (S'.toks _) (hO.mono (kk₆.trans hg)) hk (by decide) fun c v₅ k₅ tk₅ n₅ g₅ s₅ kk₅ hk₅ hc0 hc1 S₅ => ?_
      refine letter S₅ hc0 hc1 (by kernel_rfl) okSNV fun lab ltk s₆ hZ S₆ => ?_
      refine arg1 (nmL S₆ (v := .ref D) hm1 ?_)
      obtain ⟨g₇, k₇, e₇, _, S₇⟩ := S₆.freeze hD
      refine arg0 (mkLstF S₇ (.cons (.str lab.s ltk) (.cons (.list (isList_of e₇) (hJ.mono (kk₅.trans k₇))) .nil)) (sl (by simp)) fun v g₈ s₈ k₈ r₈ S₈ => ?_)
      refine hR lab ts v _ _ _ _ _ _ _ g₈ S₈.grow (S₈.get (.head _)) hk₅ (S₈.get (.tail _ (.head _))) ?_ ?_ (by rw [T.pd]; exact r₈) (notZ_of hZ)
      · rw [T.ht]; omega
      · rw [T.sz, szB]
        have : cnt * szB n ≤ 3 * szB n := Nat.mul_le_mul_right _ hc3
        omega
end
end Mine
namespace Mine
theorem ints_lay : ∀ p : Plc, PyData.canLayAll0 (p.map fun i => PyData.int (i : Nat)) = true ∧ PyData.depthAll (p.map fun i => PyData.int (i : Nat)) ≤ 1
  | [] => by simp [PyData.canLayAll0, PyData.depthAll]
  | i :: p => by
    have h := ints_lay p
    have h2 := h.2
    simp only [List.map_cons, PyData.canLayAll0, PyData.canLay0, PyData.depthAll, PyData.depth, h.1, Bool.and_self, true_and]
    omega
theorem posD_lay (p : Plc) : (posD p).canLay0 = true ∧ (posD p).depth ≤ 2 := by
  have h := ints_lay p
  have h2 := h.2
  simp only [posD, PyData.canLay0, PyData.depth, h.1, true_and]
  omega
theorem posD_shaped (p : Plc) : SeqAt.shaped (posD p) = true := by
  unfold SeqAt.shaped
  have k := posD_lay p
  rw [k.1, Bool.true_and]
  exact decide_eq_true (by have := k.2; omega)
theorem eqv_ints : ∀ p q : Plc, PyData.eqvAll (p.map fun i => PyData.int (i : Nat)) (q.map fun i => PyData.int (i : Nat)) = decide (p = q)
  | [], [] => by simp [PyData.eqvAll]
  | [], j :: q => by simp [PyData.eqvAll]
  | i :: p, [] => by simp [PyData.eqvAll]
  | i :: p, j :: q => by
    simp only [List.map_cons, PyData.eqvAll, PyData.eqv, eqv_ints p q, List.cons.injEq, Bool.decide_and]
    congr 1
    by_cases h : i = j
    · subst h; simp
    · rw [decide_eq_false h, beq_eq_false_iff_ne]; omega
theorem eqv_pos (p q : Plc) : PyData.eqv (posD p) (posD q) = decide (p = q) := by
  simp only [posD, PyData.eqv]; exact eqv_ints p q
noncomputable def putT (new : T) : Plc → T → T
  | [], _ => new
  | _ :: _, .leaf x => .leaf x
  | k :: p, .node l cs => .node l (match cs[k]? with | some c => cs.set k (putT new p c) | none => cs)
theorem putT_cons {new : T} {l : Sym} {cs : List T} {k : Nat} {p : Plc} {c : T} (h : cs[k]? = some c) : putT new (k :: p) (.node l cs) = .node l (cs.set k (putT new p c)) := by
  rw [putT, h]
section
variable {w : World} {mg mb : Str → Option Value} {M : Model} {A : Around} {E : Value → Shared → Prop} {X : List Addr} {g₀ g : Heap} {s₀ s : Shared} {L : Addr} {m : Str → Option Value} {ow : List (Addr × Obj)} {env : Env}
theorem gPut : nsIn (Mine.hd.heap_1 w.params) mainGlobals "_law_put" = some (some (.ref 347)) := by k_is
theorem kPut : keepIn (Mine.hd.heap_1 w.params) (.ref 347) = true := by k_is
theorem tEqR {a b : Value} {da db : PyData} {Q : Bool → Shared → Prop} {n : Nat} (hr : Room A n) (hn : 6 ≤ n) (S : St X g₀ s₀ L g s m ow) (ra : Rd g a da) (rb : Rd g b db) (ha : SeqAt.shaped da = true) (hb : SeqAt.shaped db = true) (h : Q (PyData.eqv da db) s) :
    wpAny (model prg w) A (compareOp .Eq a b) (fun c s₃ => wpAny (model prg w) A (truthy c) Q E s₃) E s := eqR hr hn S ra rb ha hb (wpAny_truthy_bool h)
theorem tNeR {a b : Value} {da db : PyData} {Q : Bool → Shared → Prop} {n : Nat} (hr : Room A n) (hn : 6 ≤ n) (S : St X g₀ s₀ L g s m ow) (ra : Rd g a da) (rb : Rd g b db) (ha : SeqAt.shaped da = true) (hb : SeqAt.shaped db = true) (h : Q (!PyData.eqv da db) s) :
    wpAny (model prg w) A (compareOp .NotEq a b) (fun c s₃ => wpAny (model prg w) A (truthy c) Q E s₃) E s := neR hr hn S ra rb ha hb (wpAny_truthy_bool h)
theorem put_spec (new : T) (hnew : new.ht ≤ 6) : ∀ (p : Plc) (n : Nat) (t : T), t.Small n → ∀ (t' : T) (A : Around) (g : Heap) (s : Shared) (v pv nv : Value) (R : Result → Shared → Prop),
    Room A (2 * n + 8) → Amb w mg mb g → Sub g s.heap → Rd g v t.pd → Rd g pv (posD p) → Rd g nv new.pd → p.length ≤ 400 → t.at p = some t' → (∀ u s' g', Grow [] g s g' s' → Rd g' u (putT new p t).pd → R (.ok (.ret u)) s') → codeAny (model prg w) A (.call (.ref 347) ⟨[v, pv, nv], []⟩) R s := by
  intro p
  induction p with
  | nil =>
    intro n t hn t' A g s v pv nv R hr G hs hT hP hN hpl hat hR
    refine enterC G hs hr (by k_is) (by k_is) (BindsTo.of_eq rfl) (kindsX rfl) (by decide) ?_ rfl rfl rfl
    intro L s₁ cells S hC
    try k_fold
    obtain ⟨o1, o2, o3, rfl, d1, d2, d3⟩ := hC.three
    obtain ⟨g₁, k₁, e₁, _, S₁⟩ := S.freezes (fz := [_, _, _]) (ow := []) (fun p _ h => nomatch h)
    have i1 : g₁.IsCell (L + 1) (some v) := ⟨_, e₁ _ (.tail _ (.tail _ (.head _))), d3⟩
    have i2 : g₁.IsCell (L + 2) (some pv) := ⟨_, e₁ _ (.tail _ (.head _)), d2⟩
    have i3 : g₁.IsCell (L + 3) (some nv) := ⟨_, e₁ _ (.head _), d1⟩
    refine xIf (wpAny_isTrue_Compare1 (nmC (IsCell.mono S₁.in_ i2) (eTup (arg0 ?_))))
    refine mkTup S₁ .nil (sl (by simp)) fun z g₂ s₂ k₂ r₂ S₂ => ?_
    refine tEqR hr.deeper (by omega) S₂ ((hP.mono k₁).mono k₂) r₂ (posD_shaped _) (posD_shaped []) ?_
    rw [show PyData.tuple [] = posD [] from rfl, eqv_pos, decide_eq_true rfl]
    refine itT (xRet (nmC (v := nv) (IsCell.mono (k₂.trans S₂.in_) i3) (thenRet (hR _ _ _ S₂.grow ?_))))
    rw [putT]
    exact (hN.mono k₁).mono k₂
  | cons k q ih =>
    intro n t hn t' A g s v pv nv R hr G hs hT hP hN hpl hat hR
    cases t with
    | leaf y => rw [T.at] at hat; cases hat
    | node lab cs =>
    obtain ⟨c, hk, hat'⟩ := at_cons hat
    cases n with
    | zero => exact hn.zero.elim
    | succ n =>
    have hsm := hn.kid hk
    refine enterC G hs hr (by k_is) (by k_is) (BindsTo.of_eq rfl) (kindsX rfl) (by decide) ?_ rfl rfl rfl
    intro L s₁ cells S hC
    try k_fold
    obtain ⟨o1, o2, o3, rfl, d1, d2, d3⟩ := hC.three
    obtain ⟨g₁, k₁, e₁, _, S₁⟩ := S.freezes (fz := [_, _, _]) (ow := []) (fun p _ h => nomatch h)
    have i1 : g₁.IsCell (L + 1) (some v) := ⟨_, e₁ _ (.tail _ (.tail _ (.head _))), d3⟩
    have i2 : g₁.IsCell (L + 2) (some pv) := ⟨_, e₁ _ (.tail _ (.head _)), d2⟩
    have i3 : g₁.IsCell (L + 3) (some nv) := ⟨_, e₁ _ (.head _), d1⟩
    refine xIf (wpAny_isTrue_Compare1 (nmC (IsCell.mono S₁.in_ i2) (eTup (arg0 ?_))))
    refine mkTup S₁ .nil (sl (by simp)) fun z g₂ s₂ k₂ r₂ S₂ => ?_
    have kk₂ := k₁.trans k₂
    have G₂ := G.keeps kk₂
    have hT₂ := hT.mono kk₂
    rw [T.pd] at hT₂
    refine tEqR hr.deeper (by omega) S₂ (hP.mono kk₂) r₂ (posD_shaped _) (posD_shaped []) ?_
    rw [show PyData.tuple [] = posD [] from rfl, eqv_pos, decide_eq_false (by simp)]
    refine itF (xNil (thenNext ?_))
    refine xRet (eLst (arg1 (Subscript_ (nmC (v := v) (IsCell.mono (k₂.trans S₂.in_) i1) (wpAny_Constant_int ?_)))))
    refine itRdL (S₂.toks _) hT₂ (by decide) (d := .str lab.s) rfl (by decide) fun x rx => ?_
    obtain ⟨ltk, rfl⟩ := rx.asStr
    refine arg1 ?_
    refine lcEval (cl := _) rfl rfl (by decide) ?_
    have S₂ := S₂.toks (s₂.toks + 1)
    refine tyG G₂ S₂ gRange bRange (arg1 (biG G₂ S₂ gLen bLen (arg1 (Subscript_ (nmC (v := v) (IsCell.mono (k₂.trans S₂.in_) i1) (wpAny_Constant_int ?_))))))
    refine itRdL (S₂.toks _) hT₂ (by decide) (d := .list (T.pdL cs)) rfl (by decide) fun x rx => arg0 ?_
    have hz := hn.len
    have hzl : (T.pdL cs).length = cs.length := by rw [pdL_map, List.length_map]
    refine lenL (S₂.toks _) rx (sl' hzl (by omega)) (fun tk s₄ S₄ => arg0 ?_)
    rw [hzl]
    refine mkRange S₄ fun r t₁ t₂ g₅ s₅ k₅ hrg S₅ => ?_
    refine compR hr.1 S₅ hrg (sl (by omega)) (by decide) rfl rfl (fun i g' ys => RdA g' ys (T.pdL ((cs.set k (putT new q c)).take i))) (by exact .nil) ?_ ?_
    · intro i tk I oi se C g' s' mC ys ow2 Se hi hg hJ S'
      try (show wpAny _ _ _ _ _ _; k_fold)
      have kk := k₅.trans hg
      have G' := G₂.keeps kk
      have j1 := IsCell.mono ((k₂.trans kk).trans S'.in_) i1
      have j2 := IsCell.mono ((k₂.trans kk).trans S'.in_) i2
      obtain ⟨ti, hti⟩ : ∃ t, cs[i]? = some t := ⟨_, List.getElem?_eq_getElem hi⟩
      refine wpAny_IfExp (wpAny_isTrue_Compare1 (nmL S' rfl (Subscript_ (nmC (v := pv) j2 (wpAny_Constant_int ?_)))))
      refine itRdT (S'.toks _) (hP.mono (kk₂.trans kk)) (by decide) (d := .int (k : Nat)) rfl (by decide) fun x rx => ?_
      obtain ⟨ku, rfl⟩ := rx.asInt
      refine tEqI ?_
      have S' := S'.toks (s'.toks + 1)
      by_cases hik : i = k
      · subst hik
        rw [hk] at hti; cases hti
        rw [show (((i : Nat) : Int) == (i : Nat)) = true from by simp]
        refine itT (fnG G' S' gPut kPut (arg1 (Subscript_ (Subscript_ (nmC (v := v) (IsCell.mono ((k₂.trans kk).trans S'.in_) i1) (wpAny_Constant_int ?_))))))
        refine itRdL (S'.toks _) (hT₂.mono kk) (by decide) (d := .list (T.pdL cs)) rfl (by decide) fun x rx => ?_
        refine nmL (S'.toks _) (v := .int (i : Nat) tk) rfl ?_
        refine itRdL (S'.toks _) rx (by omega) (d := c.pd) (pdL_get (by simpa using hk)) (by omega) fun cv rc => ?_
        refine arg1 (sliceFrom (a := 1) (X := [I]) (nmC (v := pv) (IsCell.mono ((k₂.trans kk).trans S'.in_) i2) (wpAny_Constant_int ⟨_, g', _, _, rfl, hP.mono (kk₂.trans kk), by decide, by simp, by rw [List.length_map]; exact sl (by omega), (S'.toks _).toks _, fun pv' g₆ s₆ k₆ r₆ S₆ => ?_⟩)))
        refine arg1 (nmC (v := nv) (IsCell.mono (((k₂.trans kk).trans k₆).trans S₆.in_) i3) (arg0 ⟨((G'.keeps k₆).keeps S₆.in_).K, ?_⟩))
        refine wpAny_call (ih n c hsm t' _ _ _ _ _ _ _ ((hr.le (by omega)).deeper) (G'.keeps k₆) S₆.in_ (rc.mono k₆) (by simpa [posD] using r₆) (hN.mono ((kk₂.trans kk).trans k₆)) (by simp at hpl ⊢; omega) hat' fun u s₇ g₇ gr ru => ?_)
        refine ⟨g₇, _, k₆.trans gr.sub, S₆.call gr, ?_⟩
        rw [take_snoc (x := putT new q c) (by rw [List.getElem?_set_self (by omega)]), pdL_map, List.map_append, ← pdL_map]
        exact (hJ.mono (k₆.trans gr.sub)).append (.cons ru .nil)
      · rw [show (((i : Nat) : Int) == (k : Nat)) = false from by rw [beq_eq_false_iff_ne]; omega]
        refine itF (Subscript_ (Subscript_ (nmC (v := v) (IsCell.mono ((k₂.trans kk).trans S'.in_) i1) (wpAny_Constant_int ?_))))
        refine itRdL (S'.toks _) (hT₂.mono kk) (by decide) (d := .list (T.pdL cs)) rfl (by decide) fun x rx => ?_
        refine nmL (S'.toks _) (v := .int (i : Nat) tk) rfl ?_
        refine itRdL (S'.toks _) rx (by omega) (d := ti.pd) (pdL_get (by simpa using hti)) (by omega) fun cv rc => ?_
        refine ⟨g', _, .refl _, S'.toks _, ?_⟩
        rw [take_snoc (x := ti) (by rw [List.getElem?_set_ne (by omega)]; exact hti), pdL_map, List.map_append, ← pdL_map]
        exact hJ.append (.cons rc .nil)
    · intro D g' s' ys kD hg hJ S'
      try (show wpAny _ _ _ _ _ _; k_fold)
      obtain ⟨g₆, k₆, e₆, _, S₆⟩ := S'.freeze fun h => nomatch h
      rw [List.take_of_length_le (by simp)] at hJ
      refine arg0 (mkLstF S₆ (.cons (.str _ _) (.cons (.list (isList_of e₆) (hJ.mono k₆)) .nil)) (sl (by simp)) fun v g₇ s₇ k₇ r₇ S₇ => ?_)
      exact hR _ _ _ S₇.grow (by rw [putT_cons hk, T.pd]; exact r₇)
end
end Mine
namespace Mine
section
variable {w : World} {mg mb : Str → Option Value} {M : Model} {A : Around} {E : Value → Shared → Prop} {X : List Addr} {g₀ g : Heap} {s₀ s s' : Shared} {L : Addr} {m : Str → Option Value} {ow : List (Addr × Obj)} {env : Env} {fs : List Env}
noncomputable abbrev frs (fs : List Env) : List Addr := fs.filterMap (·.frame)
noncomputable def HF (fs : List Env) (h : Heap) : Prop := h.FunFrames (hideAll h (frs fs)) fs
theorem HF.of {base h : Heap} (x : h.FunFrames base fs) : HF fs h := funFrames_hide x fun env he a ha => List.mem_filterMap.mpr ⟨env, he, ha⟩
theorem HF.nil {h : Heap} : HF [] h := trivial
theorem HF.push {h₀ h : Heap} (x : HF fs h₀) (k : ∀ b o, h₀.get? b = some o → h.get? b = some o) (hn : h.Ns L m) (hL : h₀.get? L = none) (hf : env.frame = some L) (hk : env.scope.kind = .function) : HF (env :: fs) h := by
  refine .of (base := hideAll h₀ (frs fs)) (Heap.FunFrames.cons (by rw [hk]; decide) hf hn (none_of fun o e => ?_) (Heap.FunFrames.of_keeps (fun b o e _ => ⟨o, k b o e, rfl⟩) x))
  have := of_hideAll _ e
  rw [hL] at this; cases this
structure Thrown (fs : List Env) (cls : Value) (s : Shared) (v : Value) (s' : Shared) : Prop where
  fly : ∃ e B a0, v = .ref e ∧ Heap.FlyingW B fs e cls a0 s'.heap ∧ ∀ b o, s.heap.get? b = some o → b ∉ frs fs → B.get? b = some o
  up : s.heap.UpToSlots s'.heap
  gens : ∀ (i : Nat) x, s.gens[i]? = some x → s'.gens[i]? = some x
  bare : AllBare s.gens → AllBare s'.gens
  os : s'.os = s.os

theorem leaveMade {cls : String} {e : Addr} {args : List Value} {h' : Heap} {Q : Unit → Shared → Prop} (S : St [] g₀ s₀ L g s m ow) (hx : Heap.MadeExc s.heap h' e cls args) (hF : HF fs s₀.heap) (hA : A.frames = some (env :: fs)) (hf : env.frame = some L) (hk : env.scope.kind = .function)
    (h : ∀ s', Thrown fs (.type cls) s₀ (.ref e) s' → Q () s') : wpAny M A (leaving env (.ref e)) Q E { s with heap := h' } := by
  have hF' : HF (env :: fs) s.heap := hF.push (fun b o e => S.grow.keep b o (fun h => nomatch h) e) S.ns S.newL hf hk
  refine wpAny_leaves_madeW (base := hideAll s.heap (frs (env :: fs))) (h := s.heap) (s := { s with heap := h' }) hA hf (fun b o e => of_hideAll _ e) hF' hx.of fun h₂ t fl _ _ up => h _ ⟨⟨e, _, _, rfl, fl, fun b o hb hn => ?_⟩, ?_, S.grow.gens, S.grow.bare, S.grow.os⟩
  · refine hideAll_get _ (S.grow.keep b o (fun h => nomatch h) hb) fun hm => ?_
    obtain ⟨env', he, hfr⟩ := List.mem_filterMap.mp hm
    rcases List.mem_cons.mp he with rfl | he
    · rw [hf] at hfr; cases hfr; rw [S.newL] at hb; cases hb
    · exact hn (List.mem_filterMap.mpr ⟨env', he, hfr⟩)
  · exact ((Heap.UpToSlots.of_keeps fun b o e => S.grow.keep b o (fun h => nomatch h) e).trans (Heap.UpToSlots.of_keeps hx.keeps)).trans up
theorem leaveOn {cls v : Value} {Q : Unit → Shared → Prop} (S : St [] g₀ s₀ L g s m ow) (T : Thrown (env :: fs) cls s v s') (hA : A.frames = some (env :: fs)) (hf : env.frame = some L)
    (h : ∀ s'', Thrown fs cls s₀ v s'' → Q () s'') : wpAny M A (leaving env v) Q E s' := by
  obtain ⟨⟨e, B, a0, rfl, fl, hB⟩, up, gn, br, os⟩ := T
  refine wpAny_leaves_onW hA hf fl fun h' fl' up' => h _ ⟨⟨e, B, a0, rfl, fl', fun b o hb hn => hB b o (S.grow.keep b o (fun h => nomatch h) hb) fun hm => ?_⟩, ?_, fun i x e => gn i x (S.grow.gens i x e), fun h => br (S.grow.bare h), os.trans S.grow.os⟩
  · obtain ⟨env', he, hfr⟩ := List.mem_filterMap.mp hm
    rcases List.mem_cons.mp he with rfl | he
    · rw [hf] at hfr; cases hfr; rw [S.newL] at hb; cases hb
    · exact hn (List.mem_filterMap.mpr ⟨env', he, hfr⟩)
  · exact ((Heap.UpToSlots.of_keeps fun b o e => S.grow.keep b o (fun h => nomatch h) e).trans up).trans up'
theorem xRaise {cls newId initId : String} (FC : ExcCallFacts cls newId initId) (FR : ExcRaiseFacts cls) {x : Str} {np cpos pos : PySem.Pos} {e₀ : Expr} {rest : List Expr} {restS : List Stmt} {Q : Flow → Shared → Prop} (hh : A.handled = none)
    (G : Amb w mg mb g) (S : St X g₀ s₀ L g s m ow) (hn : nsIn (Mine.hd.heap_1 w.params) mainGlobals x = some none) (hv : bootBuiltins x = some (.type cls))
    (h : wpAny (model prg w) A (spliced (backTo cpos (starEach (e₀ :: rest) env))) (fun vs s₂ => vs.length ≤ sizeLine ∧ ∀ h' e, Heap.MadeExc s₂.heap h' e cls vs → E (.ref e) { s₂ with heap := h' }) E s)
    (hne : x ≠ "__name__" := by decide) (hg : env.globals = mainGlobals := by rfl) (hb : env.builtins = builtinsNs := by rfl) (hkd : env.scope.kind = .function := by rfl) (hx : env.kindOf x = some .globalImplicit := by rfl) (hd : (x == ("__debug__" : Str)) = false := by decide)
    (he : starEach (e₀ :: rest) env = (false, eval e₀ env) :: starEach rest env := by rfl) (hplain : (backTo cpos (starEach rest env)).any (·.1) = false := by rfl) :
    wpAny (model prg w) A (execs (.Raise (some (.Call (.Name x np) (e₀ :: rest) [] cpos)) none pos :: restS) env) Q E s :=
  wpAny_execs_cons (Raise_madeB FC FR hh (nmB G S hn hv hne ⟨rfl, h⟩ hg hb hkd hx hd) he hplain)
theorem gIdx : nsIn (Mine.hd.heap_1 w.params) mainGlobals "IndexError" = some none := by k_is
theorem gVal : nsIn (Mine.hd.heap_1 w.params) mainGlobals "ValueError" = some none := by k_is
theorem bIdx : bootBuiltins "IndexError" = some (.type "IndexError") := by boot_by_name
theorem bVal : bootBuiltins "ValueError" = some (.type "ValueError") := by boot_by_name
end
end Mine
namespace Mine
mutual
noncomputable def leafP : T → Plc → List Plc
  | .leaf _, p => [p]
  | .node _ cs, p => leafPL cs 0 p
noncomputable def leafPL : List T → Nat → Plc → List Plc
  | [], _, _ => []
  | t :: ts, k, p => leafP t (p ++ [k]) ++ leafPL ts (k + 1) p
end
noncomputable def kidP : List T → Nat → Plc → List (T × Plc)
  | [], _, _ => []
  | t :: ts, k, p => (t, p ++ [k]) :: kidP ts (k + 1) p
theorem kidP_leaf : ∀ (cs : List T) (k : Nat) (p : Plc), leafPL cs k p = (kidP cs k p).flatMap fun x => leafP x.1 x.2
  | [], _, _ => by rw [leafPL, kidP]; rfl
  | t :: ts, k, p => by rw [leafPL, kidP, List.flatMap_cons, kidP_leaf ts]
theorem kidP_len : ∀ (cs : List T) (k : Nat) (p : Plc), (kidP cs k p).length = cs.length
  | [], _, _ => rfl
  | t :: ts, k, p => by rw [kidP, List.length_cons, List.length_cons, kidP_len ts]
theorem kidP_get : ∀ (cs : List T) (k : Nat) (p : Plc) (i : Nat), (kidP cs k p)[i]? = cs[i]?.map fun t => (t, p ++ [k + i])
  | [], _, _, _ => by simp [kidP]
  | t :: ts, k, p, 0 => by simp [kidP]
  | t :: ts, k, p, i + 1 => by
    rw [kidP, List.getElem?_cons_succ, List.getElem?_cons_succ, kidP_get ts]
    congr 1; funext t; congr 3; omega
noncomputable def szS (st : List (T × Plc)) : Nat := (st.map fun x => x.1.sz).sum
theorem szS_kid : ∀ (cs : List T) (k : Nat) (p : Plc), szS (kidP cs k p) = T.szL cs
  | [], _, _ => rfl
  | t :: ts, k, p => by
    have := szS_kid ts (k + 1) p
    unfold szS at this ⊢
    rw [kidP, List.map_cons, List.sum_cons, this, T.szL]
theorem szS_app (a b : List (T × Plc)) : szS (a ++ b) = szS a + szS b := by unfold szS; rw [List.map_append, List.sum_append]
theorem szS_rev (a : List (T × Plc)) : szS a.reverse = szS a := by unfold szS; rw [List.map_reverse, List.sum_reverse]
theorem szS_len : ∀ st : List (T × Plc), st.length ≤ szS st
  | [] => Nat.le_refl _
  | x :: st => by
    have := szS_len st
    have := x.1.sz_pos
    unfold szS at *
    rw [List.map_cons, List.sum_cons, List.length_cons]; omega
noncomputable def leafAt (t : T) (i : Int) : Option Plc := if i < 0 then none else (leafP t [])[i.toNat]?
noncomputable def IsSP (g : Heap) (v : Value) (x : T × Plc) : Prop := ∃ a v1 v2 as, v = .ref a ∧ IsTup g a [v1, v2].toArray ∧ IsT g v1 x.1 as ∧ Rd g v2 (posD x.2)
theorem IsSP.mono {g h : Heap} {v : Value} {x : T × Plc} (k : Sub g h) (q : IsSP g v x) : IsSP h v x :=
  let ⟨a, v1, v2, as, e, h1, h2, h3⟩ := q; ⟨a, v1, v2, as, e, IsTup.mono k h1, h2.mono k, h3.mono k⟩
theorem All2.snoc {α : Type} {P : Value → α → Prop} : ∀ {st : List α} {x : α} {vs : List Value}, All2 P vs (st ++ [x]) → ∃ ws v, vs = ws ++ [v] ∧ All2 P ws st ∧ P v x
  | [], x, vs, h => by
    cases h with | cons a b => cases b; exact ⟨[], _, rfl, .nil, a⟩
  | y :: st, x, vs, h => by
    cases h with
    | cons a b =>
      obtain ⟨ws, v, rfl, h1, h2⟩ := All2.snoc b
      exact ⟨_ :: ws, v, rfl, .cons a h1, h2⟩
theorem mapSeq_pop (its : List Value) (y : Value) (n : Nat) : ∃ n', Obj.mapSeq (fun xs => xs.eraseIdxIfInBounds ((its ++ [y]).toArray.size - 1)) (lstO (its ++ [y]) n) = lstO its n' := by
  have e : (its ++ [y]).toArray.eraseIdxIfInBounds ((its ++ [y]).toArray.size - 1) = its.toArray := by
    simp [List.eraseIdx_append_of_length_le (Nat.le_refl its.length)]
  refine ⟨if (((its ++ [y]).toArray.eraseIdxIfInBounds ((its ++ [y]).toArray.size - 1)).size == (its ++ [y]).toArray.size) = true then n else n + 1, ?_⟩
  show (⟨_, _, .seq ((its ++ [y]).toArray.eraseIdxIfInBounds ((its ++ [y]).toArray.size - 1)) (if (((its ++ [y]).toArray.eraseIdxIfInBounds ((its ++ [y]).toArray.size - 1)).size == (its ++ [y]).toArray.size) = true then n else n + 1), _⟩ : Obj) = _
  rw [e]
section
variable {w : World} {mg mb : Str → Option Value} {M : Model} {A : Around} {E : Value → Shared → Prop} {X : List Addr} {g₀ g : Heap} {s₀ s : Shared} {L : Addr} {m : Str → Option Value} {ow : List (Addr × Obj)} {env : Env} {fs : List Env}
theorem popL {o : Expr} {apos pos : PySem.Pos} {D : Addr} {its : List Value} {y : Value} {n : Nat} {pre : List (Addr × Obj)} {pl : Sem Bool} {Q : Value → Shared → Prop}
    (h : wpAny (model prg w) A (eval o env) (fun ov s₁ => ov = .ref D ∧ St X g₀ s₀ L g s₁ m (pre ++ (D, lstO (its ++ [y]) n) :: ow) ∧ its.length ≤ 400 ∧ ∀ s' n', St X g₀ s₀ L g s' m (pre ++ (D, lstO its n') :: ow) → Q y s') E s)
    (he : eval (.Call (.Attribute o "pop" apos) [] [] pos) env = (do
      let ov ← eval o env
      standAt apos.atName
      let (f, first) ← holding [ov] (getMethod ov "pop" pl)
      callWith pos f first (backTo pos (starEach [] env)) (backToKw pos (keywordEach [] env))) := by rfl) : wpAny (model prg w) A (eval (.Call (.Attribute o "pop" apos) [] [] pos) env) Q E s := by
  refine methodCall_KW (wpAny_mono h (fun ov s₁ h₁ => ?_) fun _ _ x => x) he
  obtain ⟨rfl, S, hz, hQ⟩ := h₁
  have hm := S.get (List.mem_append.mpr (.inr (.head _)))
  obtain ⟨n', e⟩ := mapSeq_pop its y n
  refine getMethod_list_of PySem.F.slot_list_pop rfl (isList_of hm) ⟨_, hm, rfl⟩ (PySem.P.pop_list (items := (its ++ [y]).toArray) (y := y) hm (by simp) ?_ (by simp; exact sl (by omega)))
  exact hQ _ n' (S.upd (Heap.SameBut.update ..) ((Heap.get?_update_self _ hm (by rw [e]; rfl)).trans (by rw [e])))
theorem xWhile {test : Expr} {body rest : List Stmt} {pos : PySem.Pos} {Q : Flow → Shared → Prop} (I : Nat → Shared → Prop) (n : Nat) (h0 : I n s)
    (turn : ∀ n s, I n s → wpAny (model prg w) A (isTrue test env (eval test env)) (fun b s₂ => if b then wpAny (model prg w) A (execs body env) (fun f s₃ => match f with
      | .next | .cont => ∃ k, k < n ∧ I k s₃
      | .brk => wpAny (model prg w) A (execs rest env) Q E s₃
      | .ret v => Q (.ret v) s₃) (fun _ _ => False) s₂
      else wpAny (model prg w) A (execs rest env) Q E s₂) (fun _ _ => False) s) : wpAny (model prg w) A (execs (.While test body [] pos :: rest) env) Q E s := by
  refine wpAny_execs_cons (wpAny_While (codeAny_whileLoop I (fun n s hI => ?_) n h0))
  refine wpAny_noRaise (wpAny_mono (turn n s hI) (fun b s₂ h₂ => ?_) fun _ _ x => x)
  cases b with
  | true =>
    rw [if_pos rfl] at h₂ ⊢
    refine wpAny_noRaise (wpAny_mono h₂ (fun f s₃ h₃ => ?_) fun _ _ x => x)
    cases f with
    | next => exact h₃
    | cont => exact h₃
    | brk => exact h₃
    | ret v => exact h₃
  | false =>
    rw [if_neg Bool.false_ne_true] at h₂ ⊢
    exact xNil h₂
theorem xTup2 {x y : Str} {px py pt pos : PySem.Pos} {c : Nat} {value : Expr} {rest : List Stmt} {Q : Flow → Shared → Prop} (hh : A.handled = none)
    (h : wpAny (model prg w) A (eval value env) (fun v s₁ => ∃ a v1 v2 g₁ m₁ ow₁, v = .ref a ∧ IsTup g₁ a [v1, v2].toArray ∧ St X g₀ s₀ L g₁ s₁ m₁ ow₁ ∧ ∀ s', St X g₀ s₀ L g₁ s' (upd (upd m₁ x v1) y v2) ow₁ → wpAny (model prg w) A (execs rest env) Q E s') E s)
    (hL : env.locals = L := by rfl) (hk : env.scope.kind = .function := by rfl) (hlx : env.kindOf x = some .local := by rfl) (hly : env.kindOf y = some .local := by rfl)
    (hs : swapsWithSole [.Tuple [.Name x px, .Name y py] c pt] value pos.line env = pure false := by rfl) (hw : swappedStores [.Tuple [.Name x px, .Name y py] c pt] value env = pure none := by rfl) :
    wpAny (model prg w) A (execs (.Assign [.Tuple [.Name x px, .Name y py] c pt] value pos :: rest) env) Q E s := by
  refine wpAny_execs_cons (wpAny_Assign_stores (wpAny_mono h (fun v s₁ h₁ => ?_) fun _ _ z => z) hs hw)
  obtain ⟨a, v1, v2, g₁, m₁, ow₁, rfl, ht, S, hQ⟩ := h₁
  refine assign_Tuple_tuple (x1 := c) hh (IsTup.mono S.in_ ht) rfl rfl fun h' hx => ?_
  have S' := S.kept (h' := h') (tk := s₁.toks) fun b o e => hx b o (Nat.ne_of_lt (Heap.lt_size e)) e
  refine wpAny_assignInOrder_more (wpAny_assign_Name (stL S' (fun s₂ S₂ => ?_) hL hk hlx))
  refine wpAny_assignInOrder_more (wpAny_assign_Name (stL S₂ (fun s₃ S₃ => ?_) hL hk hly))
  exact wpAny_assignInOrder_none (hQ s₃ S₃)
end
end Mine
namespace Mine
theorem szS_one (x : T × Plc) : szS [x] = x.1.sz := by unfold szS; simp
noncomputable abbrev restP (st : List (T × Plc)) : List Plc := st.reverse.flatMap fun x => leafP x.1 x.2
theorem restP_snoc (st : List (T × Plc)) (x : T × Plc) : restP (st ++ [x]) = leafP x.1 x.2 ++ restP st := by
  unfold restP; rw [List.reverse_append, List.reverse_singleton, List.singleton_append, List.flatMap_cons]
theorem restP_kids (st : List (T × Plc)) (cs : List T) (p : Plc) : restP (st ++ (kidP cs 0 p).reverse) = leafPL cs 0 p ++ restP st := by
  unfold restP; rw [List.reverse_append, List.reverse_reverse, List.flatMap_append, kidP_leaf]
theorem rangeSize_down (n : Nat) : Builtin.Range.rangeSize ((n : Int) - 1) (-1) (-1) = (n : Int) := by
  unfold Builtin.Range.rangeSize
  rw [if_neg (by decide)]
  have e : -(-1 : Int) = 1 := rfl
  rw [e, Int.ediv_one]
  split <;> omega
theorem small_down {n : Nat} (h : n ≤ 1000) : Builtin.Range.small ((n : Int) - 1) (-1) (-1) = true := by
  unfold Builtin.Range.small
  rw [rangeSize_down]
  simp only [Builtin.Range.rangeFitsLong, Bool.and_eq_true, Bool.or_eq_true, decide_eq_true_eq, beq_iff_eq, show ¬ ((-1 : Int) > 0) by decide, if_false]
  omega
section
variable {w : World} {mg mb : Str → Option Value} {M : Model} {A : Around} {E : Value → Shared → Prop} {X : List Addr} {g₀ g : Heap} {s₀ s : Shared} {L : Addr} {m : Str → Option Value} {ow : List (Addr × Obj)} {env : Env} {fs : List Env}
theorem loopDown {target : Expr} {body : List Stmt} {n : Nat} {t u v : Tok} {R : Result → Shared → Prop}
    (hh : A.handled = none) (S : St X g₀ s₀ L g s m ow) (hsz : n ≤ 1000)
    (J : Nat → Heap → (Str → Option Value) → List (Addr × Obj) → Prop) (h0 : ∀ g', Sub g g' → J 0 g' m ow)
    (turn : ∀ i tk it oi g' s' m' ow', i < n → Sub g g' → J i g' m' ow' → it ∉ X → St X g₀ s₀ L g' s' m' ((it, oi) :: ow') →
      wpAny (model prg w) A (letOwnedTupleGo target (.ref it) (.int ((n : Int) - 1 - i) tk)) (fun _ s₁ => wpAny (model prg w) A (assign target env (.int ((n : Int) - 1 - i) tk)) (fun _ s₂ => wpAny (model prg w) A (execs body env) (fun f s₃ => match f with
        | .next | .cont => ∃ g₃ m₃ ow₃, Sub g' g₃ ∧ St X g₀ s₀ L g₃ s₃ m₃ ((it, oi) :: ow₃) ∧ J (i + 1) g₃ m₃ ow₃
        | .brk => R (.ok .next) s₃
        | .ret v => R (.ok (.ret v)) s₃) (fun _ _ => False) s₂) (fun _ _ => False) s₁) (fun _ _ => False) s')
    (done : ∀ g' s' m' ow', Sub g g' → J n g' m' ow' → St X g₀ s₀ L g' s' m' ow' → R (.ok .next) s') :
    wpAny (model prg w) A (call (.type "range") [.int ((n : Int) - 1) t, .int (-1) u, .int (-1) v]) (fun r s₁ => wpAny (model prg w) A (pyIter r) (fun it s₂ => codeAny (model prg w) A (.forLoop target it body [] env) R s₂) E s₁) E s := by
  refine call_range_3 (by decide) ?_ (Or.inl (PyProof.noPylong_small (by decide)))
  have S' := S.push { cls := .type "range", data := .fields #[.int ((n : Int) - 1) t, .int (-1) u, .int (-1) v] }
  obtain ⟨g₁, k, e, _, S₁⟩ := S'.freeze (fun hm => by have := S.xin _ hm; rw [get_push_size_none] at this; cases this)
  generalize s.heap.objs.size = r at *
  refine wpAny_pyIter_range (S₁.in_ _ _ e) (small_down hsz) ?_
  rw [rangeSize_down]
  have S₂ := S₁.push { cls := .type "range_iterator", data := .fields #[rawInt ((n : Int) - 1), rawInt (n : Int), rawInt (-1)] }
  have hX' : ∀ b, ({ s with heap := s.heap.push { cls := .type "range", data := .fields #[.int ((n : Int) - 1) t, .int (-1) u, .int (-1) v] }, toks := s.toks } : Shared).heap.get? b = none → b ∉ X := fun b hb hm => by
    have y := S₁.xin _ hm
    dsimp only at hb y
    rw [hb] at y; cases y
  refine loopW (Walks.range hh _ ((n : Int) - 1) (-1) n) (fun i h st => ⟨_, st⟩) S₂ (hX' _ (get_push_size_none _)) (by show IsRangeIter _ _ ((n : Int) - 1 + ((0 : Nat) : Int) * -1) ((n : Int) - ((0 : Nat) : Int)) (-1); rw [show ((n : Int) - 1 + ((0 : Nat) : Int) * -1) = (n : Int) - 1 by omega, show ((n : Int) - ((0 : Nat) : Int)) = n by omega]; exact Heap.get?_push_size _ rfl) (fun b hb => .inl (List.mem_singleton.mp hb)) J (h0 _ k) ?_ ?_
  · rintro i v it oi' g' s' m' ow' hi ⟨tk, rfl⟩ hg hJ hit S₃
    rw [show (n : Int) - 1 + (i : Nat) * -1 = (n : Int) - 1 - i by omega]
    exact turn i tk it oi' g' s' m' ow' hi (k.trans hg) hJ hit S₃
  · intro g' s' m' ow' hg hJ S₃
    exact done g' s' m' ow' (k.trans hg) hJ S₃
end
end Mine
namespace Mine
theorem last_of {α : Type} : ∀ (l : List α), l = [] ∨ ∃ l' x, l = l' ++ [x]
  | [] => .inl rfl
  | a :: l => .inr (by
    rcases last_of l with rfl | ⟨l', x, rfl⟩
    · exact ⟨[], a, rfl⟩
    · exact ⟨a :: l', x, rfl⟩)
section
variable {w : World} {mg mb : Str → Option Value} {M : Model} {A : Around} {E : Value → Shared → Prop} {X : List Addr} {g₀ g : Heap} {s₀ s : Shared} {L : Addr} {m : Str → Option Value} {ow : List (Addr × Obj)} {env : Env} {fs : List Env}
theorem mkTup' {vs : List Value} {Q : Value → Shared → Prop} (S : St X g₀ s₀ L g s m ow) (hsz : vs.length ≤ sizeLine)
    (h : ∀ a g' s', Sub g g' → IsTup g' a vs.toArray → St X g₀ s₀ L g' s' m ow → Q (.ref a) s') : wpAny M A (newTuple vs) Q E s := by
  refine wpAny_newObj_type ?_ (by show vs.toArray.size ≤ sizeLine; rw [List.size_toArray]; exact hsz)
  have S' := S.push (tupO vs)
  obtain ⟨g', k, e, _, S''⟩ := S'.freeze fun hm => by have := S.xin _ hm; rw [get_push_size_none] at this; cases this
  exact h _ g' _ k (isTup_of e) S''
theorem ltp_spec {t : T} {lab : Sym} {cs : List T} (ht : t = .node lab cs) (hn : t.Small 6) {A : Around} {g : Heap} {s : Shared} {v : Value} {as : List Addr} {i : Int} {u : Tok} {R : Result → Shared → Prop}
    (hr : Room A 4) (hA : A.frames = some fs) (hF : HF fs s.heap) (G : Amb w mg mb g) (hs : Sub g s.heap) (hT : IsT g v t as)
    (hR1 : ∀ p u s' g', leafAt t i = some p → Grow [] g s g' s' → Rd g' u (posD p) → R (.ok (.ret u)) s') (hR2 : ∀ v s', leafAt t i = none → Thrown fs (.type "IndexError") s v s' → R (.error v) s') :
    codeAny (model prg w) A (.call (.ref 259) ⟨[v, .int i u], []⟩) R s := by
  refine enterX (ow := []) G hs hr (fun p hp => nomatch hp) List.nodup_nil (by k_is) (by k_is) (BindsTo.of_eq rfl) (locs rfl) ?_ rfl rfl rfl (by decide)
  intro L s₁ S
  try k_fold
  have hA' : ∀ env, (A.deeper env).frames = some (env :: fs) := fun env => Around.frames_deeper hA
  have S : St [] g s L g s₁ _ [] := S
  refine xIf (wpAny_isTrue_Compare1 (nmL S (v := .int i u) rfl (wpAny_Constant_int (tLtI ?_))))
  have S₁ := S.toks (s₁.toks + 1)
  by_cases hneg : i < 0
  · rw [decide_eq_true hneg]
    refine itT (xRaise PySem.F.excCall_IndexError PySem.F.excRaise_IndexError hr.1 G S₁ gIdx bIdx (arg1 (wpAny_Constant_str (arg0 ⟨sl (by simp), fun h' e hx => ?_⟩))))
    exact leaveMade (S₁.toks _) hx hF (hA' _) rfl rfl fun s' T => hR2 _ _ (if_pos hneg) T
  rw [decide_eq_false hneg]
  refine itF (xNil (thenNext ?_))
  refine xAsn (eLst (arg1 (eTup (arg1 (nmL S₁ (v := v) rfl (arg1 (eTup (arg0 ?_))))))))
  refine mkTup S₁ .nil (sl (by simp)) fun z g₂ s₂ k₂ r₂ S₂ => arg0 ?_
  refine mkTup' S₂ (sl (by simp)) fun a g₃ s₃ k₃ ht₃ S₃ => arg0 ?_
  refine mkLst S₃ (sl (by simp)) fun D s₄ S₄ hD => ?_
  refine stL S₄ fun s₄ S₄ => ?_
  have kk₃ := k₂.trans k₃
  obtain ⟨k0, hk0⟩ := Int.eq_ofNat_of_zero_le (Int.not_lt.mp hneg)
  subst hk0
  have hla : leafAt t ((k0 : Nat) : Int) = (leafP t [])[k0]? := by unfold leafAt; rw [if_neg hneg]; rfl
  refine xWhile (fun n s' => ∃ g' st its n1 k kt m', Sub g g' ∧ St [] g s L g' s' m' [(D, lstO its n1)] ∧ m' "stack" = some (.ref D) ∧ m' "index" = some (.int ((k : Nat) : Int) kt) ∧ All2 (IsSP g') its st ∧
    (restP st)[k]? = leafAt t k0 ∧ (∀ x ∈ st, x.2.length + x.1.ht ≤ 100) ∧ szS st ≤ 400 ∧ n = szS st) (szS [(t, [])])
    ⟨g₃, [(t, [])], _, _, k0, _, _, kk₃, S₄, rfl, rfl, .cons ⟨a, v, z, as, rfl, ht₃, hT.mono kk₃, r₂.mono k₃⟩ .nil, by rw [hla]; simp [restP], by
      intro x hx; rw [List.mem_singleton.mp hx]; have := hn.ht; simp only [List.length_nil]; omega, by rw [szS_one]; exact hn.sz, rfl⟩ ?_
  rintro n s₅ ⟨g', st, its, n1, k, kt, m', hg, S₅, hm1, hm2, hI, hk, hlen, hsz, rfl⟩
  have G' := G.keeps hg
  have hil := hI.length
  have hsl := szS_len st
  refine wpAny_isTrue_value (nmL S₅ (v := .ref D) hm1 (wpAny_truthy_list (isList_of (S₅.get (.head _))) (by rw [List.size_toArray]; omega) ?_))
  have S₅ := S₅.toks (s₅.toks + 1 + 1)
  rcases last_of st with rfl | ⟨st', x, rfl⟩
  · have hi0 : its = [] := List.length_eq_zero_iff.mp hil
    subst hi0
    refine itF ?_
    refine xRaise PySem.F.excCall_IndexError PySem.F.excRaise_IndexError hr.1 G' S₅ gIdx bIdx (arg1 (wpAny_Constant_str (arg0 ⟨sl (by simp), fun h' e hx => ?_⟩)))
    refine leaveMade (S₅.toks _) hx hF (hA' _) rfl rfl fun s' T => hR2 _ _ ?_ T
    rw [← hk]; simp [restP]
  obtain ⟨ws, y, rfl, hI', hxy⟩ := All2.snoc hI
  obtain ⟨a5, v1, v2, bs, rfl, ht5, hT5, hr5⟩ := hxy
  obtain ⟨tx, px⟩ := x
  dsimp only at hT5 hr5
  rw [restP_snoc] at hk
  rw [szS_app, szS_one] at hsz
  have hlx := hlen (tx, px) (List.mem_append.mpr (.inr (.head _)))
  dsimp only at hk hsz hlx
  have hsx : szS (st' ++ [(tx, px)]) = szS st' + tx.sz := by rw [szS_app, szS_one]
  rw [show (!(ws ++ [Value.ref a5]).toArray.isEmpty) = true from by simp]
  refine itT ?_
  try k_fold
  have hwl : ws.length ≤ 400 := by have := hI'.length; have := szS_len st'; omega
  refine xTup2 hr.1 (popL (pre := []) (nmL S₅ (v := .ref D) hm1 ⟨rfl, S₅, hwl, fun s₆ n₆ S₆ => ⟨a5, v1, v2, g', _, _, rfl, ht5, S₆, fun s₇ S₇ => ?_⟩⟩))
  refine xIf (wpAny_isTrue_Not (tIsiT G' S₇ (nmL S₇ (v := v1) rfl ⟨_, S₇, ?_⟩)))
  cases hT5 with
  | leaf yy uu =>
    refine isiT_leaf G' S₇ fun s₈ S₈ => ⟨_, rfl, itT ?_⟩
    refine xIf (wpAny_isTrue_Compare1 (nmL S₈ (v := .int ((k : Nat) : Int) kt) hm2 (wpAny_Constant_int (tEqI ?_))))
    have S₈ := S₈.toks (s₈.toks + 1)
    rw [leafP] at hk
    cases k with
    | zero =>
      refine itT (xRet (nmL S₈ (v := v2) rfl (thenRet (thenRet ?_))))
      exact hR1 px _ _ _ (by rw [← hk]; rfl) S₈.grow hr5
    | succ k =>
      rw [show ((((k + 1 : Nat) : Int)) == 0) = false from by rw [beq_eq_false_iff_ne]; omega]
      refine itF (wpAny_execs_cons (wpAny_AugAssign_Name (wpAny_loadName_local rfl rfl S₈.ns (v := .int ((k + 1 : Nat) : Int) kt) hm2 (wpAny_Constant_int (AutoIntOps.isub_0 ?_)))))
      have S₉ := (S₈.toks (s₈.toks + 1 + 1)).toks (s₈.toks + 1 + 1 + 1)
      refine stL S₉ fun s₁₀ S₁₀ => ?_
      refine xNil (thenNext (xNil (thenNext (xNil ⟨szS st', by rw [hsx, T.sz]; omega, g', st', ws, _, k, _, _, hg, S₁₀, hm1, upd_int (by omega), hI', ?_, fun x hx => hlen x (List.mem_append.mpr (.inl hx)), by omega, rfl⟩))))
      rw [← hk]; rfl
  | @node x2 dx2 l2 _ _ _ _ _ _ _ lab2 vs2 cs2 as2 a1 b1 c1 d1 =>
    have hT5 : IsT g' (.ref x2) (.node lab2 cs2) _ := .node a1 b1 c1 d1
    refine isiT_node G' S₇ (instT S₇.in_ a1 b1) fun s₈ S₈ => ⟨_, rfl, itF ?_⟩
    have hcl : cs2.length ≤ 400 := by have := szL_len cs2; rw [T.sz] at hsz; omega
    refine xFor (tyG G' S₈ gRange bRange (arg1 (wpAny_BinOp (biG G' S₈ gLen bLen (arg1 (nmL S₈ (v := .ref x2) rfl (arg0 ?_)))))))
    refine lenV (n := 0) (hr.deeper.le (by omega)) G' S₈ hT5 hcl fun tk₉ g₉ s₉ k₉ S₉ => wpAny_Constant_int (sub_int ?_)
    have S₉ := (S₉.toks (s₉.toks + 1)).toks (s₉.toks + 1 + 1)
    refine arg1 (wpAny_UnaryOp (wpAny_Constant_int (neg_int ?_)))
    have S₉ := (S₉.toks (s₉.toks + 1 + 1 + 1)).toks (s₉.toks + 1 + 1 + 1 + 1)
    refine arg1 (wpAny_UnaryOp (wpAny_Constant_int (neg_int (arg0 ?_))))
    have S₉ := (S₉.toks (s₉.toks + 1 + 1 + 1 + 1 + 1)).toks (s₉.toks + 1 + 1 + 1 + 1 + 1 + 1)
    have G₉ := G'.keeps k₉
    refine loopDown hr.1 S₉ (by omega) (fun j g'' m'' ow'' => m'' "stack" = some (.ref D) ∧ m'' "index" = some (.int ((k : Nat) : Int) kt) ∧ m'' "value" = some (.ref x2) ∧ m'' "treepos" = some v2 ∧
      ∃ its n, ow'' = [(D, lstO its n)] ∧ All2 (IsSP g'') its (st' ++ (kidP cs2 0 px).reverse.take j)) (fun g'' h => ⟨hm1, hm2, rfl, rfl, _, _, rfl, by rw [List.take_zero, List.append_nil]; exact hI'.imp fun _ _ z => IsSP.mono (k₉.trans h) z⟩) ?_ ?_
    · rintro i tki it oi g'' s'' m'' ow'' hi hg2 ⟨hn1, hn2, hn3, hn4, its2, n2, rfl, hJ⟩ hit S'
      have ei : (cs2.length : Int) - 1 - i = ((cs2.length - 1 - i : Nat) : Int) := by omega
      rw [ei]
      refine wpAny_pure ?_
      refine wpAny_assign_Name (stL S' fun s₁₀ S₁₀ => ?_)
      try k_fold
      have kk := k₉.trans hg2
      have G'' := G'.keeps kk
      obtain ⟨c, hc⟩ : ∃ c, cs2[cs2.length - 1 - i]? = some c := ⟨_, List.getElem?_eq_getElem (by omega)⟩
      refine xExpr (meList (name := "append") (nmL S₁₀ (v := .ref D) hn1 ⟨D, its2, n2, rfl, S₁₀.get (.tail _ (.head _)), ?_⟩) PySem.F.slot_list_append rfl)
      refine arg1 (eTup (arg1 (Subscript_ (nmL S₁₀ (v := .ref x2) hn3 (nmL S₁₀ rfl ?_)))))
      refine itemV (n := 0) (hr.deeper.le (by omega)) G'' S₁₀ (hT5.mono kk) hc hcl fun cv cas g₁₁ s₁₁ k₁₁ hcI S₁₁ => ?_
      refine arg1 (plcAdd S₁₁ (v := v2) (p := px) hn4 rfl ((hr5.mono kk).mono k₁₁) (by omega) fun pv g₁₂ s₁₂ k₁₂ r₁₂ S₁₂ => arg0 ?_)
      refine mkTup' S₁₂ (sl (by simp)) fun ta g₁₃ s₁₃ k₁₃ ht₁₃ S₁₃ => arg0 ?_
      have kf := k₁₁.trans (k₁₂.trans k₁₃)
      have hits : its2.length ≤ 800 := by
        have h1 := hJ.length
        rw [List.length_append, List.length_take, List.length_reverse, kidP_len] at h1
        have := szS_len st'
        omega
      refine appendL (pre := [(it, oi)]) (ow := []) S₁₃ (sl (by omega)) fun s₁₄ S₁₄ => ⟨rfl, ?_⟩
      refine xNil ⟨g₁₃, _, _, kf, S₁₄, hn1, hn2, hn3, hn4, _, _, rfl, ?_⟩
      rw [take_snoc (x := (c, px ++ [cs2.length - 1 - i])) (by rw [List.getElem?_reverse (by rw [kidP_len]; exact hi), kidP_len, kidP_get, hc]; simp), ← List.append_assoc]
      exact All2.append (.cons ⟨ta, cv, pv, cas, rfl, ht₁₃, hcI.mono kf, r₁₂.mono k₁₃⟩ .nil) (hJ.imp fun _ _ z => IsSP.mono kf z)
    · rintro g'' s'' m'' ow'' hg2 ⟨hn1, hn2, hn3, hn4, its2, n2, rfl, hJ⟩ S'
      rw [List.take_of_length_le (by rw [List.length_reverse, kidP_len]; exact Nat.le_refl _)] at hJ
      have es : szS (st' ++ (kidP cs2 0 px).reverse) = szS st' + T.szL cs2 := by rw [szS_app, szS_rev, szS_kid]
      refine thenNext (xNil (thenNext (xNil ⟨szS (st' ++ (kidP cs2 0 px).reverse), by rw [es, hsx, T.sz]; omega, g'', _, its2, n2, k, kt, m'', hg.trans (k₉.trans hg2), S', hn1, hn2, hJ, ?_, ?_, by rw [es]; rw [T.sz] at hsz; omega, rfl⟩)))
      · rw [restP_kids, ← hk]; rw [leafP]
      · intro x hx
        rcases List.mem_append.mp hx with hx | hx
        · exact hlen x (List.mem_append.mpr (.inl hx))
        · obtain ⟨j, hj⟩ := List.mem_iff_getElem?.mp (List.mem_reverse.mp hx)
          rw [kidP_get] at hj
          obtain ⟨c, hc, rfl⟩ := Option.map_eq_some_iff.mp hj
          have := htL_le hc
          rw [T.ht] at hlx
          simp only [List.length_append, List.length_singleton]
          omega
end
end Mine
namespace Mine
noncomputable def cpref : Plc → Plc → Plc
  | [], _ => []
  | _ :: _, [] => []
  | i :: p, j :: q => if i = j then i :: cpref p q else []
theorem cpref_stop : ∀ (i : Nat) (p q : Plc), p.take i = q.take i → i < p.length → i ≤ q.length → (i = q.length ∨ p[i]? ≠ q[i]?) → cpref p q = p.take i
  | 0, [], q, _, h, _, _ => by simp at h
  | 0, a :: p, [], _, _, _, _ => rfl
  | 0, a :: p, b :: q, _, _, _, h => by
    rw [cpref, if_neg (by rcases h with h | h; simp at h; simpa using h)]; rfl
  | i + 1, [], q, _, h, _, _ => by simp at h
  | i + 1, a :: p, [], _, _, h, _ => by simp at h
  | i + 1, a :: p, b :: q, e, h1, h2, h => by
    rw [List.take_succ_cons, List.take_succ_cons, List.cons.injEq] at e
    rw [cpref, if_pos e.1, List.take_succ_cons, cpref_stop i p q e.2 (by simpa using h1) (by simpa using h2) (by simpa using h)]
theorem cpref_all : ∀ (p q : Plc), p = q.take p.length → cpref p q = p
  | [], q, _ => by rw [cpref]
  | a :: p, [], h => by simp at h
  | a :: p, b :: q, h => by
    rw [List.length_cons, List.take_succ_cons, List.cons.injEq] at h
    rw [cpref, if_pos h.1, cpref_all p q h.2]
theorem cut_nat (n i : Nat) (h : i ≤ n) : cut n (i : Int) = i := by
  unfold cut; rw [if_neg (Int.not_lt.mpr (Int.natCast_nonneg i)), Int.min_eq_left (Int.ofNat_le.mpr h)]; rfl
mutual
theorem leafP_len : ∀ (t : T) (p : Plc) (q : Plc), q ∈ leafP t p → q.length + 1 ≤ p.length + t.ht
  | .leaf _, p, q, h => by
    rw [leafP] at h; rw [List.mem_singleton.mp h, T.ht]; exact Nat.le_refl _
  | .node _ cs, p, q, h => by
    rw [leafP] at h
    rw [T.ht]
    have := leafPL_len cs 0 p q h
    omega
theorem leafPL_len : ∀ (cs : List T) (k : Nat) (p q : Plc), q ∈ leafPL cs k p → q.length + 1 ≤ p.length + 1 + T.htL cs
  | [], k, p, q, h => by rw [leafPL] at h; cases h
  | t :: ts, k, p, q, h => by
    rw [leafPL] at h
    rw [T.htL]
    rcases List.mem_append.mp h with h | h
    · have := leafP_len t (p ++ [k]) q h
      simp only [List.length_append, List.length_singleton] at this
      omega
    · have := leafPL_len ts (k + 1) p q h
      omega
end
theorem leafAt_len {t : T} {i : Int} {p : Plc} (h : leafAt t i = some p) : p.length + 1 ≤ t.ht := by
  unfold leafAt at h
  split at h
  · cases h
  · have := leafP_len t [] p (List.mem_of_getElem? h)
    simpa using this
section
variable {w : World} {mg mb : Str → Option Value} {M : Model} {A : Around} {E : Value → Shared → Prop} {X : List Addr} {g₀ g : Heap} {s₀ s : Shared} {L : Addr} {m : Str → Option Value} {ow : List (Addr × Obj)} {env : Env} {fs : List Env}
theorem span_spec {t : T} {lab : Sym} {cs : List T} (ht : t = .node lab cs) (hn : t.Small 6) {A : Around} {g : Heap} {s : Shared} {v : Value} {as : List Addr} {a b : Int} {ua ub : Tok} {R : Result → Shared → Prop}
    (hr : Room A 6) (hA : A.frames = some fs) (hF : HF fs s.heap) (G : Amb w mg mb g) (hs : Sub g s.heap) (hT : IsT g v t as)
    (hR1 : ∀ p q u s' g', ¬ b ≤ a → leafAt t a = some p → leafAt t (b - 1) = some q → Grow [] g s g' s' → Rd g' u (posD (cpref p q)) → R (.ok (.ret u)) s') (hR2 : ∀ v s', b ≤ a → Thrown fs (.type "ValueError") s v s' → R (.error v) s')
    (hR3 : ∀ v s', ¬ b ≤ a → (leafAt t a = none ∨ leafAt t (b - 1) = none) → Thrown fs (.type "IndexError") s v s' → R (.error v) s') :
    codeAny (model prg w) A (.call (.ref 266) ⟨[v, .int a ua, .int b ub], []⟩) R s := by
  refine enterX (ow := []) G hs hr (fun p hp => nomatch hp) List.nodup_nil (by k_is) (by k_is) (BindsTo.of_eq rfl) (locs rfl) ?_ rfl rfl rfl (by decide)
  intro L s₁ S
  try k_fold
  have hA' : ∀ env, (A.deeper env).frames = some (env :: fs) := fun env => Around.frames_deeper hA
  have S : St [] g s L g s₁ _ [] := S
  refine xIf (wpAny_isTrue_Compare1 (nmL S (v := .int b ub) rfl (nmL S (v := .int a ua) rfl (PyProof.Rows.le_int (wpAny_truthy_bool ?_)))))
  by_cases hba : b ≤ a
  · rw [decide_eq_true hba]
    refine itT (xRaise PySem.F.excCall_ValueError PySem.F.excRaise_ValueError hr.1 G S gVal bVal (arg1 (wpAny_Constant_str (arg0 ⟨sl (by simp), fun h' e hx => ?_⟩))))
    exact leaveMade (S.toks _) hx hF (hA' _) rfl rfl fun s' T => hR2 _ _ hba T
  rw [decide_eq_false hba]
  refine itF (xNil (thenNext ?_))
  subst ht
  obtain ⟨x, dx, l, h1, h2, t1, t2, tk, n', rfl, hx, hd⟩ := isT_node_of hT
  refine xAsn (meCall (a := 259) (K := Mine.hd.heap_1 w.params) (nmL S (v := .ref x) rfl (methT G S (instT S.in_ hx hd) (by k_is) (by k_is) (by rfl) ⟨rfl, ?_⟩)) (by k_is))
  refine arg1 (nmL S (v := .int a ua) rfl (arg0 ⟨(G.keeps S.in_).K, ?_⟩))
  have hF₁ : ∀ env : Env, env.frame = some L → env.scope.kind = .function → HF (env :: fs) s₁.heap := fun env h1 h2 => hF.push (fun b o e => S.grow.keep b o (fun h => nomatch h) e) S.ns S.newL h1 h2
  refine wpAny_call (ltp_spec rfl hn ((hr.le (by omega)).deeper) (hA' _) (hF₁ _ rfl rfl) G S.in_ hT (fun p u s₂ g₂ hp gr rp => ?_) fun e s' he T => leaveOn S T (hA' _) rfl fun s'' T' => hR3 _ _ hba (.inl he) T')
  have S₂ := S.call gr
  refine stL S₂ fun s₂ S₂ => ?_
  have G₂ := G.keeps gr.sub
  refine xAsn (meCall (a := 259) (K := Mine.hd.heap_1 w.params) (nmL S₂ (v := .ref x) rfl (methT G₂ S₂ (instT S₂.in_ (gr.sub _ _ hx) (gr.sub _ _ hd)) (by k_is) (by k_is) (by rfl) ⟨rfl, ?_⟩)) (by k_is))
  refine arg1 (wpAny_BinOp (nmL S₂ (v := .int b ub) rfl (wpAny_Constant_int (sub_int (arg0 ⟨(G₂.keeps S₂.in_).K, ?_⟩)))))
  have S₂ := (S₂.toks (s₂.toks + 1)).toks (s₂.toks + 1 + 1)
  have hF₂ : ∀ env : Env, env.frame = some L → env.scope.kind = .function → HF (env :: fs) s₂.heap := fun env h1 h2 => hF.push (fun b o e => S₂.grow.keep b o (fun h => nomatch h) e) S₂.ns S₂.newL h1 h2
  refine wpAny_call (ltp_spec rfl hn ((hr.le (by omega)).deeper) (hA' _) (hF₂ _ rfl rfl) G₂ S₂.in_ (hT.mono gr.sub) (fun q u' s₃ g₃ hq gr₃ rq => ?_) fun e s' he T => leaveOn S₂ T (hA' _) rfl fun s'' T' => hR3 _ _ hba (.inr he) T')
  have S₃ := S₂.call gr₃
  refine stL S₃ fun s₃ S₃ => ?_
  have rp := rp.mono gr₃.sub
  have G₃ := G₂.keeps gr₃.sub
  have hpl := leafAt_len hp
  have hql := leafAt_len hq
  have hh6 := hn.ht
  have hpz : (p.map fun i => PyData.int (i : Nat)).length = p.length := List.length_map ..
  have hqz : (q.map fun i => PyData.int (i : Nat)).length = q.length := List.length_map ..
  refine xFor (tyG G₃ S₃ gRange bRange (arg1 (biG G₃ S₃ gLen bLen (arg1 (nmL S₃ (v := u) rfl (arg0 ?_))))))
  refine lenT S₃ rp (sl' hpz (by omega)) fun tk₄ s₄ S₄ => arg0 ?_
  rw [hpz]
  refine mkRange S₄ fun r t₁ t₂ g₅ s₅ k₅ hrg S₅ => ?_
  have G₅ := G₃.keeps k₅
  refine loopR hr.1 S₅ hrg (sl (by omega)) (fun i g' m' ow' => ow' = [] ∧ m' "start_treepos" = some u ∧ m' "end_treepos" = some u' ∧ p.take i = q.take i ∧ i ≤ q.length) ⟨rfl, rfl, rfl, rfl, Nat.zero_le _⟩ ?_ ?_
  · rintro i tki it oi g' s' m' ow' hi hg ⟨rfl, hm1, hm2, he, hiq⟩ hit S'
    try (show wpAny _ _ _ _ _ _; k_fold)
    refine wpAny_pure ?_
    refine wpAny_assign_Name (stL S' fun s₆ S₆ => ?_)
    have G' := G₅.keeps hg
    have kk := k₅.trans hg
    have rp' := rp.mono kk
    have rq' := rq.mono kk
    obtain ⟨pi, hpi⟩ : ∃ x, p[i]? = some x := ⟨_, List.getElem?_eq_getElem hi⟩
    refine xIf (wpAny_isTrue_BoolOp (wpAny_allTrue_Or_cons (wpAny_isTrue_Compare1 (nmL S₆ (v := .int (i : Nat) tki) rfl (biG G' S₆ gLen bLen (arg1 (nmL S₆ (v := u') hm2 (arg0 ?_))))))))
    refine lenT S₆ rq' (sl' hqz (by omega)) fun tk₇ s₇ S₇ => tEqI ?_
    rw [hqz]
    have ret : ∀ s₈, St [] g s L g' s₈ (upd m' "k" .none) [(it, oi)] → True := fun _ _ => trivial
    by_cases hiq' : i = q.length
    · rw [show (((i : Nat) : Int) == (q.length : Nat)) = true from by rw [hiq']; simp]
      refine itT (itT (xRet (sliceUpto (nmL S₇ (v := u) hm1 (nmL S₇ (v := .int (i : Nat) tki) rfl ⟨_, g', _, _, rfl, rp', by rw [hpz]; exact sl (by omega), S₇, fun z g₉ s₉ k₉ r₉ S₉ => ?_⟩)))))
      rw [hpz, cut_nat _ _ (by omega), ← List.map_take] at r₉
      exact hR1 p q _ _ _ hba hp hq S₉.grow (by rw [cpref_stop i p q he hi hiq (.inl hiq')]; exact r₉)
    · rw [show (((i : Nat) : Int) == (q.length : Nat)) = false from by rw [beq_eq_false_iff_ne]; omega]
      refine itF (wpAny_allTrue_Or_cons (wpAny_isTrue_Compare1 (Subscript_ (nmL S₇ (v := u) hm1 (nmL S₇ (v := .int (i : Nat) tki) rfl ?_)))))
      obtain ⟨qi, hqi⟩ : ∃ x, q[i]? = some x := ⟨_, List.getElem?_eq_getElem (by omega)⟩
      refine itRdT S₇ rp' (by omega) (d := .int (pi : Nat)) (by simp [hpi]) (by omega) fun z1 rz1 => ?_
      obtain ⟨w1, rfl⟩ := rz1.asInt
      refine Subscript_ (nmL S₇ (v := u') hm2 (nmL S₇ (v := .int (i : Nat) tki) rfl ?_))
      refine itRdT S₇ rq' (by omega) (d := .int (qi : Nat)) (by simp [hqi]) (by omega) fun z2 rz2 => ?_
      obtain ⟨w2, rfl⟩ := rz2.asInt
      refine PyProof.Rows.ne_int (wpAny_truthy_bool ?_)
      by_cases hpq : pi = qi
      · rw [show (((pi : Nat) : Int) != (qi : Nat)) = false from by rw [hpq]; simp]
        refine itF (wpAny_allTrue_Or_nil (itF (xNil (thenNext (xNil ⟨g', _, [], .refl _, S₇, rfl, hm1, hm2, ?_, by omega⟩)))))
        rw [take_snoc hpi, take_snoc hqi, he, hpq]
      · rw [show (((pi : Nat) : Int) != (qi : Nat)) = true from by simp; omega]
        refine itT (itT (xRet (sliceUpto (nmL S₇ (v := u) hm1 (nmL S₇ (v := .int (i : Nat) tki) rfl ⟨_, g', _, _, rfl, rp', by rw [hpz]; exact sl (by omega), S₇, fun z g₉ s₉ k₉ r₉ S₉ => ?_⟩)))))
        rw [hpz, cut_nat _ _ (by omega), ← List.map_take] at r₉
        exact hR1 p q _ _ _ hba hp hq S₉.grow (by rw [cpref_stop i p q he hi hiq (.inr (by rw [hpi, hqi]; simpa using hpq))]; exact r₉)
  · rintro g' s' m' ow' hg ⟨rfl, hm1, hm2, he, hiq⟩ S'
    try (show wpAny _ _ _ _ _ _; k_fold)
    refine thenNext (xRet (nmL S' (v := u) hm1 ?_))
    refine hR1 p q _ _ _ hba hp hq S'.grow ?_
    rw [cpref_all p q (by rw [List.take_length] at he; exact he)]
    exact rp.mono (k₅.trans hg)
end
end Mine
namespace Mine
inductive Hole (g : Heap) (l : Addr) (vs : List Value) : Value → T → Plc → Prop
  | here {x dx : Addr} {h1 h2 : Int} {t1 t2 tk : Tok} {n k : Nat} {lab : Sym} {cs : List T} {as : List Addr} : g.get? x = some (instObj 269 dx) → g.get? dx = some (dictOf (treeD h1 h2 t1 t2 l (.str lab.s tk)) n) →
      IsTs g vs cs as → k < cs.length → Hole g l vs (.ref x) (.node lab cs) [k]
  | there {x dx l' : Addr} {h1 h2 : Int} {t1 t2 tk : Tok} {n k k2 kk : Nat} {p : Plc} {lab : Sym} {vs' : List Value} {cs : List T} {v' : Value} {c : T} : g.get? x = some (instObj 269 dx) → g.get? dx = some (dictOf (treeD h1 h2 t1 t2 l' (.str lab.s tk)) n) →
      g.get? l' = some (listOf vs'.toArray kk) → vs'.length = cs.length → vs'[k]? = some v' → cs[k]? = some c → (∀ i w t, i ≠ k → vs'[i]? = some w → cs[i]? = some t → ∃ as, IsT g w t as) → Hole g l vs v' c (k2 :: p) → Hole g l vs (.ref x) (.node lab cs) (k :: k2 :: p)
theorem IsTs.of_get {g : Heap} : ∀ {vs : List Value} {cs : List T}, vs.length = cs.length → (∀ (i : Nat) w t, vs[i]? = some w → cs[i]? = some t → ∃ as, IsT g w t as) → ∃ as, IsTs g vs cs as
  | [], [], _, _ => ⟨[], .nil⟩
  | v :: vs, c :: cs, h, k => by
    obtain ⟨as, h1⟩ := k 0 v c rfl rfl
    obtain ⟨bs, h2⟩ := IsTs.of_get (vs := vs) (cs := cs) (by simpa using h) fun i w t hw ht => k (i + 1) w t (by simpa using hw) (by simpa using ht)
    exact ⟨_, .cons h1 h2⟩
  | [], _ :: _, h, _ => by simp at h
  | _ :: _, [], h, _ => by simp at h
theorem IsTs.at' {g : Heap} : ∀ {vs : List Value} {cs : List T} {as : List Addr}, IsTs g vs cs as → ∀ (i : Nat) w t, vs[i]? = some w → cs[i]? = some t → ∃ as, IsT g w t as := fun h i w t hw ht => by
  obtain ⟨t', bs, h1, h2⟩ := h.get i w hw
  rw [ht] at h1; cases h1
  exact ⟨bs, h2⟩
noncomputable def lastP : Plc → Nat
  | [] => 0
  | [k] => k
  | _ :: k :: p => lastP (k :: p)
theorem Hole.mono {g h : Heap} {l : Addr} {vs : List Value} (k : Sub g h) {v : Value} {t : T} {p : Plc} (H : Hole g l vs v t p) : Hole h l vs v t p := by
  induction H with
  | here a b c d => exact .here (k _ _ a) (k _ _ b) (c.mono k) d
  | there a b c d e f g' _ ih => exact .there (k _ _ a) (k _ _ b) (k _ _ c) d e f (fun i w t h1 h2 h3 => (g' i w t h1 h2 h3).imp fun _ q => q.mono k) ih
theorem Hole.fill {g h : Heap} {l : Addr} {vs : List Value} {u : Value} {new : T} {bs : List Addr} {n' : Nat} (k : Sub g h) (hu : IsT h u new bs) {v : Value} {t : T} {p : Plc} (H : Hole g l vs v t p) : h.get? l = some (listOf (vs.set (lastP p) u).toArray n') → ∃ as, IsT h v (putT new p t) as := by
  induction H with
  | @here x dx _ _ _ _ _ _ i _ cs _ a b c d =>
    intro hl
    obtain ⟨as, hI⟩ := IsTs.of_get (g := h) (vs := vs.set i u) (cs := cs.set i new) (by rw [List.length_set, List.length_set]; exact c.length) fun j w t hw ht => by
      by_cases e : j = i
      · subst e
        rw [List.getElem?_set_self (by rw [c.length]; exact d)] at hw
        rw [List.getElem?_set_self d] at ht
        cases hw; cases ht; exact ⟨bs, hu⟩
      · rw [List.getElem?_set_ne (fun q => e q.symm)] at hw ht
        exact (c.mono k).at' j w t hw ht
    obtain ⟨ci, hci⟩ : ∃ ci, cs[i]? = some ci := ⟨_, List.getElem?_eq_getElem d⟩
    rw [putT_cons hci, putT]
    exact ⟨_, .node (k _ _ a) (k _ _ b) hl hI⟩
  | @there x dx l' _ _ _ _ _ _ i _ _ _ _ vs' cs _ c a b l' len e f oth _ ih =>
    intro hl
    obtain ⟨as, q⟩ := ih hl
    obtain ⟨as', hI⟩ := IsTs.of_get (g := h) (vs := vs') (cs := cs.set i (putT new _ c)) (by rw [List.length_set]; exact len) fun j w t hw ht => by
      by_cases e' : j = i
      · subst e'
        rw [e] at hw; cases hw
        rw [List.getElem?_set_self (List.getElem?_eq_some_iff.mp f).1] at ht
        cases ht; exact ⟨as, q⟩
      · rw [List.getElem?_set_ne (fun q => e' q.symm)] at ht
        obtain ⟨as, q⟩ := oth j w t e' hw ht
        exact ⟨as, q.mono k⟩
    rw [putT_cons f]
    exact ⟨_, .node (k _ _ a) (k _ _ b) (k _ _ l') hI⟩
theorem hide_get {g : Heap} {l b : Addr} {o : Obj} (h : g.get? b = some o) (hn : b ≠ l) : (hideAll g [l]).get? b = some o := hideAll_get _ h fun hm => hn (List.mem_singleton.mp hm)
theorem IsT.hide2 {g : Heap} {l : Addr} {vl : List Value} {nl : Nat} (hl : g.get? l = some (listOf vl.toArray nl)) : (∀ {v t as}, IsT g v t as → l ∉ as → IsT (hideAll g [l]) v t as) ∧ ∀ {vs ts as}, IsTs g vs ts as → l ∉ as → IsTs (hideAll g [l]) vs ts as :=
  IsT.both (P := fun v t as => l ∉ as → IsT (hideAll g [l]) v t as) (Q := fun vs ts as => l ∉ as → IsTs (hideAll g [l]) vs ts as) (fun x tk _ => .leaf x tk) (fun {x dx _ _ _ _ _ _ _ _ _ _ _ _} a b c _ d hn =>
    .node (hide_get a fun q => by rw [q, hl] at a; cases a) (hide_get b fun q => by rw [q, hl] at b; cases congrArg Obj.data (Option.some.inj b)) (hide_get c fun q => hn (q ▸ .head _)) (d fun hm => hn (.tail _ hm)))
    (fun _ => .nil) fun _ _ a b hn => .cons (a fun hm => hn (List.mem_append.mpr (.inl hm))) (b fun hm => hn (List.mem_append.mpr (.inr hm)))
theorem IsT.hide {g : Heap} {l : Addr} {vl : List Value} {nl : Nat} (hl : g.get? l = some (listOf vl.toArray nl)) {v : Value} {t : T} {as : List Addr} (x : IsT g v t as) : l ∉ as → IsT (hideAll g [l]) v t as := (IsT.hide2 hl).1 x
theorem IsTs.hide {g : Heap} {l : Addr} {vl : List Value} {nl : Nat} (hl : g.get? l = some (listOf vl.toArray nl)) {vs : List Value} {ts : List T} {as : List Addr} (x : IsTs g vs ts as) : l ∉ as → IsTs (hideAll g [l]) vs ts as := (IsT.hide2 hl).2 x
theorem IsTs.in' {g : Heap} {vs : List Value} {cs : List T} {bs : List Addr} (x : IsTs g vs cs bs) : ∀ (i : Nat) w t, vs[i]? = some w → cs[i]? = some t → ∃ ds, IsT g w t ds ∧ ∀ a ∈ ds, a ∈ bs :=
  x.ind (Q := fun vs cs bs => ∀ (i : Nat) w t, vs[i]? = some w → cs[i]? = some t → ∃ ds, IsT g w t ds ∧ ∀ a ∈ ds, a ∈ bs) (fun i w t hw => by cases hw) fun a _ ih i w t hw ht => by
    cases i with
    | zero => cases hw; cases ht; exact ⟨_, a, fun a h => List.mem_append.mpr (.inl h)⟩
    | succ i => exact (ih i w t hw ht).imp fun _ q => ⟨q.1, fun a h => List.mem_append.mpr (.inr (q.2 a h))⟩
theorem IsTs.split {g : Heap} {vs : List Value} {cs : List T} {as : List Addr} (x : IsTs g vs cs as) : as.Nodup → ∀ (k : Nat) v' c, vs[k]? = some v' → cs[k]? = some c →
    ∃ bs, IsT g v' c bs ∧ bs.Nodup ∧ (∀ a ∈ bs, a ∈ as) ∧ ∀ i w t, i ≠ k → vs[i]? = some w → cs[i]? = some t → ∃ cs, IsT g w t cs ∧ (∀ a ∈ cs, a ∈ as) ∧ ∀ a ∈ cs, a ∉ bs :=
  x.ind (Q := fun vs cs as => as.Nodup → ∀ (k : Nat) v' c, vs[k]? = some v' → cs[k]? = some c →
    ∃ bs, IsT g v' c bs ∧ bs.Nodup ∧ (∀ a ∈ bs, a ∈ as) ∧ ∀ i w t, i ≠ k → vs[i]? = some w → cs[i]? = some t → ∃ cs, IsT g w t cs ∧ (∀ a ∈ cs, a ∈ as) ∧ ∀ a ∈ cs, a ∉ bs)
   (fun _ k v' c h _ => by cases h) fun {v t as bs vs ts} a b ih nd k v' c h1 h2 => by
    have nd1 := List.nodup_append.mp nd
    cases k with
    | zero =>
      cases h1; cases h2
      refine ⟨as, a, nd1.1, fun a h => List.mem_append.mpr (.inl h), fun i w t hi hw ht => ?_⟩
      cases i with
      | zero => exact absurd rfl hi
      | succ i =>
        obtain ⟨ds, q1, q2⟩ := b.in' i w t hw ht
        exact ⟨ds, q1, fun a h => List.mem_append.mpr (.inr (q2 a h)), fun a h h' => nd1.2.2 a h' a (q2 a h) rfl⟩
    | succ k =>
      obtain ⟨ds, q1, q2, q3, q4⟩ := ih nd1.2.1 k v' c h1 h2
      refine ⟨ds, q1, q2, fun a h => List.mem_append.mpr (.inr (q3 a h)), fun i w t hi hw ht => ?_⟩
      cases i with
      | zero =>
        cases hw; cases ht
        exact ⟨as, a, fun a h => List.mem_append.mpr (.inl h), fun a h h' => nd1.2.2 a h a (q3 a h') rfl⟩
      | succ i =>
        obtain ⟨es, r1, r2, r3⟩ := q4 i w t (fun e => hi (congrArg (· + 1) e)) hw ht
        exact ⟨es, r1, fun a h => List.mem_append.mpr (.inr (r2 a h)), r3⟩
theorem hole_of {g : Heap} : ∀ {p : Plc} {v : Value} {t t' : T} {as : List Addr}, IsT g v t as → as.Nodup → t.at p = some t' → p ≠ [] →
    ∃ l vs n, g.get? l = some (listOf vs.toArray n) ∧ l ∈ as ∧ Hole (hideAll g [l]) l vs v t p
  | [], _, _, _, _, _, _, _, h => absurd rfl h
  | k :: p, _, _, _, _, .leaf x tk, _, h, _ => by rw [T.at] at h; cases h
  | [k], _, _, _, _, .node (l := l) a b c d, nd, h, _ => by
    have h1 : ∀ {x dx}, g.get? x = some (instObj 269 dx) → x ≠ l := fun e q => by rw [q, c] at e; cases e
    have h2 : ∀ {x es n}, g.get? x = some (dictOf es n) → x ≠ l := fun e q => by rw [q, c] at e; have := congrArg Obj.data (Option.some.inj e); cases this
    obtain ⟨ch, hc, _⟩ := at_cons h
    exact ⟨l, _, _, c, .head _, .here (hide_get a (h1 a)) (hide_get b (h2 b)) (d.hide c (List.nodup_cons.mp nd).1) (List.getElem?_eq_some_iff.mp hc).1⟩
  | k :: k2 :: p, _, _, _, _, .node (l := l') (vs := vs') (cs := cs) a b c d, nd, h, _ => by
    obtain ⟨ch, hc, h'⟩ := at_cons h
    have nd1 := List.nodup_cons.mp nd
    have hkl : k < vs'.length := by rw [d.length]; exact (List.getElem?_eq_some_iff.mp hc).1
    obtain ⟨v', hv'⟩ : ∃ v', vs'[k]? = some v' := ⟨_, List.getElem?_eq_getElem hkl⟩
    obtain ⟨bs, q1, q2, q3, q4⟩ := d.split nd1.2 k v' ch hv' hc
    obtain ⟨l, vs, n, hl, hm, H⟩ := hole_of (p := k2 :: p) q1 q2 h' (by simp)
    have h1 : ∀ {x dx}, g.get? x = some (instObj 269 dx) → x ≠ l := fun e q => by rw [q, hl] at e; cases e
    have h2 : ∀ {x es n}, g.get? x = some (dictOf es n) → x ≠ l := fun e q => by rw [q, hl] at e; have := congrArg Obj.data (Option.some.inj e); cases this
    refine ⟨l, vs, n, hl, .tail _ (q3 _ hm), .there (hide_get a (h1 a)) (hide_get b (h2 b)) (hide_get c fun q => nd1.1 (q ▸ q3 _ hm)) d.length hv' hc (fun i w t hi hw ht => ?_) H⟩
    obtain ⟨es, r1, r2, r3⟩ := q4 i w t hi hw ht
    exact ⟨es, r1.hide hl fun hm' => r3 _ hm' hm⟩
end Mine
namespace Mine
section
variable {w : World} {mg mb : Str → Option Value} {M : Model} {A : Around} {E : Value → Shared → Prop} {X : List Addr} {g₀ g : Heap} {s₀ s : Shared} {L : Addr} {m : Str → Option Value} {ow : List (Addr × Obj)} {env : Env} {fs : List Env}
theorem setTree {x dx : Addr} {es : List DictEntry} {n : Nat} {i v : Value} {Q : Unit → Shared → Prop} (G : Amb w mg mb g) (S : St X g₀ s₀ L g s m ow) (I : InstAt s.heap x (instObj 269 dx) 269 (some (dictOf es n)))
    (h : wpAny (model prg w) A (call (.ref 188) [.ref x, i, v]) (fun _ s' => Q () s') E s) : wpAny (model prg w) A (setItem (.ref x) i v) Q E s := by
  have X := (G.keeps S.in_).K
  unfold setItem sequenceKey
  refine wpAny_holding (wpAny_bind (wpAny_bind (I.type.here ?_)))
  refine wpAny_bind ((anyM_none X noS).here ?_)
  rw [if_pos (show (!false) = true from rfl)]
  exact wpAny_pure (wpAny_bind (special_fn X I (by k_is) (by k_is) (wpAny_mono h (fun _ _ z => wpAny_pure z) fun _ _ z => z)))
theorem item_raw {A : Around} {g : Heap} {s : Shared} {x dx l : Addr} {h1 h2 : Int} {t1 t2 : Tok} {lv : Value} {n kk k : Nat} {tk : Tok} {vs : List Value} {u : Value} {R : Result → Shared → Prop} (hr : Room A 1) (G : Amb w mg mb g) (hs : Sub g s.heap)
    (hx : g.get? x = some (instObj 269 dx)) (hd : g.get? dx = some (dictOf (treeD h1 h2 t1 t2 l lv) n)) (hl : g.get? l = some (listOf vs.toArray kk)) (hu : vs[k]? = some u) (hz : vs.length ≤ 400)
    (hR : ∀ s' g', Grow [] g s g' s' → R (.ok (.ret u)) s') : codeAny (model prg w) A (.call (.ref 181) ⟨[.ref x, .int (k : Nat) tk], []⟩) R s := by
  refine enterF G hs hr (by k_is) (by k_is) (BindsTo.of_eq rfl) (locs rfl) ?_ rfl rfl rfl (by decide)
  intro L s₁ S
  try k_fold
  refine xIf (tIsiB G S gInt bInt (nmL S (v := .int (k : Nat) _) rfl ⟨_, S, ?_⟩))
  refine isiI_int G S fun s₂ S₂ => ⟨_, rfl, itT ?_⟩
  refine xRet (Subscript_ (Attribute_name (nmL S₂ (v := .ref x) rfl ?_)))
  refine getChildren G S₂ hx hd fun s₃ S₃ => nmL S₃ rfl ?_
  have hkl := (List.getElem?_eq_some_iff.mp hu).1
  refine itLst (isList_of (S₃.in_ _ _ hl)) (by omega) (by simpa using hu) (by omega) ?_
  exact thenRet (hR _ _ S₃.grow)
theorem set_int {A : Around} {g : Heap} {s : Shared} {x dx l : Addr} {h1 h2 : Int} {t1 t2 : Tok} {lv : Value} {n kk k : Nat} {tk : Tok} {vs : List Value} {u : Value} {R : Result → Shared → Prop} (hr : Room A 1) (G : Amb w mg mb g) (hs : Sub g s.heap)
    (hx : g.get? x = some (instObj 269 dx)) (hd : g.get? dx = some (dictOf (treeD h1 h2 t1 t2 l lv) n)) (hl : s.heap.get? l = some (lstO vs kk)) (hlg : g.get? l = none) (hk : k < vs.length) (hz : vs.length ≤ 400)
    (hR : ∀ kk' s' g', Grow [l] g s g' s' → s'.heap.get? l = some (lstO (vs.set k u) kk') → R (.ok (.ret .none)) s') : codeAny (model prg w) A (.call (.ref 188) ⟨[.ref x, .int (k : Nat) tk, u], []⟩) R s := by
  refine enterX (ow := [(l, lstO vs kk)]) G hs hr (fun p hp => by rw [List.mem_singleton.mp hp]; exact ⟨hl, hlg⟩) (by simp) (by k_is) (by k_is) (BindsTo.of_eq rfl) (locs rfl) ?_ rfl rfl rfl (by decide)
  intro L s₁ S
  try k_fold
  refine xIf (tIsiB G S gInt bInt (nmL S (v := .int (k : Nat) _) rfl ⟨_, S, ?_⟩))
  refine isiI_int G S fun s₂ S₂ => ⟨_, rfl, itT ?_⟩
  refine xSub (nmL S₂ (v := u) rfl (Attribute_name (nmL S₂ (v := .ref x) rfl ?_)))
  refine getChildren G S₂ hx hd fun s₃ S₃ => nmL S₃ (v := .int (k : Nat) tk) rfl ?_
  refine setL (pre := []) (ow := []) S₃ (by omega) (by omega) hz fun s₄ n₄ S₄ => ?_
  exact xNil (thenNext (xNil (hR _ _ _ S₄.grow (S₄.get (.head _)))))
theorem set_tup {l : Addr} {vs : List Value} {u : Value} {g0 : Heap} : ∀ (v : Value) (t : T) (p : Plc), Hole g0 l vs v t p → ∀ (n : Nat), t.Small n → ∀ (A : Around) (g : Heap) (s : Shared) (pv : Value) (kk : Nat) (R : Result → Shared → Prop), vs.length ≤ 400 → lastP p < vs.length →
    Room A (4 * n + 4) → Amb w mg mb g → Sub g0 g → Sub g s.heap → s.heap.get? l = some (lstO vs kk) → g.get? l = none → Rd g pv (posD p) → p.length ≤ 400 →
    (∀ kk' s' g', Grow [l] g s g' s' → s'.heap.get? l = some (lstO (vs.set (lastP p) u) kk') → R (.ok (.ret .none)) s') → codeAny (model prg w) A (.call (.ref 188) ⟨[v, pv, u], []⟩) R s := by
  intro v t p H
  induction H with
  | @here x dx h1 h2 t1 t2 tk nn k lab cs as hx hd hI hk =>
    intro n hn A g s pv kk R hz hlast hr G h0 hs hl hlg hP hpl hR
    refine enterX (ow := [(l, lstO vs kk)]) G hs hr (fun p hp => by rw [List.mem_singleton.mp hp]; exact ⟨hl, hlg⟩) (by simp) (by k_is) (by k_is) (BindsTo.of_eq rfl) (locs rfl) ?_ rfl rfl rfl (by decide)
    intro L s₁ S
    try k_fold
    refine xIf (tIsiB G S gInt bInt (nmL S (v := pv) rfl ⟨_, S, ?_⟩))
    refine isiI_tup G S hP fun s₂ S₂ => ⟨_, rfl, itF ?_⟩
    refine xIf (isiLT G S₂ hP (fun Q' hq => nmL S₂ rfl hq) fun s₃ S₃ => itT ?_)
    refine xIf (wpAny_isTrue_Compare1 (biG G S₃ gLen bLen (arg1 (nmL S₃ (v := pv) rfl (arg0 ?_)))))
    refine lenT S₃ hP (sl (by simp)) fun tk₄ s₄ S₄ => wpAny_Constant_int ?_
    refine tEqI (itF ?_)
    have S₄ := S₄.toks (s₄.toks + 1)
    refine xIf (wpAny_isTrue_Compare1 (biG G S₄ gLen bLen (arg1 (nmL S₄ (v := pv) rfl (arg0 ?_)))))
    refine lenT S₄ hP (sl (by simp)) fun tk₅ s₅ S₅ => wpAny_Constant_int ?_
    refine tEqI (itT ?_)
    have S₅ := S₅.toks (s₅.toks + 1)
    refine xSub (nmL S₅ (v := u) rfl (nmL S₅ (v := .ref x) rfl (Subscript_ (nmL S₅ (v := pv) rfl (wpAny_Constant_int ?_)))))
    have S₅ := S₅.toks (s₅.toks + 1 + 1)
    refine itRdT S₅ hP (by decide) (d := .int (k : Nat)) rfl (by decide) fun z rz => ?_
    obtain ⟨ku, rfl⟩ := rz.asInt
    refine setTree G S₅ (instT S₅.in_ (h0 _ _ hx) (h0 _ _ hd)) ?_
    have zz := S₅.own _ (.head _)
    refine wpAny_call (set_int (hr.deeper.le (by omega)) G S₅.in_ (h0 _ _ hx) (h0 _ _ hd) zz.1 zz.2.2.1 hlast hz fun kk' s' g' gr e => ?_)
    have S₆ := S₅.callY (Y := [(l, lstO vs kk)]) (Y' := [(l, lstO (vs.set k u) kk')]) (ow := []) gr rfl fun p hp => by rw [List.mem_singleton.mp hp]; exact e
    exact xNil (thenNext (xNil (thenNext (xNil (thenNext (xNil (thenNext (xNil (hR _ _ _ S₆.grow (S₆.get (.head _)))))))))))
  | @there x dx l' h1 h2 t1 t2 tk nn k k2 kk2 p lab vs' cs v' c hx hd hl' hlen hv' hc oth H ih =>
    intro n hn A g s pv kk R hz hlast hr G h0 hs hl hlg hP hpl hR
    cases n with
    | zero => exact hn.zero.elim
    | succ n =>
    refine enterX (ow := [(l, lstO vs kk)]) G hs hr (fun p hp => by rw [List.mem_singleton.mp hp]; exact ⟨hl, hlg⟩) (by simp) (by k_is) (by k_is) (BindsTo.of_eq rfl) (locs rfl) ?_ rfl rfl rfl (by decide)
    intro L s₁ S
    try k_fold
    refine xIf (tIsiB G S gInt bInt (nmL S (v := pv) rfl ⟨_, S, ?_⟩))
    refine isiI_tup G S hP fun s₂ S₂ => ⟨_, rfl, itF ?_⟩
    refine xIf (isiLT G S₂ hP (fun Q' hq => nmL S₂ rfl hq) fun s₃ S₃ => itT ?_)
    refine xIf (wpAny_isTrue_Compare1 (biG G S₃ gLen bLen (arg1 (nmL S₃ (v := pv) rfl (arg0 ?_)))))
    have hpz : ((k :: k2 :: p).map fun i => PyData.int (i : Nat)).length = p.length + 2 := by simp
    have hpl' : p.length + 2 ≤ 400 := by simpa using hpl
    refine lenT S₃ hP (sl' hpz (by omega)) fun tk₄ s₄ S₄ => wpAny_Constant_int ?_
    refine tEqI ?_
    rw [hpz, show (((p.length + 2 : Nat) : Int) == 0) = false from by rw [beq_eq_false_iff_ne]; omega]
    refine itF ?_
    have S₄ := S₄.toks (s₄.toks + 1)
    refine xIf (wpAny_isTrue_Compare1 (biG G S₄ gLen bLen (arg1 (nmL S₄ (v := pv) rfl (arg0 ?_)))))
    refine lenT S₄ hP (sl' hpz (by omega)) fun tk₅ s₅ S₅ => wpAny_Constant_int ?_
    refine tEqI ?_
    rw [hpz, show (((p.length + 2 : Nat) : Int) == 1) = false from by rw [beq_eq_false_iff_ne]; omega]
    refine itF ?_
    have S₅ := S₅.toks (s₅.toks + 1)
    refine xSub (nmL S₅ (v := u) rfl (Subscript_ (nmL S₅ (v := .ref x) rfl (Subscript_ (nmL S₅ (v := pv) rfl (wpAny_Constant_int ?_))))))
    have S₅ := S₅.toks (s₅.toks + 1 + 1)
    refine itRdT S₅ hP (by decide) (d := .int (k : Nat)) rfl (by decide) fun z rz => ?_
    obtain ⟨ku, rfl⟩ := rz.asInt
    refine subTree G S₅ (instT S₅.in_ (h0 _ _ hx) (h0 _ _ hd)) ?_
    have hcl := hn.len
    refine wpAny_call (item_raw ((hr.deeper (n := 4 * (n + 1) + 3)).in1.le (by omega)) G S₅.in_ (h0 _ _ hx) (h0 _ _ hd) (h0 _ _ hl') hv' (by omega) fun s₆ g₆ gr => ?_)
    have S₆ := S₅.call gr
    have G₆ := G.keeps gr.sub
    refine sliceFrom (a := 1) (X := [l]) (nmL S₆ (v := pv) rfl (wpAny_Constant_int ⟨_, g₆, _, _, rfl, hP.mono gr.sub, by decide, by simp, sl' hpz (by omega), S₆.toks _, fun pv' g₇ s₇ k₇ r₇ S₇ => ?_⟩))
    have H' := (H.mono h0).mono (gr.sub.trans k₇)
    obtain ⟨x2, dx2, es2, n2, rfl, hx2, hd2⟩ : ∃ x2 dx2 es2 n2, v' = .ref x2 ∧ g₇.get? x2 = some (instObj 269 dx2) ∧ g₇.get? dx2 = some (dictOf es2 n2) := by
      cases H' with
      | here a b _ _ => exact ⟨_, _, _, _, rfl, a, b⟩
      | there a b _ _ _ _ _ _ => exact ⟨_, _, _, _, rfl, a, b⟩
    refine setTree (G₆.keeps k₇) S₇ (instT S₇.in_ hx2 hd2) ?_
    have zz := S₇.own _ (.head _)
    refine wpAny_call (ih n (hn.kid hc) _ g₇ _ pv' _ _ hz hlast (hr.deeper.le (by omega)) (G₆.keeps k₇) (h0.trans (gr.sub.trans k₇)) S₇.in_ zz.1 zz.2.2.1 (by simpa [posD] using r₇) (by simp at hpl ⊢; omega) fun kk' s' g' gr' e => ?_)
    have S₈ := S₇.callY (Y := [(l, lstO vs kk)]) (Y' := [(l, lstO (vs.set (lastP (k2 :: p)) u) kk')]) (ow := []) gr' rfl fun p hp => by rw [List.mem_singleton.mp hp]; exact e
    exact xNil (thenNext (xNil (thenNext (xNil (thenNext (xNil (thenNext (xNil (hR _ _ _ S₈.grow (S₈.get (.head _)))))))))))
theorem set_nil {A : Around} {g : Heap} {s : Shared} {x : Addr} {pv u : Value} {R : Result → Shared → Prop} (hr : Room A 2) (hA : A.frames = some fs) (hF : HF fs s.heap) (G : Amb w mg mb g) (hs : Sub g s.heap) (hP : Rd g pv (posD []))
    (hR : ∀ v s', Thrown fs (.type "IndexError") s v s' → R (.error v) s') : codeAny (model prg w) A (.call (.ref 188) ⟨[.ref x, pv, u], []⟩) R s := by
  refine enterX (ow := []) G hs hr (fun p hp => nomatch hp) List.nodup_nil (by k_is) (by k_is) (BindsTo.of_eq rfl) (locs rfl) ?_ rfl rfl rfl (by decide)
  intro L s₁ S
  try k_fold
  have hA' : ∀ env, (A.deeper env).frames = some (env :: fs) := fun env => Around.frames_deeper hA
  have S : St [] g s L g s₁ _ [] := S
  refine xIf (tIsiB G S gInt bInt (nmL S (v := pv) rfl ⟨_, S, ?_⟩))
  refine isiI_tup G S hP fun s₂ S₂ => ⟨_, rfl, itF ?_⟩
  refine xIf (isiLT G S₂ hP (fun Q' hq => nmL S₂ rfl hq) fun s₃ S₃ => itT ?_)
  refine xIf (wpAny_isTrue_Compare1 (biG G S₃ gLen bLen (arg1 (nmL S₃ (v := pv) rfl (arg0 ?_)))))
  refine lenT S₃ hP (sl (by simp)) fun tk₄ s₄ S₄ => wpAny_Constant_int ?_
  refine tEqI (itT ?_)
  have S₄ := S₄.toks (s₄.toks + 1)
  refine xRaise PySem.F.excCall_IndexError PySem.F.excRaise_IndexError hr.1 G S₄ gIdx bIdx (arg1 (wpAny_Constant_str (arg0 ⟨sl (by simp), fun h' e hx => ?_⟩)))
  exact leaveMade (S₄.toks _) hx hF (hA' _) rfl rfl fun s' T => hR _ _ T
end
end Mine
namespace Mine
structure Lvl where
  d : Nat
  u : Nat
  hd : d ≤ 990
noncomputable abbrev Lvl.A (B : Lvl) : Around := ⟨none, B.d, none, none, B.u⟩
section
variable {B : Lvl} {M : Model} {Φ Ψ : End → Shared → Prop} {c : Code} {t : Sem Fin} {fs : List Frame} {s : Shared}
noncomputable def Seg1 (B : Lvl) (M : Model) (Φ : End → Shared → Prop) (c : Code) (t : Sem Fin) (fs : List Frame) (s : Shared) : Prop :=
  ∀ Γ p, Γ.code = c → Γ.Woken B.A → ∃ e s', Runs M Γ p t fs s e s' ∧ Φ e s'
theorem s1_wrap {α : Type} {m : Sem α} {K : α → Sem Fin} {H : Value → Sem Fin} {gd lv}
    (h : wpAny M (B.A.over c fs) m (fun a s' => Seg1 B M Φ c (K a) fs s') (fun x s' => Seg1 B M Φ c (H x) fs s') s) : Seg1 B M Φ c (m.wrap K H gd lv) fs s := by
  rintro Γ p rfl hΓ
  exact runs_wrap_of_wp K H gd lv m (h (Γ.over fs) p (hΓ.over fs)) (fun a p' s' h' => h' Γ p' rfl hΓ) (fun x p' s' h' => h' Γ p' rfl hΓ)
theorem s1_bindw {α β : Type} {m : Sem α} {K : α → Sem β} {K' : β → Sem Fin} {H' : Value → Sem Fin} {gd lv}
    (h : wpAny M (B.A.over c fs) m (fun a s' => Seg1 B M Φ c ((K a).wrap K' H' gd lv) fs s') (fun x s' => Seg1 B M Φ c (H' x) fs s') s) : Seg1 B M Φ c ((m >>= K).wrap K' H' gd lv) fs s := by
  rw [Sem.bind_eq_wrap', Sem.wrap_wrap]; exact s1_wrap h
theorem s1_at {p' : PySem.Pos} {k : Unit → Sem Fin} (h : Seg1 B M Φ c (k ()) fs s) : Seg1 B M Φ c (.at p' k) fs s :=
  s1_wrap (m := standAt p') (K := k) (H := .raise) (gd := id) (lv := id) (wpAny_standAt h)
theorem s1_point {l : List Value} {k : Unit → Sem Fin} (h : Seg1 B M Φ c (k ()) fs s) : Seg1 B M Φ c (.point l k) fs s :=
  s1_wrap (m := point) (K := k) (H := .raise) (gd := id) (lv := fun _ => l) (wpAny_point h)
theorem s1_call {c' : Code} {h g l} {k : Result → Sem Fin} (hc : ∀ p, Seg1 B M Φ c' (M.den c') (.ret k h g l c p [] :: fs) s) : Seg1 B M Φ c (.call c' h g l k) fs s := by
  rintro Γ p rfl hΓ
  obtain ⟨e, s', hr, he⟩ := hc p (Γ.goto c') p rfl (hΓ.goto c')
  exact ⟨e, s', runs_call_seg hr, he⟩
theorem s1_leaf {k h g l c₁ p₁ kp} (r : Result) (hk : Seg1 B M Φ c₁ (k r) fs s) : Seg1 B M Φ c (leafOf r) (.ret k h g l c₁ p₁ kp :: fs) s := by
  rintro Γ p rfl hΓ
  obtain ⟨e, s', hr, he⟩ := hk (Γ.goto c₁) p₁ rfl (hΓ.goto c₁)
  exact ⟨e, s', Runs.pop r hr, he⟩
theorem s1_again {c' : Code} (hq : c'.quiet = true) (hc : Seg1 B M Φ c' (M.den c') fs s) : Seg1 B M Φ c (.pure (.again c')) fs s := by
  rintro Γ p rfl hΓ
  obtain ⟨e, s', hr, he⟩ := hc (Γ.goto c') p rfl (hΓ.goto c')
  exact ⟨e, s', Runs.head (c₁ := c') (fun _ _ x => .again hq x) hr, he⟩
theorem s1_end (r : Result) (h : Φ (.ret r) s) : Seg1 B M Φ c (leafOf r) [] s := by
  rintro Γ p rfl _
  exact ⟨.ret r, s, Runs.leaf r, h⟩
theorem s1_yield {v g l} {k : Resume → Sem Fin} (hfs : splitAtGen fs = none) (h : ∀ p, Φ (.susp v g l k c p fs) s) : Seg1 B M Φ c (.yield v g l k) fs s := by
  rintro Γ p rfl _
  exact ⟨_, s, Runs.yield' fs hfs, h p⟩
theorem Seg1.imp (h : Seg1 B M Φ c t fs s) (k : ∀ e s', Φ e s' → Ψ e s') : Seg1 B M Ψ c t fs s := fun Γ p h1 h2 => let ⟨e, s', hr, he⟩ := h Γ p h1 h2; ⟨e, s', hr, k e s' he⟩
noncomputable def Goes1 (B : Lvl) (M : Model) (Φ : End → Shared → Prop) (gs : GenState) (s : Shared) : Prop := match gs with
  | .fresh c => Seg1 B M Φ c (M.den c) [] s
  | .suspended k _ c _ fs _ => Seg1 B M Φ c (k (.send .none)) fs s
  | _ => False
theorem Goes1.imp {gs : GenState} (h : Goes1 B M Φ gs s) (k : ∀ e s', Φ e s' → Ψ e s') : Goes1 B M Ψ gs s := by
  cases gs with
  | fresh c => exact Seg1.imp h k
  | suspended k₀ l₀ c₀ p₀ fs₀ cl => exact Seg1.imp h k
  | running => exact h
  | finished => exact h
theorem inAG {Γ : PySem.Ctx} {A : Around} (h : Γ.In A) (h1 : A.handled = none) (h2 : A.depth ≤ B.d) (h3 : A.units ≤ B.u) : Γ.In B.A :=
  ⟨h.1.trans h1, Nat.le_trans h.2.1 h2, fun _ e => (nomatch e), fun _ e => (nomatch e), Nat.le_trans h.2.2.2.2 h3⟩
theorem resume1 {A : Around} {E : Value → Shared → Prop} {g : Nat} {gs : GenState} {l : List Value} {α : Type} {k : GenResult → Sem α} {Q : α → Shared → Prop} (hh : A.handled = none) (hd : A.depth ≤ B.d) (hu : A.units ≤ B.u) (hg : s.gens[g]? = some gs)
    (hgo : Goes1 B M Φ gs (s.setGen g .running)) (hΦ : ∀ e s₁, Φ e s₁ → e.quiet = true ∧ wpAny M A (k e.result) Q E (s₁.setGen g e.genState)) : wpAny M A (.resume g (.send .none) l k) Q E s := by
  intro Γ p hΓ
  rw [Sem.wp_resume]
  have hB : ∀ c, (Γ.wake c p).Woken B.A := fun c => (inAG hΓ hh hd hu).wake c p
  cases gs with
  | fresh c =>
    obtain ⟨e₁, s₁, hr, he⟩ := hgo (Γ.wake c p) p rfl (hB c)
    exact ⟨_, _, by unfold Wakes; rw [hg]; exact ⟨e₁, s₁, hr, (hΦ e₁ s₁ he).1, rfl, rfl⟩, (hΦ e₁ s₁ he).2 Γ p hΓ⟩
  | suspended k₀ l₀ c₀ p₀ fs₀ cl =>
    obtain ⟨e₁, s₁, hr, he⟩ := hgo (Γ.wake c₀ p) p₀ rfl (hB c₀)
    exact ⟨_, _, by unfold Wakes; rw [hg]; exact ⟨e₁, s₁, hr, (hΦ e₁ s₁ he).1, rfl, rfl⟩, (hΦ e₁ s₁ he).2 Γ p hΓ⟩
  | running => exact hgo.elim
  | finished => exact hgo.elim
end
section
variable {B : Lvl} {w : World} {A : Around} {E : Value → Shared → Prop} {s : Shared}
theorem pyNext1 {a : Addr} {g : Nat} {gs : GenState} {Φ : End → Shared → Prop} {Q : Option Value → Shared → Prop} (hh : A.handled = none) (hd : A.depth + 1 ≤ B.d) (hu : A.units + 12 ≤ B.u)
    (hl : s.heap.NoLimit) (hg : s.heap.IsGen a g) (hgs : s.gens[g]? = some gs) (hgo : Goes1 B (model prg w) Φ gs (s.setGen g .running))
    (hY : ∀ e s₁, Φ e s₁ → match e with
      | .susp v gd _ _ _ _ fs => e.quiet = true ∧ Q (some v) (s₁.setGen g e.genState)
      | .ret r => (r = .ok .next ∨ r = .ok (.ret .none)) ∧ ∀ h', (∀ b o, s₁.heap.get? b = some o → h'.get? b = some o) → Q none { s₁.setGen g .finished with heap := h' }) :
    wpAny (model prg w) A (pyNext (.ref a)) Q E s := by
  unfold pyNext
  refine wpAny_bind (wpAny_attempt (wpAny_callSpecial?_slot (name := Str.ofString "__next__") hg.typeIs slot_gen_next
    (wpAny_call_entry slot_gen_next hg.typeIs entry_gen_next ?_ (args_gen_next _))))
  show wpAny _ A.in1 (Builtin.Generator.genWake (.ref a) (.send .none)) _ _ s
  unfold Builtin.Generator.genWake
  refine wpAny_bind (wpAny_holding (wpAny_genNumber hg (wpAny_bind (wpAny_genState hgs ?_))))
  have u1 : A.in1.units ≤ B.u := by show A.units + 1 ≤ _; omega
  have fin : ∀ e s₁, Φ e s₁ → e.quiet = true ∧ wpAny (model prg w) A.in1 (match e.result with
      | .yielded v => ret v
      | .returned v => do
        if v == .none then raiseNew (← newExc (.type "StopIteration") [])
        rule "generator.return-value"; throw (← newExc (.type "StopIteration") [v])
      | _ => unsupported "x") (fun fin s' => True) (fun _ _ => True) (s₁.setGen g e.genState) → True := fun _ _ _ _ => trivial
  cases gs with
  | running => exact hgo.elim
  | finished => exact hgo.elim
  | _ =>
    refine wpAny_bind (wpAny_roomToWake hl (by show A.depth < recursionLimit; show A.depth < 1000; have := B.hd; omega) ?_)
    show wpAny _ A.in1 (.resume g (.send .none) [] _) _ _ s
    refine resume1 (A := A.in1) hh (by show A.depth ≤ B.d; omega) u1 hgs hgo (fun e s₁ he => ?_)
    have h2 := hY e s₁ he
    cases e with
    | ret r =>
      refine ⟨rfl, ?_⟩
      obtain ⟨hr, hp⟩ := h2
      have er : (End.ret r).result = .returned .none := by rcases hr with rfl | rfl <;> rfl
      rw [er]
      show wpAny _ A.in1 (newExc (.type "StopIteration") [] >>= _) _ _ _
      refine wpAny_bind ?_
      simp only [newExc, newTuple]
      refine wpAny_bind (wpAny_newObj_type ?_ (by size_fits))
      refine wpAny_bind (m := firstArgMember _ _) (wpAny_of_eq (a := Value.none) (by first | rfl | (simp only [firstArgMember]; rfl)) ?_)
      refine wpAny_newObj_type ?_ (by size_fits)
      simp only [raiseNew]
      refine wpAny_bind (wpAny_bind (wpAny_handled ?_))
      rw [show A.in1.handled = none from hh]
      refine wpAny_throw ?_
      refine wpAny_bind (wpAny_isInstance (T := "StopIteration") (b := true) ⟨_, Heap.get?_push_size _ rfl, rfl⟩ isSubtype_stop ?_)
      exact wpAny_pure (hp _ fun b o hb => Heap.get?_push_of_some _ (Heap.get?_push_of_some _ hb))
    | susp v gd l k c p fs =>
      exact ⟨h2.1, wpAny_pure ⟨v, rfl, wpAny_pure h2.2⟩⟩
end
end Mine
namespace Mine
noncomputable abbrev ks (own : List (Addr × Obj)) : List Addr := own.map (fun p => p.1)
noncomputable abbrev gks (gow : List (Nat × GenState)) : List Nat := gow.map (fun p => p.1)
structure Good (gB : Heap) (own : List (Addr × Obj)) (gow : List (Nat × GenState)) (s : Shared) : Prop where
  base : Sub gB s.heap
  own : ∀ p ∈ own, s.heap.get? p.1 = some p.2
  gow : ∀ q ∈ gow, s.gens[q.1]? = some q.2
structure Moves (own : List (Addr × Obj)) (gow : List (Nat × GenState)) (s s' : Shared) : Prop where
  keep : ∀ b o, b ∉ ks own → s.heap.get? b = some o → s'.heap.get? b = some o
  gens : ∀ (i : Nat) x, i ∉ gks gow → s.gens[i]? = some x → s'.gens[i]? = some x
  bare : AllBare s.gens → AllBare s'.gens
  os : s'.os = s.os
structure OwnOk (K : List (Addr × Obj) → Prop) (own : List (Addr × Obj)) (s : Shared) (own' : List (Addr × Obj)) (s' : Shared) : Prop where
  k : K own'
  at' : ∀ p ∈ own', s'.heap.get? p.1 = some p.2 ∧ (p.1 ∈ ks own ∨ s.heap.get? p.1 = none)
  nd : (ks own').Nodup
noncomputable def Yields (go : List (Addr × Obj) → List (Nat × GenState) → GenState → Prop) (gB : Heap) (P : Heap → Value → Prop) (K : List (Addr × Obj) → Prop) (own : List (Addr × Obj)) (gow : List (Nat × GenState)) (s : Shared) (v : Value) (gs' : GenState) (s' : Shared) : Prop :=
  ∃ own' gow' gN, OwnOk K own s own' s' ∧ Sub gN s'.heap ∧ (∀ b o, gN.get? b = some o → s.heap.get? b = none) ∧ (∀ p ∈ own', gN.get? p.1 = none) ∧ (∀ gA, Sub gB gA → Sub gN gA → P gA v) ∧
    (∀ q ∈ gow', s'.gens[q.1]? = some q.2 ∧ (q.1 ∈ gks gow ∨ s.gens[q.1]? = none)) ∧ go own' gow' gs'
noncomputable def Go (B : Lvl) (w : World) (gB : Heap) (P : Nat → Heap → Value → Prop) (K : List (Addr × Obj) → Prop) : Nat → List (Addr × Obj) → List (Nat × GenState) → GenState → Prop
  | 0, own, gow, gs => gs.bare = true ∧ ∀ s, Good gB own gow s → Goes1 B (model prg w) (fun e s' => Moves own gow s s' ∧ match e with
      | .ret r => (r = .ok .next ∨ r = .ok (.ret .none)) ∧ ∃ own', OwnOk K own s own' s'
      | .susp .. => False) gs s
  | l + 1, own, gow, gs => gs.bare = true ∧ ∀ s, Good gB own gow s → Goes1 B (model prg w) (fun e s' => Moves own gow s s' ∧ match e with
      | .ret _ => False
      | .susp v .. => e.quiet = true ∧ Yields (Go B w gB P K l) gB (P l) K own gow s v e.genState s') gs s
noncomputable abbrev PhiN (B : Lvl) (w : World) (gB : Heap) (P : Nat → Heap → Value → Prop) (K : List (Addr × Obj) → Prop) (k : Nat) (own : List (Addr × Obj)) (s : Shared) (e : End) (s' : Shared) : Prop :=
  Moves own [] s s' ∧ match k, e with
    | 0, .ret r => (r = .ok .next ∨ r = .ok (.ret .none)) ∧ ∃ own', OwnOk K own s own' s'
    | 0, .susp .. => False
    | _ + 1, .ret _ => False
    | l + 1, .susp v gd lv kk c p fs => (End.susp v gd lv kk c p fs).quiet = true ∧ Yields (Go B w gB P K l) gB (P l) K own [] s v (End.susp v gd lv kk c p fs).genState s'
section
variable {B : Lvl} {w : World} {mg mb : Str → Option Value} {M : Model} {A : Around} {E : Value → Shared → Prop} {X : List Addr} {g₀ g : Heap} {s₀ s : Shared} {L : Addr} {m : Str → Option Value} {ow : List (Addr × Obj)} {env : Env}
  {gB : Heap} {P : Nat → Heap → Value → Prop} {K : List (Addr × Obj) → Prop}
theorem St.callG {Y Y' : List (Addr × Obj)} {g' : Heap} {s' : Shared} (S : St X g₀ s₀ L g s m (Y ++ ow)) (hsub : Sub g g') (hin : Sub g' s'.heap) (hkeep : ∀ b o, b ∉ ks Y → s.heap.get? b = some o → s'.heap.get? b = some o)
    (hfresh : ∀ b o, g'.get? b = some o → g.get? b = some o ∨ s.heap.get? b = none) (hgens : ∀ (i : Nat) x, s₀.gens[i]? = some x → s'.gens[i]? = some x) (hbare : AllBare s.gens → AllBare s'.gens) (hos : s'.os = s.os)
    (hv : ∀ p ∈ Y', s'.heap.get? p.1 = some p.2 ∧ (p.1 ∈ ks Y ∨ s.heap.get? p.1 = none)) (hg : ∀ p ∈ Y', g'.get? p.1 = none) (hnd : (ks Y').Nodup) (hX : ∀ b ∈ X, b ∈ ks Y → b ∈ ks Y') : St X g₀ s₀ L g' s' m (Y' ++ ow) := by
  have nd := List.nodup_append.mp (by simpa only [List.map_append] using S.nd)
  have own := fun p hp => S.own p (List.mem_append.mpr (.inl hp))
  have offL : L ∉ ks Y := fun hm => by
    obtain ⟨p, hp, e⟩ := List.mem_map.mp hm
    exact (own p hp).2.1 e
  have hL : ∃ o, s.heap.get? L = some o := by obtain ⟨oL, _, _, hL, _⟩ := S.ns; exact ⟨oL, hL⟩
  refine ⟨⟨S.grow.sub.trans hsub, hin, fun b o hb e => hkeep b o (fun hm => ?_) (S.grow.keep b o hb e), fun b o e => ?_, hgens, fun h => hbare (S.grow.bare h), hos.trans S.grow.os⟩, S.ns.at' fun o e => hkeep _ o offL e, none_of fun o e => ?_, S.newL, fun p hp => ?_, ?_, fun b hb => ?_, S.lo⟩
  · obtain ⟨p, hp, rfl⟩ := List.mem_map.mp hm
    rcases (own p hp).2.2.2 with h | h
    · exact hb h
    · rw [h] at e; cases e
  · rcases hfresh b o e with h | h
    · exact S.grow.fresh b o h
    · exact .inr (S.back h)
  · rcases hfresh _ _ e with h | h
    · rw [S.offL] at h; cases h
    · obtain ⟨oL, h'⟩ := hL; rw [h] at h'; cases h'
  · rcases List.mem_append.mp hp with hp | hp
    · have z := hv p hp
      refine ⟨z.1, fun e => ?_, hg p hp, ?_⟩
      · rcases z.2 with h | h
        · exact offL (e ▸ h)
        · obtain ⟨oL, h'⟩ := hL; rw [← e, h] at h'; cases h'
      · rcases z.2 with h | h
        · obtain ⟨q, hq, e⟩ := List.mem_map.mp h
          exact e ▸ (own q hq).2.2.2
        · exact .inr (S.back h)
    · have z := S.own p (List.mem_append.mpr (.inr hp))
      refine ⟨hkeep _ _ (fun hm => ?_) z.1, z.2.1, none_of fun o e => ?_, z.2.2.2⟩
      · obtain ⟨q, hq, e⟩ := List.mem_map.mp hm
        exact nd.2.2 _ (List.mem_map.mpr ⟨q, hq, rfl⟩) _ (List.mem_map.mpr ⟨p, hp, rfl⟩) e
      · rcases hfresh _ _ e with h | h
        · rw [z.2.2.1] at h; cases h
        · rw [z.1] at h; cases h
  · rw [List.map_append]
    refine List.nodup_append.mpr ⟨hnd, nd.2.1, fun a ha b hb e => ?_⟩
    obtain ⟨p, hp, rfl⟩ := List.mem_map.mp ha
    rcases (hv p hp).2 with h | h
    · exact nd.2.2 _ h _ hb e
    · obtain ⟨q, hq, e'⟩ := List.mem_map.mp hb
      have := (S.own q (List.mem_append.mpr (.inr hq))).1
      rw [e', ← e, h] at this; cases this
  · by_cases hy : b ∈ ks Y
    · obtain ⟨p, hp, rfl⟩ := List.mem_map.mp (hX b hb hy)
      rw [(hv p hp).1]; rfl
    · obtain ⟨o', h⟩ := Option.isSome_iff_exists.mp (S.xin b hb)
      rw [hkeep _ _ hy h]; rfl
theorem join {g g' h : Heap} (h1 : Sub g h) (h2 : Sub g' h) : ∃ j, Sub g j ∧ Sub g' j ∧ Sub j h ∧ ∀ b o, j.get? b = some o → g.get? b = some o ∨ g'.get? b = some o := by
  refine ⟨restrict h fun b => (g.get? b).isSome || (g'.get? b).isSome, fun b o e => restrict_some.mpr ⟨h1 b o e, by rw [e]; rfl⟩, fun b o e => restrict_some.mpr ⟨h2 b o e, by rw [e]; simp⟩, fun b o e => (restrict_some.mp e).1, fun b o e => ?_⟩
  obtain ⟨e1, e2⟩ := restrict_some.mp e
  rcases Bool.or_eq_true_iff.mp e2 with q | q
  · obtain ⟨o', ho'⟩ := Option.isSome_iff_exists.mp q
    have := h1 b o' ho'; rw [e1] at this; cases this; exact .inl ho'
  · obtain ⟨o', ho'⟩ := Option.isSome_iff_exists.mp q
    have := h2 b o' ho'; rw [e1] at this; cases this; exact .inr ho'
structure Held (B : Lvl) (w : World) (gB : Heap) (P : Nat → Heap → Value → Prop) (K : List (Addr × Obj) → Prop) (a : Addr) (gi : Nat) (s₀ : Shared) (g : Heap) (s : Shared) (l : Nat) (own : List (Addr × Obj)) (gow : List (Nat × GenState)) (gs : GenState) : Prop where
  isGen : g.IsGen a gi
  at' : s.gens[gi]? = some gs
  gh : ∀ q ∈ gow, s.gens[q.1]? = some q.2 ∧ s₀.gens[q.1]? = none
  new : s₀.gens[gi]? = none
  off : gi ∉ gks gow
  base : Sub gB g
  k : K own
  go : Go B w gB P K l own gow gs
theorem IsGen.mono {g h : Heap} {a : Addr} {gi : Nat} (k : Sub g h) (x : g.IsGen a gi) : h.IsGen a gi := let ⟨o, nm, qn, ho, r⟩ := x; ⟨o, nm, qn, k _ _ ho, r⟩
theorem setGen_other {s : Shared} {g i : Nat} {x : GenState} (h : i ≠ g) : (s.setGen g x).gens[i]? = s.gens[i]? := (GenOnly.setGen s g x).2 i h
theorem bare_set {s : Shared} {g : Nat} {x : GenState} (hx : x.bare = true) (h : AllBare s.gens) : AllBare (s.setGen g x).gens := by
  intro y hy
  obtain ⟨i, hi, rfl⟩ := Array.mem_iff_getElem.mp hy
  by_cases e : i = g
  · subst e
    have h1 : (s.setGen i x).gens[i]? = some (s.setGen i x).gens[i] := Array.getElem?_eq_getElem hi
    have hlt : i < s.gens.size := by simpa [Shared.setGen] using hi
    simp [Shared.setGen, hlt] at h1 ⊢
    exact hx
  · have h1 := setGen_other (s := s) (x := x) e
    rw [Array.getElem?_eq_getElem hi] at h1
    exact h _ (Array.mem_of_getElem? h1.symm)
theorem genItem {a : Addr} {gi l : Nat} {own : List (Addr × Obj)} {gow : List (Nat × GenState)} {gs : GenState} {Q : Option Value → Shared → Prop} (hh : A.handled = none) (hd : A.depth + 1 ≤ B.d) (hu : A.units + 12 ≤ B.u) (G : Amb w mg mb g)
    (S : St X g₀ s₀ L g s m (own ++ ow)) (H : Held B w gB P K a gi s₀ g s (l + 1) own gow gs) (hX : ∀ b ∈ X, b ∈ ks ow ∨ ∀ o, K o → b ∈ ks o)
    (h : ∀ v own' gow' gs' g' s', Sub g g' → St X g₀ s₀ L g' s' m (own' ++ ow) → Held B w gB P K a gi s₀ g' s' l own' gow' gs' → P l g' v → Q (some v) s') : wpAny (model prg w) A (pyNext (.ref a)) Q E s := by
  have G' := G.keeps S.in_
  have good : Good gB own gow (s.setGen gi .running) := ⟨H.base.trans S.in_, fun p hp => (S.own p (List.mem_append.mpr (.inl hp))).1, fun q hq => by
    have hne : q.1 ≠ gi := fun e => H.off (e ▸ List.mem_map.mpr ⟨q, hq, rfl⟩)
    rw [setGen_other hne]; exact (H.gh q hq).1⟩
  refine pyNext1 hh hd hu G'.T.nolimit (IsGen.mono S.in_ H.isGen) H.at' (H.go.2 _ good) fun e s₁ he => ?_
  obtain ⟨mv, he⟩ := he
  cases e with
  | ret r => exact he.elim
  | susp v gd lv k c p fs =>
    obtain ⟨hq, own', gow', gN, ok, hN1, hN2, hN3, hP, hgw, hgo⟩ := he
    refine ⟨hq, ?_⟩
    have run : (s.setGen gi .running).gens[gi]? = some .running := setGen_self H.at'
    have hgi1 : s₁.gens[gi]? = some .running := mv.gens gi _ H.off run
    have offown : ∀ b o, g.get? b = some o → b ∉ ks own := fun b o e hm => by
      obtain ⟨p, hp, rfl⟩ := List.mem_map.mp hm
      rw [(S.own p (List.mem_append.mpr (.inl hp))).2.2.1] at e; cases e
    have hgs1 : Sub g s₁.heap := fun b o e => mv.keep b o (offown b o e) (S.in_ b o e)
    obtain ⟨j, j1, j2, j3, j4⟩ := join hgs1 hN1
    have hoff' : gi ∉ gks gow' := fun hm => by
      obtain ⟨q, hq, e⟩ := List.mem_map.mp hm
      rcases (hgw q hq).2 with h | h
      · exact H.off (e ▸ h)
      · have h1 : (s.setGen gi GenState.running).gens[q.1]? = none := h
        rw [e, run] at h1; cases h1
    have S₂ : St X g₀ s₀ L j (s₁.setGen gi (End.susp v gd lv k c p fs).genState) m (own' ++ ow) := by
      refine S.callG j1 j3 mv.keep (fun b o e => ?_) (fun i x e => ?_) (fun hb => bare_set (End.bare_of_quiet hq) (mv.bare (bare_set rfl hb))) mv.os ok.at' (fun p hp => none_of fun o e => ?_) ok.nd (fun b hb hm => (hX b hb).elim (fun h' => absurd rfl ((List.nodup_append.mp (by simpa only [List.map_append] using S.nd)).2.2 b hm b h')) fun h' => h' _ ok.k)
      · rcases j4 b o e with h | h
        · exact .inl h
        · exact .inr (hN2 b o h)
      · have hne : i ≠ gi := fun q => by rw [q, H.new] at e; cases e
        rw [setGen_other hne]
        refine mv.gens i x (fun hm => ?_) ((setGen_other hne).trans (S.grow.gens i x e))
        obtain ⟨q, hq, rfl⟩ := List.mem_map.mp hm
        rw [(H.gh q hq).2] at e; cases e
      · rcases j4 _ _ e with h | h
        · rcases (ok.at' p hp).2 with h' | h'
          · exact offown _ _ h h'
          · have := S.in_ _ _ h
            have h'' : s.heap.get? p.1 = none := h'
            rw [h''] at this; cases this
        · rw [hN3 p hp] at h; cases h
    refine h v own' gow' _ j _ j1 S₂ ⟨IsGen.mono j1 H.isGen, setGen_self hgi1, fun q hq => ?_, H.new, hoff', H.base.trans j1, ok.k, hgo⟩ (hP j (H.base.trans j1) j2)
    have hne : q.1 ≠ gi := fun e => hoff' (e ▸ List.mem_map.mpr ⟨q, hq, rfl⟩)
    refine ⟨by rw [setGen_other hne]; exact (hgw q hq).1, ?_⟩
    rcases (hgw q hq).2 with h | h
    · obtain ⟨q', hq', e⟩ := List.mem_map.mp h
      exact e ▸ (H.gh q' hq').2
    · cases e : s₀.gens[q.1]? with
      | none => rfl
      | some x =>
        have h1 : (s.setGen gi GenState.running).gens[q.1]? = none := h
        rw [setGen_other hne, S.grow.gens _ _ e] at h1; cases h1
theorem genDone {a : Addr} {gi : Nat} {own : List (Addr × Obj)} {gow : List (Nat × GenState)} {gs : GenState} {Q : Option Value → Shared → Prop} (hh : A.handled = none) (hd : A.depth + 1 ≤ B.d) (hu : A.units + 12 ≤ B.u) (G : Amb w mg mb g)
    (S : St X g₀ s₀ L g s m (own ++ ow)) (H : Held B w gB P K a gi s₀ g s 0 own gow gs) (hX : ∀ b ∈ X, b ∈ ks ow ∨ ∀ o, K o → b ∈ ks o)
    (h : ∀ own' s', K own' → St X g₀ s₀ L g s' m (own' ++ ow) → Q none s') : wpAny (model prg w) A (pyNext (.ref a)) Q E s := by
  have G' := G.keeps S.in_
  have good : Good gB own gow (s.setGen gi .running) := ⟨H.base.trans S.in_, fun p hp => (S.own p (List.mem_append.mpr (.inl hp))).1, fun q hq => by
    have hne : q.1 ≠ gi := fun e => H.off (e ▸ List.mem_map.mpr ⟨q, hq, rfl⟩)
    rw [setGen_other hne]; exact (H.gh q hq).1⟩
  refine pyNext1 hh hd hu G'.T.nolimit (IsGen.mono S.in_ H.isGen) H.at' (H.go.2 _ good) fun e s₁ he => ?_
  obtain ⟨mv, he⟩ := he
  cases e with
  | susp v gd lv k c p fs => exact he.elim
  | ret r =>
    obtain ⟨hr, own', ok⟩ := he
    refine ⟨hr, fun h' hk => ?_⟩
    have offown : ∀ b o, g.get? b = some o → b ∉ ks own := fun b o e hm => by
      obtain ⟨p, hp, rfl⟩ := List.mem_map.mp hm
      rw [(S.own p (List.mem_append.mpr (.inl hp))).2.2.1] at e; cases e
    refine h own' _ ok.k ?_
    refine S.callG (.refl _) (fun b o e => hk b o (mv.keep b o (offown b o e) (S.in_ b o e))) (fun b o hb e => hk b o (mv.keep b o hb e)) (fun b o e => .inl e) (fun i x e => ?_) (fun hb => bare_set rfl (mv.bare (bare_set rfl hb))) mv.os (fun p hp => ⟨hk _ _ (ok.at' p hp).1, (ok.at' p hp).2⟩) (fun p hp => none_of fun o e => ?_) ok.nd (fun b hb hm => (hX b hb).elim (fun h' => absurd rfl ((List.nodup_append.mp (by simpa only [List.map_append] using S.nd)).2.2 b hm b h')) fun h' => h' _ ok.k)
    · have hne : i ≠ gi := fun q => by rw [q, H.new] at e; cases e
      show (s₁.setGen gi .finished).gens[i]? = some x
      rw [setGen_other hne]
      refine mv.gens i x (fun hm => ?_) ((setGen_other hne).trans (S.grow.gens i x e))
      obtain ⟨q, hq, rfl⟩ := List.mem_map.mp hm
      rw [(H.gh q hq).2] at e; cases e
    · rcases (ok.at' p hp).2 with h' | h'
      · exact offown _ _ e h'
      · have := S.in_ _ _ e
        have h'' : s.heap.get? p.1 = none := h'
        rw [h''] at this; cases this
end
end Mine
namespace Mine
section
variable {B : Lvl} {w : World} {mg mb : Str → Option Value} {M : Model} {A : Around} {E : Value → Shared → Prop} {X : List Addr} {g₀ g : Heap} {s₀ s : Shared} {L : Addr} {m : Str → Option Value} {ow : List (Addr × Obj)} {env : Env}
  {gB : Heap} {P : Nat → Heap → Value → Prop}
noncomputable def virt (s : Shared) (hid : List Addr) : Shared := { s with heap := hideAll s.heap hid }
theorem virt_some {s : Shared} {hid : List Addr} {b : Addr} {o : Obj} : (virt s hid).heap.get? b = some o ↔ s.heap.get? b = some o ∧ b ∉ hid := by
  constructor
  · intro e
    have e1 := of_hideAll _ e
    exact ⟨e1, fun hm => by
      have := hideAll_none (h := s.heap) hid hm
      have e' : (hideAll s.heap hid).get? b = some o := e
      rw [this] at e'; cases e'⟩
  · rintro ⟨e, hn⟩; exact hideAll_get _ e hn
theorem virt_none {s : Shared} {hid : List Addr} {b : Addr} (h : (virt s hid).heap.get? b = none) (hn : b ∉ hid) : s.heap.get? b = none := none_of fun o e => by
  have h' := virt_some.mpr (⟨e, hn⟩ : s.heap.get? b = some o ∧ b ∉ hid)
  rw [h] at h'; cases h'
theorem stGen {C : Addr} {oC : Obj} {it ex : List (Addr × Obj)} (hB : Sub gB s.heap) (ho : ∀ p ∈ (C, oC) :: (it ++ ex), s.heap.get? p.1 = some p.2) (hg : ∀ p ∈ (C, oC) :: (it ++ ex), gB.get? p.1 = none) (hnd : (ks ((C, oC) :: (it ++ ex))).Nodup)
    (hn : s.heap.Ns C m) (hlo : 353 ≤ C) : St (ks ex) gB (virt s (C :: ks it)) C gB s m (it ++ ex) := by
  have nd := List.nodup_cons.mp hnd
  have nd2 := List.nodup_append.mp (by simpa only [List.map_append] using nd.2)
  have nhid : ∀ p ∈ (C, oC) :: (it ++ ex), ∀ o, gB.get? p.1 ≠ some o := fun p hp o e => by rw [hg p hp] at e; cases e
  refine ⟨⟨.refl _, hB, fun b o _ e => (virt_some.mp e).1, fun b o e => .inl e, fun _ _ e => e, id, rfl⟩, hn, hg _ (.head _), none_of fun o e => (virt_some.mp e).2 (.head _), fun p hp => ?_, nd.2, fun b hb => ?_, hlo⟩
  · refine ⟨ho p (.tail _ hp), fun e => nd.1 (by rw [← e]; exact List.mem_map.mpr ⟨p, hp, rfl⟩), hg p (.tail _ hp), ?_⟩
    rcases List.mem_append.mp hp with h | h
    · exact .inr (none_of fun o e => (virt_some.mp e).2 (.tail _ (List.mem_map.mpr ⟨p, h, rfl⟩)))
    · exact .inl (List.mem_map.mpr ⟨p, h, rfl⟩)
  · obtain ⟨p, hp, rfl⟩ := List.mem_map.mp hb
    rw [ho p (.tail _ (List.mem_append.mpr (.inr hp)))]; rfl
noncomputable def KG (C : Addr) (kI X : List Addr) (KE : List (Addr × Obj) → Prop) (own : List (Addr × Obj)) : Prop := ∃ pre ex, own = pre ++ ex ∧ ks ex = X ∧ KE ex
theorem ns_obj {C : Addr} (hn : s.heap.Ns C m) : ∃ oC, s.heap.get? C = some oC ∧ ∀ h : Heap, h.get? C = some oC → h.Ns C m := by
  obtain ⟨o, es, ep, ho, r⟩ := hn
  exact ⟨o, ho, fun h e => ⟨o, es, ep, e, r⟩⟩
theorem stGen_end {C : Addr} {oC : Obj} {it ex it' ex' : List (Addr × Obj)} {g' : Heap} {s' : Shared} {m' : Str → Option Value} {KE : List (Addr × Obj) → Prop} (hnd : (ks ((C, oC) :: (it ++ ex))).Nodup)
    (S : St (ks ex) gB (virt s (C :: ks it)) C g' s' m' (it' ++ ex')) (hi : ks it' = ks it) (he : ks ex' = ks ex) (hE : KE ex') (hC : s.heap.get? C = some oC) (hit : ∀ p ∈ it, (s.heap.get? p.1).isSome = true) :
    Moves ((C, oC) :: (it ++ ex)) [] s s' ∧ ∃ oC', OwnOk (KG C (ks it) (ks ex) KE) ((C, oC) :: (it ++ ex)) s ((C, oC') :: (it' ++ ex')) s' ∧ (∀ h : Heap, h.get? C = some oC' → h.Ns C m') := by
  have nd := List.nodup_cons.mp hnd
  refine ⟨⟨fun b o hb e => ?_, fun i x _ e => S.grow.gens i x e, S.grow.bare, S.grow.os⟩, ?_⟩
  · have hb' : b ≠ C ∧ b ∉ ks it ∧ b ∉ ks ex := by
      simp only [ks, List.map_cons, List.map_append, List.mem_cons, List.mem_append, not_or] at hb; exact hb
    refine S.grow.keep b o hb'.2.2 (virt_some.mpr ⟨e, fun hm => ?_⟩)
    rcases List.mem_cons.mp hm with h | h
    · exact hb'.1 h
    · exact hb'.2.1 h
  · obtain ⟨oC', h1, h2⟩ := ns_obj S.ns
    have hkeys : ks ((C, oC') :: (it' ++ ex')) = ks ((C, oC) :: (it ++ ex)) := by simp only [ks, List.map_cons, List.map_append] at hi he ⊢; rw [hi, he]
    refine ⟨oC', ⟨⟨(C, oC') :: it', ex', rfl, he, hE⟩, fun p hp => ⟨?_, .inl (by rw [← hkeys]; exact List.mem_map.mpr ⟨p, hp, rfl⟩)⟩, by rw [hkeys]; exact hnd⟩, h2⟩
    rcases List.mem_cons.mp hp with rfl | hp
    · exact h1
    · exact (S.own p hp).1
theorem gN_of {C : Addr} {oC : Obj} {it ex it' ex' : List (Addr × Obj)} {g' : Heap} {s' : Shared} {m' : Str → Option Value} (S : St (ks ex) gB (virt s (C :: ks it)) C g' s' m' (it' ++ ex')) (hi : ks it' = ks it) (he : ks ex' = ks ex) :
    ∃ gN, Sub gN s'.heap ∧ (∀ b o, gN.get? b = some o → s.heap.get? b = none) ∧ (∀ p ∈ (C, oC) :: (it' ++ ex'), gN.get? p.1 = none) ∧ ∀ gA, Sub gB gA → Sub gN gA → Sub g' gA := by
  refine ⟨restrict g' fun b => !(gB.get? b).isSome, fun b o e => S.in_ b o (restrict_some.mp e).1, fun b o e => ?_, fun p hp => none_of fun o e => ?_, fun gA h1 h2 b o e => ?_⟩
  · obtain ⟨e1, e2⟩ := restrict_some.mp e
    rcases S.grow.fresh b o e1 with h | h
    · rw [h] at e2; cases e2
    · refine virt_none h fun hm => ?_
      rcases List.mem_cons.mp hm with rfl | hm
      · rw [S.offL] at e1; cases e1
      · rw [← hi] at hm
        obtain ⟨p, hp, rfl⟩ := List.mem_map.mp hm
        rw [(S.own p (List.mem_append.mpr (.inl hp))).2.2.1] at e1; cases e1
  · have e1 := (restrict_some.mp e).1
    rcases List.mem_cons.mp hp with rfl | hp
    · rw [S.offL] at e1; cases e1
    · rw [(S.own p hp).2.2.1] at e1; cases e1
  · cases q : gB.get? b with
    | some o' =>
      have := S.grow.sub b o' q
      rw [e] at this; cases this; exact h1 _ _ q
    | none => exact h2 _ _ (restrict_some.mpr ⟨e, by rw [q]; rfl⟩)
theorem goLoop {elt iter target : Expr} {scope : Scope} {pos : PySem.Pos} {I C : Addr} {cenv : Env} {n : Nat} {kI : List Addr} {KE : List (Addr × Obj) → Prop} {It : Nat → List (Addr × Obj) → Prop} {Bd : Nat → Heap → (Str → Option Value) → Prop}
    (hC : cenv.locals = C) (hco : cenv.scope.isCoroutine = false) (hlo : 353 ≤ C) (hCB : gB.get? C = none) (hkB : ∀ b ∈ kI ++ X, gB.get? b = none) (hnd : (C :: (kI ++ X)).Nodup) (hPm : ∀ l g h v, Sub g h → P l g v → P l h v)
    (hhd : (B.A.over (.compLoop (.GeneratorExp elt [⟨target, iter, [], 0⟩] scope pos) 0 (.ref I) .none cenv) []).handled = none)
    (fetch : ∀ i s₀ s m it ex, i < n → It i it → ks it = kI → ks ex = X → KE ex → St X gB s₀ C gB s m (it ++ ex) →
      wpAny (model prg w) (B.A.over (.compLoop (.GeneratorExp elt [⟨target, iter, [], 0⟩] scope pos) 0 (.ref I) .none cenv) []) (pyNext (.ref I)) (fun r s₁ => ∃ v, r = some v ∧
        wpAny (model prg w) (B.A.over (.compLoop (.GeneratorExp elt [⟨target, iter, [], 0⟩] scope pos) 0 (.ref I) .none cenv) []) (letOwnedTupleGo target (.ref I) v) (fun _ s₂ =>
        wpAny (model prg w) (B.A.over (.compLoop (.GeneratorExp elt [⟨target, iter, [], 0⟩] scope pos) 0 (.ref I) .none cenv) []) (assign target cenv v) (fun _ s₃ => ∃ g₃ m₃ it₃, Sub gB g₃ ∧ It (i + 1) it₃ ∧ ks it₃ = kI ∧ Bd i g₃ m₃ ∧ St X gB s₀ C g₃ s₃ m₃ (it₃ ++ ex)) (fun _ _ => False) s₂) (fun _ _ => False) s₁) (fun _ _ => False) s)
    (fin : ∀ s₀ s m it ex, It n it → ks it = kI → ks ex = X → St X gB s₀ C gB s m (it ++ ex) →
      wpAny (model prg w) (B.A.over (.compLoop (.GeneratorExp elt [⟨target, iter, [], 0⟩] scope pos) 0 (.ref I) .none cenv) []) (pyNext (.ref I)) (fun r s₁ => r = none ∧ St X gB s₀ C gB s₁ m ex) (fun _ _ => False) s)
    (turn : ∀ i s₀ g' s' m' it ex, i < n → Sub gB g' → Bd i g' m' → KE ex → ks ex = X → St X gB s₀ C g' s' m' (it ++ ex) →
      wpAny (model prg w) (B.A.over (.compLoop (.GeneratorExp elt [⟨target, iter, [], 0⟩] scope pos) 0 (.ref I) .none cenv) []) (eval elt cenv) (fun y s₄ => ∃ g₄ m₄ ex₄, Sub g' g₄ ∧ ks ex₄ = X ∧ KE ex₄ ∧ P (n - 1 - i) g₄ y ∧ St X gB s₀ C g₄ s₄ m₄ (it ++ ex₄)) (fun _ _ => False) s') :
    ∀ (k i : Nat) (oC : Obj) (it ex : List (Addr × Obj)) (m : Str → Option Value), n - i = k → i ≤ n → It i it → ks it = kI → ks ex = X → KE ex → (∀ h : Heap, h.get? C = some oC → h.Ns C m) → ∀ s, Good gB ((C, oC) :: (it ++ ex)) [] s →
      Seg1 B (model prg w) (PhiN B w gB P (KG C kI X KE) k ((C, oC) :: (it ++ ex)) s)
      (.compLoop (.GeneratorExp elt [⟨target, iter, [], 0⟩] scope pos) 0 (.ref I) .none cenv) ((model prg w).den (.compLoop (.GeneratorExp elt [⟨target, iter, [], 0⟩] scope pos) 0 (.ref I) .none cenv)) [] s := by
  intro k
  induction k with
  | zero =>
    intro i oC it ex m hk hi hit hki hkx hE hns s good
    have hin : i = n := by omega
    subst hin
    have hks : ks ((C, oC) :: (it ++ ex)) = C :: (kI ++ X) := by simp only [ks, List.map_cons, List.map_append] at hki hkx ⊢; rw [hki, hkx]
    have hnd' : (ks ((C, oC) :: (it ++ ex))).Nodup := by rw [hks]; exact hnd
    have S := stGen (m := m) good.base good.own (fun p hp => by
      have : p.1 ∈ C :: (kI ++ X) := by rw [← hks]; exact List.mem_map.mpr ⟨p, hp, rfl⟩
      rcases List.mem_cons.mp this with h | h
      · rw [h]; exact hCB
      · exact hkB _ h) hnd' (hns _ (good.own _ (.head _))) hlo
    rw [hkx] at S
    show Seg1 _ _ _ _ ((compTurn (.GeneratorExp elt [⟨target, iter, [], 0⟩] scope pos) 0 (.ref I) .none cenv).onRaise (leaving cenv)) [] s
    rw [compTurn_gen, Sem.onRaise_eq_wrap]
    refine s1_bindw (wpAny_standAt ?_)
    refine s1_bindw (wpAny_noRaise (wpAny_mono (fin _ s m it ex hit hki hkx S) (fun r s₁ h₁ => ?_) fun _ _ x => x))
    obtain ⟨rfl, S₁⟩ := h₁
    refine s1_end (.ok .next) ?_
    refine ⟨⟨fun b o hb e => ?_, fun i x _ e => S₁.grow.gens i x e, S₁.grow.bare, S₁.grow.os⟩, .inl rfl, ex, ⟨[], ex, rfl, hkx, hE⟩, fun p hp => ⟨(S₁.own p hp).1, .inl ?_⟩, S₁.nd⟩
    · have hb' : b ≠ C ∧ b ∉ ks it ∧ b ∉ ks ex := by
        simp only [ks, List.map_cons, List.map_append, List.mem_cons, List.mem_append, not_or] at hb; exact hb
      refine S₁.grow.keep b o (by rw [← hkx]; exact hb'.2.2) (virt_some.mpr ⟨e, fun hm => ?_⟩)
      rcases List.mem_cons.mp hm with h | h
      · exact hb'.1 h
      · exact hb'.2.1 h
    · exact List.mem_map.mpr ⟨p, .tail _ (List.mem_append.mpr (.inr hp)), rfl⟩
  | succ k ih =>
    intro i oC it ex m hk hi hit hki hkx hE hns s good
    have hlt : i < n := by omega
    have hks : ks ((C, oC) :: (it ++ ex)) = C :: (kI ++ X) := by simp only [ks, List.map_cons, List.map_append] at hki hkx ⊢; rw [hki, hkx]
    have hnd' : (ks ((C, oC) :: (it ++ ex))).Nodup := by rw [hks]; exact hnd
    have S := stGen (m := m) good.base good.own (fun p hp => by
      have : p.1 ∈ C :: (kI ++ X) := by rw [← hks]; exact List.mem_map.mpr ⟨p, hp, rfl⟩
      rcases List.mem_cons.mp this with h | h
      · rw [h]; exact hCB
      · exact hkB _ h) hnd' (hns _ (good.own _ (.head _))) hlo
    rw [hkx] at S
    show Seg1 _ _ _ _ ((compTurn (.GeneratorExp elt [⟨target, iter, [], 0⟩] scope pos) 0 (.ref I) .none cenv).onRaise (leaving cenv)) [] s
    rw [compTurn_gen, Sem.onRaise_eq_wrap]
    refine s1_bindw (wpAny_standAt ?_)
    refine s1_bindw (wpAny_noRaise (wpAny_mono (fetch i _ s m it ex hlt hit hki hkx hE S) (fun r s₁ h₁ => ?_) fun _ _ x => x))
    obtain ⟨v, rfl, h₁⟩ := h₁
    refine s1_bindw (wpAny_noRaise (wpAny_mono h₁ (fun _ s₂ h₂ => ?_) fun _ _ x => x))
    refine s1_bindw (wpAny_noRaise (wpAny_mono h₂ (fun _ s₃ h₃ => ?_) fun _ _ x => x))
    obtain ⟨g₃, m₃, it₃, kg₃, hit₃, hki₃, hbd, S₃⟩ := h₃
    refine s1_bindw (wpAny_pure (a := true) ?_)
    simp only [if_true]
    have hy : ∀ v, yieldOut cenv v = yieldValue v := fun v => by simp only [yieldOut, hco, Bool.false_eq_true, if_false]
    simp only [hy]
    rw [Sem.bind_eq_wrap', Sem.bind_eq_wrap', Sem.wrap_wrap, Sem.wrap_wrap]
    refine s1_wrap (wpAny_noRaise (wpAny_mono (turn i _ g₃ s₃ m₃ it₃ ex hlt kg₃ hbd hE hkx S₃) (fun y s₄ h₄ => ?_) fun _ _ x => x))
    obtain ⟨g₄, m₄, ex₄, kg₄, hkx₄, hE₄, hP, S₄⟩ := h₄
    refine s1_at (s1_yield rfl fun p => ?_)
    have S₄' : St (ks ex) gB (virt s (C :: ks it)) C g₄ s₄ m₄ (it₃ ++ ex₄) := by rw [hkx]; exact S₄
    obtain ⟨mv, oC', ok, hns'⟩ := stGen_end (KE := KE) hnd' S₄' (hki₃.trans hki.symm) (hkx₄.trans hkx.symm) hE₄ (good.own _ (.head _)) (fun p hp => by rw [good.own p (.tail _ (List.mem_append.mpr (.inl hp)))]; rfl)
    obtain ⟨gN, n1, n2, n3, n4⟩ := gN_of (oC := oC') S₄' (hki₃.trans hki.symm) (hkx₄.trans hkx.symm)
    rw [hki, hkx] at ok
    refine ⟨mv, rfl, _, [], gN, ok, n1, n2, n3, fun gA h1 h2 => ?_, fun _ h => (nomatch h), ?_⟩
    · have e : n - 1 - i = k := by omega
      rw [e] at hP
      exact hPm _ _ _ _ (n4 gA h1 h2) hP
    · have step := ih (i + 1) oC' it₃ ex₄ m₄ (by omega) hlt hit₃ hki₃ hkx₄ hE₄ hns'
      cases k with
      | zero => exact ⟨rfl, fun s'' good' => s1_again rfl ((step s'' good').imp fun e s' h => by cases e <;> exact h)⟩
      | succ k => exact ⟨rfl, fun s'' good' => s1_again rfl ((step s'' good').imp fun e s' h => by cases e <;> exact h)⟩
end
end Mine
namespace Mine
section
variable {B : Lvl} {w : World} {mg mb : Str → Option Value} {M : Model} {A : Around} {E : Value → Shared → Prop} {X : List Addr} {g₀ g : Heap} {s₀ s : Shared} {L : Addr} {m : Str → Option Value} {ow : List (Addr × Obj)} {env : Env}
  {gB : Heap} {P : Nat → Heap → Value → Prop}
theorem goStart {elt iter target : Expr} {scope : Scope} {pos : PySem.Pos} {I C : Addr} {cenv : Env} {n : Nat} {oC : Obj} {it ex : List (Addr × Obj)} {K : List (Addr × Obj) → Prop}
    (self : ∀ s, Good gB ((C, oC) :: (it ++ ex)) [] s → wpAny (model prg w) (B.A.over (.compStart (.GeneratorExp elt [⟨target, iter, [], 0⟩] scope pos) 0 (.ref I) .none cenv) []) (pyIter (.ref I)) (fun r s₁ => r = .ref I ∧ s₁ = s) (fun _ _ => False) s)
    (loop : ∀ s, Good gB ((C, oC) :: (it ++ ex)) [] s →
      Seg1 B (model prg w) (PhiN B w gB P K n ((C, oC) :: (it ++ ex)) s)
      (.compLoop (.GeneratorExp elt [⟨target, iter, [], 0⟩] scope pos) 0 (.ref I) .none cenv) ((model prg w).den (.compLoop (.GeneratorExp elt [⟨target, iter, [], 0⟩] scope pos) 0 (.ref I) .none cenv)) [] s) :
    Go B w gB P K n ((C, oC) :: (it ++ ex)) [] (.fresh (.compStart (.GeneratorExp elt [⟨target, iter, [], 0⟩] scope pos) 0 (.ref I) .none cenv)) := by
  have key : ∀ s, Good gB ((C, oC) :: (it ++ ex)) [] s → Seg1 B (model prg w) (PhiN B w gB P K n ((C, oC) :: (it ++ ex)) s)
      (.compStart (.GeneratorExp elt [⟨target, iter, [], 0⟩] scope pos) 0 (.ref I) .none cenv) ((model prg w).den (.compStart (.GeneratorExp elt [⟨target, iter, [], 0⟩] scope pos) 0 (.ref I) .none cenv)) [] s := by
    intro s good
    have lp := loop s good
    show Seg1 _ _ _ _ ((compStart (.GeneratorExp elt [⟨target, iter, [], 0⟩] scope pos) 0 (.ref I) .none cenv).onRaise (leaving cenv)) [] s
    unfold compStart
    rw [Sem.onRaise_eq_wrap]
    show Seg1 _ _ _ _ ((ask >>= _).wrap _ _ _ _) [] s
    refine s1_bindw (wpAny_askSetting ?_)
    split
    · exact s1_again rfl lp
    · first
        | exact s1_bindw (wpAny_rule (s1_bindw (wpAny_standAt (s1_bindw (wpAny_noRaise (wpAny_mono (self s good) (fun r s₁ h => by obtain ⟨rfl, rfl⟩ := h; exact s1_again rfl lp) fun _ _ x => x))))))
        | (refine s1_bindw (wpAny_rule ?_); show Seg1 _ _ _ _ ((standAt iter.pos >>= _).wrap _ _ _ _) [] s; exact s1_bindw (wpAny_standAt (s1_bindw (wpAny_noRaise (wpAny_mono (self s good) (fun r s₁ h => by obtain ⟨rfl, rfl⟩ := h; exact s1_again rfl lp) fun _ _ x => x)))))
  cases n with
  | zero => exact ⟨rfl, fun s good => (key s good).imp fun e s' h => by cases e <;> exact h⟩
  | succ n => exact ⟨rfl, fun s good => (key s good).imp fun e s' h => by cases e <;> exact h⟩
theorem St.pushGen {x : GenState} (S : St X g₀ s₀ L g s m ow) (hx : x.bare = true) : St X g₀ s₀ L g { s with gens := s.gens.push x } m ow :=
  ⟨⟨S.grow.sub, S.grow.in_, S.grow.keep, S.grow.fresh, fun i y e => by
      have h := S.grow.gens i y e
      have hl : i < s.gens.size := (Array.getElem?_eq_some_iff.mp h).1
      show (s.gens.push x)[i]? = some y
      rw [Array.getElem?_push_lt hl]
      exact (Array.getElem?_eq_getElem hl).symm.trans h, fun hb y hy => by
      rcases Array.mem_push.mp hy with h | rfl
      · exact S.grow.bare hb y h
      · exact hx, S.grow.os⟩, S.ns, S.offL, S.newL, S.own, S.nd, S.xin, S.lo⟩
noncomputable def PlOk (o : Obj) : Prop := ∃ ps, o = { cls := .none, data := .fields ps } ∧ TriplesOk ps.toList
noncomputable def codeAtIn (K : Frag) (c P : Addr) : Prop := ∃ od vs osl file tf flags tg inF text tt, K.lookup c = some ⟨.type "code", od, .fields vs, osl⟩ ∧ vs[11]? = some (.ref P) ∧ vs.getD 18 .none = .str file tf ∧
  vs.getD 7 .none = .int flags tg ∧ vs.getD 9 .none = .bool inF ∧ vs.getD 10 .none = .int text tt
theorem codeAtIn.of {K : Frag} {c P : Addr} {od : Option Addr} {vs : Array Value} {osl : Array (Option Value)} {file : Str} {tf : Tok} {flags : Int} {tg : Tok} {inF : Bool} {text : Int} {tt : Tok}
    (h : K.lookup c = some ⟨.type "code", od, .fields vs, osl⟩) (h11 : vs[11]? = some (.ref P)) (h18 : vs.getD 18 .none = .str file tf) (h7 : vs.getD 7 .none = .int flags tg) (h9 : vs.getD 9 .none = .bool inF) (h10 : vs.getD 10 .none = .int text tt) : codeAtIn K c P :=
  ⟨_, _, _, _, _, _, _, _, _, _, h, h11, h18, h7, h9, h10⟩
theorem isCode_of {K : Frag} {h : Heap} {c PP : Addr} {o : Obj} (X : K.In h) (e : codeAtIn K c PP) (hne : c ≠ PP) (ho : h.get? PP = some o) (hp : PlOk o) : ∃ ps, h.IsCode c PP ps ∧ h.TableAt c PP ps := by
  obtain ⟨ps, rfl, ht⟩ := hp
  obtain ⟨od, vs, osl, file, tf, flags, tg, inF, text, tt, hl, h11, h18, h7, h9, h10⟩ := e
  exact ⟨ps, ⟨_, vs, _, _, _, _, _, _, _, _, X _ _ hl, rfl, by rw [Array.getD_eq_getD_getElem?, h11]; rfl, h18, h7, h9, h10, ho, rfl, ht, hne⟩, ⟨_, vs, X _ _ hl, rfl, rfl, h11⟩, ho⟩
theorem plOk_of {h : Heap} {c PP : Addr} {ps : Array Value} (x : h.IsCode c PP ps) (y : h.TableAt c PP ps) : ∃ o, h.get? PP = some o ∧ PlOk o := by
  obtain ⟨o, vs, file, tf, flags, tg, inF, text, tt, op, _, _, _, _, _, _, _, h1, h2, h3, _⟩ := x
  exact ⟨_, y.2, ps, rfl, h3⟩
theorem genexprCodeT {env : Env} {c P : Addr} {ps : Array Value} {pos : PySem.Pos} {qualname : Str} {scope : Scope} {Q : Value → Shared → Prop} (hc : env.code = .ref c) (hok : s.heap.IsCode c P ps) (htab : s.heap.TableAt c P ps)
    (hQ : ∀ code h' tk ps', Heap.ExtBut P s.heap h' → h'.IsCode c P ps' → h'.TableAt c P ps' → Q code { s with heap := h', toks := tk }) : wpAny M A (genexprCode env pos qualname scope) Q E s := by
  cases hnf : codeAmong pos ps.toList with
  | none => exact wpAny_genexprCodeX hc hok htab hnf fun c' h' tk hx _ _ hc2 _ ht2 _ => hQ _ h' tk _ hx hc2 ht2
  | some cv =>
    obtain ⟨o, vs, file, tf, flags, tg, inF, text, tt, op, ho, hd, h11, h2, h7, h9, h10, hop, hpd, htr, hne⟩ := id hok
    unfold genexprCode codeAt
    rw [hc, if_neg (show ¬ ((Value.ref c == Value.none) = true) from Bool.false_ne_true)]
    refine wpAny_bind (wpAny_fieldsOf ho hd ?_)
    rw [h11]
    refine wpAny_bind (wpAny_fieldsOf hop hpd ?_)
    rw [hnf]
    exact wpAny_pure (hQ cv s.heap s.toks ps (Heap.ExtBut.refl _ _) hok htab)
theorem mkGen {elt iter target : Expr} {scope : Scope} {cl : List (Str × Addr)} {pos : PySem.Pos} {c PP : Addr} {Q : Value → Shared → Prop} (hd : A.depth < recursionLimit) (hg : env.globals = mainGlobals) (hb : env.builtins = builtinsNs) (hcd : env.code = .ref c) (hcP : c ≠ PP)
    (hkd : codeAtIn (Mine.hd.heap_1 w.params) c PP)
    (hco : scope.isCoroutine = false) (hclos : closureFor scope env = pure cl) (hcell : ∀ y ∈ scope.names, y.2 ≠ .cell) (h0 : scope.names.lookup (".0" : Str) = some NameKind.local) (hkind : scope.kind = .function)
    (h : wpAny (model prg w) A (eval iter env) (fun xv s₁ => wpAny (model prg w) A (pyIter xv) (fun itv s₂ => ∃ g m ow oP, Amb w mg mb g ∧ (∃ bm ob, BMod g mainGlobals mg bm ob) ∧ PlOk oP ∧ St X g₀ s₀ L g s₂ m ((PP, oP) :: ow) ∧
      ∀ a C code oC oP' g' s', Sub g g' → PlOk oP' → St X g₀ s₀ L g' s' m ((C, oC) :: (PP, oP') :: ow) → (∀ h : Heap, h.get? C = some oC → h.Ns C fun y => if y = ".0" then some itv else none) → 353 ≤ C → g'.IsGen a s₂.gens.size → s₀.gens[s₂.gens.size]? = none →
        s'.gens[s₂.gens.size]? = some (.fresh (.compStart (.GeneratorExp elt [⟨target, iter, [], 0⟩] scope pos) 0 itv .none (genEnv scope cl C code builtinsNs env))) → Q (.ref a) s') E s₁) E s)
    (hs : ∀ x, genFold iter env x = pure x := by intro _; rfl) : wpAny (model prg w) A (eval (.GeneratorExp elt [⟨target, iter, [], 0⟩] scope pos) env) Q E s := by
  refine wpAny_GeneratorExp_make hco hclos hcell h0 hkind hd (wpAny_mono h (fun xv s₁ h₁ => wpAny_mono h₁ (fun itv s₂ h₂ => ?_) fun _ _ x => x) fun _ _ x => x) hs
  obtain ⟨g, m, ow, oP, G, ⟨bm, ob, Bm⟩, hP, S, hQ⟩ := h₂
  have G₂ := G.keeps S.in_
  refine ⟨G₂.T.nolimit, ?_⟩
  obtain ⟨ps, hcode, htabl⟩ := isCode_of G₂.K hkd hcP (S.get (.head _)) hP
  refine genexprCodeT hcd hcode htabl fun code h' tk ps' hext hcode' htabl' => ?_
  obtain ⟨oP', hoP', hP'⟩ := plOk_of hcode' htabl'
  have zP := S.own _ (.head _)
  have S₃ := St.updK (pre := []) (tk := tk) (m' := m) S (S.ns.at' fun o e => hext _ o zP.2.1.symm e) (fun b ob hb _ e => hext b ob hb e) hoP'
  have G₃ := G.keeps S₃.in_
  rw [hg]
  refine wpAny_builtinsFor G₃.T.g Bm.name Bm.ne (S₃.in_ _ _ Bm.obj) Bm.cls Bm.dict Bm.data fun h₁ hn₁ hs₁ => ?_
  have hlo := G₃.lo
  have S₄ := S₃.push { cls := .type "frame", data := .dict #[] }
  obtain ⟨oC, hoC, hnC⟩ := ns_obj (s := { s₂ with heap := h₁ }) hn₁
  have S₅ := St.upd (pre := []) S₄ hs₁ hoC
  have hgn : s₀.gens[s₂.gens.size]? = none := by
    cases e : s₀.gens[s₂.gens.size]? with
    | none => rfl
    | some x => have h2 := S.grow.gens _ _ e; have := (Array.getElem?_eq_some_iff.mp h2).1; exact absurd this (Nat.lt_irrefl _)
  have S₆ := S₅.pushGen (x := .fresh (.compStart (.GeneratorExp elt [⟨target, iter, [], 0⟩] scope pos) 0 itv .none (genEnv scope cl h'.objs.size code builtinsNs env))) rfl
  have S₇ := (S₆.toks (tk + 1 + 1 + 1)).push { cls := .type "generator", data := .fields #[.int s₂.gens.size 0, .str "<genexpr>" (tk + 1), .str (env.qual ++ "<genexpr>") (tk + 1 + 1)] }
  obtain ⟨g₈, k₈, e₈, _, S₈⟩ := S₇.freeze fun hm => by have := S₆.xin _ hm; rw [get_push_size_none] at this; cases this
  exact hQ _ _ code oC oP' g₈ _ k₈ hP' S₈ hnC hlo ⟨_, _, _, e₈, rfl, rfl, rfl⟩ hgn (Array.getElem?_push_size ..)
end
end Mine
namespace Mine
theorem mapSeq_push (its : List Value) (n : Nat) (v : Value) : ∃ n', Obj.mapSeq (·.push v) (lstO its n) = lstO (its ++ [v]) n' := by
  refine ⟨if ((its.toArray.push v).size == its.toArray.size) = true then n else n + 1, ?_⟩
  show (⟨_, _, .seq (its.toArray.push v) (if ((its.toArray.push v).size == its.toArray.size) = true then n else n + 1), _⟩ : Obj) = _
  rw [List.push_toArray]
theorem mapSeq_pop1 (its : List Value) (n : Nat) (v : Value) : ∃ n', Obj.mapSeq (·.pop) (lstO (its ++ [v]) n) = lstO its n' := by
  have e : (its ++ [v]).toArray.pop = its.toArray := by simp
  refine ⟨if (((its ++ [v]).toArray.pop).size == (its ++ [v]).toArray.size) = true then n else n + 1, ?_⟩
  show (⟨_, _, .seq ((its ++ [v]).toArray.pop) (if (((its ++ [v]).toArray.pop).size == (its ++ [v]).toArray.size) = true then n else n + 1), _⟩ : Obj) = _
  rw [e]
section
variable {B : Lvl} {w : World} {mg mb : Str → Option Value} {M : Model} {A : Around} {E : Value → Shared → Prop} {X : List Addr} {g₀ g : Heap} {s₀ s : Shared} {L : Addr} {m : Str → Option Value} {ow : List (Addr × Obj)} {env : Env}
  {gB : Heap} {P : Nat → Heap → Value → Prop} {K : List (Addr × Obj) → Prop}
theorem extLoop {a D : Addr} {gi : Nat} {R : Result → Shared → Prop} (hh : A.handled = none) (hd : A.depth + 1 ≤ B.d) (hu : A.units + 13 ≤ B.u) (hX : ∀ b ∈ X, b ∈ ks ow ∨ ∀ o, K o → b ∈ ks o) (hPm : ∀ l g h v, Sub g h → P l g v → P l h v) :
    ∀ (l : Nat) (own : List (Addr × Obj)) (gow : List (Nat × GenState)) (gs : GenState) (its : List Value) (n : Nat) (g : Heap) (s : Shared), Amb w mg mb g → St X g₀ s₀ L g s m (own ++ (D, lstO its n) :: ow) → Held B w gB P K a gi s₀ g s l own gow gs → its.length + l ≤ 999 →
      (∀ own' its2 n' g' s', Sub g g' → K own' → its2.length = l → (∀ (j : Nat) v, its2[j]? = some v → P (l - 1 - j) g' v) → St X g₀ s₀ L g' s' m (own' ++ (D, lstO (its ++ its2) n') :: ow) → R (.ok (.ret .none)) s') →
      codeAny (model prg w) A (.builtin "list.extend.loop" ⟨[.ref D, .ref a, .none], []⟩) R s := by
  intro l
  induction l with
  | zero =>
    intro own gow gs its n g s G S H hz h
    refine codeAny_builtin F.entry_extend_loop ?_
    rw [Around.under_plainId F.plain_extend_loop _]
    show wpAny _ A.in1 (pyNext (.ref a) >>= _) _ _ s
    refine wpAny_bind (genDone (A := A.in1) hh hd (by show A.units + 1 + 12 ≤ _; omega) G S H (fun b hb => (hX b hb).imp (fun h => .tail _ h) id) fun own' s' hK S' => ?_)
    exact wpAny_pure (h own' [] n g s' (.refl _) hK rfl (fun j v e => by simp at e) (by rw [List.append_nil]; exact S'))
  | succ l ih =>
    intro own gow gs its n g s G S H hz h
    refine codeAny_builtin F.entry_extend_loop ?_
    rw [Around.under_plainId F.plain_extend_loop _]
    show wpAny _ A.in1 (pyNext (.ref a) >>= _) _ _ s
    refine wpAny_bind (genItem (A := A.in1) hh hd (by show A.units + 1 + 12 ≤ _; omega) G S H (fun b hb => (hX b hb).imp (fun h => .tail _ h) id) fun v own' gow' gs' g' s' k' S' H' hP => ?_)
    show wpAny _ A.in1 (updateSeq D (·.push v) >>= _) _ _ _
    refine wpAny_bind ?_
    have hD := S'.get (List.mem_append.mpr (.inr (.head _)))
    obtain ⟨n', e⟩ := mapSeq_push its n v
    have hu' : (s'.heap.update D (Obj.mapSeq (·.push v))).get? D = some (lstO (its ++ [v]) n') := (Heap.get?_update_self _ hD (by rw [e]; rfl)).trans (by rw [e])
    have S₂ := St.upd (pre := own') S' (Heap.SameBut.update ..) hu'
    have hsz1 : its.toArray.size ≤ sizeLine := by rw [List.size_toArray]; exact sl (by omega)
    refine wpAny_updateSeq hD rfl (wpAny_pure ⟨plainId_quiet F.plain_extend_loop _, ?_⟩) hsz1 (by show (its.toArray.push v).size ≤ sizeLine + 1; rw [Array.size_push, List.size_toArray]; exact Nat.succ_le_succ (sl (by omega)))
    refine ih own' gow' gs' (its ++ [v]) n' g' _ (G.keeps k') S₂ ⟨H'.isGen, H'.at', H'.gh, H'.new, H'.off, H'.base, H'.k, H'.go⟩ (by rw [List.length_append, List.length_singleton]; omega) fun own'' its2 n'' g'' s'' k'' hK hl hI S'' => ?_
    refine h own'' (v :: its2) n'' g'' s'' (k'.trans k'') hK (by rw [List.length_cons, hl]) (fun j x hx => ?_) (by rw [List.append_assoc] at S''; exact S'')
    cases j with
    | zero => simp at hx; subst hx; exact hPm _ _ _ _ k'' hP
    | succ j =>
      have := hI j x (by simpa using hx)
      rwa [show l + 1 - 1 - (j + 1) = l - 1 - j by omega]
theorem extendG {a D : Addr} {gi l : Nat} {own : List (Addr × Obj)} {gow : List (Nat × GenState)} {gs : GenState} {its : List Value} {n : Nat} {Q : Value → Shared → Prop} (hh : A.handled = none) (hd : A.depth + 2 ≤ B.d) (hu : A.units + 30 ≤ B.u) (hX : ∀ b ∈ X, b ∈ ks ow ∨ ∀ o, K o → b ∈ ks o) (hPm : ∀ l g h v, Sub g h → P l g v → P l h v)
    (G : Amb w mg mb g) (S : St X g₀ s₀ L g s m (own ++ (D, lstO its n) :: ow)) (H : Held B w gB P K a gi s₀ g s l own gow gs) (hz : its.length + l ≤ 999)
    (h : ∀ own' its2 n' g' s', Sub g g' → K own' → its2.length = l → (∀ (j : Nat) v, its2[j]? = some v → P (l - 1 - j) g' v) → St X g₀ s₀ L g' s' m (own' ++ (D, lstO (its ++ its2) n') :: ow) → Q .none s') :
    wpAny (model prg w) A (call (.builtin "list.extend") [.ref D, .ref a]) Q E s := by
  have hD := S.get (List.mem_append.mpr (.inr (.head _)))
  have hT : s.TypeIs (.ref D) "list" := ⟨_, hD, rfl⟩
  have hg := IsGen.mono S.in_ H.isGen
  refine wpAny_call (codeAny_call_builtin PySem.F.slot_list_extend.plain PySem.F.entry_list_extend (PySem.F.slot_list_extend.check _ _ _ _ _ _ _ _ hT (PySem.F.args_list_extend_2 _ _) ?_))
  have hDa : D ≠ a := fun e => by
    obtain ⟨o, _, _, ho, hc, _⟩ := hg
    rw [← e, hD] at ho
    have := congrArg Obj.cls (Option.some.inj ho)
    rw [hc] at this
    exact absurd (Value.type.inj this) (by decide)
  show wpAny _ A.in1 (Builtin.List.listExtendWith (.ref D) (.ref a) .none) _ _ s
  unfold Builtin.List.listExtendWith
  refine wpAny_bind (wpAny_typeOf hg.typeIs ?_)
  have h1 : Builtin.List.listSameRef (.ref D) (.ref a) = false := by simp [Builtin.List.listSameRef, hDa]
  have h2 : (Value.type "generator" == Value.type "list") = false := by decide
  have h3 : (Value.type "generator" == Value.type "tuple") = false := by decide
  simp only [h1, h2, h3, Bool.or_false, Bool.false_eq_true, if_false]
  refine wpAny_bind (wpAny_pyIter_gen hg ?_)
  refine wpAny_bind (wpAny_holding ?_)
  unfold Builtin.List.listLengthHint
  refine wpAny_bind (wpAny_specialOf hg.typeIs F.gen_no_len ?_)
  show wpAny _ A.in1 (specialOf (Value.ref a) (Str.ofString "__length_hint__") >>= _) _ _ _
  refine wpAny_bind (wpAny_specialOf hg.typeIs F.gen_no_hint ?_)
  refine wpAny_pure ?_
  show wpAny _ A.in1 (rule "list.extend.makes-room" >>= fun _ => Builtin.List.listTouch (.ref D) >>= fun _ =>
    again (.builtin "list.extend.loop" ⟨[.ref D, .ref a, .none], []⟩)) _ _ _
  refine wpAny_bind (wpAny_rule ?_)
  refine wpAny_bind ?_
  show wpAny _ A.in1 (updateSeq D (·.push .none) >>= fun _ => updateSeq D (·.pop)) _ _ _
  obtain ⟨n1, e1⟩ := mapSeq_push its n .none
  have u1 : (s.heap.update D (Obj.mapSeq (·.push .none))).get? D = some (lstO (its ++ [.none]) n1) := (Heap.get?_update_self _ hD (by rw [e1]; rfl)).trans (by rw [e1])
  have hsz1 : its.toArray.size ≤ sizeLine := by rw [List.size_toArray]; exact sl (by omega)
  refine wpAny_bind (wpAny_updateSeq hD rfl ?_ hsz1 (by show (its.toArray.push .none).size ≤ sizeLine + 1; rw [Array.size_push, List.size_toArray]; exact Nat.succ_le_succ (sl (by omega))))
  obtain ⟨n2, e2⟩ := mapSeq_pop1 its n1 .none
  have S₁ := St.upd (pre := own) S (Heap.SameBut.update ..) u1
  have u2 : ((s.heap.update D (Obj.mapSeq (·.push .none))).update D (Obj.mapSeq (·.pop))).get? D = some (lstO its n2) := (Heap.get?_update_self _ u1 (by rw [e2]; rfl)).trans (by rw [e2])
  have S₂ := St.upd (pre := own) S₁ (Heap.SameBut.update ..) u2
  refine wpAny_updateSeq u1 rfl ?_ (by rw [List.size_toArray, List.length_append, List.length_singleton]; exact sl (by omega)) (by show ((its ++ [Value.none]).toArray.pop).size ≤ sizeLine + 1; rw [Array.size_pop, List.size_toArray, List.length_append, List.length_singleton]; exact Nat.le_succ_of_le (sl (by omega)))
  refine wpAny_pure ⟨plainId_quiet F.plain_extend_loop _, ?_⟩
  refine extLoop hh (by omega) (by omega) hX hPm l own gow gs its n2 g _ G S₂ ⟨H.isGen, H.at', H.gh, H.new, H.off, H.base, H.k, H.go⟩ hz fun own' its2 n' g' s' k hK hl hI S' => ?_
  exact h own' its2 n' g' s' k hK hl hI S'
end
end Mine
namespace Mine
section
variable {B : Lvl} {w : World} {mg mb : Str → Option Value} {M : Model} {A : Around} {E : Value → Shared → Prop} {X : List Addr} {g₀ g : Heap} {s₀ s : Shared} {L : Addr} {m : Str → Option Value} {ow : List (Addr × Obj)} {env : Env}
theorem St.turn1 {Y Y' : List (Addr × Obj)} {h' : Heap} {tk : Nat} (S : St X g₀ s₀ L g s m (Y ++ ow)) (hkeep : ∀ b o, b ∉ ks Y → s.heap.get? b = some o → h'.get? b = some o)
    (hv : ∀ p ∈ Y', h'.get? p.1 = some p.2 ∧ (p.1 ∈ ks Y ∨ s.heap.get? p.1 = none)) (hnd : (ks Y').Nodup) (hX : ∀ b ∈ X, b ∈ ks Y → b ∈ ks Y') : St X g₀ s₀ L g { s with heap := h', toks := tk } m (Y' ++ ow) := by
  have own := fun p hp => S.own p (List.mem_append.mpr (.inl hp))
  have offY : ∀ b o, g.get? b = some o → b ∉ ks Y := fun b o e hm => by
    obtain ⟨p, hp, rfl⟩ := List.mem_map.mp hm
    rw [(own p hp).2.2.1] at e; cases e
  refine S.callG (.refl _) (fun b o e => hkeep b o (offY b o e) (S.in_ b o e)) hkeep (fun b o e => .inl e) S.grow.gens id rfl hv (fun p hp => none_of fun o e => ?_) hnd hX
  rcases (hv p hp).2 with h | h
  · exact offY _ _ e h
  · have := S.in_ _ _ e; rw [h] at this; cases this
noncomputable abbrev enumO (it : Addr) (i : Int) (old : Value) : Obj := { cls := .type "enumerate", dict := none, data := .fields #[.none, .bool false, .ref it, rawInt i, .none, old], slots := #[] }
theorem loopEnum {xi xv : Str} {pi pv pt : PySem.Pos} {x1 : Nat} {body : List Stmt} {l : Addr} {vs : List Value} {R : Result → Shared → Prop}
    (hh : A.handled = none) (S : St X g₀ s₀ L g s m ow) (hl : g.IsList l vs.toArray)
    (J : Nat → Heap → (Str → Option Value) → List (Addr × Obj) → Prop) (h0 : J 0 g m ow)
    (turn : ∀ i tk v its g' s' m' ow', vs[i]? = some v → Sub g g' → J i g' m' ow' → (∀ p ∈ its, p.1 ∉ X) → its.length = 3 → St X g₀ s₀ L g' s' m' (its ++ ow') →
      wpAny (model prg w) A (storeName env xi (.int (i : Nat) tk)) (fun _ s₁ => wpAny (model prg w) A (storeName env xv v) (fun _ s₂ => wpAny (model prg w) A (execs body env) (fun f s₃ => match f with
        | .next | .cont => ∃ g₃ m₃ ow₃, Sub g' g₃ ∧ St X g₀ s₀ L g₃ s₃ m₃ (its ++ ow₃) ∧ J (i + 1) g₃ m₃ ow₃
        | .brk => R (.ok .next) s₃
        | .ret v => R (.ok (.ret v)) s₃) (fun _ _ => False) s₂) (fun _ _ => False) s₁) (fun _ _ => False) s')
    (done : ∀ g' s' m' ow', Sub g g' → J vs.length g' m' ow' → St X g₀ s₀ L g' s' m' ow' → R (.ok .next) s') :
    wpAny (model prg w) A (call (.type "enumerate") [.ref l]) (fun e s₁ => wpAny (model prg w) A (pyIter e) (fun it s₂ => codeAny (model prg w) A (.forLoop (.Tuple [.Name xi pi, .Name xv pv] x1 pt) it body [] env) R s₂) E s₁) E s := by
  refine call_enumerate_list (IsList.mono S.in_ hl) fun h' he hit hz hk => ?_
  refine wpAny_pyIter_enum (s := { s with heap := h' }) he ?_
  have n0 := get_push_size_none s.heap
  have n1 : s.heap.get? (s.heap.objs.size + 1) = none := none_of fun o e => absurd (Heap.lt_size e) (by simp)
  have hne : s.heap.objs.size + 1 ≠ s.heap.objs.size := Nat.succ_ne_self _
  generalize s.heap.objs.size + 1 = eA at *
  generalize s.heap.objs.size = iA at *
  have hX1 := S.fx n1
  have hX0 := S.fx n0
  obtain ⟨oi, hoi, hoic⟩ := id hit
  have S₁ : St X g₀ s₀ L g { s with heap := h', toks := s.toks } m ([(eA, _), (iA, oi)] ++ ow) := S.turn1 (Y := []) (fun b o _ e => hk b o e) (fun p hp => by
      rcases List.mem_cons.mp hp with rfl | hp
      · exact ⟨he, .inr n1⟩
      · rw [List.mem_singleton.mp hp]; exact ⟨hoi, .inr n0⟩) (by simpa using hne) (fun b _ h => (nomatch h))
  refine codeAny_forLoop_any (fun k s' => ∃ i g' m' ow' oe oi old, k = vs.length + 1 - i ∧ i ≤ vs.length ∧ Sub g g' ∧ J i g' m' ow' ∧ St X g₀ s₀ L g' s' m' ((eA, oe) :: (iA, oi) :: ow') ∧ IsEnum s'.heap eA iA ((i : Nat) : Int) old ∧ s'.heap.IsListIter iA l i) ?_ (vs.length + 1)
    ⟨0, g, m, ow, _, oi, _, rfl, Nat.zero_le _, .refl _, h0, S₁, he, hit⟩
  rintro k s' ⟨i, g', m', ow', oe, oi', old, rfl, hi, hg, hJ, S', he', hit'⟩
  have hl' : s'.heap.IsList l vs.toArray := IsList.mono (hg.trans S'.in_) hl
  have zE := S'.own _ (.head _)
  have zI := S'.own _ (.tail _ (.head _))
  rcases Nat.lt_or_ge i vs.length with hlt | hge
  · obtain ⟨v, hv⟩ : ∃ v, vs[i]? = some v := ⟨_, List.getElem?_eq_getElem hlt⟩
    refine wpAny_pyNext_enum_item he' hit' hl' (x := v) (by simpa using hv) hne fun h₁ heo hit₁ ht₁ hz₁ hk₁ => ?_
    refine wpAny_letOwnedTupleGo_enum (s := { s' with heap := h₁, toks := s'.toks + 1 }) heo fun h₂ he₂ hs₂ => ?_
    replace hs₂ : Heap.SameBut eA h₁ h₂ := hs₂
    have hTn := get_push_size_none s'.heap
    have hTe : s'.heap.objs.size ≠ eA := fun e => by rw [e, zE.1] at hTn; cases hTn
    have hTi : s'.heap.objs.size ≠ iA := fun e => by rw [e, zI.1] at hTn; cases hTn
    obtain ⟨oi₁, hoi₁, hoc₁⟩ := id hit₁
    generalize s'.heap.objs.size = T at *
    have S₂ : St X g₀ s₀ L g' { s' with heap := h₂, toks := s'.toks + 1 } m' ([(T, tupO [.int (i : Nat) s'.toks, v]), (eA, _), (iA, oi₁)] ++ ow') := St.turn1 (Y := [(eA, oe), (iA, oi')]) S' (fun b o hb e => by
        have hb' : b ≠ eA ∧ b ≠ iA := by simpa using hb
        exact hs₂.extBut b o hb'.1 (hk₁ b o hb'.1 hb'.2 e)) (fun p hp => by
        rcases List.mem_cons.mp hp with rfl | hp
        · exact ⟨(hs₂.2 _ hTe).trans ht₁, .inr hTn⟩
        · rcases List.mem_cons.mp hp with rfl | hp
          · exact ⟨he₂, .inl (.head _)⟩
          · rw [List.mem_singleton.mp hp]; exact ⟨(hs₂.2 _ hne.symm).trans hoi₁, .inl (.tail _ (.head _))⟩) (by simp [hTe, hTi, hne]) (fun b hb h => by
        rcases List.mem_cons.mp h with rfl | h
        · exact absurd hb hX1
        · rw [List.mem_singleton.mp h] at hb; exact absurd hb hX0)
    refine assign_Tuple_tuple (x1 := x1) hh (isTup_of (S₂.get (.head _))) rfl rfl fun h₄ hx₄ => ?_
    have S₄ := S₂.kept (h' := h₄) (tk := s'.toks + 1) fun b o e => hx₄ b o (Nat.ne_of_lt (Heap.lt_size e)) e
    have hXT := S'.fx hTn
    refine wpAny_assignInOrder_more (wpAny_assign_Name ?_)
    refine wpAny_noRaise (wpAny_mono (turn i _ v [(T, tupO [.int (i : Nat) s'.toks, v]), (eA, enumO iA ((i : Int) + 1) v), (iA, oi₁)] g' _ m' ow' hv hg hJ (fun p hp => by
      rcases List.mem_cons.mp hp with rfl | hp
      · exact hXT
      · rcases List.mem_cons.mp hp with rfl | hp
        · exact hX1
        · rw [List.mem_singleton.mp hp]; exact hX0) rfl S₄) (fun _ s₁ t₁ => ?_) fun _ _ x => x)
    refine wpAny_assignInOrder_more (wpAny_assign_Name (wpAny_noRaise (wpAny_mono t₁ (fun _ s₂ t₂ => ?_) fun _ _ x => x)))
    refine wpAny_assignInOrder_none (wpAny_noRaise (wpAny_mono t₂ (fun f s₃ t₃ => ?_) fun _ _ x => x))
    have fin : (∃ g₃' m₃ ow₃, Sub g' g₃' ∧ St X g₀ s₀ L g₃' s₃ m₃ ([(T, tupO [.int (i : Nat) s'.toks, v]), (eA, enumO iA ((i : Int) + 1) v), (iA, oi₁)] ++ ow₃) ∧ J (i + 1) g₃' m₃ ow₃) → ∃ k', k' < vs.length + 1 - i ∧ ∃ i g' m' ow' oe oi old, k' = vs.length + 1 - i ∧ i ≤ vs.length ∧ Sub g g' ∧ J i g' m' ow' ∧ St X g₀ s₀ L g' s₃ m' ((eA, oe) :: (iA, oi) :: ow') ∧ IsEnum s₃.heap eA iA ((i : Nat) : Int) old ∧ s₃.heap.IsListIter iA l i := by
      rintro ⟨g₅, m₅, ow₅, hg₅, S₅, hJ₅⟩
      refine ⟨vs.length + 1 - (i + 1), by omega, i + 1, g₅, m₅, ow₅, enumO iA ((i : Int) + 1) v, oi₁, v, rfl, hlt, hg.trans hg₅, hJ₅, S₅.drop, S₅.get (.tail _ (.head _)), ⟨oi₁, S₅.get (.tail _ (.tail _ (.head _))), hoc₁⟩⟩
    cases f with
    | next => exact fin t₃
    | cont => exact fin t₃
    | brk => exact t₃
    | ret v => exact t₃
  · have hin : i = vs.length := by omega
    subst hin
    refine wpAny_pyNext_enum_end hh he' hit' hl' (by simp) fun h₁ hx => ?_
    refine xNil (done g' _ m' ow' hg hJ ?_)
    exact St.turn1 (Y := [(eA, oe), (iA, oi')]) (Y' := []) (tk := s'.toks) S' (fun b o hb e => hx b o (by have : b ≠ eA ∧ b ≠ iA := (by simpa using hb); exact this.2) e) (fun p hp => (nomatch hp)) List.nodup_nil (fun b hb h => by
        rcases List.mem_cons.mp h with rfl | h
        · exact absurd hb hX1
        · rw [List.mem_singleton.mp h] at hb; exact absurd hb hX0)
end
end Mine
namespace Mine
mutual
noncomputable def tpos (pre post : Bool) : T → List Plc
  | .leaf _ => [[]]
  | .node _ cs => (if pre = true then [[]] else []) ++ tposL pre post cs 0 ++ (if post = true then [[]] else [])
noncomputable def tposL (pre post : Bool) : List T → Nat → List Plc
  | [], _ => []
  | t :: ts, k => (tpos pre post t).map (k :: ·) ++ tposL pre post ts (k + 1)
end
theorem tposL_snoc (pre post : Bool) (ts : List T) (t : T) : ∀ k, tposL pre post (ts ++ [t]) k = tposL pre post ts k ++ (tpos pre post t).map ((k + ts.length) :: ·) := by
  induction ts with
  | nil => intro k; simp [tposL]
  | cons x r ih => intro k; rw [List.cons_append, tposL, tposL, ih, List.append_assoc, List.length_cons, show k + 1 + r.length = k + (r.length + 1) by omega]
mutual
theorem tpos_len (pre post : Bool) : ∀ t : T, (tpos pre post t).length ≤ 2 * t.sz
  | .leaf _ => by simp [tpos, T.sz]
  | .node _ cs => by
    have := tposL_len pre post cs 0
    have h1 : (if pre = true then [[]] else [] : List Plc).length ≤ 1 := by cases pre <;> simp
    have h2 : (if post = true then [[]] else [] : List Plc).length ≤ 1 := by cases post <;> simp
    rw [tpos, T.sz, List.length_append, List.length_append]
    omega
theorem tposL_len (pre post : Bool) : ∀ (ts : List T) (k : Nat), (tposL pre post ts k).length ≤ 2 * T.szL ts
  | [], _ => by simp [tposL]
  | t :: ts, k => by rw [tposL, T.szL, List.length_append, List.length_map]; have := tpos_len pre post t; have := tposL_len pre post ts (k + 1); omega
end
mutual
theorem tpos_dep (pre post : Bool) : ∀ (t : T) (p : Plc), p ∈ tpos pre post t → p.length + 1 ≤ t.ht
  | .leaf _, p, h => by rw [tpos] at h; rw [List.mem_singleton.mp h, T.ht]; exact Nat.le_refl _
  | .node _ cs, p, h => by
    rw [tpos] at h
    rw [T.ht]
    rcases List.mem_append.mp h with h | h
    · rcases List.mem_append.mp h with h | h
      · cases pre
        · cases h
        · rw [List.mem_singleton.mp h, List.length_nil]; omega
      · have := tposL_dep pre post cs 0 p h; omega
    · cases post
      · cases h
      · rw [List.mem_singleton.mp h, List.length_nil]; omega
theorem tposL_dep (pre post : Bool) : ∀ (ts : List T) (k : Nat) (p : Plc), p ∈ tposL pre post ts k → p.length ≤ T.htL ts
  | [], _, p, h => by rw [tposL] at h; cases h
  | t :: ts, k, p, h => by
    rw [tposL] at h
    rw [T.htL]
    rcases List.mem_append.mp h with h | h
    · obtain ⟨q, hq, rfl⟩ := List.mem_map.mp h
      have := tpos_dep pre post t q hq
      rw [List.length_cons]; omega
    · have := tposL_dep pre post ts (k + 1) p h; omega
end
section
variable {B : Lvl} {w : World} {mg mb : Str → Option Value} {M : Model} {A : Around} {E : Value → Shared → Prop} {X : List Addr} {g₀ g : Heap} {s₀ s : Shared} {L : Addr} {m : Str → Option Value} {ow : List (Addr × Obj)} {env : Env}
theorem enterCX {n : Nat} {f : Addr} {args : Args} {R : Result → Shared → Prop} {name qual : Str} {params : Arguments} {body : List Stmt} {scope : Scope} {dV kV doc pm cdv ct oc : Value} {an od : Option Addr} {osl : Array (Option Value)} {binds : List (Str × Value)}
    (G : Amb w mg mb g) (hs : Sub g s.heap) (hr : Room A n) (how : ∀ p ∈ ow, s.heap.get? p.1 = some p.2 ∧ g.get? p.1 = none) (hndo : (ks ow).Nodup)
    (ho : (Mine.hd.heap_1 w.params).lookup f = some ⟨oc, od, .func (fnOf name qual params body scope dV kV doc pm an cdv ct), osl⟩) (hcd : codeIn (Mine.hd.heap_1 w.params) cdv qual = true)
    (hbind : BindsTo s (fnOf name qual params body scope dV kV doc pm an cdv ct) args binds)
    (hkind : ∀ n, ∀ x ∈ binds, scope.names.lookup x.1 = some .local ∨ (scope.names.lookup x.1 = some .cell ∧ ((cellsFrom n scope.names []).lookup x.1).isSome = true))
    (hnd : ((cellsFrom 0 scope.names []).map (·.1)).Nodup)
    (h : ∀ L s' cells, St (ks ow) g s L g s' (bindL (envOfC qual scope L f cdv).kindOf binds fun _ => none) (cells ++ ow) → CellsAre (bindC (envOfC qual scope L f cdv).kindOf binds fun _ => none) (cellsFrom (L + 1) scope.names []) cells →
      wpAny (model prg w) (A.deeper (envOfC qual scope L f cdv)) (execs body (envOfC qual scope L f cdv))
      (fun fl s' => R (.ok (.ret (match fl with | .ret v => v | _ => .none))) s') (fun _ _ => False) s')
    (hco : scope.isCoroutine = false) (hgen : scope.isGenerator = false) (hk : scope.kind = .function) : codeAny (model prg w) A (.call (.ref f) args) R s := by
  have G' := G.keeps hs
  refine codeAny_call_function hr.depth (G'.K _ _ ho) rfl hco hgen rfl (codeRec_of G'.K hcd) (hbind _ _ _ _ ?_)
  refine wpAny_newFunctionEnv_cells hk (hkind _) fun env' he s' x => ?_
  subst he
  refine ⟨G'.T.nolimit.keeps x.toInCall.keep, codeAny_func ?_⟩
  obtain ⟨h₁, tk, rfl, _⟩ := x.done
  have hk₁ := x.toInCall.keep
  have hnd' : ((cellsFrom (s.heap.objs.size + 1) scope.names []).map (·.1)).Nodup := cellsFrom_names scope.names 0 (s.heap.objs.size + 1) [] [] rfl ▸ hnd
  obtain ⟨cells, NC, Y⟩ := Cl.news (h₀ := s.heap) (Nat.le_refl _) fun n c hm => ⟨x.cell n c (lookup_of_mem_nodup hnd' hm), x.above n c hm⟩
  have addrs : ∀ {cm : Str → Option Value} {cs : List (Str × Addr)} {cells : List (Addr × Obj)}, CellsAre cm cs cells → cells.map (·.1) = cs.map (·.2) := fun y => by
    induction y with
    | nil => rfl
    | cons _ _ ih => rw [List.map_cons, List.map_cons, ih]
  have nd : (cells.map (fun p => p.1)).Nodup := by
    rw [addrs Y]
    refine List.pairwise_map.mpr ?_
    exact x.apart
  refine wpAny_mono (h s.heap.objs.size _ cells ⟨⟨.refl _, fun b o e => hk₁ b o (hs b o e), fun b o _ e => hk₁ b o e, fun b o e => .inl e, fun _ _ e => e, id, rfl⟩, x.toInCall.ns, none_of fun o e => absurd (Heap.lt_size (hs _ _ e)) (Nat.lt_irrefl _), get_push_size_none _, fun p hp => ?_, ?_, fun b hb => ?_, Amb.lo G'⟩ Y) (fun _ _ z => z) fun _ _ z => z.elim
  · rcases List.mem_append.mp hp with hp | hp
    · have z := NC p hp
      refine ⟨z.1, z.2.1, none_of fun o e => ?_, .inr z.2.2⟩
      rw [hs _ _ e] at z
      cases z.2.2
    · have y := how p hp
      exact ⟨hk₁ _ _ y.1, Nat.ne_of_lt (Heap.lt_size y.1), y.2, .inl (List.mem_map.mpr ⟨p, hp, rfl⟩)⟩
  · rw [List.map_append]
    refine List.nodup_append.mpr ⟨nd, hndo, fun a ha b hb e => ?_⟩
    obtain ⟨p, hp, rfl⟩ := List.mem_map.mp ha
    obtain ⟨q, hq, e'⟩ := List.mem_map.mp hb
    have := (how q hq).1
    rw [e', ← e, (NC p hp).2.2] at this; cases this
  · obtain ⟨p, hp, rfl⟩ := List.mem_map.mp hb
    dsimp only
    rw [hk₁ _ _ (how p hp).1]; rfl
theorem St.shrink {g' : Heap} (S : St X g₀ s₀ L g' s m ow) (h0 : Sub g₀ g) (h : Sub g g') : St X g₀ s₀ L g s m ow :=
  ⟨⟨h0, h.trans S.in_, S.grow.keep, fun b o e => S.grow.fresh b o (h b o e), S.grow.gens, S.grow.bare, S.grow.os⟩, S.ns, none_of fun o e => (by have := h _ _ e; rw [S.offL] at this; cases this), S.newL,
    fun p hp => ⟨(S.own p hp).1, (S.own p hp).2.1, none_of fun o e => (by have := h _ _ e; rw [(S.own p hp).2.2.1] at this; cases this), (S.own p hp).2.2.2⟩, S.nd, S.xin, S.lo⟩
theorem tIn2 {x a b : Str} {u ta tb : Tok} {Q : Bool → Shared → Prop} (S : St X g₀ s₀ L g s m ow) (h : ∀ s', St X g₀ s₀ L g s' m ow → Q ([a, b].any (· == x)) s') :
    wpAny (model prg w) A (newTuple [.str a ta, .str b tb]) (fun t s₁ => wpAny (model prg w) A (compareOp .In (.str x u) t) (fun c s₃ => wpAny (model prg w) A (truthy c) Q E s₃) E s₁) E s := by
  refine mkTup' S (sl (by simp)) fun t g' s' k ht S' => ?_
  refine in_tuple_strs (ys := [a, b]) (IsTup.mono S'.in_ ht) (.cons _ _ (.cons _ _ .nil)) (wpAny_truthy_bool ?_)
  exact h _ (S'.shrink S.grow.sub k)
theorem tp_code (w : World) : codeAtIn (Mine.hd.heap_1 w.params) 230 226 := by
  refine' codeAtIn.of (by k_is) ?_ ?_ ?_ ?_ ?_ <;> try rfl
end
end Mine
namespace Mine
theorem permE {α : Type} (c D P : α) (pre l : List α) : (pre ++ (l ++ [c, D, P])).Perm ((pre ++ [c]) ++ D :: (l ++ [P])) := by
  rw [List.append_assoc]
  exact permL [pre, l, [c], [D], [P]] (is := [0, 1, 2, 3, 4]) (js := [0, 2, 3, 1, 4]) (by decide)
noncomputable def PosP (i : Nat) (ps : List Plc) (l : Nat) (g : Heap) (v : Value) : Prop := ∃ p, ps[ps.length - 1 - l]? = some p ∧ Rd g v (posD (i :: p))
section
variable {B : Lvl} {w : World} {mg mb : Str → Option Value} {M : Model} {A : Around} {E : Value → Shared → Prop} {X : List Addr} {g₀ g : Heap} {s₀ s : Shared} {L : Addr} {m : Str → Option Value} {ow : List (Addr × Obj)} {env : Env}
noncomputable def ItL (I l : Addr) (i : Nat) (it : List (Addr × Obj)) : Prop := ∃ oI, it = [(I, oI)] ∧ ∀ h : Heap, h.get? I = some oI → h.IsListIter I l i
theorem nextL {I l : Addr} {i : Nat} {vs : List Value} {it ex : List (Addr × Obj)} {Q : Option Value → Shared → Prop} (hh : A.handled = none) (hl : g.IsList l vs.toArray) (hi : i < vs.length) (hit : ItL I l i it) (hI : I ∉ X) (S : St X g₀ s₀ L g s m (it ++ ex))
    (h : ∀ v it' s', vs[i]? = some v → ItL I l (i + 1) it' → ks it' = [I] → St X g₀ s₀ L g s' m (it' ++ ex) → Q (some v) s') : wpAny (model prg w) A (pyNext (.ref I)) Q E s := by
  obtain ⟨oI, rfl, ho⟩ := hit
  have z := S.own _ (.head _)
  have hne : l ≠ I := fun e => by
    obtain ⟨o, ho, _⟩ := hl
    rw [e, z.2.2.1] at ho; cases ho
  refine (Walks.list (prog := prg) (w := w) hh I l hne vs.toArray).item i s _ _ (by simpa using hi) ⟨ho _ z.1, IsList.mono S.in_ hl⟩ fun v h' tk hP hst hk => ?_
  obtain ⟨⟨o₁, ho₁, hc₁⟩, _⟩ := hst
  refine h v [(I, o₁)] _ (by simpa using hP) ⟨o₁, rfl, fun h e => ⟨o₁, e, hc₁⟩⟩ rfl ?_
  exact St.turn1 (Y := [(I, oI)]) S (fun b o hb e => hk b o hb e) (fun p hp => by rw [List.mem_singleton.mp hp]; exact ⟨ho₁, .inl (.head _)⟩) (by simp) (fun b hb h => absurd hb (by rw [List.mem_singleton.mp h]; exact hI))
theorem endL {I l : Addr} {vs : List Value} {it ex : List (Addr × Obj)} {Q : Option Value → Shared → Prop} (hh : A.handled = none) (hl : g.IsList l vs.toArray) (hit : ItL I l vs.length it) (hI : I ∉ X) (S : St X g₀ s₀ L g s m (it ++ ex))
    (h : ∀ s', St X g₀ s₀ L g s' m ex → Q none s') : wpAny (model prg w) A (pyNext (.ref I)) Q E s := by
  obtain ⟨oI, rfl, ho⟩ := hit
  have z := S.own _ (.head _)
  have hne : l ≠ I := fun e => by
    obtain ⟨o, ho, _⟩ := hl
    rw [e, z.2.2.1] at ho; cases ho
  refine (Walks.list (prog := prg) (w := w) hh I l hne vs.toArray).done s _ _ ⟨by have := ho _ z.1; simpa using this, IsList.mono S.in_ hl⟩ fun h' tk hk => ?_
  exact h _ (St.turn1 (Y := [(I, oI)]) (Y' := []) S (fun b o hb e => hk b o hb e) (fun p hp => (nomatch hp)) List.nodup_nil (fun b hb h => absurd hb (by rw [List.mem_singleton.mp h]; exact hI)))
theorem St.dropPre {pre : List (Addr × Obj)} (S : St X g₀ s₀ L g s m (pre ++ ow)) : St X g₀ s₀ L g s m ow :=
  S.sub (fun _ h => List.mem_append.mpr (.inr h)) (List.nodup_append.mp (by simpa only [List.map_append] using S.nd)).2.1
end
end Mine
namespace Mine
section
variable {B : Lvl} {w : World} {mg mb : Str → Option Value} {M : Model} {A : Around} {E : Value → Shared → Prop} {X : List Addr} {g₀ g : Heap} {s₀ s : Shared} {L : Addr} {m : Str → Option Value} {ow : List (Addr × Obj)} {env : Env}
noncomputable def BM (mg : Str → Option Value) (g : Heap) : Prop := ∃ bm ob, BMod g mainGlobals mg bm ob
theorem BM.mono {g h : Heap} (k : Sub g h) (x : BM mg g) : BM mg h := let ⟨bm, ob, b⟩ := x; ⟨bm, ob, ⟨b.ns.keeps k, b.name, b.ne, k _ _ b.obj, b.cls, b.dict, b.data⟩⟩
theorem xIfJoin {test : Expr} {body rest : List Stmt} {pos : PySem.Pos} {Q : Flow → Shared → Prop} (C : Shared → Prop)
    (h : wpAny M A (isTrue test env (eval test env)) (fun b s₂ => if b = true then wpAny M A (execs body env) (fun f s₃ => f = .next ∧ C s₃) E s₂ else C s₂) E s) (k : ∀ s', C s' → wpAny M A (execs rest env) Q E s') :
    wpAny M A (execs (.If test body [] pos :: rest) env) Q E s := by
  refine xIf (wpAny_mono h (fun b s₂ h₂ => ?_) fun _ _ x => x)
  cases b with
  | true =>
    rw [if_pos rfl] at h₂ ⊢
    exact wpAny_mono h₂ (fun f s₃ h₃ => by obtain ⟨rfl, c⟩ := h₃; exact thenNext (k _ c)) fun _ _ x => x
  | false =>
    rw [if_neg Bool.false_ne_true] at h₂ ⊢
    exact xNil (thenNext (k _ h₂))
theorem RdA.of_get {g : Heap} : ∀ {vs : List Value} {ds : List PyData}, vs.length = ds.length → (∀ (j : Nat) v d, vs[j]? = some v → ds[j]? = some d → Rd g v d) → RdA g vs ds
  | [], [], _, _ => .nil
  | v :: vs, d :: ds, h, k => .cons (k 0 v d rfl rfl) (RdA.of_get (by simpa using h) fun j v d h1 h2 => k (j + 1) v d (by simpa using h1) (by simpa using h2))
  | [], _ :: _, h, _ => by simp at h
  | _ :: _, [], h, _ => by simp at h
theorem permF {α : Type} (c D P : α) (l : List α) : (P :: (l ++ [c, D])).Perm (l ++ [c, D, P]) := permL [[P], l, [c], [D]] (is := [0, 1, 2, 3]) (js := [1, 2, 3, 0]) (by decide)
theorem permG {α : Type} (C P I c D : α) (l : List α) : ((C :: ([I] ++ [c])) ++ D :: (l ++ [P])).Perm (C :: P :: I :: (l ++ [c, D])) := permL [[C], [I], [c], [D], l, [P]] (is := [0, 1, 2, 3, 4, 5]) (js := [0, 5, 1, 4, 2, 3]) (by decide)
noncomputable def B0 : Lvl := ⟨990, 9900, by decide⟩
set_option genInjectivity false in
structure FnRec (K : Frag) (f : Addr) where
  name : Str
  qual : Str
  params : Arguments
  body : List Stmt
  scope : Scope
  dV : Value
  kV : Value
  doc : Value
  pm : Value
  an : Option Addr
  cdv : Value
  ct : Value
  oc : Value
  od : Option Addr
  osl : Array (Option Value)
  ho : K.lookup f = some ⟨oc, od, .func (fnOf name qual params body scope dV kV doc pm an cdv ct), osl⟩
  hcd : codeIn K cdv qual = true
noncomputable def tpR (w : World) : FnRec (Mine.hd.heap_1 w.params) 231 := ⟨_, _, _, _, _, _, _, _, _, _, _, _, _, _, _, by k_is, by k_is⟩
noncomputable def ArgsTp (v : Value) (o : Str) (args : Args) : Prop := (∃ u, args = ⟨[v, .str o u], []⟩) ∨ (args = ⟨[v], []⟩ ∧ o = "preorder")
theorem tp_binds {v : Value} {o : Str} {args : Args} (hK : (Mine.hd.heap_1 w.params).In s.heap) (ha : ArgsTp v o args) :
    ∃ u, BindsTo s (fnOf (tpR w).name (tpR w).qual (tpR w).params (tpR w).body (tpR w).scope (tpR w).dV (tpR w).kV (tpR w).doc (tpR w).pm (tpR w).an (tpR w).cdv (tpR w).ct) args [("self", v), ("order", .str o u)] := by
  rcases ha with ⟨u, rfl⟩ | ⟨rfl, rfl⟩
  · exact ⟨_, binds_K hK rfl (by k_is) rfl rfl rfl⟩
  · exact ⟨_, binds_K hK rfl (by k_is) rfl rfl rfl⟩
theorem tp_spec {pre post : Bool} {o : Str} (h1 : ([("preorder" : Str), "bothorder"].any (· == o)) = pre) (h2 : ([("postorder" : Str), "bothorder"].any (· == o)) = post) :
    ∀ (n : Nat) (lab : Sym) (cs : List T), (T.node lab cs).Small n → ∀ (A : Around) (g : Heap) (s : Shared) (v : Value) (as : List Addr) (args : Args) (_ : ArgsTp v o args) (oP : Obj) (R : Result → Shared → Prop),
    Room A (3 * n + 10) → Amb w mg mb g → BM mg g → Sub g s.heap → IsT g v (.node lab cs) as → s.heap.get? 226 = some oP → PlOk oP → g.get? 226 = none →
    (∀ v oP' s' g', Grow [226] g s g' s' → s'.heap.get? 226 = some oP' → PlOk oP' → RdL g' v ((tpos pre post (.node lab cs)).map posD) → R (.ok (.ret v)) s') → codeAny (model prg w) A (.call (.ref 231) args) R s := by
  intro n
  induction n with
  | zero => intro lab cs h; exact h.zero.elim
  | succ n ih =>
    intro lab cs hn A g s v as args ha oP R hr G Bm hs hT hP hPk hPg hR
    have hT0 := hT
    cases hT with
    | @node x dx l d1 d2 t1 t2 tk n' k _ vs _ as' hx hd hl hcs =>
    obtain ⟨u, hu⟩ := tp_binds (w := w) (G.keeps hs).K ha
    dsimp only [tpR] at hu
    refine enterCX (ow := [(226, oP)]) G hs hr (fun p hp => by rw [List.mem_singleton.mp hp]; exact ⟨hP, hPg⟩) (by simp) (by k_is) (by k_is) hu (kindsX rfl) (by decide) ?_ rfl rfl rfl
    intro L s₁ cells S hC
    try k_fold
    obtain ⟨oc, rfl, hoc⟩ := hC.one
    refine xAsn (eLst (arg0 (mkLst S (sl (by simp)) fun D s₂ S₂ hD => ?_)))
    refine stL S₂ (fun s₂ S₂ => ?_)
    have hz := hn.sz
    rw [T.sz] at hz
    have hlen0 : cs.length ≤ 400 := hn.len
    obtain ⟨m₂, hms, hmo, hmp, S₂⟩ : ∃ m₂, m₂ "self" = some (.ref x) ∧ m₂ "order" = some (.str o u) ∧ m₂ "positions" = some (.ref D) ∧ St [226] g s L g s₂ m₂ [(D, lstO [] 0), (L + 1, oc), (226, oP)] := ⟨_, rfl, rfl, rfl, S₂⟩
    refine xIfJoin (fun s' => ∃ its n1 g' m', Sub g g' ∧ m' "self" = some (.ref x) ∧ m' "order" = some (.str o u) ∧ m' "positions" = some (.ref D) ∧ RdA g' its ((if pre = true then [[]] else []).map posD) ∧ St [226] g s L g' s' m' [(L + 1, oc), (D, lstO its n1), (226, oP)]) ?_ ?_
    · refine wpAny_isTrue_Compare1 (nmL S₂ (v := .str o u) hmo (eTup (arg1 (wpAny_Constant_str (arg1 (wpAny_Constant_str (arg0 ?_)))))))
      refine tIn2 ((S₂.toks (s₂.toks + 1)).toks (s₂.toks + 1 + 1)) fun s₃ S₃ => ?_
      rw [h1]
      cases pre with
      | true =>
        refine itT (xExpr (meList (name := "append") (nmL S₃ (v := .ref D) hmp ⟨D, [], 0, rfl, S₃.get (.head _), ?_⟩) PySem.F.slot_list_append rfl))
        refine arg1 (eTup (arg0 (mkTup S₃ .nil (sl (by simp)) fun z g₄ s₄ k₄ r₄ S₄ => arg0 ?_)))
        refine appendL (pre := []) (its := []) S₄ (sl (by simp)) fun s₅ S₅ => ⟨rfl, xNil ⟨rfl, [z], _, g₄, _, k₄, hms, hmo, hmp, .cons r₄ .nil, S₅.perm (.swap ..)⟩⟩
      | false => exact itF ⟨[], 0, g, _, .refl _, hms, hmo, hmp, .nil, S₃.perm (.swap ..)⟩
    rintro s₃ ⟨its0, n0, g₃, m₃, k₃, hm1, hm2, hm3, hI0, S₃⟩
    have G₃ := G.keeps k₃
    refine xFor (tyG G₃ S₃ gEnum bEnum (arg1 (Attribute_name (nmL S₃ (v := .ref x) hm1 ?_))))
    refine getChildren G₃ S₃ (k₃ _ _ hx) (k₃ _ _ hd) fun s₄ S₄ => arg0 ?_
    refine loopEnum hr.1 S₄ (isList_of (k₃ _ _ hl)) (fun i g' m' ow' => m' "order" = some (.str o u) ∧ m' "positions" = some (.ref D) ∧ ∃ its n1 oc v0 oP, ow' = [(L + 1, oc), (D, lstO its n1), (226, oP)] ∧ oc.data = .cell v0 ∧ PlOk oP ∧
      RdA g' its (((if pre = true then [[]] else []) ++ tposL pre post (cs.take i) 0).map posD)) ⟨hm2, hm3, its0, n0, oc, _, oP, rfl, hoc, hPk, by simpa [tposL] using hI0⟩ ?_ ?_
    · rintro i tki v its g' s' m' ow' hv hg ⟨hn2, hn3, lst, n1, oc', v0, oP', rfl, hocd, hPk', hJ⟩ hitX hit3 S'
      have kk := k₃.trans hg
      have G' := G.keeps kk
      obtain ⟨t, bs, ht, hvt⟩ := hcs.get i v hv
      have hvt := hvt.mono kk
      have htl := take_snocL ht
      have hll : lst.length + (tpos pre post t).length ≤ 901 := by
        have q1 := hJ.length
        rw [List.length_map, List.length_append] at q1
        have q2 := tposL_len pre post (cs.take (i + 1)) 0
        have q3 := szL_take cs (i + 1)
        rw [take_snoc ht, tposL_snoc, List.length_append, List.length_map] at q2
        rw [take_snoc ht] at q3
        have q4 : (if pre = true then [[]] else [] : List Plc).length ≤ 1 := by cases pre <;> simp
        omega
      refine stC (pre := its) S' hocd fun oc₁ s₅ hoc₁ S₅ => ?_
      refine stL S₅ fun s₆ S₆ => ?_
      try k_fold
      refine xIf (tIsiT G' S₆ (nmL S₆ (v := v) rfl ⟨_, S₆, ?_⟩))
      cases hvt with
      | leaf y yu =>
        refine isiT_leaf G' S₆ (fun s₇ S₇ => ⟨_, rfl, itF ?_⟩)
        refine xExpr (meList (name := "append") (nmL S₇ (v := .ref D) hn3 ⟨D, lst, n1, rfl, S₇.get (List.mem_append.mpr (.inr (.tail _ (.head _)))), ?_⟩) PySem.F.slot_list_append rfl)
        refine arg1 (eTup (arg1 (nmC (v := .int (i : Nat) tki) ⟨oc₁, S₇.get (List.mem_append.mpr (.inr (.head _))), hoc₁⟩ (arg0 ?_))))
        refine mkTup S₇ (.cons (.int _ _) .nil) (sl (by simp)) fun z g₈ s₈ k₈ r₈ S₈ => arg0 ?_
        refine appendL (pre := its ++ [(L + 1, oc₁)]) (ow := [(226, oP')]) (by rw [List.append_assoc]; exact S₈) (sl (by omega)) fun s₉ S₉ => ⟨rfl, ?_⟩
        refine xNil (thenNext (xNil ⟨g₈, upd m' "child" (.str y.s yu), _, k₈, by rw [List.append_assoc] at S₉; exact S₉, hn2, hn3, _, _, oc₁, _, oP', rfl, hoc₁, hPk', ?_⟩))
        rw [take_snoc ht, tposL_snoc, htl, ← List.append_assoc, List.map_append]
        refine (hJ.mono k₈).append (.cons ?_ .nil)
        simpa [posD] using r₈
      | @node x2 dx2 l2 _ _ _ _ _ _ _ lab2 _ cs2 _ a b c d =>
        refine isiT_node G' S₆ (instT S₆.in_ a b) (fun s₇ S₇ => ⟨_, rfl, itT ?_⟩)
        have S₇ : St [226] g s L g' s₇ _ ((226, oP') :: (its ++ [(L + 1, oc₁), (D, lstO lst n1)])) := S₇.perm (permF _ _ _ _)
        have zP := S₇.own _ (.head _)
        refine xAsn (meCall (a := 231) (K := Mine.hd.heap_1 w.params) (nmL S₇ (v := .ref x2) rfl (methT G' S₇ (instT S₇.in_ a b) (by k_is) (by k_is) (by rfl) ⟨rfl, ?_⟩)) (by k_is))
        refine arg1 (nmL S₇ (v := .str o u) hn2 (arg0 ⟨(G'.keeps S₇.in_).K, ?_⟩))
        refine wpAny_call (ih _ _ (hn.kid ht) _ g' _ _ _ _ (.inl ⟨_, rfl⟩) oP' _ (hr.deeper.le (by omega)) G' (Bm.mono kk) S₇.in_ (.node a b c d) zP.1 hPk' zP.2.2.1 fun u₈ oP₂ s₈ g₈ gr hP₂ hPk₂ hv₂ => ?_)
        have S₈ := S₇.callY (Y := [(226, oP')]) (Y' := [(226, oP₂)]) gr rfl fun p hp => by rw [List.mem_singleton.mp hp]; exact hP₂
        obtain ⟨b2, vs2, n2, rfl, hb2, hr2⟩ := hv₂
        refine stL S₈ fun s₉ S₉ => ?_
        have G₈ := G'.keeps gr.sub
        have kk₈ := kk.trans gr.sub
        have hvl : vs2.length = (tpos pre post (.node lab2 cs2)).length := by rw [hr2.length, List.length_map]
        generalize hps : tpos pre post (.node lab2 cs2) = ps at *
        refine xExpr (meList (name := "extend") (nmL S₉ (v := .ref D) hn3 ⟨D, lst, n1, rfl, S₉.get (by simp), ?_⟩) PySem.F.slot_list_extend rfl)
        refine arg1 (mkGen (mg := mg) (mb := mb) (X := [226]) (g₀ := g) (s₀ := s) (L := L) (c := 230) (PP := 226) (cl := [("i", L + 1)]) hr.deeper.depth rfl rfl rfl (by decide) (tp_code w) rfl rfl (by decide) rfl rfl ?_)
        refine nmL S₉ (v := .ref b2) rfl (wpAny_pyIter_list (isList_of (S₉.in_ _ _ hb2)) ?_)
        have S₁₀ := S₉.push { cls := .type "list_iterator", data := .fields #[.ref b2, .int 0 0] }
        have hIX := S₉.fx (get_push_size_none s₉.heap)
        generalize s₉.heap.objs.size = I at *
        refine ⟨g₈, _, _, oP₂, G₈, Bm.mono kk₈, hPk₂, S₁₀.perm (.swap ..), fun ga C code oC oP₃ g₁₁ s₁₁ k₁₁ hPk₃ S₁₁ hnC hloC isGen hnew hgs => ?_⟩
        have S₁₂ := S₁₁.perm (permG (C, oC) (226, oP₃) (I, { cls := .type "list_iterator", data := .fields #[.ref b2, .int 0 0] }) (L + 1, oc₁) (D, lstO lst n1) its)
        have zz := fun p hp => S₁₂.own p (List.mem_append.mpr (.inl hp))
        have nd12 : (ks ((C, oC) :: ([(I, ({ cls := .type "list_iterator", data := .fields #[.ref b2, .int 0 0] } : Obj))] ++ [(L + 1, oc₁)]))).Nodup := (List.nodup_append.mp (by simpa only [List.map_append] using S₁₂.nd)).1
        have offg : ∀ p ∈ (C, oC) :: ([(I, ({ cls := .type "list_iterator", data := .fields #[.ref b2, .int 0 0] } : Obj))] ++ [(L + 1, oc₁)]), g₈.get? p.1 = none := fun p hp => none_of fun o e => by
          have := k₁₁ _ _ e; rw [(zz p hp).2.2.1] at this; cases this
        have hIc : I ∉ [L + 1] := fun hm => by
          have h9 := List.mem_singleton.mp hm
          have q : I ≠ L + 1 := by simp at nd12; exact nd12.2
          exact q h9
        have G₁₁ := G₈.keeps k₁₁
        have hr1 : ∀ env, Room (A.deeper env) (3 * (n + 1) + 9) := fun env => hr.deeper (n := 3 * (n + 1) + 9)
        have hvlen : vs2.toArray.size = ps.length := by rw [List.size_toArray, hvl]
        have hbI : b2 ≠ I := fun e => by
          have q := (zz _ (.tail _ (.head _))).2.2.1
          have := k₁₁ _ _ hb2; rw [e] at this; dsimp only at q; rw [q] at this; cases this
        refine arg0 (extendG (B := B0) (P := PosP i ps) (K := KG C [I] [L + 1] (fun ex => ex = [(L + 1, oc₁)])) (gB := g₈) (l := ps.length) (gow := []) hr.1 (by have := hr.2.1; show A.depth + 1 + 2 ≤ 990; simp only [recursionLimit] at this; omega) (by have := hr.2.2; show A.units + 3 + 30 ≤ 9900; simp only [cLine] at this; omega) (fun b hb => .inl (by rw [List.mem_singleton.mp hb]; simp)) (fun l g h v k ⟨p, hp, r⟩ => ⟨p, hp, r.mono k⟩) G₁₁ S₁₂
          ⟨isGen, hgs, fun _ h => (nomatch h), hnew, (by simp), k₁₁, ⟨[(C, oC), (I, _)], [(L + 1, oc₁)], rfl, rfl, rfl⟩, goStart (fun s good => ?self) (fun s good => ?loop)⟩ (by omega) ?_)
        case self =>
          exact (Walks.list (prog := prg) (w := w) rfl I b2 hbI vs2.toArray).self 0 s _ _ ⟨⟨_, good.own _ (.tail _ (.head _)), rfl, rfl⟩, isList_of (good.base _ _ hb2)⟩ ⟨rfl, rfl⟩
        case loop =>
          refine goLoop (C := C) (n := ps.length) (kI := [I]) (X := [L + 1]) (KE := fun ex => ex = [(L + 1, oc₁)]) (It := fun i it => ItL I b2 i it) (Bd := fun j g m => ∃ y, vs2[j]? = some y ∧ m "p" = some y) rfl rfl hloC (offg _ (.head _)) ?_ ?_ (fun l g h v k ⟨p, hp, r⟩ => ⟨p, hp, r.mono k⟩) rfl ?_ ?_ ?_
            ps.length 0 oC [(I, _)] [(L + 1, oc₁)] _ (Nat.sub_zero _) (Nat.zero_le _) ⟨_, rfl, fun h e => ⟨_, e, rfl, rfl⟩⟩ rfl rfl rfl hnC s good
          · intro b hb
            rcases List.mem_append.mp hb with h | h
            · rw [List.mem_singleton.mp h]; exact offg (I, _) (.tail _ (.head _))
            · rw [List.mem_singleton.mp h]; exact offg (L + 1, oc₁) (.tail _ (.tail _ (.head _)))
          · simpa using nd12
          · rintro j s₀' s' m' it ex hj hit hki hkx rfl S'
            refine nextL rfl (isList_of hb2) (by rw [hvl]; exact hj) hit hIc S' fun y it' s₁ hy hit' hk' S₁ => ⟨_, rfl, ?_⟩
            refine wpAny_pure ?_
            exact wpAny_assign_Name (stL S₁ fun s₂ S₂ => ⟨g₈, _, it', .refl _, hit', hk', ⟨y, hy, rfl⟩, S₂⟩)
          · intro s₀' s' m' it ex hit hki hkx S'
            exact endL rfl (isList_of hb2) (by rw [hvl]; exact hit) hIc S' fun s₁ S₁ => ⟨rfl, S₁⟩
          · rintro j s₀' g' s' m' it ex hj hg ⟨y, hy, hm⟩ rfl hkx S'
            obtain ⟨dd, hdd, rdd⟩ := hr2.get' hy
            rw [List.getElem?_map] at hdd
            obtain ⟨p, hp, rfl⟩ := Option.map_eq_some_iff.mp hdd
            refine wpAny_BinOp (eTup (arg1 (nmFr (v := .int (i : Nat) tki) ⟨oc₁, S'.get (List.mem_append.mpr (.inr (.head _))), hoc₁⟩ (arg0 ?_))))
            refine mkTup S' (.cons (.int _ _) .nil) (sl (by simp)) fun z g₁ s₁ k₁ r₁ S₁ => nmL S₁ hm ?_
            have hpl : p.length ≤ 400 := by
              have := tpos_dep pre post (.node lab2 cs2) p (by rw [hps]; exact List.mem_of_getElem? hp)
              have := (hn.kid ht).ht
              have := hr.2.1
              simp only [recursionLimit] at this
              omega
            refine addTup S₁ r₁ ((rdd.mono hg).mono k₁) (by rw [List.length_map]; exact sl (by simp only [List.length_singleton]; omega)) fun v' g₂ s₂ k₂ r₂ S₂ => ⟨g₂, _, [(L + 1, oc₁)], k₁.trans k₂, rfl, rfl, ⟨p, ?_, r₂⟩, S₂⟩
            rw [show ps.length - 1 - (ps.length - 1 - j) = j by omega]; exact hp
        rintro own' its2 n2' g₁₃ s₁₃ k₁₃ ⟨pre', ex, rfl, _, rfl⟩ hl2 hI2 S₁₃
        have S₁₄ := (S₁₃.perm (permE (L + 1, oc₁) (D, lstO (lst ++ its2) n2') (226, oP₃) pre' its)).dropPre
        refine ⟨rfl, xNil (thenNext (xNil ⟨g₁₃, _, _, (gr.sub.trans k₁₁).trans k₁₃, S₁₄, hn2, hn3, _, _, oc₁, _, oP₃, rfl, hoc₁, hPk₃, ?_⟩))⟩
        rw [take_snoc ht, tposL_snoc, htl, hps, ← List.append_assoc, List.map_append]
        refine (hJ.mono ((gr.sub.trans k₁₁).trans k₁₃)).append (RdA.of_get (by rw [hl2, List.length_map, List.length_map]) fun q vq dq h1 h2 => ?_)
        rw [List.getElem?_map, List.getElem?_map] at h2
        obtain ⟨d', hd', rfl⟩ := Option.map_eq_some_iff.mp h2
        obtain ⟨p', hp', rfl⟩ := Option.map_eq_some_iff.mp hd'
        obtain ⟨p, hp, rp⟩ := hI2 q vq h1
        have hq := (List.getElem?_eq_some_iff.mp hp').1
        rw [show ps.length - 1 - (ps.length - 1 - q) = q by omega, hp'] at hp
        cases hp
        simpa using rp
    · rintro g' s' m' ow' hg ⟨hn2, hn3, lst, n1, oc', v0, oP', rfl, hocd, hPk', hJ⟩ S'
      rw [hcs.length, List.take_length] at hJ
      have kk := k₃.trans hg
      refine thenNext ?_
      refine xIfJoin (fun s' => ∃ its n1 g'' m'', Sub g' g'' ∧ m'' "positions" = some (.ref D) ∧ RdA g'' its ((((if pre = true then [[]] else []) ++ tposL pre post cs 0) ++ (if post = true then [[]] else [])).map posD) ∧ St [226] g s L g'' s' m'' [(L + 1, oc'), (D, lstO its n1), (226, oP')]) ?_ ?_
      · refine wpAny_isTrue_Compare1 (nmL S' (v := .str o u) hn2 (eTup (arg1 (wpAny_Constant_str (arg1 (wpAny_Constant_str (arg0 ?_)))))))
        refine tIn2 ((S'.toks (s'.toks + 1)).toks (s'.toks + 1 + 1)) fun s₃ S₃ => ?_
        rw [h2]
        cases post with
        | true =>
          refine itT (xExpr (meList (name := "append") (nmL S₃ (v := .ref D) hn3 ⟨D, lst, n1, rfl, S₃.get (.tail _ (.head _)), ?_⟩) PySem.F.slot_list_append rfl))
          refine arg1 (eTup (arg0 (mkTup S₃ .nil (sl (by simp)) fun z g₄ s₄ k₄ r₄ S₄ => arg0 ?_)))
          refine appendL (pre := [(L + 1, oc')]) S₄ ?_ fun s₅ S₅ => ⟨rfl, xNil ⟨rfl, lst ++ [z], _, g₄, _, k₄, hn3, ?_, S₅⟩⟩
          · have q1 := hJ.length
            rw [List.length_map, List.length_append] at q1
            have q2 := tposL_len pre true cs 0
            have q4 : (if pre = true then [[]] else [] : List Plc).length ≤ 1 := by cases pre <;> simp
            exact sl (by omega)
          · rw [List.map_append]; exact (hJ.mono k₄).append (.cons r₄ .nil)
        | false => exact itF ⟨lst, n1, g', m', .refl _, hn3, by simpa using hJ, S₃⟩
      · rintro s₃ ⟨lst', n1', g'', m'', k'', hm, hJ', S₃⟩
        refine xRet (nmL S₃ (v := .ref D) hm ?_)
        obtain ⟨g₅, k₅, e₅, _, S₅⟩ := St.freeze (a := D) (o := lstO lst' n1') (ow := [(L + 1, oc'), (226, oP')]) (S₃.perm (.swap ..)) (by
          intro hm; rw [List.mem_singleton.mp hm] at hD; exact hD (.head _))
        refine hR _ oP' _ g₅ S₅.grow (S₅.get (.tail _ (.head _))) hPk' ⟨D, lst', n1', rfl, e₅, ?_⟩
        rw [tpos]; exact hJ'.mono k₅
end
end Mine
namespace Mine
noncomputable abbrev zipO (TI TO : Addr) (f0 : Value) : Obj := { cls := .type "zip", dict := none, data := .fields #[f0, .bool false, .bool false, .ref TI, .ref TO], slots := #[] }
noncomputable def ItZ (z TI TO i1 i2 l1 l2 : Addr) (i : Nat) (it : List (Addr × Obj)) : Prop := ∃ a b o1 o2, it = [(z, zipO TI TO .none), (TO, tupO [a, b]), (i1, o1), (i2, o2)] ∧
  (∀ h : Heap, h.get? i1 = some o1 → h.IsListIter i1 l1 i) ∧ (∀ h : Heap, h.get? i2 = some o2 → h.IsListIter i2 l2 i)
theorem iter_obj {h : Heap} {I l : Addr} {i : Nat} (x : h.IsListIter I l i) : ∃ o, h.get? I = some o ∧ ∀ h' : Heap, h'.get? I = some o → h'.IsListIter I l i := let ⟨o, ho, r⟩ := x; ⟨o, ho, fun h' e => ⟨o, e, r⟩⟩
section
variable {B : Lvl} {w : World} {mg mb : Str → Option Value} {M : Model} {A : Around} {E : Value → Shared → Prop} {X : List Addr} {g₀ g : Heap} {s₀ s : Shared} {L : Addr} {m : Str → Option Value} {ow : List (Addr × Obj)} {env : Env}
  {gB : Heap} {P : Nat → Heap → Value → Prop} {K : List (Addr × Obj) → Prop}
theorem nextZ {z TI TO i1 i2 l1 l2 : Addr} {i : Nat} {xs ys : List Value} {it ex : List (Addr × Obj)} {xa xb : Str} {pa pb pt : PySem.Pos} {kt : Nat} {R : Shared → Prop} (hh : A.handled = none) (D : ZipApart z TI TO i1 i2 l1 l2)
    (hTI : IsPair g TI (.ref i1) (.ref i2)) (h1 : g.IsList l1 xs.toArray) (h2 : g.IsList l2 ys.toArray) {x y : Value} (hx : xs[i]? = some x) (hy : ys[i]? = some y) (hit : ItZ z TI TO i1 i2 l1 l2 i it) (hX : ∀ b ∈ [z, TO, i1, i2], b ∉ X) (S : St X g₀ s₀ L g s m (it ++ ex))
    (hL : env.locals = L) (hk : env.scope.kind = .function) (hla : env.kindOf xa = some .local) (hlb : env.kindOf xb = some .local)
    (h : ∀ it' s', ItZ z TI TO i1 i2 l1 l2 (i + 1) it' → ks it' = [z, TO, i1, i2] → St X g₀ s₀ L g s' (upd (upd m xa x) xb y) (it' ++ ex) → R s') :
    wpAny (model prg w) A (pyNext (.ref z)) (fun r s₁ => ∃ v, r = some v ∧ wpAny (model prg w) A (letOwnedTupleGo (.Tuple [.Name xa pa, .Name xb pb] kt pt) (.ref z) v) (fun _ s₂ => wpAny (model prg w) A (assign (.Tuple [.Name xa pa, .Name xb pb] kt pt) env v) (fun _ s₃ => R s₃) (fun _ _ => False) s₂) (fun _ _ => False) s₁) (fun _ _ => False) s := by
  obtain ⟨a, b, o1, o2, rfl, hi1, hi2⟩ := hit
  have ez := S.own _ (.head _)
  have eT := S.own _ (.tail _ (.head _))
  have e1 := S.own _ (.tail _ (.tail _ (.head _)))
  have e2 := S.own _ (.tail _ (.tail _ (.tail _ (.head _))))
  refine wpAny_pyNext_zip_item D ez.1 (S.in_ _ _ hTI) eT.1 (hi1 _ e1.1) (hi2 _ e2.1) (IsList.mono S.in_ h1) (IsList.mono S.in_ h2) (x := x) (y := y) (by simpa using hx) (by simpa using hy) fun h' a1 a2 a3 a4 a5 a6 hkp => ⟨_, rfl, ?_⟩
  have hTn := get_push_size_none s.heap
  have nT : ∀ {b o}, s.heap.get? b = some o → s.heap.objs.size ≠ b := fun e q => by rw [q, e] at hTn; cases hTn
  have t1 := nT ez.1
  have t2 := nT eT.1
  have t3 := nT e1.1
  have t4 := nT e2.1
  generalize s.heap.objs.size = T at *
  obtain ⟨p1, hp1, hq1⟩ := iter_obj a3
  obtain ⟨p2, hp2, hq2⟩ := iter_obj a4
  refine wpAny_letOwnedTupleGo_zip (s := { s with heap := h' }) a1 fun h₂ hz₂ hs₂ => ?_
  replace hs₂ : Heap.SameBut z h' h₂ := hs₂
  have S₂ : St X g₀ s₀ L g { s with heap := h₂, toks := s.toks } m ([(T, tupO [x, y]), (z, zipO TI TO .none), (TO, tupO [x, y]), (i1, p1), (i2, p2)] ++ ex) := St.turn1 (Y := [(z, _), (TO, _), (i1, _), (i2, _)]) S (fun c o hc e => by
      have hc' : c ≠ z ∧ c ≠ TO ∧ c ≠ i1 ∧ c ≠ i2 := by simpa using hc
      exact hs₂.extBut c o hc'.1 (hkp c o hc'.1 hc'.2.1 hc'.2.2.1 hc'.2.2.2 e)) (fun p hp => by
      simp only [List.mem_cons, List.not_mem_nil, or_false] at hp
      rcases hp with rfl | rfl | rfl | rfl | rfl
      · exact ⟨(hs₂.2 _ t1).trans a5, .inr hTn⟩
      · exact ⟨hz₂, .inl (by simp)⟩
      · exact ⟨(hs₂.2 _ D.TOz).trans a2, .inl (by simp)⟩
      · exact ⟨(hs₂.2 _ D.i1z).trans hp1, .inl (by simp)⟩
      · exact ⟨(hs₂.2 _ D.i2z).trans hp2, .inl (by simp)⟩)
    (by simp only [List.map_cons, List.map_nil, List.nodup_cons, List.mem_cons, List.not_mem_nil, or_false, not_or, not_false_eq_true, List.nodup_nil, and_true]; exact ⟨⟨t1, t2, t3, t4⟩, ⟨D.TOz.symm, D.i1z.symm, D.i2z.symm⟩, ⟨D.TOi1, D.TOi2⟩, D.i12⟩)
    (fun b hb hm => absurd hb (hX b hm))
  refine assign_Tuple_tuple (x1 := kt) hh (isTup_of (S₂.get (.head _))) rfl rfl fun h₄ hx₄ => ?_
  have S₄ := S₂.kept (h' := h₄) (tk := s.toks) fun b o e => hx₄ b o (Nat.ne_of_lt (Heap.lt_size e)) e
  refine wpAny_assignInOrder_more (wpAny_assign_Name (stL S₄ (fun s₅ S₅ => ?_) hL hk hla))
  refine wpAny_assignInOrder_more (wpAny_assign_Name (stL S₅ (fun s₆ S₆ => ?_) hL hk hlb))
  exact wpAny_assignInOrder_none (h _ s₆ ⟨x, y, p1, p2, rfl, hq1, hq2⟩ rfl S₆.drop)
theorem endZ {z TI TO i1 i2 l1 l2 : Addr} {xs ys : List Value} {it ex : List (Addr × Obj)} {Q : Option Value → Shared → Prop} (hh : A.handled = none) (D : ZipApart z TI TO i1 i2 l1 l2)
    (hTI : IsPair g TI (.ref i1) (.ref i2)) (h1 : g.IsList l1 xs.toArray) (h2 : g.IsList l2 ys.toArray) (hit : ItZ z TI TO i1 i2 l1 l2 xs.length it) (hX : ∀ b ∈ [z, TO, i1, i2], b ∉ X) (S : St X g₀ s₀ L g s m (it ++ ex))
    (h : ∀ s', St X g₀ s₀ L g s' m ex → Q none s') : wpAny (model prg w) A (pyNext (.ref z)) Q E s := by
  obtain ⟨a, b, o1, o2, rfl, hi1, hi2⟩ := hit
  have ez := S.own _ (.head _)
  have eT := S.own _ (.tail _ (.head _))
  have e1 := S.own _ (.tail _ (.tail _ (.head _)))
  have e2 := S.own _ (.tail _ (.tail _ (.tail _ (.head _))))
  refine wpAny_pyNext_zip_end hh D ez.1 (S.in_ _ _ hTI) eT.1 (hi1 _ e1.1) (hi2 _ e2.1) (IsList.mono S.in_ h1) (IsList.mono S.in_ h2) (.inl (by simp)) fun h' hkp => ?_
  exact h _ (St.turn1 (Y := [(z, _), (TO, _), (i1, _), (i2, _)]) (Y' := []) (tk := s.toks) S (fun c o hc e => by
      have hc' : c ≠ z ∧ c ≠ TO ∧ c ≠ i1 ∧ c ≠ i2 := by simpa using hc
      exact hkp c o hc'.1 hc'.2.1 hc'.2.2.1 hc'.2.2.2 e) (fun p hp => (nomatch hp)) List.nodup_nil (fun b hb hm => absurd hb (hX b hm)))
theorem allLoop {a : Addr} {gi : Nat} {R : Result → Shared → Prop} (hh : A.handled = none) (hd : A.depth + 1 ≤ B.d) (hu : A.units + 13 ≤ B.u) (hX : ∀ b ∈ X, b ∈ ks ow ∨ ∀ o, K o → b ∈ ks o) (hP : ∀ l g v, P l g v → v = .bool true) :
    ∀ (l : Nat) (own : List (Addr × Obj)) (gow : List (Nat × GenState)) (gs : GenState) (g : Heap) (s : Shared), Amb w mg mb g → St X g₀ s₀ L g s m (own ++ ow) → Held B w gB P K a gi s₀ g s l own gow gs →
      (∀ own' g' s', Sub g g' → K own' → St X g₀ s₀ L g' s' m (own' ++ ow) → R (.ok (.ret (.bool true))) s') → codeAny (model prg w) A (.builtin "all.loop" ⟨[.ref a], []⟩) R s := by
  intro l
  induction l with
  | zero =>
    intro own gow gs g s G S H h
    refine codeAny_builtin F.entry_all_loop ?_
    rw [Around.under_plainId F.plain_all_loop _]
    show wpAny _ A.in1 (pyNext (.ref a) >>= _) _ _ s
    refine wpAny_bind (genDone (A := A.in1) hh hd (by show A.units + 1 + 12 ≤ _; omega) G S H hX fun own' s' hK S' => ?_)
    exact wpAny_bind (wpAny_rule (wpAny_pure (h own' g s' (.refl _) hK S')))
  | succ l ih =>
    intro own gow gs g s G S H h
    refine codeAny_builtin F.entry_all_loop ?_
    rw [Around.under_plainId F.plain_all_loop _]
    show wpAny _ A.in1 (pyNext (.ref a) >>= _) _ _ s
    refine wpAny_bind (genItem (A := A.in1) hh hd (by show A.units + 1 + 12 ≤ _; omega) G S H hX fun v own' gow' gs' g' s' k' S' H' hPv => ?_)
    have hv := hP _ _ _ hPv
    subst hv
    refine wpAny_bind (wpAny_holding (wpAny_truthy_bool ?_))
    refine wpAny_bind (wpAny_letGo ?_)
    simp only [if_true]
    exact wpAny_pure ⟨plainId_quiet F.plain_all_loop _, ih own' gow' gs' g' s' (G.keeps k') S' H' fun own'' g'' s'' k'' hK S'' => h own'' g'' s'' (k'.trans k'') hK S''⟩
theorem allG {a : Addr} {gi l : Nat} {own : List (Addr × Obj)} {gow : List (Nat × GenState)} {gs : GenState} {Q : Value → Shared → Prop} (hh : A.handled = none) (hd : A.depth + 2 ≤ B.d) (hu : A.units + 30 ≤ B.u) (hX : ∀ b ∈ X, b ∈ ks ow ∨ ∀ o, K o → b ∈ ks o) (hP : ∀ l g v, P l g v → v = .bool true)
    (G : Amb w mg mb g) (S : St X g₀ s₀ L g s m (own ++ ow)) (H : Held B w gB P K a gi s₀ g s l own gow gs)
    (h : ∀ own' g' s', Sub g g' → K own' → St X g₀ s₀ L g' s' m (own' ++ ow) → Q (.bool true) s') : wpAny (model prg w) A (call (.builtin "all") [.ref a]) Q E s := by
  refine call_function_tree F.kind_all F.plain_all F.entry_all (F.args_all1 _) ?_
  unfold Builtin.«all»
  refine wpAny_bind (m := oneArg "all" _) (wpAny_pure ?_)
  refine wpAny_bind (wpAny_pyIter_gen (IsGen.mono S.in_ H.isGen) ?_)
  refine wpAny_pure ⟨plainId_quiet F.plain_all_loop _, ?_⟩
  exact allLoop hh (by omega) (by omega) hX hP l own gow gs g s G S H fun own' g' s' k hK S' => h own' g' s' k hK S'
end
end Mine
namespace Mine
section
variable {B : Lvl} {w : World} {mg mb : Str → Option Value} {M : Model} {A : Around} {E : Value → Shared → Prop} {X : List Addr} {g₀ g : Heap} {s₀ s : Shared} {L : Addr} {m : Str → Option Value} {ow : List (Addr × Obj)} {env : Env}
theorem gSame : nsIn (Mine.hd.heap_1 w.params) mainGlobals "_same" = some (some (.ref 287)) := by k_is
theorem kSame : keepIn (Mine.hd.heap_1 w.params) (.ref 287) = true := by k_is
theorem mkZip {l1 l2 : Addr} {xs ys : List Value} {Q : Value → Shared → Prop} (S : St X g₀ s₀ L g s m ow) (h1 : g.IsList l1 xs.toArray) (h2 : g.IsList l2 ys.toArray)
    (h : ∀ z TI TO i1 i2 it g' s', Sub g g' → ZipApart z TI TO i1 i2 l1 l2 → IsPair g' TI (.ref i1) (.ref i2) → ItZ z TI TO i1 i2 l1 l2 0 it → ks it = [z, TO, i1, i2] → (∀ b ∈ [z, TO, i1, i2], b ∉ X) → St X g₀ s₀ L g' s' m (it ++ ow) → (∀ h : Heap, (∀ p ∈ it, h.get? p.1 = some p.2) → IsZip h z TI TO .none) → Q (.ref z) s') :
    wpAny (model prg w) A (call (.type "zip") [.ref l1, .ref l2]) Q E s := by
  have lt1 : @LT.lt Nat _ l1 s.heap.objs.size := by obtain ⟨o, ho, _⟩ := h1; exact Heap.lt_size (S.in_ _ _ ho)
  have lt2 : @LT.lt Nat _ l2 s.heap.objs.size := by obtain ⟨o, ho, _⟩ := h2; exact Heap.lt_size (S.in_ _ _ ho)
  refine call_zip_2 (IsList.mono S.in_ h1) (IsList.mono S.in_ h2) fun h' a1 a2 a3 a4 a5 a6 hk => ?_
  have fr : ∀ k : Nat, s.heap.get? (s.heap.objs.size + k) = none := fun k => none_of fun o e => absurd (Heap.lt_size e) (Nat.not_lt.mpr (Nat.le_add_right _ _))
  obtain ⟨o1, ho1, hq1⟩ := iter_obj a4
  obtain ⟨o2, ho2, hq2⟩ := iter_obj a5
  have D : ZipApart (s.heap.objs.size + 4) (s.heap.objs.size + 2) (s.heap.objs.size + 3) s.heap.objs.size (s.heap.objs.size + 1) l1 l2 := by
    constructor <;> (show ¬ @Eq Nat _ _) <;> omega
  have fr0 : s.heap.get? s.heap.objs.size = none := fr 0
  have fr1 := fr 1
  have fr2 := fr 2
  have fr3 := fr 3
  have fr4 := fr 4
  generalize s.heap.objs.size + 4 = z at *
  generalize s.heap.objs.size + 3 = TO at *
  generalize s.heap.objs.size + 2 = TI at *
  generalize s.heap.objs.size + 1 = i2 at *
  generalize s.heap.objs.size = i1 at *
  have S₂ : St X g₀ s₀ L g { s with heap := h', toks := s.toks } m ([(TI, tupO [.ref i1, .ref i2]), (z, zipO TI TO .none), (TO, tupO [.none, .none]), (i1, o1), (i2, o2)] ++ ow) := St.turn1 (Y := []) S (fun c o _ e => hk c o e) (fun p hp => by
      simp only [List.mem_cons, List.not_mem_nil, or_false] at hp
      rcases hp with rfl | rfl | rfl | rfl | rfl
      · exact ⟨a2, .inr fr2⟩
      · exact ⟨a1, .inr fr4⟩
      · exact ⟨a3, .inr fr3⟩
      · exact ⟨ho1, .inr fr0⟩
      · exact ⟨ho2, .inr fr1⟩)
    (by simp only [List.map_cons, List.map_nil, List.nodup_cons, List.mem_cons, List.not_mem_nil, or_false, not_or, not_false_eq_true, List.nodup_nil, and_true]; exact ⟨⟨D.TIz, D.TITO, D.TIi1, D.TIi2⟩, ⟨D.TOz.symm, D.i1z.symm, D.i2z.symm⟩, ⟨D.TOi1, D.TOi2⟩, D.i12⟩)
    (fun b _ h => nomatch h)
  have offX : ∀ b, s.heap.get? b = none → b ∉ X := fun b e hm => by have := S.xin _ hm; rw [e] at this; cases this
  obtain ⟨g', k, e, _, S₃⟩ := S₂.freeze (offX _ fr2)
  refine h z TI TO i1 i2 [(z, zipO TI TO .none), (TO, tupO [.none, .none]), (i1, o1), (i2, o2)] g' _ k D e ⟨_, _, o1, o2, rfl, hq1, hq2⟩ rfl (fun b hb => ?_) S₃ fun hh hp => hp _ (.head _)
  simp only [List.mem_cons, List.not_mem_nil, or_false] at hb
  rcases hb with rfl | rfl | rfl | rfl
  · exact offX _ fr4
  · exact offX _ fr3
  · exact offX _ fr0
  · exact offX _ fr1
theorem vIsiT {x : Str} {v : Value} {p p2 p3 pos : PySem.Pos} {Q : Value → Shared → Prop}
    (G : Amb w mg mb g) (S : St X g₀ s₀ L g s m ow) (hx0 : m x = some v)
    (h : wpAny (model prg w) A (call (.builtin "isinstance") [v, .ref 269]) Q E s) (hL : env.locals = L := by rfl) (hl : env.kindOf x = some .local := by rfl) (hd : (x == ("__debug__" : Str)) = false := by decide)
    (hg : env.globals = mainGlobals := by rfl) (hb : env.builtins = builtinsNs := by rfl) (hkd : env.scope.kind = .function := by rfl) (hx : env.kindOf "isinstance" = some .globalImplicit := by rfl) (hx2 : env.kindOf "Tree" = some .globalImplicit := by rfl) :
    wpAny (model prg w) A (eval (.Call (.Name "isinstance" p) [.Name x p3, .Name "Tree" p2] [] pos) env) Q E s :=
  biG G S gIsi bIsi (arg1 (nmL S hx0 (arg1 (nmG G S gTree (arg0 h) hg hkd hx2)) hL hkd hl hd)) rfl rfl (by decide) hg hb hkd hx
noncomputable def EqS (w : World) (mg mb : Str → Option Value) (n : Nat) : Prop := ∀ (lab : Sym) (cs : List T), (T.node lab cs).Small n → ∀ (A : Around) (g : Heap) (s : Shared) (v1 v2 : Value) (as bs : List Addr) (oP : Obj) (R : Result → Shared → Prop),
    Room A (10 * n + 20) → Amb w mg mb g → BM mg g → Sub g s.heap → IsT g v1 (.node lab cs) as → IsT g v2 (.node lab cs) bs → s.heap.get? 162 = some oP → PlOk oP → g.get? 162 = none →
    (∀ oP' s' g', Grow [162] g s g' s' → s'.heap.get? 162 = some oP' → PlOk oP' → R (.ok (.ret (.bool true))) s') → codeAny (model prg w) A (.call (.ref 167) ⟨[v1, v2], []⟩) R s
theorem eqTree {n : Nat} {v1 v2 : Value} {Q : Value → Shared → Prop} {x dx y dy : Addr} {es es' : List DictEntry} {k k' : Nat} (hr : Room A n) (G : Amb w mg mb g) (S : St X g₀ s₀ L g s m ow)
    (hx : g.get? x = some (instObj 269 dx)) (hd : g.get? dx = some (dictOf es k)) (hy : g.get? y = some (instObj 269 dy)) (hdy : g.get? dy = some (dictOf es' k'))
    (h : wpAny (model prg w) A (call (.ref 167) [.ref x, .ref y]) (PySem.W.CmpBack Q) E s) : wpAny (model prg w) A (compareOp .Eq (.ref x) (.ref y)) Q E s :=
  cmp_ofEq (cmp_K hr.units S.fr (G.keeps S.in_).low (instT S.in_ hx hd) (instT S.in_ hy hdy).type (by k_is) (by k_is) (by k_is) h)
theorem same_of {n : Nat} (ih : EqS w mg mb n) {t : T} (hn : t.Small n) {A : Around} {g : Heap} {s : Shared} {v1 v2 : Value} {as bs : List Addr} {oP : Obj} {R : Result → Shared → Prop} (hr : Room A (10 * n + 22)) (G : Amb w mg mb g) (Bm : BM mg g) (hs : Sub g s.heap) (h1 : IsT g v1 t as) (h2 : IsT g v2 t bs)
    (hP : s.heap.get? 162 = some oP) (hPk : PlOk oP) (hPg : g.get? 162 = none) (hR : ∀ oP' s' g', Grow [162] g s g' s' → s'.heap.get? 162 = some oP' → PlOk oP' → R (.ok (.ret (.bool true))) s') : codeAny (model prg w) A (.call (.ref 287) ⟨[v1, v2], []⟩) R s := by
  refine enterX (ow := [(162, oP)]) G hs hr (fun p hp => by rw [List.mem_singleton.mp hp]; exact ⟨hP, hPg⟩) (by simp) (by k_is) (by k_is) (BindsTo.of_eq rfl) (locs rfl) ?_ rfl rfl rfl (by decide)
  intro L s₁ S
  try k_fold
  have S : St [162] g s L g s₁ _ [(162, oP)] := S
  refine xIf (wpAny_isTrue_BoolOp (wpAny_allTrue_Or_cons (tIsiT G S (nmL S (v := v1) rfl ⟨_, S, ?_⟩))))
  cases h1 with
  | leaf y u =>
    cases h2 with
    | leaf _ u' =>
      refine isiT_leaf G S (fun s₂ S₂ => ⟨_, rfl, itF ?_⟩)
      refine wpAny_allTrue_Or_cons (tIsiT G S₂ (nmL S₂ (v := .str y.s u') rfl ⟨_, S₂, ?_⟩))
      refine isiT_leaf G S₂ (fun s₃ S₃ => ⟨_, rfl, itF ?_⟩)
      refine wpAny_allTrue_Or_nil (itF (xNil (thenNext ?_)))
      refine xRet (wpAny_Compare1 (nmL S₃ (v := .str y.s u) rfl (nmL S₃ (v := .str y.s u') rfl (eq_str ?_))))
      rw [beq_self_eq_true]
      exact hR _ _ _ S₃.grow (S₃.get (.head _)) hPk
  | @node x dx l d1 d2 t1 t2 tk n' k _ vs _ as' hx hd hl hcs =>
    cases h2 with
    | @node x2 dx2 l2 e1 e2 u1 u2 tk2 n2 k2 _ vs2 _ bs' hx2 hd2 hl2 hcs2 =>
      refine isiT_node G S (instT S.in_ hx hd) (fun s₂ S₂ => ⟨_, rfl, itT (itT ?_)⟩)
      refine xRet (BoolOp_and (vIsiT G S₂ (v := .ref x) rfl (isiT_node G S₂ (instT S₂.in_ hx hd) fun s₃ S₃ => wpAny_truthy_bool (itT ?_))))
      refine BoolOp_and (vIsiT G S₃ (v := .ref x2) rfl (isiT_node G S₃ (instT S₃.in_ hx2 hd2) fun s₄ S₄ => wpAny_truthy_bool (itT ?_)))
      refine BoolOp_one (wpAny_Compare1 (nmL S₄ (v := .ref x) rfl (nmL S₄ (v := .ref x2) rfl ?_)))
      refine eqTree (v1 := .ref x) (v2 := .ref x2) (Room.deeper (n := 10 * n + 21) hr) G S₄ hx hd hx2 hd2 ?_
      have zP := S₄.own _ (.head _)
      refine wpAny_call (ih _ _ hn _ g _ _ _ _ _ oP _ ((Room.deeper (n := 10 * n + 21) hr).le (by omega)) G Bm S₄.in_ (.node hx hd hl hcs) (.node hx2 hd2 hl2 hcs2) zP.1 hPk zP.2.2.1 fun oP' s₅ g₅ gr hP' hPk' => ?_)
      have S₅ := S₄.callY (Y := [(162, oP)]) (Y' := [(162, oP')]) (ow := []) gr rfl fun p hp => by rw [List.mem_singleton.mp hp]; exact hP'
      exact hR oP' _ _ S₅.grow hP' hPk'
end
end Mine
namespace Mine
section
variable {B : Lvl} {w : World} {mg mb : Str → Option Value} {M : Model} {A : Around} {E : Value → Shared → Prop} {X : List Addr} {g₀ g : Heap} {s₀ s : Shared} {L : Addr} {m : Str → Option Value} {ow : List (Addr × Obj)} {env : Env}
theorem eq_code (w : World) : codeAtIn (Mine.hd.heap_1 w.params) 166 162 := by
  refine' codeAtIn.of (by k_is) ?_ ?_ ?_ ?_ ?_ <;> try rfl
theorem permZ {α : Type} (C P : α) (l : List α) : ((C :: (l ++ [P])) ++ []).Perm (C :: P :: l) := by
  rw [List.append_nil]
  exact permL [[C], l, [P]] (is := [0, 1, 2]) (js := [0, 2, 1]) (by decide)
theorem eq_spec : ∀ n, EqS w mg mb n := by
  intro n
  induction n with
  | zero => intro lab cs h; exact h.zero.elim
  | succ n ih =>
    intro lab cs hn A g s v1 v2 as bs oP R hr G Bm hs hT1 hT2 hP hPk hPg hR
    have hl0 : cs.length ≤ 400 := hn.len
    cases hT1 with
    | @node x dx l d1 d2 t1 t2 tk n' k _ vs _ as' hx hd hl hcs =>
    cases hT2 with
    | @node x2 dx2 l2 e1 e2 u1 u2 tk2 n2 k2 _ vs2 _ bs' hx2 hd2 hl2 hcs2 =>
    refine enterX (ow := [(162, oP)]) G hs hr (fun p hp => by rw [List.mem_singleton.mp hp]; exact ⟨hP, hPg⟩) (by simp) (by k_is) (by k_is) (BindsTo.of_eq rfl) (locs rfl) ?_ rfl rfl rfl (by decide)
    intro L s₁ S
    try k_fold
    have S : St [162] g s L g s₁ _ [(162, oP)] := S
    refine xRet (BoolOp_and (vIsiT G S (v := .ref x2) rfl (isiT_node G S (instT S.in_ hx2 hd2) fun s₂ S₂ => wpAny_truthy_bool (itT ?_))))
    refine BoolOp_and (wpAny_Compare1 (Attribute_name (nmL S₂ (v := .ref x) rfl (getLabel G S₂ hx hd fun s₃ S₃ => Attribute_name (nmL S₃ (v := .ref x2) rfl (getLabel G S₃ hx2 hd2 fun s₄ S₄ => eq_str (wpAny_truthy_bool ?_)))))))
    rw [beq_self_eq_true]
    refine itT (BoolOp_and (wpAny_Compare1 (biG G S₄ gLen bLen (arg1 (Attribute_name (nmL S₄ (v := .ref x) rfl (getChildren G S₄ hx hd fun s₅ S₅ => arg0 ?_)))))))
    refine len_list (isList_of (S₅.in_ _ _ hl)) (by rw [List.size_toArray, hcs.length]; omega) ?_
    have S₅ := (S₅.toks (s₅.toks + 1)).toks (s₅.toks + 1 + 1)
    refine biG G S₅ gLen bLen (arg1 (Attribute_name (nmL S₅ (v := .ref x2) rfl (getChildren G S₅ hx2 hd2 fun s₆ S₆ => arg0 ?_))))
    refine len_list (isList_of (S₆.in_ _ _ hl2)) (by rw [List.size_toArray, hcs2.length]; omega) ?_
    have S₆ := (S₆.toks (s₆.toks + 1)).toks (s₆.toks + 1 + 1)
    rw [List.size_toArray, List.size_toArray, hcs.length, hcs2.length]
    refine PyProof.Rows.eq_int (wpAny_truthy_bool ?_)
    rw [beq_self_eq_true]
    refine itT (BoolOp_one ?_)
    have hr' : ∀ env, Room (A.deeper env) (10 * (n + 1) + 19) := fun env => Room.deeper (n := 10 * (n + 1) + 19) hr
    refine biG G S₆ gAll bAll (arg1 ?_)
    refine mkGen (mg := mg) (mb := mb) (X := [162]) (g₀ := g) (s₀ := s) (L := L) (c := 166) (PP := 162) (cl := []) (hr' _).depth rfl rfl rfl (by decide) (eq_code w) rfl rfl (by decide) rfl rfl ?_
    refine tyG G S₆ gZip bZip (arg1 (Attribute_name (nmL S₆ (v := .ref x) rfl (getChildren G S₆ hx hd fun s₇ S₇ => arg1 (Attribute_name (nmL S₇ (v := .ref x2) rfl (getChildren G S₇ hx2 hd2 fun s₈ S₈ => arg0 ?_)))))))
    refine mkZip S₈ (isList_of hl) (isList_of hl2) fun z TI TO i1 i2 it g₉ s₉ k₉ D hTI hit hki hzX S₉ hZ => ?_
    have G₉ := G.keeps k₉
    refine wpAny_pyIter_zip (hZ _ fun p hp => (S₉.own p (List.mem_append.mpr (.inl hp))).1) ?_
    refine ⟨g₉, _, it, oP, G₉, Bm.mono k₉, hPk, S₉.perm (List.perm_append_singleton _ _).symm, fun ga C code oC oP₃ g₁₁ s₁₁ k₁₁ hPk₃ S₁₁ hnC hloC isGen hnew hgs => ?_⟩
    have S₁₂ := S₁₁.perm (permZ (C, oC) (162, oP₃) it)
    have zz := fun p hp => S₁₂.own p (List.mem_append.mpr (.inl hp))
    have nd12 : (ks ((C, oC) :: (it ++ [(162, oP₃)]))).Nodup := (List.nodup_append.mp (by simpa only [List.map_append] using S₁₂.nd)).1
    have offg : ∀ p ∈ (C, oC) :: (it ++ [(162, oP₃)]), g₉.get? p.1 = none := fun p hp => none_of fun o e => by
      have := k₁₁ _ _ e; rw [(zz p hp).2.2.1] at this; cases this
    have hks : ks ((C, oC) :: (it ++ [(162, oP₃)])) = C :: ([z, TO, i1, i2] ++ [162]) := by
      simp only [ks, List.map_cons, List.map_append] at hki ⊢; rw [hki]; rfl
    have G₁₁ := G₉.keeps k₁₁
    have hg9l := k₉ _ _ hl
    have hg9l2 := k₉ _ _ hl2
    have hA1 := hr.1
    have hA2 := hr.2.1
    have hA3 := hr.2.2
    simp only [recursionLimit, cLine] at hA2 hA3
    refine arg0 (allG (B := ⟨A.depth + 5, A.units + 60, by omega⟩) (P := fun _ _ v => v = .bool true) (K := KG C [z, TO, i1, i2] [162] (fun ex => ∃ oP, ex = [(162, oP)] ∧ PlOk oP)) (l := cs.length) (gow := []) hr.1 (by show A.depth + 1 + 2 ≤ A.depth + 5; omega) (by show A.units + 3 + 30 ≤ A.units + 60; omega) (fun b hb => .inr fun o ho => ?kx) (fun _ _ _ h => h) G₁₁ S₁₂
      ⟨isGen, hgs, fun _ h => (nomatch h), hnew, (by simp), k₁₁, ⟨(C, oC) :: it, [(162, oP₃)], rfl, rfl, oP₃, rfl, hPk₃⟩, goStart (fun s good => ?self) (fun s good => ?loop)⟩ ?_)
    case kx =>
      obtain ⟨pre, ex, rfl, hex, _⟩ := ho
      rw [ks, List.map_append]
      exact List.mem_append.mpr (.inr (by show b ∈ ks ex; rw [hex]; exact hb))
    case self =>
      exact wpAny_pyIter_zip (hZ _ fun p hp => good.own p (.tail _ (List.mem_append.mpr (.inl hp)))) ⟨rfl, rfl⟩
    case loop =>
      have hlen1 : vs.length = cs.length := hcs.length
      have hlen2 : vs2.length = cs.length := hcs2.length
      refine goLoop (C := C) (n := cs.length) (kI := [z, TO, i1, i2]) (X := [162]) (KE := fun ex => ∃ oP, ex = [(162, oP)] ∧ PlOk oP) (It := fun i it => ItZ z TI TO i1 i2 l l2 i it) (Bd := fun j g m => ∃ a b, vs[j]? = some a ∧ vs2[j]? = some b ∧ m "a" = some a ∧ m "b" = some b) rfl rfl hloC (offg _ (.head _)) ?_ ?_ (fun l g h v k h => h) rfl ?_ ?_ ?_
        cs.length 0 oC it [(162, oP₃)] _ (Nat.sub_zero _) (Nat.zero_le _) hit hki rfl ⟨_, rfl, hPk₃⟩ hnC s good
      · intro b hb
        have : b ∈ ks ((C, oC) :: (it ++ [(162, oP₃)])) := by rw [hks]; exact .tail _ hb
        obtain ⟨p, hp, rfl⟩ := List.mem_map.mp this
        exact offg p hp
      · rw [← hks]; exact nd12
      · rintro j s₀' s' m' it ex hj hit hki hkx _ S'
        try (show wpAny _ _ _ _ _ _; k_fold)
        obtain ⟨a, ha⟩ : ∃ a, vs[j]? = some a := ⟨_, List.getElem?_eq_getElem (by omega)⟩
        obtain ⟨b, hb⟩ : ∃ b, vs2[j]? = some b := ⟨_, List.getElem?_eq_getElem (by omega)⟩
        refine nextZ rfl D hTI (isList_of hg9l) (isList_of hg9l2) ha hb hit hzX S' rfl rfl rfl rfl fun it' s₁ hit' hk' S₁ => ?_
        exact ⟨g₉, _, it', .refl _, hit', hk', ⟨a, b, ha, hb, rfl, rfl⟩, S₁⟩
      · intro s₀' s' m' it ex hit hki hkx S'
        try (show wpAny _ _ _ _ _ _; k_fold)
        exact endZ rfl D hTI (isList_of hg9l) (isList_of hg9l2) (by rw [hlen1]; exact hit) hzX S' fun s₁ S₁ => ⟨rfl, S₁⟩
      · rintro j s₀' g' s' m' it ex hj hg ⟨a, b, ha, hb, hma, hmb⟩ ⟨oP, rfl, hPk⟩ hkx S'
        try (show wpAny _ _ _ _ _ _; k_fold)
        obtain ⟨t, bs1, ht1, hI1⟩ := hcs.get j a ha
        obtain ⟨t', bs2, ht2, hI2⟩ := hcs2.get j b hb
        rw [ht1] at ht2; cases ht2
        have kk := k₉.trans hg
        have G' := G.keeps kk
        refine fnG G' S' gSame kSame (arg1 (nmL S' hma (arg1 (nmL S' hmb (arg0 ⟨(G'.keeps S'.in_).K, ?_⟩)))))
        have S' := S'.perm (List.perm_append_singleton (162, oP) it).symm
        have zP := S'.own _ (.head _)
        refine wpAny_call (same_of ih (hn.kid ht1) (oP := oP) ⟨rfl, ?_, ?_⟩ G' (Bm.mono kk) S'.in_ (hI1.mono kk) (hI2.mono kk) zP.1 hPk zP.2.2.1 fun oP' s₅ g₅ gr hP' hPk' => ?_)
        · show A.depth + 5 + 0 + 1 + (10 * n + 22) < 1000
          omega
        · show A.units + 60 + 0 + 3 + 12 * (10 * n + 22) < _
          simp only [cLine]; omega
        · have S₅ := S'.callY (Y := [(162, oP)]) (Y' := [(162, oP')]) gr rfl fun p hp => by rw [List.mem_singleton.mp hp]; exact hP'
          exact ⟨g₅, _, [(162, oP')], gr.sub, rfl, ⟨_, rfl, hPk'⟩, rfl, S₅.perm (List.perm_append_singleton (162, oP') it)⟩
    rintro own' g' s' k' ⟨pre, ex, rfl, _, oP', rfl, hPk'⟩ S'
    exact hR oP' _ g' S'.grow (S'.get (by simp)) hPk'
end
end Mine
namespace Mine
section
variable {B : Lvl} {w : World} {Φ Ψ : End → Shared → Prop} {c : Code} {fs : List Frame} {s : Shared} {env : Env} {K : Flow → Sem Fin} {H : Value → Sem Fin} {gd : Bool → Bool} {lv : List Value → List Value}
theorem s1_execs_cons {st : Stmt} {rest : List Stmt} (h : ∀ K', K' .next = (execs rest env).wrap K H gd lv → Seg1 B (model prg w) Φ c ((exec st env).wrap K' H gd lv) fs s) :
    Seg1 B (model prg w) Φ c ((execs (st :: rest) env).wrap K H gd lv) fs s := by rw [execs_cons_wrap]; exact h _ rfl
theorem s1_execs_nil (h : Seg1 B (model prg w) Φ c (K .next) fs s) : Seg1 B (model prg w) Φ c ((execs [] env).wrap K H gd lv) fs s := h
theorem s1_ExprYield {e : Expr} {ypos pos : PySem.Pos} (hfs : splitAtGen fs = none) (hgd : gd false = false) (hfg : fs.any Frame.guarded = false)
    (h : wpAny (model prg w) (B.A.over c fs) (eval e env) (fun v s' => ∀ g l k p, (∀ (Ψ : End → Shared → Prop) s'', Seg1 B (model prg w) Ψ c (K .next) fs s'' → Seg1 B (model prg w) Ψ c (k (.send .none)) fs s'') → (End.susp v g l k c p fs).quiet = true → Φ (.susp v g l k c p fs) s') (fun _ _ => False) s)
    (hco : env.scope.isCoroutine = false := by rfl) (hi : interactive env = false := by rfl) :
    Seg1 B (model prg w) Φ c ((exec (.Expr (.Yield (some e) ypos) pos) env).wrap K H gd lv) fs s := by
  rw [exec_Expr env _ pos hi rfl]
  show Seg1 B _ Φ c (.at pos fun _ => ((eval e env >>= fun v => (standAt ypos >>= fun _ => yieldOut env v)) >>= fun x =>
    dropValue (.Yield (some e) ypos) pos x).wrap K H gd lv) fs s
  have hy : ∀ v, yieldOut env v = yieldValue v := fun v => by simp only [yieldOut, hco, Bool.false_eq_true, if_false]
  simp only [hy]
  refine s1_at ?_
  rw [Sem.bind_eq_wrap', Sem.bind_eq_wrap', Sem.wrap_wrap, Sem.wrap_wrap]
  refine s1_wrap (wpAny_noRaise (wpAny_mono h (fun v s' h' => ?_) fun _ _ x => x))
  refine s1_at (s1_yield hfs fun p => ?_)
  refine h' _ _ _ _ (fun _ s'' hx => hx) ?_
  simp [End.quiet, hgd, hfg]
theorem s1_If {test : Expr} {body : List Stmt} {pos : PySem.Pos} (h : wpAny (model prg w) (B.A.over c fs) (isTrue test env (eval test env)) (fun b s₁ => if b = true then Seg1 B (model prg w) Φ c ((execs body env).wrap K H gd lv) fs s₁ else Seg1 B (model prg w) Φ c (K .next) fs s₁) (fun _ _ => False) s) :
    Seg1 B (model prg w) Φ c ((exec (.If test body [] pos) env).wrap K H gd lv) fs s := by
  show Seg1 B _ Φ c (.at pos fun _ => ((isTrue test env (eval test env)) >>= fun b => if b = true then execs body env else execs [] env).wrap K H gd lv) fs s
  refine s1_at (s1_bindw (wpAny_noRaise (wpAny_mono h (fun b s₁ h₁ => ?_) fun _ _ x => x)))
  cases b with
  | true => rw [if_pos rfl] at h₁ ⊢; exact h₁
  | false => rw [if_neg Bool.false_ne_true] at h₁ ⊢; exact h₁
theorem s1_For {target iter : Expr} {body : List Stmt} {pos : PySem.Pos}
    (h : wpAny (model prg w) (B.A.over c fs) (eval iter env) (fun v s₁ => wpAny (model prg w) (B.A.over c fs) (pyIter v) (fun it s₂ => ∀ k l p, (∀ (Ψ : End → Shared → Prop) s'', Seg1 B (model prg w) Ψ c (K .next) fs s'' → Seg1 B (model prg w) Ψ c (k (.ok .next)) fs s'') → Seg1 B (model prg w) Φ (.forLoop target it body [] env) ((model prg w).den (.forLoop target it body [] env)) (.ret k none (gd false) l c p [] :: fs) s₂) (fun _ _ => False) s₁) (fun _ _ => False) s)
    (hs : ∀ x, foldedSetIterable iter env x = pure x := by intro _; rfl) :
    Seg1 B (model prg w) Φ c ((exec (.For target iter body [] pos) env).wrap K H gd lv) fs s := by
  rw [arm_exec_For]
  refine s1_bindw (wpAny_standAt ?_)
  refine s1_bindw (wpAny_noRaise (wpAny_mono h (fun v s₁ h₁ => ?_) fun _ _ x => x))
  rw [hs]
  refine s1_bindw (wpAny_pure ?_)
  refine s1_bindw (wpAny_standAt ?_)
  refine s1_bindw (wpAny_noRaise (wpAny_holding (wpAny_mono h₁ (fun it s₂ h₂ => ?_) fun _ _ x => x)))
  exact s1_call fun p => h₂ _ _ p fun _ s'' hx => hx
theorem s1_forLoop {target : Expr} {it : Value} {body : List Stmt} (h : wpAny (model prg w) (B.A.over (.forLoop target it body [] env) fs) (pyNext it) (fun r s₁ => match r with
      | none => Seg1 B (model prg w) Φ (.block [] env) (leafOf (.ok .next)) fs s₁
      | some v => wpAny (model prg w) (B.A.over (.forLoop target it body [] env) fs) (letOwnedTupleGo target it v) (fun _ s₂ => wpAny (model prg w) (B.A.over (.forLoop target it body [] env) fs) (assign target env v) (fun _ s₃ =>
          ∀ K H gd lv, gd false = false → (∀ (Ψ : End → Shared → Prop) s'', Seg1 B (model prg w) Ψ (.forLoop target it body [] env) ((model prg w).den (.forLoop target it body [] env)) fs s'' → Seg1 B (model prg w) Ψ (.forLoop target it body [] env) (K .next) fs s'') → Seg1 B (model prg w) Φ (.forLoop target it body [] env) ((execs body env).wrap K H gd lv) fs s₃) (fun _ _ => False) s₂) (fun _ _ => False) s₁) (fun _ _ => False) s) :
    Seg1 B (model prg w) Φ (.forLoop target it body [] env) ((model prg w).den (.forLoop target it body [] env)) fs s := by
  show Seg1 _ _ _ _ ((forTurn target it body [] env).onRaise (fun x => do noteFrame x env; theTreesLotGoes x)) fs s
  unfold forTurn
  rw [Sem.onRaise_eq_wrap]
  refine s1_bindw (wpAny_standAt ?_)
  refine s1_bindw (wpAny_noRaise (wpAny_onRaise (wpAny_mono h (fun r s₁ h₁ => ?_) fun _ _ x => x.elim)))
  cases r with
  | none =>
    refine s1_again (c' := .block [] env) (by rfl) ?_
    exact h₁
  | some v =>
    refine s1_bindw (wpAny_noRaise (wpAny_mono h₁ (fun _ s₂ h₂ => ?_) fun _ _ x => x))
    refine s1_bindw (wpAny_noRaise (wpAny_mono h₂ (fun _ s₃ h₃ => ?_) fun _ _ x => x))
    rw [Sem.bind_eq_wrap', Sem.wrap_wrap]
    exact h₃ _ _ _ _ rfl fun _ s'' hx => s1_again (by rfl) hx
theorem s1_func {body : List Stmt} (h : ∀ K H gd lv, gd false = false → (∀ (Ψ : End → Shared → Prop) s'', Seg1 B (model prg w) Ψ (.func body env) (leafOf (.ok (.ret .none))) fs s'' → Seg1 B (model prg w) Ψ (.func body env) (K .next) fs s'') → Seg1 B (model prg w) Φ (.func body env) ((execs body env).wrap K H gd lv) fs s) :
    Seg1 B (model prg w) Φ (.func body env) ((model prg w).den (.func body env)) fs s := by
  show Seg1 _ _ _ _ (.point [] fun _ => ((execs body env).onRaise (leaving env)) >>= _) fs s
  refine s1_point ?_
  rw [Sem.onRaise_eq_wrap, Sem.bind_eq_wrap', Sem.wrap_wrap]
  exact h _ _ _ _ rfl fun _ s'' hx => hx
end
end Mine
namespace Mine
structure Mid (gB : Heap) (own₀ : List (Addr × Obj)) (gow₀ : List (Nat × GenState)) (s₀ : Shared) (own : List (Addr × Obj)) (gow : List (Nat × GenState)) (s : Shared) : Prop where
  mv : Moves own₀ gow₀ s₀ s
  at' : ∀ p ∈ own, s.heap.get? p.1 = some p.2 ∧ (p.1 ∈ ks own₀ ∨ s₀.heap.get? p.1 = none)
  nd : (ks own).Nodup
  base : Sub gB s.heap
  off : ∀ p ∈ own, gB.get? p.1 = none
  gow : ∀ q ∈ gow, s.gens[q.1]? = some q.2 ∧ (q.1 ∈ gks gow₀ ∨ s₀.gens[q.1]? = none)
section
variable {B B2 : Lvl} {w : World} {mg mb : Str → Option Value} {M : Model} {A : Around} {E : Value → Shared → Prop} {gB : Heap} {own₀ own own2 ownA rest : List (Addr × Obj)} {gow₀ gow gow2 : List (Nat × GenState)} {s₀ s : Shared} {C : Addr} {oC : Obj} {m : Str → Option Value}
  {P : Nat → Heap → Value → Prop}
theorem Mid.refl (good : Good gB own gow s) (nd : (ks own).Nodup) (off : ∀ p ∈ own, gB.get? p.1 = none) : Mid gB own gow s own gow s :=
  ⟨⟨fun _ _ _ e => e, fun _ _ _ e => e, id, rfl⟩, fun p hp => ⟨good.own p hp, .inl (List.mem_map.mpr ⟨p, hp, rfl⟩)⟩, nd, good.base, off, fun q hq => ⟨good.gow q hq, .inl (List.mem_map.mpr ⟨q, hq, rfl⟩)⟩⟩
theorem Mid.drops {own' : List (Addr × Obj)} {gow' : List (Nat × GenState)} (h : Mid gB own₀ gow₀ s₀ own gow s) (h1 : ∀ p ∈ own', p ∈ own) (h2 : (ks own').Nodup) (h3 : ∀ q ∈ gow', q ∈ gow) : Mid gB own₀ gow₀ s₀ own' gow' s :=
  ⟨h.mv, fun p hp => h.at' p (h1 p hp), h2, h.base, fun p hp => h.off p (h1 p hp), fun q hq => h.gow q (h3 q hq)⟩
theorem Mid.back (h : Mid gB own₀ gow₀ s₀ own gow s) {b : Addr} (e : s.heap.get? b = none) : b ∈ ks own₀ ∨ s₀.heap.get? b = none := by
  by_cases hb : b ∈ ks own₀
  · exact .inl hb
  · exact .inr (none_of fun o e' => by rw [h.mv.keep b o hb e'] at e; cases e)
theorem Mid.backG (h : Mid gB own₀ gow₀ s₀ own gow s) {i : Nat} (e : s.gens[i]? = none) : i ∈ gks gow₀ ∨ s₀.gens[i]? = none := by
  by_cases hb : i ∈ gks gow₀
  · exact .inl hb
  · cases q : s₀.gens[i]? with
    | none => exact .inr rfl
    | some x => rw [h.mv.gens i x hb q] at e; cases e
theorem Mid.st (h : Mid gB own₀ gow₀ s₀ ((C, oC) :: rest) gow s) (hn : s.heap.Ns C m) (hlo : 353 ≤ C) : St [] gB (virt s (C :: ks rest)) C gB s m rest := by
  have S := stGen (C := C) (oC := oC) (it := rest) (ex := []) (m := m) h.base (fun p hp => (h.at' p (by simpa using hp)).1) (fun p hp => h.off p (by simpa using hp)) (by simpa using h.nd) hn hlo
  rw [List.append_nil] at S; exact S
theorem Mid.piece {rest' : List (Addr × Obj)} {s' : Shared} {m' : Str → Option Value} (h : Mid gB own₀ gow₀ s₀ ((C, oC) :: rest) gow s) (S : St [] gB (virt s (C :: ks rest)) C gB s' m' rest') :
    ∃ oC', Mid gB own₀ gow₀ s₀ ((C, oC') :: rest') gow s' ∧ (∀ h : Heap, h.get? C = some oC' → h.Ns C m') := by
  obtain ⟨oC', h1, h2⟩ := ns_obj S.ns
  have key : ∀ b, b ∈ ks ((C, oC) :: rest) → b ∈ ks own₀ ∨ s₀.heap.get? b = none := fun b hb => by
    obtain ⟨p, hp, rfl⟩ := List.mem_map.mp hb; exact (h.at' p hp).2
  have hC := h.at' _ (.head _)
  refine ⟨oC', ⟨⟨fun b o hb e => ?_, fun i x hi e => S.grow.gens i x (h.mv.gens i x hi e), fun hb => S.grow.bare (h.mv.bare hb), S.grow.os.trans h.mv.os⟩, fun p hp => ?_, ?_, S.in_, fun p hp => ?_, fun q hq => ⟨S.grow.gens _ _ (h.gow q hq).1, (h.gow q hq).2⟩⟩, h2⟩
  · refine S.grow.keep b o (fun h => nomatch h) (virt_some.mpr ⟨h.mv.keep b o hb e, fun hm => ?_⟩)
    rcases key b hm with h' | h'
    · exact hb h'
    · rw [h'] at e; cases e
  · rcases List.mem_cons.mp hp with rfl | hp
    · exact ⟨h1, hC.2⟩
    · have z := S.own p hp
      refine ⟨z.1, ?_⟩
      rcases z.2.2.2 with h' | h'
      · cases h'
      · by_cases hb : p.1 ∈ ks ((C, oC) :: rest)
        · exact key _ hb
        · exact h.back (virt_none h' hb)
  · rw [ks, List.map_cons, List.nodup_cons]
    refine ⟨fun hm => ?_, S.nd⟩
    obtain ⟨p, hp, e⟩ := List.mem_map.mp hm
    exact (S.own p hp).2.1 e
  · rcases List.mem_cons.mp hp with rfl | hp
    · exact (show gB.get? C = none from h.off (C, oC) (.head _))
    · exact (S.own p hp).2.2.1
theorem midItem {a : Addr} {gi l : Nat} {gs : GenState} {Q : Option Value → Shared → Prop} (hh : A.handled = none) (hd : A.depth + 1 ≤ B2.d) (hu : A.units + 12 ≤ B2.u) (G : Amb w mg mb gB)
    (Md : Mid gB own₀ gow₀ s₀ (ownA ++ own2) ((gi, gs) :: gow2) s) (hg : s.heap.IsGen a gi) (hoff : gi ∉ gks gow2) (H : Go B2 w gB P (fun _ => True) (l + 1) own2 gow2 gs) (hP : ∀ l g v, P l g v → P l gB v)
    (h : ∀ v own2' gow2' gs' s', Mid gB own₀ gow₀ s₀ (ownA ++ own2') ((gi, gs') :: gow2') s' → gi ∉ gks gow2' → Go B2 w gB P (fun _ => True) l own2' gow2' gs' → P l gB v → Q (some v) s') : wpAny (model prg w) A (pyNext (.ref a)) Q E s := by
  have nd := List.nodup_append.mp (by simpa only [List.map_append] using Md.nd)
  have good : Good gB own2 gow2 (s.setGen gi .running) := ⟨Md.base, fun p hp => (Md.at' p (List.mem_append.mpr (.inr hp))).1, fun q hq => by
    have hne : q.1 ≠ gi := fun e => hoff (e ▸ List.mem_map.mpr ⟨q, hq, rfl⟩)
    rw [setGen_other hne]; exact (Md.gow q (.tail _ hq)).1⟩
  have hgi := Md.gow _ (.head _)
  refine pyNext1 hh hd hu (G.keeps Md.base).T.nolimit hg hgi.1 (H.2 _ good) fun e s₁ he => ?_
  obtain ⟨mv, he⟩ := he
  cases e with
  | ret r => exact he.elim
  | susp v gd lv k c p fs =>
    obtain ⟨hq, own', gow', gN, ok, hN1, hN2, hN3, hPv, hgw, hgo⟩ := he
    refine ⟨hq, ?_⟩
    have run : (s.setGen gi .running).gens[gi]? = some .running := setGen_self hgi.1
    have hgi1 : s₁.gens[gi]? = some .running := mv.gens gi _ hoff run
    have key2 : ∀ b, b ∈ ks own2 → b ∈ ks own₀ ∨ s₀.heap.get? b = none := fun b hb => by
      obtain ⟨p, hp, rfl⟩ := List.mem_map.mp hb; exact (Md.at' p (List.mem_append.mpr (.inr hp))).2
    have offB : ∀ b o, gB.get? b = some o → b ∉ ks own2 := fun b o e hm => by
      obtain ⟨p, hp, rfl⟩ := List.mem_map.mp hm
      rw [Md.off p (List.mem_append.mpr (.inr hp))] at e; cases e
    have hB1 : Sub gB s₁.heap := fun b o e => mv.keep b o (offB b o e) (Md.base b o e)
    obtain ⟨j, j1, j2, j3, j4⟩ := join hB1 hN1
    have hoff' : gi ∉ gks gow' := fun hm => by
      obtain ⟨q, hq, e⟩ := List.mem_map.mp hm
      rcases (hgw q hq).2 with h | h
      · exact hoff (e ▸ h)
      · have h1 : (s.setGen gi GenState.running).gens[q.1]? = none := h
        rw [e, run] at h1; cases h1
    refine h v own' gow' _ _ ⟨⟨fun b o hb e => ?_, fun i x hi e => ?_, fun hb => bare_set (End.bare_of_quiet hq) (mv.bare (bare_set rfl (Md.mv.bare hb))), mv.os.trans Md.mv.os⟩, fun p hp => ?_, ?_, hB1, fun p hp => ?_, fun q hq => ?_⟩ hoff' hgo (hP _ _ _ (hPv j j1 j2))
    · refine mv.keep b o (fun hm => ?_) (Md.mv.keep b o hb e)
      rcases key2 b hm with h' | h'
      · exact hb h'
      · rw [h'] at e; cases e
    · have hne : i ≠ gi := fun q => by
        rcases hgi.2 with h' | h'
        · exact hi (q ▸ h')
        · rw [← q] at h'; rw [h'] at e; cases e
      rw [setGen_other hne]
      refine mv.gens i x (fun hm => ?_) ((setGen_other hne).trans (Md.mv.gens i x hi e))
      obtain ⟨q, hq, rfl⟩ := List.mem_map.mp hm
      rcases (Md.gow q (.tail _ hq)).2 with h' | h'
      · exact hi h'
      · rw [h'] at e; cases e
    · rcases List.mem_append.mp hp with hp | hp
      · have z := Md.at' p (List.mem_append.mpr (.inl hp))
        exact ⟨mv.keep _ _ (fun hm => nd.2.2 _ (List.mem_map.mpr ⟨p, hp, rfl⟩) _ hm rfl) z.1, z.2⟩
      · have z := ok.at' p hp
        refine ⟨z.1, ?_⟩
        rcases z.2 with h' | h'
        · exact key2 _ h'
        · exact Md.back h'
    · rw [ks, List.map_append]
      refine List.nodup_append.mpr ⟨nd.1, ok.nd, fun x hx y hy e => ?_⟩
      obtain ⟨p, hp, rfl⟩ := List.mem_map.mp hy
      rcases (ok.at' p hp).2 with h' | h'
      · exact nd.2.2 _ hx _ h' e
      · obtain ⟨q, hq, e'⟩ := List.mem_map.mp hx
        have z := (Md.at' q (List.mem_append.mpr (.inl hq))).1
        have h'' : s.heap.get? p.1 = none := h'
        rw [e', e, h''] at z; cases z
    · rcases List.mem_append.mp hp with hp | hp
      · exact Md.off p (List.mem_append.mpr (.inl hp))
      · refine none_of fun o e => ?_
        rcases (ok.at' p hp).2 with h' | h'
        · exact offB _ _ e h'
        · have h'' : s.heap.get? p.1 = none := h'
          rw [Md.base _ _ e] at h''; cases h''
    · rcases List.mem_cons.mp hq with rfl | hq
      · exact ⟨setGen_self hgi1, hgi.2⟩
      · have hne : q.1 ≠ gi := fun e => hoff' (e ▸ List.mem_map.mpr ⟨q, hq, rfl⟩)
        refine ⟨by rw [setGen_other hne]; exact (hgw q hq).1, ?_⟩
        rcases (hgw q hq).2 with h | h
        · obtain ⟨q', hq', e⟩ := List.mem_map.mp h
          exact e ▸ (Md.gow q' (.tail _ hq')).2
        · have h1 : (s.setGen gi GenState.running).gens[q.1]? = none := h
          rw [setGen_other hne] at h1
          exact Md.backG h1
theorem midDone {a : Addr} {gi : Nat} {gs : GenState} {Q : Option Value → Shared → Prop} (hh : A.handled = none) (hd : A.depth + 1 ≤ B2.d) (hu : A.units + 12 ≤ B2.u) (G : Amb w mg mb gB)
    (Md : Mid gB own₀ gow₀ s₀ (ownA ++ own2) ((gi, gs) :: gow2) s) (hg : s.heap.IsGen a gi) (hoff : gi ∉ gks gow2) (H : Go B2 w gB P (fun _ => True) 0 own2 gow2 gs)
    (h : ∀ s', Mid gB own₀ gow₀ s₀ ownA [] s' → Q none s') : wpAny (model prg w) A (pyNext (.ref a)) Q E s := by
  have nd := List.nodup_append.mp (by simpa only [List.map_append] using Md.nd)
  have good : Good gB own2 gow2 (s.setGen gi .running) := ⟨Md.base, fun p hp => (Md.at' p (List.mem_append.mpr (.inr hp))).1, fun q hq => by
    have hne : q.1 ≠ gi := fun e => hoff (e ▸ List.mem_map.mpr ⟨q, hq, rfl⟩)
    rw [setGen_other hne]; exact (Md.gow q (.tail _ hq)).1⟩
  have hgi := Md.gow _ (.head _)
  refine pyNext1 hh hd hu (G.keeps Md.base).T.nolimit hg hgi.1 (H.2 _ good) fun e s₁ he => ?_
  obtain ⟨mv, he⟩ := he
  cases e with
  | susp v gd lv k c p fs => exact he.elim
  | ret r =>
    obtain ⟨hr, own', ok⟩ := he
    refine ⟨hr, fun h' hk => ?_⟩
    have key2 : ∀ b, b ∈ ks own2 → b ∈ ks own₀ ∨ s₀.heap.get? b = none := fun b hb => by
      obtain ⟨p, hp, rfl⟩ := List.mem_map.mp hb; exact (Md.at' p (List.mem_append.mpr (.inr hp))).2
    have offB : ∀ b o, gB.get? b = some o → b ∉ ks own2 := fun b o e hm => by
      obtain ⟨p, hp, rfl⟩ := List.mem_map.mp hm
      rw [Md.off p (List.mem_append.mpr (.inr hp))] at e; cases e
    refine h _ ⟨⟨fun b o hb e => ?_, fun i x hi e => ?_, fun hb => bare_set rfl (mv.bare (bare_set rfl (Md.mv.bare hb))), mv.os.trans Md.mv.os⟩, fun p hp => ?_, nd.1, fun b o e => hk b o (mv.keep b o (offB b o e) (Md.base b o e)), fun p hp => Md.off p (List.mem_append.mpr (.inl hp)), fun q hq => nomatch hq⟩
    · refine hk b o (mv.keep b o (fun hm => ?_) (Md.mv.keep b o hb e))
      rcases key2 b hm with h' | h'
      · exact hb h'
      · rw [h'] at e; cases e
    · have hne : i ≠ gi := fun q => by
        rcases hgi.2 with h' | h'
        · exact hi (q ▸ h')
        · rw [← q] at h'; rw [h'] at e; cases e
      show (s₁.setGen gi .finished).gens[i]? = some x
      rw [setGen_other hne]
      refine mv.gens i x (fun hm => ?_) ((setGen_other hne).trans (Md.mv.gens i x hi e))
      obtain ⟨q, hq, rfl⟩ := List.mem_map.mp hm
      rcases (Md.gow q (.tail _ hq)).2 with h' | h'
      · exact hi h'
      · rw [h'] at e; cases e
    · have z := Md.at' p (List.mem_append.mpr (.inl hp))
      exact ⟨hk _ _ (mv.keep _ _ (fun hm => nd.2.2 _ (List.mem_map.mpr ⟨p, hp, rfl⟩) _ hm rfl) z.1), z.2⟩
noncomputable def PhiM (B : Lvl) (w : World) (gB : Heap) (P : Nat → Heap → Value → Prop) (own₀ : List (Addr × Obj)) (gow₀ : List (Nat × GenState)) (s₀ : Shared) (l : Nat) (e : End) (s' : Shared) : Prop :=
  Moves own₀ gow₀ s₀ s' ∧ match l, e with
    | 0, .ret r => (r = .ok .next ∨ r = .ok (.ret .none)) ∧ ∃ own', OwnOk (fun _ => True) own₀ s₀ own' s'
    | 0, .susp .. => False
    | _ + 1, .ret _ => False
    | l + 1, .susp v gd lv kk c p fs => (End.susp v gd lv kk c p fs).quiet = true ∧ Yields (Go B w gB P (fun _ => True) l) gB (P l) (fun _ => True) own₀ gow₀ s₀ v (End.susp v gd lv kk c p fs).genState s'
theorem go_of {l : Nat} {gs : GenState} (hb : gs.bare = true) (h : ∀ s, Good gB own gow s → Goes1 B (model prg w) (PhiM B w gB P own gow s l) gs s) : Go B w gB P (fun _ => True) l own gow gs := by
  cases l with
  | zero => exact ⟨hb, fun s good => (h s good).imp fun e s' h => by cases e <;> exact h⟩
  | succ l => exact ⟨hb, fun s good => (h s good).imp fun e s' h => by cases e <;> exact h⟩
theorem Mid.yields {l : Nat} {v : Value} {gd lv k c p fs} (h : Mid gB own₀ gow₀ s₀ own gow s) (hq : (End.susp v gd lv k c p fs).quiet = true) (hP : ∀ gA, Sub gB gA → P l gA v)
    (go : ∀ s'', Good gB own gow s'' → Seg1 B (model prg w) (PhiM B w gB P own gow s'' l) c (k (.send .none)) fs s'') : PhiM B w gB P own₀ gow₀ s₀ (l + 1) (.susp v gd lv k c p fs) s := by
  refine ⟨h.mv, hq, own, gow, restrict gB fun _ => false, ⟨trivial, h.at', h.nd⟩, fun b o e => h.base b o (restrict_some.mp e).1, fun b o e => ?_, fun p hp => ?_, fun gA h1 _ => hP gA h1, h.gow, ?_⟩
  · have := (restrict_some.mp e).2; cases this
  · refine none_of fun o e => ?_
    have := (restrict_some.mp e).2; cases this
  · exact go_of (End.bare_of_quiet hq) fun s'' good => go s'' good
end
end Mine
namespace Mine
mutual
noncomputable def T.inner : T → List T
  | .leaf _ => []
  | .node lab cs => .node lab cs :: T.innerL cs
noncomputable def T.innerL : List T → List T
  | [] => []
  | t :: ts => t.inner ++ T.innerL ts
end
noncomputable def PS (gB : Heap) (R : List T) (l : Nat) (g : Heap) (v : Value) : Prop := ∃ lab cs bs, R.reverse[l]? = some (.node lab cs) ∧ IsT gB v (.node lab cs) bs
theorem PS.inside {gB : Heap} {R2 pre post : List T} {l : Nat} {g g' : Heap} {v : Value} (h : PS gB R2 l g v) : PS gB (pre ++ (R2 ++ post)) (l + post.length) g' v := by
  obtain ⟨lab, cs, bs, h1, h2⟩ := h
  refine ⟨lab, cs, bs, ?_, h2⟩
  have hl := (List.getElem?_eq_some_iff.mp h1).1
  rw [List.reverse_append, List.reverse_append, List.getElem?_append_left (by rw [List.length_append, List.length_reverse (as := post)]; omega), List.getElem?_append_right (by rw [List.length_reverse]; omega), List.length_reverse, Nat.add_sub_cancel]
  exact h1
section
variable {B B2 : Lvl} {w : World} {mg mb : Str → Option Value} {M : Model} {A : Around} {E : Value → Shared → Prop} {X : List Addr} {g₀ g gB : Heap} {s₀ s : Shared} {L C : Addr} {m : Str → Option Value} {ow : List (Addr × Obj)} {env : Env} {P P2 : Nat → Heap → Value → Prop} {fs : List Frame}
theorem enterGen {f : Addr} {args : Args} {Q : Value → Shared → Prop} {name qual : Str} {params : Arguments} {body : List Stmt} {scope : Scope} {dV kV doc pm cdv ct oc : Value} {an od : Option Addr} {osl : Array (Option Value)} {binds : List (Str × Value)}
    (G : Amb w mg mb g) (S : St X g₀ s₀ L g s m ow) (hr : A.depth < recursionLimit)
    (ho : (Mine.hd.heap_1 w.params).lookup f = some ⟨oc, od, .func (fnOf name qual params body scope dV kV doc pm an cdv ct), osl⟩) (hcd : codeIn (Mine.hd.heap_1 w.params) cdv qual = true)
    (hbind : BindsTo s (fnOf name qual params body scope dV kV doc pm an cdv ct) args binds) (hloc : ∀ y ∈ binds, scope.names.lookup y.1 = some .local)
    (h : ∀ a C oa oC s', St X g₀ s₀ L g s' m ((a, oa) :: (C, oC) :: ow) → (∀ h : Heap, h.get? C = some oC → h.Ns C (fun y => binds.reverse.lookup y)) → 353 ≤ C → (∀ h : Heap, h.get? a = some oa → h.IsGen a s.gens.size) →
      s'.gens[s.gens.size]? = some (.fresh (.func body (envOf qual scope C f cdv))) → s₀.gens[s.gens.size]? = none → Q (.ref a) s')
    (hco : scope.isCoroutine = false) (hgen : scope.isGenerator = true) (hk : scope.kind = .function) (hcell : ∀ x ∈ scope.names, x.2 ≠ .cell) : codeAny (model prg w) A (.call (.ref f) args) (fun r s' => match r with | .ok (.ret v) => Q v s' | _ => False) s := by
  have G' := G.keeps S.in_
  refine codeAny_call_generator (fd := fnOf name qual params body scope dV kV doc pm an cdv ct) (body := body) hr (G'.K _ _ ho) rfl hco hgen rfl (codeRec_of G'.K hcd) (hbind _ _ _ _ ?_)
  refine wpAny_newFunctionEnv hcell hloc (fun h₀ hns₀ hsb₀ => ?_) hk
  refine ⟨G'.T.nolimit.fresh _ hsb₀, ?_⟩
  have S₁ := S.push { cls := .type "frame", data := .dict #[] }
  obtain ⟨oC, hoC, hnC⟩ := ns_obj (s := { s with heap := h₀ }) hns₀
  have S₂ := St.upd (pre := []) S₁ hsb₀ hoC
  have S₃ := (S₂.toks (s.toks + binds.length)).pushGen (x := .fresh (.func body (envOf qual scope s.heap.objs.size f cdv))) rfl
  have S₄ := (S₃.toks (s.toks + binds.length + 1 + 1)).push { cls := .type "generator", data := .fields #[.int s.gens.size 0, .str name (s.toks + binds.length), .str qual (s.toks + binds.length + 1)] }
  have hgn : s₀.gens[s.gens.size]? = none := by
    cases e : s₀.gens[s.gens.size]? with
    | none => rfl
    | some x => have h2 := S.grow.gens _ _ e; have := (Array.getElem?_eq_some_iff.mp h2).1; exact absurd this (Nat.lt_irrefl _)
  exact h _ _ _ oC _ S₄ hnC (Amb.lo G') (fun hh e => ⟨_, _, _, e, rfl, rfl, rfl⟩) (Array.getElem?_push_size ..) hgn
end
end Mine
namespace Mine
section
variable {B B2 : Lvl} {w : World} {mg mb : Str → Option Value} {M : Model} {A : Around} {E : Value → Shared → Prop} {X : List Addr} {g₀ g gB : Heap} {s₀ s : Shared} {L C : Addr} {m : Str → Option Value} {ow : List (Addr × Obj)} {env : Env} {P P2 : Nat → Heap → Value → Prop} {fs : List Frame}
theorem sub_inner {x : Str} {p1 p2 p3 p4 : PySem.Pos} {I a : Addr} {oI oa : Obj} {gi l : Nat} (G : Amb w mg mb gB) (hlo : 353 ≤ C) (hL : env.locals = C) (hsc : env.scope.kind = .function) (hx : env.kindOf x = some .local) (hdb : (x == ("__debug__" : Str)) = false) (hco : env.scope.isCoroutine = false) (hi : interactive env = false)
    (hga : ∀ h : Heap, h.get? a = some oa → h.IsGen a gi) (hfs : splitAtGen fs = none) (hfg : fs.any Frame.guarded = false)
    (hh : (B.A.over (.forLoop (.Name x p1) (.ref a) [.Expr (.Yield (some (.Name x p2)) p3) p4] [] env) fs).handled = none)
    (hd : (B.A.over (.forLoop (.Name x p1) (.ref a) [.Expr (.Yield (some (.Name x p2)) p3) p4] [] env) fs).depth + 1 ≤ B2.d)
    (hu : (B.A.over (.forLoop (.Name x p1) (.ref a) [.Expr (.Yield (some (.Name x p2)) p3) p4] [] env) fs).units + 12 ≤ B2.u)
    (hP2 : ∀ l g h v, P2 l g v → P2 l h v) (hP : ∀ l' v gA, P2 l' gB v → P (l' + l) gA v)
    (kont : ∀ own₀ gow₀ s₀ s m oC, Mid gB own₀ gow₀ s₀ [(C, oC), (I, oI)] [] s → (∀ h : Heap, h.get? C = some oC → h.Ns C m) → Seg1 B (model prg w) (PhiM B w gB P own₀ gow₀ s₀ l) (.block [] env) (leafOf (.ok .next)) fs s) :
    ∀ (l2 : Nat) (own2 : List (Addr × Obj)) (gow2 : List (Nat × GenState)) (gs : GenState) (own₀ : List (Addr × Obj)) (gow₀ : List (Nat × GenState)) (s₀ s : Shared) (m : Str → Option Value) (oC : Obj),
      Mid gB own₀ gow₀ s₀ ([(C, oC), (I, oI), (a, oa)] ++ own2) ((gi, gs) :: gow2) s → (∀ h : Heap, h.get? C = some oC → h.Ns C m) → gi ∉ gks gow2 → Go B2 w gB P2 (fun _ => True) l2 own2 gow2 gs →
      Seg1 B (model prg w) (PhiM B w gB P own₀ gow₀ s₀ (l2 + l)) (.forLoop (.Name x p1) (.ref a) [.Expr (.Yield (some (.Name x p2)) p3) p4] [] env)
        ((model prg w).den (.forLoop (.Name x p1) (.ref a) [.Expr (.Yield (some (.Name x p2)) p3) p4] [] env)) fs s := by
  intro l2
  induction l2 with
  | zero =>
    intro own2 gow2 gs own₀ gow₀ s₀ s m oC Md hn hoff H
    rw [Nat.zero_add]
    refine s1_forLoop (midDone hh hd hu G Md (hga _ (Md.at' (a, oa) (by simp)).1) hoff H fun s' Md' => ?_)
    refine kont own₀ gow₀ s₀ s' m oC (Md'.drops (by intro p hp; simp at hp ⊢; rcases hp with h | h <;> simp [h]) ?_ fun q hq => nomatch hq) hn
    have := Md'.nd
    simp only [List.map_cons, List.map_nil, List.nodup_cons, List.mem_cons, List.not_mem_nil, or_false, not_or] at this ⊢
    exact ⟨this.1.1, by simp⟩
  | succ l2 ih =>
    intro own2 gow2 gs own₀ gow₀ s₀ s m oC Md hn hoff H
    rw [show l2 + 1 + l = (l2 + l) + 1 by omega]
    refine s1_forLoop (midItem hh hd hu G Md (hga _ (Md.at' (a, oa) (by simp)).1) hoff H (fun l g v h => hP2 l g gB v h) fun v own2' gow2' gs' s' Md' hoff' H' hPv => ?_)
    refine wpAny_pure ?_
    have S := Mid.st (rest := [(I, oI), (a, oa)] ++ own2') Md' (hn _ (Md'.at' (C, oC) (by simp)).1) hlo
    refine wpAny_assign_Name (stL S (fun s₂ S₂ => ?_) hL hsc hx)
    obtain ⟨oC', Md₂, hn₂⟩ := Mid.piece (rest := [(I, oI), (a, oa)] ++ own2') Md' S₂
    intro K H gd lv hgd hK
    refine s1_execs_cons fun K1 hK1 => s1_ExprYield hfs hgd hfg (nmL S₂ (v := v) (by simp [upd]) (fun g l' k p hk hq => ?_) hL hsc hx hdb) hco hi
    refine Md₂.yields hq (fun gA _ => hP _ _ _ hPv) fun s'' good => hk _ s'' ?_
    rw [hK1]
    exact hK _ _ (ih own2' gow2' gs' _ _ s'' s'' _ oC' (Mid.refl good Md₂.nd Md₂.off) hn₂ hoff' H')
end
end Mine
namespace Mine
theorem dropCons {α : Type} {cs : List α} {i : Nat} {t : α} (h : cs[i]? = some t) : cs.drop i = t :: cs.drop (i + 1) := by
  obtain ⟨hl, e⟩ := List.getElem?_eq_some_iff.mp h
  rw [List.drop_eq_getElem_cons hl, e]
theorem innerL_append : ∀ (a b : List T), T.innerL (a ++ b) = T.innerL a ++ T.innerL b
  | [], b => by simp [T.innerL]
  | t :: ts, b => by rw [List.cons_append, T.innerL, T.innerL, innerL_append ts b, List.append_assoc]
theorem innerL_split {cs : List T} {i : Nat} {t : T} (h : cs[i]? = some t) : T.innerL cs = T.innerL (cs.take i) ++ (t.inner ++ T.innerL (cs.drop (i + 1))) := by
  conv => lhs; rw [← List.take_append_drop i cs, innerL_append, dropCons h, T.innerL]
section
variable {B B2 : Lvl} {w : World} {mg mb : Str → Option Value} {M : Model} {A : Around} {E : Value → Shared → Prop} {X : List Addr} {g₀ g gB : Heap} {s₀ s : Shared} {L C I : Addr} {m : Str → Option Value} {ow own₀ own : List (Addr × Obj)} {gow₀ gow : List (Nat × GenState)} {env : Env} {P P2 : Nat → Heap → Value → Prop} {fs : List Frame}
theorem Mid.perm {own' : List (Addr × Obj)} (h : Mid gB own₀ gow₀ s₀ own gow s) (p : own'.Perm own) : Mid gB own₀ gow₀ s₀ own' gow s :=
  h.drops (fun q hq => p.mem_iff.mp hq) ((p.map (fun q => q.1)).nodup_iff.mpr h.nd) fun _ hq => hq
theorem Mid.addG {gi : Nat} {gs : GenState} (h : Mid gB own₀ gow₀ s₀ own [] s) (e : s.gens[gi]? = some gs) (e0 : gi ∈ gks gow₀ ∨ s₀.gens[gi]? = none) : Mid gB own₀ gow₀ s₀ own [(gi, gs)] s :=
  ⟨h.mv, h.at', h.nd, h.base, h.off, fun q hq => by rw [List.mem_singleton.mp hq]; exact ⟨e, e0⟩⟩
noncomputable def SubS (w : World) (mg mb : Str → Option Value) (n : Nat) : Prop := ∀ (lab : Sym) (cs : List T), (T.node lab cs).Small n → ∀ (B : Lvl) (gB : Heap), B.d + 6 * n ≤ 980 → Amb w mg mb gB → ∀ (v : Value) (as : List Addr), IsT gB v (.node lab cs) as →
  ∀ (A : Around) (E : Value → Shared → Prop) (X : List Addr) (g₀ g : Heap) (s₀ : Shared) (L : Addr) (s : Shared) (m : Str → Option Value) (ow : List (Addr × Obj)) (Q : Value → Shared → Prop), A.depth < recursionLimit → Sub gB g → St X g₀ s₀ L g s m ow →
    (∀ a C oa oC gs s', St X g₀ s₀ L g s' m ((a, oa) :: (C, oC) :: ow) → (∀ h : Heap, h.get? a = some oa → h.IsGen a s.gens.size) → s'.gens[s.gens.size]? = some gs → s₀.gens[s.gens.size]? = none →
      Go B w gB (PS gB (T.node lab cs).inner) (fun _ => True) (T.node lab cs).inner.length [(C, oC)] [] gs → Q (.ref a) s') → wpAny (model prg w) A (call (.ref 238) [v]) Q E s
theorem permS {α : Type} (C a C2 I : α) : ([C, I, a] ++ [C2]).Perm (C :: a :: C2 :: [I]) := permL [[C], [I], [a], [C2]] (is := [0, 1, 2, 3]) (js := [0, 2, 3, 1]) (by decide)
theorem sub_outer {n : Nat} (ih : SubS w mg mb n) {lab : Sym} {cs : List T} (hn : (T.node lab cs).Small (n + 1)) (hB : B.d + 6 * (n + 1) ≤ 980) (G : Amb w mg mb gB) {l : Addr} {vs : List Value} {k : Nat} {as' : List Addr} (hl : gB.get? l = some (W.listOf vs.toArray k)) (hcs : IsTs gB vs cs as')
    (hlo : 353 ≤ C) (hL : env.locals = C) (hsc : env.scope.kind = .function) (hx1 : env.kindOf "child" = some .local) (hx2 : env.kindOf "subtree" = some .local) (hco : env.scope.isCoroutine = false) (hi : interactive env = false)
    (hg : env.globals = mainGlobals) (hb : env.builtins = builtinsNs) (hx3 : env.kindOf "isinstance" = some .globalImplicit) (hx4 : env.kindOf "Tree" = some .globalImplicit)
    {q1 q2 q3 q4 q5 q6 q7 q8 q9 q10 q11 q12 q13 q14 p0 : PySem.Pos} {k0 : Result → Sem Fin} {b0 : Bool} (hb0 : b0 = false) {l0 : List Value} {bd : List Stmt} {pl : Sem Bool}
    (he : eval (.Call (.Attribute (.Name "child" q7) "subtrees" q8) [] [] q9) env = (do
      let ov ← eval (.Name "child" q7) env
      standAt q8.atName
      let (f, first) ← holding [ov] (getMethod ov "subtrees" pl)
      callWith q9 f first (backTo q9 (starEach [] env)) (backToKw q9 (keywordEach [] env))))
    {R pre : List T} (hR : R = pre ++ T.innerL cs)
    (fin : ∀ own₀ gow₀ s₀ s own gow, Mid gB own₀ gow₀ s₀ own gow s → Seg1 B (model prg w) (PhiM B w gB (PS gB R) own₀ gow₀ s₀ 0) (.block [] env) (leafOf (.ok .next)) [.ret k0 none b0 l0 (.func bd env) p0 []] s) :
    ∀ (j i : Nat), cs.length - i = j → i ≤ cs.length → ∀ (own₀ : List (Addr × Obj)) (gow₀ : List (Nat × GenState)) (s₀ s : Shared) (m : Str → Option Value) (oC oI : Obj), Mid gB own₀ gow₀ s₀ [(C, oC), (I, oI)] [] s → (∀ h : Heap, h.get? C = some oC → h.Ns C m) → (∀ h : Heap, h.get? I = some oI → h.IsListIter I l i) →
      Seg1 B (model prg w) (PhiM B w gB (PS gB R) own₀ gow₀ s₀ (T.innerL (cs.drop i)).length)
        (.forLoop (.Name "child" q1) (.ref I) [.If (.Call (.Name "isinstance" q2) [.Name "child" q3, .Name "Tree" q4] [] q5) [.For (.Name "subtree" q6) (.Call (.Attribute (.Name "child" q7) "subtrees" q8) [] [] q9) [.Expr (.Yield (some (.Name "subtree" q10)) q11) q12] [] q13] [] q14] [] env)
        ((model prg w).den (.forLoop (.Name "child" q1) (.ref I) [.If (.Call (.Name "isinstance" q2) [.Name "child" q3, .Name "Tree" q4] [] q5) [.For (.Name "subtree" q6) (.Call (.Attribute (.Name "child" q7) "subtrees" q8) [] [] q9) [.Expr (.Yield (some (.Name "subtree" q10)) q11) q12] [] q13] [] q14] [] env)) [.ret k0 none b0 l0 (.func bd env) p0 []] s := by
  subst hb0
  intro j
  induction j with
  | zero =>
    intro i hj hi' own₀ gow₀ s₀ s m oC oI Md hnC hnI
    have hin : i = cs.length := by omega
    subst hin
    rw [List.drop_length, T.innerL]
    have S := Mid.st (rest := [(I, oI)]) Md (hnC _ (Md.at' (C, oC) (by simp)).1) hlo
    refine s1_forLoop (endL (I := I) (it := [(I, oI)]) (ex := []) rfl (isList_of hl) ⟨oI, rfl, by rw [hcs.length]; exact hnI⟩ (by simp) S fun s₁ S₁ => ?_)
    obtain ⟨oC', Md', _⟩ := Mid.piece (rest := [(I, oI)]) Md S₁
    exact fin _ _ _ _ _ _ Md'
  | succ j IH =>
    intro i hj hi' own₀ gow₀ s₀ s m oC oI Md hnC hnI
    have S := Mid.st (rest := [(I, oI)]) Md (hnC _ (Md.at' (C, oC) (by simp)).1) hlo
    refine s1_forLoop (nextL (I := I) (it := [(I, oI)]) (ex := []) rfl (isList_of hl) (by rw [hcs.length]; omega) ⟨oI, rfl, hnI⟩ (by simp) S fun v it' s₁ hv hit hkit S₁ => ?_)
    obtain ⟨oI', rfl, hnI'⟩ := hit
    have S₁ : St [] gB (virt s (C :: ks [(I, oI)])) C gB s₁ m [(I, oI')] := S₁
    obtain ⟨t, bs, ht, hvt⟩ := hcs.get i v hv
    refine wpAny_pure (wpAny_assign_Name (stL S₁ (fun s₂ S₂ => ?_) hL hsc hx1))
    try (show wpAny _ _ _ _ _ _; k_fold)
    intro K H gd lv hgd hK
    refine s1_execs_cons fun K1 hK1 => s1_If (tIsiT G S₂ (nmL S₂ (v := v) (by simp [upd]) ⟨_, S₂, ?_⟩ hL hsc hx1) hg hb hsc hx3 hx4)
    rw [dropCons ht, T.innerL, List.length_append]
    cases hvt with
    | leaf y yu =>
      refine isiT_leaf G S₂ (fun s₃ S₃ => ⟨_, rfl, itF ?_⟩)
      rw [hK1, T.inner, List.length_nil, Nat.zero_add]
      obtain ⟨oC', Md', hnC'⟩ := Mid.piece (rest := [(I, oI)]) Md S₃
      exact s1_execs_nil (hK _ _ (IH (i + 1) (by omega) (by omega) _ _ _ _ _ oC' oI' Md' hnC' hnI'))
    | @node x dx l1 d1 d2 t1 t2 tk n1 k1 lab1 vs1 cs1 as1 a1 a2 a3 a4 =>
      refine isiT_node G S₂ (instT S₂.in_ a1 a2) (fun s₃ S₃ => ⟨_, rfl, itT ?_⟩)
      refine s1_execs_cons fun K2 hK2 => s1_For ?_
      refine meCall0 (a := 238) (K := Mine.hd.heap_1 w.params) (nmL S₃ (v := .ref x) (by simp [upd]) (methT G S₃ (instT S₃.in_ a1 a2) (by k_is) (by k_is) (by rfl) ⟨rfl, (G.keeps S₃.in_).K, ?_⟩) hL hsc hx1) (by k_is) he
      refine ih lab1 cs1 (hn.kid ht) ⟨B.d + 6, B.u + 60, by omega⟩ gB (by show B.d + 6 + 6 * n ≤ 980; omega) G (.ref x) _ (.node a1 a2 a3 a4) _ _ _ _ _ _ _ _ _ _ _ (by show B.d + 1 + 0 < 1000; omega) (.refl _) S₃ fun a C2 oa oC2 gs s₄ S₄ hga hgs hg0 hgo => ?_
      refine wpAny_pyIter_gen (hga _ (S₄.own _ (.head _)).1) ?_
      intro kf lf pf hkf
      obtain ⟨oC', Md', hnC'⟩ := Mid.piece (rest := [(I, oI)]) Md S₄
      have Md' := (Md'.addG hgs (Md.backG hg0)).perm (own' := [(C, oC'), (I, oI'), (a, oa)] ++ [(C2, oC2)]) (permS ..)
      refine sub_inner (B2 := ⟨B.d + 6, B.u + 60, by omega⟩) (P2 := PS gB (T.node lab1 cs1).inner) G hlo hL hsc hx2 (by decide) hco hi hga rfl (by simp [Frame.guarded, hgd]) rfl (by show B.d + 1 + 0 + 1 ≤ B.d + 6; omega) ?_ (fun l g h v x => x) (fun l' v gA hp => ?_) (fun own₀ gow₀ s₀ s m oC Md hn => ?_)
        _ [(C2, oC2)] [] gs own₀ gow₀ s₀ s₄ _ oC' Md' hnC' (by simp) hgo
      · show B.u + (0 + (3 + 0)) + 0 + 12 ≤ B.u + 60; omega
      · rw [hR, innerL_split ht, ← List.append_assoc]
        exact PS.inside hp
      · refine s1_leaf _ (hkf _ _ ?_)
        rw [hK2]
        refine s1_execs_nil ?_
        rw [hK1]
        exact s1_execs_nil (hK _ _ (IH (i + 1) (by omega) (by omega) _ _ _ _ _ oC oI' Md hn hnI'))
end
end Mine
namespace Mine
section
variable {w : World} {mg mb : Str → Option Value}
theorem sub_spec : ∀ n, SubS w mg mb n := by
  intro n
  induction n with
  | zero => intro lab cs h; exact h.zero.elim
  | succ n ih =>
    intro lab cs hn B gB hB G v as hT A E X g₀ g s₀ L s m ow Q hA hBg S h
    cases hT with
    | @node x dx l d1 d2 t1 t2 tk n' k _ vs _ as' hx hd hl hcs =>
    have Gg := G.keeps hBg
    refine wpAny_call (codeAny_mono (R := fun r s' => match r with | .ok (.ret v) => Q v s' | _ => False) ?_ ?_)
    rotate_left
    · intro r s' hr
      match r, hr with
      | .ok (.ret v), hr => exact hr
    refine enterGen (Q := Q) Gg S hA (by k_is) (by k_is) (BindsTo.of_eq rfl) (locs rfl) (fun a C oa oC s' S' hnC hlo hga hgs hg0 => ?_) rfl rfl rfl (by decide)
    refine h a C oa oC _ s' S' hga hgs hg0 ?_
    have hCB : gB.get? C = none := none_of fun o e => by
      have := (S'.own _ (.tail _ (.head _))).2.2.1
      dsimp only at this
      rw [hBg _ _ e] at this; cases this
    rw [T.inner, List.length_cons]
    refine go_of rfl fun s good => ?_
    refine s1_func fun K H gd lv hgd hK => ?_
    have Md : Mid gB _ _ s [(C, oC)] [] s := Mid.refl good (by simp) (by simpa using hCB)
    have S := Mid.st (rest := []) Md (hnC _ (good.own _ (.head _))) hlo
    refine s1_execs_cons fun K1 hK1 => s1_ExprYield rfl hgd rfl ?_
    refine nmL S (v := .ref x) rfl fun g l' k' p hk hq => Md.yields hq (fun gA _ => ⟨lab, cs, _, by simp, .node hx hd hl hcs⟩) fun s₂ good₂ => hk _ s₂ ?_
    rw [hK1]
    have Md₂ : Mid gB _ _ s₂ [(C, oC)] [] s₂ := Mid.refl good₂ (by simp) (by simpa using hCB)
    have S₂ := Mid.st (rest := []) Md₂ (hnC _ (good₂.own _ (.head _))) hlo
    refine s1_execs_cons fun K2 hK2 => s1_For (Attribute_name (nmL S₂ (v := .ref x) rfl (getChildren G S₂ hx hd fun s₃ S₃ => wpAny_pyIter_list (isList_of (S₃.in_ _ _ hl)) ?_)))
    have S₄ := S₃.push { cls := .type "list_iterator", data := .fields #[.ref l, .int 0 0] }
    generalize s₃.heap.objs.size = I at *
    obtain ⟨oC', Md₄, hnC'⟩ := Mid.piece (rest := []) Md₂ S₄
    intro kf lf pf hkf
    have e0 : T.innerL cs = T.innerL (cs.drop 0) := rfl
    rw [e0]
    refine sub_outer ih hn hB G hl hcs hlo rfl rfl rfl rfl rfl rfl rfl rfl rfl rfl hgd rfl (pre := [.node lab cs]) rfl (fun own₀ gow₀ s₀ s own gow Md => ?_) cs.length 0 (Nat.sub_zero _) (Nat.zero_le _) _ _ _ _ _ oC' _ Md₄ hnC' (fun h e => ⟨_, e, rfl, rfl⟩)
    refine s1_leaf _ (hkf _ _ ?_)
    rw [hK2]
    exact s1_execs_nil (hK _ _ (s1_end _ ⟨Md.mv, .inr rfl, [], trivial, (fun _ h => nomatch h), List.nodup_nil⟩))
end
end Mine
namespace Mine
section
variable {B : Lvl} {w : World} {mg mb : Str → Option Value} {M : Model} {A : Around} {E : Value → Shared → Prop} {X : List Addr} {g₀ g : Heap} {s₀ s : Shared} {L C : Addr} {m mC : Str → Option Value} {ow : List (Addr × Obj)} {env : Env} {gB : Heap} {P : Nat → Heap → Value → Prop} {K : List (Addr × Obj) → Prop}
theorem St.into {oC : Obj} (S : St X g₀ s₀ L g s m ((C, oC) :: ow)) (hCX : C ∉ X) (hn : s.heap.Ns C mC) (hlo : 353 ≤ C) : ∃ oL, (∀ h : Heap, h.get? L = some oL → h.Ns L m) ∧ St X g₀ s₀ C g s mC ((L, oL) :: ow) := by
  obtain ⟨oL, hL, hnL⟩ := ns_obj S.ns
  have zC := S.own _ (.head _)
  have nd := List.nodup_cons.mp S.nd
  refine ⟨oL, hnL, S.grow, hn, zC.2.2.1, zC.2.2.2.resolve_left hCX, fun p hp => ?_, List.nodup_cons.mpr ⟨fun hm => ?_, nd.2⟩, S.xin, hlo⟩
  · rcases List.mem_cons.mp hp with rfl | hp
    · exact ⟨hL, fun e => zC.2.1 e.symm, S.offL, .inr S.newL⟩
    · have z := S.own p (.tail _ hp)
      exact ⟨z.1, fun e => nd.1 (by rw [← e]; exact List.mem_map.mpr ⟨p, hp, rfl⟩), z.2.2⟩
  · obtain ⟨p, hp, e⟩ := List.mem_map.mp hm
    exact (S.own p (.tail _ hp)).2.1 e
theorem Held.gensOf {a : Addr} {gi l : Nat} {own : List (Addr × Obj)} {gow : List (Nat × GenState)} {gs : GenState} {g' : Heap} {s' : Shared} (H : Held B w gB P K a gi s₀ g s l own gow gs) (k : Sub g g') (hg : ∀ (i : Nat) x, s.gens[i]? = some x → s'.gens[i]? = some x) : Held B w gB P K a gi s₀ g' s' l own gow gs :=
  ⟨IsGen.mono k H.isGen, hg _ _ H.at', fun q hq => ⟨hg _ _ (H.gh q hq).1, (H.gh q hq).2⟩, H.new, H.off, H.base.trans k, H.k, H.go⟩
theorem permR {α : Type} (a b : α) (l r : List α) : (l ++ a :: b :: r).Perm (b :: a :: (l ++ r)) := permL [[b], [a], l, r] (is := [2, 1, 0, 3]) (js := [0, 1, 2, 3]) (by decide)
theorem permR2 {α : Type} (a b : α) (l r : List α) : (b :: a :: r ++ l).Perm (l ++ a :: b :: r) := permL [[b], [a], r, l] (is := [0, 1, 2, 3]) (js := [3, 1, 0, 2]) (by decide)
theorem compG {elt iter : Expr} {x : Str} {px : PySem.Pos} {scope : Scope} {cl : List (Str × Addr)} {pos : PySem.Pos} {a : Addr} {gi l : Nat} {own : List (Addr × Obj)} {gow : List (Nat × GenState)} {gs : GenState} {Q : Value → Shared → Prop}
    (hh : A.handled = none) (hd : A.depth + 1 ≤ B.d) (hu : A.units + 12 ≤ B.u) (hXlo : ∀ b ∈ X, b < 353) (G : Amb w mg mb g) (S : St X g₀ s₀ L g s m (own ++ ow)) (H : Held B w gB P K a gi s₀ g s l own gow gs) (hX : ∀ b ∈ X, b ∈ ks ow ∨ ∀ o, K o → b ∈ ks o) (hsz : l ≤ 900)
    (hcell : ∀ y ∈ scope.names, y.2 ≠ .cell) (hkind : scope.kind = .function) (hx : scope.names.lookup x = some .local)
    (J : Nat → Heap → List Value → Prop) (hJm : ∀ l g h ys, Sub g h → J l g ys → J l h ys) (h0 : J l g [])
    (turn : ∀ l v C g' s' mC ys ow2, Sub g g' → J (l + 1) g' ys → P l g' v → St X g₀ s₀ C g' s' (upd mC x v) ow2 → wpAny (model prg w) A (eval elt (compEnvC scope cl C env)) (fun y s₄ => ∃ g₄ m₄, Sub g' g₄ ∧ (∀ (i : Nat) x, s'.gens[i]? = some x → s₄.gens[i]? = some x) ∧ St X g₀ s₀ C g₄ s₄ m₄ ow2 ∧ J l g₄ (ys ++ [y])) (fun _ _ => False) s')
    (done : ∀ D g' s' ys k, Sub g g' → J 0 g' ys → St X g₀ s₀ L g' s' m ((D, lstO ys k) :: ow) → Q (.ref D) s') :
    wpAny (model prg w) A (pyIter (.ref a)) (fun it s₂ => wpAny (model prg w) A (newList []) (fun acc s₃ => wpAny (model prg w) A (newFunctionEnv scope env.globals cl [] env.qual none .none (some env)) (fun cenv s₄ =>
      codeAny (model prg w) A (.compStart (.ListComp elt [⟨.Name x px, iter, [], 0⟩] scope pos) 0 it acc { cenv with scope := relabel scope env }) (compPost (model prg w) A E none Q acc cenv.locals) s₄) E s₃) E s₂) E s := by
  refine wpAny_pyIter_gen (IsGen.mono S.in_ H.isGen) ?_
  refine wpAny_newObj_type ?_
  have SD := S.push (listOf ([] : List Value).toArray 0)
  have hD0 := get_push_size_none s.heap
  refine wpAny_newFunctionEnv hcell (by intro y hy; simp at hy) (fun h₁ hns₁ hsb₁ => ?_) hkind
  have SC := SD.push { cls := .type "dict", data := .dict #[] }
  obtain ⟨oC, hoC, hnC⟩ := ns_obj (s := { s with heap := h₁ }) hns₁
  have S₁ := St.upd (pre := []) SC hsb₁ hoC
  have S₁ := S₁.toks s.toks
  dsimp only at hns₁ S₁ ⊢
  have hclo : 353 ≤ (s.heap.push (listOf ([] : List Value).toArray 0)).objs.size := Amb.lo (G.keeps SD.in_)
  have hCX : (s.heap.push (listOf ([] : List Value).toArray 0)).objs.size ∉ X := fun hm => absurd (hXlo _ hm) (Nat.not_lt.mpr hclo)
  have hLX : L ∉ X := fun hm => absurd (hXlo _ hm) (Nat.not_lt.mpr S.lo)
  obtain ⟨oL, hnL, S₂⟩ := St.into S₁ hCX (by exact hns₁) hclo
  generalize (s.heap.push (listOf ([] : List Value).toArray 0)).objs.size = C at *
  generalize s.heap.objs.size = D at *
  have loop : ∀ s₃ : Shared, s₃ = { s with heap := h₁, toks := s.toks } →
      codeAny (model prg w) A (.compLoop (.ListComp elt [⟨.Name x px, iter, [], 0⟩] scope pos) 0 (.ref a) (.ref D) (compEnvC scope cl C env)) (compPost (model prg w) A E none Q (.ref D) C) s₃ := by
    rintro s₃ rfl
    refine codeAny_compLoop_tests (fun k s' => ∃ own' gow' gs' g' mC ys e, ys.length + k = l ∧ Sub g g' ∧ J k g' ys ∧ St X g₀ s₀ C g' s' mC (own' ++ (D, lstO ys e) :: (L, oL) :: ow) ∧ Held B w gB P K a gi s₀ g' s' k own' gow' gs') ?_ l
      ⟨own, gow, gs, g, _, [], 0, by simp, .refl _, h0, S₂.perm (permR ..), H.gensOf (.refl _) fun _ _ e => e⟩
    rintro k s' ⟨own', gow', gs', g', mC', ys, e, hk, hg, hJ, S', H'⟩
    have hX' : ∀ b ∈ X, b ∈ ks ((D, lstO ys e) :: (L, oL) :: ow) ∨ ∀ o, K o → b ∈ ks o := fun b hb => (hX b hb).imp (fun h => .tail _ (.tail _ h)) id
    cases k with
    | zero =>
      refine genDone hh hd hu (G.keeps hg) S' H' hX' fun own₂ s₄ hK S₄ => ?_
      refine ⟨mC', S₄.ns, fun h₃ hs₃ => ?_⟩
      have S₄ := S₄.perm (permR2 (D, lstO ys e) (L, oL) own₂ ow)
      obtain ⟨oC₂, hnC₂, S₅⟩ := St.into S₄ hLX (hnL _ (S₄.own _ (.head _)).1) S.lo
      refine done D g' _ ys e hg hJ ?_
      have S₆ := St.turn1 (Y := [(C, oC₂)]) (Y' := []) (tk := s₄.toks) (h' := h₃) S₅ (fun b o hb e => (hs₃.2 b (fun q => hb (by simp [q]))).trans e) (fun p hp => nomatch hp) List.nodup_nil (fun b hb hm => absurd hb (by rw [List.mem_singleton.mp hm]; exact hCX))
      have S₆ : St X g₀ s₀ L g' { s₄ with heap := h₃, toks := s₄.toks } m (((D, lstO ys e) :: ow) ++ own₂) := S₆
      exact S₆.sub (fun p hp => List.mem_append.mpr (.inl hp)) (List.nodup_append.mp (by simpa only [List.map_append] using S₆.nd)).1
    | succ k =>
      refine genItem hh hd hu (G.keeps hg) S' H' hX' fun v own₂ gow₂ gs₂ g₂ s₂ k₂ S₂ H₂ hPv => ?_
      refine wpAny_noRaise (wpAny_assign_Name ?_)
      refine wpAny_storeName_local (lookup_relabel_local hx) S₂.ns (fun h' hn hs => ?_) (by simp [compEnvC, relabel, hkind])
      have S₃ := (S₂.setL hn hs).toks (s₂.toks + 1)
      have H₃ := H₂.gensOf (s' := { s₂ with heap := h', toks := s₂.toks + 1 }) (.refl _) fun _ _ e => e
      refine wpAny_pure ?_
      rw [if_pos rfl]
      refine wpAny_mono (turn k v C g₂ _ mC' ys _ (hg.trans k₂) (hJm _ _ _ _ k₂ hJ) hPv S₃) (fun y s₄ t₄ => ?_) fun _ _ x => x.elim
      obtain ⟨g₄, m₄, hg₄, hgen₄, S₄, hJ₄⟩ := t₄
      have H₄ := H₃.gensOf hg₄ hgen₄
      refine append_at (hsz := by rw [List.size_toArray]; exact sl (by omega)) (S₄.get (List.mem_append.mpr (.inr (.head _)))) fun h₅ hs₅ ho₅ => ?_
      have S₅ := S₄.upd (o' := lstO (ys ++ [y]) (e + 1)) hs₅ (by rw [ho₅]; simp)
      exact ⟨k, Nat.lt_succ_self _, own₂, gow₂, gs₂, g₄, m₄, ys ++ [y], e + 1, by rw [List.length_append, List.length_singleton]; omega, (hg.trans k₂).trans hg₄, hJ₄, S₅, H₄.gensOf (.refl _) fun _ _ e => e⟩
  exact codeAny_compStart_list (loop _ rfl) (wpAny_pyIter_gen (IsGen.mono S₂.in_ H.isGen) (loop _ rfl))
end
end Mine
namespace Mine
section
variable {w : World} {mg mb : Str → Option Value}
theorem eq_diff {lab lab2 : Sym} {cs cs2 : List T} (hne : lab.s ≠ lab2.s) {A : Around} {g : Heap} {s : Shared} {v1 v2 : Value} {as bs : List Addr} {R : Result → Shared → Prop} (hr : Room A 2) (G : Amb w mg mb g) (hs : Sub g s.heap) (h1 : IsT g v1 (.node lab cs) as) (h2 : IsT g v2 (.node lab2 cs2) bs)
    (hR : ∀ s' g', Grow [] g s g' s' → R (.ok (.ret (.bool false))) s') : codeAny (model prg w) A (.call (.ref 167) ⟨[v1, v2], []⟩) R s := by
  cases h1 with
  | @node x dx l d1 d2 t1 t2 tk n' k _ vs _ as' hx hd hl hcs =>
  cases h2 with
  | @node x2 dx2 l2 e1 e2 u1 u2 tk2 n2 k2 _ vs2 _ bs' hx2 hd2 hl2 hcs2 =>
  refine enterF G hs hr (by k_is) (by k_is) (BindsTo.of_eq rfl) (locs rfl) ?_ rfl rfl rfl (by decide)
  intro L s₁ S
  try k_fold
  refine xRet (BoolOp_and (vIsiT G S (v := .ref x2) rfl (isiT_node G S (instT S.in_ hx2 hd2) fun s₂ S₂ => wpAny_truthy_bool (itT ?_))))
  refine BoolOp_and (wpAny_Compare1 (Attribute_name (nmL S₂ (v := .ref x) rfl (getLabel G S₂ hx hd fun s₃ S₃ => Attribute_name (nmL S₃ (v := .ref x2) rfl (getLabel G S₃ hx2 hd2 fun s₄ S₄ => eq_str (wpAny_truthy_bool ?_)))))))
  rw [beq_eq_false_iff_ne.mpr hne]
  exact itF (hR _ _ S₄.grow)
noncomputable def symZ : Sym := ⟨"Z", by kernel_rfl⟩
theorem NotZ.ne {l : Sym} (h : NotZ l) : l.s ≠ symZ.s := fun e => by
  unfold NotZ at h
  rw [e] at h
  have h2 : (symZ.s.cps.toList == (Str.ofString "Z").cps.toList) = true := by kernel_rfl
  rw [h2] at h; cases h
end
end Mine
namespace Mine
noncomputable def T.isLeaf : T → Bool
  | .leaf _ => true
  | .node _ _ => false
theorem isLeaf_leaf (y : Sym) : (T.leaf y).isLeaf = true := rfl
theorem isLeaf_node (l : Sym) (cs : List T) : (T.node l cs).isLeaf = false := rfl
mutual
theorem places_fst : ∀ (t : T) (p : Plc), (places t p).map (·.1) = (tpos true false t).map (p ++ ·)
  | .leaf y, p => by simp [places, tpos]
  | .node lab cs, p => by simp [places, tpos, placesL_fst cs 0 p]
theorem placesL_fst : ∀ (cs : List T) (k : Nat) (p : Plc), (placesL cs k p).map (·.1) = (tposL true false cs k).map (p ++ ·)
  | [], k, p => by simp [placesL, tposL]
  | t :: ts, k, p => by simp [placesL, tposL, places_fst t (p ++ [k]), placesL_fst ts (k + 1) p]
end
mutual
theorem behind_tpos : ∀ (t : T) (p : Plc), behind t p = (tpos false true t).map (p ++ ·)
  | .leaf y, p => by simp [behind, tpos]
  | .node lab cs, p => by simp [behind, tpos, behindL_tpos cs 0 p]
theorem behindL_tpos : ∀ (cs : List T) (k : Nat) (p : Plc), behindL cs k p = (tposL false true cs k).map (p ++ ·)
  | [], k, p => by simp [behindL, tposL]
  | t :: ts, k, p => by simp [behindL, tposL, behind_tpos t (p ++ [k]), behindL_tpos ts (k + 1) p]
end
mutual
theorem both_tpos : ∀ (t : T) (p : Plc), both t p = (tpos true true t).map (p ++ ·)
  | .leaf y, p => by simp [both, tpos]
  | .node lab cs, p => by simp [both, tpos, bothL_tpos cs 0 p]
theorem bothL_tpos : ∀ (cs : List T) (k : Nat) (p : Plc), bothL cs k p = (tposL true true cs k).map (p ++ ·)
  | [], k, p => by simp [bothL, tposL]
  | t :: ts, k, p => by simp [bothL, tposL, both_tpos t (p ++ [k]), bothL_tpos ts (k + 1) p]
end
noncomputable def wordsOf (l : List (Plc × T)) : List (Plc × T) := l.filter fun x => x.2.isLeaf
mutual
theorem words_fst : ∀ (t : T) (p : Plc), (wordsOf (places t p)).map (·.1) = (tpos false false t).map (p ++ ·)
  | .leaf y, p => by show [p] = [p ++ []]; rw [List.append_nil]
  | .node lab cs, p => by
    have := wordsL_fst cs 0 p
    simp only [wordsOf] at this
    simp [places, tpos, wordsOf, isLeaf_leaf, isLeaf_node, this]
theorem wordsL_fst : ∀ (cs : List T) (k : Nat) (p : Plc), (wordsOf (placesL cs k p)).map (·.1) = (tposL false false cs k).map (p ++ ·)
  | [], k, p => by simp [placesL, tposL, wordsOf]
  | t :: ts, k, p => by
    have h1 := words_fst t (p ++ [k])
    have h2 := wordsL_fst ts (k + 1) p
    simp only [wordsOf] at h1 h2
    simp [placesL, tposL, wordsOf, h1, h2]
end
mutual
theorem words_leafP : ∀ (t : T) (p : Plc), (wordsOf (places t p)).map (·.1) = leafP t p
  | .leaf y, p => by simp only [leafP]; rfl
  | .node lab cs, p => by
    have := wordsL_leafP cs 0 p
    simp only [wordsOf] at this
    simp [places, leafP, wordsOf, isLeaf_leaf, isLeaf_node, this]
theorem wordsL_leafP : ∀ (cs : List T) (k : Nat) (p : Plc), (wordsOf (placesL cs k p)).map (·.1) = leafPL cs k p
  | [], k, p => by simp [placesL, leafPL, wordsOf]
  | t :: ts, k, p => by
    have h1 := words_leafP t (p ++ [k])
    have h2 := wordsL_leafP ts (k + 1) p
    simp only [wordsOf] at h1 h2
    simp [placesL, leafPL, wordsOf, h1, h2]
end
mutual
theorem words_lv : ∀ (t : T) (p : Plc), (wordsOf (places t p)).map (·.2) = t.lv.map .leaf
  | .leaf y, p => by simp only [T.lv]; rfl
  | .node lab cs, p => by
    have := wordsL_lv cs 0 p
    simp only [wordsOf] at this
    simp [places, T.lv, wordsOf, isLeaf_leaf, isLeaf_node, this]
theorem wordsL_lv : ∀ (cs : List T) (k : Nat) (p : Plc), (wordsOf (placesL cs k p)).map (·.2) = (T.lvL cs).map .leaf
  | [], k, p => by simp [placesL, T.lvL, wordsOf]
  | t :: ts, k, p => by
    have h1 := words_lv t (p ++ [k])
    have h2 := wordsL_lv ts (k + 1) p
    simp only [wordsOf] at h1 h2
    simp [placesL, T.lvL, wordsOf, h1, h2]
end
mutual
theorem places_inner : ∀ (t : T) (p : Plc), ((places t p).filter fun x => !x.2.isLeaf).map (·.2) = t.inner
  | .leaf y, p => by simp [places, T.inner, isLeaf_leaf, isLeaf_node]
  | .node lab cs, p => by simp [places, T.inner, isLeaf_leaf, isLeaf_node, placesL_inner cs 0 p]
theorem placesL_inner : ∀ (cs : List T) (k : Nat) (p : Plc), ((placesL cs k p).filter fun x => !x.2.isLeaf).map (·.2) = T.innerL cs
  | [], k, p => by simp [placesL, T.innerL]
  | t :: ts, k, p => by simp [placesL, T.innerL, places_inner t (p ++ [k]), placesL_inner ts (k + 1) p]
end
theorem T.at_nil (t : T) : t.at [] = some t := by cases t <;> rfl
theorem T.at_app {u : T} : ∀ (p : Plc) (t t' : T) (q : Plc), t.at p = some t' → t'.at q = some u → t.at (p ++ q) = some u
  | [], t, t', q, h1, h2 => by rw [T.at_nil] at h1; cases h1; exact h2
  | k :: p, .leaf y, t', q, h1, h2 => by rw [T.at] at h1; cases h1
  | k :: p, .node lab cs, t', q, h1, h2 => by
    obtain ⟨c, hc, h⟩ := at_cons h1
    rw [List.cons_append, T.at, hc]
    exact T.at_app p c t' q h h2
mutual
theorem places_at {t0 : T} : ∀ (t : T) (p : Plc), t0.at p = some t → ∀ x ∈ places t p, t0.at x.1 = some x.2
  | .leaf y, p, h, x, hx => by rw [places, List.mem_singleton] at hx; rw [hx]; exact h
  | .node lab cs, p, h, x, hx => by
    rw [places] at hx
    rcases List.mem_cons.mp hx with rfl | hx
    · exact h
    · exact placesL_at cs [] lab p h x hx
theorem placesL_at {t0 : T} : ∀ (cs : List T) (pre : List T) (lab : Sym) (p : Plc), t0.at p = some (.node lab (pre ++ cs)) → ∀ x ∈ placesL cs pre.length p, t0.at x.1 = some x.2
  | [], pre, lab, p, h, x, hx => by rw [placesL] at hx; cases hx
  | t :: ts, pre, lab, p, h, x, hx => by
    rw [placesL] at hx
    rcases List.mem_append.mp hx with hx | hx
    · refine places_at t (p ++ [pre.length]) (T.at_app p t0 _ _ h ?_) x hx
      rw [T.at]; simp [T.at_nil]
    · exact placesL_at ts (pre ++ [t]) lab p (by rw [List.append_assoc]; exact h) x (by rw [List.length_append, List.length_singleton]; exact hx)
end
end Mine
namespace Mine
noncomputable def ruleOf : T → Rule
  | .leaf x => (x, [])
  | .node l cs => (l, cs.map T.kid)
mutual
theorem pr_inner : ∀ t : T, t.pr = t.inner.map ruleOf
  | .leaf y => by simp [T.pr, T.inner]
  | .node l cs => by simp [T.pr, T.inner, ruleOf, prL_inner cs]
theorem prL_inner : ∀ cs : List T, T.prL cs = (T.innerL cs).map ruleOf
  | [] => by simp [T.prL, T.innerL]
  | t :: ts => by simp [T.prL, T.innerL, pr_inner t, prL_inner ts]
end
theorem mem_placesL {u : T} : ∀ (cs : List T) (k j : Nat) (p : Plc) (c : T) (x : Plc × T), cs[j]? = some c → x ∈ places c (p ++ [k + j]) → x ∈ placesL cs k p
  | [], k, j, p, c, x, h, _ => by simp at h
  | t :: ts, k, 0, p, c, x, h, hx => by
    simp at h; subst h
    rw [placesL]; exact List.mem_append.mpr (.inl hx)
  | t :: ts, k, j + 1, p, c, x, h, hx => by
    rw [placesL]
    refine List.mem_append.mpr (.inr (mem_placesL (u := u) ts (k + 1) j p c x (by simpa using h) ?_))
    rw [show k + 1 + j = k + (j + 1) by omega]; exact hx
theorem mem_places {u : T} : ∀ (q : Plc) (t : T) (p : Plc), t.at q = some u → (p ++ q, u) ∈ places t p
  | [], t, p, h => by
    rw [T.at_nil] at h; cases h
    cases u <;> simp [places]
  | k :: q, .leaf y, p, h => by rw [T.at] at h; cases h
  | k :: q, .node lab cs, p, h => by
    obtain ⟨c, hc, hq⟩ := at_cons h
    rw [places]
    refine .tail _ (mem_placesL (u := u) cs 0 k p c _ hc ?_)
    have := mem_places q c (p ++ [k]) hq
    simpa using this
theorem at_prefix {u : T} : ∀ (p : Plc) (t : T) (q : Plc), t.at (p ++ q) = some u → ∃ u', t.at p = some u'
  | [], t, q, h => ⟨t, T.at_nil t⟩
  | k :: p, .leaf y, q, h => by rw [List.cons_append, T.at] at h; cases h
  | k :: p, .node lab cs, q, h => by
    rw [List.cons_append] at h
    obtain ⟨c, hc, hq⟩ := at_cons h
    obtain ⟨u', hu⟩ := at_prefix p c q hq
    exact ⟨u', by rw [T.at, hc]; exact hu⟩
noncomputable def symOf : T → Option Sym
  | .leaf x => some x
  | .node _ _ => none
noncomputable def labOf : Option T → Option Sym
  | some (.node l _) => some l
  | _ => none
mutual
theorem po_words {t0 : T} {lab : Sym} : ∀ (t : T) (p : Plc) (k : Nat) (cs0 : List T), t0.at p = some (.node lab cs0) → t0.at (p ++ [k]) = some t →
    (t.po lab).map (fun y => (some y.1, some y.2)) = (wordsOf (places t (p ++ [k]))).map fun x => (symOf x.2, labOf (t0.at x.1.dropLast))
  | .leaf y, p, k, cs0, h, h1 => by
    simp only [T.po]
    show [(some y, some lab)] = [(some y, labOf (t0.at (p ++ [k]).dropLast))]
    rw [List.dropLast_concat, h]; rfl
  | .node l cs, p, k, cs0, h, h1 => by
    have := poL_words cs [] l (p ++ [k]) h1
    rw [T.po, this, places]
    rfl
theorem poL_words {t0 : T} : ∀ (cs pre : List T) (lab : Sym) (p : Plc), t0.at p = some (.node lab (pre ++ cs)) →
    (T.poL lab cs).map (fun y => (some y.1, some y.2)) = (wordsOf (placesL cs pre.length p)).map fun x => (symOf x.2, labOf (t0.at x.1.dropLast))
  | [], pre, lab, p, h => by simp [T.poL, placesL, wordsOf]
  | t :: ts, pre, lab, p, h => by
    have h1 := po_words (t0 := t0) t p pre.length _ h (T.at_app p t0 _ _ h (by rw [T.at]; simp [T.at_nil]))
    have h2 := poL_words ts (pre ++ [t]) lab p (by rw [List.append_assoc]; exact h)
    rw [List.length_append, List.length_singleton] at h2
    rw [T.poL, placesL, List.map_append, h1, h2]
    simp only [wordsOf, List.filter_append, List.map_append]
end
noncomputable def plcLe : Plc → Plc → Prop
  | [], _ => True
  | _ :: _, [] => False
  | a :: x, b :: y => a < b ∨ (a = b ∧ plcLe x y)
theorem sandwich : ∀ (q x y z : Plc), plcLe x y → plcLe y z → q <+: x → q <+: z → q <+: y
  | [], x, y, z, _, _, _, _ => List.nil_prefix
  | c :: q, [], y, z, _, _, h, _ => by simp at h
  | c :: q, a :: x, y, [], _, _, _, h => by simp at h
  | c :: q, a :: x, [], d :: z, h1, _, _, _ => h1.elim
  | c :: q, a :: x, b :: y, d :: z, h1, h2, h3, h4 => by
    rw [List.cons_prefix_cons] at h3 h4 ⊢
    obtain ⟨rfl, h3⟩ := h3
    obtain ⟨rfl, h4⟩ := h4
    rw [plcLe] at h1 h2
    have e : c = b := by omega
    subst e
    exact ⟨rfl, sandwich q x y z (by rcases h1 with h | h; omega; exact h.2) (by rcases h2 with h | h; omega; exact h.2) h3 h4⟩
theorem tposL_head : ∀ (ts : List T) (k : Nat) (x : Plc), x ∈ tposL false false ts k → ∃ j y, x = j :: y ∧ k ≤ j
  | [], k, x, h => by rw [tposL] at h; cases h
  | t :: ts, k, x, h => by
    rw [tposL] at h
    rcases List.mem_append.mp h with h | h
    · obtain ⟨y, _, rfl⟩ := List.mem_map.mp h
      exact ⟨k, y, rfl, Nat.le_refl _⟩
    · obtain ⟨j, y, e, hj⟩ := tposL_head ts (k + 1) x h
      exact ⟨j, y, e, by omega⟩
mutual
theorem tpos_sorted : ∀ t : T, (tpos false false t).Pairwise plcLe
  | .leaf y => by simp [tpos]
  | .node l cs => by simpa [tpos] using tposL_sorted cs 0
theorem tposL_sorted : ∀ (ts : List T) (k : Nat), (tposL false false ts k).Pairwise plcLe
  | [], k => by simp [tposL]
  | t :: ts, k => by
    rw [tposL]
    refine List.pairwise_append.mpr ⟨?_, tposL_sorted ts (k + 1), fun x hx y hy => ?_⟩
    · refine List.pairwise_map.mpr ((tpos_sorted t).imp fun h => ?_)
      rw [plcLe]; exact .inr ⟨rfl, h⟩
    · obtain ⟨x', _, rfl⟩ := List.mem_map.mp hx
      obtain ⟨j, y', rfl, hj⟩ := tposL_head ts (k + 1) y hy
      rw [plcLe]; exact .inl (by omega)
end
theorem plcLe_refl : ∀ x : Plc, plcLe x x
  | [] => trivial
  | a :: x => by rw [plcLe]; exact .inr ⟨rfl, plcLe_refl x⟩
theorem cpref_l : ∀ p q : Plc, cpref p q <+: p
  | [], q => by rw [cpref]; exact List.nil_prefix
  | a :: p, [] => by rw [cpref]; exact List.nil_prefix
  | a :: p, b :: q => by
    rw [cpref]
    split
    · rw [List.cons_prefix_cons]; exact ⟨rfl, cpref_l p q⟩
    · exact List.nil_prefix
theorem cpref_r : ∀ p q : Plc, cpref p q <+: q
  | [], q => by rw [cpref]; exact List.nil_prefix
  | a :: p, [] => by rw [cpref]; exact List.nil_prefix
  | a :: p, b :: q => by
    rw [cpref]
    split
    · rename_i h; rw [List.cons_prefix_cons]; exact ⟨h, cpref_r p q⟩
    · exact List.nil_prefix
theorem cpref_max : ∀ x p q : Plc, x <+: p → x <+: q → x <+: cpref p q
  | [], p, q, _, _ => List.nil_prefix
  | c :: x, [], q, h, _ => by simp at h
  | c :: x, a :: p, [], _, h => by simp at h
  | c :: x, a :: p, b :: q, h1, h2 => by
    rw [List.cons_prefix_cons] at h1 h2
    obtain ⟨rfl, h1⟩ := h1
    obtain ⟨rfl, h2⟩ := h2
    rw [cpref, if_pos rfl, List.cons_prefix_cons]
    exact ⟨rfl, cpref_max x p q h1 h2⟩
noncomputable def goodB (ws : List Plc) (x : Plc) : Bool := ws.all fun w => w.take x.length == x
noncomputable def dueStep (ws : List Plc) (due x : Plc) : Plc := if x.length > due.length ∧ goodB ws x = true then x else due
theorem take_prefix {w x : Plc} : (w.take x.length == x) = true ↔ x <+: w := by
  rw [beq_iff_eq, List.prefix_iff_eq_take]; exact ⟨Eq.symm, Eq.symm⟩
theorem due_fold {ws : List Plc} {c : Plc} (hc : goodB ws c = true) (hm : ∀ x, goodB ws x = true → x.length ≤ c.length ∧ (x.length = c.length → x = c)) :
    ∀ (l : List Plc) (d : Plc), (d = c ∨ (d.length < c.length ∧ c ∈ l)) → l.foldl (dueStep ws) d = c
  | [], d, h => by
    rcases h with h | ⟨_, h⟩
    · exact h
    · cases h
  | x :: l, d, h => by
    rw [List.foldl_cons]
    refine due_fold hc hm l _ ?_
    unfold dueStep
    rcases h with rfl | ⟨h1, h2⟩
    · rw [if_neg fun h => by have := (hm x h.2).1; omega]; exact .inl rfl
    · by_cases hx : x.length > d.length ∧ goodB ws x = true
      · rw [if_pos hx]
        have := hm x hx.2
        rcases Nat.lt_or_ge x.length c.length with hl | hl
        · refine .inr ⟨hl, ?_⟩
          rcases List.mem_cons.mp h2 with e | h2
          · rw [e] at hl; exact absurd hl (Nat.lt_irrefl _)
          · exact h2
        · exact .inl (this.2 (by omega))
      · rw [if_neg hx]
        refine .inr ⟨h1, ?_⟩
        rcases List.mem_cons.mp h2 with rfl | h2
        · exact absurd ⟨h1, hc⟩ hx
        · exact h2
end Mine
namespace Mine
theorem map_nil_app (l : List Plc) : l.map (([] : Plc) ++ ·) = l := by simp
theorem leafP_tpos (t : T) : leafP t [] = tpos false false t := by rw [← words_leafP, words_fst, map_nil_app]
theorem leafP_words (t : T) : leafP t [] = (wordsOf (places t [])).map (·.1) := (words_leafP t []).symm
theorem leafP_sorted (t : T) : (leafP t []).Pairwise plcLe := by rw [leafP_tpos]; exact tpos_sorted t
theorem leafP_le {t : T} {i j : Nat} {p q : Plc} (hij : i ≤ j) (h1 : (leafP t [])[i]? = some p) (h2 : (leafP t [])[j]? = some q) : plcLe p q := by
  obtain ⟨hi, e1⟩ := List.getElem?_eq_some_iff.mp h1
  obtain ⟨hj, e2⟩ := List.getElem?_eq_some_iff.mp h2
  rcases Nat.lt_or_ge i j with h | h
  · have := List.pairwise_iff_getElem.mp (leafP_sorted t) i j hi hj h
    rw [e1, e2] at this; exact this
  · have e : i = j := by omega
    subst e
    rw [h1] at h2; cases h2; exact plcLe_refl _
theorem mem_fst {t u : T} {q : Plc} (h : t.at q = some u) : q ∈ (places t []).map (·.1) := by
  have := mem_places q t [] h
  exact List.mem_map.mpr ⟨_, this, by simp⟩
theorem at_of_leafP {t : T} {i : Nat} {p : Plc} (h : (leafP t [])[i]? = some p) : ∃ u, t.at p = some u := by
  have hm := List.mem_of_getElem? h
  rw [leafP_words] at hm
  obtain ⟨x, hx, rfl⟩ := List.mem_map.mp hm
  exact ⟨x.2, places_at t [] (T.at_nil t) x (List.mem_filter.mp hx).1⟩
theorem prefix_eq {x c : Plc} (h : x <+: c) (hl : x.length = c.length) : x = c := h.eq_of_length hl
theorem due_is {t : T} {a b : Nat} {p q : Plc} (hab : a < b) (h1 : (leafP t [])[a]? = some p) (h2 : (leafP t [])[b - 1]? = some q) :
    ((places t []).map (·.1)).foldl (dueStep (((leafP t []).drop a).take (b - a))) [] = cpref p q := by
  have hb := (List.getElem?_eq_some_iff.mp h2).1
  have mem : ∀ k w, a ≤ k → k ≤ b - 1 → (leafP t [])[k]? = some w → w ∈ ((leafP t []).drop a).take (b - a) := fun k w hk1 hk2 hw => by
    have : (((leafP t []).drop a).take (b - a))[k - a]? = some w := by
      rw [List.getElem?_take_of_lt (by omega), List.getElem?_drop, show a + (k - a) = k by omega]; exact hw
    exact List.mem_of_getElem? this
  refine due_fold ?_ (fun x hx => ?_) _ [] ?_
  · refine List.all_eq_true.mpr fun w hw => take_prefix.mpr ?_
    obtain ⟨k, hk⟩ := List.mem_iff_getElem?.mp hw
    have hkl := (List.getElem?_eq_some_iff.mp hk).1
    rw [List.length_take, List.length_drop] at hkl
    rw [List.getElem?_take_of_lt (by omega), List.getElem?_drop] at hk
    exact sandwich _ p w q (leafP_le (by omega) h1 hk) (leafP_le (by omega) hk h2) (cpref_l p q) (cpref_r p q)
  · have g1 := take_prefix.mp (List.all_eq_true.mp hx p (mem a p (Nat.le_refl _) (by omega) h1))
    have g2 := take_prefix.mp (List.all_eq_true.mp hx q (mem (b - 1) q (by omega) (Nat.le_refl _) h2))
    have g := cpref_max x p q g1 g2
    exact ⟨g.length_le, fun e => prefix_eq g e⟩
  · by_cases hc : cpref p q = []
    · exact .inl hc.symm
    · refine .inr ⟨List.length_pos_iff.mpr hc, ?_⟩
      obtain ⟨u, hu⟩ := at_of_leafP h1
      obtain ⟨r, hr⟩ := cpref_l p q
      obtain ⟨u', hu'⟩ := at_prefix (cpref p q) t r (by rw [hr]; exact hu)
      exact mem_fst hu'
theorem above {t u : T} {q : Plc} (h : t.at q = some u) : ∃ l, ((places t []).filter fun x => x.1 == q) = (q, u) :: l := by
  have hm : (q, u) ∈ (places t []).filter fun x => x.1 == q := List.mem_filter.mpr ⟨by simpa using mem_places q t [] h, by simp⟩
  cases hl : (places t []).filter fun x => x.1 == q with
  | nil => rw [hl] at hm; cases hm
  | cons x l =>
    have hx : x ∈ (places t []).filter fun x => x.1 == q := by rw [hl]; exact .head _
    have h1 := (List.mem_filter.mp hx)
    have h2 : x.1 = q := beq_iff_eq.mp h1.2
    have h3 := places_at t [] (T.at_nil t) x h1.1
    rw [h2, h] at h3
    refine ⟨l, ?_⟩
    have : x = (q, u) := by cases x; simp at h2 h3; rw [h2, h3]
    rw [this]
end Mine
namespace Mine
section
variable {w : World} {mg mb : Str → Option Value} {M : Model} {A : Around} {E : Value → Shared → Prop} {X : List Addr} {g₀ g : Heap} {s₀ s s' : Shared} {L : Addr} {m : Str → Option Value} {ow : List (Addr × Obj)} {env : Env} {fs : List Env}
structure FlownX (X : List Addr) (env : Env) (g₀ : Heap) (s₀ : Shared) (L : Addr) (g : Heap) (m : Str → Option Value) (ow : List (Addr × Obj)) (cls : Value) (e : Addr) (s : Shared) : Prop where
  st : St X g₀ s₀ L g s m ow
  fly : ∃ B a0, Heap.FlyingW B [env] e cls a0 s.heap ∧ (∀ b o, g.get? b = some o → B.get? b = some o) ∧ (∀ b o, b ∉ X → s₀.heap.get? b = some o → B.get? b = some o) ∧ (∀ p ∈ ow, B.get? p.1 = some p.2) ∧ ∀ b ∈ X, b ∈ ks ow
theorem FlownX.lands {cls : Value} {e : Addr} {Q : Unit → Shared → Prop} (F : FlownX X env g₀ s₀ L g m ow cls e s) (h : ∀ s', FlownX X env g₀ s₀ L g m ow cls e s' → Q () s') : wpAny M A (setFlight (.ref e) none) Q E s := by
  obtain ⟨S, B, a0, fl, h1, h2, h3, h4⟩ := F
  refine lands_againW fl fun h' fl' up => h _ ⟨?_, B, a0, fl', h1, h2, h3, h4⟩
  exact ⟨⟨S.grow.sub, fun b o e => fl'.1 b o (h1 b o e), fun b o hb e => fl'.1 b o (h2 b o hb e), S.grow.fresh, S.grow.gens, S.grow.bare, S.grow.os⟩, up.ns S.ns, S.offL, S.newL, fun p hp => ⟨fl'.1 _ _ (h3 p hp), (S.own p hp).2⟩, S.nd, (fun b hb => by
    obtain ⟨p, hp, rfl⟩ := List.mem_map.mp (h4 b hb)
    have := fl'.1 _ _ (h3 p hp)
    dsimp only at this ⊢; rw [this]; rfl), S.lo⟩
theorem FlownX.type {X' : String} {e : Addr} (F : FlownX X env g₀ s₀ L g m ow (.type X') e s) : s.TypeIs (.ref e) X' := by
  obtain ⟨S, B, a0, fl, _⟩ := F
  obtain ⟨ob, h1, h2⟩ := fl.there
  exact ⟨ob, h1, h2⟩
theorem caughtX {cls v : Value} {hs : List ExceptHandler} {Q : Flow → Shared → Prop} (S : St X g₀ s₀ L g s m ow) (T : Thrown [env] cls s v s') (hA : A.frames = some [env]) (hf : env.frame = some L) (hX : ∀ b ∈ X, b ∈ ks ow)
    (h : ∀ e s'', FlownX X env g₀ s₀ L g m ow cls e s'' → wpAny M A (handleBy (.ref e) env hs) Q E s'') :
    wpAny M A (noteFrame v env) (fun _ s₂ => wpAny M A (setFlight v none) (fun _ s₃ => wpAny M A (handleBy v env hs) Q E s₃) E s₂) E s' := by
  obtain ⟨⟨e, B, a0, rfl, fl, hB⟩, up, gn, br, os⟩ := T
  refine wpAny_looks_onW hA hf fl fun h₁ hld up₁ => wpAny_landsW hld fun h₂ fl₂ up₂ => h e _ ⟨?_, B, a0, fl₂, ?_, ?_, ?_, hX⟩
  · have nb : ∀ b o, s.heap.get? b = some o → b ≠ L → h₂.get? b = some o := fun b o e hn => fl₂.1 b o (hB b o e fun hm => hn (by
      obtain ⟨env', he, hfr⟩ := List.mem_filterMap.mp hm
      rw [List.mem_singleton.mp he, hf] at hfr; cases hfr; rfl))
    refine ⟨⟨S.grow.sub, fun b o e => nb b o (S.in_ b o e) (by rintro rfl; rw [S.offL] at e; cases e), fun b o hb e => nb b o (S.grow.keep b o hb e) (by rintro rfl; rw [S.newL] at e; cases e), S.grow.fresh, fun i x e => gn i x (S.grow.gens i x e), fun h => br (S.grow.bare h), os.trans S.grow.os⟩, up₂.ns (up₁.ns (up.ns S.ns)), S.offL, S.newL, fun p hp => ⟨nb _ _ (S.own p hp).1 (S.own p hp).2.1, (S.own p hp).2⟩, S.nd, (fun b hb => by
      obtain ⟨p, hp, rfl⟩ := List.mem_map.mp (hX b hb)
      have := nb _ _ (S.own p hp).1 (S.own p hp).2.1
      dsimp only at this ⊢; rw [this]; rfl), S.lo⟩
  all_goals (have nL : ∀ b, b ≠ L → b ∉ frs [env] := fun b hb hm => hb (by
      obtain ⟨env', he, hfr⟩ := List.mem_filterMap.mp hm
      rw [List.mem_singleton.mp he, hf] at hfr; cases hfr; rfl))
  · exact fun b o e => hB b o (S.in_ b o e) (nL b (by rintro rfl; rw [S.offL] at e; cases e))
  · exact fun b o hb e => hB b o (S.grow.keep b o hb e) (nL b (by rintro rfl; rw [S.newL] at e; cases e))
  · exact fun p hp => hB _ _ (S.own p hp).1 (nL _ (S.own p hp).2.1)
theorem catchesX {X' T' : String} {e : Addr} {x : Str} {np pos : PySem.Pos} {b₀ : Stmt} {suite : List Stmt} {rest : List ExceptHandler} {Q : Flow → Shared → Prop} (G : Amb w mg mb g) (F : FlownX X env g₀ s₀ L g m ow (.type X') e s)
    (hn : nsIn (Mine.hd.heap_1 w.params) mainGlobals x = some none) (hv : bootBuiltins x = some (.type T'))
    (hexc : isSubtype (.type T') (.type "BaseException") = pure true) (hnt : isSubtype (.type ((Manifest.find? T').elim "type" fun y => y.metatype)) (.type "tuple") = pure false) (hsub : isSubtype (.type X') (.type T') = pure true)
    (h : ∀ s', St X g₀ s₀ L g s' m ow → wpAny (model prg w) (A.mark (some (.ref e))) (execs (b₀ :: suite) env) Q (fun _ _ => False) s')
    (hne : x ≠ "__name__" := by decide) (hg : env.globals = mainGlobals := by rfl) (hb : env.builtins = builtinsNs := by rfl) (hkd : env.scope.kind = .function := by rfl) (hx : env.kindOf x = some .globalImplicit := by rfl) (hd : (x == ("__debug__" : Str)) = false := by decide) :
    wpAny (model prg w) A (handleBy (.ref e) env (.ExceptHandler (some (.Name x np)) none (b₀ :: suite) pos :: rest)) Q E s := by
  refine wpAny_handleBy_builtin (X := X') (T := T') (b := true) hexc hnt hsub (nmB G F.st hn hv hne ⟨rfl, F.type, ?_⟩ hg hb hkd hx hd)
  rw [if_pos rfl]
  exact F.lands fun s' F' => wpAny_noRaise (h s' F'.st)
theorem passesX {X' T' : String} {e : Addr} {x : Str} {np pos : PySem.Pos} {b₀ : Stmt} {suite : List Stmt} {rest : List ExceptHandler} {Q : Flow → Shared → Prop} (G : Amb w mg mb g) (F : FlownX X env g₀ s₀ L g m ow (.type X') e s)
    (hn : nsIn (Mine.hd.heap_1 w.params) mainGlobals x = some none) (hv : bootBuiltins x = some (.type T'))
    (hexc : isSubtype (.type T') (.type "BaseException") = pure true) (hnt : isSubtype (.type ((Manifest.find? T').elim "type" fun y => y.metatype)) (.type "tuple") = pure false) (hsub : isSubtype (.type X') (.type T') = pure false)
    (h : wpAny (model prg w) A (handleBy (.ref e) env rest) Q E s)
    (hne : x ≠ "__name__" := by decide) (hg : env.globals = mainGlobals := by rfl) (hb : env.builtins = builtinsNs := by rfl) (hkd : env.scope.kind = .function := by rfl) (hx : env.kindOf x = some .globalImplicit := by rfl) (hd : (x == ("__debug__" : Str)) = false := by decide) :
    wpAny (model prg w) A (handleBy (.ref e) env (.ExceptHandler (some (.Name x np)) none (b₀ :: suite) pos :: rest)) Q E s := by
  refine wpAny_handleBy_builtin (X := X') (T := T') (b := false) hexc hnt hsub (nmB G F.st hn hv hne ⟨rfl, F.type, ?_⟩ hg hb hkd hx hd)
  rw [if_neg Bool.false_ne_true]
  exact h
theorem St.unfreeze {g' : Heap} {tl : List (Addr × Obj)} (S : St X g₀ s₀ L g' s m ow) (h0 : Sub g₀ g) (h : Sub g g') (ht : ∀ p ∈ tl, g'.get? p.1 = some p.2 ∧ g.get? p.1 = none ∧ s₀.heap.get? p.1 = none) (nd : (ks tl).Nodup) : St X g₀ s₀ L g s m (ow ++ tl) := by
  have S' := S.shrink h0 h
  refine ⟨S'.grow, S'.ns, S'.offL, S'.newL, fun p hp => ?_, ?_, S'.xin, S'.lo⟩
  · rcases List.mem_append.mp hp with hp | hp
    · exact S'.own p hp
    · have z := ht p hp
      refine ⟨S.in_ _ _ z.1, fun e => ?_, z.2.1, .inr z.2.2⟩
      have z1 := z.1
      rw [e, S.offL] at z1; cases z1
  · rw [List.map_append]
    refine List.nodup_append.mpr ⟨S'.nd, nd, fun a ha b hb e => ?_⟩
    obtain ⟨p, hp, rfl⟩ := List.mem_map.mp ha
    obtain ⟨q, hq, e'⟩ := List.mem_map.mp hb
    have z := (ht q hq).1
    rw [e', ← e, (S.own p hp).2.2.1] at z; cases z
end
end Mine
namespace Mine
noncomputable def lawR (w : World) : FnRec (Mine.hd.heap_1 w.params) 352 := ⟨_, _, _, _, _, _, _, _, _, _, _, _, _, _, _, by k_is, by k_is⟩
noncomputable abbrev lawE (w : World) (L : Addr) : Env := envOfC (lawR w).qual (lawR w).scope L 352 (lawR w).cdv
theorem law_cells (w : World) (L : Addr) : cellsFrom (L + 1) (lawR w).scope.names [] = [(("place" : Str), L + 4), ("words", L + 3), ("places", L + 2), ("tree", L + 1)] := by rfl
theorem law_nd (w : World) : ((cellsFrom 0 (lawR w).scope.names []).map (·.1)).Nodup := by
  have e : (cellsFrom 0 (lawR w).scope.names []).map (·.1) = [("place" : Str), "words", "places", "tree"] := by rfl
  rw [e]; decide
theorem law_body (w : World) : (lawR w).body = (lawR w).body.drop 0 := rfl
end Mine
namespace Mine
section
variable {w : World} {mg mb : Str → Option Value} {A : Around} {g₀ g : Heap} {s₀ s : Shared} {L : Addr}
noncomputable abbrev LX : List Addr := [226, 162]
noncomputable abbrev lawO (L : Addr) (o1 o2 o3 o4 : Obj) (tp : Addr) (oT : Obj) (oP oQ : Obj) : List (Addr × Obj) := [(L + 4, o4), (L + 3, o3), (L + 2, o2), (L + 1, o1), (tp, oT), (226, oP), (162, oQ)]
structure LawB (w : World) (mg mb : Str → Option Value) (g : Heap) (m : Str → Option Value) (lab : Sym) (cs : List T) (nv : Value) (tp : Addr) (cv : Value) (ms : List Int) (k : Int) (oP oQ : Obj) : Prop where
  G : Amb w mg mb g
  Bm : BM mg g
  tape : TapeOk g cv ms
  k0 : 0 ≤ k
  mt : m "tape" = some (.ref tp)
  mn : m "node" = some nv
  node : Rd g nv (T.node lab cs).pd
  small : (T.node lab cs).Small 6
  notZ : NotZ lab
  P : PlOk oP
  Q : PlOk oQ
  size : (T.node lab cs).sz ≤ 364
theorem cells4 {cm : Str → Option Value} {n1 n2 n3 n4 : Str} {c1 c2 c3 c4 : Addr} {cells : List (Addr × Obj)} (x : CellsAre cm [(n1, c1), (n2, c2), (n3, c3), (n4, c4)] cells) :
    ∃ o1 o2 o3 o4, cells = [(c1, o1), (c2, o2), (c3, o3), (c4, o4)] ∧ o1.data = .cell (cm n1) ∧ o2.data = .cell (cm n2) ∧ o3.data = .cell (cm n3) ∧ o4.data = .cell (cm n4) := by
  cases x with | cons h1 x => cases x with | cons h2 x => cases x with | cons h3 x => cases x with | cons h4 x => cases x; exact ⟨_, _, _, _, rfl, h1, h2, h3, h4⟩
theorem St.add {X : List Addr} {m : Str → Option Value} {ow : List (Addr × Obj)} {a : Addr} {o : Obj} (S : St X g₀ s₀ L g s m ow) (h : s.heap.get? a = some o) (hg : g.get? a = none) (h0 : s₀.heap.get? a = none) (hL : a ≠ L) (ha : a ∉ ks ow) : St X g₀ s₀ L g s m ((a, o) :: ow) :=
  ⟨S.grow, S.ns, S.offL, S.newL, fun p hp => by
    rcases List.mem_cons.mp hp with rfl | hp
    · exact ⟨h, hL, hg, .inr h0⟩
    · exact S.own p hp, List.nodup_cons.mpr ⟨ha, S.nd⟩, S.xin, S.lo⟩
theorem permLaw {α : Type} (a b c d t p q : α) : [a, b, c, d, t, p, q].Perm [t, a, b, c, d, p, q] := permL [[a], [b], [c], [d], [t], [p], [q]] (is := [0, 1, 2, 3, 4, 5, 6]) (js := [4, 0, 1, 2, 3, 5, 6]) (by decide)
theorem szB5 : szB 5 ≤ 400 := by decide
theorem szB5' : szB 5 ≤ 364 := by decide
theorem law_start {sc : Value} {ns : List Int} {oP oQ : Obj} {R : Result → Shared → Prop} (hr : Room A 100) (G : Amb w mg mb g) (Bm : BM mg g) (hs : Sub g s.heap) (hsc : Rd g sc (.list (ns.map PyData.int))) (hz : ns.length ≤ 400)
    (hP : s.heap.get? 226 = some oP) (hPk : PlOk oP) (hPg : g.get? 226 = none) (hQ : s.heap.get? 162 = some oQ) (hQk : PlOk oQ) (hQg : g.get? 162 = none)
    (h : ∀ L s' g' m lab cs nv tp cv ms k tk n o1 o2 o3 o4, St LX g s L g' s' m (lawO L o1 o2 o3 o4 tp (tapeO cv k tk n) oP oQ) → LawB w mg mb g' m lab cs nv tp cv ms k oP oQ → o1.data = .cell none → o2.data = .cell none → o3.data = .cell none → o4.data = .cell none →
      wpAny (model prg w) (A.deeper (lawE w L)) (execs ((lawR w).body.drop 2) (lawE w L)) (fun fl s' => R (.ok (.ret (match fl with | .ret v => v | _ => .none))) s') (fun _ _ => False) s') : codeAny (model prg w) A (.call (.ref 352) ⟨[sc], []⟩) R s := by
  refine enterCX (ow := [(226, oP), (162, oQ)]) G hs hr (fun p hp => by
    rcases List.mem_cons.mp hp with rfl | hp
    · exact ⟨hP, hPg⟩
    · rw [List.mem_singleton.mp hp]; exact ⟨hQ, hQg⟩) (by simp) (lawR w).ho (lawR w).hcd (BindsTo.of_eq rfl) (kindsX rfl) (law_nd w) ?_ rfl rfl rfl
  intro L s₁ cells S hC
  try k_fold
  rw [law_cells] at hC
  obtain ⟨o4, o3, o2, o1, rfl, h4, h3, h2, h1⟩ := cells4 hC
  have S : St LX g s L g s₁ _ [(L + 4, o4), (L + 3, o3), (L + 2, o2), (L + 1, o1), (226, oP), (162, oQ)] := S
  have hr1 : ∀ env, Room (A.deeper env) 99 := fun env => Room.deeper (n := 99) hr
  rw [law_body]
  refine xAsn (fnG G S gTape kTape (arg1 (nmL S (v := sc) rfl (arg0 ⟨(G.keeps S.in_).K, ?_⟩))))
  refine wpAny_call (tape_spec ((hr1 _).le (by omega)) G S.in_ hsc hz fun tp cv ms tk s₂ g₂ gr htp htg hts hO => ?_)
  have S₂ := S.call gr
  have hoff : ∀ b o, s₁.heap.get? b = some o → tp ≠ b := fun b o e q => by rw [← q, hts] at e; cases e
  obtain ⟨oL, _, _, hoL, _⟩ := id S.ns
  have S₂ := S₂.add htp htg (S.back hts) (hoff _ _ hoL) fun hm => by
    obtain ⟨p, hp, e⟩ := List.mem_map.mp hm
    exact hoff _ _ (S.own p hp).1 e.symm
  have G₂ := G.keeps gr.sub
  refine stL S₂ fun s₂ S₂ => ?_
  refine xAsn (fnG G₂ S₂ gNode kNode (arg1 (nmL S₂ (v := .ref tp) rfl (arg1 (wpAny_Constant_int (arg1 (eLst (arg1 (wpAny_Constant_int (arg0 ?_))))))))))
  have S₂ := (S₂.toks (s₂.toks + 1)).toks (s₂.toks + 1 + 1)
  refine mkLst S₂ (sl (by simp)) fun D s₃ S₃ hD => arg0 ⟨(G₂.keeps S₃.in_).K, ?_⟩
  have S₃ := St.perm S₃ (ow' := (tp, tapeO cv 0 tk 0) :: (D, _) :: [(L + 4, o4), (L + 3, o3), (L + 2, o2), (L + 1, o1), (226, oP), (162, oQ)]) (.swap ..)
  have zt := S₃.own _ (.head _)
  have zD := S₃.own _ (.tail _ (.head _))
  have hne : tp ≠ D := fun e => by
    have := (List.nodup_cons.mp S₃.nd).1
    exact this (by rw [e]; exact .head _)
  refine wpAny_call (node_spec 5 0 rfl (by omega) _ g₂ _ tp D cv ms 0 tk 0 14 _ 0 _ _ ((hr1 _).le (by omega)) G₂ S₃.in_ zt.1 zD.1 zt.2.2.1 zD.2.2.1 hne hO (Int.le_refl _) fun lab cs v k' tk' n' r' rtk' rn' s₄ g₄ gr₄ ht' hk' hr' hht hsz rv hZ => ?_)
  have S₄ := (S₃.callY (Y := [(tp, tapeO cv 0 tk 0), (D, _)]) (Y' := [(tp, tapeO cv k' tk' n'), (D, lstO [.int r' rtk'] rn')]) (ow := [(L + 4, o4), (L + 3, o3), (L + 2, o2), (L + 1, o1), (226, oP), (162, oQ)]) gr₄ rfl fun p hp => by
    rcases List.mem_cons.mp hp with rfl | hp
    · exact ht'
    · rw [List.mem_singleton.mp hp]; exact hr')
  refine stL S₄ fun s₅ S₅ => ?_
  have S₅ := (St.perm S₅ (ow' := (D, lstO [.int r' rtk'] rn') :: (tp, tapeO cv k' tk' n') :: [(L + 4, o4), (L + 3, o3), (L + 2, o2), (L + 1, o1), (226, oP), (162, oQ)]) (.swap ..)).drop
  exact h L s₅ g₄ _ lab cs v tp cv ms k' tk' n' o1 o2 o3 o4 (S₅.perm (permLaw ..)) ⟨G₂.keeps gr₄.sub, Bm.mono (gr.sub.trans gr₄.sub), hO.mono gr₄.sub, hk', rfl, rfl, rv, ⟨hht, Nat.le_trans hsz szB5⟩, hZ, hPk, hQk, Nat.le_trans hsz szB5'⟩ h1 h2 h3 h4
end
end Mine
namespace Mine
theorem isT_lists2 {g : Heap} : (∀ {v t as}, IsT g v t as → ∀ a ∈ as, ∃ vs k, g.get? a = some (W.listOf vs k)) ∧ ∀ {vs ts as}, IsTs g vs ts as → ∀ a ∈ as, ∃ vs k, g.get? a = some (W.listOf vs k) :=
  IsT.both (P := fun _ _ as => ∀ a ∈ as, ∃ vs k, g.get? a = some (W.listOf vs k)) (Q := fun _ _ as => ∀ a ∈ as, ∃ vs k, g.get? a = some (W.listOf vs k)) (fun _ _ a h => nomatch h) (fun _ _ hl _ ih a h => by
    rcases List.mem_cons.mp h with rfl | h
    · exact ⟨_, _, hl⟩
    · exact ih a h) (fun a h => nomatch h) fun _ _ h1 h2 a h => (List.mem_append.mp h).elim (h1 a) (h2 a)
theorem isT_lists {g : Heap} {v : Value} {t : T} {as : List Addr} (x : IsT g v t as) : ∀ a ∈ as, ∃ vs k, g.get? a = some (W.listOf vs k) := isT_lists2.1 x
theorem isTs_lists {g : Heap} {vs : List Value} {ts : List T} {as : List Addr} (x : IsTs g vs ts as) : ∀ a ∈ as, ∃ vs k, g.get? a = some (W.listOf vs k) := isT_lists2.2 x
noncomputable def TreeIn (g : Heap) (tl : List (Addr × Obj)) (tv : Value) (t : T) : Prop := ∃ g1 as, IsT g1 tv t as ∧ as.Nodup ∧ ks tl = as ∧ (∀ p ∈ tl, g1.get? p.1 = some p.2) ∧ ∀ b o, b ∉ as → g1.get? b = some o → g.get? b = some o
theorem TreeIn.mono {g h : Heap} {tl : List (Addr × Obj)} {tv : Value} {t : T} (x : TreeIn g tl tv t) (k : Sub g h) : TreeIn h tl tv t :=
  let ⟨g1, as, a, b, c, d, e⟩ := x; ⟨g1, as, a, b, c, d, fun b o hb eb => k _ _ (e b o hb eb)⟩
theorem TreeIn.back {g h : Heap} {tl : List (Addr × Obj)} {tv : Value} {t : T} (x : TreeIn g tl tv t) (k : Sub g h) (ht : ∀ p ∈ tl, h.get? p.1 = some p.2) : ∃ as, IsT h tv t as ∧ as.Nodup ∧ ks tl = as := by
  obtain ⟨g1, as, a, b, c, d, e⟩ := x
  refine ⟨as, a.mono fun q o eq => ?_, b, c⟩
  by_cases hq : q ∈ as
  · rw [← c] at hq
    obtain ⟨p, hp, rfl⟩ := List.mem_map.mp hq
    rw [d p hp] at eq; cases eq; exact ht p hp
  · exact k _ _ (e q o hq eq)
section
variable {w : World} {mg mb : Str → Option Value} {A : Around} {X : List Addr} {m : Str → Option Value} {ow : List (Addr × Obj)} {g₀ g : Heap} {s₀ s : Shared} {L : Addr}
theorem aside {g2 : Heap} {s2 : Shared} {tv : Value} {t : T} {as : List Addr} (S : St X g₀ s₀ L g s m ow) (S2 : St X g₀ s₀ L g2 s2 m ow) (k : Sub g g2) (hT : IsT g2 tv t as) (nd : as.Nodup) (hn : ∀ a ∈ as, s.heap.get? a = none) :
    ∃ gF tl, Sub g gF ∧ Sub gF g2 ∧ TreeIn gF tl tv t ∧ St X g₀ s₀ L gF s2 m (ow ++ tl) := by
  have hF : ∀ {b o}, (restrict g2 fun b => !decide (b ∈ as)).get? b = some o ↔ g2.get? b = some o ∧ b ∉ as := fun {b o} => by
    rw [restrict_some]; simp
  have k1 : Sub g (restrict g2 fun b => !decide (b ∈ as)) := fun b o e => hF.mpr ⟨k b o e, fun hm => by
    have := S.in_ _ _ e; rw [hn b hm] at this; cases this⟩
  have k2 : Sub (restrict g2 fun b => !decide (b ∈ as)) g2 := fun b o e => (hF.mp e).1
  have hl := isT_lists hT
  have hk : ks (as.map fun a => (a, (g2.get? a).getD (W.listOf #[] 0))) = as := by
    rw [ks, List.map_map]; exact List.map_id _
  have ht : ∀ p ∈ as.map fun a => (a, (g2.get? a).getD (W.listOf #[] 0)), p.1 ∈ as ∧ g2.get? p.1 = some p.2 := fun p hp => by
    obtain ⟨a, ha, rfl⟩ := List.mem_map.mp hp
    obtain ⟨vs, kk, e⟩ := hl a ha
    exact ⟨ha, by dsimp only; rw [e]; rfl⟩
  refine ⟨_, as.map fun a => (a, (g2.get? a).getD (W.listOf #[] 0)), k1, k2, ⟨g2, as, hT, nd, hk, fun p hp => (ht p hp).2, fun b o hb e => hF.mpr ⟨e, hb⟩⟩, S2.unfreeze (S.grow.sub.trans k1) k2 (fun p hp => ⟨(ht p hp).2, none_of fun o e => (hF.mp e).2 (ht p hp).1, S.back (hn _ (ht p hp).1)⟩) (by rw [hk]; exact nd)⟩
theorem asked {tl : List (Addr × Obj)} {tv : Value} {t : T} (hX : ∀ p ∈ tl, p.1 ∉ X) (S : St X g₀ s₀ L g s m (ow ++ tl)) (x : TreeIn g tl tv t) :
    ∃ gT as, Sub g gT ∧ IsT gT tv t as ∧ as.Nodup ∧ St X g₀ s₀ L gT s m ow ∧
      ∀ g2 s2 m2 ow2, Sub gT g2 → St X g₀ s₀ L g2 s2 m2 ow2 → ∃ gF, Sub g gF ∧ Sub gF g2 ∧ (∀ b o, b ∉ as → g2.get? b = some o → gF.get? b = some o) ∧ St X g₀ s₀ L gF s2 m2 (ow2 ++ tl) := by
  obtain ⟨gT, k1, h2, h3, S1⟩ := (S.perm (List.perm_append_comm (l₁ := tl) (l₂ := ow))).freezes hX
  obtain ⟨as, hT, nd, hk⟩ := x.back k1 h2
  refine ⟨gT, as, k1, hT, nd, S1, fun g2 s2 m2 ow2 k S2 => ?_⟩
  have hF : ∀ {b o}, (restrict g2 fun b => !decide (b ∈ as)).get? b = some o ↔ g2.get? b = some o ∧ b ∉ as := fun {b o} => by
    rw [restrict_some]; simp
  have off : ∀ p ∈ tl, g.get? p.1 = none ∧ s₀.heap.get? p.1 = none := fun p hp => by
    have z := S.own p (List.mem_append.mpr (.inr hp))
    exact ⟨z.2.2.1, z.2.2.2.resolve_left (hX p hp)⟩
  have k3 : Sub g (restrict g2 fun b => !decide (b ∈ as)) := fun b o e => hF.mpr ⟨k _ _ (k1 b o e), fun hm => by
    rw [← hk] at hm
    obtain ⟨p, hp, rfl⟩ := List.mem_map.mp hm
    rw [(off p hp).1] at e; cases e⟩
  have k4 : Sub (restrict g2 fun b => !decide (b ∈ as)) g2 := fun b o e => (hF.mp e).1
  refine ⟨_, k3, k4, fun b o hb e => hF.mpr ⟨e, hb⟩, S2.unfreeze (S.grow.sub.trans k3) k4 (fun p hp => ⟨k _ _ (h2 p hp), none_of fun o e => (hF.mp e).2 (by rw [← hk]; exact List.mem_map.mpr ⟨p, hp, rfl⟩), (off p hp).2⟩) (by rw [hk]; exact nd)⟩
end
end Mine
namespace Mine
theorem LawB.mono {w : World} {mg mb : Str → Option Value} {g g' : Heap} {m m' : Str → Option Value} {lab : Sym} {cs : List T} {nv : Value} {tp : Addr} {cv : Value} {ms : List Int} {k : Int} {oP oQ : Obj} (x : LawB w mg mb g m lab cs nv tp cv ms k oP oQ) (h : Sub g g') (e1 : m' "tape" = m "tape") (e2 : m' "node" = m "node") : LawB w mg mb g' m' lab cs nv tp cv ms k oP oQ :=
  ⟨x.G.keeps h, x.Bm.mono h, x.tape.mono h, x.k0, e1.trans x.mt, e2.trans x.mn, x.node.mono h, x.small, x.notZ, x.P, x.Q, x.size⟩
section
variable {w : World} {mg mb : Str → Option Value} {A : Around} {E : Value → Shared → Prop} {m : Str → Option Value} {g₀ g : Heap} {s₀ s : Shared} {L : Addr} {lab : Sym} {cs : List T} {nv : Value} {tp : Addr} {cv : Value} {ms : List Int} {k : Int} {tk : Tok} {n : Nat} {oP oQ o1 o2 o3 o4 : Obj} {Q : Flow → Shared → Prop} {tl : List (Addr × Obj)}
theorem tlX (S : St LX g₀ s₀ L g s m (lawO L o1 o2 o3 o4 tp (tapeO cv k tk n) oP oQ ++ tl)) : ∀ p ∈ tl, p.1 ∉ LX := fun p hp hm => by
  have nd := S.nd
  rw [List.map_append] at nd
  refine (List.nodup_append.mp nd).2.2 p.1 ?_ p.1 (List.mem_map.mpr ⟨p, hp, rfl⟩) rfl
  simp only [LX, List.mem_cons, List.not_mem_nil, or_false] at hm
  rcases hm with h | h <;> simp [h]
theorem law_s2 (hr : Room A 99) (S : St LX g₀ s₀ L g s m (lawO L o1 o2 o3 o4 tp (tapeO cv k tk n) oP oQ)) (Bk : LawB w mg mb g m lab cs nv tp cv ms k oP oQ) (h1 : o1.data = .cell none)
    (h : ∀ g' s' tv tl o1', St LX g₀ s₀ L g' s' m (lawO L o1' o2 o3 o4 tp (tapeO cv k tk n) oP oQ ++ tl) → LawB w mg mb g' m lab cs nv tp cv ms k oP oQ → TreeIn g' tl tv (.node lab cs) → o1'.data = .cell (some tv) → wpAny (model prg w) A (execs ((lawR w).body.drop 3) (lawE w L)) Q E s') :
    wpAny (model prg w) A (execs ((lawR w).body.drop 2) (lawE w L)) Q E s := by
  have G := Bk.G
  refine xAsn (fnG G S gBuilt kBuilt (arg1 (nmL S (v := nv) Bk.mn (arg0 ⟨(G.keeps S.in_).K, ?_⟩))))
  refine wpAny_call (built_spec 6 _ Bk.small _ g _ _ _ (hr.le (by omega)) G S.in_ Bk.node fun tv as s₂ g₂ gr hT nd hn => ?_)
  have S₂ := S.call gr
  obtain ⟨gF, tl, k1, k2, hTI, S₃⟩ := aside S S₂ gr.sub hT nd hn
  refine stC (pre := [(L + 4, o4), (L + 3, o3), (L + 2, o2)]) (ow := [(tp, tapeO cv k tk n), (226, oP), (162, oQ)] ++ tl) S₃ h1 fun o1' s₄ hd S₄ => ?_
  exact h gF s₄ tv tl o1' S₄ (Bk.mono k1 rfl rfl) hTI hd
theorem law_s3 (hr : Room A 99) (S : St LX g₀ s₀ L g s m (lawO L o1 o2 o3 o4 tp (tapeO cv k tk n) oP oQ ++ tl)) (Bk : LawB w mg mb g m lab cs nv tp cv ms k oP oQ) (h2 : o2.data = .cell none)
    (h : ∀ g' s' pv o2', Sub g g' → St LX g₀ s₀ L g' s' m (lawO L o1 o2' o3 o4 tp (tapeO cv k tk n) oP oQ ++ tl) → LawB w mg mb g' m lab cs nv tp cv ms k oP oQ → Rd g' pv (.list ((places (.node lab cs) []).map prD)) → o2'.data = .cell (some pv) → wpAny (model prg w) A (execs ((lawR w).body.drop 4) (lawE w L)) Q E s') :
    wpAny (model prg w) A (execs ((lawR w).body.drop 3) (lawE w L)) Q E s := by
  have G := Bk.G
  refine xAsn (fnG G S gfplaces kfplaces (arg1 (nmL S (v := nv) Bk.mn (arg1 (eTup (arg0 (mkTup S .nil (sl (by simp)) fun z g₁ s₁ k₁ r₁ S₁ => arg0 ⟨((G.keeps k₁).keeps S₁.in_).K, ?_⟩)))))))
  have G₁ := G.keeps k₁
  refine wpAny_call (fplaces_spec 6 _ Bk.small _ g₁ _ _ _ [] _ (hr.le (by omega)) G₁ S₁.in_ (Bk.node.mono k₁) r₁ (by simp) fun pv s₂ g₂ gr hp => ?_)
  have S₂ := S₁.call gr
  refine stC (pre := [(L + 4, o4), (L + 3, o3)]) (ow := [(L + 1, o1), (tp, tapeO cv k tk n), (226, oP), (162, oQ)] ++ tl) S₂ h2 fun o2' s₄ hd S₄ => ?_
  exact h g₂ s₄ pv o2' (k₁.trans gr.sub) S₄ (Bk.mono (k₁.trans gr.sub) rfl rfl) hp hd
end
end Mine
namespace Mine
theorem wordsOf_snoc (l : List (Plc × T)) (x : Plc × T) : wordsOf (l ++ [x]) = wordsOf l ++ (if x.2.isLeaf = true then [x] else []) := by
  unfold wordsOf
  rw [List.filter_append]
  congr 1
  by_cases h : x.2.isLeaf = true
  · simp [h]
  · simp [h]
section
variable {w : World} {mg mb : Str → Option Value} {A : Around} {E : Value → Shared → Prop} {X : List Addr} {m : Str → Option Value} {ow : List (Addr × Obj)} {env : Env} {g₀ g : Heap} {s₀ s : Shared} {L : Addr} {lab : Sym} {cs : List T} {nv : Value} {tp : Addr} {cv : Value} {ms : List Int} {k : Int} {tk : Tok} {n : Nat} {oP oQ o1 o2 o3 o4 : Obj} {Q : Flow → Shared → Prop} {tl : List (Addr × Obj)}
theorem tRow1 {x : Str} {v : Value} {r : Plc × T} {p p2 p3 p4 p5 pos : PySem.Pos} {Q : Bool → Shared → Prop} (G : Amb w mg mb g) (S : St X g₀ s₀ L g s m ow) (hx0 : m x = some v) (rv : Rd g v (prD r))
    (h : ∀ s', St X g₀ s₀ L g s' m ow → Q r.2.isLeaf s')
    (hL : env.locals = L := by rfl) (hl : env.kindOf x = some .local := by rfl) (hd : (x == ("__debug__" : Str)) = false := by decide)
    (hg : env.globals = mainGlobals := by rfl) (hb : env.builtins = builtinsNs := by rfl) (hkd : env.scope.kind = .function := by rfl) (hx : env.kindOf "isinstance" = some .globalImplicit := by rfl) (hx2 : env.kindOf "str" = some .globalImplicit := by rfl) :
    wpAny (model prg w) A (isTrue (.Call (.Name "isinstance" p) [.Subscript (.Name x p3) (.Constant (.int 1) 0 p4) p5, .Name "str" p2] [] pos) env (eval (.Call (.Name "isinstance" p) [.Subscript (.Name x p3) (.Constant (.int 1) 0 p4) p5, .Name "str" p2] [] pos) env)) Q E s := by
  refine tIsiB G S gStr bStr (Subscript_ (nmL S hx0 (wpAny_Constant_int ?_) hL hkd hl hd)) (by decide) hg hb hkd hx hx2
  have S := S.toks (s.toks + 1)
  rw [prD] at rv
  refine itRdT S rv (by decide) (d := r.2.pd) rfl (by decide) fun y ry => ⟨m, S, ?_⟩
  obtain ⟨q, t⟩ := r
  dsimp only at ry ⊢
  cases t with
  | leaf z =>
    obtain ⟨u, rfl⟩ := ry.asStr
    exact isiS_str G S fun s' S' => ⟨_, rfl, h s' S'⟩
  | node l2 c2 =>
    rw [T.pd] at ry
    exact isiS_list G S ry fun s' S' => ⟨_, rfl, h s' S'⟩
theorem headX {D : Addr} {oD oT : Obj} {m : Str → Option Value} (S : St LX g₀ s₀ L g s m ((D, oD) :: (lawO L o1 o2 o3 o4 tp oT oP oQ ++ tl))) : D ∉ LX := fun hm => by
  have nd := (List.nodup_cons.mp S.nd).1
  simp only [LX, List.mem_cons, List.not_mem_nil, or_false] at hm
  rcases hm with h | h <;> exact nd (by simp [h])
theorem law_s4 (hr : Room A 99) {pv : Value} (S : St LX g₀ s₀ L g s m (lawO L o1 o2 o3 o4 tp (tapeO cv k tk n) oP oQ ++ tl)) (Bk : LawB w mg mb g m lab cs nv tp cv ms k oP oQ) (h2 : o2.data = .cell (some pv)) (hp : Rd g pv (.list ((places (.node lab cs) []).map prD))) (h3 : o3.data = .cell none)
    (h : ∀ g' s' wv o3', Sub g g' → St LX g₀ s₀ L g' s' m (lawO L o1 o2 o3' o4 tp (tapeO cv k tk n) oP oQ ++ tl) → LawB w mg mb g' m lab cs nv tp cv ms k oP oQ → Rd g' wv (.list ((wordsOf (places (.node lab cs) [])).map prD)) → o3'.data = .cell (some wv) → wpAny (model prg w) A (execs ((lawR w).body.drop 5) (lawE w L)) Q E s') :
    wpAny (model prg w) A (execs ((lawR w).body.drop 4) (lawE w L)) Q E s := by
  have G := Bk.G
  obtain ⟨l, vs, rfl, hl, rvs⟩ := hp.asList
  have hz : (places (.node lab cs) []).length ≤ 400 := by rw [places_len]; exact Bk.small.sz
  refine xAsn (lcEval (cl := []) rfl rfl (by decide) (nmC (c := L + 2) (v := .ref l) ⟨o2, S.get (.tail _ (.tail _ (.head _))), h2⟩ ?_))
  refine compL2 hr.1 S hl (by rw [rvs.length, List.length_map]; exact sl (by omega)) (by decide) rfl rfl (fun i g' ys => RdA g' ys ((wordsOf ((places (.node lab cs) []).take i)).map prD)) (by exact .nil) ?_ ?_
  · intro i v I oi se C g' s' mC ys ow2 Se hv hg hJ S'
    have G' := G.keeps hg
    obtain ⟨d, hd, rv⟩ := rvs.get' hv
    rw [List.getElem?_map] at hd
    obtain ⟨r, hr', rfl⟩ := Option.map_eq_some_iff.mp hd
    have rv := rv.mono hg
    refine tRow1 G' S' (v := v) rfl rv fun s₃ S₃ => ?_
    have e := take_snoc hr'
    cases hb : r.2.isLeaf with
    | true =>
      rw [if_pos rfl]
      refine nmL S₃ (v := v) rfl ⟨g', _, .refl _, S₃, ?_⟩
      rw [e, wordsOf_snoc, if_pos hb, List.map_append]
      exact hJ.append (.cons rv .nil)
    | false =>
      rw [if_neg Bool.false_ne_true]
      refine ⟨g', _, .refl _, S₃, ?_⟩
      rw [e, wordsOf_snoc, if_neg (by rw [hb]; decide), List.append_nil]
      exact hJ
  · intro D g' s' ys kk hg hJ S'
    rw [rvs.length, List.length_map, List.take_length] at hJ
    obtain ⟨g₂, k₂, e₂, _, S₂⟩ := S'.freeze (headX S')
    refine stC (pre := [(L + 4, o4)]) (ow := [(L + 2, o2), (L + 1, o1), (tp, tapeO cv k tk n), (226, oP), (162, oQ)] ++ tl) S₂ h3 fun o3' s₄ hd S₄ => ?_
    exact h g₂ s₄ _ o3' (hg.trans k₂) S₄ (Bk.mono (hg.trans k₂) rfl rfl) (.list (isList_of e₂) (hJ.mono k₂)) hd
end
end Mine
namespace Mine
section
variable {w : World} {mg mb : Str → Option Value} {M : Model} {A : Around} {E : Value → Shared → Prop} {X : List Addr} {g₀ g : Heap} {s₀ s : Shared} {L C : Addr} {m mC : Str → Option Value} {ow : List (Addr × Obj)} {env : Env}
theorem permU {α : Type} (D I L : α) (r : List α) : ([I] ++ D :: L :: r).Perm (L :: D :: I :: r) := permL [[I], [D], [L], r] (is := [0, 1, 2, 3]) (js := [2, 1, 0, 3]) (by decide)
theorem xAsnC {elt iter target : Expr} {y : Str} {py : PySem.Pos} {ifs : List Expr} {scope : Scope} {cl : List (Str × Addr)} {pos spos : PySem.Pos} {rest : List Stmt} {Q : Flow → Shared → Prop}
    (hclos : closureFor scope env = pure cl) (hkind : scope.kind = .function) (hnames : ∀ z ∈ scope.names, z.2 = .local → scope.names.lookup z.1 = some .local)
    (h : wpAny (model prg w) A (eval iter env) (fun xv s₁ => wpAny (model prg w) A (pyIter xv) (fun it s₂ => wpAny (model prg w) A (newList []) (fun acc s₃ => wpAny (model prg w) A (newFunctionEnv scope env.globals cl [] env.qual none .none (some env)) (fun cenv s₄ =>
      codeAny (model prg w) A (.compStart (.ListComp elt [⟨target, iter, ifs, 0⟩] scope pos) 0 it acc { cenv with scope := relabel scope env }) (compPost (model prg w) A E (some (assign (.Name y py) env)) (fun _ s' => wpAny (model prg w) A (execs rest env) Q E s') acc cenv.locals) s₄) E s₃) E s₂) E s₁) E s)
    (hsw : swapsWith (.ListComp elt [⟨target, iter, ifs, 0⟩] scope pos) (some (.Name y py)) spos.line env = pure true := by rfl)
    (hs : ∀ x, foldedSetIterable iter env x = pure x := by intro _; rfl) : wpAny (model prg w) A (execs (.Assign [.Name y py] (.ListComp elt [⟨target, iter, ifs, 0⟩] scope pos) spos :: rest) env) Q E s := by
  refine wpAny_execs_cons ?_
  rw [exec_Assign_Name_used _ _ _ _ hsw]
  refine wpAny_bind (wpAny_standAt (wpAny_bind ?_))
  show wpAny _ A (do let _ ← comprehension (.ListComp elt [⟨target, iter, ifs, 0⟩] scope pos) scope env _ (newList []) false (eval iter env) (some (assign (.Name y py) env))) _ _ s
  exact wpAny_bind (wpAny_mono (wpAny_comprehension_free (use := some (assign (.Name y py) env)) (Q := fun _ s' => wpAny (model prg w) A (execs rest env) Q E s') rfl hs hclos hkind hnames h) (fun _ s' hq => wpAny_pure (wpAny_pure hq)) fun _ _ e => e)
theorem compU {elt iter : Expr} {x y : Str} {px py : PySem.Pos} {ifs : List Expr} {scope : Scope} {cl : List (Str × Addr)} {pos : PySem.Pos} {l : Addr} {vs : List Value} {Q : Shared → Prop}
    (hh : A.handled = none) (hXlo : ∀ b ∈ X, b < 353) (G : Amb w mg mb g) (S : St X g₀ s₀ L g s m ow) (hl : g.IsList l vs.toArray) (hsz : vs.length ≤ 900)
    (hcell : ∀ y ∈ scope.names, y.2 ≠ .cell) (hkind : scope.kind = .function) (hx : scope.names.lookup x = some .local)
    (J : Nat → Heap → List Value → Prop) (h0 : J 0 g [])
    (turn : ∀ i v C g' s' mC ys ow2, vs[i]? = some v → Sub g g' → J i g' ys → (∀ p ∈ ow, p ∈ ow2) → St X g₀ s₀ C g' s' (upd mC x v) ow2 →
      wpAny (model prg w) A (forIn ifs true fun c r => if r = true then do let ok ← isTrue c (compEnvC scope cl C env) (eval c (compEnvC scope cl C env)); pure (ForInStep.yield ok) else pure (ForInStep.yield r)) (fun ok s₃ =>
          if ok = true then wpAny (model prg w) A (eval elt (compEnvC scope cl C env)) (fun y s₄ => ∃ g₄ m₄, Sub g' g₄ ∧ St X g₀ s₀ C g₄ s₄ m₄ ow2 ∧ J (i + 1) g₄ (ys ++ [y])) (fun _ _ => False) s₃
          else ∃ g₃ m₃, Sub g' g₃ ∧ St X g₀ s₀ C g₃ s₃ m₃ ow2 ∧ J (i + 1) g₃ ys) (fun _ _ => False) s')
    (done : ∀ D g' s' ys k, Sub g g' → J vs.length g' ys → St X g₀ s₀ L g' s' (upd m y (.ref D)) ((D, lstO ys k) :: ow) → Q s')
    (hL : env.locals = L := by rfl) (hek : env.scope.kind = .function := by rfl) (hy : env.kindOf y = some .local := by rfl) :
    wpAny (model prg w) A (pyIter (.ref l)) (fun it s₂ => wpAny (model prg w) A (newList []) (fun acc s₃ => wpAny (model prg w) A (newFunctionEnv scope env.globals cl [] env.qual none .none (some env)) (fun cenv s₄ =>
      codeAny (model prg w) A (.compStart (.ListComp elt [⟨.Name x px, iter, ifs, 0⟩] scope pos) 0 it acc { cenv with scope := relabel scope env }) (compPost (model prg w) A E (some (assign (.Name y py) env)) (fun _ s' => Q s') acc cenv.locals) s₄) E s₃) E s₂) E s := by
  refine wpAny_pyIter_list (IsList.mono S.in_ hl) ?_
  have SI := S.push { cls := .type "list_iterator", data := .fields #[.ref l, .int 0 0] }
  have hIlo : 353 ≤ s.heap.objs.size := Amb.lo (G.keeps S.in_)
  generalize hs1 : ({ s with heap := s.heap.push { cls := .type "list_iterator", data := .fields #[.ref l, .int 0 0] } } : Shared) = s1 at *
  generalize s.heap.objs.size = I at *
  refine wpAny_newObj_type ?_
  have SD := SI.push (listOf ([] : List Value).toArray 0)
  refine wpAny_newFunctionEnv hcell (by intro y hy; simp at hy) (fun h₁ hns₁ hsb₁ => ?_) hkind
  have SC := SD.push { cls := .type "dict", data := .dict #[] }
  obtain ⟨oC, hoC, hnC⟩ := ns_obj (s := { s1 with heap := h₁ }) hns₁
  have S₁ := St.upd (pre := []) SC hsb₁ hoC
  have S₁ := S₁.toks s1.toks
  dsimp only at hns₁ S₁ ⊢
  have hclo : 353 ≤ (s1.heap.push (listOf ([] : List Value).toArray 0)).objs.size := Amb.lo (G.keeps SD.in_)
  have hCX : (s1.heap.push (listOf ([] : List Value).toArray 0)).objs.size ∉ X := fun hm => absurd (hXlo _ hm) (Nat.not_lt.mpr hclo)
  have hLX : L ∉ X := fun hm => absurd (hXlo _ hm) (Nat.not_lt.mpr S.lo)
  have hIX : I ∉ X := fun hm => absurd (hXlo _ hm) (Nat.not_lt.mpr hIlo)
  obtain ⟨oL, hnL, S₂⟩ := St.into S₁ hCX (by exact hns₁) hclo
  generalize (s1.heap.push (listOf ([] : List Value).toArray 0)).objs.size = C at *
  generalize s1.heap.objs.size = D at *
  have loop : ∀ s₃ : Shared, s₃ = { s1 with heap := h₁, toks := s1.toks } →
      codeAny (model prg w) A (.compLoop (.ListComp elt [⟨.Name x px, iter, ifs, 0⟩] scope pos) 0 (.ref I) (.ref D) (compEnvC scope cl C env)) (compPost (model prg w) A E (some (assign (.Name y py) env)) (fun _ s' => Q s') (.ref D) C) s₃ := by
    rintro s₃ rfl
    refine codeAny_compLoop_tests (fun k s' => ∃ i it g' mC ys e, i + k = vs.length ∧ ys.length ≤ i ∧ ItL I l i it ∧ ks it = [I] ∧ Sub g g' ∧ J i g' ys ∧ St X g₀ s₀ C g' s' mC (it ++ (D, lstO ys e) :: (L, oL) :: ow)) ?_ vs.length
      ⟨0, [(I, _)], g, _, [], 0, Nat.zero_add _, Nat.le_refl _, ⟨_, rfl, fun h e => ⟨_, e, rfl, rfl⟩⟩, rfl, .refl _, h0, S₂.perm (permU ..)⟩
    rintro k s' ⟨i, it, g', mC', ys, e, hk, hys, hit, hki, hg, hJ, S'⟩
    have hl' : g'.IsList l vs.toArray := IsList.mono hg hl
    cases k with
    | zero =>
      have hi : i = vs.length := by omega
      subst hi
      refine endL hh hl' hit hIX S' fun s₄ S₄ => ?_
      have S₄ := S₄.perm (.swap (D, lstO ys e) (L, oL) ow)
      obtain ⟨oC₂, hnC₂, S₅⟩ := St.into S₄ hLX (hnL _ (S₄.own _ (.head _)).1) S.lo
      show wpAny _ A (assign (.Name y py) env (.ref D)) _ _ _
      refine wpAny_assign_Name (stL S₅ (fun s₆ S₆ => ?_) hL hek hy)
      try (show wpAny _ _ _ _ _ _; k_fold)
      refine ⟨_, hnC₂ _ (S₆.own _ (.head _)).1, fun h₃ hs₃ => ?_⟩
      refine done D g' _ ys e hg hJ ?_
      exact St.turn1 (Y := [(C, oC₂)]) (Y' := []) (tk := s₆.toks) (h' := h₃) S₆ (fun b o hb e => (hs₃.2 b (fun q => hb (by simp [q]))).trans e) (fun p hp => nomatch hp) List.nodup_nil (fun b hb hm => absurd hb (by rw [List.mem_singleton.mp hm]; exact hCX))
    | succ k =>
      refine nextL hh hl' (by omega) hit hIX S' fun v it' s₂ hv hit' hki' S₂ => ?_
      refine wpAny_noRaise (wpAny_assign_Name (stL S₂ (fun s₃ S₃ => ?_) rfl (by simp [compEnvC, relabel, hkind]) (lookup_relabel_local hx)))
      refine wpAny_mono (turn i v C g' s₃ mC' ys _ hv hg hJ (fun p hp => List.mem_append.mpr (.inr (.tail _ (.tail _ hp)))) S₃) (fun ok s₄ t₄ => ?_) fun _ _ x => x.elim
      cases ok with
      | true =>
        rw [if_pos rfl] at t₄ ⊢
        refine wpAny_noRaise (wpAny_mono t₄ (fun y s₄ t₄ => ?_) fun _ _ x => x.elim)
        obtain ⟨g₄, m₄, hg₄, S₄, hJ₄⟩ := t₄
        refine appendL (pre := it') S₄ (sl (by omega)) fun s₅ S₅ => ?_
        exact ⟨k, Nat.lt_succ_self _, i + 1, it', g₄, m₄, ys ++ [y], e + 1, by omega, by rw [List.length_append, List.length_singleton]; omega, hit', hki', hg.trans hg₄, hJ₄, S₅⟩
      | false =>
        rw [if_neg Bool.false_ne_true] at t₄ ⊢
        obtain ⟨g₃, m₃, hg₃, S₃, hJ₃⟩ := t₄
        exact ⟨k, Nat.lt_succ_self _, i + 1, it', g₃, m₃, ys, e, by omega, by omega, hit', hki', hg.trans hg₃, hJ₃, S₃⟩
  exact codeAny_compStart_list (loop _ rfl) ((Walks.list (prog := prg) (w := w) hh I l (fun e => by
    obtain ⟨o, ho, _⟩ := hl
    have := (SI.own _ (.head _)).2.2.1
    dsimp only at this
    rw [← e, ho] at this; cases this) vs.toArray).self 0 _ _ _ ⟨⟨_, S₂.get (.tail _ (.tail _ (.head _))), rfl, rfl⟩, IsList.mono S₂.in_ hl⟩ (loop _ rfl))
end
end Mine
namespace Mine
noncomputable def innerOf (l : List (Plc × T)) : List T := (l.filter fun x => !x.2.isLeaf).map (·.2)
theorem innerOf_snoc (l : List (Plc × T)) (x : Plc × T) : innerOf (l ++ [x]) = innerOf l ++ (if x.2.isLeaf = true then [] else [x.2]) := by
  unfold innerOf
  rw [List.filter_append, List.map_append]
  congr 1
  by_cases h : x.2.isLeaf = true
  · simp [h]
  · simp [h]
section
variable {w : World} {mg mb : Str → Option Value} {A : Around} {E : Value → Shared → Prop} {X : List Addr} {m : Str → Option Value} {ow : List (Addr × Obj)} {env : Env} {g₀ g : Heap} {s₀ s : Shared} {L : Addr} {lab : Sym} {cs : List T} {nv : Value} {tp : Addr} {cv : Value} {ms : List Int} {k : Int} {tk : Tok} {n : Nat} {oP oQ o1 o2 o3 o4 : Obj} {Q : Flow → Shared → Prop} {tl : List (Addr × Obj)}
theorem LX_lo : ∀ b ∈ LX, b < 353 := by decide
theorem law_s5 (hr : Room A 99) {pv : Value} (S : St LX g₀ s₀ L g s m (lawO L o1 o2 o3 o4 tp (tapeO cv k tk n) oP oQ ++ tl)) (Bk : LawB w mg mb g m lab cs nv tp cv ms k oP oQ) (h2 : o2.data = .cell (some pv)) (hp : Rd g pv (.list ((places (.node lab cs) []).map prD)))
    (h : ∀ g' s' iv, Sub g g' → St LX g₀ s₀ L g' s' (upd m "inner" iv) (lawO L o1 o2 o3 o4 tp (tapeO cv k tk n) oP oQ ++ tl) → LawB w mg mb g' (upd m "inner" iv) lab cs nv tp cv ms k oP oQ → Rd g' iv (.list (T.pdL (T.node lab cs).inner)) → wpAny (model prg w) A (execs ((lawR w).body.drop 6) (lawE w L)) Q E s') :
    wpAny (model prg w) A (execs ((lawR w).body.drop 5) (lawE w L)) Q E s := by
  have G := Bk.G
  obtain ⟨l, vs, rfl, hl, rvs⟩ := hp.asList
  have hz : (places (.node lab cs) []).length ≤ 400 := by rw [places_len]; exact Bk.small.sz
  refine xAsnC (cl := []) rfl rfl (by decide) (nmC (c := L + 2) (v := .ref l) ⟨o2, S.get (.tail _ (.tail _ (.head _))), h2⟩ ?_)
  refine compU hr.1 LX_lo G S hl (by rw [rvs.length, List.length_map]; omega) (by decide) rfl rfl (fun i g' ys => RdA g' ys (T.pdL (innerOf ((places (.node lab cs) []).take i)))) (by exact .nil) ?_ ?_
  · intro i v C g' s' mC ys ow2 hv hg hJ hmem S'
    have G' := G.keeps hg
    obtain ⟨d, hd, rv⟩ := rvs.get' hv
    rw [List.getElem?_map] at hd
    obtain ⟨r, hr', rfl⟩ := Option.map_eq_some_iff.mp hd
    have rv := rv.mono hg
    rw [List.forIn_cons, if_pos rfl]
    refine wpAny_bind (wpAny_bind (wpAny_isTrue_Not (tRow1 G' S' (v := v) rfl rv fun s₃ S₃ => ?_)))
    refine wpAny_pure (wpAny_pure ?_)
    have e := take_snoc hr'
    cases hb : r.2.isLeaf with
    | false =>
      refine itT (Subscript_ (nmL S₃ (v := v) rfl (wpAny_Constant_int ?_)))
      have S₃ := S₃.toks (s₃.toks + 1)
      rw [prD] at rv
      refine itRdT S₃ rv (by decide) (d := r.2.pd) rfl (by decide) fun y ry => ⟨g', _, .refl _, S₃, ?_⟩
      rw [e, innerOf_snoc, if_neg (by rw [hb]; decide), pdL_map, List.map_append, ← pdL_map]
      exact hJ.append (.cons ry .nil)
    | true =>
      refine itF ⟨g', _, .refl _, S₃, ?_⟩
      rw [e, innerOf_snoc, if_pos hb, List.append_nil]
      exact hJ
  · intro D g' s' ys kk hg hJ S'
    rw [rvs.length, List.length_map, List.take_length] at hJ
    obtain ⟨g₂, k₂, e₂, _, S₂⟩ := S'.freeze (headX S')
    exact h g₂ s' _ (hg.trans k₂) S₂ (Bk.mono (hg.trans k₂) rfl rfl) (.list (isList_of e₂) (by rw [← places_inner _ []]; exact hJ.mono k₂))
end
end Mine
namespace Mine
noncomputable def Lay (k : Nat) (d : PyData) : Prop := d.canLay0 = true ∧ d.depth ≤ k
theorem Lay.le {k j : Nat} {d : PyData} (h : Lay k d) (hj : k ≤ j) : Lay j d := ⟨h.1, Nat.le_trans h.2 hj⟩
theorem Lay.shaped {k : Nat} {d : PyData} (h : Lay k d) (hk : k ≤ 64) : SeqAt.shaped d = true := by
  unfold SeqAt.shaped; rw [h.1, Bool.true_and]; exact decide_eq_true (Nat.le_trans h.2 hk)
theorem lay_all {k : Nat} : ∀ {ds : List PyData}, (∀ d ∈ ds, Lay k d) → PyData.canLayAll0 ds = true ∧ PyData.depthAll ds ≤ k
  | [], _ => by simp [PyData.canLayAll0, PyData.depthAll]
  | d :: ds, h => by
    have h1 := h d (.head _)
    have h2 := lay_all fun x hx => h x (.tail _ hx)
    have a := h1.2
    have b := h2.2
    simp only [PyData.canLayAll0, PyData.depthAll, h1.1, h2.1, Bool.and_self, true_and]
    omega
theorem lay_list {k : Nat} {ds : List PyData} (h : ∀ d ∈ ds, Lay k d) : Lay (k + 1) (.list ds) := by
  have h1 := lay_all h
  have b := h1.2
  unfold Lay
  simp only [PyData.canLay0, PyData.depth, h1.1, true_and]
  omega
theorem lay_tuple {k : Nat} {ds : List PyData} (h : ∀ d ∈ ds, Lay k d) : Lay (k + 1) (.tuple ds) := by
  have h1 := lay_all h
  have b := h1.2
  unfold Lay
  simp only [PyData.canLay0, PyData.depth, h1.1, true_and]
  omega
theorem lay_pos (p : Plc) : Lay 2 (posD p) := posD_lay p
theorem lay_int (i : Int) : Lay 1 (.int i) := by unfold Lay; simp [PyData.canLay0, PyData.depth]
theorem lay_bool (i : Bool) : Lay 1 (.bool i) := by unfold Lay; simp [PyData.canLay0, PyData.depth]
theorem lay_sym (x : Sym) : Lay 1 (.str x.s) := by
  have := x.ok
  unfold Lay
  simp only [PyData.canLay0, PyData.depth]
  simp_all
mutual
theorem lay_pd : ∀ t : T, Lay (2 * t.ht) t.pd
  | .leaf y => by rw [T.pd, T.ht]; exact (lay_sym y).le (by omega)
  | .node l cs => by
    rw [T.pd, T.ht]
    refine (lay_list (k := 2 * T.htL cs + 1) fun d hd => ?_).le (by omega)
    rcases List.mem_cons.mp hd with rfl | hd
    · exact (lay_sym l).le (by omega)
    · rw [List.mem_singleton.mp hd]
      exact lay_list (lay_pdL cs)
theorem lay_pdL : ∀ ts : List T, ∀ d ∈ T.pdL ts, Lay (2 * T.htL ts) d
  | [], d, h => by rw [T.pdL] at h; cases h
  | t :: ts, d, h => by
    rw [T.pdL] at h
    rw [T.htL]
    rcases List.mem_cons.mp h with rfl | h
    · exact (lay_pd t).le (by omega)
    · exact (lay_pdL ts d h).le (by omega)
end
theorem lay_poss (l : List Plc) : Lay 3 (.list (l.map posD)) := lay_list fun d hd => by
  obtain ⟨p, _, rfl⟩ := List.mem_map.mp hd
  exact lay_pos p
theorem lay_syms (l : List Sym) : Lay 2 (.list (l.map symD)) := lay_list fun d hd => by
  obtain ⟨p, _, rfl⟩ := List.mem_map.mp hd
  exact lay_sym p
end Mine
namespace Mine
theorem permP {α : Type} (a b c d t p q : α) : [p, a, b, c, d, t, q].Perm [a, b, c, d, t, p, q] := permL [[a], [b], [c], [d], [t], [p], [q]] (is := [5, 0, 1, 2, 3, 4, 6]) (js := [0, 1, 2, 3, 4, 5, 6]) (by decide)
theorem permQ {α : Type} (a b c d t p q : α) : [q, a, b, c, d, t, p].Perm [a, b, c, d, t, p, q] := permL [[a], [b], [c], [d], [t], [p], [q]] (is := [6, 0, 1, 2, 3, 4, 5]) (js := [0, 1, 2, 3, 4, 5, 6]) (by decide)
section
variable {w : World} {mg mb : Str → Option Value} {A : Around} {E : Value → Shared → Prop} {X : List Addr} {m : Str → Option Value} {ow : List (Addr × Obj)} {env : Env} {g₀ g : Heap} {s₀ s : Shared} {L : Addr} {lab : Sym} {cs : List T} {nv tv : Value} {tp : Addr} {cv : Value} {ms : List Int} {k : Int} {tk : Tok} {n : Nat} {oP oQ o1 o2 o3 o4 : Obj} {tl : List (Addr × Obj)} {as : List Addr}
theorem askTp {pre post : Bool} {o : Str} {p1 p2 p3 pos : PySem.Pos} {pl : Sem Bool} {j : Nat} {Q : Value → Shared → Prop} (h1 : ([("preorder" : Str), "bothorder"].any (· == o)) = pre) (h2 : ([("postorder" : Str), "bothorder"].any (· == o)) = post) (hr : Room A 99)
    (S : St LX g₀ s₀ L g s m (lawO L o1 o2 o3 o4 tp (tapeO cv k tk n) oP oQ)) (G : Amb w mg mb g) (Bm : BM mg g) (hsm : (T.node lab cs).Small 6) (hT : IsT g tv (.node lab cs) as) (hPk : PlOk oP) (hd : o1.data = .cell (some tv))
    (h : ∀ v g' s' oP', Sub g g' → St LX g₀ s₀ L g' s' m (lawO L o1 o2 o3 o4 tp (tapeO cv k tk n) oP' oQ) → PlOk oP' → RdL g' v ((tpos pre post (.node lab cs)).map posD) → Q v s')
    (he : eval (.Call (.Attribute (.Name "tree" p1) "treepositions" p2) [.Constant (.str o) j p3] [] pos) (lawE w L) = (do
      let ov ← eval (.Name "tree" p1) (lawE w L)
      standAt p2.atName
      let (f, first) ← holding [ov] (getMethod ov "treepositions" pl)
      callWith pos f first (backTo pos (starEach [.Constant (.str o) j p3] (lawE w L))) (backToKw pos (keywordEach [] (lawE w L)))) := by rfl) :
    wpAny (model prg w) A (eval (.Call (.Attribute (.Name "tree" p1) "treepositions" p2) [.Constant (.str o) j p3] [] pos) (lawE w L)) Q E s := by
  obtain ⟨x, dx, l, d1, d2, t1, t2, tk', n', rfl, hx, hdx⟩ := isT_node_of hT
  refine meCall (a := 231) (K := Mine.hd.heap_1 w.params) (nmC (c := L + 1) (v := .ref x) ⟨o1, S.get (.tail _ (.tail _ (.tail _ (.head _)))), hd⟩ (methT G S (instT S.in_ hx hdx) (by k_is) (by k_is) (by rfl) ⟨rfl, ?_⟩)) (by k_is) he
  refine arg1 (wpAny_Constant_str (arg0 ⟨(G.keeps S.in_).K, ?_⟩))
  have S := (S.toks (s.toks + 1)).perm (permP ..)
  have z := S.own _ (.head _)
  refine wpAny_call (tp_spec h1 h2 6 lab cs hsm _ g _ (.ref x) as _ (.inl ⟨_, rfl⟩) oP _ (hr.le (by omega)) G Bm S.in_ hT z.1 hPk z.2.2.1 fun v oP' s' g' gr hP' hPk' hv => ?_)
  have S' := S.callY (Y := [(226, oP)]) (Y' := [(226, oP')]) gr rfl fun p hp => by rw [List.mem_singleton.mp hp]; exact hP'
  exact h v g' s' oP' gr.sub (S'.perm (permP ..).symm) hPk' hv
theorem askTp0 {p1 p2 pos : PySem.Pos} {pl : Sem Bool} {Q : Value → Shared → Prop} (hr : Room A 99)
    (S : St LX g₀ s₀ L g s m (lawO L o1 o2 o3 o4 tp (tapeO cv k tk n) oP oQ)) (G : Amb w mg mb g) (Bm : BM mg g) (hsm : (T.node lab cs).Small 6) (hT : IsT g tv (.node lab cs) as) (hPk : PlOk oP) (hd : o1.data = .cell (some tv))
    (h : ∀ v g' s' oP', Sub g g' → St LX g₀ s₀ L g' s' m (lawO L o1 o2 o3 o4 tp (tapeO cv k tk n) oP' oQ) → PlOk oP' → RdL g' v ((tpos true false (.node lab cs)).map posD) → Q v s')
    (he : eval (.Call (.Attribute (.Name "tree" p1) "treepositions" p2) [] [] pos) (lawE w L) = (do
      let ov ← eval (.Name "tree" p1) (lawE w L)
      standAt p2.atName
      let (f, first) ← holding [ov] (getMethod ov "treepositions" pl)
      callWith pos f first (backTo pos (starEach [] (lawE w L))) (backToKw pos (keywordEach [] (lawE w L)))) := by rfl) :
    wpAny (model prg w) A (eval (.Call (.Attribute (.Name "tree" p1) "treepositions" p2) [] [] pos) (lawE w L)) Q E s := by
  obtain ⟨x, dx, l, d1, d2, t1, t2, tk', n', rfl, hx, hdx⟩ := isT_node_of hT
  refine meCall0 (a := 231) (K := Mine.hd.heap_1 w.params) (nmC (c := L + 1) (v := .ref x) ⟨o1, S.get (.tail _ (.tail _ (.tail _ (.head _)))), hd⟩ (methT G S (instT S.in_ hx hdx) (by k_is) (by k_is) (by rfl) ⟨rfl, (G.keeps S.in_).K, ?_⟩)) (by k_is) he
  have S := S.perm (permP ..)
  have z := S.own _ (.head _)
  refine wpAny_call (tp_spec (o := "preorder") (pre := true) (post := false) (by decide) (by decide) 6 lab cs hsm _ g _ (.ref x) as _ (.inr ⟨rfl, rfl⟩) oP _ (hr.le (by omega)) G Bm S.in_ hT z.1 hPk z.2.2.1 fun v oP' s' g' gr hP' hPk' hv => ?_)
  have S' := S.callY (Y := [(226, oP)]) (Y' := [(226, oP')]) gr rfl fun p hp => by rw [List.mem_singleton.mp hp]; exact hP'
  exact h v g' s' oP' gr.sub (S'.perm (permP ..).symm) hPk' hv
theorem neSame {a b : Value} {d : PyData} {j : Nat} {Q : Bool → Shared → Prop} (hr : Room A 99) (S : St X g₀ s₀ L g s m ow) (ra : Rd g a d) (rb : Rd g b d) (hl : Lay j d) (hj : j ≤ 64) (h : Q false s) :
    wpAny (model prg w) A (compareOp .NotEq a b) (fun c s₃ => wpAny (model prg w) A (truthy c) Q E s₃) E s :=
  tNeR hr (by omega) S ra rb (hl.shaped hj) (hl.shaped hj) (by rw [PySem.SeqAt.eqv_refl d hl.1]; exact h)
end
end Mine
namespace Mine
section
variable {w : World} {mg mb : Str → Option Value} {A : Around} {E : Value → Shared → Prop} {X : List Addr} {m : Str → Option Value} {ow : List (Addr × Obj)} {env : Env} {g₀ g : Heap} {s₀ s : Shared} {L : Addr}
theorem colRow {c : Nat} {f : Plc × T → PyData} {rows : List (Plc × T)} {xv : Value} {iter : Expr} {px p1 p2 p3 pos : PySem.Pos} {j : Nat} {scope : Scope} {Q : Value → Shared → Prop} (hf : ∀ r : Plc × T, [posD r.1, r.2.pd][c]? = some (f r)) (hc : c < 2)
    (hh : A.handled = none) (hXk : ∀ b ∈ X, b ∈ ks ow) (G : Amb w mg mb g) (S : St X g₀ s₀ L g s m ow) (r : Rd g xv (.list (rows.map prD))) (hz : rows.length ≤ 900)
    (hcell : ∀ y ∈ scope.names, y.2 ≠ .cell) (hkind : scope.kind = .function) (hx : scope.names.lookup ("row" : Str) = some .local)
    (h : ∀ v g' s', Sub g g' → St X g₀ s₀ L g' s' m ow → RdL g' v (rows.map f) → Q v s') :
    wpAny (model prg w) A (pyIter xv) (fun it s₂ => wpAny (model prg w) A (newList []) (fun acc s₃ => wpAny (model prg w) A (newFunctionEnv scope env.globals [] [] env.qual none .none (some env)) (fun cenv s₄ =>
      codeAny (model prg w) A (.compStart (.ListComp (.Subscript (.Name "row" p1) (.Constant (.int c) j p2) p3) [⟨.Name "row" px, iter, [], 0⟩] scope pos) 0 it acc { cenv with scope := relabel scope env }) (compPost (model prg w) A E none Q acc cenv.locals) s₄) E s₃) E s₂) E s := by
  obtain ⟨l, vs, rfl, hl, rvs⟩ := r.asList
  refine compL hh S hl (by rw [rvs.length, List.length_map]; exact sl (by omega)) hcell hkind hx (fun i g' ys => RdA g' ys ((rows.take i).map f)) (by exact .nil) ?_ ?_
  · intro i v I oi se C g' s' mC ys ow2 Se hv hg hJ S'
    obtain ⟨d, hd, rv⟩ := rvs.get' hv
    rw [List.getElem?_map] at hd
    obtain ⟨rr, hr', rfl⟩ := Option.map_eq_some_iff.mp hd
    have rv := rv.mono hg
    rw [prD] at rv
    refine Subscript_ (nmL S' (v := v) rfl (wpAny_Constant_int ?_) rfl (by simp [compEnvC, relabel, hkind]) (lookup_relabel_local hx))
    have S' := S'.toks (s'.toks + 1)
    refine itRdT S' rv (by omega) (d := f rr) (by simpa using hf rr) (by omega) fun y ry => ⟨g', _, .refl _, S', ?_⟩
    rw [take_snoc hr', List.map_append]
    exact hJ.append (.cons ry .nil)
  · intro D g' s' ys kk hg hJ S'
    rw [rvs.length, List.length_map, List.take_length] at hJ
    obtain ⟨g₂, k₂, e₂, _, S₂⟩ := S'.freeze fun hm => (List.nodup_cons.mp S'.nd).1 (hXk _ hm)
    exact h _ g₂ s' (hg.trans k₂) S₂ ⟨D, ys, kk, rfl, e₂, hJ.mono k₂⟩
end
end Mine
namespace Mine
theorem lawO_in {L : Addr} {o1 o2 o3 o4 oT oP oQ : Obj} {tp : Addr} : ∀ b ∈ LX, b ∈ ks (lawO L o1 o2 o3 o4 tp oT oP oQ) := fun b hb => by
  simp only [LX, List.mem_cons, List.not_mem_nil, or_false] at hb
  rcases hb with h | h <;> simp [h]
section
variable {w : World} {mg mb : Str → Option Value} {A : Around} {E : Value → Shared → Prop} {X : List Addr} {m : Str → Option Value} {ow : List (Addr × Obj)} {env : Env} {g₀ g : Heap} {s₀ s : Shared} {L : Addr} {lab : Sym} {cs : List T} {nv tv : Value} {tp : Addr} {cv : Value} {ms : List Int} {k : Int} {tk : Tok} {n : Nat} {oP oQ o1 o2 o3 o4 : Obj} {Q : Flow → Shared → Prop} {tl : List (Addr × Obj)}
theorem law_s6 (hr : Room A 99) {pv : Value} (S : St LX g₀ s₀ L g s m (lawO L o1 o2 o3 o4 tp (tapeO cv k tk n) oP oQ ++ tl)) (Bk : LawB w mg mb g m lab cs nv tp cv ms k oP oQ) (hTI : TreeIn g tl tv (.node lab cs)) (h1 : o1.data = .cell (some tv))
    (h2 : o2.data = .cell (some pv)) (hp : Rd g pv (.list ((places (.node lab cs) []).map prD)))
    (h : ∀ g' s' oP', Sub g g' → St LX g₀ s₀ L g' s' m (lawO L o1 o2 o3 o4 tp (tapeO cv k tk n) oP' oQ ++ tl) → LawB w mg mb g' m lab cs nv tp cv ms k oP' oQ → wpAny (model prg w) A (execs ((lawR w).body.drop 7) (lawE w L)) Q E s') :
    wpAny (model prg w) A (execs ((lawR w).body.drop 6) (lawE w L)) Q E s := by
  have hz : (places (.node lab cs) []).length ≤ 400 := by rw [places_len]; exact Bk.small.sz
  obtain ⟨gT, as, k1, hT, nd, S1, bk⟩ := asked (tlX S) S hTI
  have GT := Bk.G.keeps k1
  refine xIf (wpAny_isTrue_BoolOp (wpAny_allTrue_Or_cons (wpAny_isTrue_Compare1 (askTp0 hr S1 GT (Bk.Bm.mono k1) Bk.small hT Bk.P h1 fun v g₂ s₂ oP₂ k₂ S₂ hP₂ rv => ?_))))
  have kk₂ := k1.trans k₂
  refine lcEval (cl := []) rfl rfl (by decide) (nmC (c := L + 2) (v := pv) ⟨o2, S₂.get (.tail _ (.tail _ (.head _))), h2⟩ ?_)
  refine colRow (c := 0) (f := fun r => posD r.1) (fun r => rfl) (by omega) hr.1 lawO_in (GT.keeps k₂) S₂ (hp.mono kk₂) (by omega) (by decide) rfl rfl fun v₃ g₃ s₃ k₃ S₃ rv₃ => ?_
  have e3 : (places (.node lab cs) []).map (fun r => posD r.1) = (tpos true false (.node lab cs)).map posD := by
    rw [← map_nil_app (tpos true false (.node lab cs)), ← places_fst, List.map_map]; rfl
  rw [e3] at rv₃
  refine neSame hr S₃ (rv.rd.mono k₃) rv₃.rd (lay_poss _) (by omega) (itF ?_)
  have kk₃ := kk₂.trans k₃
  refine wpAny_allTrue_Or_cons (wpAny_isTrue_Compare1 (askTp (pre := false) (post := true) (by decide) (by decide) hr S₃ (Bk.G.keeps kk₃) (Bk.Bm.mono kk₃) Bk.small (hT.mono (k₂.trans k₃)) hP₂ h1 fun v₄ g₄ s₄ oP₄ k₄ S₄ hP₄ rv₄ => ?_))
  have kk₄ := kk₃.trans k₄
  have G₄ := Bk.G.keeps kk₄
  refine fnG G₄ S₄ gfbehind kfbehind (arg1 (nmL S₄ (v := nv) Bk.mn (arg1 (eTup (arg0 (mkTup S₄ .nil (sl (by simp)) fun z g₅ s₅ k₅ r₅ S₅ => arg0 ⟨((G₄.keeps k₅).keeps S₅.in_).K, ?_⟩))))))
  refine wpAny_call (fbehind_spec 6 _ Bk.small _ g₅ _ _ _ [] _ (hr.le (by omega)) (G₄.keeps k₅) S₅.in_ (Bk.node.mono (kk₄.trans k₅)) r₅ (by simp) fun v₆ s₆ g₆ gr r₆ => ?_)
  have S₆ := S₅.call gr
  rw [behind_tpos, map_nil_app] at r₆
  refine neSame hr S₆ (rv₄.rd.mono (k₅.trans gr.sub)) r₆ (lay_poss _) (by omega) (itF (wpAny_allTrue_Or_nil (itF (xNil (thenNext ?_)))))
  obtain ⟨gF, f1, f2, f3, S₇⟩ := bk _ _ _ _ (((k₂.trans k₃).trans k₄).trans (k₅.trans gr.sub)) S₆
  exact h gF s₆ oP₄ f1 S₇ { Bk.mono f1 rfl rfl with P := hP₄ }
end
end Mine
namespace Mine
section
variable {w : World} {mg mb : Str → Option Value} {A : Around} {E : Value → Shared → Prop} {X : List Addr} {m : Str → Option Value} {ow : List (Addr × Obj)} {env : Env} {g₀ g : Heap} {s₀ s : Shared} {L : Addr} {lab : Sym} {cs : List T} {nv tv : Value} {tp : Addr} {cv : Value} {ms : List Int} {k : Int} {tk : Tok} {n : Nat} {oP oQ o1 o2 o3 o4 : Obj} {Q : Flow → Shared → Prop} {tl : List (Addr × Obj)}
theorem law_s7 (hr : Room A 99) {wv : Value} (S : St LX g₀ s₀ L g s m (lawO L o1 o2 o3 o4 tp (tapeO cv k tk n) oP oQ ++ tl)) (Bk : LawB w mg mb g m lab cs nv tp cv ms k oP oQ) (hTI : TreeIn g tl tv (.node lab cs)) (h1 : o1.data = .cell (some tv))
    (h3 : o3.data = .cell (some wv)) (hw : Rd g wv (.list ((wordsOf (places (.node lab cs) [])).map prD)))
    (h : ∀ g' s' oP', Sub g g' → St LX g₀ s₀ L g' s' m (lawO L o1 o2 o3 o4 tp (tapeO cv k tk n) oP' oQ ++ tl) → LawB w mg mb g' m lab cs nv tp cv ms k oP' oQ → wpAny (model prg w) A (execs ((lawR w).body.drop 8) (lawE w L)) Q E s') :
    wpAny (model prg w) A (execs ((lawR w).body.drop 7) (lawE w L)) Q E s := by
  have hz : (wordsOf (places (.node lab cs) [])).length ≤ 400 := Nat.le_trans (List.length_filter_le ..) (by rw [places_len]; exact Bk.small.sz)
  obtain ⟨gT, as, k1, hT, nd, S1, bk⟩ := asked (tlX S) S hTI
  have GT := Bk.G.keeps k1
  refine xIf (wpAny_isTrue_BoolOp (wpAny_allTrue_Or_cons (wpAny_isTrue_Compare1 (askTp (pre := true) (post := true) (by decide) (by decide) hr S1 GT (Bk.Bm.mono k1) Bk.small hT Bk.P h1 fun v₄ g₄ s₄ oP₄ k₄ S₄ hP₄ rv₄ => ?_))))
  have kk₄ := k1.trans k₄
  have G₄ := Bk.G.keeps kk₄
  refine fnG G₄ S₄ gfboth kfboth (arg1 (nmL S₄ (v := nv) Bk.mn (arg1 (eTup (arg0 (mkTup S₄ .nil (sl (by simp)) fun z g₅ s₅ k₅ r₅ S₅ => arg0 ⟨((G₄.keeps k₅).keeps S₅.in_).K, ?_⟩))))))
  refine wpAny_call (fboth_spec 6 _ Bk.small _ g₅ _ _ _ [] _ (hr.le (by omega)) (G₄.keeps k₅) S₅.in_ (Bk.node.mono (kk₄.trans k₅)) r₅ (by simp) fun v₆ s₆ g₆ gr r₆ => ?_)
  have S₆ := S₅.call gr
  rw [both_tpos, map_nil_app] at r₆
  refine neSame hr S₆ (rv₄.rd.mono (k₅.trans gr.sub)) r₆ (lay_poss _) (by omega) (itF ?_)
  have kk₆ := kk₄.trans (k₅.trans gr.sub)
  refine wpAny_allTrue_Or_cons (wpAny_isTrue_Compare1 (askTp (pre := false) (post := false) (by decide) (by decide) hr S₆ (Bk.G.keeps kk₆) (Bk.Bm.mono kk₆) Bk.small (hT.mono (k₄.trans (k₅.trans gr.sub))) hP₄ h1 fun v₇ g₇ s₇ oP₇ k₇ S₇ hP₇ rv₇ => ?_))
  have kk₇ := kk₆.trans k₇
  refine lcEval (cl := []) rfl rfl (by decide) (nmC (c := L + 3) (v := wv) ⟨o3, S₇.get (.tail _ (.head _)), h3⟩ ?_)
  refine colRow (c := 0) (f := fun r => posD r.1) (fun r => rfl) (by omega) hr.1 lawO_in (Bk.G.keeps kk₇) S₇ (hw.mono kk₇) (by omega) (by decide) rfl rfl fun v₃ g₃ s₃ k₃ S₃ rv₃ => ?_
  have e3 : (wordsOf (places (.node lab cs) [])).map (fun r => posD r.1) = (tpos false false (.node lab cs)).map posD := by
    rw [← map_nil_app (tpos false false (.node lab cs)), ← words_fst, List.map_map]; rfl
  rw [e3] at rv₃
  refine neSame hr S₃ (rv₇.rd.mono k₃) rv₃.rd (lay_poss _) (by omega) (itF (wpAny_allTrue_Or_nil (itF (xNil (thenNext ?_)))))
  obtain ⟨gF, f1, f2, f3, S₈⟩ := bk _ _ _ _ ((k₄.trans (k₅.trans gr.sub)).trans (k₇.trans k₃)) S₃
  exact h gF s₃ oP₇ f1 S₈ { Bk.mono f1 rfl rfl with P := hP₇ }
end
end Mine
namespace Mine
section
variable {w : World} {mg mb : Str → Option Value} {A : Around} {E : Value → Shared → Prop} {X : List Addr} {m : Str → Option Value} {ow : List (Addr × Obj)} {env : Env} {g₀ g : Heap} {s₀ s : Shared} {L : Addr} {lab : Sym} {cs : List T} {nv tv : Value} {tp : Addr} {cv : Value} {ms : List Int} {k : Int} {tk : Tok} {n : Nat} {oP oQ o1 o2 o3 o4 oT : Obj} {tl : List (Addr × Obj)} {as : List Addr}
theorem askM {f : Addr} {name : Str} {p1 p2 pos : PySem.Pos} {pl : Sem Bool} {Q : Value → Shared → Prop}
    (S : St X g₀ s₀ L g s m (lawO L o1 o2 o3 o4 tp oT oP oQ)) (G : Amb w mg mb g) (hT : IsT g tv (.node lab cs) as) (hd : o1.data = .cell (some tv))
    (hf : findIn (Mine.hd.heap_1 w.params) (.ref 269) name = some (some (.ref f))) (ht : typeIn (Mine.hd.heap_1 w.params) (.ref f) = some (.type "function")) (hk : keepIn (Mine.hd.heap_1 w.params) (.ref f) = true)
    (hl : ∀ h1 h2 t1 t2 l lv, getL name (treeD h1 h2 t1 t2 l lv) = some none)
    (h : wpAny (model prg w) A (call (.ref f) [tv]) Q E s)
    (he : eval (.Call (.Attribute (.Name "tree" p1) name p2) [] [] pos) (lawE w L) = (do
      let ov ← eval (.Name "tree" p1) (lawE w L)
      standAt p2.atName
      let (f, first) ← holding [ov] (getMethod ov name pl)
      callWith pos f first (backTo pos (starEach [] (lawE w L))) (backToKw pos (keywordEach [] (lawE w L)))) := by rfl) :
    wpAny (model prg w) A (eval (.Call (.Attribute (.Name "tree" p1) name p2) [] [] pos) (lawE w L)) Q E s := by
  obtain ⟨x, dx, l, d1, d2, t1, t2, tk', n', rfl, hx, hdx⟩ := isT_node_of hT
  exact meCall0 (a := f) (K := Mine.hd.heap_1 w.params) (nmC (c := L + 1) (v := .ref x) ⟨o1, S.get (.tail _ (.tail _ (.tail _ (.head _)))), hd⟩ (methT G S (instT S.in_ hx hdx) hf ht (hl ..) ⟨rfl, (G.keeps S.in_).K, h⟩)) hk he
end
end Mine
namespace Mine
section
variable {w : World} {mg mb : Str → Option Value}

theorem height_spec : ∀ (n : Nat) (lab : Sym) (cs : List T), (T.node lab cs).ht ≤ n → ∀ (A : Around) (g : Heap) (s : Shared) (v : Value) (as : List Addr) (R : Result → Shared → Prop),
    Room A (2 * n) → Amb w mg mb g → Sub g s.heap → IsT g v (.node lab cs) as → (∀ tk s' g', Grow [] g s g' s' → R (.ok (.ret (.int ((T.node lab cs).ht : Nat) tk))) s') → codeAny (model prg w) A (.call (.ref 223) ⟨[v], []⟩) R s := by
  intro n
  induction n with
  | zero => intro lab cs h; simp [T.ht] at h
  | succ n ih =>
    intro lab cs hn A g s v as R hr G hs hT hR
    cases hT with
    | @node x dx l h1 h2 t1 t2 tk n' k _ vs _ as' hx hd hl hcs =>
    refine enterF G hs hr (by k_is) (by k_is) (BindsTo.of_eq rfl) (locs rfl) ?_ rfl rfl rfl (by decide)
    intro L s₁ S
    try k_fold
    refine xAsn ?_
    refine wpAny_Constant_int ?_
    refine stL (S.toks _) (fun s₂ S₂ => ?_)
    refine xFor ?_
    refine Attribute_name (nmL S₂ (v := .ref x) rfl ?_)
    refine getChildren G S₂ hx hd (fun s₃ S₃ => ?_)
    refine loopList hr.1 S₃ hl (fun i g' m' ow' => ow' = [] ∧ ∃ tk, m' "max_child_height" = some (.int (T.htL (cs.take i) : Nat) tk)) ⟨rfl, _, rfl⟩ ?_ ?_
    · rintro i v it oi g' s' m' ow' hv hg ⟨rfl, tk, hm⟩ hit S'
      refine wpAny_pure ?_
      refine wpAny_assign_Name (stL S' fun s₄ S₄ => ?_)
      obtain ⟨t, bs, ht, hvt⟩ := hcs.get i v hv
      have G' := G.keeps hg
      have hi : T.htL (cs.take (i + 1)) = max (T.htL (cs.take i)) t.ht := by rw [take_snoc ht, htL_snoc]
      have hvt := hvt.mono hg
      refine xIf (isT (biCall (nmB G' S₄ gIsi bIsi (by decide) ⟨rfl, ?_⟩)))
      refine arg1 (nmL S₄ (v := v) rfl ?_)
      refine arg1 (nmG G' S₄ gTree ?_)
      refine arg0 ?_
      cases hvt with
      | leaf y u =>
        refine isiT_leaf G' S₄ (fun s₅ S₅ => ⟨_, rfl, itF ?_⟩)
        refine xAsn (biCall (nmB G' S₅ gMax bMax (by decide) ⟨rfl, ?_⟩))
        refine arg1 (nmL S₅ hm ?_)
        refine arg1 (wpAny_Constant_int ?_)
        refine arg0 ?_
        refine maxI hr.1 (S₅.toks _) (fun s₆ tk' S₆ => ?_)
        refine stL S₆ (fun s₆ S₆ => ?_)
        refine xNil (thenNext (xNil ⟨g', _, [], .refl _, S₆, rfl, _, upd_int ?_⟩))
        rw [hi, T.ht]
        omega
      | node a b c d =>
        refine isiT_node G' S₄ (instT S₄.in_ a b) (fun s₅ S₅ => ⟨_, rfl, itT ?_⟩)
        refine xAsn (biCall (nmB G' S₅ gMax bMax (by decide) ⟨rfl, ?_⟩))
        refine arg1 (nmL S₅ hm ?_)
        refine arg1 ?_
        refine meCall0 (a := 223) (K := Mine.hd.heap_1 w.params) (nmL S₅ rfl ?_) (by k_is)
        refine methT G' S₅ (instT S₅.in_ a b) (by k_is) (by k_is) (by rfl) ⟨rfl, (G'.keeps S₅.in_).K, ?_⟩
        refine wpAny_call (ih _ _ (Nat.le_trans (htL_le ht) (by rw [T.ht] at hn; omega)) _ _ _ _ _ _ (hr.le (by omega)).deeper G' S₅.in_ (.node a b c d) fun tk' s₆ g₆ gr => ?_)
        have S₆ := S₅.call gr
        refine arg0 ?_
        refine maxI hr.1 S₆ (fun s₆ tk'' S₆ => ?_)
        refine stL S₆ (fun s₇ S₇ => ?_)
        refine xNil (thenNext (xNil ⟨_, _, [], gr.sub, S₇, rfl, _, upd_int ?_⟩))
        rw [hi]
        omega
    · rintro g' s' m' ow' hg ⟨rfl, tk, hm⟩ S'
      rw [hcs.length, List.take_length] at hm
      refine thenNext ?_
      refine xRet (wpAny_BinOp (wpAny_Constant_int (nmL (S'.toks _) hm (add_int ?_))))
      rw [show (1 : Int) + (T.htL cs : Nat) = ((T.node lab cs).ht : Nat) by rw [T.ht]; omega]
      exact hR _ _ _ (S'.toks _).grow
end
end Mine
namespace Mine
section
variable {w : World} {mg mb : Str → Option Value}
theorem gHigh : nsIn (Mine.hd.heap_1 w.params) mainGlobals "_law_high" = some (some (.ref 342)) := by k_is
theorem kHigh : keepIn (Mine.hd.heap_1 w.params) (.ref 342) = true := by k_is
theorem htL_max : ∀ (ts : List T) (M : Int), M ∈ (0 : Int) :: ts.map (fun t => (t.ht : Int)) → (∀ a ∈ (0 : Int) :: ts.map (fun t => (t.ht : Int)), a ≤ M) → M = T.htL ts
  | [], M, h, _ => by simp at h; simp [T.htL, h]
  | t :: ts, M, h, k => by
    have h0 : ∀ t' ∈ ts, (t'.ht : Int) ≤ M := fun t' ht' => k _ (by simp; exact .inr (.inr ⟨t', ht', rfl⟩))
    have h1 : (t.ht : Int) ≤ M := k _ (by simp)
    have h2 : (0 : Int) ≤ M := k _ (by simp)
    rw [T.htL]
    by_cases hM : M = t.ht
    · have : (T.htL ts : Int) ≤ M := by
        clear h k
        induction ts with
        | nil => simpa [T.htL] using h2
        | cons x r ih => rw [T.htL]; have := ih fun t' h' => h0 t' (.tail _ h'); have := h0 x (.head _); omega
      omega
    · have h3 := htL_max ts M (by simp only [List.map_cons, List.mem_cons] at h ⊢; rcases h with h | h | h; exact .inl h; exact absurd h hM; exact .inr h) fun a ha => k a (by simp only [List.map_cons, List.mem_cons] at ha ⊢; rcases ha with ha | ha; exact .inl ha; exact .inr (.inr ha))
      omega
theorem high_spec : ∀ (n : Nat) (t : T), t.Small n → ∀ (A : Around) (g : Heap) (s : Shared) (v : Value) (R : Result → Shared → Prop),
    Room A (2 * n) → Amb w mg mb g → Sub g s.heap → Rd g v t.pd → (∀ tk s' g', Grow [] g s g' s' → R (.ok (.ret (.int (t.ht : Nat) tk))) s') → codeAny (model prg w) A (.call (.ref 342) ⟨[v], []⟩) R s := by
  intro n
  induction n with
  | zero => intro t h; exact h.zero.elim
  | succ n ih =>
    intro t hn A g s v R hr G hs hT hR
    refine enterF G hs hr (by k_is) (by k_is) (BindsTo.of_eq rfl) (locs rfl) ?_ rfl rfl rfl (by decide)
    intro L s₁ S
    try k_fold
    refine xIf (isT (biCall (nmB G S gIsi bIsi (by decide) ⟨rfl, ?_⟩)))
    refine arg1 (nmL S (v := v) rfl ?_)
    refine arg1 (nmB G S gStr bStr (by decide) ?_)
    refine arg0 ?_
    cases t with
    | leaf y =>
      obtain ⟨tk, rfl⟩ := hT.asStr
      refine isiS_str G S (fun s₂ S₂ => ⟨_, rfl, itT ?_⟩)
      refine xRet (wpAny_Constant_int ?_)
      refine thenRet ?_
      exact hR _ _ _ (S₂.toks _).grow
    | node lab cs =>
      rw [T.pd] at hT
      refine isiS_list G S hT (fun s₂ S₂ => ⟨_, rfl, itF ?_⟩)
      refine xNil (thenNext ?_)
      refine xRet (wpAny_BinOp (wpAny_Constant_int ?_))
      refine biCall (nmB G (S₂.toks _) gMax bMax (by decide) ⟨rfl, ?_⟩)
      refine arg1 (wpAny_BinOp ?_)
      refine eLst (arg1 (wpAny_Constant_int ?_))
      refine arg0 ?_
      refine mkLstF ((S₂.toks _).toks _) (.cons (.int 0 _) .nil) (sl (by simp)) (fun z g₃ s₃ k₃ r₃ S₃ => ?_)
      have G₃ := G.keeps k₃
      refine lcEval (cl := []) rfl rfl (by decide) ?_
      refine Subscript_ (nmL S₃ (v := v) rfl ?_)
      refine wpAny_Constant_int ?_
      refine itRdL (S₃.toks _) (hT.mono k₃) (by decide) (d := .list (T.pdL cs)) rfl (by decide) (fun x rx => ?_)
      obtain ⟨l, vs, rfl, hl, rvs⟩ := rx.asList
      have hz : cs.length ≤ sizeLine := sl (Nat.le_trans hn.len (by decide))
      refine compL hr.1 (S₃.toks _) hl (by rw [rvs.length, pdL_map, List.length_map]; exact hz) (by decide) rfl rfl
        (fun i g' ys => RdA g' ys ((cs.take i).map fun t => PyData.int (t.ht : Nat))) (by exact .nil) ?_ ?_
      · intro i v' I oi se C g' s' mC ys ow2 Se hv hg hJ S'
        have G' := G₃.keeps hg
        obtain ⟨d, hd, rv⟩ := rvs.get' hv
        obtain ⟨t, ht, rfl⟩ := pdL_get' hd
        refine fnG G' S' gHigh kHigh ?_
        refine arg1 (nmL S' (v := v') rfl ?_)
        refine arg0 ⟨(G'.keeps S'.in_).K, ?_⟩
        refine wpAny_call (ih t (hn.kid ht) _ _ _ _ _ (hr.le (by omega)).deeper G' S'.in_ (rv.mono hg) fun tk s₄ g₄ gr => ?_)
        refine ⟨g₄, _, gr.sub, S'.call gr, ?_⟩
        rw [take_snoc ht, List.map_append]
        exact (hJ.mono gr.sub).append (.cons (.int _ _) .nil)
      · intro D g' s' ys k hg hJ S'
        obtain ⟨g₅, k₅, e₅, _, S₅⟩ := S'.freeze fun h => nomatch h
        rw [rvs.length, pdL_map, List.length_map, List.take_length] at hJ
        refine addLstF S₅ (r₃.mono (hg.trans k₅)) (.list (isList_of e₅) (hJ.mono k₅)) (by rw [List.length_map]; have := hn.len; exact sl (by simp only [List.length_singleton]; omega)) (fun u g₆ s₆ k₆ r₆ S₆ => ?_)
        refine arg0 ?_
        refine maxL (ns := 0 :: cs.map fun t => (t.ht : Int)) hr.1 S₆ (by rw [List.map_cons, List.map_map]; exact r₆) (by simp) (fun s₇ M tk S₇ h1 h2 => ?_)
        have e := htL_max cs M h1 h2
        subst e
        refine add_int ?_
        rw [show (1 : Int) + (T.htL cs : Nat) = ((T.node lab cs).ht : Nat) by rw [T.ht]; omega]
        exact hR _ _ _ (S₇.toks _).grow
end
end Mine
namespace Mine
theorem words_syms {lab : Sym} {cs : List T} : (wordsOf (places (.node lab cs) [])).map (fun r => r.2.pd) = (T.lvL cs).map symD := by
  have := words_lv (.node lab cs) []
  have e : (wordsOf (places (.node lab cs) [])).map (fun r => r.2.pd) = ((wordsOf (places (.node lab cs) [])).map (·.2)).map T.pd := by rw [List.map_map]; rfl
  rw [e, this, T.lv, List.map_map]
  rfl
section
variable {w : World} {mg mb : Str → Option Value} {A : Around} {E : Value → Shared → Prop} {X : List Addr} {m : Str → Option Value} {ow : List (Addr × Obj)} {env : Env} {g₀ g : Heap} {s₀ s : Shared} {L : Addr} {lab : Sym} {cs : List T} {nv tv : Value} {tp : Addr} {cv : Value} {ms : List Int} {k : Int} {tk : Tok} {n : Nat} {oP oQ o1 o2 o3 o4 : Obj} {Q : Flow → Shared → Prop} {tl : List (Addr × Obj)}
theorem law_s8 (hr : Room A 99) {wv : Value} (S : St LX g₀ s₀ L g s m (lawO L o1 o2 o3 o4 tp (tapeO cv k tk n) oP oQ ++ tl)) (Bk : LawB w mg mb g m lab cs nv tp cv ms k oP oQ) (hTI : TreeIn g tl tv (.node lab cs)) (h1 : o1.data = .cell (some tv))
    (h3 : o3.data = .cell (some wv)) (hw : Rd g wv (.list ((wordsOf (places (.node lab cs) [])).map prD)))
    (h : ∀ g' s', Sub g g' → St LX g₀ s₀ L g' s' m (lawO L o1 o2 o3 o4 tp (tapeO cv k tk n) oP oQ ++ tl) → LawB w mg mb g' m lab cs nv tp cv ms k oP oQ → wpAny (model prg w) A (execs ((lawR w).body.drop 9) (lawE w L)) Q E s') :
    wpAny (model prg w) A (execs ((lawR w).body.drop 8) (lawE w L)) Q E s := by
  have hz : (wordsOf (places (.node lab cs) [])).length ≤ 400 := Nat.le_trans (List.length_filter_le ..) (by rw [places_len]; exact Bk.small.sz)
  obtain ⟨gT, as, k1, hT, nd, S1, bk⟩ := asked (tlX S) S hTI
  have GT := Bk.G.keeps k1
  refine xIf (wpAny_isTrue_BoolOp (wpAny_allTrue_Or_cons (wpAny_isTrue_Compare1 (askM (f := 209) S1 GT hT h1 (by k_is) (by k_is) (by k_is) (by intros; rfl) (wpAny_call (leaves_spec 6 lab cs Bk.small _ gT _ _ _ _ (hr.le (by omega)) GT S1.in_ hT fun v s₂ g₂ gr rv => ?_))))))
  have S₂ := S1.call gr
  have kk₂ := k1.trans gr.sub
  refine lcEval (cl := []) rfl rfl (by decide) (nmC (c := L + 3) (v := wv) ⟨o3, S₂.get (.tail _ (.head _)), h3⟩ ?_)
  refine colRow (c := 1) (f := fun r => r.2.pd) (fun r => rfl) (by omega) hr.1 lawO_in (Bk.G.keeps kk₂) S₂ (hw.mono kk₂) (by omega) (by decide) rfl rfl fun v₃ g₃ s₃ k₃ S₃ rv₃ => ?_
  rw [words_syms] at rv₃
  refine neSame hr S₃ (rv.rd.mono k₃) rv₃.rd (lay_syms _) (by omega) (itF ?_)
  have kk₃ := kk₂.trans k₃
  have G₃ := Bk.G.keeps kk₃
  have hT₃ := hT.mono (gr.sub.trans k₃)
  refine wpAny_allTrue_Or_cons (wpAny_isTrue_Compare1 (askM (f := 223) S₃ G₃ hT₃ h1 (by k_is) (by k_is) (by k_is) (by intros; rfl) (wpAny_call (height_spec 6 lab cs Bk.small.ht _ g₃ _ _ _ _ (hr.le (by omega)) G₃ S₃.in_ hT₃ fun tk₄ s₄ g₄ gr₄ => ?_))))
  have S₄ := S₃.call gr₄
  have kk₄ := kk₃.trans gr₄.sub
  have G₄ := Bk.G.keeps kk₄
  refine fnG G₄ S₄ gHigh kHigh (arg1 (nmL S₄ (v := nv) Bk.mn (arg0 ⟨(G₄.keeps S₄.in_).K, ?_⟩)))
  refine wpAny_call (high_spec 6 _ Bk.small _ g₄ _ _ _ (hr.le (by omega)) G₄ S₄.in_ (Bk.node.mono kk₄) fun tk₅ s₅ g₅ gr₅ => ?_)
  have S₅ := S₄.call gr₅
  refine neSame (d := .int ((T.node lab cs).ht : Nat)) hr S₅ (.int _ _) (.int _ _) (lay_int _) (by omega) (itF ?_)
  have kk₅ := kk₄.trans gr₅.sub
  have G₅ := Bk.G.keeps kk₅
  have hT₅ := hT₃.mono (gr₄.sub.trans gr₅.sub)
  refine wpAny_allTrue_Or_cons (wpAny_isTrue_Compare1 (fnG G₅ S₅ gPlain kPlain (arg1 (askM (f := 216) S₅ G₅ hT₅ h1 (by k_is) (by k_is) (by k_is) (by intros; rfl) (wpAny_call (flatten_spec Bk.small (hr.le (by omega)) G₅ S₅.in_ hT₅ fun u bs s₆ g₆ gr₆ hI => ?_))))))
  have S₆ := S₅.call gr₆
  have G₆ := G₅.keeps gr₆.sub
  refine arg0 ⟨(G₆.keeps S₆.in_).K, ?_⟩
  refine wpAny_call (plain_spec 2 _ (flat_small Bk.small) _ g₆ _ _ _ _ (hr.le (by omega)) G₆ S₆.in_ hI fun v₇ s₇ g₇ gr₇ r₇ => ?_)
  have S₇ := S₆.call gr₇
  have kk₇ := kk₅.trans (gr₆.sub.trans gr₇.sub)
  have G₇ := Bk.G.keeps kk₇
  have hT₇ := hT₅.mono (gr₆.sub.trans gr₇.sub)
  have rn := Bk.node.mono kk₇
  rw [T.pd] at rn
  refine eLst (arg1 (Subscript_ (nmL S₇ (v := nv) Bk.mn (wpAny_Constant_int ?_))))
  have S₇ := S₇.toks (s₇.toks + 1)
  refine itRdL S₇ rn (by decide) (d := .str lab.s) rfl (by decide) fun y ry => ?_
  refine arg1 (askM (f := 209) S₇ G₇ hT₇ h1 (by k_is) (by k_is) (by k_is) (by intros; rfl) (wpAny_call (leaves_spec 6 lab cs Bk.small _ g₇ _ _ _ _ (hr.le (by omega)) G₇ S₇.in_ hT₇ fun v₈ s₈ g₈ gr₈ r₈ => ?_)))
  have S₈ := S₇.call gr₈
  refine arg0 (mkLstF S₈ (.cons (ry.mono gr₈.sub) (.cons r₈.rd .nil)) (sl (by simp)) fun v₉ g₉ s₉ k₉ r₉ S₉ => ?_)
  have e : (T.flat lab cs).pd = .list [.str lab.s, .list ((T.lvL cs).map symD)] := by
    rw [T.flat, T.pd, pdL_map, List.map_map]; rfl
  rw [e] at r₇
  refine neSame hr S₉ (r₇.mono (gr₈.sub.trans k₉)) r₉ (by rw [← e]; exact lay_pd _) (by have := (flat_small Bk.small).ht; omega) (itF (wpAny_allTrue_Or_nil (itF (xNil (thenNext ?_)))))
  obtain ⟨gF, f1, f2, f3, S₁₀⟩ := bk _ _ _ _ ((((gr.sub.trans k₃).trans gr₄.sub).trans gr₅.sub).trans (((gr₆.sub.trans gr₇.sub).trans gr₈.sub).trans k₉)) S₉
  exact h gF s₉ f1 S₁₀ (Bk.mono f1 rfl rfl)
end
end Mine
namespace Mine
mutual
theorem inner_small : ∀ (t u : T), u ∈ t.inner → u.ht ≤ t.ht ∧ u.sz ≤ t.sz
  | .leaf y, u, h => by rw [T.inner] at h; cases h
  | .node l cs, u, h => by
    rw [T.inner] at h
    rcases List.mem_cons.mp h with rfl | h
    · exact ⟨Nat.le_refl _, Nat.le_refl _⟩
    · have := innerL_small cs u h
      rw [T.ht, T.sz]; omega
theorem innerL_small : ∀ (ts : List T) (u : T), u ∈ T.innerL ts → u.ht ≤ T.htL ts ∧ u.sz ≤ T.szL ts
  | [], u, h => by rw [T.innerL] at h; cases h
  | t :: ts, u, h => by
    rw [T.innerL] at h
    rw [T.htL, T.szL]
    rcases List.mem_append.mp h with h | h
    · have := inner_small t u h; omega
    · have := innerL_small ts u h; omega
end
theorem at_small : ∀ (p : Plc) (t u : T), t.at p = some u → u.ht + p.length ≤ t.ht ∧ u.sz ≤ t.sz
  | [], t, u, h => by rw [T.at_nil] at h; cases h; exact ⟨Nat.le_refl _, Nat.le_refl _⟩
  | k :: p, .leaf y, u, h => by rw [T.at] at h; cases h
  | k :: p, .node l cs, u, h => by
    obtain ⟨c, hc, hp⟩ := at_cons h
    have h1 := at_small p c u hp
    have h2 := htL_le hc
    have h3 := szL_le hc
    rw [T.ht, T.sz, List.length_cons]; omega
theorem places_small {t : T} {x : Plc × T} (h : x ∈ places t []) : t.at x.1 = some x.2 ∧ x.2.ht + x.1.length ≤ t.ht ∧ x.2.sz ≤ t.sz := by
  have := places_at t [] (T.at_nil t) x h
  exact ⟨this, at_small _ _ _ this⟩
theorem lay_parts {n : Nat} {l : List T} (h : ∀ u ∈ l, u.ht ≤ n) : Lay (2 * n + 1) (.list (l.map T.pd)) :=
  lay_list fun d hd => by
    obtain ⟨u, hu, rfl⟩ := List.mem_map.mp hd
    exact (lay_pd u).le (by have := h u hu; omega)
noncomputable def B9L : Lvl := ⟨930, 9900, by decide⟩
section
variable {w : World} {mg mb : Str → Option Value} {A : Around} {E : Value → Shared → Prop} {X : List Addr} {m : Str → Option Value} {ow : List (Addr × Obj)} {env : Env} {g₀ g : Heap} {s₀ s : Shared} {L : Addr} {lab : Sym} {cs : List T} {nv tv : Value} {tp : Addr} {cv : Value} {ms : List Int} {k : Int} {tk : Tok} {n : Nat} {oP oQ o1 o2 o3 o4 : Obj} {Q : Flow → Shared → Prop} {tl : List (Addr × Obj)}
theorem inner_len : ∀ t : T, t.inner.length ≤ t.sz := fun t => by
  rw [← places_inner t [], List.length_map]
  exact Nat.le_trans (List.length_filter_le ..) (by rw [places_len]; exact Nat.le_refl _)
theorem law_s9 (hr : Room A 99) {pv iv : Value} (S : St LX g₀ s₀ L g s m (lawO L o1 o2 o3 o4 tp (tapeO cv k tk n) oP oQ ++ tl)) (Bk : LawB w mg mb g m lab cs nv tp cv ms k oP oQ) (hTI : TreeIn g tl tv (.node lab cs)) (h1 : o1.data = .cell (some tv))
    (h2 : o2.data = .cell (some pv)) (hp : Rd g pv (.list ((places (.node lab cs) []).map prD))) (hmi : m "inner" = some iv) (hin : Rd g iv (.list (T.pdL (T.node lab cs).inner)))
    (h : ∀ g' s', Sub g g' → St LX g₀ s₀ L g' s' m (lawO L o1 o2 o3 o4 tp (tapeO cv k tk n) oP oQ ++ tl) → LawB w mg mb g' m lab cs nv tp cv ms k oP oQ → wpAny (model prg w) A (execs ((lawR w).body.drop 10) (lawE w L)) Q E s') :
    wpAny (model prg w) A (execs ((lawR w).body.drop 9) (lawE w L)) Q E s := by
  obtain ⟨gT, as, k1, hT, nd, S1, bk⟩ := asked (tlX S) S hTI
  have GT := Bk.G.keeps k1
  have hA1 := hr.1
  have hA2 := hr.2.1
  have hA3 := hr.2.2
  simp only [recursionLimit, cLine] at hA2 hA3
  have hsz : (T.node lab cs).inner.length ≤ 400 := Nat.le_trans (inner_len _) Bk.small.sz
  refine xIf (wpAny_isTrue_BoolOp (wpAny_allTrue_Or_cons (wpAny_isTrue_Compare1 (lcEval (cl := []) rfl rfl (by decide) (askM (f := 238) S1 GT hT h1 (by k_is) (by k_is) (by k_is) (by intros; rfl) ?_)))))
  refine sub_spec 6 lab cs Bk.small B9L gT (by decide) GT tv as hT _ _ _ _ _ _ _ _ _ _ _ hr.depth (.refl _) S1 fun a C oa oC gs s₂ S₂ hga hgs hg0 hgo => ?_
  obtain ⟨g₃, k₃, e₃, _, S₃⟩ := S₂.freeze fun hm => (List.nodup_cons.mp S₂.nd).1 (.tail _ (lawO_in _ hm))
  have S₃ : St LX g₀ s₀ L g₃ s₂ m ([(C, oC)] ++ lawO L o1 o2 o3 o4 tp (tapeO cv k tk n) oP oQ) := S₃
  refine compG (B := B9L) (P := PS gT (T.node lab cs).inner) (K := fun _ => True) (gow := []) hr.1 (by show A.depth + 1 ≤ 930; omega) (by show A.units + 12 ≤ 9900; omega) LX_lo (GT.keeps k₃) S₃
    ⟨hga _ e₃, hgs, fun _ h => (nomatch h), hg0, (by simp), k₃, trivial, hgo⟩ (fun b hb => .inl (lawO_in b hb)) (by omega) (by decide) rfl rfl
    (fun l g' ys => RdA g' ys (T.pdL ((T.node lab cs).inner.take ((T.node lab cs).inner.length - l))) ∧ l ≤ (T.node lab cs).inner.length) (fun l g h ys k hh => ⟨hh.1.mono k, hh.2⟩) ⟨by rw [Nat.sub_self, List.take_zero]; exact .nil, Nat.le_refl _⟩ ?_ ?_
  · rintro l v C' g' s' mC ys ow2 hg ⟨hJ, hl⟩ ⟨lab2, cs2, bs, hr2, hI⟩ S'
    have G' := (GT.keeps k₃).keeps hg
    have hlt := (List.getElem?_eq_some_iff.mp hr2).1
    rw [List.length_reverse] at hlt
    rw [List.getElem?_reverse hlt, show (T.node lab cs).inner.length - 1 - l = (T.node lab cs).inner.length - (l + 1) by omega] at hr2
    have hm := inner_small _ _ (List.mem_of_getElem? hr2)
    have hsm : (T.node lab2 cs2).Small 6 := ⟨Nat.le_trans hm.1 Bk.small.ht, Nat.le_trans hm.2 Bk.small.sz⟩
    refine fnG G' S' gPlain kPlain (arg1 (nmL S' (v := v) rfl (arg0 ⟨(G'.keeps S'.in_).K, ?_⟩)))
    refine wpAny_call (plain_spec 6 _ hsm _ g' _ _ _ _ (hr.le (by omega)) G' S'.in_ (hI.mono (k₃.trans hg)) fun u s₄ g₄ gr r₄ => ?_)
    refine ⟨g₄, _, gr.sub, gr.gens, S'.call gr, ?_, by omega⟩
    rw [show (T.node lab cs).inner.length - l = (T.node lab cs).inner.length - (l + 1) + 1 by omega, take_snoc hr2, pdL_map, List.map_append, ← pdL_map]
    try (show wpAny _ _ _ _ _ _; k_fold)
    exact (hJ.mono gr.sub).append (.cons r₄ .nil)
  · rintro D g' s' ys kk hg ⟨hJ, _⟩ S'
    try (show wpAny _ _ _ _ _ _; k_fold)
    rw [Nat.sub_zero, List.take_length] at hJ
    obtain ⟨g₄, k₄, e₄, _, S₄⟩ := S'.freeze fun hm => (List.nodup_cons.mp S'.nd).1 (lawO_in _ hm)
    have kk₄ := k1.trans (k₃.trans (hg.trans k₄))
    have G₄ := Bk.G.keeps kk₄
    have rL : Rd g₄ (.ref D) (.list (T.pdL (T.node lab cs).inner)) := .list (isList_of e₄) (hJ.mono k₄)
    have hpn : ∀ x ∈ places (.node lab cs) [], x.2.ht ≤ 6 := fun x hx => by have := (places_small hx).2.1; have := Bk.small.ht; omega
    refine nmL S₄ (v := iv) hmi ?_
    refine neSame (j := 13) hr S₄ rL (hin.mono kk₄) (by rw [pdL_map]; exact lay_parts (n := 6) fun u hu => Nat.le_trans (inner_small _ _ hu).1 Bk.small.ht) (by omega) (itF ?_)
    obtain ⟨l, vs, rfl, hl, rvs⟩ := (hp.mono kk₄).asList
    have hz : (places (.node lab cs) []).length ≤ 400 := by rw [places_len]; exact Bk.small.sz
    refine wpAny_allTrue_Or_cons (wpAny_isTrue_Compare1 (lcEval (cl := [("tree", L + 1)]) rfl rfl (by decide) (nmC (c := L + 2) (v := .ref l) ⟨o2, S₄.get (.tail _ (.tail _ (.head _))), h2⟩ ?_)))
    refine compL hr.1 S₄ hl (by rw [rvs.length, List.length_map]; exact sl (by omega)) (by decide) rfl rfl (fun i g' ys => RdA g' ys (((places (.node lab cs) []).take i).map fun r => r.2.pd)) (by exact .nil) ?_ ?_
    · intro i v I oi se C g' s' mC ys ow2 Se hv hg5 hJ5 S'
      try (show wpAny _ _ _ _ _ _; k_fold)
      have G' := G₄.keeps hg5
      obtain ⟨d, hd, rv⟩ := rvs.get' hv
      rw [List.getElem?_map] at hd
      obtain ⟨r, hr', rfl⟩ := Option.map_eq_some_iff.mp hd
      have rv := rv.mono hg5
      rw [prD] at rv
      have hps := places_small (List.mem_of_getElem? hr')
      have hTr := ((hT.mono (k₃.trans (hg.trans k₄))).mono hg5)
      obtain ⟨x, dx, lx, d1, d2, t1, t2, tkx, nx, rfl, hx, hdx⟩ := isT_node_of hTr
      have hcell : s'.heap.IsCell (L + 1) (some (.ref x)) := ⟨o1, S'.grow.keep _ _ (fun hm => (List.nodup_cons.mp Se.nd).1 (by rw [← List.mem_singleton.mp hm]; simp)) (Se.get (.tail _ (.tail _ (.tail _ (.tail _ (.head _)))))), h1⟩
      refine fnG G' S' gPlain kPlain (arg1 (Subscript_ (nmC (c := L + 1) (v := .ref x) hcell (Subscript_ (nmL S' (v := v) rfl (wpAny_Constant_int ?_))))))
      have S' := S'.toks (s'.toks + 1)
      refine itRdT S' rv (by decide) (d := posD r.1) rfl (by decide) fun y ry => ?_
      obtain ⟨ya, _, rfl, _, _⟩ := Rd.asTuple ry
      refine subTree G' S' (instT S'.in_ hx hdx) ?_
      refine wpAny_call (item_tup r.1 6 _ Bk.small _ _ _ _ _ _ _ _ (hr.in1.le (by omega)) G' S'.in_ hTr (.inr ⟨_, _, rfl⟩) ry (by have := Bk.small.ht; omega) hps.1 fun u bs s₆ g₆ gr₆ hI => ?_)
      have S₆ := S'.call gr₆
      refine arg0 ⟨((G'.keeps gr₆.sub).keeps S₆.in_).K, ?_⟩
      refine wpAny_call (plain_spec 6 r.2 ⟨by have := Bk.small.ht; omega, Nat.le_trans hps.2.2 Bk.small.sz⟩ _ g₆ _ _ _ _ (hr.le (by omega)) (G'.keeps gr₆.sub) S₆.in_ hI fun u s₇ g₇ gr₇ r₇ => ?_)
      refine ⟨g₇, _, gr₆.sub.trans gr₇.sub, S₆.call gr₇, ?_⟩
      rw [take_snoc hr', List.map_append]
      exact (hJ5.mono (gr₆.sub.trans gr₇.sub)).append (.cons r₇ .nil)
    · intro D2 g' s' ys kk hg5 hJ5 S'
      try (show wpAny _ _ _ _ _ _; k_fold)
      rw [rvs.length, List.length_map, List.take_length] at hJ5
      obtain ⟨g₅, k₅, e₅, _, S₅⟩ := S'.freeze fun hm => (List.nodup_cons.mp S'.nd).1 (lawO_in _ hm)
      have kk₅ := kk₄.trans (hg5.trans k₅)
      refine lcEval (cl := []) rfl rfl (by decide) (nmC (c := L + 2) (v := .ref l) ⟨o2, S₅.get (.tail _ (.tail _ (.head _))), h2⟩ ?_)
      refine colRow (c := 1) (f := fun r => r.2.pd) (fun r => rfl) (by omega) hr.1 lawO_in (Bk.G.keeps kk₅) S₅ (hp.mono kk₅) (by omega) (by decide) rfl rfl fun v₆ g₆ s₆ k₆ S₆ rv₆ => ?_
      have rD : Rd g₅ (.ref D2) (.list ((places (.node lab cs) []).map fun r => r.2.pd)) := .list (isList_of e₅) (hJ5.mono k₅)
      have lay : Lay 13 (.list ((places (.node lab cs) []).map fun r => r.2.pd)) := by
        have e : ((places (.node lab cs) []).map fun r => r.2.pd) = ((places (.node lab cs) []).map (·.2)).map T.pd := by rw [List.map_map]; rfl
        rw [e]
        refine lay_parts (n := 6) fun u hu => ?_
        obtain ⟨x, hx, rfl⟩ := List.mem_map.mp hu
        exact hpn x hx
      refine neSame hr S₆ (rD.mono k₆) rv₆.rd lay (by omega) (itF (wpAny_allTrue_Or_nil (itF (xNil (thenNext ?_)))))
      obtain ⟨gF, f1, f2, f3, S₇⟩ := bk _ _ _ _ ((k₃.trans (hg.trans k₄)).trans ((hg5.trans k₅).trans k₆)) S₆
      exact h gF s₆ f1 S₇ (Bk.mono f1 rfl rfl)
end
end Mine
namespace Mine
theorem lookup_relabel_cell {env : Env} : ∀ {names : List (Str × NameKind)} {x : Str}, names.lookup x = some .cell →
    (names.map fun (n, k) => if (k == NameKind.free && env.scope.kind == .function && env.kindOf n == some .cell) then (n, NameKind.cell) else (n, k)).lookup x = some .cell
  | [], _, h => by simp at h
  | (n, k) :: r, x, h => by
    have ih := @lookup_relabel_cell env r x
    show List.lookup x ((if (k == NameKind.free && env.scope.kind == .function && env.kindOf n == some .cell) = true then (n, NameKind.cell) else (n, k)) :: _) = _
    cases hx : x == n with
    | true =>
      simp only [List.lookup_cons, hx] at h
      cases h
      simp [List.lookup_cons, hx]
    | false =>
      simp only [List.lookup_cons, hx] at h
      by_cases hc : (k == NameKind.free && env.scope.kind == .function && env.kindOf n == some .cell) = true
      · rw [if_pos hc]; simp only [List.lookup_cons, hx]; exact ih h
      · rw [if_neg hc]; simp only [List.lookup_cons, hx]; exact ih h
theorem permUC {α : Type} (K D I L : α) (r : List α) : (K :: ([I] ++ D :: L :: r)).Perm (L :: K :: D :: I :: r) := permL [[K], [I], [D], [L], r] (is := [0, 1, 2, 3, 4]) (js := [3, 0, 2, 1, 4]) (by decide)
noncomputable abbrev cellO : Obj := { cls := .type "cell", data := .cell none }
section
variable {w : World} {mg mb : Str → Option Value} {M : Model} {A : Around} {E : Value → Shared → Prop} {X : List Addr} {g₀ g : Heap} {s₀ s : Shared} {L C : Addr} {m mC : Str → Option Value} {ow : List (Addr × Obj)} {env : Env}
theorem nfeCell {scope : Scope} {cl : List (Str × Addr)} {x : Str} {globals : Addr} {qual : Str} {Q : Env → Shared → Prop} (hcells : ∀ n, cellsFrom n scope.names cl = (x, n) :: cl) (hpush : ∀ h, pushCells h scope.names = h.push cellO)
    (h : Q (newEnv scope s.heap.objs.size globals ((x, s.heap.objs.size + 1) :: cl) qual none .none (some env) builtinsNs) { s with heap := (s.heap.push { cls := .type "dict", data := .dict #[] }).push cellO }) :
    wpAny M A (newFunctionEnv scope globals cl [] qual none .none (some env)) Q E s := by
  simp only [newFunctionEnv, Option.isSome_some, if_true]
  refine wpAny_bind (wpAny_alloc ?_)
  refine wpAny_bind (wpAny_layCells _ (fun name kind cells => by cases hkc : kind == NameKind.cell <;> simp [hkc]) _ _ _ _ ?_)
  rw [show ({ s with heap := s.heap.push { cls := .type "dict", data := .dict #[] } } : Shared).heap.objs.size = s.heap.objs.size + 1 from Heap.size_push .., hcells, hpush]
  rw [List.forIn_nil]
  exact wpAny_bind (wpAny_pure (wpAny_pure h))
theorem compUC {elt iter : Expr} {x y : Str} {px py : PySem.Pos} {ifs : List Expr} {scope : Scope} {cl : List (Str × Addr)} {pos : PySem.Pos} {l : Addr} {vs : List Value} {Q : Shared → Prop}
    (hh : A.handled = none) (hXlo : ∀ b ∈ X, b < 353) (G : Amb w mg mb g) (S : St X g₀ s₀ L g s m ow) (hl : g.IsList l vs.toArray) (hsz : vs.length ≤ 900)
    (hcells : ∀ n, cellsFrom n scope.names cl = (x, n) :: cl) (hpush : ∀ h, pushCells h scope.names = h.push cellO) (hkind : scope.kind = .function) (hx : scope.names.lookup x = some .cell)
    (J : Nat → Heap → List Value → Prop) (h0 : J 0 g [])
    (turn : ∀ i v C K oK g' s' mC ys ow2, oK.data = .cell (some v) → vs[i]? = some v → Sub g g' → J i g' ys → (∀ p ∈ ow, p ∈ ow2) → St X g₀ s₀ C g' s' mC ((K, oK) :: ow2) →
      wpAny (model prg w) A (forIn ifs true fun c r => if r = true then do let ok ← isTrue c (compEnvC scope ((x, K) :: cl) C env) (eval c (compEnvC scope ((x, K) :: cl) C env)); pure (ForInStep.yield ok) else pure (ForInStep.yield r)) (fun ok s₃ =>
          if ok = true then wpAny (model prg w) A (eval elt (compEnvC scope ((x, K) :: cl) C env)) (fun y s₄ => ∃ g₄ m₄, Sub g' g₄ ∧ St X g₀ s₀ C g₄ s₄ m₄ ((K, oK) :: ow2) ∧ J (i + 1) g₄ (ys ++ [y])) (fun _ _ => False) s₃
          else ∃ g₃ m₃, Sub g' g₃ ∧ St X g₀ s₀ C g₃ s₃ m₃ ((K, oK) :: ow2) ∧ J (i + 1) g₃ ys) (fun _ _ => False) s')
    (done : ∀ D g' s' ys k, Sub g g' → J vs.length g' ys → St X g₀ s₀ L g' s' (upd m y (.ref D)) ((D, lstO ys k) :: ow) → Q s')
    (hL : env.locals = L := by rfl) (hek : env.scope.kind = .function := by rfl) (hy : env.kindOf y = some .local := by rfl) :
    wpAny (model prg w) A (pyIter (.ref l)) (fun it s₂ => wpAny (model prg w) A (newList []) (fun acc s₃ => wpAny (model prg w) A (newFunctionEnv scope env.globals cl [] env.qual none .none (some env)) (fun cenv s₄ =>
      codeAny (model prg w) A (.compStart (.ListComp elt [⟨.Name x px, iter, ifs, 0⟩] scope pos) 0 it acc { cenv with scope := relabel scope env }) (compPost (model prg w) A E (some (assign (.Name y py) env)) (fun _ s' => Q s') acc cenv.locals) s₄) E s₃) E s₂) E s := by
  refine wpAny_pyIter_list (IsList.mono S.in_ hl) ?_
  have SI := S.push { cls := .type "list_iterator", data := .fields #[.ref l, .int 0 0] }
  have hIlo : 353 ≤ s.heap.objs.size := Amb.lo (G.keeps S.in_)
  generalize hs1 : ({ s with heap := s.heap.push { cls := .type "list_iterator", data := .fields #[.ref l, .int 0 0] } } : Shared) = s1 at *
  generalize s.heap.objs.size = I at *
  refine wpAny_newObj_type ?_
  have SD := SI.push (listOf ([] : List Value).toArray 0)
  refine nfeCell hcells hpush ?_
  have SC := SD.push { cls := .type "dict", data := .dict #[] }
  have SK := SC.push cellO
  have hns₁ := (Heap.Ns.new (s1.heap.push (listOf ([] : List Value).toArray 0)) (.type "dict")).push cellO
  have hszK : ((s1.heap.push (listOf ([] : List Value).toArray 0)).push { cls := .type "dict", data := .dict #[] }).objs.size = (s1.heap.push (listOf ([] : List Value).toArray 0)).objs.size + 1 := Heap.size_push ..
  dsimp only at hns₁ SK SC SD ⊢
  have hclo : 353 ≤ (s1.heap.push (listOf ([] : List Value).toArray 0)).objs.size := Amb.lo (G.keeps SD.in_)
  have hCX : (s1.heap.push (listOf ([] : List Value).toArray 0)).objs.size ∉ X := fun hm => absurd (hXlo _ hm) (Nat.not_lt.mpr hclo)
  have hLX : L ∉ X := fun hm => absurd (hXlo _ hm) (Nat.not_lt.mpr S.lo)
  have hIX : I ∉ X := fun hm => absurd (hXlo _ hm) (Nat.not_lt.mpr hIlo)
  rw [hszK] at SK
  obtain ⟨oL, hnL, S₂⟩ := St.into (SK.perm (.swap ..)) hCX hns₁ hclo
  generalize (s1.heap.push (listOf ([] : List Value).toArray 0)).objs.size = C at *
  generalize hK : C + 1 = K at *
  generalize s1.heap.objs.size = D at *
  have loop : ∀ s₃ : Shared, s₃ = { s1 with heap := ((s1.heap.push (listOf ([] : List Value).toArray 0)).push { cls := .type "dict", data := .dict #[] }).push cellO } →
      codeAny (model prg w) A (.compLoop (.ListComp elt [⟨.Name x px, iter, ifs, 0⟩] scope pos) 0 (.ref I) (.ref D) (compEnvC scope ((x, K) :: cl) C env)) (compPost (model prg w) A E (some (assign (.Name y py) env)) (fun _ s' => Q s') (.ref D) C) s₃ := by
    rintro s₃ rfl
    refine codeAny_compLoop_tests (fun k s' => ∃ i it g' mC ys e oK v₀, i + k = vs.length ∧ ys.length ≤ i ∧ ItL I l i it ∧ ks it = [I] ∧ Sub g g' ∧ J i g' ys ∧ oK.data = .cell v₀ ∧ St X g₀ s₀ C g' s' mC ((K, oK) :: (it ++ (D, lstO ys e) :: (L, oL) :: ow))) ?_ vs.length
      ⟨0, [(I, _)], g, _, [], 0, cellO, none, Nat.zero_add _, Nat.le_refl _, ⟨_, rfl, fun h e => ⟨_, e, rfl, rfl⟩⟩, rfl, .refl _, h0, rfl, S₂.perm (permUC ..)⟩
    rintro k s' ⟨i, it, g', mC', ys, e, oK, v₀, hk, hys, hit, hki, hg, hJ, hdK, S'⟩
    have hl' : g'.IsList l vs.toArray := IsList.mono hg hl
    have S' : St X g₀ s₀ C g' s' mC' (it ++ (K, oK) :: (D, lstO ys e) :: (L, oL) :: ow) := S'.perm List.perm_middle
    cases k with
    | zero =>
      have hi : i = vs.length := by omega
      subst hi
      refine endL hh hl' hit hIX S' fun s₄ S₄ => ?_
      have S₄ := (S₄.drop).perm (.swap (D, lstO ys e) (L, oL) ow)
      obtain ⟨oC₂, hnC₂, S₅⟩ := St.into S₄ hLX (hnL _ (S₄.own _ (.head _)).1) S.lo
      show wpAny _ A (assign (.Name y py) env (.ref D)) _ _ _
      refine wpAny_assign_Name (stL S₅ (fun s₆ S₆ => ?_) hL hek hy)
      try (show wpAny _ _ _ _ _ _; k_fold)
      refine ⟨_, hnC₂ _ (S₆.own _ (.head _)).1, fun h₃ hs₃ => ?_⟩
      refine done D g' _ ys e hg hJ ?_
      exact St.turn1 (Y := [(C, oC₂)]) (Y' := []) (tk := s₆.toks) (h' := h₃) S₆ (fun b o hb e => (hs₃.2 b (fun q => hb (by simp [q]))).trans e) (fun p hp => nomatch hp) List.nodup_nil (fun b hb hm => absurd hb (by rw [List.mem_singleton.mp hm]; exact hCX))
    | succ k =>
      refine nextL hh hl' (by omega) hit hIX S' fun v it' s₂ hv hit' hki' S₂ => ?_
      refine wpAny_noRaise (wpAny_assign_Name (stC (c := K) (pre := it') S₂ hdK (fun oK' s₃ hdK' S₃ => ?_) (by simp [compEnvC]) (by simp [compEnvC, relabel, hkind]) (lookup_relabel_cell hx)))
      have S₃ : St X g₀ s₀ C g' s₃ mC' ((K, oK') :: (it' ++ (D, lstO ys e) :: (L, oL) :: ow)) := S₃.perm List.perm_middle.symm
      refine wpAny_mono (turn i v C K oK' g' s₃ mC' ys _ hdK' hv hg hJ (fun p hp => List.mem_append.mpr (.inr (.tail _ (.tail _ hp)))) S₃) (fun ok s₄ t₄ => ?_) fun _ _ x => x.elim
      cases ok with
      | true =>
        rw [if_pos rfl] at t₄ ⊢
        refine wpAny_noRaise (wpAny_mono t₄ (fun y s₄ t₄ => ?_) fun _ _ x => x.elim)
        obtain ⟨g₄, m₄, hg₄, S₄, hJ₄⟩ := t₄
        refine appendL (pre := (K, oK') :: it') S₄ (sl (by omega)) fun s₅ S₅ => ?_
        exact ⟨k, Nat.lt_succ_self _, i + 1, it', g₄, m₄, ys ++ [y], e + 1, oK', _, by omega, by rw [List.length_append, List.length_singleton]; omega, hit', hki', hg.trans hg₄, hJ₄, hdK', S₅⟩
      | false =>
        rw [if_neg Bool.false_ne_true] at t₄ ⊢
        obtain ⟨g₃, m₃, hg₃, S₃, hJ₃⟩ := t₄
        exact ⟨k, Nat.lt_succ_self _, i + 1, it', g₃, m₃, ys, e, oK', _, by omega, by omega, hit', hki', hg.trans hg₃, hJ₃, hdK', S₃⟩
  exact codeAny_compStart_list (loop _ rfl) ((Walks.list (prog := prg) (w := w) hh I l (fun e => by
    obtain ⟨o, ho, _⟩ := hl
    have := (SI.own _ (.head _)).2.2.1
    dsimp only at this
    rw [← e, ho] at this; cases this) vs.toArray).self 0 _ _ _ ⟨⟨_, S₂.get (.tail _ (.tail _ (.tail _ (.head _)))), rfl, rfl⟩, IsList.mono S₂.in_ hl⟩ (loop _ rfl))
end
end Mine
namespace Mine
theorem up_node : ∀ (p : Plc) (t : T) (y : Sym), p ≠ [] → t.at p = some (.leaf y) → ∃ l cs, t.at p.dropLast = some (.node l cs)
  | [], _, _, h, _ => absurd rfl h
  | k :: p, .leaf x, y, _, h => by rw [T.at] at h; cases h
  | [k], .node l cs, y, _, h => ⟨l, cs, T.at_nil _⟩
  | k :: k2 :: p, .node l cs, y, _, h => by
    obtain ⟨c, hc, hp⟩ := at_cons h
    obtain ⟨l2, cs2, e⟩ := up_node (k2 :: p) c y (by simp) hp
    refine ⟨l2, cs2, ?_⟩
    rw [List.dropLast_cons_of_ne_nil (by simp), T.at, hc]; exact e
noncomputable def labD : Option Sym → PyData
  | some l => .str l.s
  | none => .none
noncomputable def tagD (t : T) (r : Plc × T) : PyData := .tuple [r.2.pd, labD (labOf (t.at r.1.dropLast))]
theorem wordsOf_node (lab : Sym) (cs : List T) : wordsOf (places (.node lab cs) []) = wordsOf (placesL cs 0 []) := by
  rw [places, wordsOf, List.filter_cons_of_neg (by simp [T.isLeaf]), ← wordsOf]
theorem tags_po (lab : Sym) (cs : List T) : (wordsOf (places (.node lab cs) [])).map (tagD (.node lab cs)) = (T.poL lab cs).map wtD := by
  have h := poL_words (t0 := .node lab cs) cs [] lab [] (T.at_nil _)
  have h2 := congrArg (List.map fun z : Option Sym × Option Sym => PyData.tuple [labD z.1, labD z.2]) h
  rw [List.map_map, List.map_map] at h2
  rw [wordsOf_node]
  refine Eq.trans (List.map_congr_left fun r hr => ?_) (h2.symm.trans (List.map_congr_left fun y hy => rfl))
  have hl := (List.mem_filter.mp hr).2
  obtain ⟨q, t⟩ := r
  cases t with
  | leaf y => rfl
  | node l c => cases hl
theorem cut_last (n : Nat) : cut n (-1) = n - 1 := by
  unfold cut
  rw [if_pos (by decide)]
  cases n with
  | zero => rfl
  | succ n =>
    have e : (-1 : Int) + ((n + 1 : Nat) : Int) = n := by rw [Int.natCast_succ, Int.add_comm, Int.add_assoc]; exact Int.add_zero _
    rw [e, Int.max_eq_left (Int.natCast_nonneg n)]; rfl
theorem posD_last (p : Plc) : PyData.tuple ((p.map fun i => PyData.int (i : Nat)).take (cut (p.map fun i => PyData.int (i : Nat)).length (-1))) = posD p.dropLast := by
  rw [cut_last, List.length_map, List.dropLast_eq_take, posD, List.map_take]
section
variable {w : World} {mg mb : Str → Option Value} {A : Around} {E : Value → Shared → Prop} {X : List Addr} {m : Str → Option Value} {ow : List (Addr × Obj)} {env : Env} {g₀ g : Heap} {s₀ s : Shared} {L : Addr} {lab : Sym} {cs : List T} {nv tv : Value} {tp : Addr} {cv : Value} {ms : List Int} {k : Int} {tk : Tok} {n : Nat} {oP oQ o1 o2 o3 o4 : Obj} {Q : Flow → Shared → Prop} {tl : List (Addr × Obj)}
theorem sliceUptoT {value up : Expr} {p pos : PySem.Pos} {ds : List PyData} {b : Int} {Q : Value → Shared → Prop}
    (h : wpAny (model prg w) A (eval value env) (fun o s₁ => wpAny (model prg w) A (eval up env) (fun l s₂ => ∃ u g₁ m₁ ow₁, l = .int b u ∧ Rd g₁ o (.tuple ds) ∧ ds.length ≤ sizeLine ∧ St X g₀ s₀ L g₁ s₂ m₁ ow₁ ∧
      ∀ v g' s', Sub g₁ g' → Rd g' v (.tuple (ds.take (cut ds.length b))) → St X g₀ s₀ L g' s' m₁ ow₁ → Q v s') E s₁) E s)
    (hs : ∀ t i, subscripted (.Slice none (some up) none p) false (.ref t) (.ref i) = operate [.ref i, .ref t] (getItem (.ref t) (.ref i)) := by intro _ _; with_unfolding_all rfl) : wpAny (model prg w) A (eval (.Subscript value (.Slice none (some up) none p) pos) env) Q E s := by
  refine Subscript_ (wpAny_mono h (fun o s₁ h₁ => ?_) fun _ _ x => x)
  refine wpAny_Slice (wpAny_evalPart_none (wpAny_evalPart_some (wpAny_mono h₁ (fun l s₂ h₂ => wpAny_evalPart_none ?_) fun _ _ x => x)))
  obtain ⟨u, g₁, m₁, ow₁, rfl, r, hz, S, hQ⟩ := h₂
  obtain ⟨t, vs, rfl, ht, rv⟩ := id r.asTuple
  have S₁ := S.push { cls := .type "slice", data := .fields #[.none, .int b u, .none] }
  have ht₁ := IsTup.mono S₁.in_ ht
  have hz' : vs.toArray.size ≤ sizeLine := by rw [List.size_toArray, rv.length]; exact hz
  refine tail_any (s := { s₂ with heap := s₂.heap.push { cls := .type "slice", data := .fields #[.none, .int b u, .none] } }) ht₁.typeIs slot_tuple_getitem.lookup (getItem_tuple_upto ht₁ (Heap.IsSliceOf.new ..) (fun hc => ?_) ?_ hz') (hs _ _)
  · rw [List.size_toArray, rv.length] at hc
    exact hQ _ g₁ _ (.refl _) (by rw [hc, List.take_length]; exact r) S₁.drop
  · have S₂ := S₁.push (tupO (vs.take (cut ds.length b)))
    have eL : vs.toArray.size = ds.length := by rw [List.size_toArray, rv.length]
    rw [eL]
    obtain ⟨g', k, e, _, S₃⟩ := S₂.freeze fun hm => by have := S₁.xin _ hm; rw [get_push_size_none] at this; cases this
    exact hQ _ g' _ k (.tuple (isTup_of e) ((rv.split _).1.mono k)) S₃.drop
theorem law_s10 (hr : Room A 99) {pv wv : Value} (S : St LX g₀ s₀ L g s m (lawO L o1 o2 o3 o4 tp (tapeO cv k tk n) oP oQ ++ tl)) (Bk : LawB w mg mb g m lab cs nv tp cv ms k oP oQ)
    (h2 : o2.data = .cell (some pv)) (hp : Rd g pv (.list ((places (.node lab cs) []).map prD))) (h3 : o3.data = .cell (some wv)) (hw : Rd g wv (.list ((wordsOf (places (.node lab cs) [])).map prD)))
    (h : ∀ g' s' gv, Sub g g' → St LX g₀ s₀ L g' s' (upd m "tags" gv) (lawO L o1 o2 o3 o4 tp (tapeO cv k tk n) oP oQ ++ tl) → LawB w mg mb g' (upd m "tags" gv) lab cs nv tp cv ms k oP oQ → Rd g' gv (.list ((T.poL lab cs).map wtD)) → wpAny (model prg w) A (execs ((lawR w).body.drop 11) (lawE w L)) Q E s') :
    wpAny (model prg w) A (execs ((lawR w).body.drop 10) (lawE w L)) Q E s := by
  have G := Bk.G
  obtain ⟨lw, vw, rfl, hlw, rvw⟩ := hw.asList
  obtain ⟨lp, vp, rfl, hlp, rvp⟩ := hp.asList
  have hz : (places (.node lab cs) []).length ≤ 400 := by rw [places_len]; exact Bk.small.sz
  have hzw : (wordsOf (places (.node lab cs) [])).length ≤ 400 := Nat.le_trans (List.length_filter_le ..) hz
  refine xAsnC (cl := [("places", L + 2)]) rfl rfl (by decide) (nmC (c := L + 3) (v := .ref lw) ⟨o3, S.get (.tail _ (.head _)), h3⟩ ?_)
  refine compUC hr.1 LX_lo G S hlw (by rw [rvw.length, List.length_map]; omega) (fun _ => rfl) (fun _ => rfl) rfl rfl (fun i g' ys => RdA g' ys (((wordsOf (places (.node lab cs) [])).take i).map (tagD (.node lab cs)))) (by exact .nil) ?_ ?_
  · intro i v C K oK g' s' mC ys ow2 hdK hv hg hJ hmem S'
    have G' := G.keeps hg
    obtain ⟨d, hd, rv⟩ := rvw.get' hv
    rw [List.getElem?_map] at hd
    obtain ⟨r, hr', rfl⟩ := Option.map_eq_some_iff.mp hd
    have rv := rv.mono hg
    rw [prD] at rv
    have hrm := List.mem_filter.mp (List.mem_of_getElem? hr')
    have hps := places_small hrm.1
    obtain ⟨q, tq⟩ := r
    obtain ⟨yq, rfl⟩ : ∃ yq, tq = .leaf yq := by cases tq with | leaf y => exact ⟨y, rfl⟩ | node a b => cases hrm.2
    dsimp only at hps rv
    obtain ⟨l2, cs2, hup⟩ := up_node q _ _ (fun e => by subst e; have := hps.1; rw [T.at_nil] at this; cases this) hps.1
    have hql : q.length ≤ 400 := by have := Bk.small.ht; omega
    rw [List.forIn_nil]
    refine wpAny_pure ?_
    rw [if_pos rfl]
    try (show wpAny _ _ _ _ _ _; k_fold)
    refine eTup (arg1 (Subscript_ (nmC (c := K) (v := v) ⟨oK, S'.get (.head _), hdK⟩ (wpAny_Constant_int ?_))))
    have S' := S'.toks (s'.toks + 1)
    refine itRdT S' rv (by decide) (d := .str yq.s) rfl (by decide) fun y ry => arg1 (Subscript_ ?_)
    refine lcEval (cl := [("row", K)]) rfl rfl (by decide) (nmC (c := L + 2) (v := .ref lp) ⟨o2, S'.get (.tail _ (hmem _ (by simp))), h2⟩ ?_)
    refine compL2 hr.1 S' (IsList.mono hg hlp) (by rw [rvp.length, List.length_map]; exact sl (by omega)) (by decide) rfl rfl (fun i g' zs => RdA g' zs ((((places (.node lab cs) []).take i).filter fun x => x.1 == q.dropLast).map fun _ => PyData.str l2.s)) (by exact .nil) ?_ ?_
    · intro j u I oi se C2 g2 s2 mC2 zs ow3 Se hu hg2 hJ2 S2
      have G2 := G'.keeps hg2
      obtain ⟨d2, hd2, ru⟩ := rvp.get' hu
      rw [List.getElem?_map] at hd2
      obtain ⟨r2, hr2, rfl⟩ := Option.map_eq_some_iff.mp hd2
      have ru := ru.mono (hg.trans hg2)
      rw [prD] at ru
      have hps2 := places_small (List.mem_of_getElem? hr2)
      have hcell : s2.heap.IsCell K (some v) := ⟨oK, S2.grow.keep _ _ (fun hm => (List.nodup_cons.mp Se.nd).1 (by rw [← List.mem_singleton.mp hm]; exact .head _)) (Se.get (.tail _ (.head _))), hdK⟩
      refine wpAny_isTrue_Compare1 (Subscript_ (nmL S2 (v := u) rfl (wpAny_Constant_int ?_)))
      have S2 := S2.toks (s2.toks + 1)
      refine itRdT S2 ru (by decide) (d := posD r2.1) rfl (by decide) fun z rz => ?_
      refine sliceUptoT (X := [I]) (g₀ := g') (s₀ := se) (L := C2) (ds := q.map fun i => PyData.int (i : Nat)) (b := -1) (Subscript_ (nmC (c := K) (v := v) hcell (wpAny_Constant_int ?_)))
      have S2 := S2.toks (s2.toks + 1 + 1)
      refine itRdT S2 (rv.mono hg2) (by decide) (d := posD q) rfl (by decide) fun z2 rz2 => ?_
      refine wpAny_UnaryOp (wpAny_Constant_int (neg_int ?_))
      have S2 := (S2.toks (s2.toks + 1 + 1 + 1)).toks (s2.toks + 1 + 1 + 1 + 1)
      refine ⟨_, g2, _, _, rfl, rz2, by rw [List.length_map]; exact sl (by omega), S2, fun z3 g3 s3 k3 r3 S3 => ?_⟩
      rw [posD_last] at r3
      refine tEqR hr (by omega) S3 (rz.mono k3) r3 (posD_shaped _) (posD_shaped _) ?_
      rw [eqv_pos]
      have e := take_snoc hr2
      by_cases hq : r2.1 = q.dropLast
      · rw [decide_eq_true hq, if_pos rfl]
        obtain ⟨q2, t2⟩ := r2
        dsimp only at hq hps2 ru
        subst hq
        rw [hup] at hps2
        cases hps2.1
        refine Subscript_ (Subscript_ (nmL S3 (v := u) rfl (wpAny_Constant_int ?_)))
        have S3 := S3.toks (s3.toks + 1)
        refine itRdT S3 (ru.mono k3) (by decide) (d := (T.node l2 cs2).pd) rfl (by decide) fun z4 rz4 => wpAny_Constant_int ?_
        have S3 := S3.toks (s3.toks + 1 + 1)
        rw [T.pd] at rz4
        refine itRdL S3 rz4 (by decide) (d := .str l2.s) rfl (by decide) fun z5 rz5 => ⟨g3, _, k3, S3, ?_⟩
        rw [e, List.filter_append, List.map_append, List.filter_cons_of_pos (by simp), List.filter_nil]
        exact (hJ2.mono k3).append (.cons rz5 .nil)
      · rw [decide_eq_false hq, if_neg (by decide)]
        refine ⟨g3, _, k3, S3, ?_⟩
        rw [e, List.filter_append, List.filter_cons_of_neg (by simpa using hq), List.filter_nil, List.append_nil]
        exact hJ2.mono k3
    · intro D g2 s2 zs kk hg2 hJ2 S2
      try (show wpAny _ _ _ _ _ _; k_fold)
      rw [rvp.length, List.length_map, List.take_length] at hJ2
      obtain ⟨l3, e3⟩ := above hup
      rw [e3, List.map_cons] at hJ2
      obtain ⟨g3, k3, ee3, _, S3⟩ := S2.freeze fun hm => (List.nodup_cons.mp S2.nd).1 (.tail _ (List.mem_map.mpr (by
        obtain ⟨p, hp1, hp2⟩ := List.mem_map.mp (lawO_in (L := L) (o1 := o1) (o2 := o2) (o3 := o3) (o4 := o4) (oT := tapeO cv k tk n) (oP := oP) (oQ := oQ) (tp := tp) _ hm)
        exact ⟨p, hmem p (List.mem_append.mpr (.inl hp1)), hp2⟩)))
      refine wpAny_Constant_int ?_
      have S3 := S3.toks (s2.toks + 1)
      refine itRdL S3 (.list (isList_of ee3) (hJ2.mono k3)) (by decide) (d := .str l2.s) rfl (by decide) fun z5 rz5 => ?_
      refine arg0 (mkTup S3 (.cons (ry.mono (hg2.trans k3)) (.cons rz5 .nil)) (sl (by simp)) fun v6 g6 s6 k6 r6 S6 => ?_)
      refine ⟨g6, _, (hg2.trans k3).trans k6, S6, ?_⟩
      rw [take_snoc hr', List.map_append]
      refine (hJ.mono ((hg2.trans k3).trans k6)).append (.cons ?_ .nil)
      rw [tagD]
      dsimp only
      rw [hup]
      exact r6
  · intro D g' s' ys kk hg hJ S'
    try (show wpAny _ _ _ _ _ _; k_fold)
    rw [rvw.length, List.length_map, List.take_length, tags_po] at hJ
    obtain ⟨g₂, k₂, e₂, _, S₂⟩ := S'.freeze (headX S')
    exact h g₂ s' _ (hg.trans k₂) S₂ (Bk.mono (hg.trans k₂) rfl rfl) (.list (isList_of e₂) (hJ.mono k₂))
end
end Mine
namespace Mine
noncomputable def itemD (b : Bool × Sym) : PyData := .tuple [.bool b.1, .str b.2.s]
noncomputable def ruleD (r : Rule) : PyData := .tuple [.str r.1.s, .list (r.2.map itemD)]
theorem lay_item (b : Bool × Sym) : Lay 2 (itemD b) := lay_tuple (k := 1) fun d hd => by
  rcases List.mem_cons.mp hd with rfl | hd
  · exact lay_bool _
  · rw [List.mem_singleton.mp hd]; exact lay_sym _
theorem lay_rule (r : Rule) : Lay 4 (ruleD r) := lay_tuple (k := 3) fun d hd => by
  rcases List.mem_cons.mp hd with rfl | hd
  · exact (lay_sym _).le (by omega)
  · rw [List.mem_singleton.mp hd]
    exact lay_list (k := 2) fun d hd => by
      obtain ⟨b, _, rfl⟩ := List.mem_map.mp hd; exact lay_item b
theorem lay_rules (l : List Rule) : Lay 5 (.list (l.map ruleD)) := lay_list (k := 4) fun d hd => by
  obtain ⟨b, _, rfl⟩ := List.mem_map.mp hd; exact lay_rule b
theorem lay_wt (l : List (Sym × Sym)) : Lay 3 (.list (l.map wtD)) := lay_list (k := 2) fun d hd => by
  obtain ⟨b, _, rfl⟩ := List.mem_map.mp hd
  exact lay_tuple (k := 1) fun d hd => by
    rcases List.mem_cons.mp hd with rfl | hd
    · exact lay_sym _
    · rw [List.mem_singleton.mp hd]; exact lay_sym _
section
variable {w : World} {mg mb : Str → Option Value} {A : Around} {E : Value → Shared → Prop} {X : List Addr} {m : Str → Option Value} {ow : List (Addr × Obj)} {env : Env} {g₀ g : Heap} {s₀ s : Shared} {L : Addr} {lab : Sym} {cs : List T} {nv tv : Value} {tp : Addr} {cv : Value} {ms : List Int} {k : Int} {tk : Tok} {n : Nat} {oP oQ o1 o2 o3 o4 : Obj} {Q : Flow → Shared → Prop} {tl : List (Addr × Obj)}
theorem isiPd {v : Value} {t : T} {Q : Value → Shared → Prop} (G : Amb w mg mb g) (S : St X g₀ s₀ L g s m ow) (r : Rd g v t.pd) (h : ∀ s', St X g₀ s₀ L g s' m ow → Q (.bool t.isLeaf) s') :
    wpAny (model prg w) A (call (.builtin "isinstance") [v, .type "str"]) Q E s := by
  cases t with
  | leaf z =>
    obtain ⟨u, rfl⟩ := r.asStr
    exact isiS_str G S h
  | node l2 c2 =>
    rw [T.pd] at r
    exact isiS_list G S r h
theorem isiIt {v : Value} {b : Bool × Sym} {Q : Value → Shared → Prop} (G : Amb w mg mb g) (S : St X g₀ s₀ L g s m ow) (r : IsI g v b) (h : ∀ s', St X g₀ s₀ L g s' m ow → Q (.bool b.1) s') :
    wpAny (model prg w) A (call (.builtin "isinstance") [v, .type "str"]) Q E s := by
  obtain ⟨b, x⟩ := b
  cases b with
  | true =>
    obtain ⟨u, rfl⟩ : ∃ tk, v = .str x.s tk := r
    exact isiS_str G S h
  | false =>
    obtain ⟨a, d, hh, t, tk, n, rfl, hx, hd⟩ : IsN g v x.s := r
    exact isiS_N G S (instC S.in_ hx hd) h
theorem vIsiS {x : Str} {v : Value} {p p2 p3 pos : PySem.Pos} {Q : Value → Shared → Prop}
    (G : Amb w mg mb g) (S : St X g₀ s₀ L g s m ow) (hx0 : m x = some v)
    (h : wpAny (model prg w) A (call (.builtin "isinstance") [v, .type "str"]) Q E s) (hL : env.locals = L := by rfl) (hl : env.kindOf x = some .local := by rfl) (hd : (x == ("__debug__" : Str)) = false := by decide)
    (hg : env.globals = mainGlobals := by rfl) (hb : env.builtins = builtinsNs := by rfl) (hkd : env.scope.kind = .function := by rfl) (hx : env.kindOf "isinstance" = some .globalImplicit := by rfl) (hx2 : env.kindOf "str" = some .globalImplicit := by rfl) :
    wpAny (model prg w) A (eval (.Call (.Name "isinstance" p) [.Name x p3, .Name "str" p2] [] pos) env) Q E s :=
  biG G S gIsi bIsi (arg1 (nmL S hx0 (arg1 (nmB G S gStr bStr (by decide) (arg0 h) hg hb hkd hx2)) hL hkd hl hd)) rfl rfl (by decide) hg hb hkd hx
theorem compT {elt iter : Expr} {x : Str} {px : PySem.Pos} {scope : Scope} {cl : List (Str × Addr)} {pos : PySem.Pos} {l : Addr} {vs : List Value} {Q : Value → Shared → Prop}
    (hh : A.handled = none) (S : St X g₀ s₀ L g s m ow) (hl : IsTup g l vs.toArray) (hsz : vs.length ≤ sizeLine)
    (hcell : ∀ y ∈ scope.names, y.2 ≠ .cell) (hkind : scope.kind = .function) (hx : scope.names.lookup x = some .local)
    (J : Nat → Heap → List Value → Prop) (h0 : J 0 g [])
    (turn : ∀ i v I oi se C g' s' mC ys ow2, St X g₀ s₀ L g se m ((I, oi) :: ow) → vs[i]? = some v → Sub g g' → J i g' ys → St [I] g se C g' s' (upd mC x v) ow2 →
      Turn1 w A I g se C (compEnvC scope cl C env) elt g' s' ow2 fun g₄ y => J (i + 1) g₄ (ys ++ [y]))
    (done : ∀ D g' s' ys k, Sub g g' → J vs.length g' ys → St X g₀ s₀ L g' s' m ((D, lstO ys k) :: ow) → Q (.ref D) s') :
    wpAny (model prg w) A (pyIter (.ref l)) (fun it s₂ => wpAny (model prg w) A (newList []) (fun acc s₃ => wpAny (model prg w) A (newFunctionEnv scope env.globals cl [] env.qual none .none (some env)) (fun cenv s₄ =>
      codeAny (model prg w) A (.compStart (.ListComp elt [⟨.Name x px, iter, [], 0⟩] scope pos) 0 it acc { cenv with scope := relabel scope env }) (compPost (model prg w) A E none Q acc cenv.locals) s₄) E s₃) E s₂) E s := by
  have hls : IsTup s.heap l vs.toArray := IsTup.mono S.in_ hl
  obtain ⟨ol, hol, _⟩ := id hl
  refine wpAny_pyIter_tuple hls ?_
  have hne : l ≠ s.heap.objs.size := Nat.ne_of_lt (Heap.lt_size (S.in_ _ _ hol))
  have W := Walks.tuple (prog := prg) (w := w) hh s.heap.objs.size l hne vs.toArray
  have hX' : s.heap.objs.size ∉ X := fun hm => by
    have y := S.xin _ hm
    rw [get_push_size_none] at y; cases y
  refine compW1 (P := fun i v => vs.toArray[i]? = some v) W (fun i h st => by obtain ⟨⟨o, ho, _⟩, _⟩ := st; exact ⟨o, ho⟩) (S.push _) hX' ⟨⟨_, Heap.get?_push_size _ rfl, rfl, rfl⟩, hls.push _⟩ (fun b hb => ?_) (by simpa using hsz) hcell hkind hx J h0 ?_ ?_
  · rcases List.mem_cons.mp hb with rfl | hb
    · exact .inl rfl
    · rw [List.mem_singleton.mp hb]; exact .inr ⟨_, hol⟩
  · intro i v C g' s' mC ys ow2 _ hP hg hJ S'
    exact turn i v _ _ _ C g' s' mC ys ow2 (S.push _) (by simpa using hP) hg hJ S'
  · intro D g' s' ys k hg hJ S'
    exact done D g' s' ys k hg (by simpa using hJ) S'
theorem law_s11 (hr : Room A 99) {gv : Value} (S : St LX g₀ s₀ L g s m (lawO L o1 o2 o3 o4 tp (tapeO cv k tk n) oP oQ ++ tl)) (Bk : LawB w mg mb g m lab cs nv tp cv ms k oP oQ) (hTI : TreeIn g tl tv (.node lab cs)) (h1 : o1.data = .cell (some tv))
    (hm : m "tags" = some gv) (hgv : Rd g gv (.list ((T.poL lab cs).map wtD)))
    (h : ∀ g' s', Sub g g' → St LX g₀ s₀ L g' s' m (lawO L o1 o2 o3 o4 tp (tapeO cv k tk n) oP oQ ++ tl) → LawB w mg mb g' m lab cs nv tp cv ms k oP oQ → wpAny (model prg w) A (execs ((lawR w).body.drop 12) (lawE w L)) Q E s') :
    wpAny (model prg w) A (execs ((lawR w).body.drop 11) (lawE w L)) Q E s := by
  obtain ⟨gT, as, k1, hT, nd, S1, bk⟩ := asked (tlX S) S hTI
  have GT := Bk.G.keeps k1
  refine xIf (wpAny_isTrue_Compare1 (askM (f := 252) S1 GT hT h1 (by k_is) (by k_is) (by k_is) (by intros; rfl) (wpAny_call (pos_spec 6 lab cs Bk.small _ gT _ _ _ _ (hr.le (by omega)) GT S1.in_ hT fun v s₂ g₂ gr rv => ?_))))
  have S₂ := S1.call gr
  refine nmL S₂ (v := gv) hm ?_
  refine neSame hr S₂ rv.rd (hgv.mono (k1.trans gr.sub)) (lay_wt _) (by omega) (itF (xNil (thenNext ?_)))
  obtain ⟨gF, f1, f2, f3, S₇⟩ := bk _ _ _ _ gr.sub S₂
  exact h gF s₂ f1 S₇ (Bk.mono f1 rfl rfl)
end
end Mine
namespace Mine
mutual
theorem isT_kids {g : Heap} : ∀ {v : Value} {t : T} {as : List Addr}, IsT g v t as → ∀ a ∈ as, ∃ vs k ts bs, g.get? a = some (W.listOf vs.toArray k) ∧ IsTs g vs ts bs
  | _, _, _, .leaf _ _, a, h => nomatch h
  | _, _, _, .node _ _ hl hc, a, h => by
    rcases List.mem_cons.mp h with rfl | h
    · exact ⟨_, _, _, _, hl, hc⟩
    · exact isTs_kids hc a h
theorem isTs_kids {g : Heap} : ∀ {vs : List Value} {ts : List T} {as : List Addr}, IsTs g vs ts as → ∀ a ∈ as, ∃ vs k ts bs, g.get? a = some (W.listOf vs.toArray k) ∧ IsTs g vs ts bs
  | _, _, _, .nil, a, h => nomatch h
  | _, _, _, .cons x y, a, h => (List.mem_append.mp h).elim (isT_kids x a) (isTs_kids y a)
end
theorem prods_off {g : Heap} {v : Value} {t : T} {as : List Addr} {a : Addr} {vs : List Value} {k : Nat} {r : Rule} {rs : List Rule} (hT : IsT g v t as) (ha : g.get? a = some (lstO vs k)) (hP : All2 (IsP g) vs (r :: rs)) : a ∉ as := fun hm => by
  obtain ⟨vs', k', ts, bs, e, hI⟩ := isT_kids hT a hm
  rw [ha] at e
  have e2 : vs = vs' := by
    have := congrArg Obj.data (Option.some.inj e)
    simpa [W.listOf] using (Data.seq.inj this).1
  subst e2
  cases hP with
  | cons h1 h2 =>
    obtain ⟨x, d, _, _, _, _, _, _, _, _, rfl, hx, _⟩ := h1
    cases hI with
    | cons h3 h4 =>
      cases h3 with
      | node hx2 _ _ _ =>
        rw [hx] at hx2
        have := congrArg Obj.cls (Option.some.inj hx2)
        exact absurd this (by simp [instObj])
theorem offL {g gF : Heap} {as : List Addr} {b : Addr} {o : Obj} (hl : ∀ a ∈ as, ∃ vs k, g.get? a = some (W.listOf vs k)) (hF : ∀ b o, b ∉ as → g.get? b = some o → gF.get? b = some o) (e : g.get? b = some o) (hc : o.cls ≠ .type "list") : gF.get? b = some o :=
  hF b o (fun hm => by
    obtain ⟨vs, k, e2⟩ := hl b hm
    rw [e] at e2
    exact hc (congrArg Obj.cls (Option.some.inj e2))) e
theorem IsN.off {g gF : Heap} {as : List Addr} {v : Value} {x : Str} (hl : ∀ a ∈ as, ∃ vs k, g.get? a = some (W.listOf vs k)) (hF : ∀ b o, b ∉ as → g.get? b = some o → gF.get? b = some o) (q : IsN g v x) : IsN gF v x :=
  let ⟨a, d, h1, t, tk, n, e, h2, h3⟩ := q; ⟨a, d, h1, t, tk, n, e, offL hl hF h2 (by simp [instObj]), offL hl hF h3 (by simp [dictOf])⟩
theorem IsI.off {g gF : Heap} {as : List Addr} {v : Value} {b : Bool × Sym} (hl : ∀ a ∈ as, ∃ vs k, g.get? a = some (W.listOf vs k)) (hF : ∀ b o, b ∉ as → g.get? b = some o → gF.get? b = some o) (q : IsI g v b) : IsI gF v b := by
  unfold IsI at q ⊢
  split
  · rename_i hb; rw [if_pos hb] at q; exact q
  · rename_i hb; rw [if_neg hb] at q; exact q.off hl hF
theorem IsP.off {g gF : Heap} {as : List Addr} {v : Value} {r : Rule} (hl : ∀ a ∈ as, ∃ vs k, g.get? a = some (W.listOf vs k)) (hF : ∀ b o, b ∉ as → g.get? b = some o → gF.get? b = some o) (q : IsP g v r) : IsP gF v r := by
  obtain ⟨a, d, h1, h2, t1, t2, n, v1, t, vs, e, e1, e2, e3, e4, ⟨o, e5, e6, e7⟩, e8⟩ := q
  exact ⟨a, d, h1, h2, t1, t2, n, v1, t, vs, e, offL hl hF e1 (by simp [instObj]), offL hl hF e2 (by simp [dictOf]), e3, e4.off hl hF, ⟨o, offL hl hF e5 (by rw [e6]; simp), e6, e7⟩, e8.imp fun _ _ z => z.off hl hF⟩
section
variable {w : World} {mg mb : Str → Option Value} {A : Around} {E : Value → Shared → Prop} {X : List Addr} {m : Str → Option Value} {ow : List (Addr × Obj)} {env : Env} {g₀ g : Heap} {s₀ s : Shared} {L : Addr} {lab : Sym} {cs : List T} {nv tv : Value} {tp : Addr} {cv : Value} {ms : List Int} {k : Int} {tk : Tok} {n : Nat} {oP oQ o1 o2 o3 o4 : Obj} {Q : Flow → Shared → Prop} {tl : List (Addr × Obj)}
theorem lawO_ow2 {oT : Obj} {ow2 : List (Addr × Obj)} (h : ∀ p ∈ lawO L o1 o2 o3 o4 tp oT oP oQ ++ tl, p ∈ ow2) : ∀ b ∈ LX, b ∈ ks ow2 := fun b hb => by
  obtain ⟨p, hp1, hp2⟩ := List.mem_map.mp (lawO_in (L := L) (o1 := o1) (o2 := o2) (o3 := o3) (o4 := o4) (oT := oT) (oP := oP) (oQ := oQ) (tp := tp) _ hb)
  exact List.mem_map.mpr ⟨p, h p (List.mem_append.mpr (.inl hp1)), hp2⟩
theorem pr_small : ∀ t : T, ∀ r ∈ t.pr, r.2.length ≤ t.sz := fun t r h => by
  rw [pr_inner] at h
  obtain ⟨u, hu, rfl⟩ := List.mem_map.mp h
  have := (inner_small t u hu).2
  cases u with
  | leaf y => simp [ruleOf]
  | node l c => rw [ruleOf]; dsimp only; rw [List.length_map]; have := szL_len c; rw [T.sz] at *; omega
theorem law_s12 (hr : Room A 99) (S : St LX g₀ s₀ L g s m (lawO L o1 o2 o3 o4 tp (tapeO cv k tk n) oP oQ ++ tl)) (Bk : LawB w mg mb g m lab cs nv tp cv ms k oP oQ) (hTI : TreeIn g tl tv (.node lab cs)) (h1 : o1.data = .cell (some tv))
    (h : ∀ g' s' gv, Sub g g' → St LX g₀ s₀ L g' s' (upd m "made" gv) (lawO L o1 o2 o3 o4 tp (tapeO cv k tk n) oP oQ ++ tl) → LawB w mg mb g' (upd m "made" gv) lab cs nv tp cv ms k oP oQ → Rd g' gv (.list ((T.node lab cs).pr.map ruleD)) → wpAny (model prg w) A (execs ((lawR w).body.drop 13) (lawE w L)) Q E s') :
    wpAny (model prg w) A (execs ((lawR w).body.drop 12) (lawE w L)) Q E s := by
  obtain ⟨gT, as, k1, hT, nd, S1, bk⟩ := asked (tlX S) S hTI
  have GT := Bk.G.keeps k1
  have hlen : (T.node lab cs).pr.length ≤ 400 := Nat.le_trans (pr_len _) Bk.small.sz
  refine xAsnC (cl := []) rfl rfl (by decide) (askM (f := 245) S1 GT hT h1 (by k_is) (by k_is) (by k_is) (by intros; rfl) (wpAny_call (prods_spec 6 lab cs Bk.small _ gT _ _ _ _ (hr.le (by omega)) GT S1.in_ hT fun a vs kk s₂ g₂ gr ha hP => ?_)))
  have S₂ := S1.call gr
  have hT₂ := hT.mono gr.sub
  have haoff : a ∉ as := by
    rw [T.pr] at hP
    exact prods_off hT₂ ha hP
  obtain ⟨g, k2, k3, k4, S⟩ := bk _ _ _ _ gr.sub S₂
  have hlists := isT_lists hT₂
  have ha := k4 _ _ haoff ha
  have hP : All2 (IsP g) vs (T.node lab cs).pr := hP.imp fun _ _ z => z.off hlists k4
  have G := Bk.G.keeps k2
  refine compU hr.1 LX_lo G S (isList_of ha) (by rw [hP.length]; omega) (by decide) rfl rfl (fun i g' ys => RdA g' ys (((T.node lab cs).pr.take i).map ruleD)) (by exact .nil) ?_ ?_
  · intro i v C g' s' mC ys ow2 hv hg hJ hmem S'
    have G' := G.keeps hg
    obtain ⟨r, hr', hIP⟩ := hP.get i v hv
    have hrl := pr_small _ r (List.mem_of_getElem? hr')
    have hzz := Bk.small.sz
    have hIP := hIP.mono hg
    rw [List.forIn_nil]
    refine wpAny_pure ?_
    rw [if_pos rfl]
    try (show wpAny _ _ _ _ _ _; k_fold)
    obtain ⟨x, dx, d1, d2, t1, t2, nx, v1, tt, us, rfl, hx, hdx, -, -, -, -⟩ := id hIP
    refine eTup (arg1 ?_)
    refine meCall0 (a := 42) (K := Mine.hd.heap_1 w.params) ?_ (by k_is)
    refine meCall0 (a := 98) (K := Mine.hd.heap_1 w.params) (nmL S' (v := .ref x) rfl (methC (C := 141) G' S' (instC S'.in_ hx hdx) (pgP _) (by k_is) (by k_is) (by rfl) ⟨rfl, (G'.keeps S'.in_).K, ?_⟩)) (by k_is)
    refine wpAny_call (lhs_spec (hr.le (by omega)) G' S'.in_ hIP fun u s₃ g₃ gr₃ hN => ?_)
    have S₃ := S'.call gr₃
    have G₃ := G'.keeps gr₃.sub
    obtain ⟨y, dy, dd, t3, tk3, n3, rfl, hy, hdy⟩ := id hN
    refine methC (C := 66) G₃ S₃ (instC S₃.in_ hy hdy) (pgN _) (by k_is) (by k_is) (by rfl) ⟨rfl, (G₃.keeps S₃.in_).K, ?_⟩
    refine wpAny_call (symbol_spec (hr.le (by omega)) G₃ S₃.in_ hN fun tk₄ s₄ g₄ gr₄ => arg1 ?_)
    have S₄ := S₃.call gr₄
    have kk₄ := gr₃.sub.trans gr₄.sub
    have G₄ := G'.keeps kk₄
    refine lcEval (cl := []) rfl rfl (by decide) ?_
    refine meCall0 (a := 105) (K := Mine.hd.heap_1 w.params) (nmL S₄ (v := .ref x) rfl (methC (C := 141) G₄ S₄ (instC S₄.in_ (kk₄ _ _ hx) (kk₄ _ _ hdx)) (pgP _) (by k_is) (by k_is) (by rfl) ⟨rfl, (G₄.keeps S₄.in_).K, ?_⟩)) (by k_is)
    refine wpAny_call (rhs_spec (hr.le (by omega)) G₄ S₄.in_ (hIP.mono kk₄) fun t₅ ws s₅ g₅ gr₅ ht₅ hI₅ => ?_)
    have S₅ := S₄.call gr₅
    have kk₅ := kk₄.trans gr₅.sub
    have G₅ := G'.keeps kk₅
    refine compT hr.1 S₅ ht₅ (by rw [hI₅.length]; exact sl (by omega)) (by decide) rfl rfl (fun i g' zs => RdA g' zs ((r.2.take i).map itemD)) (by exact .nil) ?_ ?_
    · intro j v2 I oi se C2 g6 s6 mC2 zs ow3 Se hv2 hg6 hJ6 S6
      try (show wpAny _ _ _ _ _ _; k_fold)
      have G6 := G₅.keeps hg6
      obtain ⟨b, hb, hIb⟩ := hI₅.get j v2 hv2
      have hIb := hIb.mono hg6
      refine eTup (arg1 (vIsiS G6 S6 (v := v2) rfl (isiIt G6 S6 hIb fun s7 S7 => arg1 (wpAny_IfExp (tIsiB G6 S7 gStr bStr (nmL S7 (v := v2) rfl ⟨_, S7, isiIt G6 S7 hIb fun s8 S8 => ⟨_, rfl, ?_⟩⟩))))))
      obtain ⟨b, x2⟩ := b
      have e : (r.2.take (j + 1)).map itemD = (r.2.take j).map itemD ++ [itemD (b, x2)] := by rw [take_snoc hb, List.map_append]; rfl
      dsimp only
      cases b with
      | true =>
        obtain ⟨u2, rfl⟩ : ∃ tk, v2 = .str x2.s tk := hIb
        rw [if_pos rfl]
        refine nmL S8 (v := .str x2.s u2) rfl (arg0 (mkTup S8 (.cons (.bool _) (.cons (.str _ _) .nil)) (sl (by simp)) fun v9 g9 s9 k9 r9 S9 => ⟨g9, _, k9, S9, ?_⟩))
        rw [e]
        exact (hJ6.mono k9).append (.cons r9 .nil)
      | false =>
        have hN2 : IsN g6 v2 x2.s := hIb
        obtain ⟨y2, dy2, dd2, t4, tk4, n4, rfl, hy2, hdy2⟩ := id hN2
        rw [if_neg Bool.false_ne_true]
        refine meCall0 (a := 42) (K := Mine.hd.heap_1 w.params) (nmL S8 (v := .ref y2) rfl (methC (C := 66) G6 S8 (instC S8.in_ hy2 hdy2) (pgN _) (by k_is) (by k_is) (by rfl) ⟨rfl, (G6.keeps S8.in_).K, ?_⟩)) (by k_is)
        refine wpAny_call (symbol_spec (hr.le (by omega)) G6 S8.in_ hN2 fun tk₉ s₉ g₉ gr₉ => ?_)
        have S9 := S8.call gr₉
        refine arg0 (mkTup S9 (.cons (.bool _) (.cons (.str _ _) .nil)) (sl (by simp)) fun v10 g10 s10 k10 r10 S10 => ⟨g10, _, gr₉.sub.trans k10, S10, ?_⟩)
        rw [e]
        exact (hJ6.mono (gr₉.sub.trans k10)).append (.cons r10 .nil)
    · intro D g6 s6 zs kz hg6 hJ6 S6
      try (show wpAny _ _ _ _ _ _; k_fold)
      rw [hI₅.length, List.take_length] at hJ6
      obtain ⟨g7, k7, e7, _, S7⟩ := S6.freeze fun hm => (List.nodup_cons.mp S6.nd).1 (lawO_ow2 hmem _ hm)
      refine arg0 (mkTup S7 (.cons (.str _ _) (.cons (.list (isList_of e7) (hJ6.mono k7)) .nil)) (sl (by simp)) fun v8 g8 s8 k8 r8 S8 => ?_)
      refine ⟨g8, _, kk₅.trans (hg6.trans (k7.trans k8)), S8, ?_⟩
      rw [take_snoc hr', List.map_append]
      exact (hJ.mono (kk₅.trans (hg6.trans (k7.trans k8)))).append (.cons r8 .nil)
  · intro D g' s' ys kk hg hJ S'
    try (show wpAny _ _ _ _ _ _; k_fold)
    rw [hP.length, List.take_length] at hJ
    obtain ⟨g₂, k₂, e₂, _, S₂⟩ := S'.freeze (headX S')
    exact h g₂ s' _ (k2.trans (hg.trans k₂)) S₂ (Bk.mono (k2.trans (hg.trans k₂)) rfl rfl) (.list (isList_of e₂) (hJ.mono k₂))
end
end Mine
namespace Mine
section
variable {w : World} {mg mb : Str → Option Value} {A : Around} {E : Value → Shared → Prop} {X : List Addr} {m : Str → Option Value} {ow : List (Addr × Obj)} {env : Env} {g₀ g : Heap} {s₀ s : Shared} {L : Addr} {lab : Sym} {cs : List T} {nv tv : Value} {tp : Addr} {cv : Value} {ms : List Int} {k : Int} {tk : Tok} {n : Nat} {oP oQ o1 o2 o3 o4 : Obj} {Q : Flow → Shared → Prop} {tl : List (Addr × Obj)}
theorem inner_node : ∀ (t u : T), u ∈ t.inner → ∃ l cs, u = .node l cs := fun t u h => by
  rw [← places_inner t []] at h
  obtain ⟨x, hx, rfl⟩ := List.mem_map.mp h
  have := (List.mem_filter.mp hx).2
  cases hu : x.2 with
  | leaf y => rw [hu] at this; cases this
  | node l c => exact ⟨l, c, rfl⟩
theorem compLI {elt iter : Expr} {x : Str} {px : PySem.Pos} {scope : Scope} {cl : List (Str × Addr)} {pos : PySem.Pos} {l : Addr} {vs : List Value} {Q : Value → Shared → Prop}
    (hh : A.handled = none) (S : St X g₀ s₀ L g s m ow) (hl : g.IsList l vs.toArray) (hsz : vs.length ≤ sizeLine)
    (hcell : ∀ y ∈ scope.names, y.2 ≠ .cell) (hkind : scope.kind = .function) (hx : scope.names.lookup x = some .local)
    (J : Nat → Heap → List Value → Prop) (h0 : J 0 g [])
    (turn : ∀ i v I oi oi2 se C g' s' mC ys ow2, St X g₀ s₀ L g se m ((I, oi) :: ow) → vs[i]? = some v → Sub g g' → J i g' ys → St [I] g se C g' s' (upd mC x v) ((I, oi2) :: ow2) →
      Turn1 w A I g se C (compEnvC scope cl C env) elt g' s' ((I, oi2) :: ow2) fun g₄ y => J (i + 1) g₄ (ys ++ [y]))
    (done : ∀ D g' s' ys k, Sub g g' → J vs.length g' ys → St X g₀ s₀ L g' s' m ((D, lstO ys k) :: ow) → Q (.ref D) s') :
    wpAny (model prg w) A (pyIter (.ref l)) (fun it s₂ => wpAny (model prg w) A (newList []) (fun acc s₃ => wpAny (model prg w) A (newFunctionEnv scope env.globals cl [] env.qual none .none (some env)) (fun cenv s₄ =>
      codeAny (model prg w) A (.compStart (.ListComp elt [⟨.Name x px, iter, [], 0⟩] scope pos) 0 it acc { cenv with scope := relabel scope env }) (compPost (model prg w) A E none Q acc cenv.locals) s₄) E s₃) E s₂) E s := by
  have hls : s.heap.IsList l vs.toArray := IsList.mono S.in_ hl
  obtain ⟨ol, hol, _⟩ := id hl
  refine wpAny_pyIter_list hls ?_
  have hne : l ≠ s.heap.objs.size := Nat.ne_of_lt (Heap.lt_size (S.in_ _ _ hol))
  have W := Walks.list (prog := prg) (w := w) hh s.heap.objs.size l hne vs.toArray
  have hX' : s.heap.objs.size ∉ X := fun hm => by
    have y := S.xin _ hm
    rw [get_push_size_none] at y; cases y
  refine compW (P := fun i v => vs.toArray[i]? = some v) W (fun i h st => by obtain ⟨⟨o, ho, _⟩, _⟩ := st; exact ⟨o, ho⟩) (S.push _) hX' ⟨⟨_, Heap.get?_push_size _ rfl, rfl, rfl⟩, hls.push _⟩ (fun b hb => ?_) (by simpa using hsz) hcell hkind J h0 ?_ ?_
  · rcases List.mem_cons.mp hb with rfl | hb
    · exact .inl rfl
    · rw [List.mem_singleton.mp hb]; exact .inr ⟨_, hol⟩
  · intro i v oi' C D g' s' mC ys k hi hP hg hJ S'
    refine wpAny_assign_Name (stL S' (fun s₂ S₂ => ?_) rfl (by simp [compEnvC, relabel, hkind]) (lookup_relabel_local hx))
    refine wpAny_pure ?_
    rw [if_pos rfl]
    exact turn i v _ _ _ _ C g' _ mC ys _ (S.push _) (by simpa using hP) hg hJ S₂
  · intro D g' s' ys k hg hJ S'
    exact done D g' s' ys k hg (by simpa using hJ) S'
theorem law_s13 (hr : Room A 99) {gv iv : Value} (S : St LX g₀ s₀ L g s m (lawO L o1 o2 o3 o4 tp (tapeO cv k tk n) oP oQ ++ tl)) (Bk : LawB w mg mb g m lab cs nv tp cv ms k oP oQ)
    (hm : m "made" = some gv) (hgv : Rd g gv (.list ((T.node lab cs).pr.map ruleD))) (hmi : m "inner" = some iv) (hin : Rd g iv (.list (T.pdL (T.node lab cs).inner)))
    (h : ∀ g' s', Sub g g' → St LX g₀ s₀ L g' s' m (lawO L o1 o2 o3 o4 tp (tapeO cv k tk n) oP oQ ++ tl) → LawB w mg mb g' m lab cs nv tp cv ms k oP oQ → wpAny (model prg w) A (execs ((lawR w).body.drop 14) (lawE w L)) Q E s') :
    wpAny (model prg w) A (execs ((lawR w).body.drop 13) (lawE w L)) Q E s := by
  have G := Bk.G
  obtain ⟨li, vi, rfl, hli, rvi⟩ := hin.asList
  have hil : (T.node lab cs).inner.length ≤ 400 := Nat.le_trans (inner_len _) Bk.small.sz
  refine xIf (wpAny_isTrue_Compare1 (nmL S (v := gv) hm ?_))
  refine lcEval (cl := []) rfl rfl (by decide) (nmL S (v := .ref li) hmi ?_)
  refine compLI hr.1 S hli (by rw [rvi.length, pdL_map, List.length_map]; exact sl (by omega)) (by decide) rfl rfl (fun i g' ys => RdA g' ys (((T.node lab cs).inner.take i).map fun t => ruleD (ruleOf t))) (by exact .nil) ?_ ?_
  · intro i v I oi oi2 se C g' s' mC ys ow2 Se hv hg hJ S'
    try (show wpAny _ _ _ _ _ _; k_fold)
    have G' := G.keeps hg
    obtain ⟨d, hd, rv⟩ := rvi.get' hv
    rw [pdL_map, List.getElem?_map] at hd
    obtain ⟨t, ht, rfl⟩ := Option.map_eq_some_iff.mp hd
    have rv := rv.mono hg
    have htm := List.mem_of_getElem? ht
    have hts := inner_small _ _ htm
    obtain ⟨l2, cs2, rfl⟩ := inner_node _ _ htm
    have hzz := Bk.small.sz
    have hcl := szL_len cs2
    have hszn : (T.node l2 cs2).sz = 1 + T.szL cs2 := by rw [T.sz]
    rw [T.pd] at rv
    refine eTup (arg1 (Subscript_ (nmL S' (v := v) rfl (wpAny_Constant_int ?_))))
    have S' := S'.toks (s'.toks + 1)
    refine itRdL S' rv (by decide) (d := .str l2.s) rfl (by decide) fun y ry => arg1 ?_
    refine lcEval (cl := []) rfl rfl (by decide) (Subscript_ (nmL S' (v := v) rfl (wpAny_Constant_int ?_)))
    have S' := S'.toks (s'.toks + 1 + 1)
    refine itRdL S' rv (by decide) (d := .list (T.pdL cs2)) rfl (by decide) fun z rz => ?_
    obtain ⟨lc, vc, rfl, hlc, rvc⟩ := rz.asList
    refine compL hr.1 S' hlc (by rw [rvc.length, pdL_map, List.length_map]; exact sl (by omega)) (by decide) rfl rfl (fun i g' zs => RdA g' zs ((cs2.take i).map fun t => itemD t.kid)) (by exact .nil) ?_ ?_
    · intro j v2 I2 oi2 se2 C2 g6 s6 mC2 zs ow3 Se2 hv2 hg6 hJ6 S6
      try (show wpAny _ _ _ _ _ _; k_fold)
      have G6 := G'.keeps hg6
      obtain ⟨d2, hd2, rv2⟩ := rvc.get' hv2
      rw [pdL_map, List.getElem?_map] at hd2
      obtain ⟨t2, ht2, rfl⟩ := Option.map_eq_some_iff.mp hd2
      have rv2 := rv2.mono hg6
      have e : (cs2.take (j + 1)).map (fun t => itemD t.kid) = (cs2.take j).map (fun t => itemD t.kid) ++ [itemD t2.kid] := by rw [take_snoc ht2, List.map_append]; rfl
      refine eTup (arg1 (vIsiS G6 S6 (v := v2) rfl (isiPd G6 S6 rv2 fun s7 S7 => arg1 (wpAny_IfExp (tIsiB G6 S7 gStr bStr (nmL S7 (v := v2) rfl ⟨_, S7, isiPd G6 S7 rv2 fun s8 S8 => ⟨_, rfl, ?_⟩⟩))))))
      cases t2 with
      | leaf y2 =>
        obtain ⟨u2, rfl⟩ := rv2.asStr
        rw [isLeaf_leaf, if_pos rfl]
        refine nmL S8 (v := .str y2.s u2) rfl (arg0 (mkTup S8 (.cons (.bool _) (.cons (.str _ _) .nil)) (sl (by simp)) fun v9 g9 s9 k9 r9 S9 => ⟨g9, _, k9, S9, ?_⟩))
        rw [e]
        exact (hJ6.mono k9).append (.cons r9 .nil)
      | node l3 c3 =>
        rw [isLeaf_node, if_neg Bool.false_ne_true]
        rw [T.pd] at rv2
        refine Subscript_ (nmL S8 (v := v2) rfl (wpAny_Constant_int ?_))
        have S8 := S8.toks (s8.toks + 1)
        refine itRdL S8 rv2 (by decide) (d := .str l3.s) rfl (by decide) fun y3 ry3 => ?_
        refine arg0 (mkTup S8 (.cons (.bool _) (.cons ry3 .nil)) (sl (by simp)) fun v9 g9 s9 k9 r9 S9 => ⟨g9, _, k9, S9, ?_⟩)
        rw [e]
        exact (hJ6.mono k9).append (.cons r9 .nil)
    · intro D g6 s6 zs kz hg6 hJ6 S6
      try (show wpAny _ _ _ _ _ _; k_fold)
      rw [rvc.length, pdL_map, List.length_map, List.take_length] at hJ6
      obtain ⟨g7, k7, e7, _, S7⟩ := S6.freeze fun hm => (List.nodup_cons.mp S6.nd).1 (by rw [List.mem_singleton.mp hm]; exact .head _)
      refine arg0 (mkTup S7 (.cons (ry.mono (hg6.trans k7)) (.cons (.list (isList_of e7) (hJ6.mono k7)) .nil)) (sl (by simp)) fun v8 g8 s8 k8 r8 S8 => ?_)
      refine ⟨g8, _, hg6.trans (k7.trans k8), S8, ?_⟩
      rw [take_snoc ht, List.map_append]
      refine (hJ.mono (hg6.trans (k7.trans k8))).append (.cons ?_ .nil)
      show Rd g8 v8 (ruleD (l2, cs2.map T.kid))
      rw [ruleD]; dsimp only; rw [List.map_map]
      exact r8
  · intro D g' s' ys kk hg hJ S'
    try (show wpAny _ _ _ _ _ _; k_fold)
    rw [rvi.length, pdL_map, List.length_map, List.take_length] at hJ
    have e : ((T.node lab cs).inner.map fun t => ruleD (ruleOf t)) = (T.node lab cs).pr.map ruleD := by rw [pr_inner, List.map_map]; rfl
    rw [e] at hJ
    obtain ⟨g₂, k₂, e₂, _, S₂⟩ := S'.freeze (headX S')
    refine neSame hr S₂ (hgv.mono (hg.trans k₂)) (.list (isList_of e₂) (hJ.mono k₂)) (lay_rules _) (by omega) (itF (xNil (thenNext ?_)))
    exact h g₂ s' (hg.trans k₂) S₂ (Bk.mono (hg.trans k₂) rfl rfl)
end
end Mine
namespace Mine
section
variable {w : World} {mg mb : Str → Option Value} {A : Around} {E : Value → Shared → Prop} {X : List Addr} {m : Str → Option Value} {ow : List (Addr × Obj)} {env : Env} {g₀ g : Heap} {s₀ s : Shared} {L : Addr} {lab : Sym} {cs : List T} {nv tv : Value} {tp : Addr} {cv : Value} {ms : List Int} {k : Int} {tk : Tok} {n : Nat} {oP oQ o1 o2 o3 o4 : Obj} {Q : Flow → Shared → Prop} {tl : List (Addr × Obj)}
theorem xSwap2 {x y : Str} {px py pt pos : PySem.Pos} {c : Nat} {value : Expr} {rest : List Stmt} {Q : Flow → Shared → Prop} (hh : A.handled = none)
    (h : wpAny (model prg w) A (eval value env) (fun v s₁ => ∃ a v1 v2 g₁ m₁ ow₁, v = .ref a ∧ IsTup g₁ a [v1, v2].toArray ∧ St X g₀ s₀ L g₁ s₁ m₁ ow₁ ∧ ∀ s', St X g₀ s₀ L g₁ s' (upd (upd m₁ y v2) x v1) ow₁ → wpAny (model prg w) A (execs rest env) Q E s') E s)
    (hL : env.locals = L := by rfl) (hk : env.scope.kind = .function := by rfl) (hlx : env.kindOf x = some .local := by rfl) (hly : env.kindOf y = some .local := by rfl)
    (hs : swapsWithSole [.Tuple [.Name x px, .Name y py] c pt] value pos.line env = pure false := by rfl) (hw : swappedStores [.Tuple [.Name x px, .Name y py] c pt] value env = pure (some [x, y]) := by rfl) :
    wpAny (model prg w) A (execs (.Assign [.Tuple [.Name x px, .Name y py] c pt] value pos :: rest) env) Q E s := by
  refine wpAny_execs_cons (Assign_Tuple_swapped (wpAny_mono h (fun v s₁ h₁ => ?_) fun _ _ z => z) hs hw)
  obtain ⟨a, v1, v2, g₁, m₁, ow₁, rfl, ht, S, hQ⟩ := h₁
  refine unpackItems_tuple (items := [v1, v2].toArray) hh (IsTup.mono S.in_ ht) fun h' hx => ?_
  have S' := S.kept (h' := h') (tk := s₁.toks) fun b o e => hx b o (Nat.ne_of_lt (Heap.lt_size e)) e
  show wpAny (model prg w) A (assignInOrder [fun v => bindName env y v, fun v => bindName env x v] [v2, v1]) _ _ _
  refine wpAny_assignInOrder_more (bindName_ (stL S' (fun s₂ S₂ => ?_) hL hk hly))
  refine wpAny_assignInOrder_more (bindName_ (stL S₂ (fun s₃ S₃ => ?_) hL hk hlx))
  try (show wpAny _ _ _ _ _ _; k_fold)
  exact wpAny_assignInOrder_none (hQ s₃ S₃)
theorem law_s14 (hr : Room A 99) {wv : Value} (S : St LX g₀ s₀ L g s m (lawO L o1 o2 o3 o4 tp (tapeO cv k tk n) oP oQ ++ tl)) (Bk : LawB w mg mb g m lab cs nv tp cv ms k oP oQ)
    (h3 : o3.data = .cell (some wv)) (hw : Rd g wv (.list ((wordsOf (places (.node lab cs) [])).map prD)))
    (h : ∀ g' s' a b ua ub k' tk' n', Sub g g' → St LX g₀ s₀ L g' s' (upd (upd m "last" (.int b ub)) "first" (.int a ua)) (lawO L o1 o2 o3 o4 tp (tapeO cv k' tk' n') oP oQ ++ tl) → LawB w mg mb g' (upd (upd m "last" (.int b ub)) "first" (.int a ua)) lab cs nv tp cv ms k' oP oQ → wpAny (model prg w) A (execs ((lawR w).body.drop 15) (lawE w L)) Q E s') :
    wpAny (model prg w) A (execs ((lawR w).body.drop 14) (lawE w L)) Q E s := by
  have G := Bk.G
  have hz : ((wordsOf (places (.node lab cs) [])).map prD).length ≤ 400 := by rw [List.length_map]; exact Nat.le_trans (List.length_filter_le ..) (by rw [places_len]; exact Bk.small.sz)
  refine xSwap2 (X := LX) (g₀ := g₀) (s₀ := s₀) (L := L) hr.1 (eTup (arg1 (wpAny_BinOp (fnG G S gTake kTake (arg1 (nmL S (v := .ref tp) Bk.mt (arg1 (wpAny_BinOp (biG G S gLen bLen (arg1 (nmC (c := L + 3) (v := wv) ⟨o3, S.get (.tail _ (.head _)), h3⟩ (arg0 ?_))))))))))))
  refine lenL S hw (sl (by omega)) fun t1 s₁ S₁ => wpAny_Constant_int (add_int ?_)
  have S₁ := (S₁.toks (s₁.toks + 1)).toks (s₁.toks + 1 + 1)
  refine arg0 ⟨(G.keeps S₁.in_).K, ?_⟩
  refine takeK (pre := [(L + 4, o4), (L + 3, o3), (L + 2, o2), (L + 1, o1)]) (ow := [(226, oP), (162, oQ)] ++ tl) (hr.le (by omega)) G S₁ Bk.tape Bk.k0 (by omega) fun r v k' tk' n' g₂ s₂ k₂ hk' hr0 hr1 S₂ => ?_
  refine wpAny_Constant_int (sub_int ?_)
  have S₂ := (S₂.toks (s₂.toks + 1)).toks (s₂.toks + 1 + 1)
  have G₂ := G.keeps k₂
  refine arg1 (fnG G₂ S₂ gTake kTake (arg1 (nmL S₂ (v := .ref tp) Bk.mt (arg1 (wpAny_BinOp (biG G₂ S₂ gLen bLen (arg1 (nmC (c := L + 3) (v := wv) ⟨o3, S₂.get (.tail _ (.head _)), h3⟩ (arg0 ?_)))))))))
  refine lenL S₂ (hw.mono k₂) (sl (by omega)) fun t3 s₃ S₃ => wpAny_Constant_int (add_int ?_)
  have S₃ := (S₃.toks (s₃.toks + 1)).toks (s₃.toks + 1 + 1)
  refine arg0 ⟨(G₂.keeps S₃.in_).K, ?_⟩
  refine takeK (pre := [(L + 4, o4), (L + 3, o3), (L + 2, o2), (L + 1, o1)]) (ow := [(226, oP), (162, oQ)] ++ tl) (hr.le (by omega)) G₂ S₃ (Bk.tape.mono k₂) hk' (by omega) fun r2 v2 k'' tk'' n'' g₄ s₄ k₄ hk'' hr2 hr3 S₄ => ?_
  refine arg0 (mkTup' S₄ (sl (by simp)) fun a g₅ s₅ k₅ h₅ S₅ => ⟨a, _, _, g₅, _, _, rfl, h₅, S₅, fun s₆ S₆ => ?_⟩)
  have kk := k₂.trans (k₄.trans k₅)
  exact h g₅ s₆ _ _ _ _ k'' tk'' n'' kk S₆ { Bk.mono kk rfl rfl with k0 := hk'' }
end
end Mine
namespace Mine
noncomputable def plcD : Option Plc → PyData
  | some p => posD p
  | none => .none
theorem lay_plcD (o : Option Plc) : Lay 2 (plcD o) := by
  cases o with
  | none => exact ⟨rfl, by decide⟩
  | some p => exact lay_pos p
theorem leafAt_words (t : T) (i : Int) : leafAt t i = if i < 0 then none else ((wordsOf (places t []))[i.toNat]?).map (·.1) := by
  unfold leafAt
  rw [leafP_words, List.getElem?_map]
theorem notVal : isSubtype (.type "IndexError") (.type "ValueError") = pure false := by rw [isSubtype_type]; kernel_rfl
section
variable {w : World} {mg mb : Str → Option Value} {A : Around} {E : Value → Shared → Prop} {X : List Addr} {m : Str → Option Value} {ow : List (Addr × Obj)} {env : Env} {g₀ g : Heap} {s₀ s : Shared} {L : Addr} {lab : Sym} {cs : List T} {nv tv : Value} {tp : Addr} {cv : Value} {ms : List Int} {k : Int} {tk : Tok} {n : Nat} {oP oQ o1 o2 o3 o4 : Obj} {Q : Flow → Shared → Prop} {tl : List (Addr × Obj)}
theorem xTryJoin {body rest : List Stmt} {h₀ : ExceptHandler} {hs : List ExceptHandler} {pos : PySem.Pos} {Q : Flow → Shared → Prop} (C : Shared → Prop)
    (h : wpAny (model prg w) A (execs body env) (fun f s₁ => f = .next ∧ C s₁)
      (fun e s₁ => wpAny (model prg w) A (noteFrame e env) (fun _ s₂ => wpAny (model prg w) A (setFlight e none) (fun _ s₃ => wpAny (model prg w) A (handleBy e env (h₀ :: hs)) (fun f s₁ => f = .next ∧ C s₁) E s₃) E s₂) E s₁) s)
    (k : ∀ s', C s' → wpAny (model prg w) A (execs rest env) Q E s') : wpAny (model prg w) A (execs (.Try body (h₀ :: hs) [] [] pos :: rest) env) Q E s := by
  refine wpAny_execs_cons (wpAny_Try_except (wpAny_mono h (fun f s₁ h₁ => ?_) fun e s₁ h₁ => ?_))
  · obtain ⟨rfl, c⟩ := h₁
    exact xNil (thenNext (k _ c))
  · exact wpAny_mono h₁ (fun _ _ h₂ => wpAny_mono h₂ (fun _ _ h₃ => wpAny_mono h₃ (fun f s₄ h₄ => by obtain ⟨rfl, c⟩ := h₄; exact thenNext (k _ c)) fun _ _ x => x) fun _ _ x => x) fun _ _ x => x
theorem St.hf (S : St X g₀ s₀ L g s m ow) (hf : env.frame = some L) (hk : env.scope.kind = .function) : HF [env] s.heap :=
  HF.push (h₀ := hideAll s.heap [L]) HF.nil (fun b o e => of_hideAll _ e) S.ns (hideAll_none _ (.head _)) hf hk
theorem tLeI {a b : Int} {t u : Tok} {Q : Bool → Shared → Prop} (h : Q (decide (a ≤ b)) s) : wpAny (model prg w) A (compareOp .LtE (.int a t) (.int b u)) (fun c s₃ => wpAny (model prg w) A (truthy c) Q E s₃) E s :=
  PyProof.Rows.le_int (wpAny_truthy_bool h)
theorem law_s15 (hr : Room A 99) (hA : A.frames = some [lawE w L]) {wv : Value} {a b : Int} {ua ub : Tok} (S : St LX g₀ s₀ L g s m (lawO L o1 o2 o3 o4 tp (tapeO cv k tk n) oP oQ ++ tl)) (Bk : LawB w mg mb g m lab cs nv tp cv ms k oP oQ) (hTI : TreeIn g tl tv (.node lab cs)) (h1 : o1.data = .cell (some tv))
    (h3 : o3.data = .cell (some wv)) (hw : Rd g wv (.list ((wordsOf (places (.node lab cs) [])).map prD))) (ha : m "first" = some (.int a ua)) (hb : m "last" = some (.int b ub))
    (h : ∀ g' s' m', Sub g g' → St LX g₀ s₀ L g' s' m' (lawO L o1 o2 o3 o4 tp (tapeO cv k tk n) oP oQ ++ tl) → LawB w mg mb g' m' lab cs nv tp cv ms k oP oQ → m' "first" = some (.int a ua) → m' "last" = some (.int b ub) → wpAny (model prg w) A (execs ((lawR w).body.drop 16) (lawE w L)) Q E s') :
    wpAny (model prg w) A (execs ((lawR w).body.drop 15) (lawE w L)) Q E s := by
  have hz : (wordsOf (places (.node lab cs) [])).length ≤ 400 := Nat.le_trans (List.length_filter_le ..) (by rw [places_len]; exact Bk.small.sz)
  refine xFor (eLst (arg1 (nmL S (v := .int a ua) ha (arg1 (nmL S (v := .int b ub) hb (arg0 (mkLst S (sl (by simp)) fun D s₁ S₁ hD => ?_)))))))
  obtain ⟨g₁, k₁, e₁, _, S₁⟩ := S₁.freeze hD
  refine loopL (vs := [.int a ua, .int b ub]) hr.1 S₁ (isList_of e₁) (fun i g' m' ow' => ow' = lawO L o1 o2 o3 o4 tp (tapeO cv k tk n) oP oQ ++ tl ∧ LawB w mg mb g' m' lab cs nv tp cv ms k oP oQ ∧ m' "first" = some (.int a ua) ∧ m' "last" = some (.int b ub)) ⟨rfl, Bk.mono k₁ rfl rfl, ha, hb⟩ ?_ ?_
  · rintro i v it oi g' s' m' ow' hv hg ⟨rfl, Bk', ha', hb'⟩ hit S'
    try (show wpAny _ _ _ _ _ _; k_fold)
    obtain ⟨c, uc, rfl⟩ : ∃ c uc, v = .int c uc := by
      match i, hv with
      | 0, hv => exact ⟨_, _, (Option.some.inj hv).symm⟩
      | 1, hv => exact ⟨_, _, (Option.some.inj hv).symm⟩
    refine wpAny_pure (wpAny_assign_Name (stL S' fun s₂ S₂ => ?_))
    try (show wpAny _ _ _ _ _ _; k_fold)
    have S₂ : St LX g₀ s₀ L g' s₂ (upd m' "at" (.int c uc)) (((it, oi) :: lawO L o1 o2 o3 o4 tp (tapeO cv k tk n) oP oQ) ++ tl) := S₂
    obtain ⟨gT, as, k2, hT, nd, S3, bk⟩ := asked (tlX S₂.drop) S₂ (hTI.mono (k₁.trans hg))
    have GT := Bk'.G.keeps k2
    have kg := k₁.trans (hg.trans k2)
    obtain ⟨x, dx, l, d1, d2, t1, t2, tk', n', rfl, hx, hdx⟩ := isT_node_of hT
    refine xTryJoin (fun s₄ => ∃ g₄ u, Sub gT g₄ ∧ St LX g₀ s₀ L g₄ s₄ (upd (upd m' "at" (.int c uc)) "told" u) ((it, oi) :: lawO L o1 o2 o3 o4 tp (tapeO cv k tk n) oP oQ) ∧ Rd g₄ u (plcD (leafAt (.node lab cs) c))) ?_ ?_
    · refine xAsn (meCall (a := 259) (K := Mine.hd.heap_1 w.params) (nmC (c := L + 1) (v := .ref x) ⟨o1, S3.get (.tail _ (.tail _ (.tail _ (.tail _ (.head _))))), h1⟩ (methT GT S3 (instT S3.in_ hx hdx) (by k_is) (by k_is) (by rfl) ⟨rfl, ?_⟩)) (by k_is))
      refine arg1 (nmL S3 (v := .int c uc) rfl (arg0 ⟨(GT.keeps S3.in_).K, ?_⟩))
      refine wpAny_call (ltp_spec (fs := [lawE w L]) rfl Bk.small (hr.le (by omega)) hA (S3.hf rfl rfl) GT S3.in_ hT (fun p u s₅ g₅ hp gr ru => ?_) fun ev s₅ hp T => ?_)
      · refine stL (S3.call gr) fun s₆ S₆ => xNil ⟨rfl, g₅, u, gr.sub, S₆, ?_⟩
        rw [hp]; exact ru
      · refine caughtX S3 T hA rfl (fun b hb => .tail _ (lawO_in b hb)) fun e s₆ F => ?_
        refine catchesX GT F gIdx bIdx PySem.F.isExc_IndexError PySem.F.notTuple_IndexError PySem.F.self_IndexError fun s₇ S₇ => ?_
        refine xAsn (wpAny_Constant_none (stL S₇ fun s₈ S₈ => xNil ⟨rfl, gT, .none, .refl _, S₈, ?_⟩))
        rw [hp]; exact .none
    · rintro s₄ ⟨g₄, u, k₄, S₄, ru⟩
      have G₄ := GT.keeps k₄
      have hw₄ := hw.mono (kg.trans k₄)
      refine xIf (wpAny_isTrue_Compare1 (nmL S₄ (v := u) rfl (wpAny_mono (Q := fun v5 s₅ => ∃ g₅, Sub g₄ g₅ ∧ St LX g₀ s₀ L g₅ s₅ (upd (upd m' "at" (.int c uc)) "told" u) ((it, oi) :: lawO L o1 o2 o3 o4 tp (tapeO cv k tk n) oP oQ) ∧ Rd g₅ v5 (plcD (leafAt (.node lab cs) c))) ?_ (fun v5 s₅ h5 => ?_) fun _ _ x => x)))
      rotate_left
      · obtain ⟨g₅, k₅, S₅, r5⟩ := h5
        refine neSame hr S₅ (ru.mono k₅) r5 (lay_plcD _) (by omega) (itF (xNil (thenNext (xNil ?_))))
        obtain ⟨gF, f1, f2, f3, S₆⟩ := bk _ _ _ _ (k₄.trans k₅) S₅
        exact ⟨gF, _, _, f1, S₆, rfl, Bk'.mono f1 rfl rfl, ha', hb'⟩
      refine wpAny_IfExp (isTrue_chain (wpAny_Constant_int (test_link (nmL (S₄.toks (s₄.toks + 1)) (v := .int c uc) rfl (tLeI ?_)))))
      have S₅ := S₄.toks (s₄.toks + 1)
      by_cases h0 : 0 ≤ c
      · rw [decide_eq_true h0]
        refine itT (test_last (biG G₄ S₅ gLen bLen (arg1 (nmC (c := L + 3) (v := wv) ⟨o3, S₅.get (.tail _ (.tail _ (.head _))), h3⟩ (arg0 ?_)))))
        refine lenL S₅ hw₄ (by rw [List.length_map]; exact sl (by omega)) fun t6 s₆ S₆ => tLtI ?_
        rw [List.length_map]
        by_cases hc : c < ((wordsOf (places (.node lab cs) [])).length : Nat)
        · rw [decide_eq_true hc]
          obtain ⟨r, hr'⟩ : ∃ r, (wordsOf (places (.node lab cs) []))[c.toNat]? = some r := ⟨_, List.getElem?_eq_getElem (by omega)⟩
          have e : leafAt (.node lab cs) c = some r.1 := by rw [leafAt_words, if_neg (by omega), hr']; rfl
          refine itT (Subscript_ (Subscript_ (nmC (c := L + 3) (v := wv) ⟨o3, S₆.get (.tail _ (.tail _ (.head _))), h3⟩ (nmL S₆ (v := .int c uc) rfl ?_))))
          refine itRdL S₆ hw₄ h0 (d := prD r) (by rw [List.getElem?_map, hr']; rfl) (by omega) fun y ry => wpAny_Constant_int ?_
          rw [prD] at ry
          refine itRdT (S₆.toks (s₆.toks + 1)) ry (by decide) (d := posD r.1) rfl (by decide) fun z rz => ?_
          exact ⟨g₄, .refl _, S₆.toks (s₆.toks + 1), by rw [e]; exact rz⟩
        · rw [decide_eq_false hc]
          have e : leafAt (.node lab cs) c = none := by rw [leafAt_words, if_neg (by omega), List.getElem?_eq_none (by omega)]; rfl
          exact itF (wpAny_Constant_none ⟨g₄, .refl _, S₆, by rw [e]; exact .none⟩)
      · rw [decide_eq_false h0]
        have e : leafAt (.node lab cs) c = none := by rw [leafAt_words, if_pos (by omega)]
        exact itF (wpAny_Constant_none ⟨g₄, .refl _, S₅, by rw [e]; exact .none⟩)
  · rintro g' s' m' ow' hg ⟨rfl, Bk', ha', hb'⟩ S'
    try (show wpAny _ _ _ _ _ _; k_fold)
    exact thenNext (h g' s' m' (k₁.trans hg) S' Bk' ha' hb')
end
end Mine
namespace Mine
noncomputable def spanD (t : T) (a b : Int) : PyData := if b ≤ a then .str "none" else match leafAt t a, leafAt t (b - 1) with
  | some p, some q => posD (cpref p q)
  | _, _ => .str "off"
theorem okNone : PyData.strOk (Str.ofString "none") = true := by kernel_rfl
theorem okOff : PyData.strOk (Str.ofString "off") = true := by kernel_rfl
theorem lay_spanD (t : T) (a b : Int) : Lay 2 (spanD t a b) := by
  unfold spanD
  split
  · exact (lay_sym ⟨_, okNone⟩).le (by omega)
  · split
    · exact lay_pos _
    · exact (lay_sym ⟨_, okOff⟩).le (by omega)
theorem ints_any {g h : Heap} {vs : List Value} {p : Plc} (r : RdA g vs (p.map fun i => PyData.int (i : Nat))) : RdA h vs (p.map fun i => PyData.int (i : Nat)) :=
  RdA.of_get r.length fun j v d h1 h2 => by
    obtain ⟨v', e, rv⟩ := r.get h2
    rw [h1] at e; cases e
    rw [List.getElem?_map] at h2
    obtain ⟨i, _, rfl⟩ := Option.map_eq_some_iff.mp h2
    obtain ⟨u, rfl⟩ := rv.asInt
    exact .int _ _
theorem Rd.posOff {g gF : Heap} {as : List Addr} {u : Value} {p : Plc} (hl : ∀ a ∈ as, ∃ vs k, g.get? a = some (W.listOf vs k)) (hF : ∀ b o, b ∉ as → g.get? b = some o → gF.get? b = some o) (r : Rd g u (posD p)) : Rd gF u (posD p) := by
  obtain ⟨t, vs, rfl, ⟨o, ho, hc, n, hd⟩, rv⟩ := Rd.asTuple r
  exact .tuple ⟨o, offL hl hF ho (by rw [hc]; simp), hc, n, hd⟩ (ints_any rv)
section
variable {w : World} {mg mb : Str → Option Value} {A : Around} {E : Value → Shared → Prop} {X : List Addr} {m : Str → Option Value} {ow : List (Addr × Obj)} {env : Env} {g₀ g : Heap} {s₀ s : Shared} {L : Addr} {lab : Sym} {cs : List T} {nv tv : Value} {tp : Addr} {cv : Value} {ms : List Int} {k : Int} {tk : Tok} {n : Nat} {oP oQ o1 o2 o3 o4 : Obj} {Q : Flow → Shared → Prop} {tl : List (Addr × Obj)}
theorem law_s16 (hr : Room A 99) (hA : A.frames = some [lawE w L]) {a b : Int} {ua ub : Tok} (S : St LX g₀ s₀ L g s m (lawO L o1 o2 o3 o4 tp (tapeO cv k tk n) oP oQ ++ tl)) (Bk : LawB w mg mb g m lab cs nv tp cv ms k oP oQ) (hTI : TreeIn g tl tv (.node lab cs)) (h1 : o1.data = .cell (some tv))
    (ha : m "first" = some (.int a ua)) (hb : m "last" = some (.int b ub))
    (h : ∀ g' s' u, Sub g g' → St LX g₀ s₀ L g' s' (upd m "told" u) (lawO L o1 o2 o3 o4 tp (tapeO cv k tk n) oP oQ ++ tl) → LawB w mg mb g' (upd m "told" u) lab cs nv tp cv ms k oP oQ → Rd g' u (spanD (.node lab cs) a b) → wpAny (model prg w) A (execs ((lawR w).body.drop 17) (lawE w L)) Q E s') :
    wpAny (model prg w) A (execs ((lawR w).body.drop 16) (lawE w L)) Q E s := by
  obtain ⟨gT, as, k1, hT, nd, S1, bk⟩ := asked (tlX S) S hTI
  have GT := Bk.G.keeps k1
  obtain ⟨x, dx, l, d1, d2, t1, t2, tk', n', rfl, hx, hdx⟩ := isT_node_of hT
  refine xTryJoin (fun s₄ => ∃ g₄ u, Sub gT g₄ ∧ St LX g₀ s₀ L g₄ s₄ (upd m "told" u) (lawO L o1 o2 o3 o4 tp (tapeO cv k tk n) oP oQ) ∧ (spanD (.node lab cs) a b = .str "none" ∧ Rd g₄ u (.str "none") ∨ spanD (.node lab cs) a b = .str "off" ∧ Rd g₄ u (.str "off") ∨ ∃ p, spanD (.node lab cs) a b = posD p ∧ Rd g₄ u (posD p))) ?_ ?_
  · refine xAsn (meCall (a := 266) (K := Mine.hd.heap_1 w.params) (nmC (c := L + 1) (v := .ref x) ⟨o1, S1.get (.tail _ (.tail _ (.tail _ (.head _)))), h1⟩ (methT GT S1 (instT S1.in_ hx hdx) (by k_is) (by k_is) (by rfl) ⟨rfl, ?_⟩)) (by k_is))
    refine arg1 (nmL S1 (v := .int a ua) ha (arg1 (nmL S1 (v := .int b ub) hb (arg0 ⟨(GT.keeps S1.in_).K, ?_⟩))))
    refine wpAny_call (span_spec (fs := [lawE w L]) rfl Bk.small (hr.le (by omega)) hA (S1.hf rfl rfl) GT S1.in_ hT (fun p q u s₅ g₅ hab hp hq gr ru => ?_) (fun ev s₅ hab T => ?_) fun ev s₅ hab hn T => ?_)
    · refine stL (S1.call gr) fun s₆ S₆ => xNil ⟨rfl, g₅, u, gr.sub, S₆, .inr (.inr ⟨_, ?_, ru⟩)⟩
      rw [spanD, if_neg hab, hp, hq]
    · refine caughtX S1 T hA rfl (fun b hb => lawO_in b hb) fun e s₆ F => ?_
      refine catchesX GT F gVal bVal PySem.F.isExc_ValueError PySem.F.notTuple_ValueError PySem.F.self_ValueError fun s₇ S₇ => ?_
      refine xAsn (wpAny_Constant_str (stL (S₇.toks (s₇.toks + 1)) fun s₈ S₈ => xNil ⟨rfl, gT, _, .refl _, S₈, .inl ⟨?_, .str _ _⟩⟩))
      rw [spanD, if_pos hab]
    · refine caughtX S1 T hA rfl (fun b hb => lawO_in b hb) fun e s₆ F => ?_
      refine passesX GT F gVal bVal PySem.F.isExc_ValueError PySem.F.notTuple_ValueError notVal ?_
      refine catchesX GT F gIdx bIdx PySem.F.isExc_IndexError PySem.F.notTuple_IndexError PySem.F.self_IndexError fun s₇ S₇ => ?_
      refine xAsn (wpAny_Constant_str (stL (S₇.toks (s₇.toks + 1)) fun s₈ S₈ => xNil ⟨rfl, gT, _, .refl _, S₈, .inr (.inl ⟨?_, .str _ _⟩)⟩))
      rw [spanD, if_neg hab]
      rcases hn with hn | hn
      · rw [hn]
      · rw [hn]; split <;> first | rfl | simp_all
  · rintro s₄ ⟨g₄, u, k₄, S₄, ru⟩
    obtain ⟨gF, f1, f2, f3, S₆⟩ := bk _ _ _ _ k₄ S₄
    have hls := isT_lists (hT.mono k₄)
    refine h gF s₄ u f1 S₆ (Bk.mono f1 rfl rfl) ?_
    rcases ru with ⟨e, ru⟩ | ⟨e, ru⟩ | ⟨p, e, ru⟩
    · rw [e]; obtain ⟨_, rfl⟩ := ru.asStr; exact .str _ _
    · rw [e]; obtain ⟨_, rfl⟩ := ru.asStr; exact .str _ _
    · rw [e]; exact ru.posOff hls f3
theorem law_s17 (hr : Room A 99) {a b : Int} {ua ub : Tok} (S : St LX g₀ s₀ L g s m (lawO L o1 o2 o3 o4 tp (tapeO cv k tk n) oP oQ ++ tl)) (Bk : LawB w mg mb g m lab cs nv tp cv ms k oP oQ)
    (ha : m "first" = some (.int a ua)) (hb : m "last" = some (.int b ub))
    (h : ∀ s' u, St LX g₀ s₀ L g s' (upd m "due" u) (lawO L o1 o2 o3 o4 tp (tapeO cv k tk n) oP oQ ++ tl) → LawB w mg mb g (upd m "due" u) lab cs nv tp cv ms k oP oQ → Rd g u (if b ≤ a then .str "none" else .str "off") → wpAny (model prg w) A (execs ((lawR w).body.drop 18) (lawE w L)) Q E s') :
    wpAny (model prg w) A (execs ((lawR w).body.drop 17) (lawE w L)) Q E s := by
  refine xAsn (wpAny_IfExp (wpAny_isTrue_Compare1 (nmL S (v := .int b ub) hb (nmL S (v := .int a ua) ha (tLeI ?_)))))
  by_cases hab : b ≤ a
  · rw [decide_eq_true hab]
    refine itT (wpAny_Constant_str (stL (S.toks (s.toks + 1)) fun s₂ S₂ => h s₂ _ S₂ (Bk.mono (.refl _) rfl rfl) ?_))
    rw [if_pos hab]; exact .str _ _
  · rw [decide_eq_false hab]
    refine itF (wpAny_Constant_str (stL (S.toks (s.toks + 1)) fun s₂ S₂ => h s₂ _ S₂ (Bk.mono (.refl _) rfl rfl) ?_))
    rw [if_neg hab]; exact .str _ _
end
end Mine
namespace Mine
theorem cut_min (n k : Nat) : cut n (k : Int) = min k n := by
  unfold cut
  rw [if_neg (by omega)]
  omega
theorem posD_take (p : Plc) (k : Nat) : PyData.tuple ((p.map fun i => PyData.int (i : Nat)).take (cut (p.map fun i => PyData.int (i : Nat)).length (k : Int))) = posD (p.take k) := by
  rw [cut_min, List.length_map, posD, List.map_take]
  congr 1
  rcases Nat.le_total k p.length with h | h
  · rw [Nat.min_eq_left h]
  · rw [Nat.min_eq_right h, List.take_of_length_le (by simp), List.take_of_length_le (by simpa using h)]
section
variable {w : World} {mg mb : Str → Option Value} {M : Model} {A : Around} {E : Value → Shared → Prop} {X : List Addr} {g₀ g : Heap} {s₀ s : Shared} {L : Addr} {m : Str → Option Value} {ow : List (Addr × Obj)} {env : Env}
theorem loopWI {target : Expr} {body : List Stmt} {I : Addr} {fp : List Addr} {n : Nat} {P : Nat → Value → Prop} {Wt : Nat → Heap → Prop} {oi : Obj} {R : Result → Shared → Prop}
    (W : Walks prg w A I fp [I] n P Wt) (wl : ∀ i h, Wt i h → ∃ o, h.get? I = some o) (S : St X g₀ s₀ L g s m ((I, oi) :: ow)) (hIX : I ∉ X) (hst : Wt 0 s.heap) (hfp : ∀ b ∈ fp, b = I ∨ ∃ o, g.get? b = some o)
    (J : Nat → Heap → (Str → Option Value) → List (Addr × Obj) → Prop) (h0 : J 0 g m ow)
    (turn : ∀ i v it oi g' s' m' ow', i < n → P i v → Sub g g' → J i g' m' ow' → it ∉ X → it = I → Wt (i + 1) s'.heap → St X g₀ s₀ L g' s' m' ((it, oi) :: ow') →
      wpAny (model prg w) A (letOwnedTupleGo target (.ref it) v) (fun _ s₁ => wpAny (model prg w) A (assign target env v) (fun _ s₂ => wpAny (model prg w) A (execs body env) (fun f s₃ => match f with
        | .next | .cont => ∃ g₃ m₃ ow₃, Sub g' g₃ ∧ St X g₀ s₀ L g₃ s₃ m₃ ((it, oi) :: ow₃) ∧ J (i + 1) g₃ m₃ ow₃
        | .brk => R (.ok .next) s₃
        | .ret v => R (.ok (.ret v)) s₃) (fun _ _ => False) s₂) (fun _ _ => False) s₁) (fun _ _ => False) s')
    (done : ∀ g' s' m' ow', Sub g g' → J n g' m' ow' → St X g₀ s₀ L g' s' m' ow' → R (.ok .next) s') :
    codeAny (model prg w) A (.forLoop target (.ref I) body [] env) R s := by
  refine codeAny_forLoop_any (fun k s' => ∃ i g' m' ow' oi', k = n + 1 - i ∧ i ≤ n ∧ Sub g g' ∧ J i g' m' ow' ∧ St X g₀ s₀ L g' s' m' ((I, oi') :: ow') ∧ Wt i s'.heap) ?_ (n + 1) ⟨0, g, m, ow, oi, rfl, Nat.zero_le _, .refl _, h0, S, hst⟩
  rintro k s' ⟨i, g', m', ow', oi', rfl, hi, hg, hJ, S', hst'⟩
  rcases Nat.lt_or_ge i n with hlt | hge
  · refine W.item i s' _ _ hlt hst' fun v h' tk hP hst₁ hk => ?_
    obtain ⟨o₁, ho₁⟩ := wl _ _ hst₁
    have z := S'.own _ (.head _)
    have S₁ : St X g₀ s₀ L g' { s' with heap := h', toks := tk } m' ((I, o₁) :: ow') := by
      have S₂ := S'.lose (tk := tk) hIX fun b o hb e => hk b o (fun hm => hb (List.mem_singleton.mp hm)) e
      refine ⟨S₂.grow, S₂.ns, S₂.offL, S₂.newL, fun p hp => ?_, S'.nd, S₂.xin, S₂.lo⟩
      rcases List.mem_cons.mp hp with rfl | hp
      · exact ⟨ho₁, z.2⟩
      · exact S₂.own p hp
    have hfp' : ∀ b ∈ fp, ∀ s₃ g₃ m₃ ow₃, Sub g' g₃ → St X g₀ s₀ L g₃ s₃ m₃ ((I, o₁) :: ow₃) → ∀ o, h'.get? b = some o → s₃.heap.get? b = some o := fun b hb s₃ g₃ m₃ ow₃ hg₃ S₃ o e => by
      rcases hfp b hb with rfl | ⟨o', ho'⟩
      · rw [ho₁] at e; cases e; exact S₃.get (.head _)
      · have e1 := S₁.in_ _ _ (hg _ _ ho')
        dsimp only at e1
        rw [e] at e1; cases e1
        exact S₃.in_ _ _ (hg₃ _ _ (hg _ _ ho'))
    refine wpAny_noRaise (wpAny_mono (turn i v I o₁ g' _ m' ow' hlt hP hg hJ hIX rfl hst₁ S₁) (fun _ s₁ t₁ => wpAny_noRaise (wpAny_mono t₁ (fun _ s₂ t₂ => wpAny_noRaise (wpAny_mono t₂ (fun f s₃ t₃ => ?_) fun _ _ x => x)) fun _ _ x => x)) fun _ _ x => x)
    have fin : (∃ g₃ m₃ ow₃, Sub g' g₃ ∧ St X g₀ s₀ L g₃ s₃ m₃ ((I, o₁) :: ow₃) ∧ J (i + 1) g₃ m₃ ow₃) → ∃ k', k' < n + 1 - i ∧ ∃ i g' m' ow' oi', k' = n + 1 - i ∧ i ≤ n ∧ Sub g g' ∧ J i g' m' ow' ∧ St X g₀ s₀ L g' s₃ m' ((I, oi') :: ow') ∧ Wt i s₃.heap := by
      rintro ⟨g₃, m₃, ow₃, hg₃, S₃, hJ₃⟩
      exact ⟨n + 1 - (i + 1), by omega, i + 1, g₃, m₃, ow₃, o₁, rfl, hlt, hg.trans hg₃, hJ₃, S₃, W.frame _ _ _ hst₁ fun b hb o e => hfp' b hb s₃ g₃ m₃ ow₃ hg₃ S₃ o e⟩
    cases f with
    | next => exact fin t₃
    | cont => exact fin t₃
    | brk => exact t₃
    | ret v => exact t₃
  · have hin : i = n := by omega
    subst hin
    refine W.done s' _ _ hst' fun h' tk hk => ?_
    exact xNil (done g' _ m' ow' hg hJ (S'.lose hIX fun b o hb e => hk b o (fun hm => hb (List.mem_singleton.mp hm)) e))

theorem loopLI {target : Expr} {body : List Stmt} {l : Addr} {vs : List Value} {R : Result → Shared → Prop}
    (hh : A.handled = none) (S : St X g₀ s₀ L g s m ow) (hl : g.IsList l vs.toArray)
    (J : Nat → Heap → (Str → Option Value) → List (Addr × Obj) → Prop) (h0 : J 0 g m ow)
    (turn : ∀ i v it oi g' s' m' ow', vs[i]? = some v → Sub g g' → J i g' m' ow' → it ∉ X → s'.heap.IsListIter it l (i + 1) → St X g₀ s₀ L g' s' m' ((it, oi) :: ow') →
      wpAny (model prg w) A (letOwnedTupleGo target (.ref it) v) (fun _ s₁ => wpAny (model prg w) A (assign target env v) (fun _ s₂ => wpAny (model prg w) A (execs body env) (fun f s₃ => match f with
        | .next | .cont => ∃ g₃ m₃ ow₃, Sub g' g₃ ∧ St X g₀ s₀ L g₃ s₃ m₃ ((it, oi) :: ow₃) ∧ J (i + 1) g₃ m₃ ow₃
        | .brk => R (.ok .next) s₃
        | .ret v => R (.ok (.ret v)) s₃) (fun _ _ => False) s₂) (fun _ _ => False) s₁) (fun _ _ => False) s')
    (done : ∀ g' s' m' ow', Sub g g' → J vs.length g' m' ow' → St X g₀ s₀ L g' s' m' ow' → R (.ok .next) s') :
    wpAny (model prg w) A (pyIter (.ref l)) (fun it s₂ => codeAny (model prg w) A (.forLoop target it body [] env) R s₂) E s := by
  have hls : s.heap.IsList l vs.toArray := IsList.mono S.in_ hl
  obtain ⟨ol, hol, _⟩ := id hl
  refine wpAny_pyIter_list hls ?_
  have hne : l ≠ s.heap.objs.size := Nat.ne_of_lt (Heap.lt_size (S.in_ _ _ hol))
  have W := Walks.list (prog := prg) (w := w) hh s.heap.objs.size l hne vs.toArray
  have hX' : s.heap.objs.size ∉ X := fun hm => by
    have y := S.xin _ hm
    rw [get_push_size_none] at y; cases y
  refine loopWI (P := fun i v => vs.toArray[i]? = some v) W (fun i h st => by obtain ⟨⟨o, ho, _⟩, _⟩ := st; exact ⟨o, ho⟩) (S.push _) hX' ⟨⟨_, Heap.get?_push_size _ rfl, rfl, rfl⟩, hls.push _⟩ (fun b hb => ?_) J h0 ?_ ?_
  · rcases List.mem_cons.mp hb with rfl | hb
    · exact .inl rfl
    · rw [List.mem_singleton.mp hb]; exact .inr ⟨_, hol⟩
  · rintro i v it oi g' s' m' ow' _ hP hg hJ hit rfl hst S'
    try (show wpAny _ _ _ _ _ _; k_fold)
    exact turn i v _ oi g' s' m' ow' (by simpa using hP) hg hJ hit hst.1 S'
  · intro g' s' m' ow' hg hJ S'
    try (show wpAny _ _ _ _ _ _; k_fold)
    exact done g' s' m' ow' hg (by simpa using hJ) S'

theorem mkRange2 {a b : Int} {t u : Tok} {Q : Value → Shared → Prop} (S : St X g₀ s₀ L g s m ow)
    (h : ∀ r t₂ g' s', Sub g g' → IsRange g' r a b 1 t u t₂ → St X g₀ s₀ L g' s' m ow → Q (.ref r) s') : wpAny (model prg w) A (call (.type "range") [.int a t, .int b u]) Q E s := by
  refine call_range_2 ?_
  have S' := S.push { cls := .type "range", data := .fields #[.int a t, .int b u, .int 1 s.toks] }
  obtain ⟨g', k, e, _, S''⟩ := S'.freeze fun hm => by have := S.xin _ hm; rw [get_push_size_none] at this; cases this
  exact h _ _ g' _ k e (S''.toks _)
theorem compR2 {elt iter test : Expr} {x : Str} {px : PySem.Pos} {scope : Scope} {cl : List (Str × Addr)} {pos : PySem.Pos} {r : Addr} {a b : Int} {n : Nat} {t u v : Tok} {Q : Value → Shared → Prop}
    (hh : A.handled = none) (S : St X g₀ s₀ L g s m ow) (hr : IsRange g r a b 1 t u v) (hn : b = a + n) (h0 : 0 ≤ a) (hb : b ≤ 900)
    (hcell : ∀ y ∈ scope.names, y.2 ≠ .cell) (hkind : scope.kind = .function) (hx : scope.names.lookup x = some .local)
    (J : Nat → Heap → List Value → Prop) (hJ0 : J 0 g [])
    (turn : ∀ i tk I oi se C g' s' mC ys ow2, St X g₀ s₀ L g se m ((I, oi) :: ow) → i < n → Sub g g' → J i g' ys → St [I] g se C g' s' (upd mC x (.int (a + (i : Nat)) tk)) ow2 →
      Turn2 w A I g se C (compEnvC scope cl C env) test elt g' s' ow2 (fun g₄ y => J (i + 1) g₄ (ys ++ [y])) fun g₃ => J (i + 1) g₃ ys)
    (done : ∀ D g' s' ys k, Sub g g' → J n g' ys → St X g₀ s₀ L g' s' m ((D, lstO ys k) :: ow) → Q (.ref D) s') :
    wpAny (model prg w) A (pyIter (.ref r)) (fun it s₂ => wpAny (model prg w) A (newList []) (fun acc s₃ => wpAny (model prg w) A (newFunctionEnv scope env.globals cl [] env.qual none .none (some env)) (fun cenv s₄ =>
      codeAny (model prg w) A (.compStart (.ListComp elt [⟨.Name x px, iter, [test], 0⟩] scope pos) 0 it acc { cenv with scope := relabel scope env }) (compPost (model prg w) A E none Q acc cenv.locals) s₄) E s₃) E s₂) E s := by
  refine wpAny_pyIter_range (S.in_ _ _ hr) (small_one (by omega) (by omega) (by omega) (by omega)) ?_
  have hX' : s.heap.objs.size ∉ X := fun hm => by
    have y := S.xin _ hm
    rw [get_push_size_none] at y; cases y
  have e : Builtin.Range.rangeSize a b 1 = (n : Int) := by rw [rangeSize_one]; split <;> omega
  rw [e]
  have S' := S.push { cls := .type "range_iterator", data := .fields #[rawInt a, rawInt (n : Int), rawInt 1] }
  refine compW2 (Walks.range hh _ a 1 n) (fun i h st => ⟨_, st⟩) S' hX' (by show IsRangeIter _ _ (a + ((0 : Nat) : Int) * 1) ((n : Int) - ((0 : Nat) : Int)) 1; rw [show (a + ((0 : Nat) : Int) * 1) = a by omega, show ((n : Int) - ((0 : Nat) : Int)) = n by omega]; exact Heap.get?_push_size _ rfl) (fun b hb => .inl (List.mem_singleton.mp hb)) (sl (by omega)) hcell hkind hx J hJ0 ?_ done
  rintro i v C g' s' mC ys ow2 hi ⟨tk, rfl⟩ hg hJ S₂
  rw [show a + (i : Nat) * (1 : Int) = a + (i : Nat) by omega] at S₂
  exact turn i tk _ _ _ C g' s' mC ys ow2 S' hi hg hJ S₂
end
end Mine
namespace Mine
theorem good_count (ws : List Plc) (x : Plc) : (((ws.filter fun w => !(w.take x.length == x)).map fun _ => PyData.int 1).length = 0) ↔ goodB ws x = true := by
  rw [List.length_map, List.length_eq_zero_iff, List.filter_eq_nil_iff, goodB, List.all_eq_true]
  constructor
  · intro h w hw
    have := h w hw
    simpa using this
  · intro h w hw
    simpa using h w hw
theorem RdA.two {g : Heap} {vs : List Value} {d1 d2 : PyData} (r : RdA g vs [d1, d2]) : ∃ v1 v2, vs = [v1, v2] ∧ Rd g v1 d1 ∧ Rd g v2 d2 := by
  have hl := r.length
  obtain ⟨v1, e1, r1⟩ := r.get (i := 0) rfl
  obtain ⟨v2, e2, r2⟩ := r.get (i := 1) rfl
  clear r
  cases vs with
  | nil => cases e1
  | cons a ws =>
    cases ws with
    | nil => cases e2
    | cons b ws =>
      cases ws with
      | nil => cases e1; cases e2; exact ⟨_, _, rfl, r1, r2⟩
      | cons _ _ => cases hl
section
variable {w : World} {mg mb : Str → Option Value} {A : Around} {E : Value → Shared → Prop} {X : List Addr} {m : Str → Option Value} {ow : List (Addr × Obj)} {env : Env} {g₀ g : Heap} {s₀ s : Shared} {L : Addr} {lab : Sym} {cs : List T} {nv tv : Value} {tp : Addr} {cv : Value} {ms : List Int} {k : Int} {tk : Tok} {n : Nat} {oP oQ o1 o2 o3 o4 : Obj} {Q : Flow → Shared → Prop} {tl : List (Addr × Obj)}
theorem law_s18 (hr : Room A 99) {pv wv u dv : Value} {a b : Int} {ua ub : Tok} {v4 : Option Value} (S : St LX g₀ s₀ L g s m (lawO L o1 o2 o3 o4 tp (tapeO cv k tk n) oP oQ ++ tl)) (Bk : LawB w mg mb g m lab cs nv tp cv ms k oP oQ)
    (h2 : o2.data = .cell (some pv)) (hp : Rd g pv (.list ((places (.node lab cs) []).map prD))) (h3 : o3.data = .cell (some wv)) (hw : Rd g wv (.list ((wordsOf (places (.node lab cs) [])).map prD))) (h4 : o4.data = .cell v4)
    (ha : m "first" = some (.int a ua)) (hb : m "last" = some (.int b ub)) (hm : m "told" = some u) (hd : m "due" = some dv) (hdv : Rd g dv (if b ≤ a then .str "none" else .str "off"))
    (h : ∀ g' s' m' o4' v4' dv', Sub g g' → St LX g₀ s₀ L g' s' m' (lawO L o1 o2 o3 o4' tp (tapeO cv k tk n) oP oQ ++ tl) → LawB w mg mb g' m' lab cs nv tp cv ms k oP oQ → o4'.data = .cell v4' → m' "told" = some u → m' "due" = some dv' → Rd g' dv' (spanD (.node lab cs) a b) → wpAny (model prg w) A (execs ((lawR w).body.drop 19) (lawE w L)) Q E s') :
    wpAny (model prg w) A (execs ((lawR w).body.drop 18) (lawE w L)) Q E s := by
  have G := Bk.G
  have hz : (places (.node lab cs) []).length ≤ 400 := by rw [places_len]; exact Bk.small.sz
  have hzw : (wordsOf (places (.node lab cs) [])).length ≤ 400 := Nat.le_trans (List.length_filter_le ..) hz
  refine xIf (wpAny_mono (Q := fun t s₂ => t = decide (0 ≤ a ∧ a < b ∧ b ≤ ((wordsOf (places (.node lab cs) [])).length : Nat)) ∧ St LX g₀ s₀ L g s₂ m (lawO L o1 o2 o3 o4 tp (tapeO cv k tk n) oP oQ ++ tl)) ?_ (fun t s₂ ht => ?_) fun _ _ x => x)
  · refine isTrue_chain (wpAny_Constant_int (test_link (nmL (S.toks (s.toks + 1)) (v := .int a ua) ha (tLeI ?_))))
    have S := S.toks (s.toks + 1)
    by_cases c1 : 0 ≤ a
    · rw [decide_eq_true c1]
      refine itT (test_link (nmL S (v := .int b ub) hb (tLtI ?_)))
      by_cases c2 : a < b
      · rw [decide_eq_true c2]
        refine itT (test_last (biG G S gLen bLen (arg1 (nmC (c := L + 3) (v := wv) ⟨o3, S.get (.tail _ (.head _)), h3⟩ (arg0 ?_)))))
        refine lenL S hw (by rw [List.length_map]; exact sl (by omega)) fun t6 s₆ S₆ => tLeI ?_
        rw [List.length_map]
        exact ⟨by simp [c1, c2], S₆⟩
      · rw [decide_eq_false c2]
        exact itF ⟨by simp [c2], S⟩
    · rw [decide_eq_false c1]
      exact itF ⟨by simp [c1], S⟩
  obtain ⟨rfl, S⟩ := ht
  by_cases hab : 0 ≤ a ∧ a < b ∧ b ≤ ((wordsOf (places (.node lab cs) [])).length : Nat)
  rotate_left
  · rw [decide_eq_false hab]
    refine itF (xNil (thenNext (h g s₂ m o4 v4 dv (.refl _) S Bk h4 hm hd ?_)))
    unfold spanD
    by_cases c : b ≤ a
    · rw [if_pos c] at hdv ⊢; exact hdv
    · rw [if_neg c] at hdv ⊢
      have : leafAt (.node lab cs) a = none ∨ leafAt (.node lab cs) (b - 1) = none := by
        rw [leafAt_words, leafAt_words]
        by_cases c0 : a < 0
        · exact .inl (if_pos c0)
        · refine .inr ?_
          rw [if_neg (by omega), List.getElem?_eq_none (by omega)]; rfl
      rcases this with e | e
      · rw [e]; exact hdv
      · rw [e]; split <;> first | exact hdv | simp_all
  rw [decide_eq_true hab]
  obtain ⟨c0, c1, c2⟩ := hab
  obtain ⟨a, rfl⟩ := Int.eq_ofNat_of_zero_le c0
  obtain ⟨b, rfl⟩ := Int.eq_ofNat_of_zero_le (show 0 ≤ b by omega)
  have hlw : (leafP (.node lab cs) []).length = (wordsOf (places (.node lab cs) [])).length := by rw [leafP_words, List.length_map]
  obtain ⟨p, hpa⟩ : ∃ p, (leafP (.node lab cs) [])[a]? = some p := ⟨_, List.getElem?_eq_getElem (by omega)⟩
  obtain ⟨q, hqb⟩ : ∃ q, (leafP (.node lab cs) [])[b - 1]? = some q := ⟨_, List.getElem?_eq_getElem (by omega)⟩
  have hspan : spanD (.node lab cs) (a : Int) (b : Int) = posD (((places (.node lab cs) []).map (·.1)).foldl (dueStep (((leafP (.node lab cs) []).drop a).take (b - a))) []) := by
    rw [due_is (by omega) hpa hqb, spanD, if_neg (by omega)]
    have e1 : leafAt (.node lab cs) (a : Int) = some p := by rw [leafAt, if_neg (by omega)]; exact hpa
    have e2 : leafAt (.node lab cs) ((b : Int) - 1) = some q := by rw [leafAt, if_neg (by omega), show ((b : Int) - 1).toNat = b - 1 by omega]; exact hqb
    rw [e1, e2]
  generalize hws : ((leafP (.node lab cs) []).drop a).take (b - a) = ws at hspan
  obtain ⟨lp, vp, rfl, hlp, rvp⟩ := hp.asList
  obtain ⟨lw, vw, rfl, hlw', rvw⟩ := id hw.asList
  refine itT (xAsn (eTup (arg0 (mkTup S .nil (sl (by simp)) fun v g₁ s₁ k₁ r₁ S₁ => stL S₁ fun s₃ S₃ => ?_))))
  have Bk₁ : LawB w mg mb g₁ (upd m "due" v) lab cs nv tp cv ms k oP oQ := Bk.mono k₁ rfl rfl
  refine xFor (nmC (c := L + 2) (v := .ref lp) ⟨o2, S₃.get (.tail _ (.tail _ (.head _))), h2⟩ ?_)
  refine loopLI hr.1 S₃ (IsList.mono k₁ hlp) (fun i g' m' ow' => ∃ o4' v4' dv', ow' = lawO L o1 o2 o3 o4' tp (tapeO cv k tk n) oP oQ ++ tl ∧ o4'.data = .cell v4' ∧ LawB w mg mb g' m' lab cs nv tp cv ms k oP oQ ∧ m' "first" = some (.int a ua) ∧ m' "last" = some (.int b ub) ∧ m' "told" = some u ∧ m' "due" = some dv' ∧ Rd g' dv' (posD ((((places (.node lab cs) []).take i).map (·.1)).foldl (dueStep ws) []))) ⟨o4, v4, v, rfl, h4, Bk₁, ha, hb, hm, rfl, r₁⟩ ?_ ?_
  · rintro i v it oi g' s' m' ow' hv hg ⟨o4', v4', dv', rfl, hd4, Bk', ha', hb', hm', hd', rd'⟩ hit hIt S'
    try (show wpAny _ _ _ _ _ _; k_fold)
    have G' := Bk'.G
    obtain ⟨d, hdd, rv⟩ := rvp.get' hv
    rw [List.getElem?_map] at hdd
    obtain ⟨r, hr', rfl⟩ := Option.map_eq_some_iff.mp hdd
    have rv := rv.mono (k₁.trans hg)
    rw [prD] at rv
    obtain ⟨ta, tvs, rfl, hta, rtv⟩ := rv.asTuple
    obtain ⟨v1, v2, rfl, rv1, rv2⟩ := rtv.two
    have hps := places_small (List.mem_of_getElem? hr')
    have hrl : r.1.length ≤ 400 := by have := Bk.small.ht; omega
    refine wpAny_letOwnedTupleGo_listiter hIt ?_
    refine assign_Tuple_tuple hr.1 (IsTup.mono S'.in_ hta) rfl rfl fun h' hx => ?_
    have S'' := S'.kept (h' := h') (tk := s'.toks) fun b o e => hx b o (Nat.ne_of_lt (Heap.lt_size e)) e
    refine wpAny_assignInOrder_more (wpAny_assign_Name (stC (pre := [(it, oi)]) (c := L + 4) (ow := [(L + 3, o3), (L + 2, o2), (L + 1, o1), (tp, tapeO cv k tk n), (226, oP), (162, oQ)] ++ tl) S'' hd4 fun o4'' s₅ hd4' S₅ => ?_))
    refine wpAny_assignInOrder_more (wpAny_assign_Name (stL S₅ fun s₆ S₆ => ?_))
    try (show wpAny _ _ _ _ _ _; k_fold)
    refine wpAny_assignInOrder_none ?_
    have S₆ : St LX g₀ s₀ L g' s₆ (upd m' "part" v2) ((it, oi) :: (lawO L o1 o2 o3 o4'' tp (tapeO cv k tk n) oP oQ ++ tl)) := S₆
    generalize hD : (((places (.node lab cs) []).take i).map (·.1)).foldl (dueStep ws) [] = D at rd'
    have hDn : (((places (.node lab cs) []).take (i + 1)).map (·.1)).foldl (dueStep ws) [] = dueStep ws D r.1 := by
      rw [take_snoc hr', List.map_append, List.foldl_append, hD]; rfl
    refine xIf (wpAny_mono (Q := fun t s₇ => ∃ g₇, Sub g' g₇ ∧ t = decide (r.1.length > D.length ∧ goodB ws r.1 = true) ∧ St LX g₀ s₀ L g₇ s₇ (upd m' "part" v2) ((it, oi) :: (lawO L o1 o2 o3 o4'' tp (tapeO cv k tk n) oP oQ ++ tl))) ?_ (fun t s₇ ht => ?_) fun _ _ x => x)
    · have hcell4 : s₆.heap.IsCell (L + 4) (some v1) := ⟨o4'', S₆.get (.tail _ (.head _)), hd4'⟩
      refine wpAny_isTrue_BoolOp (wpAny_allTrue_And_cons (wpAny_isTrue_Compare1 (biG G' S₆ gLen bLen (arg1 (nmC (c := L + 4) (v := v1) hcell4 (arg0 ?_))))))
      refine lenT S₆ rv1 (by rw [List.length_map]; exact sl (by omega)) fun t7 s₇ S₇ => biG G' S₇ gLen bLen (arg1 (nmL S₇ (v := dv') hd' (arg0 ?_)))
      have hDl : D.length ≤ 400 := by
        have key : ∀ (l : List Plc) (d : Plc), d.length ≤ 400 → (∀ x ∈ l, x.length ≤ 400) → (l.foldl (dueStep ws) d).length ≤ 400 := by
          intro l
          induction l with
          | nil => intro d h _; exact h
          | cons x l ih =>
            intro d hd' hl
            rw [List.foldl_cons]
            refine ih _ ?_ fun y hy => hl y (.tail _ hy)
            unfold dueStep
            split
            · exact hl x (.head _)
            · exact hd'
        rw [← hD]
        refine key _ _ (by simp) fun x hx => ?_
        obtain ⟨y, hy, rfl⟩ := List.mem_map.mp hx
        have := (places_small (List.mem_of_mem_take hy)).2.1
        have := Bk.small.ht
        omega
      refine lenT S₇ rd' (by rw [List.length_map]; exact sl (by omega)) fun t8 s₈ S₈ => tGtI ?_
      rw [List.length_map, List.length_map]
      by_cases hlt : D.length < r.1.length
      · rw [decide_eq_true (by omega)]
        refine itT (wpAny_allTrue_And_cons (wpAny_isTrue_Compare1 (biG G' S₈ gLen bLen (arg1 (lcEval (cl := [("words", L + 3), ("place", L + 4)]) rfl rfl (by decide) (tyG G' S₈ gRange bRange (arg1 (nmL S₈ (v := .int (a : Nat) ua) ha' (arg1 (nmL S₈ (v := .int (b : Nat) ub) hb' (arg0 ?_)))))))))))
        refine mkRange2 S₈ fun rg t9 g₉ s₉ k₉ hrg S₉ => ?_
        have hw₉ := hw.mono (k₁.trans (hg.trans k₉))
        refine compR2 (n := b - a) hr.1 S₉ hrg (by omega) (by omega) (by omega) (by decide) rfl rfl (fun j g' ys => RdA g' ys (((ws.take j).filter fun w => !(w.take r.1.length == r.1)).map fun _ => PyData.int 1)) (by exact .nil) ?_ ?_
        · intro j tkj I2 oi2 se C2 g6 s6 mC2 ys ow3 Se hj hg6 hJ6 S6
          try (show wpAny _ _ _ _ _ _; k_fold)
          have G6 := (G'.keeps k₉).keeps hg6
          obtain ⟨r2, hr2⟩ : ∃ r2, (wordsOf (places (.node lab cs) []))[a + j]? = some r2 := ⟨_, List.getElem?_eq_getElem (by omega)⟩
          have hwj : ws[j]? = some r2.1 := by
            rw [← hws, List.getElem?_take_of_lt hj, List.getElem?_drop, leafP_words, List.getElem?_map, hr2]; rfl
          have hps2 := places_small (List.mem_filter.mp (List.mem_of_getElem? hr2)).1
          have hrl2 : r2.1.length ≤ 400 := by have := Bk.small.ht; omega
          have keepC : ∀ c o, (c, o) ∈ ((it, oi) :: (lawO L o1 o2 o3 o4'' tp (tapeO cv k tk n) oP oQ ++ tl)) → s6.heap.get? c = some o := fun c o hm => S6.grow.keep _ _ (fun hm2 => (List.nodup_cons.mp Se.nd).1 (by rw [← List.mem_singleton.mp hm2]; exact List.mem_map.mpr ⟨(c, o), hm, rfl⟩)) (Se.get (.tail _ hm))
          have hc3 : s6.heap.IsCell (L + 3) (some (.ref lw)) := ⟨o3, keepC _ _ (.tail _ (.tail _ (.head _))), h3⟩
          have hc4 : s6.heap.IsCell (L + 4) (some v1) := ⟨o4'', keepC _ _ (.tail _ (.head _)), hd4'⟩
          refine wpAny_isTrue_Compare1 (sliceUptoT (X := [I2]) (g₀ := g₉) (s₀ := se) (L := C2) (ds := r2.1.map fun i => PyData.int (i : Nat)) (b := (r.1.length : Nat)) (Subscript_ (Subscript_ (nmC (c := L + 3) (v := .ref lw) hc3 (nmL S6 (v := .int ((a : Nat) + (j : Nat)) tkj) rfl ?_)))))
          refine itRdL S6 (hw₉.mono hg6) (by omega) (d := prD r2) (by rw [List.getElem?_map, show ((a : Int) + (j : Int)).toNat = a + j by omega, hr2]; rfl) (by omega) fun y ry => wpAny_Constant_int ?_
          have S6 := S6.toks (s6.toks + 1)
          rw [prD] at ry
          refine itRdT S6 ry (by decide) (d := posD r2.1) rfl (by decide) fun z rz => biG G6 S6 gLen bLen (arg1 (nmC (c := L + 4) (v := v1) hc4 (arg0 ?_)))
          have rv16 := rv1.mono (k₉.trans hg6)
          refine lenT S6 rv16 (by rw [List.length_map]; exact sl (by omega)) fun t10 s10 S10 => ?_
          rw [List.length_map]
          refine ⟨t10, g6, _, _, rfl, rz, by rw [List.length_map]; exact sl (by omega), S10, fun z3 g7 s8 k7 r3 S8 => ?_⟩
          rw [posD_take] at r3
          have hc4' : s8.heap.IsCell (L + 4) (some v1) := ⟨o4'', S8.grow.keep _ _ (fun hm2 => (List.nodup_cons.mp Se.nd).1 (by rw [← List.mem_singleton.mp hm2]; exact List.mem_map.mpr ⟨(L + 4, o4''), .tail _ (.head _), rfl⟩)) (Se.get (.tail _ (.tail _ (.head _)))), hd4'⟩
          refine nmC (c := L + 4) (v := v1) hc4' ?_
          refine tNeR hr (by omega) S8 r3 (rv16.mono k7) (posD_shaped _) (posD_shaped _) ?_
          rw [eqv_pos]
          have e := take_snoc hwj
          by_cases hq : r2.1.take r.1.length = r.1
          · rw [decide_eq_true hq]
            refine itF ⟨g7, _, k7, S8, ?_⟩
            rw [e, List.filter_append, List.filter_cons_of_neg (by simp [hq]), List.filter_nil, List.append_nil]
            exact hJ6.mono k7
          · rw [decide_eq_false hq]
            refine itT (wpAny_Constant_int ⟨g7, _, k7, S8.toks (s8.toks + 1), ?_⟩)
            rw [e, List.filter_append, List.map_append, List.filter_cons_of_pos (by simp [hq]), List.filter_nil]
            exact (hJ6.mono k7).append (.cons (.int _ _) .nil)
        · intro D2 g6 s6 ys kk hg6 hJ6 S6
          try (show wpAny _ _ _ _ _ _; k_fold)
          have hwl : ws.length = b - a := by rw [← hws, List.length_take, List.length_drop]; omega
          rw [← hwl, List.take_length] at hJ6
          obtain ⟨g7, k7, e7, _, S7⟩ := S6.freeze fun hm => (List.nodup_cons.mp S6.nd).1 (.tail _ (by
            have := lawO_in (L := L) (o1 := o1) (o2 := o2) (o3 := o3) (o4 := o4'') (oT := tapeO cv k tk n) (oP := oP) (oQ := oQ) (tp := tp) _ hm
            show _ ∈ List.map _ _
            rw [List.map_append]; exact List.mem_append.mpr (.inl this)))
          have hfl : (((ws.filter fun w => !(w.take r.1.length == r.1)).map fun _ => PyData.int 1)).length ≤ 400 := by
            rw [List.length_map]; exact Nat.le_trans (List.length_filter_le ..) (by omega)
          refine arg0 (lenL S7 (.list (isList_of e7) (hJ6.mono k7)) (sl (by omega)) fun t11 s11 S11 => wpAny_Constant_int (tEqI ?_))
          have kk7 := k₉.trans (hg6.trans k7)
          have S11 := S11.toks (s11.toks + 1)
          by_cases hgd : goodB ws r.1 = true
          · rw [(good_count ws r.1).mpr hgd]
            exact itT (wpAny_allTrue_And_nil ⟨g7, kk7, by simp [hlt, hgd], S11⟩)
          · have hne : ¬ (((ws.filter fun w => !(w.take r.1.length == r.1)).map fun _ => PyData.int 1)).length = 0 := fun e => hgd ((good_count ws r.1).mp e)
            rw [show ((((((ws.filter fun w => !(w.take r.1.length == r.1)).map fun _ => PyData.int 1)).length : Nat) : Int) == 0) = false from by rw [beq_eq_false_iff_ne]; omega]
            exact itF ⟨g7, kk7, by simp [hgd], S11⟩
      · rw [decide_eq_false (by omega)]
        exact itF ⟨g', .refl _, by simp [hlt], S₈⟩
    · obtain ⟨g₇, k₇, rfl, S₇⟩ := ht
      by_cases hc : r.1.length > D.length ∧ goodB ws r.1 = true
      · rw [decide_eq_true hc]
        refine itT (xAsn (nmC (c := L + 4) (v := v1) ⟨o4'', S₇.get (.tail _ (.head _)), hd4'⟩ (stL S₇ fun s₈ S₈ => xNil (thenNext (xNil ⟨g₇, _, _, k₇, S₈, o4'', _, v1, rfl, hd4', Bk'.mono k₇ rfl rfl, ha', hb', hm', rfl, ?_⟩)))))
        rw [hDn, dueStep, if_pos hc]; exact rv1.mono k₇
      · rw [decide_eq_false hc]
        refine itF (xNil (thenNext (xNil ⟨g₇, _, _, k₇, S₇, o4'', _, dv', rfl, hd4', Bk'.mono k₇ rfl rfl, ha', hb', hm', hd', ?_⟩)))
        rw [hDn, dueStep, if_neg hc]; exact rd'.mono k₇
  · rintro g' s' m' ow' hg ⟨o4', v4', dv', rfl, hd4, Bk', ha', hb', hm', hd', rd'⟩ S'
    try (show wpAny _ _ _ _ _ _; k_fold)
    rw [rvp.length, List.length_map, List.take_length, ← hspan] at rd'
    exact thenNext (xNil (thenNext (h g' s' m' o4' v4' dv' (k₁.trans hg) S' Bk' hd4 hm' hd' rd')))
end
end Mine
namespace Mine
section
variable {w : World} {mg mb : Str → Option Value} {A : Around} {E : Value → Shared → Prop} {X : List Addr} {m : Str → Option Value} {ow : List (Addr × Obj)} {env : Env} {g₀ g : Heap} {s₀ s : Shared} {L : Addr} {lab : Sym} {cs : List T} {nv tv : Value} {tp : Addr} {cv : Value} {ms : List Int} {k : Int} {tk : Tok} {n : Nat} {oP oQ o1 o2 o3 o4 : Obj} {Q : Flow → Shared → Prop} {tl : List (Addr × Obj)}
theorem law_s19 (hr : Room A 99) {u dv : Value} {a b : Int} (S : St LX g₀ s₀ L g s m (lawO L o1 o2 o3 o4 tp (tapeO cv k tk n) oP oQ ++ tl))
    (hm : m "told" = some u) (hd : m "due" = some dv) (hu : Rd g u (spanD (.node lab cs) a b)) (hdv : Rd g dv (spanD (.node lab cs) a b))
    (h : wpAny (model prg w) A (execs ((lawR w).body.drop 20) (lawE w L)) Q E s) :
    wpAny (model prg w) A (execs ((lawR w).body.drop 19) (lawE w L)) Q E s := by
  refine xIf (wpAny_isTrue_Compare1 (nmL S (v := u) hm (nmL S (v := dv) hd ?_)))
  exact neSame hr S hu hdv (lay_spanD _ _ _) (by omega) (itF (xNil (thenNext h)))
theorem law_s20 (hr : Room A 99) {pv : Value} {v4 : Option Value} (S : St LX g₀ s₀ L g s m (lawO L o1 o2 o3 o4 tp (tapeO cv k tk n) oP oQ ++ tl)) (Bk : LawB w mg mb g m lab cs nv tp cv ms k oP oQ)
    (h2 : o2.data = .cell (some pv)) (hp : Rd g pv (.list ((places (.node lab cs) []).map prD))) (h4 : o4.data = .cell v4)
    (h : ∀ g' s' o4' z p t' k' tk' n', Sub g g' → St LX g₀ s₀ L g' s' m (lawO L o1 o2 o3 o4' tp (tapeO cv k' tk' n') oP oQ ++ tl) → LawB w mg mb g' m lab cs nv tp cv ms k' oP oQ → o4'.data = .cell (some z) → Rd g' z (posD p) → (T.node lab cs).at p = some t' → wpAny (model prg w) A (execs ((lawR w).body.drop 21) (lawE w L)) Q E s') :
    wpAny (model prg w) A (execs ((lawR w).body.drop 20) (lawE w L)) Q E s := by
  have G := Bk.G
  have hz : (places (.node lab cs) []).length ≤ 400 := by rw [places_len]; exact Bk.small.sz
  have hz1 : 1 ≤ (places (.node lab cs) []).length := by rw [places_len]; exact T.sz_pos _
  refine xAsn (Subscript_ (Subscript_ (nmC (c := L + 2) (v := pv) ⟨o2, S.get (.tail _ (.tail _ (.head _))), h2⟩ (fnG G S gTake kTake (arg1 (nmL S (v := .ref tp) Bk.mt (arg1 (biG G S gLen bLen (arg1 (nmC (c := L + 2) (v := pv) ⟨o2, S.get (.tail _ (.tail _ (.head _))), h2⟩ (arg0 ?_)))))))))))
  refine lenL S hp (by rw [List.length_map]; exact sl (by omega)) fun t1 s₁ S₁ => ?_
  rw [List.length_map]
  refine arg0 ⟨(G.keeps S₁.in_).K, ?_⟩
  refine takeK (pre := [(L + 4, o4), (L + 3, o3), (L + 2, o2), (L + 1, o1)]) (ow := [(226, oP), (162, oQ)] ++ tl) (hr.le (by omega)) G S₁ Bk.tape Bk.k0 (by omega) fun r v k' tk' n' g₂ s₂ k₂ hk' hr0 hr1 S₂ => ?_
  obtain ⟨x, hx⟩ : ∃ x, (places (.node lab cs) [])[r.toNat]? = some x := ⟨_, List.getElem?_eq_getElem (by omega)⟩
  refine itRdL S₂ (hp.mono k₂) hr0 (d := prD x) (by rw [List.getElem?_map, hx]; rfl) (by omega) fun y ry => wpAny_Constant_int ?_
  have S₂ := S₂.toks (s₂.toks + 1)
  rw [prD] at ry
  refine itRdT S₂ ry (by decide) (d := posD x.1) rfl (by decide) fun z rz => ?_
  refine stC (pre := []) (c := L + 4) (ow := [(L + 3, o3), (L + 2, o2), (L + 1, o1), (tp, tapeO cv k' tk' n'), (226, oP), (162, oQ)] ++ tl) S₂ h4 fun o4' s₃ hd4 S₃ => ?_
  exact h g₂ s₃ o4' z x.1 x.2 k' tk' n' k₂ S₃ { Bk.mono k₂ rfl rfl with k0 := hk' } hd4 rz (places_small (List.mem_of_getElem? hx)).1
theorem law_s21 (hr : Room A 99) (S : St LX g₀ s₀ L g s m (lawO L o1 o2 o3 o4 tp (tapeO cv k tk n) oP oQ ++ tl)) (Bk : LawB w mg mb g m lab cs nv tp cv ms k oP oQ)
    (h : ∀ g' s' u bs, Sub g g' → St LX g₀ s₀ L g' s' (upd m "same" u) (lawO L o1 o2 o3 o4 tp (tapeO cv k tk n) oP oQ ++ tl) → LawB w mg mb g' (upd m "same" u) lab cs nv tp cv ms k oP oQ → IsT g' u (.node lab cs) bs → wpAny (model prg w) A (execs ((lawR w).body.drop 22) (lawE w L)) Q E s') :
    wpAny (model prg w) A (execs ((lawR w).body.drop 21) (lawE w L)) Q E s := by
  have G := Bk.G
  refine xAsn (fnG G S gBuilt kBuilt (arg1 (nmL S (v := nv) Bk.mn (arg0 ⟨(G.keeps S.in_).K, ?_⟩))))
  refine wpAny_call (built_spec 6 _ Bk.small _ g _ _ _ (hr.le (by omega)) G S.in_ Bk.node fun u bs s₂ g₂ gr hT nd hn => ?_)
  refine stL (S.call gr) fun s₃ S₃ => ?_
  exact h g₂ s₃ u bs gr.sub S₃ (Bk.mono gr.sub rfl rfl) hT
end
end Mine
namespace Mine
section
variable {w : World} {mg mb : Str → Option Value} {A : Around} {E : Value → Shared → Prop} {X : List Addr} {m : Str → Option Value} {ow : List (Addr × Obj)} {env : Env} {g₀ g : Heap} {s₀ s : Shared} {L : Addr} {lab : Sym} {cs : List T} {nv tv : Value} {tp : Addr} {cv : Value} {ms : List Int} {k : Int} {tk : Tok} {n : Nat} {oP oQ o1 o2 o3 o4 : Obj} {Q : Flow → Shared → Prop} {tl : List (Addr × Obj)}
theorem small_Z (h : (T.node lab cs).Small 6) (hz : (T.node lab cs).sz ≤ 364) : (T.node symZ [.node lab cs]).Small 7 := by
  constructor
  · have := h.ht
    rw [T.ht, T.htL, T.htL]; omega
  · rw [T.sz, T.szL, T.szL]; omega
theorem law_s22 (hr : Room A 99) {sv : Value} {bs : List Addr} (S : St LX g₀ s₀ L g s m (lawO L o1 o2 o3 o4 tp (tapeO cv k tk n) oP oQ ++ tl)) (Bk : LawB w mg mb g m lab cs nv tp cv ms k oP oQ) (hTI : TreeIn g tl tv (.node lab cs)) (h1 : o1.data = .cell (some tv))
    (hs : m "same" = some sv) (hI : IsT g sv (.node lab cs) bs)
    (h : ∀ g' s' oQ', Sub g g' → St LX g₀ s₀ L g' s' m (lawO L o1 o2 o3 o4 tp (tapeO cv k tk n) oP oQ' ++ tl) → LawB w mg mb g' m lab cs nv tp cv ms k oP oQ' → wpAny (model prg w) A (execs ((lawR w).body.drop 23) (lawE w L)) Q E s') :
    wpAny (model prg w) A (execs ((lawR w).body.drop 22) (lawE w L)) Q E s := by
  obtain ⟨gT, as, k1, hT, nd, S1, bk⟩ := asked (tlX S) S hTI
  have GT := Bk.G.keeps k1
  have hI1 := hI.mono k1
  obtain ⟨x, dx, l, d1, d2, t1, t2, tk', n', rfl, hx, hdx⟩ := isT_node_of hT
  obtain ⟨y, dy, ly, e1, e2, u1, u2, tky, ny, rfl, hy, hdy⟩ := isT_node_of hI1
  refine xIf (wpAny_isTrue_BoolOp (wpAny_allTrue_Or_cons (wpAny_isTrue_Not (wpAny_isTrue_Compare1 (nmL S1 (v := .ref y) hs (nmC (c := L + 1) (v := .ref x) ⟨o1, S1.get (.tail _ (.tail _ (.tail _ (.head _)))), h1⟩ ?_))))))
  refine eqTree (v1 := .ref y) (v2 := .ref x) hr GT S1 hy hdy hx hdx ?_
  have S1p := S1.perm (permQ ..)
  have zQ := S1p.own _ (.head _)
  refine wpAny_call (eq_spec 6 lab cs Bk.small _ gT _ _ _ _ _ oQ _ (hr.le (by omega)) GT (Bk.Bm.mono k1) S1.in_ hI1 hT zQ.1 Bk.Q zQ.2.2.1 fun oQ' s₂ g₂ gr hQ' hQk' => ?_)
  have S₂ := S1p.callY (Y := [(162, oQ)]) (Y' := [(162, oQ')]) gr rfl fun p hp => by rw [List.mem_singleton.mp hp]; exact hQ'
  have S₂ : St LX g₀ s₀ L g₂ s₂ m (lawO L o1 o2 o3 o4 tp (tapeO cv k tk n) oP oQ') := S₂.perm (permQ ..).symm
  have G₂ := GT.keeps gr.sub
  refine wpAny_truthy_bool (itF (wpAny_allTrue_Or_cons (wpAny_isTrue_Compare1 (nmC (c := L + 1) (v := .ref x) ⟨o1, S₂.get (.tail _ (.tail _ (.tail _ (.head _)))), h1⟩ ?_))))
  refine fnG G₂ S₂ gBuilt kBuilt (arg1 (eLst (arg1 (wpAny_Constant_str (arg1 (eLst (arg1 (nmL (S₂.toks (s₂.toks + 1)) (v := nv) Bk.mn (arg0 ?_)))))))))
  have S₂ := S₂.toks (s₂.toks + 1)
  have rn := Bk.node.mono (k1.trans gr.sub)
  refine mkLstF S₂ (.cons rn .nil) (sl (by simp)) fun v3 g₃ s₃ k₃ r₃ S₃ => arg0 ?_
  refine mkLstF S₃ (.cons (.str (symZ).s _) (.cons r₃ .nil)) (sl (by simp)) fun v4 g₄ s₄ k₄ r₄ S₄ => arg0 ⟨((G₂.keeps k₃).keeps (k₄.trans S₄.in_)).K, ?_⟩
  have kk₄ := gr.sub.trans (k₃.trans k₄)
  have G₄ := GT.keeps kk₄
  have r₄' : Rd g₄ v4 (T.node symZ [.node lab cs]).pd := by
    rw [T.pd, T.pdL, T.pdL]; exact r₄
  refine wpAny_call (built_spec 7 _ (small_Z Bk.small Bk.size) _ g₄ _ _ _ (hr.le (by omega)) G₄ S₄.in_ r₄' fun u cs2 s₅ g₅ gr₅ hU nd5 hn5 => ?_)
  have S₅ := S₄.call gr₅
  have kk₅ := kk₄.trans gr₅.sub
  have G₅ := GT.keeps kk₅
  obtain ⟨z, dz, lz, f1, f2, w1, w2, tkz, nz, rfl, hz, hdz⟩ := isT_node_of hU
  refine eqTree (v1 := .ref x) (v2 := .ref z) hr G₅ S₅ (kk₅ _ _ hx) (kk₅ _ _ hdx) hz hdz ?_
  refine wpAny_call (eq_diff Bk.notZ.ne (hr.le (by omega)) G₅ S₅.in_ (hT.mono kk₅) hU fun s₆ g₆ gr₆ => ?_)
  have S₆ := S₅.call gr₆
  refine wpAny_truthy_bool (itF (wpAny_allTrue_Or_nil (itF (xNil (thenNext ?_)))))
  obtain ⟨gF, q1, q2, q3, S₇⟩ := bk _ _ _ _ (kk₅.trans gr₆.sub) S₆
  exact h gF s₆ oQ' q1 S₇ { Bk.mono q1 rfl rfl with Q := hQk' }
end
end Mine
namespace Mine
noncomputable def symN : Sym := ⟨"N", by kernel_rfl⟩
noncomputable def symC : Sym := ⟨"c", by kernel_rfl⟩
noncomputable def newT : T := .node symN [.leaf symC]
theorem newT_pd : newT.pd = .list [.str symN.s, .list [.str symC.s]] := by simp [newT, T.pd, T.pdL]
theorem newT_ht : newT.ht = 2 := by simp [newT, T.ht, T.htL]
theorem newT_sz : newT.sz = 2 := by simp [newT, T.sz, T.szL]
theorem newT_small : newT.Small 2 := ⟨by rw [newT_ht]; omega, by rw [newT_sz]; omega⟩
theorem szL_set : ∀ (cs : List T) (k : Nat) (c c' : T), cs[k]? = some c → T.szL (cs.set k c') + c.sz = T.szL cs + c'.sz
  | [], k, c, c', h => by simp at h
  | t :: ts, 0, c, c', h => by
    simp at h; subst h
    rw [List.set_cons_zero, T.szL, T.szL]; omega
  | t :: ts, k + 1, c, c', h => by
    have := szL_set ts k c c' (by simpa using h)
    rw [List.set_cons_succ, T.szL, T.szL]; omega
theorem htL_set : ∀ (cs : List T) (k : Nat) (c' : T), T.htL (cs.set k c') ≤ max (T.htL cs) c'.ht
  | [], k, c' => Nat.zero_le _
  | t :: ts, 0, c' => Nat.max_le.mpr ⟨Nat.le_max_right _ _, Nat.le_trans (Nat.le_max_right _ _) (Nat.le_max_left _ _)⟩
  | t :: ts, k + 1, c' => Nat.max_le.mpr ⟨Nat.le_trans (Nat.le_max_left _ _) (Nat.le_max_left _ _),
      Nat.le_trans (htL_set ts k c') (Nat.max_le.mpr ⟨Nat.le_trans (Nat.le_max_right _ _) (Nat.le_max_left _ _), Nat.le_max_right _ _⟩)⟩
theorem putT_size {new : T} : ∀ (p : Plc) (t u : T), t.at p = some u → (putT new p t).ht ≤ max t.ht (p.length + new.ht) ∧ (putT new p t).sz ≤ t.sz + new.sz
  | [], t, u, h => by rw [putT, List.length_nil, Nat.zero_add]; exact ⟨Nat.le_max_right _ _, Nat.le_add_left _ _⟩
  | k :: p, .leaf y, u, h => by rw [T.at] at h; cases h
  | k :: p, .node l cs, u, h => by
    obtain ⟨c, hc, hp⟩ := at_cons h
    have ih := putT_size (new := new) p c u hp
    have h1 := szL_set cs k c (putT new p c) hc
    have h2 : T.htL (cs.set k (putT new p c)) ≤ max (T.htL cs) (p.length + new.ht) := Nat.le_trans (htL_set cs k (putT new p c))
      (Nat.max_le.mpr ⟨Nat.le_max_left _ _, Nat.le_trans ih.1 (Nat.max_le.mpr ⟨Nat.le_trans (htL_le hc) (Nat.le_max_left _ _), Nat.le_max_right _ _⟩)⟩)
    have ih2 := ih.2
    rw [putT_cons hc, T.ht, T.ht, T.sz, T.sz, List.length_cons]
    refine ⟨?_, by clear h2 ih hp hc h; omega⟩
    rw [Nat.add_comm 1, Nat.add_comm 1, Nat.add_right_comm, Nat.add_max_add_right]
    exact Nat.succ_le_succ h2
theorem Hole.bounds {g : Heap} {l : Addr} {vs : List Value} : ∀ {v : Value} {t : T} {p : Plc}, Hole g l vs v t p → t.sz ≤ 400 → vs.length ≤ 400 ∧ lastP p < vs.length := fun H => by
  induction H with
  | here a b c d =>
    intro hz
    have := c.length
    have h2 := szL_len (by assumption)
    rw [T.sz] at hz
    rw [lastP]
    omega
  | there a b c d e f g' H ih =>
    intro hz
    have := szL_le f
    rw [T.sz] at hz
    rw [lastP]
    exact ih (by omega)
section
variable {w : World} {mg mb : Str → Option Value} {A : Around} {E : Value → Shared → Prop} {X : List Addr} {m : Str → Option Value} {ow : List (Addr × Obj)} {env : Env} {g₀ g : Heap} {s₀ s : Shared} {L : Addr} {lab : Sym} {cs : List T} {nv tv : Value} {tp : Addr} {cv : Value} {ms : List Int} {k : Int} {tk : Tok} {n : Nat} {oP oQ o1 o2 o3 o4 : Obj} {Q : Flow → Shared → Prop} {tl : List (Addr × Obj)}
theorem eNew {p1 p2 p3 p4 : PySem.Pos} {j1 j2 : Nat} {Q : Value → Shared → Prop} (S : St X g₀ s₀ L g s m ow) (h : ∀ v g' s', Sub g g' → Rd g' v newT.pd → St X g₀ s₀ L g' s' m ow → Q v s')
    (he : starEach [.Constant (.str "N") j1 p1, .List [.Constant (.str "c") j2 p2] p3] env = (false, eval (.Constant (.str "N") j1 p1) env) :: starEach [.List [.Constant (.str "c") j2 p2] p3] env := by rfl)
    (he2 : starEach [.List [.Constant (.str "c") j2 p2] p3] env = (false, eval (.List [.Constant (.str "c") j2 p2] p3) env) :: starEach [] env := by rfl)
    (he3 : starEach [.Constant (.str "c") j2 p2] env = (false, eval (.Constant (.str "c") j2 p2) env) :: starEach [] env := by rfl) :
    wpAny M A (eval (.List [.Constant (.str "N") j1 p1, .List [.Constant (.str "c") j2 p2] p3] p4) env) Q E s := by
  refine eLst (arg1 (wpAny_Constant_str (arg1 (eLst (arg1 (wpAny_Constant_str (arg0 ?_)) he3)) he2)) he)
  have S := (S.toks (s.toks + 1)).toks (s.toks + 1 + 1)
  refine mkLstF S (.cons (.str symC.s _) .nil) (sl (by simp)) fun v1 g₁ s₁ k₁ r₁ S₁ => arg0 ?_
  refine mkLstF S₁ (.cons (.str symN.s _) (.cons r₁ .nil)) (sl (by simp)) fun v2 g₂ s₂ k₂ r₂ S₂ => ?_
  exact h v2 g₂ s₂ (k₁.trans k₂) (by rw [newT_pd]; exact r₂) S₂
theorem law_s24 (hr : Room A 99) {sv z : Value} {bs as : List Addr} {p : Plc} {t' : T} (hp : p ≠ []) (hat : (T.node lab cs).at p = some t') (S : St LX g₀ s₀ L g s m (lawO L o1 o2 o3 o4 tp (tapeO cv k tk n) oP oQ)) (Bk : LawB w mg mb g m lab cs nv tp cv ms k oP oQ) (hT : IsT g tv (putT newT p (.node lab cs)) as) (h1 : o1.data = .cell (some tv))
    (h4 : o4.data = .cell (some z)) (hz : Rd g z (posD p)) (hs : m "same" = some sv) (hI : IsT g sv (.node lab cs) bs)
    (h : ∀ g' s' m' o1 o2 o3 o4 oT oP oQ, St LX g₀ s₀ L g' s' m' (lawO L o1 o2 o3 o4 tp oT oP oQ) → PlOk oP → PlOk oQ → Q (.ret (.bool true)) s') :
    wpAny (model prg w) A (execs ((lawR w).body.drop 24) (lawE w L)) Q E s := by
  have G := Bk.G
  have hpl : p.length + 1 ≤ 6 := by
    have := (at_small _ _ _ hat).1
    have := Bk.small.ht
    have h3 : 1 ≤ t'.ht := by cases t' <;> rw [T.ht] <;> omega
    omega
  have hps := putT_size (new := newT) p _ _ hat
  rw [newT_ht, newT_sz] at hps
  have hsm : (putT newT p (.node lab cs)).Small 7 := ⟨by have := Bk.small.ht; omega, by have := Bk.size; omega⟩
  refine xRet (BoolOp_and (wpAny_Compare1 (nmC (c := L + 4) (v := z) ⟨o4, S.get (.head _), h4⟩ (eTup (arg0 (mkTup S .nil (sl (by simp)) fun e0 g₁ s₁ k₁ r₁ S₁ => ?_))))))
  refine neR hr (by omega) S₁ (hz.mono k₁) (show Rd g₁ e0 (posD []) from r₁) (posD_shaped _) (posD_shaped _) (wpAny_truthy_bool ?_)
  rw [eqv_pos, decide_eq_false hp]
  have G₁ := G.keeps k₁
  refine itT (BoolOp_and (wpAny_Compare1 (fnG G₁ S₁ gPlain kPlain (arg1 (nmC (c := L + 1) (v := tv) ⟨o1, S₁.get (.tail _ (.tail _ (.tail _ (.head _)))), h1⟩ (arg0 ⟨(G₁.keeps S₁.in_).K, ?_⟩))))))
  refine wpAny_call (plain_spec 7 _ hsm _ g₁ _ _ _ _ (hr.le (by omega)) G₁ S₁.in_ (hT.mono k₁) fun v₂ s₂ g₂ gr r₂ => ?_)
  have S₂ := S₁.call gr
  have kk₂ := k₁.trans gr.sub
  have G₂ := G.keeps kk₂
  refine fnG G₂ S₂ gPut kPut (arg1 (nmL S₂ (v := nv) Bk.mn (arg1 (nmC (c := L + 4) (v := z) ⟨o4, S₂.get (.head _), h4⟩ (arg1 (eNew S₂ fun v₃ g₃ s₃ k₃ r₃ S₃ => arg0 ⟨((G₂.keeps k₃).keeps S₃.in_).K, ?_⟩))))))
  have kk₃ := kk₂.trans k₃
  refine wpAny_call (put_spec newT (by rw [newT_ht]; omega) p 6 _ Bk.small _ _ g₃ _ _ _ _ _ (hr.le (by omega)) (G.keeps kk₃) S₃.in_ (Bk.node.mono kk₃) (hz.mono kk₃) r₃ (by omega) hat fun v₄ s₄ g₄ gr₄ r₄ => ?_)
  have S₄ := S₃.call gr₄
  have lay7 : Lay 14 (putT newT p (.node lab cs)).pd := (lay_pd _).le (by have := hsm.ht; omega)
  refine eqR hr (by omega) S₄ (r₂.mono (k₃.trans gr₄.sub)) r₄ (lay7.shaped (by omega)) (lay7.shaped (by omega)) (wpAny_truthy_bool ?_)
  rw [PySem.SeqAt.eqv_refl _ lay7.1]
  have kk₄ := kk₃.trans gr₄.sub
  have G₄ := G.keeps kk₄
  refine itT (BoolOp_one (wpAny_Compare1 (fnG G₄ S₄ gPlain kPlain (arg1 (nmL S₄ (v := sv) hs (arg0 ⟨(G₄.keeps S₄.in_).K, ?_⟩))))))
  refine wpAny_call (plain_spec 6 _ Bk.small _ g₄ _ _ _ _ (hr.le (by omega)) G₄ S₄.in_ (hI.mono kk₄) fun v₅ s₅ g₅ gr₅ r₅ => ?_)
  have S₅ := S₄.call gr₅
  have lay6 : Lay 12 (T.node lab cs).pd := (lay_pd _).le (by have := Bk.small.ht; omega)
  refine nmL S₅ (v := nv) Bk.mn (eqR hr (by omega) S₅ r₅ (Bk.node.mono (kk₄.trans gr₅.sub)) (lay6.shaped (by omega)) (lay6.shaped (by omega)) ?_)
  rw [PySem.SeqAt.eqv_refl _ lay6.1]
  exact h _ _ _ _ _ _ _ _ _ _ S₅ Bk.P Bk.Q
end
end Mine
namespace Mine
section
variable {w : World} {mg mb : Str → Option Value} {A : Around} {E : Value → Shared → Prop} {X : List Addr} {m : Str → Option Value} {ow : List (Addr × Obj)} {env : Env} {g₀ g : Heap} {s₀ s : Shared} {L : Addr} {lab : Sym} {cs : List T} {nv tv : Value} {tp : Addr} {cv : Value} {ms : List Int} {k : Int} {tk : Tok} {n : Nat} {oP oQ o1 o2 o3 o4 : Obj} {Q : Flow → Shared → Prop} {tl : List (Addr × Obj)}
theorem law_s23 (hr : Room A 99) (hA : A.frames = some [lawE w L]) {sv z : Value} {bs : List Addr} {p : Plc} {t' : T} (hat : (T.node lab cs).at p = some t') (S : St LX g₀ s₀ L g s m (lawO L o1 o2 o3 o4 tp (tapeO cv k tk n) oP oQ ++ tl)) (Bk : LawB w mg mb g m lab cs nv tp cv ms k oP oQ) (hTI : TreeIn g tl tv (.node lab cs)) (h1 : o1.data = .cell (some tv))
    (h4 : o4.data = .cell (some z)) (hz : Rd g z (posD p)) (hs : m "same" = some sv) (hI : IsT g sv (.node lab cs) bs)
    (h : ∀ g' s' m' o1 o2 o3 o4 oT oP oQ, St LX g₀ s₀ L g' s' m' (lawO L o1 o2 o3 o4 tp oT oP oQ) → PlOk oP → PlOk oQ → Q (.ret (.bool true)) s') :
    wpAny (model prg w) A (execs ((lawR w).body.drop 23) (lawE w L)) Q E s := by
  have hX := tlX S
  have offg : ∀ q ∈ tl, g.get? q.1 = none ∧ s₀.heap.get? q.1 = none := fun q hq => by
    have z := S.own q (List.mem_append.mpr (.inr hq))
    exact ⟨z.2.2.1, z.2.2.2.resolve_left (hX q hq)⟩
  obtain ⟨gT, k1, h2, h3, S1⟩ := (S.perm (List.perm_append_comm (l₁ := tl) (l₂ := lawO L o1 o2 o3 o4 tp (tapeO cv k tk n) oP oQ))).freezes hX
  obtain ⟨as, hT, nd, hk⟩ := hTI.back k1 h2
  have GT := Bk.G.keeps k1
  obtain ⟨x, dx, lx, d1, d2, t1, t2, tk', n', rfl, hx, hdx⟩ := isT_node_of hT
  refine wpAny_execs_cons (wpAny_Try_except (xSub ?_))
  refine fnG GT S1 gBuilt kBuilt (arg1 (eNew S1 fun v₂ g₂ s₂ k₂ r₂ S₂ => arg0 ⟨((GT.keeps k₂).keeps S₂.in_).K, ?_⟩))
  refine wpAny_call (built_spec 2 _ newT_small _ g₂ _ _ _ (hr.le (by omega)) (GT.keeps k₂) S₂.in_ r₂ fun u us s₃ g₃ gr hU ndU hnU => ?_)
  have S₃ := S₂.call gr
  have kk₃ := k₂.trans gr.sub
  have G₃ := GT.keeps kk₃
  refine nmC (c := L + 1) (v := .ref x) ⟨o1, S₃.get (.tail _ (.tail _ (.tail _ (.head _)))), h1⟩ (nmC (c := L + 4) (v := z) ⟨o4, S₃.get (.head _), h4⟩ ?_)
  have hz₃ := hz.mono (k1.trans kk₃)
  cases p with
  | nil =>
    refine setTree G₃ S₃ (instT S₃.in_ (kk₃ _ _ hx) (kk₃ _ _ hdx)) ?_
    refine wpAny_call (set_nil (fs := [lawE w L]) (hr.le (by omega)) hA (S₃.hf rfl rfl) G₃ S₃.in_ hz₃ fun ev s₄ T => ?_)
    refine caughtX S₃ T hA rfl (fun b hb => lawO_in b hb) fun e s₅ F => ?_
    refine catchesX G₃ F gIdx bIdx PySem.F.isExc_IndexError PySem.F.notTuple_IndexError PySem.F.self_IndexError fun s₆ S₆ => ?_
    refine xRet (wpAny_Compare1 (nmC (c := L + 4) (v := z) ⟨o4, S₆.get (.head _), h4⟩ (eTup (arg0 (mkTup S₆ .nil (sl (by simp)) fun e0 g₇ s₇ k₇ r₇ S₇ => ?_)))))
    obtain ⟨a1, ra⟩ := hz₃.mono k₇
    obtain ⟨a2, rb⟩ : Rd g₇ e0 (posD []) := r₇
    refine eq_dataH (Reads.keeps S₇.in_ ra) (Reads.keeps S₇.in_ rb) (posD_shaped _) (posD_shaped _) (by have := hr.2.2; simp only [Around.mark]; omega) ?_
    rw [eqv_pos, decide_eq_true rfl]
    exact h _ _ _ _ _ _ _ _ _ _ S₇ Bk.P Bk.Q
  | cons k0 p0 =>
    obtain ⟨l, vs, nl, hl, hlas, H⟩ := hole_of hT nd hat (by simp)
    have hlt : l ∈ ks tl := by rw [hk]; exact hlas
    obtain ⟨q, hq, hql⟩ := List.mem_map.mp hlt
    have hlg := (offg q hq).1
    have hl0 := (offg q hq).2
    have hlX := hX q hq
    rw [hql] at hlg hl0 hlX
    have hl₃ := kk₃ _ _ hl
    have Ss : St LX g₀ s₀ L (hideAll g₃ [l]) s₃ m (lawO L o1 o2 o3 o4 tp (tapeO cv k tk n) oP oQ ++ [(l, lstO vs nl)]) :=
      St.unfreeze S₃ ((S.grow.sub.trans (k1.trans kk₃)).toHide fun b hb => by
        rw [List.mem_singleton.mp hb]
        exact none_of fun o e => by have := S.grow.sub _ _ e; rw [hlg] at this; cases this) (Sub.hide _) (fun q hq => by
        rw [List.mem_singleton.mp hq]; exact ⟨hl₃, hideAll_none _ (.head _), hl0⟩) (by simp)
    have kh : Sub g (hideAll g₃ [l]) := (k1.trans kk₃).toHide fun b hb => by rw [List.mem_singleton.mp hb]; exact hlg
    have Gh := Bk.G.keeps kh
    have Hh : Hole (hideAll g₃ [l]) l vs (.ref x) (.node lab cs) (k0 :: p0) := H.mono fun b o e => hide_get (kk₃ _ _ (of_hideAll _ e)) fun q => by rw [q, hideAll_none _ (.head _)] at e; cases e
    have hlu : l ∉ us := fun hm => by
      have := hnU _ hm
      rw [S₂.in_ _ _ (k₂ _ _ hl)] at this; cases this
    have hUh := hU.hide hl₃ hlu
    obtain ⟨b1, b2⟩ := Hh.bounds Bk.small.sz
    have Sp := Ss.perm (List.perm_append_comm (l₁ := [(l, lstO vs nl)]) (l₂ := lawO L o1 o2 o3 o4 tp (tapeO cv k tk n) oP oQ))
    have hxh : (hideAll g₃ [l]).get? x = some (instObj 269 dx) := hide_get (kk₃ _ _ hx) fun q => by rw [q, hl] at hx; cases hx
    have hdh : (hideAll g₃ [l]).get? dx = some (dictOf (treeD d1 d2 t1 t2 lx (.str lab.s tk')) n') := hide_get (kk₃ _ _ hdx) fun q => by
      rw [q, hl] at hdx; have := congrArg Obj.data (Option.some.inj hdx); cases this
    refine setTree Gh Sp (instT Sp.in_ hxh hdh) ?_
    have zl := Sp.own _ (.head _)
    have hpl : (k0 :: p0).length ≤ 400 := by
      have := (at_small _ _ _ hat).1
      have := Bk.small.ht
      omega
    refine wpAny_call (set_tup _ _ _ Hh 6 Bk.small _ (hideAll g₃ [l]) _ z nl _ b1 b2 (hr.le (by omega)) Gh (.refl _) Sp.in_ zl.1 zl.2.2.1 (hz.mono kh) hpl fun kk' s₅ g₅ gr₅ hl₅ => ?_)
    have S₅ := Sp.callY (Y := [(l, lstO vs nl)]) (Y' := [(l, lstO (vs.set (lastP (k0 :: p0)) u) kk')]) gr₅ rfl fun q hq => by rw [List.mem_singleton.mp hq]; exact hl₅
    obtain ⟨g₆, k₆, e₆, _, S₆⟩ := St.freeze (a := l) S₅ hlX
    have kk₆ := gr₅.sub.trans k₆
    obtain ⟨as2, hT2⟩ := Hh.fill kk₆ (hUh.mono kk₆) e₆
    have kk := kh.trans kk₆
    refine xNil (xNil (thenNext ?_))
    exact law_s24 hr (by simp) hat S₆ (Bk.mono kk rfl rfl) hT2 h1 h4 (hz.mono kk) hs (hI.mono kk) h
end
end Mine
namespace Mine
section
variable {w : World} {mg mb : Str → Option Value} {A : Around} {g : Heap} {s : Shared}
set_option maxHeartbeats 4000000 in
theorem law_call {sc : Value} {ns : List Int} {oP oQ : Obj} {R : Result → Shared → Prop} (hr : Room A 100) (hA : A.frames = some []) (G : Amb w mg mb g) (Bm : BM mg g) (hs : Sub g s.heap) (hsc : Rd g sc (.list (ns.map PyData.int))) (hz : ns.length ≤ 400)
    (hP : s.heap.get? 226 = some oP) (hPk : PlOk oP) (hPg : g.get? 226 = none) (hQ : s.heap.get? 162 = some oQ) (hQk : PlOk oQ) (hQg : g.get? 162 = none)
    (h : ∀ L g' s' m' o1 o2 o3 o4 tp oT oP oQ, St LX g s L g' s' m' (lawO L o1 o2 o3 o4 tp oT oP oQ) → PlOk oP → PlOk oQ → R (.ok (.ret (.bool true))) s') : codeAny (model prg w) A (.call (.ref 352) ⟨[sc], []⟩) R s := by
  refine law_start hr G Bm hs hsc hz hP hPk hPg hQ hQk hQg fun L s₁ g₁ m lab cs nv tp cv ms k tk n o1 o2 o3 o4 S B h1 h2 h3 h4 => ?_
  have hr : Room (A.deeper (lawE w L)) 99 := Room.deeper (n := 99) hr
  have hA : (A.deeper (lawE w L)).frames = some [lawE w L] := Around.frames_deeper hA
  refine law_s2 hr S B h1 fun g₂ s₂ tv tl o1 S B hTI h1 => ?_
  refine law_s3 hr S B h2 fun g₃ s₃ pv o2 k₃ S B hp h2 => ?_
  have hTI := hTI.mono k₃
  refine law_s4 hr S B h2 hp h3 fun g₄ s₄ wv o3 k₄ S B hw h3 => ?_
  have hTI := hTI.mono k₄
  have hp := hp.mono k₄
  refine law_s5 hr S B h2 hp fun g₅ s₅ iv k₅ S B hi => ?_
  have hTI := hTI.mono k₅
  have hp := hp.mono k₅
  have hw := hw.mono k₅
  refine law_s6 hr S B hTI h1 h2 hp fun g₆ s₆ oP k₆ S B => ?_
  refine law_s7 hr S B (hTI.mono k₆) h1 h3 (hw.mono k₆) fun g₇ s₇ oP k₇ S B => ?_
  have k67 := k₆.trans k₇
  refine law_s8 hr S B (hTI.mono k67) h1 h3 (hw.mono k67) fun g₈ s₈ k₈ S B => ?_
  have k68 := k67.trans k₈
  have hTI := hTI.mono k68
  have hp := hp.mono k68
  have hw := hw.mono k68
  have hi := hi.mono k68
  refine law_s9 hr S B hTI h1 h2 hp rfl hi fun g₉ s₉ k₉ S B => ?_
  have hTI := hTI.mono k₉
  have hp := hp.mono k₉
  have hw := hw.mono k₉
  have hi := hi.mono k₉
  refine law_s10 hr S B h2 hp h3 hw fun g₁₀ s₁₀ gv k₁₀ S B hgv => ?_
  have hTI := hTI.mono k₁₀
  have hp := hp.mono k₁₀
  have hw := hw.mono k₁₀
  have hi := hi.mono k₁₀
  refine law_s11 hr S B hTI h1 rfl hgv fun g₁₁ s₁₁ k₁₁ S B => ?_
  have hTI := hTI.mono k₁₁
  have hp := hp.mono k₁₁
  have hw := hw.mono k₁₁
  have hi := hi.mono k₁₁
  refine law_s12 hr S B hTI h1 fun g₁₂ s₁₂ mv k₁₂ S B hmv => ?_
  have hTI := hTI.mono k₁₂
  have hp := hp.mono k₁₂
  have hw := hw.mono k₁₂
  have hi := hi.mono k₁₂
  refine law_s13 hr S B rfl hmv rfl hi fun g₁₃ s₁₃ k₁₃ S B => ?_
  have hTI := hTI.mono k₁₃
  have hp := hp.mono k₁₃
  have hw := hw.mono k₁₃
  refine law_s14 hr S B h3 hw fun g₁₄ s₁₄ a b ua ub k' tk' n' k₁₄ S B => ?_
  have hTI := hTI.mono k₁₄
  have hp := hp.mono k₁₄
  have hw := hw.mono k₁₄
  refine law_s15 hr hA S B hTI h1 h3 hw rfl rfl fun g₁₅ s₁₅ m' k₁₅ S B ha hb => ?_
  have hTI := hTI.mono k₁₅
  have hp := hp.mono k₁₅
  have hw := hw.mono k₁₅
  refine law_s16 hr hA S B hTI h1 ha hb fun g₁₆ s₁₆ u k₁₆ S B hu => ?_
  have hTI := hTI.mono k₁₆
  have hp := hp.mono k₁₆
  have hw := hw.mono k₁₆
  refine law_s17 hr S B ha hb fun s₁₇ dv S B hdv => ?_
  refine law_s18 hr S B h2 hp h3 hw h4 ha hb rfl rfl hdv fun g₁₈ s₁₈ m'' o4 v4 dv' k₁₈ S B h4 hm hd hdv' => ?_
  have hTI := hTI.mono k₁₈
  have hp := hp.mono k₁₈
  refine law_s19 hr S hm hd (hu.mono k₁₈) hdv' ?_
  refine law_s20 hr S B h2 hp h4 fun g₂₀ s₂₀ o4 z p t' k'' tk'' n'' k₂₀ S B h4 hz hat => ?_
  have hTI := hTI.mono k₂₀
  refine law_s21 hr S B fun g₂₁ s₂₁ sv bs k₂₁ S B hI => ?_
  have hTI := hTI.mono k₂₁
  have hz := hz.mono k₂₁
  refine law_s22 hr S B hTI h1 rfl hI fun g₂₂ s₂₂ oQ k₂₂ S B => ?_
  refine law_s23 hr hA hat S B (hTI.mono k₂₂) h1 h4 (hz.mono k₂₂) rfl (hI.mono k₂₂) fun g' s' m' o1 o2 o3 o4 oT oP oQ S hP hQ => ?_
  exact h L g' s' m' o1 o2 o3 o4 _ oT oP oQ S hP hQ
end
end Mine
namespace Mine
theorem ints_all {g h : Heap} {vs : List Value} {ns : List Int} (r : RdA g vs (ns.map PyData.int)) : RdA h vs (ns.map PyData.int) :=
  RdA.of_get r.length fun j v d h1 h2 => by
    obtain ⟨v', e, rv⟩ := r.get h2
    rw [h1] at e; cases e
    rw [List.getElem?_map] at h2
    obtain ⟨i, _, rfl⟩ := Option.map_eq_some_iff.mp h2
    obtain ⟨u, rfl⟩ := rv.asInt
    exact .int _ _
theorem gLaw {w : World} : nsIn (Mine.hd.heap_1 w.params) mainGlobals "law" = some (some (.ref 352)) := by k_is
theorem noTab (P : Params) : (Mine.hd.heap_1 P).all (fun p => p.1 != 162 && p.1 != 226) = true := by kernel_rfl
theorem plOk_tab : PlOk tabO := ⟨#[], rfl, trivial⟩
section
variable {w : World} {mg mb : Str → Option Value} {h : Heap}
theorem k2_parts (Y : (K2 Mine.hd.heap_1 w.params).In h) : (Mine.hd.heap_1 w.params).In (hideAll h [162, 226]) ∧ (Mine.hd.heap_1 w.params).In h ∧ h.get? 162 = some tabO ∧ h.get? 226 = some tabO := by
  have key : ∀ a o, (Mine.hd.heap_1 w.params).lookup a = some o → a ≠ 162 ∧ a ≠ 226 ∧ h.get? a = some o := fun a o e => by
    have := List.all_eq_true.mp (noTab w.params) _ (mem_lookup e)
    obtain ⟨h1, h2⟩ := Bool.and_eq_true_iff.mp this
    have h1 : a ≠ 162 := by simpa using h1
    have h2 : a ≠ 226 := by simpa using h2
    refine ⟨h1, h2, Y a o ?_⟩
    unfold K2
    rw [List.lookup_cons, beq_eq_false_iff_ne.mpr h1, List.lookup_cons, beq_eq_false_iff_ne.mpr h2]
    exact e
  refine ⟨fun a o e => ?_, fun a o e => (key a o e).2.2, Y 162 tabO rfl, Y 226 tabO rfl⟩
  obtain ⟨h1, h2, h3⟩ := key a o e
  exact hideAll_get _ h3 fun hm => by
    rcases List.mem_cons.mp hm with q | hm
    · exact h1 q
    · exact h2 (List.mem_singleton.mp hm)
theorem off_tab (h1 : h.get? 162 = some tabO) (h2 : h.get? 226 = some tabO) {b : Addr} {o : Obj} (e : h.get? b = some o) (hn : o ≠ tabO) : (hideAll h [162, 226]).get? b = some o :=
  hideAll_get _ e fun hm => by
    rcases List.mem_cons.mp hm with q | hm
    · rw [q, h1] at e; exact hn (Option.some.inj e).symm
    · rw [List.mem_singleton.mp hm, h2] at e; exact hn (Option.some.inj e).symm
theorem off_ns (h1 : h.get? 162 = some tabO) (h2 : h.get? 226 = some tabO) {a : Addr} {m : Str → Option Value} (x : h.Ns a m) : (hideAll h [162, 226]).Ns a m :=
  let ⟨o, es, ep, e, hd, r⟩ := x; ⟨o, es, ep, off_tab h1 h2 e (fun q => by rw [q] at hd; cases hd), hd, r⟩
theorem room_top : Room callerA 100 := ⟨rfl, by decide +kernel, by decide +kernel⟩
end
set_option maxHeartbeats 8000000 in
theorem zz : PySem.Challenge.rw_je0022_01.Holds := by
  refine Mine.hd ?_
  intro w s₀ s₁ mg mb G Y fa o pm cd doc dV kV ho hd hcd hD hmg hg args vals as hpre hlay hrd hwl hlo
  refine Ground.open G ?_
  intro T B D TE TW
  obtain ⟨KF, KX, e162, e226⟩ := k2_parts (w := w) (h := s₁.heap) Y
  clear ho hd hcd hD Y
  wrow_args hpre hlay hrd hwl hlo
  rename_i ns _ _ _ _ _ as0 _ l vs _ _ _ _ r0 _ _ hlen _
  have hfa : fa = 352 := by
    have := mg_of KX T.g gLaw
    rw [show mg "law" = some (.ref fa) from hmg] at this
    cases this; rfl
  subst hfa
  have hsc : Rd (hideAll s₁.heap [162, 226]) (.ref l) (.list (ns.map PyData.int)) := by
    obtain ⟨a, us, e, ⟨ob, ho, hc, r⟩, rv⟩ := Rd.asList ⟨as0, r0⟩
    cases e
    exact .list ⟨ob, off_tab e162 e226 ho (fun q => by rw [q] at hc; cases hc), hc, r⟩ (ints_all rv)
  have GA : Amb w mg mb (hideAll s₁.heap [162, 226]) := ⟨KF, off_ns e162 e226 T.g, off_ns e162 e226 T.b, (let ⟨mc, a, r⟩ := T.nolimit; ⟨mc, off_ns e162 e226 a, r⟩), T.builtins, T.free⟩
  have Bm : BM mg (hideAll s₁.heap [162, 226]) := by
    obtain ⟨bm, ob, a1, a2, a3, a4, a5, a6⟩ := T.bmain
    exact ⟨bm, ob, GA.T.g, a1, a2, off_tab e162 e226 a3 (fun q => by rw [q] at a4; cases a4), a4, a5, a6⟩
  refine enter_call ?_
  refine law_call room_top rfl GA Bm (Sub.hide _) hsc (by omega) e226 plOk_tab (hideAll_none _ (.tail _ (.head _))) e162 plOk_tab (hideAll_none _ (.head _)) fun L g' s' m' o1 o2 o3 o4 tp oT oP oQ S hP hQ => ?_
  have t226 : isCodeTable s₁.heap 226 := by
    obtain ⟨_, _, y⟩ := isCode_of KX (tp_code w) (by decide) e226 plOk_tab
    exact y.isCodeTable
  have t162 : isCodeTable s₁.heap 162 := by
    obtain ⟨_, _, y⟩ := isCode_of KX (eq_code w) (by decide) e162 plOk_tab
    exact y.isCodeTable
  obtain ⟨p1, rfl, -⟩ := hP
  obtain ⟨p2, rfl, -⟩ := hQ
  have f226 := S.get (a := 226) (.tail _ (.tail _ (.tail _ (.tail _ (.tail _ (.head _))))))
  have f162 := S.get (a := 162) (.tail _ (.tail _ (.tail _ (.tail _ (.tail _ (.tail _ (.head _)))))))
  refine ⟨.inl ⟨_, _, [], rfl, fun _ => rfl, ReadsW.bool true, ?_, fun _ => ⟨List.nodup_nil, fun _ hm => (nomatch hm)⟩⟩, ⟨fun b ob e => ?_, fun b ob e => ?_⟩, S.grow.os, S.grow.bare (by rw [hg]; exact AllBare.empty)⟩
  · first | rfl | wrow_post
  · by_cases hb : b ∈ LX
    · rcases List.mem_cons.mp hb with rfl | hb
      · rw [e226] at e; cases e
        exact .inr (.inl ⟨t226, rfl, #[], p1, rfl, by rw [f226]; simp [tabO]⟩)
      · obtain rfl := List.mem_singleton.mp hb
        rw [e162] at e; cases e
        exact .inr (.inl ⟨t162, rfl, #[], p2, rfl, by rw [f162]; simp [tabO]⟩)
    · exact .inl (S.grow.keep b ob hb e)
  · by_cases hb : b ∈ LX
    · rcases List.mem_cons.mp hb with rfl | hb
      · exact ⟨_, f226⟩
      · obtain rfl := List.mem_singleton.mp hb
        exact ⟨_, f162⟩
    · exact ⟨_, S.grow.keep b ob hb e⟩
end Mine
theorem PySem.Challenge.cw_je0022_01_holds : PySem.Challenge.rw_je0022_01.Holds := by
  exact Mine.zz
