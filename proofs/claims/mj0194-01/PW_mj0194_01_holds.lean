import PyProof.Rows.All
import Wide.All
import OpenK.AllK
import Wide.FinOn
import PySem.Challenge.RW_mj0194_01
open PySem PySem.W PyProof.Rows
set_option Elab.async false
set_option maxRecDepth 100000
set_option linter.unusedVariables false
set_option linter.unusedSimpArgs false
namespace Mine

/-- the object that stands at an address of a tree state -/
def stGet (s : SharedT) (a : Nat) : Option Obj := match Nat.blt a s.n with
  | true => (match s.tree.get a with
    | some o => alive o
    | none => none)
  | false => none

abbrev Out (α : Type) := Option (Except Value α × Pos × SharedT)

/-- big-step evaluation of a tree over a tree state; calls by `cf` -/
def ev {α : Type} (St : Setting) (cf : Ctx → Pos → SharedT → Option (Result × SharedT)) (Γ : Ctx) : Sem α → Pos → SharedT → Out α
  | .pure a, p, s => some (.ok a, p, s)
  | .raise e, p, s => some (.error e, p, s)
  | .rule _ k, p, s => ev St cf Γ (k ()) p s
  | .at p' k, _, s => ev St cf Γ (k ()) p' s
  | .load a _ k, p, s => (match stGet s a with
    | some o => ev St cf Γ (k o) p s
    | none => none)
  | .update a _ f k, p, s => (match stGet s a with
    | some _ => ev St cf Γ (k ()) p { s with tree := s.tree.set a f }
    | none => none)
  | .alloc o k, p, s => (match ((s.tree.ins s.n o).get s.n).isSome with
    | true => ev St cf Γ (k s.n) p { s with tree := s.tree.ins s.n o, n := s.n + 1 }
    | false => none)
  | .point _ k, p, s => ev St cf Γ (k ()) p s
  | .fresh k, p, s => ev St cf Γ (k s.toks) p { s with toks := s.toks + 1 }
  | .ask k, p, s => ev St cf Γ (k St) p s
  | .call c h _ _ k, p, s => (match cf (Γ.enter c h p) p s with
    | some (r, s') => ev St cf Γ (k r) p s'
    | none => none)
  | .handled own k, p, s => ev St cf Γ (k (if own then Γ.own else Γ.handled)) p s
  | .stack k, p, s => ev St cf Γ (k ((Γ.code, p) :: Γ.below)) p s
  | .thread k, p, s => ev St cf Γ (k 0) p s
  | _, _, _ => none

def evCall (den : Code → Sem Fin) (St : Setting) : Nat → Ctx → Pos → SharedT → Option (Result × SharedT)
  | 0, _, _, _ => none
  | n + 1, Γ, p, s => match ev St (evCall den St n) Γ (den Γ.code) p s with
    | some (.ok (.done f), _, s') => some (.ok f, s')
    | some (.ok (.again c), p', s') => (match c.quiet with
      | true => evCall den St n (Γ.goto c) p' s'
      | false => none)
    | some (.error e, _, s') => some (.error e, s')
    | none => none

theorem stGet_spec {s : SharedT} {a : Nat} {o : Obj} (h : stGet s a = some o) : s.abs.heap.get? a = some o ∧ ∃ o', s.tree.get a = some o' := by
  unfold stGet at h
  cases e : Nat.blt a s.n with
  | false => rw [e] at h; cases h
  | true =>
    rw [e] at h
    cases g : s.tree.get a with
    | none => rw [g] at h; cases h
    | some o' =>
      rw [g] at h
      exact ⟨(abs_get (Nat.le_of_ble_eq_true e) g).trans h, o', rfl⟩

section
variable {M : Model} {α : Type}
/-- what a call-evaluator must be -/
def CfOk (M : Model) (cf : Ctx → Pos → SharedT → Option (Result × SharedT)) : Prop :=
  ∀ Γ p s r s', cf Γ p s = some (r, s') → Returns M Γ p s.abs r s'.abs

theorem wp_of_ev {cf : Ctx → Pos → SharedT → Option (Result × SharedT)} (hcf : CfOk M cf) {Γ : Ctx} (t : Sem α) :
    ∀ (p : Pos) (s : SharedT) (r : Except Value α) (p' : Pos) (s' : SharedT) (Q : α → Pos → Shared → Prop) (E : Value → Pos → Shared → Prop),
      ev ⟨M.prog, M.w.params⟩ cf Γ t p s = some (r, p', s') → (match r with | .ok a => Q a p' s'.abs | .error e => E e p' s'.abs) → Sem.wp M Γ t Q E p s.abs := by
  induction t with
  | pure a => intro p s r p' s' Q E h q; cases h; exact q
  | raise e => intro p s r p' s' Q E h q; cases h; exact q
  | rule tag k ih => intro p s r p' s' Q E h q; exact ih () p s r p' s' Q E h q
  | «at» p₁ k ih => intro p s r p' s' Q E h q; exact ih () p₁ s r p' s' Q E h q
  | load a part k ih =>
    intro p s r p' s' Q E h q
    cases g : stGet s a with
    | none => simp only [ev, g] at h; cases h
    | some o => simp only [ev, g] at h; exact ⟨o, (stGet_spec g).1, ih o p s r p' s' Q E h q⟩
  | update a part f k ih =>
    intro p s r p' s' Q E h q
    cases g : stGet s a with
    | none => simp only [ev, g] at h; cases h
    | some o =>
      simp only [ev, g] at h
      obtain ⟨e1, o', e2⟩ := stGet_spec g
      refine ⟨by rw [e1]; rfl, ?_⟩
      have := ih () p _ r p' s' Q E h q
      have e : (SharedT.abs { s with tree := s.tree.set a f }) = { s.abs with heap := s.abs.heap.update a f } := by
        show Shared.mk (absHeap (s.tree.set a f) s.n s.life) _ _ _ _ = Shared.mk ((absHeap s.tree s.n s.life).update a f) _ _ _ _
        rw [absHeap_set e2]; rfl
      rw [e] at this; exact this
  | alloc o k ih =>
    intro p s r p' s' Q E h q
    cases g : ((s.tree.ins s.n o).get s.n).isSome with
    | false => simp only [ev, g] at h; cases h
    | true =>
      simp only [ev, g] at h
      have := ih s.n p _ r p' s' Q E h q
      have e : (SharedT.abs { s with tree := s.tree.ins s.n o, n := s.n + 1 }) = { s.abs with heap := s.abs.heap.push o } := by
        show Shared.mk (absHeap (s.tree.ins s.n o) (s.n + 1) s.life) _ _ _ _ = Shared.mk ((absHeap s.tree s.n s.life).push o) _ _ _ _
        rw [absHeap_ins g]; rfl
      rw [e] at this
      show Sem.wp M Γ (k s.abs.heap.objs.size) Q E p _
      rw [show s.abs.heap.objs.size = s.n from absHeap_size _ _ _]
      exact this
  | point l k ih => intro p s r p' s' Q E h q; exact ih () p s r p' s' Q E h q
  | fresh k ih => intro p s r p' s' Q E h q; exact ih s.toks p { s with toks := s.toks + 1 } r p' s' Q E h q
  | ask k ih => intro p s r p' s' Q E h q; exact ih _ p s r p' s' Q E h q
  | call c hd g l k ih =>
    intro p s r p' s' Q E h q
    cases g : cf (Γ.enter c hd p) p s with
    | none => simp only [ev, g] at h; cases h
    | some x =>
      obtain ⟨r₁, s₁⟩ := x
      simp only [ev, g] at h
      exact ⟨r₁, s₁.abs, hcf _ _ _ _ _ g, ih r₁ p s₁ r p' s' Q E h q⟩
  | handled own k ih => intro p s r p' s' Q E h q; exact ih _ p s r p' s' Q E h q
  | stack k ih => intro p s r p' s' Q E h q; exact ih _ p s r p' s' Q E h q
  | thread k ih => intro p s r p' s' Q E h q; exact ih _ p s r p' s' Q E h q
  | _ => intro p s r p' s' Q E h q; simp only [ev] at h; cases h

end

theorem evCall_ok {den : Code → Sem Fin} {prog : Program} {w : World} (hden : denote table = den) : ∀ n : Nat, CfOk (model prog w) (evCall den ⟨prog, w.params⟩ n)
  | 0 => fun Γ p s r s' h => by cases h
  | n + 1 => fun Γ p s r s' h => by
    have ih := evCall_ok (prog := prog) (w := w) hden n
    unfold evCall at h
    cases g : ev ⟨prog, w.params⟩ (evCall den ⟨prog, w.params⟩ n) Γ (den Γ.code) p s with
    | none => rw [g] at h; cases h
    | some x =>
      obtain ⟨x, p₁, s₁⟩ := x
      rw [g] at h
      have W := wp_of_ev (M := model prog w) ih (den Γ.code) p s x p₁ s₁ (Sem.finPost (model prog w) Γ fun r₂ s₂ => r₂ = r ∧ s₂ = s'.abs) (fun e _ s₂ => .error e = r ∧ s₂ = s'.abs) g
      have go : Sem.wp (model prog w) Γ (den Γ.code) (Sem.finPost (model prog w) Γ fun r₂ s₂ => r₂ = r ∧ s₂ = s'.abs) (fun e _ s₂ => .error e = r ∧ s₂ = s'.abs) p s.abs → Returns (model prog w) Γ p s.abs r s'.abs := by
        intro W
        obtain ⟨r₂, s₂, R, rfl, rfl⟩ := (Sem.wp_iff_runs (model prog w) Γ (den Γ.code) (fun r₂ s₂ => r₂ = r ∧ s₂ = s'.abs) p s.abs).mp W
        unfold Returns
        show Runs (model prog w) Γ p (denote table Γ.code) [] s.abs (.ret r₂) s'.abs
        rw [hden]
        exact R
      cases x with
      | error e => cases h; exact go (W ⟨rfl, rfl⟩)
      | ok fin =>
        cases fin with
        | done f => cases h; exact go (W ⟨rfl, rfl⟩)
        | again c =>
          dsimp only at h
          cases hq : c.quiet with
          | false => rw [hq] at h; cases h
          | true =>
            rw [hq] at h
            exact go (W ⟨hq, r, s'.abs, ih _ _ _ _ _ h, rfl, rfl⟩)

/-- the library's quick twin of the interpreter -/
noncomputable abbrev den : Code → Sem Fin := PySem.W.Fast.tw11892475500146522536 PySem.W.Fast.tw14364793385576792824
theorem den_eq : denote table = den := by
  rw [table_eq_tree, PySem.W.Fast.te11892475500146522536, PySem.W.Fast.te14364793385576792824]
end Mine

namespace Mine

theorem get_push_lt (h : Heap) (o : Obj) {a : Addr} (ha : a < h.objs.size) : (h.push o).get? a = h.get? a := by
  unfold Heap.get? Heap.push
  rw [Array.getElem?_push_lt ha, Array.getElem?_eq_getElem ha]

section
variable {prog : Program} {w : World} {A : Around} {E : Value → Shared → Prop}

/-- an item of a display: an int and a text, each written -/
structure Item (prog : Program) (w : World) (A : Around) (it : Sem Value × Sem Value) (k : Int) (x : Str) : Prop where
  key : ∀ {s : Shared} {Q : Value → Shared → Prop} {E : Value → Shared → Prop}, Q (.int k s.toks) { s with toks := s.toks + 1 } → wpAny (model prog w) A it.1 Q E s
  val : ∀ {s : Shared} {Q : Value → Shared → Prop} {E : Value → Shared → Prop}, Q (.str x s.toks) { s with toks := s.toks + 1 } → wpAny (model prog w) A it.2 Q E s

inductive Items (prog : Program) (w : World) (A : Around) : List (Sem Value × Sem Value) → List (Int × Str) → Prop
  | nil : Items prog w A [] []
  | cons {it its k x kvs} : Item prog w A it k x → Items prog w A its kvs → Items prog w A (it :: its) ((k, x) :: kvs)

inductive Strs : List (Int × Value) → List (Int × Str) → Prop
  | nil : Strs [] []
  | cons {k x t vs kvs} : Strs vs kvs → Strs ((k, .str x t) :: vs) ((k, x) :: kvs)

theorem Items.length {its kvs} (h : Items prog w A its kvs) : its.length = kvs.length := by
  induction h with
  | nil => rfl
  | cons _ _ ih => simp [ih]
theorem Items.take {its kvs} (h : Items prog w A its kvs) : ∀ n, Items prog w A (its.take n) (kvs.take n) := by
  induction h with
  | nil => intro n; simp; exact .nil
  | cons a _ ih => intro n; cases n with
    | zero => exact .nil
    | succ n => exact .cons a (ih n)
theorem Items.drop {its kvs} (h : Items prog w A its kvs) : ∀ n, Items prog w A (its.drop n) (kvs.drop n) := by
  induction h with
  | nil => intro n; simp; exact .nil
  | cons a b ih => intro n; cases n with
    | zero => exact .cons a b
    | succ n => exact ih n
theorem Strs.length {vs kvs} (h : Strs vs kvs) : vs.length = kvs.length := by
  induction h with
  | nil => rfl
  | cons _ ih => simp [ih]
theorem Strs.keys {vs kvs} (h : Strs vs kvs) : vs.map (·.1) = kvs.map (·.1) := by
  induction h with
  | nil => rfl
  | cons _ ih => simp [ih]
theorem Strs.append {vs kvs vs' kvs'} (h : Strs vs kvs) (h' : Strs vs' kvs') : Strs (vs ++ vs') (kvs ++ kvs') := by
  induction h with
  | nil => exact h'
  | cons _ ih => exact .cons ih

theorem stored_fresh {acc : List (Int × Value)} {accK : List (Int × Str)} {k : Int} {v : Value} (hs : Strs acc accK) (hn : k ∉ accK.map (·.1)) : stored acc k v = acc ++ [(k, v)] := by
  unfold stored
  rw [if_neg]
  rw [List.any_eq_true]
  rintro ⟨x, hx, he⟩
  apply hn
  rw [← hs.keys]
  exact List.mem_map.mpr ⟨x, hx, by simpa using he⟩

theorem storeLong {d : Addr} : ∀ (its : List (Sem Value × Sem Value)) (kvs : List (Int × Str)) (acc : List (Int × Value)) (accK : List (Int × Str)) (s : Shared) (Q : PUnit → Shared → Prop),
    Items prog w A its kvs → s.heap.DictOf (intKind prog w) d acc → Strs acc accK → ((accK ++ kvs).map (·.1)).Nodup → acc.length + kvs.length ≤ sizeLine →
    (∀ vs h', Strs vs (accK ++ kvs) → h'.DictOf (intKind prog w) d vs → Heap.SameBut d s.heap h' → Q PUnit.unit { s with heap := h', toks := s.toks + 3 * kvs.length }) →
    wpAny (model prog w) A (forIn its PUnit.unit fun (x : Sem Value × Sem Value) (_ : PUnit) => (do
      let kv ← x.1
      let vv ← holding [kv] x.2
      holding [kv, vv] (dictSet d kv vv)
      pure (ForInStep.yield PUnit.unit) : Sem (ForInStep PUnit))) Q E s
  | [], [], acc, accK, s, Q, _, hm, hs, _, _, hQ => by
    rw [List.forIn_nil]
    refine wpAny_pure ?_
    have := hQ acc s.heap (by simpa using hs) hm (Heap.SameBut.refl _ _)
    simpa using this
  | it :: its, (k, x) :: kvs, acc, accK, s, Q, hi, hm, hs, hn, hz, hQ => by
    cases hi with
    | cons a b =>
    rw [List.forIn_cons]
    refine wpAny_bind (wpAny_bind (a.key (wpAny_bind (wpAny_holding (a.val (wpAny_bind (wpAny_holding ?_)))))))
    have hk : k ∉ accK.map (·.1) := by
      rw [List.map_append, List.map_cons, List.nodup_append] at hn
      intro hmem
      exact hn.2.2 k hmem k List.mem_cons_self rfl
    rw [List.length_cons] at hz
    refine wpAny_dictSet_pairs (knd := intKind prog w) (k := k) (hsz := by omega) (by simp [intKind, Value.isInt]) hm fun h₁ hm₁ hs₁ => wpAny_pure ?_
    rw [stored_fresh hs hk] at hm₁
    refine storeLong its kvs _ (accK ++ [(k, x)]) _ Q b hm₁ (hs.append (.cons .nil)) (by simpa using hn) (by simp; omega) fun vs h' v1 v2 v3 => ?_
    have := hQ vs h' (by simpa using v1) v2 (hs₁.trans v3)
    have e : s.toks + 3 * ((k, x) :: kvs).length = s.toks + 1 + 1 + 1 + 3 * kvs.length := by simp; omega
    rw [e] at this
    exact this
  | [], _ :: _, _, _, _, _, hi, _, _, _, _, _ => by cases hi
  | _ :: _, [], _, _, _, _, hi, _, _, _, _, _ => by cases hi

variable {s : Shared}
theorem subDict_long {its : List (Sem Value × Sem Value)} {kvs : List (Int × Str)} {Q : Addr → Shared → Prop} (hi : Items prog w A its kvs) (hl : 15 < its.length) (hz : kvs.length ≤ sizeLine) (hn : (kvs.map (·.1)).Nodup)
    (h : ∀ vs h', Strs vs kvs → h'.DictOf (intKind prog w) s.heap.objs.size vs → h'.objs.size = s.heap.objs.size + 1 → (∀ a, a < s.heap.objs.size → h'.get? a = s.heap.get? a) → Q s.heap.objs.size { s with heap := h', toks := s.toks + 3 * kvs.length }) :
    wpAny (model prog w) A (subDict its) Q E s := by
  unfold subDict
  refine wpAny_bind (wpAny_alloc ?_)
  refine wpAny_bind (wpAny_holding ?_)
  rw [if_neg (by omega)]
  refine wpAny_bind (wpAny_rule ?_)
  refine wpAny_bind (storeLong (d := s.heap.objs.size) its kvs [] [] _ _ hi (Heap.DictOf.new s.heap) .nil (by simpa using hn) (by simpa using hz) fun vs h' v1 v2 v3 => wpAny_pure (wpAny_pure ?_))
  refine h vs h' (by simpa using v1) v2 (v3.1.trans (by simp [Heap.push])) fun a ha => ?_
  rw [v3.2 a (Nat.ne_of_lt ha)]
  exact get_push_lt _ _ ha

theorem evalItems : ∀ (its : List (Sem Value × Sem Value)) (kvs : List (Int × Str)) (s : Shared) (Q : List (Value × Value) → Shared → Prop), Items prog w A its kvs →
    (∀ ps vs, Carries (intKind prog w) ps vs → Strs vs kvs → Q ps { s with toks := s.toks + 2 * kvs.length }) → wpAny (model prog w) A (evalPairs its) Q E s
  | [], [], s, Q, _, hQ => evalPairs_nil (by simpa using hQ [] [] trivial .nil)
  | it :: its, (k, x) :: kvs, s, Q, hi, hQ => by
    cases hi with
    | cons a b =>
    refine evalPairs_cons (a.key (a.val ?_))
    refine evalItems its kvs _ _ b fun ps vs c v => ?_
    have := hQ ((.int k s.toks, .str x (s.toks + 1)) :: ps) ((k, .str x (s.toks + 1)) :: vs) ⟨by simp [intKind, Value.isInt], rfl, c⟩ (.cons v)
    have e : s.toks + 2 * ((k, x) :: kvs).length = s.toks + 1 + 1 + 2 * kvs.length := by simp; omega
    rw [e] at this
    exact this
  | [], _ :: _, _, _, hi, _ => by cases hi
  | _ :: _, [], _, _, hi, _ => by cases hi

theorem subDict_short {its : List (Sem Value × Sem Value)} {kvs : List (Int × Str)} {Q : Addr → Shared → Prop} (hi : Items prog w A its kvs) (hl : its.length ≤ 15) (hn : (kvs.map (·.1)).Nodup)
    (h : ∀ vs h', Strs vs kvs → h'.DictOf (intKind prog w) s.heap.objs.size vs → h'.objs.size = s.heap.objs.size + 1 → (∀ a, a < s.heap.objs.size → h'.get? a = s.heap.get? a) → Q s.heap.objs.size { s with heap := h', toks := s.toks + 3 * kvs.length }) :
    wpAny (model prog w) A (subDict its) Q E s := by
  refine wpAny_subDict (knd := intKind prog w) hl (evalItems its kvs _ _ hi fun ps vs c v => ⟨vs, c, Heap.DictOf.new s.heap, fun h' d sb => ?_⟩)
  rw [merged_nil_of_nodup vs (by rw [v.keys]; exact hn)] at d
  have := h vs h' v d (sb.1.trans (by simp [Heap.push])) fun a ha => by
    rw [sb.2 a (Nat.ne_of_lt ha)]; exact get_push_lt _ _ ha
  have e : ps.length = kvs.length := by rw [← c.length, v.length]
  have e' : s.toks + 3 * kvs.length = s.toks + 2 * kvs.length + ps.length := by omega
  rw [e'] at this
  exact this

theorem dictPut_new {d : Addr} {acc : List (Int × Value)} {k : Int} {key v : Value} {Q : Unit → Shared → Prop} (hkey : (intKind prog w).is k key = true) (hm : s.heap.DictOf (intKind prog w) d acc) (hk : k ∉ acc.map (·.1)) (hz : acc.length ≤ sizeLine)
    (hQ : ∀ h', h'.DictOf (intKind prog w) d (acc ++ [(k, v)]) → Heap.SameBut d s.heap h' → Q () { s with heap := h' }) :
    wpAny (model prog w) A (dictPut d (hashInt k) key v) Q E s := by
  obtain ⟨o, es, ep, ho, hc, hd, hks, hp, hn⟩ := hm
  have hes : es.size ≤ sizeLine := by have e1 := hp.length; have e2 : es.toList.length = es.size := by simp
                                      omega
  unfold dictPut
  refine wpAny_bind (wpAny_dictFind_of (knd := intKind prog w) hkey ho hd hks ?_)
  have hidx : (es.findIdx? fun e => (intKind prog w).is k e.key) = none := by
    have := hp.findIdx k
    have h2 : (acc.findIdx? fun kv => decide (kv.1 = k)) = none := by
      rw [List.findIdx?_eq_none_iff]
      intro x hx
      have : x.1 ≠ k := fun e => hk (List.mem_map.mpr ⟨x, hx, e⟩)
      simpa using this
    rw [h2] at this
    rw [← this]; obtain ⟨l⟩ := es; simp
  rw [hidx]
  refine wpAny_updateDictKeys (hz := hes) ho hd (hQ _ ⟨_, _, ep + 1, Heap.get?_update_self _ ho (Obj.isFreed_of_dict (Obj.data_mapDictKeys hd _)), hc.mapDictKeys _, Obj.data_mapDictKeys hd _, hks.push hkey _, ?_, ?_⟩ (Heap.SameBut.update ..))
  · have := hp.append hkey (hashInt k) v
    obtain ⟨l⟩ := es
    simpa using this
  · rw [List.map_append, List.nodup_append]
    refine ⟨hn, by simp, ?_⟩
    intro a ha b hb
    simp only [List.map_cons, List.map_nil, List.mem_singleton] at hb
    subst hb
    exact fun e => hk (e ▸ ha)
end
end Mine

namespace Mine
section
variable {prog : Program} {w : World} {A : Around} {E : Value → Shared → Prop} {s : Shared}

theorem Pairs.get {es : List DictEntry} {vs : List (Int × Value)} (h : Pairs (intKind prog w) es vs) : ∀ {i : Nat} (hi : i < vs.length), ∃ e, es[i]? = some e ∧ (intKind prog w).is vs[i].1 e.key = true ∧ e.val = vs[i].2 := by
  induction h with
  | nil => intro i hi; exact absurd hi (Nat.not_lt_zero _)
  | @cons e kv es kvs a b _ ih =>
    intro i hi
    cases i with
    | zero => exact ⟨e, rfl, a, b⟩
    | succ i => exact ih (Nat.lt_of_succ_lt_succ hi)

theorem merge_new {d sub : Addr} {acc vs : List (Int × Value)} {Q : Unit → Shared → Prop} (hds : d ≠ sub) (hlo : (sub == sysModules) = false) (hd : s.heap.DictOf (intKind prog w) d acc) (hv : s.heap.DictOf (intKind prog w) sub vs)
    (hne : acc ≠ []) (hn : ((acc ++ vs).map (·.1)).Nodup) (hz : acc.length + vs.length ≤ sizeLine)
    (hQ : ∀ h', h'.DictOf (intKind prog w) d (acc ++ vs) → Heap.SameBut d s.heap h' → Q () { s with heap := h' }) :
    wpAny (model prog w) A (mergeMapping d (.ref sub) false) Q E s := by
  obtain ⟨oo, eso, epo, hoo, hco, hdo, hko, hpo, hno⟩ := id hv
  obtain ⟨od, esd, epd, hod, hcd, hdd, hkd, hpd, hnd⟩ := id hd
  have hlen : eso.size = vs.length := by rw [← hpo.length]; simp
  have hdne : ¬ esd.isEmpty = true := by
    intro e
    have := hpd.length
    rw [Array.isEmpty_iff_size_eq_zero] at e
    have e2 : esd.toList.length = esd.size := by simp
    exact hne (List.eq_nil_of_length_eq_zero (by omega))
  unfold mergeMapping
  dsimp only
  refine wpAny_bind (wpAny_isInstance hv.typeIs isSubtype_dict_dict ?_)
  rw [if_pos rfl]
  refine wpAny_bind (wpAny_specialOf hv.typeIs F.slot_dict_iter.lookup (wpAny_bind (wpAny_pure ?_)))
  rw [beq_self_eq_true]
  dsimp only
  rw [if_neg (by rw [hlo]; exact Bool.false_ne_true)]
  refine wpAny_bind (wpAny_dictEntries hod hdd ?_)
  rw [if_neg hdne]
  refine wpAny_bind (wpAny_dictEntries hoo hdo ?_)
  refine wpAny_bind (wpAny_dictEpoch hoo hdo ?_)
  refine wpAny_bind ?_
  refine wpAny_forIn_list _
    (fun rest _ s' => ∃ h' i, s' = { s with heap := h' } ∧ rest = List.range' i (vs.length - i) ∧ i ≤ vs.length ∧ h'.DictOf (intKind prog w) d (acc ++ vs.take i) ∧ h'.get? sub = some oo ∧ Heap.SameBut d s.heap h')
    _ ?_ ?_ _ _ ⟨s.heap, 0, rfl, by rw [hlen, List.range_eq_range', Nat.sub_zero], Nat.zero_le _, by simpa using hd, hoo, Heap.SameBut.refl _ _⟩
  · rintro j rest _ s' ⟨h', i, rfl, hr, hi, hd', ho', hs'⟩
    have hlt : i < vs.length := by
      rcases Nat.lt_or_ge i vs.length with q | q
      · exact q
      · rw [show vs.length - i = 0 by omega] at hr; cases hr
    rw [show vs.length - i = (vs.length - (i + 1)) + 1 by omega, List.range'_succ] at hr
    obtain ⟨rfl, rfl⟩ := List.cons.inj hr
    obtain ⟨e, he, hk, hval⟩ := Pairs.get hpo hlt
    have he' : eso[j]? = some e := by rw [← he]; obtain ⟨l⟩ := eso; simp
    have hhash : e.hash = hashInt vs[j].1 := by
      obtain ⟨k', h1, h2⟩ := hko e (Array.mem_of_getElem? he')
      rw [h2, (intKind prog w).inj _ _ _ h1 hk]; rfl
    refine wpAny_bind (wpAny_dictEntries ho' hdo ?_)
    rw [he']
    dsimp only
    refine wpAny_bind (wpAny_holding ?_)
    rw [if_neg Bool.false_ne_true, hhash, hval]
    have hfresh : vs[j].1 ∉ (acc ++ vs.take j).map (·.1) := by
      intro hm
      have e1 : acc ++ vs = (acc ++ vs.take j) ++ (vs[j] :: vs.drop (j + 1)) := by
        rw [List.append_assoc, List.getElem_cons_drop, List.take_append_drop]
      rw [e1, List.map_append, List.map_cons, List.nodup_append] at hn
      exact hn.2.2 _ hm _ List.mem_cons_self rfl
    refine dictPut_new hk hd' hfresh (by simp; omega) fun h₂ d₂ s₂ => ?_
    have ho₂ : h₂.get? sub = some oo := (s₂.2 sub (Ne.symm hds)).trans ho'
    refine wpAny_bind (wpAny_dictEpoch ho₂ hdo ?_)
    rw [if_neg (by simp)]
    refine wpAny_pure ⟨h₂, j + 1, rfl, rfl, hlt, ?_, ho₂, hs'.trans s₂⟩
    rw [List.take_succ_eq_append_getElem hlt, ← List.append_assoc]
    exact d₂
  · rintro _ s' ⟨h', i, rfl, hr, hi, hd', ho', hs'⟩
    have : i = vs.length := by
      have e := congrArg List.length hr
      rw [List.length_range', List.length_nil] at e
      omega
    subst this
    rw [List.take_length] at hd'
    exact wpAny_pure (hQ h' hd' hs')
end
end Mine

namespace Mine
section
variable {prog : Program} {w : World} {A : Around} {E : Value → Shared → Prop}

/-- how the display stands after `n` flushes -/
inductive MainSt (prog : Program) (w : World) (s : Shared) : List (Int × Str) → Nat → Option Addr → Shared → Prop
  | none : MainSt prog w s [] 0 none s
  | some {doneK n acc h'} : h'.DictOf (intKind prog w) s.heap.objs.size acc → Strs acc doneK → doneK ≠ [] → (∀ a, a < s.heap.objs.size → h'.get? a = s.heap.get? a) → h'.objs.size = s.heap.objs.size + n → 1 ≤ n →
      MainSt prog w s doneK n (some s.heap.objs.size) { s with heap := h', toks := s.toks + 3 * doneK.length }

theorem subDict_any {s : Shared} {its : List (Sem Value × Sem Value)} {kvs : List (Int × Str)} {Q : Addr → Shared → Prop} (hi : Items prog w A its kvs) (hz : kvs.length ≤ sizeLine) (hn : (kvs.map (·.1)).Nodup)
    (h : ∀ vs h', Strs vs kvs → h'.DictOf (intKind prog w) s.heap.objs.size vs → h'.objs.size = s.heap.objs.size + 1 → (∀ a, a < s.heap.objs.size → h'.get? a = s.heap.get? a) → Q s.heap.objs.size { s with heap := h', toks := s.toks + 3 * kvs.length }) :
    wpAny (model prog w) A (subDict its) Q E s := by
  rcases Nat.lt_or_ge 15 its.length with q | q
  · exact subDict_long hi q hz hn h
  · exact subDict_short hi q hn h

theorem flushed_none {s s' : Shared} {doneK runK : List (Int × Str)} {n : Nat} {run : List (Sem Value × Sem Value)} {Q : Option Addr → Shared → Prop}
    (hm : MainSt prog w s doneK n none s') (hi : Items prog w A run runK) (hne : runK ≠ []) (hn : ((doneK ++ runK).map (·.1)).Nodup) (hz : (doneK ++ runK).length ≤ sizeLine)
    (hQ : ∀ main' s'', MainSt prog w s (doneK ++ runK) (n + 1) main' s'' → Q main' s'') :
    wpAny (model prog w) A (do
        let x ← subDict run
        pure (some x)) Q E s' := by
  have hn' : (runK.map (·.1)).Nodup := by rw [List.map_append, List.nodup_append] at hn; exact hn.2.1
  have hz' : doneK.length + runK.length ≤ sizeLine := by rw [List.length_append] at hz; exact hz
  cases hm with
  | none =>
    refine wpAny_bind (subDict_any hi (by omega) hn' fun vs h' v1 v2 v3 v4 => wpAny_pure (hQ _ _ ?_))
    exact .some v2 v1 hne v4 v3 (Nat.le_refl _)

theorem flushed_some {s s' : Shared} {doneK runK : List (Int × Str)} {n : Nat} {d : Addr} {run : List (Sem Value × Sem Value)} {Q : Option Addr → Shared → Prop} {k : Value → Sem Unit} (hlo : sysModules < s.heap.objs.size)
    (hm : MainSt prog w s doneK n (some d) s') (hi : Items prog w A run runK) (hne : runK ≠ []) (hn : ((doneK ++ runK).map (·.1)).Nodup) (hz : (doneK ++ runK).length ≤ sizeLine)
    (hQ : ∀ main' s'', MainSt prog w s (doneK ++ runK) (n + 1) main' s'' → Q main' s'') :
    wpAny (model prog w) A (do
        let sub ← holding [Value.ref d] (subDict run)
        (holding [Value.ref d, Value.ref sub] (mergeMapping d (Value.ref sub) false)).onRaise k
        pure (some d)) Q E s' := by
  have hn' : (runK.map (·.1)).Nodup := by rw [List.map_append, List.nodup_append] at hn; exact hn.2.1
  have hz' : doneK.length + runK.length ≤ sizeLine := by rw [List.length_append] at hz; exact hz
  cases hm with
  | @some doneK n acc h' m1 m2 m3 m4 m5 m6 =>
    refine wpAny_bind (wpAny_holding (subDict_any hi (by omega) hn' fun vs h₂ v1 v2 v3 v4 => ?_))
    dsimp only at v2 v3 v4 ⊢
    have hne' : acc ≠ [] := by
      rintro rfl
      exact m3 (List.eq_nil_of_length_eq_zero (by rw [← m2.length]; rfl))
    have hd : h₂.DictOf (intKind prog w) s.heap.objs.size acc := by
      obtain ⟨o, es, ep, ho, r⟩ := m1
      exact ⟨o, es, ep, by rw [v4 _ (by rw [m5]; omega)]; exact ho, r⟩
    have hlt : (s.heap.objs.size : Nat) < h'.objs.size := by rw [m5]; omega
    have hne₂ : s.heap.objs.size ≠ h'.objs.size := Nat.ne_of_lt hlt
    have hlo₂ : h'.objs.size ≠ sysModules := Nat.ne_of_gt (Nat.lt_trans hlo hlt)
    have hkeys : ((acc ++ vs).map (·.1)).Nodup := by rw [(m2.append v1).keys]; exact hn
    refine wpAny_bind (wpAny_onRaise (wpAny_holding (merge_new (s := { s with heap := h₂, toks := s.toks + 3 * doneK.length + 3 * runK.length }) (acc := acc) (vs := vs) hne₂ ?_ hd v2 hne' hkeys (by rw [m2.length, v1.length]; omega) fun h₃ d₃ s₃ => wpAny_pure (hQ _ _ ?_))))
    · exact beq_eq_false_iff_ne.mpr hlo₂
    · have e : s.toks + 3 * doneK.length + 3 * runK.length = s.toks + 3 * (doneK ++ runK).length := by rw [List.length_append]; omega
      rw [e] at s₃ ⊢
      refine .some d₃ (m2.append v1) (by simp [m3]) (fun a ha => ?_) (by rw [s₃.1]; dsimp only; rw [v3, m5]; omega) (by omega)
      have ha' : a ≠ s.heap.objs.size := Nat.ne_of_lt ha
      rw [s₃.2 a ha']
      dsimp only
      rw [v4 a (Nat.lt_trans ha hlt), m4 a ha]

theorem display {s : Shared} {its : List (Sem Value × Sem Value)} {kvs : List (Int × Str)} {Q : Value → Shared → Prop} (hlo : sysModules < s.heap.objs.size) (hi : Items prog w A its kvs) (hne : kvs.length % 17 ≠ 0) (hn : (kvs.map (·.1)).Nodup) (hz : kvs.length ≤ sizeLine)
    (hQ : ∀ vs h', Strs vs kvs → h'.DictOf (intKind prog w) s.heap.objs.size vs → (∀ a, a < s.heap.objs.size → h'.get? a = s.heap.get? a) → h'.objs.size = s.heap.objs.size + (kvs.length / 17 + 1) →
      Q (.ref s.heap.objs.size) { s with heap := h', toks := s.toks + 3 * kvs.length }) :
    wpAny (model prog w) A (dictDisplay (its.map fun p => (some p.1, p.2))) Q E s := by
  unfold dictDisplay
  dsimp only
  refine wpAny_bind ?_
  refine wpAny_forIn_list _
    (fun rest st s' => ∃ doneK runK restI restK n, kvs = doneK ++ runK ++ restK ∧ rest = restI.map (fun p => (some p.1, p.2)) ∧ Items prog w A st.2 runK ∧ Items prog w A restI restK ∧ runK.length < 17 ∧ doneK.length = 17 * n ∧ MainSt prog w s doneK n st.1 s')
    _ ?_ ?_ _ _ ⟨[], [], its, kvs, 0, rfl, rfl, .nil, hi, by decide, rfl, .none⟩
  · rintro x rest ⟨main, run⟩ s' ⟨doneK, runK, restI, restK, n, e1, e2, i1, i2, l1, l2, m⟩
    cases i2 with
    | nil => cases e2
    | @cons it its' k y kvs' a b =>
    rw [List.map_cons] at e2
    obtain ⟨rfl, rfl⟩ := List.cons.inj e2
    dsimp only at i1 m ⊢
    have i3 : Items prog w A (run ++ [(it.1, it.2)]) (runK ++ [(k, y)]) := by
      clear e1 l1 l2 m
      induction i1 with
      | nil => exact .cons a .nil
      | cons a' _ ih => exact .cons a' ih
    have hl : (run ++ [(it.1, it.2)]).length = runK.length + 1 := by rw [i3.length]; simp
    rw [hl]
    by_cases q : runK.length + 1 = 17
    · rw [q, if_pos (by rfl)]
      rw [if_neg (by simp)]
      have hd : ((doneK ++ (runK ++ [(k, y)])).map (·.1)).Nodup := by
        rw [e1] at hn
        have : doneK ++ runK ++ (k, y) :: kvs' = (doneK ++ (runK ++ [(k, y)])) ++ kvs' := by simp
        rw [this, List.map_append, List.nodup_append] at hn
        exact hn.1
      have hz₂ : (doneK ++ (runK ++ [(k, y)])).length ≤ sizeLine := by
        have := congrArg List.length e1
        simp only [List.length_append, List.length_cons, List.length_nil] at this ⊢; omega
      have fin : ∀ main' s'', MainSt prog w s (doneK ++ (runK ++ [(k, y)])) (n + 1) main' s'' → ∃ doneK runK restI restK n, kvs = doneK ++ runK ++ restK ∧ its'.map (fun p => (some p.1, p.2)) = restI.map (fun p => (some p.1, p.2)) ∧ Items prog w A [] runK ∧ Items prog w A restI restK ∧ runK.length < 17 ∧ doneK.length = 17 * n ∧ MainSt prog w s doneK n main' s'' :=
        fun main' s'' m' => ⟨doneK ++ (runK ++ [(k, y)]), [], its', kvs', n + 1, by rw [e1]; simp, rfl, .nil, b, by decide, by simp only [List.length_append, List.length_cons, List.length_nil]; omega, m'⟩
      cases main with
      | none => exact wpAny_bind (flushed_none m i3 (by simp) hd hz₂ fun main' s'' m' => wpAny_pure (fin main' s'' m'))
      | some d => exact wpAny_bind (flushed_some hlo m i3 (by simp) hd hz₂ fun main' s'' m' => wpAny_pure (fin main' s'' m'))
    · rw [if_neg (by simpa using q)]
      exact wpAny_pure ⟨doneK, runK ++ [(k, y)], its', kvs', n, by rw [e1]; simp, rfl, i3, b, by simp; omega, l2, m⟩
  · rintro ⟨main, run⟩ s' ⟨doneK, runK, restI, restK, n, e1, e2, i1, i2, l1, l2, m⟩
    have hr : restI = [] := by cases restI with | nil => rfl | cons => cases e2
    subst hr
    cases i2
    rw [List.append_nil] at e1
    have hlen : kvs.length = 17 * n + runK.length := by rw [e1, List.length_append, l2]
    have hne' : runK ≠ [] := by
      rintro rfl
      apply hne
      rw [hlen]; simp
    dsimp only at i1 m ⊢
    have hrun : ¬ run.isEmpty = true := by
      intro q
      rw [List.isEmpty_iff] at q
      subst q
      cases i1; exact hne' rfl
    rw [if_neg hrun]
    have fin : ∀ main' s'', MainSt prog w s (doneK ++ runK) (n + 1) main' s'' → ∃ d, main' = some d ∧ Q (.ref d) s'' := fun main' s'' m' => by
      rw [← e1] at m'
      cases m' with
      | some d1 d2 d3 d4 d5 d6 =>
      refine ⟨_, rfl, hQ _ _ d2 d1 d4 ?_⟩
      rw [d5]
      have : kvs.length / 17 = n := by omega
      omega
    have hn₂ : ((doneK ++ runK).map (·.1)).Nodup := by rw [← e1]; exact hn
    have hz₂ : (doneK ++ runK).length ≤ sizeLine := by rw [← e1]; exact hz
    cases main with
    | none => exact wpAny_bind (flushed_none m i1 hne' hn₂ hz₂ fun main' s'' m' => by obtain ⟨d, rfl, q⟩ := fin main' s'' m'; exact wpAny_pure q)
    | some d => exact wpAny_bind (flushed_some hlo m i1 hne' hn₂ hz₂ fun main' s'' m' => by obtain ⟨d, rfl, q⟩ := fin main' s'' m'; exact wpAny_pure q)
end
end Mine

namespace Mine
noncomputable abbrev P0 : Program := PySem.Challenge.pw_mj0194_01
abbrev so (x : String) : Str := PySem.Str.ofString x
noncomputable def ent (P : Params) (x : Str) (t : Tok) (v : Value) : DictEntry := ⟨PyData.keyHash P x, .str x t, v⟩
noncomputable def stAt (i : Nat) : Stmt := P0.main.body.getD i (.Pass default)
noncomputable def paramsAt (i : Nat) : Arguments := match stAt i with | .FunctionDef _ a .. => a | _ => default
noncomputable def bodyAt (i : Nat) : List Stmt := match stAt i with | .FunctionDef _ _ b .. => b | _ => []
noncomputable def scopeAt (i : Nat) : Scope := match stAt i with | .FunctionDef _ _ _ _ _ _ s .. => s | _ => default
noncomputable def o11 (P : Params) : Obj := ⟨(.type "tuple"), none, (.seq #[] 0), #[]⟩
noncomputable def o12 (P : Params) : Obj := ⟨.none, none, (.fields #[]), #[]⟩
noncomputable def o13 (P : Params) : Obj := ⟨(.type "code"), none, (.fields #[(.str (so "<module>") 182), (.str (so "<module>") 183), (.str (so "/claim/cut.py") 184), (.int (1) 0), (.int (0) 0), (.int (0) 0), (.int (0) 0), (.int (0) 0), (.ref 11), (.bool false), (.int (181) 0), (.ref 12), .none, .none, .none, .none, (.int (185) 0), (.int (1) 0), (.str (so "/claim/cut.py") 186)]), #[]⟩
noncomputable def o14 (P : Params) : Obj := ⟨(.type "frame"), none, .plain, #[(some (.ref 13)), (some (.ref 3)), (some (.ref 3)), none, (some (.str (so "__main__") 164)), none, (some (.ref 0))]⟩
noncomputable def o3 (P : Params) : Obj := ⟨(.type "dict"), none, (.dict #[ent P (so "__name__") 165 (.str (so "cpy313.stringprep") 199), ent P (so "__doc__") 166 .none, ent P (so "__package__") 167 .none, ent P (so "__loader__") 168 (.builtin "__main__.__loader__#opaque"), ent P (so "__spec__") 169 .none, ent P (so "__annotations__") 170 (.ref 6), ent P (so "__builtins__") 171 (.ref 4), ent P (so "__file__") 173 (.str (so "/claim/cut.py") 172), ent P (so "__cached__") 174 .none, ent P (so "_strip_exception_details") 198 (.ref 21), ent P (so "b1_set") 260 (.ref 29), ent P (so "in_table_b1") 267 (.ref 39)] 12), #[]⟩
noncomputable def o12b (P : Params) : Obj := ⟨.none, none, (.fields #[(.int (2) 0), (.int (0) 0), (.ref 20), (.int (16) 0), (.int (0) 0), (.ref 38)]), #[]⟩
noncomputable def o15 (P : Params) : Obj := ⟨(.type "tuple"), none, (.seq #[] 0), #[]⟩
noncomputable def o16 (P : Params) : Obj := ⟨.none, none, (.fields #[]), #[]⟩
noncomputable def o17 (P : Params) : Obj := ⟨(.type "tuple"), none, (.seq #[(.str (so "msg") 192), (.str (so "start") 193), (.str (so "end") 194), (.str (so "i") 195)] 0), #[]⟩
noncomputable def o18 (P : Params) : Obj := ⟨(.type "tuple"), none, (.seq #[] 0), #[]⟩
noncomputable def o19 (P : Params) : Obj := ⟨.none, none, (.func ⟨(so "_strip_exception_details"), (so "_strip_exception_details"), paramsAt 1, .stmts (bodyAt 1), scopeAt 1, 0, [], .none, .none, .none, .none, none, .none, .none, 0⟩), #[]⟩
noncomputable def o20 (P : Params) : Obj := ⟨(.type "code"), none, (.fields #[(.str (so "_strip_exception_details") 189), (.str (so "_strip_exception_details") 190), (.str (so "/claim/cut.py") 191), (.int (2) 0), (.int (1) 0), (.int (0) 0), (.int (0) 0), (.int (3) 0), (.ref 15), (.bool true), (.int (181) 0), (.ref 16), .none, (.ref 17), (.ref 18), (.ref 19), (.int (196) 0), (.int (2) 0), (.str (so "/claim/cut.py") 197)]), #[]⟩
noncomputable def o21 (P : Params) : Obj := ⟨(.type "function"), none, (.func ⟨(so "_strip_exception_details"), (so "_strip_exception_details"), paramsAt 1, .stmts (bodyAt 1), scopeAt 1, 3, [], .none, .none, .none, (.str (so "cpy313.doctest") 187), none, (.ref 20), .none, 0⟩), #[]⟩
noncomputable def o22 (P : Params) : Obj := ⟨(.type "list"), none, (.seq #[(.int (173) 201), (.int (847) 202), (.int (6150) 203), (.int (6155) 204), (.int (6156) 205), (.int (6157) 206), (.int (8203) 207), (.int (8204) 208), (.int (8205) 209), (.int (8288) 210), (.int (65279) 211)] 0), #[]⟩
noncomputable def o23 (P : Params) : Obj := ⟨(.type "range"), none, (.fields #[(.int (65024) 212), (.int (65040) 213), (.int (1) 214)]), #[]⟩
noncomputable def o24 (P : Params) : Obj := ⟨(.type "list"), none, (.seq #[(.int (65024) 217), (.int (65025) 218), (.int (65026) 219), (.int (65027) 220), (.int (65028) 221), (.int (65029) 222), (.int (65030) 223), (.int (65031) 224), (.int (65032) 225), (.int (65033) 226), (.int (65034) 227), (.int (65035) 228), (.int (65036) 229), (.int (65037) 230), (.int (65038) 231), (.int (65039) 232)] 18), #[]⟩
noncomputable def o25 (P : Params) : Obj := ⟨(.type "range_iterator"), none, (.fields #[(.int (65040) 0), (.int (0) 0), (.int (1) 0)]), #[]⟩
noncomputable def o26 (P : Params) : Obj := ⟨(.type "tuple"), none, (.seq #[] 0), #[]⟩
noncomputable def o27 (P : Params) : Obj := ⟨(.type "StopIteration"), none, (.fields #[(.ref 26), .none, .none, .none, (.bool false), .none]), #[]⟩
noncomputable def o28 (P : Params) : Obj := ⟨(.type "list"), none, (.seq #[(.int (173) 201), (.int (847) 202), (.int (6150) 203), (.int (6155) 204), (.int (6156) 205), (.int (6157) 206), (.int (8203) 207), (.int (8204) 208), (.int (8205) 209), (.int (8288) 210), (.int (65279) 211), (.int (65024) 217), (.int (65025) 218), (.int (65026) 219), (.int (65027) 220), (.int (65028) 221), (.int (65029) 222), (.int (65030) 223), (.int (65031) 224), (.int (65032) 225), (.int (65033) 226), (.int (65034) 227), (.int (65035) 228), (.int (65036) 229), (.int (65037) 230), (.int (65038) 231), (.int (65039) 232)] 0), #[]⟩
noncomputable def o29 (P : Params) : Obj := ⟨(.type "set"), none, (.set #[((65024), (.int (65024) 217)), ((65025), (.int (65025) 218)), ((65026), (.int (65026) 219)), ((65027), (.int (65027) 220)), ((65028), (.int (65028) 221)), ((65029), (.int (65029) 222)), ((6150), (.int (6150) 203)), ((65030), (.int (65030) 223)), ((65031), (.int (65031) 224)), ((65032), (.int (65032) 225)), ((65033), (.int (65033) 226)), ((6155), (.int (6155) 204)), ((6156), (.int (6156) 205)), ((6157), (.int (6157) 206)), ((8203), (.int (8203) 207)), ((8204), (.int (8204) 208)), ((8205), (.int (8205) 209)), ((65034), (.int (65034) 227)), ((65035), (.int (65035) 228)), ((65036), (.int (65036) 229)), ((65037), (.int (65037) 230)), ((65038), (.int (65038) 231)), ((65039), (.int (65039) 232)), ((173), (.int (173) 201)), ((847), (.int (847) 202)), ((8288), (.int (8288) 210)), ((65279), (.int (65279) 211))] 29 ⟨127, #[0, 1, 2, 3, 4, 5, 6, 7, 8, 9, 10, 11, 12, 13, 14, 15, 16, 17, 18, 19, 20, 21, 22, 45, 79, 96, 127], #[], 0, (!P.followText "set-order"), 2, true⟩), #[]⟩
noncomputable def o30 (P : Params) : Obj := ⟨(.type "list_iterator"), none, (.fields #[.none, (.int (27) 0)]), #[]⟩
noncomputable def o31 (P : Params) : Obj := ⟨(.type "tuple"), none, (.seq #[] 0), #[]⟩
noncomputable def o32 (P : Params) : Obj := ⟨(.type "StopIteration"), none, (.fields #[(.ref 31), .none, .none, .none, (.bool false), .none]), #[]⟩
noncomputable def o33 (P : Params) : Obj := ⟨(.type "tuple"), none, (.seq #[] 0), #[]⟩
noncomputable def o34 (P : Params) : Obj := ⟨.none, none, (.fields #[]), #[]⟩
noncomputable def o35 (P : Params) : Obj := ⟨(.type "tuple"), none, (.seq #[(.str (so "code") 264)] 0), #[]⟩
noncomputable def o36 (P : Params) : Obj := ⟨(.type "tuple"), none, (.seq #[] 0), #[]⟩
noncomputable def o37 (P : Params) : Obj := ⟨.none, none, (.func ⟨(so "in_table_b1"), (so "in_table_b1"), paramsAt 4, .stmts (bodyAt 4), scopeAt 4, 0, [], .none, .none, .none, .none, none, .none, .none, 0⟩), #[]⟩
noncomputable def o38 (P : Params) : Obj := ⟨(.type "code"), none, (.fields #[(.str (so "in_table_b1") 261), (.str (so "in_table_b1") 262), (.str (so "/claim/cut.py") 263), (.int (16) 0), (.int (1) 0), (.int (0) 0), (.int (0) 0), (.int (3) 0), (.ref 33), (.bool true), (.int (181) 0), (.ref 34), .none, (.ref 35), (.ref 36), (.ref 37), (.int (265) 0), (.int (16) 0), (.str (so "/claim/cut.py") 266)]), #[]⟩
noncomputable def o39 (P : Params) : Obj := ⟨(.type "function"), none, (.func ⟨(so "in_table_b1"), (so "in_table_b1"), paramsAt 4, .stmts (bodyAt 4), scopeAt 4, 3, [], .none, .none, .none, (.str (so "cpy313.stringprep") 199), none, (.ref 38), .none, 0⟩), #[]⟩
noncomputable def o3b (P : Params) : Obj := ⟨(.type "dict"), none, (.dict #[ent P (so "__name__") 165 (.str (so "cpy313.stringprep") 199), ent P (so "__doc__") 166 .none, ent P (so "__package__") 167 .none, ent P (so "__loader__") 168 (.builtin "__main__.__loader__#opaque"), ent P (so "__spec__") 169 .none, ent P (so "__annotations__") 170 (.ref 6), ent P (so "__builtins__") 171 (.ref 4), ent P (so "__file__") 173 (.str (so "/claim/cut.py") 172), ent P (so "__cached__") 174 .none, ent P (so "_strip_exception_details") 198 (.ref 21), ent P (so "b1_set") 260 (.ref 29), ent P (so "in_table_b1") 267 (.ref 39), ent P (so "b3_exceptions") 2218 (.ref 40)] 13), #[]⟩
noncomputable def o3c (P : Params) : Obj := ⟨(.type "dict"), none, (.dict #[ent P (so "__name__") 165 (.str (so "law_mj0194_01") 2227), ent P (so "__doc__") 166 .none, ent P (so "__package__") 167 .none, ent P (so "__loader__") 168 (.builtin "__main__.__loader__#opaque"), ent P (so "__spec__") 169 .none, ent P (so "__annotations__") 170 (.ref 6), ent P (so "__builtins__") 171 (.ref 4), ent P (so "__file__") 173 (.str (so "/claim/cut.py") 172), ent P (so "__cached__") 174 .none, ent P (so "_strip_exception_details") 198 (.ref 21), ent P (so "b1_set") 260 (.ref 29), ent P (so "in_table_b1") 267 (.ref 39), ent P (so "b3_exceptions") 2218 (.ref 40), ent P (so "map_table_b3") 2226 (.ref 85), ent P (so "_law_nothing") 2237 (.ref 92), ent P (so "_law_any") 2245 (.ref 99), ent P (so "_law_pair") 2256 (.ref 106), ent P (so "_law_pairs") 2262 (.ref 111), ent P (so "_law_prepared") 2268 (.ref 116), ent P (so "_law_name") 2279 (.ref 123), ent P (so "law") 2285 (.ref 128)] 21), #[]⟩
noncomputable def o12c (P : Params) : Obj := ⟨.none, none, (.fields #[(.int (2) 0), (.int (0) 0), (.ref 20), (.int (16) 0), (.int (0) 0), (.ref 38), (.int (19) 0), (.int (0) 0), (.ref 84), (.int (25) 0), (.int (0) 0), (.ref 91), (.int (31) 0), (.int (0) 0), (.ref 98), (.int (36) 0), (.int (0) 0), (.ref 105), (.int (60) 0), (.int (0) 0), (.ref 110), (.int (64) 0), (.int (0) 0), (.ref 115), (.int (66) 0), (.int (0) 0), (.ref 122), (.int (76) 0), (.int (0) 0), (.ref 127)]), #[]⟩
noncomputable def o79 (P : Params) : Obj := ⟨(.type "tuple"), none, (.seq #[] 0), #[]⟩
noncomputable def o80 (P : Params) : Obj := ⟨.none, none, (.fields #[]), #[]⟩
noncomputable def o81 (P : Params) : Obj := ⟨(.type "tuple"), none, (.seq #[(.str (so "code") 2222), (.str (so "r") 2223)] 0), #[]⟩
noncomputable def o82 (P : Params) : Obj := ⟨(.type "tuple"), none, (.seq #[] 0), #[]⟩
noncomputable def o83 (P : Params) : Obj := ⟨.none, none, (.func ⟨(so "map_table_b3"), (so "map_table_b3"), paramsAt 6, .stmts (bodyAt 6), scopeAt 6, 0, [], .none, .none, .none, .none, none, .none, .none, 0⟩), #[]⟩
noncomputable def o84 (P : Params) : Obj := ⟨(.type "code"), none, (.fields #[(.str (so "map_table_b3") 2219), (.str (so "map_table_b3") 2220), (.str (so "/claim/cut.py") 2221), (.int (19) 0), (.int (1) 0), (.int (0) 0), (.int (0) 0), (.int (3) 0), (.ref 79), (.bool true), (.int (181) 0), (.ref 80), .none, (.ref 81), (.ref 82), (.ref 83), (.int (2224) 0), (.int (19) 0), (.str (so "/claim/cut.py") 2225)]), #[]⟩
noncomputable def o85 (P : Params) : Obj := ⟨(.type "function"), none, (.func ⟨(so "map_table_b3"), (so "map_table_b3"), paramsAt 6, .stmts (bodyAt 6), scopeAt 6, 3, [], .none, .none, .none, (.str (so "cpy313.stringprep") 199), none, (.ref 84), .none, 0⟩), #[]⟩
noncomputable def o86 (P : Params) : Obj := ⟨(.type "tuple"), none, (.seq #[] 0), #[]⟩
noncomputable def o87 (P : Params) : Obj := ⟨.none, none, (.fields #[]), #[]⟩
noncomputable def o88 (P : Params) : Obj := ⟨(.type "tuple"), none, (.seq #[(.str (so "k") 2232), (.str (so "row") 2233), (.str (so "place") 2234)] 0), #[]⟩
noncomputable def o89 (P : Params) : Obj := ⟨(.type "tuple"), none, (.seq #[] 0), #[]⟩
noncomputable def o90 (P : Params) : Obj := ⟨.none, none, (.func ⟨(so "_law_nothing"), (so "_law_nothing"), paramsAt 8, .stmts (bodyAt 8), scopeAt 8, 0, [], .none, .none, .none, .none, none, .none, .none, 0⟩), #[]⟩
noncomputable def o91 (P : Params) : Obj := ⟨(.type "code"), none, (.fields #[(.str (so "_law_nothing") 2229), (.str (so "_law_nothing") 2230), (.str (so "/claim/cut.py") 2231), (.int (25) 0), (.int (1) 0), (.int (0) 0), (.int (0) 0), (.int (3) 0), (.ref 86), (.bool true), (.int (181) 0), (.ref 87), .none, (.ref 88), (.ref 89), (.ref 90), (.int (2235) 0), (.int (25) 0), (.str (so "/claim/cut.py") 2236)]), #[]⟩
noncomputable def o92 (P : Params) : Obj := ⟨(.type "function"), none, (.func ⟨(so "_law_nothing"), (so "_law_nothing"), paramsAt 8, .stmts (bodyAt 8), scopeAt 8, 3, [], .none, .none, .none, (.str (so "law_mj0194_01") 2227), none, (.ref 91), .none, 0⟩), #[]⟩
noncomputable def o93 (P : Params) : Obj := ⟨(.type "tuple"), none, (.seq #[] 0), #[]⟩
noncomputable def o94 (P : Params) : Obj := ⟨.none, none, (.fields #[]), #[]⟩
noncomputable def o95 (P : Params) : Obj := ⟨(.type "tuple"), none, (.seq #[(.str (so "k") 2241), (.str (so "place") 2242)] 0), #[]⟩
noncomputable def o96 (P : Params) : Obj := ⟨(.type "tuple"), none, (.seq #[] 0), #[]⟩
noncomputable def o97 (P : Params) : Obj := ⟨.none, none, (.func ⟨(so "_law_any"), (so "_law_any"), paramsAt 9, .stmts (bodyAt 9), scopeAt 9, 0, [], .none, .none, .none, .none, none, .none, .none, 0⟩), #[]⟩
noncomputable def o98 (P : Params) : Obj := ⟨(.type "code"), none, (.fields #[(.str (so "_law_any") 2238), (.str (so "_law_any") 2239), (.str (so "/claim/cut.py") 2240), (.int (31) 0), (.int (1) 0), (.int (0) 0), (.int (0) 0), (.int (3) 0), (.ref 93), (.bool true), (.int (181) 0), (.ref 94), .none, (.ref 95), (.ref 96), (.ref 97), (.int (2243) 0), (.int (31) 0), (.str (so "/claim/cut.py") 2244)]), #[]⟩
noncomputable def o99 (P : Params) : Obj := ⟨(.type "function"), none, (.func ⟨(so "_law_any"), (so "_law_any"), paramsAt 9, .stmts (bodyAt 9), scopeAt 9, 3, [], .none, .none, .none, (.str (so "law_mj0194_01") 2227), none, (.ref 98), .none, 0⟩), #[]⟩
noncomputable def o100 (P : Params) : Obj := ⟨(.type "tuple"), none, (.seq #[] 0), #[]⟩
noncomputable def o101 (P : Params) : Obj := ⟨.none, none, (.fields #[]), #[]⟩
noncomputable def o102 (P : Params) : Obj := ⟨(.type "tuple"), none, (.seq #[(.str (so "x") 2249), (.str (so "kind") 2250), (.str (so "rest") 2251), (.str (so "several") 2252), (.str (so "sign") 2253)] 0), #[]⟩
noncomputable def o103 (P : Params) : Obj := ⟨(.type "tuple"), none, (.seq #[] 0), #[]⟩
noncomputable def o104 (P : Params) : Obj := ⟨.none, none, (.func ⟨(so "_law_pair"), (so "_law_pair"), paramsAt 10, .stmts (bodyAt 10), scopeAt 10, 0, [], .none, .none, .none, .none, none, .none, .none, 0⟩), #[]⟩
noncomputable def o105 (P : Params) : Obj := ⟨(.type "code"), none, (.fields #[(.str (so "_law_pair") 2246), (.str (so "_law_pair") 2247), (.str (so "/claim/cut.py") 2248), (.int (36) 0), (.int (1) 0), (.int (0) 0), (.int (0) 0), (.int (3) 0), (.ref 100), (.bool true), (.int (181) 0), (.ref 101), .none, (.ref 102), (.ref 103), (.ref 104), (.int (2254) 0), (.int (36) 0), (.str (so "/claim/cut.py") 2255)]), #[]⟩
noncomputable def o106 (P : Params) : Obj := ⟨(.type "function"), none, (.func ⟨(so "_law_pair"), (so "_law_pair"), paramsAt 10, .stmts (bodyAt 10), scopeAt 10, 3, [], .none, .none, .none, (.str (so "law_mj0194_01") 2227), none, (.ref 105), .none, 0⟩), #[]⟩
noncomputable def o107 (P : Params) : Obj := ⟨(.type "tuple"), none, (.seq #[] 0), #[]⟩
noncomputable def o108 (P : Params) : Obj := ⟨.none, none, (.fields #[]), #[]⟩
noncomputable def o109 (P : Params) : Obj := ⟨.none, none, (.func ⟨(so "_law_pairs"), (so "_law_pairs"), paramsAt 11, .stmts (bodyAt 11), scopeAt 11, 0, [], .none, .none, .none, .none, none, .none, .none, 0⟩), #[]⟩
noncomputable def o110 (P : Params) : Obj := ⟨(.type "code"), none, (.fields #[(.str (so "_law_pairs") 2257), (.str (so "_law_pairs") 2258), (.str (so "/claim/cut.py") 2259), (.int (60) 0), (.int (1) 0), (.int (0) 0), (.int (0) 0), (.int (3) 0), (.ref 107), (.bool true), (.int (181) 0), (.ref 108), .none, .none, .none, (.ref 109), (.int (2260) 0), (.int (60) 0), (.str (so "/claim/cut.py") 2261)]), #[]⟩
noncomputable def o111 (P : Params) : Obj := ⟨(.type "function"), none, (.func ⟨(so "_law_pairs"), (so "_law_pairs"), paramsAt 11, .stmts (bodyAt 11), scopeAt 11, 3, [], .none, .none, .none, (.str (so "law_mj0194_01") 2227), none, (.ref 110), .none, 0⟩), #[]⟩
noncomputable def o112 (P : Params) : Obj := ⟨(.type "tuple"), none, (.seq #[] 0), #[]⟩
noncomputable def o113 (P : Params) : Obj := ⟨.none, none, (.fields #[]), #[]⟩
noncomputable def o114 (P : Params) : Obj := ⟨.none, none, (.func ⟨(so "_law_prepared"), (so "_law_prepared"), paramsAt 12, .stmts (bodyAt 12), scopeAt 12, 0, [], .none, .none, .none, .none, none, .none, .none, 0⟩), #[]⟩
noncomputable def o115 (P : Params) : Obj := ⟨(.type "code"), none, (.fields #[(.str (so "_law_prepared") 2263), (.str (so "_law_prepared") 2264), (.str (so "/claim/cut.py") 2265), (.int (64) 0), (.int (1) 0), (.int (0) 0), (.int (0) 0), (.int (3) 0), (.ref 112), (.bool true), (.int (181) 0), (.ref 113), .none, .none, .none, (.ref 114), (.int (2266) 0), (.int (64) 0), (.str (so "/claim/cut.py") 2267)]), #[]⟩
noncomputable def o116 (P : Params) : Obj := ⟨(.type "function"), none, (.func ⟨(so "_law_prepared"), (so "_law_prepared"), paramsAt 12, .stmts (bodyAt 12), scopeAt 12, 3, [], .none, .none, .none, (.str (so "law_mj0194_01") 2227), none, (.ref 115), .none, 0⟩), #[]⟩
noncomputable def o117 (P : Params) : Obj := ⟨(.type "tuple"), none, (.seq #[] 0), #[]⟩
noncomputable def o118 (P : Params) : Obj := ⟨.none, none, (.fields #[]), #[]⟩
noncomputable def o119 (P : Params) : Obj := ⟨(.type "tuple"), none, (.seq #[(.str (so "pairs") 2272), (.str (so "stops") 2273), (.str (so "name") 2274), (.str (so "sign") 2275), (.str (so "image") 2276)] 0), #[]⟩
noncomputable def o120 (P : Params) : Obj := ⟨(.type "tuple"), none, (.seq #[] 0), #[]⟩
noncomputable def o121 (P : Params) : Obj := ⟨.none, none, (.func ⟨(so "_law_name"), (so "_law_name"), paramsAt 13, .stmts (bodyAt 13), scopeAt 13, 0, [], .none, .none, .none, .none, none, .none, .none, 0⟩), #[]⟩
noncomputable def o122 (P : Params) : Obj := ⟨(.type "code"), none, (.fields #[(.str (so "_law_name") 2269), (.str (so "_law_name") 2270), (.str (so "/claim/cut.py") 2271), (.int (66) 0), (.int (2) 0), (.int (0) 0), (.int (0) 0), (.int (3) 0), (.ref 117), (.bool true), (.int (181) 0), (.ref 118), .none, (.ref 119), (.ref 120), (.ref 121), (.int (2277) 0), (.int (66) 0), (.str (so "/claim/cut.py") 2278)]), #[]⟩
noncomputable def o123 (P : Params) : Obj := ⟨(.type "function"), none, (.func ⟨(so "_law_name"), (so "_law_name"), paramsAt 13, .stmts (bodyAt 13), scopeAt 13, 3, [], .none, .none, .none, (.str (so "law_mj0194_01") 2227), none, (.ref 122), .none, 0⟩), #[]⟩
noncomputable def o124 (P : Params) : Obj := ⟨(.type "tuple"), none, (.seq #[] 0), #[]⟩
noncomputable def o125 (P : Params) : Obj := ⟨.none, none, (.fields #[]), #[]⟩
noncomputable def o126 (P : Params) : Obj := ⟨.none, none, (.func ⟨(so "law"), (so "law"), paramsAt 14, .stmts (bodyAt 14), scopeAt 14, 0, [], .none, .none, .none, .none, none, .none, .none, 0⟩), #[]⟩
noncomputable def o127 (P : Params) : Obj := ⟨(.type "code"), none, (.fields #[(.str (so "law") 2280), (.str (so "law") 2281), (.str (so "/claim/cut.py") 2282), (.int (76) 0), (.int (1) 0), (.int (0) 0), (.int (0) 0), (.int (3) 0), (.ref 124), (.bool true), (.int (181) 0), (.ref 125), .none, .none, .none, (.ref 126), (.int (2283) 0), (.int (76) 0), (.str (so "/claim/cut.py") 2284)]), #[]⟩
noncomputable def o128 (P : Params) : Obj := ⟨(.type "function"), none, (.func ⟨(so "law"), (so "law"), paramsAt 14, .stmts (bodyAt 14), scopeAt 14, 3, [], .none, .none, .none, (.str (so "law_mj0194_01") 2227), none, (.ref 127), .none, 0⟩), #[]⟩
noncomputable def T0 (P : Params) : BT := (.node (boot_o_0 P) (.node (boot_o_1 P) (.node (boot_o_3 P) (.node (boot_o_7 P) .nil .nil) .nil) (.node (boot_o_5 P) (.node (boot_o_9 P) .nil .nil) .nil)) (.node (boot_o_2 P) (.node (boot_o_4 P) (.node (boot_o_8 P) .nil .nil) .nil) (.node (boot_o_6 P) (.node (boot_o_10 P) .nil .nil) .nil)))
noncomputable def Tpre (P : Params) : BT := (.node (boot_o_0 P) (.node (boot_o_1 P) (.node (boot_o_3 P) (.node (boot_o_7 P) .nil .nil) (.node (o11 P) .nil .nil)) (.node (boot_o_5 P) (.node (boot_o_9 P) .nil .nil) (.node (o13 P) .nil .nil))) (.node (boot_o_2 P) (.node (boot_o_4 P) (.node (boot_o_8 P) .nil .nil) (.node (o12 P) .nil .nil)) (.node (boot_o_6 P) (.node (boot_o_10 P) .nil .nil) (.node (o14 P) .nil .nil))))
noncomputable def T5 (P : Params) : BT := (.node (boot_o_0 P) (.node (boot_o_1 P) (.node (o3 P) (.node (boot_o_7 P) (.node (o15 P) (.node (o31 P) .nil .nil) .nil) (.node (o23 P) (.node (o39 P) .nil .nil) .nil)) (.node (o11 P) (.node (o19 P) (.node (o35 P) .nil .nil) .nil) (.node (o27 P) .nil .nil))) (.node (boot_o_5 P) (.node (boot_o_9 P) (.node (o17 P) (.node (o33 P) .nil .nil) .nil) (.node (o25 P) .nil .nil)) (.node (o13 P) (.node (o21 P) (.node (o37 P) .nil .nil) .nil) (.node (o29 P) .nil .nil)))) (.node (boot_o_2 P) (.node (boot_o_4 P) (.node (boot_o_8 P) (.node (o16 P) (.node (o32 P) .nil .nil) .nil) (.node (o24 P) .nil .nil)) (.node (o12b P) (.node (o20 P) (.node (o36 P) .nil .nil) .nil) (.node (o28 P) .nil .nil))) (.node (boot_o_6 P) (.node (boot_o_10 P) (.node (o18 P) (.node (o34 P) .nil .nil) .nil) (.node (o26 P) .nil .nil)) (.node (o14 P) (.node (o22 P) (.node (o38 P) .nil .nil) .nil) (.node (o30 P) .nil .nil)))))
noncomputable def T6 (P : Params) (x : Nat → Obj) : BT := (.node (boot_o_0 P) (.node (boot_o_1 P) (.node (o3b P) (.node (boot_o_7 P) (.node (o15 P) (.node (o31 P) (.node (x 63) .nil .nil) .nil) (.node (x 47) .nil .nil)) (.node (o23 P) (.node (o39 P) (.node (x 71) .nil .nil) .nil) (.node (x 55) .nil .nil))) (.node (o11 P) (.node (o19 P) (.node (o35 P) (.node (x 67) .nil .nil) .nil) (.node (x 51) .nil .nil)) (.node (o27 P) (.node (x 43) (.node (x 75) .nil .nil) .nil) (.node (x 59) .nil .nil)))) (.node (boot_o_5 P) (.node (boot_o_9 P) (.node (o17 P) (.node (o33 P) (.node (x 65) .nil .nil) .nil) (.node (x 49) .nil .nil)) (.node (o25 P) (.node (x 41) (.node (x 73) .nil .nil) .nil) (.node (x 57) .nil .nil))) (.node (o13 P) (.node (o21 P) (.node (o37 P) (.node (x 69) .nil .nil) .nil) (.node (x 53) .nil .nil)) (.node (o29 P) (.node (x 45) (.node (x 77) .nil .nil) .nil) (.node (x 61) .nil .nil))))) (.node (boot_o_2 P) (.node (boot_o_4 P) (.node (boot_o_8 P) (.node (o16 P) (.node (o32 P) (.node (x 64) .nil .nil) .nil) (.node (x 48) .nil .nil)) (.node (o24 P) (.node (x 40) (.node (x 72) .nil .nil) .nil) (.node (x 56) .nil .nil))) (.node (o12b P) (.node (o20 P) (.node (o36 P) (.node (x 68) .nil .nil) .nil) (.node (x 52) .nil .nil)) (.node (o28 P) (.node (x 44) (.node (x 76) .nil .nil) .nil) (.node (x 60) .nil .nil)))) (.node (boot_o_6 P) (.node (boot_o_10 P) (.node (o18 P) (.node (o34 P) (.node (x 66) .nil .nil) .nil) (.node (x 50) .nil .nil)) (.node (o26 P) (.node (x 42) (.node (x 74) .nil .nil) .nil) (.node (x 58) .nil .nil))) (.node (o14 P) (.node (o22 P) (.node (o38 P) (.node (x 70) .nil .nil) .nil) (.node (x 54) .nil .nil)) (.node (o30 P) (.node (x 46) (.node (x 78) .nil .nil) .nil) (.node (x 62) .nil .nil))))))
noncomputable def T15 (P : Params) (x : Nat → Obj) : BT := (.node (boot_o_0 P) (.node (boot_o_1 P) (.node (o3c P) (.node (boot_o_7 P) (.node (o15 P) (.node (o31 P) (.node (x 63) (.node (o127 P) .nil .nil) .nil) (.node (o95 P) .nil .nil)) (.node (x 47) (.node (o79 P) .nil .nil) (.node (o111 P) .nil .nil))) (.node (o23 P) (.node (o39 P) (.node (x 71) .nil .nil) (.node (o103 P) .nil .nil)) (.node (x 55) (.node (o87 P) .nil .nil) (.node (o119 P) .nil .nil)))) (.node (o11 P) (.node (o19 P) (.node (o35 P) (.node (x 67) .nil .nil) (.node (o99 P) .nil .nil)) (.node (x 51) (.node (o83 P) .nil .nil) (.node (o115 P) .nil .nil))) (.node (o27 P) (.node (x 43) (.node (x 75) .nil .nil) (.node (o107 P) .nil .nil)) (.node (x 59) (.node (o91 P) .nil .nil) (.node (o123 P) .nil .nil))))) (.node (boot_o_5 P) (.node (boot_o_9 P) (.node (o17 P) (.node (o33 P) (.node (x 65) .nil .nil) (.node (o97 P) .nil .nil)) (.node (x 49) (.node (o81 P) .nil .nil) (.node (o113 P) .nil .nil))) (.node (o25 P) (.node (x 41) (.node (x 73) .nil .nil) (.node (o105 P) .nil .nil)) (.node (x 57) (.node (o89 P) .nil .nil) (.node (o121 P) .nil .nil)))) (.node (o13 P) (.node (o21 P) (.node (o37 P) (.node (x 69) .nil .nil) (.node (o101 P) .nil .nil)) (.node (x 53) (.node (o85 P) .nil .nil) (.node (o117 P) .nil .nil))) (.node (o29 P) (.node (x 45) (.node (x 77) .nil .nil) (.node (o109 P) .nil .nil)) (.node (x 61) (.node (o93 P) .nil .nil) (.node (o125 P) .nil .nil)))))) (.node (boot_o_2 P) (.node (boot_o_4 P) (.node (boot_o_8 P) (.node (o16 P) (.node (o32 P) (.node (x 64) (.node (o128 P) .nil .nil) .nil) (.node (o96 P) .nil .nil)) (.node (x 48) (.node (o80 P) .nil .nil) (.node (o112 P) .nil .nil))) (.node (o24 P) (.node (x 40) (.node (x 72) .nil .nil) (.node (o104 P) .nil .nil)) (.node (x 56) (.node (o88 P) .nil .nil) (.node (o120 P) .nil .nil)))) (.node (o12c P) (.node (o20 P) (.node (o36 P) (.node (x 68) .nil .nil) (.node (o100 P) .nil .nil)) (.node (x 52) (.node (o84 P) .nil .nil) (.node (o116 P) .nil .nil))) (.node (o28 P) (.node (x 44) (.node (x 76) .nil .nil) (.node (o108 P) .nil .nil)) (.node (x 60) (.node (o92 P) .nil .nil) (.node (o124 P) .nil .nil))))) (.node (boot_o_6 P) (.node (boot_o_10 P) (.node (o18 P) (.node (o34 P) (.node (x 66) .nil .nil) (.node (o98 P) .nil .nil)) (.node (x 50) (.node (o82 P) .nil .nil) (.node (o114 P) .nil .nil))) (.node (o26 P) (.node (x 42) (.node (x 74) .nil .nil) (.node (o106 P) .nil .nil)) (.node (x 58) (.node (o90 P) .nil .nil) (.node (o122 P) .nil .nil)))) (.node (o14 P) (.node (o22 P) (.node (o38 P) (.node (x 70) .nil .nil) (.node (o102 P) .nil .nil)) (.node (x 54) (.node (o86 P) .nil .nil) (.node (o118 P) .nil .nil))) (.node (o30 P) (.node (x 46) (.node (x 78) .nil .nil) (.node (o110 P) .nil .nil)) (.node (x 62) (.node (o94 P) .nil .nil) (.node (o126 P) .nil .nil)))))))
noncomputable def S0 (P : Params) (os : OsState) : SharedT := ⟨T0 P, 11, (boot_heap P).life, #[], boot_drawn, 181, os⟩
noncomputable def Spre (P : Params) (os : OsState) : SharedT := ⟨Tpre P, 15, (boot_heap P).life, #[], boot_drawn, 187, os⟩
noncomputable def S5 (P : Params) (os : OsState) : SharedT := ⟨T5 P, 40, (boot_heap P).life, #[], boot_drawn, 268, os⟩
noncomputable def S6 (P : Params) (x : Nat → Obj) (lf : Life) (os : OsState) : SharedT := ⟨T6 P x, 79, lf, #[], boot_drawn, 2219, os⟩
noncomputable def S15 (P : Params) (x : Nat → Obj) (lf : Life) (os : OsState) : SharedT := ⟨T15 P x, 129, lf, #[], boot_drawn, 2286, os⟩
noncomputable def T5x (P : Params) (x : Nat → Obj) : BT := (.node (boot_o_0 P) (.node (boot_o_1 P) (.node (o3 P) (.node (boot_o_7 P) (.node (o15 P) (.node (o31 P) (.node (x 63) .nil .nil) .nil) (.node (x 47) .nil .nil)) (.node (o23 P) (.node (o39 P) (.node (x 71) .nil .nil) .nil) (.node (x 55) .nil .nil))) (.node (o11 P) (.node (o19 P) (.node (o35 P) (.node (x 67) .nil .nil) .nil) (.node (x 51) .nil .nil)) (.node (o27 P) (.node (x 43) (.node (x 75) .nil .nil) .nil) (.node (x 59) .nil .nil)))) (.node (boot_o_5 P) (.node (boot_o_9 P) (.node (o17 P) (.node (o33 P) (.node (x 65) .nil .nil) .nil) (.node (x 49) .nil .nil)) (.node (o25 P) (.node (x 41) (.node (x 73) .nil .nil) .nil) (.node (x 57) .nil .nil))) (.node (o13 P) (.node (o21 P) (.node (o37 P) (.node (x 69) .nil .nil) .nil) (.node (x 53) .nil .nil)) (.node (o29 P) (.node (x 45) (.node (x 77) .nil .nil) .nil) (.node (x 61) .nil .nil))))) (.node (boot_o_2 P) (.node (boot_o_4 P) (.node (boot_o_8 P) (.node (o16 P) (.node (o32 P) (.node (x 64) .nil .nil) .nil) (.node (x 48) .nil .nil)) (.node (o24 P) (.node (x 40) (.node (x 72) .nil .nil) .nil) (.node (x 56) .nil .nil))) (.node (o12b P) (.node (o20 P) (.node (o36 P) (.node (x 68) .nil .nil) .nil) (.node (x 52) .nil .nil)) (.node (o28 P) (.node (x 44) (.node (x 76) .nil .nil) .nil) (.node (x 60) .nil .nil)))) (.node (boot_o_6 P) (.node (boot_o_10 P) (.node (o18 P) (.node (o34 P) (.node (x 66) .nil .nil) .nil) (.node (x 50) .nil .nil)) (.node (o26 P) (.node (x 42) (.node (x 74) .nil .nil) .nil) (.node (x 58) .nil .nil))) (.node (o14 P) (.node (o22 P) (.node (o38 P) (.node (x 70) .nil .nil) .nil) (.node (x 54) .nil .nil)) (.node (o30 P) (.node (x 46) (.node (x 78) .nil .nil) .nil) (.node (x 62) .nil .nil))))))
noncomputable def S5x (P : Params) (x : Nat → Obj) (lf : Life) (os : OsState) : SharedT := ⟨T5x P x, 79, lf, #[], boot_drawn, 2218, os⟩
end Mine

namespace Mine
noncomputable abbrev stOf (w : World) : Setting := ⟨P0, w.params⟩
theorem S0_abs (P : Params) (os : OsState) : (S0 P os).abs = ⟨boot_heap P, #[], boot_drawn, boot_toks, os⟩ := rfl
noncomputable def benv : Env := { scope := P0.main.scope, locals := mainNs, globals := mainNs, cells := [], code := .ref 13, frame := some 14 }
def evx {α : Type} (St : Setting) (cf : Ctx → Pos → SharedT → Option (Result × SharedT)) (Γ : Ctx) (t : Sem α) (p : Pos) (s : SharedT) : Option (Except Value α × SharedT) :=
  match ev St cf Γ t p s with | some (r, _, s') => some (r, s') | none => none
theorem wpAny_of_evx {α : Type} {w : World} {A : Around} {t : Sem α} {s s' : SharedT} {a : α} {n : Nat} {Q : α → Shared → Prop} {E : Value → Shared → Prop}
    (h : ∀ Γ p, evx (stOf w) (evCall den (stOf w) n) Γ t p s = some (.ok a, s')) (q : Q a s'.abs) : wpAny (model P0 w) A t Q E s.abs := fun Γ p _ => by
  have h := h Γ p
  unfold evx at h
  cases g : ev (stOf w) (evCall den (stOf w) n) Γ t p s with
  | none => rw [g] at h; cases h
  | some x =>
    obtain ⟨r, p', s₁⟩ := x
    rw [g] at h
    cases h
    exact wp_of_ev (M := model P0 w) (evCall_ok den_eq n) t p s _ p' _ _ _ g q
/-- the same where nothing is handled -/
theorem wpAny_of_evx0 {α : Type} {w : World} {A : Around} {t : Sem α} {s s' : SharedT} {a : α} {n : Nat} {Q : α → Shared → Prop} {E : Value → Shared → Prop} (hA : A.handled = none)
    (h : ∀ c ow be ls p, evx (stOf w) (evCall den (stOf w) n) ⟨c, none, ow, be, ls⟩ t p s = some (.ok a, s')) (q : Q a s'.abs) : wpAny (model P0 w) A t Q E s.abs := fun Γ p hΓ => by
  obtain ⟨c, hd, ow, be, ls⟩ := Γ
  obtain rfl : hd = none := hΓ.1.trans hA
  have h := h c ow be ls p
  unfold evx at h
  cases g : ev (stOf w) (evCall den (stOf w) n) ⟨c, none, ow, be, ls⟩ t p s with
  | none => rw [g] at h; cases h
  | some x =>
    obtain ⟨r, p', s₁⟩ := x
    rw [g] at h
    cases h
    exact wp_of_ev (M := model P0 w) (evCall_ok den_eq n) t p s _ p' _ _ _ g q
theorem pre_ok (w : World) (os : OsState) (Γ : Ctx) (p : Pos) :
  evx (stOf w) (evCall den (stOf w) 100) Γ (do let code ← moduleCode P0.main; let frame ← newBodyFrame code mainNs mainNs; pure (code, frame)) p (S0 w.params os) = some (.ok (.ref 13, 14), Spre w.params os) := by kernel_rfl
theorem b2_ok (w : World) (x : Nat → Obj) (lf : Life) (os : OsState) (Γ : Ctx) (p : Pos) : evx (stOf w) (evCall den (stOf w) 100) Γ (execs [stAt 6, stAt 7, stAt 8, stAt 9, stAt 10, stAt 11, stAt 12, stAt 13, stAt 14] benv) p (S6 w.params x lf os) = some (.ok .next, S15 w.params x lf os) := by kernel_rfl
theorem st_ok (w : World) (x : Nat → Obj) (lf : Life) (os : OsState) (Γ : Ctx) (p : Pos) : evx (stOf w) (evCall den (stOf w) 100) Γ (storeName benv (so "b3_exceptions") (.ref 40)) p (S5x w.params x lf os) = some (.ok (), S6 w.params x lf os) := by kernel_rfl
end Mine

namespace Mine
noncomputable abbrev wAt (w : World) (a b : Bool) : World := (w.withFollow "special-get-raises" a).withFollow "set-order" b
theorem b1_ff (w : World) (os : OsState) (c : Code) (ow : Option Value) (be : List (Code × Pos)) (ls : Option Value) (p : Pos) :
   evx (stOf (wAt w false false)) (evCall den (stOf (wAt w false false)) 3000) ⟨c, none, ow, be, ls⟩ (execs [stAt 0, stAt 1, stAt 2, stAt 3, stAt 4] benv) p (Spre (wAt w false false).params os) = some (.ok .next, S5 (wAt w false false).params os) := by kernel_rfl
theorem b1_ft (w : World) (os : OsState) (c : Code) (ow : Option Value) (be : List (Code × Pos)) (ls : Option Value) (p : Pos) :
   evx (stOf (wAt w false true)) (evCall den (stOf (wAt w false true)) 3000) ⟨c, none, ow, be, ls⟩ (execs [stAt 0, stAt 1, stAt 2, stAt 3, stAt 4] benv) p (Spre (wAt w false true).params os) = some (.ok .next, S5 (wAt w false true).params os) := by kernel_rfl
theorem b1_tf (w : World) (os : OsState) (c : Code) (ow : Option Value) (be : List (Code × Pos)) (ls : Option Value) (p : Pos) :
   evx (stOf (wAt w true false)) (evCall den (stOf (wAt w true false)) 3000) ⟨c, none, ow, be, ls⟩ (execs [stAt 0, stAt 1, stAt 2, stAt 3, stAt 4] benv) p (Spre (wAt w true false).params os) = some (.ok .next, S5 (wAt w true false).params os) := by kernel_rfl
theorem b1_tt (w : World) (os : OsState) (c : Code) (ow : Option Value) (be : List (Code × Pos)) (ls : Option Value) (p : Pos) :
   evx (stOf (wAt w true true)) (evCall den (stOf (wAt w true true)) 3000) ⟨c, none, ow, be, ls⟩ (execs [stAt 0, stAt 1, stAt 2, stAt 3, stAt 4] benv) p (Spre (wAt w true true).params os) = some (.ok .next, S5 (wAt w true true).params os) := by kernel_rfl
theorem wAt_self (w : World) : wAt w (w.params.followText "special-get-raises") ((w.withFollow "special-get-raises" (w.params.followText "special-get-raises")).params.followText "set-order") = w := by
  unfold wAt
  rw [World.withFollow_self, World.withFollow_self]
theorem wAt_self' (w : World) : wAt w (w.params.followText "special-get-raises") (w.params.followText "set-order") = w := by
  have := wAt_self w
  rwa [World.withFollow_self] at this
theorem b1_ok (w : World) (os : OsState) (c : Code) (ow : Option Value) (be : List (Code × Pos)) (ls : Option Value) (p : Pos) :
   evx (stOf w) (evCall den (stOf w) 3000) ⟨c, none, ow, be, ls⟩ (execs [stAt 0, stAt 1, stAt 2, stAt 3, stAt 4] benv) p (Spre w.params os) = some (.ok .next, S5 w.params os) := by
  have e := wAt_self' w
  cases h1 : w.params.followText "special-get-raises" <;> cases h2 : w.params.followText "set-order" <;> rw [h1, h2] at e
  · have := b1_ff w os c ow be ls p; rwa [e] at this
  · have := b1_ft w os c ow be ls p; rwa [e] at this
  · have := b1_tf w os c ow be ls p; rwa [e] at this
  · have := b1_tt w os c ow be ls p; rwa [e] at this
end Mine

namespace Mine

/-- the pairs that a written display of ints and texts shows -/
def litPairs : List (Option Expr) → List Expr → Option (List (Int × Str))
  | [], [] => some []
  | some (.Constant (.int k) _ _) :: ks, .Constant (.str x) _ _ :: vs => (litPairs ks vs).map ((k, x) :: ·)
  | _, _ => none

theorem items_of {prog : Program} {w : World} {A : Around} {env : Env} {pos : Pos} : ∀ (ks : List (Option Expr)) (vs : List Expr) (kvs : List (Int × Str)), litPairs ks vs = some kvs →
    ∃ its, (evalEachOpt ks env).zip ((evalEach vs env).map fun v => do let x ← v; standAt pos; pure x) = its.map (fun p => (some p.1, p.2)) ∧ Items prog w A its kvs := by
  intro ks vs
  fun_induction litPairs ks vs with
  | case1 => intro kvs h; cases h; exact ⟨[], rfl, .nil⟩
  | case2 k c p ks x c' p' vs ih =>
    intro kvs h
    obtain ⟨r, hr, rfl⟩ := Option.map_eq_some_iff.mp h
    obtain ⟨its, e, hi⟩ := ih r hr
    refine ⟨(eval (.Constant (.int k) c p) env, do let y ← eval (.Constant (.str x) c' p') env; standAt pos; pure y) :: its, ?_, .cons ⟨?_, ?_⟩ hi⟩
    · show (evalOpt (some (.Constant (.int k) c p)) env, _) :: _ = _
      rw [List.map_cons, ← e]
      rfl
    · intro s Q E q; exact wpAny_Constant_int (env := env) (k := c) (pos := p) q
    · intro s Q E q; exact wpAny_bind (wpAny_Constant_str (env := env) (k := c') (pos := p') (wpAny_bind (wpAny_standAt (wpAny_pure q))))
  | case3 => intro kvs h; cases h

noncomputable def dv : Expr := match stAt 5 with | .Assign _ v _ => v | _ => default
noncomputable def dks : List (Option Expr) := match dv with | .Dict ks _ _ => ks | _ => []
noncomputable def dvs : List Expr := match dv with | .Dict _ vs _ => vs | _ => []
noncomputable def dpos : Pos := match dv with | .Dict _ _ p => p | _ => default
noncomputable def spos : Pos := match stAt 5 with | .Assign _ _ p => p | _ => default
noncomputable def npos : Pos := match stAt 5 with | .Assign [.Name _ p] _ _ => p | _ => default
noncomputable def tab : List (Int × Str) := (litPairs dks dvs).getD []
theorem st5_eq : stAt 5 = .Assign [.Name (so "b3_exceptions") npos] (.Dict dks dvs dpos) spos := by kernel_rfl
theorem tab_eq : litPairs dks dvs = some tab := by kernel_rfl
theorem tab_len : tab.length = 650 := by kernel_rfl
theorem t5x_low (P : Params) (x : Nat → Obj) : ∀ i, i < 40 → ∃ o, (T5 P).get i = some o ∧ alive o = some o ∧ (T5x P x).get i = some o
  | 0, _ => ⟨_, rfl, rfl, rfl⟩
  | 1, _ => ⟨_, rfl, rfl, rfl⟩
  | 2, _ => ⟨_, rfl, rfl, rfl⟩
  | 3, _ => ⟨_, rfl, rfl, rfl⟩
  | 4, _ => ⟨_, rfl, rfl, rfl⟩
  | 5, _ => ⟨_, rfl, rfl, rfl⟩
  | 6, _ => ⟨_, rfl, rfl, rfl⟩
  | 7, _ => ⟨_, rfl, rfl, rfl⟩
  | 8, _ => ⟨_, rfl, rfl, rfl⟩
  | 9, _ => ⟨_, rfl, rfl, rfl⟩
  | 10, _ => ⟨_, rfl, rfl, rfl⟩
  | 11, _ => ⟨_, rfl, rfl, rfl⟩
  | 12, _ => ⟨_, rfl, rfl, rfl⟩
  | 13, _ => ⟨_, rfl, rfl, rfl⟩
  | 14, _ => ⟨_, rfl, rfl, rfl⟩
  | 15, _ => ⟨_, rfl, rfl, rfl⟩
  | 16, _ => ⟨_, rfl, rfl, rfl⟩
  | 17, _ => ⟨_, rfl, rfl, rfl⟩
  | 18, _ => ⟨_, rfl, rfl, rfl⟩
  | 19, _ => ⟨_, rfl, rfl, rfl⟩
  | 20, _ => ⟨_, rfl, rfl, rfl⟩
  | 21, _ => ⟨_, rfl, rfl, rfl⟩
  | 22, _ => ⟨_, rfl, rfl, rfl⟩
  | 23, _ => ⟨_, rfl, rfl, rfl⟩
  | 24, _ => ⟨_, rfl, rfl, rfl⟩
  | 25, _ => ⟨_, rfl, rfl, rfl⟩
  | 26, _ => ⟨_, rfl, rfl, rfl⟩
  | 27, _ => ⟨_, rfl, rfl, rfl⟩
  | 28, _ => ⟨_, rfl, rfl, rfl⟩
  | 29, _ => ⟨_, rfl, rfl, rfl⟩
  | 30, _ => ⟨_, rfl, rfl, rfl⟩
  | 31, _ => ⟨_, rfl, rfl, rfl⟩
  | 32, _ => ⟨_, rfl, rfl, rfl⟩
  | 33, _ => ⟨_, rfl, rfl, rfl⟩
  | 34, _ => ⟨_, rfl, rfl, rfl⟩
  | 35, _ => ⟨_, rfl, rfl, rfl⟩
  | 36, _ => ⟨_, rfl, rfl, rfl⟩
  | 37, _ => ⟨_, rfl, rfl, rfl⟩
  | 38, _ => ⟨_, rfl, rfl, rfl⟩
  | 39, _ => ⟨_, rfl, rfl, rfl⟩
  | n + 40, h => absurd h (by omega)
theorem t5x_high (P : Params) (x : Nat → Obj) : ∀ i, i < 39 → (T5x P x).get (i + 40) = some (x (i + 40))
  | 0, _ => rfl
  | 1, _ => rfl
  | 2, _ => rfl
  | 3, _ => rfl
  | 4, _ => rfl
  | 5, _ => rfl
  | 6, _ => rfl
  | 7, _ => rfl
  | 8, _ => rfl
  | 9, _ => rfl
  | 10, _ => rfl
  | 11, _ => rfl
  | 12, _ => rfl
  | 13, _ => rfl
  | 14, _ => rfl
  | 15, _ => rfl
  | 16, _ => rfl
  | 17, _ => rfl
  | 18, _ => rfl
  | 19, _ => rfl
  | 20, _ => rfl
  | 21, _ => rfl
  | 22, _ => rfl
  | 23, _ => rfl
  | 24, _ => rfl
  | 25, _ => rfl
  | 26, _ => rfl
  | 27, _ => rfl
  | 28, _ => rfl
  | 29, _ => rfl
  | 30, _ => rfl
  | 31, _ => rfl
  | 32, _ => rfl
  | 33, _ => rfl
  | 34, _ => rfl
  | 35, _ => rfl
  | 36, _ => rfl
  | 37, _ => rfl
  | 38, _ => rfl
  | n + 39, h => absurd h (by omega)

theorem get_objs {h : Heap} {a : Addr} {o : Obj} (e : h.get? a = some o) : h.objs[a]? = some o := by
  unfold Heap.get? at e
  cases g : h.objs[a]? with
  | none => rw [g] at e; cases e
  | some o' =>
    rw [g] at e
    obtain ⟨c, d, dt, sl⟩ := o'
    cases dt <;> first | exact e | cases e

theorem heap_as {P : Params} {os : OsState} {h : Heap} (hsz : h.objs.size = 79) (hget : ∀ a, a < 40 → h.get? a = (S5 P os).abs.heap.get? a) :
    h = absHeap (T5x P (fun i => h.objs.getD i default)) 79 h.life := by
  have key : h.objs = (absHeap (T5x P (fun i => h.objs.getD i default)) 79 h.life).objs := by
    apply Array.ext_getElem?
    intro i
    rw [absHeap_at]
    by_cases h1 : i < 40
    · obtain ⟨o, e1, e2, e3⟩ := t5x_low P (fun i => h.objs.getD i default) i h1
      rw [if_pos (by omega), e3]
      refine get_objs ((hget i h1).trans ?_)
      exact (abs_get h1 e1).trans e2
    · by_cases h2 : i < 79
      · rw [if_pos h2]
        obtain ⟨j, rfl⟩ : ∃ j, i = j + 40 := ⟨i - 40, by omega⟩
        rw [t5x_high P _ j (by omega)]
        have : j + 40 < h.objs.size := by omega
        rw [Array.getElem?_eq_getElem this]
        simp [Array.getD, this]
      · rw [if_neg h2, Array.getElem?_eq_none (by omega)]
  obtain ⟨ob, l⟩ := h
  exact congrArg (fun a => Heap.mk a l) key
end Mine

namespace Mine

def asc : List Int → Bool
  | a :: b :: r => decide (a < b) && asc (b :: r)
  | _ => true
theorem asc_pair : ∀ {l : List Int} {a : Int}, asc (a :: l) = true → ∀ b ∈ l, a < b
  | [], _, _, b, hb => by cases hb
  | c :: r, a, h, b, hb => by
    obtain ⟨h1, h2⟩ := Bool.and_eq_true_iff.mp (h : (decide (a < c) && asc (c :: r)) = true)
    have h1 : a < c := of_decide_eq_true h1
    rcases List.mem_cons.mp hb with rfl | hb
    · exact h1
    · have := asc_pair h2 b hb; omega
theorem asc_tail {a : Int} : ∀ {l : List Int}, asc (a :: l) = true → asc l = true
  | [], _ => rfl
  | c :: r, h => (Bool.and_eq_true_iff.mp (h : (decide (a < c) && asc (c :: r)) = true)).2
theorem asc_nodup : ∀ {l : List Int}, asc l = true → l.Nodup
  | [], _ => List.nodup_nil
  | a :: l, h => List.nodup_cons.mpr ⟨fun m => by have := asc_pair h a m; omega, asc_nodup (asc_tail h)⟩
theorem tab_asc : asc (tab.map (·.1)) = true := by kernel_rfl

theorem dict_assign {prog : Program} {w : World} {A : Around} {Q : Flow → Shared → Prop} {E : Value → Shared → Prop} {s : Shared} {env : Env} {x : Str} {np dp sp : Pos} {ks : List (Option Expr)} {vs : List Expr} {kvs : List (Int × Str)}
    (hk : litPairs ks vs = some kvs) (h : ∀ its, Items prog w A its kvs → wpAny (model prog w) A (dictDisplay (its.map fun p => (some p.1, p.2))) (fun v s₁ => wpAny (model prog w) A (storeName env x v) (fun _ => Q .next) E s₁) E s) :
    wpAny (model prog w) A (exec (.Assign [.Name x np] (.Dict ks vs dp) sp) env) Q E s := by
  refine wpAny_Assign_Name ?_
  rw [arm_eval_Dict]
  obtain ⟨its, e, hi⟩ := items_of (prog := prog) (w := w) (A := A) (env := env) (pos := dp) ks vs kvs hk
  rw [e]
  exact wpAny_bind (wpAny_standAt (h its hi))

theorem after_dict {w : World} {h' : Heap} {vs : List (Int × Value)} {os : OsState} (hd : h'.DictOf (intKind P0 w) 40 vs) (hg : ∀ a, a < 40 → h'.get? a = (S5 w.params os).abs.heap.get? a) (hs : h'.objs.size = 79) :
    ∃ x lf, alive (x 40) = some (x 40) ∧ (x 40).IsDictOf (intKind P0 w) vs ∧ ({ (S5 w.params os).abs with heap := h', toks := 268 + 3 * 650 } : Shared) = (S5x w.params x lf os).abs := by
  have ha := heap_as (P := w.params) (os := os) hs hg
  obtain ⟨o, ho, hd⟩ := Heap.dictOf_iff.mp hd
  have hx : (h'.objs.getD 40 default) = o := by
    have := get_objs ho
    rw [Array.getD_eq_getD_getElem?, this]; rfl
  have hal : alive o = some o := by
    have h2 := ho
    unfold Heap.get? at h2
    rw [get_objs ho] at h2
    obtain ⟨c, d, dt, sl⟩ := o
    cases dt <;> first | rfl | cases h2
  refine ⟨fun i => h'.objs.getD i default, h'.life, ?_, ?_, ?_⟩
  · show alive (h'.objs.getD 40 default) = some (h'.objs.getD 40 default)
    rw [hx]; exact hal
  · show (h'.objs.getD 40 default).IsDictOf _ _
    rw [hx]; exact hd
  · show Shared.mk h' _ _ _ _ = Shared.mk (absHeap (T5x w.params (fun i => h'.objs.getD i default)) 79 h'.life) _ _ _ _
    rw [← ha]
    rfl

theorem tab_ne : tab.length % 17 ≠ 0 := by rw [tab_len]; decide
theorem tab_le : tab.length ≤ sizeLine := by rw [tab_len]; decide
theorem z5 (w : World) (os : OsState) : (S5 w.params os).abs.heap.objs.size = 40 := absHeap_size _ _ _
theorem t5 (w : World) (os : OsState) : (S5 w.params os).abs.toks = 268 := rfl
theorem st5_go {w : World} {A : Around} {Q : Flow → Shared → Prop} {E : Value → Shared → Prop} {os : OsState}
    (hQ : ∀ x lf vs, Strs vs tab → alive (x 40) = some (x 40) → (x 40).IsDictOf (intKind P0 w) vs → Q .next (S6 w.params x lf os).abs) :
    ∀ its, Items P0 w A its tab → wpAny (model P0 w) A (dictDisplay (its.map fun p => (some p.1, p.2))) (fun v s₁ => wpAny (model P0 w) A (storeName benv (so "b3_exceptions") v) (fun _ => Q .next) E s₁) E (S5 w.params os).abs := by
  intro its hi
  refine display (by rw [z5]; decide) hi tab_ne (asc_nodup tab_asc) tab_le fun vs h' hv hd hg hs => ?_
  rw [z5] at hd hg hs ⊢
  rw [tab_len] at hs ⊢
  rw [t5]
  obtain ⟨x, lf, c1, c2, c3⟩ := after_dict (os := os) hd hg hs
  rw [c3]
  exact wpAny_of_evx (fun Γ p => st_ok w x lf os Γ p) (hQ x lf vs hv c1 c2)

theorem st5_ok {w : World} {A : Around} {Q : Flow → Shared → Prop} {E : Value → Shared → Prop} {os : OsState}
    (hQ : ∀ x lf vs, Strs vs tab → alive (x 40) = some (x 40) → (x 40).IsDictOf (intKind P0 w) vs → Q .next (S6 w.params x lf os).abs) :
    wpAny (model P0 w) A (exec (stAt 5) benv) Q E (S5 w.params os).abs :=
  st5_eq ▸ @dict_assign P0 w A Q E (S5 w.params os).abs benv (so "b3_exceptions") npos dpos spos dks dvs tab tab_eq (st5_go hQ)

theorem wp_execs_append {M : Model} {Γ : Ctx} {env : Env} {Q : Flow → Pos → Shared → Prop} {E : Value → Pos → Shared → Prop} : ∀ (l₁ l₂ : List Stmt) (p : Pos) (s : Shared),
    Sem.wp M Γ (execs l₁ env) (fun f p' s' => match f with | .next => Sem.wp M Γ (execs l₂ env) Q E p' s' | f => Q f p' s') E p s → Sem.wp M Γ (execs (l₁ ++ l₂) env) Q E p s
  | [], l₂, p, s, h => h
  | st :: l₁, l₂, p, s, h => by
    rw [List.cons_append, execs_cons, Sem.wp_bind']
    rw [execs_cons, Sem.wp_bind'] at h
    refine Sem.wp_mono M Γ _ (fun f p' s' h' => ?_) (fun _ _ _ h' => h') _ _ h
    cases f with
    | next => exact wp_execs_append l₁ l₂ p' s' h'
    | _ => exact h'
theorem wpAny_execs_append {M : Model} {A : Around} {env : Env} {Q : Flow → Shared → Prop} {E : Value → Shared → Prop} {s : Shared} (l₁ l₂ : List Stmt)
    (h : wpAny M A (execs l₁ env) (fun f s' => match f with | .next => wpAny M A (execs l₂ env) Q E s' | f => Q f s') E s) : wpAny M A (execs (l₁ ++ l₂) env) Q E s := fun Γ p hΓ => by
  refine wp_execs_append l₁ l₂ p s ?_
  refine Sem.wp_mono M Γ _ (fun f p' s' h' => ?_) (fun _ _ _ h' => h') _ _ (h Γ p hΓ)
  cases f with
  | next => exact h' Γ p' hΓ
  | _ => exact h'

theorem wpAny_two {M : Model} {A : Around} {α β γ : Type} {m₁ : Sem α} {m₂ : α → Sem β} {k : α → β → Sem γ} {Q : γ → Shared → Prop} {E : Value → Shared → Prop} {s : Shared}
    (h : wpAny M A (do let a ← m₁; let b ← m₂ a; pure (a, b)) (fun ab s' => wpAny M A (k ab.1 ab.2) Q E s') E s) : wpAny M A (do let a ← m₁; let b ← m₂ a; k a b) Q E s := fun Γ p hΓ => by
  have h := h Γ p hΓ
  rw [Sem.wp_bind'] at h ⊢
  refine Sem.wp_mono M Γ _ (fun a p' s' h' => ?_) (fun _ _ _ h' => h') _ _ h
  rw [Sem.wp_bind'] at h' ⊢
  refine Sem.wp_mono M Γ _ (fun b p' s' h' => ?_) (fun _ _ _ h' => h') _ _ h'
  exact h' Γ p' hΓ

theorem stmts_eq : behindTheImports P0 = [stAt 0, stAt 1, stAt 2, stAt 3, stAt 4] ++ ([stAt 5] ++ [stAt 6, stAt 7, stAt 8, stAt 9, stAt 10, stAt 11, stAt 12, stAt 13, stAt 14]) := by kernel_rfl
theorem no_anns : hasAnns (behindTheImports P0) = false := by kernel_rfl
theorem no_doc : docOf (behindTheImports P0) = none := by kernel_rfl

theorem body_wp {prog : Program} {w : World} {A : Around} {stmts : List Stmt} {env : Env} {Q : Fin → Shared → Prop} {E : Value → Shared → Prop} {s : Shared} (hann : hasAnns stmts = false) (hdoc : docOf stmts = none)
    (h : wpAny (model prog w) ((A.mark none).deeper env) (execs stmts env) (fun _ s' => Q (.done (.ret .none)) s') (fun _ _ => False) s) :
    wpAny (model prog w) A (do let _ ← run (.body stmts env); ret .none) Q E s :=
  wpAny_bind (wpAny_run (codeAny_body hann hdoc (wpAny_mono h (fun _ _ q => wpAny_pure q) fun _ _ q => q.elim)))

theorem body_ok (w : World) (os : OsState) {A : Around} (hA : A.handled = none) {Q : Flow → Shared → Prop} {E : Value → Shared → Prop}
    (hQ : ∀ x lf vs, Strs vs tab → alive (x 40) = some (x 40) → (x 40).IsDictOf (intKind P0 w) vs → Q .next (S15 w.params x lf os).abs) :
    wpAny (model P0 w) A (execs (behindTheImports P0) benv) Q E (Spre w.params os).abs := by
  rw [stmts_eq]
  refine wpAny_execs_append _ _ (wpAny_of_evx0 hA (fun c ow be ls p => b1_ok w os c ow be ls p) ?_)
  refine wpAny_execs_append _ _ ?_
  refine wpAny_execs_cons ?_
  refine @st5_ok w A _ E os ?_
  intro x lf vs h1 h2 h3
  show wpAny (model P0 w) A (execs [] benv) _ E _
  refine wpAny_execs_nil ?_
  show wpAny (model P0 w) A (execs [stAt 6, stAt 7, stAt 8, stAt 9, stAt 10, stAt 11, stAt 12, stAt 13, stAt 14] benv) Q E _
  exact wpAny_of_evx (fun Γ p => b2_ok w x lf os Γ p) (hQ x lf vs h1 h2 h3)

theorem top_wp (w : World) (os : OsState) {E : Value → Shared → Prop} {Q : Fin → Shared → Prop}
    (hQ : ∀ x lf vs, Strs vs tab → alive (x 40) = some (x 40) → (x 40).IsDictOf (intKind P0 w) vs → Q (.done (.ret .none)) (S15 w.params x lf os).abs) :
    wpAny (model P0 w) callerA (topStub P0).cur Q E (S0 w.params os).abs := by
  refine wpAny_two (m₁ := moduleCode P0.main) (m₂ := fun code => newBodyFrame code mainNs mainNs)
    (k := fun code frame => do let _ ← run (.body (behindTheImports P0) { scope := P0.main.scope, locals := mainNs, globals := mainNs, cells := [], code, frame := some frame }); ret .none) ?_
  refine wpAny_of_evx (fun Γ p => pre_ok w os Γ p) ?_
  exact body_wp no_anns no_doc (body_ok w os rfl hQ)
end Mine

namespace Mine
section
variable {den : Code → Sem Fin} {prog : Program} {w : World}
theorem last_running {o : Outcome} {s₂ : Shared} : ∀ {n : Nat} {s : Shared} {t : Thread}, runN den prog w n s t = .halted o s₂ → ∃ m s₁ t₁, runN den prog w m s t = .running s₁ t₁ ∧ step den prog w s₁ t₁ = .halt o s₂
  | 0, s, t, h => by cases h
  | n + 1, s, t, h => by
    cases hs : step den prog w s t with
    | halt o' s' =>
      simp only [runN, hs] at h
      cases h
      exact ⟨0, s, t, rfl, hs⟩
    | go s' t' =>
      simp only [runN, hs] at h
      obtain ⟨m, s₁, t₁, h1, h2⟩ := last_running h
      exact ⟨m + 1, s₁, t₁, by simp only [runN, hs]; exact h1, h2⟩
theorem through_of_halt {s s' : Shared} {t : Thread} {f : Flow} (h : step den prog w s t = .halt (.done f) s') : through t = true := by
  obtain ⟨heap, gens, drawn, toks, os⟩ := s
  obtain ⟨cur, code, pos, stack⟩ := t
  cases cur <;> simp only [step, finish] at h <;> (repeat' split at h) <;> simp_all [through]
end

/-- the top's run, from its wp -/
theorem ran {w : World} {s₀ : Shared} {R : Shared → Prop} (hz : s₀.asleep) (hR : ∀ s, R s → s.gens = #[])
    (h : wpAny (model P0 w) callerA (topStub P0).cur (fun fin s' => fin = .done (.ret .none) ∧ R s') (fun _ _ => False) s₀) :
    ∃ s₁, (∃ n t, schedN (denote table) P0 w n (.single s₀ (topStub P0)) = .running (.single s₁ t) ∧ through t = true) ∧ s₁.heap.life = s₀.heap.life ∧ ∃ s', s₁.forget = s'.forget ∧ R s' := by
  have W := wp_of_wpAny_done (M := model P0 w) (R := fun r s' => (r = .ok (.ret .none) ∧ R s') ∧ leftWithCleanup s'.gens = false) caller_in
    (wpAny_mono h (fun fin s' ⟨e, r⟩ => ⟨.ret .none, e, ⟨rfl, r⟩, by rw [hR s' r]; kernel_rfl⟩) (fun _ _ q => q.elim)) default
  obtain ⟨n, r, s', hn, hr, hR'⟩ := (wp_iff_halts (M := model P0 w) _ (fun r s' => r = .ok (.ret .none) ∧ R s') _ _).mp W
  subst hr
  obtain ⟨s'', hs, hrun, hf⟩ := runNI_full (denote table) P0 w hn (outcomeOf_ends _) hz
  obtain ⟨s3, hr3, hf3, hc⟩ := runNI_real (denote table) P0 w hn (outcomeOf_ends _)
  obtain ⟨m, s₁, t₁, h1, h2⟩ := last_running hrun
  have e1 : s'' = s₁ := step_halt_same _ _ _ _ _ _ _ h2
  subst e1
  refine ⟨s'', ⟨m, t₁, ?_, through_of_halt h2⟩, runN_life _ _ _ hrun, s', hf, hR'⟩
  have hne : ∀ k s₂, runN (denote table) P0 w k s₀ (topStub P0) ≠ .halted (.unsupported "lifetime:generator-with-cleanup-left-suspended") s₂ := by
    intro k s₂ hk
    have a := runN_mono (denote table) P0 w n k s₀ (topStub P0) _ s'' hrun
    have b := runN_mono (denote table) P0 w k n s₀ (topStub P0) _ s₂ hk
    rw [Nat.add_comm, b] at a
    injection a with a1 _
    cases a1
  exact (schedN_eq_runN (denote table) P0 w s₀ (topStub P0) hz ⟨hc, hne⟩ m).trans (congrArg Run.lift h1)
end Mine

namespace Mine
noncomputable abbrev H15 (P : Params) (x : Nat → Obj) (lf : Life) : Heap := absHeap (T15 P x) 129 lf
noncomputable abbrev mods0 : List Str := importedModules P0.main.body
theorem k_acc (w : World) (x : Nat → Obj) (lf : Life) : (H15 w.params x lf).accountedOkI mods0 = true := by kernel_rfl
theorem k_stat (w : World) (x : Nat → Obj) (lf : Life) : staticsOk mods0 (boot_heap w.params) (H15 w.params x lf) = true := by kernel_rfl
theorem k_g (w : World) (x : Nat → Obj) (lf : Life) : (H15 w.params x lf).isNs mainGlobals = true := by kernel_rfl
theorem k_b (w : World) (x : Nat → Obj) (lf : Life) : (H15 w.params x lf).isNs builtinsNs = true := by kernel_rfl
theorem k_blt (w : World) (x : Nat → Obj) (lf : Life) : (H15 w.params x lf).bltView = bltViewBooted := by kernel_rfl
theorem k_bm (w : World) (x : Nat → Obj) (lf : Life) : (H15 w.params x lf).bmainOk = true := by kernel_rfl
theorem k_nb (w : World) (x : Nat → Obj) (lf : Life) : namesBound P0 (H15 w.params x lf) = true := by kernel_rfl
theorem k_lk (w : World) (x : Nat → Obj) (lf : Life) : laidKept (boot_heap w.params) (H15 w.params x lf) = true := by kernel_rfl
theorem t15_low (P : Params) (x : Nat → Obj) : ∀ i, i < 11 → i ≠ mainNs → ∃ o, (T0 P).get i = some o ∧ (T15 P x).get i = some o
  | 0, _, _ => ⟨_, rfl, rfl⟩
  | 1, _, _ => ⟨_, rfl, rfl⟩
  | 2, _, _ => ⟨_, rfl, rfl⟩
  | 3, _, h => absurd rfl h
  | 4, _, _ => ⟨_, rfl, rfl⟩
  | 5, _, _ => ⟨_, rfl, rfl⟩
  | 6, _, _ => ⟨_, rfl, rfl⟩
  | 7, _, _ => ⟨_, rfl, rfl⟩
  | 8, _, _ => ⟨_, rfl, rfl⟩
  | 9, _, _ => ⟨_, rfl, rfl⟩
  | 10, _, _ => ⟨_, rfl, rfl⟩
  | n + 11, h, _ => absurd h (Nat.not_lt.mpr (Nat.le_add_left 11 n))
theorem fence_id : ∀ s, fenceModules? P0 s = some s := fun s => by
  have a : importedModules P0.main.body = [] := by kernel_rfl
  have b : P0.main.body.any namesNumpy = false := by kernel_rfl
  unfold fenceModules?
  rw [a, b]
  rfl
theorem open_eq : opening P0 = plainProg P0.main.scope.names := by kernel_rfl
theorem opens_well : opensWell P0 = true := by kernel_rfl
end Mine

namespace Mine

/-- what the top leaves -/
def Left15 (w : World) (os : OsState) (s : Shared) : Prop :=
  ∃ x lf vs, Strs vs tab ∧ alive (x 40) = some (x 40) ∧ (x 40).IsDictOf (intKind P0 w) vs ∧ s = (S15 w.params x lf os).abs

theorem forget_nil {s s' : Shared} (h : s.forget = s'.forget) (h' : s'.gens = #[]) : s = s' := by
  obtain ⟨eh, ed, et, eo, eg⟩ := Shared.forget_eq h
  obtain ⟨h1, g1, d1, t1, o1⟩ := s
  obtain ⟨h2, g2, d2, t2, o2⟩ := s'
  have hg : g1.map GenState.forget = g2.map GenState.forget := congrArg Shared.gens h
  dsimp only at h' eh ed et eo
  subst h'
  have : g1 = #[] := by
    apply Array.eq_empty_of_size_eq_zero
    have := congrArg Array.size hg
    simpa using this
  subst this
  simp_all

theorem top_ran (w : World) : (∃ s, AfterRun (opening P0) w s) ∧ ∀ s, AfterRun (opening P0) w s → ∃ s₀, fenceModules? P0 s = some s₀ ∧ s₀.gens = #[] ∧ ∃ s₁, TopRan P0 w s₀ s₁ ∧ s₁.asleep ∧ s₁.gens = #[] ∧ ∃ os, Left15 w os s₁ := by
  have h := boot_open (p := P0) (N := 600) open_eq (by rfl) fence_id w
  rw [← table_eq_tree] at h
  obtain ⟨s₀, h1, e⟩ := Option.map_eq_some_iff.mp h
  obtain ⟨s, h4, h5⟩ := Option.bind_eq_some_iff.mp h1
  have A := AfterImport.of_importEnds h4
  refine ⟨⟨s, A⟩, fun s' hs' => ?_⟩
  obtain rfl : s' = s := AfterImport.unique hs' A
  have z : s₀.asleep := Shared.asleep_of_life (fence_lifeW h5) A.life
  obtain ⟨hp, g₀, d₀, t₀, os⟩ := s₀
  simp only [Prod.mk.injEq] at e
  obtain ⟨e1, e2, e3, e4⟩ := e
  subst e1 e2 e3 e4
  refine ⟨_, h5, rfl, ?_⟩
  have z' : (S0 w.params os).abs.asleep := z
  obtain ⟨s₁, hrun, hl, s2, hf, hR⟩ := ran (w := w) (s₀ := (S0 w.params os).abs) (R := Left15 w os) z' (by rintro s ⟨x, lf, vs, _, _, _, rfl⟩; rfl)
    (top_wp w os fun x lf vs a b c => ⟨rfl, x, lf, vs, a, b, c, rfl⟩)
  have hg2 : s2.gens = #[] := by obtain ⟨x, lf, vs, _, _, _, rfl⟩ := hR; rfl
  obtain rfl : s₁ = s2 := forget_nil hf hg2
  have hR' := hR
  obtain ⟨x, lf, vs, r1, r2, r3, rfl⟩ := hR
  refine ⟨_, ⟨hrun, hl, Shared.rest_eq rfl, ?_, Heap.accountedI_of_ok (k_acc w x lf), statics_of_ok (k_stat w x lf), Pin.keysAreStrs_of (k_g w x lf), ?_, ?_, ?_, names_of_bound (k_nb w x lf), laid_of_kept (k_lk w x lf)⟩, Shared.asleep_of_life hl z', rfl, os, hR'⟩
  · intro b o hb hn
    have hlt : b < 11 := by
      have := Heap.lt_size hb
      exact this
    obtain ⟨o', a1, a2⟩ := t15_low w.params x b hlt fun q => hn (.inl q)
    have b1 : (S0 w.params os).abs.heap.get? b = alive o' := abs_get (n := 11) hlt a1
    have b2 : (S15 w.params x lf os).abs.heap.get? b = alive o' := abs_get (n := 129) (Nat.lt_trans hlt (by decide)) a2
    rw [b2, ← b1]
    exact hb
  · exact fun y hy => (Pin.builtinOf_eq (k_b w x lf) y).trans (Heap.of_bltView (k_b w x lf) (k_blt w x lf) y hy)
  · obtain ⟨bm, ob, a, _, c, d, f, _⟩ := Heap.bmainOk_spec (k_bm w x lf)
    exact ⟨bm, ob, (Pin.globalOf_eq (k_g w x lf) _).trans a, c, d, f⟩
  · intro g hg
    exact absurd hg (by show g ∉ (#[] : Array GenState); simp)
end Mine

namespace Mine

/-- the globals that the text reads -/
structure Globs (m : Str → Option Value) : Prop where
  strip : m "_strip_exception_details" = some (.ref 21)
  b1 : m "b1_set" = some (.ref 29)
  inb1 : m "in_table_b1" = some (.ref 39)
  b3 : m "b3_exceptions" = some (.ref 40)
  mapb3 : m "map_table_b3" = some (.ref 85)
  nothing : m "_law_nothing" = some (.ref 92)
  any : m "_law_any" = some (.ref 99)
  pair : m "_law_pair" = some (.ref 106)
  pairs : m "_law_pairs" = some (.ref 111)
  prepared : m "_law_prepared" = some (.ref 116)
  name : m "_law_name" = some (.ref 123)
  law : m "law" = some (.ref 128)
  len : m "len" = none
  ord : m "ord" = none
  chr : m "chr" = none

/-- an object that is a def of the text -/
structure IsDef (h : Heap) (a : Addr) (name : Str) (params : Arguments) (body : List Stmt) (scope : Scope) : Prop where
  ex : ∃ o pm cd, h.get? a = some o ∧ o.data = .func (Calls.docDef name params body scope pm cd .none) ∧ h.CodeRec cd name

theorem IsDef.keeps {h h' : Heap} {a : Addr} {name : Str} {params : Arguments} {body : List Stmt} {scope : Scope} (x : IsDef h a name params body scope) (hk : ∀ b o, h.get? b = some o → h'.get? b = some o) : IsDef h' a name params body scope :=
  let ⟨o, pm, cd, a, b, c⟩ := x.ex; ⟨o, pm, cd, hk _ _ a, b, c.keeps hk⟩

/-- what the walk knows of the heap that the top left -/
structure Base (w : World) (h : Heap) : Prop where
  g : ∃ m, h.Ns mainGlobals m ∧ Globs m
  b : ∃ m, h.Ns builtinsNs m ∧ ∀ x : Str, x ≠ "__name__" → m x = bootBuiltins x
  nolimit : h.NoLimit
  strip : IsDef h 21 "_strip_exception_details" (paramsAt 1) (bodyAt 1) (scopeAt 1)
  inb1 : IsDef h 39 "in_table_b1" (paramsAt 4) (bodyAt 4) (scopeAt 4)
  mapb3 : IsDef h 85 "map_table_b3" (paramsAt 6) (bodyAt 6) (scopeAt 6)
  nothing : IsDef h 92 "_law_nothing" (paramsAt 8) (bodyAt 8) (scopeAt 8)
  any : IsDef h 99 "_law_any" (paramsAt 9) (bodyAt 9) (scopeAt 9)
  pair : IsDef h 106 "_law_pair" (paramsAt 10) (bodyAt 10) (scopeAt 10)
  pairs : IsDef h 111 "_law_pairs" (paramsAt 11) (bodyAt 11) (scopeAt 11)
  prepared : IsDef h 116 "_law_prepared" (paramsAt 12) (bodyAt 12) (scopeAt 12)
  name : IsDef h 123 "_law_name" (paramsAt 13) (bodyAt 13) (scopeAt 13)
  law : IsDef h 128 "law" (paramsAt 14) (bodyAt 14) (scopeAt 14)
  set : h.get? 29 = some (o29 w.params)
  dict : ∃ vs, Strs vs tab ∧ h.DictOf (intKind P0 w) 40 vs

theorem Base.keeps {w : World} {h h' : Heap} (x : Base w h) (hk : ∀ b o, h.get? b = some o → h'.get? b = some o) : Base w h' where
  g := let ⟨m, a, b⟩ := x.g; ⟨m, a.keeps hk, b⟩
  b := let ⟨m, a, b⟩ := x.b; ⟨m, a.keeps hk, b⟩
  nolimit := x.nolimit.keeps hk
  strip := x.strip.keeps hk
  inb1 := x.inb1.keeps hk
  mapb3 := x.mapb3.keeps hk
  nothing := x.nothing.keeps hk
  any := x.any.keeps hk
  pair := x.pair.keeps hk
  pairs := x.pairs.keeps hk
  prepared := x.prepared.keeps hk
  name := x.name.keeps hk
  law := x.law.keeps hk
  set := hk _ _ x.set
  dict := let ⟨vs, a, o, es, ep, b, c⟩ := x.dict; ⟨vs, a, o, es, ep, hk _ _ b, c⟩

theorem h15_get {P : Params} {x : Nat → Obj} {lf : Life} {a : Nat} {o : Obj} (h : Nat.blt a 129 = true) (g : (T15 P x).get a = some o) (e : alive o = some o) : (H15 P x lf).get? a = some o :=
  (abs_get (Nat.le_of_ble_eq_true h) g).trans e

theorem isDef_of {P : Params} {x : Nat → Obj} {lf : Life} {a c : Nat} {o oc : Obj} {name : Str} {params : Arguments} {body : List Stmt} {scope : Scope} {pm : Value} {vs : Array Value} {t : Tok} (h : Nat.blt a 129 = true) (g : (T15 P x).get a = some o)
    (e : alive o = some o) (hd : o.data = .func (Calls.docDef name params body scope pm (.ref c) .none)) (h' : Nat.blt c 129 = true) (g' : (T15 P x).get c = some oc) (e' : alive oc = some oc) (hv : oc.data = .fields vs) (hn : vs[1]? = some (.str name t)) : IsDef (H15 P x lf) a name params body scope :=
  ⟨_, pm, .ref c, h15_get h g e, hd, c, _, vs, t, rfl, h15_get h' g' e', hv, hn⟩

theorem nolimit15 (w : World) (x : Nat → Obj) (lf : Life) : (H15 w.params x lf).isNs cStatics = true ∧ (H15 w.params x lf).nsMap cStatics "sys.recursionlimit" = none := ⟨by kernel_rfl, by kernel_rfl⟩

theorem base15 (w : World) (x : Nat → Obj) (lf : Life) (vs : List (Int × Value)) (h1 : Strs vs tab) (h2 : alive (x 40) = some (x 40)) (h3 : (x 40).IsDictOf (intKind P0 w) vs) : Base w (H15 w.params x lf) where
  g := ⟨_, .of_isNs (k_g w x lf), by
    constructor <;> kernel_rfl⟩
  b := ⟨_, .of_isNs (k_b w x lf), fun y hy => Heap.of_bltView (k_b w x lf) (k_blt w x lf) y hy⟩
  nolimit := ⟨_, .of_isNs (nolimit15 w x lf).1, (nolimit15 w x lf).2⟩
  strip := isDef_of rfl rfl rfl rfl rfl rfl rfl rfl rfl
  inb1 := isDef_of rfl rfl rfl rfl rfl rfl rfl rfl rfl
  mapb3 := isDef_of rfl rfl rfl rfl rfl rfl rfl rfl rfl
  nothing := isDef_of rfl rfl rfl rfl rfl rfl rfl rfl rfl
  any := isDef_of rfl rfl rfl rfl rfl rfl rfl rfl rfl
  pair := isDef_of rfl rfl rfl rfl rfl rfl rfl rfl rfl
  pairs := isDef_of rfl rfl rfl rfl rfl rfl rfl rfl rfl
  prepared := isDef_of rfl rfl rfl rfl rfl rfl rfl rfl rfl
  name := isDef_of rfl rfl rfl rfl rfl rfl rfl rfl rfl
  law := isDef_of rfl rfl rfl rfl rfl rfl rfl rfl rfl
  set := h15_get rfl rfl rfl
  dict := ⟨vs, h1, Heap.dictOf_iff.mpr ⟨x 40, h15_get rfl rfl h2, h3⟩⟩
end Mine

namespace Mine

inductive Ints : List Value → List Int → Prop
  | nil : Ints [] []
  | cons {n t vs ns} : Ints vs ns → Ints (.int n t :: vs) (n :: ns)

theorem read_ints {R : WRecords} {cl : Str → Option Addr} {h : Heap} : ∀ {vs : List Value} {ds : List WData} {as : List Addr}, ReadsAllW R cl h vs ds as → WShape.hasItems R ds .int = true → ∃ ns, Ints vs ns ∧ vs.length = ds.length
  | _, _, _, .nil, _ => ⟨[], .nil, rfl⟩
  | _, _, _, .cons (d := d) r1 r2, hs => by
    obtain ⟨a, b⟩ := Bool.and_eq_true_iff.mp (by simpa only [WShape.hasItems] using hs)
    obtain ⟨i, rfl⟩ := hasW_int a
    obtain ⟨ns, hn, e⟩ := read_ints r2 b
    cases r1
    exact ⟨i :: ns, .cons hn, by simp [e]⟩

theorem Ints.length {vs : List Value} {ns : List Int} (h : Ints vs ns) : vs.length = ns.length := by
  induction h with
  | nil => rfl
  | cons _ ih => simp [ih]

/-- the claim of the walk -/
def WalkOk : Prop := ∀ (w : World) (s : Shared) (l : Addr) (items : Array Value) (ns : List Int), Base w s.heap → s.heap.IsList l items → items.size ≤ 63 → Ints items.toList ns → s.gens = #[] →
  wpAny (model P0 w) callerA (call (.ref 128) [.ref l]) (fun v s' => v = .bool true ∧ Keeps s s') (fun _ _ => False) s

theorem pre_len {ds : List WData} (h : (OpenLaw.pre PySem.Challenge.rw_mj0194_01).holds [] { args := [.list ds] } = true) : ds.length ≤ 63 := by
  have h1 := (holds_andW h).1
  have e : ((WTm.lit (.int (63 : Nat))).lt (.len (.arg 0))).not.value [] { args := [.list ds] } = some (.bool (!decide ((63 : Int) < ds.length))) := by rfl
  have := condW_of h1 e
  simp at this
  omega

theorem holds_of (W : WalkOk) (said : PySem.Challenge.rw_mj0194_01.row.wellSaid = true) (hw : PySem.Challenge.rw_mj0194_01.row.toRowW.promised) : PySem.Challenge.rw_mj0194_01.row.Holds := by
  refine ⟨said, hw, ⟨⟨⟨rfl, rfl, rfl, rfl, rfl, by decide +kernel⟩, opens_well, rfl⟩, hw.witness, fun w => ⟨(top_ran w).1, fun s' hs' => ?_⟩⟩⟩
  obtain ⟨s₀, hf, hg0, s, hT, hz, hgens, os, x, lf, vs0, r1, r2, r3, rfl⟩ := (top_ran w).2 s' hs'
  have B := base15 w x lf vs0 r1 r2 r3
  have hg := k_g w x lf
  refine ⟨s₀, hf, hg0, _, hT, ?_, ?_, ?_, ?_⟩
  · intro n hn
    have hn : n = "law" := by simpa [OpenLaw.row, PySem.Challenge.rw_mj0194_01] using hn
    subst hn
    obtain ⟨o, pm, cd, a, b, c⟩ := B.law.ex
    obtain ⟨m, g1, g2⟩ := B.g
    exact ⟨128, o, _, paramsAt 14, bodyAt 14, scopeAt 14, (Pin.globalOf_eq hg _).trans (by kernel_rfl), a, b, by kernel_rfl, rfl, rfl, rfl, rfl, rfl, rfl, rfl, rfl, .inl ⟨rfl, by kernel_rfl⟩, [], by kernel_rfl, .inl ⟨rfl, rfl⟩⟩
  · intro x hx; cases hx
  · intro x hx; cases hx
  · refine ClaimW.callFrom_of_specG (c := PySem.Challenge.rw_mj0194_01.row.toRowW.claim) hz rfl fun args hpre hlay ord hord => ?_
    have hhas : ∀ c, (WRecords.fields? ([] : WRecords) c).isSome = true → (classAt ((S15 w.params x lf os).abs).heap c).isSome = true := fun c hc => by cases hc
    obtain ⟨⟨vs, s₁⟩, hlaid⟩ := Option.isSome_iff_exists.mp (layAllW_isSome (P := w.params) (ord := ord) (R := []) hhas args PySem.Challenge.rw_mj0194_01.row.toRowW.args _ (pre_splitW hpre).1)
    have keeps := layAllW_keeps _ _ _ hlaid
    have hal := layAllW_rest _ _ _ hlaid
    obtain ⟨as, hrd, hin, hold⟩ := reads_layAllW hord _ _ _ hlaid hlay s₁.heap (fun _ _ e => e)
    have L : Laid [] w (S15 w.params x lf os).abs s₁ args vs as := ⟨⟨ord, hord, hlaid⟩, hrd, hin, hold, keeps, hal.1.trans rfl, hal.2.2.1⟩
    refine ⟨vs, s₁, hlaid, ?_⟩
    obtain ⟨hs1, hs2⟩ := pre_splitW hpre
    obtain ⟨d, r, rfl, hd, hr⟩ := hasAllW_cons hs1
    obtain rfl := hasAllW_nil hr
    obtain ⟨ds, rfl, hds⟩ := hasW_list hd
    have hlen := pre_len hs2
    cases hrd with
    | cons q1 q2 =>
    cases q2
    cases q1 with
    | @list l o its n xs as h1 h2 h3 h4 =>
    obtain ⟨ns, hns, e⟩ := read_ints h4 hds
    have B₁ := B.keeps keeps
    have hz : its.size ≤ 63 := by simpa using (by rw [e]; exact hlen : its.toList.length ≤ 63)
    have hW := W w s₁ l its ns B₁ ⟨o, h1, h2, n, h3⟩ hz hns (hal.1.trans rfl)
    obtain ⟨m, g1, g2⟩ := B₁.g
    refine wpAny_bind (wpAny_nsGet g1 ?_)
    rw [show m PySem.Challenge.rw_mj0194_01.row.name = some (.ref 128) from g2.law]
    refine wpAny_bind (wpAny_mono hW (fun v s' h' => ?_) fun _ _ h' => h'.elim)
    obtain ⟨rfl, h2, tk, rfl, kp⟩ := h'
    have G : GoodW PySem.Challenge.rw_mj0194_01.row.toRowW.claim (classAt ((S15 w.params x lf os).abs).heap) (ExcName.means ((S15 w.params x lf os).abs).heap) [.list ds] s₁ (.ok (.ret (.bool true))) { s₁ with heap := h2, toks := tk } :=
      ⟨.inl ⟨.bool true, .bool true, [], rfl, fun _ => rfl, .bool true, by wrow_post, fun _ => ⟨.nil, fun _ ha => nomatch ha⟩⟩, kp, rfl, hal.1.trans rfl⟩
    refine wpAny_pure ⟨_, rfl, ?_⟩
    have z := (GoodW.toG G).laid (c := PySem.Challenge.rw_mj0194_01.row.toRowW.claim) rfl rfl (ident_freeW rfl rfl rfl) L
    exact ⟨z.1, z.2.1, z.2.2, fun q => nomatch q⟩
end Mine

namespace Mine

/-- the text of a list of code points -/
abbrev st (l : List Nat) : Str := ⟨l.toArray⟩

def b1keys : List Int := [65024, 65025, 65026, 65027, 65028, 65029, 6150, 65030, 65031, 65032, 65033, 6155, 6156, 6157, 8203, 8204, 8205, 65034, 65035, 65036, 65037, 65038, 65039, 173, 847, 8288, 65279]
def b1 (c : Int) : Bool := b1keys.contains c
noncomputable def m3 (c : Nat) : List Nat := match tab.find? (fun p => decide (p.1 = (c : Int))) with | some p => p.2.cps.toList | none => Unicode.lowerOf c
noncomputable def img (c : Nat) : List Nat := if b1 c then [] else m3 c
noncomputable def prep (l : List Nat) : List Nat := l.flatMap img

def afterDot (l : List Nat) : List Nat := (l.reverse.takeWhile (· != 46)).reverse
def strip (l : List Nat) : List Nat := afterDot (l.takeWhile fun c => c != 58 && c != 10)

noncomputable def nameOf (stops : List Nat) : List Nat → List Nat → List Nat
  | acc, [] => acc
  | acc, c :: r => if c == 58 || c == 10 then acc else if stops.contains c then nameOf stops [] r else nameOf stops (acc ++ img c) r

/-- a sign that neither ends the name nor stops it -/
def calm (x : Nat) : Prop := x ≠ 58 ∧ x ≠ 10
theorem take_all {p : Nat → Bool} : ∀ {l : List Nat}, (∀ x ∈ l, p x = true) → l.takeWhile p = l
  | [], _ => rfl
  | c :: r, h => by rw [List.takeWhile_cons_of_pos (h c (.head _)), take_all fun x hx => h x (.tail _ hx)]
theorem take_cut {p : Nat → Bool} {c : Nat} {r : List Nat} (hc : p c = false) : ∀ l : List Nat, (l ++ c :: r).takeWhile p = l.takeWhile p
  | [] => by rw [List.nil_append, List.takeWhile_cons_of_neg (by simp [hc])]; rfl
  | a :: l => by
    rw [List.cons_append]
    by_cases h : p a = true
    · rw [List.takeWhile_cons_of_pos h, List.takeWhile_cons_of_pos h, take_cut hc l]
    · rw [List.takeWhile_cons_of_neg h, List.takeWhile_cons_of_neg h]
theorem afterDot_clean {a : List Nat} (h : ∀ x ∈ a, x ≠ 46) : afterDot a = a := by
  unfold afterDot
  rw [take_all, List.reverse_reverse]
  intro x hx
  have := h x (List.mem_reverse.mp hx)
  simp [this]
theorem afterDot_dot (a r : List Nat) : afterDot (a ++ 46 :: r) = afterDot r := by
  unfold afterDot
  rw [List.reverse_append, List.reverse_cons, List.append_assoc, List.singleton_append, take_cut (by rfl)]
theorem calm_take {a r : List Nat} (h : ∀ x ∈ a, calm x) : (a ++ r).takeWhile (fun c => c != 58 && c != 10) = a ++ r.takeWhile fun c => c != 58 && c != 10 := by
  rw [List.takeWhile_append_of_pos]
  intro x hx
  obtain ⟨h1, h2⟩ := h x hx
  simp [h1, h2]
theorem strip_stop {a r : List Nat} {c : Nat} (h : ∀ x ∈ a, calm x) (hc : c = 58 ∨ c = 10) : strip (a ++ c :: r) = afterDot a := by
  unfold strip
  rw [calm_take h, List.takeWhile_cons_of_neg (by rcases hc with rfl | rfl <;> simp), List.append_nil]
theorem strip_calm {a : List Nat} (h : ∀ x ∈ a, calm x) : strip a = afterDot a := by
  unfold strip
  have := calm_take (r := []) h
  rw [List.append_nil, List.takeWhile_nil, List.append_nil] at this
  rw [this]
theorem strip_dot {a r : List Nat} (h : ∀ x ∈ a, calm x) : strip (a ++ 46 :: r) = strip r := by
  unfold strip
  rw [calm_take h, List.takeWhile_cons_of_pos (by simp), afterDot_dot]

theorem prep_nil : prep [] = [] := rfl
theorem prep_cons (c : Nat) (r : List Nat) : prep (c :: r) = img c ++ prep r := rfl
theorem prep_append (a b : List Nat) : prep (a ++ b) = prep a ++ prep b := List.flatMap_append

/-- what the tables do -/
structure Facts : Prop where
  calm : ∀ c, calm c → ∀ x ∈ img c, calm x
  colon : img 58 = [58]
  line : img 10 = [10]
  dot : ∀ c, c ≠ 46 → c ≠ 13255 → 46 ∉ img c
  dot1 : img 46 = [46]
  co : img 13255 = [99, 111, 46]

theorem Facts.prep_calm (F : Facts) {a : List Nat} (h : ∀ x ∈ a, Mine.calm x) : ∀ x ∈ prep a, Mine.calm x := by
  intro x hx
  obtain ⟨c, hc, hx⟩ := List.mem_flatMap.mp hx
  exact F.calm c (h c hc) x hx

theorem law1 (F : Facts) : ∀ (l acc : List Nat), (∀ x ∈ acc, calm x ∧ x ≠ 46) → strip (acc ++ prep l) = nameOf [46, 13255] acc l
  | [], acc, h => by
    rw [prep_nil, List.append_nil, strip_calm fun x hx => (h x hx).1, afterDot_clean fun x hx => (h x hx).2]
    rfl
  | c :: r, acc, h => by
    rw [prep_cons]
    have hc : ∀ x ∈ acc, calm x := fun x hx => (h x hx).1
    unfold nameOf
    by_cases h1 : c = 58 ∨ c = 10
    · rw [if_pos (by rcases h1 with rfl | rfl <;> rfl)]
      have e : img c = [c] := by rcases h1 with rfl | rfl; exact F.colon; exact F.line
      rw [e, List.singleton_append, strip_stop hc h1, afterDot_clean fun x hx => (h x hx).2]
    · have hcalm : calm c := ⟨fun q => h1 (.inl q), fun q => h1 (.inr q)⟩
      rw [if_neg (by simpa using h1)]
      by_cases h2 : c = 46 ∨ c = 13255
      · rw [if_pos (by rcases h2 with rfl | rfl <;> rfl), ← law1 F r [] (fun _ hx => nomatch hx), List.nil_append]
        rcases h2 with rfl | rfl
        · rw [F.dot1, List.singleton_append, strip_dot hc]
        · rw [F.co, show acc ++ ([99, 111, 46] ++ prep r) = (acc ++ [99, 111]) ++ 46 :: prep r by simp]
          refine strip_dot fun x hx => ?_
          rcases List.mem_append.mp hx with q | q
          · exact hc x q
          · simp only [List.mem_cons, List.not_mem_nil, or_false] at q
            rcases q with rfl | rfl <;> exact ⟨by decide, by decide⟩
      · rw [if_neg (by simpa using h2), ← List.append_assoc]
        refine law1 F r (acc ++ img c) fun x hx => ?_
        rcases List.mem_append.mp hx with q | q
        · exact h x q
        · exact ⟨F.calm c hcalm x q, fun e => F.dot c (fun z => h2 (.inl z)) (fun z => h2 (.inr z)) (e ▸ q)⟩

theorem law2 : ∀ (l acc : List Nat), (∀ x ∈ acc, calm x ∧ x ≠ 46) → prep (strip (acc ++ l)) = nameOf [46] (prep acc) l
  | [], acc, h => by
    rw [List.append_nil, strip_calm fun x hx => (h x hx).1, afterDot_clean fun x hx => (h x hx).2]
    rfl
  | c :: r, acc, h => by
    have hc : ∀ x ∈ acc, calm x := fun x hx => (h x hx).1
    unfold nameOf
    by_cases h1 : c = 58 ∨ c = 10
    · rw [if_pos (by rcases h1 with rfl | rfl <;> rfl), strip_stop hc h1, afterDot_clean fun x hx => (h x hx).2]
    · have hcalm : calm c := ⟨fun q => h1 (.inl q), fun q => h1 (.inr q)⟩
      rw [if_neg (by simpa using h1)]
      by_cases h2 : c = 46
      · subst h2
        rw [if_pos (by rfl), strip_dot hc]
        exact law2 r [] (fun _ hx => nomatch hx)
      · rw [if_neg (by simpa using h2), show acc ++ c :: r = (acc ++ [c]) ++ r by simp, law2 r (acc ++ [c]) (fun x hx => ?_)]
        · rw [prep_append, prep_cons, prep_nil, List.append_nil]
        · rcases List.mem_append.mp hx with q | q
          · exact h x q
          · rw [List.mem_singleton.mp q]; exact ⟨hcalm, h2⟩

theorem law3 (F : Facts) : ∀ (l acc : List Nat), (∀ x ∈ acc, calm x ∧ x ≠ 46) → strip (prep (strip (acc ++ l))) = strip (prep (acc ++ l))
  | [], acc, h => by
    rw [List.append_nil, strip_calm fun x hx => (h x hx).1, afterDot_clean fun x hx => (h x hx).2]
  | c :: r, acc, h => by
    have hc : ∀ x ∈ acc, calm x := fun x hx => (h x hx).1
    by_cases h1 : c = 58 ∨ c = 10
    · have e : img c = [c] := by rcases h1 with rfl | rfl; exact F.colon; exact F.line
      rw [strip_stop hc h1, afterDot_clean fun x hx => (h x hx).2, prep_append, prep_cons, e, List.singleton_append, strip_stop (F.prep_calm hc) h1, strip_calm (F.prep_calm hc)]
    · by_cases h2 : c = 46
      · subst h2
        rw [strip_dot hc, prep_append, prep_cons, F.dot1, List.singleton_append, strip_dot (F.prep_calm hc)]
        exact law3 F r [] (fun _ hx => nomatch hx)
      · rw [show acc ++ c :: r = (acc ++ [c]) ++ r by simp]
        refine law3 F r (acc ++ [c]) fun x hx => ?_
        rcases List.mem_append.mp hx with q | q
        · exact h x q
        · rw [List.mem_singleton.mp q]; exact ⟨⟨fun q => h1 (.inl q), fun q => h1 (.inr q)⟩, h2⟩

end Mine

namespace Mine
open PySem.Unicode PySem.UnicodeData

theorem shifted_ge : ∀ (l : List (Nat × Nat × Nat)) (c v : Nat), shifted l c = some v → l.all (fun q => Nat.blt 58 q.2.2) = true → 58 < v
  | [], _, _, h, _ => by cases h
  | (a, b, t) :: r, c, v, h, hl => by
    obtain ⟨h1, h2⟩ := Bool.and_eq_true_iff.mp (by simpa only [List.all_cons] using hl)
    have h1 : 58 < t := Nat.le_of_ble_eq_true h1
    unfold shifted at h
    split at h
    · cases h
    · split at h
      · cases h; omega
      · exact shifted_ge r c v h h2
theorem one_ok : oneLower.all (fun q => Nat.blt 58 q.2.2) = true := by kernel_rfl
theorem several_ok : severalLower.all (fun q => q.2.all (Nat.blt 58)) = true := by kernel_rfl
theorem lowerOf_mem {c x : Nat} (h : x ∈ lowerOf c) : x = c ∨ 58 < x := by
  unfold lowerOf image at h
  split at h
  · rename_i cs hl
    have := StrLaws.lookup_all (p := fun l => l.all (Nat.blt 58)) severalLower c cs several_ok hl
    exact .inr (Nat.le_of_ble_eq_true (List.all_eq_true.mp this x h))
  · rw [List.mem_singleton] at h
    subst h
    cases e : shifted oneLower c with
    | none => exact .inl rfl
    | some v => exact .inr (shifted_ge _ _ _ e one_ok)

def entryOk (p : Int × Str) : Bool := p.2.cps.toList.all (fun x => !Nat.beq x 58 && !Nat.beq x 10 && (!Nat.beq x 46 || decide (p.1 = 13255))) && Nat.ble p.2.cps.toList.length 4
theorem tab_ok : tab.all entryOk = true := by kernel_rfl
theorem tab_small : (tab.find? fun p => decide (p.1 = 58) || decide (p.1 = 10) || decide (p.1 = 46)) = none := by kernel_rfl
theorem find_none {q : Int} (h : q = 58 ∨ q = 10 ∨ q = 46) : tab.find? (fun p => decide (p.1 = q)) = none := by
  rw [List.find?_eq_none]
  intro p hp hq
  have := List.find?_eq_none.mp tab_small p hp
  apply this
  have hq : p.1 = q := of_decide_eq_true hq
  rw [hq]
  rcases h with rfl | rfl | rfl <;> rfl
theorem m3_none {c : Nat} (h : tab.find? (fun p => decide (p.1 = (c : Int))) = none) : m3 c = lowerOf c := by unfold m3; rw [h]
theorem m3_some {c : Nat} {p : Int × Str} (h : tab.find? (fun p => decide (p.1 = (c : Int))) = some p) : m3 c = p.2.cps.toList := by unfold m3; rw [h]

theorem m3_mem {c x : Nat} (h : x ∈ m3 c) : (x = c ∨ 58 < x) ∨ (x ≠ 58 ∧ x ≠ 10 ∧ (x = 46 → c = 13255)) := by
  cases e : tab.find? (fun p => decide (p.1 = (c : Int))) with
  | none => rw [m3_none e] at h; exact .inl (lowerOf_mem h)
  | some p =>
    rw [m3_some e] at h
    right
    have hp := List.all_eq_true.mp tab_ok p (List.mem_of_find?_eq_some e)
    have hc0 := List.find?_some e
    have hc : p.1 = (c : Int) := of_decide_eq_true hc0
    have hx := List.all_eq_true.mp (Bool.and_eq_true_iff.mp hp).1 x h
    simp only [Bool.and_eq_true, Bool.not_eq_true', Bool.or_eq_true, decide_eq_true_eq] at hx
    obtain ⟨⟨h1, h2⟩, h3⟩ := hx
    refine ⟨Nat.ne_of_beq_eq_false h1, Nat.ne_of_beq_eq_false h2, fun q => ?_⟩
    rcases h3 with h3 | h3
    · exact absurd q (Nat.ne_of_beq_eq_false h3)
    · rw [hc] at h3; omega
theorem m3_len (c : Nat) : (m3 c).length ≤ 4 := by
  cases e : tab.find? (fun p => decide (p.1 = (c : Int))) with
  | none => rw [m3_none e]; exact Nat.le_trans (StrLaws.lowerOf_le3 c) (by decide)
  | some p =>
    rw [m3_some e]
    have hp := List.all_eq_true.mp tab_ok p (List.mem_of_find?_eq_some e)
    exact Nat.le_of_ble_eq_true (Bool.and_eq_true_iff.mp hp).2
theorem img_len (c : Nat) : (img c).length ≤ 4 := by
  unfold img
  split
  · exact Nat.zero_le _
  · exact m3_len c

theorem img_mem {c x : Nat} (h : x ∈ img c) : x ∈ m3 c := by
  unfold img at h
  split at h
  · cases h
  · exact h
theorem img_self {c : Nat} (h : c = 58 ∨ c = 10 ∨ c = 46) : img c = [c] := by
  have hb : b1 (c : Int) = false := by rcases h with rfl | rfl | rfl <;> decide
  unfold img
  rw [hb, if_neg Bool.false_ne_true, m3_none (find_none (by rcases h with rfl | rfl | rfl <;> simp))]
  rcases h with rfl | rfl | rfl <;> kernel_rfl
theorem img_co : img 13255 = [99, 111, 46] := by
  unfold img
  have hb : b1 ((13255 : Nat) : Int) = false := by decide
  rw [hb, if_neg Bool.false_ne_true]
  kernel_rfl

theorem facts : Facts where
  calm := fun c hc x hx => by
    rcases m3_mem (img_mem hx) with (rfl | q) | q
    · exact hc
    · exact ⟨by omega, by omega⟩
    · exact ⟨q.1, q.2.1⟩
  colon := img_self (.inl rfl)
  line := img_self (.inr (.inl rfl))
  dot := fun c h1 h2 hx => by
    rcases m3_mem (img_mem hx) with (q | q) | q
    · exact h1 q.symm
    · omega
    · exact h2 (q.2.2 rfl)
  dot1 := img_self (.inr (.inr rfl))
  co := img_co
end Mine

namespace Mine
section
variable {w : World} {A : Around} {s : Shared} {Q : Value → Shared → Prop} {E : Value → Shared → Prop}

theorem enter {a : Addr} {name : Str} {params : Arguments} {body : List Stmt} {scope : Scope} {args : List Value} {binds : List (Str × Value)} (B : Base w s.heap) (D : IsDef s.heap a name params body scope)
    (hroom : A.depth < recursionLimit) (hbind : ∀ pm cd, bindArgs (Calls.docDef name params body scope pm cd .none) ⟨args, []⟩ = pure binds) (hloc : ∀ x ∈ binds, scope.names.lookup x.1 = some .local)
    (h : ∀ cd h₁, Fr s.heap s.heap.objs.size h₁ (fun x => binds.reverse.lookup x) →
      wpAny (model P0 w) (A.deeper (envOf name scope s.heap.objs.size a cd)) (execs body (envOf name scope s.heap.objs.size a cd))
        (fun f s' => Q (match f with | .ret v => v | _ => .none) s') (fun _ _ => False) { s with heap := h₁, toks := s.toks + binds.length })
    (hco : scope.isCoroutine = false := by rfl) (hgen : scope.isGenerator = false := by rfl) (hk : scope.kind = .function := by rfl) (hcell : ∀ x ∈ scope.names, x.2 ≠ .cell := by decide) :
    wpAny (model P0 w) A (call (.ref a) args) Q E s := by
  obtain ⟨o, pm, cd, h1, h2, h3⟩ := D.ex
  exact wpAny_call (call_plain_ret hroom h1 h2 B.nolimit h3 (hbind pm cd) hloc (fun h₁ F => h cd h₁ F) hco hgen hk hcell)

theorem Base.global (B : Base w s.heap) {x : Str} {v : Value} {pos : Pos} {env : Env} (hv : ∀ m, Globs m → m x = some v) (h : Q v s) (hg : env.globals = mainGlobals := by rfl) (hk : env.scope.kind = .function := by rfl)
    (hx : env.kindOf x = some .globalImplicit := by rfl) (hd : (x == ("__debug__" : Str)) = false := by decide) : wpAny (model P0 w) A (eval (.Name x pos) env) Q E s := by
  obtain ⟨m, g1, g2⟩ := B.g
  exact Calls.Name_function_global hk hx (Calls.loadGlobal_global (hg ▸ g1) (hv m g2) h) hd
theorem Base.builtin (B : Base w s.heap) {x : Str} {v : Value} {pos : Pos} {env : Env} (hv : ∀ m, Globs m → m x = none) (hb : bootBuiltins x = some v) (h : Q v s) (hg : env.globals = mainGlobals := by rfl) (hbs : env.builtins = builtinsNs := by rfl) (hk : env.scope.kind = .function := by rfl)
    (hx : env.kindOf x = some .globalImplicit := by rfl) (hd : (x == ("__debug__" : Str)) = false := by decide) (hn : x ≠ "__name__" := by decide) : wpAny (model P0 w) A (eval (.Name x pos) env) Q E s := by
  obtain ⟨m, g1, g2⟩ := B.g
  obtain ⟨mb, b1, b2⟩ := B.b
  exact Calls.Name_function_global hk hx (Calls.loadGlobal_builtin (hg ▸ g1) (hv m g2) (hbs ▸ b1) ((b2 x hn).trans hb) h) hd
end

theorem set_elems (w : World) : ∃ es t, (o29 w.params).data = .set es 29 t ∧ t.fits es.size = true ∧ es.size = 27 ∧ es.toList.all (fun e => match e.2 with | .int k _ => decide (e.1 = hashInt k) | _ => false) = true ∧ es.toList.map (fun e => match e.2 with | .int k _ => k | _ => 0) = b1keys :=
  ⟨_, _, rfl, by kernel_rfl, by kernel_rfl, by kernel_rfl, by kernel_rfl⟩
theorem Base.setOf {w : World} {h : Heap} (B : Base w h) : h.SetOf (intKind P0 w) 29 b1 27 := by
  obtain ⟨es, t, e1, e2, e3, e4, e5⟩ := set_elems w
  have hall : ∀ e ∈ es.toList, ∃ k u, e.2 = .int k u ∧ e.1 = hashInt k := fun e he => by
    have := List.all_eq_true.mp e4 e he
    obtain ⟨i, v⟩ := e
    cases v <;> first | exact ⟨_, _, rfl, of_decide_eq_true this⟩ | cases this
  refine ⟨_, es, 29, t, B.set, ⟨rfl, rfl, rfl⟩, e1, fun e he => ?_, fun k => ?_, by rw [e3]; decide, e2, e3⟩
  · obtain ⟨k, u, q1, q2⟩ := hall e he
    exact ⟨⟨k, by rw [q1]; exact intKind_is P0 w k u, q2⟩, by rw [q1]; rfl⟩
  · unfold b1
    rw [← e5, List.contains_iff_mem, List.mem_map]
    constructor
    · rintro ⟨e, he, q⟩
      obtain ⟨k', u, q1, _⟩ := hall e he
      refine ⟨e, he, ?_⟩
      rw [q1] at q ⊢
      obtain rfl : k' = k := q
      exact intKind_is P0 w k' u
    · rintro ⟨e, he, q⟩
      obtain ⟨k', u, q1, _⟩ := hall e he
      refine ⟨e, he, ?_⟩
      rw [q1] at q ⊢
      exact Value.isInt_inj (.int k' u) k' k (intKind_is P0 w k' u) q

theorem in_b1 {w : World} {A : Around} {s : Shared} {Q : Value → Shared → Prop} {E : Value → Shared → Prop} {c : Nat} {t : Tok} (B : Base w s.heap) (hroom : A.depth + 1 < recursionLimit)
    (h : ∀ s', Keeps s s' → Q (.bool (b1 c)) s') : wpAny (model P0 w) A (call (.ref 39) [.str ⟨#[c]⟩ t]) Q E s := by
  refine enter B B.inb1 (Nat.lt_of_succ_lt hroom) (binds := [("code", .str ⟨#[c]⟩ t)]) (fun pm cd => rfl) (locs rfl) fun cd h₁ F => ?_
  have B₁ := B.keeps F.keep
  repeat' walk1
  refine B₁.builtin (fun _ g => g.ord) (by rfl) ?_
  repeat' walk1
  refine B₁.global (fun _ g => g.b1) ?_
  repeat' walk1
  refine wpAny_inSet_of (intKind_is P0 w _ _) rfl B₁.setOf ?_
  exact h _ ⟨_, _, rfl, F.keep⟩

theorem Strs.find {vs : List (Int × Value)} {kvs : List (Int × Str)} (h : Strs vs kvs) (k : Int) :
    (valueAt vs k = none ∧ kvs.find? (fun p => decide (p.1 = k)) = none) ∨ ∃ p t, valueAt vs k = some (.str p.2 t) ∧ kvs.find? (fun p => decide (p.1 = k)) = some p := by
  induction h with
  | nil => exact .inl ⟨rfl, rfl⟩
  | @cons k' x t vs kvs _ ih =>
    unfold valueAt at ih ⊢
    rw [List.find?_cons, List.find?_cons]
    by_cases q : k' = k
    · simp only [q, decide_true]
      exact .inr ⟨(k, x), t, rfl, rfl⟩
    · simp only [q, decide_false]
      exact ih

theorem lower_one (c : Nat) : Txt.lower ⟨#[c]⟩ = st (Unicode.lowerOf c) := by
  have e : Unicode.lowerAt #[c] 0 = Unicode.lowerOf c := by
    unfold Unicode.lowerAt
    have : Unicode.endsWord #[c] 0 = false := by rfl
    simp [this]
  unfold Txt.lower placed
  show (⟨_⟩ : Str) = ⟨_⟩
  congr 1
  have e2 : (#[c].mapIdx fun i (_ : Nat) => (Unicode.lowerAt #[c] i).toArray) = #[(Unicode.lowerAt #[c] 0).toArray] := by rfl
  rw [e] at e2
  show Array.flatten (#[c].mapIdx fun i (_ : Nat) => (Unicode.lowerAt #[c] i).toArray) = _
  rw [e2]
  simp

theorem map_b3 {w : World} {A : Around} {s : Shared} {Q : Value → Shared → Prop} {E : Value → Shared → Prop} {c : Nat} {t : Tok} (B : Base w s.heap) (hroom : A.depth + 1 < recursionLimit)
    (h : ∀ u s', Keeps s s' → Q (.str (st (m3 c)) u) s') : wpAny (model P0 w) A (call (.ref 85) [.str ⟨#[c]⟩ t]) Q E s := by
  refine enter B B.mapb3 (Nat.lt_of_succ_lt hroom) (binds := [("code", .str ⟨#[c]⟩ t)]) (fun pm cd => rfl) (locs rfl) fun cd h₁ F => ?_
  have B₁ := B.keeps F.keep
  have N : News s.heap s.heap.objs.size h₁ [] := News.nil
  obtain ⟨vs, hvs, hd⟩ := B₁.dict
  repeat' walk1
  refine B₁.global (fun _ g => g.b3) ?_
  refine getMethod_builtin hd.typeIs PySem.F.plainAttrs_dict PySem.F.slot_dict_get PySem.F.type_dict_get hd.mapOf.noDict ?_
  repeat' walk1
  refine B₁.builtin (fun _ g => g.ord) (by rfl) ?_
  repeat' walk1
  refine call_meetsIn PySem.F.slot_dict_get hd.typeIs PySem.F.entry_dict_get (PySem.F.args_dict_get_2 _ _) (meets_dict_get (intKind P0 w) 40 (intKind_is P0 w _ _) (by rfl)) ⟨_, hd.mapOf, ?_⟩
  rcases hvs.find c with ⟨e1, e2⟩ | ⟨p, u, e1, e2⟩
  · rw [e1]
    dsimp only [Option.getD]
    repeat' walk1
    rename_i h' F' N'
    refine SCL.lower (by show 1 ≤ 5592405; decide) fun _ => ?_
    rw [lower_one, ← m3_none e2]
    exact h _ _ ⟨_, _, rfl, F'.keep⟩
  · rw [e1]
    dsimp only [Option.getD]
    repeat' walk1
    rename_i h' F' N'
    have e : p.2 = st (m3 c) := by rw [m3_some e2]
    have := h u { s with heap := h', toks := s.toks + 1 + 1 + 1 + 1 } ⟨_, _, rfl, F'.keep⟩
    rw [← e] at this
    exact this
end Mine

namespace Mine
open Builtin Builtin.Str

theorem gives_find4 (x y : Str) (e : Int) (t u v q : Tok) : Gives («str.find» ⟨[.str x t, .str y u, .int 0 v, .int e q], []⟩) (.int (match occurrences x y 0 (min (fromIndex x.length e) x.length) 1 with | k :: _ => (k : Int) | [] => -1)) := by
  show Gives (match occurrences x y 0 (min (fromIndex x.length e) x.length) 1 with | k :: _ => retInt k | [] => (do rule "str.find.not-found"; retInt (-1))) _
  cases occurrences x y 0 (min (fromIndex x.length e) x.length) 1 with
  | nil => exact .rule (.of_eq rfl)
  | cons k _ => exact .of_eq rfl
theorem gives_rfind4 (x y : Str) (e : Int) (t u v q : Tok) : Gives («str.rfind» ⟨[.str x t, .str y u, .int 0 v, .int e q], []⟩) (.int (match lastOccurrence x y 0 (min (fromIndex x.length e) x.length) with | some k => (k : Int) | none => -1)) := by
  show Gives (match lastOccurrence x y 0 (min (fromIndex x.length e) x.length) with | some k => retInt k | none => (do rule "str.rfind.not-found"; retInt (-1))) _
  cases lastOccurrence x y 0 (min (fromIndex x.length e) x.length) with
  | none => exact .rule (.of_eq rfl)
  | some k => exact .of_eq rfl

theorem subAt_iff (l : List Nat) (c e i : Nat) (he : e ≤ l.length) : (i + (⟨#[c]⟩ : Str).length ≤ e ∧ subAt (st l) ⟨#[c]⟩ i = true) ↔ (l.take e)[i]? = some c := by
  have h1 := StrLaws.subAt_one (st l) c i
  have hl : (⟨#[c]⟩ : Str).length = 1 := rfl
  have hx : (st l).length = l.length := by simp [Str.length]
  rw [hl, hx] at h1
  rw [hl, List.getElem?_take]
  simp only [List.toList_toArray] at h1
  by_cases q : i < e
  · rw [if_pos q, ← h1]
    constructor
    · rintro ⟨a, b⟩; exact ⟨by omega, b⟩
    · rintro ⟨a, b⟩; exact ⟨by omega, b⟩
  · rw [if_neg q]
    constructor
    · rintro ⟨a, b⟩; omega
    · intro h; cases h

theorem split_at {l : List Nat} {i c : Nat} (h : l[i]? = some c) : l = l.take i ++ c :: l.drop (i + 1) ∧ (l.take i).length = i := by
  obtain ⟨hlt, hc⟩ := List.getElem?_eq_some_iff.mp h
  refine ⟨?_, by rw [List.length_take]; omega⟩
  rw [← hc, List.getElem_cons_drop, List.take_append_drop]

theorem find_first (l : List Nat) (c e : Nat) (he : e ≤ l.length) :
    ((match occurrences (st l) ⟨#[c]⟩ 0 e 1 with | k :: _ => (k : Int) | [] => -1) = -1 ∧ c ∉ l.take e) ∨
    ∃ a b, l.take e = a ++ c :: b ∧ c ∉ a ∧ (match occurrences (st l) ⟨#[c]⟩ 0 e 1 with | k :: _ => (k : Int) | [] => -1) = (a.length : Int) := by
  have key := StrLaws.occ_first (st l) ⟨#[c]⟩ e 1 (Nat.le_refl _) (List.range' 0 (e + 1 - 0)) 0 (fun _ _ => Nat.zero_le _)
  have hAt : ∀ i, StrLaws.At (st l) ⟨#[c]⟩ e i ↔ (l.take e)[i]? = some c := fun i => subAt_iff l c e i he
  rw [StrLaws.occ_eq]
  rcases key with ⟨k1, k2⟩ | ⟨pre, a, post, k1, k2, k3, k4⟩
  · left
    rw [k1]
    refine ⟨rfl, fun hm => ?_⟩
    obtain ⟨i, hi⟩ := List.mem_iff_getElem?.mp hm
    have hlt : i < e := by
      obtain ⟨hlt, _⟩ := List.getElem?_eq_some_iff.mp hi
      rw [List.length_take] at hlt; omega
    exact k2 i (by simp [List.mem_range']; omega) ((hAt i).mpr hi)
  · right
    obtain ⟨e1, e2⟩ := split_at ((hAt a).mp k3)
    refine ⟨_, _, e1, fun hm => ?_, ?_⟩
    · obtain ⟨i, hi⟩ := List.mem_iff_getElem?.mp hm
      rw [List.getElem?_take] at hi
      by_cases q : i < a
      · rw [if_pos q] at hi
        exact k4 i (StrLaws.range'_split k1 i q) ((hAt i).mpr hi)
      · rw [if_neg q] at hi; cases hi
    · rw [e2]
      generalize (forIn (List.range' 0 (e + 1 - 0)) ((#[] : Array Nat), 0) (StrLaws.occBody (st l) ⟨#[c]⟩ e 1)).run.fst = r at k2
      obtain ⟨r⟩ := r
      cases r with
      | nil => simp at k2
      | cons x r => simp at k2; subst k2; rfl

theorem find_last (l : List Nat) (c e : Nat) (he : e ≤ l.length) :
    ((match lastOccurrence (st l) ⟨#[c]⟩ 0 e with | some k => (k : Int) | none => -1) = -1 ∧ c ∉ l.take e) ∨
    ∃ a b, l.take e = a ++ c :: b ∧ c ∉ b ∧ (match lastOccurrence (st l) ⟨#[c]⟩ 0 e with | some k => (k : Int) | none => -1) = (a.length : Int) := by
  have hAt : ∀ i, StrLaws.At (st l) ⟨#[c]⟩ e i ↔ (l.take e)[i]? = some c := fun i => subAt_iff l c e i he
  have key := StrLaws.last_run (st l) ⟨#[c]⟩ e (List.range' 0 (e + 1 - 0)) [] none (fun _ h => nomatch h) (fun _ h => nomatch h) (by simpa using List.pairwise_lt_range' (s := 0) (n := e + 1 - 0))
  have mem : ∀ i, StrLaws.At (st l) ⟨#[c]⟩ e i → i ∈ [] ++ List.range' 0 (e + 1 - 0) := fun i hi => by have := hi.1; simp [List.mem_range'] <;> omega
  rw [StrLaws.last_eq]
  cases hr : (forIn (List.range' 0 (e + 1 - 0)) none (StrLaws.lastBody (st l) ⟨#[c]⟩ e)).run with
  | none =>
    rw [hr] at key
    left
    refine ⟨rfl, fun hm => ?_⟩
    obtain ⟨i, hi⟩ := List.mem_iff_getElem?.mp hm
    have := (hAt i).mpr hi
    exact key i (mem i this) this
  | some a =>
    rw [hr] at key
    right
    obtain ⟨e1, e2⟩ := split_at ((hAt a).mp key.1)
    refine ⟨_, _, e1, fun hm => ?_, by rw [e2]⟩
    obtain ⟨i, hi⟩ := List.mem_iff_getElem?.mp hm
    rw [List.getElem?_drop] at hi
    have := (hAt (a + 1 + i)).mpr hi
    exact key.2 _ (mem _ this) (by omega) this
end Mine

namespace Mine
open Builtin Builtin.Str

theorem frSee {h₀ h : Heap} {L : Addr} {m : Str → Option Value} {x : Str} {v : Value} (F : Fr h₀ L h m) (hx : m x = some v) : Fr h₀ L h (fun y => if y = x then some v else m y) := by
  have : (fun y => if y = x then some v else m y) = m := funext fun y => by
    by_cases q : y = x
    · rw [if_pos q, q, hx]
    · rw [if_neg q]
  rw [this]; exact F

section
variable {w : World} {A : Around} {s : Shared} {Q : Value → Shared → Prop} {l : List Nat} {t : Tok} {cd : Value}

theorem find4 {A : Around} {E : Value → Shared → Prop} {s : Shared} {c e : Nat} {t u v q : Tok} (he : e ≤ l.length)
    (h : ∀ i tk, ((i = -1 ∧ c ∉ l.take e) ∨ ∃ a b, l.take e = a ++ c :: b ∧ c ∉ a ∧ i = (a.length : Int)) → Q (.int i tk) { s with toks := s.toks + 1 }) :
    wpAny (model P0 w) A (call (.builtin "str.find") [.str (st l) t, .str ⟨#[c]⟩ u, .int 0 v, .int (e : Int) q]) Q E s := by
  refine call_gives F.slot_str_find (typeIs_str _ _ _) F.entry_str_find (F.args_str_find_4 _ _ _ _) (gives_find4 (st l) ⟨#[c]⟩ e t u v q) ?_
  have e1 : min (fromIndex (st l).length (e : Int)) (st l).length = e := by
    have hx : (st l).length = l.length := by simp [Str.length]
    rw [hx]
    unfold fromIndex
    rw [if_neg (by omega)]
    omega
  rw [e1]
  exact h _ _ (find_first l c e he)
theorem rfind4 {A : Around} {E : Value → Shared → Prop} {s : Shared} {c e : Nat} {t u v q : Tok} (he : e ≤ l.length)
    (h : ∀ i tk, ((i = -1 ∧ c ∉ l.take e) ∨ ∃ a b, l.take e = a ++ c :: b ∧ c ∉ b ∧ i = (a.length : Int)) → Q (.int i tk) { s with toks := s.toks + 1 }) :
    wpAny (model P0 w) A (call (.builtin "str.rfind") [.str (st l) t, .str ⟨#[c]⟩ u, .int 0 v, .int (e : Int) q]) Q E s := by
  refine call_gives F.slot_str_rfind (typeIs_str _ _ _) F.entry_str_rfind (F.args_str_rfind_4 _ _ _ _) (gives_rfind4 (st l) ⟨#[c]⟩ e t u v q) ?_
  have e1 : min (fromIndex (st l).length (e : Int)) (st l).length = e := by
    have hx : (st l).length = l.length := by simp [Str.length]
    rw [hx]
    unfold fromIndex
    rw [if_neg (by omega)]
    omega
  rw [e1]
  exact h _ _ (find_last l c e he)

theorem slice_eq {l : List Nat} {i : Int} {e k : Nat} (hi : i = (k : Int)) (hk : k ≤ e) (he : e ≤ l.length) : Txt.slice (st l) (some i) (some (e : Int)) = st ((l.take e).drop k) := by
  subst hi
  have := slice_closes (x := st l) (i := (k : Int)) (j := (e : Int)) ⟨by omega, by omega, by simpa using he⟩
  rw [eq_of_beq this]
  show st ((l.drop k).take ((e : Int) - (k : Int)).toNat) = _
  rw [List.drop_take]
  congr 2
  omega

theorem strip3 {L : Addr} {h' : Heap} {tk : Nat} {m : Str → Option Value} {e : Nat} {u1 u2 : Tok} (hl : l.length ≤ 1000) (F : Fr s.heap L h' m) (hm : m "msg" = some (.str (st l) t)) (hs : m "start" = some (.int 0 u1)) (he : m "end" = some (.int e u2))
    (hle : e ≤ l.length) (ht : l.take e = l.takeWhile fun c => c != 58 && c != 10) (h : ∀ u s', Keeps s s' → Q (.str (st (strip l)) u) s') :
    wpAny (model P0 w) A (execs ((bodyAt 1).drop 5) (envOf "_strip_exception_details" (scopeAt 1) L 21 cd)) (fun f s' => Q (match f with | .ret v => v | _ => .none) s') (fun _ _ => False) { s with heap := h', toks := tk } := by
  replace F := frSee (x := "end") (frSee (x := "start") (frSee (x := "msg") F hm) hs) he
  have N : News s.heap L h' [] := News.nil
  repeat' walk1
  refine rfind4 (c := 46) hle fun i tk' hi => ?_
  repeat' walk1
  · rename_i hge h1 F1 N1 h2 t2 k2 F2 N2 hlen
    rcases hi with ⟨hi, _⟩ | ⟨a, b, e1, e2, rfl⟩
    · omega
    · have hlen : a.length + 1 ≤ e := by
        have := congrArg List.length e1
        simp only [List.length_take, List.length_append, List.length_cons] at this
        omega
      have es : strip l = b := by
        unfold strip
        rw [← ht, e1, afterDot_dot, afterDot_clean fun x hx q => e2 (q ▸ hx)]
      have eb : (l.take e).drop (a.length + 1) = b := by
        rw [e1, show a ++ 46 :: b = (a ++ [46]) ++ b by simp, List.drop_append_of_le_length (by simp), List.drop_of_length_le (by simp), List.nil_append]
      have hq := h t2 { s with heap := h2, toks := k2 } ⟨_, _, rfl, F2.keep⟩
      rw [es, ← eb, ← slice_eq (i := (a.length : Int) + 1) (k := a.length + 1) (by omega) hlen hle] at hq
      exact hq
  · rename_i hge h2 t2 k2 F2 N2 hlen
    rcases hi with ⟨hi, hn⟩ | ⟨a, b, e1, e2, rfl⟩
    · have es : strip l = l.take e := by
        unfold strip
        rw [← ht, afterDot_clean fun x hx q => hn (q ▸ hx)]
      have hq := h t2 { s with heap := h2, toks := k2 } ⟨_, _, rfl, F2.keep⟩
      rw [es, show l.take e = (l.take e).drop 0 from rfl, ← slice_eq (i := 0) (k := 0) rfl (Nat.zero_le _) hle] at hq
      exact hq
    · omega
theorem take_both (l : List Nat) {e : Nat} (h : l.take e = l.takeWhile (· != 10)) : (l.take e).takeWhile (· != 58) = l.takeWhile fun c => c != 58 && c != 10 := by
  rw [h]
  clear h
  induction l with
  | nil => rfl
  | cons a r ih =>
    by_cases q : a = 10
    · subst q; rfl
    · rw [List.takeWhile_cons_of_pos (by simpa using q)]
      by_cases q2 : a = 58
      · subst q2; rfl
      · rw [List.takeWhile_cons_of_pos (by simpa using q2), List.takeWhile_cons_of_pos (by simp [q, q2]), ih]
theorem take_len {p : Nat → Bool} : ∀ l : List Nat, l.take (l.takeWhile p).length = l.takeWhile p
  | [] => rfl
  | a :: r => by
    by_cases q : p a = true
    · rw [List.takeWhile_cons_of_pos q, List.length_cons, List.take_succ_cons, take_len r]
    · rw [List.takeWhile_cons_of_neg q]; rfl

theorem strip2 {L : Addr} {h' : Heap} {tk : Nat} {m : Str → Option Value} {e : Nat} {u1 u2 : Tok} (hl : l.length ≤ 1000) (F : Fr s.heap L h' m) (hm : m "msg" = some (.str (st l) t)) (hs : m "start" = some (.int 0 u1)) (he : m "end" = some (.int e u2))
    (hle : e ≤ l.length) (ht : l.take e = l.takeWhile fun c => c != 10) (h : ∀ u s', Keeps s s' → Q (.str (st (strip l)) u) s') :
    wpAny (model P0 w) A (execs ((bodyAt 1).drop 3) (envOf "_strip_exception_details" (scopeAt 1) L 21 cd)) (fun f s' => Q (match f with | .ret v => v | _ => .none) s') (fun _ _ => False) { s with heap := h', toks := tk } := by
  replace F := frSee (x := "end") (frSee (x := "start") (frSee (x := "msg") F hm) hs) he
  refine wpAny_execs_append (((bodyAt 1).drop 3).take 2) ((bodyAt 1).drop 5) ?_
  have hlen : (l.take e).length = e := by rw [List.length_take]; omega
  have N : News s.heap L h' [] := News.nil
  repeat' walk1
  refine find4 (c := 58) hle fun i tk' hi => ?_
  repeat' walk1
  · rename_i h0 F0 N0 hge h1 F1 N1
    rcases hi with ⟨hi, _⟩ | ⟨a, b, e1, e2, rfl⟩
    · omega
    · have hb : a.length ≤ l.length := by
        have := congrArg List.length e1
        simp only [List.length_append, List.length_cons] at this
        omega
      have ea : (l.take e).takeWhile (· != 58) = a := by
        rw [e1, take_cut (by rfl), take_all fun x hx => by simpa using fun q : x = 58 => e2 (q ▸ hx)]
      show wpAny _ _ (execs [] _) _ _ _
      refine wpAny_execs_nil ?_
      refine strip3 (s := s) (e := a.length) hl F1 rfl rfl rfl hb ?_ h
      rw [← take_both l ht, ea]
      have : (l.take e).take a.length = a := by rw [e1]; simp
      rw [← this, List.take_take]
      congr 1
      have := congrArg List.length e1
      simp only [List.length_append, List.length_cons] at this
      simp only [List.length_take]
      omega
  · rename_i h1 F1 N1 hge
    rcases hi with ⟨hi, hn⟩ | ⟨a, b, e1, e2, rfl⟩
    · show wpAny _ _ (execs [] _) _ _ _
      refine wpAny_execs_nil ?_
      refine strip3 (s := s) (e := e) hl F1 rfl rfl rfl hle ?_ h
      rw [← take_both l ht, take_all fun x hx => by simpa using fun q : x = 58 => hn (q ▸ hx)]
    · omega
end

theorem strip_ok {w : World} {A : Around} {s : Shared} {Q : Value → Shared → Prop} {E : Value → Shared → Prop} {l : List Nat} {t : Tok} (B : Base w s.heap) (hh : A.handled = none) (hroom : A.depth + 1 < recursionLimit) (hl : l.length ≤ 1000)
    (h : ∀ u s', Keeps s s' → Q (.str (st (strip l)) u) s') : wpAny (model P0 w) A (call (.ref 21) [.str (st l) t]) Q E s := by
  refine enter B B.strip (Nat.lt_of_succ_lt hroom) (binds := [("msg", .str (st l) t)]) (fun pm cd => rfl) (locs rfl) fun cd h₁ F => ?_
  have B₁ := B.keeps F.keep
  have N : News s.heap s.heap.objs.size h₁ [] := News.nil
  have hx : (st l).length = l.length := by simp [Str.length]
  refine wpAny_execs_append ((bodyAt 1).take 3) ((bodyAt 1).drop 3) ?_
  repeat' walk1
  refine B₁.builtin (fun _ g => g.len) (by rfl) ?_
  repeat' walk1
  rename_i h2 F2 N2
  refine unpackItemsN_ F2 N2 (News.isTup N2 (.head _)) hh rfl fun h3 F3 N3 => ?_
  clear F2 N2
  repeat' walk1
  all_goals
    have hf : (Txt.find (st l) (Str.ofString "\n") = -1 ∧ 10 ∉ l.take l.length) ∨ ∃ a b, l.take l.length = a ++ 10 :: b ∧ 10 ∉ a ∧ Txt.find (st l) (Str.ofString "\n") = (a.length : Int) := find_first l 10 l.length (Nat.le_refl _)
    rw [List.take_length] at hf
  · rename_i h0 F0 N0 hge h1 F1 N1
    rcases hf with ⟨hi, _⟩ | ⟨a, b, e1, e2, e3⟩
    · omega
    · rw [e3] at F1
      have hb : a.length ≤ l.length := by
        have := congrArg List.length e1
        simp only [List.length_append, List.length_cons] at this
        omega
      show wpAny _ _ (execs [] _) _ _ _
      refine wpAny_execs_nil ?_
      refine strip2 (s := s) (e := a.length) hl F1 rfl rfl rfl hb ?_ h
      have ea : l.takeWhile (· != 10) = a := by
        rw [e1, take_cut (by rfl), take_all fun x hx => by simpa using fun q : x = 10 => e2 (q ▸ hx)]
      have : l.take a.length = a := by rw [e1]; simp
      rw [this, ea]
  · rename_i h1 F1 N1 hge
    rcases hf with ⟨hi, hn⟩ | ⟨a, b, e1, e2, e3⟩
    · show wpAny _ _ (execs [] _) _ _ _
      refine wpAny_execs_nil ?_
      refine strip2 (s := s) (e := l.length) hl F1 rfl rfl rfl (Nat.le_refl _) ?_ h
      rw [List.take_length, take_all fun x hx => by simpa using fun q : x = 10 => hn (q ▸ hx)]
    · omega
end Mine

namespace Mine
open Builtin Builtin.Str

theorem frKeeps {h₀ h h' : Heap} {L : Addr} {m : Str → Option Value} (F : Fr h₀ L h m) (k : ∀ b o, h.get? b = some o → h'.get? b = some o) : Fr h₀ L h' m :=
  ⟨F.ns.keeps k, fun b o e => k _ _ (F.keep b o e), F.above⟩
theorem newsKeeps {h₀ h h' : Heap} {L : Addr} {news : List (Addr × Obj)} (N : News h₀ L h news) (k : ∀ b o, h.get? b = some o → h'.get? b = some o) : News h₀ L h' news :=
  fun p hp => ⟨k _ _ (N p hp).1, (N p hp).2⟩

theorem chr_ok {w : World} {A : Around} {s : Shared} {Q : Value → Shared → Prop} {E : Value → Shared → Prop} {i : Int} {t : Tok} (h0 : 0 ≤ i) (h1 : i ≤ 1114111) (h : Q (.str ⟨#[i.toNat]⟩ s.toks) { s with toks := s.toks + 1 }) :
    wpAny (model P0 w) A (call (.builtin "chr") [.int i t]) Q E s :=
  P.chr_of_int (by rw [decide_eq_false (by omega), decide_eq_false (by omega)]; rfl) h

theorem any_ok {w : World} {A : Around} {s : Shared} {Q : Value → Shared → Prop} {E : Value → Shared → Prop} {k : Int} {t : Tok} (B : Base w s.heap) (hroom : A.depth + 1 < recursionLimit)
    (h : ∀ c u s', Keeps s s' → Q (.str ⟨#[c]⟩ u) s') : wpAny (model P0 w) A (call (.ref 99) [.int k t]) Q E s := by
  refine enter B B.any (Nat.lt_of_succ_lt hroom) (binds := [("k", .int k t)]) (fun pm cd => rfl) (locs rfl) fun cd h₁ F => ?_
  have B₁ := B.keeps F.keep
  have N : News s.heap s.heap.objs.size h₁ [] := News.nil
  have h0 : 0 ≤ k.fmod 1112064 := Int.fmod_nonneg_of_pos k (by decide)
  have h1 : k.fmod 1112064 < 1112064 := Int.fmod_lt_of_pos k (by decide)
  repeat' walk1
  all_goals
    rename_i h2 F2 N2 hc
    have B₂ := B.keeps F2.keep
    refine B₂.builtin (fun _ g => g.chr) (by rfl) ?_
  · repeat' walk1
    exact h _ _ _ ⟨_, _, rfl, F2.keep⟩
  · repeat' walk1
    exact h _ _ _ ⟨_, _, rfl, F2.keep⟩

theorem row_ok : ∀ n : Fin 11, 0 ≤ ([173, 847, 6150, 6155, 6156, 6157, 8203, 8204, 8205, 8288, 65279] : List Int).getD ((n.1 : Nat) : Int).toNat 0 ∧ ([173, 847, 6150, 6155, 6156, 6157, 8203, 8204, 8205, 8288, 65279] : List Int).getD ((n.1 : Nat) : Int).toNat 0 ≤ 1114111 ∧
    b1 (((([173, 847, 6150, 6155, 6156, 6157, 8203, 8204, 8205, 8288, 65279] : List Int).getD ((n.1 : Nat) : Int).toNat 0).toNat : Nat) : Int) = true := by decide
theorem high_ok : ∀ n : Fin 16, b1 ((65024 + n.1 : Nat) : Int) = true := by decide

theorem nothing_ok {w : World} {A : Around} {s : Shared} {Q : Value → Shared → Prop} {E : Value → Shared → Prop} {k : Int} {t : Tok} (B : Base w s.heap) (hroom : A.depth + 1 < recursionLimit)
    (h : ∀ c u s', Keeps s s' → b1 ((c : Nat) : Int) = true → Q (.str ⟨#[c]⟩ u) s') : wpAny (model P0 w) A (call (.ref 92) [.int k t]) Q E s := by
  refine enter B B.nothing (Nat.lt_of_succ_lt hroom) (binds := [("k", .int k t)]) (fun pm cd => rfl) (locs rfl) fun cd h₁ F => ?_
  have B₁ := B.keeps F.keep
  have N : News s.heap s.heap.objs.size h₁ [] := News.nil
  repeat' walk1
  all_goals
    rename_i h2 F2 N2 hc
    have B₂ := B.keeps F2.keep
    have h0 : 0 ≤ k.fmod 27 := Int.fmod_nonneg_of_pos k (by decide)
    have h1 : k.fmod 27 < 27 := Int.fmod_lt_of_pos k (by decide)
    refine B₂.builtin (fun _ g => g.chr) (by rfl) ?_
  · repeat' walk1
    obtain ⟨n, hn⟩ : ∃ n : Nat, k.fmod 27 = n := ⟨(k.fmod 27).toNat, by omega⟩
    have hlt : n < 11 := by omega
    rw [hn]
    obtain ⟨a1, a2, a3⟩ := row_ok ⟨n, hlt⟩
    refine chr_ok a1 a2 ?_
    exact h _ _ _ ⟨_, _, rfl, F2.keep⟩ a3
  · repeat' walk1
    obtain ⟨n, hn⟩ : ∃ n : Nat, k.fmod 27 = ((n + 11 : Nat) : Int) := ⟨(k.fmod 27 - 11).toNat, by omega⟩
    have hlt : n < 16 := by omega
    refine h _ _ _ ⟨_, _, rfl, F2.keep⟩ ?_
    have e : (65024 + k.fmod 27 - 11).toNat = 65024 + n := by omega
    rw [e]
    exact high_ok ⟨n, hlt⟩
end Mine

namespace Mine
open Builtin Builtin.Str

theorem callDef {M : Model} {A : Around} {E : Value → Shared → Prop} {Q : Value → Shared → Prop} {s : Shared} {pos : Pos} {a : Addr} {name : Str} {params : Arguments} {body : List Stmt} {scope : Scope} {e : Expr} {rest : List Expr} {env : Env} (D : IsDef s.heap a name params body scope)
    (h : wpAny M A (spliced (backTo pos (starEach (e :: rest) env))) (fun vs s₁ => (∀ o, s.heap.get? a = some o → s₁.heap.get? a = some o) ∧ wpAny M A (call (.ref a) vs) Q E s₁) E s)
    (he : starEach (e :: rest) env = (false, PySem.eval e env) :: starEach rest env := by rfl) : wpAny M A (callWith pos (.ref a) [] (backTo pos (starEach (e :: rest) env)) []) Q E s := by
  obtain ⟨o, pm, cd, h1, h2, _⟩ := D.ex
  refine Calls.callWith_function (o := o) (fd := Calls.docDef name params body scope pm cd .none) ?_
  rw [he] at h ⊢
  exact Calls.evalArgs_plain (wpAny_mono h (fun vs s₁ q => ⟨⟨q.1 o h1, h2⟩, q.2⟩) fun _ _ q => q)

theorem yOf {Y : Str} {c : Nat} {l : List Nat} (h : img c = l) (e : Y = st l) : Y = st (img c) := by rw [h]; exact e
theorem img_b1 {c : Nat} (h : b1 (c : Int) = true) : img c = [] := by unfold img; rw [h]; rfl
theorem img_6_0 : img 223 = [115, 115] := by kernel_rfl
theorem img_6_1 : img 304 = [105, 775] := by kernel_rfl
theorem img_6_2 : img 64259 = [102, 102, 105] := by kernel_rfl
theorem img_6_3 : img 8470 = [110, 111] := by kernel_rfl
theorem img_6_4 : img 8481 = [116, 101, 108] := by kernel_rfl
theorem img_6_5 : img 890 = [32, 953] := by kernel_rfl
theorem img_6_6 : img 13254 = [99, 8725, 107, 103] := by kernel_rfl
theorem img_6_7 : img 8119 = [945, 834, 953] := by kernel_rfl
theorem img_great_all : (List.range 26).all (fun n => decide (img (65 + n) = [97 + n])) = true := by kernel_rfl
theorem img_bold_all : (List.range 26).all (fun n => decide (img (119808 + n) = [97 + n])) = true := by kernel_rfl
theorem img_great {n : Nat} (h : n < 26) : img (65 + n) = [97 + n] := of_decide_eq_true (List.all_eq_true.mp img_great_all n (List.mem_range.mpr h))
theorem img_bold {n : Nat} (h : n < 26) : img (119808 + n) = [97 + n] := of_decide_eq_true (List.all_eq_true.mp img_bold_all n (List.mem_range.mpr h))

section
variable {w : World} {A : Around} {s : Shared} {Q : Value → Shared → Prop}
theorem pairFin {T L : Addr} {h' : Heap} {tk : Nat} {m : Str → Option Value} {news : List (Addr × Obj)} {X Y : Str} {u v : Tok}
    (h : ∀ T c u v s', Keeps s s' → s.heap.get? T = none → IsTup s'.heap T #[.str (st [c]) u, .str (st (img c)) v] → Q (.ref T) s')
    (F : Fr s.heap L h' m) (N : News s.heap L h' news) (hm : (T, { cls := .type "tuple", data := .seq #[.str X u, .str Y v] }) ∈ news) (c : Nat) (hX : X = st [c]) (hY : Y = st (img c)) : Q (.ref T) { s with heap := h', toks := tk } := by
  subst hX hY
  exact h T c u v _ ⟨_, _, rfl, F.keep⟩ (N.fresh hm) ⟨_, N.get hm, rfl, _, rfl⟩
end

set_option maxHeartbeats 4000000 in
theorem pair_ok {w : World} {A : Around} {s : Shared} {Q : Value → Shared → Prop} {E : Value → Shared → Prop} {x : Int} {t : Tok} (B : Base w s.heap) (hroom : A.depth + 2 < recursionLimit)
    (h : ∀ T c u v s', Keeps s s' → s.heap.get? T = none → IsTup s'.heap T #[.str (st [c]) u, .str (st (img c)) v] → Q (.ref T) s') : wpAny (model P0 w) A (call (.ref 106) [.int x t]) Q E s := by
  refine enter B B.pair (by omega) (binds := [("x", .int x t)]) (fun pm cd => rfl) (locs rfl) fun cd h₁ F => ?_
  have B₁ := B.keeps F.keep
  have N : News s.heap s.heap.objs.size h₁ [] := News.nil
  repeat' walk1
  · rename_i h2 F2 N2
    exact pairFin (s := s) h F2 N2 (.head _) 46 rfl (yOf (img_self (.inr (.inr rfl))) rfl)
  · rename_i h2 F2 N2
    exact pairFin (s := s) h F2 N2 (.head _) 58 rfl (yOf (img_self (.inl rfl)) rfl)
  · rename_i h2 F2 N2
    exact pairFin (s := s) h F2 N2 (.head _) 10 rfl (yOf (img_self (.inr (.inl rfl))) rfl)
  · rename_i h2 F2 N2
    exact pairFin (s := s) h F2 N2 (.head _) 13255 rfl (yOf img_co rfl)
  · rename_i h2 F2 N2 c0 c1 c2 c3
    have B₂ := B.keeps F2.keep
    refine B₂.global (fun _ g => g.nothing) ?_
    refine callDef B₂.nothing ?_
    repeat' walk1
    refine nothing_ok B₂ (by show A.depth + 1 + 1 < _; omega) fun c u s3 hs3 hb => ?_
    obtain ⟨h3, tk3, rfl, k3⟩ := hs3
    have F3 := frKeeps F2 k3
    have N3 := newsKeeps N2 k3
    clear F2 N2
    repeat' walk1
    rename_i h4 F4 N4
    exact pairFin (s := s) h F4 N4 (.head _) c rfl (yOf (img_b1 hb) rfl)
  · rename_i h2 F2 N2 c0 c1 c2 c3 c4
    have B₂ := B.keeps F2.keep
    have r0 : 0 ≤ (x.fdiv 8).fmod 26 := Int.fmod_nonneg_of_pos _ (by decide)
    have r1 : (x.fdiv 8).fmod 26 < 26 := Int.fmod_lt_of_pos _ (by decide)
    refine B₂.builtin (fun _ g => g.chr) (by rfl) ?_
    repeat' walk1
    refine B₂.builtin (fun _ g => g.chr) (by rfl) ?_
    repeat' walk1
    rename_i h4 F4 N4
    obtain ⟨n, hn⟩ : ∃ n : Nat, (x.fdiv 8).fmod 26 = n := ⟨((x.fdiv 8).fmod 26).toNat, by omega⟩
    refine pairFin (s := s) h F4 N4 (.head _) (65 + n) ?_ ?_
    · rw [hn]; show (⟨#[((65 : Int) + (n : Int)).toNat]⟩ : Str) = ⟨#[65 + n]⟩; congr 2
    · refine yOf (img_great (n := n) (by omega)) ?_; rw [hn]; show (⟨#[((97 : Int) + (n : Int)).toNat]⟩ : Str) = ⟨#[97 + n]⟩; congr 2
  · rename_i h2 F2 N2 c0 c1 c2 c3 c4 c5
    have B₂ := B.keeps F2.keep
    have r0 : 0 ≤ (x.fdiv 8).fmod 26 := Int.fmod_nonneg_of_pos _ (by decide)
    have r1 : (x.fdiv 8).fmod 26 < 26 := Int.fmod_lt_of_pos _ (by decide)
    refine B₂.builtin (fun _ g => g.chr) (by rfl) ?_
    repeat' walk1
    refine B₂.builtin (fun _ g => g.chr) (by rfl) ?_
    repeat' walk1
    rename_i h4 F4 N4
    obtain ⟨n, hn⟩ : ∃ n : Nat, (x.fdiv 8).fmod 26 = n := ⟨((x.fdiv 8).fmod 26).toNat, by omega⟩
    refine pairFin (s := s) h F4 N4 (.head _) (119808 + n) ?_ ?_
    · rw [hn]; show (⟨#[((119808 : Int) + (n : Int)).toNat]⟩ : Str) = ⟨#[119808 + n]⟩; congr 2
    · refine yOf (img_bold (n := n) (by omega)) ?_; rw [hn]; show (⟨#[((97 : Int) + (n : Int)).toNat]⟩ : Str) = ⟨#[97 + n]⟩; congr 2
  · rename_i h2 F2 N2
    have r0 : 0 ≤ (x.fdiv 8).fmod 8 := Int.fmod_nonneg_of_pos _ (by decide)
    have r1 : (x.fdiv 8).fmod 8 < 8 := Int.fmod_lt_of_pos _ (by decide)
    have hL := News.isList N2 (.head _)
    obtain ⟨n, hn⟩ : ∃ n : Nat, (x.fdiv 8).fmod 8 = n := ⟨((x.fdiv 8).fmod 8).toNat, by omega⟩
    rw [hn]
    have hlt : n = 0 ∨ n = 1 ∨ n = 2 ∨ n = 3 ∨ n = 4 ∨ n = 5 ∨ n = 6 ∨ n = 7 := by omega
    rcases hlt with rfl | rfl | rfl | rfl | rfl | rfl | rfl | rfl
    · refine tail_any hL.typeIs slot_list_getitem.lookup (wpAny_getItem_list hL (by decide) (by decide) rfl ?_) (by with_unfolding_all rfl)
      refine' pairFin (s := s) h F2 N2 ?m 223 ?x ?y
      case m => k_mem
      case x => rfl
      case y => exact yOf img_6_0 rfl
    · refine tail_any hL.typeIs slot_list_getitem.lookup (wpAny_getItem_list hL (by decide) (by decide) rfl ?_) (by with_unfolding_all rfl)
      refine' pairFin (s := s) h F2 N2 ?m 304 ?x ?y
      case m => k_mem
      case x => rfl
      case y => exact yOf img_6_1 rfl
    · refine tail_any hL.typeIs slot_list_getitem.lookup (wpAny_getItem_list hL (by decide) (by decide) rfl ?_) (by with_unfolding_all rfl)
      refine' pairFin (s := s) h F2 N2 ?m 64259 ?x ?y
      case m => k_mem
      case x => rfl
      case y => exact yOf img_6_2 rfl
    · refine tail_any hL.typeIs slot_list_getitem.lookup (wpAny_getItem_list hL (by decide) (by decide) rfl ?_) (by with_unfolding_all rfl)
      refine' pairFin (s := s) h F2 N2 ?m 8470 ?x ?y
      case m => k_mem
      case x => rfl
      case y => exact yOf img_6_3 rfl
    · refine tail_any hL.typeIs slot_list_getitem.lookup (wpAny_getItem_list hL (by decide) (by decide) rfl ?_) (by with_unfolding_all rfl)
      refine' pairFin (s := s) h F2 N2 ?m 8481 ?x ?y
      case m => k_mem
      case x => rfl
      case y => exact yOf img_6_4 rfl
    · refine tail_any hL.typeIs slot_list_getitem.lookup (wpAny_getItem_list hL (by decide) (by decide) rfl ?_) (by with_unfolding_all rfl)
      refine' pairFin (s := s) h F2 N2 ?m 890 ?x ?y
      case m => k_mem
      case x => rfl
      case y => exact yOf img_6_5 rfl
    · refine tail_any hL.typeIs slot_list_getitem.lookup (wpAny_getItem_list hL (by decide) (by decide) rfl ?_) (by with_unfolding_all rfl)
      refine' pairFin (s := s) h F2 N2 ?m 13254 ?x ?y
      case m => k_mem
      case x => rfl
      case y => exact yOf img_6_6 rfl
    · refine tail_any hL.typeIs slot_list_getitem.lookup (wpAny_getItem_list hL (by decide) (by decide) rfl ?_) (by with_unfolding_all rfl)
      refine' pairFin (s := s) h F2 N2 ?m 8119 ?x ?y
      case m => k_mem
      case x => rfl
      case y => exact yOf img_6_7 rfl
  · rename_i h2 F2 N2 c0 c1 c2 c3 c4 c5 c6
    have B₂ := B.keeps F2.keep
    refine B₂.global (fun _ g => g.any) ?_
    refine callDef B₂.any ?_
    repeat' walk1
    refine any_ok B₂ (by show A.depth + 1 + 1 < _; omega) fun c u s3 hs3 => ?_
    obtain ⟨h3, tk3, rfl, k3⟩ := hs3
    have F3 := frKeeps F2 k3
    have N3 := newsKeeps N2 k3
    clear F2 N2
    repeat' walk1
    rename_i h4 F4 N4
    have B₄ := B.keeps F4.keep
    refine B₄.global (fun _ g => g.inb1) ?_
    refine callDef B₄.inb1 ?_
    repeat' walk1
    refine in_b1 B₄ (by show A.depth + 1 + 1 < _; omega) fun s5 hs5 => ?_
    obtain ⟨h5, tk5, rfl, k5⟩ := hs5
    have F5 := frKeeps F4 k5
    have N5 := newsKeeps N4 k5
    clear F3 N3 F4 N4
    cases hb : b1 (c : Int) with
    | true =>
      repeat' walk1
      rename_i h6 F6 N6
      exact pairFin (s := s) h F6 N6 (.head _) c rfl (yOf (img_b1 hb) rfl)
    | false =>
      have B₅ := B.keeps F5.keep
      repeat' walk1
      refine B₅.global (fun _ g => g.mapb3) ?_
      refine callDef B₅.mapb3 ?_
      repeat' walk1
      refine map_b3 B₅ (by show A.depth + 1 + 1 < _; omega) fun u6 s6 hs6 => ?_
      obtain ⟨h6, tk6, rfl, k6⟩ := hs6
      have F6 := frKeeps F5 k6
      have N6 := newsKeeps N5 k6
      clear F5 N5
      repeat' walk1
      rename_i h7 F7 N7
      exact pairFin (s := s) h F7 N7 (.head _) c rfl (by unfold img; rw [hb]; rfl)
end Mine

namespace Mine
open Builtin Builtin.Str

/-- a list of the law's pairs -/
inductive PairList (h : Heap) : List Value → List Nat → Prop
  | nil : PairList h [] []
  | cons {T c u v vs cs} : IsTup h T #[.str (st [c]) u, .str (st (img c)) v] → PairList h vs cs → PairList h (.ref T :: vs) (c :: cs)

theorem PairList.keeps {h h' : Heap} (k : ∀ b o, h.get? b = some o → h'.get? b = some o) {vs : List Value} {cs : List Nat} (x : PairList h vs cs) : PairList h' vs cs := by
  induction x with
  | nil => exact .nil
  | cons a _ ih => exact .cons (a.keeps k) ih
theorem PairList.append {h : Heap} {vs ws : List Value} {cs ds : List Nat} (x : PairList h vs cs) (y : PairList h ws ds) : PairList h (vs ++ ws) (cs ++ ds) := by
  induction x with
  | nil => exact y
  | cons a _ ih => exact .cons a ih
theorem PairList.length {h : Heap} {vs : List Value} {cs : List Nat} (x : PairList h vs cs) : vs.length = cs.length := by
  induction x with
  | nil => rfl
  | cons _ _ ih => simp [ih]

theorem Ints.mem {vs : List Value} {ns : List Int} (h : Ints vs ns) {v : Value} (hv : v ∈ vs) : ∃ n t, v = .int n t := by
  induction h with
  | nil => cases hv
  | cons _ ih =>
    rcases List.mem_cons.mp hv with rfl | q
    · exact ⟨_, _, rfl⟩
    · exact ih q

/-- a made pair -/
def PairG (_v : Value) (vs : Array Value) : Prop := ∃ c u1 u2, vs = #[.str (st [c]) u1, .str (st (img c)) u2]

theorem paired_pairs {h : Heap} : ∀ {l ys : List Value}, Paired (TupIs PairG h) l ys → ∃ cs, PairList h ys cs ∧ cs.length = l.length
  | _, _, .nil => ⟨[], .nil, rfl⟩
  | _, _, .cons hF ht => by
    obtain ⟨cs, a, b⟩ := paired_pairs ht
    obtain ⟨T, vs, rfl, hT, c, u1, u2, rfl⟩ := hF
    exact ⟨c :: cs, .cons hT a, by simp [b]⟩

/-- two lists joined: the new heap, told -/
theorem joinLists {w : World} {A : Around} {E : Value → Shared → Prop} {s : Shared} {l b : Addr} {vs ws : List Value} {Q : Value → Shared → Prop} (hl : s.heap.IsList l vs.toArray) (hb : s.heap.IsList b ws.toArray) (hsz : vs.length + ws.length ≤ sizeLine)
    (h : ∀ h', (∀ b o, s.heap.get? b = some o → h'.get? b = some o) → h'.IsList s.heap.objs.size (vs ++ ws).toArray → Q (.ref s.heap.objs.size) { s with heap := h' }) : wpAny (model P0 w) A (binaryOp .Add (.ref l) (.ref b)) Q E s := by
  obtain ⟨⟨c1, d1, x1, s1⟩, g1, e1, n1, f1⟩ := hl
  obtain ⟨⟨c2, d2, x2, s2⟩, g2, e2, n2, f2⟩ := hb
  dsimp only at e1 f1 e2 f2
  subst e1 f1 e2 f2
  refine concat_meets ⟨_, g1, rfl⟩ ⟨_, g2, rfl⟩ noFill_list_add seq_list_add PySem.F.slot_list_add PySem.F.entry_list_add (PySem.F.args_list_add_2 _ _) (list_addW l b vs.toArray ws.toArray n1 n2 d1 d2 s1 s2 (by simpa using hsz)) ⟨g1, g2, ?_⟩
  rw [show vs.toArray ++ ws.toArray = (vs ++ ws).toArray by simp]
  exact h _ (fun b o e => Heap.get?_push_of_some _ e) ⟨_, Heap.get?_push_size _ rfl, rfl, _, rfl⟩

theorem pairAt {h₀ h : Heap} {L T : Addr} {news : List (Addr × Obj)} {X Y : Str} {u v : Tok} (N : News h₀ L h news) (hm : (T, { cls := .type "tuple", data := .seq #[.str X u, .str Y v] }) ∈ news) (c : Nat) (hX : X = st [c]) (hY : Y = st (img c)) :
    IsTup h T #[.str (st [c]) u, .str (st (img c)) v] := by
  subst hX hY
  exact ⟨_, N.get hm, rfl, _, rfl⟩

set_option maxHeartbeats 4000000 in
theorem pairs_ok {w : World} {A : Around} {s : Shared} {Q : Value → Shared → Prop} {E : Value → Shared → Prop} {l : Addr} {items : Array Value} {ns : List Int} (B : Base w s.heap) (hh : A.handled = none) (hroom : A.depth + 3 < recursionLimit)
    (hl : s.heap.IsList l items) (hz : items.size ≤ 63) (hn : Ints items.toList ns)
    (h : ∀ D vs cs s', Keeps s s' → s'.heap.IsList D vs → PairList s'.heap vs.toList cs → cs.length ≤ 16 → Q (.ref D) s') : wpAny (model P0 w) A (call (.ref 111) [.ref l]) Q E s := by
  refine enter B B.pairs (by omega) (binds := [("script", .ref l)]) (fun pm cd => rfl) (locs rfl) fun cd h₁ F => ?_
  have N : News s.heap s.heap.objs.size h₁ [] := News.nil
  repeat' (first | (fail_if_success (with_reducible show wpAny _ _ (PySem.eval (Expr.ListComp _ _ _ _) _) _ _ _)); walk1)
  rename_i h2 F2 N2
  refine wpAny_ListComp_tup (fun _ => true) PairG hh (by decide) (by decide) rfl (by decide) rfl ?_
  iterate 8 walk1
  rename_i h3 F3 N3
  have B₃ := B.keeps F3.keep
  have hp : slicePick items none (some 12) none = (items.toList.take 12).toArray := slicePick_upto' items 12
  refine ⟨_, _, rfl, News.isList N3 (.head _), ?_, ?_, ?_, ?_⟩
  · rw [hp]
    refine Nat.le_trans (m := 12) ?_ (by decide)
    simp only [List.size_toArray, List.length_take]
    omega
  · intro C v s₂ m₂ E' hv hns hm hk
    exact wpAny_tests_nil ⟨rfl, ⟨_, _, rfl, fun _ _ e => e⟩⟩
  · intro C v s₂ m₂ E' hv _ hns hm hk
    have hv' : v ∈ items.toList := by
      rw [hp] at hv
      exact List.mem_of_mem_take (by simpa using hv)
    obtain ⟨n, tn, rfl⟩ := hn.mem hv'
    have B₄ := B₃.keeps hk
    walk1
    refine B₄.global (fun _ g => g.pair) ?_
    refine callDef B₄.pair ?_
    walk1
    refine wpAny_Name (wpAny_loadName_local rfl rfl hns hm ?_) (by decide)
    walk1
    refine ⟨fun _ e => e, ?_⟩
    refine pair_ok B₄ (by show A.depth + 1 + 2 < _; omega) fun T c u v s5 hs5 hf ht => ?_
    exact ⟨⟨T, _, rfl, hf, ht, c, u, v, rfl⟩, hs5⟩
  · intro D h4 tk ys hD hyl hF hk
    obtain ⟨cs, hcs, hlen⟩ := paired_pairs hF
    have hcl : cs.length ≤ 12 := by
      rw [hlen, hp]
      refine Nat.le_trans (List.length_filter_le _ _) ?_
      simp only [List.length_take]
      omega
    have F4 := frKeeps F3 hk
    have N4 := newsKeeps N3 hk
    have hys : ys.toList.length = cs.length := hcs.length
    refine' joinLists (News.isList N4 ?m1) (ws := ys.toList) (by simpa using hyl) ?z1 ?k1
    case m1 => k_mem
    case z1 =>
      rw [hys]
      refine Nat.le_trans (m := 16) ?_ (by decide)
      simp only [List.length_cons, List.length_nil]
      omega
    intro h5 k5 l5
    have F5 := frKeeps F4 k5
    have N5 := newsKeeps N4 k5
    walk1
    refine' joinLists l5 (News.isList N5 ?m2) ?z2 ?k2
    case m2 => k_mem
    case z2 =>
      rw [List.length_append, hys]
      refine Nat.le_trans (m := 16) ?_ (by decide)
      simp only [List.length_cons, List.length_nil]
      omega
    intro h6 k6 l6
    have F6 := frKeeps F5 k6
    have N6 := newsKeeps N5 k6
    have P1 : IsTup h6 _ _ := pairAt N6 (by k_mem) 13255 rfl (yOf img_co rfl)
    have P2 : IsTup h6 _ _ := pairAt N6 (by k_mem) 119824 rfl (yOf (img_bold (n := 16) (by decide)) rfl)
    have P3 : IsTup h6 _ _ := pairAt N6 (by k_mem) 223 rfl (yOf img_6_0 rfl)
    have P4 : IsTup h6 _ _ := pairAt N6 (by k_mem) 8203 rfl (yOf (img_b1 (c := 8203) (by decide)) rfl)
    refine h _ _ (([13255, 119824] ++ cs) ++ [223, 8203]) _ ⟨_, _, rfl, F6.keep⟩ l6 ?_ ?_
    · exact ((PairList.cons P1 (.cons P2 .nil)).append (hcs.keeps fun b o e => k6 _ _ (k5 _ _ e))).append (.cons P3 (.cons P4 .nil))
    · simp only [List.length_append, List.length_cons, List.length_nil]
      omega
end Mine

namespace Mine
open Builtin Builtin.Str

def notB1 : Value → Bool
  | .str x _ => !b1 ((x.cps.getD 0 0 : Nat) : Int)
  | _ => false
def mapsTo (v y : Value) : Prop := ∃ c t u, v = .str ⟨#[c]⟩ t ∧ y = .str (st (m3 c)) u

inductive Signs : List Value → List Nat → Prop
  | nil : Signs [] []
  | cons {c t vs cs} : Signs vs cs → Signs (.str ⟨#[c]⟩ t :: vs) (c :: cs)
theorem signs_of : ∀ {l : List Nat} {vs : List Value}, vs.length = l.length → (∀ (j : Nat) (v : Value), vs[j]? = some v → ∃ (c : Nat) (u : Tok), l[j]? = some c ∧ v = .str ⟨#[c]⟩ u) → Signs vs l
  | [], [], _, _ => .nil
  | c :: l, v :: vs, hl, h => by
    obtain ⟨c', u, e1, rfl⟩ := h 0 v rfl
    obtain rfl : c = c' := Option.some.inj e1
    exact .cons (signs_of (Nat.succ.inj hl) fun j v e => h (j + 1) v e)
  | [], _ :: _, hl, _ => by cases hl
  | _ :: _, [], hl, _ => by cases hl
theorem mapped : ∀ {vs : List Value} {l : List Nat} {ys : List Value}, Signs vs l → Paired mapsTo (vs.filter notB1) ys → StrsAre ys (((l.filter fun (c : Nat) => !b1 (c : Int)).map m3).map st)
  | _, _, _, .nil, h => by cases h; exact .nil
  | _, _, _, .cons (c := c) (t := t) hs, h => by
    cases hb : b1 (c : Int) with
    | true =>
      rw [List.filter_cons_of_neg (by show ¬ (!b1 (c : Int)) = true; rw [hb]; decide)] at h
      rw [List.filter_cons_of_neg (by rw [hb]; decide)]
      exact mapped hs h
    | false =>
      rw [List.filter_cons_of_pos (by show (!b1 (c : Int)) = true; rw [hb]; rfl)] at h
      rw [List.filter_cons_of_pos (by rw [hb]; rfl)]
      cases h with
      | cons hF hT =>
        obtain ⟨c', t', u, e, rfl⟩ := hF
        cases e
        exact .cons _ _ (mapped hs hT)
theorem prep_eq (l : List Nat) : prep l = ((l.filter fun (c : Nat) => !b1 (c : Int)).map m3).flatten := by
  induction l with
  | nil => rfl
  | cons c r ih =>
    rw [prep_cons, ih]
    cases hb : b1 (c : Int) with
    | true => rw [img_b1 hb, List.filter_cons_of_neg (by rw [hb]; decide), List.nil_append]
    | false =>
      rw [List.filter_cons_of_pos (by rw [hb]; rfl), List.map_cons, List.flatten_cons]
      congr 1
      unfold img
      rw [hb]
      rfl
theorem glue_fold : ∀ (ls : List (List Nat)) (acc : Array Nat), ((ls.map st).foldl (fun acc p => acc ++ (Str.ofString "").cps ++ p.cps) acc).toList = acc.toList ++ ls.flatten
  | [], acc => by simp
  | x :: ls, acc => by
    rw [List.map_cons, List.foldl_cons, glue_fold ls]
    have : (Str.ofString "").cps = #[] := rfl
    rw [this]
    simp
theorem join_plain (ls : List (List Nat)) : Txt.join (Str.ofString "") (ls.map st) = st ls.flatten := by
  unfold Txt.join glued
  congr 1
  apply Array.ext'
  cases ls with
  | nil => rfl
  | cons x ls =>
    show ((ls.map st).foldl _ (st x).cps).toList = _
    rw [glue_fold]
    simp
theorem prep_len (l : List Nat) : (prep l).length ≤ 4 * l.length := by
  induction l with
  | nil => exact Nat.le_refl _
  | cons c r ih =>
    rw [prep_cons, List.length_append, List.length_cons]
    have := img_len c
    omega
theorem compBase {w : World} {h₁ : Heap} {s : Shared} {o : Obj} {h' : Heap} (B : Base w s.heap) (k : ∀ b o, s.heap.get? b = some o → h₁.get? b = some o) (hk : ∀ b x, b ∉ [h₁.objs.size] → (h₁.push o).get? b = some x → h'.get? b = some x) : Base w h' :=
  B.keeps fun b x e => hk b x (by
    have := Heap.lt_size (k b x e)
    simp only [List.mem_singleton]
    exact Nat.ne_of_lt this) (Heap.get?_push_of_some _ (k b x e))

set_option maxHeartbeats 4000000 in
theorem prepared_ok {w : World} {A : Around} {s : Shared} {Q : Value → Shared → Prop} {E : Value → Shared → Prop} {l : List Nat} {t : Tok} (B : Base w s.heap) (hh : A.handled = none) (hroom : A.depth + 2 < recursionLimit) (hl : l.length ≤ 100)
    (h : ∀ u s', Keeps s s' → Q (.str (st (prep l)) u) s') : wpAny (model P0 w) A (call (.ref 116) [.str (st l) t]) Q E s := by
  refine enter B B.prepared (by omega) (binds := [("text", .str (st l) t)]) (fun pm cd => rfl) (locs rfl) fun cd h₁ F => ?_
  have N : News s.heap s.heap.objs.size h₁ [] := News.nil
  repeat' (first | (fail_if_success (with_reducible show wpAny _ _ (PySem.eval (Expr.ListComp _ _ _ _) _) _ _ _)); walk1)
  refine wpAny_ListComp_free notB1 mapsTo (cl := []) (closureFor_none (by decide)) (by decide) rfl (by decide) rfl ?_
  walk1
  refine wpAny_pyIter_str fun o St W h0 => ?_
  refine ⟨_, _, _, _, _, _, rfl, W _ hh, ?_, h0, ?_, ⟨?_, ?_⟩, ?_⟩
  · refine Nat.le_trans (m := 100) ?_ (by decide)
    simpa using hl
  · intro b hb
    rw [List.mem_singleton.mp hb]
    show _ < (Heap.push _ _).objs.size
    rw [Heap.size_push]
    exact Nat.lt_succ_self _
  · intro C i v s₃ m₃ E' hC hv hns hm hk htk
    have B₃ : Base w s₃.heap := compBase B F.keep hk
    obtain ⟨c, u, hc, rfl⟩ := hv
    refine wpAny_tests_one ?_
    repeat' walk1
    refine B₃.global (fun _ g => g.inb1) ?_
    refine callDef B₃.inb1 ?_
    walk1
    refine wpAny_Name (wpAny_loadName_local rfl rfl hns hm ?_) (by decide)
    walk1
    refine ⟨fun _ e => e, ?_⟩
    refine in_b1 B₃ (by show A.depth + 1 + 1 < _; omega) fun s4 hs4 => ?_
    refine wpAny_truthy_bool ?_
    exact ⟨rfl, hs4⟩
  · intro C i v s₃ m₃ E' hC hv hp hns hm hk htk
    have B₃ : Base w s₃.heap := compBase B F.keep hk
    obtain ⟨c, u, hc, rfl⟩ := hv
    repeat' walk1
    refine B₃.global (fun _ g => g.mapb3) ?_
    refine callDef B₃.mapb3 ?_
    walk1
    refine wpAny_Name (wpAny_loadName_local rfl rfl hns hm ?_) (by decide)
    walk1
    refine ⟨fun _ e => e, ?_⟩
    refine map_b3 B₃ (by show A.depth + 1 + 1 < _; omega) fun u4 s4 hs4 => ?_
    exact ⟨⟨c, u, u4, rfl, rfl⟩, hs4⟩
  · intro D h' tk ys vs hD hyl hpl hlen hP hF hk
    repeat' walk1
    have hS : Signs vs l := signs_of (by simpa using hlen) fun j v e => by
      obtain ⟨c, u, e1, e2⟩ := hP j v e
      exact ⟨c, u, by simpa using e1, e2⟩
    have hM := mapped hS hF
    have hlen2 : ((l.filter fun (c : Nat) => !b1 (c : Int)).map m3).length ≤ 100 := by
      rw [List.length_map]
      exact Nat.le_trans (List.length_filter_le _ _) hl
    refine join_listC hyl hM (by decide) ?_ fun t' k' => ?_
    · have e1 : ((((l.filter fun (c : Nat) => !b1 (c : Int)).map m3).map st).map (·.length)).sum = (prep l).length := by
        rw [prep_eq, List.length_flatten, List.map_map]
        congr 1
      rw [e1, List.length_map]
      have := prep_len l
      omega
    · rw [join_plain, ← prep_eq]
      exact h _ _ ⟨_, _, rfl, fun b o e => hk b o (by
        have := Heap.lt_size (F.keep b o e)
        simp only [List.mem_singleton]
        exact Nat.ne_of_lt this) (Heap.get?_push_of_some _ (F.keep b o e))⟩
end Mine

namespace Mine
open Builtin Builtin.Str

noncomputable def nameBody : List Stmt := match (bodyAt 13).getD 1 (.Pass default) with | .For _ _ b _ _ => b | _ => []

theorem st1_eq (c k : Nat) : (st [c] == st [k]) = decide (c = k) := by
  by_cases h : c = k
  · subst h; simp
  · rw [decide_eq_false h, beq_eq_false_iff_ne]
    intro e
    apply h
    have := congrArg (fun x : Str => x.cps.toList) e
    simpa using this
theorem any_st (ks : List Nat) (c : Nat) : ((ks.map fun c => st [c]).any fun x => x == st [c]) = ks.contains c := by
  induction ks with
  | nil => rfl
  | cons k r ih =>
    rw [List.map_cons, List.any_cons, ih, List.contains_cons, st1_eq]
    congr 1
    by_cases h : k = c
    · subst h; simp
    · have h' : ¬ c = k := fun e => h e.symm
      simp [h, h']
theorem st_append (a b : List Nat) : st a ++ st b = st (a ++ b) := by
  show (⟨a.toArray ++ b.toArray⟩ : Str) = ⟨(a ++ b).toArray⟩
  congr 1
  simp

theorem name_turn {w : World} {A : Around} {s : Shared} {L It S : Addr} {cd : Value} {h' : Heap} {tk : Nat} {m : Str → Option Value} {acc : List Nat} {c : Nat} {u1 u2 u3 : Tok} {o : Obj} {ks : List Nat} {ws : List Value} {Q : Flow → Shared → Prop} {E : Value → Shared → Prop}
    (F : Fr s.heap L h' m) (N : News s.heap L h' [(It, o)]) (hl : s.heap.IsList S ws.toArray) (hw : StrsAre ws (ks.map fun c => st [c])) (h1 : m "name" = some (.str (st acc) u1)) (h2 : m "stops" = some (.ref S)) (h3 : m "sign" = some (.str (st [c]) u2)) (h4 : m "image" = some (.str (st (img c)) u3))
    (hlen : (st acc).length + (st (img c)).length ≤ 1000)
    (hret : c = 58 ∨ c = 10 → ∀ h'' tk', (∀ b o, s.heap.get? b = some o → h''.get? b = some o) → Q (.ret (.str (st acc) u1)) { s with heap := h'', toks := tk' })
    (hnext : ¬ (c = 58 ∨ c = 10) → ∀ h'' tk' m' u, Fr s.heap L h'' m' → News s.heap L h'' [(It, o)] → m' "name" = some (.str (st (if ks.contains c then [] else acc ++ img c)) u) → m' "stops" = some (.ref S) → Q .next { s with heap := h'', toks := tk' }) :
    wpAny (model P0 w) A (execs nameBody (envOf "_law_name" (scopeAt 13) L 123 cd)) Q E { s with heap := h', toks := tk } := by
  replace F := frSee (x := "image") (frSee (x := "sign") (frSee (x := "stops") (frSee (x := "name") F h1) h2) h3) h4
  have hl' : h'.IsList S ws.toArray := Fr.lst F hl
  repeat' walk1
  · rename_i a1
    have a1 : (st [c] == st [58]) = true := a1
    rw [st1_eq] at a1
    exact hret (.inl (of_decide_eq_true a1)) _ _ F.keep
  · rename_i a1 a2
    have a2 : (st [c] == st [10]) = true := a2
    rw [st1_eq] at a2
    exact hret (.inr (of_decide_eq_true a2)) _ _ F.keep
  · rename_i a1 a2 a3 h5 F5 N5
    have a1 : (st [c] == st [58]) = false := a1
    have a2 : (st [c] == st [10]) = false := a2
    rw [st1_eq] at a1 a2
    rw [any_st] at a3
    refine' hnext (fun q => q.elim (of_decide_eq_false a1) (of_decide_eq_false a2)) _ _ _ ?u F5 N5 ?e rfl
    case e => rw [a3]; rfl
  · rename_i a1 a2 a3 t5 k5 hsz h5 F5 N5
    have a1 : (st [c] == st [58]) = false := a1
    have a2 : (st [c] == st [10]) = false := a2
    rw [st1_eq] at a1 a2
    rw [any_st] at a3
    refine' hnext (fun q => q.elim (of_decide_eq_false a1) (of_decide_eq_false a2)) _ _ _ t5 F5 N5 ?e2 rfl
    case e2 => rw [a3, if_neg Bool.false_ne_true, ← st_append]; rfl

theorem PairList.get {h : Heap} {vs : List Value} {cs : List Nat} (x : PairList h vs cs) : ∀ {i : Nat}, i < cs.length → ∃ T c u v, vs[i]? = some (.ref T) ∧ cs.drop i = c :: cs.drop (i + 1) ∧ IsTup h T #[.str (st [c]) u, .str (st (img c)) v] := by
  induction x with
  | nil => intro i hi; exact absurd hi (Nat.not_lt_zero _)
  | @cons T c u v vs cs a _ ih =>
    intro i hi
    cases i with
    | zero => exact ⟨T, c, u, v, rfl, rfl, a⟩
    | succ i =>
      obtain ⟨T', c', u', v', e1, e2, e3⟩ := ih (Nat.lt_of_succ_lt_succ hi)
      exact ⟨T', c', u', v', e1, e2, e3⟩

theorem nameOf_cons (ks acc : List Nat) (c : Nat) (r : List Nat) (h : ¬ (c = 58 ∨ c = 10)) : nameOf ks acc (c :: r) = nameOf ks (if ks.contains c then [] else acc ++ img c) r := by
  rw [nameOf, if_neg (by simpa using h)]
  split <;> rfl
theorem nameOf_stop (ks acc : List Nat) (c : Nat) (r : List Nat) (h : c = 58 ∨ c = 10) : nameOf ks acc (c :: r) = acc := by
  rw [nameOf, if_pos (by rcases h with rfl | rfl <;> rfl)]

/-- how the loop stands before its turn -/
structure Turn (s : Shared) (L It D S : Addr) (ks cs : List Nat) (n : Nat) (s' : Shared) : Prop where
  ex : ∃ h' tk i acc u m o, s' = { s with heap := h', toks := tk } ∧ Fr s.heap L h' m ∧ News s.heap L h' [(It, o)] ∧ o.cls = .type "list_iterator" ∧ o.data = .fields #[.ref D, .int (i : Nat) 0] ∧
    m "name" = some (.str (st acc) u) ∧ m "stops" = some (.ref S) ∧ nameOf ks acc (cs.drop i) = nameOf ks [] cs ∧ i ≤ cs.length ∧ n = cs.length + 1 - i ∧ acc.length + 4 * (cs.length - i) ≤ 100

set_option maxHeartbeats 4000000 in
theorem name_ok {w : World} {A : Around} {s : Shared} {Q : Value → Shared → Prop} {E : Value → Shared → Prop} {D S : Addr} {vs : Array Value} {cs ks : List Nat} {ws : List Value} (B : Base w s.heap) (hh : A.handled = none) (hroom : A.depth + 1 < recursionLimit)
    (hD : s.heap.IsList D vs) (hp : PairList s.heap vs.toList cs) (hlen : cs.length ≤ 16) (hS : s.heap.IsList S ws.toArray) (hw : StrsAre ws (ks.map fun c => st [c]))
    (h : ∀ u s', Keeps s s' → Q (.str (st (nameOf ks [] cs)) u) s') : wpAny (model P0 w) A (call (.ref 123) [.ref D, .ref S]) Q E s := by
  refine enter B B.name (by omega) (binds := [("pairs", .ref D), ("stops", .ref S)]) (fun pm cd => rfl) (locs rfl) fun cd h₁ F => ?_
  have N : News s.heap s.heap.objs.size h₁ [] := News.nil
  repeat' (first | (fail_if_success (with_reducible show wpAny _ _ (exec (Stmt.For _ _ _ _ _) _) _ _ _)); walk1)
  rename_i h2 F2 N2
  refine wpAny_For ?_
  walk1
  refine wpAny_pyIter_list (Fr.lst F2 hD) ?_
  have hlv : vs.toList.length = cs.length := hp.length
  refine codeAny_forLoop_any (Turn s s.heap.objs.size h2.objs.size D S ks cs) ?_ (cs.length + 1) ⟨⟨_, _, 0, [], _, _, _, rfl, F2.push _, News.push F2 N2 _, rfl, rfl, rfl, rfl, rfl, Nat.zero_le _, rfl, by simp only [List.length_nil]; omega⟩⟩
  rintro n s' ⟨⟨h', tk, i, acc, u, m, o, rfl, F', N', hc, hd, m1, m2, hname, hi, hn, hac⟩⟩
  have hit : h'.IsListIter h2.objs.size D i := ⟨o, N'.get (.head _), hc, hd⟩
  have hIL : h2.objs.size ≠ s.heap.objs.size := (N' _ (.head _)).2.1
  have hI0 : s.heap.get? h2.objs.size = none := (N' _ (.head _)).2.2
  have frame : ∀ h3, Heap.ExtBut h2.objs.size h' h3 → Fr s.heap s.heap.objs.size h3 m := fun h3 he =>
    ⟨F'.ns.extBut he (Ne.symm hIL), fun b o e => he b o (fun q => by rw [q, hI0] at e; cases e) (F'.keep b o e), F'.above⟩
  by_cases q : i < cs.length
  · obtain ⟨T, c, u', v', e1, e2, e3⟩ := hp.get q
    refine wpAny_pyNext_list_item hit (Fr.lst F' hD) (x := .ref T) (by rw [← Array.getElem?_toList]; exact e1) fun h3 hit3 hs3 => ?_
    have F3 := frame h3 hs3.extBut
    obtain ⟨o3, ho3, hc3, hd3⟩ := hit3
    have N3 : News s.heap s.heap.objs.size h3 [(h2.objs.size, o3)] := fun p hp => by
      rw [List.mem_singleton.mp hp]
      exact ⟨ho3, hIL, hI0⟩
    refine wpAny_letOwnedTupleGo_listiter ⟨o3, ho3, hc3, hd3⟩ ?_
    refine assign_Tuple_tuple hh (Fr.tup F3 e3) rfl rfl fun h4 he4 => ?_
    have F4 := F3.extBut he4 (Nat.le_refl _)
    have N4 := N3.extBut he4 (Nat.le_refl _)
    clear F3 N3
    repeat' (first | (fail_if_success (with_reducible show wpAny _ _ (execs _ _) _ _ _)); walk1)
    rename_i h5 F5 N5
    have hil := img_len c
    rw [e2] at hname
    refine name_turn (s := s) F5 N5 hS hw m1 m2 rfl rfl ?_ (fun hcc h6 tk6 k6 => ?_) fun hcc h6 tk6 m6 u6 F6 N6 g1 g2 => ?_
    · show acc.length + (img c).length ≤ 1000
      omega
    · rw [nameOf_stop ks acc c _ hcc] at hname
      have := h u { s with heap := h6, toks := tk6 } ⟨_, _, rfl, k6⟩
      rw [← hname] at this
      exact this
    · rw [nameOf_cons ks acc c _ hcc] at hname
      refine ⟨cs.length + 1 - (i + 1), by omega, ⟨⟨h6, tk6, i + 1, _, u6, m6, o3, rfl, F6, N6, hc3, hd3, g1, g2, hname, q, rfl, ?_⟩⟩⟩
      split
      · simp only [List.length_nil]; omega
      · rw [List.length_append]; omega
  · have hi' : i = cs.length := by omega
    refine wpAny_pyNext_list_end hh hit (Fr.lst F' hD) (by rw [← Array.getElem?_toList, List.getElem?_eq_none]; omega) fun h3 he3 => ?_
    have F3 := frSee (x := "name") (frame h3 he3) m1
    rw [hi', List.drop_length] at hname
    have hname : acc = nameOf ks [] cs := hname
    refine wpAny_execs_nil ?_
    clear F' N'
    repeat' walk1
    have := h u { s with heap := h3, toks := tk } ⟨_, _, rfl, F3.keep⟩
    rw [← hname] at this
    exact this
end Mine

namespace Mine
open Builtin Builtin.Str

theorem stKeep {M : Model} {A : Around} {E : Value → Shared → Prop} {s : Shared} {name : Str} {scope : Scope} {L a : Addr} {cd : Value} {h₀ : Heap} {m : Str → Option Value} {x : Str} {v : Value} {Q : Unit → Shared → Prop} (F : Fr h₀ L s.heap m)
    (h : ∀ h', Fr h₀ L h' (fun y => if y = x then some v else m y) → (∀ b o, b ≠ L → s.heap.get? b = some o → h'.get? b = some o) → Q () { s with heap := h', toks := s.toks + 1 })
    (hk : scope.kind = .function := by rfl) (hl : (envOf name scope L a cd).kindOf x = some .local := by rfl) :
    wpAny M A (storeName (envOf name scope L a cd) x v) Q E s :=
  wpAny_storeName_local hl F.ns (fun h' hn hs => h h' (F.set hn hs) fun b o hb e => hs.extBut b o hb e)
    (by show (scope.kind == .class || (scope.kind == .module && L != mainGlobals)) = false; rw [hk]; rfl)

/-- the law's pairs stand in a heap -/
structure Have (h : Heap) (D : Addr) (vs : Array Value) (cs : List Nat) : Prop where
  lst : h.IsList D vs
  prs : PairList h vs.toList cs
theorem Have.keeps {h h' : Heap} {D : Addr} {vs : Array Value} {cs : List Nat} (x : Have h D vs cs) (k : ∀ b o, h.get? b = some o → h'.get? b = some o) : Have h' D vs cs :=
  ⟨x.lst.at fun o e => k _ _ e, x.prs.keeps k⟩
theorem seq_ne {h : Heap} {L T : Addr} {m : Str → Option Value} {o : Obj} {xs : Array Value} {n : Nat} (hn : h.Ns L m) (ho : h.get? T = some o) (hd : o.data = .seq xs n) : T ≠ L := by
  rintro rfl
  obtain ⟨o', es, ep, e, d, _⟩ := hn
  rw [ho] at e
  cases e
  rw [hd] at d
  cases d
theorem pairs_but {h h' : Heap} {L : Addr} {m : Str → Option Value} (hn : h.Ns L m) (k : ∀ b o, b ≠ L → h.get? b = some o → h'.get? b = some o) {vs : List Value} {cs : List Nat} (x : PairList h vs cs) : PairList h' vs cs := by
  induction x with
  | nil => exact .nil
  | cons a _ ih =>
    obtain ⟨o, ho, hc, n, hd⟩ := a
    exact .cons ⟨o, k _ _ (seq_ne hn ho hd) ho, hc, n, hd⟩ ih
theorem Have.but {h h' : Heap} {L D : Addr} {m : Str → Option Value} {vs : Array Value} {cs : List Nat} (x : Have h D vs cs) (hn : h.Ns L m) (k : ∀ b o, b ≠ L → h.get? b = some o → h'.get? b = some o) : Have h' D vs cs := by
  obtain ⟨⟨o, ho, hc, n, hd⟩, b⟩ := x
  exact ⟨⟨o, k _ _ (seq_ne hn ho hd) ho, hc, n, hd⟩, pairs_but hn k b⟩

def signOf (h : Heap) (v y : Value) : Prop := ∃ T c u1 u2, v = .ref T ∧ IsTup h T #[.str (st [c]) u1, .str (st (img c)) u2] ∧ y = .str (st [c]) u1
theorem signs_texts {h : Heap} : ∀ {vs : List Value} {cs : List Nat} {ys : List Value}, PairList h vs cs → Paired (signOf h) vs ys → StrsAre ys (cs.map fun c => st [c])
  | _, _, _, .nil, .nil => .nil
  | _, _, _, .cons (c := c) a r, .cons hF ht => by
    obtain ⟨T, c', u1, u2, e, hT, rfl⟩ := hF
    cases e
    obtain ⟨o, ho, _, n, hd⟩ := a
    obtain ⟨o', ho', _, n', hd'⟩ := hT
    rw [ho] at ho'
    cases ho'
    rw [hd] at hd'
    have e : st [c] = st [c'] := by
      injection hd' with e1 _
      have := congrArg (fun a : Array Value => a[0]?) e1
      simp only [Array.getElem?_eq_getElem, List.getElem?_toArray] at this
      injection (Option.some.inj this)
    rw [List.map_cons, e]
    exact .cons _ _ (signs_texts r ht)
theorem texts_join (cs : List Nat) : Txt.join (Str.ofString "") (cs.map fun c => st [c]) = st cs := by
  have e : (cs.map fun c => st [c]) = (cs.map fun c => [c]).map st := by rw [List.map_map]; rfl
  rw [e, join_plain]
  congr 1
  induction cs with
  | nil => rfl
  | cons c r ih => rw [List.map_cons, List.flatten_cons, ih (by rw [List.map_map]; rfl)]; rfl
theorem texts_sum (cs : List Nat) : ((cs.map fun c => st [c]).map (·.length)).sum = cs.length := by
  induction cs with
  | nil => rfl
  | cons c r ih =>
    rw [List.map_cons, List.map_cons, List.sum_cons, ih, List.length_cons]
    show 1 + r.length = r.length + 1
    omega
theorem strip_len (l : List Nat) : (strip l).length ≤ l.length := by
  unfold strip afterDot
  rw [List.length_reverse]
  refine Nat.le_trans (List.takeWhile_sublist _).length_le ?_
  rw [List.length_reverse]
  exact (List.takeWhile_sublist _).length_le
end Mine

namespace Mine
open Builtin Builtin.Str

theorem newListKeep {w : World} {A : Around} {E : Value → Shared → Prop} {s : Shared} {vs : List Value} {Q : Value → Shared → Prop} (hsz : vs.length ≤ sizeLine)
    (h : ∀ h', (∀ b o, s.heap.get? b = some o → h'.get? b = some o) → h'.IsList s.heap.objs.size vs.toArray → Q (.ref s.heap.objs.size) { s with heap := h' }) : wpAny (model P0 w) A (newList vs) Q E s :=
  wpAny_newObj_type (h _ (fun b o e => Heap.get?_push_of_some _ e) ⟨_, Heap.get?_push_size _ rfl, rfl, _, rfl⟩) (by show vs.toArray.size ≤ sizeLine; rw [List.size_toArray]; exact hsz)

set_option maxHeartbeats 8000000 in
theorem law_ok {w : World} {A : Around} {s : Shared} {Q : Value → Shared → Prop} {E : Value → Shared → Prop} {l : Addr} {items : Array Value} {ns : List Int} (B : Base w s.heap) (hh : A.handled = none) (hroom : A.depth + 5 < recursionLimit)
    (hl : s.heap.IsList l items) (hz : items.size ≤ 63) (hn : Ints items.toList ns) (h : ∀ s', Keeps s s' → Q (.bool true) s') : wpAny (model P0 w) A (call (.ref 128) [.ref l]) Q E s := by
  refine enter B B.law (by omega) (binds := [("script", .ref l)]) (fun pm cd => rfl) (locs rfl) fun cd h₁ F => ?_
  have N : News s.heap s.heap.objs.size h₁ [] := News.nil
  have B₁ := B.keeps F.keep
  -- the pairs
  repeat' walk1
  refine B₁.global (fun _ g => g.pairs) ?_
  refine callDef B₁.pairs ?_
  repeat' walk1
  refine pairs_ok B₁ hh (by show A.depth + 1 + 3 < _; omega) (Fr.lst F hl) hz hn fun D vs cs s2 hs2 g1 g2 g3 => ?_
  obtain ⟨h2, tk2, rfl, k2⟩ := hs2
  have F2 := frKeeps F k2
  have H2 : Have h2 D vs cs := ⟨g1, g2⟩
  clear F N B₁
  refine stKeep F2 fun h3 F3 k3 => ?_
  have H3 := H2.but F2.ns k3
  have N3 : News s.heap s.heap.objs.size h3 [] := News.nil
  clear F2 H2
  -- the text
  repeat' (first | (fail_if_success (with_reducible show wpAny _ _ (PySem.eval (Expr.ListComp _ _ _ _) _) _ _ _)); walk1)
  refine wpAny_ListComp_map (fun _ => true) (signOf h3) hh (by decide) (by decide) rfl (by decide) rfl ?_
  walk1
  have hvl : vs.toList.length = cs.length := H3.prs.length
  have hvs : vs.size = cs.length := by simpa using hvl
  refine ⟨_, _, rfl, H3.lst, Nat.le_trans (m := 16) (by omega) (by decide), ?_, ?_, ?_⟩
  · intro C v s₂ m₂ E' hv hns hm hk
    exact wpAny_tests_nil ⟨rfl, ⟨_, _, rfl, fun _ _ e => e⟩⟩
  · intro C v s₂ m₂ E' hv _ hns hm hk
    obtain ⟨i, hi, hiv⟩ := List.getElem_of_mem (Array.mem_toList_iff.mpr hv)
    obtain ⟨T, c, u, v', e1, e2, e3⟩ := H3.prs.get (i := i) (by omega)
    have ev : v = .ref T := by
      rw [List.getElem?_eq_getElem hi, hiv] at e1
      exact Option.some.inj e1
    subst ev
    walk1
    refine wpAny_Name (wpAny_loadName_local rfl rfl hns hm ?_) (by decide)
    walk1
    refine item_tupleT (l := [.str (st [c]) u, .str (st (img c)) v']) (e3.keeps hk) (by decide) (by decide) rfl rfl ?_
    exact ⟨⟨T, c, u, v', rfl, e3, rfl⟩, ⟨_, _, rfl, fun _ _ e => e⟩⟩
  · intro D4 h4 tk4 ys hD4 hyl hF hk4
    have F4 := frKeeps F3 hk4
    have H4 := H3.keeps hk4
    have N4 : News s.heap s.heap.objs.size h4 [] := News.nil
    have hT : StrsAre ys.toList (cs.map fun c => st [c]) := signs_texts H3.prs (by rw [List.filter_eq_self.mpr (fun _ _ => rfl)] at hF; exact hF)
    clear F3 H3 N3
    walk1
    refine join_listC hyl hT (by decide) (by rw [texts_sum, List.length_map]; omega) fun t5 tk5 => ?_
    rw [texts_join]
    refine stKeep F4 fun h5 F5 k5 => ?_
    have H5 := H4.but F4.ns k5
    have N5 : News s.heap s.heap.objs.size h5 [] := News.nil
    have B₅ := B.keeps F5.keep
    clear F4 H4 N4 hyl
    -- folded
    repeat' walk1
    refine B₅.global (fun _ g => g.strip) ?_
    refine callDef B₅.strip ?_
    repeat' walk1
    refine B₅.global (fun _ g => g.prepared) ?_
    refine callDef B₅.prepared ?_
    repeat' walk1
    refine prepared_ok B₅ hh (by show A.depth + 1 + 2 < _; omega) (by omega) fun u6 s6 hs6 => ?_
    obtain ⟨h6, tk6, rfl, k6⟩ := hs6
    have F6 := frKeeps F5 k6
    have H6 := H5.keeps k6
    have B₆ := B.keeps F6.keep
    clear F5 H5 N5 B₅
    walk1
    refine ⟨fun o e => k6 _ _ e, ?_⟩
    have hpl := prep_len cs
    refine strip_ok B₆ hh (by show A.depth + 1 + 1 < _; omega) (by omega) fun u7 s7 hs7 => ?_
    obtain ⟨h7, tk7, rfl, k7⟩ := hs7
    have F7 := frKeeps F6 k7
    have H7 := H6.keeps k7
    clear F6 H6 B₆
    refine stKeep F7 fun h8 F8 k8 => ?_
    have H8 := H7.but F7.ns k8
    have N8 : News s.heap s.heap.objs.size h8 [] := News.nil
    have B₈ := B.keeps F8.keep
    clear F7 H7
    -- bare
    repeat' walk1
    refine B₈.global (fun _ g => g.prepared) ?_
    refine callDef B₈.prepared ?_
    repeat' walk1
    refine B₈.global (fun _ g => g.strip) ?_
    refine callDef B₈.strip ?_
    repeat' walk1
    refine strip_ok B₈ hh (by show A.depth + 1 + 1 < _; omega) (by omega) fun u9 s9 hs9 => ?_
    obtain ⟨h9, tk9, rfl, k9⟩ := hs9
    have F9 := frKeeps F8 k9
    have H9 := H8.keeps k9
    have B₉ := B.keeps F9.keep
    clear F8 H8 N8 B₈
    walk1
    refine ⟨fun o e => k9 _ _ e, ?_⟩
    have hsl := strip_len cs
    refine prepared_ok B₉ hh (by show A.depth + 1 + 2 < _; omega) (by omega) fun u10 s10 hs10 => ?_
    obtain ⟨h10, tk10, rfl, k10⟩ := hs10
    have F10 := frKeeps F9 k10
    have H10 := H9.keeps k10
    clear F9 H9 B₉
    refine stKeep F10 fun h11 F11 k11 => ?_
    have H11 := H10.but F10.ns k11
    have N11 : News s.heap s.heap.objs.size h11 [] := News.nil
    have B₁₁ := B.keeps F11.keep
    clear F10 H10
    -- the return
    repeat' walk1
    have e1 : strip (prep cs) = nameOf [46, 13255] [] cs := by
      have := law1 facts cs [] (fun _ hx => nomatch hx)
      rwa [List.nil_append] at this
    have e2 : prep (strip cs) = nameOf [46] [] cs := by
      have := law2 cs [] (fun _ hx => nomatch hx)
      rwa [List.nil_append] at this
    have e3 : strip (prep (strip cs)) = strip (prep cs) := by
      have := law3 facts cs [] (fun _ hx => nomatch hx)
      rwa [List.nil_append] at this
    refine B₁₁.global (fun _ g => g.name) ?_
    refine callDef B₁₁.name ?_
    repeat' (first | (fail_if_success (with_reducible show wpAny _ _ (newList _) _ _ _)); walk1)
    refine newListKeep (Nat.le_trans (m := 2) (Nat.le_refl _) (by decide)) fun h12 k12 l12 => ?_
    have F12 := frKeeps F11 k12
    have H12 := H11.keeps k12
    have B₁₂ := B.keeps F12.keep
    clear F11 H11 N11 B₁₁
    walk1
    refine ⟨fun o e => k12 _ _ e, ?_⟩
    refine name_ok (ks := [46, 13255]) B₁₂ hh (by show A.depth + 1 + 1 < _; omega) H12.lst H12.prs g3 l12 (.cons _ _ (.cons _ _ .nil)) fun u13 s13 hs13 => ?_
    obtain ⟨h13, tk13, rfl, k13⟩ := hs13
    have F13 := frKeeps F12 k13
    have H13 := H12.keeps k13
    have N13 : News s.heap s.heap.objs.size h13 [] := News.nil
    have B₁₃ := B.keeps F13.keep
    clear F12 H12 B₁₂
    refine PyProof.Rows.eq_str ?_
    rw [show (st (strip (prep cs)) == st (nameOf [46, 13255] [] cs)) = true by rw [e1]; exact beq_self_eq_true _]
    repeat' walk1
    refine B₁₃.global (fun _ g => g.name) ?_
    refine callDef B₁₃.name ?_
    repeat' (first | (fail_if_success (with_reducible show wpAny _ _ (newList _) _ _ _)); walk1)
    refine newListKeep (Nat.le_trans (m := 1) (Nat.le_refl _) (by decide)) fun h14 k14 l14 => ?_
    have F14 := frKeeps F13 k14
    have H14 := H13.keeps k14
    have B₁₄ := B.keeps F14.keep
    clear F13 H13 N13 B₁₃
    walk1
    refine ⟨fun o e => k14 _ _ e, ?_⟩
    refine name_ok (ks := [46]) B₁₄ hh (by show A.depth + 1 + 1 < _; omega) H14.lst H14.prs g3 l14 (.cons _ _ .nil) fun u15 s15 hs15 => ?_
    obtain ⟨h15, tk15, rfl, k15⟩ := hs15
    have F15 := frKeeps F14 k15
    have N15 : News s.heap s.heap.objs.size h15 [] := News.nil
    have B₁₅ := B.keeps F15.keep
    clear F14 H14 B₁₄
    refine PyProof.Rows.eq_str ?_
    rw [show (st (prep (strip cs)) == st (nameOf [46] [] cs)) = true by rw [e2]; exact beq_self_eq_true _]
    repeat' walk1
    refine B₁₅.global (fun _ g => g.strip) ?_
    refine callDef B₁₅.strip ?_
    repeat' walk1
    have hpl2 := prep_len (strip cs)
    refine strip_ok B₁₅ hh (by show A.depth + 1 + 1 < _; omega) (by omega) fun u16 s16 hs16 => ?_
    obtain ⟨h16, tk16, rfl, k16⟩ := hs16
    have F16 := frKeeps F15 k16
    clear F15 N15 B₁₅
    walk1
    refine PyProof.Rows.eq_str ?_
    rw [show (st (strip (prep (strip cs))) == st (strip (prep cs))) = true by rw [e3]; exact beq_self_eq_true _]
    exact h _ ⟨_, _, rfl, F16.keep⟩

theorem walk : WalkOk := fun w s l items ns B hl hz hn _ =>
  law_ok B rfl (by decide) hl hz hn fun s' k => ⟨rfl, k⟩
end Mine
set_option maxRecDepth 100000 in
set_option maxHeartbeats 8000000 in
theorem PySem.Challenge.cw_mj0194_01_holds : PySem.Challenge.rw_mj0194_01.Holds := by
  o_law
  exact Mine.holds_of Mine.walk (by assumption) (by w_witness2)
