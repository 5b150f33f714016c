import PyProof.Rows.All
import Wide.All
import OpenK.AllK
import Wide.FinOn
import PySem.Challenge.RW_bs0043_01
section
theorem Mine.offHd : True := by w_top off; trivial
open PySem PySem.W PyProof.Rows
set_option Elab.async false
set_option maxRecDepth 100000
set_option maxHeartbeats 8000000
namespace Mine
open_top hd for PySem.Challenge.rw_bs0043_01
end Mine
end
section
theorem Mine.offBase : True := by w_top off; trivial
open PySem PySem.W PyProof.Rows PySem.Calls
set_option Elab.async false
set_option maxRecDepth 100000
set_option maxHeartbeats 1000000
set_option linter.unusedSimpArgs false
set_option linter.unusedSectionVars false
set_option linter.unusedVariables false
namespace Mine
abbrev Bts := Array UInt8

/-! dicts whose values are octets, as association lists -/
section
variable {K : Type} [DecidableEq K]
inductive BV : List (K × Value) → List (K × Bts) → Prop
  | nil : BV [] []
  | cons {k : K} {b : Bts} {tk : Tok} {r : List (K × Value)} {s : List (K × Bts)} : BV r s → BV ((k, .bytes b tk) :: r) ((k, b) :: s)
def look (l : List (K × Bts)) (k : K) : Option Bts := (l.find? fun p => p.1 = k).map (·.2)
def put (l : List (K × Bts)) (k : K) (b : Bts) : List (K × Bts) :=
  if l.any (fun p => p.1 = k) then l.map (fun p => if p.1 = k then (p.1, b) else p) else l ++ [(k, b)]

theorem look_nil (k : K) : look ([] : List (K × Bts)) k = none := rfl
theorem look_cons (p : K × Bts) (l : List (K × Bts)) (k : K) : look (p :: l) k = if p.1 = k then some p.2 else look l k := by
  unfold look
  by_cases h : p.1 = k <;> simp [List.find?_cons, h]
theorem look_append (l l' : List (K × Bts)) (k : K) : look (l ++ l') k = (look l k).or (look l' k) := by
  induction l with
  | nil => simp [look_nil]
  | cons p l ih =>
    rw [List.cons_append, look_cons, look_cons, ih]
    split <;> simp
theorem look_isSome (l : List (K × Bts)) (k : K) : (look l k).isSome = l.any (fun p => p.1 = k) := by
  induction l with
  | nil => rfl
  | cons p l ih =>
    rw [look_cons, List.any_cons, ← ih]
    by_cases h : p.1 = k <;> simp [h]
theorem look_put (l : List (K × Bts)) (k k' : K) (b : Bts) : look (put l k b) k' = if k = k' then some b else look l k' := by
  unfold put
  split
  · rename_i h
    induction l with
    | nil => simp at h
    | cons p l ih =>
      rw [List.map_cons, look_cons, look_cons]
      by_cases hp : p.1 = k
      · rw [if_pos hp]
        by_cases hk : k = k'
        · simp [hp, hk]
        · have : ¬ p.1 = k' := by rw [hp]; exact hk
          simp only [this, if_false, hk]
          by_cases ha : (l.any fun p => decide (p.1 = k)) = true
          · rw [ih ha, if_neg hk]
          · have e : (l.map fun p => if p.1 = k then (p.1, b) else p) = l := by
              conv => rhs; rw [← List.map_id l]
              refine List.map_congr_left fun q hq => ?_
              have : ¬ q.1 = k := fun e => ha (List.any_eq_true.mpr ⟨q, hq, by simpa using e⟩)
              rw [if_neg this]; rfl
            rw [e]
      · rw [if_neg hp]
        have ha : (l.any fun p => decide (p.1 = k)) = true := by simpa [hp] using h
        rw [ih ha]
        by_cases hk : k = k'
        · subst hk; simp [hp]
        · simp [hk]
  · rename_i h
    rw [look_append, look_cons, look_nil]
    have hn : look l k = none := by
      have := look_isSome l k
      cases hl : look l k with
      | none => rfl
      | some _ => rw [hl] at this; exact absurd this.symm (by simpa using h)
    by_cases hk : k = k'
    · subst hk; simp [hn]
    · simp [hk]
theorem put_length (l : List (K × Bts)) (k : K) (b : Bts) : (put l k b).length ≤ l.length + 1 := by
  unfold put; split <;> simp
theorem put_absent {l : List (K × Bts)} {k : K} (h : look l k = none) (b : Bts) : put l k b = l ++ [(k, b)] := by
  unfold put
  have : (l.any fun p => p.1 = k) = false := by rw [← look_isSome, h]; rfl
  rw [this]; rfl
theorem put_keys_mem {l : List (K × Bts)} {k k' : K} {b : Bts} (h : k' ∈ (put l k b).map (·.1)) : k' = k ∨ k' ∈ l.map (·.1) := by
  unfold put at h
  split at h
  · rw [List.map_map] at h
    obtain ⟨p, hp, e⟩ := List.mem_map.mp h
    right
    refine List.mem_map.mpr ⟨p, hp, ?_⟩
    rw [← e]
    show p.1 = (if p.1 = k then (p.1, b) else p).1
    split <;> rfl
  · rw [List.map_append, List.mem_append] at h
    rcases h with h | h
    · exact .inr h
    · left; simpa using h
theorem look_some_mem {l : List (K × Bts)} {k : K} {b : Bts} (h : look l k = some b) : (k, b) ∈ l := by
  unfold look at h
  obtain ⟨p, hp, rfl⟩ := Option.map_eq_some_iff.mp h
  have h1 := List.find?_some hp
  have h2 := List.mem_of_find?_eq_some hp
  have : p.1 = k := by simpa using h1
  rw [← this]; exact h2
theorem look_of_mem {l : List (K × Bts)} (hn : (l.map (·.1)).Nodup) {k : K} {b : Bts} (h : (k, b) ∈ l) : look l k = some b := by
  induction l with
  | nil => cases h
  | cons p l ih =>
    rw [look_cons]
    rw [List.map_cons, List.nodup_cons] at hn
    rcases List.mem_cons.mp h with rfl | h
    · simp
    · have : ¬ p.1 = k := fun e => hn.1 (List.mem_map.mpr ⟨_, h, e.symm⟩)
      rw [if_neg this]; exact ih hn.2 h
theorem look_mem_keys {l : List (K × Bts)} {k : K} (h : k ∈ l.map (·.1)) : ∃ b, look l k = some b := by
  have : (look l k).isSome = true := by
    rw [look_isSome]
    obtain ⟨p, hp, e⟩ := List.mem_map.mp h
    exact List.any_eq_true.mpr ⟨p, hp, by simpa using e⟩
  exact Option.isSome_iff_exists.mp this

theorem BV.length {kvs : List (K × Value)} {l : List (K × Bts)} (h : BV kvs l) : kvs.length = l.length := by
  induction h with | nil => rfl | cons _ ih => simp [ih]
theorem BV.keys {kvs : List (K × Value)} {l : List (K × Bts)} (h : BV kvs l) : kvs.map (·.1) = l.map (·.1) := by
  induction h with | nil => rfl | cons _ ih => simp [ih]
theorem BV.at {kvs : List (K × Value)} {l : List (K × Bts)} (h : BV kvs l) (k : K) : (look l k = none ∧ valueAt kvs k = none) ∨ ∃ b tk, look l k = some b ∧ valueAt kvs k = some (.bytes b tk) := by
  induction h with
  | nil => exact .inl ⟨rfl, rfl⟩
  | @cons k₀ b tk r s _ ih =>
    by_cases e : k₀ = k
    · exact .inr ⟨b, tk, by rw [look_cons, if_pos e], by simp [valueAt, List.find?_cons, e]⟩
    · have : valueAt ((k₀, Value.bytes b tk) :: r) k = valueAt r k := by simp [valueAt, List.find?_cons, e]
      rw [this, look_cons, if_neg e]
      exact ih
theorem BV.append {kvs kvs' : List (K × Value)} {l l' : List (K × Bts)} (h : BV kvs l) (h' : BV kvs' l') : BV (kvs ++ kvs') (l ++ l') := by
  induction h with | nil => exact h' | cons _ ih => exact .cons ih
theorem BV.mapPut {kvs : List (K × Value)} {l : List (K × Bts)} (h : BV kvs l) (k : K) (b : Bts) (tk : Tok) :
    BV (kvs.map fun kv => if kv.1 = k then (kv.1, .bytes b tk) else kv) (l.map fun p => if p.1 = k then (p.1, b) else p) := by
  induction h with
  | nil => exact .nil
  | @cons k₀ b₀ tk₀ r s _ ih =>
    by_cases e : k₀ = k
    · simp only [List.map_cons, e, if_true]; exact .cons ih
    · simp only [List.map_cons, e, if_false]; exact .cons ih
theorem BV.any {kvs : List (K × Value)} {l : List (K × Bts)} (h : BV kvs l) (k : K) : kvs.any (fun kv => kv.1 = k) = l.any (fun p => p.1 = k) := by
  induction h with | nil => rfl | cons _ ih => simp [ih]
theorem BV.stored {kvs : List (K × Value)} {l : List (K × Bts)} (h : BV kvs l) (k : K) (b : Bts) (tk : Tok) : BV (PySem.stored kvs k (.bytes b tk)) (put l k b) := by
  unfold PySem.stored put
  rw [h.any]
  split
  · exact h.mapPut k b tk
  · exact h.append (.cons .nil)
end

section
variable {prog : Program} {w : World} {K : Type} [DecidableEq K]
def DB (knd : KeyKind prog w K) (o : Obj) (l : List (K × Bts)) : Prop := ∃ kvs, o.IsDictOf knd kvs ∧ BV kvs l
variable {knd : KeyKind prog w K} {o : Obj} {l : List (K × Bts)}
theorem DB.nodup (h : DB knd o l) : (l.map (·.1)).Nodup := by
  obtain ⟨kvs, ⟨es, ep, _, _, _, _, hn⟩, hb⟩ := h
  rw [← hb.keys]; exact hn
theorem isDict_nil {K' : Type} [DecidableEq K'] {knd' : KeyKind prog w K'} (h : o.IsDictOf knd []) : o.IsDictOf knd' [] := by
  obtain ⟨es, ep, h1, h2, _, h4, _⟩ := h
  obtain ⟨l⟩ := es
  cases h4
  exact ⟨#[], ep, h1, h2, fun _ h => by simp at h, .nil, .nil⟩
theorem DB.nil {K' : Type} [DecidableEq K'] {knd' : KeyKind prog w K'} (h : o.IsDictOf knd []) : DB knd' o [] := ⟨[], isDict_nil h, .nil⟩

variable {A : Around} {E : Value → Shared → Prop} {s : Shared} {h₀ : Heap} {L d : Addr} {m : Str → Option Value} {news : List (Addr × Obj)} {g : Obj → List (Addr × Obj)} {k : K} {key : Value} {b : Bts}

theorem db_item {value slice : PySem.Expr} {Q : Value → Shared → Prop} (N : News h₀ L s.heap news) (hp : (d, o) ∈ news) (hd : DB knd o l) (hkey : knd.is k key = true) (hl : look l k = some b) (h : ∀ tk, Q (.bytes b tk) { s with toks := s.toks + 1 })
    (hs : subscripted slice false (.ref d) key = operate [.ref d, key] (getItem (.ref d) key) := by with_unfolding_all rfl) (hg : ∀ r, letTemporaryGo value (.ref d) r = pure () := by intro _; with_unfolding_all rfl) :
    wpAny (model prog w) A (subscriptTail value slice (.ref d) key) Q E s := by
  obtain ⟨kvs, hi, hb⟩ := hd
  rcases hb.at k with ⟨e, _⟩ | ⟨b', tk, e, hv⟩
  · rw [e] at hl; cases hl
  · rw [e] at hl; cases hl
    exact kda_item N hp hi hkey hv (h tk) hs hg
theorem db_getItem {Q : Value → Shared → Prop} (N : News h₀ L s.heap news) (hp : (d, o) ∈ news) (hd : DB knd o l) (hkey : knd.is k key = true) (hl : look l k = some b) (h : ∀ tk, Q (.bytes b tk) { s with toks := s.toks + 1 }) :
    wpAny (model prog w) A (getItem (.ref d) key) Q E s := by
  obtain ⟨kvs, hi, hb⟩ := hd
  rcases hb.at k with ⟨e, _⟩ | ⟨b', tk, e, hv⟩
  · rw [e] at hl; cases hl
  · rw [e] at hl; cases hl
    exact wpAny_getItem_of hkey (kda_dict N hp hi).mapOf hv (h tk)
theorem db_set {tk : Tok} {Q : Unit → Shared → Prop} (F : Fr h₀ L s.heap m) (N : News h₀ L s.heap news) (U : UpdF d o news g) (hd : DB knd o l) (hkey : knd.is k key = true) (hsz : l.length ≤ 1000000)
    (h : ∀ h' o', Fr h₀ L h' m → News h₀ L h' (g o') → DB knd o' (put l k b) → Q () { s with heap := h', toks := s.toks + 1 }) : wpAny (model prog w) A (setItem (.ref d) key (.bytes b tk)) Q E s := by
  obtain ⟨kvs, hi, hb⟩ := hd
  exact kda_set F N U hi hkey (by rw [hb.length, sizeLine_eq]; omega) fun h' o' F' N' hi' => h h' o' F' N' ⟨_, hi', hb.stored k b tk⟩
theorem db_len {Q : Value → Shared → Prop} (N : News h₀ L s.heap news) (hp : (d, o) ∈ news) (hd : DB knd o l) (lo : (d == sysModules) = false) (hfit : l.length ≤ 1000000) (h : Q (.int l.length (s.toks + 1)) { s with toks := s.toks + 1 + 1 }) :
    wpAny (model prog w) A (call (.builtin "len") [.ref d]) Q E s := by
  obtain ⟨kvs, hi, hb⟩ := hd
  have := hb.length
  exact kda_len N hp hi lo (by omega) (by rw [this]; exact h)
theorem db_setdefault {tk : Tok} {Q : Value → Shared → Prop} (F : Fr h₀ L s.heap m) (N : News h₀ L s.heap news) (U : UpdF d o news g) (hd : DB knd o l) (lo : (d == sysModules) = false) (hkey : knd.is k key = true) (hsz : l.length ≤ 1000000)
    (h1 : ∀ b' tk', look l k = some b' → Q (.bytes b' tk') { s with toks := s.toks + 1 })
    (h2 : ∀ h' o', look l k = none → Fr h₀ L h' m → News h₀ L h' (g o') → DB knd o' (put l k b) → Q (.bytes b tk) { s with heap := h', toks := s.toks + 1 }) :
    wpAny (model prog w) A (call (.builtin "dict.setdefault") [.ref d, key, .bytes b tk]) Q E s := by
  obtain ⟨kvs, hi, hb⟩ := hd
  obtain ⟨pre, post, rfl, hg, a1, a2⟩ := U.split
  have hm := N (d, o) (List.mem_append_right _ (.head _))
  have hD : s.heap.DictOf knd d kvs := Heap.dictOf_iff.mpr ⟨o, hm.1, hi⟩
  refine call_meetsIn PySem.F.slot_dict_setdefault hD.typeIs PySem.F.entry_dict_setdefault (PySem.F.args_dict_setdefault_3 _ _ _) (kt_meets_setdefault knd d hkey lo (.bytes b tk))
    ⟨kvs, hD, (by rw [hb.length, sizeLine_eq]; omega), fun v hv => ?_, fun hn h' hmm hs => ?_⟩
  · rcases hb.at k with ⟨_, e⟩ | ⟨b', tk', e, e2⟩
    · rw [e] at hv; cases hv
    · rw [e2] at hv; cases hv
      exact h1 b' tk' e
  · obtain ⟨o', ho', hd'⟩ := Heap.dictOf_iff.mp hmm
    rcases hb.at k with ⟨e0, _⟩ | ⟨b', tk', _, e2⟩
    · exact h2 h' o' e0 (F.change hs hm.2.1 hm.2.2) (hg o' ▸ N.setIn a1 a2 hs ho') ⟨_, hd', hb.stored k b tk⟩
    · rw [e2] at hn; cases hn
end

section
variable {prog : Program} {w : World} {K : Type} [DecidableEq K] {knd : KeyKind prog w K} {o : Obj} {l : List (K × Bts)}
variable {A : Around} {E : Value → Shared → Prop} {s : Shared} {h₀ : Heap} {L d : Addr} {news : List (Addr × Obj)} {k : K} {key : Value} {b : Bts}
theorem db_mSetdefault {pl : Sem Bool} {Q : Value × List Value → Shared → Prop} (N : News h₀ L s.heap news) (hp : (d, o) ∈ news) (hd : DB knd o l) (h : Q (.builtin "dict.setdefault", [.ref d]) s) : wpAny (model prog w) A (getMethod (.ref d) "setdefault" pl) Q E s := by
  obtain ⟨kvs, hi, _⟩ := hd
  have hD := kda_dict N hp hi
  exact getMethod_builtin hD.typeIs PySem.F.plainAttrs_dict PySem.F.slot_dict_setdefault PySem.F.type_dict_setdefault hD.mapOf.noDict h
theorem db_mGet {pl : Sem Bool} {Q : Value × List Value → Shared → Prop} (N : News h₀ L s.heap news) (hp : (d, o) ∈ news) (hd : DB knd o l) (h : Q (.builtin "dict.get", [.ref d]) s) : wpAny (model prog w) A (getMethod (.ref d) "get" pl) Q E s := by
  obtain ⟨kvs, hi, _⟩ := hd
  exact kdg_method N hp hi h
theorem db_get2 {dk : Bts} {tk : Tok} {Q : Value → Shared → Prop} (N : News h₀ L s.heap news) (hp : (d, o) ∈ news) (hd : DB knd o l) (lo : (d == sysModules) = false) (hkey : knd.is k key = true)
    (h : ∀ tk', Q (.bytes ((look l k).getD dk) tk') { s with toks := s.toks + 1 }) : wpAny (model prog w) A (call (.builtin "dict.get") [.ref d, key, .bytes dk tk]) Q E s := by
  obtain ⟨kvs, hi, hb⟩ := hd
  rcases hb.at k with ⟨e, e2⟩ | ⟨b', tk', e, e2⟩
  · rw [e] at h; exact kdg_get2 N hp hi lo hkey none e2 (h tk)
  · rw [e] at h; exact kdg_get2 N hp hi lo hkey _ e2 (h tk')
end

/-! ledgers -/
theorem updF_mem {d : Addr} {o : Obj} {l : List (Addr × Obj)} {g : Obj → List (Addr × Obj)} (U : UpdF d o l g) : (d, o) ∈ l := by
  obtain ⟨pre, post, rfl, _, _, _⟩ := U.split
  simp
theorem updF_at {d : Addr} {o : Obj} {l : List (Addr × Obj)} {g : Obj → List (Addr × Obj)} (U : UpdF d o l g) : g o = l := by
  obtain ⟨pre, post, rfl, hg, _, _⟩ := U.split
  exact hg o
theorem updF_out {d : Addr} {o o' : Obj} {l : List (Addr × Obj)} {g : Obj → List (Addr × Obj)} (U : UpdF d o l g) {p : Addr × Obj} (h : p ∈ g o') : p = (d, o') ∨ (p ∈ l ∧ p.1 ≠ d) := by
  obtain ⟨pre, post, rfl, hg, a1, a2⟩ := U.split
  rw [hg] at h
  rcases List.mem_append.mp h with h | h
  · exact .inr ⟨List.mem_append_left _ h, a1 p h⟩
  · rcases List.mem_cons.mp h with rfl | h
    · exact .inl rfl
    · exact .inr ⟨List.mem_append_right _ (.tail _ h), a2 p h⟩
theorem updF_in {d : Addr} {o o' : Obj} {l : List (Addr × Obj)} {g : Obj → List (Addr × Obj)} (U : UpdF d o l g) : (d, o') ∈ g o' := by
  obtain ⟨pre, post, rfl, hg, a1, a2⟩ := U.split
  rw [hg]; simp
theorem updF_keep {d : Addr} {o o' : Obj} {l : List (Addr × Obj)} {g : Obj → List (Addr × Obj)} (U : UpdF d o l g) {p : Addr × Obj} (h : p ∈ l) (hd : p.1 ≠ d) : p ∈ g o' := by
  obtain ⟨pre, post, rfl, hg, a1, a2⟩ := U.split
  rw [hg]
  rcases List.mem_append.mp h with h | h
  · exact List.mem_append_left _ h
  · rcases List.mem_cons.mp h with rfl | h
    · exact absurd rfl hd
    · exact List.mem_append_right _ (.tail _ h)
/-- the ledger less one address -/
def less (d : Addr) (l : List (Addr × Obj)) : List (Addr × Obj) := l.filter fun p => p.1 != d
theorem less_mem {d : Addr} {l : List (Addr × Obj)} {p : Addr × Obj} : p ∈ less d l ↔ p ∈ l ∧ p.1 ≠ d := by
  unfold less; rw [List.mem_filter]; simp
theorem less_ne {d : Addr} {l : List (Addr × Obj)} : ∀ p ∈ less d l, p.1 ≠ d := fun _ hp => (less_mem.mp hp).2
theorem news_less {h₀ h : Heap} {L d : Addr} {o o' : Obj} {l : List (Addr × Obj)} {g : Obj → List (Addr × Obj)} (U : UpdF d o l g) (N : News h₀ L h ((d, o') :: less d l)) : News h₀ L h (g o') := fun p hp => by
  rcases updF_out U hp with rfl | ⟨h1, h2⟩
  · exact N _ (.head _)
  · exact N _ (.tail _ (less_mem.mpr ⟨h1, h2⟩))
theorem news_lessIn {h₀ h : Heap} {L d : Addr} {o : Obj} {l : List (Addr × Obj)} (N : News h₀ L h l) (hm : (d, o) ∈ l) : News h₀ L h ((d, o) :: less d l) := fun p hp => by
  rcases List.mem_cons.mp hp with rfl | hp
  · exact N _ hm
  · exact N _ (less_mem.mp hp).1
end Mine
end
section
local macro_rules | `(tactic| walk_at "zzz") => `(tactic| fail)
local macro_rules | `(tactic| walk_at "zzz") => `(tactic| fail)
local macro_rules | `(tactic| walk_at "zzz") => `(tactic| fail)
local macro_rules | `(tactic| walk_at "zzz") => `(tactic| fail)
local macro_rules | `(tactic| walk_at "zzz") => `(tactic| fail)
local macro_rules | `(tactic| walk_at "zzz") => `(tactic| fail)
local macro_rules | `(tactic| walk_at "zzz") => `(tactic| fail)
local macro_rules | `(tactic| walk_at "zzz") => `(tactic| fail)
local macro_rules | `(tactic| walk_at "zzz") => `(tactic| fail)
local macro_rules | `(tactic| walk_at "zzz") => `(tactic| fail)
local macro_rules | `(tactic| walk_at "zzz") => `(tactic| fail)
local macro_rules | `(tactic| walk_at "zzz") => `(tactic| fail)
local macro_rules | `(tactic| walk_at "zzz") => `(tactic| fail)
local macro_rules | `(tactic| walk_at "zzz") => `(tactic| fail)
local macro_rules | `(tactic| walk_at "zzz") => `(tactic| fail)
local macro_rules | `(tactic| walk_at "zzz") => `(tactic| fail)
local macro_rules | `(tactic| walk_at "zzz") => `(tactic| fail)
local macro_rules | `(tactic| walk_at "zzz") => `(tactic| fail)
local macro_rules | `(tactic| walk_at "zzz") => `(tactic| fail)
local macro_rules | `(tactic| walk_at "zzz") => `(tactic| fail)
local macro_rules | `(tactic| walk_at "zzz") => `(tactic| fail)
local macro_rules | `(tactic| walk_at "zzz") => `(tactic| fail)
local macro_rules | `(tactic| walk_at "zzz") => `(tactic| fail)
local macro_rules | `(tactic| walk_at "zzz") => `(tactic| fail)
local macro_rules | `(tactic| walk_at "zzz") => `(tactic| fail)
local macro_rules | `(tactic| walk_at "zzz") => `(tactic| fail)
local macro_rules | `(tactic| walk_at "zzz") => `(tactic| fail)
local macro_rules | `(tactic| walk_at "zzz") => `(tactic| fail)
local macro_rules | `(tactic| walk_at "zzz") => `(tactic| fail)
local macro_rules | `(tactic| walk_at "zzz") => `(tactic| fail)
local macro_rules | `(tactic| walk_at "zzz") => `(tactic| fail)
local macro_rules | `(tactic| walk_at "zzz") => `(tactic| fail)
local macro_rules | `(tactic| walk_at "zzz") => `(tactic| fail)
local macro_rules | `(tactic| walk_at "zzz") => `(tactic| fail)
local macro_rules | `(tactic| walk_at "zzz") => `(tactic| fail)
local macro_rules | `(tactic| walk_at "zzz") => `(tactic| fail)
local macro_rules | `(tactic| walk_at "zzz") => `(tactic| fail)
local macro_rules | `(tactic| walk_at "zzz") => `(tactic| fail)
local macro_rules | `(tactic| walk_at "zzz") => `(tactic| fail)
local macro_rules | `(tactic| walk_at "zzz") => `(tactic| fail)
local macro_rules | `(tactic| walk_at "zzz") => `(tactic| fail)
local macro_rules | `(tactic| walk_at "zzz") => `(tactic| fail)
local macro_rules | `(tactic| walk_at "zzz") => `(tactic| fail)
local macro_rules | `(tactic| walk_at "zzz") => `(tactic| fail)
local macro_rules | `(tactic| walk_at "zzz") => `(tactic| fail)
local macro_rules | `(tactic| walk_at "zzz") => `(tactic| fail)
local macro_rules | `(tactic| walk_at "zzz") => `(tactic| fail)
local macro_rules | `(tactic| walk_at "zzz") => `(tactic| fail)
local macro_rules | `(tactic| walk_at "zzz") => `(tactic| fail)
local macro_rules | `(tactic| walk_at "zzz") => `(tactic| fail)
local macro_rules | `(tactic| walk_at "zzz") => `(tactic| fail)
local macro_rules | `(tactic| walk_at "zzz") => `(tactic| fail)
local macro_rules | `(tactic| walk_at "zzz") => `(tactic| fail)
local macro_rules | `(tactic| walk_at "zzz") => `(tactic| fail)
local macro_rules | `(tactic| walk_at "zzz") => `(tactic| fail)
local macro_rules | `(tactic| walk_at "zzz") => `(tactic| fail)
local macro_rules | `(tactic| walk_at "zzz") => `(tactic| fail)
local macro_rules | `(tactic| walk_at "zzz") => `(tactic| fail)
local macro_rules | `(tactic| walk_at "zzz") => `(tactic| fail)
local macro_rules | `(tactic| walk_at "zzz") => `(tactic| fail)
local macro_rules | `(tactic| walk_at "zzz") => `(tactic| fail)
local macro_rules | `(tactic| walk_at "zzz") => `(tactic| fail)
local macro_rules | `(tactic| walk_at "zzz") => `(tactic| fail)
local macro_rules | `(tactic| walk_at "zzz") => `(tactic| fail)
local macro_rules | `(tactic| walk_at "zzz") => `(tactic| fail)
local macro_rules | `(tactic| walk_at "zzz") => `(tactic| fail)
local macro_rules | `(tactic| walk_at "zzz") => `(tactic| fail)
local macro_rules | `(tactic| walk_at "zzz") => `(tactic| fail)
local macro_rules | `(tactic| walk_at "zzz") => `(tactic| fail)
local macro_rules | `(tactic| walk_at "zzz") => `(tactic| fail)
local macro_rules | `(tactic| walk_at "zzz") => `(tactic| fail)
local macro_rules | `(tactic| walk_at "zzz") => `(tactic| fail)
local macro_rules | `(tactic| walk_at "zzz") => `(tactic| fail)
local macro_rules | `(tactic| walk_at "zzz") => `(tactic| fail)
local macro_rules | `(tactic| walk_at "zzz") => `(tactic| fail)
local macro_rules | `(tactic| walk_at "zzz") => `(tactic| fail)
local macro_rules | `(tactic| walk_at "zzz") => `(tactic| fail)
local macro_rules | `(tactic| walk_at "zzz") => `(tactic| fail)
local macro_rules | `(tactic| walk_at "zzz") => `(tactic| fail)
local macro_rules | `(tactic| walk_at "zzz") => `(tactic| fail)
open PySem PySem.W PyProof.Rows PySem.Calls
set_option Elab.async false
set_option maxRecDepth 100000
set_option maxHeartbeats 1000000
set_option linter.unusedSimpArgs false
set_option linter.unusedSectionVars false
set_option linter.unusedVariables false
theorem Mine.fillK : (fun (_ : OpenLaw) (_ : Params → Frag) => True) PySem.Challenge.rw_bs0043_01 Mine.hd.heap_39 := by w_top off; k_fill; trivial
namespace Mine

def be32 (n : Nat) : Bts := (KTBy.low (n : Int) 32).reverse.toArray
theorem be32_size (n : Nat) : (be32 n).size = 32 := by
  unfold be32; rw [List.size_toArray, List.length_reverse, KTBy.low_length]
theorem be32_inj {a b : Nat} (ha : a < 65536) (hb : b < 65536) (h : be32 a = be32 b) : a = b := by
  unfold be32 at h
  have h1 : KTBy.low (a : Int) 32 = KTBy.low (b : Int) 32 := by
    have := congrArg Array.toList h
    simpa using this
  have c : (65536 : Int) ≤ 256 ^ 32 := by decide
  have e1 := KTBy.low_ints (x := (a : Int)) (n := 32) (by omega) (by omega)
  have e2 := KTBy.low_ints (x := (b : Int)) (n := 32) (by omega) (by omega)
  rw [h1, e2] at e1
  have f0 := congrArg (fun l => l[0]?) e1
  have f1 := congrArg (fun l => l[1]?) e1
  simp only [List.getElem?_map] at f0 f1
  have r0 : (List.range 32)[0]? = some 0 := rfl
  have r1 : (List.range 32)[1]? = some 1 := rfl
  rw [r0] at f0
  rw [r1] at f1
  simp only [Option.map_some, Option.some.injEq, Int.pow_zero, Int.ediv_one, Int.pow_one] at f0 f1
  omega

theorem tobytes32 {prog : Program} {w : World} {A : Around} {E : Value → Shared → Prop} {s : Shared} {x : Nat} {z : Int} {t u v : Tok} {Q : Value → Shared → Prop} (hz : z = (x : Int)) (h1 : x < 65536) (h : ∀ t' k', Q (.bytes (be32 x) t') { s with toks := k' }) :
    wpAny (model prog w) A (call (.builtin "int.to_bytes") [.int z t, .int 32 u, .str (PySem.Str.ofString "big") v]) Q E s := by
  subst hz
  have c : (65536 : Int) ≤ 256 ^ 32 := by decide
  have hb : Builtin.Int.intBits (x : Int) ≤ 8 * 32 := KTBy.bits_le (B := 256 ^ 32) rfl (by omega) (by omega)
  refine wpAny_call_entry KTBy.slot (typeIs_int s (x : Int) t) KTBy.entry ?_ (KTBy.args _ _ _)
  show wpAny _ _ (Builtin.Int.intOfSelf (.int (x : Int) t) >>= fun y => _) _ _ s
  refine wpAny_bind (wpAny_of_eq (a := (x : Int)) rfl ?_)
  show wpAny _ _ (Builtin.Int.intBindNamed "to_bytes" ["length", "byteorder", "signed"] 0 2 [.int 32 u, .str (PySem.Str.ofString "big") v] [] >>= fun l => _) _ _ s
  refine wpAny_bind (wpAny_of_eq (a := [some (.int 32 u), some (.str (PySem.Str.ofString "big") v), none]) (by kernel_rfl) ?_)
  show wpAny _ _ (Builtin.Int.intIndex "int.to_bytes" (.int 32 u) >>= fun n => _) _ _ s
  refine wpAny_bind (wpAny_of_eq (a := (32 : Int)) rfl ?_)
  refine KTBy.if_not (by decide) ?_
  refine wpAny_bind (wpAny_of_eq (a := PySem.Str.ofString "big") (by kernel_rfl) ?_)
  refine wpAny_bind (wpAny_of_eq (a := false) rfl ?_)
  refine wpAny_bind (wpAny_of_eq (a := false) (by kernel_rfl) ?_)
  refine wpAny_ite_false (by decide) ?_
  refine wpAny_ite_false (by decide) ?_
  refine wpAny_ite_false (by decide) ?_
  refine KTBy.if_not (by show (decide ((x : Int) < 0) && !false) = false; rw [decide_eq_false (show ¬ (x : Int) < 0 by omega)]; rfl) ?_
  refine KTBy.if_not (by show (_ && decide ((Builtin.Int.intBits (x : Int) : Int) > 8 * (32 : Int))) = false; rw [decide_eq_false (show ¬ ((Builtin.Int.intBits (x : Int) : Int) > 8 * (32 : Int)) by omega), Bool.and_false]) ?_
  exact wpAny_bind (wpAny_mkBytes (wpAny_pure ⟨_, rfl, h _ _⟩) (by show (List.reverse (KTBy.low (x : Int) (Int.toNat 32))).length ≤ sizeLine; rw [List.length_reverse, KTBy.low_length, sizeLine_eq]; decide))

theorem tobytes1 {prog : Program} {w : World} {A : Around} {E : Value → Shared → Prop} {s : Shared} {n : Nat} {t u v : Tok} {Q : Value → Shared → Prop} (h1 : n < 65000) (h : ∀ t' k', Q (.bytes (be32 (n + 1)) t') { s with toks := k' }) :
    wpAny (model prog w) A (call (.builtin "int.to_bytes") [.int (1 + (n : Int)) t, .int 32 u, .str (PySem.Str.ofString "big") v]) Q E s :=
  tobytes32 (x := n + 1) (by omega) (by omega) h

/-! the book: the n-th unlike text has the number n -/
def bookFrom : Nat → List Bts → List (List UInt8 × Bts)
  | _, [] => []
  | n, t :: r => (t.toList, be32 (n + 1)) :: bookFrom (n + 1) r
abbrev bookL (B : List Bts) : List (List UInt8 × Bts) := bookFrom 0 B
theorem bookFrom_length : ∀ (n : Nat) (B : List Bts), (bookFrom n B).length = B.length
  | _, [] => rfl
  | n, _ :: r => by simp [bookFrom, bookFrom_length (n + 1) r]
theorem bookFrom_append : ∀ (n : Nat) (B : List Bts) (t : Bts), bookFrom n (B ++ [t]) = bookFrom n B ++ [(t.toList, be32 (n + B.length + 1))]
  | n, [], t => by simp [bookFrom]
  | n, x :: r, t => by
    rw [List.cons_append, bookFrom, bookFrom, bookFrom_append (n + 1) r t, List.cons_append, List.length_cons]
    congr 5; omega
theorem look_book : ∀ (n : Nat) (B : List Bts) (t h : Bts), look (bookFrom n B) t.toList = some h → ∃ i, B[i]? = some t ∧ h = be32 (n + i + 1)
  | _, [], _, _, e => by cases e
  | n, x :: r, t, h, e => by
    rw [bookFrom, look_cons] at e
    split at e
    · rename_i hx
      have : x = t := Array.toList_inj.mp hx
      exact ⟨0, by simp [this], by cases e; rfl⟩
    · obtain ⟨i, h1, h2⟩ := look_book (n + 1) r t h e
      exact ⟨i + 1, by simpa using h1, by rw [h2]; congr 1; omega⟩
/-- h is t's number in the book -/
def Hash (B : List Bts) (t h : Bts) : Prop := ∃ i, B[i]? = some t ∧ h = be32 (i + 1)
theorem Hash.mono {B B' : List Bts} {t h : Bts} (H : Hash B t h) (p : B <+: B') : Hash B' t h := by
  obtain ⟨i, h1, h2⟩ := H
  obtain ⟨r, rfl⟩ := p
  refine ⟨i, ?_, h2⟩
  rw [List.getElem?_append_left (by have := List.getElem?_eq_some_iff.mp h1; exact this.1)]
  exact h1
theorem Hash.size {B : List Bts} {t h : Bts} (H : Hash B t h) : h.size = 32 := by
  obtain ⟨i, _, rfl⟩ := H; exact be32_size _
theorem Hash.inj {B : List Bts} {t t' h : Bts} (hb : B.length < 65000) (H : Hash B t h) (H' : Hash B t' h) : t = t' := by
  obtain ⟨i, h1, rfl⟩ := H
  obtain ⟨j, h2, e⟩ := H'
  have l1 := (List.getElem?_eq_some_iff.mp h1).1
  have l2 := (List.getElem?_eq_some_iff.mp h2).1
  have : i + 1 = j + 1 := be32_inj (by omega) (by omega) e
  have : i = j := by omega
  subst this
  rw [h1] at h2; exact Option.some.inj h2
theorem Hash.det {B : List Bts} {t h h' : Bts} (hn : B.Nodup) (H : Hash B t h) (H' : Hash B t h') : h = h' := by
  obtain ⟨i, h1, rfl⟩ := H
  obtain ⟨j, h2, rfl⟩ := H'
  obtain ⟨l1, e1⟩ := List.getElem?_eq_some_iff.mp h1
  obtain ⟨l2, e2⟩ := List.getElem?_eq_some_iff.mp h2
  have : i = j := (List.getElem_inj hn).mp (e1.trans e2.symm)
  rw [this]

abbrev Book (prog : Program) (w : World) (o : Obj) (B : List Bts) : Prop := DB (bytesKind prog w) o (bookL B)
theorem book_nodup_from : ∀ (n : Nat) (B : List Bts), ((bookFrom n B).map (·.1)).Nodup → B.Nodup
  | _, [], _ => .nil
  | n, x :: r, h => by
    rw [bookFrom, List.map_cons, List.nodup_cons] at h
    refine List.nodup_cons.mpr ⟨fun hm => h.1 ?_, book_nodup_from _ r h.2⟩
    have key : ∀ (n : Nat) (B : List Bts), x ∈ B → x.toList ∈ (bookFrom n B).map (·.1) := by
      intro n B
      induction B generalizing n with
      | nil => intro h; cases h
      | cons y B ih =>
        intro h
        rw [bookFrom, List.map_cons]
        rcases List.mem_cons.mp h with rfl | h
        · exact .head _
        · exact .tail _ (ih _ h)
    exact key _ _ hm
theorem Book.nodup {prog : Program} {w : World} {o : Obj} {B : List Bts} (h : Book prog w o B) : B.Nodup := book_nodup_from _ _ (DB.nodup h)

/-! the law's own text -/
def fnBody : Stmt → List Stmt
  | .FunctionDef _ _ b _ _ _ _ _ _ _ => b
  | _ => []
def lawB : List Stmt := fnBody ((PySem.Challenge.pw_bs0043_01.main.body.drop 18).headD (.Pass default))
def lamE : Expr := match lawB.drop 2 with
  | .Assign _ v _ :: _ => v
  | _ => .Constant .none 0 default
def lamParams : Arguments := match lamE with
  | .Lambda a _ _ _ => a
  | _ => default
def lamBody : Expr := match lamE with
  | .Lambda _ b _ _ => b
  | e => e
def lamScope : Scope := match lamE with
  | .Lambda _ _ sc _ => sc
  | _ => default

def HashC (prog : Program) (w : World) (p : Program) (loose : List Str) (mean : ExcName → Option Value) (mg mb : Str → Option Value) (hof bk bkc cod : Addr) (lam oc oco : Obj) : Prop :=
  ∀ (dp un : Nat) (gd : Option (List Code)) (cn : Str) (cs : Scope) (a : Addr) (ccd : Value) (cl : List (Str × Addr)) (outer : List Env) (A₀ : Around) (base h₀ : Heap) (L : Addr) (m : Str → Option Value) (s : Shared) (Q E : Value → Shared → Prop)
    (news : List (Addr × Obj)) (g : Obj → List (Addr × Obj)) (t : Bts) (tk : Tok) (ob : Obj) (B : List Bts),
    Below A₀ base outer h₀ → Fr h₀ L s.heap m → (Mine.hd.heap_39 w.params).In h₀ → News h₀ L s.heap news → Top p loose mean mg mb h₀ → cs.kind = .function → dp + 1 < recursionLimit → un + 8 < cLine →
    UpdF bk ob news g → (bkc, oc) ∈ news → (hof, lam) ∈ news → (cod, oco) ∈ news → Book prog w ob B → B.length < 60000 →
    (∀ h tk' ob' B' h' tks, Book prog w ob' B' → B <+: B' → Hash B' t h → B'.length ≤ B.length + 1 → Fr h₀ L h' m → News h₀ L h' (g ob') → Q (.bytes h tk') { s with heap := h', toks := tks }) →
    wpAny (model prog w) (ktrTop dp un gd cn cs L a ccd cl outer) (call (.ref hof) [.bytes t tk]) Q E s

local macro_rules | `(tactic| k_all) => `(tactic| assumption)
local macro_rules | `(tactic| walk_at "eval Name") => `(tactic| (k_here; (with_reducible show wpAny _ _ (eval (Expr.Name _ _) (envX _ _ _ _ _ _)) _ _ _); k_dflt (first
  | (refine' nameX_L ?F ?v ?_ ?a ?b; (case F => k_asm); (case a => rfl); (case b => rfl); (case v => rfl); k_whole)
  | (refine' nameX_F ?N ?c ?m ?d ?_ ?a ?b; (case a => rfl); (case b => rfl); (case N => k_asm); (case c => rfl); (case m => k_mem); (case d => k_asm); k_whole)
  | (refine' nameX_K ?F ?X ?T ?e ?_ ?a ?b; (case F => k_asm); (case X => k_asm); (case T => k_asm); (case a => rfl); (case b => rfl); (case e => k_is); k_whole)
  | (refine' nameX_B ?F ?X ?T ?e ?v ?n ?_ ?a ?b; (case F => k_asm); (case X => k_asm); (case T => k_asm); (case a => rfl); (case b => rfl); (case e => k_is); (case v => boot_fast); (case n => decide); k_whole))))

abbrev lamQ : Str := (Str.ofString "law" ++ Str.ofString ".<locals>.") ++ Str.ofString "<lambda>"
local macro_rules | `(tactic| walk_at "getMethod ref") => `(tactic| (k_here; k_dflt (refine' db_mSetdefault (knd := bytesKind _ _) ?N ?p ?d ?_; (case N => k_asm); (case p => k_mem); (case d => k_asm); k_whole)))
local macro_rules | `(tactic| walk_at "call builtin:len") => `(tactic| (k_here; k_dflt (refine' db_len (knd := bytesKind _ _) ?N ?p ?d ?l ?z ?_; (case N => k_asm); (case p => k_mem); (case d => k_asm); (case l => k_asm); (case z => (rw [bookFrom_length]; omega)); k_whole)))
local macro_rules | `(tactic| walk_at "call builtin:int.to_bytes") => `(tactic| (k_here; k_dflt (refine' tobytes1 ?b ?_; (case b => (rw [bookFrom_length]; omega)); k_whole); intro _ _))
theorem hash_ok {prog : Program} {w : World} {p : Program} {loose : List Str} {mean : ExcName → Option Value} {mg mb : Str → Option Value} {hof bk bkc cod : Addr} {oc oco : Obj} {nm : Str} {pm ctv : Value} {vs : Array Value} {tq : Tok}
    (lo : (bk == sysModules) = false) (hcell : oc.data = .cell (some (.ref bk))) (d1 : oco.data = .fields vs) (d2 : vs[1]? = some (.str lamQ tq)) :
    HashC prog w p loose mean mg mb hof bk bkc cod (kla_obj nm lamQ lamParams lamBody lamScope [(Str.ofString "book", bkc)] pm cod ctv) oc oco := by
  have e1 : lamParams = lamParams := rfl
  have e2 : lamBody = lamBody := rfl
  have e3 : lamScope = lamScope := rfl
  conv at e1 => lhs; whnf
  conv at e2 => lhs; whnf
  conv at e3 => lhs; whnf
  rw [← e1, ← e2, ← e3]
  clear e1 e2 e3
  intro dp un gd cn cs a ccd cl outer A₀ base h₀ L m s Q E news g t tk ob B Bl F X N T hk hd hu U mc mh mo Bk hlen hret
  refine wpAny_call ?_
  k_dflt (refine' kla_code Bl F X N T rfl rfl hk mh (codeRec_news N mo d1 d2) (by ktr_room) rfl (locs rfl) ?_ rfl rfl rfl (by decide))
  intro g' L' h' FG' F' N' B' X' T'
  generalize s.toks + List.length _ = tk0
  (try dsimp only)
  (try k_fold)
  have N1 : News g' L' h' ((bk, ob) :: (bkc, oc) :: less bk news) := fun p hp => by
    rcases List.mem_cons.mp hp with rfl | hp
    · exact N' _ (updF_mem U)
    · rcases List.mem_cons.mp hp with rfl | hp
      · exact N' _ mc
      · exact N' _ (less_mem.mp hp).1
  clear N'
  have hr := less_ne (d := bk) (l := news)
  k_steps
  have hne : bkc ≠ bk := by
    rintro rfl
    have q1 := (N1 _ (.head _)).1
    have q2 := (N1 _ (.tail _ (.head _))).1
    rw [q1] at q2
    cases q2
    obtain ⟨kvs, ⟨es, ep, _, hd', _⟩, _⟩ := Bk
    rw [hcell] at hd'; cases hd'
  have hr2 : ∀ p ∈ (bkc, oc) :: less bk news, p.1 ≠ bk := fun p hp => by
    rcases List.mem_cons.mp hp with rfl | hp
    · exact hne
    · exact hr p hp
  have hz : (bookL B).length = B.length := bookFrom_length 0 B
  refine db_setdefault (knd := bytesKind prog w) (k := t.toList) (g := fun o' => (bk, o') :: (bkc, oc) :: less bk news) F' N1 (.head hr2) Bk lo (by simp [bytesKind, isBytes]) (by omega) ?_ ?_
  · intro h1 tk1 hl
    obtain ⟨i, hi, rfl⟩ := look_book 0 B t h1 hl
    k_steps
    exact hret _ _ ob B _ _ Bk (List.prefix_refl B) ⟨i, hi, by rw [Nat.zero_add]⟩ (Nat.le_succ _) (by assumption) (news_less U fun p hp => (by assumption : News h₀ L h' _) p (by
      rcases List.mem_cons.mp hp with rfl | hp
      · exact .head _
      · exact .tail _ (.tail _ hp)))
  · intro h1 o1 hl F1 N2 hb
    rw [put_absent hl, hz] at hb
    have e : bookL B ++ [(t.toList, be32 (B.length + 1))] = bookL (B ++ [t]) := by
      rw [bookL, bookL, bookFrom_append, Nat.zero_add]
    rw [e] at hb
    k_steps
    exact hret _ _ o1 (B ++ [t]) _ _ hb (List.prefix_append B [t]) ⟨B.length, by simp, by rw [hz]⟩ (by simp) (by assumption) (news_less U fun p hp => (by assumption : News h₀ L h1 _) p (by
      rcases List.mem_cons.mp hp with rfl | hp
      · exact .head _
      · exact .tail _ (.tail _ hp)))
end Mine
end
section
open PySem PySem.W PyProof.Rows PySem.Calls
set_option Elab.async false
set_option maxRecDepth 100000
set_option maxHeartbeats 2000000
set_option linter.unusedSimpArgs false
set_option linter.unusedSectionVars false
set_option linter.unusedVariables false
theorem Mine.fillK2 : (fun (_ : OpenLaw) (_ : Params → Frag) => True) PySem.Challenge.rw_bs0043_01 Mine.hd.heap_39 := by w_top off; k_fill; trivial
namespace Mine
/-- the state of the law's draws -/
abbrev stO (xs : Addr) (i c : Int) (t1 t2 : Tok) (n : Nat) : Obj := listOf [.ref xs, .int i t1, .int c t2].toArray n

local macro_rules | `(tactic| k_all) => `(tactic| assumption)
theorem next_ok {prog : Program} {w : World} {p : Program} {loose : List Str} {mean : ExcName → Option Value} {mg mb : Str → Option Value}
    (dp un : Nat) (gd : Option (List Code)) (cn : Str) (cs : Scope) (a : Addr) (ccd : Value) (cl : List (Str × Addr)) (outer : List Env) (A₀ : Around) (base h₀ : Heap) (L : Addr) (m : Str → Option Value) (s : Shared) (Q E : Value → Shared → Prop)
    {news : List (Addr × Obj)} {g : Obj → List (Addr × Obj)} {st xs : Addr} {vs : List Value} {ns : List Int} {i c : Int} {t1 t2 tm : Tok} {n n2 : Nat} {many : Int}
    (Bl : Below A₀ base outer h₀) (F : Fr h₀ L s.heap m) (X : (Mine.hd.heap_39 w.params).In h₀) (N : News h₀ L s.heap news) (T : Top p loose mean mg mb h₀) (hk : cs.kind = .function) (hd : dp + 1 < recursionLimit) (hu : un + 8 < cLine)
    (U : UpdF st (stO xs i c t1 t2 n) news g) (hx : (xs, listOf vs.toArray n2) ∈ news) (hi : IntsAre vs ns) (hlen : ns.length ≤ 40) (h0 : 0 ≤ i) (hc0 : 0 ≤ c) (hc1 : c < 2147483647) (hm : 0 < many) (hm1 : many < 1000)
    (hret : ∀ (v : Int) (t : Tok) (i' c' : Int) (t1' t2' : Tok) (n' : Nat) (h' : Heap) (tk' : Nat), 0 ≤ v → v < many → 0 ≤ i' → 0 ≤ c' → c' < 2147483647 → Fr h₀ L h' m → News h₀ L h' (g (stO xs i' c' t1' t2' n')) →
      Q (.int v t) { s with heap := h', toks := tk' }) :
    wpAny (model prog w) (ktrTop dp un gd cn cs L a ccd cl outer) (call (.ref 179) [.ref st, .int many tm]) Q E s := by
  by_cases hne : xs = st
  · exfalso
    subst hne
    have q1 := (N _ hx).1
    rw [(N _ (updF_mem U)).1] at q1
    have q2 := congrArg (fun o : Option Obj => o.map Obj.data) q1
    simp only [Option.map_some, Option.some.injEq, Data.seq.injEq] at q2
    have q3 := congrArg (fun a : Array Value => a[0]?) q2.1
    cases hi with
    | nil => cases q3
    | cons _ _ _ => cases q3
  replace hne := neN hne
  have N1 : News h₀ L s.heap ((st, stO xs i c t1 t2 n) :: (xs, listOf vs.toArray n2) :: less st news) := fun p hp => by
    rcases List.mem_cons.mp hp with rfl | hp
    · exact N _ (updF_mem U)
    · rcases List.mem_cons.mp hp with rfl | hp
      · exact N _ hx
      · exact N _ (less_mem.mp hp).1
  clear N hx
  have hr := less_ne (d := st) (l := news)
  generalize hrest : less st news = rest at N1 hr
  have hret' : ∀ (v : Int) (t : Tok) (i' c' : Int) (t1' t2' : Tok) (n' : Nat) (h' : Heap) (tk' : Nat), 0 ≤ v → v < many → 0 ≤ i' → 0 ≤ c' → c' < 2147483647 → Fr h₀ L h' m → News h₀ L h' ((st, stO xs i' c' t1' t2' n') :: (xs, listOf vs.toArray n2) :: rest) →
      Q (.int v t) { s with heap := h', toks := tk' } := by
    intro v t i' c' t1' t2' n' h' tk' b1 b2 b3 b4 b5 F' N'
    refine hret v t i' c' t1' t2' n' h' tk' b1 b2 b3 b4 b5 F' (news_less U fun p hp => N' p ?_)
    rcases List.mem_cons.mp hp with rfl | hp
    · exact .head _
    · rw [hrest] at hp; exact .tail _ (.tail _ hp)
  clear hret U hrest
  refine wpAny_call ?_
  k_dflt cell_enter
  k_steps
  · refine hret' _ _ _ _ _ _ _ _ _ ?_ ?_ ?_ ?_ ?_ (by assumption) (by assumption)
    all_goals first | exact Int.fmod_nonneg_of_pos _ (by omega) | exact Int.fmod_lt_of_pos _ (by omega) | omega
  · refine hret' _ _ _ _ _ _ _ _ _ ?_ ?_ ?_ ?_ ?_ (by assumption) (by assumption)
    all_goals first | exact Int.fmod_nonneg_of_pos _ (by omega) | exact Int.fmod_lt_of_pos _ (by omega) | omega
end Mine
end
section
theorem Mine.offTree : True := by w_top off; trivial
open PySem PySem.W PyProof.Rows PySem.Calls
set_option Elab.async false
set_option maxRecDepth 100000
set_option maxHeartbeats 2000000
set_option linter.unusedSimpArgs false
set_option linter.unusedSectionVars false
set_option linter.unusedVariables false
namespace Mine
/-- a mark at which the walk rests -/
def Rest (P : Prop) : Prop := P
theorem rest {P : Prop} (h : Rest P) : P := h
theorem bInts_inj {b c : Bts} (h : KBw.bInts b = KBw.bInts c) : b = c := by
  unfold KBw.bInts at h
  apply Array.toList_inj.mp
  refine List.map_inj_right (f := fun c : UInt8 => (c.toNat : Int)) (fun x y e => ?_) |>.mp h
  exact UInt8.toNat_inj.mp (Int.ofNat_inj.mp e)
theorem bInts_size (b : Bts) : (KBw.bInts b).length = b.size := KBw.ints_length b
theorem cut_lo {x y : Bts} (hx : x.size = 32) : KBy.picked (x ++ y) none (some 32) = x := by
  apply bInts_inj
  have h := KBc.ints_picked (ks := KBw.bInts x ++ KBw.bInts y) (KBw.ints_app rfl rfl) none (some 32)
  rw [h]
  have : (KBw.bInts x).length = 32 := by rw [bInts_size, hx]
  have hc : clipAt (KBw.bInts x ++ KBw.bInts y).length (32 : Int) = min 32 (KBw.bInts x ++ KBw.bInts y).length := KBc.clip_lit _ 32
  simp only [Option.elim, hc, List.drop_zero, Nat.sub_zero]
  rw [List.length_append, this, Nat.min_eq_left (by omega), List.take_left' this]
theorem cut_hi {x y : Bts} (hx : x.size = 32) : KBy.picked (x ++ y) (some 32) none = y := by
  apply bInts_inj
  have h := KBc.ints_picked (ks := KBw.bInts x ++ KBw.bInts y) (KBw.ints_app rfl rfl) (some 32) none
  rw [h]
  have : (KBw.bInts x).length = 32 := by rw [bInts_size, hx]
  have hc : clipAt (KBw.bInts x ++ KBw.bInts y).length (32 : Int) = min 32 (KBw.bInts x ++ KBw.bInts y).length := KBc.clip_lit _ 32
  simp only [Option.elim, hc]
  rw [List.length_append, this, Nat.min_eq_left (by omega), List.drop_left' this]
  apply List.take_of_length_le
  omega
section
variable {prog : Program} {w : World} {A : Around} {E : Value → Shared → Prop} {s : Shared} {value slice : PySem.Expr} {x y : Bts} {t tu : Tok} {h₀ : Heap} {L : Addr} {m : PySem.Str → Option Value} {news : List (Addr × Obj)} {Q : Value → Shared → Prop}
theorem slice_lo (hF : Fr h₀ L s.heap m) (hN : News h₀ L s.heap news) (hx : x.size = 32) (hy : y.size = 32)
    (h : ∀ h' t' k, Fr h₀ L h' m → News h₀ L h' news → Q (.bytes x t') { s with heap := h', toks := k })
    (hs : subscripted slice false (.bytes (x ++ y) t) (.ref s.heap.objs.size) = operate [.ref s.heap.objs.size, .bytes (x ++ y) t] (getItem (.bytes (x ++ y) t) (.ref s.heap.objs.size)) := by with_unfolding_all rfl)
    (ht : ∀ r, letTemporaryGo value (.bytes (x ++ y) t) r = pure () := by intro _; with_unfolding_all rfl) :
    wpAny (model prog w) A (subscriptTail value slice (.bytes (x ++ y) t) (.ref s.heap.objs.size)) Q E { s with heap := s.heap.push { cls := .type "slice", data := .fields #[.none, .int 32 tu, .none] } } :=
  KBc.slice_K hF hN rfl .none (.int _ _) (by rw [bInts_size, Array.size_append]; omega) (fun h' t' k F' N' _ => by rw [cut_lo hx]; exact h h' t' k F' N') hs ht
theorem slice_hi (hF : Fr h₀ L s.heap m) (hN : News h₀ L s.heap news) (hx : x.size = 32) (hy : y.size = 32)
    (h : ∀ h' t' k, Fr h₀ L h' m → News h₀ L h' news → Q (.bytes y t') { s with heap := h', toks := k })
    (hs : subscripted slice false (.bytes (x ++ y) t) (.ref s.heap.objs.size) = operate [.ref s.heap.objs.size, .bytes (x ++ y) t] (getItem (.bytes (x ++ y) t) (.ref s.heap.objs.size)) := by with_unfolding_all rfl)
    (ht : ∀ r, letTemporaryGo value (.bytes (x ++ y) t) r = pure () := by intro _; with_unfolding_all rfl) :
    wpAny (model prog w) A (subscriptTail value slice (.bytes (x ++ y) t) (.ref s.heap.objs.size)) Q E { s with heap := s.heap.push { cls := .type "slice", data := .fields #[.int 32 tu, .none, .none] } } :=
  KBc.slice_K hF hN rfl (.int _ _) .none (by rw [bInts_size, Array.size_append]; omega) (fun h' t' k F' N' _ => by rw [cut_hi hx]; exact h h' t' k F' N') hs ht
end

section
variable {prog : Program} {w : World} {A : Around} {E : Value → Shared → Prop} {s : Shared} {h₀ : Heap} {L D : Addr} {m : Str → Option Value} {news news' : List (Addr × Obj)}
theorem append_L {vs : List Value} {n : Nat} {x : Value} {Q : Value → Shared → Prop} (F : Fr h₀ L s.heap m) (N : News h₀ L s.heap news) (U : Upd D (listOf vs.toArray n) (listOf (vs ++ [x]).toArray (n + 1)) news news') (hsz : vs.length ≤ 1000000)
    (h : ∀ h', Fr h₀ L h' m → News h₀ L h' news' → Q .none { s with heap := h' }) : wpAny (model prog w) A (call (.builtin "list.append") [.ref D, x]) Q E s :=
  append_K F N (by rw [List.push_toArray]; exact U) h (by rw [List.size_toArray, sizeLine_eq]; omega)
end

theorem bit_of : ∀ q, q < 256 → ∀ j, j < 8 → ((q &&& (128 / 2 ^ j)) = 0 ↔ q / 2 ^ (7 - j) % 2 = 0) := by decide +kernel
theorem bit_and {q j : Nat} (hq : q < 256) (hj : j < 8) : Builtin.bitAnd (0 * 256 + (q : Int)) ((128 / 2 ^ j : Nat) : Int) = 0 ↔ q / 2 ^ (7 - j) % 2 = 0 := by
  rw [Int.zero_mul, Int.zero_add, bitAnd_pp (Int.natCast_nonneg _) (Int.natCast_nonneg _), Int.toNat_natCast, Int.toNat_natCast, ← bit_of q hq j hj]
  omega
theorem anc_step (q j : Nat) (hj : j < 8) : q / 2 ^ (7 - j) = 2 * (q / 2 ^ (8 - j)) + q / 2 ^ (7 - j) % 2 := by
  have : q / 2 ^ (8 - j) = q / 2 ^ (7 - j) / 2 := by
    rw [Nat.div_div_eq_div_mul, ← Nat.pow_succ]; congr 2; omega
  rw [this]; omega
section
variable {M : Model} {A : Around} {E : Value → Shared → Prop} {s : Shared} {h₀ : Heap} {L : Addr} {m : Str → Option Value} {news : List (Addr × Obj)}
theorem newTuple_L {vs : List Value} {Q : Value → Shared → Prop} (F : Fr h₀ L s.heap m) (N : News h₀ L s.heap news)
    (h : ∀ a h', Fr h₀ L h' m → News h₀ L h' ((a, ({ cls := .type "tuple", data := .seq vs.toArray } : Obj)) :: news) → (∀ p ∈ news, p.1 < a) → Q (.ref a) { s with heap := h' }) (hsz : vs.length ≤ sizeLine := by size_fits) :
    wpAny M A (newTuple vs) Q E s := newTuple_N F N (fun h' F' N' => h _ h' F' N' fun p hp => Heap.lt_size (N p hp).1) hsz
end
theorem add_B {prog : Program} {w : World} {A : Around} {E : Value → Shared → Prop} {s : Shared} {x y : Bts} {t u : Tok} {Q : Value → Shared → Prop} (hx : x.size ≤ 1000000) (hy : y.size ≤ 1000000) (h : ∀ t' k, Q (.bytes (x ++ y) t') { s with toks := k }) :
    wpAny (model prog w) A (binaryOp .Add (.bytes x t) (.bytes y u)) Q E s :=
  KBa.add_K (ks := KBw.bInts x) (ls := KBw.bInts y) rfl rfl (by rw [bInts_size, bInts_size]; omega) (fun t' k _ => by first | exact h t' k | exact fun _ => h t' k)
/-! the tree -/
def Ext {K : Type} [DecidableEq K] (D D' : List (K × Bts)) : Prop := ∀ k v, look D k = some v → look D' k = some v
/-- H d q: the hash of the node at depth d whose path has the number q; ℓ: the leaves' texts -/
structure Tree (B : List Bts) (D : List (List UInt8 × Bts)) (ℓ : Nat → Bts) (H : Nat → Nat → Bts) : Prop where
  leaf : ∀ q, q < 256 → look D (H 8 q).toList = some (ℓ q) ∧ Hash B (ℓ q) (H 8 q)
  node : ∀ d, d < 8 → ∀ q, q < 2 ^ d → look D (H d q).toList = some (H (d + 1) (2 * q) ++ H (d + 1) (2 * q + 1)) ∧ Hash B (H (d + 1) (2 * q) ++ H (d + 1) (2 * q + 1)) (H d q)
  back : ∀ k v, look D k = some v → ∃ h : Bts, h.toList = k ∧ Hash B v h
  full : ∀ q, 0 < (ℓ q).size ∧ (ℓ q).size < 60
theorem Tree.size {B : List Bts} {D : List (List UInt8 × Bts)} {ℓ : Nat → Bts} {H : Nat → Nat → Bts} (T : Tree B D ℓ H) {d q : Nat} (hd : d ≤ 8) (hq : q < 2 ^ d) : (H d q).size = 32 := by
  rcases Nat.lt_or_ge d 8 with h | h
  · exact (T.node d h q hq).2.size
  · have : d = 8 := by omega
    subst this
    exact (T.leaf q hq).2.size
def sib (q : Nat) : Nat := if q % 2 = 0 then q + 1 else q - 1
def branchOf (H : Nat → Nat → Bts) (p : Nat) : List Bts := (List.range 8).map fun k => H (k + 1) (sib (p / 2 ^ (7 - k)))
theorem branchOf_len (H : Nat → Nat → Bts) (p : Nat) : (branchOf H p).length = 8 := by simp [branchOf]
inductive BytesAre : List Value → List Bts → Prop
  | nil : BytesAre [] []
  | cons {b : Bts} {tk : Tok} {r : List Value} {s : List Bts} : BytesAre r s → BytesAre (.bytes b tk :: r) (b :: s)
theorem BytesAre.length {vs : List Value} {bs : List Bts} (h : BytesAre vs bs) : vs.length = bs.length := by
  induction h with | nil => rfl | cons _ ih => simp [ih]
theorem BytesAre.append {vs vs' : List Value} {bs bs' : List Bts} (h : BytesAre vs bs) (h' : BytesAre vs' bs') : BytesAre (vs ++ vs') (bs ++ bs') := by
  induction h with | nil => exact h' | cons _ ih => exact .cons ih
theorem BytesAre.get {vs : List Value} {bs : List Bts} (h : BytesAre vs bs) : ∀ (i : Nat) (b : Bts), bs[i]? = some b → ∃ tk : Tok, vs[i]? = some (Value.bytes b tk) := by
  induction h with
  | nil => intro i b e; simp at e
  | @cons b₀ tk r s _ ih =>
    intro i b e
    cases i with
    | zero => exact ⟨tk, by simpa using e⟩
    | succ i => simpa using ih i b (by simpa using e)
abbrev tdObj (P : Params) (k1 k2 k3 k4 k5 k6 v1 v2 v3 v6 : Tok) (hof db : Addr) (root : Bts) : Obj :=
  dictOf [⟨PyData.keyHash P (Str.ofString "_key_size"), .str (Str.ofString "_key_size") k1, .int 1 v1⟩, ⟨PyData.keyHash P (Str.ofString "depth"), .str (Str.ofString "depth") k2, .int 8 v2⟩,
    ⟨PyData.keyHash P (Str.ofString "_default"), .str (Str.ofString "_default") k3, .bytes #[100] v3⟩, ⟨PyData.keyHash P (Str.ofString "hash_of"), .str (Str.ofString "hash_of") k4, .ref hof⟩,
    ⟨PyData.keyHash P (Str.ofString "db"), .str (Str.ofString "db") k5, .ref db⟩, ⟨PyData.keyHash P (Str.ofString "root_hash"), .str (Str.ofString "root_hash") k6, .bytes root v6⟩] 6
def IsTD (P : Params) (o : Obj) (hof db : Addr) (root : Bts) : Prop := ∃ k1 k2 k3 k4 k5 k6 v1 v2 v3 v6, o = tdObj P k1 k2 k3 k4 k5 k6 v1 v2 v3 v6 hof db root
abbrev tupO (vs : List Value) : Obj := { cls := .type "tuple", data := .seq vs.toArray }
end Mine
end
section
local macro_rules | `(tactic| walk_at "zzz") => `(tactic| fail)
local macro_rules | `(tactic| walk_at "zzz") => `(tactic| fail)
local macro_rules | `(tactic| walk_at "zzz") => `(tactic| fail)
local macro_rules | `(tactic| walk_at "zzz") => `(tactic| fail)
local macro_rules | `(tactic| walk_at "zzz") => `(tactic| fail)
local macro_rules | `(tactic| walk_at "zzz") => `(tactic| fail)
local macro_rules | `(tactic| walk_at "zzz") => `(tactic| fail)
local macro_rules | `(tactic| walk_at "zzz") => `(tactic| fail)
local macro_rules | `(tactic| walk_at "zzz") => `(tactic| fail)
local macro_rules | `(tactic| walk_at "zzz") => `(tactic| fail)
local macro_rules | `(tactic| walk_at "zzz") => `(tactic| fail)
local macro_rules | `(tactic| walk_at "zzz") => `(tactic| fail)
local macro_rules | `(tactic| walk_at "zzz") => `(tactic| fail)
local macro_rules | `(tactic| walk_at "zzz") => `(tactic| fail)
local macro_rules | `(tactic| walk_at "zzz") => `(tactic| fail)
local macro_rules | `(tactic| walk_at "zzz") => `(tactic| fail)
local macro_rules | `(tactic| walk_at "zzz") => `(tactic| fail)
local macro_rules | `(tactic| walk_at "zzz") => `(tactic| fail)
local macro_rules | `(tactic| walk_at "zzz") => `(tactic| fail)
local macro_rules | `(tactic| walk_at "zzz") => `(tactic| fail)
local macro_rules | `(tactic| walk_at "zzz") => `(tactic| fail)
local macro_rules | `(tactic| walk_at "zzz") => `(tactic| fail)
local macro_rules | `(tactic| walk_at "zzz") => `(tactic| fail)
local macro_rules | `(tactic| walk_at "zzz") => `(tactic| fail)
local macro_rules | `(tactic| walk_at "zzz") => `(tactic| fail)
local macro_rules | `(tactic| walk_at "zzz") => `(tactic| fail)
local macro_rules | `(tactic| walk_at "zzz") => `(tactic| fail)
local macro_rules | `(tactic| walk_at "zzz") => `(tactic| fail)
local macro_rules | `(tactic| walk_at "zzz") => `(tactic| fail)
local macro_rules | `(tactic| walk_at "zzz") => `(tactic| fail)
local macro_rules | `(tactic| walk_at "zzz") => `(tactic| fail)
local macro_rules | `(tactic| walk_at "zzz") => `(tactic| fail)
local macro_rules | `(tactic| walk_at "zzz") => `(tactic| fail)
local macro_rules | `(tactic| walk_at "zzz") => `(tactic| fail)
local macro_rules | `(tactic| walk_at "zzz") => `(tactic| fail)
local macro_rules | `(tactic| walk_at "zzz") => `(tactic| fail)
local macro_rules | `(tactic| walk_at "zzz") => `(tactic| fail)
local macro_rules | `(tactic| walk_at "zzz") => `(tactic| fail)
local macro_rules | `(tactic| walk_at "zzz") => `(tactic| fail)
local macro_rules | `(tactic| walk_at "zzz") => `(tactic| fail)
local macro_rules | `(tactic| walk_at "zzz") => `(tactic| fail)
local macro_rules | `(tactic| walk_at "zzz") => `(tactic| fail)
local macro_rules | `(tactic| walk_at "zzz") => `(tactic| fail)
local macro_rules | `(tactic| walk_at "zzz") => `(tactic| fail)
local macro_rules | `(tactic| walk_at "zzz") => `(tactic| fail)
local macro_rules | `(tactic| walk_at "zzz") => `(tactic| fail)
local macro_rules | `(tactic| walk_at "zzz") => `(tactic| fail)
local macro_rules | `(tactic| walk_at "zzz") => `(tactic| fail)
local macro_rules | `(tactic| walk_at "zzz") => `(tactic| fail)
local macro_rules | `(tactic| walk_at "zzz") => `(tactic| fail)
local macro_rules | `(tactic| walk_at "zzz") => `(tactic| fail)
local macro_rules | `(tactic| walk_at "zzz") => `(tactic| fail)
local macro_rules | `(tactic| walk_at "zzz") => `(tactic| fail)
local macro_rules | `(tactic| walk_at "zzz") => `(tactic| fail)
local macro_rules | `(tactic| walk_at "zzz") => `(tactic| fail)
local macro_rules | `(tactic| walk_at "zzz") => `(tactic| fail)
local macro_rules | `(tactic| walk_at "zzz") => `(tactic| fail)
local macro_rules | `(tactic| walk_at "zzz") => `(tactic| fail)
local macro_rules | `(tactic| walk_at "zzz") => `(tactic| fail)
local macro_rules | `(tactic| walk_at "zzz") => `(tactic| fail)
local macro_rules | `(tactic| walk_at "zzz") => `(tactic| fail)
local macro_rules | `(tactic| walk_at "zzz") => `(tactic| fail)
local macro_rules | `(tactic| walk_at "zzz") => `(tactic| fail)
local macro_rules | `(tactic| walk_at "zzz") => `(tactic| fail)
local macro_rules | `(tactic| walk_at "zzz") => `(tactic| fail)
local macro_rules | `(tactic| walk_at "zzz") => `(tactic| fail)
local macro_rules | `(tactic| walk_at "zzz") => `(tactic| fail)
local macro_rules | `(tactic| walk_at "zzz") => `(tactic| fail)
local macro_rules | `(tactic| walk_at "zzz") => `(tactic| fail)
local macro_rules | `(tactic| walk_at "zzz") => `(tactic| fail)
local macro_rules | `(tactic| walk_at "zzz") => `(tactic| fail)
local macro_rules | `(tactic| walk_at "zzz") => `(tactic| fail)
local macro_rules | `(tactic| walk_at "zzz") => `(tactic| fail)
local macro_rules | `(tactic| walk_at "zzz") => `(tactic| fail)
local macro_rules | `(tactic| walk_at "zzz") => `(tactic| fail)
local macro_rules | `(tactic| walk_at "zzz") => `(tactic| fail)
local macro_rules | `(tactic| walk_at "zzz") => `(tactic| fail)
local macro_rules | `(tactic| walk_at "zzz") => `(tactic| fail)
local macro_rules | `(tactic| walk_at "zzz") => `(tactic| fail)
local macro_rules | `(tactic| walk_at "zzz") => `(tactic| fail)
open PySem PySem.W PyProof.Rows PySem.Calls
set_option Elab.async false
set_option maxRecDepth 100000
set_option maxHeartbeats 4000000
set_option linter.unusedSimpArgs false
set_option linter.unusedSectionVars false
set_option linter.unusedVariables false
theorem Mine.fillK3 : (fun (_ : OpenLaw) (_ : Params → Frag) => True) PySem.Challenge.rw_bs0043_01 Mine.hd.heap_39 := by w_top off; k_fill; trivial
namespace Mine
local macro_rules | `(tactic| k_all) => `(tactic| assumption)
local macro_rules | `(tactic| k_mem) => `(tactic| first | assumption | exact List.Mem.tail _ (List.mem_append_left _ (by assumption)))
local macro_rules | `(tactic| k_room) => `(tactic| ((try simp only [depth_under_make, depth_under_kw, depth_in1, depth_deeper, depth_caller]); (try dsimp only [ktrTop]); omega))
local macro_rules | `(tactic| k_units) => `(tactic| ((have hcL9 := cLine_is); (try simp only [units_in1, units_deeper, Around.mark_units, units_caller]); (try dsimp only [ktrTop]); omega))
local macro_rules | `(tactic| walk_at "pyIter ref") => `(tactic| refine rest ?_)
theorem bk_is (prog : Program) (w : World) (b : Bts) (t : Tok) : (bytesKind prog w).is b.toList (.bytes b t) = true := by simp [bytesKind, isBytes]
theorem news_sub {h₀ h : Heap} {L : Addr} {l l' : List (Addr × Obj)} (N : News h₀ L h l) (hs : ∀ p ∈ l', p ∈ l) : News h₀ L h l' := fun p hp => N p (hs p hp)
theorem branch_take {H : Nat → Nat → Bts} {q j : Nat} (hj : j < 8) : (branchOf H q).take (j + 1) = (branchOf H q).take j ++ [H (j + 1) (sib (q / 2 ^ (7 - j)))] := by
  have hl : j < (branchOf H q).length := by rw [branchOf_len]; exact hj
  rw [List.take_add_one, List.getElem?_eq_getElem hl]
  simp [branchOf]

section
variable {prog : Program} {w : World} {A : Around} {E : Value → Shared → Prop} {s : Shared} {env : Env} {h₀ : Heap} {x : Str} {body : List Stmt} {Q : Flow → Shared → Prop}
abbrev getJ : Type := Nat × List Value × Nat × Tok × Tok
abbrev getLed (l' : Addr) (news : List (Addr × Obj)) (c : getJ) : List (Addr × Obj) := (l', listOf c.2.1.toArray c.2.2.1) :: news
abbrev getPs (H : Nat → Nat → Bts) (q : Nat) (c : getJ) : List (Str × Value) := [(Str.ofString "node_hash", .bytes (H c.1 (q / 2 ^ (8 - c.1))) c.2.2.2.1), (Str.ofString "target_bit", .int ((128 / 2 ^ c.1 : Nat) : Int) c.2.2.2.2)]
abbrev getP (H : Nat → Nat → Bts) (q : Nat) (pre : List Int) (c : getJ) : Prop := c.1 = pre.length ∧ BytesAre c.2.1 ((branchOf H q).take c.1)
theorem get_loop {l' r x' : Addr} {ox : Obj} {n0 : Nat} {news : List (Addr × Obj)} {t u v v6 tt : Tok} {m₀ : Str → Option Value} {H : Nat → Nat → Bts} {q : Nat}
    (hh : A.handled = none) (hr : IsRange s.heap r 0 8 1 t u v) (F : Fr h₀ env.locals s.heap m₀) (N : News h₀ env.locals s.heap ((x', ox) :: (l', listOf #[] n0) :: news)) (hl : ∀ p ∈ news, p.1 < l')
    (hq : q < 256) (hnh : m₀ (Str.ofString "node_hash") = some (.bytes (H 0 0) v6)) (htb : m₀ (Str.ofString "target_bit") = some (.int 128 tt))
    (turn : ∀ (j : Nat) (vs : List Value) (nn : Nat) (t1 t2 kt : Tok) (u : Str → Option Value) (h : Heap) (tk : Nat) (own : List (Addr × Obj)) (pre : List Int) (k : Int), j < 8 → j = pre.length → k = (j : Int) → BytesAre vs ((branchOf H q).take j) → (∀ p ∈ own, p.1 ≠ l') →
      Fr h₀ env.locals h (fun y => if y = x then some (.int k kt) else kstB (fun z => if [Str.ofString "node", Str.ofString "left", Str.ofString "right"].contains z then u z else m₀ z) (getPs H q (j, vs, nn, t1, t2)) y) →
      News h₀ env.locals h ((l', listOf vs.toArray nn) :: (news ++ own)) →
      wpAny (model prog w) A (execs body env) (InvPostN h₀ env.locals (KstS (getLed l' news) (getPs H q) (fun _ => True) x [Str.ofString "node", Str.ofString "left", Str.ofString "right"] m₀ (getP H q) (pre ++ [k])) own (l' :: news.map (·.1)) { s with heap := h, toks := tk } Q) E { s with heap := h, toks := tk })
    (done : ∀ (vs : List Value) (nn : Nat) (t1 t2 : Tok) (u : Str → Option Value) (h : Heap) (tk : Nat), BytesAre vs (branchOf H q) →
      Fr h₀ env.locals h (fun y => if y = x then u y else kstB (fun z => if [Str.ofString "node", Str.ofString "left", Str.ofString "right"].contains z then u z else m₀ z) [(Str.ofString "node_hash", .bytes (H 8 q) t1), (Str.ofString "target_bit", .int 0 t2)] y) →
      News h₀ env.locals h ((l', listOf vs.toArray nn) :: news) → Q .next { s with heap := h, toks := tk }) :
    wpAny (model prog w) A (pyIter (.ref r)) (fun it s₂ => LoopAtV prog w A h₀ env x body Q E it s₂) E s := by
  refine kst_range (n := 8) (getLed l' news) (getPs H q) (fun _ => True) [Str.ofString "node", Str.ofString "left", Str.ofString "right"] (getP H q) (0, [], n0, v6, tt) hh hr (by decide) (by decide) F (fun p hp => N p (.tail _ hp)) trivial ?_ ⟨rfl, .nil⟩ ?_ ?_
  · intro p hp
    rcases List.mem_cons.mp hp with rfl | hp
    · have : q / 2 ^ (8 - 0) = 0 := Nat.div_eq_of_lt hq
      rw [hnh, this]
    · rcases List.mem_cons.mp hp with rfl | hp
      · show m₀ (Str.ofString "target_bit") = some (.int ((128 / 2 ^ 0 : Nat) : Int) tt)
        rw [htb]; rfl
      · cases hp
  · rintro ⟨j, vs, nn, t1, t2⟩ pre k kt u h tk own hk hlt hoff _ ⟨hj, hb⟩ F' N'
    simp only at hj hb
    subst hj
    refine turn _ vs nn t1 t2 kt u h tk own pre k hlt rfl (by omega) hb (fun p hp => hoff p hp l' (.head _)) F' (fun p hp => N' p ?_)
    simpa using hp
  · rintro ⟨j, vs, nn, t1, t2⟩ u h tk _ ⟨hj, hb⟩ F' N'
    simp only [rangeKs_length] at hj hb
    subst hj
    rw [List.take_of_length_le (by rw [branchOf_len]; omega)] at hb
    refine done vs nn t1 t2 u h tk hb ?_ N'
    have e1 : q / 2 ^ (8 - 8) = q := Nat.div_one q
    simp only [getPs, e1] at F'
    exact F'
end
theorem shr_one (a : Nat) : ((a : Nat) : Int).fdiv (2 ^ Int.toNat 1) = ((a / 2 : Nat) : Int) := by
  have e : (2 : Int) ^ Int.toNat 1 = 2 := by decide
  rw [e]
  simp only [Int.fdiv_eq_ediv]
  simp
theorem get_end {l' tp L : Addr} {ot : Obj} {news own : List (Addr × Obj)} {m₀ m' : Str → Option Value} {H : Nat → Nat → Bts} {q j nn : Nat} {vs : List Value} {b X : Bts} {t tx tz : Tok} {z k : Int} {pre : List Int} {h₀ h' : Heap} {s₁ : Shared} {tk : Nat} {x : Str}
    (F : Fr h₀ L h' m') (N : News h₀ L h' ((tp, ot) :: (l', listOf (vs ++ [Value.bytes b t]).toArray (nn + 1)) :: (news ++ own))) (hj : j < 8) (hpre : j = pre.length) (hvs : BytesAre vs ((branchOf H q).take j))
    (h1 : m' (Str.ofString "node_hash") = some (.bytes X tx)) (h2 : m' (Str.ofString "target_bit") = some (.int z tz)) (hX : X = H (j + 1) (q / 2 ^ (7 - j))) (hz : z = ((128 / 2 ^ j : Nat) : Int).fdiv (2 ^ Int.toNat 1)) (hb : b = H (j + 1) (sib (q / 2 ^ (7 - j))))
    (hsame : ∀ z, z ≠ x → (∀ p ∈ getPs H q (j + 1, vs ++ [Value.bytes b t], nn + 1, tx, tz), z ≠ p.1) → [Str.ofString "node", Str.ofString "left", Str.ofString "right"].contains z = false → m' z = m₀ z) :
    InvEndN h₀ L (KstS (getLed l' news) (getPs H q) (fun _ => True) x [Str.ofString "node", Str.ofString "left", Str.ofString "right"] m₀ (getP H q) (pre ++ [k])) own (l' :: news.map (·.1)) s₁ { s₁ with heap := h', toks := tk } := by
  refine kst_end (j + 1, vs ++ [Value.bytes b t], nn + 1, tx, tz) F N ?_ ?_ rfl trivial ?_ hsame ?_
  · intro p hp
    rcases List.mem_cons.mp hp with rfl | hp
    · exact .tail _ (.head _)
    · exact .tail _ (.tail _ (List.mem_append_left _ hp))
  · intro p hp
    exact .tail _ (.tail _ (List.mem_append_right _ hp))
  · intro p hp
    rcases List.mem_cons.mp hp with rfl | hp
    · show m' (Str.ofString "node_hash") = some (.bytes (H (j + 1) (q / 2 ^ (8 - (j + 1)))) tx)
      rw [h1, hX, show 8 - (j + 1) = 7 - j by omega]
    · rcases List.mem_cons.mp hp with rfl | hp
      · show m' (Str.ofString "target_bit") = some (.int ((128 / 2 ^ (j + 1) : Nat) : Int) tz)
        rw [h2, hz, shr_one, Nat.div_div_eq_div_mul, ← Nat.pow_succ]
      · cases hp
  · refine ⟨by simp [hpre], ?_⟩
    show BytesAre (vs ++ [Value.bytes b t]) ((branchOf H q).take (j + 1))
    rw [branch_take hj, hb]
    exact hvs.append (.cons .nil)
theorem get_ret {D1 D2 l' L : Addr} {ol : Obj} {news : List (Addr × Obj)} {vs : List Value} {bs : List Bts} {X : Bts} {t : Tok} {h₀ h' : Heap} {m : Str → Option Value} {s : Shared} {tk : Nat} {Q : Value → Shared → Prop} (hvs : BytesAre vs bs)
    (F : Fr h₀ L h' m) (N : News h₀ L h' ((D2, tupO [.bytes X t, .ref D1]) :: (D1, tupO vs.toArray.toList) :: (l', ol) :: news)) (h1 : ∀ p ∈ (l', ol) :: news, p.1 < D1) (h2 : D1 < D2)
    (hret : ∀ (r tp : Addr) (t0 : Tok) (vs : List Value) (h' : Heap) (tk' : Nat), BytesAre vs bs → Fr h₀ L h' m → News h₀ L h' ((r, tupO [.bytes X t0, .ref tp]) :: (tp, tupO vs) :: news) → (∀ q ∈ news, q.1 < tp) → tp < r → Q (.ref r) { s with heap := h', toks := tk' }) :
    Q (.ref D2) { s with heap := h', toks := tk } :=
  hret D2 D1 t vs h' tk hvs F (fun p hp => N p (by
    rcases List.mem_cons.mp hp with rfl | hp
    · exact .head _
    · rcases List.mem_cons.mp hp with rfl | hp
      · exact .tail _ (.head _)
      · exact .tail _ (.tail _ (.tail _ hp)))) (fun p hp => h1 p (.tail _ hp)) h2
local macro_rules | `(tactic| walk_at "call builtin:list.append") => `(tactic| (k_here; k_dflt (refine' append_L ?F ?N ?U ?z ?_; (case F => k_asm); (case N => k_asm); (case U => k_upd); (case z => assumption); k_whole); intro h' F' N'; (try k_sweep)))
local macro_rules | `(tactic| walk_at "InvEndN") => `(tactic| refine rest ?_)
local macro_rules | `(tactic| walk_at "subscriptTail") => `(tactic| (k_here; (with_reducible show wpAny _ _ (subscriptTail _ _ (Value.ref _) (Value.bytes _ _)) _ _ _); k_dflt (refine' db_item (knd := bytesKind _ _) ?N ?p ?d ?k ?l ?_; (case N => k_asm); (case p => k_mem); (case d => assumption); (case k => exact bk_is _ _ _ _); (case l => assumption); k_whole); intro _))
local macro_rules | `(tactic| walk_at "subscriptTail") => `(tactic| (k_here; (with_reducible show wpAny _ _ (subscriptTail _ (Expr.Slice _ _ none _) (Value.bytes _ _) (Value.ref _)) _ _ _); (with_reducible rename Fr _ _ _ _ => F'); (with_reducible rename News _ _ _ _ => N'); (first | refine slice_lo (s := ⟨_, _, _, _, _⟩) F' N' (by assumption) (by assumption) ?_ | refine slice_hi (s := ⟨_, _, _, _, _⟩) F' N' (by assumption) (by assumption) ?_); intro _ _ _ _ _))
local macro_rules | `(tactic| walk_at "call type:tuple") => `(tactic| (k_here; k_dflt (refine' kde_tupleOf ?k1 ?k2 ?k3 ?k4 ?k5 ?_; (case k1 => k_asm); (case k2 => k_asm); (case k3 => exact News.isList (by k_asm) (by k_mem)); (case k4 => (rw [List.size_toArray]; assumption)); (case k5 => rfl); k_whole); intro D' h' F' N' l1; (try k_sweep)))
local macro_rules | `(tactic| walk_at "newTuple") => `(tactic| (k_here; k_dflt (refine' newTuple_L ?F ?N ?_ ?z; (case F => k_asm); (case N => k_asm); (case z => size_fits); k_whole); intro D' h' F' N' l1; (try k_lt l1); (try k_sweep)))
theorem getI_ok {prog : Program} {w : World} {p : Program} {loose : List Str} {mean : ExcName → Option Value} {mg mb : Str → Option Value}
    (dp un : Nat) (gd : Option (List Code)) (cn : Str) (cs : Scope) (a : Addr) (ccd : Value) (cl : List (Str × Addr)) (outer : List Env) (A₀ : Around) (base h₀ : Heap) (L : Addr) (m : Str → Option Value) (s : Shared) (Q E : Value → Shared → Prop)
    {news : List (Addr × Obj)} {tr td db hof : Addr} {od otd : Obj} {root key : Bts} {tkk : Tok} {q : Nat} {B : List Bts} {D : List (List UInt8 × Bts)} {ℓ : Nat → Bts} {H : Nat → Nat → Bts}
    (Bl : Below A₀ base outer h₀) (F : Fr h₀ L s.heap m) (X : (Mine.hd.heap_39 w.params).In h₀) (N : News h₀ L s.heap news) (T : Top p loose mean mg mb h₀) (hk : cs.kind = .function) (hd : dp + 3 < recursionLimit) (hu : un + 18 < cLine)
    (mt : (tr, instObj 168 td) ∈ news) (md : (td, otd) ∈ news) (mdb : (db, od) ∈ news) (hT : IsTD w.params otd hof db root) (hD : DB (bytesKind prog w) od D) (Tr : Tree B D ℓ H) (hroot : root = H 0 0) (hq : q < 256) (hkey : KBw.bInts key = [(q : Int)])
    (hret : ∀ (r tp : Addr) (t0 : Tok) (vs : List Value) (h' : Heap) (tk' : Nat), BytesAre vs (branchOf H q) → Fr h₀ L h' m → News h₀ L h' ((r, tupO [.bytes (ℓ q) t0, .ref tp]) :: (tp, tupO vs) :: news) → (∀ q ∈ news, q.1 < tp) → tp < r → Q (.ref r) { s with heap := h', toks := tk' }) :
    wpAny (model prog w) (ktrTop dp un gd cn cs L a ccd cl outer) (call (.ref 116) [.ref tr, .bytes key tkk]) Q E s := by
  obtain ⟨k1, k2, k3, k4, k5, k6, v1, v2, v3, v6, rfl⟩ := hT
  subst hroot
  refine wpAny_call ?_
  k_dflt cell_enter
  k_steps
  show wpAny _ _ _ _ _ _
  refine get_loop rfl (by assumption) (by assumption) (by assumption) (by assumption) hq rfl rfl ?_ ?_
  · intro j vs nn t1 t2 kt u h tk own pre k hj hpre hkj hvs hown F1 N1
    have hq' : q / 2 ^ (8 - j) < 2 ^ j := by
      rw [Nat.div_lt_iff_lt_mul (Nat.pow_pos (by decide)), ← Nat.pow_add]
      rw [show j + (8 - j) = 8 by omega]; exact hq
    have hnode := (Tr.node j hj (q / 2 ^ (8 - j)) hq').1
    have s1 := Tr.size (d := j + 1) (q := 2 * (q / 2 ^ (8 - j))) (by omega) (by rw [Nat.pow_succ]; omega)
    have s2 := Tr.size (d := j + 1) (q := 2 * (q / 2 ^ (8 - j)) + 1) (by omega) (by rw [Nat.pow_succ]; omega)
    have hvl : vs.length ≤ 1000000 := by rw [hvs.length, List.length_take]; omega
    have hoff : ∀ p ∈ news ++ own, p.1 ≠ _ := fun p hp => by
      rcases List.mem_append.mp hp with hp | hp
      · exact Nat.ne_of_lt ((by assumption : ∀ p ∈ news, p.1 < _) p hp)
      · exact hown p hp
    dsimp only [kstB, getPs] at F1
    k_steps
    · have hb2 : q / 2 ^ (7 - j) % 2 = 1 := by
        rcases Nat.mod_two_eq_zero_or_one (q / 2 ^ (7 - j)) with e | e
        · exact absurd ((bit_and hq hj).mpr e) (by assumption)
        · exact e
      have hst := anc_step q j hj
      refine get_end (by assumption) (by assumption) hj hpre hvs rfl rfl ?_ rfl ?_ ?_
      · rw [hst, hb2]
      · rw [sib, hst, hb2]
        have : ¬ (2 * (q / 2 ^ (8 - j)) + 1) % 2 = 0 := by omega
        rw [if_neg this]; rfl
      · kst_same
    · have hb2 : q / 2 ^ (7 - j) % 2 = 0 := (bit_and hq hj).mp (by assumption)
      have hst := anc_step q j hj
      refine get_end (by assumption) (by assumption) hj hpre hvs rfl rfl ?_ rfl ?_ ?_
      · rw [hst, hb2]; rfl
      · rw [sib, hst, hb2]
        have : (2 * (q / 2 ^ (8 - j)) + 0) % 2 = 0 := by omega
        rw [if_pos this]
      · kst_same
  · intro vs nn t1 t2 u h tk hvs F1 N1
    dsimp only [kstB] at F1
    have hleaf := (Tr.leaf q hq).1
    have hvl : vs.length ≤ 16384 := by rw [hvs.length, branchOf_len]; decide
    k_steps
    exact get_ret hvs (by assumption) (by assumption) (by assumption) (ltN (by omega)) hret
end Mine
end
section
theorem Mine.offRev : True := by w_top off; trivial
open PySem PySem.W PyProof.Rows PySem.Calls
set_option Elab.async false
set_option maxRecDepth 100000
set_option maxHeartbeats 2000000
set_option linter.unusedSimpArgs false
set_option linter.unusedSectionVars false
set_option linter.unusedVariables false
namespace Mine
open PySem
/-! reversed(t) of a tuple -/
theorem rv_owner : Manifest.owners.lookup (String.ofList ['d', 'e', 's', 'r', 'e', 'v', 'e', 'r'].reverse) = some Manifest.sig_reversed := by kernel_rfl
theorem rv_slot_next : Slot "reversed" "__next__" "reversed.__next__" :=
  .of (owner := "reversed") (n := "__next__") (by rw [typeLookup_type, builtinLookup_eq_fast]; kernel_rfl) (by decide +kernel) (by decide +kernel) (by decide +kernel)
    (by first | exact .inl (by decide +kernel) | exact .inr (by decide +kernel)) (by rw [isSubtype_type]; kernel_rfl)
theorem rv_entry_next : entryFor table "reversed.__next__" = some Builtin.«reversed.__next__» := entryFor_of_tree (by kernel_rfl)
theorem rv_args_next (a : Value) : argsOk "reversed.__next__" ⟨[a], []⟩ := by
  unfold argsOk; rw [signature?_of (id := "reversed.__next__") (n := ['_', '_', 't', 'x', 'e', 'n', '_', '_']) (o := ['d', 'e', 's', 'r', 'e', 'v', 'e', 'r']) (by kernel_rfl) rv_owner]; kernel_rfl
theorem rv_slot_iter : Slot "reversed" "__iter__" "reversed.__iter__" :=
  .of (owner := "reversed") (n := "__iter__") (by rw [typeLookup_type, builtinLookup_eq_fast]; kernel_rfl) (by decide +kernel) (by decide +kernel) (by decide +kernel)
    (by first | exact .inl (by decide +kernel) | exact .inr (by decide +kernel)) (by rw [isSubtype_type]; kernel_rfl)
theorem rv_args_iter (a : Value) : argsOk "reversed.__iter__" ⟨[a], []⟩ := by
  unfold argsOk; rw [signature?_of (id := "reversed.__iter__") (n := ['_', '_', 'r', 'e', 't', 'i', '_', '_']) (o := ['d', 'e', 's', 'r', 'e', 'v', 'e', 'r']) (by kernel_rfl) rv_owner]; kernel_rfl
theorem rv_entry_iter : entryFor table "reversed.__iter__" = some Builtin.«dict_keyiterator.__iter__» :=
  entryFor_alias (id' := "dict_keyiterator.__iter__") (by kernel_rfl) (by first | rfl | decide +kernel | (unfold String.splitOn; simp +decide [String.splitOnAux])) (by decide +kernel) (by kernel_rfl)
theorem rv_slot_init : Slot "reversed" "__init__" "object.__init__" :=
  .of (owner := "object") (n := "__init__") (by rw [typeLookup_type, builtinLookup_eq_fast]; kernel_rfl) (by decide +kernel) (by decide +kernel) (by decide +kernel)
    (by first | exact .inl (by decide +kernel) | exact .inr (by decide +kernel)) (by rw [isSubtype_type]; kernel_rfl)
theorem rv_called : TypeCalled "reversed" "reversed.__new__" "object.__init__" :=
  ⟨by decide +kernel, PySem.F.create_reversed, ⟨_, _, PySem.F.mro_reversed⟩, PySem.F.made_reversed, by decide +kernel, PySem.F.sub_reversed_self, rv_slot_init⟩
theorem rv_norev : typeLookup (.type "tuple") "__reversed__" = pure none := by rw [typeLookup_type, builtinLookup_eq_fast]; kernel_rfl

def rvObj (l : Addr) (i : Int) : Obj := { cls := .type "reversed", data := .fields #[.ref l, rawInt i] }
def IsRv (h : Heap) (a l : Addr) (i : Int) : Prop := ∃ o, h.get? a = some o ∧ o.cls = .type "reversed" ∧ o.data = .fields #[.ref l, rawInt i]
section
variable {prog : Program} {w : World} {A : Around} {E : Value → Shared → Prop} {s : Shared}
theorem IsRv.typeIs {a l : Addr} {i : Int} (x : IsRv s.heap a l i) : s.TypeIs (.ref a) "reversed" := let ⟨o, ho, hc, _⟩ := x; ⟨o, ho, hc⟩
theorem IsRv.at {h h' : Heap} {a l : Addr} {i : Int} (x : IsRv h a l i) (e : ∀ o, h.get? a = some o → h'.get? a = some o) : IsRv h' a l i := let ⟨o, ho, r⟩ := x; ⟨o, e _ ho, r⟩

theorem rv_code {l : Addr} {items : Array Value} {Q₁ : Value → Shared → Prop} (hl : IsTup s.heap l items) (hfit : (items.size : Int) < 2 ^ 63)
    (h : ∀ tk, Q₁ (.ref s.heap.objs.size) { s with heap := s.heap.push (rvObj l ((items.size : Int) - 1)), toks := tk }) :
    codeAny (model prog w) A (.call (.builtin "reversed.__new__") ⟨[.type "reversed", .ref l], []⟩) (wants Q₁ E) s := by
  have hT : s.TypeIs (.ref l) "tuple" := hl.typeIs
  refine codeAny_of_tree ?_
  show wpAny _ A.in1 (do checkBuiltinCall "reversed.__new__" ⟨[.type "reversed", .ref l], []⟩; again (.builtin "reversed.__new__" ⟨[.type "reversed", .ref l], []⟩)) _ _ s
  refine wpAny_bind (wpAny_of_eq (PySem.F.newCall_reversed_1 _) (wpAny_pure ⟨plainId_quiet PySem.F.plain_reversed_new _, codeAny_builtin PySem.F.entry_reversed_new ?_⟩))
  rw [Around.under_plainId PySem.F.plain_reversed_new _]
  unfold Builtin.«reversed.__new__»
  refine wpAny_bind (wpAny_of_eq (newClass_reversed _) ?_)
  try dsimp only
  refine wpAny_bind (wpAny_of_eq (a := ()) (by first | rfl | kernel_rfl) ?_)
  refine wpAny_bind (wpAny_of_eq (a := ()) (by first | rfl | kernel_rfl) ?_)
  try dsimp only
  refine wpAny_bind (wpAny_specialOf hT rv_norev ?_)
  try dsimp only
  refine wpAny_bind ?_
  show wpAny _ _ (isInstance (.ref l) (.type "dict") >>= _) _ _ s
  refine wpAny_bind (wpAny_isInstance (b := false) hT PySem.F.sub_tuple_dict ?_)
  simp only [Bool.false_eq_true, if_false]
  refine wpAny_bind (wpAny_specialOf hT PySem.F.slot_tuple_getitem.lookup ?_)
  dsimp only
  rw [if_pos (by decide)]
  refine wpAny_pure ?_
  simp only [Bool.not_true, Bool.false_eq_true, if_false]
  refine wpAny_bind (len_tuple hl hfit ?_)
  refine wpAny_bind (wpAny_of_eq (a := some (items.size : Int)) rfl ?_)
  try dsimp only
  refine wpAny_bind (m := newObj (.type "reversed") (.fields #[.ref l, rawInt ((items.size : Int) - 1)])) (wpAny_newObj_type (wpAny_pure ?_))
  exact h _
theorem rv_call {l : Addr} {items : Array Value} {Q : Value → Shared → Prop} (hl : IsTup s.heap l items) (hfit : (items.size : Int) < 2 ^ 63)
    (h : ∀ tk, Q (.ref s.heap.objs.size) { s with heap := s.heap.push (rvObj l ((items.size : Int) - 1)), toks := tk }) : wpAny (model prog w) A (call (.type "reversed") [.ref l]) Q E s := by
  refine callType_codes (Q₁ := fun obj s₁ => s₁.TypeIs obj "reversed" ∧ Q obj s₁) rv_called (PySem.F.typeCall_reversed_1 _) PySem.F.entry_object_init
    (rv_code hl hfit fun tk => ⟨⟨_, Heap.get?_push_size _ rfl, rfl⟩, h tk⟩) fun obj s₁ h₁ => ?_
  exact ⟨h₁.1, PySem.F.args_object_init_2 obj _, object_init_meets rv_called.init.lookup rv_called.made (by decide) prog w A.in1 _ s₁ ⟨h₁.1, rfl, h₁.2⟩⟩
theorem rv_next {it l : Addr} {i : Nat} {items : Array Value} {x : Value} {Q : Option Value → Shared → Prop} (hit : IsRv s.heap it l (i : Int)) (hl : IsTup s.heap l items) (hx : items[i]? = some x) (hfit : (items.size : Int) < 2 ^ 62)
    (hQ : ∀ h' tk, IsRv h' it l ((i : Int) - 1) → Heap.SameBut it s.heap h' → Q (some x) { s with heap := h', toks := tk }) : wpAny (model prog w) A (pyNext (.ref it)) Q E s := by
  obtain ⟨o, ho, hc, hd⟩ := id hit
  have hT : s.TypeIs (.ref l) "tuple" := hl.typeIs
  have hlt : i < items.size := (Array.getElem?_eq_some_iff.mp hx).1
  unfold pyNext
  refine wpAny_bind (wpAny_attempt (wpAny_callSpecial?_slot (name := Str.ofString "__next__") hit.typeIs rv_slot_next
    (wpAny_call_entry rv_slot_next hit.typeIs rv_entry_next ?_ (rv_args_next _))))
  unfold Builtin.«reversed.__next__»
  refine wpAny_bind (wpAny_of_eq (a := (Value.ref it, [])) rfl ?_)
  try dsimp only
  refine wpAny_bind (wpAny_field ho hd (x := .ref l) rfl ?_)
  refine wpAny_bind (wpAny_field ho hd (x := rawInt (i : Int)) rfl ?_)
  show wpAny _ _ (if (i : Int) < 0 then _ else _) _ _ s
  rw [if_neg (by omega)]
  show wpAny _ _ (specialOf (.ref l) (Str.ofString "__getitem__") >>= _) _ _ s
  refine wpAny_bind (wpAny_specialOf hT PySem.F.slot_tuple_getitem.lookup ?_)
  simp only [Option.isNone_some, Bool.false_eq_true, if_false]
  refine wpAny_bind (wpAny_mkInt ?_)
  have hg : seqIndex? (i : Int) items.size = some i := by
    have : ¬ (i : Int) < 0 := by omega
    simp [seqIndex?, this, hlt]
  refine wpAny_bind (wpAny_attempt (getItem_tuple (s := { s with toks := s.toks + 1 }) hl (by omega) (by omega) hg hx ?_))
  dsimp only
  refine wpAny_bind (wpAny_field (s := { s with toks := s.toks + 1 }) ho hd (x := rawInt (i : Int)) rfl ?_)
  show wpAny _ _ (setField (.ref it) 1 (rawInt ((i : Int) - 1)) >>= _) _ _ _
  refine wpAny_bind (wpAny_setField (s := { s with toks := s.toks + 1 }) ho hd (by simp) ?_)
  refine wpAny_pure ⟨x, rfl, wpAny_pure (hQ _ _ ?_ (Heap.SameBut.update ..))⟩
  exact ⟨_, Heap.get?_update_self _ ho (Obj.isFreed_of_fields (Obj.data_mapFields hd _)), (Obj.cls_mapFields ..).trans hc, by
    rw [Obj.data_mapFields hd]; simp⟩
theorem rv_end {it l : Addr} {Q : Option Value → Shared → Prop} (hh : A.handled = none) (hit : IsRv s.heap it l (-1))
    (hQ : ∀ h' tk, Heap.ExtBut it s.heap h' → Q none { s with heap := h', toks := tk }) : wpAny (model prog w) A (pyNext (.ref it)) Q E s := by
  obtain ⟨o, ho, hc, hd⟩ := id hit
  unfold pyNext
  refine wpAny_bind (wpAny_attempt (wpAny_callSpecial?_slot (name := Str.ofString "__next__") hit.typeIs rv_slot_next
    (wpAny_call_entry rv_slot_next hit.typeIs rv_entry_next ?_ (rv_args_next _))))
  unfold Builtin.«reversed.__next__»
  refine wpAny_bind (wpAny_of_eq (a := (Value.ref it, [])) rfl ?_)
  try dsimp only
  refine wpAny_bind (wpAny_field ho hd (x := .ref l) rfl ?_)
  refine wpAny_bind (wpAny_field ho hd (x := rawInt (-1)) rfl ?_)
  show wpAny _ _ (if (-1 : Int) < 0 then _ else _) _ _ s
  rw [if_pos (by decide)]
  refine wpAny_bind (wpAny_rule ?_)
  have hd2 := Obj.data_mapFields hd (fun vs => vs.setIfInBounds 1 (rawInt (-1)))
  refine wpAny_bind ?_
  show wpAny _ _ (setField (.ref it) 1 (rawInt (-1)) >>= fun _ => setField (.ref it) 0 .none) _ _ _
  refine wpAny_bind (wpAny_setField ho hd (by simp) ?_)
  refine wpAny_setField (Heap.get?_update_self _ ho (Obj.isFreed_of_fields hd2)) hd2 (by simp) ?_
  refine wpAny_bind ?_
  show wpAny _ _ (newExc (.type "StopIteration") [] >>= _) _ _ _
  refine wpAny_bind ?_
  simp only [newExc, newTuple]
  refine wpAny_bind (wpAny_newObj_type ?_ (by size_fits))
  refine wpAny_bind (m := firstArgMember _ _) (wpAny_of_eq (a := Value.none) (by first | rfl | (simp only [firstArgMember]; rfl)) ?_)
  refine wpAny_newObj_type ?_ (by size_fits)
  simp only [raiseNew]
  refine wpAny_bind (wpAny_handled ?_)
  first | rw [show A.in1.handled = none from hh] | rw [hh]
  refine wpAny_bind (wpAny_pure (wpAny_throw ?_))
  refine wpAny_bind (wpAny_isInstance (T := "StopIteration") (b := true) ⟨_, Heap.get?_push_size _ rfl, rfl⟩ isSubtype_stop ?_)
  refine wpAny_pure (hQ _ _ ?_)
  refine Heap.ExtBut.push (Heap.ExtBut.push ?_ _) _
  intro b o' hb e
  exact (Heap.get?_update_ne _ _ _ _ hb).trans ((Heap.get?_update_ne _ _ _ _ hb).trans e)
theorem rv_iter {it l : Addr} {i : Int} {Q : Value → Shared → Prop} (hit : IsRv s.heap it l i) (h : Q (.ref it) s) : wpAny (model prog w) A (pyIter (.ref it)) Q E s := by
  refine wpAny_pyIter_slot hit.typeIs rv_slot_iter (wpAny_call_entry rv_slot_iter hit.typeIs rv_entry_iter ?_ (rv_args_iter _))
  show wpAny _ _ (ret (.ref it)) _ _ s
  exact wpAny_pure ⟨_, rfl, "reversed", _, hit.typeIs, rv_slot_next.lookup, h⟩
end
theorem rv_walks {prog : Program} {w : World} {A : Around} (hh : A.handled = none) (I l : Addr) (hne : l ≠ I) (items : Array Value) (hfit : (items.size : Int) < 2 ^ 62) :
    Walks prog w A I [I, l] [I] items.size (fun i v => i < items.size ∧ items[items.size - 1 - i]? = some v) (fun i h => i ≤ items.size ∧ IsRv h I l ((items.size : Int) - 1 - (i : Int)) ∧ IsTup h l items) where
  sub := fun b hb => by simp at hb; simp [hb]
  frame := fun _ _ _ x hk => ⟨x.1, x.2.1.at fun o e => hk I (by simp) o e, by obtain ⟨o, ho, r⟩ := x.2.2; exact ⟨o, hk l (by simp) o ho, r⟩⟩
  item := fun i s Q E hi x hQ => by
    have e : (items.size : Int) - 1 - (i : Int) = ((items.size - 1 - i : Nat) : Int) := by omega
    have hit := x.2.1
    rw [e] at hit
    have hx : items[items.size - 1 - i]? = some (items[items.size - 1 - i]'(by omega)) := Array.getElem?_eq_getElem (by omega)
    refine rv_next hit x.2.2 hx hfit fun h' tk hit' hs' => ?_
    have e2 : ((items.size - 1 - i : Nat) : Int) - 1 = (items.size : Int) - 1 - ((i + 1 : Nat) : Int) := by omega
    rw [e2] at hit'
    obtain ⟨ot, hot, rt⟩ := x.2.2
    exact hQ _ h' tk ⟨hi, hx⟩ ⟨hi, hit', ⟨ot, (hs'.2 l hne).trans hot, rt⟩⟩ fun b o hb eo => hs'.extBut b o (fun h => hb (by simp [h])) eo
  done := fun s Q E x hQ => by
    have e : (items.size : Int) - 1 - (items.size : Int) = -1 := by omega
    have hit := x.2.1
    rw [e] at hit
    exact rv_end hh hit fun h' tk he' => hQ h' tk fun b o hb eo => he' b o (fun h => hb (by simp [h])) eo
  self := fun _ _ _ _ x hQ => rv_iter x.2.1 hQ
end Mine
end
section
theorem Mine.offLoop : True := by w_top off; trivial
open PySem PySem.W PyProof.Rows PySem.Calls
set_option Elab.async false
set_option maxRecDepth 100000
set_option maxHeartbeats 2000000
set_option linter.unusedSimpArgs false
set_option linter.unusedSectionVars false
set_option linter.unusedVariables false
namespace Mine
/-- a loop's state between two turns: σ names what it turns -/
def KN {σ : Type} (Led : σ → List (Addr × Obj)) (ps : σ → List (Str × Value)) (x : Str) (stored : List Str) (m₀ : Str → Option Value) (PP : Nat → σ → Prop) (i : Nat) (m : Str → Option Value) (nx : List (Addr × Obj)) : Prop :=
  ∃ c : σ, nx = Led c ∧ (∀ p ∈ ps c, m p.1 = some p.2) ∧ (∀ z, z ≠ x → (∀ p ∈ ps c, z ≠ p.1) → stored.contains z = false → m z = m₀ z) ∧ PP i c
section
variable {prog : Program} {w : World} {A : Around} {E : Value → Shared → Prop} {s : Shared} {env : Env} {h₀ : Heap} {x : Str} {body : List Stmt} {Q : Flow → Shared → Prop}
theorem kn_loop {σ : Type} {I : Addr} {fp wr : List Addr} {n : Nat} {P : Nat → Value → Prop} {St : Nat → Heap → Prop} {m₀ : Str → Option Value} (Led : σ → List (Addr × Obj)) (ps : σ → List (Str × Value)) (stored : List Str) (PP : Nat → σ → Prop) (c₀ : σ)
    (W : Walks prog w A I fp wr n P St) (hLf : env.locals ∉ fp) (hwr : ∀ b ∈ wr, h₀.get? b = none) (hfp : ∀ q ∈ Led c₀, q.1 ∉ fp) (hst : St 0 s.heap) (F : Fr h₀ env.locals s.heap m₀) (N : News h₀ env.locals s.heap (Led c₀)) (hk : ∀ p ∈ ps c₀, m₀ p.1 = some p.2) (hp : PP 0 c₀)
    (turn : ∀ (c : σ) (i : Nat) (v : Value) (u : Str → Option Value) h tk own, i < n → P i v → OwnOff own ((Led c₀).map (·.1)) → PP i c →
      Fr h₀ env.locals h (fun y => if y = x then some v else kstB (fun z => if stored.contains z then u z else m₀ z) (ps c) y) → News h₀ env.locals h (Led c ++ own) →
      wpAny (model prog w) A (execs body env) (InvPostN h₀ env.locals (KN Led ps x stored m₀ PP (i + 1)) own ((Led c₀).map (·.1)) { s with heap := h, toks := tk } Q) E { s with heap := h, toks := tk })
    (done : ∀ (c : σ) (u : Str → Option Value) h tk, PP n c → Fr h₀ env.locals h (fun y => if y = x then u y else kstB (fun z => if stored.contains z then u z else m₀ z) (ps c) y) → News h₀ env.locals h (Led c) → Q .next { s with heap := h, toks := tk }) :
    LoopAtV prog w A h₀ env x body Q E (.ref I) s := by
  refine loop_invN (fun i m nx => KN Led ps x stored m₀ PP i m nx) W hLf hwr (fun p hp h => hfp p hp (W.sub _ h)) hfp hst F N ⟨c₀, rfl, hk, fun _ _ _ _ => rfl, hp⟩ ?_ ?_
  · rintro i v m₁ nx h tk own hi hv _ hoff ⟨c, rfl, h1, h2, hp'⟩ F₁ N₁
    exact turn c i v m₁ h tk own hi hv hoff hp' (kst_fr h1 h2 F₁) N₁
  · rintro m₁ nx h tk ⟨c, rfl, h1, h2, hp'⟩ F₁ N₁
    exact done c m₁ h tk hp' (kst_frOut h1 h2 F₁) N₁
theorem kn_end {σ : Type} {Led : σ → List (Addr × Obj)} {ps : σ → List (Str × Value)} {stored : List Str} {m₀ : Str → Option Value} {PP : Nat → σ → Prop} {i : Nat} (c : σ) {L : Addr} {m' : Str → Option Value} {own news' : List (Addr × Obj)} {adr : List Addr} {s₁ : Shared} {h' : Heap} {tk : Nat}
    (F : Fr h₀ L h' m') (N : News h₀ L h' news') (hn : ∀ p ∈ Led c, p ∈ news') (ho : ∀ p ∈ own, p ∈ news') (ha : (Led c).map (·.1) = adr) (hk : ∀ p ∈ ps c, m' p.1 = some p.2) (hr : ∀ z, z ≠ x → (∀ p ∈ ps c, z ≠ p.1) → stored.contains z = false → m' z = m₀ z) (hp : PP i c) :
    InvEndN h₀ L (KN Led ps x stored m₀ PP i) own adr s₁ { s₁ with heap := h', toks := tk } :=
  InvEndN.intro F N ⟨c, rfl, hk, hr, hp⟩ ha hn ho
/-- over range(0, n) -/
theorem kn_range {σ : Type} {r : Addr} {t₀ u₀ v₀ : Tok} {n : Nat} {b₀ : Int} {m₀ : Str → Option Value} (Led : σ → List (Addr × Obj)) (ps : σ → List (Str × Value)) (stored : List Str) (PP : Nat → σ → Prop) (c₀ : σ)
    (hh : A.handled = none) (hr : IsRange s.heap r 0 b₀ 1 t₀ u₀ v₀) (hb : b₀ = (n : Int)) (hsm : n < 1000000) (F : Fr h₀ env.locals s.heap m₀) (N : News h₀ env.locals s.heap (Led c₀)) (hk : ∀ p ∈ ps c₀, m₀ p.1 = some p.2) (hp : PP 0 c₀)
    (turn : ∀ (c : σ) (i : Nat) (t : Tok) (u : Str → Option Value) h tk own, i < n → OwnOff own ((Led c₀).map (·.1)) → PP i c →
      Fr h₀ env.locals h (fun y => if y = x then some (.int (i : Int) t) else kstB (fun z => if stored.contains z then u z else m₀ z) (ps c) y) → News h₀ env.locals h (Led c ++ own) →
      wpAny (model prog w) A (execs body env) (InvPostN h₀ env.locals (KN Led ps x stored m₀ PP (i + 1)) own ((Led c₀).map (·.1)) { s with heap := h, toks := tk } Q) E { s with heap := h, toks := tk })
    (done : ∀ (c : σ) (u : Str → Option Value) h tk, PP n c → Fr h₀ env.locals h (fun y => if y = x then u y else kstB (fun z => if stored.contains z then u z else m₀ z) (ps c) y) → News h₀ env.locals h (Led c) → Q .next { s with heap := h, toks := tk }) :
    wpAny (model prog w) A (pyIter (.ref r)) (fun it s₂ => LoopAtV prog w A h₀ env x body Q E it s₂) E s := by
  subst hb
  have hsmall : Builtin.Range.small 0 (n : Int) 1 = true := small_one (by omega) (by omega) (by omega) (by omega)
  have hn : Builtin.Range.rangeSize 0 (n : Int) 1 = (n : Int) := by have := rangeSize_nat 0 n; simpa using this
  refine wpAny_pyIter_range hr hsmall ?_
  have W := Walks.range (prog := prog) (w := w) hh s.heap.objs.size 0 1 n
  refine kn_loop Led ps stored PP c₀ W ?_ ?_ ?_ (by show IsRangeIter _ _ _ _ _; rw [hn]; simpa using Heap.get?_push_size _ rfl) (F.push _) (fun p hp => ⟨Heap.get?_push_of_some _ (N p hp).1, (N p hp).2⟩) hk hp ?_ done
  · intro hm
    exact absurd F.ns.lt ((List.mem_singleton.mp hm) ▸ Nat.lt_irrefl _)
  · intro b hb
    rw [List.mem_singleton.mp hb]
    exact next_is_new F
  · intro p hp hI
    exact absurd (Heap.lt_size (N p hp).1) ((List.mem_singleton.mp hI) ▸ Nat.lt_irrefl _)
  · rintro c i v u h tk own hi ⟨t, rfl⟩ hoff hp' F₁ N₁
    have e1 : (0 : Int) + (i : Int) * 1 = (i : Int) := by omega
    rw [e1] at F₁
    exact turn c i t u h tk own hi hoff hp' F₁ N₁
/-- over reversed(t) of a tuple of the call's own -/
theorem kn_rev {σ : Type} {I tp : Addr} {vs : List Value} {m₀ : Str → Option Value} (Led : σ → List (Addr × Obj)) (ps : σ → List (Str × Value)) (stored : List Str) (PP : Nat → σ → Prop) (c₀ : σ)
    (hh : A.handled = none) (hfit : vs.length < 1000000) (F : Fr h₀ env.locals s.heap m₀) (NI : News h₀ env.locals s.heap [(I, rvObj tp ((vs.length : Int) - 1)), (tp, tupO vs)]) (N : News h₀ env.locals s.heap (Led c₀)) (hfp : ∀ q ∈ Led c₀, q.1 ≠ I ∧ q.1 ≠ tp) (hk : ∀ p ∈ ps c₀, m₀ p.1 = some p.2) (hp : PP 0 c₀)
    (turn : ∀ (c : σ) (i : Nat) (v : Value) (u : Str → Option Value) h tk own, i < vs.length → vs[vs.length - 1 - i]? = some v → OwnOff own ((Led c₀).map (·.1)) → PP i c →
      Fr h₀ env.locals h (fun y => if y = x then some v else kstB (fun z => if stored.contains z then u z else m₀ z) (ps c) y) → News h₀ env.locals h (Led c ++ own) →
      wpAny (model prog w) A (execs body env) (InvPostN h₀ env.locals (KN Led ps x stored m₀ PP (i + 1)) own ((Led c₀).map (·.1)) { s with heap := h, toks := tk } Q) E { s with heap := h, toks := tk })
    (done : ∀ (c : σ) (u : Str → Option Value) h tk, PP vs.length c → Fr h₀ env.locals h (fun y => if y = x then u y else kstB (fun z => if stored.contains z then u z else m₀ z) (ps c) y) → News h₀ env.locals h (Led c) → Q .next { s with heap := h, toks := tk }) :
    wpAny (model prog w) A (pyIter (.ref I)) (fun it s₂ => LoopAtV prog w A h₀ env x body Q E it s₂) E s := by
  have h1 := NI _ (.head _)
  have h2 := NI _ (.tail _ (.head _))
  have hne : tp ≠ I := by
    rintro rfl
    have q := congrArg (fun o : Option Obj => o.map Obj.cls) (h1.1.symm.trans h2.1)
    have q2 : (some (Value.type "reversed") : Option Value) = some (Value.type "tuple") := q
    exact absurd q2 (by decide)
  have hit : IsRv s.heap I tp ((vs.length : Int) - 1) := ⟨_, h1.1, rfl, rfl⟩
  refine rv_iter hit ?_
  have hz : vs.toArray.size = vs.length := List.size_toArray
  have W := rv_walks (prog := prog) (w := w) hh I tp hne vs.toArray (by rw [hz]; omega)
  rw [hz] at W
  refine kn_loop Led ps stored PP c₀ W ?_ ?_ ?_ ⟨Nat.zero_le _, ?_, ⟨_, h2.1, rfl, 0, rfl⟩⟩ F N hk hp ?_ done
  · intro hm
    rcases List.mem_cons.mp hm with e | hm
    · exact h1.2.1 e.symm
    · exact h2.2.1 (List.mem_singleton.mp hm).symm
  · intro b hb
    rw [List.mem_singleton.mp hb]
    exact h1.2.2
  · intro q hq hm
    rcases List.mem_cons.mp hm with e | hm
    · exact (hfp q hq).1 e
    · exact (hfp q hq).2 (List.mem_singleton.mp hm)
  · have e : (vs.length : Int) - 1 - ((0 : Nat) : Int) = (vs.length : Int) - 1 := by omega
    rw [e]; exact hit
  · rintro c i v u h tk own hi ⟨_, hv⟩ hoff hp' F₁ N₁
    exact turn c i v u h tk own hi (by simpa using hv) hoff hp' F₁ N₁
end
end Mine
end
section
theorem Mine.offRevTup : True := by w_top off; trivial
open PySem PySem.W PyProof.Rows PySem.Calls
set_option Elab.async false
set_option maxRecDepth 100000
set_option maxHeartbeats 2000000
set_option linter.unusedSimpArgs false
set_option linter.unusedSectionVars false
set_option linter.unusedVariables false
namespace Mine
/-! tuple(reversed(l)) of a list -/
theorem rl_nolen : typeLookup (.type "list_reverseiterator") "__len__" = pure none := by rw [typeLookup_type, builtinLookup_eq_fast]; kernel_rfl
theorem rl_hint : typeLookup (.type "list_reverseiterator") "__length_hint__" = pure (some (.builtin "list_reverseiterator.__length_hint__")) := by rw [typeLookup_type, builtinLookup_eq_fast]; kernel_rfl
section
variable {prog : Program} {w : World} {A : Around} {E : Value → Shared → Prop} {s : Shared} {I : Addr} {fp wr : List Addr} {G : Array GenState → Array GenState → Prop} {n : Nat} {P : Nat → Value → Prop} {St : Nat → Shared → Prop}
theorem rl_collect {Q : List Value → Shared → Prop}
    (W : WalksS prog w A.in1 I fp wr G n P St) (hT : ∀ i s, St i s → s.TypeIs (.ref I) "list_reverseiterator") (hst : St 0 s) (hfp : ∀ b ∈ fp, b < s.heap.objs.size) (hI : I ∈ fp)
    (hQ : ∀ s' acc, Moved wr G s s' → ItemsOf P acc n → Q acc.toList s') (hn : n ≤ sizeLine) : wpAny (model prog w) A (collect (.ref I)) Q E s := by
  have hSf : s.heap.objs.size ∉ fp := fun hm => Nat.lt_irrefl _ (hfp _ hm)
  have hSI : s.heap.objs.size ≠ I := fun e => hSf (e ▸ hI)
  unfold collect
  refine wpAny_bind (wpAny_runValue (codeAny_builtin PySem.F.entry_proto_collect ?_))
  rw [Around.under_plainId PySem.F.plain_proto_collect _]
  show wpAny _ A.in1 (newList [] >>= fun l => again (.builtin "list.__iadd__" ⟨[l, .ref I], []⟩)) _ _ s
  refine wpAny_bind (wpAny_newObj_type ?_)
  refine wpAny_pure ⟨plainId_quiet PySem.F.plain_list_iadd _, codeAny_builtin PySem.F.entry_list_iadd ?_⟩
  rw [Around.under_plainId PySem.F.plain_list_iadd _]
  have hst₁ := W.frame 0 s (s.heap.push { cls := .type "list", data := .seq ([] : List Value).toArray }) s.toks hst (Nat.le_refl _) fun b _ o e => Heap.get?_push_of_some _ e
  have hS₁ : (s.heap.push { cls := .type "list", data := .seq ([] : List Value).toArray }).get? s.heap.objs.size = some { cls := .type "list", data := .seq ([] : List Value).toArray } := Heap.get?_push_size _ rfl
  have h1 : Builtin.List.listSameRef (.ref s.heap.objs.size) (.ref I) = false := by simp [Builtin.List.listSameRef, hSI]
  show wpAny _ A.in1 (Builtin.List.listExtendWith (.ref s.heap.objs.size) (.ref I) (.ref s.heap.objs.size)) _ _ _
  unfold Builtin.List.listExtendWith
  refine wpAny_bind (wpAny_typeOf (hT 0 _ hst₁) ?_)
  rw [if_neg (by rw [h1]; decide)]
  refine wpAny_bind (W.self 0 _ _ _ hst₁ ?_)
  refine wpAny_bind (wpAny_holding ?_)
  unfold Builtin.List.listLengthHint
  refine wpAny_bind (wpAny_specialOf (hT 0 _ hst₁) rl_nolen ?_)
  show wpAny _ A.in1 (specialOf (Value.ref I) (Str.ofString "__length_hint__") >>= _) _ _ _
  refine wpAny_bind (wpAny_specialOf (hT 0 _ hst₁) rl_hint ?_)
  (generalize hid : ("list_reverseiterator.__length_hint__" : String) = id0; (fail_if_success (clear hid id0)); wp_delta; rw [show splitId id0 = some ("list_reverseiterator", "__length_hint__") from by subst hid; decide +kernel]; subst hid)
  refine wpAny_bind (wpAny_isInstance (b := true) (hT 0 _ hst₁) (by rw [isSubtype_type]; kernel_rfl) ?_)
  refine wpAny_pure ?_
  rw [if_neg (by decide)]
  refine wpAny_pure ⟨plainId_quiet PySem.F.plain_extend_loop _, codeAny_extend_loopS W hn _ hSf _ n 0 _ _ _ rfl (Nat.zero_le _) hst₁ hS₁ (ItemsOf.nil P) fun s' acc' c' hm hS' hacc => ?_⟩
  show wpAny _ A (load s.heap.objs.size >>= _) _ _ s'
  refine wpAny_bind (wpAny_load hS' ?_)
  exact wpAny_pure (hQ s' acc' (Moved.drop_new (o := { cls := .type "list", data := .seq ([] : List Value).toArray }) (tk := s.toks) hm (Nat.le_refl _)) hacc)

theorem rl_code {Q₁ : Value → Shared → Prop} (W : WalksS prog w A.in1.in1 I fp wr G n P St) (hT : ∀ i s, St i s → s.TypeIs (.ref I) "list_reverseiterator") (hst : St 0 s) (hfp : ∀ b ∈ fp, b < s.heap.objs.size) (hI : I ∈ fp)
    (h : ∀ s' acc, Moved wr G s s' → ItemsOf P acc n → Q₁ (.ref s'.heap.objs.size) { s' with heap := s'.heap.push { cls := .type "tuple", data := .seq acc } }) (hsz : n ≤ sizeLine) :
    codeAny (model prog w) A (.call (.builtin "tuple.__new__") ⟨[.type "tuple", .ref I], []⟩) (wants Q₁ E) s := by
  refine codeAny_of_tree ?_
  show wpAny _ A.in1 (do checkBuiltinCall "tuple.__new__" ⟨[.type "tuple", .ref I], []⟩; again (.builtin "tuple.__new__" ⟨[.type "tuple", .ref I], []⟩)) _ _ s
  refine wpAny_bind (wpAny_of_eq (PySem.F.newCall_tuple_1 _) (wpAny_pure ⟨plainId_quiet PySem.F.plain_tuple_new _, codeAny_builtin PySem.F.entry_tuple_new ?_⟩))
  rw [Around.under_plainId PySem.F.plain_tuple_new _]
  have hsub := sub_tuple_self
  have hinit := init_tuple_lookup
  have hmh := madeHere_tuple
  have hTI := hT 0 s hst
  wp_walk using wpAny_typeOf hTI, rl_collect (hn := hsz) W hT hst hfp hI
  intro s' acc hm hacc
  show wpAny _ _ (Builtin.Tuple.tupleExact acc.toList.toArray >>= fun v => ret v) _ _ _
  unfold Builtin.Tuple.tupleExact
  refine wpAny_bind (wpAny_newObj_type ?_ (by show acc.toList.toArray.size ≤ sizeLine; simp only [Array.toArray_toList]; rw [hacc.1]; exact hsz))
  refine wpAny_pure ?_
  have e : acc.toList.toArray = acc := by simp
  rw [e]
  exact h s' acc hm hacc
theorem rl_call {Q : Value → Shared → Prop} (W : WalksS prog w A.in1.in1.in1 I fp wr G n P St) (hT : ∀ i s, St i s → s.TypeIs (.ref I) "list_reverseiterator") (hst : St 0 s) (hfp : ∀ b ∈ fp, b < s.heap.objs.size) (hI : I ∈ fp)
    (hQ : ∀ s' acc, Moved wr G s s' → ItemsOf P acc n → Q (.ref s'.heap.objs.size) { s' with heap := s'.heap.push { cls := .type "tuple", data := .seq acc } }) (hsz : n ≤ sizeLine) :
    wpAny (model prog w) A (call (.type "tuple") [.ref I]) Q E s := by
  refine callType_codes (Q₁ := fun obj s₁ => s₁.TypeIs obj "tuple" ∧ Q obj s₁) PySem.F.called_tuple (PySem.F.typeCall_tuple_1 _) PySem.F.entry_object_init
    (rl_code (hsz := hsz) W hT hst hfp hI fun s' acc hm hacc => ⟨⟨_, Heap.get?_push_size _ rfl, rfl⟩, hQ s' acc hm hacc⟩) fun obj s₁ h₁ => ?_
  exact ⟨h₁.1, PySem.F.args_object_init_2 obj _, object_init_meets PySem.F.called_tuple.init.lookup PySem.F.called_tuple.made (by decide) prog w A.in1 _ s₁ ⟨h₁.1, rfl, h₁.2⟩⟩
end
section
variable {prog : Program} {w : World} {A : Around} {E : Value → Shared → Prop} {s : Shared} {h₀ : Heap} {L : Addr} {m : Str → Option Value}
theorem rl_tuple {I l : Addr} {vs : List Value} {n : Nat} {news : List (Addr × Obj)} {Q : Value → Shared → Prop} (hh : A.handled = none) (F : Fr h₀ L s.heap m) (N : News h₀ L s.heap ((I, revObj l ((vs.length : Int) - 1)) :: (l, listOf vs.toArray n) :: news)) (hI : ∀ p ∈ news, p.1 ≠ I) (hsz : vs.length ≤ 1000000)
    (h : ∀ D h' tk, Fr h₀ L h' m → News h₀ L h' ((D, tupO vs.reverse) :: (l, listOf vs.toArray n) :: news) → (∀ p ∈ (l, listOf vs.toArray n) :: news, p.1 < D) → Q (.ref D) { s with heap := h', toks := tk }) : wpAny (model prog w) A (call (.type "tuple") [.ref I]) Q E s := by
  have h1 := N _ (.head _)
  have h2 := N _ (.tail _ (.head _))
  have hne : l ≠ I := by
    rintro rfl
    have q := congrArg (fun o : Option Obj => o.map Obj.cls) (h1.1.symm.trans h2.1)
    have q2 : (some (Value.type "list_reverseiterator") : Option Value) = some (Value.type "list") := q
    exact absurd q2 (by decide)
  have hz : vs.toArray.size = vs.length := List.size_toArray
  have hl : s.heap.IsList l vs.toArray := ⟨_, h2.1, rfl, n, rfl⟩
  have W := Walks.listRev (prog := prog) (w := w) (A := A.in1.in1.in1) hh I l hne vs.toArray
  rw [hz] at W
  refine rl_call W.toS (fun i s hs => hs.2.1.typeIs) ⟨Nat.zero_le _, ?_, hl⟩ ?_ (by simp) (fun s' acc hm hacc => ?_) (by rw [sizeLine_eq]; omega)
  · have e : (vs.length : Int) - 1 - ((0 : Nat) : Int) = (vs.length : Int) - 1 := by omega
    rw [e]; exact ⟨_, h1.1, rfl, rfl⟩
  · intro b hb
    rcases List.mem_cons.mp hb with rfl | hb
    · exact Heap.lt_size h1.1
    · rw [List.mem_singleton.mp hb]; exact Heap.lt_size h2.1
  · obtain ⟨hp, g, d, tk, os⟩ := s'
    obtain ⟨hh1, hg, hd, ho, ht⟩ := hm
    simp only at hh1 hg hd ho ht
    subst hg hd ho
    have keepN : ∀ b o, b ≠ I → s.heap.get? b = some o → hp.get? b = some o := fun b o hb e => hh1 b o (by simpa using hb) e
    have F' : Fr h₀ L hp m := by
      obtain ⟨oL, es, ep, hL, hLr⟩ := F.ns
      refine ⟨⟨oL, es, ep, keepN _ _ (fun e => h1.2.1 e.symm) hL, hLr⟩, fun b o e => keepN _ _ (fun eb => ?_) (F.keep b o e), F.above⟩
      rw [eb, h1.2.2] at e; cases e
    have N' : News h₀ L hp ((l, listOf vs.toArray n) :: news) := fun p hp' => by
      rcases List.mem_cons.mp hp' with rfl | hp'
      · exact ⟨keepN _ _ hne h2.1, h2.2⟩
      · have := N p (.tail _ (.tail _ hp'))
        exact ⟨keepN _ _ (hI p hp') this.1, this.2⟩
    have e : acc = vs.reverse.toArray := by
      obtain ⟨e1, e2⟩ := hacc
      have hl : acc.toList = vs.reverse := by
        refine List.ext_getElem (by rw [Array.length_toList, e1, List.length_reverse]) fun i hi1 hi2 => ?_
        have hi : i < vs.length := by simpa using hi2
        have := e2 i acc[i] (by simp)
        rw [List.getElem_reverse]
        have e3 : vs.toArray[vs.length - 1 - i]? = some acc[i] := by simpa [hz] using this
        rw [List.getElem?_toArray, List.getElem?_eq_getElem (by omega)] at e3
        have e4 := Option.some.inj e3
        rw [Array.getElem_toList, ← e4]
      rw [← hl]
    subst e
    exact h _ _ tk (F'.push _) (N'.push F' _) fun p hp' => Heap.lt_size (N' p hp').1
theorem rl_tuple2 {I l : Addr} {vs : List Value} {n : Nat} {news : List (Addr × Obj)} {Q : Value → Shared → Prop} (hh : A.handled = none) (F : Fr h₀ L s.heap m) (N : News h₀ L s.heap ((I, revObj l ((vs.length : Int) - 1)) :: news)) (hm : (l, listOf vs.toArray n) ∈ news) (hI : ∀ p ∈ news, p.1 < I) (hsz : vs.length ≤ 1000000)
    (h : ∀ D h' tk, Fr h₀ L h' m → News h₀ L h' ((D, tupO vs.reverse) :: news) → (∀ p ∈ news, p.1 < D) → Q (.ref D) { s with heap := h', toks := tk }) : wpAny (model prog w) A (call (.type "tuple") [.ref I]) Q E s := by
  refine rl_tuple (news := news) hh F (fun p hp => N p (by
    rcases List.mem_cons.mp hp with rfl | hp
    · exact .head _
    · rcases List.mem_cons.mp hp with rfl | hp
      · exact .tail _ hm
      · exact .tail _ hp)) (fun p hp => Nat.ne_of_lt (hI p hp)) hsz fun D h' tk F' N' l1 => h D h' tk F' (fun p hp => N' p (by
    rcases List.mem_cons.mp hp with rfl | hp
    · exact .head _
    · exact .tail _ (.tail _ hp))) fun p hp => l1 p (.tail _ hp)
end
end Mine
end
section
theorem Mine.offSetMath : True := by w_top off; trivial
open PySem PySem.W PyProof.Rows PySem.Calls
set_option Elab.async false
set_option maxRecDepth 100000
set_option maxHeartbeats 1000000
set_option linter.unusedSimpArgs false
set_option linter.unusedSectionVars false
set_option linter.unusedVariables false
namespace Mine
theorem Ext.refl {K : Type} [DecidableEq K] (D : List (K × Bts)) : Ext D D := fun _ _ h => h
theorem Ext.trans {K : Type} [DecidableEq K] {D D' D'' : List (K × Bts)} (h : Ext D D') (h' : Ext D' D'') : Ext D D'' := fun k v e => h' k v (h k v e)
def Back (B : List Bts) (D : List (List UInt8 × Bts)) : Prop := ∀ k v, look D k = some v → ∃ h : Bts, h.toList = k ∧ Hash B v h
theorem Back.mono {B B' : List Bts} {D : List (List UInt8 × Bts)} (h : Back B D) (p : B <+: B') : Back B' D := fun k v e => let ⟨x, e1, e2⟩ := h k v e; ⟨x, e1, e2.mono p⟩
theorem Back.put {B : List Bts} {D : List (List UInt8 × Bts)} {node h : Bts} (hb : Back B D) (hl : B.length < 65000) (H : Hash B node h) : Ext D (put D h.toList node) ∧ Back B (put D h.toList node) ∧ look (Mine.put D h.toList node) h.toList = some node := by
  refine ⟨fun k v e => ?_, fun k v e => ?_, ?_⟩
  · rw [look_put]
    split
    · rename_i hk
      subst hk
      obtain ⟨x, e1, e2⟩ := hb _ _ e
      have : x = h := Array.toList_inj.mp e1
      subst this
      rw [Hash.inj hl H e2]
    · exact e
  · rw [look_put] at e
    split at e
    · rename_i hk
      cases e
      exact ⟨h, hk, H⟩
    · exact hb k v e
  · rw [look_put, if_pos rfl]

def comb (H : Nat → Nat → Bts) (q k : Nat) (h : Bts) : Bts := if q / 2 ^ k % 2 = 1 then H (8 - k) (sib (q / 2 ^ k)) ++ h else h ++ H (8 - k) (sib (q / 2 ^ k))
/-- the hashes along the key's way up, the text of the next node -/
inductive Chain (H : Nat → Nat → Bts) (q : Nat) (v : Bts) (B : List Bts) (D : List (List UInt8 × Bts)) : List Bts → Bts → Prop
  | nil : Chain H q v B D [] v
  | snoc {hs : List Bts} {node h : Bts} : Chain H q v B D hs node → Hash B node h → look D h.toList = some node → Chain H q v B D (hs ++ [h]) (comb H q hs.length h)
theorem Chain.mono {H : Nat → Nat → Bts} {q : Nat} {v : Bts} {B B' : List Bts} {D D' : List (List UInt8 × Bts)} {hs : List Bts} {node : Bts} (c : Chain H q v B D hs node) (p : B <+: B') (e : Ext D D') : Chain H q v B' D' hs node := by
  induction c with
  | nil => exact .nil
  | snoc _ h1 h2 ih => exact .snoc ih (h1.mono p) (e _ _ h2)
theorem Chain.at {H : Nat → Nat → Bts} {q : Nat} {v : Bts} {B : List Bts} {D : List (List UInt8 × Bts)} {hs : List Bts} {node : Bts} (c : Chain H q v B D hs node) :
    (hs = [] ∧ node = v ∨ ∃ h, hs[hs.length - 1]? = some h ∧ 0 < hs.length ∧ node = comb H q (hs.length - 1) h) ∧
    ∀ k h, hs[k]? = some h → ∃ t, Hash B t h ∧ look D h.toList = some t ∧ (k = 0 → t = v) ∧ (∀ j, k = j + 1 → ∃ h', hs[j]? = some h' ∧ t = comb H q j h') := by
  induction c with
  | nil => exact ⟨.inl ⟨rfl, rfl⟩, fun k h e => by simp at e⟩
  | @snoc hs node h c h1 h2 ih =>
    refine ⟨.inr ⟨h, by simp, by simp, by simp⟩, fun k h' e => ?_⟩
    rcases Nat.lt_or_ge k hs.length with hk | hk
    · rw [List.getElem?_append_left hk] at e
      obtain ⟨t, a1, a2, a3, a4⟩ := ih.2 k h' e
      refine ⟨t, a1, a2, a3, fun j hj => ?_⟩
      obtain ⟨h'', b1, b2⟩ := a4 j hj
      exact ⟨h'', by rw [List.getElem?_append_left (by omega)]; exact b1, b2⟩
    · have : k = hs.length := by
        have := (List.getElem?_eq_some_iff.mp e).1
        simp at this; omega
      subst this
      have e' : h = h' := by simpa using e
      subst e'
      refine ⟨node, h1, h2, fun h0 => ?_, fun j hj => ?_⟩
      · rcases ih.1 with ⟨_, e2⟩ | ⟨_, _, h3, _⟩
        · exact e2
        · omega
      · rcases ih.1 with ⟨e1, _⟩ | ⟨x, b1, _, b2⟩
        · rw [e1] at hj; simp at hj
        · have : hs.length - 1 = j := by omega
          rw [this] at b1 b2
          exact ⟨x, by rw [List.getElem?_append_left (by omega)]; exact b1, b2⟩

def newH (H : Nat → Nat → Bts) (q : Nat) (hs : List Bts) (d p : Nat) : Bts := if p = q / 2 ^ (8 - d) then hs.getD (8 - d) #[] else H d p
def upd (ℓ : Nat → Bts) (q : Nat) (v : Bts) (p : Nat) : Bts := if p = q then v else ℓ p
def pathOf (H : Nat → Nat → Bts) (q : Nat) : List Bts := (List.range 8).map fun k => H (k + 1) (q / 2 ^ (7 - k))
theorem tree_set {B₀ B : List Bts} {D₀ D : List (List UInt8 × Bts)} {ℓ : Nat → Bts} {H : Nat → Nat → Bts} {q : Nat} {v node : Bts} {hs : List Bts} (T : Tree B₀ D₀ ℓ H) (hq : q < 256) (c : Chain H q v B D hs node) (hl : hs.length = 9) (p : B₀ <+: B) (e : Ext D₀ D) (hb : Back B D) (hv : 0 < v.size ∧ v.size < 60) :
    Tree B D (upd ℓ q v) (newH H q hs) := by
  have ca := c.at.2
  have get : ∀ k, k < 9 → hs[k]? = some (hs.getD k #[]) := fun k hk => by
    rw [List.getD_eq_getElem?_getD, List.getElem?_eq_getElem (by omega)]; rfl
  refine ⟨fun x hx => ?_, fun d hd x hx => ?_, hb, fun x => ?_⟩
  · by_cases hxq : x = q
    · subst hxq
      have e1 : x / 2 ^ (8 - 8) = x := Nat.div_one x
      have : newH H x hs 8 x = hs.getD 0 #[] := by unfold newH; rw [e1, if_pos rfl]
      rw [this, show upd ℓ x v x = v from if_pos rfl]
      obtain ⟨t, a1, a2, a3, _⟩ := ca 0 _ (get 0 (by omega))
      rw [a3 rfl] at a1 a2
      exact ⟨a2, a1⟩
    · have e1 : q / 2 ^ (8 - 8) = q := Nat.div_one q
      have : newH H q hs 8 x = H 8 x := by unfold newH; rw [e1, if_neg hxq]
      rw [this, show upd ℓ q v x = ℓ x from if_neg hxq]
      exact ⟨e _ _ (T.leaf x hx).1, (T.leaf x hx).2.mono p⟩
  · by_cases hxq : x = q / 2 ^ (8 - d)
    · have hst := anc_step q d hd
      rw [← hxq] at hst
      have e0 : newH H q hs d x = hs.getD (8 - d) #[] := by unfold newH; rw [if_pos hxq]
      obtain ⟨t, a1, a2, _, a4⟩ := ca (8 - d) _ (get (8 - d) (by omega))
      obtain ⟨h', b1, b2⟩ := a4 (7 - d) (by omega)
      rw [get (7 - d) (by omega)] at b1
      have b1 := Option.some.inj b1
      have e8 : 8 - (7 - d) = d + 1 := by omega
      have e7 : 8 - (d + 1) = 7 - d := by omega
      rw [e0]
      suffices hh : newH H q hs (d + 1) (2 * x) ++ newH H q hs (d + 1) (2 * x + 1) = t by rw [hh]; exact ⟨a2, a1⟩
      rw [b2, comb, e8, b1.symm]
      unfold newH
      rw [e7]
      by_cases hbit : q / 2 ^ (7 - d) % 2 = 1
      · rw [if_pos hbit]
        rw [hbit] at hst
        rw [hst, if_neg (by omega), if_pos rfl, sib, if_neg (by omega)]; rfl
      · rw [if_neg hbit]
        have h0 : q / 2 ^ (7 - d) % 2 = 0 := by omega
        rw [h0] at hst
        rw [hst, if_neg (show ¬ 2 * x + 1 = 2 * x + 0 by omega), if_pos (show 2 * x = 2 * x + 0 by omega), sib, if_pos (by omega)]
    · have n0 : newH H q hs d x = H d x := by unfold newH; rw [if_neg hxq]
      have e7 : 8 - (d + 1) = 7 - d := by omega
      have hst := anc_step q d hd
      have n1 : newH H q hs (d + 1) (2 * x) = H (d + 1) (2 * x) := by unfold newH; rw [e7, if_neg (by omega)]
      have n2 : newH H q hs (d + 1) (2 * x + 1) = H (d + 1) (2 * x + 1) := by unfold newH; rw [e7, if_neg (by omega)]
      rw [n0, n1, n2]
      exact ⟨e _ _ (T.node d hd x hx).1, (T.node d hd x hx).2.mono p⟩
  · unfold upd; split
    · exact hv
    · exact T.full x
theorem path_rev {H : Nat → Nat → Bts} {q : Nat} {hs : List Bts} {h : Bts} (hl : hs.length = 8) : hs.reverse = pathOf (newH H q (hs ++ [h])) q := by
  refine List.ext_getElem (by simp [pathOf, hl]) fun i h1 h2 => ?_
  have hi : i < 8 := by simpa [hl] using h1
  simp only [pathOf, List.getElem_map, List.getElem_range, List.getElem_reverse]
  unfold newH
  have e7 : 8 - (i + 1) = 7 - i := by omega
  rw [e7, if_pos rfl, List.getD_eq_getElem?_getD, List.getElem?_append_left (by omega), List.getElem?_eq_getElem (by omega)]
  simp only [Option.getD_some]
  congr 1; omega
theorem newH_root {H : Nat → Nat → Bts} {q : Nat} {hs : List Bts} {h : Bts} (hl : hs.length = 8) (hq : q < 256) : newH H q (hs ++ [h]) 0 0 = h := by
  unfold newH
  have : q / 2 ^ (8 - 0) = 0 := Nat.div_eq_of_lt hq
  rw [this, if_pos rfl, List.getD_eq_getElem?_getD, List.getElem?_append_right (by omega)]
  simp [hl]
theorem newH_off {H : Nat → Nat → Bts} {q d p : Nat} {hs : List Bts} (h : p ≠ q / 2 ^ (8 - d)) : newH H q hs d p = H d p := if_neg h
end Mine
end
section
open PySem PySem.W PyProof.Rows PySem.Calls
set_option Elab.async false
set_option maxRecDepth 100000
set_option maxHeartbeats 4000000
set_option linter.unusedSimpArgs false
set_option linter.unusedSectionVars false
set_option linter.unusedVariables false
theorem Mine.fillK4 : (fun (_ : OpenLaw) (_ : Params → Frag) => True) PySem.Challenge.rw_bs0043_01 Mine.hd.heap_39 := by w_top off; k_fill; trivial
namespace Mine
local macro_rules | `(tactic| k_all) => `(tactic| assumption)
local macro_rules | `(tactic| k_mem) => `(tactic| first | assumption | exact List.mem_append_left _ (by assumption))
local macro_rules | `(tactic| k_room) => `(tactic| ((try simp only [depth_under_make, depth_under_kw, depth_in1, depth_deeper, depth_caller]); (try dsimp only [ktrTop]); omega))
local macro_rules | `(tactic| k_units) => `(tactic| ((have hcL9 := cLine_is); (try simp only [units_in1, units_deeper, Around.mark_units, units_caller]); (try dsimp only [ktrTop]); omega))
local macro_rules | `(tactic| walk_at "pyIter ref") => `(tactic| refine rest ?_)
local macro_rules | `(tactic| walk_at "InvEndN") => `(tactic| refine rest ?_)
theorem rv_callL {prog : Program} {w : World} {A : Around} {E : Value → Shared → Prop} {s : Shared} {h₀ : Heap} {L : Addr} {m : Str → Option Value} {tp : Addr} {vs : List Value} {news : List (Addr × Obj)} {Q : Value → Shared → Prop} (F : Fr h₀ L s.heap m) (N : News h₀ L s.heap news) (hm : (tp, tupO vs) ∈ news) (hfit : vs.length < 1000000)
    (h : ∀ D h' tk, Fr h₀ L h' m → News h₀ L h' ((D, rvObj tp ((vs.length : Int) - 1)) :: news) → (∀ p ∈ news, p.1 < D) → Q (.ref D) { s with heap := h', toks := tk }) : wpAny (model prog w) A (call (.type "reversed") [.ref tp]) Q E s := by
  have hz : vs.toArray.size = vs.length := List.size_toArray
  refine rv_call (items := vs.toArray) ⟨_, (N _ hm).1, rfl, 0, rfl⟩ (by rw [hz]; omega) fun tk => ?_
  rw [hz]
  exact h _ _ tk (F.push _) (News.push F N _) fun p hp => Heap.lt_size (N p hp).1
theorem hash_use {prog : Program} {w : World} {p : Program} {loose : List Str} {mean : ExcName → Option Value} {mg mb : Str → Option Value} {hof bk bkc cod : Addr} {lam oc oco : Obj} (HC : HashC prog w p loose mean mg mb hof bk bkc cod lam oc oco)
    {dp un : Nat} {gd : Option (List Code)} {cn : Str} {cs : Scope} {a : Addr} {ccd : Value} {cl : List (Str × Addr)} {outer : List Env} {A₀ : Around} {base h₀ : Heap} {L : Addr} {m : Str → Option Value} {s : Shared} {Q E : Value → Shared → Prop}
    {news : List (Addr × Obj)} {g : Obj → List (Addr × Obj)} {t : Bts} {tk : Tok} {ob : Obj} {B : List Bts} (Bl : Below A₀ base outer h₀) (F : Fr h₀ L s.heap m) (X : (Mine.hd.heap_39 w.params).In h₀) (N : News h₀ L s.heap news) (T : Top p loose mean mg mb h₀) (hk : cs.kind = .function) (hd : dp + 1 < recursionLimit) (hu : un + 8 < cLine)
    (U : UpdF bk ob news g) (mc : (bkc, oc) ∈ news) (mh : (hof, lam) ∈ news) (mo : (cod, oco) ∈ news) (hB : Book prog w ob B) (hl : B.length < 60000)
    (hret : ∀ h tk' ob' B' h' tks, Book prog w ob' B' → B <+: B' → Hash B' t h → B'.length ≤ B.length + 1 → Fr h₀ L h' m → News h₀ L h' (g ob') → Q (.bytes h tk') { s with heap := h', toks := tks }) :
    wpAny (model prog w) (ktrTop dp un gd cn cs L a ccd cl outer) (call (.ref hof) [.bytes t tk]) Q E s :=
  HC dp un gd cn cs a ccd cl outer A₀ base h₀ L m s Q E news g t tk ob B Bl F X N T hk hd hu U mc mh mo hB hl hret

theorem allLt_mem {d : Addr} {l : List (Addr × Obj)} (h : AllLt d l) : ∀ p ∈ l, p.1 < d := by
  induction l with
  | nil => intro p hp; cases hp
  | cons q r ih =>
    intro p hp
    rcases List.mem_cons.mp hp with rfl | hp
    · exact h.1
    · exact ih h.2 p hp
structure SetJ where
  ob : Obj
  B : List Bts
  od : Obj
  D : List (List UInt8 × Bts)
  hs : List Bts
  pvs : List Value
  nn : Nat
  node : Bts
  tn : Tok
  tb : Tok
abbrev setLed (bk db pl : Addr) (rest : List (Addr × Obj)) (c : SetJ) : List (Addr × Obj) := (bk, c.ob) :: (db, c.od) :: (pl, listOf c.pvs.toArray c.nn) :: rest
abbrev setPs (c : SetJ) : List (Str × Value) := [(Str.ofString "node", .bytes c.node c.tn), (Str.ofString "target_bit", .int ((2 ^ c.hs.length : Nat) : Int) c.tb)]
structure SetP (prog : Program) (w : World) (H : Nat → Nat → Bts) (q : Nat) (v : Bts) (B₀ : List Bts) (D₀ : List (List UInt8 × Bts)) (i : Nat) (c : SetJ) : Prop where
  len : c.hs.length = i
  book : Book prog w c.ob c.B
  db : DB (bytesKind prog w) c.od c.D
  pvs : BytesAre c.pvs c.hs
  chain : Chain H q v c.B c.D c.hs c.node
  pre : B₀ <+: c.B
  ext : Ext D₀ c.D
  back : Back c.B c.D
  bl : c.B.length ≤ B₀.length + i
  dl : c.D.length ≤ D₀.length + i
theorem branch_get {H : Nat → Nat → Bts} {q i : Nat} {vs : List Value} {v : Value} (hvs : BytesAre vs (branchOf H q)) (hi : i < vs.length) (hv : vs[vs.length - 1 - i]? = some v) : ∃ t, v = .bytes (H (8 - i) (sib (q / 2 ^ i))) t := by
  have hl : vs.length = 8 := by rw [hvs.length, branchOf_len]
  rw [hl] at hi hv
  have e : (branchOf H q)[8 - 1 - i]? = some (H (8 - i) (sib (q / 2 ^ i))) := by
    have h2 : 8 - 1 - i < (branchOf H q).length := by rw [branchOf_len]; omega
    rw [List.getElem?_eq_getElem h2]
    simp only [branchOf, List.getElem_map, List.getElem_range, Option.some.injEq]
    rw [show 8 - 1 - i + 1 = 8 - i by omega, show 7 - (8 - 1 - i) = i by omega]
  obtain ⟨t, ht⟩ := hvs.get _ _ e
  exact ⟨t, Option.some.inj (hv.symm.trans ht)⟩
section
variable {prog : Program} {w : World} {A : Around} {E : Value → Shared → Prop} {s : Shared} {env : Env} {h₀ : Heap} {x : Str} {body : List Stmt} {Q : Flow → Shared → Prop}
theorem set_loop {bk db td pl I tp rx xx : Addr} {rest0 : List (Addr × Obj)} {ob od otd orx oxx : Obj} {B : List Bts} {D : List (List UInt8 × Bts)} {H : Nat → Nat → Bts} {q nn : Nat} {v : Bts} {tn tb : Tok} {vs : List Value} {m₀ : Str → Option Value}
    (hh : A.handled = none) (hvs : BytesAre vs (branchOf H q)) (F : Fr h₀ env.locals s.heap m₀) (N₀ : News h₀ env.locals s.heap ((I, rvObj tp ((vs.length : Int) - 1)) :: (pl, listOf #[] nn) :: (rx, orx) :: (tp, tupO vs) :: (xx, oxx) :: (bk, ob) :: (db, od) :: (td, otd) :: rest0))
    (lI : ∀ p ∈ (pl, listOf #[] nn) :: (rx, orx) :: (tp, tupO vs) :: (xx, oxx) :: (bk, ob) :: (db, od) :: (td, otd) :: rest0, p.1 < I) (ltp : ∀ p ∈ (xx, oxx) :: (bk, ob) :: (db, od) :: (td, otd) :: rest0, p.1 < tp) (lpl₀ : @LT.lt Nat _ rx pl ∧ @LT.lt Nat _ tp pl ∧ @LT.lt Nat _ xx pl ∧ @LT.lt Nat _ bk pl ∧ @LT.lt Nat _ db pl ∧ @LT.lt Nat _ td pl ∧ AllLt pl rest0) (r1 : ∀ p ∈ rest0, p.1 ≠ bk) (r2 : ∀ p ∈ rest0, p.1 ≠ db) (hB : Book prog w ob B) (hD : DB (bytesKind prog w) od D) (hback : Back B D) (hn : m₀ (Str.ofString "node") = some (.bytes v tn)) (htb : m₀ (Str.ofString "target_bit") = some (.int 1 tb))
    (turn : ∀ (c : SetJ) (i : Nat) (t : Tok) (u : Str → Option Value) h tk own, i < 8 → (∀ p ∈ rest0 ++ own, p.1 ≠ bk) → (∀ p ∈ rest0 ++ own, p.1 ≠ db) → (∀ p ∈ rest0 ++ own, p.1 ≠ pl) → SetP prog w H q v B D i c →
      Fr h₀ env.locals h (fun y => if y = x then some (.bytes (H (8 - i) (sib (q / 2 ^ i))) t) else kstB (fun z => if [Str.ofString "node_hash"].contains z then u z else m₀ z) (setPs c) y) → News h₀ env.locals h ((bk, c.ob) :: (db, c.od) :: (pl, listOf c.pvs.toArray c.nn) :: (td, otd) :: (rest0 ++ own)) →
      wpAny (model prog w) A (execs body env) (InvPostN h₀ env.locals (KN (setLed bk db pl ((td, otd) :: rest0)) setPs x [Str.ofString "node_hash"] m₀ (SetP prog w H q v B D) (i + 1)) own (bk :: db :: pl :: td :: rest0.map (·.1)) { s with heap := h, toks := tk } Q) E { s with heap := h, toks := tk })
    (done : ∀ (c : SetJ) (u : Str → Option Value) h tk, SetP prog w H q v B D 8 c → Fr h₀ env.locals h (fun y => if y = x then u y else kstB (fun z => if [Str.ofString "node_hash"].contains z then u z else m₀ z) (setPs c) y) → News h₀ env.locals h ((bk, c.ob) :: (db, c.od) :: (pl, listOf c.pvs.toArray c.nn) :: (td, otd) :: rest0) → Q .next { s with heap := h, toks := tk }) :
    wpAny (model prog w) A (pyIter (.ref I)) (fun it s₂ => LoopAtV prog w A h₀ env x body Q E it s₂) E s := by
  have hl : vs.length = 8 := by rw [hvs.length, branchOf_len]
  have lpl : AllLt pl ((rx, orx) :: (tp, tupO vs) :: (xx, oxx) :: (bk, ob) :: (db, od) :: (td, otd) :: rest0) := lpl₀
  have NI : News h₀ env.locals s.heap [(I, rvObj tp ((vs.length : Int) - 1)), (tp, tupO vs)] := news_sub N₀ fun p hp => by
    rcases List.mem_cons.mp hp with rfl | hp
    · exact .head _
    · rw [List.mem_singleton.mp hp]; exact .tail _ (.tail _ (.tail _ (.head _)))
  have N : News h₀ env.locals s.heap ((bk, ob) :: (db, od) :: (pl, listOf #[] nn) :: (td, otd) :: rest0) := news_sub N₀ fun p hp => by
    rcases List.mem_cons.mp hp with rfl | hp
    · exact .tail _ (.tail _ (.tail _ (.tail _ (.tail _ (.head _)))))
    · rcases List.mem_cons.mp hp with rfl | hp
      · exact .tail _ (.tail _ (.tail _ (.tail _ (.tail _ (.tail _ (.head _))))))
      · rcases List.mem_cons.mp hp with rfl | hp
        · exact .tail _ (.head _)
        · exact .tail _ (.tail _ (.tail _ (.tail _ (.tail _ (.tail _ (.tail _ hp))))))
  have hfp : ∀ p ∈ (bk, ob) :: (db, od) :: (pl, listOf #[] nn) :: (td, otd) :: rest0, p.1 ≠ I ∧ p.1 ≠ tp := fun p hp => by
    rcases List.mem_cons.mp hp with rfl | hp
    · exact ⟨Nat.ne_of_lt (lI _ (.tail _ (.tail _ (.tail _ (.tail _ (.head _)))))), Nat.ne_of_lt (ltp _ (.tail _ (.head _)))⟩
    · rcases List.mem_cons.mp hp with rfl | hp
      · exact ⟨Nat.ne_of_lt (lI _ (.tail _ (.tail _ (.tail _ (.tail _ (.tail _ (.head _))))))), Nat.ne_of_lt (ltp _ (.tail _ (.tail _ (.head _))))⟩
      · rcases List.mem_cons.mp hp with rfl | hp
        · exact ⟨Nat.ne_of_lt (lI _ (.head _)), Nat.ne_of_gt (allLt_mem lpl _ (.tail _ (.head _)))⟩
        · exact ⟨Nat.ne_of_lt (lI _ (.tail _ (.tail _ (.tail _ (.tail _ (.tail _ (.tail _ hp))))))), Nat.ne_of_lt (ltp _ (.tail _ (.tail _ (.tail _ hp))))⟩
  refine kn_rev (setLed bk db pl ((td, otd) :: rest0)) setPs [Str.ofString "node_hash"] (SetP prog w H q v B D) ⟨ob, B, od, D, [], [], nn, v, tn, tb⟩ hh (by omega) F NI N hfp ?_ ⟨rfl, hB, hD, .nil, .nil, List.prefix_refl B, Ext.refl D, hback, Nat.le_refl _, Nat.le_refl _⟩ ?_ ?_
  · intro p hp
    rcases List.mem_cons.mp hp with rfl | hp
    · exact hn
    · rcases List.mem_cons.mp hp with rfl | hp
      · exact htb
      · cases hp
  · rintro c i val u h tk own hi hv hoff hP F' N'
    obtain ⟨t, rfl⟩ := branch_get hvs hi hv
    refine turn c i t u h tk own (by omega) (fun p hp => (List.mem_append.mp hp).elim (r1 p) fun hp => hoff p hp bk (.head _)) (fun p hp => (List.mem_append.mp hp).elim (r2 p) fun hp => hoff p hp db (.tail _ (.head _)))
      (fun p hp => (List.mem_append.mp hp).elim (fun hp => Nat.ne_of_lt (allLt_mem lpl p (.tail _ (.tail _ (.tail _ (.tail _ (.tail _ (.tail _ hp)))))))) fun hp => hoff p hp pl (.tail _ (.tail _ (.head _)))) hP F' N'
  · rintro c u h tk hP F' N'
    rw [hl] at hP
    exact done c u h tk hP F' N'
end
local macro_rules | `(tactic| walk_at "call type:reversed") => `(tactic| (k_here; k_dflt (first
  | (refine' rv_callL ?F ?N ?m ?z ?_; (case F => k_asm); (case N => k_asm); (case m => k_mem); (case z => assumption); k_whole; intro D' h' tk' F' N' l1)
  | (refine' krv_reversed ?F ?N ?m ?_; (case F => k_asm); (case N => k_asm); (case m => exact News.isList (by k_asm) (by k_mem)); k_whole; intro D' h' F' N' l1)); (try k_sweep)))
local macro_rules | `(tactic| walk_at "call type:tuple") => `(tactic| (k_here; k_dflt (refine' rl_tuple2 rfl ?F ?N ?m ?l ?z ?_; (case F => k_asm); (case N => k_asm); (case m => k_mem); (case l => assumption); (case z => omega); k_whole); intro D' h' tk' F' N' l1; (try k_sweep)))
theorem get_len {H : Nat → Nat → Bts} {q : Nat} {vs : List Value} (h : BytesAre vs (branchOf H q)) : vs.length < 1000000 := by rw [h.length, branchOf_len]; decide
local macro_rules | `(tactic| walk_at "call ref") => `(tactic| (k_here; (with_reducible show wpAny _ _ (call (Value.ref 116) _) _ _ _); k_dflt (refine' getI_ok _ _ _ _ _ _ _ _ _ _ _ _ _ _ _ _ _ ?Bl ?F ?X ?N ?T ?k ?d ?u ?mt ?md ?mdb ?hT ?hD ?Tr ?root ?q ?key ?_; (case Bl => k_asm); (case F => k_asm); (case X => k_asm); (case N => k_asm); (case T => k_asm); (case k => rfl); (case d => k_room); (case u => k_units); (case mt => k_mem); (case md => k_mem); (case hT => exact ⟨_, _, _, _, _, _, _, _, _, _, rfl⟩); (case mdb => k_mem); (case hD => with_reducible assumption); (case Tr => with_reducible assumption); (case root => rfl); (case q => assumption); (case key => assumption); k_whole); intro r' tp' t0' vs' h' tk' hvs' F' N' l1 l2; (have hvl' := get_len hvs'); (try k_sweep)))
local macro_rules | `(tactic| walk_at "call ref") => `(tactic| (k_here; (with_reducible show wpAny _ _ (call (Value.ref _) [Value.bytes _ _]) _ _ _); k_dflt (refine' hash_use ?HC ?Bl ?F ?X ?N ?T ?k ?d ?u ?U ?mc ?mh ?mo ?hB ?l ?_; (case HC => with_reducible assumption); (case Bl => k_asm); (case F => k_asm); (case X => k_asm); (case N => k_asm); (case T => k_asm); (case k => rfl); (case d => k_room); (case u => k_units); (case U => k_updF); (case mc => k_mem); (case mh => k_mem); (case mo => k_mem); (case hB => with_reducible assumption); (case l => omega); k_whole); intro hh' tk' ob' B' h' tks' hB' hpre' hH' hl' F' N'; (try dsimp only at N'); (have hs' := Hash.size hH'); (try k_sweep)))
local macro_rules | `(tactic| walk_at "callWith ref") => `(tactic| (k_here; k_dflt (refine' callWith_F ?k1 ?_; (case k1 => exact FnAt.of (by k_asm) (by k_mem)); k_whole)))
theorem sib_lt {q i : Nat} (hq : q < 256) (hi : i < 8) : sib (q / 2 ^ i) < 2 ^ (8 - i) := by
  have h1 : q / 2 ^ i < 2 ^ (8 - i) := by
    rw [Nat.div_lt_iff_lt_mul (Nat.pow_pos (by decide)), ← Nat.pow_add, show 8 - i + i = 8 by omega]; exact hq
  have h2 : 2 ^ (8 - i) = 2 * 2 ^ (7 - i) := by rw [show 8 - i = (7 - i) + 1 by omega, Nat.pow_succ]; omega
  generalize q / 2 ^ i = y at h1
  unfold sib
  split <;> omega
theorem bit_of2 : ∀ q, q < 256 → ∀ j, j < 8 → ((q &&& 2 ^ j) = 0 ↔ q / 2 ^ j % 2 = 0) := by decide +kernel
theorem bit_and2 {q j : Nat} (hq : q < 256) (hj : j < 8) : Builtin.bitAnd (0 * 256 + (q : Int)) ((2 ^ j : Nat) : Int) = 0 ↔ q / 2 ^ j % 2 = 0 := by
  rw [Int.zero_mul, Int.zero_add, bitAnd_pp (Int.natCast_nonneg _) (Int.natCast_nonneg _), Int.toNat_natCast, Int.toNat_natCast, ← bit_of2 q hq j hj]
  omega
theorem set_end {prog : Program} {w : World} {bk db td pl L : Addr} {rest0 own : List (Addr × Obj)} {ob2 od2 ob' od' otd : Obj} {B B2 B' : List Bts} {D D2 : List (List UInt8 × Bts)} {H : Nat → Nat → Bts} {q i nn : Nat} {v node h X : Bts} {th tX tz tn tb : Tok} {z : Int} {pvs : List Value} {hs : List Bts} {m₀ m' : Str → Option Value} {x : Str} {h₀ h' : Heap} {s₁ : Shared} {tk : Nat}
    (P : SetP prog w H q v B D i ⟨ob2, B2, od2, D2, hs, pvs, nn, node, tn, tb⟩) (hB2 : B2.length < 60000) (hB' : Book prog w ob' B') (hpre : B2 <+: B') (hH : Hash B' node h) (hl : B'.length ≤ B2.length + 1) (hd : DB (bytesKind prog w) od' (put D2 h.toList node))
    (F : Fr h₀ L h' m') (N : News h₀ L h' ((bk, ob') :: (db, od') :: (pl, listOf (pvs ++ [Value.bytes h th]).toArray (nn + 1)) :: (td, otd) :: (rest0 ++ own)))
    (h1 : m' (Str.ofString "node") = some (.bytes X tX)) (h2 : m' (Str.ofString "target_bit") = some (.int z tz)) (hX : X = comb H q i h) (hz : z = ((2 ^ hs.length : Nat) : Int) * 2 ^ Int.toNat 1)
    (hsame : ∀ z, z ≠ x → (∀ p ∈ setPs ⟨ob', B', od', put D2 h.toList node, hs ++ [h], pvs ++ [Value.bytes h th], nn + 1, X, tX, tz⟩, z ≠ p.1) → [Str.ofString "node_hash"].contains z = false → m' z = m₀ z) :
    InvEndN h₀ L (KN (setLed bk db pl ((td, otd) :: rest0)) setPs x [Str.ofString "node_hash"] m₀ (SetP prog w H q v B D) (i + 1)) own (bk :: db :: pl :: td :: rest0.map (·.1)) s₁ { s₁ with heap := h', toks := tk } := by
  obtain ⟨y1, y2, y3, y4, y5, y6, y7, y8, y9, y10⟩ := P
  simp only at y1 y2 y3 y4 y5 y6 y7 y8 y9 y10
  obtain ⟨e1, e2, e3⟩ := (y8.mono hpre).put (by omega) hH
  refine kn_end ⟨ob', B', od', put D2 h.toList node, hs ++ [h], pvs ++ [Value.bytes h th], nn + 1, X, tX, tz⟩ F N ?_ ?_ rfl ?_ hsame ?_
  · intro p hp
    rcases List.mem_cons.mp hp with rfl | hp
    · exact .head _
    · rcases List.mem_cons.mp hp with rfl | hp
      · exact .tail _ (.head _)
      · rcases List.mem_cons.mp hp with rfl | hp
        · exact .tail _ (.tail _ (.head _))
        · rcases List.mem_cons.mp hp with rfl | hp
          · exact .tail _ (.tail _ (.tail _ (.head _)))
          · exact .tail _ (.tail _ (.tail _ (.tail _ (List.mem_append_left _ hp))))
  · intro p hp
    exact .tail _ (.tail _ (.tail _ (.tail _ (List.mem_append_right _ hp))))
  · intro p hp
    rcases List.mem_cons.mp hp with rfl | hp
    · exact h1
    · rcases List.mem_cons.mp hp with rfl | hp
      · show m' (Str.ofString "target_bit") = some (.int ((2 ^ (hs ++ [h]).length : Nat) : Int) tz)
        rw [h2, hz, List.length_append, List.length_singleton, Nat.pow_succ, Int.natCast_mul]; rfl
      · cases hp
  · refine ⟨by simp [y1], hB', hd, y4.append (.cons .nil), ?_, y6.trans hpre, y7.trans e1, e2, by simp only; omega, by have := put_length D2 h.toList node; simp only; omega⟩
    simp only
    rw [hX, ← y1]
    exact .snoc (y5.mono hpre e1) hH e3
local macro_rules | `(tactic| walk_at "inplaceOp LShift int int") => `(tactic| (k_here; k_dflt (refine' ilshift_int_small ?a ?b ?c ?_; (case a => decide); (case b => decide); (case c => assumption))))
local macro_rules | `(tactic| walk_at "binaryOp Add") => `(tactic| (k_here; (with_reducible show wpAny _ _ (binaryOp _ (Value.bytes _ _) (Value.bytes _ _)) _ _ _); k_dflt (refine' add_B ?a ?b ?_; (case a => omega); (case b => omega)); intro _ _))
local macro_rules | `(tactic| walk_at "setItem ref") => `(tactic| (k_here; (with_reducible show wpAny _ _ (setItem (Value.ref _) (Value.bytes _ _) (Value.bytes _ _)) _ _ _); k_dflt (refine' db_set (knd := bytesKind _ _) ?F ?N ?U ?d ?k ?z ?_; (case F => k_asm); (case N => k_asm); (case U => k_updF); (case d => with_reducible assumption); (case k => exact bk_is _ _ _ _); (case z => omega)); intro h' o' F' N' hd'; (try dsimp only at N'); (try k_sweep)))
local macro_rules | `(tactic| walk_at "call builtin:list.append") => `(tactic| (k_here; k_dflt (refine' append_L ?F ?N ?U ?z ?_; (case F => k_asm); (case N => k_asm); (case U => k_upd); (case z => omega); k_whole); intro h' F' N'; (try k_sweep)))
theorem drop4 {h₀ h : Heap} {L : Addr} {a b c d : Addr × Obj} {e : List (Addr × Obj)} (N : News h₀ L h (a :: b :: c :: d :: e)) : News h₀ L h (a :: b :: c :: e) := fun p hp => N p (by
  rcases List.mem_cons.mp hp with rfl | hp
  · exact .head _
  · rcases List.mem_cons.mp hp with rfl | hp
    · exact .tail _ (.head _)
    · rcases List.mem_cons.mp hp with rfl | hp
      · exact .tail _ (.tail _ (.head _))
      · exact .tail _ (.tail _ (.tail _ (.tail _ hp))))
theorem drop3lt {x : Addr} {b c d : Addr × Obj} {e : List (Addr × Obj)} (N : ∀ p ∈ b :: c :: d :: e, p.1 < x) : ∀ p ∈ b :: c :: e, p.1 < x := fun p hp => N p (by
  rcases List.mem_cons.mp hp with rfl | hp
  · exact .head _
  · rcases List.mem_cons.mp hp with rfl | hp
    · exact .tail _ (.head _)
    · exact .tail _ (.tail _ (.tail _ hp)))
theorem BytesAre.reverse {vs : List Value} {bs : List Bts} (h : BytesAre vs bs) : BytesAre vs.reverse bs.reverse := by
  induction h with
  | nil => exact .nil
  | cons _ ih => rw [List.reverse_cons, List.reverse_cons]; exact ih.append (.cons .nil)
def NotDict (o : Obj) : Prop := ∀ es n, o.data ≠ .dict es n
def IsDictO (o : Obj) : Prop := ∃ es n, o.data = .dict es n
theorem DB.isDict {prog : Program} {w : World} {K : Type} [DecidableEq K] {knd : KeyKind prog w K} {o : Obj} {l : List (K × Bts)} (h : DB knd o l) : IsDictO o := by
  obtain ⟨kvs, ⟨es, ep, _, hd, _⟩, _⟩ := h
  exact ⟨es, ep, hd⟩
theorem updF_ne {d a : Addr} {o o1 : Obj} {l : List (Addr × Obj)} {g : Obj → List (Addr × Obj)} (U : UpdF d o l g) (h : (a, o1) ∈ l) (hne : o1 ≠ o) : a ≠ d := by
  obtain ⟨pre, post, rfl, _, a1, a2⟩ := U.split
  rcases List.mem_append.mp h with h | h
  · exact a1 _ h
  · rcases List.mem_cons.mp h with e | h
    · cases e; exact absurd rfl hne
    · exact a2 _ h
structure Prep (bk db td : Addr) (ob od otd : Obj) (news rest : List (Addr × Obj)) (g3 : Obj → Obj → Obj → List (Addr × Obj)) : Prop where
  n1 : bk ≠ db
  n2 : bk ≠ td
  n3 : db ≠ td
  r1 : ∀ p ∈ rest, p.1 ≠ bk
  r2 : ∀ p ∈ rest, p.1 ≠ db
  r3 : ∀ p ∈ rest, p.1 ≠ td
  m1 : (bk, ob) ∈ news
  m2 : (db, od) ∈ news
  m3 : (td, otd) ∈ news
  fwd : ∀ p ∈ news, p = (bk, ob) ∨ p = (db, od) ∨ p = (td, otd) ∨ p ∈ rest
  bwd : ∀ p ∈ rest, p ∈ news
  out : ∀ o1 o2 o3, ∀ p ∈ g3 o1 o2 o3, p = (bk, o1) ∨ p = (db, o2) ∨ p = (td, o3) ∨ p ∈ rest
theorem prep {bk db td : Addr} {ob od otd : Obj} {news : List (Addr × Obj)} {g1 : Obj → List (Addr × Obj)} {g2 : Obj → Obj → List (Addr × Obj)} {g3 : Obj → Obj → Obj → List (Addr × Obj)}
    (U1 : UpdF bk ob news g1) (U2 : ∀ o1, UpdF db od (g1 o1) (g2 o1)) (U3 : ∀ o1 o2, UpdF td otd (g2 o1 o2) (g3 o1 o2)) (h2 : IsDictO od) (h3 : IsDictO otd) :
    Prep bk db td ob od otd news (less td (less db (less bk news))) g3 := by
  have hx : ∀ o, IsDictO o → (⟨.none, none, .plain, #[]⟩ : Obj) ≠ o := by
    rintro o ⟨es, n, e⟩ rfl; cases e
  have a1 := hx od h2
  have a2 := hx otd h3
  have n1 : bk ≠ db := updF_ne (U2 ⟨.none, none, .plain, #[]⟩) (updF_in U1) a1
  have n2 : bk ≠ td := updF_ne (U3 ⟨.none, none, .plain, #[]⟩ od) (updF_keep (U2 _) (updF_in U1) n1) a2
  have n3 : db ≠ td := updF_ne (U3 ob ⟨.none, none, .plain, #[]⟩) (updF_in (U2 _)) a2
  have m2 : (db, od) ∈ news := by
    have := updF_mem (U2 ob); rwa [updF_at U1] at this
  have m3 : (td, otd) ∈ news := by
    have := updF_mem (U3 ob od); rwa [updF_at (U2 ob), updF_at U1] at this
  refine ⟨n1, n2, n3, fun p hp => ?_, fun p hp => ?_, fun p hp => ?_, updF_mem U1, m2, m3, fun p hp => ?_, fun p hp => ?_, fun o1 o2 o3 p hp => ?_⟩
  · exact (less_mem.mp (less_mem.mp (less_mem.mp hp).1).1).2
  · exact (less_mem.mp (less_mem.mp hp).1).2
  · exact (less_mem.mp hp).2
  · have e1 := updF_at U1
    have e2 := updF_at (U2 ob)
    have e3 := updF_at (U3 ob od)
    have hp' : p ∈ g3 ob od otd := by rw [e3, e2, e1]; exact hp
    rcases updF_out (U3 ob od) hp' with rfl | ⟨q1, q2⟩
    · exact .inr (.inr (.inl rfl))
    · rcases updF_out (U2 ob) q1 with rfl | ⟨q3, q4⟩
      · exact .inr (.inl rfl)
      · rcases updF_out U1 q3 with rfl | ⟨q5, q6⟩
        · exact .inl rfl
        · exact .inr (.inr (.inr (less_mem.mpr ⟨less_mem.mpr ⟨less_mem.mpr ⟨q5, q6⟩, q4⟩, q2⟩)))
  · exact (less_mem.mp (less_mem.mp (less_mem.mp hp).1).1).1
  · rcases updF_out (U3 o1 o2) hp with rfl | ⟨q1, q2⟩
    · exact .inr (.inr (.inl rfl))
    · rcases updF_out (U2 o1) q1 with rfl | ⟨q3, q4⟩
      · exact .inr (.inl rfl)
      · rcases updF_out U1 q3 with rfl | ⟨q5, q6⟩
        · exact .inl rfl
        · exact .inr (.inr (.inr (less_mem.mpr ⟨less_mem.mpr ⟨less_mem.mpr ⟨q5, q6⟩, q4⟩, q2⟩)))
theorem Prep.inRest {bk db td : Addr} {ob od otd : Obj} {news rest : List (Addr × Obj)} {g3 : Obj → Obj → Obj → List (Addr × Obj)} (P : Prep bk db td ob od otd news rest g3) (h1 : IsDictO ob) (h2 : IsDictO od) (h3 : IsDictO otd) {a : Addr} {o : Obj} (hm : (a, o) ∈ news) (ho : NotDict o) : (a, o) ∈ rest := by
  rcases P.fwd _ hm with e | e | e | e
  · cases e; obtain ⟨es, n, e⟩ := h1; exact absurd e (ho _ _)
  · cases e; obtain ⟨es, n, e⟩ := h2; exact absurd e (ho _ _)
  · cases e; obtain ⟨es, n, e⟩ := h3; exact absurd e (ho _ _)
  · exact e
theorem setI_ok {prog : Program} {w : World} {p : Program} {loose : List Str} {mean : ExcName → Option Value} {mg mb : Str → Option Value}
    (dp un : Nat) (gd : Option (List Code)) (cn : Str) (cs : Scope) (a : Addr) (ccd : Value) (cl : List (Str × Addr)) (outer : List Env) (A₀ : Around) (base h₀ : Heap) (L : Addr) (m : Str → Option Value) (s : Shared) (Q E : Value → Shared → Prop)
    {news : List (Addr × Obj)} {g1 : Obj → List (Addr × Obj)} {g2 : Obj → Obj → List (Addr × Obj)} {g3 : Obj → Obj → Obj → List (Addr × Obj)} {tr td db hof bk bkc cod : Addr} {od otd ob oc oco : Obj} {root key val : Bts} {tkk tkv : Tok} {q : Nat} {B : List Bts} {D : List (List UInt8 × Bts)} {ℓ : Nat → Bts} {H : Nat → Nat → Bts}
    {nm ql : Str} {ps : Arguments} {bd : PySem.Expr} {sc : Scope} {clo : List (Str × Addr)} {pm ctv : Value}
    (Bl : Below A₀ base outer h₀) (F : Fr h₀ L s.heap m) (X : (Mine.hd.heap_39 w.params).In h₀) (N : News h₀ L s.heap news) (T : Top p loose mean mg mb h₀) (hk : cs.kind = .function) (hd : dp + 6 < recursionLimit) (hu : un + 40 < cLine)
    (U1 : UpdF bk ob news g1) (U2 : ∀ o1, UpdF db od (g1 o1) (g2 o1)) (U3 : ∀ o1 o2, UpdF td otd (g2 o1 o2) (g3 o1 o2))
    (mt : (tr, instObj 168 td) ∈ news) (mh : (hof, kla_obj nm ql ps bd sc clo pm cod ctv) ∈ news) (mc : (bkc, oc) ∈ news) (mo : (cod, oco) ∈ news) (hoc : NotDict oc) (hoco : NotDict oco)
    (HC : HashC prog w p loose mean mg mb hof bk bkc cod (kla_obj nm ql ps bd sc clo pm cod ctv) oc oco)
    (hT : IsTD w.params otd hof db root) (hB : Book prog w ob B) (hD : DB (bytesKind prog w) od D) (Tr : Tree B D ℓ H) (hroot : root = H 0 0) (hq : q < 256) (hkey : KBw.bInts key = [(q : Int)]) (hBl : B.length < 50000) (hDl : D.length < 500000) (hval : 0 < val.size ∧ val.size < 60)
    (hret : ∀ (tp : Addr) (vs : List Value) (ob' od' otd' : Obj) (B' : List Bts) (D' : List (List UInt8 × Bts)) (H' : Nat → Nat → Bts) (h' : Heap) (tk' : Nat), BytesAre vs (pathOf H' q) → Book prog w ob' B' → DB (bytesKind prog w) od' D' → B <+: B' → B'.length ≤ B.length + 9 → D'.length ≤ D.length + 9 → IsTD w.params otd' hof db (H' 0 0) → Tree B' D' (upd ℓ q val) H' →
      (∀ d p, p ≠ q / 2 ^ (8 - d) → H' d p = H d p) → Fr h₀ L h' m → News h₀ L h' ((tp, tupO vs) :: g3 ob' od' otd') → (∀ q ∈ news, q.1 < tp) → Q (.ref tp) { s with heap := h', toks := tk' }) :
    wpAny (model prog w) (ktrTop dp un gd cn cs L a ccd cl outer) (call (.ref 123) [.ref tr, .bytes key tkk, .bytes val tkv]) Q E s := by
  obtain ⟨k1, k2, k3, k4, k5, k6, v1, v2, v3, v6, rfl⟩ := hT
  subst hroot
  have hP := prep U1 U2 U3 hD.isDict ⟨_, _, rfl⟩
  have i1 := hP.inRest hB.isDict hD.isDict ⟨_, _, rfl⟩ mt (fun _ _ e => nomatch e)
  have i2 := hP.inRest hB.isDict hD.isDict ⟨_, _, rfl⟩ mh (fun _ _ e => nomatch e)
  have i3 := hP.inRest hB.isDict hD.isDict ⟨_, _, rfl⟩ mc hoc
  have i4 := hP.inRest hB.isDict hD.isDict ⟨_, _, rfl⟩ mo hoco
  generalize less td (less db (less bk news)) = rest0 at hP i1 i2 i3 i4
  have N1 : News h₀ L s.heap ((bk, ob) :: (db, od) :: (td, tdObj w.params k1 k2 k3 k4 k5 k6 v1 v2 v3 v6 hof db (H 0 0)) :: rest0) := fun p hp => by
    rcases List.mem_cons.mp hp with rfl | hp
    · exact N _ hP.m1
    · rcases List.mem_cons.mp hp with rfl | hp
      · exact N _ hP.m2
      · rcases List.mem_cons.mp hp with rfl | hp
        · exact N _ hP.m3
        · exact N _ (hP.bwd _ hp)
  have n1 := neN hP.n1
  have n2 := neN hP.n2
  have n3 := neN hP.n3
  have r1 := hP.r1
  have r2 := hP.r2
  have r3 := hP.r3
  have hret' : ∀ (tp : Addr) (vs : List Value) (ob' od' : Obj) (B' : List Bts) (D' : List (List UInt8 × Bts)) (hs : List Bts) (hr node : Bts) (t6 : Tok) (h' : Heap) (tk' : Nat), BytesAre vs hs.reverse → hs.length = 8 → Book prog w ob' B' → DB (bytesKind prog w) od' D' → B <+: B' → B'.length ≤ B.length + 9 → D'.length ≤ D.length + 9 →
      Chain H q val B' D' (hs ++ [hr]) node → Ext D D' → Back B' D' → Fr h₀ L h' m → News h₀ L h' ((tp, tupO vs) :: (bk, ob') :: (db, od') :: (td, tdObj w.params k1 k2 k3 k4 k5 k6 v1 v2 v3 t6 hof db hr) :: rest0) →
      (∀ p ∈ (bk, ob') :: (db, od') :: (td, tdObj w.params k1 k2 k3 k4 k5 k6 v1 v2 v3 t6 hof db hr) :: rest0, p.1 < tp) → Q (.ref tp) { s with heap := h', toks := tk' } := by
    intro tp vs ob' od' B' D' hs hr node t6 h' tk' b1 b2 b3 b4 b5 b6 b7 b8 b9 b10 F' N' l1
    have hT' := tree_set Tr hq b8 (by simp [b2]) b5 b9 b10 hval
    refine hret tp vs ob' od' (tdObj w.params k1 k2 k3 k4 k5 k6 v1 v2 v3 t6 hof db hr) B' D' (newH H q (hs ++ [hr])) h' tk' (by rw [← path_rev b2]; exact b1) b3 b4 b5 b6 b7 (by rw [newH_root b2 hq]; exact ⟨k1, k2, k3, k4, k5, k6, v1, v2, v3, t6, rfl⟩) hT' (fun d p hp => newH_off hp) F' (fun p hp => ?_) (fun p hp => ?_)
    · rcases List.mem_cons.mp hp with rfl | hp
      · exact N' _ (.head _)
      · refine N' _ (.tail _ ?_)
        rcases hP.out _ _ _ _ hp with rfl | rfl | rfl | hp
        · exact .head _
        · exact .tail _ (.head _)
        · exact .tail _ (.tail _ (.head _))
        · exact .tail _ (.tail _ (.tail _ hp))
    · rcases hP.fwd _ hp with rfl | rfl | rfl | hp
      · exact l1 (bk, ob') (.head _)
      · exact l1 (db, od') (.tail _ (.head _))
      · exact l1 (td, tdObj w.params k1 k2 k3 k4 k5 k6 v1 v2 v3 t6 hof db hr) (.tail _ (.tail _ (.head _)))
      · exact l1 _ (.tail _ (.tail _ (.tail _ hp)))
  clear hret U1 U2 U3 mt mh mc mo hP
  clear N
  have mt := i1
  have mh := i2
  have mc := i3
  have mo := i4
  refine wpAny_call ?_
  k_dflt cell_enter
  k_steps
  show wpAny _ _ _ _ _ _
  refine set_loop rfl (by assumption) (by assumption) (by assumption) (by assumption) (by assumption) (by with_reducible assumption) r1 r2 hB hD Tr.back rfl rfl ?_ ?_
  · rintro ⟨ob2, B2, od2, D2, hs, pvs, nn, node, tn, tb⟩ i t u h tk own hi x1 x2 x3 ⟨y1, y2, y3, y4, y5, y6, y7, y8, y9, y10⟩ F1 N1
    simp only at y1 y2 y3 y4 y5 y6 y7 y8 y9 y10
    dsimp only [kstB, setPs] at F1
    dsimp only at N1
    have z1 : B2.length < 50020 := by omega
    have z2 : D2.length < 500020 := by omega
    have z3 : pvs.length ≤ 1000000 := by rw [y4.length]; omega
    have z4 := Tr.size (d := 8 - i) (q := sib (q / 2 ^ i)) (by omega) (sib_lt hq hi)
    clear hret'
    have z5 : (((2 ^ hs.length : Nat) : Int)).natAbs < 2 ^ 64 := by
      have : 2 ^ hs.length ≤ 2 ^ 8 := Nat.pow_le_pow_right (by decide) (by omega)
      show 2 ^ hs.length < 2 ^ 64
      exact Nat.lt_of_le_of_lt this (by decide)
    have hP' : SetP prog w H q val B D i ⟨ob2, B2, od2, D2, hs, pvs, nn, node, tn, tb⟩ := ⟨y1, y2, y3, y4, y5, y6, y7, y8, y9, y10⟩
    k_steps
    · have hb2 : q / 2 ^ i % 2 = 1 := by
        rcases Nat.mod_two_eq_zero_or_one (q / 2 ^ i) with e | e
        · have h0 : Builtin.bitAnd (0 * 256 + (q : Int)) ((2 ^ hs.length : Nat) : Int) ≠ 0 := by assumption
          rw [y1] at h0
          exact absurd ((bit_and2 hq hi).mpr e) h0
        · exact e
      refine' set_end hP' (by omega) ?hB ?hp ?hH ?hl ?hd ?F ?N ?h1 ?h2 ?hX ?hz ?hs
      (case F => assumption); (case N => assumption); (case h1 => rfl); (case h2 => rfl)
      (case hd => with_reducible assumption); (case hB => with_reducible assumption); (case hp => with_reducible assumption); (case hH => with_reducible assumption); (case hl => with_reducible assumption)
      (case hX => rw [comb, if_pos hb2]); (case hz => rfl); (case hs => kst_same)
    · have hb2 : ¬ q / 2 ^ i % 2 = 1 := by
        have h0 : Builtin.bitAnd (0 * 256 + (q : Int)) ((2 ^ hs.length : Nat) : Int) = 0 := by assumption
        rw [y1] at h0
        have := (bit_and2 hq hi).mp h0
        omega
      refine' set_end hP' (by omega) ?hB ?hp ?hH ?hl ?hd ?F ?N ?h1 ?h2 ?hX ?hz ?hs
      (case F => assumption); (case N => assumption); (case h1 => rfl); (case h2 => rfl)
      (case hd => with_reducible assumption); (case hB => with_reducible assumption); (case hp => with_reducible assumption); (case hH => with_reducible assumption); (case hl => with_reducible assumption)
      (case hX => rw [comb, if_neg hb2]); (case hz => rfl); (case hs => kst_same)
  · rintro ⟨ob2, B2, od2, D2, hs, pvs, nn, node, tn, tb⟩ u h tk ⟨y1, y2, y3, y4, y5, y6, y7, y8, y9, y10⟩ F1 N1
    simp only at y1 y2 y3 y4 y5 y6 y7 y8 y9 y10
    dsimp only [kstB, setPs] at F1
    dsimp only at N1
    have z1 : B2.length < 50020 := by omega
    have z2 : D2.length < 500020 := by omega
    have z3 : pvs.length ≤ 1000000 := by rw [y4.length]; omega
    k_steps
    rename Hash _ _ _ => hH
    rename B2 <+: _ => hpre
    obtain ⟨e1, e2, e3⟩ := (y8.mono hpre).put (by omega) hH
    refine' hret' _ _ _ _ _ _ hs _ _ _ _ _ y4.reverse y1 ?b3 ?b4 (y6.trans hpre) ?b6 ?b7 (.snoc (y5.mono hpre e1) hH e3) (y7.trans e1) e2 ?F ?N ?l1
    (case F => assumption); (case N => exact drop4 (by assumption)); (case l1 => exact drop3lt (by assumption))
    (case b3 => with_reducible assumption); (case b4 => with_reducible assumption)
    (case b6 => omega); (case b7 => (refine Nat.le_trans (put_length _ _ _) ?_); omega)
end Mine
end
section
local macro_rules | `(tactic| walk_at "zzz") => `(tactic| fail)
local macro_rules | `(tactic| walk_at "zzz") => `(tactic| fail)
local macro_rules | `(tactic| walk_at "zzz") => `(tactic| fail)
local macro_rules | `(tactic| walk_at "zzz") => `(tactic| fail)
local macro_rules | `(tactic| walk_at "zzz") => `(tactic| fail)
local macro_rules | `(tactic| walk_at "zzz") => `(tactic| fail)
local macro_rules | `(tactic| walk_at "zzz") => `(tactic| fail)
local macro_rules | `(tactic| walk_at "zzz") => `(tactic| fail)
local macro_rules | `(tactic| walk_at "zzz") => `(tactic| fail)
local macro_rules | `(tactic| walk_at "zzz") => `(tactic| fail)
local macro_rules | `(tactic| walk_at "zzz") => `(tactic| fail)
local macro_rules | `(tactic| walk_at "zzz") => `(tactic| fail)
local macro_rules | `(tactic| walk_at "zzz") => `(tactic| fail)
local macro_rules | `(tactic| walk_at "zzz") => `(tactic| fail)
local macro_rules | `(tactic| walk_at "zzz") => `(tactic| fail)
local macro_rules | `(tactic| walk_at "zzz") => `(tactic| fail)
local macro_rules | `(tactic| walk_at "zzz") => `(tactic| fail)
local macro_rules | `(tactic| walk_at "zzz") => `(tactic| fail)
local macro_rules | `(tactic| walk_at "zzz") => `(tactic| fail)
local macro_rules | `(tactic| walk_at "zzz") => `(tactic| fail)
local macro_rules | `(tactic| walk_at "zzz") => `(tactic| fail)
local macro_rules | `(tactic| walk_at "zzz") => `(tactic| fail)
local macro_rules | `(tactic| walk_at "zzz") => `(tactic| fail)
local macro_rules | `(tactic| walk_at "zzz") => `(tactic| fail)
local macro_rules | `(tactic| walk_at "zzz") => `(tactic| fail)
local macro_rules | `(tactic| walk_at "zzz") => `(tactic| fail)
local macro_rules | `(tactic| walk_at "zzz") => `(tactic| fail)
local macro_rules | `(tactic| walk_at "zzz") => `(tactic| fail)
local macro_rules | `(tactic| walk_at "zzz") => `(tactic| fail)
local macro_rules | `(tactic| walk_at "zzz") => `(tactic| fail)
local macro_rules | `(tactic| walk_at "zzz") => `(tactic| fail)
local macro_rules | `(tactic| walk_at "zzz") => `(tactic| fail)
local macro_rules | `(tactic| walk_at "zzz") => `(tactic| fail)
local macro_rules | `(tactic| walk_at "zzz") => `(tactic| fail)
local macro_rules | `(tactic| walk_at "zzz") => `(tactic| fail)
local macro_rules | `(tactic| walk_at "zzz") => `(tactic| fail)
local macro_rules | `(tactic| walk_at "zzz") => `(tactic| fail)
local macro_rules | `(tactic| walk_at "zzz") => `(tactic| fail)
local macro_rules | `(tactic| walk_at "zzz") => `(tactic| fail)
local macro_rules | `(tactic| walk_at "zzz") => `(tactic| fail)
local macro_rules | `(tactic| walk_at "zzz") => `(tactic| fail)
local macro_rules | `(tactic| walk_at "zzz") => `(tactic| fail)
local macro_rules | `(tactic| walk_at "zzz") => `(tactic| fail)
local macro_rules | `(tactic| walk_at "zzz") => `(tactic| fail)
local macro_rules | `(tactic| walk_at "zzz") => `(tactic| fail)
local macro_rules | `(tactic| walk_at "zzz") => `(tactic| fail)
local macro_rules | `(tactic| walk_at "zzz") => `(tactic| fail)
local macro_rules | `(tactic| walk_at "zzz") => `(tactic| fail)
local macro_rules | `(tactic| walk_at "zzz") => `(tactic| fail)
local macro_rules | `(tactic| walk_at "zzz") => `(tactic| fail)
local macro_rules | `(tactic| walk_at "zzz") => `(tactic| fail)
local macro_rules | `(tactic| walk_at "zzz") => `(tactic| fail)
local macro_rules | `(tactic| walk_at "zzz") => `(tactic| fail)
local macro_rules | `(tactic| walk_at "zzz") => `(tactic| fail)
local macro_rules | `(tactic| walk_at "zzz") => `(tactic| fail)
local macro_rules | `(tactic| walk_at "zzz") => `(tactic| fail)
local macro_rules | `(tactic| walk_at "zzz") => `(tactic| fail)
local macro_rules | `(tactic| walk_at "zzz") => `(tactic| fail)
local macro_rules | `(tactic| walk_at "zzz") => `(tactic| fail)
local macro_rules | `(tactic| walk_at "zzz") => `(tactic| fail)
local macro_rules | `(tactic| walk_at "zzz") => `(tactic| fail)
local macro_rules | `(tactic| walk_at "zzz") => `(tactic| fail)
local macro_rules | `(tactic| walk_at "zzz") => `(tactic| fail)
local macro_rules | `(tactic| walk_at "zzz") => `(tactic| fail)
local macro_rules | `(tactic| walk_at "zzz") => `(tactic| fail)
local macro_rules | `(tactic| walk_at "zzz") => `(tactic| fail)
local macro_rules | `(tactic| walk_at "zzz") => `(tactic| fail)
local macro_rules | `(tactic| walk_at "zzz") => `(tactic| fail)
local macro_rules | `(tactic| walk_at "zzz") => `(tactic| fail)
local macro_rules | `(tactic| walk_at "zzz") => `(tactic| fail)
local macro_rules | `(tactic| walk_at "zzz") => `(tactic| fail)
local macro_rules | `(tactic| walk_at "zzz") => `(tactic| fail)
local macro_rules | `(tactic| walk_at "zzz") => `(tactic| fail)
local macro_rules | `(tactic| walk_at "zzz") => `(tactic| fail)
local macro_rules | `(tactic| walk_at "zzz") => `(tactic| fail)
local macro_rules | `(tactic| walk_at "zzz") => `(tactic| fail)
local macro_rules | `(tactic| walk_at "zzz") => `(tactic| fail)
local macro_rules | `(tactic| walk_at "zzz") => `(tactic| fail)
local macro_rules | `(tactic| walk_at "zzz") => `(tactic| fail)
local macro_rules | `(tactic| walk_at "zzz") => `(tactic| fail)
open PySem PySem.W PyProof.Rows PySem.Calls
set_option Elab.async false
set_option maxRecDepth 100000
set_option maxHeartbeats 4000000
set_option linter.unusedSimpArgs false
set_option linter.unusedSectionVars false
set_option linter.unusedVariables false
theorem Mine.fillK5 : (fun (_ : OpenLaw) (_ : Params → Frag) => True) PySem.Challenge.rw_bs0043_01 Mine.hd.heap_39 := by w_top off; k_fill; trivial
namespace Mine
local macro_rules | `(tactic| k_all) => `(tactic| assumption)
local macro_rules | `(tactic| k_mem) => `(tactic| first | assumption | exact List.mem_append_left _ (by assumption))
local macro_rules | `(tactic| k_room) => `(tactic| ((try simp only [depth_under_make, depth_under_kw, depth_in1, depth_deeper, depth_caller]); (try dsimp only [ktrTop]); omega))
local macro_rules | `(tactic| k_units) => `(tactic| ((have hcL9 := cLine_is); (try simp only [units_in1, units_deeper, Around.mark_units, units_caller]); (try dsimp only [ktrTop]); omega))
local macro_rules | `(tactic| walk_at "call ref") => `(tactic| (k_here; (with_reducible show wpAny _ _ (call (Value.ref 116) _) _ _ _); k_dflt (refine' getI_ok _ _ _ _ _ _ _ _ _ _ _ _ _ _ _ _ _ ?Bl ?F ?X ?N ?T ?k ?d ?u ?mt ?md ?mdb ?hT ?hD ?Tr ?root ?q ?key ?_; (case Bl => k_asm); (case F => k_asm); (case X => k_asm); (case N => k_asm); (case T => k_asm); (case k => rfl); (case d => k_room); (case u => k_units); (case mt => k_mem); (case md => k_mem); (case hT => exact ⟨_, _, _, _, _, _, _, _, _, _, rfl⟩); (case mdb => k_mem); (case hD => with_reducible assumption); (case Tr => with_reducible assumption); (case root => rfl); (case q => assumption); (case key => assumption); k_whole); intro r' tp' t0' vs' h' tk' hvs' F' N' l1 l2; (try k_sweep)))
theorem drop1 {h₀ h : Heap} {L : Addr} {x y : Addr × Obj} {e : List (Addr × Obj)} (N : News h₀ L h (x :: y :: e)) : News h₀ L h (y :: e) := fun p hp => N p (.tail _ hp)
theorem branchI_ok {prog : Program} {w : World} {p : Program} {loose : List Str} {mean : ExcName → Option Value} {mg mb : Str → Option Value}
    (dp un : Nat) (gd : Option (List Code)) (cn : Str) (cs : Scope) (a : Addr) (ccd : Value) (cl : List (Str × Addr)) (outer : List Env) (A₀ : Around) (base h₀ : Heap) (L : Addr) (m : Str → Option Value) (s : Shared) (Q E : Value → Shared → Prop)
    {news : List (Addr × Obj)} {tr td db hof : Addr} {od otd : Obj} {root key : Bts} {tkk : Tok} {q : Nat} {B : List Bts} {D : List (List UInt8 × Bts)} {ℓ : Nat → Bts} {H : Nat → Nat → Bts}
    (Bl : Below A₀ base outer h₀) (F : Fr h₀ L s.heap m) (X : (Mine.hd.heap_39 w.params).In h₀) (N : News h₀ L s.heap news) (T : Top p loose mean mg mb h₀) (hk : cs.kind = .function) (hd : dp + 6 < recursionLimit) (hu : un + 40 < cLine)
    (mt : (tr, instObj 168 td) ∈ news) (md : (td, otd) ∈ news) (mdb : (db, od) ∈ news) (hT : IsTD w.params otd hof db root) (hD : DB (bytesKind prog w) od D) (Tr : Tree B D ℓ H) (hroot : root = H 0 0) (hq : q < 256) (hkey : KBw.bInts key = [(q : Int)])
    (hret : ∀ (tp : Addr) (vs : List Value) (h' : Heap) (tk' : Nat), BytesAre vs (branchOf H q) → Fr h₀ L h' m → News h₀ L h' ((tp, tupO vs) :: news) → (∀ q ∈ news, q.1 < tp) → Q (.ref tp) { s with heap := h', toks := tk' }) :
    wpAny (model prog w) (ktrTop dp un gd cn cs L a ccd cl outer) (call (.ref 109) [.ref tr, .bytes key tkk]) Q E s := by
  obtain ⟨k1, k2, k3, k4, k5, k6, v1, v2, v3, v6, rfl⟩ := hT
  subst hroot
  have hfull := (Tr.full q).1
  refine wpAny_call ?_
  k_dflt cell_enter
  k_steps
  · have e : ((ℓ q).toList == (#[] : Bts).toList) = true := by assumption
    have e2 : (ℓ q).toList = [] := by simpa using e
    have e3 : (ℓ q).toList.length = 0 := by rw [e2]; rfl
    rw [Array.length_toList] at e3
    exact absurd e3 (Nat.ne_of_gt hfull)
  · refine' hret _ _ _ _ ?v ?F ?N ?l
    (case v => assumption); (case F => assumption); (case l => assumption)
    (case N => refine' drop1 ?n; (case n => assumption))
end Mine
end
section
open PySem PySem.W PyProof.Rows PySem.Calls
set_option Elab.async false
set_option maxRecDepth 100000
set_option maxHeartbeats 4000000
set_option linter.unusedSimpArgs false
set_option linter.unusedSectionVars false
set_option linter.unusedVariables false
theorem Mine.fillK6 : (fun (_ : OpenLaw) (_ : Params → Frag) => True) PySem.Challenge.rw_bs0043_01 Mine.hd.heap_39 := by w_top off; k_fill; trivial
namespace Mine
inductive IChain (v : Bts) (B : List Bts) (D : List (List UInt8 × Bts)) : List Bts → Bts → Prop
  | nil : IChain v B D [] v
  | snoc {hs : List Bts} {node h : Bts} : IChain v B D hs node → Hash B node h → look D h.toList = some node → IChain v B D (hs ++ [h]) (h ++ h)
theorem IChain.mono {v : Bts} {B B' : List Bts} {D D' : List (List UInt8 × Bts)} {hs : List Bts} {node : Bts} (c : IChain v B D hs node) (p : B <+: B') (e : Ext D D') : IChain v B' D' hs node := by
  induction c with
  | nil => exact .nil
  | snoc _ h1 h2 ih => exact .snoc ih (h1.mono p) (e _ _ h2)
theorem IChain.at {v : Bts} {B : List Bts} {D : List (List UInt8 × Bts)} {hs : List Bts} {node : Bts} (c : IChain v B D hs node) :
    (hs = [] ∧ node = v ∨ ∃ h, hs[hs.length - 1]? = some h ∧ 0 < hs.length ∧ node = h ++ h) ∧
    ∀ k h, hs[k]? = some h → ∃ t, Hash B t h ∧ look D h.toList = some t ∧ (k = 0 → t = v) ∧ (∀ j, k = j + 1 → ∃ h', hs[j]? = some h' ∧ t = h' ++ h') := by
  induction c with
  | nil => exact ⟨.inl ⟨rfl, rfl⟩, fun k h e => by simp at e⟩
  | @snoc hs node h c h1 h2 ih =>
    refine ⟨.inr ⟨h, by simp, by simp, by simp⟩, fun k h' e => ?_⟩
    rcases Nat.lt_or_ge k hs.length with hk | hk
    · rw [List.getElem?_append_left hk] at e
      obtain ⟨t, a1, a2, a3, a4⟩ := ih.2 k h' e
      refine ⟨t, a1, a2, a3, fun j hj => ?_⟩
      obtain ⟨h'', b1, b2⟩ := a4 j hj
      exact ⟨h'', by rw [List.getElem?_append_left (by omega)]; exact b1, b2⟩
    · have : k = hs.length := by
        have := (List.getElem?_eq_some_iff.mp e).1
        simp at this; omega
      subst this
      have e' : h = h' := by simpa using e
      subst e'
      refine ⟨node, h1, h2, fun h0 => ?_, fun j hj => ?_⟩
      · rcases ih.1 with ⟨_, e2⟩ | ⟨_, _, h3, _⟩
        · exact e2
        · omega
      · rcases ih.1 with ⟨e1, _⟩ | ⟨x, b1, _, b2⟩
        · rw [e1] at hj; simp at hj
        · have : hs.length - 1 = j := by omega
          rw [this] at b1
          exact ⟨x, by rw [List.getElem?_append_left (by omega)]; exact b1, b2⟩
def initH (hs : List Bts) (d _p : Nat) : Bts := hs.getD (8 - d) #[]
theorem tree_init {B : List Bts} {D : List (List UInt8 × Bts)} {v node : Bts} {hs : List Bts} (c : IChain v B D hs node) (hl : hs.length = 9) (hb : Back B D) (hv : 0 < v.size ∧ v.size < 60) : Tree B D (fun _ => v) (initH hs) := by
  have ca := c.at.2
  have get : ∀ k, k < 9 → hs[k]? = some (hs.getD k #[]) := fun k hk => by
    rw [List.getD_eq_getElem?_getD, List.getElem?_eq_getElem (by omega)]; rfl
  refine ⟨fun x _ => ?_, fun d hd x _ => ?_, hb, fun _ => hv⟩
  · obtain ⟨t, a1, a2, a3, _⟩ := ca 0 _ (get 0 (by omega))
    rw [a3 rfl] at a1 a2
    exact ⟨a2, a1⟩
  · obtain ⟨t, a1, a2, _, a4⟩ := ca (8 - d) _ (get (8 - d) (by omega))
    obtain ⟨h', b1, b2⟩ := a4 (7 - d) (by omega)
    rw [get (7 - d) (by omega)] at b1
    have b1 := Option.some.inj b1
    have e : initH hs (d + 1) (2 * x) ++ initH hs (d + 1) (2 * x + 1) = t := by
      unfold initH
      rw [show 8 - (d + 1) = 7 - d by omega, b1, b2]
    rw [e]
    exact ⟨a2, a1⟩
structure InJ where
  ob : Obj
  B : List Bts
  od : Obj
  D : List (List UInt8 × Bts)
  hs : List Bts
  node : Bts
  tn : Tok
abbrev inLed (bk db : Addr) (rest : List (Addr × Obj)) (c : InJ) : List (Addr × Obj) := (bk, c.ob) :: (db, c.od) :: rest
abbrev inPs (c : InJ) : List (Str × Value) := [(Str.ofString "node", .bytes c.node c.tn)]
structure InP (prog : Program) (w : World) (v : Bts) (B₀ : List Bts) (i : Nat) (c : InJ) : Prop where
  len : c.hs.length = i
  book : Book prog w c.ob c.B
  db : DB (bytesKind prog w) c.od c.D
  chain : IChain v c.B c.D c.hs c.node
  pre : B₀ <+: c.B
  back : Back c.B c.D
  bl : c.B.length ≤ B₀.length + i
  dl : c.D.length ≤ i
section
variable {prog : Program} {w : World} {A : Around} {E : Value → Shared → Prop} {s : Shared} {env : Env} {h₀ : Heap} {x : Str} {body : List Stmt} {Q : Flow → Shared → Prop}
theorem init_loop {bk db x' d' r : Addr} {rest0 : List (Addr × Obj)} {ob od ox otd : Obj} {B : List Bts} {v : Bts} {tn t₀ u₀ v₀ : Tok} {m₀ : Str → Option Value}
    (hh : A.handled = none) (hr : IsRange s.heap r 0 (1 * 8) 1 t₀ u₀ v₀) (F : Fr h₀ env.locals s.heap m₀) (N₀ : News h₀ env.locals s.heap ((db, od) :: (x', ox) :: (d', otd) :: (bk, ob) :: rest0))
    (l1 : @LT.lt Nat _ x' db ∧ @LT.lt Nat _ d' db ∧ @LT.lt Nat _ bk db ∧ AllLt db rest0) (r0 : ∀ p ∈ rest0, p.1 ≠ bk) (r1 : ∀ p ∈ (bk, ob) :: rest0, p.1 ≠ x') (r2 : ∀ p ∈ (bk, ob) :: rest0, p.1 ≠ d') (hB : Book prog w ob B) (hD : Obj.IsDictOf (strKind prog w) od []) (hn : m₀ (Str.ofString "node") = some (.bytes v tn))
    (turn : ∀ (c : InJ) (i : Nat) (t : Tok) (u : Str → Option Value) h tk own, i < 8 → (∀ p ∈ (x', ox) :: (d', otd) :: (rest0 ++ own), p.1 ≠ bk) → (∀ p ∈ (x', ox) :: (d', otd) :: (rest0 ++ own), p.1 ≠ db) → InP prog w v B i c →
      Fr h₀ env.locals h (fun y => if y = x then some (.int (i : Int) t) else kstB (fun z => if [Str.ofString "node_hash"].contains z then u z else m₀ z) (inPs c) y) → News h₀ env.locals h ((bk, c.ob) :: (db, c.od) :: (x', ox) :: (d', otd) :: (rest0 ++ own)) →
      wpAny (model prog w) A (execs body env) (InvPostN h₀ env.locals (KN (inLed bk db ((x', ox) :: (d', otd) :: rest0)) inPs x [Str.ofString "node_hash"] m₀ (InP prog w v B) (i + 1)) own (bk :: db :: x' :: d' :: rest0.map (·.1)) { s with heap := h, toks := tk } Q) E { s with heap := h, toks := tk })
    (done : ∀ (c : InJ) (u : Str → Option Value) h tk, (∀ p ∈ (x', ox) :: (d', otd) :: rest0, p.1 ≠ bk) → (∀ p ∈ (x', ox) :: (d', otd) :: rest0, p.1 ≠ db) → InP prog w v B 8 c → Fr h₀ env.locals h (fun y => if y = x then u y else kstB (fun z => if [Str.ofString "node_hash"].contains z then u z else m₀ z) (inPs c) y) → News h₀ env.locals h ((bk, c.ob) :: (db, c.od) :: (x', ox) :: (d', otd) :: rest0) → Q .next { s with heap := h, toks := tk }) :
    wpAny (model prog w) A (pyIter (.ref r)) (fun it s₂ => LoopAtV prog w A h₀ env x body Q E it s₂) E s := by
  have a1 : ∀ p ∈ (x', ox) :: (d', otd) :: rest0, p.1 ≠ bk := fun p hp => by
    rcases List.mem_cons.mp hp with rfl | hp
    · exact Ne.symm (r1 _ (.head _))
    · rcases List.mem_cons.mp hp with rfl | hp
      · exact Ne.symm (r2 _ (.head _))
      · exact r0 p hp
  have a2 : ∀ p ∈ (x', ox) :: (d', otd) :: rest0, p.1 ≠ db := fun p hp => by
    rcases List.mem_cons.mp hp with rfl | hp
    · exact Nat.ne_of_lt l1.1
    · rcases List.mem_cons.mp hp with rfl | hp
      · exact Nat.ne_of_lt l1.2.1
      · exact Nat.ne_of_lt (allLt_mem l1.2.2.2 p hp)
  have N : News h₀ env.locals s.heap ((bk, ob) :: (db, od) :: (x', ox) :: (d', otd) :: rest0) := news_sub N₀ fun p hp => by
    rcases List.mem_cons.mp hp with rfl | hp
    · exact .tail _ (.tail _ (.tail _ (.head _)))
    · rcases List.mem_cons.mp hp with rfl | hp
      · exact .head _
      · rcases List.mem_cons.mp hp with rfl | hp
        · exact .tail _ (.head _)
        · rcases List.mem_cons.mp hp with rfl | hp
          · exact .tail _ (.tail _ (.head _))
          · exact .tail _ (.tail _ (.tail _ (.tail _ hp)))
  refine kn_range (n := 8) (inLed bk db ((x', ox) :: (d', otd) :: rest0)) inPs [Str.ofString "node_hash"] (InP prog w v B) ⟨ob, B, od, [], [], v, tn⟩ hh hr (by decide) (by decide) F N ?_ ⟨rfl, hB, DB.nil hD, .nil, List.prefix_refl B, (fun k v e => by cases e), Nat.le_refl _, Nat.le_refl _⟩ ?_ ?_
  · intro p hp
    rcases List.mem_cons.mp hp with rfl | hp
    · exact hn
    · cases hp
  · rintro c i t u h tk own hi hoff hP F' N'
    have e : ∀ (z : Addr), z ∈ bk :: db :: x' :: d' :: rest0.map (·.1) → (∀ p ∈ (x', ox) :: (d', otd) :: rest0, p.1 ≠ z) → ∀ p ∈ (x', ox) :: (d', otd) :: (rest0 ++ own), p.1 ≠ z := fun z hz h p hp => by
      rcases List.mem_cons.mp hp with rfl | hp
      · exact h _ (.head _)
      · rcases List.mem_cons.mp hp with rfl | hp
        · exact h _ (.tail _ (.head _))
        · exact (List.mem_append.mp hp).elim (fun hp => h p (.tail _ (.tail _ hp))) fun hp => hoff p hp z hz
    exact turn c i t u h tk own hi (e bk (.head _) a1) (e db (.tail _ (.head _)) a2) hP F' N'
  · rintro c u h tk hP F' N'
    exact done c u h tk a1 a2 hP F' N'
end
local macro_rules | `(tactic| k_all) => `(tactic| assumption)
local macro_rules | `(tactic| k_mem) => `(tactic| first | assumption | exact List.mem_append_left _ (by assumption))
local macro_rules | `(tactic| k_room) => `(tactic| ((try simp only [depth_under_make, depth_under_kw, depth_in1, depth_deeper, depth_caller]); (try dsimp only [ktrTop]); omega))
local macro_rules | `(tactic| k_units) => `(tactic| ((have hcL9 := cLine_is); (try simp only [units_under_make, units_in1, units_deeper, Around.mark_units, units_caller]); (try dsimp only [ktrTop]); omega))
local macro_rules | `(tactic| walk_at "pyIter ref") => `(tactic| refine rest ?_)
local macro_rules | `(tactic| walk_at "InvEndN") => `(tactic| refine rest ?_)
local macro_rules | `(tactic| walk_at "call ref") => `(tactic| (k_here; (with_reducible show wpAny _ _ (call (Value.ref _) [Value.bytes _ _]) _ _ _); k_dflt (refine' hash_use ?HC ?Bl ?F ?X ?N ?T ?k ?d ?u ?U ?mc ?mh ?mo ?hB ?l ?_; (case HC => with_reducible assumption); (case Bl => k_asm); (case F => k_asm); (case X => k_asm); (case N => k_asm); (case T => k_asm); (case k => rfl); (case d => k_room); (case u => k_units); (case U => k_updF); (case mc => k_mem); (case mh => k_mem); (case mo => k_mem); (case hB => with_reducible assumption); (case l => omega); k_whole); intro hh' tk' ob' B' h' tks' hB' hpre' hH' hl' F' N'; (try dsimp only at N'); (have hs' := Hash.size hH'); (try k_sweep)))
local macro_rules | `(tactic| walk_at "setItem ref") => `(tactic| (k_here; (with_reducible show wpAny _ _ (setItem (Value.ref _) (Value.bytes _ _) (Value.bytes _ _)) _ _ _); k_dflt (refine' db_set (knd := bytesKind _ _) ?F ?N ?U ?d ?k ?z ?_; (case F => k_asm); (case N => k_asm); (case U => k_updF); (case d => with_reducible assumption); (case k => exact bk_is _ _ _ _); (case z => omega)); intro h' o' F' N' hd'; (try dsimp only at N'); (try k_sweep)))
local macro_rules | `(tactic| walk_at "binaryOp Add") => `(tactic| (k_here; (with_reducible show wpAny _ _ (binaryOp _ (Value.bytes _ _) (Value.bytes _ _)) _ _ _); k_dflt (refine' add_B ?a ?b ?_; (case a => omega); (case b => omega)); intro _ _))
local macro_rules | `(tactic| walk_at "callWith ref") => `(tactic| (k_here; k_dflt (refine' callWith_F ?k1 ?_; (case k1 => exact FnAt.of (by k_asm) (by k_mem)); k_whole)))
theorem init_end {prog : Program} {w : World} {bk db x' d' L : Addr} {rest0 own : List (Addr × Obj)} {ob2 od2 ob' od' ox otd : Obj} {B B2 B' : List Bts} {D2 : List (List UInt8 × Bts)} {i : Nat} {v node h X : Bts} {tX tn : Tok} {hs : List Bts} {m₀ m' : Str → Option Value} {x : Str} {h₀ h' : Heap} {s₁ : Shared} {tk : Nat}
    (P : InP prog w v B i ⟨ob2, B2, od2, D2, hs, node, tn⟩) (hB2 : B2.length < 60000) (hB' : Book prog w ob' B') (hpre : B2 <+: B') (hH : Hash B' node h) (hl : B'.length ≤ B2.length + 1) (hd : DB (bytesKind prog w) od' (put D2 h.toList node))
    (F : Fr h₀ L h' m') (N : News h₀ L h' ((bk, ob') :: (db, od') :: (x', ox) :: (d', otd) :: (rest0 ++ own)))
    (h1 : m' (Str.ofString "node") = some (.bytes X tX)) (hX : X = h ++ h)
    (hsame : ∀ z, z ≠ x → (∀ p ∈ inPs ⟨ob', B', od', put D2 h.toList node, hs ++ [h], X, tX⟩, z ≠ p.1) → [Str.ofString "node_hash"].contains z = false → m' z = m₀ z) :
    InvEndN h₀ L (KN (inLed bk db ((x', ox) :: (d', otd) :: rest0)) inPs x [Str.ofString "node_hash"] m₀ (InP prog w v B) (i + 1)) own (bk :: db :: x' :: d' :: rest0.map (·.1)) s₁ { s₁ with heap := h', toks := tk } := by
  obtain ⟨y1, y2, y3, y4, y5, y6, y7, y8⟩ := P
  simp only at y1 y2 y3 y4 y5 y6 y7 y8
  obtain ⟨e1, e2, e3⟩ := (y6.mono hpre).put (by omega) hH
  refine kn_end ⟨ob', B', od', put D2 h.toList node, hs ++ [h], X, tX⟩ F N ?_ ?_ rfl ?_ hsame ?_
  · intro p hp
    rcases List.mem_cons.mp hp with rfl | hp
    · exact .head _
    · rcases List.mem_cons.mp hp with rfl | hp
      · exact .tail _ (.head _)
      · rcases List.mem_cons.mp hp with rfl | hp
        · exact .tail _ (.tail _ (.head _))
        · rcases List.mem_cons.mp hp with rfl | hp
          · exact .tail _ (.tail _ (.tail _ (.head _)))
          · exact .tail _ (.tail _ (.tail _ (.tail _ (List.mem_append_left _ hp))))
  · intro p hp
    exact .tail _ (.tail _ (.tail _ (.tail _ (List.mem_append_right _ hp))))
  · intro p hp
    rcases List.mem_cons.mp hp with rfl | hp
    · exact h1
    · cases hp
  · refine ⟨by simp [y1], hB', hd, ?_, y5.trans hpre, e2, by simp only; omega, by have := put_length D2 h.toList node; simp only; omega⟩
    simp only
    rw [hX]
    exact .snoc (y4.mono hpre e1) hH e3
theorem initI_ok {prog : Program} {w : World} {p : Program} {loose : List Str} {mean : ExcName → Option Value} {mg mb : Str → Option Value}
    (dp un : Nat) (gd : Option (List Code)) (cn : Str) (cs : Scope) (a : Addr) (ccd : Value) (cl : List (Str × Addr)) (outer : List Env) (A₀ : Around) (base h₀ : Heap) (L : Addr) (m : Str → Option Value) (s : Shared) (Q E : Value → Shared → Prop)
    {news : List (Addr × Obj)} {g1 : Obj → List (Addr × Obj)} {hof bk bkc cod : Addr} {ob oc oco : Obj} {B : List Bts} {t1 t2 : Tok}
    {nm ql : Str} {ps : Arguments} {bd : PySem.Expr} {sc : Scope} {clo : List (Str × Addr)} {pm ctv : Value}
    (Bl : Below A₀ base outer h₀) (F : Fr h₀ L s.heap m) (X : (Mine.hd.heap_39 w.params).In h₀) (N : News h₀ L s.heap news) (T : Top p loose mean mg mb h₀) (hk : cs.kind = .function) (hd : dp + 6 < recursionLimit) (hu : un + 40 < cLine)
    (U1 : UpdF bk ob news g1)
    (mh : (hof, kla_obj nm ql ps bd sc clo pm cod ctv) ∈ news) (mc : (bkc, oc) ∈ news) (mo : (cod, oco) ∈ news)
    (HC : HashC prog w p loose mean mg mb hof bk bkc cod (kla_obj nm ql ps bd sc clo pm cod ctv) oc oco)
    (hoc : NotDict oc) (hoco : NotDict oco) (hB : Book prog w ob B) (hBl : B.length < 50000)
    (hret : ∀ (tr db td : Addr) (ob' od otd : Obj) (B' : List Bts) (D : List (List UInt8 × Bts)) (H : Nat → Nat → Bts) (h' : Heap) (tk' : Nat), Book prog w ob' B' → DB (bytesKind prog w) od D → B <+: B' → B'.length ≤ B.length + 9 → D.length ≤ 9 → IsTD w.params otd hof db (H 0 0) → Tree B' D (fun _ => #[100]) H →
      Fr h₀ L h' m → News h₀ L h' ((db, od) :: (tr, instObj 168 td) :: (td, otd) :: g1 ob') → (∀ p ∈ news, p.1 < td) → @LT.lt Nat _ td tr → @LT.lt Nat _ tr db → Q (.ref tr) { s with heap := h', toks := tk' }) :
    wpAny (model prog w) (ktrTop dp un gd cn cs L a ccd cl outer) (call (.ref 168) [.ref hof, .int 1 t1, .bytes #[100] t2]) Q E s := by
  have N1 := news_lessIn N (updF_mem U1)
  have r0 := less_ne (d := bk) (l := news)
  have nd : ∀ (z : Addr) (o : Obj), (z, o) ∈ news → NotDict o → (z, o) ∈ less bk news := fun z o hm hn => less_mem.mpr ⟨hm, updF_ne U1 hm (fun e => by obtain ⟨es, n, e2⟩ := hB.isDict; rw [e] at hn; exact hn _ _ e2)⟩
  have i2 : (hof, kla_obj nm ql ps bd sc clo pm cod ctv) ∈ less bk news := nd _ _ mh (fun _ _ e => nomatch e)
  have i3 : (bkc, oc) ∈ less bk news := nd _ _ mc hoc
  have i4 : (cod, oco) ∈ less bk news := nd _ _ mo hoco
  have hout : ∀ o', ∀ p ∈ g1 o', p = (bk, o') ∨ p ∈ less bk news := fun o' p hp => (updF_out U1 hp).imp id fun h => less_mem.mpr h
  have hin : ∀ p ∈ news, p ∈ (bk, ob) :: less bk news := fun p hp => by
    rcases hout ob p (by rw [updF_at U1]; exact hp) with rfl | h
    · exact .head _
    · exact .tail _ h
  generalize less bk news = rest0 at N1 r0 i2 i3 i4 hout hin
  clear nd
  clear N mh mc mo
  have mh := i2
  have mc := i3
  have mo := i4
  k_dflt (refine' call_cls ?k1 ?k2 ?k3 ?k4 ?k5 ?k6 ?_; (case k1 => k_asm); (case k2 => k_asm); (case k3 => k_asm); (case k4 => k_is); (case k5 => k_is); (case k6 => k_is); k_whole; intro x' d' h' F' N' l1 l2; (try k_sweep))
  have r1 : ∀ p ∈ (bk, ob) :: rest0, p.1 ≠ x' := fun p hp => Nat.ne_of_lt (Nat.lt_trans (l1 p hp) l2)
  have r2 : ∀ p ∈ (bk, ob) :: rest0, p.1 ≠ d' := fun p hp => Nat.ne_of_lt (l1 p hp)
  have l2 : @LT.lt Nat _ d' x' := l2
  k_dflt (refine' code_def ?k1 ?k2 ?k3 ?k4 ?k5 ?kA ?kF ?kK ?k6 ?k7 ?k8 ?k9 ?kB ?_ ?c2 ?c3 ?c4 ?c5; (case kA => exact rfl); (case kF => exact rfl); (case kK => assumption); (case k1 => k_asm); (case k2 => k_asm); (case k3 => k_asm); (case k4 => k_asm); (case k5 => k_asm); (case k6 => k_is); (case k7 => k_is); (case k8 => k_room); (case k9 => exact binds_K (by k_in) rfl (by k_is) rfl rfl rfl); (case c5 => decide); (case kB => exact locs rfl); (case c2 => exact rfl); (case c3 => exact rfl); (case c4 => exact rfl); k_whole; intro g' L' h' FG' F' N' B' X' T'; (try dsimp only); (try k_lift B'); (try k_fold))
  k_steps
  show wpAny _ _ _ _ _ _
  refine init_loop rfl (by assumption) (by assumption) (by assumption) (by with_reducible assumption) r0 r1 r2 hB (by with_reducible assumption) rfl ?_ ?_
  · rintro ⟨ob2, B2, od2, D2, hs, node, tn⟩ i t u h tk own hi x1 x2 ⟨y1, y2, y3, y4, y5, y6, y7, y8⟩ F1 N1
    simp only at y1 y2 y3 y4 y5 y6 y7 y8
    dsimp only [kstB, inPs] at F1
    dsimp only at N1
    have z1 : B2.length < 50020 := by omega
    have z2 : D2.length < 500020 := by omega
    have hP' : InP prog w #[100] B i ⟨ob2, B2, od2, D2, hs, node, tn⟩ := ⟨y1, y2, y3, y4, y5, y6, y7, y8⟩
    k_steps
    refine' init_end hP' (by omega) ?hB ?hp ?hH ?hl ?hd ?F ?N ?h1 ?hX ?hs
    (case F => assumption); (case N => assumption); (case h1 => rfl)
    (case hd => with_reducible assumption); (case hB => with_reducible assumption); (case hp => with_reducible assumption); (case hH => with_reducible assumption); (case hl => with_reducible assumption)
    (case hX => rfl); (case hs => kst_same)
  · rintro ⟨ob2, B2, od2, D2, hs, node, tn⟩ u h tk x1 x2 ⟨y1, y2, y3, y4, y5, y6, y7, y8⟩ F1 N1
    simp only at y1 y2 y3 y4 y5 y6 y7 y8
    dsimp only [kstB, inPs] at F1
    dsimp only at N1
    have z1 : B2.length < 50020 := by omega
    have z2 : D2.length < 500020 := by omega
    have r2' : ∀ p ∈ rest0, p.1 ≠ d' := fun p hp => r2 p (.tail _ hp)
    have n1 : @Ne Nat bk d' := r2 (bk, ob) (.head _)
    have n2 : @Ne Nat bk x' := r1 (bk, ob) (.head _)
    rename @LT.lt Nat _ x' _ ∧ _ => l3
    have l4 := l3.1
    have x2' := fun p hp => x2 p (.tail _ (.tail _ hp))
    clear x1 x2
    have hret' : ∀ (dbx : Addr) (ob' od otd : Obj) (h : Bts) (B' : List Bts) (D : List (List UInt8 × Bts)) (h' : Heap) (tk' : Nat), Book prog w ob' B' → DB (bytesKind prog w) od D → B2 <+: B' → B'.length ≤ B2.length + 1 → Hash B' node h → D = put D2 h.toList node → IsTD w.params otd hof dbx h → @LT.lt Nat _ x' dbx →
      Fr h₀ L h' m → News h₀ L h' ((bk, ob') :: (dbx, od) :: (x', instObj 168 d') :: (d', otd) :: rest0) → Q (.ref x') { s with heap := h', toks := tk' } := by
      intro dbx ob' od otd h B' D h' tk' c1 c2 c3 c4 c5 c6 c7 l4 F' N'
      subst c6
      obtain ⟨e1, e2, e3⟩ := (y6.mono c3).put (by omega) c5
      have hl9 : (hs ++ [h]).length = 9 := by simp [y1]
      have hT := tree_init (.snoc (y4.mono c3 e1) c5 e3) hl9 e2 ⟨by decide, by decide⟩
      have hr : initH (hs ++ [h]) 0 0 = h := by
        unfold initH
        rw [List.getD_eq_getElem?_getD, List.getElem?_append_right (by omega)]
        simp [y1]
      refine hret x' _ d' ob' od otd B' _ (initH (hs ++ [h])) h' tk' c1 c2 (y5.trans c3) (by omega) (Nat.le_trans (put_length _ _ _) (by omega)) (by rw [hr]; exact c7) hT F' (fun p hp => ?_) (fun p hp => l1 p (hin p hp)) l2 l4
      rcases List.mem_cons.mp hp with rfl | hp
      · exact N' _ (.tail _ (.head _))
      · rcases List.mem_cons.mp hp with rfl | hp
        · exact N' _ (.tail _ (.tail _ (.head _)))
        · rcases List.mem_cons.mp hp with rfl | hp
          · exact N' _ (.tail _ (.tail _ (.tail _ (.head _))))
          · rcases hout _ _ hp with rfl | hp
            · exact N' _ (.head _)
            · exact N' _ (.tail _ (.tail _ (.tail _ (.tail _ hp))))
    clear hret hin hout
    k_steps
    refine' hret' _ _ _ _ _ _ _ _ _ ?hB ?hd ?hp ?hl ?hH ?e ?T l4 ?F ?N
    (case F => assumption); (case N => assumption)
    (case hd => with_reducible assumption); (case hB => with_reducible assumption); (case hp => with_reducible assumption); (case hH => with_reducible assumption); (case hl => with_reducible assumption)
    (case e => rfl); (case T => exact ⟨_, _, _, _, _, _, _, _, _, _, rfl⟩)
end Mine
end
section
local macro_rules | `(tactic| walk_at "zzz") => `(tactic| fail)
local macro_rules | `(tactic| walk_at "zzz") => `(tactic| fail)
local macro_rules | `(tactic| walk_at "zzz") => `(tactic| fail)
local macro_rules | `(tactic| walk_at "zzz") => `(tactic| fail)
local macro_rules | `(tactic| walk_at "zzz") => `(tactic| fail)
local macro_rules | `(tactic| walk_at "zzz") => `(tactic| fail)
local macro_rules | `(tactic| walk_at "zzz") => `(tactic| fail)
local macro_rules | `(tactic| walk_at "zzz") => `(tactic| fail)
local macro_rules | `(tactic| walk_at "zzz") => `(tactic| fail)
local macro_rules | `(tactic| walk_at "zzz") => `(tactic| fail)
local macro_rules | `(tactic| walk_at "zzz") => `(tactic| fail)
local macro_rules | `(tactic| walk_at "zzz") => `(tactic| fail)
local macro_rules | `(tactic| walk_at "zzz") => `(tactic| fail)
local macro_rules | `(tactic| walk_at "zzz") => `(tactic| fail)
local macro_rules | `(tactic| walk_at "zzz") => `(tactic| fail)
local macro_rules | `(tactic| walk_at "zzz") => `(tactic| fail)
local macro_rules | `(tactic| walk_at "zzz") => `(tactic| fail)
local macro_rules | `(tactic| walk_at "zzz") => `(tactic| fail)
local macro_rules | `(tactic| walk_at "zzz") => `(tactic| fail)
local macro_rules | `(tactic| walk_at "zzz") => `(tactic| fail)
local macro_rules | `(tactic| walk_at "zzz") => `(tactic| fail)
local macro_rules | `(tactic| walk_at "zzz") => `(tactic| fail)
local macro_rules | `(tactic| walk_at "zzz") => `(tactic| fail)
local macro_rules | `(tactic| walk_at "zzz") => `(tactic| fail)
local macro_rules | `(tactic| walk_at "zzz") => `(tactic| fail)
local macro_rules | `(tactic| walk_at "zzz") => `(tactic| fail)
local macro_rules | `(tactic| walk_at "zzz") => `(tactic| fail)
local macro_rules | `(tactic| walk_at "zzz") => `(tactic| fail)
local macro_rules | `(tactic| walk_at "zzz") => `(tactic| fail)
local macro_rules | `(tactic| walk_at "zzz") => `(tactic| fail)
local macro_rules | `(tactic| walk_at "zzz") => `(tactic| fail)
local macro_rules | `(tactic| walk_at "zzz") => `(tactic| fail)
local macro_rules | `(tactic| walk_at "zzz") => `(tactic| fail)
local macro_rules | `(tactic| walk_at "zzz") => `(tactic| fail)
local macro_rules | `(tactic| walk_at "zzz") => `(tactic| fail)
local macro_rules | `(tactic| walk_at "zzz") => `(tactic| fail)
local macro_rules | `(tactic| walk_at "zzz") => `(tactic| fail)
local macro_rules | `(tactic| walk_at "zzz") => `(tactic| fail)
local macro_rules | `(tactic| walk_at "zzz") => `(tactic| fail)
local macro_rules | `(tactic| walk_at "zzz") => `(tactic| fail)
local macro_rules | `(tactic| walk_at "zzz") => `(tactic| fail)
local macro_rules | `(tactic| walk_at "zzz") => `(tactic| fail)
local macro_rules | `(tactic| walk_at "zzz") => `(tactic| fail)
local macro_rules | `(tactic| walk_at "zzz") => `(tactic| fail)
local macro_rules | `(tactic| walk_at "zzz") => `(tactic| fail)
local macro_rules | `(tactic| walk_at "zzz") => `(tactic| fail)
local macro_rules | `(tactic| walk_at "zzz") => `(tactic| fail)
local macro_rules | `(tactic| walk_at "zzz") => `(tactic| fail)
local macro_rules | `(tactic| walk_at "zzz") => `(tactic| fail)
local macro_rules | `(tactic| walk_at "zzz") => `(tactic| fail)
local macro_rules | `(tactic| walk_at "zzz") => `(tactic| fail)
local macro_rules | `(tactic| walk_at "zzz") => `(tactic| fail)
local macro_rules | `(tactic| walk_at "zzz") => `(tactic| fail)
local macro_rules | `(tactic| walk_at "zzz") => `(tactic| fail)
local macro_rules | `(tactic| walk_at "zzz") => `(tactic| fail)
local macro_rules | `(tactic| walk_at "zzz") => `(tactic| fail)
local macro_rules | `(tactic| walk_at "zzz") => `(tactic| fail)
local macro_rules | `(tactic| walk_at "zzz") => `(tactic| fail)
local macro_rules | `(tactic| walk_at "zzz") => `(tactic| fail)
local macro_rules | `(tactic| walk_at "zzz") => `(tactic| fail)
local macro_rules | `(tactic| walk_at "zzz") => `(tactic| fail)
local macro_rules | `(tactic| walk_at "zzz") => `(tactic| fail)
local macro_rules | `(tactic| walk_at "zzz") => `(tactic| fail)
local macro_rules | `(tactic| walk_at "zzz") => `(tactic| fail)
local macro_rules | `(tactic| walk_at "zzz") => `(tactic| fail)
local macro_rules | `(tactic| walk_at "zzz") => `(tactic| fail)
local macro_rules | `(tactic| walk_at "zzz") => `(tactic| fail)
local macro_rules | `(tactic| walk_at "zzz") => `(tactic| fail)
local macro_rules | `(tactic| walk_at "zzz") => `(tactic| fail)
local macro_rules | `(tactic| walk_at "zzz") => `(tactic| fail)
local macro_rules | `(tactic| walk_at "zzz") => `(tactic| fail)
local macro_rules | `(tactic| walk_at "zzz") => `(tactic| fail)
local macro_rules | `(tactic| walk_at "zzz") => `(tactic| fail)
local macro_rules | `(tactic| walk_at "zzz") => `(tactic| fail)
local macro_rules | `(tactic| walk_at "zzz") => `(tactic| fail)
local macro_rules | `(tactic| walk_at "zzz") => `(tactic| fail)
local macro_rules | `(tactic| walk_at "zzz") => `(tactic| fail)
local macro_rules | `(tactic| walk_at "zzz") => `(tactic| fail)
local macro_rules | `(tactic| walk_at "zzz") => `(tactic| fail)
local macro_rules | `(tactic| walk_at "zzz") => `(tactic| fail)
open PySem PySem.W PyProof.Rows PySem.Calls
set_option Elab.async false
set_option maxRecDepth 100000
set_option maxHeartbeats 4000000
set_option linter.unusedSimpArgs false
set_option linter.unusedSectionVars false
set_option linter.unusedVariables false
theorem Mine.fillK7 : (fun (_ : OpenLaw) (_ : Params → Frag) => True) PySem.Challenge.rw_bs0043_01 Mine.hd.heap_39 := by w_top off; k_fill; trivial
namespace Mine
/-! list comprehensions, each turn apart -/
def ElIs (news : List (Addr × Obj)) (R : Value → Prop) (y : Value) (news' : List (Addr × Obj)) : Prop := news' = news ∧ R y
section
variable {prog : Program} {w : World} {A : Around} {h₀ : Heap} {L : Addr} {m : Str → Option Value} {env : Env} {elt : PySem.Expr} {x : Str} {scope : Scope} {cl : List (Str × Addr)} {s : Shared} {S : List (Addr × Obj) → Prop} {P : Nat → Value → Prop} {Fin : List Value → List (Addr × Obj) → Prop} {news : List (Addr × Obj)}
theorem comp_end {s₁ : Shared} {I C D : Addr} {oI oC oD : Obj} {R : Value → Prop} {y : Value} {h' : Heap} {tk : Nat} {all : List (Addr × Obj)} (F : Fr h₀ L h' m) (N : News h₀ L h' all) (sub : ∀ p ∈ (I, oI) :: (C, oC) :: (D, oD) :: news, p ∈ all) (off : LCg.Off3 I C D news) (hS : S news) (r : R y) :
    LCg.CompEnd h₀ L m s₁ I oI C oC D oD S (fun y news' => ElIs news R y news') y { s₁ with heap := h', toks := tk } :=
  LCg.CompEnd.intro F N news sub off hS ⟨rfl, r⟩
theorem comp_rest {n : Nat} (R : Nat → Value → Prop)
    (turn : ∀ i v I oI C oC D m₂ ys h tk (E' : Value → Shared → Prop), i < n → P i v → LCg.NsObj oC m₂ → m₂ x = some v → Fr h₀ L h m → News h₀ L h ((I, oI) :: (C, oC) :: (D, LCg.lst ys) :: news) → LCg.Off3 I C D news → ((@Ne Nat I C) ∧ (@Ne Nat I D) ∧ (@Ne Nat C D)) →
      wpAny (model prog w) A (eval elt (compEnvC scope cl C env)) (LCg.CompEnd h₀ L m { s with heap := h, toks := tk } I oI C oC D (LCg.lst ys) S (fun y news' => ElIs news (R i) y news')) E' { s with heap := h, toks := tk })
    (fin : ∀ ys : List Value, ys.length = n → (∀ i y, ys[i]? = some y → R i y) → Fin ys news) : LCg.CompRest prog w A h₀ L m env elt x scope cl s S P Fin n 0 [] news := by
  have key : ∀ (j i : Nat) (ys : List Value), i + j = n → ys.length = i → (∀ i y, ys[i]? = some y → R i y) → LCg.CompRest prog w A h₀ L m env elt x scope cl s S P Fin j i ys news := by
    intro j
    induction j with
    | zero => intro i ys hi hl hy; exact LCg.CompRest.zero (fin ys (by omega) hy)
    | succ j ih =>
      intro i ys hi hl hy
      refine LCg.CompRest.succ ?_
      intro v I oI C oC D m₂ h tk E' hv hC hx F N off ne
      refine wpAny_mono (turn i v I oI C oC D m₂ ys h tk E' (by omega) hv hC hx F N off ne) (fun y s₂ hq => ?_) fun _ _ e => e
      obtain ⟨h', tk', nw, e, F', N', off', hS, hn, hr⟩ := hq
      rw [hn] at N' off' hS
      refine ⟨h', tk', news, e, F', N', off', hS, ?_⟩
      refine ih (i + 1) _ (by omega) (by simp [hl]) fun k z hz => ?_
      rcases Nat.lt_or_ge k ys.length with hk | hk
      · rw [List.getElem?_append_left hk] at hz; exact hy k z hz
      · rw [List.getElem?_append_right hk] at hz
        have hk0 : k - ys.length = 0 := by
          have := (List.getElem?_eq_some_iff.mp hz).1
          simp at this; omega
        rw [hk0] at hz
        have hz' : y = z := by simpa using hz
        subst hz'
        have : k = i := by omega
        subst this; exact hr
  exact key n 0 [] (by omega) rfl fun i y e => by simp at e
theorem comp_range {FinS : Shared → List Value → List (Addr × Obj) → Prop} {r : Addr} {b : Int} {t u v : Tok} {n : Nat} {s₁ : Shared} (R : Nat → Value → Prop) (hh : A.handled = none) (F : Fr h₀ L s₁.heap m) (N : News h₀ L s₁.heap news) (hr : IsRange s₁.heap r 0 b 1 t u v) (hb : b = (n : Int)) (hsm : n < 1000000)
    (turn : ∀ i t I oI C oC D m₂ ys h tk (E' : Value → Shared → Prop), i < n → LCg.NsObj oC m₂ → m₂ x = some (.int (i : Int) t) → Fr h₀ L h m → News h₀ L h ((I, oI) :: (C, oC) :: (D, LCg.lst ys) :: news) → LCg.Off3 I C D news → ((@Ne Nat I C) ∧ (@Ne Nat I D) ∧ (@Ne Nat C D)) →
      wpAny (model prog w) A (eval elt (compEnvC scope cl C env)) (LCg.CompEnd h₀ L m { s₁ with heap := h, toks := tk } I oI C oC D (LCg.lst ys) (fun _ => True) (fun y news' => ElIs news (R i) y news')) E' { s₁ with heap := h, toks := tk })
    (fin : ∀ g (ys : List Value), ys.length = n → (∀ i y, ys[i]? = some y → R i y) → FinS { s₁ with heap := g } ys news) : LCg.CompSrc prog w A h₀ L m env elt x scope cl FinS (.ref r) s₁ := by
  subst hb
  have hsmall : Builtin.Range.small 0 (n : Int) 1 = true := small_one (by omega) (by omega) (by omega) (by omega)
  have hn : Builtin.Range.rangeSize 0 (n : Int) 1 = (n : Int) := by have := rangeSize_nat 0 n; simpa using this
  refine LCg.CompSrc.range hh F N hr hsmall hn (by rw [sizeLine_eq]; omega) fun g => comp_rest R ?_ (fin g)
  rintro i _ I oI C oC D m₂ ys h tk E' hi ⟨t, rfl⟩ hC hx F' N' off ne
  have e1 : (0 : Int) + (i : Int) = (i : Int) := by omega
  rw [e1] at hx
  exact turn i t I oI C oC D m₂ ys h tk E' hi hC hx F' N' off ne
end
def pathStr (d q : Nat) : Str := ⟨((List.range d).map fun k => 48 + q / 2 ^ (d - 1 - k) % 2).toArray⟩
theorem str_bit {z : Int} {q : Nat} (h : z = ((q % 2 : Nat) : Int)) : Str.ofString (toString z) = ⟨#[48 + q % 2]⟩ := by
  subst h
  rcases Nat.mod_two_eq_zero_or_one q with e | e <;> rw [e] <;> decide +kernel
theorem bit_q {q k : Nat} (hk : k < 8) : (((q : Int)).fdiv (2 ^ (7 - (k : Int)).toNat)).fmod 2 = ((q / 2 ^ (7 - k) % 2 : Nat) : Int) := by
  have e : (7 - (k : Int)).toNat = 7 - k := by omega
  rw [e, Int.fdiv_eq_ediv_of_nonneg _ (Int.le_of_lt (Int.pow_pos (by decide))), Int.fmod_eq_emod_of_nonneg _ (by decide)]
  rw [show ((2 : Int) ^ (7 - k)) = ((2 ^ (7 - k) : Nat) : Int) by rw [Int.natCast_pow]; rfl]
  omega
theorem strs_from (g : Nat → Str) : ∀ (ys : List Value) (s : Nat), (∀ (i : Nat) (y : Value), ys[i]? = some y → ∃ t, y = Value.str (g (s + i)) t) → StrsAre ys ((List.range' s ys.length).map g)
  | [], _, _ => .nil
  | y :: r, s, h => by
    obtain ⟨t, e⟩ := h 0 y rfl
    rw [e, Nat.add_zero]
    rw [List.length_cons, List.range'_succ, List.map_cons]
    exact .cons _ t (strs_from g r (s + 1) fun i z hz => by
      obtain ⟨u, eu⟩ := h (i + 1) z (by simpa using hz)
      exact ⟨u, by rw [eu]; congr 2; omega⟩)
theorem strs_range {g : Nat → Str} {ys : List Value} {n : Nat} (hl : ys.length = n) (h : ∀ (i : Nat) (y : Value), ys[i]? = some y → ∃ t, y = Value.str (g i) t) : StrsAre ys ((List.range n).map g) := by
  have := strs_from g ys 0 fun i y e => by rw [Nat.zero_add]; exact h i y e
  rw [hl, ← List.range_eq_range'] at this; exact this
theorem carried_range {g : Nat → Str} {ys : List Value} {n : Nat} (hl : ys.length = n) (h : ∀ (i : Nat) (y : Value), ys[i]? = some y → ∃ t, y = Value.str (g i) t) : CarriedAll ys ((List.range n).map fun a => PyData.str (g a)) := by
  have := (strs_range hl h).carried
  rw [List.map_map] at this; exact this
theorem path_join (q : Nat) : PySem.Txt.join (PySem.Str.ofString "") ((List.range 8).map fun k => (⟨#[48 + q / 2 ^ (7 - k) % 2]⟩ : Str)) = pathStr 8 q := by rfl
local macro_rules | `(tactic| k_all) => `(tactic| assumption)
local macro_rules | `(tactic| k_mem) => `(tactic| first | assumption | exact List.mem_append_left _ (by assumption))
local macro_rules | `(tactic| k_room) => `(tactic| ((try simp only [depth_under_make, depth_under_kw, depth_in1, depth_deeper, depth_caller]); (try dsimp only [ktrTop]); omega))
local macro_rules | `(tactic| k_units) => `(tactic| ((have hcL9 := cLine_is); (try simp only [units_under_make, units_in1, units_deeper, Around.mark_units, units_caller]); (try dsimp only [ktrTop]); omega))
local macro_rules | `(tactic| walk_at "CompSrc") => `(tactic| refine rest ?_)
local macro_rules | `(tactic| walk_at "CompEnd") => `(tactic| (refine' comp_end ?F ?N ?s ?o ?S ?r; (case F => assumption); (case N => assumption); (case s => kcf_all); (case o => (first | assumption | (simp only [LCg.Off3, and_true]; done) | (simp only [LCg.Off3, and_true]; assumption))); (case S => (first | lcg_src | assumption | trivial))))
local macro_rules | `(tactic| walk_at "call builtin:str.join") => `(tactic| refine rest ?_)
theorem drop2 {h₀ h : Heap} {L : Addr} {x y : Addr × Obj} {e : List (Addr × Obj)} (N : News h₀ L h (x :: y :: e)) : News h₀ L h e := fun p hp => N p (.tail _ (.tail _ hp))
theorem path_ok {prog : Program} {w : World} {p : Program} {loose : List Str} {mean : ExcName → Option Value} {mg mb : Str → Option Value}
    (dp un : Nat) (gd : Option (List Code)) (cn : Str) (cs : Scope) (a : Addr) (ccd : Value) (cl : List (Str × Addr)) (outer : List Env) (A₀ : Around) (base h₀ : Heap) (L : Addr) (m : Str → Option Value) (s : Shared) (Q E : Value → Shared → Prop)
    {news : List (Addr × Obj)} {q : Nat} {t1 : Tok}
    (Bl : Below A₀ base outer h₀) (F : Fr h₀ L s.heap m) (X : (Mine.hd.heap_39 w.params).In h₀) (N : News h₀ L s.heap news) (T : Top p loose mean mg mb h₀) (hk : cs.kind = .function) (hd : dp + 6 < recursionLimit) (hu : un + 40 < cLine)
    (hret : ∀ (h' : Heap) (t : Tok) (tk' : Nat), Fr h₀ L h' m → News h₀ L h' news → Q (.str (pathStr 8 q) t) { s with heap := h', toks := tk' }) :
    wpAny (model prog w) (ktrTop dp un gd cn cs L a ccd cl outer) (call (.ref 184) [.int (q : Int) t1]) Q E s := by
  refine wpAny_call ?_
  k_dflt (refine' code_defC ?k1 ?k2 ?k3 ?k4 ?k5 ?kA ?kF ?kK ?k6 ?k7 ?k8 ?k9 ?kB ?kD ?_ ?c2 ?c3 ?c4; (case kA => exact rfl); (case kF => exact rfl); (case kK => assumption); (case k1 => k_asm); (case k2 => k_asm); (case k3 => k_asm); (case k4 => k_asm); (case k5 => k_asm); (case k6 => k_is); (case k7 => k_is); (case k8 => k_room); (case k9 => exact BindsTo.of_eq rfl); (case kB => exact rfl); (case kD => decide +kernel); (case c2 => exact rfl); (case c3 => exact rfl); (case c4 => exact rfl); k_whole; intro g' L' h' tk' cells' FG' F' N' Y' B' X' T' l1; (try k_lt l1); k_cells Y'; (try simp only [List.cons_append, List.nil_append] at N'); (try dsimp only); (try k_lift B'); (try k_fold))
  k_steps
  show LCg.CompSrc _ _ _ _ _ _ _ _ _ _ _ _ _ _
  refine' comp_range (n := 8) (fun i y => ∃ t, y = .str ⟨#[48 + q / 2 ^ (7 - i) % 2]⟩ t) ?h ?F ?N ?r ?b ?z ?turn ?fin
  (case h => rfl); (case F => assumption); (case N => assumption); (case r => assumption); (case b => rfl); (case z => decide)
  case turn =>
    intro i t I oI C oC D m₂ ys h tk E' hi hC hx F' N' off ne
    k_steps
    rw [str_bit (bit_q hi)]
  case fin =>
    intro g ys hl hR
    have hc := carried_range hl hR
    k_steps
    show wpAny _ _ _ _ _ _
    refine KT.join_1 (l := List.range 8) (by first | assumption | is_list | exact News.isList (by k_asm) (by k_mem)) hc (fun _ _ => rfl) (by decide) ?_
    intro t' k' _
    rw [path_join]
    k_steps
    refine' hret _ _ _ ?F ?N
    (case F => assumption)
    (case N => refine' drop2 ?n; (case n => assumption))
end Mine
end
section
open PySem PySem.W PyProof.Rows PySem.Calls
set_option Elab.async false
set_option maxRecDepth 100000
set_option maxHeartbeats 4000000
set_option linter.unusedSimpArgs false
set_option linter.unusedSectionVars false
set_option linter.unusedVariables false
theorem Mine.fillK8 : (fun (_ : OpenLaw) (_ : Params → Frag) => True) PySem.Challenge.rw_bs0043_01 Mine.hd.heap_39 := by w_top off; k_fill; trivial
namespace Mine
theorem pathStr_len (d q : Nat) : (pathStr d q).length = d := by simp [pathStr, Str.length]
theorem pathStr_list (d q : Nat) : (pathStr d q).cps.toList = (List.range d).map fun k => 48 + q / 2 ^ (d - 1 - k) % 2 := by simp [pathStr]
theorem path_succ (d q : Nat) : (pathStr (d + 1) q).cps.toList = (pathStr d (q / 2)).cps.toList ++ [48 + q % 2] := by
  rw [pathStr_list, pathStr_list, List.range_succ, List.map_append, List.map_singleton]
  congr 1
  · refine List.map_congr_left fun k hk => ?_
    have hk := List.mem_range.mp hk
    rw [Nat.div_div_eq_div_mul, ← Nat.pow_succ', show d + 1 - 1 - k = d - 1 - k + 1 by omega]
  · rw [show d + 1 - 1 - d = 0 by omega, Nat.pow_zero, Nat.div_one]
theorem path_take (k : Nat) : ∀ (n q : Nat), (pathStr (k + n) q).cps.toList.take k = (pathStr k (q / 2 ^ n)).cps.toList
  | 0, q => by
    rw [Nat.pow_zero, Nat.div_one, List.take_of_length_le]
    · rfl
    · rw [pathStr_list]; simp
  | n + 1, q => by
    rw [show k + (n + 1) = (k + n) + 1 by omega, path_succ, List.take_append_of_le_length (by rw [pathStr_list]; simp), path_take k n, Nat.div_div_eq_div_mul, ← Nat.pow_succ']
theorem slice_path {d q k : Nat} {j : Int} (hj : j = (k : Int)) (hk : k ≤ d) : Txt.slice (pathStr d q) none (some j) = pathStr k (q / 2 ^ (d - k)) := by
  subst hj
  have h := slice_closes_toL (x := pathStr d q) (j := (k : Int)) (by omega) (by rw [pathStr_len]; omega)
  rw [eq_of_beq h]
  apply str_eq_of_lists
  have e := path_take k (d - k) q
  rw [show k + (d - k) = d by omega] at e
  rw [← e]
  simp
theorem slice_last {d q : Nat} {j : Int} (hj : j = -1) : Txt.slice (pathStr (d + 1) q) none (some j) = pathStr d (q / 2) := by
  subst hj
  have h := slice_closes_to_neg (x := pathStr (d + 1) q) (j := -1) (k := (d : Int)) (by omega) (by rw [pathStr_len]; omega) (by rw [pathStr_len]; omega)
  rw [eq_of_beq h]
  apply str_eq_of_lists
  have e := path_take d 1 q
  rw [Nat.pow_one] at e
  rw [← e]
  simp
theorem item_last {d q : Nat} {j : Int} (hj : j = -1) : Txt.item (pathStr (d + 1) q) j = ⟨#[48 + q % 2]⟩ := by
  subst hj
  have e : (pathStr (d + 1) q).cps[(-1 + ((pathStr (d + 1) q).length : Int)).toNat]? = some (48 + q % 2) := by
    rw [pathStr_len, show (-1 + ((d + 1 : Nat) : Int)).toNat = d by omega, ← Array.getElem?_toList, path_succ, List.getElem?_append_right (by rw [pathStr_list]; simp)]
    rw [pathStr_list]; simp
  unfold Txt.item Txt.charAt
  rw [StrLaws.at_neg (by omega) (by rw [pathStr_len]; omega) e]
  rfl
theorem path_grow {d q b : Nat} (hb : b < 2) : pathStr d q ++ (⟨#[48 + b]⟩ : Str) = pathStr (d + 1) (2 * q + b) := by
  apply str_eq_of_lists
  rw [path_succ, show (2 * q + b) / 2 = q by omega, show (2 * q + b) % 2 = b by omega]
  show ((pathStr d q).cps ++ #[48 + b]).toList = _
  simp
theorem is_zero (q : Nat) : (({ cps := #[48 + q % 2] } : Str) == Str.ofString "0") = (q % 2 == 0) := by
  rcases Nat.mod_two_eq_zero_or_one q with e | e <;> rw [e] <;> decide
theorem path_one (d q : Nat) : pathStr d q ++ Str.ofString "1" = pathStr (d + 1) (2 * q + 1) := by
  have e : Str.ofString "1" = ⟨#[48 + 1]⟩ := by decide
  rw [e]; exact path_grow (by decide)
theorem path_nil (d q : Nat) : pathStr d q ++ Str.ofString "0" = pathStr (d + 1) (2 * q) := by
  have e : Str.ofString "0" = ⟨#[48 + 0]⟩ := by decide
  rw [e]; exact path_grow (b := 0) (by decide)
theorem path_inj {d q q' : Nat} (hq : q < 2 ^ d) (hq' : q' < 2 ^ d) (h : pathStr d q = pathStr d q') : q = q' := by
  induction d generalizing q q' with
  | zero => simp at hq hq'; omega
  | succ d ih =>
    have e := congrArg (fun x : Str => x.cps.toList) h
    simp only [path_succ] at e
    have hl : (pathStr d (q / 2)).cps.toList.length = (pathStr d (q' / 2)).cps.toList.length := by rw [pathStr_list, pathStr_list]; simp
    have e2 := List.append_inj e hl
    have e3 := ih (by rw [Nat.pow_succ] at hq; omega) (by rw [Nat.pow_succ] at hq'; omega) (str_eq_of_lists e2.1)
    have e4 : 48 + q % 2 = 48 + q' % 2 := by simpa using e2.2
    omega
theorem path_inj2 {d d' q q' : Nat} (hq : q < 2 ^ d) (hq' : q' < 2 ^ d') (h : pathStr d q = pathStr d' q') : d = d' ∧ q = q' := by
  have e := congrArg Str.length h
  rw [pathStr_len, pathStr_len] at e
  subst e
  exact ⟨rfl, path_inj hq hq' h⟩
section
variable {prog : Program} {w : World} {A : Around} {E : Value → Shared → Prop} {s : Shared} {value slice : PySem.Expr} {x y : Str} {t : Tok} {h₀ : Heap} {L : Addr} {m : Str → Option Value} {news : List (Addr × Obj)} {Q : Value → Shared → Prop}
theorem slice_P {j : Int} {uj : Tok} (hF : Fr h₀ L s.heap m) (hN : News h₀ L s.heap news) (e : Txt.slice x none (some j) = y) (hsz : x.length ≤ 1000) (h : ∀ h' t' k, Fr h₀ L h' m → News h₀ L h' news → Q (.str y t') { s with heap := h', toks := k })
    (hs : subscripted slice false (.str x t) (.ref s.heap.objs.size) = operate [.ref s.heap.objs.size, .str x t] (getItem (.str x t) (.ref s.heap.objs.size)) := by with_unfolding_all rfl)
    (ht : ∀ r, letTemporaryGo value (.str x t) r = pure () := by intro _; with_unfolding_all rfl) :
    wpAny (model prog w) A (subscriptTail value slice (.str x t) (.ref s.heap.objs.size)) Q E { s with heap := s.heap.push { cls := .type "slice", data := .fields #[.none, .int j uj, .none] } } := by
  subst e
  exact slice_strN_ns hF hN h hs ht (by rw [sizeLine_eq]; omega)
theorem item_P {j : Int} {uj : Tok} (e : Txt.item x j = y) (hsz : x.length ≤ 1000) (h0 : -(x.length : Int) ≤ j) (h1 : j < (x.length : Int)) (h : Q (.str y s.toks) { s with toks := s.toks + 1 })
    (hs : subscripted slice false (.str x t) (.int j uj) = operate [.str x t, .int j uj] (getItem (.str x t) (.int j uj)) := by with_unfolding_all rfl)
    (ht : ∀ r, letTemporaryGo value (.str x t) r = pure () := by intro _; with_unfolding_all rfl) :
    wpAny (model prog w) A (subscriptTail value slice (.str x t) (.int j uj)) Q E s := by
  subst e
  exact KXi.item rfl h0 h1 (by omega) (fun _ => h) hs ht
end
theorem add_S {prog : Program} {w : World} {A : Around} {E : Value → Shared → Prop} {s : Shared} {x y z : Str} {t u : Tok} {Q : Value → Shared → Prop} (e : x ++ y = z) (hx : x.length ≤ 1000) (hy : y.length ≤ 1000) (h : ∀ t' k, Q (.str z t') { s with toks := k }) : wpAny (model prog w) A (binaryOp .Add (.str x t) (.str y u)) Q E s := by
  subst e
  exact KXadd.add hx hy (by decide) fun t' k _ => h t' k
local macro_rules | `(tactic| k_all) => `(tactic| assumption)
local macro_rules | `(tactic| k_mem) => `(tactic| first | assumption | exact List.mem_append_left _ (by assumption))
local macro_rules | `(tactic| k_room) => `(tactic| ((try simp only [depth_under_make, depth_under_kw, depth_in1, depth_deeper, depth_caller]); (try dsimp only [ktrTop]); omega))
local macro_rules | `(tactic| k_units) => `(tactic| ((have hcL9 := cLine_is); (try simp only [units_under_make, units_in1, units_deeper, Around.mark_units, units_caller]); (try dsimp only [ktrTop]); omega))
local macro_rules | `(tactic| walk_at "subscriptTail") => `(tactic| (k_here; (with_reducible show wpAny _ _ (subscriptTail _ _ (Value.str (pathStr _ _) _) (Value.int _ _)) _ _ _); k_dflt (refine' item_P (item_last rfl) ?z ?a ?b ?_; (case z => (rw [pathStr_len]; omega)); (case a => (rw [pathStr_len]; omega)); (case b => (rw [pathStr_len]; omega)); k_whole)))
local macro_rules | `(tactic| walk_at "subscriptTail") => `(tactic| (k_here; (with_reducible show wpAny _ _ (subscriptTail _ _ (Value.str (pathStr _ _) _) (Value.ref _)) _ _ _); k_dflt (refine' slice_P ?F ?N ?e ?z ?_; (case F => k_asm); (case N => k_asm); (case e => (first | exact slice_last rfl | exact slice_path rfl (by omega))); (case z => (rw [pathStr_len]; omega)); k_whole); intro h' t' k' F' N'))
local macro_rules | `(tactic| walk_at "binaryOp Add") => `(tactic| (k_here; (with_reducible show wpAny _ _ (binaryOp _ (Value.str (pathStr _ _) _) (Value.str _ _)) _ _ _); k_dflt (refine' add_S ?e ?a ?b ?_; (case e => (first | exact path_one _ _ | exact path_nil _ _)); (case a => (rw [pathStr_len]; omega)); (case b => decide); k_whole); intro _ _))
theorem beside_ok {prog : Program} {w : World} {p : Program} {loose : List Str} {mean : ExcName → Option Value} {mg mb : Str → Option Value}
    (dp un : Nat) (gd : Option (List Code)) (cn : Str) (cs : Scope) (a : Addr) (ccd : Value) (cl : List (Str × Addr)) (outer : List Env) (A₀ : Around) (base h₀ : Heap) (L : Addr) (m : Str → Option Value) (s : Shared) (Q E : Value → Shared → Prop)
    {news : List (Addr × Obj)} {d q : Nat} {t1 : Tok}
    (Bl : Below A₀ base outer h₀) (F : Fr h₀ L s.heap m) (X : (Mine.hd.heap_39 w.params).In h₀) (N : News h₀ L s.heap news) (T : Top p loose mean mg mb h₀) (hk : cs.kind = .function) (hd : dp + 6 < recursionLimit) (hu : un + 40 < cLine) (hdd : d < 8)
    (hret : ∀ (h' : Heap) (t : Tok) (tk' : Nat), Fr h₀ L h' m → News h₀ L h' news → Q (.str (pathStr (d + 1) (sib q)) t) { s with heap := h', toks := tk' }) :
    wpAny (model prog w) (ktrTop dp un gd cn cs L a ccd cl outer) (call (.ref 191) [.str (pathStr (d + 1) q) t1]) Q E s := by
  refine wpAny_call ?_
  k_dflt cell_enter
  k_steps
  · rename _ = true => e0
    rw [is_zero] at e0
    have e1 : q % 2 = 0 := by simpa using e0
    have e2 : sib q = 2 * (q / 2) + 1 := by unfold sib; rw [if_pos e1]; omega
    rw [← e2]
    exact hret _ _ _ (by assumption) (by assumption)
  · rename _ = false => e0
    rw [is_zero] at e0
    have e1 : ¬ q % 2 = 0 := by simpa using e0
    have e2 : sib q = 2 * (q / 2) := by unfold sib; rw [if_neg e1]; omega
    rw [← e2]
    exact hret _ _ _ (by assumption) (by assumption)
end Mine
end
section
theorem Mine.offDc : True := by w_top off; trivial
open PySem PySem.W PyProof.Rows PySem.Calls
set_option Elab.async false
set_option maxRecDepth 100000
set_option maxHeartbeats 2000000
set_option linter.unusedSimpArgs false
set_option linter.unusedSectionVars false
set_option linter.unusedVariables false
namespace Mine
open LCg
/-! dict comprehensions that make a dict of octets -/
section
variable {prog : Program} {w : World} {K : Type} [DecidableEq K] {knd : KeyKind prog w K} {A : Around} {E : Value → Shared → Prop} {s : Shared} {h₀ : Heap} {L : Addr} {m : Str → Option Value} {env : Env}
def DEnd (knd : KeyKind prog w K) (h₀ : Heap) (L : Addr) (m : Str → Option Value) (s₁ : Shared) (I : Addr) (oI : Obj) (C : Addr) (oC : Obj) (D : Addr) (oD : Obj) (S : List (Addr × Obj) → Prop) (rest : K → Bts → List (Addr × Obj) → Prop) (kv vv : Value) (s₂ : Shared) : Prop :=
  ∃ h' tk news' k b t, s₂ = { s₁ with heap := h', toks := tk } ∧ knd.is k kv = true ∧ vv = Value.bytes b t ∧ Fr h₀ L h' m ∧ News h₀ L h' ((I, oI) :: (C, oC) :: (D, oD) :: news') ∧ Off3 I C D news' ∧ S news' ∧ rest k b news'
theorem block_D {kx vx iter : PySem.Expr} {x : Str} {px : Pos} {scope : Scope} {cl : List (Str × Addr)} {pos : Pos} {s₂ : Shared} {I : Addr} {fp : List Addr} {n : Nat} {P : Nat → Value → Prop} {St : Nat → Heap → Prop} {S : List (Addr × Obj) → Prop} {news : List (Addr × Obj)}
    {J : Nat → List (K × Bts) → List (Addr × Obj) → Prop} {RR : Value → Addr → Result → Shared → Prop}
    (W : Walks prog w A I fp [I] n P St) (hsz : n ≤ 1000000) (hIo : ∀ i h, St i h → ∃ o, h.get? I = some o)
    (hSt : ∀ i h h' o nw, St i h → h.get? I = some o → h'.get? I = some o → (∀ b o, h₀.get? b = some o → h'.get? b = some o) → News h₀ L h' nw → S nw → St i h')
    (hcell : ∀ y ∈ scope.names, y.2 ≠ .cell) (hkind : scope.kind = .function) (hx : scope.names.lookup x = some .local) (hst : St 0 s₂.heap) (hfp : ∀ b ∈ fp, b < s₂.heap.objs.size)
    (F : Fr h₀ L s₂.heap m) (N : News h₀ L s₂.heap news) (hIL : L ≠ I) (hI₀ : h₀.get? I = none) (off : ∀ p ∈ news, p.1 ≠ I) (hS : S news) (h0 : J 0 [] news)
    (turn : ∀ i acc nw v I oI C oC D oD m₂ h tk (E' : Value → Shared → Prop), i < n → J i acc nw → P i v → NsObj oC m₂ → m₂ x = some v → Fr h₀ L h m → News h₀ L h ((I, oI) :: (C, oC) :: (D, oD) :: nw) → DB knd oD acc → Off3 I C D nw → ((@Ne Nat I C) ∧ (@Ne Nat I D) ∧ (@Ne Nat C D)) → S nw →
      wpAny (model prog w) A (eval kx (compEnvC scope cl C env)) (fun kv s' => wpAny (model prog w) A (eval vx (compEnvC scope cl C env)) (fun vv s'' => DEnd knd h₀ L m { s₂ with heap := h, toks := tk } I oI C oC D oD S (fun k b nw' => J (i + 1) (put acc k b) nw') kv vv s'') E' s') E' { s₂ with heap := h, toks := tk })
    (hRR : ∀ D oD C h tk m' acc news', Fr h₀ L h m → News h₀ L h ((D, oD) :: news') → DB knd oD acc → Off1 D news' → @LT.lt Nat _ L D → h.Ns C m' → h₀.get? C = none → h₀.get? D = none → C ≠ L → D ≠ L → C ≠ D → (∀ p ∈ news', p.1 ≠ C) → J n acc news' → RR (.ref D) C (.ok .next) { s₂ with heap := h, toks := tk }) :
    wpAny (model prog w) A newDict (fun acc s₃ => wpAny (model prog w) A (newFunctionEnv scope env.globals cl [] env.qual none .none (some env)) (fun cenv s₄ =>
      codeAny (model prog w) A (.compStart (.DictComp kx vx [⟨.Name x px, iter, [], 0⟩] scope pos) 0 (.ref I) acc { cenv with scope := relabel scope env }) (RR acc cenv.locals) s₄) E s₃) E s₂ := by
  refine wpAny_newObj_type (wpAny_newFunctionEnv hcell (by intro y hy; simp at hy) (fun h₁ hns₁ hsb₁ => ?_) hkind)
  dsimp only at hns₁ hsb₁ ⊢
  have hnew : (s₂.heap.push { cls := .type "dict", dict := none, data := .dict #[] }).DictOf knd s₂.heap.objs.size [] := Heap.DictOf.new s₂.heap
  generalize hH2 : s₂.heap.push { cls := .type "dict", dict := none, data := .dict #[] } = H2 at hns₁ hsb₁ hnew ⊢
  have hC : H2.objs.size = s₂.heap.objs.size + 1 := by rw [← hH2, Heap.size_push]
  have hDC : s₂.heap.objs.size ≠ H2.objs.size := by rw [hC]; exact Nat.ne_of_lt (Nat.lt_succ_self _)
  have below : ∀ b, b < s₂.heap.objs.size → b ≠ H2.objs.size ∧ b ≠ s₂.heap.objs.size := fun b hb => ⟨by rw [hC]; exact Nat.ne_of_lt (Nat.lt_succ_of_lt hb), Nat.ne_of_lt hb⟩
  have hDf : s₂.heap.objs.size ∉ fp := fun hm => Nat.lt_irrefl _ (hfp _ hm)
  have hCf : H2.objs.size ∉ fp := fun hm => by have := hfp _ hm; rw [hC] at this; exact Nat.lt_irrefl _ (Nat.lt_of_succ_lt this)
  have hIf : I ∈ fp := W.sub I (List.mem_singleton.mpr rfl)
  have hIlt : I < s₂.heap.objs.size := hfp I hIf
  have old : ∀ b o, s₂.heap.get? b = some o → h₁.get? b = some o := fun b o e => hsb₁.extBut b o (below b (Heap.lt_size e)).1 (Heap.get?_push_of_some _ (hH2 ▸ Heap.get?_push_of_some _ e))
  have hacc₁ : h₁.DictOf knd s₂.heap.objs.size [] := hnew.at fun o e => hsb₁.extBut _ _ hDC (Heap.get?_push_of_some _ e)
  have hst₁ : St 0 h₁ := W.frame _ _ _ hst fun b _ o e => old b o e
  have fresh : ∀ a, s₂.heap.objs.size ≤ a → s₂.heap.get? a = none := fun a ha => by
    cases e : s₂.heap.get? a with
    | none => rfl
    | some o' => exact absurd (Heap.lt_size e) (Nat.not_lt.mpr ha)
  have fresh₀ : ∀ a, s₂.heap.objs.size ≤ a → h₀.get? a = none := fun a ha => by
    cases e : h₀.get? a with
    | none => rfl
    | some o' => have := F.keep a o' e; rw [fresh a ha] at this; cases this
  have hD₀ : h₀.get? s₂.heap.objs.size = none := fresh₀ _ (Nat.le_refl _)
  have hC₀ : h₀.get? H2.objs.size = none := fresh₀ _ (by rw [hC]; exact Nat.le_succ _)
  have hLlt : L < s₂.heap.objs.size := F.ns.lt
  have hDL : s₂.heap.objs.size ≠ L := Ne.symm (below L hLlt).2
  have hCL : H2.objs.size ≠ L := Ne.symm (below L hLlt).1
  have hCI : I ≠ H2.objs.size := (below I hIlt).1
  have hDI : I ≠ s₂.heap.objs.size := (below I hIlt).2
  have off₀ : Off3 I H2.objs.size s₂.heap.objs.size news := Off3.of fun p hp => ⟨off p hp, (below _ (Heap.lt_size (N p hp).1)).1, (below _ (Heap.lt_size (N p hp).1)).2⟩
  obtain ⟨o₁, ho₁, hdo₁⟩ := Heap.dictOf_iff.mp hacc₁
  have loop : ∀ s₃ : Shared, s₃ = { s₂ with heap := h₁, toks := s₂.toks + ([] : List (Str × Value)).length } →
      codeAny (model prog w) A (.compLoop (.DictComp kx vx [⟨.Name x px, iter, [], 0⟩] scope pos) 0 (.ref I) (.ref s₂.heap.objs.size) (compEnvC scope cl H2.objs.size env))
        (RR (.ref s₂.heap.objs.size) H2.objs.size) s₃ := by
    rintro s₃ rfl
    refine codeAny_compLoop_testsD
      (fun k s' => ∃ h' tk i acc oD m' news', s' = { s₂ with heap := h', toks := tk } ∧ i ≤ n ∧ k = n + 1 - i ∧ acc.length ≤ i ∧ St i h' ∧ Fr h₀ L h' m ∧ h'.Ns H2.objs.size m' ∧ News h₀ L h' ((s₂.heap.objs.size, oD) :: news') ∧ DB knd oD acc ∧
        Off3 I H2.objs.size s₂.heap.objs.size news' ∧ S news' ∧ J i acc news') ?_ (n + 1)
      ⟨h₁, _, 0, [], o₁, _, news, rfl, Nat.zero_le _, rfl, Nat.le_refl _, hst₁, F.keeps old, hns₁, fun p hp => ?_, ⟨[], hdo₁, .nil⟩, off₀, hS, h0⟩
    · rintro k s' ⟨h', tk, i, acc, oD, m', news', rfl, hi, rfl, hal, hst', F', hn', N', hdb, off', hS', hJ⟩
      by_cases hlt : i < n
      · refine W.item i _ _ _ hlt hst' fun v h₂ tk₂ hPv hst₂ hk₂ => ?_
        refine wpAny_assign_Name (wpAny_storeName_local (lookup_relabel_local hx) (hn'.at' fun o e => hk₂ _ o (by simpa using Ne.symm hCI) e) (fun h₃ hn₃ hs₃ => ?_) (by simp [compEnvC, relabel, hkind]))
        refine wpAny_tests_nil ?_
        simp only [if_true]
        have hst₃ : St (i + 1) h₃ := W.frame _ _ _ hst₂ fun b hb o e => hs₃.extBut b o (fun q => hCf (by have q' : b = H2.objs.size := q; rw [← q']; exact hb)) e
        obtain ⟨oI, heI⟩ := hIo _ _ hst₃
        obtain ⟨oC, heC, hoC⟩ := ns_obj hn₃
        have F₃ : Fr h₀ L h₃ m := (fr_but F' hk₂ hIL hI₀).change hs₃ hCL hC₀
        have off3 := off'.mem
        have N₂ : News h₀ L h₂ ((s₂.heap.objs.size, oD) :: news') := news_but N' hk₂ fun p hp => by
          rcases List.mem_cons.mp hp with rfl | hp
          · exact Ne.symm hDI
          · exact (off3 p hp).1
        have N₃ : News h₀ L h₃ ((I, oI) :: (H2.objs.size, oC) :: (s₂.heap.objs.size, oD) :: news') := fun p hp => by
          rcases List.mem_cons.mp hp with rfl | hp
          · exact ⟨heI, Ne.symm hIL, hI₀⟩
          · rcases List.mem_cons.mp hp with rfl | hp
            · exact ⟨heC, hCL, hC₀⟩
            · have z := N₂ p hp
              refine ⟨hs₃.extBut _ _ ?_ z.1, z.2⟩
              rcases List.mem_cons.mp hp with rfl | hp
              · exact hDC
              · exact (off3 p hp).2.1
        refine wpAny_mono (turn i acc news' v I oI H2.objs.size oC s₂.heap.objs.size oD _ h₃ _ _ hlt hJ hPv hoC (by simp) F₃ N₃ hdb off' ⟨hCI, hDI, Ne.symm hDC⟩ hS') (fun kv s₄ h₄ => wpAny_mono h₄ (fun vv s₅ h₅ => ?_) fun _ _ e => e) fun _ _ e => e
        obtain ⟨h₄, tk₄, news₄, kk, b, t, rfl, hkk, rfl, F₄, N₄, off₄, hS₄, hJ₄⟩ := h₅
        have zI := (N₄ (I, oI) List.mem_cons_self).1
        have zC := (N₄ (H2.objs.size, oC) (List.mem_cons_of_mem _ List.mem_cons_self)).1
        have zD := (N₄ (s₂.heap.objs.size, oD) (List.mem_cons_of_mem _ (List.mem_cons_of_mem _ List.mem_cons_self))).1
        have N₄' : News h₀ L h₄ news₄ := fun p hp => N₄ p (List.mem_cons_of_mem _ (List.mem_cons_of_mem _ (List.mem_cons_of_mem _ hp)))
        have hst₄ : St (i + 1) h₄ := hSt _ _ _ _ _ hst₃ heI zI F₄.keep N₄' hS₄
        obtain ⟨kvs, hio, hbv⟩ := hdb
        refine wpAny_dictSet_pairs (hsz := by rw [hbv.length, sizeLine_eq]; omega) hkk (Heap.dictOf_iff.mpr ⟨oD, zD, hio⟩) fun h₅ hl₅ hs₅ => ?_
        obtain ⟨o₅, ho₅, hdo₅⟩ := Heap.dictOf_iff.mp hl₅
        have off4 := off₄.mem
        refine ⟨n + 1 - (i + 1), by omega, h₅, _, i + 1, put acc kk b, o₅, _, news₄, rfl, hlt, rfl, Nat.le_trans (put_length _ _ _) (by omega), W.frame _ _ _ hst₄ fun b hb o e => hs₅.extBut b o (fun q => hDf (q ▸ hb)) e, F₄.change hs₅ hDL hD₀,
          (hoC.ns zC).sameBut hs₅ (Ne.symm hDC), fun p hp => ?_, ⟨_, hdo₅, hbv.stored kk b t⟩, off₄, hS₄, hJ₄⟩
        rcases List.mem_cons.mp hp with rfl | hp
        · exact ⟨ho₅, hDL, hD₀⟩
        · exact ⟨hs₅.extBut _ _ (off4 p hp).2.2 (N₄' p hp).1, (N₄' p hp).2⟩
      · obtain rfl : i = n := Nat.le_antisymm hi (Nat.not_lt.mp hlt)
        refine W.done _ _ _ hst' fun h₂ tk₂ hk₂ => ?_
        have off3 := off'.mem
        exact hRR _ _ _ h₂ tk₂ _ acc news' (fr_but F' hk₂ hIL hI₀) (news_but N' hk₂ fun p hp => by
          rcases List.mem_cons.mp hp with rfl | hp
          · exact Ne.symm hDI
          · exact (off3 p hp).1) hdb off'.one hLlt (hn'.at' fun o e => hk₂ _ o (by simpa using Ne.symm hCI) e) hC₀ hD₀ hCL hDL (Ne.symm hDC) (fun p hp => (off3 p hp).2.1) hJ
    · rcases List.mem_cons.mp hp with rfl | hp
      · exact ⟨ho₁, hDL, hD₀⟩
      · exact ⟨old _ _ (N p hp).1, (N p hp).2⟩
  exact codeAny_compStart_dict (loop _ rfl) (W.self 0 _ _ _ hst₁ (loop _ rfl))
/-- where the turns come from -/
def DSrc (prog : Program) (w : World) (A : Around) (h₀ : Heap) (L : Addr) (m : Str → Option Value) (env : Env) (kx vx : PySem.Expr) (x : Str) (scope : Scope) (cl : List (Str × Addr)) (Q : Value → Shared → Prop) (E : Value → Shared → Prop) (xv : Value) (s₁ : Shared) : Prop :=
  wpAny (model prog w) A (pyIter xv) (fun it s₂ => ∃ (K : Type) (_ : DecidableEq K) (knd : KeyKind prog w K) (I : Addr) (fp : List Addr) (n : Nat) (P : Nat → Value → Prop) (St : Nat → Heap → Prop) (S : List (Addr × Obj) → Prop) (news : List (Addr × Obj)) (J : Nat → List (K × Bts) → List (Addr × Obj) → Prop),
    it = .ref I ∧ Nonempty (PLift (Walks prog w A I fp [I] n P St)) ∧ n ≤ 1000000 ∧ (∀ i h, St i h → ∃ o, h.get? I = some o) ∧
    (∀ i h h' o nw, St i h → h.get? I = some o → h'.get? I = some o → (∀ b o, h₀.get? b = some o → h'.get? b = some o) → News h₀ L h' nw → S nw → St i h') ∧
    St 0 s₂.heap ∧ (∀ b ∈ fp, b < s₂.heap.objs.size) ∧ Fr h₀ L s₂.heap m ∧ News h₀ L s₂.heap news ∧ L ≠ I ∧ h₀.get? I = none ∧ (∀ p ∈ news, p.1 ≠ I) ∧ S news ∧ J 0 [] news ∧
    (∀ i acc nw v I oI C oC D oD m₂ h tk (E' : Value → Shared → Prop), i < n → J i acc nw → P i v → NsObj oC m₂ → m₂ x = some v → Fr h₀ L h m → News h₀ L h ((I, oI) :: (C, oC) :: (D, oD) :: nw) → DB knd oD acc → Off3 I C D nw → ((@Ne Nat I C) ∧ (@Ne Nat I D) ∧ (@Ne Nat C D)) → S nw →
      wpAny (model prog w) A (eval kx (compEnvC scope cl C env)) (fun kv s' => wpAny (model prog w) A (eval vx (compEnvC scope cl C env)) (fun vv s'' => DEnd knd h₀ L m { s₂ with heap := h, toks := tk } I oI C oC D oD S (fun k b nw' => J (i + 1) (put acc k b) nw') kv vv s'') E' s') E' { s₂ with heap := h, toks := tk }) ∧
    (∀ D oD h tk acc news', Fr h₀ L h m → News h₀ L h ((D, oD) :: news') → DB knd oD acc → Off1 D news' → @LT.lt Nat _ L D → J n acc news' → Q (.ref D) { s₂ with heap := h, toks := tk })) E s₁
theorem DictComp_U {kx vx iter : PySem.Expr} {x : Str} {px : Pos} {scope : Scope} {cl : List (Str × Addr)} {pos : Pos} {Q : Value → Shared → Prop}
    (hclos : closureFor scope env = pure cl) (hcell : ∀ y ∈ scope.names, y.2 ≠ .cell) (hkind : scope.kind = .function)
    (hnames : ∀ y ∈ scope.names, y.2 = .local → scope.names.lookup y.1 = some .local) (hx : scope.names.lookup x = some .local)
    (h : wpAny (model prog w) A (eval iter env) (DSrc prog w A h₀ L m env kx vx x scope cl Q E) E s)
    (hs : ∀ x, foldedSetIterable iter env x = pure x := by intro _; rfl) :
    wpAny (model prog w) A (eval (.DictComp kx vx [⟨.Name x px, iter, [], 0⟩] scope pos) env) Q E s := by
  rw [arm_eval_DictComp]
  refine wpAny_comprehension_free (use := none) rfl hs hclos hkind hnames (wpAny_mono h (fun xv s₁ h₁ => wpAny_mono h₁ (fun it s₂ h₂ => ?_) fun _ _ e => e) fun _ _ e => e)
  obtain ⟨K', _, knd', I, fp, n, P, St, S, news, J, rfl, ⟨⟨W⟩⟩, hsz, hIo, hSt, hst, hfp, F, N, hIL, hI₀, off, hS, h0, turn, fin⟩ := h₂
  refine block_D (knd := knd') (RR := fun acc C => compPost (model prog w) A E none Q acc C) W hsz hIo hSt hcell hkind hx hst hfp F N hIL hI₀ off hS h0 turn ?_
  intro D oD C h tk m' acc news' F' N' hdb o1 hLD hn hC₀ hD₀ hCL hDL hCD offC hJ
  refine ⟨m', hn, fun h'' hs'' => fin D oD h'' tk acc news' (F'.change hs'' hCL hC₀) (fun p hp => ?_) hdb o1 hLD hJ⟩
  refine ⟨hs''.extBut _ _ ?_ (N' p hp).1, (N' p hp).2⟩
  rcases List.mem_cons.mp hp with rfl | hp
  · exact Ne.symm hCD
  · exact offC p hp
theorem DictComp_F {kx vx iter : PySem.Expr} {x : Str} {px : Pos} {scope : Scope} {cl : List (Str × Addr)} {pos : Pos} {Q : Value → Shared → Prop} (_F : Fr h₀ L s.heap m)
    (hclos : closureFor scope env = pure cl) (hcell : ∀ y ∈ scope.names, y.2 ≠ .cell) (hkind : scope.kind = .function)
    (hnames : ∀ y ∈ scope.names, y.2 = .local → scope.names.lookup y.1 = some .local) (hx : scope.names.lookup x = some .local)
    (h : wpAny (model prog w) A (eval iter env) (DSrc prog w A h₀ L m env kx vx x scope cl Q E) E s)
    (hs : ∀ x, foldedSetIterable iter env x = pure x := by intro _; rfl) :
    wpAny (model prog w) A (eval (.DictComp kx vx [⟨.Name x px, iter, [], 0⟩] scope pos) env) Q E s := DictComp_U hclos hcell hkind hnames hx h hs
theorem dsrc_dict {K₁ : Type} [DecidableEq K₁] {knd₁ : KeyKind prog w K₁} {knd : KeyKind prog w K} {kx vx : PySem.Expr} {x : Str} {scope : Scope} {cl : List (Str × Addr)} {Q : Value → Shared → Prop} {d : Addr} {od : Obj} {V : List (K₁ × Bts)} {news : List (Addr × Obj)} {s₁ : Shared}
    (J : Nat → List (K × Bts) → List (Addr × Obj) → Prop) (hh : A.handled = none) (F : Fr h₀ L s₁.heap m) (N : News h₀ L s₁.heap news) (hm : (d, od) ∈ news) (hV : DB knd₁ od V) (lo : (d == sysModules) = false) (hsz : V.length ≤ 1000000) (h0 : J 0 [] news)
    (turn : ∀ i acc nw v k b I oI C oC D oD m₂ h tk (E' : Value → Shared → Prop), i < V.length → J i acc nw → V[i]? = some (k, b) → knd₁.is k v = true → NsObj oC m₂ → m₂ x = some v → Fr h₀ L h m → News h₀ L h ((I, oI) :: (C, oC) :: (D, oD) :: nw) → DB knd oD acc → Off3 I C D nw → ((@Ne Nat I C) ∧ (@Ne Nat I D) ∧ (@Ne Nat C D)) → (d, od) ∈ nw →
      wpAny (model prog w) A (eval kx (compEnvC scope cl C env)) (fun kv s' => wpAny (model prog w) A (eval vx (compEnvC scope cl C env)) (fun vv s'' => DEnd knd h₀ L m { s₁ with heap := h, toks := tk } I oI C oC D oD (fun nw => (d, od) ∈ nw) (fun k b nw' => J (i + 1) (put acc k b) nw') kv vv s'') E' s') E' { s₁ with heap := h, toks := tk })
    (fin : ∀ D oD h tk acc news', Fr h₀ L h m → News h₀ L h ((D, oD) :: news') → DB knd oD acc → Off1 D news' → @LT.lt Nat _ L D → J V.length acc news' → Q (.ref D) { s₁ with heap := h, toks := tk }) :
    DSrc prog w A h₀ L m env kx vx x scope cl Q E (.ref d) s₁ := by
  obtain ⟨kvs, ⟨es, ep, h1, h2, h3, h4, h5⟩, hb⟩ := hV
  have hlen := hb.length
  have at_ : ∀ h nw, News h₀ L h nw → (d, od) ∈ nw → h.DictAt knd₁ d kvs ep := fun h nw N hm => ⟨od, es, (N _ hm).1, h1, h2, h3, h4, h5⟩
  have hD := at_ _ _ N hm
  have hlt : d < s₁.heap.objs.size := hD.lt_size
  unfold DSrc
  refine wpAny_pyIter_dict lo hD ?_
  have up : ∀ b o, s₁.heap.get? b = some o → (s₁.heap.push { cls := .type "dict_keyiterator", data := .fields #[.ref d, .int 0 0, .int kvs.length 0, .int ep 0] }).get? b = some o := fun b o e => Heap.get?_push_of_some _ e
  have W := Walks.dictKeys (knd := knd₁) (A := A) (prog := prog) (w := w) hh s₁.heap.objs.size d (Nat.ne_of_lt hlt) kvs ep
  refine ⟨K, inferInstance, knd, s₁.heap.objs.size, _, kvs.length, _, _, (fun nw => (d, od) ∈ nw), news, J, rfl, ⟨⟨W⟩⟩, by omega, (fun i h st => let ⟨o, e, _⟩ := st.1; ⟨o, e⟩), ?_, ⟨⟨_, Heap.get?_push_size _ rfl, rfl, rfl⟩, hD.push _⟩, ?_, F.keeps up, N.grown up, Nat.ne_of_lt F.ns.lt, next_is_new F, (fun p hp => Nat.ne_of_lt (Heap.lt_size (N p hp).1)), hm, h0, ?_, ?_⟩
  · intro i h h' o nw st e e' k N' hm'
    exact ⟨st.1.at fun o' q => by rw [e] at q; cases q; exact e', at_ _ _ N' hm'⟩
  · intro b hb
    show b < (s₁.heap.push _).objs.size
    rw [Heap.size_push]
    rcases List.mem_cons.mp hb with rfl | hb
    · exact Nat.lt_succ_self _
    · rw [List.mem_singleton.mp hb]; exact Nat.lt_succ_of_lt hlt
  · rintro i acc nw v I oI C oC D oD m₂ h tk E' hi hJ ⟨k, y, hk, hkv⟩ hC hx F' N' hdb off ne hS
    have : ∃ b, V[i]? = some (k, b) := by
      have e := congrArg (fun l : List K₁ => l[i]?) hb.keys
      simp only [List.getElem?_map, hk, Option.map_some] at e
      obtain ⟨p, hp, e2⟩ := Option.map_eq_some_iff.mp e.symm
      exact ⟨p.2, by rw [hp, ← e2]⟩
    obtain ⟨b, hb'⟩ := this
    exact turn i acc nw v k b I oI C oC D oD m₂ h tk E' (by omega) hJ hb' hkv hC hx F' N' hdb off ne hS
  · intro D oD h tk acc news' F' N' hdb o1 hLD hJ
    rw [hlen] at hJ
    exact fin D oD h tk acc news' F' N' hdb o1 hLD hJ
theorem dsrc_list {knd : KeyKind prog w K} {kx vx : PySem.Expr} {x : Str} {scope : Scope} {cl : List (Str × Addr)} {Q : Value → Shared → Prop} {ax : Addr} {its : List Value} {k : Nat} {news : List (Addr × Obj)} {s₁ : Shared}
    (J : Nat → List (K × Bts) → List (Addr × Obj) → Prop) (hh : A.handled = none) (F : Fr h₀ L s₁.heap m) (N : News h₀ L s₁.heap news) (hm : (ax, listOf its.toArray k) ∈ news) (hsz : its.length ≤ 1000000) (h0 : J 0 [] news)
    (turn : ∀ i acc nw v I oI C oC D oD m₂ h tk (E' : Value → Shared → Prop), i < its.length → J i acc nw → its[i]? = some v → NsObj oC m₂ → m₂ x = some v → Fr h₀ L h m → News h₀ L h ((I, oI) :: (C, oC) :: (D, oD) :: nw) → DB knd oD acc → Off3 I C D nw → ((@Ne Nat I C) ∧ (@Ne Nat I D) ∧ (@Ne Nat C D)) → (ax, listOf its.toArray k) ∈ nw →
      wpAny (model prog w) A (eval kx (compEnvC scope cl C env)) (fun kv s' => wpAny (model prog w) A (eval vx (compEnvC scope cl C env)) (fun vv s'' => DEnd knd h₀ L m { s₁ with heap := h, toks := tk } I oI C oC D oD (fun nw => (ax, listOf its.toArray k) ∈ nw) (fun k b nw' => J (i + 1) (put acc k b) nw') kv vv s'') E' s') E' { s₁ with heap := h, toks := tk })
    (fin : ∀ D oD h tk acc news', Fr h₀ L h m → News h₀ L h ((D, oD) :: news') → DB knd oD acc → Off1 D news' → @LT.lt Nat _ L D → J its.length acc news' → Q (.ref D) { s₁ with heap := h, toks := tk }) :
    DSrc prog w A h₀ L m env kx vx x scope cl Q E (.ref ax) s₁ := by
  have at_ : ∀ h nw, News h₀ L h nw → (ax, listOf its.toArray k) ∈ nw → h.IsList ax its.toArray := fun h nw N hm => ⟨_, (N _ hm).1, rfl, _, rfl⟩
  have hl := at_ _ _ N hm
  have hz : its.toArray.size = its.length := List.size_toArray
  have hlt : ax < s₁.heap.objs.size := by obtain ⟨_, e, _⟩ := hl; exact Heap.lt_size e
  unfold DSrc
  refine wpAny_pyIter_list hl ?_
  have up : ∀ b o, s₁.heap.get? b = some o → (s₁.heap.push { cls := .type "list_iterator", data := .fields #[.ref ax, .int 0 0] }).get? b = some o := fun b o e => Heap.get?_push_of_some _ e
  have W := Walks.list (A := A) (prog := prog) (w := w) hh s₁.heap.objs.size ax (Nat.ne_of_lt hlt) its.toArray
  refine ⟨K, inferInstance, knd, s₁.heap.objs.size, _, its.toArray.size, _, _, (fun nw => (ax, listOf its.toArray k) ∈ nw), news, J, rfl, ⟨⟨W⟩⟩, by omega, (fun i h st => let ⟨o, e, _⟩ := st.1; ⟨o, e⟩), ?_, ⟨⟨_, Heap.get?_push_size _ rfl, rfl, rfl⟩, hl.push _⟩, ?_, F.keeps up, N.grown up, Nat.ne_of_lt F.ns.lt, next_is_new F, (fun p hp => Nat.ne_of_lt (Heap.lt_size (N p hp).1)), hm, h0, ?_, ?_⟩
  · intro i h h' o nw st e e' k N' hm'
    exact ⟨by obtain ⟨o', q, r⟩ := st.1; rw [e] at q; cases q; exact ⟨o, e', r⟩, at_ _ _ N' hm'⟩
  · intro b hb
    show b < (s₁.heap.push _).objs.size
    rw [Heap.size_push]
    rcases List.mem_cons.mp hb with rfl | hb
    · exact Nat.lt_succ_self _
    · rw [List.mem_singleton.mp hb]; exact Nat.lt_succ_of_lt hlt
  · rintro i acc nw v I oI C oC D oD m₂ h tk E' hi hJ hv hC hx F' N' hdb off ne hS
    exact turn i acc nw v I oI C oC D oD m₂ h tk E' (by omega) hJ (by simpa using hv) hC hx F' N' hdb off ne hS
  · intro D oD h tk acc news' F' N' hdb o1 hLD hJ
    rw [hz] at hJ
    exact fin D oD h tk acc news' F' N' hdb o1 hLD hJ
theorem dend {knd : KeyKind prog w K} {s₁ : Shared} {I C D : Addr} {oI oC oD : Obj} {S : List (Addr × Obj) → Prop} {rest : K → Bts → List (Addr × Obj) → Prop} {kv : Value} {b : Bts} {t : Tok} {k : K} {h' : Heap} {tk : Nat} {all : List (Addr × Obj)} (news : List (Addr × Obj)) (F : Fr h₀ L h' m) (N : News h₀ L h' all) (sub : ∀ p ∈ (I, oI) :: (C, oC) :: (D, oD) :: news, p ∈ all) (off : Off3 I C D news) (hS : S news) (hk : knd.is k kv = true) (r : rest k b news) :
    DEnd knd h₀ L m s₁ I oI C oC D oD S rest kv (.bytes b t) { s₁ with heap := h', toks := tk } :=
  ⟨h', tk, news, k, b, t, rfl, hk, rfl, F, fun p hp => N p (sub p hp), off, hS, r⟩
end
end Mine
end
section
theorem Mine.offDs : True := by w_top off; trivial
open PySem PySem.W PyProof.Rows PySem.Calls
set_option Elab.async false
set_option maxRecDepth 100000
set_option maxHeartbeats 2000000
set_option linter.unusedSimpArgs false
set_option linter.unusedSectionVars false
set_option linter.unusedVariables false
namespace Mine
/-! dict displays with ** -/
def mergedB {K : Type} [DecidableEq K] (l l' : List (K × Bts)) : List (K × Bts) := l'.foldl (fun acc p => put acc p.1 p.2) l
section
variable {K : Type} [DecidableEq K]
theorem BV.merged {more : List (K × Value)} {l' : List (K × Bts)} (h' : BV more l') : ∀ {kvs : List (K × Value)} {l : List (K × Bts)}, BV kvs l → BV (PySem.merged kvs more) (mergedB l l') := by
  induction h' with
  | nil => intro kvs l h; exact h
  | cons _ ih => intro kvs l h; exact ih (h.stored _ _ _)
theorem look_mergedB {l' : List (K × Bts)} : ∀ {l : List (K × Bts)}, (l'.map (·.1)).Nodup → ∀ k, look (mergedB l l') k = (look l' k).or (look l k) := by
  induction l' with
  | nil => intro l _ k; rfl
  | cons p r ih =>
    intro l hn k
    rw [List.map_cons, List.nodup_cons] at hn
    show look (mergedB (put l p.1 p.2) r) k = _
    rw [ih hn.2, look_put, look_cons]
    by_cases hk : p.1 = k
    · have : look r k = none := by
        cases e : look r k with
        | none => rfl
        | some b => exact absurd (List.mem_map.mpr ⟨_, look_some_mem e, hk.symm⟩) hn.1
      rw [if_pos hk, if_pos hk, this]; rfl
    · rw [if_neg hk, if_neg hk]
theorem mergedB_length (l' : List (K × Bts)) : ∀ (l : List (K × Bts)), (mergedB l l').length ≤ l.length + l'.length := by
  induction l' with
  | nil => intro l; exact Nat.le_refl _
  | cons p r ih =>
    intro l
    have h1 := ih (put l p.1 p.2)
    have h2 := put_length l p.1 p.2
    show (mergedB (put l p.1 p.2) r).length ≤ _
    rw [List.length_cons]; omega
end
section
variable {prog : Program} {w : World} {K : Type} [DecidableEq K] {knd : KeyKind prog w K} {A : Around} {E : Value → Shared → Prop} {s : Shared}
theorem wpAny_dictPut_pairs {d : Addr} {kvs : List (K × Value)} {k : K} {key v : Value} {Q : Unit → Shared → Prop} (hkey : knd.is k key = true) (hm : s.heap.DictOf knd d kvs)
    (hQ : ∀ h', h'.DictOf knd d (PySem.stored kvs k v) → Heap.SameBut d s.heap h' → Q () { s with heap := h' })
    (hsz : kvs.length ≤ sizeLine) :
    wpAny (model prog w) A (dictPut d (knd.hash k) key v) Q E s := by
  obtain ⟨o, es, ep, ho, hc, hd, hk, hp, hn⟩ := hm
  have hes : es.size ≤ sizeLine := by have e1 := hp.length; have e2 : es.toList.length = es.size := by simp
                                      omega
  unfold dictPut
  refine wpAny_bind (wpAny_dictFind_of hkey ho hd hk ?_)
  have hidx : (es.findIdx? fun e => knd.is k e.key) = kvs.findIdx? fun kv => decide (kv.1 = k) := by
    rw [← hp.findIdx k]; obtain ⟨l⟩ := es; simp
  cases hi : es.findIdx? fun e => knd.is k e.key with
  | some i =>
    refine (wpAny_updateDict ho hd (hQ _ ⟨_, _, ep, Heap.get?_update_self _ ho (Obj.isFreed_of_dict (Obj.data_mapDict hd _)),
      hc.mapDict _, Obj.data_mapDict hd _, hk.modify _ _, ?_, ?_⟩ (Heap.SameBut.update ..)))
    · rw [stored, if_pos (any_of_findIdx_some (hidx ▸ hi))]
      have hl : (es.toList.findIdx? fun e => knd.is k e.key) = some i := by rw [← hi]; obtain ⟨l⟩ := es; simp
      have := hp.modify hn hl v
      obtain ⟨l⟩ := es
      simpa using this
    · rw [stored, if_pos (any_of_findIdx_some (hidx ▸ hi)), keys_map_store]; exact hn
  | none =>
    have hnot : k ∉ kvs.map (·.1) := not_mem_of_findIdx_none (hidx ▸ hi)
    have hany : ¬ (kvs.any fun kv => decide (kv.1 = k)) = true := by
      rw [List.any_eq_true]; rintro ⟨kv, hkv, he⟩
      exact hnot (List.mem_map.mpr ⟨kv, hkv, of_decide_eq_true he⟩)
    refine (wpAny_updateDictKeys (hz := hes) ho hd (hQ _ ⟨_, _, ep + 1, Heap.get?_update_self _ ho (Obj.isFreed_of_dict (Obj.data_mapDictKeys hd _)),
      hc.mapDictKeys _, Obj.data_mapDictKeys hd _, hk.push hkey _, ?_, ?_⟩ (Heap.SameBut.update ..)))
    · rw [stored, if_neg hany]
      have := hp.append hkey (knd.hash k) v
      obtain ⟨l⟩ := es
      simpa using this
    · rw [stored, if_neg hany, List.map_append, List.nodup_append]
      refine ⟨hn, by simp, ?_⟩
      intro a ha b hb
      simp only [List.map_cons, List.map_nil, List.mem_singleton] at hb
      subst hb
      exact fun e => hnot (e ▸ ha)
theorem wpAny_mergeMapping {d o : Addr} {kvs more : List (K × Value)} {Q : Unit → Shared → Prop} (hdo : d ≠ o) (hoS : (o == sysModules) = false) (hnr : ∀ k v, knd.is k v = true → ∀ a, v ≠ .ref a)
    (hd : s.heap.DictOf knd d kvs) (ho : s.heap.DictOf knd o more)
    (hQ : ∀ h', h'.DictOf knd d (merged kvs more) → Heap.SameBut d s.heap h' → Q () { s with heap := h' })
    (hsz : kvs.length + more.length ≤ sizeLine) :
    wpAny (model prog w) A (mergeMapping d (.ref o) false) Q E s := by
  obtain ⟨od, esd, epd, hod, hcd, hdd, hkd, hpd, hnd⟩ := id hd
  obtain ⟨oo, eso, epo, hoo, hco, hdo', hko, hpo, hno⟩ := id ho
  have hlen : more.length = eso.size := by rw [← hpo.length]; simp
  unfold mergeMapping
  refine wpAny_bind (wpAny_isInstance ho.typeIs isSubtype_dict_dict ?_)
  simp only [if_true]
  refine wpAny_bind (wpAny_specialOf ho.typeIs F.slot_dict_iter.lookup ?_)
  refine wpAny_bind (wpAny_pure ?_)
  simp only [beq_self_eq_true]
  rw [if_neg (by rw [hoS]; exact Bool.false_ne_true)]
  refine wpAny_bind (wpAny_dictEntries hod hdd ?_)
  split
  focus
    refine wpAny_bind (wpAny_dictEntries hoo hdo' ?_)
    refine wpAny_bind ?_
    refine wpAny_forIn_array' _ (fun rest _ s' => s' = s ∧ ∀ e ∈ rest, e ∈ eso.toList) _ ?_ ?_ _ _ ⟨rfl, fun _ h => h⟩
    · rintro e rest b s' ⟨rfl, hr⟩
      obtain ⟨k, hk, _⟩ := hko e (by simpa using hr e (.head _))
      have hne := hnr _ _ hk
      split
      · rename_i a' he
        exact absurd he (hne a')
      · exact wpAny_pure ⟨rfl, fun e he => hr e (.tail _ he)⟩
    rintro b s' ⟨hz, _⟩
    subst s'
  all_goals
    refine wpAny_bind (wpAny_dictEntries hoo hdo' ?_)
    refine wpAny_bind (wpAny_dictEpoch hoo hdo' ?_)
    refine wpAny_bind ?_
    rw [List.range_eq_range']
    refine wpAny_forIn_list _
      (fun rest _ s' => ∃ h' i, s' = { s with heap := h' } ∧ rest = List.range' i (eso.size - i) ∧ i ≤ eso.size ∧ h'.DictOf knd d (merged kvs (more.take i)) ∧ h'.get? o = some oo ∧ Heap.SameBut d s.heap h')
      _ ?_ ?_ _ _ ⟨s.heap, 0, rfl, by simp, Nat.zero_le _, by simpa [merged] using hd, hoo, Heap.SameBut.refl _ _⟩
    · rintro x rest b s' ⟨h', i, rfl, hr, hi, hd', hoo', hs'⟩
      have hlt : i < eso.size := by
        rcases Nat.lt_or_ge i eso.size with h | h
        · exact h
        · rw [Nat.sub_eq_zero_of_le h] at hr; simp at hr
      obtain ⟨rfl, hrest⟩ : x = i ∧ rest = List.range' (i + 1) (eso.size - (i + 1)) := by
        have e : eso.size - i = (eso.size - (i + 1)) + 1 := by omega
        rw [e, List.range'_succ] at hr
        injection hr with h1 h2
        exact ⟨h1, h2⟩
      refine wpAny_bind (wpAny_dictEntries hoo' hdo' ?_)
      rw [Array.getElem?_eq_getElem hlt]
      obtain ⟨kv, hkv⟩ : ∃ kv, more[x]? = some kv := ⟨more[x]'(by rw [hlen]; exact hlt), List.getElem?_eq_getElem _⟩
      obtain ⟨k, v⟩ := kv
      obtain ⟨hkey, hval⟩ := hpo.get? (e := eso[x]) (by simp [hlt]) hkv
      obtain ⟨k', hkey', hhash⟩ := hko eso[x] (Array.getElem_mem hlt)
      obtain rfl : k' = k := knd.inj _ _ _ hkey' hkey
      show wpAny _ _ (holding [eso[x].key, eso[x].val] (dictPut d eso[x].hash eso[x].key eso[x].val) >>= _) _ _ _
      rw [hhash, hval]
      have hmx : (merged kvs (more.take x)).length ≤ sizeLine := by
        have e1 := merged_length_le kvs (more.take x)
        have e2 : (more.take x).length ≤ more.length := by rw [List.length_take]; omega
        omega
      refine wpAny_bind (wpAny_holding (wpAny_dictPut_pairs (hsz := hmx) hkey hd' fun h'' hd'' hs'' => ?_))
      have hoo'' : h''.get? o = some oo := (hs''.2 o (Ne.symm hdo)).trans hoo'
      refine wpAny_bind (wpAny_dictEpoch hoo'' hdo' ?_)
      rw [if_neg (by simp)]
      exact wpAny_pure ⟨h'', x + 1, rfl, hrest, hlt, by rw [merged_take_succ kvs more x (k', v) hkv]; exact hd'', hoo'', hs'.trans hs''⟩
    · rintro b s' ⟨h', i, rfl, hr, hi, hd', hoo', hs'⟩
      have hin : i = eso.size := by
        rcases Nat.lt_or_ge i eso.size with h | h
        · have e : eso.size - i = (eso.size - (i + 1)) + 1 := by omega
          rw [e, List.range'_succ] at hr; exact nomatch hr
        · exact Nat.le_antisymm hi h
      refine wpAny_pure (hQ h' ?_ hs')
      rw [hin, ← hlen, List.take_length] at hd'; exact hd'
variable {h₀ : Heap} {L D a : Addr} {m : Str → Option Value} {news : List (Addr × Obj)} {g : Obj → List (Addr × Obj)} {od oa : Obj} {l l' : List (K × Bts)}
theorem merge_K {Q : Unit → Shared → Prop} (F : Fr h₀ L s.heap m) (N : News h₀ L s.heap news) (U : UpdF D od news g) (hD : DB knd od l) (hm : (a, oa) ∈ news) (ha : DB knd oa l') (hne : @Ne Nat D a) (lo : (a == sysModules) = false) (hnr : ∀ k v, knd.is k v = true → ∀ a, v ≠ .ref a) (hsz : l.length + l'.length ≤ 1000000)
    (h : ∀ h' od', Fr h₀ L h' m → News h₀ L h' (g od') → DB knd od' (mergedB l l') → Q () { s with heap := h' }) : wpAny (model prog w) A (mergeMapping D (.ref a) false) Q E s := by
  obtain ⟨kvs, hi, hb⟩ := hD
  obtain ⟨more, hi', hb'⟩ := ha
  obtain ⟨pre, post, rfl, hg, a1, a2⟩ := U.split
  have hmD := N (D, od) (List.mem_append_right _ (.head _))
  refine wpAny_mergeMapping hne lo hnr (Heap.dictOf_iff.mpr ⟨od, hmD.1, hi⟩) (Heap.dictOf_iff.mpr ⟨oa, (N _ hm).1, hi'⟩) (fun h' hd' hs' => ?_) (by rw [hb.length, hb'.length, sizeLine_eq]; omega)
  obtain ⟨o', ho', hdo'⟩ := Heap.dictOf_iff.mp hd'
  exact h h' o' (F.change hs' hmD.2.1 hmD.2.2) (hg o' ▸ N.setIn a1 a2 hs' ho') ⟨_, hdo', hb'.merged hb⟩
theorem str_nr {prog : Program} {w : World} : ∀ k v, (PySem.strKind prog w).is k v = true → ∀ a, v ≠ .ref a := by
  intro k v h a e
  subst e
  have h2 : Value.isStrOf k (.ref a) = true := h
  exact Bool.noConfusion h2
end
section
variable {M : Model} {A : Around} {E : Value → Shared → Prop} {s : Shared} {env : Env} {e1 e2 ek ev : PySem.Expr} {pos : Pos} {Q : Value → Shared → Prop}
theorem merge_step {vs : List Value} {m : Sem Unit} {f g k : Value → Sem Unit} {Q : Unit → Shared → Prop} (h : wpAny M A m Q (fun _ _ => False) s) :
    wpAny M A ((((holding vs m).onRaise f).tryCatch g).onRaise k) Q E s :=
  wpAny_onRaise (wpAny_tryCatch (wpAny_onRaise (wpAny_holding (wpAny_mono h (fun _ _ h => h) fun _ _ h => h.elim))))
theorem eval_dict2
    (h : wpAny M A (eval e1 env) (fun m1 s1 => wpAny M A (mergeMapping s.heap.objs.size m1 false) (fun _ s2 => wpAny M A (eval e2 env) (fun m2 s3 => wpAny M A (mergeMapping s.heap.objs.size m2 false) (fun _ s4 => Q (.ref s.heap.objs.size) s4) (fun _ _ => False) s3) E s2) (fun _ _ => False) s1) E { s with heap := s.heap.push { cls := .type "dict", data := .dict #[] } }) :
    wpAny M A (eval (.Dict [none, none] [e1, e2] pos) env) Q E s := by
  rw [arm_eval_Dict]
  refine wpAny_bind (wpAny_standAt ?_)
  show wpAny M A (dictDisplay [(none, _), (none, _)]) Q E s
  unfold dictDisplay
  simp only [List.forIn_cons, List.forIn_nil, List.isEmpty_nil, if_true, bind_assoc, pure_bind]
  refine wpAny_bind (wpAny_alloc ?_)
  refine wpAny_bind (wpAny_holding (wpAny_bind (wpAny_mono h (fun m1 s1 h1 => wpAny_bind (wpAny_standAt (wpAny_pure ?_))) fun _ _ e => e)))
  refine wpAny_bind (merge_step (wpAny_mono h1 (fun _ s2 h2 => ?_) fun _ _ e => e))
  refine wpAny_bind (wpAny_holding (wpAny_bind (wpAny_mono h2 (fun m2 s3 h3 => wpAny_bind (wpAny_standAt (wpAny_pure ?_))) fun _ _ e => e)))
  exact wpAny_bind (merge_step (wpAny_mono h3 (fun _ s4 h4 => wpAny_pure h4) fun _ _ e => e))
theorem eval_dict1
    (h : wpAny M A (eval e1 env) (fun m1 s1 => wpAny M A (mergeMapping s.heap.objs.size m1 false) (fun _ s2 => wpAny M A (eval ek env) (fun kv s3 => wpAny M A (eval ev env) (fun vv s4 =>
      wpAny M A (dictSet s2.heap.objs.size kv vv) (fun _ s5 => wpAny M A (mergeMapping s.heap.objs.size (.ref s2.heap.objs.size) false) (fun _ s6 => Q (.ref s.heap.objs.size) s6) (fun _ _ => False) s5) E s4) E s3) E { s2 with heap := s2.heap.push { cls := .type "dict", data := .dict #[] } }) (fun _ _ => False) s1) E { s with heap := s.heap.push { cls := .type "dict", data := .dict #[] } }) :
    wpAny M A (eval (.Dict [none, some ek] [e1, ev] pos) env) Q E s := by
  rw [arm_eval_Dict]
  refine wpAny_bind (wpAny_standAt ?_)
  show wpAny M A (dictDisplay [(none, _), (some _, _)]) Q E s
  unfold dictDisplay
  simp only [List.forIn_cons, List.forIn_nil, List.isEmpty_nil, if_true, bind_assoc, pure_bind]
  refine wpAny_bind (wpAny_alloc ?_)
  refine wpAny_bind (wpAny_holding (wpAny_bind (wpAny_mono h (fun m1 s1 h1 => wpAny_bind (wpAny_standAt (wpAny_pure ?_))) fun _ _ e => e)))
  refine wpAny_bind (merge_step (wpAny_mono h1 (fun _ s2 h2 => ?_) fun _ _ e => e))
  rw [if_neg (by simp)]
  simp only [pure_bind, List.nil_append, List.isEmpty_cons, Bool.false_eq_true, if_false, bind_assoc]
  unfold subDict
  refine wpAny_bind (wpAny_holding (wpAny_bind (wpAny_alloc (wpAny_bind (wpAny_holding ?_)))))
  rw [if_pos (by simp)]
  unfold evalPairs evalPairs
  refine wpAny_bind (wpAny_bind (wpAny_mono h2 (fun kv s3 h3 => wpAny_bind (wpAny_holding (wpAny_bind (wpAny_mono h3 (fun vv s4 h4 => wpAny_bind (wpAny_standAt (wpAny_pure (wpAny_bind (wpAny_holding (wpAny_pure (wpAny_pure ?_))))))) fun _ _ e => e)))) fun _ _ e => e))
  refine wpAny_holding ?_
  simp only [List.forIn_cons, List.forIn_nil, bind_assoc, pure_bind]
  refine wpAny_bind (wpAny_mono h4 (fun _ s5 h5 => ?_) fun _ _ e => e)
  refine wpAny_pure (wpAny_pure ?_)
  exact wpAny_bind (wpAny_onRaise (wpAny_holding (wpAny_mono h5 (fun _ _ h => wpAny_pure h) fun _ _ h => h.elim)))
theorem not_modules {h₀ h : Heap} {L D : Addr} {m : Str → Option Value} (F : Fr h₀ L h m) (x : h₀.NoLimit) (hl : @LT.lt Nat _ L D) : (D == sysModules) = false :=
  beq_eq_false_iff_ne.mpr (Nat.ne_of_gt (Nat.lt_trans (modules_low x) (Nat.lt_of_le_of_lt F.above hl)))
def AllocD (P : Addr → Shared → Prop) (s : Shared) : Prop := P s.heap.objs.size { s with heap := s.heap.push { cls := .type "dict", data := .dict #[] } }
theorem alloc_K {prog : Program} {w : World} {h₀ : Heap} {L : Addr} {m : Str → Option Value} {news : List (Addr × Obj)} {P : Addr → Shared → Prop} (F : Fr h₀ L s.heap m) (N : News h₀ L s.heap news)
    (h : ∀ D od h', Fr h₀ L h' m → News h₀ L h' ((D, od) :: news) → DB (PySem.strKind prog w) od [] → (∀ p ∈ news, p.1 < D) → @LT.lt Nat _ L D → P D { s with heap := h' }) : AllocD P s :=
  h _ _ _ (F.push _) (News.push F N _) ⟨[], ⟨#[], 0, ⟨rfl, rfl, rfl⟩, rfl, fun _ he => by simp at he, Pairs.nil, List.nodup_nil⟩, .nil⟩ (fun p hp => Heap.lt_size (N p hp).1) F.ns.lt
theorem eval_dict2A
    (h : AllocD (fun D s0 => wpAny M A (eval e1 env) (fun m1 s1 => wpAny M A (mergeMapping D m1 false) (fun _ s2 => wpAny M A (eval e2 env) (fun m2 s3 => wpAny M A (mergeMapping D m2 false) (fun _ s4 => Q (.ref D) s4) (fun _ _ => False) s3) E s2) (fun _ _ => False) s1) E s0) s) :
    wpAny M A (eval (.Dict [none, none] [e1, e2] pos) env) Q E s := eval_dict2 h
theorem eval_dict1A
    (h : AllocD (fun D s0 => wpAny M A (eval e1 env) (fun m1 s1 => wpAny M A (mergeMapping D m1 false) (fun _ s2 => AllocD (fun S s2' => wpAny M A (eval ek env) (fun kv s3 => wpAny M A (eval ev env) (fun vv s4 =>
      wpAny M A (dictSet S kv vv) (fun _ s5 => wpAny M A (mergeMapping D (.ref S) false) (fun _ s6 => Q (.ref D) s6) (fun _ _ => False) s5) E s4) E s3) E s2') s2) (fun _ _ => False) s1) E s0) s) :
    wpAny M A (eval (.Dict [none, some ek] [e1, ev] pos) env) Q E s := eval_dict1 h
end
end Mine
end
section
theorem Mine.offKf : True := by w_top off; trivial
open PySem PySem.W PyProof.Rows PySem.Calls
set_option Elab.async false
set_option maxRecDepth 100000
set_option maxHeartbeats 2000000
set_option linter.unusedSimpArgs false
set_option linter.unusedSectionVars false
set_option linter.unusedVariables false
namespace Mine
/-! loops whose ledger may take new objects from turn to turn -/
def EndF (h₀ : Heap) (L : Addr) (J : (Str → Option Value) → List (Addr × Obj) → Prop) (own : List (Addr × Obj)) (I : Addr) (s₁ s₂ : Shared) : Prop :=
  ∃ h' tk m' news' nx, s₂ = { s₁ with heap := h', toks := tk } ∧ Fr h₀ L h' m' ∧ News h₀ L h' news' ∧ (∀ p ∈ nx, p ∈ news') ∧ (∀ p ∈ own, p ∈ news') ∧ (∀ p ∈ nx, p.1 ≠ I) ∧ J m' nx
def PostF (h₀ : Heap) (L : Addr) (J : (Str → Option Value) → List (Addr × Obj) → Prop) (own : List (Addr × Obj)) (I : Addr) (s₁ : Shared) (Q : Flow → Shared → Prop) (f : Flow) (s₂ : Shared) : Prop :=
  match f with
  | .ret v => Q (.ret v) s₂
  | .brk => Q .next s₂
  | _ => EndF h₀ L J own I s₁ s₂
section
variable {prog : Program} {w : World} {A : Around} {E : Value → Shared → Prop} {s : Shared} {env : Env} {h₀ : Heap} {x : Str} {body : List Stmt} {Q : Flow → Shared → Prop}
theorem kf_loop {σ : Type} {I : Addr} {fp : List Addr} {n : Nat} {P : Nat → Value → Prop} {St : Nat → Heap → Prop} {m₀ : Str → Option Value} (Led : σ → List (Addr × Obj)) (ps : σ → List (Str × Value)) (stored : List Str) (PP : Nat → σ → Prop) (c₀ : σ)
    (W : Walks prog w A I fp [I] n P St) (hSt : ∀ i h, St i h → ∃ o, h.get? I = some o) (hLf : env.locals ∉ fp) (hI0 : h₀.get? I = none) (hoff : ∀ q ∈ Led c₀, q.1 ≠ I) (hst : St 0 s.heap) (F : Fr h₀ env.locals s.heap m₀) (N : News h₀ env.locals s.heap (Led c₀)) (hk : ∀ p ∈ ps c₀, m₀ p.1 = some p.2) (hp : PP 0 c₀)
    (turn : ∀ (c : σ) (i : Nat) (v : Value) (u : Str → Option Value) h tk own, i < n → P i v → (∀ p ∈ Led c, p.1 ≠ I) → (∀ p ∈ own, p.1 ∈ fp) → (∃ oI, (I, oI) ∈ own) → St (i + 1) h → PP i c →
      Fr h₀ env.locals h (fun y => if y = x then some v else kstB (fun z => if stored.contains z then u z else m₀ z) (ps c) y) → News h₀ env.locals h (Led c ++ own) →
      wpAny (model prog w) A (execs body env) (PostF h₀ env.locals (KN Led ps x stored m₀ PP (i + 1)) own I { s with heap := h, toks := tk } Q) E { s with heap := h, toks := tk })
    (done : ∀ (c : σ) (u : Str → Option Value) h tk, PP n c → Fr h₀ env.locals h (fun y => if y = x then u y else kstB (fun z => if stored.contains z then u z else m₀ z) (ps c) y) → News h₀ env.locals h (Led c) → Q .next { s with heap := h, toks := tk }) :
    LoopAtV prog w A h₀ env x body Q E (.ref I) s := by
  refine ⟨I, fp, [I], n, P, St, m₀, Led c₀, fun i m nx => KN Led ps x stored m₀ PP i m nx, rfl, W, hLf, (fun b hb => by rw [List.mem_singleton.mp hb]; exact hI0), (fun p hp hm => hoff p hp (List.mem_singleton.mp hm)), hst, F, N, ⟨c₀, rfl, hk, fun _ _ _ _ => rfl, hp⟩, ?_, ?_⟩
  · rintro i v m₁ news₁ s₁ own ⟨hh', tk', rfl⟩ hin hP ⟨c, rfl, h1, h2, hp'⟩ hoff' hown hget hmem hst' F₁ N₁
    have N₂ : News h₀ env.locals hh' (Led c ++ own) := fun p hp => N₁ p ((List.mem_append.mp hp).elim (fun h => List.mem_append.mpr (.inr h)) fun h => List.mem_append.mpr (.inl h))
    have hI : ∃ oI, (I, oI) ∈ own := by
      obtain ⟨o, ho⟩ := hSt _ _ hst'
      exact ⟨o, hmem I (W.sub I (List.mem_singleton.mpr rfl)) hI0 o ho⟩
    refine wpAny_mono (turn c i v m₁ hh' tk' own hin hP (fun p hp e => hoff' p hp (by rw [e]; exact List.mem_singleton.mpr rfl)) hown hI hst' hp' (kst_fr h1 h2 F₁) N₂) (fun f s₂ p => ?_) fun _ _ e => e
    have fin : EndF h₀ env.locals (KN Led ps x stored m₀ PP (i + 1)) own I { s with heap := hh', toks := tk' } s₂ → LoopStepU h₀ env.locals [I] own (KN Led ps x stored m₀ PP (i + 1)) { s with heap := hh', toks := tk' } .next s₂ := by
      rintro ⟨h', tk, m', news', nx, e, F', N', hn, ho, ha, hm⟩
      exact ⟨rfl, h', tk, m', nx, e, F', fun p hp => N' p ((List.mem_append.mp hp).elim (ho p) (hn p)), fun p hp hq => ha p hp (List.mem_singleton.mp hq), hm⟩
    cases f with
    | ret v => exact .ret p
    | brk => exact .brk p
    | next => exact .next (fin p)
    | cont => exact .cont (fin p)
  · rintro h tk m₁ nx F₁ N₁ _ ⟨c, rfl, h1, h2, hp'⟩
    exact done c m₁ h tk hp' (kst_frOut h1 h2 F₁) N₁
theorem kf_end {σ : Type} {Led : σ → List (Addr × Obj)} {ps : σ → List (Str × Value)} {stored : List Str} {m₀ : Str → Option Value} {PP : Nat → σ → Prop} {i : Nat} (c : σ) {L I : Addr} {m' : Str → Option Value} {own news' : List (Addr × Obj)} {s₁ : Shared} {h' : Heap} {tk : Nat}
    (F : Fr h₀ L h' m') (N : News h₀ L h' news') (hn : ∀ p ∈ Led c, p ∈ news') (ho : ∀ p ∈ own, p ∈ news') (ha : ∀ p ∈ Led c, p.1 ≠ I) (hk : ∀ p ∈ ps c, m' p.1 = some p.2) (hr : ∀ z, z ≠ x → (∀ p ∈ ps c, z ≠ p.1) → stored.contains z = false → m' z = m₀ z) (hp : PP i c) :
    EndF h₀ L (KN Led ps x stored m₀ PP i) own I s₁ { s₁ with heap := h', toks := tk } :=
  ⟨h', tk, m', news', Led c, rfl, F, N, hn, ho, ha, c, rfl, hk, hr, hp⟩
/-- over range(0, n) -/
theorem kf_range {σ : Type} {r : Addr} {t₀ u₀ v₀ : Tok} {n : Nat} {b₀ : Int} {m₀ : Str → Option Value} (Led : σ → List (Addr × Obj)) (ps : σ → List (Str × Value)) (stored : List Str) (PP : Nat → σ → Prop) (c₀ : σ)
    (hh : A.handled = none) (hr : IsRange s.heap r 0 b₀ 1 t₀ u₀ v₀) (hb : b₀ = (n : Int)) (hsm : n < 1000000) (F : Fr h₀ env.locals s.heap m₀) (N : News h₀ env.locals s.heap (Led c₀)) (hk : ∀ p ∈ ps c₀, m₀ p.1 = some p.2) (hp : PP 0 c₀)
    (turn : ∀ (I : Addr) (c : σ) (i : Nat) (t : Tok) (u : Str → Option Value) h tk own, (∀ p ∈ Led c₀, p.1 < I) → i < n → (∀ p ∈ Led c, p.1 ≠ I) → (∀ p ∈ own, p.1 = I) → (∃ oI, (I, oI) ∈ own) → PP i c →
      Fr h₀ env.locals h (fun y => if y = x then some (.int (i : Int) t) else kstB (fun z => if stored.contains z then u z else m₀ z) (ps c) y) → News h₀ env.locals h (Led c ++ own) →
      wpAny (model prog w) A (execs body env) (PostF h₀ env.locals (KN Led ps x stored m₀ PP (i + 1)) own I { s with heap := h, toks := tk } Q) E { s with heap := h, toks := tk })
    (done : ∀ (c : σ) (u : Str → Option Value) h tk, PP n c → Fr h₀ env.locals h (fun y => if y = x then u y else kstB (fun z => if stored.contains z then u z else m₀ z) (ps c) y) → News h₀ env.locals h (Led c) → Q .next { s with heap := h, toks := tk }) :
    wpAny (model prog w) A (pyIter (.ref r)) (fun it s₂ => LoopAtV prog w A h₀ env x body Q E it s₂) E s := by
  subst hb
  have hsmall : Builtin.Range.small 0 (n : Int) 1 = true := small_one (by omega) (by omega) (by omega) (by omega)
  have hn : Builtin.Range.rangeSize 0 (n : Int) 1 = (n : Int) := by have := rangeSize_nat 0 n; simpa using this
  refine wpAny_pyIter_range hr hsmall ?_
  have W := Walks.range (prog := prog) (w := w) hh s.heap.objs.size 0 1 n
  refine kf_loop Led ps stored PP c₀ W (fun i h st => ⟨_, st⟩) ?_ (next_is_new F) ?_ (by show IsRangeIter _ _ _ _ _; rw [hn]; simpa using Heap.get?_push_size _ rfl) (F.push _) (fun p hp => ⟨Heap.get?_push_of_some _ (N p hp).1, (N p hp).2⟩) hk hp ?_ done
  · intro hm
    exact absurd F.ns.lt ((List.mem_singleton.mp hm) ▸ Nat.lt_irrefl _)
  · intro p hp
    exact Nat.ne_of_lt (Heap.lt_size (N p hp).1)
  · rintro c i v u h tk own hi ⟨t, rfl⟩ hoff hown hI _ hp' F₁ N₁
    have e1 : (0 : Int) + (i : Int) * 1 = (i : Int) := by omega
    rw [e1] at F₁
    exact turn _ c i t u h tk own (fun p hp => Heap.lt_size (N p hp).1) hi hoff (fun p hp => List.mem_singleton.mp (hown p hp)) hI hp' F₁ N₁
/-- over a list of the call's own -/
theorem kf_list {σ : Type} {ax : Addr} {vs : List Value} {nn : Nat} {m₀ : Str → Option Value} (Led : σ → List (Addr × Obj)) (ps : σ → List (Str × Value)) (stored : List Str) (PP : Nat → σ → Prop) (c₀ : σ)
    (hh : A.handled = none) (F : Fr h₀ env.locals s.heap m₀) (N : News h₀ env.locals s.heap (Led c₀)) (hm : (ax, listOf vs.toArray nn) ∈ Led c₀) (hk : ∀ p ∈ ps c₀, m₀ p.1 = some p.2) (hp : PP 0 c₀)
    (turn : ∀ (I : Addr) (c : σ) (i : Nat) (v : Value) (u : Str → Option Value) h tk own, (∀ p ∈ Led c₀, p.1 < I) → i < vs.length → vs[i]? = some v → (∀ p ∈ Led c, p.1 ≠ I) → (∀ p ∈ own, p.1 = I ∨ p.1 = ax) → (∃ oI, (I, oI) ∈ own) → PP i c →
      Fr h₀ env.locals h (fun y => if y = x then some v else kstB (fun z => if stored.contains z then u z else m₀ z) (ps c) y) → News h₀ env.locals h (Led c ++ own) →
      wpAny (model prog w) A (execs body env) (PostF h₀ env.locals (KN Led ps x stored m₀ PP (i + 1)) own I { s with heap := h, toks := tk } Q) E { s with heap := h, toks := tk })
    (done : ∀ (c : σ) (u : Str → Option Value) h tk, PP vs.length c → Fr h₀ env.locals h (fun y => if y = x then u y else kstB (fun z => if stored.contains z then u z else m₀ z) (ps c) y) → News h₀ env.locals h (Led c) → Q .next { s with heap := h, toks := tk }) :
    wpAny (model prog w) A (pyIter (.ref ax)) (fun it s₂ => LoopAtV prog w A h₀ env x body Q E it s₂) E s := by
  have hl : s.heap.IsList ax vs.toArray := ⟨_, (N _ hm).1, rfl, _, rfl⟩
  have hz : vs.toArray.size = vs.length := List.size_toArray
  have hlt : ax < s.heap.objs.size := Heap.lt_size (N _ hm).1
  refine wpAny_pyIter_list hl ?_
  have W := Walks.list (A := A) (prog := prog) (w := w) hh s.heap.objs.size ax (Nat.ne_of_lt hlt) vs.toArray
  rw [hz] at W
  refine kf_loop Led ps stored PP c₀ W (fun i h st => let ⟨o, e, _⟩ := st.1; ⟨o, e⟩) ?_ (next_is_new F) ?_ ⟨⟨_, Heap.get?_push_size _ rfl, rfl, rfl⟩, hl.push _⟩ (F.push _) (fun p hp => ⟨Heap.get?_push_of_some _ (N p hp).1, (N p hp).2⟩) hk hp ?_ done
  · intro hm'
    rcases List.mem_cons.mp hm' with e | hm'
    · exact absurd F.ns.lt (e ▸ Nat.lt_irrefl _)
    · exact (N _ hm).2.1 (List.mem_singleton.mp hm').symm
  · intro p hp
    exact Nat.ne_of_lt (Heap.lt_size (N p hp).1)
  · rintro c i v u h tk own hi hv hoff hown hI _ hp' F₁ N₁
    refine turn _ c i v u h tk own (fun p hp => Heap.lt_size (N p hp).1) hi (by simpa using hv) hoff (fun p hp => ?_) hI hp' F₁ N₁
    rcases List.mem_cons.mp (hown p hp) with e | e
    · exact .inl e
    · exact .inr (List.mem_singleton.mp e)
/-- over a dict of the call's own -/
theorem kf_dict {σ K : Type} [DecidableEq K] {knd : KeyKind prog w K} {d : Addr} {od : Obj} {V : List (K × Bts)} {m₀ : Str → Option Value} (Led : σ → List (Addr × Obj)) (ps : σ → List (Str × Value)) (stored : List Str) (PP : Nat → σ → Prop) (c₀ : σ)
    (hh : A.handled = none) (lo : (d == sysModules) = false) (F : Fr h₀ env.locals s.heap m₀) (N : News h₀ env.locals s.heap (Led c₀)) (hm : (d, od) ∈ Led c₀) (hV : DB knd od V) (hk : ∀ p ∈ ps c₀, m₀ p.1 = some p.2) (hp : PP 0 c₀)
    (turn : ∀ (I : Addr) (c : σ) (i : Nat) (v : Value) (k : K) (b : Bts) (u : Str → Option Value) h tk own, (∀ p ∈ Led c₀, p.1 < I) → i < V.length → V[i]? = some (k, b) → knd.is k v = true → (∀ p ∈ Led c, p.1 ≠ I) → (∀ p ∈ own, p.1 = I ∨ p.1 = d) → (∃ oI, (I, oI) ∈ own) → PP i c →
      Fr h₀ env.locals h (fun y => if y = x then some v else kstB (fun z => if stored.contains z then u z else m₀ z) (ps c) y) → News h₀ env.locals h (Led c ++ own) →
      wpAny (model prog w) A (execs body env) (PostF h₀ env.locals (KN Led ps x stored m₀ PP (i + 1)) own I { s with heap := h, toks := tk } Q) E { s with heap := h, toks := tk })
    (done : ∀ (c : σ) (u : Str → Option Value) h tk, PP V.length c → Fr h₀ env.locals h (fun y => if y = x then u y else kstB (fun z => if stored.contains z then u z else m₀ z) (ps c) y) → News h₀ env.locals h (Led c) → Q .next { s with heap := h, toks := tk }) :
    wpAny (model prog w) A (pyIter (.ref d)) (fun it s₂ => LoopAtV prog w A h₀ env x body Q E it s₂) E s := by
  obtain ⟨kvs, ⟨es, ep, h1, h2, h3, h4, h5⟩, hb⟩ := hV
  have hlen := hb.length
  have hD : s.heap.DictAt knd d kvs ep := ⟨od, es, (N _ hm).1, h1, h2, h3, h4, h5⟩
  have hlt : d < s.heap.objs.size := hD.lt_size
  refine wpAny_pyIter_dict lo hD ?_
  have W := Walks.dictKeys (knd := knd) (A := A) (prog := prog) (w := w) hh s.heap.objs.size d (Nat.ne_of_lt hlt) kvs ep
  rw [hlen] at W
  refine kf_loop Led ps stored PP c₀ W (fun i h st => let ⟨o, e, _⟩ := st.1; ⟨o, e⟩) ?_ (next_is_new F) ?_ ⟨⟨_, Heap.get?_push_size _ rfl, rfl, by rw [hlen]; rfl⟩, hD.push _⟩ (F.push _) (fun p hp => ⟨Heap.get?_push_of_some _ (N p hp).1, (N p hp).2⟩) hk hp ?_ done
  · intro hm'
    rcases List.mem_cons.mp hm' with e | hm'
    · exact absurd F.ns.lt (e ▸ Nat.lt_irrefl _)
    · exact (N _ hm).2.1 (List.mem_singleton.mp hm').symm
  · intro p hp
    exact Nat.ne_of_lt (Heap.lt_size (N p hp).1)
  · rintro c i v u h tk own hi ⟨k, y, hk', hkv⟩ hoff hown hI _ hp' F₁ N₁
    have : ∃ b, V[i]? = some (k, b) := by
      have e := congrArg (fun l : List K => l[i]?) hb.keys
      simp only [List.getElem?_map, hk', Option.map_some] at e
      obtain ⟨p, hp, e2⟩ := Option.map_eq_some_iff.mp e.symm
      exact ⟨p.2, by rw [hp, ← e2]⟩
    obtain ⟨b, hb'⟩ := this
    refine turn _ c i v k b u h tk own (fun p hp => Heap.lt_size (N p hp).1) hi hb' hkv hoff (fun p hp => ?_) hI hp' F₁ N₁
    rcases List.mem_cons.mp (hown p hp) with e | e
    · exact .inl e
    · exact .inr (List.mem_singleton.mp e)
end
end Mine
end
section
theorem Mine.offSo : True := by w_top off; trivial
open PySem PySem.W PyProof.Rows PySem.Calls
set_option Elab.async false
set_option maxRecDepth 100000
set_option maxHeartbeats 2000000
set_option linter.unusedSimpArgs false
set_option linter.unusedSectionVars false
set_option linter.unusedVariables false
namespace Mine
/-! sorted(d) of a dict whose keys are texts -/
theorem strs_at : ∀ (vs : List Value) (ss : List Str), vs.length = ss.length → (∀ (j : Nat) (v : Value), vs[j]? = some v → ∃ k, ss[j]? = some k ∧ Value.isStrOf k v = true) → StrsAre vs ss
  | [], [], _, _ => .nil
  | [], _ :: _, h, _ => by simp at h
  | _ :: _, [], h, _ => by simp at h
  | v :: vs, k :: ss, hl, h => by
    obtain ⟨k', e1, e2⟩ := h 0 v rfl
    obtain rfl : k = k' := by simpa using e1
    obtain ⟨t, rfl⟩ := Value.isStrOf_shape e2
    exact .cons k t (strs_at vs ss (by simpa using hl) fun j v hv => by simpa using h (j + 1) v (by simpa using hv))
section
variable {prog : Program} {w : World} {A : Around} {E : Value → Shared → Prop} {s : Shared} {h₀ : Heap} {L D : Addr} {m : Str → Option Value} {news : List (Addr × Obj)}
theorem sort_strs_K {vs : List Value} {ss : List Str} {n : Nat} {Q : Value → Shared → Prop} (F : Fr h₀ L s.heap m) (N : News h₀ L s.heap ((D, PySem.W.listOf vs.toArray n) :: news)) (hD : ∀ p ∈ news, p.1 ≠ D) (hS : StrsAre vs ss) (h64 : vs.length < 64)
    (h : ∀ h' vs' ss' e, Fr h₀ L h' m → News h₀ L h' ((D, PySem.W.listOf vs'.toArray e) :: news) → StrsAre vs' ss' → ss'.Perm ss → Q .none { s with heap := h' }) : wpAny (model prog w) A (call (.builtin "list.sort") [.ref D]) Q E s := by
  have z := N _ (.head _)
  have ho : s.heap.get? D = some (seqObj "list" vs.toArray n) := z.1
  refine wpAny_call_entry slot_list_sort ⟨_, z.1, rfl⟩ entry_list_sort (list_sort_treeK strKind_oneLt (n := n) (vs := vs) ho hS.keysOf (fun v₁ v₂ rest e => keyKind_strs (by rw [← e]; exact hS)) h64 fun st' hp hs => ⟨.none, rfl, ?_⟩) (args_list_sort _)
  obtain ⟨ss', h1, h2, _⟩ := sorted_out_str hS hp hs
  generalize (arrOf st').map (·.2) = out at h1
  have ha : D < s.heap.objs.size := Heap.lt_size ho
  obtain ⟨e1, ho1⟩ : ∃ e1, (s.heap.update D (Obj.mapSeq fun _ => #[])).get? D = some (seqObj "list" #[] e1) := ⟨_, get?_update_seq ho (fun _ => #[])⟩
  have F1 : Fr h₀ L (s.heap.update D (Obj.mapSeq fun _ => (#[] : Array Value))) m := F.change (Heap.SameBut.update ..) z.2.1 z.2.2
  have o1 : ∀ p ∈ news, (s.heap.update D (Obj.mapSeq fun _ => (#[] : Array Value))).get? p.1 = some p.2 := fun p hp => (Heap.get?_update_other _ _ (Ne.symm (hD p hp))).trans (N p (.tail _ hp)).1
  have F4 : Fr h₀ L ((((s.heap.update D (Obj.mapSeq fun _ => (#[] : Array Value))).push (seqObj "tuple" vs.toArray 0)).push (seqObj "list" #[] 0)).update D (Obj.mapSeq fun _ => out)) m :=
    ((F1.push (seqObj "tuple" vs.toArray 0)).push (seqObj "list" #[] 0)).change (Heap.SameBut.update ..) z.2.1 z.2.2
  have ho3 : ((((s.heap.update D (Obj.mapSeq fun _ => (#[] : Array Value))).push (seqObj "tuple" vs.toArray 0)).push (seqObj "list" #[] 0))).get? D = some (seqObj "list" #[] e1) := Heap.get?_push_of_some _ (Heap.get?_push_of_some _ ho1)
  have ho4 := get?_update_seq ho3 (fun _ => out)
  suffices N4 : News h₀ L ((((s.heap.update D (Obj.mapSeq fun _ => (#[] : Array Value))).push (seqObj "tuple" vs.toArray 0)).push (seqObj "list" #[] 0)).update D (Obj.mapSeq fun _ => out)) ((D, PySem.W.listOf out.toList.toArray (if (out.size == (#[] : Array Value).size) = true then e1 else e1 + 1)) :: news) from h _ out.toList ss' _ F4 N4 h1 h2
  intro p hp
  rcases List.mem_cons.mp hp with rfl | hp
  · exact ⟨ho4, z.2⟩
  · exact ⟨(Heap.get?_update_other _ _ (Ne.symm (hD p hp))).trans (Heap.get?_push_of_some _ (Heap.get?_push_of_some _ (o1 p hp))), (N p (.tail _ hp)).2⟩
theorem sorted_dict_K {d : Addr} {od : Obj} {V : List (Str × Bts)} {Q : Value → Shared → Prop} (hh : A.handled = none) (F : Fr h₀ L s.heap m) (N : News h₀ L s.heap news) (hm : (d, od) ∈ news) (hV : DB (PySem.strKind prog w) od V) (lo : (d == sysModules) = false) (hsz : V.length < 64)
    (h : ∀ D vs ss e h' tk, Fr h₀ L h' m → News h₀ L h' ((D, PySem.W.listOf vs.toArray e) :: news) → (∀ q ∈ news, q.1 < D) → StrsAre vs ss → ss.Perm (V.map (·.1)) → Q (.ref D) { s with heap := h', toks := tk }) :
    wpAny (model prog w) A (call (.builtin "sorted") [.ref d]) Q E s := by
  obtain ⟨kvs, ⟨es, ep, h1, h2, h3, h4, h5⟩, hb⟩ := hV
  have hlen := hb.length
  have hD : s.heap.DictAt (PySem.strKind prog w) d kvs ep := ⟨od, es, (N _ hm).1, h1, h2, h3, h4, h5⟩
  refine kdu_sorted (kdl_dict (knd := PySem.strKind prog w) (kvs := kvs) (ep := ep) lo) hh F N hD (by rw [sizeLine_eq]; omega) fun B h' tk vs F' N' l1 hl hv => ?_
  have hS : StrsAre vs (V.map (·.1)) := by
    rw [← hb.keys]
    refine strs_at vs _ (by rw [hl, List.length_map]) fun j v e => ?_
    obtain ⟨k, x, e1, e2⟩ := hv j v e
    exact ⟨k, by rw [List.getElem?_map, e1]; rfl, e2⟩
  exact sort_strs_K F' N' (fun p hp => Nat.ne_of_lt (l1 p hp)) hS (by omega) fun h2 vs' ss' e F2 N2 a1 a2 => h _ _ _ _ _ _ F2 N2 l1 a1 a2
end
end Mine
end
section
theorem Mine.offJm : True := by w_top off; trivial
open PySem PySem.W PyProof.Rows PySem.Calls
set_option Elab.async false
set_option maxRecDepth 100000
set_option maxHeartbeats 2000000
set_option linter.unusedSimpArgs false
set_option linter.unusedSectionVars false
set_option linter.unusedVariables false
namespace Mine
/-! _law_joined, without the program -/
structure InS where
  as : List Value
  an : Nat
  xs : List Nat
  ob : Obj
  B : List Bts
  od : Obj
  W : List (Str × Bts)
structure InQ (prog : Program) (w : World) (d : Nat) (ps : List Nat) (B₀ : List Bts) (W₀ : List (Str × Bts)) (i : Nat) (c : InS) : Prop where
  sa : StrsAre c.as (c.xs.map (pathStr d))
  mem : ∀ x, x ∈ c.xs ↔ ∃ j p, j < i ∧ ps[j]? = some p ∧ p / 2 = x
  xl : c.xs.length ≤ i
  book : Book prog w c.ob c.B
  pre : B₀ <+: c.B
  bl : c.B.length ≤ B₀.length + i
  db : DB (PySem.strKind prog w) c.od c.W
  wl : c.W.length ≤ W₀.length + i
  keep : ∀ k, (∀ x ∈ c.xs, k ≠ pathStr d x) → look c.W k = look W₀ k
  node : ∀ x ∈ c.xs, ∃ l r h, look c.W (pathStr d x) = some h ∧ look W₀ (pathStr (d + 1) (2 * x)) = some l ∧ look W₀ (pathStr (d + 1) (2 * x + 1)) = some r ∧ Hash c.B (l ++ r) h
theorem path_len_ne {d e p q : Nat} (h : d ≠ e) : pathStr d p ≠ pathStr e q := by
  intro h'
  have := congrArg Str.length h'
  rw [pathStr_len, pathStr_len] at this
  exact h this
theorem InQ.up {prog : Program} {w : World} {d : Nat} {ps : List Nat} {B₀ : List Bts} {W₀ : List (Str × Bts)} {i : Nat} {c : InS} (P : InQ prog w d ps B₀ W₀ i c) (k : Nat) : look c.W (pathStr (d + 1) k) = look W₀ (pathStr (d + 1) k) :=
  P.keep _ fun x _ => path_len_ne (by omega)
theorem InQ.skip {prog : Program} {w : World} {d : Nat} {ps : List Nat} {B₀ : List Bts} {W₀ : List (Str × Bts)} {i p : Nat} {c : InS} (P : InQ prog w d ps B₀ W₀ i c) (hp : ps[i]? = some p) (hx : p / 2 ∈ c.xs) : InQ prog w d ps B₀ W₀ (i + 1) c := by
  refine ⟨P.sa, fun x => ?_, by have := P.xl; omega, P.book, P.pre, by have := P.bl; omega, P.db, by have := P.wl; omega, P.keep, P.node⟩
  rw [P.mem]
  constructor
  · rintro ⟨j, p', h1, h2, h3⟩
    exact ⟨j, p', by omega, h2, h3⟩
  · rintro ⟨j, p', h1, h2, h3⟩
    by_cases hj : j = i
    · subst hj
      rw [hp] at h2
      obtain rfl := Option.some.inj h2
      rw [← h3]
      exact (P.mem _).mp hx
    · exact ⟨j, p', by omega, h2, h3⟩
theorem InQ.put {prog : Program} {w : World} {d : Nat} {ps : List Nat} {B₀ B' : List Bts} {W₀ : List (Str × Bts)} {i p an : Nat} {as : List Value} {xs : List Nat} {ob od ob' od' : Obj} {B : List Bts} {W : List (Str × Bts)} {l r h : Bts} {t : Tok} {k : Str} (P : InQ prog w d ps B₀ W₀ i ⟨as, an, xs, ob, B, od, W⟩) (hp : ps[i]? = some p) (hx : p / 2 ∉ xs) (hb : ∀ x ∈ ps, x < 2 ^ (d + 1)) (hk : k = pathStr d (p / 2))
    (hB' : Book prog w ob' B') (hpre : B <+: B') (hl : B'.length ≤ B.length + 1) (hd : DB (PySem.strKind prog w) od' (Mine.put W k h)) (h1 : look W₀ (pathStr (d + 1) (2 * (p / 2))) = some l) (h2 : look W₀ (pathStr (d + 1) (2 * (p / 2) + 1)) = some r) (hH : Hash B' (l ++ r) h) :
    InQ prog w d ps B₀ W₀ (i + 1) ⟨as ++ [.str k t], an + 1, xs ++ [p / 2], ob', B', od', Mine.put W k h⟩ := by
  subst hk
  have hmem := P.mem
  have hbx : ∀ x ∈ xs, x < 2 ^ d := fun x hx => by
    obtain ⟨j, p', _, h2, h3⟩ := (hmem x).mp hx
    have := hb p' (List.mem_of_getElem? h2)
    rw [Nat.pow_succ] at this; omega
  have hpb : p / 2 < 2 ^ d := by
    have := hb p (List.mem_of_getElem? hp)
    rw [Nat.pow_succ] at this; omega
  refine ⟨?_, fun x => ?_, ?_, hB', P.pre.trans hpre, ?_, hd, ?_, fun k hk => ?_, fun x hx' => ?_⟩
  · simp only [List.map_append, List.map_cons, List.map_nil]
    exact P.sa.append' (.cons _ t .nil)
  · simp only [List.mem_append, List.mem_singleton]
    constructor
    · rintro (hx' | rfl)
      · obtain ⟨j, p', a1, a2, a3⟩ := (hmem x).mp hx'
        exact ⟨j, p', by omega, a2, a3⟩
      · exact ⟨i, p, by omega, hp, rfl⟩
    · rintro ⟨j, p', a1, a2, a3⟩
      by_cases hj : j = i
      · subst hj
        rw [hp] at a2
        obtain rfl := Option.some.inj a2
        exact .inr a3.symm
      · exact .inl ((hmem x).mpr ⟨j, p', by omega, a2, a3⟩)
  · have := P.xl; simp only [List.length_append, List.length_singleton] at *; omega
  · have := P.bl; simp only at *; omega
  · have := P.wl; have := put_length W (pathStr d (p / 2)) h; simp only at *; omega
  · simp only at hk ⊢
    rw [look_put, if_neg (fun e => hk (p / 2) (by simp) e.symm)]
    exact P.keep k fun x hx => hk x (by simp [hx])
  · simp only at hx' ⊢
    rcases List.mem_append.mp hx' with hx' | hx'
    · obtain ⟨l', r', h', a1, a2, a3, a4⟩ := P.node x hx'
      refine ⟨l', r', h', ?_, a2, a3, a4.mono hpre⟩
      rw [look_put, if_neg]
      · exact a1
      · intro e
        have := path_inj hpb (hbx x hx') e
        exact hx (this ▸ hx')
    · obtain rfl := List.mem_singleton.mp hx'
      exact ⟨l, r, h, by rw [look_put, if_pos rfl], h1, h2, hH⟩
structure OuS where
  lv : Addr
  vs : List Value
  e : Nat
  ps : List Nat
  ob : Obj
  B : List Bts
  od : Obj
  W : List (Str × Bts)
structure OuQ (prog : Program) (w : World) (qs : List Nat) (B₀ : List Bts) (W₀ : List (Str × Bts)) (i : Nat) (c : OuS) : Prop where
  sa : StrsAre c.vs (c.ps.map (pathStr (8 - i)))
  mem : ∀ x, x ∈ c.ps ↔ ∃ q ∈ qs, q / 2 ^ i = x
  pl : c.ps.length ≤ 4
  book : Book prog w c.ob c.B
  pre : B₀ <+: c.B
  bl : c.B.length ≤ B₀.length + 4 * i
  db : DB (PySem.strKind prog w) c.od c.W
  wl : c.W.length ≤ W₀.length + 4 * i
  keep : ∀ k, (∀ q ∈ qs, ∀ e, e < 8 → 8 - i ≤ e → k ≠ pathStr e (q / 2 ^ (8 - e))) → look c.W k = look W₀ k
  node : ∀ q ∈ qs, ∀ e, e < 8 → 8 - i ≤ e → ∃ l r h, look c.W (pathStr e (q / 2 ^ (8 - e))) = some h ∧ look c.W (pathStr (e + 1) (2 * (q / 2 ^ (8 - e)))) = some l ∧ look c.W (pathStr (e + 1) (2 * (q / 2 ^ (8 - e)) + 1)) = some r ∧ Hash c.B (l ++ r) h
theorem anc_lt {q i : Nat} (hq : q < 256) (hi : i ≤ 8) : q / 2 ^ i < 2 ^ (8 - i) := by
  rw [Nat.div_lt_iff_lt_mul (Nat.pow_pos (by decide)), ← Nat.pow_add, show 8 - i + i = 8 by omega]; exact hq
/-- what one level needs of the level below -/
structure Cov (qs : List Nat) (W₀ : List (Str × Bts)) : Prop where
  lt : ∀ q ∈ qs, q < 256
  leaf : ∀ q ∈ qs, ∃ h, look W₀ (pathStr 8 q) = some h ∧ h.size ≤ 1000
  side : ∀ q ∈ qs, ∀ i, i < 8 → (∀ q' ∈ qs, q' / 2 ^ i ≠ sib (q / 2 ^ i)) → ∃ b, look W₀ (pathStr (8 - i) (sib (q / 2 ^ i))) = some b ∧ b.size ≤ 1000
theorem OuQ.self {prog : Program} {w : World} {qs : List Nat} {B₀ : List Bts} {W₀ : List (Str × Bts)} {i : Nat} {c : OuS} (C : Cov qs W₀) (P : OuQ prog w qs B₀ W₀ i c) (hi : i < 8) {q : Nat} (hq : q ∈ qs) : ∃ h, look c.W (pathStr (8 - i) (q / 2 ^ i)) = some h ∧ h.size ≤ 1000 := by
  rcases Nat.eq_zero_or_pos i with rfl | hpos
  · obtain ⟨h, e1, e2⟩ := C.leaf q hq
    refine ⟨h, ?_, e2⟩
    rw [show q / 2 ^ 0 = q by rw [Nat.pow_zero, Nat.div_one], P.keep]
    · exact e1
    · intro q' _ e he _; exact path_len_ne (by omega)
  · obtain ⟨l, r, h, a1, _, _, a4⟩ := P.node q hq (8 - i) (by omega) (Nat.le_refl _)
    rw [show 8 - (8 - i) = i by omega] at a1
    exact ⟨h, a1, by have := a4.size; omega⟩
theorem OuQ.kids {prog : Program} {w : World} {qs : List Nat} {B₀ : List Bts} {W₀ : List (Str × Bts)} {i : Nat} {c : OuS} (C : Cov qs W₀) (P : OuQ prog w qs B₀ W₀ i c) (hi : i < 8) {p : Nat} (hp : p ∈ c.ps) :
    ∃ l r, look c.W (pathStr (8 - i) (2 * (p / 2))) = some l ∧ look c.W (pathStr (8 - i) (2 * (p / 2) + 1)) = some r ∧ l.size ≤ 1000 ∧ r.size ≤ 1000 := by
  obtain ⟨q, hq, rfl⟩ := (P.mem p).mp hp
  have hme := P.self C hi hq
  have hsib : ∃ h, look c.W (pathStr (8 - i) (sib (q / 2 ^ i))) = some h ∧ h.size ≤ 1000 := by
    by_cases hs : ∃ q' ∈ qs, q' / 2 ^ i = sib (q / 2 ^ i)
    · obtain ⟨q', hq', e⟩ := hs
      rw [← e]; exact P.self C hi hq'
    · have hs' : ∀ q' ∈ qs, q' / 2 ^ i ≠ sib (q / 2 ^ i) := fun q' hq' e => hs ⟨q', hq', e⟩
      obtain ⟨b, e1, e2⟩ := C.side q hq i hi hs'
      refine ⟨b, ?_, e2⟩
      rw [P.keep]
      · exact e1
      · intro q' hq' e he hle h
        obtain ⟨h1, h2⟩ := path_inj2 (sib_lt (C.lt q hq) hi) (by
          have := anc_lt (C.lt q' hq') (i := 8 - e) (by omega)
          rwa [show 8 - (8 - e) = e by omega] at this) h
        subst h1
        rw [show 8 - (8 - i) = i by omega] at h2
        exact hs' q' hq' h2.symm
  obtain ⟨h, a1, a2⟩ := hme
  obtain ⟨h', b1, b2⟩ := hsib
  generalize q / 2 ^ i = p at *
  rcases Nat.mod_two_eq_zero_or_one p with e | e
  · have e1 : 2 * (p / 2) = p := by omega
    have e2 : 2 * (p / 2) + 1 = sib p := by unfold sib; rw [if_pos e]; omega
    rw [e2, e1]
    exact ⟨h, h', a1, b1, a2, b2⟩
  · have e1 : 2 * (p / 2) = sib p := by unfold sib; rw [if_neg (by omega)]; omega
    have e2 : 2 * (p / 2) + 1 = p := by omega
    rw [e2, e1]
    exact ⟨h', h, b1, a1, b2, a2⟩
theorem OuQ.step {prog : Program} {w : World} {qs : List Nat} {B₀ : List Bts} {W₀ : List (Str × Bts)} {i : Nat} {c : OuS} {d : InS} {lv : Addr} {e : Nat} (C : Cov qs W₀) (P : OuQ prog w qs B₀ W₀ i c) (hi : i < 8) (R : InQ prog w (7 - i) c.ps c.B c.W c.ps.length d) : OuQ prog w qs B₀ W₀ (i + 1) ⟨lv, d.as, e, d.xs, d.ob, d.B, d.od, d.W⟩ := by
  have hd : 8 - (i + 1) = 7 - i := by omega
  have hmem : ∀ x, x ∈ d.xs ↔ ∃ q ∈ qs, q / 2 ^ (i + 1) = x := fun x => by
    rw [R.mem]
    constructor
    · rintro ⟨j, p, _, h2, h3⟩
      obtain ⟨q, hq, rfl⟩ := (P.mem p).mp (List.mem_of_getElem? h2)
      exact ⟨q, hq, by rw [← h3, Nat.pow_succ, Nat.div_div_eq_div_mul]⟩
    · rintro ⟨q, hq, rfl⟩
      have := (P.mem (q / 2 ^ i)).mpr ⟨q, hq, rfl⟩
      obtain ⟨j, hj⟩ := List.getElem?_of_mem this
      exact ⟨j, _, (List.getElem?_eq_some_iff.mp hj).1, hj, by rw [Nat.pow_succ, Nat.div_div_eq_div_mul]⟩
  refine ⟨by rw [hd]; exact R.sa, hmem, by have := R.xl; have := P.pl; simp only; omega, R.book, P.pre.trans R.pre, by have := R.bl; have := P.bl; have := P.pl; simp only; omega, R.db, by have := R.wl; have := P.wl; have := P.pl; simp only; omega, fun k hk => ?_, fun q hq e' he hle => ?_⟩
  · simp only
    rw [R.keep, P.keep]
    · intro q hq e' he hle; exact hk q hq e' he (by omega)
    · intro x hx
      obtain ⟨q, hq, rfl⟩ := (hmem x).mp hx
      have := hk q hq (7 - i) (by omega) (by omega)
      rwa [show 8 - (7 - i) = i + 1 by omega] at this
  · simp only
    by_cases hlev : e' = 7 - i
    · subst hlev
      rw [show 8 - (7 - i) = i + 1 by omega]
      obtain ⟨l, r, h, a1, a2, a3, a4⟩ := R.node _ ((hmem _).mpr ⟨q, hq, rfl⟩)
      exact ⟨l, r, h, a1, by rw [R.up]; exact a2, by rw [R.up]; exact a3, a4⟩
    · obtain ⟨l, r, h, a1, a2, a3, a4⟩ := P.node q hq e' he (by omega)
      have up : ∀ e'' k, 7 - i < e'' → look d.W (pathStr e'' k) = look c.W (pathStr e'' k) := fun e'' k h => R.keep _ fun x _ => path_len_ne (by omega)
      exact ⟨l, r, h, by rw [up _ _ (by omega)]; exact a1, by rw [up _ _ (by omega)]; exact a2, by rw [up _ _ (by omega)]; exact a3, a4.mono R.pre⟩
theorem places_of {qs : List Nat} : ∀ (ss : List Str), (∀ s ∈ ss, s ∈ qs.map (pathStr 8)) → ∃ ps : List Nat, ss = ps.map (pathStr 8) ∧ ∀ p ∈ ps, p ∈ qs
  | [], _ => ⟨[], rfl, fun _ h => by cases h⟩
  | s :: r, h => by
    obtain ⟨q, hq, e⟩ := List.mem_map.mp (h s (.head _))
    obtain ⟨ps, e1, e2⟩ := places_of r fun s hs => h s (.tail _ hs)
    refine ⟨q :: ps, by rw [List.map_cons, e, e1], fun p hp => ?_⟩
    rcases List.mem_cons.mp hp with rfl | hp
    · exact hq
    · exact e2 p hp
theorem places_perm {qs : List Nat} {ss : List Str} (hq : ∀ q ∈ qs, q < 256) (h : ss.Perm (qs.map (pathStr 8))) : ∃ ps : List Nat, ss = ps.map (pathStr 8) ∧ ps.length = qs.length ∧ ∀ x, x ∈ ps ↔ x ∈ qs := by
  obtain ⟨ps, e1, e2⟩ := places_of ss fun s hs => h.mem_iff.mp hs
  refine ⟨ps, e1, by have := h.length_eq; rw [e1] at this; simpa using this, fun x => ⟨e2 x, fun hx => ?_⟩⟩
  have : pathStr 8 x ∈ ss := h.mem_iff.mpr (List.mem_map.mpr ⟨x, hx, rfl⟩)
  rw [e1] at this
  obtain ⟨p, hp, e⟩ := List.mem_map.mp this
  have := path_inj (d := 8) (hq p (e2 p hp)) (hq x hx) e
  exact this ▸ hp
end Mine
end
section
local macro_rules | `(tactic| walk_at "zzz") => `(tactic| fail)
local macro_rules | `(tactic| walk_at "zzz") => `(tactic| fail)
local macro_rules | `(tactic| walk_at "zzz") => `(tactic| fail)
local macro_rules | `(tactic| walk_at "zzz") => `(tactic| fail)
local macro_rules | `(tactic| walk_at "zzz") => `(tactic| fail)
local macro_rules | `(tactic| walk_at "zzz") => `(tactic| fail)
local macro_rules | `(tactic| walk_at "zzz") => `(tactic| fail)
local macro_rules | `(tactic| walk_at "zzz") => `(tactic| fail)
local macro_rules | `(tactic| walk_at "zzz") => `(tactic| fail)
local macro_rules | `(tactic| walk_at "zzz") => `(tactic| fail)
local macro_rules | `(tactic| walk_at "zzz") => `(tactic| fail)
local macro_rules | `(tactic| walk_at "zzz") => `(tactic| fail)
local macro_rules | `(tactic| walk_at "zzz") => `(tactic| fail)
local macro_rules | `(tactic| walk_at "zzz") => `(tactic| fail)
local macro_rules | `(tactic| walk_at "zzz") => `(tactic| fail)
local macro_rules | `(tactic| walk_at "zzz") => `(tactic| fail)
local macro_rules | `(tactic| walk_at "zzz") => `(tactic| fail)
local macro_rules | `(tactic| walk_at "zzz") => `(tactic| fail)
local macro_rules | `(tactic| walk_at "zzz") => `(tactic| fail)
local macro_rules | `(tactic| walk_at "zzz") => `(tactic| fail)
local macro_rules | `(tactic| walk_at "zzz") => `(tactic| fail)
local macro_rules | `(tactic| walk_at "zzz") => `(tactic| fail)
local macro_rules | `(tactic| walk_at "zzz") => `(tactic| fail)
local macro_rules | `(tactic| walk_at "zzz") => `(tactic| fail)
local macro_rules | `(tactic| walk_at "zzz") => `(tactic| fail)
local macro_rules | `(tactic| walk_at "zzz") => `(tactic| fail)
local macro_rules | `(tactic| walk_at "zzz") => `(tactic| fail)
local macro_rules | `(tactic| walk_at "zzz") => `(tactic| fail)
local macro_rules | `(tactic| walk_at "zzz") => `(tactic| fail)
local macro_rules | `(tactic| walk_at "zzz") => `(tactic| fail)
local macro_rules | `(tactic| walk_at "zzz") => `(tactic| fail)
local macro_rules | `(tactic| walk_at "zzz") => `(tactic| fail)
local macro_rules | `(tactic| walk_at "zzz") => `(tactic| fail)
local macro_rules | `(tactic| walk_at "zzz") => `(tactic| fail)
local macro_rules | `(tactic| walk_at "zzz") => `(tactic| fail)
local macro_rules | `(tactic| walk_at "zzz") => `(tactic| fail)
local macro_rules | `(tactic| walk_at "zzz") => `(tactic| fail)
local macro_rules | `(tactic| walk_at "zzz") => `(tactic| fail)
local macro_rules | `(tactic| walk_at "zzz") => `(tactic| fail)
local macro_rules | `(tactic| walk_at "zzz") => `(tactic| fail)
local macro_rules | `(tactic| walk_at "zzz") => `(tactic| fail)
local macro_rules | `(tactic| walk_at "zzz") => `(tactic| fail)
local macro_rules | `(tactic| walk_at "zzz") => `(tactic| fail)
local macro_rules | `(tactic| walk_at "zzz") => `(tactic| fail)
local macro_rules | `(tactic| walk_at "zzz") => `(tactic| fail)
local macro_rules | `(tactic| walk_at "zzz") => `(tactic| fail)
local macro_rules | `(tactic| walk_at "zzz") => `(tactic| fail)
local macro_rules | `(tactic| walk_at "zzz") => `(tactic| fail)
local macro_rules | `(tactic| walk_at "zzz") => `(tactic| fail)
local macro_rules | `(tactic| walk_at "zzz") => `(tactic| fail)
local macro_rules | `(tactic| walk_at "zzz") => `(tactic| fail)
local macro_rules | `(tactic| walk_at "zzz") => `(tactic| fail)
local macro_rules | `(tactic| walk_at "zzz") => `(tactic| fail)
local macro_rules | `(tactic| walk_at "zzz") => `(tactic| fail)
local macro_rules | `(tactic| walk_at "zzz") => `(tactic| fail)
local macro_rules | `(tactic| walk_at "zzz") => `(tactic| fail)
local macro_rules | `(tactic| walk_at "zzz") => `(tactic| fail)
local macro_rules | `(tactic| walk_at "zzz") => `(tactic| fail)
local macro_rules | `(tactic| walk_at "zzz") => `(tactic| fail)
local macro_rules | `(tactic| walk_at "zzz") => `(tactic| fail)
local macro_rules | `(tactic| walk_at "zzz") => `(tactic| fail)
local macro_rules | `(tactic| walk_at "zzz") => `(tactic| fail)
local macro_rules | `(tactic| walk_at "zzz") => `(tactic| fail)
local macro_rules | `(tactic| walk_at "zzz") => `(tactic| fail)
local macro_rules | `(tactic| walk_at "zzz") => `(tactic| fail)
local macro_rules | `(tactic| walk_at "zzz") => `(tactic| fail)
local macro_rules | `(tactic| walk_at "zzz") => `(tactic| fail)
local macro_rules | `(tactic| walk_at "zzz") => `(tactic| fail)
local macro_rules | `(tactic| walk_at "zzz") => `(tactic| fail)
local macro_rules | `(tactic| walk_at "zzz") => `(tactic| fail)
local macro_rules | `(tactic| walk_at "zzz") => `(tactic| fail)
local macro_rules | `(tactic| walk_at "zzz") => `(tactic| fail)
local macro_rules | `(tactic| walk_at "zzz") => `(tactic| fail)
local macro_rules | `(tactic| walk_at "zzz") => `(tactic| fail)
local macro_rules | `(tactic| walk_at "zzz") => `(tactic| fail)
local macro_rules | `(tactic| walk_at "zzz") => `(tactic| fail)
local macro_rules | `(tactic| walk_at "zzz") => `(tactic| fail)
local macro_rules | `(tactic| walk_at "zzz") => `(tactic| fail)
local macro_rules | `(tactic| walk_at "zzz") => `(tactic| fail)
local macro_rules | `(tactic| walk_at "zzz") => `(tactic| fail)
open PySem PySem.W PyProof.Rows PySem.Calls
set_option Elab.async false
set_option maxRecDepth 100000
set_option maxHeartbeats 4000000
set_option linter.unusedSimpArgs false
set_option linter.unusedSectionVars false
set_option linter.unusedVariables false
theorem Mine.fillK9 : (fun (_ : OpenLaw) (_ : Params → Frag) => True) PySem.Challenge.rw_bs0043_01 Mine.hd.heap_39 := by w_top off; k_fill; trivial
namespace Mine
theorem sk_is (prog : Program) (w : World) (b : Str) (t : Tok) : (PySem.strKind prog w).is b (.str b t) = true := by simp [PySem.strKind, Value.isStrOf]
local macro_rules | `(tactic| k_all) => `(tactic| assumption)
local macro_rules | `(tactic| k_mem) => `(tactic| first | assumption | exact List.mem_append_left _ (by assumption))
local macro_rules | `(tactic| k_room) => `(tactic| ((try simp only [depth_under_make, depth_under_kw, depth_in1, depth_deeper, depth_caller]); (try dsimp only [ktrTop]); omega))
local macro_rules | `(tactic| k_units) => `(tactic| ((have hcL9 := cLine_is); (try simp only [units_under_make, units_in1, units_deeper, Around.mark_units, units_caller]); (try dsimp only [ktrTop]); omega))
local macro_rules | `(tactic| walk_at "subscriptTail") => `(tactic| (k_here; (with_reducible show wpAny _ _ (subscriptTail _ _ (Value.str (pathStr _ _) _) (Value.int _ _)) _ _ _); k_dflt (refine' item_P (item_last rfl) ?z ?a ?b ?_; (case z => (rw [pathStr_len]; omega)); (case a => (rw [pathStr_len]; omega)); (case b => (rw [pathStr_len]; omega)); k_whole)))
local macro_rules | `(tactic| walk_at "subscriptTail") => `(tactic| (k_here; (with_reducible show wpAny _ _ (subscriptTail _ _ (Value.str (pathStr _ _) _) (Value.ref _)) _ _ _); k_dflt (refine' slice_P ?F ?N ?e ?z ?_; (case F => k_asm); (case N => k_asm); (case e => (first | exact slice_last rfl | exact slice_path rfl (by omega))); (case z => (rw [pathStr_len]; omega)); k_whole); intro h' t' k' F' N'))
local macro_rules | `(tactic| walk_at "binaryOp Add") => `(tactic| (k_here; (with_reducible show wpAny _ _ (binaryOp _ (Value.str (pathStr _ _) _) (Value.str _ _)) _ _ _); k_dflt (refine' add_S ?e ?a ?b ?_; (case e => (first | exact path_one _ _ | exact path_nil _ _)); (case a => (rw [pathStr_len]; omega)); (case b => decide); k_whole); intro _ _))
local macro_rules | `(tactic| walk_at "call ref") => `(tactic| (k_here; (with_reducible show wpAny _ _ (call (Value.ref _) [Value.bytes _ _]) _ _ _); k_dflt (refine' hash_use ?HC ?Bl ?F ?X ?N ?T ?k ?d ?u ?U ?mc ?mh ?mo ?hB ?l ?_; (case HC => with_reducible assumption); (case Bl => k_asm); (case F => k_asm); (case X => k_asm); (case N => k_asm); (case T => k_asm); (case k => rfl); (case d => k_room); (case u => k_units); (case U => k_updF); (case mc => k_mem); (case mh => k_mem); (case mo => k_mem); (case hB => with_reducible assumption); (case l => omega); k_whole); intro hh' tk' ob' B' h' tks' hB' hpre' hH' hl' F' N'; (try dsimp only at N'); (have hs' := Hash.size hH'); (try k_sweep)))
local macro_rules | `(tactic| walk_at "callWith ref") => `(tactic| (k_here; k_dflt (refine' callWith_F ?k1 ?_; (case k1 => exact FnAt.of (by k_asm) (by k_mem)); k_whole)))
local macro_rules | `(tactic| walk_at "binaryOp Add") => `(tactic| (k_here; (with_reducible show wpAny _ _ (binaryOp _ (Value.bytes _ _) (Value.bytes _ _)) _ _ _); k_dflt (refine' add_B ?a ?b ?_; (case a => omega); (case b => omega)); intro _ _))

local macro_rules | `(tactic| walk_at "subscriptTail") => `(tactic| (k_here; (with_reducible show wpAny _ _ (subscriptTail _ _ (Value.ref _) (Value.str _ _)) _ _ _); k_dflt (refine' db_item (knd := PySem.strKind _ _) ?N ?p ?d ?k ?l ?_; (case N => k_asm); (case p => k_mem); (case d => with_reducible assumption); (case k => exact sk_is _ _ _ _); (case l => with_reducible assumption); k_whole); intro _))
local macro_rules | `(tactic| walk_at "call builtin:sorted") => `(tactic| refine rest ?_)
local macro_rules | `(tactic| walk_at "pyIter ref") => `(tactic| refine rest ?_)
abbrev ouLed (bk D : Addr) (rest : List (Addr × Obj)) (c : OuS) : List (Addr × Obj) := (c.lv, PySem.W.listOf c.vs.toArray c.e) :: (bk, c.ob) :: (D, c.od) :: rest
abbrev ouPs (c : OuS) : List (Str × Value) := [(Str.ofString "level", .ref c.lv)]
def OuR (prog : Program) (w : World) (qs : List Nat) (bk D : Addr) (B₀ : List Bts) (W₀ : List (Str × Bts)) (i : Nat) (c : OuS) : Prop := OuQ prog w qs B₀ W₀ i c ∧ @Ne Nat c.lv bk ∧ @Ne Nat c.lv D
section
variable {prog : Program} {w : World} {A : Around} {E : Value → Shared → Prop} {s : Shared} {env : Env} {h₀ : Heap} {x : Str} {body : List Stmt} {Q : Flow → Shared → Prop}
theorem ju_loop {bk D D2 a1 a2 lv r : Addr} {rest0 : List (Addr × Obj)} {ob od oD2 c1 c2 : Obj} {vs : List Value} {ss : List Str} {e : Nat} {B : List Bts} {V W : List (Str × Bts)} {qs : List Nat} {t₀ u₀ v₀ : Tok} {m₀ : Str → Option Value}
    (hh : A.handled = none) (hr : IsRange s.heap r 0 8 1 t₀ u₀ v₀) (F : Fr h₀ env.locals s.heap m₀) (N₀ : News h₀ env.locals s.heap ((lv, PySem.W.listOf vs.toArray e) :: (D2, oD2) :: (D, od) :: (a1, c1) :: (a2, c2) :: (bk, ob) :: rest0))
    (l1 : ∀ p ∈ (D2, oD2) :: (D, od) :: (a1, c1) :: (a2, c2) :: (bk, ob) :: rest0, p.1 < lv) (nbD : @Ne Nat bk D) (r0 : ∀ p ∈ (D2, oD2) :: (a1, c1) :: (a2, c2) :: rest0, p.1 ≠ bk) (r1 : ∀ p ∈ (D2, oD2) :: (a1, c1) :: (a2, c2) :: rest0, p.1 ≠ D)
    (hS : StrsAre vs ss) (hP : ss.Perm (V.map (·.1))) (hVq : V.map (·.1) = qs.map (pathStr 8)) (hC : Cov qs W) (hql : qs.length ≤ 4) (hB : Book prog w ob B) (hD : DB (PySem.strKind prog w) od W) (hn : m₀ (Str.ofString "level") = some (.ref lv))
    (turn : ∀ (I : Addr) (c : OuS) (i : Nat) (t : Tok) (u : Str → Option Value) h tk own, i < 8 → @LT.lt Nat _ bk I → @LT.lt Nat _ D I → @Ne Nat c.lv I → (∀ p ∈ (D2, oD2) :: (a1, c1) :: (a2, c2) :: rest0, p.1 ≠ I) → (∀ p ∈ own, p.1 = I) → (∃ oI, (I, oI) ∈ own) → OuR prog w qs bk D B W i c →
      Fr h₀ env.locals h (fun y => if y = x then some (.int (i : Int) t) else kstB (fun z => if [Str.ofString "above", Str.ofString "path"].contains z then u z else m₀ z) (ouPs c) y) → News h₀ env.locals h ((c.lv, PySem.W.listOf c.vs.toArray c.e) :: (bk, c.ob) :: (D, c.od) :: (((D2, oD2) :: (a1, c1) :: (a2, c2) :: rest0) ++ own)) →
      wpAny (model prog w) A (execs body env) (PostF h₀ env.locals (KN (ouLed bk D ((D2, oD2) :: (a1, c1) :: (a2, c2) :: rest0)) ouPs x [Str.ofString "above", Str.ofString "path"] m₀ (OuR prog w qs bk D B W) (i + 1)) own I { s with heap := h, toks := tk } Q) E { s with heap := h, toks := tk })
    (done : ∀ (c : OuS) (u : Str → Option Value) h tk, OuR prog w qs bk D B W 8 c → Fr h₀ env.locals h (fun y => if y = x then u y else kstB (fun z => if [Str.ofString "above", Str.ofString "path"].contains z then u z else m₀ z) (ouPs c) y) → News h₀ env.locals h ((c.lv, PySem.W.listOf c.vs.toArray c.e) :: (bk, c.ob) :: (D, c.od) :: (D2, oD2) :: (a1, c1) :: (a2, c2) :: rest0) → Q .next { s with heap := h, toks := tk }) :
    wpAny (model prog w) A (pyIter (.ref r)) (fun it s₂ => LoopAtV prog w A h₀ env x body Q E it s₂) E s := by
  rw [hVq] at hP
  obtain ⟨ps, rfl, hpl, hps⟩ := places_perm hC.lt hP
  have N : News h₀ env.locals s.heap ((lv, PySem.W.listOf vs.toArray e) :: (bk, ob) :: (D, od) :: (D2, oD2) :: (a1, c1) :: (a2, c2) :: rest0) := news_sub N₀ fun p hp => by
    rcases List.mem_cons.mp hp with rfl | hp
    · exact .head _
    · rcases List.mem_cons.mp hp with rfl | hp
      · exact .tail _ (.tail _ (.tail _ (.tail _ (.tail _ (.head _)))))
      · rcases List.mem_cons.mp hp with rfl | hp
        · exact .tail _ (.tail _ (.head _))
        · rcases List.mem_cons.mp hp with rfl | hp
          · exact .tail _ (.head _)
          · rcases List.mem_cons.mp hp with rfl | hp
            · exact .tail _ (.tail _ (.tail _ (.head _)))
            · rcases List.mem_cons.mp hp with rfl | hp
              · exact .tail _ (.tail _ (.tail _ (.tail _ (.head _))))
              · exact .tail _ (.tail _ (.tail _ (.tail _ (.tail _ (.tail _ hp)))))
  refine kf_range (n := 8) (ouLed bk D ((D2, oD2) :: (a1, c1) :: (a2, c2) :: rest0)) ouPs [Str.ofString "above", Str.ofString "path"] (OuR prog w qs bk D B W) ⟨lv, vs, e, ps, ob, B, od, W⟩ hh hr rfl (by decide) F N ?_ ⟨⟨hS, fun x => ?_, by simp only; omega, hB, List.prefix_refl _, Nat.le_refl _, hD, Nat.le_refl _, fun _ _ => rfl, fun q _ e he hle => by omega⟩, ?_, ?_⟩ ?_ ?_
  · intro p hp
    rcases List.mem_cons.mp hp with rfl | hp
    · exact hn
    · cases hp
  · rw [hps]
    constructor
    · intro hx; exact ⟨x, hx, by rw [Nat.pow_zero, Nat.div_one]⟩
    · rintro ⟨q, hq, e⟩
      rw [Nat.pow_zero, Nat.div_one] at e
      exact e ▸ hq
  · exact Nat.ne_of_gt (l1 (bk, ob) (.tail _ (.tail _ (.tail _ (.tail _ (.head _))))))
  · exact Nat.ne_of_gt (l1 (D, od) (.tail _ (.head _)))
  · rintro I c i t u h tk own hlt hi hoff hown hI hP' F' N'
    exact turn I c i t u h tk own hi (hlt (bk, ob) (.tail _ (.head _))) (hlt (D, od) (.tail _ (.tail _ (.head _)))) (hoff _ (.head _)) (fun p hp => hoff p (.tail _ (.tail _ (.tail _ hp)))) hown hI hP' F' N'
  · exact done
end
abbrev inLedJ (ab bk D : Addr) (rest : List (Addr × Obj)) (c : InS) : List (Addr × Obj) := (ab, PySem.W.listOf c.as.toArray c.an) :: (bk, c.ob) :: (D, c.od) :: rest
section
variable {prog : Program} {w : World} {A : Around} {E : Value → Shared → Prop} {s : Shared} {env : Env} {h₀ : Heap} {x : Str} {body : List Stmt} {Q : Flow → Shared → Prop}
theorem ji_loop {bk D ab lv : Addr} {rest : List (Addr × Obj)} {ob od : Obj} {vs : List Value} {el n0 d : Nat} {ps : List Nat} {B : List Bts} {W : List (Str × Bts)} {m₀ : Str → Option Value}
    (hh : A.handled = none) (F : Fr h₀ env.locals s.heap m₀) (N₀ : News h₀ env.locals s.heap ((ab, PySem.W.listOf #[] n0) :: (lv, PySem.W.listOf vs.toArray el) :: (bk, ob) :: (D, od) :: rest))
    (l6 : @LT.lt Nat _ lv ab ∧ @LT.lt Nat _ bk ab ∧ @LT.lt Nat _ D ab ∧ AllLt ab rest) (nlb : @Ne Nat lv bk) (nlD : @Ne Nat lv D) (rb : ∀ p ∈ rest, p.1 ≠ bk) (rD : ∀ p ∈ rest, p.1 ≠ D)
    (hS : StrsAre vs (ps.map (pathStr (d + 1)))) (hB : Book prog w ob B) (hD : DB (PySem.strKind prog w) od W)
    (turn : ∀ (I : Addr) (c : InS) (i p : Nat) (t : Tok) (u : Str → Option Value) h tk own (rest' : List (Addr × Obj)), ps[i]? = some p → (∀ q ∈ rest', q.1 ≠ ab) → (∀ q ∈ rest', q.1 ≠ bk) → (∀ q ∈ rest', q.1 ≠ D) → (∀ q ∈ rest, q ∈ rest') → @Ne Nat ab I → @Ne Nat bk I → @Ne Nat D I → (∀ q ∈ (lv, PySem.W.listOf vs.toArray el) :: rest, q ∈ rest' ∧ q.1 ≠ I) → (∀ q ∈ own, q ∈ rest') → InQ prog w d ps B W i c →
      Fr h₀ env.locals h (fun y => if y = x then some (.str (pathStr (d + 1) p) t) else m₀ y) → News h₀ env.locals h ((ab, PySem.W.listOf c.as.toArray c.an) :: (bk, c.ob) :: (D, c.od) :: rest') →
      wpAny (model prog w) A (execs body env) (PostF h₀ env.locals (KN (inLedJ ab bk D ((lv, PySem.W.listOf vs.toArray el) :: rest)) (fun _ => []) x [] m₀ (InQ prog w d ps B W) (i + 1)) own I { s with heap := h, toks := tk } Q) E { s with heap := h, toks := tk })
    (done : ∀ (c : InS) (u : Str → Option Value) h tk, InQ prog w d ps B W ps.length c → Fr h₀ env.locals h (fun y => if y = x then u y else m₀ y) → News h₀ env.locals h ((ab, PySem.W.listOf c.as.toArray c.an) :: (bk, c.ob) :: (D, c.od) :: (lv, PySem.W.listOf vs.toArray el) :: rest) → Q .next { s with heap := h, toks := tk }) :
    wpAny (model prog w) A (pyIter (.ref lv)) (fun it s₂ => LoopAtV prog w A h₀ env x body Q E it s₂) E s := by
  have hvl : vs.length = ps.length := by have := StrsAre.length hS; rw [List.length_map] at this; exact this
  have N : News h₀ env.locals s.heap ((ab, PySem.W.listOf #[] n0) :: (bk, ob) :: (D, od) :: (lv, PySem.W.listOf vs.toArray el) :: rest) := news_sub N₀ fun p hp => by
    rcases List.mem_cons.mp hp with rfl | hp
    · exact .head _
    · rcases List.mem_cons.mp hp with rfl | hp
      · exact .tail _ (.tail _ (.head _))
      · rcases List.mem_cons.mp hp with rfl | hp
        · exact .tail _ (.tail _ (.tail _ (.head _)))
        · rcases List.mem_cons.mp hp with rfl | hp
          · exact .tail _ (.head _)
          · exact .tail _ (.tail _ (.tail _ (.tail _ hp)))
  refine kf_list (inLedJ ab bk D ((lv, PySem.W.listOf vs.toArray el) :: rest)) (fun _ => []) [] (InQ prog w d ps B W) ⟨[], n0, [], ob, B, od, W⟩ hh F N (.tail _ (.tail _ (.tail _ (.head _)))) (fun p hp => nomatch hp) ⟨.nil, fun x => ⟨(fun h => nomatch h), fun ⟨_, _, h, _⟩ => absurd h (Nat.not_lt_zero _)⟩, Nat.le_refl _, hB, List.prefix_refl _, Nat.le_refl _, hD, Nat.le_refl _, (fun _ _ => rfl), (fun _ h => nomatch h)⟩ ?_ ?_
  · rintro I c i v u h tk own hlt hi hv hoff hown hI hP F' N'
    obtain ⟨y, t, rfl, hy⟩ := StrsAre.item hS i v hv
    rw [List.getElem?_map] at hy
    obtain ⟨p, hp, rfl⟩ := Option.map_eq_some_iff.mp hy
    have nI : ∀ z, (z = ab ∨ z = bk ∨ z = D ∨ z = lv) → @Ne Nat z I := by
      rintro z (rfl | rfl | rfl | rfl)
      · exact Nat.ne_of_lt (hlt _ (.head _))
      · exact Nat.ne_of_lt (hlt _ (.tail _ (.head _)))
      · exact Nat.ne_of_lt (hlt _ (.tail _ (.tail _ (.head _))))
      · exact Nat.ne_of_lt (hlt _ (.tail _ (.tail _ (.tail _ (.head _)))))
    have off : ∀ z, (z = ab ∨ z = bk ∨ z = D ∨ z = lv) → @Ne Nat lv z → (∀ q ∈ rest, q.1 ≠ z) → ∀ q ∈ ((lv, PySem.W.listOf vs.toArray el) :: rest) ++ own, q.1 ≠ z := by
      intro z hz h1 h2 q hq
      rcases List.mem_append.mp hq with hq | hq
      · rcases List.mem_cons.mp hq with rfl | hq
        · exact h1
        · exact h2 q hq
      · rcases hown q hq with e | e
        · rw [e]; exact Ne.symm (nI z hz)
        · rw [e]; exact h1
    refine turn I c i p t u h tk own (((lv, PySem.W.listOf vs.toArray el) :: rest) ++ own) hp (off ab (.inl rfl) (Nat.ne_of_lt l6.1) fun q hq => Nat.ne_of_lt (allLt_mem l6.2.2.2 q hq)) (off bk (.inr (.inl rfl)) nlb rb) (off D (.inr (.inr (.inl rfl))) nlD rD) (fun q hq => List.mem_append_left _ (.tail _ hq)) (nI ab (.inl rfl)) (nI bk (.inr (.inl rfl))) (nI D (.inr (.inr (.inl rfl)))) (fun q hq => ⟨List.mem_append_left _ hq, ?_⟩) (fun q hq => List.mem_append_right _ hq) hP ?_ N'
    · exact Nat.ne_of_lt (hlt q (.tail _ (.tail _ (.tail _ hq))))
    · exact F'
  · rintro c u h tk hP F' N'
    rw [hvl] at hP
    exact done c u h tk hP F' N'
end
theorem ji_end {prog : Program} {w : World} {bk D ab lv I L : Addr} {rest rest' own : List (Addr × Obj)} {vs : List Value} {el i d : Nat} {ps : List Nat} {B : List Bts} {W : List (Str × Bts)} {m₀ m' : Str → Option Value} {x : Str} {h₀ h' : Heap} {s₁ : Shared} {tk : Nat} (c : InS)
    (n1 : @Ne Nat ab I) (n2 : @Ne Nat bk I) (n3 : @Ne Nat D I) (hr : ∀ q ∈ (lv, PySem.W.listOf vs.toArray el) :: rest, q ∈ rest' ∧ q.1 ≠ I) (ho : ∀ q ∈ own, q ∈ rest') (P : InQ prog w d ps B W (i + 1) c)
    (F : Fr h₀ L h' m') (N : News h₀ L h' ((ab, PySem.W.listOf c.as.toArray c.an) :: (bk, c.ob) :: (D, c.od) :: rest')) (hsame : ∀ z, z ≠ x → m' z = m₀ z) :
    EndF h₀ L (KN (inLedJ ab bk D ((lv, PySem.W.listOf vs.toArray el) :: rest)) (fun _ => []) x [] m₀ (InQ prog w d ps B W) (i + 1)) own I s₁ { s₁ with heap := h', toks := tk } := by
  refine kf_end c F N ?_ ?_ ?_ (fun p hp => nomatch hp) (fun z h1 _ _ => hsame z h1) P
  · intro p hp
    rcases List.mem_cons.mp hp with rfl | hp
    · exact .head _
    · rcases List.mem_cons.mp hp with rfl | hp
      · exact .tail _ (.head _)
      · rcases List.mem_cons.mp hp with rfl | hp
        · exact .tail _ (.tail _ (.head _))
        · exact .tail _ (.tail _ (.tail _ (hr p hp).1))
  · intro p hp
    exact .tail _ (.tail _ (.tail _ (ho p hp)))
  · intro p hp
    rcases List.mem_cons.mp hp with rfl | hp
    · exact n1
    · rcases List.mem_cons.mp hp with rfl | hp
      · exact n2
      · rcases List.mem_cons.mp hp with rfl | hp
        · exact n3
        · exact (hr p hp).2
theorem ji_put {prog : Program} {w : World} {bk D ab lv I L : Addr} {rest rest' own : List (Addr × Obj)} {vs as : List Value} {el i d p an : Nat} {xs ps : List Nat} {ob od ob' od' : Obj} {B B7 B' : List Bts} {W W7 : List (Str × Bts)} {l r h : Bts} {t : Tok} {m₀ m' : Str → Option Value} {x : Str} {h₀ h' : Heap} {s₁ : Shared} {tk : Nat}
    (n1 : @Ne Nat ab I) (n2 : @Ne Nat bk I) (n3 : @Ne Nat D I) (hr : ∀ q ∈ (lv, PySem.W.listOf vs.toArray el) :: rest, q ∈ rest' ∧ q.1 ≠ I) (ho : ∀ q ∈ own, q ∈ rest') (P : InQ prog w d ps B W i ⟨as, an, xs, ob, B7, od, W7⟩)
    (hp : ps[i]? = some p) (hx : p / 2 ∉ xs) (hb : ∀ x ∈ ps, x < 2 ^ (d + 1)) (hH : Hash B' (l ++ r) h) (hpre : B7 <+: B') (h1 : look W (pathStr (d + 1) (2 * (p / 2))) = some l) (h2 : look W (pathStr (d + 1) (2 * (p / 2) + 1)) = some r)
    (hB' : Book prog w ob' B') (hl : B'.length ≤ B7.length + 1) (hd : DB (PySem.strKind prog w) od' (put W7 (pathStr d (p / 2)) h))
    (F : Fr h₀ L h' m') (N : News h₀ L h' ((ab, PySem.W.listOf (as ++ [Value.str (pathStr d (p / 2)) t]).toArray (an + 1)) :: (bk, ob') :: (D, od') :: rest')) (hsame : ∀ z, z ≠ x → m' z = m₀ z) :
    EndF h₀ L (KN (inLedJ ab bk D ((lv, PySem.W.listOf vs.toArray el) :: rest)) (fun _ => []) x [] m₀ (InQ prog w d ps B W) (i + 1)) own I s₁ { s₁ with heap := h', toks := tk } :=
  ji_end ⟨as ++ [.str (pathStr d (p / 2)) t], an + 1, xs ++ [p / 2], ob', B', od', put W7 (pathStr d (p / 2)) h⟩ n1 n2 n3 hr ho (P.put hp hx hb rfl hB' hpre hl hd h1 h2 hH) F N hsame
theorem ju_end {prog : Program} {w : World} {bk D ab lv I L : Addr} {Y rest own : List (Addr × Obj)} {vs : List Value} {el i : Nat} {qs : List Nat} {B : List Bts} {W : List (Str × Bts)} {m₀ m' : Str → Option Value} {x : Str} {h₀ h' : Heap} {s₁ : Shared} {tk : Nat} {c : OuS} (c7 : InS)
    (C : Cov qs W) (P : OuQ prog w qs B W i c) (hi : i < 8) (R : InQ prog w (7 - i) c.ps c.B c.W c.ps.length c7) (l6 : @LT.lt Nat _ lv ab ∧ @LT.lt Nat _ bk ab ∧ @LT.lt Nat _ D ab ∧ AllLt ab rest) (hI : ∃ oI, (I, oI) ∈ own) (ho : ∀ p ∈ own, p ∈ rest) (hr : ∀ p ∈ Y, p ∈ rest) (x1 : @LT.lt Nat _ bk I) (x2 : @LT.lt Nat _ D I) (x4 : ∀ p ∈ Y, p.1 ≠ I)
    (F : Fr h₀ L h' m') (N : News h₀ L h' ((ab, PySem.W.listOf c7.as.toArray c7.an) :: (bk, c7.ob) :: (D, c7.od) :: (lv, PySem.W.listOf vs.toArray el) :: rest)) (hl : m' (Str.ofString "level") = some (.ref ab))
    (hsame : ∀ z, z ≠ x → (∀ p ∈ ouPs ⟨ab, c7.as, c7.an, c7.xs, c7.ob, c7.B, c7.od, c7.W⟩, z ≠ p.1) → [Str.ofString "above", Str.ofString "path"].contains z = false → m' z = m₀ z) :
    EndF h₀ L (KN (ouLed bk D Y) ouPs x [Str.ofString "above", Str.ofString "path"] m₀ (OuR prog w qs bk D B W) (i + 1)) own I s₁ { s₁ with heap := h', toks := tk } := by
  refine kf_end ⟨ab, c7.as, c7.an, c7.xs, c7.ob, c7.B, c7.od, c7.W⟩ F N ?_ ?_ ?_ ?_ hsame ⟨P.step C hi R, Nat.ne_of_gt l6.2.1, Nat.ne_of_gt l6.2.2.1⟩
  · intro p hp
    rcases List.mem_cons.mp hp with rfl | hp
    · exact .head _
    · rcases List.mem_cons.mp hp with rfl | hp
      · exact .tail _ (.head _)
      · rcases List.mem_cons.mp hp with rfl | hp
        · exact .tail _ (.tail _ (.head _))
        · exact .tail _ (.tail _ (.tail _ (.tail _ (hr p hp))))
  · intro p hp
    exact .tail _ (.tail _ (.tail _ (.tail _ (ho p hp))))
  · intro p hp
    rcases List.mem_cons.mp hp with rfl | hp
    · obtain ⟨oI, hI⟩ := hI
      exact Nat.ne_of_gt (allLt_mem l6.2.2.2 _ (ho _ hI))
    · rcases List.mem_cons.mp hp with rfl | hp
      · exact Nat.ne_of_lt x1
      · rcases List.mem_cons.mp hp with rfl | hp
        · exact Nat.ne_of_lt x2
        · exact x4 p hp
  · intro p hp
    rcases List.mem_cons.mp hp with rfl | hp
    · exact hl
    · cases hp
theorem any_path {d p : Nat} {xs : List Nat} (hb : ∀ x ∈ xs, x < 2 ^ d) (hp : p < 2 ^ d) : ((xs.map (pathStr d)).any (· == pathStr d p)) = decide (p ∈ xs) := by
  by_cases hx : p ∈ xs
  · have : (xs.map (pathStr d)).any (· == pathStr d p) = true := List.any_eq_true.mpr ⟨_, List.mem_map.mpr ⟨p, hx, rfl⟩, beq_self_eq_true _⟩
    rw [this]; simp [hx]
  · have : (xs.map (pathStr d)).any (· == pathStr d p) = false := by
      rw [Bool.eq_false_iff]
      intro ha
      obtain ⟨y, hy, e⟩ := List.any_eq_true.mp ha
      obtain ⟨x, hx', rfl⟩ := List.mem_map.mp hy
      exact hx (path_inj (hb x hx') hp (eq_of_beq e) ▸ hx')
    rw [this]; simp [hx]
local macro_rules | `(tactic| walk_at "call builtin:list.append") => `(tactic| (k_here; k_dflt (refine' append_L ?F ?N ?U ?z ?_; (case F => k_asm); (case N => k_asm); (case U => k_upd); (case z => omega); k_whole); intro h' F' N'; (try k_sweep)))
local macro_rules | `(tactic| walk_at "setItem ref") => `(tactic| (k_here; (with_reducible show wpAny _ _ (setItem (Value.ref _) (Value.str _ _) (Value.bytes _ _)) _ _ _); k_dflt (refine' db_set (knd := PySem.strKind _ _) ?F ?N ?U ?d ?k ?z ?_; (case F => k_asm); (case N => k_asm); (case U => k_updF); (case d => with_reducible assumption); (case k => exact sk_is _ _ _ _); (case z => omega)); intro h' o' F' N' hd'; (try dsimp only at N'); (try k_sweep)))
local macro_rules | `(tactic| walk_at "exec For Name Name cons nil") => `(tactic| (k_here; (rename Fr _ _ _ _ => lF'); (with_unfolding_all refine' For_invVF lF' ?k1 ?k2 ?_; (case k1 => exact rfl); (case k2 => exact rfl); k_whole)))
theorem j_out {h₀ h : Heap} {L bk : Addr} {ob : Obj} {x1 x3 x4 x5 x6 : Addr × Obj} {rest0 : List (Addr × Obj)} {g1 : Obj → List (Addr × Obj)} (hout : ∀ o', ∀ p ∈ g1 o', p = (bk, o') ∨ p ∈ rest0) (kN : News h₀ L h (x1 :: (bk, ob) :: x3 :: x4 :: x5 :: x6 :: rest0)) : News h₀ L h (x3 :: g1 ob) := fun p hp => by
  rcases List.mem_cons.mp hp with rfl | hp
  · exact kN _ (.tail _ (.tail _ (.head _)))
  · rcases hout _ _ hp with rfl | hp
    · exact kN _ (.tail _ (.head _))
    · exact kN _ (.tail _ (.tail _ (.tail _ (.tail _ (.tail _ (.tail _ hp))))))
structure JRes (qs : List Nat) (K V : List (Str × Bts)) (B : List Bts) (W : List (Str × Bts)) : Prop where
  leaf : ∀ q ∈ qs, ∃ v h, look V (pathStr 8 q) = some v ∧ look W (pathStr 8 q) = some h ∧ Hash B v h
  node : ∀ q ∈ qs, ∀ e, e < 8 → ∃ l r h, look W (pathStr e (q / 2 ^ (8 - e))) = some h ∧ look W (pathStr (e + 1) (2 * (q / 2 ^ (8 - e)))) = some l ∧ look W (pathStr (e + 1) (2 * (q / 2 ^ (8 - e)) + 1)) = some r ∧ Hash B (l ++ r) h
  keep : ∀ k b, look K k = some b → (∀ q ∈ qs, ∀ e, e ≤ 8 → k ≠ pathStr e (q / 2 ^ (8 - e))) → look W k = some b
def jJ (prog : Program) (w : World) (V : List (Str × Bts)) (B : List Bts) (D : Addr) (od : Obj) (a1 : Addr) (c1 : Obj) (a2 : Addr) (c2 : Obj) (bk : Addr) (rest0 : List (Addr × Obj)) (i : Nat) (acc : List (Str × Bts)) (nw : List (Addr × Obj)) : Prop :=
  ∃ ob' B', nw = (D, od) :: (a1, c1) :: (a2, c2) :: (bk, ob') :: rest0 ∧ Book prog w ob' B' ∧ B <+: B' ∧ B'.length ≤ B.length + i ∧ (∀ j, j < i → ∀ k v, V[j]? = some (k, v) → ∃ b, look acc k = some b ∧ Hash B' v b) ∧ (∀ k, (look acc k).isSome = true → k ∈ V.map (·.1)) ∧ acc.length ≤ i
theorem jj_step {V acc : List (Str × Bts)} {B3 B' : List Bts} {i : Nat} {k : Str} {b h : Bts} (hn : (V.map (·.1)).Nodup) (hk : V[i]? = some (k, b)) (hpre : B3 <+: B') (y4 : ∀ j, j < i → ∀ k v, V[j]? = some (k, v) → ∃ b, look acc k = some b ∧ Hash B3 v b) (y5 : ∀ k, (look acc k).isSome = true → k ∈ V.map (·.1)) (y6 : acc.length ≤ i) (hH : Hash B' b h) :
    (∀ j, j < i + 1 → ∀ k' v, V[j]? = some (k', v) → ∃ b', look (put acc k h) k' = some b' ∧ Hash B' v b') ∧ (∀ k', (look (put acc k h) k').isSome = true → k' ∈ V.map (·.1)) ∧ (put acc k h).length ≤ i + 1 := by
  refine ⟨fun j hj k' v hj' => ?_, fun k' h' => ?_, Nat.le_trans (put_length _ _ _) (by omega)⟩
  · by_cases hji : j = i
    · subst hji
      rw [hk] at hj'
      obtain ⟨rfl, rfl⟩ := Prod.mk.inj (Option.some.inj hj')
      exact ⟨h, by rw [look_put, if_pos rfl], hH⟩
    · obtain ⟨b', e1, e2⟩ := y4 j (by omega) k' v hj'
      have hne : k ≠ k' := by
        intro e
        have l1 := (List.getElem?_eq_some_iff.mp hk).1
        have l2 := (List.getElem?_eq_some_iff.mp hj').1
        have g1 : (V.map (·.1))[i]'(by simpa using l1) = k := by
          have := (List.getElem?_eq_some_iff.mp hk).2
          simp [this]
        have g2 : (V.map (·.1))[j]'(by simpa using l2) = k' := by
          have := (List.getElem?_eq_some_iff.mp hj').2
          simp [this]
        have := (List.getElem_inj hn).mp (g2.trans (e.symm.trans g1.symm))
        exact hji this
      exact ⟨b', by rw [look_put, if_neg hne]; exact e1, e2.mono hpre⟩
  · rw [look_put] at h'
    split at h'
    · rename_i e
      subst e
      exact List.mem_map.mpr ⟨_, List.mem_of_getElem? hk, rfl⟩
    · exact y5 _ h'
theorem joined_ok {prog : Program} {w : World} {p : Program} {loose : List Str} {mean : ExcName → Option Value} {mg mb : Str → Option Value}
    (dp un : Nat) (gd : Option (List Code)) (cn : Str) (cs : Scope) (a : Addr) (ccd : Value) (cl : List (Str × Addr)) (outer : List Env) (A₀ : Around) (base h₀ : Heap) (L : Addr) (m : Str → Option Value) (s : Shared) (Q E : Value → Shared → Prop)
    {news : List (Addr × Obj)} {g1 : Obj → List (Addr × Obj)} {hof bk bkc cod va ka : Addr} {ob oc oco ov ok : Obj} {B : List Bts} {V K : List (Str × Bts)}
    {nm ql : Str} {ps : Arguments} {bd : PySem.Expr} {sc : Scope} {clo : List (Str × Addr)} {pm ctv : Value}
    (Bl : Below A₀ base outer h₀) (F : Fr h₀ L s.heap m) (X : (Mine.hd.heap_39 w.params).In h₀) (N : News h₀ L s.heap news) (T : Top p loose mean mg mb h₀) (hk : cs.kind = .function) (hd : dp + 6 < recursionLimit) (hu : un + 40 < cLine)
    (U1 : UpdF bk ob news g1)
    (mh : (hof, kla_obj nm ql ps bd sc clo pm cod ctv) ∈ news) (mc : (bkc, oc) ∈ news) (mo : (cod, oco) ∈ news) (mv : (va, ov) ∈ news) (mk : (ka, ok) ∈ news)
    (HC : HashC prog w p loose mean mg mb hof bk bkc cod (kla_obj nm ql ps bd sc clo pm cod ctv) oc oco)
    (hoc : NotDict oc) (hoco : NotDict oco) (hvb : va ≠ bk) (hkb : ka ≠ bk) (lov : (va == sysModules) = false) (lok : (ka == sysModules) = false) (hVl : V.length ≤ 4) (hKl : K.length ≤ 64)
    (hB : Book prog w ob B) (hBl : B.length < 50000) (qs : List Nat) (hVq : V.map (·.1) = qs.map (pathStr 8)) (hq : ∀ q ∈ qs, q < 256) (hside : ∀ q ∈ qs, ∀ i, i < 8 → (∀ q' ∈ qs, q' / 2 ^ i ≠ sib (q / 2 ^ i)) → ∃ b, look K (pathStr (8 - i) (sib (q / 2 ^ i))) = some b ∧ b.size ≤ 1000) (hV : DB (strKind prog w) ov V) (hK : DB (PySem.strKind prog w) ok K)
    (hret : ∀ (D : Addr) (ob' od : Obj) (B' : List Bts) (W : List (Str × Bts)) (h' : Heap) (tk' : Nat), Book prog w ob' B' → B <+: B' → B'.length ≤ B.length + 36 → DB (PySem.strKind prog w) od W → JRes qs K V B' W → W.length ≤ 200 → (D == sysModules) = false → Fr h₀ L h' m → News h₀ L h' ((D, od) :: g1 ob') → (∀ p ∈ news, p.1 < D) → Q (.ref D) { s with heap := h', toks := tk' }) :
    wpAny (model prog w) (ktrTop dp un gd cn cs L a ccd cl outer) (call (.ref 196) [.ref va, .ref ka, .ref hof]) Q E s := by
  have N1 := news_lessIn N (updF_mem U1)
  have r0 := less_ne (d := bk) (l := news)
  have nd : ∀ (z : Addr) (o : Obj), (z, o) ∈ news → NotDict o → (z, o) ∈ less bk news := fun z o hm hn => less_mem.mpr ⟨hm, updF_ne U1 hm (fun e => by obtain ⟨es, n, e2⟩ := hB.isDict; rw [e] at hn; exact hn _ _ e2)⟩
  have i2 : (hof, kla_obj nm ql ps bd sc clo pm cod ctv) ∈ less bk news := nd _ _ mh (fun _ _ e => nomatch e)
  have i3 : (bkc, oc) ∈ less bk news := nd _ _ mc hoc
  have i4 : (cod, oco) ∈ less bk news := nd _ _ mo hoco
  have i5 : (va, ov) ∈ less bk news := less_mem.mpr ⟨mv, hvb⟩
  have i6 : (ka, ok) ∈ less bk news := less_mem.mpr ⟨mk, hkb⟩
  have hout : ∀ o', ∀ p ∈ g1 o', p = (bk, o') ∨ p ∈ less bk news := fun o' p hp => (updF_out U1 hp).imp id fun h => less_mem.mpr h
  have hin : ∀ p ∈ news, p ∈ (bk, ob) :: less bk news := fun p hp => by
    rcases hout ob p (by rw [updF_at U1]; exact hp) with rfl | h
    · exact .head _
    · exact .tail _ h
  generalize less bk news = rest0 at N1 r0 i2 i3 i4 i5 i6 hout hin
  clear nd
  clear N mh mc mo mv mk
  have mh := i2
  have mc := i3
  have mo := i4
  have mv := i5
  have mk := i6
  refine wpAny_call ?_
  k_dflt (refine' code_defC ?k1 ?k2 ?k3 ?k4 ?k5 ?kA ?kF ?kK ?k6 ?k7 ?k8 ?k9 ?kB ?kD ?_ ?c2 ?c3 ?c4; (case kA => exact rfl); (case kF => exact rfl); (case kK => assumption); (case k1 => k_asm); (case k2 => k_asm); (case k3 => k_asm); (case k4 => k_asm); (case k5 => k_asm); (case k6 => k_is); (case k7 => k_is); (case k8 => k_room); (case k9 => exact BindsTo.of_eq rfl); (case kB => exact rfl); (case kD => decide +kernel); (case c2 => exact rfl); (case c3 => exact rfl); (case c4 => exact rfl); k_whole; intro g' L' h' tk' cells' FG' F' N' Y' B' X' T' l1; (have hY := CellsAre.two Y'); obtain ⟨c1, c2, hE', d1, d2⟩ := hY; subst hE'; clear Y'; (try simp only [List.cons_append, List.nil_append] at N'); (try dsimp only); (try k_lift B'); (try k_fold))

  have l1b : ∀ p ∈ (bk, ob) :: rest0, p.1 < L' := l1
  k_steps
  refine eval_dict2A ?_
  refine alloc_K (prog := prog) (w := w) (by assumption) (by assumption) ?_
  intro D od h1 F1 N1 hd1 l2 hLD
  have loD := not_modules F1 (Top.nolimit T') hLD
  have l2n : ∀ p ∈ (L' + 1 + 1, _) :: (L' + 1, _) :: (bk, ob) :: rest0, p.1 ≠ D := fun p hp => Nat.ne_of_lt (l2 p hp)
  have hDk : @Ne Nat D ka := Ne.symm (l2n (ka, ok) (.tail _ (.tail _ (.tail _ mk))))
  k_steps
  refine merge_K (by assumption) (by assumption) (.head l2n) hd1 (.tail _ (.tail _ (.tail _ (.tail _ mk)))) hK hDk lok str_nr (by simp only [List.length_nil]; omega) ?_
  intro h2 od2 F2 N2 hd2
  have e1 : c1.data = .cell (some (.ref hof)) := d1
  have e2 : c2.data = .cell (some (.ref va)) := d2
  refine DictComp_F F2 (by with_unfolding_all rfl) (by decide) (by rfl) (by decide) (by rfl) ?_
  k_steps
  refine dsrc_dict (knd₁ := PySem.strKind prog w) (knd := PySem.strKind prog w) (jJ prog w V B D od2 (L' + 1 + 1) c1 (L' + 1) c2 bk rest0) rfl F2 N2 (.tail _ (.tail _ (.tail _ (.tail _ mv)))) hV lov (by omega) ⟨ob, B, rfl, hB, List.prefix_refl B, Nat.le_refl _, fun j hj => absurd hj (Nat.not_lt_zero _), (fun k hk => by cases hk), Nat.le_refl _⟩ ?_ ?_
  · rintro i acc nw v k b I oI C oC D2 oD2 m₂ h3 tk3 E' hi ⟨ob3, B3, rfl, y1, y2, y3, y4, y5, y6⟩ hk hkv hC hx F3 N3 hdb off ne hS
    obtain ⟨tkv, rfl⟩ := Value.isStrOf_shape hkv
    have hl : look V k = some b := look_of_mem hV.nodup (List.mem_of_getElem? hk)
    have off1 := off
    simp only [LCg.Off3] at off1
    have n1 : @LT.lt Nat _ bk L' := l1b (bk, ob) (.head _)
    have n2 : @Ne Nat bk D := l2n (bk, ob) (.tail _ (.tail _ (.head _)))
    have z1 : B3.length < 60000 := by omega
    k_steps
    rename Hash _ _ _ => hH
    rename B3 <+: _ => hpre
    obtain ⟨s4, s5, s6⟩ := jj_step hV.nodup hk hpre y4 y5 y6 hH
    refine' dend _ ?F ?N (fun p hp => hp) ?o ?S (sk_is _ _ _ _) ⟨_, _, rfl, ?B, y2.trans hpre, ?l, s4, s5, s6⟩
    (case F => assumption)
    (case N => assumption)
    (case B => with_reducible assumption)
    (case S => exact .tail _ (.tail _ (.tail _ (.tail _ mv)))); (case l => omega); (case o => exact off)
  · rintro D2 oD2 h3 tk3 acc nw F3 N3 hdb o1 hLD2 ⟨ob3, B3, rfl, y1, y2, y3, y4, y5, y6⟩
    have l3n : ∀ p ∈ (L' + 1 + 1, c1) :: (L' + 1, c2) :: (bk, ob3) :: rest0, p.1 ≠ D := fun p hp => by
      rcases List.mem_cons.mp hp with rfl | hp
      · exact l2n _ (.head _)
      · rcases List.mem_cons.mp hp with rfl | hp
        · exact l2n _ (.tail _ (.head _))
        · rcases List.mem_cons.mp hp with rfl | hp
          · exact l2n (bk, ob) (.tail _ (.tail _ (.head _)))
          · exact l2n _ (.tail _ (.tail _ (.tail _ hp)))
    have o2 : @Ne Nat D D2 := o1.1
    have lo2 := not_modules F3 (Top.nolimit T') hLD2
    refine merge_K F3 N3 (.tail (Ne.symm o2) (.head l3n)) hd2 (.head _) hdb o2 lo2 str_nr ?_ ?_
    · have := mergedB_length K ([] : List (Str × Bts))
      simp only [List.length_nil] at this
      omega
    intro h4 od4 F4 N4 hd4
    generalize hW0 : mergedB (mergedB [] K) acc = W0 at hd4
    have hlk : ∀ k, look W0 k = (look acc k).or (look K k) := fun k => by
      rw [← hW0, look_mergedB hdb.nodup, look_mergedB hK.nodup, look_nil, Option.or_none]
    have hcov : Cov qs W0 := by
      refine ⟨hq, fun q hq' => ?_, fun q hq' i hi hno => ?_⟩
      · have : pathStr 8 q ∈ V.map (·.1) := by rw [hVq]; exact List.mem_map.mpr ⟨q, hq', rfl⟩
        obtain ⟨⟨k, v⟩, hm, e⟩ := List.mem_map.mp this
        obtain ⟨j, hj⟩ := List.getElem?_of_mem hm
        obtain ⟨b, b1, b2⟩ := y4 j (List.getElem?_eq_some_iff.mp hj).1 k v hj
        simp only at e
        subst e
        exact ⟨b, by rw [hlk, b1]; rfl, by have := b2.size; omega⟩
      · obtain ⟨b, b1, b2⟩ := hside q hq' i hi hno
        refine ⟨b, ?_, b2⟩
        have : look acc (pathStr (8 - i) (sib (q / 2 ^ i))) = none := by
          cases h : look acc (pathStr (8 - i) (sib (q / 2 ^ i))) with
          | none => rfl
          | some z =>
            have := y5 _ (by rw [h]; rfl)
            rw [hVq] at this
            obtain ⟨q', hq2, e⟩ := List.mem_map.mp this
            obtain ⟨g1, g2⟩ := path_inj2 (hq q' hq2) (sib_lt (hq q hq') hi) e
            have h0 : i = 0 := by omega
            subst h0
            exact absurd (by rw [show q' / 2 ^ 0 = q' by rw [Nat.pow_zero, Nat.div_one]]; exact g2) (hno q' hq2)
        rw [hlk, this, b1]; rfl
    have hql : qs.length ≤ 4 := by have := congrArg List.length hVq; simp only [List.length_map] at this; omega
    have hwl : W0.length ≤ K.length + 4 := by
      have g1 := mergedB_length acc (mergedB [] K)
      have g2 := mergedB_length K ([] : List (Str × Bts))
      simp only [List.length_nil] at g2
      rw [hW0] at g1
      omega
    k_steps
    show wpAny _ _ _ _ _ _
    refine' sorted_dict_K rfl ?F ?N ?m hV lov (by omega) ?_
    (case F => assumption); (case N => assumption); (case m => exact .tail _ (.tail _ (.tail _ (.tail _ (.tail _ mv)))))
    intro lv vs ss el h5 tk5 F5 N5 l5 hS5 hP5
    k_steps
    show wpAny _ _ _ _ _ _
    have nbD : @Ne Nat bk D := l3n (bk, ob3) (.tail _ (.tail _ (.head _)))
    have n1 : @LT.lt Nat _ bk L' := l1b (bk, ob) (.head _)
    have q0 : ∀ p ∈ (D2, oD2) :: (L' + 1 + 1, c1) :: (L' + 1, c2) :: rest0, p.1 ≠ bk := fun p hp => by
      rcases List.mem_cons.mp hp with rfl | hp
      · exact Ne.symm o1.2.2.2.1
      · rcases List.mem_cons.mp hp with rfl | hp
        · exact Nat.ne_of_gt (Nat.lt_trans n1 (Nat.lt_trans (Nat.lt_succ_self _) (Nat.lt_succ_self _)))
        · rcases List.mem_cons.mp hp with rfl | hp
          · exact Nat.ne_of_gt (Nat.lt_trans n1 (Nat.lt_succ_self _))
          · exact r0 p hp
    have q1 : ∀ p ∈ (D2, oD2) :: (L' + 1 + 1, c1) :: (L' + 1, c2) :: rest0, p.1 ≠ D := fun p hp => by
      rcases List.mem_cons.mp hp with rfl | hp
      · exact Ne.symm o2
      · rcases List.mem_cons.mp hp with rfl | hp
        · exact l3n _ (.head _)
        · rcases List.mem_cons.mp hp with rfl | hp
          · exact l3n _ (.tail _ (.head _))
          · exact l3n _ (.tail _ (.tail _ (.tail _ hp)))
    refine ju_loop rfl (by assumption) (by assumption) (by assumption) l5 nbD q0 q1 hS5 hP5 hVq hcov hql (by with_reducible assumption) (by with_reducible assumption) rfl ?_ ?_
    · rintro I ⟨lv, vs, el, ps, ob6, B6, od6, W6⟩ i t u h6 tk6 own hi x1 x2 x3 x4 hown hI ⟨P6, x5, x6⟩ F6 N6
      dsimp only [kstB, ouPs] at F6
      dsimp only at N6 P6 x3 x5 x6
      have kids := fun p hp => P6.kids hcov hi (p := p) hp
      have hbd : ∀ x ∈ ps, x < 2 ^ (8 - i) := fun x hx => by
        obtain ⟨q, hq', rfl⟩ := (P6.mem x).mp hx
        exact anc_lt (hq q hq') (by omega)
      have hs8 : 8 - i = (7 - i) + 1 := by omega
      have P6s := P6.sa
      dsimp only at kids P6s
      rw [hs8] at kids hbd P6s
      have rb : ∀ p ∈ ((D2, oD2) :: (L' + 1 + 1, c1) :: (L' + 1, c2) :: rest0) ++ own, p.1 ≠ bk := fun p hp => (List.mem_append.mp hp).elim (q0 p) fun hp => by rw [hown p hp]; exact Nat.ne_of_gt x1
      have rD : ∀ p ∈ ((D2, oD2) :: (L' + 1 + 1, c1) :: (L' + 1, c2) :: rest0) ++ own, p.1 ≠ D := fun p hp => (List.mem_append.mp hp).elim (q1 p) fun hp => by rw [hown p hp]; exact Nat.ne_of_gt x2
      have ho : ∀ p ∈ own, p ∈ ((D2, oD2) :: (L' + 1 + 1, c1) :: (L' + 1, c2) :: rest0) ++ own := fun p hp => List.mem_append_right _ hp
      have hr : ∀ p ∈ (D2, oD2) :: (L' + 1 + 1, c1) :: (L' + 1, c2) :: rest0, p ∈ ((D2, oD2) :: (L' + 1 + 1, c1) :: (L' + 1, c2) :: rest0) ++ own := fun p hp => List.mem_append_left _ hp
      have mh6 := hr _ (.tail _ (.tail _ (.tail _ mh)))
      have mc6 := hr _ (.tail _ (.tail _ (.tail _ mc)))
      have mo6 := hr _ (.tail _ (.tail _ (.tail _ mo)))
      have ml6 := hr _ (.tail _ (.head _))
      generalize ((D2, oD2) :: (L' + 1 + 1, c1) :: (L' + 1, c2) :: rest0) ++ own = rest at N6 rb rD ho hr mh6 mc6 mo6 ml6
      have B6b := P6.book
      have D6d := P6.db
      dsimp only at B6b D6d
      k_steps
      show wpAny _ _ _ _ _ _
      refine ji_loop rfl (by assumption) (by assumption) (by with_reducible assumption) x5 x6 rb rD P6s B6b D6d ?_ ?_
      · rintro I7 ⟨as, an, xs, ob7, B7, od7, W7⟩ j p t7 u7 h7 tk7 own7 rest7 hp r1 r2 r3 hsub n1 n2 n3 hr7 ho7 P7 F7 N7
        dsimp only at N7
        obtain ⟨l, r, k1, k2, k3, k4⟩ := kids p (List.mem_of_getElem? hp)
        have kl : look W7 (pathStr (7 - i + 1) (2 * (p / 2))) = some l := by have := P7.up (2 * (p / 2)); rw [this]; exact k1
        have kr : look W7 (pathStr (7 - i + 1) (2 * (p / 2) + 1)) = some r := by have := P7.up (2 * (p / 2) + 1); rw [this]; exact k2
        have mh7 := hsub _ mh6
        have mc7 := hsub _ mc6
        have mo7 := hsub _ mo6
        have ml7 := hsub _ ml6
        have z1 := P7.bl
        have z2 := P6.bl
        have z3 := P7.wl
        have z4 := P6.wl
        have z5 := P6.pl
        have z6 := (List.getElem?_eq_some_iff.mp hp).1
        have z7 := P7.xl
        have P7s := P7.sa
        have P7b := P7.book
        have P7d := P7.db
        dsimp only at z1 z2 z3 z4 z5 z7 P7s P7b P7d
        have z8 : B7.length < 60000 := by omega
        have z9 : as.length ≤ 1000000 := by have := StrsAre.length P7s; rw [List.length_map] at this; omega
        have hpb : p / 2 < 2 ^ (7 - i) := by have := hbd p (List.mem_of_getElem? hp); rw [Nat.pow_succ] at this; omega
        have hxb : ∀ x ∈ xs, x < 2 ^ (7 - i) := fun x hx => by
          obtain ⟨j', p', _, g2, g3⟩ := (P7.mem x).mp hx
          have := hbd p' (List.mem_of_getElem? g2)
          rw [Nat.pow_succ] at this; omega
        k_steps
        · have hx : p / 2 ∈ xs := by
            have h : ((xs.map (pathStr (7 - i))).any (· == pathStr (7 - i) (p / 2))) = true := by assumption
            rw [any_path hxb hpb] at h
            exact of_decide_eq_true h
          show EndF _ _ _ _ _ _ _
          refine' ji_end ⟨as, an, xs, ob7, B7, od7, W7⟩ n1 n2 n3 hr7 ho7 (P7.skip hp hx) ?F ?N ?hs
          (case F => assumption); (case N => assumption); (case hs => exact fun z hz => if_neg hz)
        · have hx : p / 2 ∉ xs := by
            have h : ((xs.map (pathStr (7 - i))).any (· == pathStr (7 - i) (p / 2))) = false := by assumption
            rw [any_path hxb hpb] at h
            exact of_decide_eq_false h
          show EndF _ _ _ _ _ _ _
          rename Hash _ _ _ => hH
          rename B7 <+: _ => hpre
          refine' ji_put n1 n2 n3 hr7 ho7 P7 hp hx hbd hH hpre k1 k2 ?hB ?hl ?hd ?F ?N ?hs
          (case N => assumption); (case F => assumption); (case hs => exact fun z hz => if_neg hz)
          (case hB => with_reducible assumption); (case hl => with_reducible assumption); (case hd => with_reducible assumption)
      · rintro ⟨as, an, xs, ob7, B7, od7, W7⟩ u7 h7 tk7 P7 F7 N7
        dsimp only at N7
        k_steps
        show EndF _ _ _ _ _ _ _
        refine' ju_end (c := ⟨lv, vs, el, ps, ob6, B6, od6, W6⟩) ⟨as, an, xs, ob7, B7, od7, W7⟩ hcov P6 hi P7 (by with_reducible assumption) hI ho hr x1 x2 x4 ?F ?N ?hl ?hs
        (case F => assumption); (case N => assumption); (case hl => rfl)
        (case hs => kst_same)
    · rintro ⟨lv, vs, el, ps, ob6, B6, od6, W6⟩ u h6 tk6 ⟨P6, x5, x6⟩ F6 N6
      dsimp only [kstB, ouPs] at F6
      dsimp only at N6 P6 x5 x6
      k_steps
      have R : JRes qs K V B6 W6 := by
        refine ⟨fun q hq' => ?_, fun q hq' e he => P6.node q hq' e he (by omega), fun k b hk hno => ?_⟩
        · have : pathStr 8 q ∈ V.map (·.1) := by rw [hVq]; exact List.mem_map.mpr ⟨q, hq', rfl⟩
          obtain ⟨⟨k, v⟩, hm, e⟩ := List.mem_map.mp this
          obtain ⟨j, hj⟩ := List.getElem?_of_mem hm
          obtain ⟨b, b1, b2⟩ := y4 j (List.getElem?_eq_some_iff.mp hj).1 k v hj
          simp only at e
          subst e
          refine ⟨v, b, look_of_mem hV.nodup hm, ?_, b2.mono P6.pre⟩
          have := P6.keep (pathStr 8 q) (fun q' _ e he _ => path_len_ne (by omega))
          simp only at this
          rw [this, hlk, b1]; rfl
        · have := P6.keep k (fun q' hq2 e he _ => hno q' hq2 e (by omega))
          simp only at this
          rw [this, hlk]
          have hn : look acc k = none := by
            cases h : look acc k with
            | none => rfl
            | some z =>
              have := y5 k (by rw [h]; rfl)
              rw [hVq] at this
              obtain ⟨q', hq2, e⟩ := List.mem_map.mp this
              exact absurd (by rw [show q' / 2 ^ (8 - 8) = q' by rw [Nat.sub_self, Nat.pow_zero, Nat.div_one]]; exact e.symm) (hno q' hq2 8 (Nat.le_refl _))
          rw [hn, hk]; rfl
      have z1 := P6.bl
      have z2 := P6.wl
      simp only at z1 z2
      refine' hret D _ _ B6 W6 _ _ P6.book (y2.trans P6.pre) (by omega) P6.db R (by omega) loD ?F ?N (fun p hp => l2 p (.tail _ (.tail _ (hin p hp))))
      (case F => assumption)
      refine' j_out hout ?n
      (case n => assumption)
end Mine
end
section
theorem Mine.offCp : True := by w_top off; trivial
open PySem PySem.W PyProof.Rows PySem.Calls
set_option Elab.async false
set_option maxRecDepth 100000
set_option maxHeartbeats 2000000
set_option linter.unusedSimpArgs false
set_option linter.unusedSectionVars false
set_option linter.unusedVariables false
namespace Mine
open LCg
/-! comparing lists of octets, lists with [], dicts with {} -/
section
variable {prog : Program} {w : World} {A : Around} {E : Value → Shared → Prop} {s : Shared} {h₀ : Heap} {L a b : Addr} {news : List (Addr × Obj)} {vs us : List Value} {n k : Nat} {Q : Value → Shared → Prop}
theorem lst_at (N : News h₀ L s.heap news) (m : (a, PySem.W.listOf vs.toArray n) ∈ news) : s.heap.IsList a vs.toArray := ⟨_, (N _ m).1, rfl, n, rfl⟩
theorem all_range {n : Nat} {e : Nat → Bool} (h : ∀ j, j < n → e j = true) : (List.range n).all e = true := by
  rw [List.all_eq_true]
  intro j hj
  exact h j (List.mem_range.mp hj)
theorem ne_bytes_lists {bs : List Bts} (N : News h₀ L s.heap news) (ma : (a, PySem.W.listOf vs.toArray n) ∈ news) (mb : (b, PySem.W.listOf us.toArray k) ∈ news) (ha : BytesAre vs bs) (hb : BytesAre us bs) (hu : A.units < cLine) (h : Q (.bool false) s) :
    wpAny (model prog w) A (compareOp .NotEq (.ref a) (.ref b)) Q E s := by
  have l1 := ha.length
  have l2 := hb.length
  refine SeqAt.RcNeAt.lists (e := fun _ => true) (lst_at N ma) (lst_at N mb) (by simp only [List.size_toArray]; omega) hu ?_ prog w E Q ?_
  · intro j h1 h2
    have h1' : j < vs.length := by simpa using h1
    have h2' : j < us.length := by simpa using h2
    have hj : j < bs.length := by omega
    obtain ⟨t, e1⟩ := ha.get j _ (List.getElem?_eq_getElem hj)
    obtain ⟨u, e2⟩ := hb.get j _ (List.getElem?_eq_getElem hj)
    have g1 : vs.toArray[j] = Value.bytes bs[j] t := by
      rw [List.getElem?_eq_getElem h1'] at e1
      simpa using Option.some.inj e1
    have g2 : us.toArray[j] = Value.bytes bs[j] u := by
      rw [List.getElem?_eq_getElem h2'] at e2
      simpa using Option.some.inj e2
    rw [g1, g2]
    intro prog w E Q hq
    refine eqBool_bytes ?_
    simpa using hq
  · rw [all_range fun _ _ => rfl]; exact h
theorem eq_nil_list (N : News h₀ L s.heap news) (ma : (a, PySem.W.listOf vs.toArray n) ∈ news) (mb : (b, PySem.W.listOf #[] k) ∈ news) (hu : A.units < cLine) (h : Q (.bool (decide (vs = []))) s) :
    wpAny (model prog w) A (compareOp .Eq (.ref a) (.ref b)) Q E s := by
  cases vs with
  | nil =>
    refine SeqAt.eq_listAt (e := fun _ => true) (lst_at N ma) (lst_at (vs := []) N mb) (by simp) hu (fun j h1 h2 => absurd h1 (by simp)) ?_
    rw [all_range fun _ _ => rfl]
    simpa using h
  | cons v r =>
    refine SeqAt.eq_list_lengthsAt (lst_at N ma) (lst_at (vs := []) N mb) (by simp) hu ?_
    simpa using h
theorem ne_nil_list (N : News h₀ L s.heap news) (ma : (a, PySem.W.listOf vs.toArray n) ∈ news) (mb : (b, PySem.W.listOf #[] k) ∈ news) (hu : A.units < cLine) (h : Q (.bool (!decide (vs = []))) s) :
    wpAny (model prog w) A (compareOp .NotEq (.ref a) (.ref b)) Q E s := by
  cases vs with
  | nil =>
    refine SeqAt.RcNeAt.lists (e := fun _ => true) (lst_at N ma) (lst_at (vs := []) N mb) (by simp) hu (fun j h1 h2 => absurd h1 (by simp)) prog w E Q ?_
    rw [all_range fun _ _ => rfl]
    simpa using h
  | cons v r =>
    refine SeqAt.RcNeAt.lists_lengths (lst_at N ma) (lst_at (vs := []) N mb) (by simp) hu prog w E Q ?_
    simpa using h
theorem ne_nil_dict {K : Type} [DecidableEq K] {knd : KeyKind prog w K} {oa ob : Obj} {l : List (K × Bts)} (N : News h₀ L s.heap news) (ma : (a, oa) ∈ news) (mb : (b, ob) ∈ news) (da : DB knd oa l) (db : DB knd ob []) (la : (a == sysModules) = false) (lb : (b == sysModules) = false) (hu : A.units < cLine) (h : Q (.bool (!decide (l = []))) s) :
    wpAny (model prog w) A (compareOp .NotEq (.ref a) (.ref b)) Q E s := by
  obtain ⟨ka, ia, ba⟩ := da
  obtain ⟨kb, ib, bb⟩ := db
  have l1 := ba.length
  have l2 := bb.length
  refine keq_ne (r := true) la lb (Heap.dictOf_iff.mpr ⟨oa, (N _ ma).1, ia⟩) (Heap.dictOf_iff.mpr ⟨ob, (N _ mb).1, ib⟩) hu (fun e => ?_) ?_
  · have : ka = [] := List.length_eq_zero_iff.mp (by rw [e, l2]; rfl)
    rw [this]; exact .nil
  · have e : (ka.length == kb.length && true) = decide (l = []) := by
      rw [l1, l2, Bool.and_true]
      cases l <;> simp
    rw [e]; exact h
end
/-! list comprehensions with one test; the ledger stays -/
section
variable {prog : Program} {w : World} {A : Around} {E : Value → Shared → Prop} {s : Shared} {h₀ : Heap} {L : Addr} {m : Str → Option Value} {env : Env}
theorem comp_restT {ct elt : PySem.Expr} {x : Str} {scope : Scope} {cl : List (Str × Addr)} {S : List (Addr × Obj) → Prop} {P : Nat → Value → Prop} {Fin : List Value → List (Addr × Obj) → Prop} {n : Nat} {news : List (Addr × Obj)} (J : Nat → List Value → Prop) (h0 : J 0 [])
    (turn : ∀ i ys v I oI C oC D m₂ h tk (E' : Value → Shared → Prop), i < n → J i ys → P i v → LCg.NsObj oC m₂ → m₂ x = some v → Fr h₀ L h m → News h₀ L h ((I, oI) :: (C, oC) :: (D, LCg.lst ys) :: news) → LCg.Off3 I C D news → ((@Ne Nat I C) ∧ (@Ne Nat I D) ∧ (@Ne Nat C D)) →
      wpAny (model prog w) A (isTrue ct (compEnvC scope cl C env) (eval ct (compEnvC scope cl C env))) (fun ok s' => if ok = true then
        wpAny (model prog w) A (eval elt (compEnvC scope cl C env)) (LCg.CompEnd h₀ L m { s with heap := h, toks := tk } I oI C oC D (LCg.lst ys) S (fun y news' => news' = news ∧ J (i + 1) (ys ++ [y]))) E' s'
        else LCg.CompEnd h₀ L m { s with heap := h, toks := tk } I oI C oC D (LCg.lst ys) S (fun _ news' => news' = news ∧ J (i + 1) ys) Value.none s') E' { s with heap := h, toks := tk })
    (fin : ∀ ys : List Value, J n ys → Fin ys news) : LCt.CompRestT prog w A h₀ L m env ct elt x scope cl s S P Fin n 0 [] news := by
  have key : ∀ (j i : Nat) (ys : List Value), i + j = n → J i ys → LCt.CompRestT prog w A h₀ L m env ct elt x scope cl s S P Fin j i ys news := by
    intro j
    induction j with
    | zero => intro i ys hi hy; exact LCt.CompRestT.zero (fin ys (by rw [show n = i by omega]; exact hy))
    | succ j ih =>
      intro i ys hi hy
      refine LCt.CompRestT.succ ?_
      intro v I oI C oC D m₂ h tk E' hv hC hx F N off ne
      refine wpAny_mono (turn i ys v I oI C oC D m₂ h tk E' (by omega) hy hv hC hx F N off ne) (fun ok s₂ hq => ?_) fun _ _ e => e
      cases ok with
      | true =>
        simp only [if_true] at hq ⊢
        refine wpAny_mono hq (fun y s₃ h₃ => ?_) fun _ _ e => e
        obtain ⟨h', tk', nw, e, F', N', off', hS, rfl, hJ⟩ := h₃
        exact ⟨h', tk', nw, e, F', N', off', hS, ih (i + 1) _ (by omega) hJ⟩
      | false =>
        simp only [Bool.false_eq_true, if_false] at hq ⊢
        obtain ⟨h', tk', nw, e, F', N', off', hS, rfl, hJ⟩ := hq
        exact ⟨h', tk', nw, e, F', N', off', hS, ih (i + 1) _ (by omega) hJ⟩
  exact key n 0 [] (by omega) h0
/-- over a list -/
theorem lsrcT {ct elt : PySem.Expr} {x : Str} {scope : Scope} {cl : List (Str × Addr)} {Fin : Shared → List Value → List (Addr × Obj) → Prop} {ax : Addr} {vs : List Value} {k : Nat} {news : List (Addr × Obj)} {s₁ : Shared} (J : Nat → List Value → Prop)
    (hh : A.handled = none) (F : Fr h₀ L s₁.heap m) (N : News h₀ L s₁.heap news) (hm : (ax, PySem.W.listOf vs.toArray k) ∈ news) (hsz : vs.length ≤ 1000000) (h0 : J 0 [])
    (turn : ∀ i ys v I oI C oC D m₂ h tk (E' : Value → Shared → Prop), i < vs.length → J i ys → vs[i]? = some v → LCg.NsObj oC m₂ → m₂ x = some v → Fr h₀ L h m → News h₀ L h ((I, oI) :: (C, oC) :: (D, LCg.lst ys) :: news) → LCg.Off3 I C D news → ((@Ne Nat I C) ∧ (@Ne Nat I D) ∧ (@Ne Nat C D)) →
      wpAny (model prog w) A (isTrue ct (compEnvC scope cl C env) (eval ct (compEnvC scope cl C env))) (fun ok s' => if ok = true then
        wpAny (model prog w) A (eval elt (compEnvC scope cl C env)) (LCg.CompEnd h₀ L m { s₁ with heap := h, toks := tk } I oI C oC D (LCg.lst ys) (LCg.SrcAt h₀ ax vs.toArray) (fun y news' => news' = news ∧ J (i + 1) (ys ++ [y]))) E' s'
        else LCg.CompEnd h₀ L m { s₁ with heap := h, toks := tk } I oI C oC D (LCg.lst ys) (LCg.SrcAt h₀ ax vs.toArray) (fun _ news' => news' = news ∧ J (i + 1) ys) Value.none s') E' { s₁ with heap := h, toks := tk })
    (fin : ∀ g (ys : List Value), J vs.length ys → Fin { s₁ with heap := g } ys news) : LCt.CompSrcT prog w A h₀ L m env ct elt x scope cl Fin (.ref ax) s₁ := by
  have hz : vs.toArray.size = vs.length := List.size_toArray
  refine LCt.CompSrcT.ledger hh F N hm (by rw [hz, sizeLine_eq]; omega) fun g => ?_
  rw [hz]
  exact comp_restT J h0 (fun i ys v I oI C oC D m₂ h tk E' hi hJ hv hC hx F' N' off ne => turn i ys v I oI C oC D m₂ h tk E' hi hJ (by simpa using hv) hC hx F' N' off ne) (fin g)
/-- over a dict -/
def TSrcD (prog : Program) (w : World) (A : Around) (h₀ : Heap) (L : Addr) (m : Str → Option Value) (env : Env) (ct elt : PySem.Expr) (x : Str) (scope : Scope) (cl : List (Str × Addr)) (Q : Value → Shared → Prop) (xv : Value) (s₁ : Shared) : Prop :=
  ∃ (K : Type) (_ : DecidableEq K) (knd : KeyKind prog w K) (d : Addr) (od : Obj) (V : List (K × Bts)) (news : List (Addr × Obj)) (J : Nat → List Value → Prop), xv = .ref d ∧ A.handled = none ∧ Fr h₀ L s₁.heap m ∧ News h₀ L s₁.heap news ∧ (d, od) ∈ news ∧ DB knd od V ∧ (d == sysModules) = false ∧ V.length ≤ 1000000 ∧ J 0 [] ∧
    (∀ i ys v k b I oI C oC D m₂ h tk (E' : Value → Shared → Prop), i < V.length → J i ys → V[i]? = some (k, b) → knd.is k v = true → LCg.NsObj oC m₂ → m₂ x = some v → Fr h₀ L h m → News h₀ L h ((I, oI) :: (C, oC) :: (D, LCg.lst ys) :: news) → LCg.Off3 I C D news → ((@Ne Nat I C) ∧ (@Ne Nat I D) ∧ (@Ne Nat C D)) →
      wpAny (model prog w) A (isTrue ct (compEnvC scope cl C env) (eval ct (compEnvC scope cl C env))) (fun ok s' => if ok = true then
        wpAny (model prog w) A (eval elt (compEnvC scope cl C env)) (LCg.CompEnd h₀ L m { s₁ with heap := h, toks := tk } I oI C oC D (LCg.lst ys) (fun nw => (d, od) ∈ nw) (fun y news' => news' = news ∧ J (i + 1) (ys ++ [y]))) E' s'
        else LCg.CompEnd h₀ L m { s₁ with heap := h, toks := tk } I oI C oC D (LCg.lst ys) (fun nw => (d, od) ∈ nw) (fun _ news' => news' = news ∧ J (i + 1) ys) Value.none s') E' { s₁ with heap := h, toks := tk }) ∧
    (∀ D h tk ys, Fr h₀ L h m → News h₀ L h ((D, LCg.lst ys) :: news) → Off1 D news → J V.length ys → Q (.ref D) { s₁ with heap := h, toks := tk })
theorem ListComp_TD {ct elt iter : PySem.Expr} {x : Str} {px : Pos} {scope : Scope} {cl : List (Str × Addr)} {pos : Pos} {Q : Value → Shared → Prop} (_F : Fr h₀ L s.heap m)
    (hclos : closureFor scope env = pure cl) (hcell : ∀ y ∈ scope.names, y.2 ≠ .cell) (hkind : scope.kind = .function)
    (hnames : ∀ y ∈ scope.names, y.2 = .local → scope.names.lookup y.1 = some .local) (hx : scope.names.lookup x = some .local)
    (h : wpAny (model prog w) A (eval iter env) (TSrcD prog w A h₀ L m env ct elt x scope cl Q) E s)
    (hs : ∀ x, foldedSetIterable iter env x = pure x := by intro _; rfl) :
    wpAny (model prog w) A (eval (.ListComp elt [⟨.Name x px, iter, [ct], 0⟩] scope pos) env) Q E s := by
  rw [eval_ListComp]
  refine wpAny_comprehension_free (use := none) rfl hs hclos hkind hnames (wpAny_mono h (fun xv s₁ h₁ => ?_) fun _ _ e => e)
  obtain ⟨K', _, knd', d, od, V, news, J, rfl, hh, F, N, hm, hV, lo, hsz, h0, turn, fin⟩ := h₁
  obtain ⟨kvs, ⟨es, ep, h1, h2, h3, h4, h5⟩, hb⟩ := hV
  have hlen := hb.length
  have at_ : ∀ h nw, News h₀ L h nw → (d, od) ∈ nw → h.DictAt knd' d kvs ep := fun h nw N hm => ⟨od, es, (N _ hm).1, h1, h2, h3, h4, h5⟩
  have hD := at_ _ _ N hm
  have hlt : d < s₁.heap.objs.size := hD.lt_size
  refine wpAny_pyIter_dict lo hD ?_
  have up : ∀ b o, s₁.heap.get? b = some o → (s₁.heap.push { cls := .type "dict_keyiterator", data := .fields #[.ref d, .int 0 0, .int kvs.length 0, .int ep 0] }).get? b = some o := fun b o e => Heap.get?_push_of_some _ e
  have W := Walks.dictKeys (knd := knd') (A := A) (prog := prog) (w := w) hh s₁.heap.objs.size d (Nat.ne_of_lt hlt) kvs ep
  refine LCt.block_T (S := fun nw => (d, od) ∈ nw) (Fin := fun ys nw => nw = news ∧ J kvs.length ys) (RR := fun acc C => compPost (model prog w) A E none Q acc C) W (by rw [sizeLine_eq]; omega) (fun i h st => let ⟨o, e, _⟩ := st.1; ⟨o, e⟩) ?_ hcell hkind hx ⟨⟨_, Heap.get?_push_size _ rfl, rfl, rfl⟩, hD.push _⟩ ?_ (F.keeps up) (N.grown up) (Nat.ne_of_lt F.ns.lt) (next_is_new F) (fun p hp => Nat.ne_of_lt (Heap.lt_size (N p hp).1)) hm ?_ ?_
  · intro i h h' o nw st e e' k N' hm'
    exact ⟨st.1.at fun o' q => by rw [e] at q; cases q; exact e', at_ _ _ N' hm'⟩
  · intro b hb
    show b < (s₁.heap.push _).objs.size
    rw [Heap.size_push]
    rcases List.mem_cons.mp hb with rfl | hb
    · exact Nat.lt_succ_self _
    · rw [List.mem_singleton.mp hb]; exact Nat.lt_succ_of_lt hlt
  · refine comp_restT J h0 ?_ (fun ys hy => ⟨rfl, hy⟩)
    rintro i ys v I oI C oC D m₂ h tk E' hi hJ ⟨k, y, hk, hkv⟩ hC hx' F' N' off ne
    have : ∃ b, V[i]? = some (k, b) := by
      have e := congrArg (fun l : List K' => l[i]?) hb.keys
      simp only [List.getElem?_map, hk, Option.map_some] at e
      obtain ⟨p, hp, e2⟩ := Option.map_eq_some_iff.mp e.symm
      exact ⟨p.2, by rw [hp, ← e2]⟩
    obtain ⟨b, hb'⟩ := this
    exact turn i ys v k b I oI C oC D m₂ h tk E' (by omega) hJ hb' hkv hC hx' F' N' off ne
  · intro D C h tk m' ys news' F' N' o1 hn hC₀ hD₀ hCL hDL hCD offC hfin
    obtain ⟨rfl, hJ⟩ := hfin
    rw [hlen] at hJ
    refine ⟨m', hn, fun h'' hs'' => fin D h'' tk ys (F'.change hs'' hCL hC₀) (fun p hp => ?_) o1 hJ⟩
    refine ⟨hs''.extBut _ _ ?_ (N' p hp).1, (N' p hp).2⟩
    rcases List.mem_cons.mp hp with rfl | hp
    · exact Ne.symm hCD
    · exact offC p hp
end
end Mine
end
section
theorem Mine.offCe : True := by w_top off; trivial
open PySem PySem.W PyProof.Rows PySem.Calls
set_option Elab.async false
set_option maxRecDepth 100000
set_option maxHeartbeats 2000000
set_option linter.unusedSimpArgs false
set_option linter.unusedSectionVars false
set_option linter.unusedVariables false
namespace Mine
open LCg
/-! [elt for x1, x2 in enumerate(l) if ct] -/
def QEnd (h₀ : Heap) (L : Addr) (m : Str → Option Value) (all : List (Addr × Obj)) (s₁ : Shared) (R : Value → Prop) (y : Value) (s₂ : Shared) : Prop :=
  ∃ h' tk, s₂ = { s₁ with heap := h', toks := tk } ∧ Fr h₀ L h' m ∧ News h₀ L h' all ∧ R y
theorem QEnd.intro {h₀ h' : Heap} {L : Addr} {m : Str → Option Value} {all more : List (Addr × Obj)} {s₁ : Shared} {R : Value → Prop} {y : Value} {tk : Nat} (F : Fr h₀ L h' m) (N : News h₀ L h' more) (sub : ∀ p ∈ all, p ∈ more) (r : R y) :
    QEnd h₀ L m all s₁ R y { s₁ with heap := h', toks := tk } := ⟨h', tk, rfl, F, fun p hp => N p (sub p hp), r⟩
theorem fr_wr {h₀ h h' : Heap} {L : Addr} {m : Str → Option Value} {wr : List Addr} (F : Fr h₀ L h m) (hk : ∀ b o, b ∉ wr → h.get? b = some o → h'.get? b = some o) (hL : L ∉ wr) (hI : ∀ b ∈ wr, h₀.get? b = none) : Fr h₀ L h' m :=
  ⟨F.ns.at' fun o e => hk L o hL e, fun b o e => hk b o (fun hm => by rw [hI b hm] at e; cases e) (F.keep b o e), F.above⟩
theorem news_wr {h₀ h h' : Heap} {L : Addr} {news : List (Addr × Obj)} {wr : List Addr} (N : News h₀ L h news) (hk : ∀ b o, b ∉ wr → h.get? b = some o → h'.get? b = some o) (off : ∀ p ∈ news, p.1 ∉ wr) : News h₀ L h' news :=
  fun p hp => ⟨hk _ _ (off p hp) (N p hp).1, (N p hp).2⟩
def ESrc (prog : Program) (w : World) (A : Around) (env : Env) (ct elt : PySem.Expr) (x1 x2 : Str) (p1 p2 tp : Pos) (kk : Nat) (iter : PySem.Expr) (scope : Scope) (cl : List (Str × Addr)) (pos : Pos) (Q : Value → Shared → Prop) (E : Value → Shared → Prop) (xv : Value) (s₁ : Shared) : Prop :=
  wpAny (model prog w) A (pyIter xv) (fun it s₂ => wpAny (model prog w) A (newList []) (fun acc s₃ => wpAny (model prog w) A (newFunctionEnv scope env.globals cl [] env.qual none .none (some env)) (fun cenv s₄ =>
    codeAny (model prog w) A (.compStart (.ListComp elt [⟨.Tuple [.Name x1 p1, .Name x2 p2] kk tp, iter, [ct], 0⟩] scope pos) 0 it acc { cenv with scope := relabel scope env }) (compPost (model prog w) A E none Q acc cenv.locals) s₄) E s₃) E s₂) E s₁
theorem lt_ne4 {a n : Nat} (h : a < n) : a ≠ n ∧ a ≠ n + 1 ∧ a ≠ n + 2 ∧ a ≠ n + 3 := by omega
theorem list_in {h₀ h : Heap} {L a : Addr} {news : List (Addr × Obj)} {vs : List Value} {n : Nat} (N : News h₀ L h news) (m : (a, PySem.W.listOf vs.toArray n) ∈ news) : h.IsList a vs.toArray := ⟨_, (N _ m).1, rfl, n, rfl⟩
section
variable {prog : Program} {w : World} {A : Around} {E : Value → Shared → Prop} {s : Shared} {h₀ : Heap} {L : Addr} {m : Str → Option Value} {env : Env}
theorem ListComp_E {ct elt iter : PySem.Expr} {x1 x2 : Str} {p1 p2 tp : Pos} {kk : Nat} {scope : Scope} {cl : List (Str × Addr)} {pos : Pos} {Q : Value → Shared → Prop} (_F : Fr h₀ L s.heap m)
    (hclos : closureFor scope env = pure cl) (hkind : scope.kind = .function)
    (hnames : ∀ y ∈ scope.names, y.2 = .local → scope.names.lookup y.1 = some .local)
    (h : wpAny (model prog w) A (eval iter env) (ESrc prog w A env ct elt x1 x2 p1 p2 tp kk iter scope cl pos Q E) E s)
    (hs : ∀ x, foldedSetIterable iter env x = pure x := by intro _; rfl) :
    wpAny (model prog w) A (eval (.ListComp elt [⟨.Tuple [.Name x1 p1, .Name x2 p2] kk tp, iter, [ct], 0⟩] scope pos) env) Q E s := by
  rw [eval_ListComp]
  exact wpAny_comprehension_free (use := none) rfl hs hclos hkind hnames h
theorem esrc_enum {ct elt iter : PySem.Expr} {x1 x2 : Str} {p1 p2 tp : Pos} {kk : Nat} {scope : Scope} {cl : List (Str × Addr)} {pos : Pos} {Q : Value → Shared → Prop} {l : Addr} {vs : List Value} {n : Nat} {news : List (Addr × Obj)} (J : Nat → List Value → Prop)
    (hh : A.handled = none) (hcell : ∀ y ∈ scope.names, y.2 ≠ .cell) (hkind : scope.kind = .function) (hx1 : scope.names.lookup x1 = some .local) (hx2 : scope.names.lookup x2 = some .local) (hxx : x1 ≠ x2)
    (F : Fr h₀ L s.heap m) (N : News h₀ L s.heap news) (hm : (l, PySem.W.listOf vs.toArray n) ∈ news) (hsz : vs.length ≤ 1000000) (h0 : J 0 [])
    (turn : ∀ i ys v t e it C D oe oi oC m₂ h tk (E' : Value → Shared → Prop), i < vs.length → J i ys → vs[i]? = some v → NsObj oC m₂ → m₂ x1 = some (.int (i : Int) t) → m₂ x2 = some v → Fr h₀ L h m → News h₀ L h ((e, oe) :: (it, oi) :: (C, oC) :: (D, lst ys) :: news) →
      wpAny (model prog w) A (isTrue ct (compEnvC scope cl C env) (eval ct (compEnvC scope cl C env))) (fun ok s' => if ok = true then
        wpAny (model prog w) A (eval elt (compEnvC scope cl C env)) (QEnd h₀ L m ((e, oe) :: (it, oi) :: (C, oC) :: (D, lst ys) :: news) { s with heap := h, toks := tk } (fun y => J (i + 1) (ys ++ [y]))) E' s'
        else QEnd h₀ L m ((e, oe) :: (it, oi) :: (C, oC) :: (D, lst ys) :: news) { s with heap := h, toks := tk } (fun _ => J (i + 1) ys) Value.none s') E' { s with heap := h, toks := tk })
    (fin : ∀ D h tk ys, Fr h₀ L h m → News h₀ L h ((D, lst ys) :: news) → (∀ p ∈ news, p.1 < D) → J vs.length ys → Q (.ref D) { s with heap := h, toks := tk }) :
    wpAny (model prog w) A (call (.type "enumerate") [.ref l]) (ESrc prog w A env ct elt x1 x2 p1 p2 tp kk iter scope cl pos Q E) E s := by
  have hl : s.heap.IsList l vs.toArray := lst_at N hm
  have hlt : l < s.heap.objs.size := Heap.lt_size (N _ hm).1
  have hLs : L < s.heap.objs.size := F.ns.lt
  refine call_enumerate_list hl fun h' hE hI hsz' hk => ?_
  refine wpAny_pyIter_enum hE ?_
  have hei : s.heap.objs.size + 1 ≠ s.heap.objs.size := Nat.succ_ne_self _
  have hle : l ≠ s.heap.objs.size + 1 := fun e => Nat.lt_irrefl _ (Nat.lt_trans (e ▸ hlt) (Nat.lt_succ_self _))
  have hli : l ≠ s.heap.objs.size := Nat.ne_of_lt hlt
  have W := WalksT.enumerate (prog := prog) (w := w) hh (s.heap.objs.size + 1) s.heap.objs.size l hei hle hli vs.toArray
  have hF0 : Fr h₀ L h' m := F.keeps hk
  have hN0 : News h₀ L h' news := N.grown hk
  have fresh₀ : ∀ a, s.heap.objs.size ≤ a → h₀.get? a = none := fun a ha => by
    cases e : h₀.get? a with
    | none => rfl
    | some o' => exact absurd (Heap.lt_size (F.keep a o' e)) (Nat.not_lt.mpr ha)
  refine wpAny_newObj_type (wpAny_newFunctionEnv hcell (by intro y hy; simp at hy) (fun h₁ hns₁ hsb₁ => ?_) hkind)
  dsimp only at hns₁ hsb₁ ⊢
  generalize hH2 : h'.push { cls := .type "list", dict := none, data := .seq ([] : List Value).toArray } = H2 at hns₁ hsb₁ ⊢
  have hC : H2.objs.size = s.heap.objs.size + 3 := by rw [← hH2, Heap.size_push, hsz']
  have hDs : h'.objs.size = s.heap.objs.size + 2 := hsz'
  have hDC : h'.objs.size ≠ H2.objs.size := by rw [hC, hDs]; omega
  have below : ∀ b, b < h'.objs.size → b ≠ H2.objs.size ∧ b ≠ h'.objs.size := fun b hb => ⟨by rw [hC]; rw [hDs] at hb; exact Nat.ne_of_lt (Nat.lt_of_lt_of_le hb (by omega)), Nat.ne_of_lt hb⟩
  have old : ∀ b o, h'.get? b = some o → h₁.get? b = some o := fun b o e => hsb₁.extBut b o (below b (Heap.lt_size e)).1 (Heap.get?_push_of_some _ (hH2 ▸ Heap.get?_push_of_some _ e))
  have hacc : h₁.get? h'.objs.size = some (lst []) := hsb₁.extBut _ _ hDC (Heap.get?_push_of_some _ (hH2 ▸ Heap.get?_push_size _ rfl))
  have hst₁ : (fun (i : Nat) (h : Heap) => (∃ old, IsEnum h (s.heap.objs.size + 1) s.heap.objs.size (i : Int) old) ∧ h.IsListIter s.heap.objs.size l i ∧ h.IsList l vs.toArray) 0 h₁ := by
    refine ⟨⟨.none, old _ _ hE⟩, ?_, list_in (hN0.grown old) hm⟩
    obtain ⟨o, e, r⟩ := hI
    exact ⟨o, old _ _ e, r⟩
  have hD₀ : h₀.get? h'.objs.size = none := fresh₀ _ (by rw [hDs]; omega)
  have hC₀ : h₀.get? H2.objs.size = none := fresh₀ _ (by rw [hC]; omega)
  have hL4 := lt_ne4 hLs
  have hDL : h'.objs.size ≠ L := by rw [hDs]; exact Ne.symm hL4.2.2.1
  have hCL : H2.objs.size ≠ L := by rw [hC]; exact Ne.symm hL4.2.2.2
  have hwr0 : ∀ b ∈ [s.heap.objs.size + 1, s.heap.objs.size], h₀.get? b = none := fun b hb => by
    rcases List.mem_cons.mp hb with rfl | hb
    · exact fresh₀ _ (by omega)
    · rw [List.mem_singleton.mp hb]; exact fresh₀ _ (Nat.le_refl _)
  have hLwr : L ∉ [s.heap.objs.size + 1, s.heap.objs.size] := fun hb => by
    rcases List.mem_cons.mp hb with e | hb
    · exact hL4.2.1 e
    · exact hL4.1 (List.mem_singleton.mp hb)
  have hCwr : H2.objs.size ∉ [s.heap.objs.size + 1, s.heap.objs.size] := fun hb => by
    rw [hC] at hb
    rcases List.mem_cons.mp hb with e | hb
    · omega
    · have := List.mem_singleton.mp hb; omega
  have hDwr : h'.objs.size ∉ [s.heap.objs.size + 1, s.heap.objs.size] := fun hb => by
    rw [hDs] at hb
    rcases List.mem_cons.mp hb with e | hb
    · omega
    · have := List.mem_singleton.mp hb; omega
  have off : ∀ p ∈ news, p.1 < s.heap.objs.size := fun p hp => Heap.lt_size (N p hp).1
  have offw : ∀ p ∈ news, p.1 ∉ [s.heap.objs.size + 1, s.heap.objs.size] := fun p hp hb => by
    have := lt_ne4 (off p hp)
    rcases List.mem_cons.mp hb with e | hb
    · exact this.2.1 e
    · exact this.1 (List.mem_singleton.mp hb)
  have offC : ∀ p ∈ news, p.1 ≠ H2.objs.size := fun p hp => by rw [hC]; exact (lt_ne4 (off p hp)).2.2.2
  have offD : ∀ p ∈ news, p.1 ≠ h'.objs.size := fun p hp => by rw [hDs]; exact (lt_ne4 (off p hp)).2.2.1
  have loop : ∀ s₃ : Shared, s₃ = { s with heap := h₁, toks := s.toks + ([] : List (Str × Value)).length } →
      codeAny (model prog w) A (.compLoop (.ListComp elt [⟨.Tuple [.Name x1 p1, .Name x2 p2] kk tp, iter, [ct], 0⟩] scope pos) 0 (.ref (s.heap.objs.size + 1)) (.ref h'.objs.size) (compEnvC scope cl H2.objs.size env))
        (compPost (model prog w) A E none Q (.ref h'.objs.size) H2.objs.size) s₃ := by
    rintro s₃ rfl
    refine kct_loop
      (fun k s' => ∃ g tk i ys m', s' = { s with heap := g, toks := tk } ∧ i ≤ vs.length ∧ k = vs.length + 1 - i ∧ ys.length ≤ i ∧ ((∃ old, IsEnum g (s.heap.objs.size + 1) s.heap.objs.size (i : Int) old) ∧ g.IsListIter s.heap.objs.size l i ∧ g.IsList l vs.toArray) ∧ Fr h₀ L g m ∧ g.Ns H2.objs.size m' ∧ News h₀ L g ((h'.objs.size, lst ys) :: news) ∧ J i ys) ?_ (vs.length + 1)
      ⟨h₁, _, 0, [], _, rfl, Nat.zero_le _, rfl, Nat.le_refl _, hst₁, hF0.keeps old, hns₁, fun p hp => ?_, h0⟩
    · rintro k s' ⟨g, tk, i, ys, m', rfl, hi, rfl, hyl, hst', F', hn', N', hJ⟩
      by_cases hlt' : i < vs.length
      · refine W.item i _ _ _ (by simpa using hlt') hst' fun T vals h₂ tk₂ hP hT hTup hMid hk₂ => ?_
        obtain ⟨t, v, hv, rfl⟩ := hP
        have hTw := W.apart _ _ _ hMid
        refine W.go _ _ _ i T { s with heap := h₂, toks := tk₂ } _ _ hMid fun h₃ hst₃ hk₃ => ?_
        have hT3 : IsTup h₃ T #[.int (i : Int) t, v] := by
          obtain ⟨o, ho, r⟩ := hTup
          exact ⟨o, hk₃ T o hTw ho, r⟩
        refine assign_Tuple_tuple hh hT3 rfl rfl fun h₅ he => ?_
        have he' : ∀ b o, h₃.get? b = some o → h₅.get? b = some o := fun b o e => he b o (Nat.ne_of_lt (Heap.lt_size e)) e
        have hk5 : ∀ b o, b ∉ [s.heap.objs.size + 1, s.heap.objs.size] → g.get? b = some o → h₅.get? b = some o := fun b o hb e => he' b o (hk₃ b o hb (hk₂ b o hb e))
        refine assignInOrder_cons (wpAny_assign_Name (wpAny_storeName_local (lookup_relabel_local hx1) (hn'.at' fun o e => hk5 _ o hCwr e) (fun h₆ hn₆ hs₆ => ?_) (by simp [compEnvC, relabel, hkind])))
        refine assignInOrder_cons (wpAny_assign_Name (wpAny_storeName_local (lookup_relabel_local hx2) hn₆ (fun h₇ hn₇ hs₇ => ?_) (by simp [compEnvC, relabel, hkind])))
        refine assignInOrder_nil ?_
        have old7 : ∀ b o, b ≠ H2.objs.size → h₅.get? b = some o → h₇.get? b = some o := fun b o hb e => hs₇.extBut b o hb (hs₆.extBut b o hb e)
        have F₇ : Fr h₀ L h₇ m := ((fr_wr F' hk5 hLwr hwr0).change hs₆ hCL hC₀).change hs₇ hCL hC₀
        have ne1 : s.heap.objs.size + 1 ≠ H2.objs.size := by rw [hC]; omega
        have ne2 : s.heap.objs.size ≠ H2.objs.size := by rw [hC]; omega
        obtain ⟨⟨old', hen⟩, ⟨oi, hoi, hir⟩, hl3⟩ := hst₃
        obtain ⟨oe, hoe⟩ : ∃ oe : Obj, oe = { cls := .type "enumerate", dict := none, data := .fields #[.none, .bool false, .ref s.heap.objs.size, rawInt ((i + 1 : Nat) : Int), .none, old'], slots := #[] } := ⟨_, rfl⟩
        have hen' : h₃.get? (s.heap.objs.size + 1) = some oe := by rw [hoe]; exact hen
        obtain ⟨oC, heC, hoC⟩ := ns_obj hn₇
        have N₇ : News h₀ L h₇ ((s.heap.objs.size + 1, oe) :: (s.heap.objs.size, oi) :: (H2.objs.size, oC) :: (h'.objs.size, lst ys) :: news) := fun p hp => by
          rcases List.mem_cons.mp hp with rfl | hp
          · exact ⟨old7 _ _ ne1 (he' _ _ hen'), fun e => hLwr (by show L ∈ _; rw [← e]; exact .head _), hwr0 _ (.head _)⟩
          · rcases List.mem_cons.mp hp with rfl | hp
            · exact ⟨old7 _ _ ne2 (he' _ _ hoi), fun e => hLwr (by show L ∈ _; rw [← e]; exact .tail _ (.head _)), hwr0 _ (.tail _ (.head _))⟩
            · rcases List.mem_cons.mp hp with rfl | hp
              · exact ⟨heC, hCL, hC₀⟩
              · have z := N' p hp
                refine ⟨old7 _ _ ?_ (hk5 _ _ ?_ z.1), z.2⟩
                · rcases List.mem_cons.mp hp with rfl | hp
                  · exact hDC
                  · exact offC p hp
                · rcases List.mem_cons.mp hp with rfl | hp
                  · exact hDwr
                  · exact offw p hp
        have hv' : vs[i]? = some v := by simpa using hv
        refine wpAny_mono (turn i ys v t _ _ _ _ oe oi oC _ h₇ _ _ hlt' hJ hv' hoC (by simp [hxx]) (by simp) F₇ N₇) (fun ok s₄ h₄ => ?_) fun _ _ e => e
        have back : ∀ g' , News h₀ L g' ((s.heap.objs.size + 1, oe) :: (s.heap.objs.size, oi) :: (H2.objs.size, oC) :: (h'.objs.size, lst ys) :: news) → ((∃ old, IsEnum g' (s.heap.objs.size + 1) s.heap.objs.size ((i + 1 : Nat) : Int) old) ∧ g'.IsListIter s.heap.objs.size l (i + 1) ∧ g'.IsList l vs.toArray) := fun g' NN => by
          refine ⟨⟨old', ?_⟩, ⟨oi, (NN _ (.tail _ (.head _))).1, hir⟩, list_in NN (.tail _ (.tail _ (.tail _ (.tail _ hm))))⟩
          have := (NN _ (.head _)).1
          rw [hoe] at this; exact this
        cases ok with
        | true =>
          simp only [if_true] at h₄ ⊢
          refine wpAny_mono h₄ (fun y s₅ q => ?_) fun _ _ e => e
          obtain ⟨g', tk', rfl, F₈, N₈, hJ'⟩ := q
          have zD := (N₈ (h'.objs.size, lst ys) (.tail _ (.tail _ (.tail _ (.head _))))).1
          have zC := (N₈ (H2.objs.size, oC) (.tail _ (.tail _ (.head _)))).1
          have hb8 := back g' N₈
          refine append_at (hsz := by show ys.toArray.size ≤ sizeLine; rw [List.size_toArray, sizeLine_eq]; omega) zD fun g₂ hs₂ hD₂ => ?_
          refine ⟨vs.length + 1 - (i + 1), by omega, g₂, tk', i + 1, ys ++ [y], _, rfl, hlt', rfl, by rw [List.length_append, List.length_singleton]; exact Nat.succ_le_succ hyl, ?_, F₈.change hs₂ hDL hD₀, (hoC.ns zC).sameBut hs₂ (Ne.symm hDC), fun p hp => ?_, hJ'⟩
          · obtain ⟨⟨o1, e1⟩, ⟨o2, e2, r2⟩, e3⟩ := hb8
            refine ⟨⟨o1, hs₂.extBut _ _ (fun e => hDwr (by rw [← e]; exact .head _)) e1⟩, ⟨o2, hs₂.extBut _ _ (fun e => hDwr (by rw [← e]; exact .tail _ (.head _))) e2, r2⟩, ?_⟩
            obtain ⟨o3, f1, f2⟩ := e3
            exact ⟨o3, hs₂.extBut _ _ (by rw [hDs]; exact (lt_ne4 hlt).2.2.1) f1, f2⟩
          · rcases List.mem_cons.mp hp with rfl | hp
            · exact ⟨hD₂.trans (congrArg some (lst_snoc ys y)), hDL, hD₀⟩
            · exact ⟨hs₂.extBut _ _ (offD p hp) (N₈ p (.tail _ (.tail _ (.tail _ (.tail _ hp))))).1, (N₈ p (.tail _ (.tail _ (.tail _ (.tail _ hp))))).2⟩
        | false =>
          simp only [Bool.false_eq_true, if_false] at h₄ ⊢
          obtain ⟨g', tk', rfl, F₈, N₈, hJ'⟩ := h₄
          have zC := (N₈ (H2.objs.size, oC) (.tail _ (.tail _ (.head _)))).1
          exact ⟨vs.length + 1 - (i + 1), by omega, g', tk', i + 1, ys, _, rfl, hlt', rfl, Nat.le_succ_of_le hyl, back g' N₈, F₈, hoC.ns zC, fun p hp => N₈ p (.tail _ (.tail _ (.tail _ hp))), hJ'⟩
      · obtain rfl : i = vs.length := Nat.le_antisymm hi (Nat.not_lt.mp hlt')
        refine W.done _ _ _ (by simpa using hst') fun h₂ tk₂ hk₂ => ?_
        have N₂ : News h₀ L h₂ ((h'.objs.size, lst ys) :: news) := news_wr N' hk₂ fun p hp => by
          rcases List.mem_cons.mp hp with rfl | hp
          · exact hDwr
          · exact offw p hp
        refine ⟨_, hn'.at' fun o e => hk₂ _ o hCwr e, fun h'' hs'' => fin _ h'' tk₂ ys ((fr_wr F' hk₂ hLwr hwr0).change hs'' hCL hC₀) (fun p hp => ?_) (fun p hp => ?_) hJ⟩
        · refine ⟨hs''.extBut _ _ ?_ (N₂ p hp).1, (N₂ p hp).2⟩
          rcases List.mem_cons.mp hp with rfl | hp
          · exact hDC
          · exact offC p hp
        · rw [hDs]; exact Nat.lt_of_lt_of_le (off p hp) (by omega)
    · rcases List.mem_cons.mp hp with rfl | hp
      · exact ⟨hacc, hDL, hD₀⟩
      · exact ⟨old _ _ (hN0 p hp).1, (hN0 p hp).2⟩
  obtain ⟨⟨o9, e9⟩, -⟩ := hst₁
  exact codeAny_compStart_list (loop _ rfl) (wpAny_pyIter_enum (i := ((0 : Nat) : Int)) e9 (loop _ rfl))
end
end Mine
end
section
theorem Mine.offCk : True := by w_top off; trivial
open PySem PySem.W PyProof.Rows PySem.Calls
set_option Elab.async false
set_option maxRecDepth 100000
set_option maxHeartbeats 2000000
set_option linter.unusedSimpArgs false
set_option linter.unusedSectionVars false
set_option linter.unusedVariables false
namespace Mine
open LCg
/-! [elt for x in l if ct], x a cell of the comprehension's -/
section
variable {M : Model} {A : Around} {E : Value → Shared → Prop} {s : Shared}
theorem newEnv_cell {scope : Scope} {globals : Addr} {cl : List (Str × Addr)} {qual : Str} {func : Option Addr} {code : Value} {outer : Env} {builtins : Addr} {x : Str} {Q : Env → Shared → Prop}
    (hcf : ∀ n, cellsFrom n scope.names cl = (x, n) :: cl) (hpc : ∀ h, pushCells h scope.names = h.push { cls := .type "cell", data := .cell none })
    (hQ : Q (newEnv scope s.heap.objs.size globals ((x, s.heap.objs.size + 1) :: cl) qual func code (some outer) builtins) { s with heap := (s.heap.push { cls := .type "dict", data := .dict #[] }).push { cls := .type "cell", data := .cell none } }) :
    wpAny M A (newFunctionEnv scope globals cl [] qual func code (some outer) builtins) Q E s := by
  simp only [newFunctionEnv, Option.isSome_some, if_true]
  refine wpAny_bind (wpAny_alloc ?_)
  refine wpAny_bind (wpAny_layCells _ (fun name kind cells => by cases hkc : kind == NameKind.cell <;> simp [hkc]) _ _ _ _ ?_)
  rw [hcf, hpc, show ({ s with heap := s.heap.push { cls := .type "dict", data := .dict #[] } } : Shared).heap.objs.size = s.heap.objs.size + 1 from Heap.size_push ..]
  rw [List.forIn_nil]
  refine wpAny_bind (wpAny_pure (wpAny_pure hQ))
end
section
variable {prog : Program} {w : World} {A : Around} {E : Value → Shared → Prop} {s : Shared} {h₀ : Heap} {L : Addr} {m : Str → Option Value} {env : Env}
def KSrc (prog : Program) (w : World) (A : Around) (h₀ : Heap) (L : Addr) (m : Str → Option Value) (env : Env) (ct elt : PySem.Expr) (x : Str) (scope : Scope) (cl : List (Str × Addr)) (Q : Value → Shared → Prop) (xv : Value) (s₁ : Shared) : Prop :=
  ∃ (ax : Addr) (vs : List Value) (k : Nat) (news : List (Addr × Obj)) (J : Nat → List Value → Prop), xv = .ref ax ∧ A.handled = none ∧ Fr h₀ L s₁.heap m ∧ News h₀ L s₁.heap news ∧ (ax, PySem.W.listOf vs.toArray k) ∈ news ∧ vs.length ≤ 1000000 ∧ J 0 [] ∧
    (∀ i ys v I C K D oI oC oK h tk (E' : Value → Shared → Prop), i < vs.length → J i ys → vs[i]? = some v → oK.data = .cell (some v) → Fr h₀ L h m → News h₀ L h ((I, oI) :: (C, oC) :: (K, oK) :: (D, lst ys) :: news) →
      wpAny (model prog w) A (isTrue ct (compEnvC scope ((x, K) :: cl) C env) (eval ct (compEnvC scope ((x, K) :: cl) C env))) (fun ok s' => if ok = true then
        wpAny (model prog w) A (eval elt (compEnvC scope ((x, K) :: cl) C env)) (QEnd h₀ L m ((I, oI) :: (C, oC) :: (K, oK) :: (D, lst ys) :: news) { s₁ with heap := h, toks := tk } (fun y => J (i + 1) (ys ++ [y]))) E' s'
        else QEnd h₀ L m ((I, oI) :: (C, oC) :: (K, oK) :: (D, lst ys) :: news) { s₁ with heap := h, toks := tk } (fun _ => J (i + 1) ys) Value.none s') E' { s₁ with heap := h, toks := tk }) ∧
    (∀ D h tk ys, Fr h₀ L h m → News h₀ L h ((D, lst ys) :: news) → (∀ p ∈ news, p.1 < D) → J vs.length ys → Q (.ref D) { s₁ with heap := h, toks := tk })
theorem ListComp_K {ct elt iter : PySem.Expr} {x : Str} {px : Pos} {scope : Scope} {cl : List (Str × Addr)} {pos : Pos} {Q : Value → Shared → Prop} (_F : Fr h₀ L s.heap m)
    (hclos : closureFor scope env = pure cl) (hkind : scope.kind = .function) (hcf : ∀ n, cellsFrom n scope.names cl = (x, n) :: cl) (hpc : ∀ h, pushCells h scope.names = h.push { cls := .type "cell", data := .cell none })
    (hnames : ∀ y ∈ scope.names, y.2 = .local → scope.names.lookup y.1 = some .local) (hx : (relabel scope env).names.lookup x = some .cell)
    (h : wpAny (model prog w) A (eval iter env) (KSrc prog w A h₀ L m env ct elt x scope cl Q) E s)
    (hs : ∀ x, foldedSetIterable iter env x = pure x := by intro _; rfl) :
    wpAny (model prog w) A (eval (.ListComp elt [⟨.Name x px, iter, [ct], 0⟩] scope pos) env) Q E s := by
  rw [eval_ListComp]
  refine wpAny_comprehension_free (use := none) rfl hs hclos hkind hnames (wpAny_mono h (fun xv s₁ h₁ => ?_) fun _ _ e => e)
  obtain ⟨ax, vs, kk, news, J, rfl, hh, F, N, hm, hsz, h0, turn, fin⟩ := h₁
  have hl : s₁.heap.IsList ax vs.toArray := list_in N hm
  have hz : vs.toArray.size = vs.length := List.size_toArray
  have hlt : ax < s₁.heap.objs.size := Heap.lt_size (N _ hm).1
  have hLs : L < s₁.heap.objs.size := F.ns.lt
  refine wpAny_pyIter_list hl ?_
  have W := Walks.list (A := A) (prog := prog) (w := w) hh s₁.heap.objs.size ax (Nat.ne_of_lt hlt) vs.toArray
  generalize hH1 : s₁.heap.push { cls := .type "list_iterator", data := .fields #[.ref ax, .int 0 0] } = H1
  have s1 : H1.objs.size = s₁.heap.objs.size + 1 := by rw [← hH1, Heap.size_push]
  have k1 : ∀ b o, s₁.heap.get? b = some o → H1.get? b = some o := fun b o e => hH1 ▸ Heap.get?_push_of_some _ e
  have hit1 : H1.IsListIter s₁.heap.objs.size ax 0 := hH1 ▸ ⟨_, Heap.get?_push_size _ rfl, rfl, rfl⟩
  refine wpAny_newObj_type (newEnv_cell hcf hpc ?_)
  generalize hH2 : H1.push { cls := .type "list", dict := none, data := .seq ([] : List Value).toArray } = H2
  have s2 : H2.objs.size = s₁.heap.objs.size + 2 := by rw [← hH2, Heap.size_push, s1]
  have k2 : ∀ b o, H1.get? b = some o → H2.get? b = some o := fun b o e => hH2 ▸ Heap.get?_push_of_some _ e
  have hD2 : H2.get? H1.objs.size = some (lst []) := hH2 ▸ Heap.get?_push_size _ rfl
  show codeAny _ _ _ _ { s₁ with heap := (H2.push { cls := .type "dict", data := .dict #[] }).push { cls := .type "cell", data := .cell none } }
  generalize hH3 : H2.push { cls := .type "dict", data := .dict #[] } = H3
  have s3 : H3.objs.size = s₁.heap.objs.size + 3 := by rw [← hH3, Heap.size_push, s2]
  have k3 : ∀ b o, H2.get? b = some o → H3.get? b = some o := fun b o e => hH3 ▸ Heap.get?_push_of_some _ e
  have n3 : H3.Ns H2.objs.size (fun _ => none) := hH3 ▸ Heap.Ns.new H2 (.type "dict")
  have eK : H2.objs.size + 1 = H3.objs.size := by rw [s2, s3]
  generalize hH4 : H3.push { cls := .type "cell", data := .cell none } = H4
  have k4 : ∀ b o, H3.get? b = some o → H4.get? b = some o := fun b o e => hH4 ▸ Heap.get?_push_of_some _ e
  have hK4 : H4.get? H3.objs.size = some { cls := .type "cell", data := .cell none } := hH4 ▸ Heap.get?_push_size _ rfl
  have k14 : ∀ b o, H1.get? b = some o → H4.get? b = some o := fun b o e => k4 _ _ (k3 _ _ (k2 _ _ e))
  have k04 : ∀ b o, s₁.heap.get? b = some o → H4.get? b = some o := fun b o e => k14 _ _ (k1 _ _ e)
  have fresh₀ : ∀ a, s₁.heap.objs.size ≤ a → h₀.get? a = none := fun a ha => by
    cases e : h₀.get? a with
    | none => rfl
    | some o' => exact absurd (Heap.lt_size (F.keep a o' e)) (Nat.not_lt.mpr ha)
  have z0 := fresh₀ _ (Nat.le_refl _)
  have z1 : h₀.get? H1.objs.size = none := fresh₀ _ (by rw [s1]; exact Nat.le_succ _)
  have z2 : h₀.get? H2.objs.size = none := fresh₀ _ (by rw [s2]; exact Nat.le_add_right _ _)
  have z3 : h₀.get? H3.objs.size = none := fresh₀ _ (by rw [s3]; exact Nat.le_add_right _ _)
  have hL4 := lt_ne4 hLs
  have hIL : s₁.heap.objs.size ≠ L := Ne.symm hL4.1
  have hDL : H1.objs.size ≠ L := by rw [s1]; exact Ne.symm hL4.2.1
  have hCL : H2.objs.size ≠ L := by rw [s2]; exact Ne.symm hL4.2.2.1
  have hKL : H3.objs.size ≠ L := by rw [s3]; exact Ne.symm hL4.2.2.2
  have off : ∀ p ∈ news, p.1 < s₁.heap.objs.size := fun p hp => Heap.lt_size (N p hp).1
  have oI : ∀ p ∈ news, p.1 ≠ s₁.heap.objs.size := fun p hp => (lt_ne4 (off p hp)).1
  have oD : ∀ p ∈ news, p.1 ≠ H1.objs.size := fun p hp => by rw [s1]; exact (lt_ne4 (off p hp)).2.1
  have oC : ∀ p ∈ news, p.1 ≠ H2.objs.size := fun p hp => by rw [s2]; exact (lt_ne4 (off p hp)).2.2.1
  have oK : ∀ p ∈ news, p.1 ≠ H3.objs.size := fun p hp => by rw [s3]; exact (lt_ne4 (off p hp)).2.2.2
  have nID : s₁.heap.objs.size ≠ H1.objs.size := by rw [s1]; omega
  have nIC : s₁.heap.objs.size ≠ H2.objs.size := by rw [s2]; omega
  have nIK : s₁.heap.objs.size ≠ H3.objs.size := by rw [s3]; omega
  have nDC : H1.objs.size ≠ H2.objs.size := by rw [s1, s2]; omega
  have nDK : H1.objs.size ≠ H3.objs.size := by rw [s1, s3]; omega
  have nCK : H2.objs.size ≠ H3.objs.size := by rw [s2, s3]; omega
  have hkf : (relabel scope env).kind = .function := hkind
  have loop : ∀ s₃ : Shared, s₃ = { s₁ with heap := H4 } →
      codeAny (model prog w) A (.compLoop (.ListComp elt [⟨.Name x px, iter, [ct], 0⟩] scope pos) 0 (.ref s₁.heap.objs.size) (.ref H1.objs.size) (compEnvC scope ((x, H3.objs.size) :: cl) H2.objs.size env))
        (compPost (model prog w) A E none Q (.ref H1.objs.size) H2.objs.size) s₃ := by
    rintro s₃ rfl
    refine codeAny_compLoop_tests
      (fun k s' => ∃ g tk i ys m' oK, s' = { s₁ with heap := g, toks := tk } ∧ i ≤ vs.length ∧ k = vs.length + 1 - i ∧ ys.length ≤ i ∧ g.IsListIter s₁.heap.objs.size ax i ∧ Fr h₀ L g m ∧ g.Ns H2.objs.size m' ∧ (∃ v, oK.data = Data.cell v) ∧ News h₀ L g ((H3.objs.size, oK) :: (H1.objs.size, lst ys) :: news) ∧ J i ys) ?_ (vs.length + 1)
      ⟨H4, _, 0, [], _, { cls := .type "cell", data := .cell none }, rfl, Nat.zero_le _, rfl, Nat.le_refl _, by obtain ⟨o, e, r⟩ := hit1; exact ⟨o, k14 _ _ e, r⟩, F.keeps k04, n3.at' (fun o e => k4 _ _ e), ⟨none, rfl⟩, fun p hp => ?_, h0⟩
    · rintro k s' ⟨g, tk, i, ys, m', oKo, rfl, hi, rfl, hyl, hit, F', hn', ⟨v0, hv0⟩, N', hJ⟩
      have hax : g.IsList ax vs.toArray := list_in N' (.tail _ (.tail _ hm))
      by_cases hlt' : i < vs.length
      · refine W.item i _ _ _ (by rw [hz]; exact hlt') ⟨hit, hax⟩ fun v h₂ tk₂ hPv hst₂ hk₂ => ?_
        have hw : ∀ b, b ≠ s₁.heap.objs.size → b ∉ [s₁.heap.objs.size] := fun b hb => by simpa using hb
        have zK : h₂.get? H3.objs.size = some oKo := hk₂ _ _ (hw _ (Ne.symm nIK)) (N' _ (.head _)).1
        refine wpAny_assign_Name (wpAny_storeName_cell (c := H3.objs.size) (v₀ := v0) hkf hx (by simp [compEnvC]) ⟨oKo, zK, hv0⟩ fun h₃ hc₃ hs₃ => ?_)
        refine wpAny_tests_one ?_
        obtain ⟨oK', eK', dK'⟩ := hc₃
        obtain ⟨⟨oI', eI', rI'⟩, -⟩ := hst₂
        have eI3 : h₃.get? s₁.heap.objs.size = some oI' := hs₃.extBut _ _ nIK eI'
        obtain ⟨oC', eC', hC'⟩ := ns_obj ((hn'.at' fun o e => hk₂ _ o (hw _ (Ne.symm nIC)) e).sameBut hs₃ nCK)
        have F₃ : Fr h₀ L h₃ m := (fr_but F' hk₂ (Ne.symm hIL) z0).change hs₃ hKL z3
        have N₃ : News h₀ L h₃ ((s₁.heap.objs.size, oI') :: (H2.objs.size, oC') :: (H3.objs.size, oK') :: (H1.objs.size, lst ys) :: news) := fun p hp => by
          rcases List.mem_cons.mp hp with rfl | hp
          · exact ⟨eI3, hIL, z0⟩
          · rcases List.mem_cons.mp hp with rfl | hp
            · exact ⟨eC', hCL, z2⟩
            · rcases List.mem_cons.mp hp with rfl | hp
              · exact ⟨eK', hKL, z3⟩
              · have z := N' p (.tail _ hp)
                refine ⟨hs₃.extBut _ _ ?_ (hk₂ _ _ (hw _ ?_) z.1), z.2⟩
                · rcases List.mem_cons.mp hp with rfl | hp
                  · exact nDK
                  · exact oK p hp
                · rcases List.mem_cons.mp hp with rfl | hp
                  · exact Ne.symm nID
                  · exact oI p hp
        have hv' : vs[i]? = some v := by simpa using hPv
        refine wpAny_mono (turn i ys v _ _ _ _ oI' oC' oK' h₃ _ _ hlt' hJ hv' dK' F₃ N₃) (fun ok s₄ h₄ => ?_) fun _ _ e => e
        have back : ∀ g' , News h₀ L g' ((s₁.heap.objs.size, oI') :: (H2.objs.size, oC') :: (H3.objs.size, oK') :: (H1.objs.size, lst ys) :: news) → g'.IsListIter s₁.heap.objs.size ax (i + 1) := fun g' NN => ⟨oI', (NN _ (.head _)).1, rI'⟩
        cases ok with
        | true =>
          simp only [if_true] at h₄ ⊢
          refine wpAny_mono h₄ (fun y s₅ q => ?_) fun _ _ e => e
          obtain ⟨g', tk', rfl, F₈, N₈, hJ'⟩ := q
          have zD := (N₈ (H1.objs.size, lst ys) (.tail _ (.tail _ (.tail _ (.head _))))).1
          have zC := (N₈ (H2.objs.size, oC') (.tail _ (.head _))).1
          obtain ⟨oI9, eI9, rI9⟩ := back g' N₈
          refine append_at (hsz := by show ys.toArray.size ≤ sizeLine; rw [List.size_toArray, sizeLine_eq]; omega) zD fun g₂ hs₂ hD₂ => ?_
          refine ⟨vs.length + 1 - (i + 1), by omega, g₂, tk', i + 1, ys ++ [y], _, oK', rfl, hlt', rfl, by rw [List.length_append, List.length_singleton]; exact Nat.succ_le_succ hyl, ⟨oI9, hs₂.extBut _ _ nID eI9, rI9⟩, F₈.change hs₂ hDL z1, (hC'.ns zC).sameBut hs₂ (Ne.symm nDC), ⟨_, dK'⟩, fun p hp => ?_, hJ'⟩
          rcases List.mem_cons.mp hp with rfl | hp
          · exact ⟨hs₂.extBut _ _ (Ne.symm nDK) (N₈ _ (.tail _ (.tail _ (.head _)))).1, hKL, z3⟩
          · rcases List.mem_cons.mp hp with rfl | hp
            · exact ⟨hD₂.trans (congrArg some (lst_snoc ys y)), hDL, z1⟩
            · exact ⟨hs₂.extBut _ _ (oD p hp) (N₈ p (.tail _ (.tail _ (.tail _ (.tail _ hp))))).1, (N₈ p (.tail _ (.tail _ (.tail _ (.tail _ hp))))).2⟩
        | false =>
          simp only [Bool.false_eq_true, if_false] at h₄ ⊢
          obtain ⟨g', tk', rfl, F₈, N₈, hJ'⟩ := h₄
          have zC := (N₈ (H2.objs.size, oC') (.tail _ (.head _))).1
          exact ⟨vs.length + 1 - (i + 1), by omega, g', tk', i + 1, ys, _, oK', rfl, hlt', rfl, Nat.le_succ_of_le hyl, back g' N₈, F₈, hC'.ns zC, ⟨_, dK'⟩, fun p hp => N₈ p (.tail _ (.tail _ hp)), hJ'⟩
      · obtain rfl : i = vs.length := Nat.le_antisymm hi (Nat.not_lt.mp hlt')
        refine W.done _ _ _ (by rw [hz]; exact ⟨hit, hax⟩) fun h₂ tk₂ hk₂ => ?_
        have N₂ : News h₀ L h₂ ((H1.objs.size, lst ys) :: news) := news_but (fun p hp => N' p (.tail _ hp)) hk₂ fun p hp => by
          rcases List.mem_cons.mp hp with rfl | hp
          · exact Ne.symm nID
          · exact oI p hp
        refine ⟨_, hn'.at' fun o e => hk₂ _ o (by simpa using Ne.symm nIC) e, fun h'' hs'' => fin _ h'' tk₂ ys ((fr_but F' hk₂ (Ne.symm hIL) z0).change hs'' hCL z2) (fun p hp => ?_) (fun p hp => ?_) hJ⟩
        · refine ⟨hs''.extBut _ _ ?_ (N₂ p hp).1, (N₂ p hp).2⟩
          rcases List.mem_cons.mp hp with rfl | hp
          · exact nDC
          · exact oC p hp
        · rw [s1]; exact Nat.lt_succ_of_lt (off p hp)
    · rcases List.mem_cons.mp hp with rfl | hp
      · exact ⟨hK4, hKL, z3⟩
      · rcases List.mem_cons.mp hp with rfl | hp
        · exact ⟨k4 _ _ (k3 _ _ hD2), hDL, z1⟩
        · exact ⟨k04 _ _ (N p hp).1, (N p hp).2⟩
  rw [eK]
  exact codeAny_compStart_list (loop _ rfl) (W.self 0 _ _ _ ⟨by obtain ⟨o, e, r⟩ := hit1; exact ⟨o, k14 _ _ e, r⟩, by obtain ⟨o, e, r⟩ := hl; exact ⟨o, k04 _ _ e, r⟩⟩ (loop _ rfl))
end
end Mine
end
section
theorem Mine.offLm : True := by w_top off; trivial
open PySem PySem.W PyProof.Rows PySem.Calls
set_option Elab.async false
set_option maxRecDepth 100000
set_option maxHeartbeats 2000000
set_option linter.unusedSimpArgs false
set_option linter.unusedSectionVars false
set_option linter.unusedVariables false
namespace Mine
/-! the law, without the program -/
structure KeptOK (qs : List Nat) (H : Nat → Nat → Bts) (KV : List (Str × Bts)) : Prop where
  mem : ∀ k b, look KV k = some b → ∃ q ∈ qs, ∃ i, i < 8 ∧ k = pathStr (8 - i) (sib (q / 2 ^ i)) ∧ b = H (8 - i) (sib (q / 2 ^ i)) ∧ ∀ q' ∈ qs, q' / 2 ^ i ≠ sib (q / 2 ^ i)
  all : ∀ q ∈ qs, ∀ i, i < 8 → (∀ q' ∈ qs, q' / 2 ^ i ≠ sib (q / 2 ^ i)) → look KV (pathStr (8 - i) (sib (q / 2 ^ i))) = some (H (8 - i) (sib (q / 2 ^ i)))
theorem KeptOK.moved {qs : List Nat} {H H' : Nat → Nat → Bts} {KV : List (Str × Bts)} (K : KeptOK qs H KV) (h : ∀ d p, (∀ q ∈ qs, p ≠ q / 2 ^ (8 - d)) → H' d p = H d p) : KeptOK qs H' KV := by
  have e : ∀ q ∈ qs, ∀ i, i < 8 → (∀ q' ∈ qs, q' / 2 ^ i ≠ sib (q / 2 ^ i)) → H' (8 - i) (sib (q / 2 ^ i)) = H (8 - i) (sib (q / 2 ^ i)) := fun q _ i hi hno => h _ _ fun q' hq' => by
    rw [show 8 - (8 - i) = i by omega]; exact Ne.symm (hno q' hq')
  refine ⟨fun k b hk => ?_, fun q hq i hi hno => ?_⟩
  · obtain ⟨q, hq, i, hi, e1, e2, e3⟩ := K.mem k b hk
    exact ⟨q, hq, i, hi, e1, by rw [e q hq i hi e3]; exact e2, e3⟩
  · rw [e q hq i hi hno]; exact K.all q hq i hi hno
theorem kids_of (x : Nat) : (2 * (x / 2) = x ∧ 2 * (x / 2) + 1 = sib x) ∨ (2 * (x / 2) = sib x ∧ 2 * (x / 2) + 1 = x) := by
  unfold sib
  rcases Nat.mod_two_eq_zero_or_one x with e | e
  · left; rw [if_pos e]; omega
  · right; rw [if_neg (by omega)]; omega
theorem up_one (q i : Nat) : q / 2 ^ (i + 1) = q / 2 ^ i / 2 := by rw [Nat.pow_succ, Nat.div_div_eq_div_mul]
/-- what lies beside the ways is as it was kept -/
theorem JRes.beside {qs : List Nat} {K V : List (Str × Bts)} {B : List Bts} {W : List (Str × Bts)} (J : JRes qs K V B W) (hq : ∀ q ∈ qs, q < 256) {q i : Nat} (hqs : q ∈ qs) (hi : i < 8) (hno : ∀ q' ∈ qs, q' / 2 ^ i ≠ sib (q / 2 ^ i)) {b : Bts} (hk : look K (pathStr (8 - i) (sib (q / 2 ^ i))) = some b) :
    look W (pathStr (8 - i) (sib (q / 2 ^ i))) = some b := by
  refine J.keep _ _ hk fun q' hq' e he h => ?_
  obtain ⟨h1, h2⟩ := path_inj2 (sib_lt (hq q hqs) hi) (by
    have := anc_lt (hq q' hq') (i := 8 - e) (by omega)
    rwa [show 8 - (8 - e) = e by omega] at this) h
  subst h1
  rw [show 8 - (8 - i) = i by omega] at h2
  exact hno q' hq' h2.symm
theorem JRes.nodeAt {qs : List Nat} {K V : List (Str × Bts)} {B : List Bts} {W : List (Str × Bts)} (J : JRes qs K V B W) {q i : Nat} (hqs : q ∈ qs) (hi : i < 8) :
    ∃ l r h, look W (pathStr (7 - i) (q / 2 ^ (i + 1))) = some h ∧ look W (pathStr (8 - i) (2 * (q / 2 ^ (i + 1)))) = some l ∧ look W (pathStr (8 - i) (2 * (q / 2 ^ (i + 1)) + 1)) = some r ∧ Hash B (l ++ r) h := by
  obtain ⟨l, r, h, a1, a2, a3, a4⟩ := J.node q hqs (7 - i) (by omega)
  rw [show 8 - (7 - i) = i + 1 by omega] at a1 a2 a3
  rw [show 7 - i + 1 = 8 - i by omega] at a2 a3
  exact ⟨l, r, h, a1, a2, a3, a4⟩
theorem Tree.nodeAt {B : List Bts} {D : List (List UInt8 × Bts)} {ℓ : Nat → Bts} {H : Nat → Nat → Bts} (T : Tree B D ℓ H) {q i : Nat} (hq : q < 256) (hi : i < 8) : Hash B (H (8 - i) (2 * (q / 2 ^ (i + 1))) ++ H (8 - i) (2 * (q / 2 ^ (i + 1)) + 1)) (H (7 - i) (q / 2 ^ (i + 1))) := by
  have h := (T.node (7 - i) (by omega) (q / 2 ^ (i + 1)) (by have := anc_lt hq (i := i + 1) (by omega); rwa [show 8 - (i + 1) = 7 - i by omega] at this)).2
  rwa [show 7 - i + 1 = 8 - i by omega] at h
/-- the same values, the same kept hashes: the tree's own hashes -/
theorem joined_same {qs : List Nat} {K V : List (Str × Bts)} {B B' : List Bts} {D : List (List UInt8 × Bts)} {ℓ : Nat → Bts} {H : Nat → Nat → Bts} {W : List (Str × Bts)} (T : Tree B D ℓ H) (J : JRes qs K V B' W) (KO : KeptOK qs H K) (hq : ∀ q ∈ qs, q < 256) (hp : B <+: B') (hn : B'.Nodup)
    (hv : ∀ q ∈ qs, look V (pathStr 8 q) = some (ℓ q)) :
    (∀ q ∈ qs, ∀ i, i ≤ 8 → look W (pathStr (8 - i) (q / 2 ^ i)) = some (H (8 - i) (q / 2 ^ i))) ∧
    (∀ q ∈ qs, ∀ i, i < 8 → look W (pathStr (8 - i) (sib (q / 2 ^ i))) = some (H (8 - i) (sib (q / 2 ^ i)))) := by
  have side : ∀ i, i < 8 → (∀ q ∈ qs, look W (pathStr (8 - i) (q / 2 ^ i)) = some (H (8 - i) (q / 2 ^ i))) → ∀ q ∈ qs, look W (pathStr (8 - i) (sib (q / 2 ^ i))) = some (H (8 - i) (sib (q / 2 ^ i))) := by
    intro i hi ih q hqs
    by_cases hs : ∃ q' ∈ qs, q' / 2 ^ i = sib (q / 2 ^ i)
    · obtain ⟨q', hq', e⟩ := hs
      rw [← e]; exact ih q' hq'
    · have hs' : ∀ q' ∈ qs, q' / 2 ^ i ≠ sib (q / 2 ^ i) := fun q' hq' e => hs ⟨q', hq', e⟩
      exact J.beside hq hqs hi hs' (KO.all q hqs i hi hs')
  have main : ∀ i, i ≤ 8 → ∀ q ∈ qs, look W (pathStr (8 - i) (q / 2 ^ i)) = some (H (8 - i) (q / 2 ^ i)) := by
    intro i
    induction i with
    | zero =>
      intro _ q hqs
      obtain ⟨v, h, a1, a2, a3⟩ := J.leaf q hqs
      rw [hv q hqs] at a1
      cases a1
      rw [Nat.pow_zero, Nat.div_one]
      rw [Hash.det hn ((T.leaf q (hq q hqs)).2.mono hp) a3]
      exact a2
    | succ i ih =>
      intro hi q hqs
      have hi' : i < 8 := by omega
      have ih' := ih (by omega)
      obtain ⟨l, r, h, a1, a2, a3, a4⟩ := J.nodeAt hqs hi'
      have t := (T.nodeAt (hq q hqs) hi').mono hp
      have hx := ih' q hqs
      have hsx := side i hi' ih' q hqs
      rw [show 8 - (i + 1) = 7 - i by omega]
      have hl : l = H (8 - i) (2 * (q / 2 ^ (i + 1))) ∧ r = H (8 - i) (2 * (q / 2 ^ (i + 1)) + 1) := by
        rw [up_one] at a2 a3 ⊢
        rcases kids_of (q / 2 ^ i) with ⟨e1, e2⟩ | ⟨e1, e2⟩
        · rw [e2] at a3 ⊢
          rw [e1] at a2 ⊢
          rw [a2] at hx; rw [a3] at hsx
          exact ⟨Option.some.inj hx, Option.some.inj hsx⟩
        · rw [e2] at a3 ⊢
          rw [e1] at a2 ⊢
          rw [a3] at hx; rw [a2] at hsx
          exact ⟨Option.some.inj hsx, Option.some.inj hx⟩
      rw [← hl.1, ← hl.2] at t
      rw [Hash.det hn t a4]
      exact a1
  exact ⟨fun q hqs i hi => main i hi q hqs, fun q hqs i hi => side i hi (main i (by omega)) q hqs⟩
theorem sib_sib (x : Nat) : sib (sib x) = x := by unfold sib; split <;> split <;> omega
theorem split32 {l r x y : Bts} (h : l ++ r = x ++ y) (hl : l.size = x.size) : l = x ∧ r = y := by
  have e := congrArg Array.toList h
  rw [Array.toList_append, Array.toList_append] at e
  have := List.append_inj e (by simpa using hl)
  exact ⟨Array.toList_inj.mp this.1, Array.toList_inj.mp this.2⟩
/-- the same root: the same hashes all the way down -/
theorem joined_down {qs : List Nat} {K V : List (Str × Bts)} {B B' : List Bts} {D : List (List UInt8 × Bts)} {ℓ : Nat → Bts} {H : Nat → Nat → Bts} {W : List (Str × Bts)} (T : Tree B D ℓ H) (J : JRes qs K V B' W) (hq : ∀ q ∈ qs, q < 256) (hp : B <+: B') (hl : B'.length < 65000)
    (hs : ∀ k b, look K k = some b → b.size = 32) (hside : ∀ q ∈ qs, ∀ i, i < 8 → (∀ q' ∈ qs, q' / 2 ^ i ≠ sib (q / 2 ^ i)) → ∃ b, look K (pathStr (8 - i) (sib (q / 2 ^ i))) = some b) (hr : look W (pathStr 0 0) = some (H 0 0)) {q : Nat} (hqs : q ∈ qs) :
    (∀ j, j ≤ 8 → look W (pathStr j (q / 2 ^ (8 - j))) = some (H j (q / 2 ^ (8 - j)))) ∧ (∀ i, i < 8 → look W (pathStr (8 - i) (sib (q / 2 ^ i))) = some (H (8 - i) (sib (q / 2 ^ i)))) := by
  have szw : ∀ q ∈ qs, ∀ i, i < 8 → ∃ b, look W (pathStr (8 - i) (q / 2 ^ i)) = some b ∧ b.size = 32 := by
    intro q hqs i hi
    rcases Nat.eq_zero_or_pos i with rfl | hpos
    · obtain ⟨v, h, _, a2, a3⟩ := J.leaf q hqs
      exact ⟨h, by rw [Nat.pow_zero, Nat.div_one]; exact a2, a3.size⟩
    · obtain ⟨l, r, h, a1, _, _, a4⟩ := J.nodeAt hqs (i := i - 1) (by omega)
      rw [show i - 1 + 1 = i by omega, show 7 - (i - 1) = 8 - i by omega] at a1
      exact ⟨h, a1, a4.size⟩
  have szs : ∀ q ∈ qs, ∀ i, i < 8 → ∃ b, look W (pathStr (8 - i) (sib (q / 2 ^ i))) = some b ∧ b.size = 32 := by
    intro q hqs i hi
    by_cases hs' : ∃ q' ∈ qs, q' / 2 ^ i = sib (q / 2 ^ i)
    · obtain ⟨q', hq', e⟩ := hs'
      rw [← e]; exact szw q' hq' i hi
    · have hs' : ∀ q' ∈ qs, q' / 2 ^ i ≠ sib (q / 2 ^ i) := fun q' hq' e => hs' ⟨q', hq', e⟩
      obtain ⟨b, hb⟩ := hside q hqs i hi hs'
      exact ⟨b, J.beside hq hqs hi hs' hb, hs _ _ hb⟩
  have step : ∀ i, i < 8 → look W (pathStr (7 - i) (q / 2 ^ (i + 1))) = some (H (7 - i) (q / 2 ^ (i + 1))) → look W (pathStr (8 - i) (q / 2 ^ i)) = some (H (8 - i) (q / 2 ^ i)) ∧ look W (pathStr (8 - i) (sib (q / 2 ^ i))) = some (H (8 - i) (sib (q / 2 ^ i))) := by
    intro i hi h0
    obtain ⟨l, r, h, a1, a2, a3, a4⟩ := J.nodeAt hqs hi
    have t := (T.nodeAt (hq q hqs) hi).mono hp
    rw [h0] at a1
    have e := Option.some.inj a1
    rw [← e] at a4
    have hh := Hash.inj hl a4 t
    obtain ⟨b1, c1, c2⟩ := szw q hqs i hi
    obtain ⟨b2, d1, d2⟩ := szs q hqs i hi
    have hx : q / 2 ^ i < 2 ^ (8 - i) := anc_lt (hq q hqs) (by omega)
    have s1 := T.size (d := 8 - i) (q := q / 2 ^ i) (by omega) hx
    have s2 := T.size (d := 8 - i) (q := sib (q / 2 ^ i)) (by omega) (sib_lt (hq q hqs) hi)
    rw [up_one] at a2 a3 hh
    rcases kids_of (q / 2 ^ i) with ⟨e1, e2⟩ | ⟨e1, e2⟩
    · rw [e2] at a3 hh
      rw [e1] at a2 hh
      have hl32 : l.size = 32 := by rw [a2] at c1; rw [Option.some.inj c1]; exact c2
      obtain ⟨g1, g2⟩ := split32 hh (by rw [hl32, s1])
      rw [a2, a3, g1, g2]
      exact ⟨rfl, rfl⟩
    · rw [e2] at a3 hh
      rw [e1] at a2 hh
      have hl32 : l.size = 32 := by rw [a2] at d1; rw [Option.some.inj d1]; exact d2
      obtain ⟨g1, g2⟩ := split32 hh (by rw [hl32, s2])
      rw [a2, a3, g1, g2]
      exact ⟨rfl, rfl⟩
  have main : ∀ j, j ≤ 8 → look W (pathStr j (q / 2 ^ (8 - j))) = some (H j (q / 2 ^ (8 - j))) := by
    intro j
    induction j with
    | zero =>
      intro _
      rw [show q / 2 ^ (8 - 0) = 0 from Nat.div_eq_of_lt (hq q hqs)]
      exact hr
    | succ j ih =>
      intro hj
      have := (step (7 - j) (by omega) (by
        have h := ih (by omega)
        rw [show 7 - (7 - j) = j by omega, show 7 - j + 1 = 8 - j by omega]; exact h)).1
      rw [show 8 - (7 - j) = j + 1 by omega] at this
      rw [show 8 - (j + 1) = 7 - j by omega]; exact this
  refine ⟨main, fun i hi => (step i hi ?_).2⟩
  have := main (7 - i) (by omega)
  rwa [show 8 - (7 - i) = i + 1 by omega] at this
theorem root_of {qs : List Nat} {K V : List (Str × Bts)} {B : List Bts} {W : List (Str × Bts)} (J : JRes qs K V B W) (hq : ∀ q ∈ qs, q < 256) {q : Nat} (hqs : q ∈ qs) : ∃ h, look W (pathStr 0 0) = some h := by
  obtain ⟨l, r, h, a1, _⟩ := J.node q hqs 0 (by omega)
  rw [show q / 2 ^ (8 - 0) = 0 from Nat.div_eq_of_lt (hq q hqs)] at a1
  exact ⟨h, a1⟩
theorem KeptOK.size {qs : List Nat} {K : List (Str × Bts)} {B : List Bts} {D : List (List UInt8 × Bts)} {ℓ : Nat → Bts} {H : Nat → Nat → Bts} (KO : KeptOK qs H K) (T : Tree B D ℓ H) (hq : ∀ q ∈ qs, q < 256) {k : Str} {b : Bts} (hk : look K k = some b) : b.size = 32 := by
  obtain ⟨q, hqs, i, hi, _, rfl, _⟩ := KO.mem k b hk
  exact T.size (by omega) (sib_lt (hq q hqs) hi)
/-- another value at a key: another root -/
theorem joined_other {qs : List Nat} {K V : List (Str × Bts)} {B B' : List Bts} {D : List (List UInt8 × Bts)} {ℓ : Nat → Bts} {H : Nat → Nat → Bts} {W : List (Str × Bts)} (T : Tree B D ℓ H) (J : JRes qs K V B' W) (KO : KeptOK qs H K) (hq : ∀ q ∈ qs, q < 256) (hp : B <+: B') (hl : B'.length < 65000)
    {q : Nat} (hqs : q ∈ qs) {v : Bts} (hv : look V (pathStr 8 q) = some v) (hne : v ≠ ℓ q) {h : Bts} (hr : look W (pathStr 0 0) = some h) : h ≠ H 0 0 := by
  rintro rfl
  have := (joined_down T J hq hp hl (fun k b hk => KO.size T hq hk) (fun q hqs i hi hno => ⟨_, KO.all q hqs i hi hno⟩) hr hqs).1 8 (by omega)
  rw [Nat.sub_self, Nat.pow_zero, Nat.div_one] at this
  obtain ⟨v', h, a1, a2, a3⟩ := J.leaf q hqs
  rw [hv] at a1
  cases a1
  rw [this] at a2
  cases a2
  exact hne (Hash.inj hl a3 ((T.leaf q (hq q hqs)).2.mono hp))
/-- another hash at a kept place: another root -/
theorem joined_kept {qs : List Nat} {K K' V : List (Str × Bts)} {B B' : List Bts} {D : List (List UInt8 × Bts)} {ℓ : Nat → Bts} {H : Nat → Nat → Bts} {W : List (Str × Bts)} (T : Tree B D ℓ H) (J : JRes qs K' V B' W) (KO : KeptOK qs H K) (hq : ∀ q ∈ qs, q < 256) (hp : B <+: B') (hl : B'.length < 65000)
    {k0 : Str} {b0 hO t : Bts} (hk0 : look K k0 = some b0) (hK' : ∀ k, look K' k = if k0 = k then some hO else look K k) (hO' : Hash B' t hO) (h5 : t.size = 5) (hsm : ∀ q, (ℓ q).size < 5) {h : Bts} (hr : look W (pathStr 0 0) = some h) : h ≠ H 0 0 := by
  rintro rfl
  obtain ⟨q, hqs, i, hi, rfl, -, hno⟩ := KO.mem k0 b0 hk0
  have d := (joined_down T J hq hp hl (fun k b hk => by
    rw [hK'] at hk
    split at hk
    · cases hk; exact hO'.size
    · exact KO.size T hq hk) (fun q hqs i hi hno => by
      rw [hK']
      split
      · exact ⟨_, rfl⟩
      · exact ⟨_, KO.all q hqs i hi hno⟩) hr hqs).2 i hi
  have e := J.beside hq hqs hi hno (b := hO) (by rw [hK', if_pos rfl])
  rw [e] at d
  have e2 := Option.some.inj d
  subst e2
  rcases Nat.eq_zero_or_pos i with rfl | hpos
  · have hx := sib_lt (hq q hqs) (i := 0) (by omega)
    have := Hash.inj hl hO' ((T.leaf _ hx).2.mono hp)
    have hs := hsm (sib (q / 2 ^ 0))
    rw [← this] at hs
    omega
  · have hx := sib_lt (hq q hqs) hi
    have tn := (T.node (8 - i) (by omega) _ hx).2.mono hp
    have := Hash.inj hl hO' tn
    have s1 := T.size (d := 8 - i + 1) (q := 2 * sib (q / 2 ^ i)) (by omega) (by rw [Nat.pow_succ]; omega)
    rw [this, Array.size_append, s1] at h5
    omega
end Mine
end
section
theorem Mine.offLs : True := by w_top off; trivial
open PySem PySem.W PyProof.Rows PySem.Calls
set_option Elab.async false
set_option maxRecDepth 100000
set_option maxHeartbeats 2000000
set_option linter.unusedSimpArgs false
set_option linter.unusedSectionVars false
set_option linter.unusedVariables false
namespace Mine
/-! the law's frame and ledger between its statements -/
def fnScope : Stmt → Scope
  | .FunctionDef _ _ _ _ _ _ s _ _ _ => s
  | _ => default
def lawScope : Scope := fnScope ((PySem.Challenge.pw_bs0043_01.main.body.drop 18).headD (.Pass default))
def lawSeg (i n : Nat) : List Stmt := (lawB.drop i).take n
abbrev lawCl (L : Addr) : List (Str × Addr) := cellsFrom (L + 1) lawScope.names []
theorem lawCl_eq (L : Addr) : lawCl L = [(Str.ofString "book", L + 1 + 1 + 1 + 1 + 1 + 1 + 1 + 1), (Str.ofString "last", L + 1 + 1 + 1 + 1 + 1 + 1 + 1), (Str.ofString "known", L + 1 + 1 + 1 + 1 + 1 + 1), (Str.ofString "place", L + 1 + 1 + 1 + 1 + 1), (Str.ofString "seen", L + 1 + 1 + 1 + 1), (Str.ofString "keys", L + 1 + 1 + 1), (Str.ofString "held", L + 1 + 1), (Str.ofString "tree", L + 1)] := rfl
abbrev lawN : Str := Str.ofString "law"
/-- the addresses, in the order in which they were made -/
structure Adr (L xs st bk cod hof td tr db he : Addr) : Prop where
  a0 : @LT.lt Nat _ 198 L
  a1 : @LT.lt Nat _ (L + 8) xs
  a2 : @LT.lt Nat _ xs st
  a3 : @LT.lt Nat _ st bk
  a4 : @LT.lt Nat _ bk cod
  a5 : @LT.lt Nat _ cod hof
  a6 : @LT.lt Nat _ hof td
  a7 : @LT.lt Nat _ td tr
  a8 : @LT.lt Nat _ tr db
  a9 : @LT.lt Nat _ db he
structure LSt (prog : Program) (w : World) (p : Program) (loose : List Str) (mean : ExcName → Option Value) (mg mb : Str → Option Value) (L xs st bk cod hof td tr db he : Addr) (led : List (Addr × Obj)) (B : List Bts) (D : List (List UInt8 × Bts)) (ℓ : Nat → Bts) (H : Nat → Nat → Bts) (nB : Nat) : Prop where
  state : ∃ i c t1 t2 n, (st, stO xs i c t1 t2 n) ∈ led ∧ 0 ≤ i ∧ 0 ≤ c ∧ c < 2147483647
  xsL : ∃ vs ns n, (xs, PySem.W.listOf vs.toArray n) ∈ led ∧ IntsAre vs ns ∧ ns.length ≤ 40
  book : ∃ ob, (bk, ob) ∈ led ∧ Book prog w ob B
  tdb : ∃ od, (db, od) ∈ led ∧ DB (bytesKind prog w) od D
  tree : ∃ otd, (td, otd) ∈ led ∧ IsTD w.params otd hof db (H 0 0)
  inst : (tr, instObj 168 td) ∈ led
  T : Tree B D ℓ H
  hash : ∃ nm ql ps bd sc clo pm ctv oc oco, (hof, kla_obj nm ql ps bd sc clo pm cod ctv) ∈ led ∧ (L + 8, oc) ∈ led ∧ (cod, oco) ∈ led ∧ NotDict oc ∧ NotDict oco ∧ HashC prog w p loose mean mg mb hof bk (L + 8) cod (kla_obj nm ql ps bd sc clo pm cod ctv) oc oco
  c1 : ∃ o, (L + 1, o) ∈ led ∧ o.data = .cell (some (.ref tr))
  c2 : ∃ o, (L + 1 + 1, o) ∈ led ∧ o.data = .cell (some (.ref he))
  c3 : ∃ o v, (L + 1 + 1 + 1, o) ∈ led ∧ o.data = .cell v
  c4 : ∃ o v, (L + 1 + 1 + 1 + 1, o) ∈ led ∧ o.data = .cell v
  c5 : ∃ o v, (L + 1 + 1 + 1 + 1 + 1, o) ∈ led ∧ o.data = .cell v
  c6 : ∃ o v, (L + 1 + 1 + 1 + 1 + 1 + 1, o) ∈ led ∧ o.data = .cell v
  c7 : ∃ o v, (L + 1 + 1 + 1 + 1 + 1 + 1 + 1, o) ∈ led ∧ o.data = .cell v
  tab : ∃ ps, (198, tabObj ps) ∈ led
  lim : B.length ≤ nB ∧ D.length ≤ nB
  small : ∀ q, (ℓ q).size < 5
theorem news_out {h₀ h : Heap} {L d : Addr} {o : Obj} {l : List (Addr × Obj)} (N : News h₀ L h l) (hm : (d, o) ∈ l) : News h₀ L h ((d, o) :: less d l) := news_lessIn N hm
theorem in_less {d a : Addr} {o : Obj} {l : List (Addr × Obj)} (hm : (a, o) ∈ l) (h : @Ne Nat a d) : (a, o) ∈ less d l := less_mem.mpr ⟨hm, h⟩
theorem less_off {d : Addr} {l : List (Addr × Obj)} : ∀ p ∈ less d l, p.1 ≠ d := less_ne
theorem less_off2 {d e : Addr} {l : List (Addr × Obj)} (h : ∀ p ∈ l, p.1 ≠ e) : ∀ p ∈ less d l, p.1 ≠ e := fun p hp => h p (less_mem.mp hp).1
theorem out4 {h₀ h : Heap} {L a b c d : Addr} {oa ob oc od : Obj} {l : List (Addr × Obj)} (N : News h₀ L h l) (ma : (a, oa) ∈ l) (mb : (b, ob) ∈ l) (mc : (c, oc) ∈ l) (md : (d, od) ∈ l) :
    News h₀ L h ((a, oa) :: (b, ob) :: (c, oc) :: (d, od) :: less d (less c (less b (less a l)))) := fun p hp => by
  rcases List.mem_cons.mp hp with rfl | hp
  · exact N _ ma
  · rcases List.mem_cons.mp hp with rfl | hp
    · exact N _ mb
    · rcases List.mem_cons.mp hp with rfl | hp
      · exact N _ mc
      · rcases List.mem_cons.mp hp with rfl | hp
        · exact N _ md
        · exact N _ (less_mem.mp (less_mem.mp (less_mem.mp (less_mem.mp hp).1).1).1).1
/-- the part of the ledger that stays while the state, the book and the tree's own two dicts change -/
structure LRest (prog : Program) (w : World) (p : Program) (loose : List Str) (mean : ExcName → Option Value) (mg mb : Str → Option Value) (L xs st bk cod hof td tr db he : Addr) (rest : List (Addr × Obj)) : Prop where
  xsL : ∃ vs ns n, (xs, PySem.W.listOf vs.toArray n) ∈ rest ∧ IntsAre vs ns ∧ ns.length ≤ 40
  inst : (tr, instObj 168 td) ∈ rest
  hash : ∃ nm ql ps bd sc clo pm ctv oc oco, (hof, kla_obj nm ql ps bd sc clo pm cod ctv) ∈ rest ∧ (L + 8, oc) ∈ rest ∧ (cod, oco) ∈ rest ∧ NotDict oc ∧ NotDict oco ∧ HashC prog w p loose mean mg mb hof bk (L + 8) cod (kla_obj nm ql ps bd sc clo pm cod ctv) oc oco
  c1 : ∃ o, (L + 1, o) ∈ rest ∧ o.data = .cell (some (.ref tr))
  c2 : ∃ o, (L + 1 + 1, o) ∈ rest ∧ o.data = .cell (some (.ref he))
  c3 : ∃ o v, (L + 1 + 1 + 1, o) ∈ rest ∧ o.data = .cell v
  c4 : ∃ o v, (L + 1 + 1 + 1 + 1, o) ∈ rest ∧ o.data = .cell v
  c5 : ∃ o v, (L + 1 + 1 + 1 + 1 + 1, o) ∈ rest ∧ o.data = .cell v
  c6 : ∃ o v, (L + 1 + 1 + 1 + 1 + 1 + 1, o) ∈ rest ∧ o.data = .cell v
  c7 : ∃ o v, (L + 1 + 1 + 1 + 1 + 1 + 1 + 1, o) ∈ rest ∧ o.data = .cell v
  tab : ∃ ps, (198, tabObj ps) ∈ rest
  off : ∀ q ∈ rest, q.1 ≠ st ∧ q.1 ≠ bk ∧ q.1 ≠ db ∧ q.1 ≠ td
section
variable {prog : Program} {w : World} {p : Program} {loose : List Str} {mean : ExcName → Option Value} {mg mb : Str → Option Value} {L xs st bk cod hof td tr db he : Addr} {led : List (Addr × Obj)} {B : List Bts} {D : List (List UInt8 × Bts)} {ℓ : Nat → Bts} {H : Nat → Nat → Bts} {nB : Nat} {h₀ h : Heap}
theorem Adr.ne4 (AD : Adr L xs st bk cod hof td tr db he) : @Ne Nat st bk ∧ @Ne Nat st db ∧ @Ne Nat st td ∧ @Ne Nat bk db ∧ @Ne Nat bk td ∧ @Ne Nat db td := by
  obtain ⟨a0, a1, a2, a3, a4, a5, a6, a7, a8, a9⟩ := AD
  refine ⟨?_, ?_, ?_, ?_, ?_, ?_⟩ <;> omega
theorem Adr.he4 (AD : Adr L xs st bk cod hof td tr db he) : @Ne Nat he st ∧ @Ne Nat he bk ∧ @Ne Nat he db ∧ @Ne Nat he td ∧ @Ne Nat xs he ∧ @Ne Nat tr he ∧ @Ne Nat hof he ∧ @Ne Nat cod he := by
  obtain ⟨a0, a1, a2, a3, a4, a5, a6, a7, a8, a9⟩ := AD
  refine ⟨?_, ?_, ?_, ?_, ?_, ?_, ?_, ?_⟩ <;> omega
theorem Adr.low (AD : Adr L xs st bk cod hof td tr db he) : @LT.lt Nat _ (L + 8) st ∧ @LT.lt Nat _ (L + 8) bk ∧ @LT.lt Nat _ (L + 8) db ∧ @LT.lt Nat _ (L + 8) td ∧ @LT.lt Nat _ (L + 8) he ∧ @LT.lt Nat _ (L + 8) tr ∧ @LT.lt Nat _ (L + 8) hof ∧ @LT.lt Nat _ (L + 8) cod := by
  obtain ⟨a0, a1, a2, a3, a4, a5, a6, a7, a8, a9⟩ := AD
  refine ⟨?_, ?_, ?_, ?_, ?_, ?_, ?_, ?_⟩ <;> omega
theorem LSt.open4 (AD : Adr L xs st bk cod hof td tr db he) (S : LSt prog w p loose mean mg mb L xs st bk cod hof td tr db he led B D ℓ H nB) (N : News h₀ L h led) :
    ∃ rest i c t1 t2 n ob od otd, News h₀ L h ((st, stO xs i c t1 t2 n) :: (bk, ob) :: (db, od) :: (td, otd) :: rest) ∧ 0 ≤ i ∧ 0 ≤ c ∧ c < 2147483647 ∧ Book prog w ob B ∧ DB (bytesKind prog w) od D ∧ IsTD w.params otd hof db (H 0 0) ∧
      LRest prog w p loose mean mg mb L xs st bk cod hof td tr db he rest ∧ (∀ a o, (a, o) ∈ led → a ≠ st → a ≠ bk → a ≠ db → a ≠ td → (a, o) ∈ rest) ∧ (∀ q ∈ rest, q ∈ led) := by
  obtain ⟨a0, a1, a2, a3, a4, a5, a6, a7, a8, a9⟩ := AD
  obtain ⟨i, c, t1, t2, n, m1, i0, c0, c1'⟩ := S.state
  obtain ⟨ob, m2, hB⟩ := S.book
  obtain ⟨od, m3, hD⟩ := S.tdb
  obtain ⟨otd, m4, hT⟩ := S.tree
  have inr : ∀ {a : Addr} {o : Obj}, (a, o) ∈ led → @Ne Nat a st → @Ne Nat a bk → @Ne Nat a db → @Ne Nat a td → (a, o) ∈ less td (less db (less bk (less st led))) := fun hm h1 h2 h3 h4 => in_less (in_less (in_less (in_less hm h1) h2) h3) h4
  refine ⟨less td (less db (less bk (less st led))), i, c, t1, t2, n, ob, od, otd, out4 N m1 m2 m3 m4, i0, c0, c1', hB, hD, hT, ?_, fun a o hm h1 h2 h3 h4 => inr hm h1 h2 h3 h4, fun q hq => (less_mem.mp (less_mem.mp (less_mem.mp (less_mem.mp hq).1).1).1).1⟩
  obtain ⟨vs, ns, nx, mx, hx1, hx2⟩ := S.xsL
  obtain ⟨nm, ql, ps, bd, sc, clo, pm, ctv, oc, oco, mh, mc, mo, k1, k2, HC⟩ := S.hash
  obtain ⟨o1, n1, d1⟩ := S.c1
  obtain ⟨o2, n2, d2⟩ := S.c2
  obtain ⟨o3, v3, n3, d3⟩ := S.c3
  obtain ⟨o4, v4, n4, d4⟩ := S.c4
  obtain ⟨o5, v5, n5, d5⟩ := S.c5
  obtain ⟨o6, v6, n6, d6⟩ := S.c6
  obtain ⟨o7, v7, n7, d7⟩ := S.c7
  obtain ⟨ps', mt⟩ := S.tab
  refine ⟨⟨vs, ns, nx, inr mx ?_ ?_ ?_ ?_, hx1, hx2⟩, inr S.inst ?_ ?_ ?_ ?_, ⟨nm, ql, ps, bd, sc, clo, pm, ctv, oc, oco, inr mh ?_ ?_ ?_ ?_, inr mc ?_ ?_ ?_ ?_, inr mo ?_ ?_ ?_ ?_, k1, k2, HC⟩, ⟨o1, inr n1 ?_ ?_ ?_ ?_, d1⟩, ⟨o2, inr n2 ?_ ?_ ?_ ?_, d2⟩, ⟨o3, v3, inr n3 ?_ ?_ ?_ ?_, d3⟩, ⟨o4, v4, inr n4 ?_ ?_ ?_ ?_, d4⟩, ⟨o5, v5, inr n5 ?_ ?_ ?_ ?_, d5⟩, ⟨o6, v6, inr n6 ?_ ?_ ?_ ?_, d6⟩, ⟨o7, v7, inr n7 ?_ ?_ ?_ ?_, d7⟩, ⟨ps', inr mt ?_ ?_ ?_ ?_⟩, fun q hq => ?_⟩
  all_goals first | omega | skip
  exact ⟨(less_mem.mp (less_mem.mp (less_mem.mp (less_mem.mp hq).1).1).1).2, (less_mem.mp (less_mem.mp (less_mem.mp hq).1).1).2, (less_mem.mp (less_mem.mp hq).1).2, (less_mem.mp hq).2⟩
theorem LRest.close {rest : List (Addr × Obj)} (R : LRest prog w p loose mean mg mb L xs st bk cod hof td tr db he rest) (hl : ∀ q ∈ rest, q ∈ led) {i c : Int} {t1 t2 : Tok} {n : Nat} {ob od otd : Obj}
    (m1 : (st, stO xs i c t1 t2 n) ∈ led) (m2 : (bk, ob) ∈ led) (m3 : (db, od) ∈ led) (m4 : (td, otd) ∈ led) (i0 : 0 ≤ i) (c0 : 0 ≤ c) (c1 : c < 2147483647) (hB : Book prog w ob B) (hD : DB (bytesKind prog w) od D) (hT : IsTD w.params otd hof db (H 0 0)) (T : Tree B D ℓ H) (l1 : B.length ≤ nB) (l2 : D.length ≤ nB) (hs : ∀ q, (ℓ q).size < 5) :
    LSt prog w p loose mean mg mb L xs st bk cod hof td tr db he led B D ℓ H nB := by
  obtain ⟨vs, ns, nx, mx, hx1, hx2⟩ := R.xsL
  obtain ⟨nm, ql, ps, bd, sc, clo, pm, ctv, oc, oco, mh, mc, mo, k1, k2, HC⟩ := R.hash
  obtain ⟨o1, n1, d1⟩ := R.c1
  obtain ⟨o2, n2, d2⟩ := R.c2
  obtain ⟨o3, v3, n3, d3⟩ := R.c3
  obtain ⟨o4, v4, n4, d4⟩ := R.c4
  obtain ⟨o5, v5, n5, d5⟩ := R.c5
  obtain ⟨o6, v6, n6, d6⟩ := R.c6
  obtain ⟨o7, v7, n7, d7⟩ := R.c7
  obtain ⟨ps', mt⟩ := R.tab
  exact ⟨⟨i, c, t1, t2, n, m1, i0, c0, c1⟩, ⟨vs, ns, nx, hl _ mx, hx1, hx2⟩, ⟨ob, m2, hB⟩, ⟨od, m3, hD⟩, ⟨otd, m4, hT⟩, hl _ R.inst, T, ⟨nm, ql, ps, bd, sc, clo, pm, ctv, oc, oco, hl _ mh, hl _ mc, hl _ mo, k1, k2, HC⟩, ⟨o1, hl _ n1, d1⟩, ⟨o2, hl _ n2, d2⟩, ⟨o3, v3, hl _ n3, d3⟩, ⟨o4, v4, hl _ n4, d4⟩, ⟨o5, v5, hl _ n5, d5⟩, ⟨o6, v6, hl _ n6, d6⟩, ⟨o7, v7, hl _ n7, d7⟩, ⟨ps', hl _ mt⟩, ⟨l1, l2⟩, hs⟩
/-- one object of the rest, taken out and changed -/
theorem LRest.put {rest : List (Addr × Obj)} {d : Addr} {o' : Obj} (R : LRest prog w p loose mean mg mb L xs st bk cod hof td tr db he rest) (hx : @Ne Nat xs d) (ht : @Ne Nat tr d) (hh : @Ne Nat hof d) (hc : @Ne Nat cod d) (h8 : @Ne Nat (L + 8) d) (h1 : @Ne Nat (L + 1) d) (h2 : @Ne Nat (L + 2) d) (h198 : @Ne Nat 198 d)
    (hd : @Eq Nat (L + 3) d ∨ @Eq Nat (L + 4) d ∨ @Eq Nat (L + 5) d ∨ @Eq Nat (L + 6) d ∨ @Eq Nat (L + 7) d → ∃ v, o'.data = .cell v) (hn : d ≠ st ∧ d ≠ bk ∧ d ≠ db ∧ d ≠ td) :
    LRest prog w p loose mean mg mb L xs st bk cod hof td tr db he ((d, o') :: less d rest) := by
  have inr : ∀ {a : Addr} {o : Obj}, (a, o) ∈ rest → @Ne Nat a d → (a, o) ∈ (d, o') :: less d rest := fun hm h => .tail _ (in_less hm h)
  obtain ⟨vs, ns, nx, mx, hx1, hx2⟩ := R.xsL
  obtain ⟨nm, ql, ps, bd, sc, clo, pm, ctv, oc, oco, mh, mc, mo, k1, k2, HC⟩ := R.hash
  obtain ⟨o1, n1, d1⟩ := R.c1
  obtain ⟨o2, n2, d2⟩ := R.c2
  obtain ⟨ps', mt⟩ := R.tab
  have cell : ∀ {a : Addr}, (@Eq Nat a d → ∃ v, o'.data = .cell v) → (∃ o v, (a, o) ∈ rest ∧ o.data = .cell v) → ∃ o v, (a, o) ∈ (d, o') :: less d rest ∧ o.data = .cell v := fun {a} he' ⟨o, v, hm, hv⟩ => by
    by_cases e : @Eq Nat a d
    · obtain ⟨v', hv'⟩ := he' e
      have e' : a = d := e
      subst e'
      exact ⟨o', v', .head _, hv'⟩
    · exact ⟨o, v, inr hm e, hv⟩
  refine ⟨⟨vs, ns, nx, inr mx hx, hx1, hx2⟩, inr R.inst ht, ⟨nm, ql, ps, bd, sc, clo, pm, ctv, oc, oco, inr mh hh, inr mc h8, inr mo hc, k1, k2, HC⟩, ⟨o1, inr n1 h1, d1⟩, ⟨o2, inr n2 h2, d2⟩, cell (fun e => hd (.inl e)) R.c3, cell (fun e => hd (.inr (.inl e))) R.c4, cell (fun e => hd (.inr (.inr (.inl e)))) R.c5, cell (fun e => hd (.inr (.inr (.inr (.inl e))))) R.c6, cell (fun e => hd (.inr (.inr (.inr (.inr e))))) R.c7, ⟨ps', inr mt h198⟩, fun q hq => ?_⟩
  rcases List.mem_cons.mp hq with rfl | hq
  · exact hn
  · exact R.off q (less_mem.mp hq).1
/-- an object of the law's own, later than the tree's -/
theorem LRest.putNew (AD : Adr L xs st bk cod hof td tr db he) {rest : List (Addr × Obj)} {d : Addr} {o' : Obj} (R : LRest prog w p loose mean mg mb L xs st bk cod hof td tr db he rest) (hd : @LT.lt Nat _ db d) :
    LRest prog w p loose mean mg mb L xs st bk cod hof td tr db he ((d, o') :: less d rest) := by
  obtain ⟨a0, a1, a2, a3, a4, a5, a6, a7, a8, a9⟩ := AD
  have z1 : @LT.lt Nat _ st d := by omega
  have z2 : @LT.lt Nat _ bk d := by omega
  have z3 : @LT.lt Nat _ td d := by omega
  refine R.put ?_ ?_ ?_ ?_ ?_ ?_ ?_ ?_ (fun h => ?_) ⟨Nat.ne_of_gt z1, Nat.ne_of_gt z2, Nat.ne_of_gt hd, Nat.ne_of_gt z3⟩
  all_goals first | omega | skip
/-- a cell of the law's frame -/
theorem LRest.putCell (AD : Adr L xs st bk cod hof td tr db he) {rest : List (Addr × Obj)} {d : Addr} {o' : Obj} {v : Option Value} (R : LRest prog w p loose mean mg mb L xs st bk cod hof td tr db he rest) (h1 : @LT.lt Nat _ (L + 2) d) (h2 : @LT.lt Nat _ d (L + 8)) (hv : o'.data = .cell v) :
    LRest prog w p loose mean mg mb L xs st bk cod hof td tr db he ((d, o') :: less d rest) := by
  obtain ⟨a0, a1, a2, a3, a4, a5, a6, a7, a8, a9⟩ := AD
  have z1 : @LT.lt Nat _ d st := by omega
  have z2 : @LT.lt Nat _ d bk := by omega
  have z3 : @LT.lt Nat _ d td := by omega
  have z4 : @LT.lt Nat _ d db := by omega
  refine R.put ?_ ?_ ?_ ?_ ?_ ?_ ?_ ?_ (fun h => ⟨v, hv⟩) ⟨Nat.ne_of_lt z1, Nat.ne_of_lt z2, Nat.ne_of_lt z4, Nat.ne_of_lt z3⟩
  all_goals first | omega | skip
end
end Mine
end
section
theorem Mine.offLr : True := by w_top off; trivial
open PySem PySem.W PyProof.Rows PySem.Calls
set_option Elab.async false
set_option maxRecDepth 100000
set_option maxHeartbeats 2000000
set_option linter.unusedSimpArgs false
set_option linter.unusedSectionVars false
set_option linter.unusedVariables false
namespace Mine
/-! rules for the law's own steps -/
section
variable {prog : Program} {w : World} {A : Around} {E : Value → Shared → Prop} {s : Shared}
theorem mulB {b : UInt8} {v : Nat} {t u : Tok} {Q : Value → Shared → Prop} (hv : v < 10) (h : ∀ (val : Bts) t' k, val.size = 1 + v → Q (.bytes val t') { s with toks := k }) :
    wpAny (model prog w) A (binaryOp .Mult (.bytes [b].toArray t) (.int (1 + (v : Int)) u)) Q E s := by
  refine bytes_mul_any (List.cons_ne_nil _ _) (by omega) (by omega) (by simp) fun t' k => h _ t' k ?_
  rw [show (1 + (v : Int)).toNat = 1 + v by omega]
  simp
theorem key1 {x : Int} (h : ((Nat.toUInt8 (Int.toNat x)).toNat : Int) = x) : KBw.bInts (List.toArray [Nat.toUInt8 (Int.toNat x)]) = [x] := by
  show [((Nat.toUInt8 (Int.toNat x)).toNat : Int)] = [x]
  rw [h]
end
theorem all_cons {a d : Addr} {o : Obj} {r : List (Addr × Obj)} (h : @Ne Nat a d) (hr : ∀ q ∈ r, q.1 ≠ d) : ∀ q ∈ (a, o) :: r, q.1 ≠ d := fun q hq => by
  rcases List.mem_cons.mp hq with rfl | hq
  · exact h
  · exact hr q hq
theorem set_use {prog : Program} {w : World} {p : Program} {loose : List Str} {mean : ExcName → Option Value} {mg mb : Str → Option Value}
    (dp un : Nat) (gd : Option (List Code)) (cn : Str) (cs : Scope) (a : Addr) (ccd : Value) (cl : List (Str × Addr)) (outer : List Env) (A₀ : Around) (base h₀ : Heap) (L : Addr) (m : Str → Option Value) (s : Shared) (Q E : Value → Shared → Prop)
    {news : List (Addr × Obj)} {g1 : Obj → List (Addr × Obj)} {g2 : Obj → Obj → List (Addr × Obj)} {g3 : Obj → Obj → Obj → List (Addr × Obj)} {tr td db hof bk bkc cod : Addr} {od otd ob oc oco : Obj} {root key val : Bts} {tkk tkv : Tok} {q : Nat} {B : List Bts} {D : List (List UInt8 × Bts)} {ℓ : Nat → Bts} {H : Nat → Nat → Bts}
    {nm ql : Str} {ps : Arguments} {bd : PySem.Expr} {sc : Scope} {clo : List (Str × Addr)} {pm ctv : Value}
    (HC : HashC prog w p loose mean mg mb hof bk bkc cod (kla_obj nm ql ps bd sc clo pm cod ctv) oc oco) (mt : (tr, instObj 168 td) ∈ news) (md : (td, otd) ∈ news) (hT : IsTD w.params otd hof db root)
    (Bl : Below A₀ base outer h₀) (F : Fr h₀ L s.heap m) (X : (Mine.hd.heap_39 w.params).In h₀) (N : News h₀ L s.heap news) (T : Top p loose mean mg mb h₀) (hk : cs.kind = .function) (hd : dp + 6 < recursionLimit) (hu : un + 40 < cLine)
    (U1 : UpdF bk ob news g1) (U2 : ∀ o1, UpdF db od (g1 o1) (g2 o1)) (U3 : ∀ o1 o2, UpdF td otd (g2 o1 o2) (g3 o1 o2))
    (mh : (hof, kla_obj nm ql ps bd sc clo pm cod ctv) ∈ news) (mc : (bkc, oc) ∈ news) (mo : (cod, oco) ∈ news) (hoc : NotDict oc) (hoco : NotDict oco)
    (hB : Book prog w ob B) (hD : DB (bytesKind prog w) od D) (Tr : Tree B D ℓ H) (hroot : root = H 0 0) (hkey : KBw.bInts key = [(q : Int)]) (hq : q < 256) (hBl : B.length < 50000) (hDl : D.length < 500000) (hval : 0 < val.size ∧ val.size < 60)
    (hret : ∀ (tp : Addr) (vs : List Value) (ob' od' otd' : Obj) (B' : List Bts) (D' : List (List UInt8 × Bts)) (H' : Nat → Nat → Bts) (h' : Heap) (tk' : Nat), BytesAre vs (pathOf H' q) → Book prog w ob' B' → DB (bytesKind prog w) od' D' → B <+: B' → B'.length ≤ B.length + 9 → D'.length ≤ D.length + 9 → IsTD w.params otd' hof db (H' 0 0) → Tree B' D' (upd ℓ q val) H' →
      (∀ d p, p ≠ q / 2 ^ (8 - d) → H' d p = H d p) → Fr h₀ L h' m → News h₀ L h' ((tp, tupO vs) :: g3 ob' od' otd') → (∀ q ∈ news, q.1 < tp) → Q (.ref tp) { s with heap := h', toks := tk' }) :
    wpAny (model prog w) (ktrTop dp un gd cn cs L a ccd cl outer) (call (.ref 123) [.ref tr, .bytes key tkk, .bytes val tkv]) Q E s :=
  setI_ok dp un gd cn cs a ccd cl outer A₀ base h₀ L m s Q E Bl F X N T hk hd hu U1 U2 U3 mt mh mc mo hoc hoco HC hT hB hD Tr hroot hq hkey hBl hDl hval hret
theorem notin_ints {prog : Program} {w : World} {A : Around} {E : Value → Shared → Prop} {s : Shared} {h₀ : Heap} {L l : Addr} {news : List (Addr × Obj)} {vs : List Value} {ns : List Int} {n : Nat} {z : Int} {t : Tok} {Q : Value → Shared → Prop} (N : News h₀ L s.heap news) (hm : (l, PySem.W.listOf vs.toArray n) ∈ news) (hi : IntsAre vs ns) (h : Q (.bool (!decide (z ∈ ns))) s) :
    wpAny (model prog w) A (compareOp .NotIn (.int z t) (.ref l)) Q E s := by
  refine SeqAt.notIn_listAt (isInt z) (list_in N hm) (fun y hy => (eq_isInt z t hi y (by simpa using hy)).at _ _) ?_
  have e : vs.toArray.any (isInt z) = decide (z ∈ ns) := by
    have key : ∀ {vs : List Value} {ns : List Int}, IntsAre vs ns → vs.any (isInt z) = decide (z ∈ ns) := by
      intro vs ns hi
      induction hi with
      | nil => simp
      | cons k t r ih =>
        rw [List.any_cons, ih]
        by_cases hk : k = z
        · subst hk; simp [isInt]
        · have hk' : ¬ z = k := fun e => hk e.symm
          simp [isInt, hk, hk']
    have := key hi
    simpa using this
  rw [e]; exact h
theorem take_cast (ns : List Nat) (i : Nat) : List.take (Int.toNat (i : Int)) (ns.map fun q : Nat => (q : Int)) = (ns.take i).map fun q : Nat => (q : Int) := by rw [Int.toNat_natCast, List.map_take]
theorem mem_cast {ns : List Nat} {q : Nat} : (q : Int) ∈ (ns.map fun q : Nat => (q : Int)) ↔ q ∈ ns := by
  rw [List.mem_map]
  constructor
  · rintro ⟨x, hx, e⟩
    have : x = q := by omega
    exact this ▸ hx
  · intro h; exact ⟨q, h, rfl⟩
theorem take_get {ns : List Nat} {i q : Nat} (hq : ns[i]? = some q) : ns.take (i + 1) = ns.take i ++ [q] := by
  rw [List.take_add_one, hq]; rfl
theorem dedup_new {ns zs : List Nat} {ys : List Value} {i q : Nat} {t : Tok} (hq : ns[i]? = some q) (q1 : IntsAre ys (zs.map fun q : Nat => (q : Int))) (q2 : zs.Nodup) (q3 : ∀ z, z ∈ zs ↔ z ∈ ns.take i) (q4 : zs.length ≤ i) (h : ¬ (q : Int) ∈ List.take (Int.toNat (i : Int)) (ns.map fun q : Nat => (q : Int))) :
    ∃ zs' : List Nat, IntsAre (ys ++ [Value.int (q : Int) t]) (zs'.map fun q : Nat => (q : Int)) ∧ zs'.Nodup ∧ (∀ z, z ∈ zs' ↔ z ∈ ns.take (i + 1)) ∧ zs'.length ≤ i + 1 := by
  rw [take_cast] at h
  have hn : q ∉ zs := fun hm => h (mem_cast.mpr ((q3 q).mp hm))
  refine ⟨zs ++ [q], ?_, List.nodup_append.mpr ⟨q2, by simp, fun a ha b hb => ?_⟩, fun z => ?_, by simp; omega⟩
  · rw [List.map_append]; exact q1.append (.cons _ t .nil)
  · rw [List.mem_singleton.mp hb]
    exact fun e => hn (e ▸ ha)
  · rw [take_get hq, List.mem_append, List.mem_append, q3]
theorem dedup_old {ns zs : List Nat} {i q : Nat} (hq : ns[i]? = some q) (q3 : ∀ z, z ∈ zs ↔ z ∈ ns.take i) (h : (q : Int) ∈ List.take (Int.toNat (i : Int)) (ns.map fun q : Nat => (q : Int))) : ∀ z, z ∈ zs ↔ z ∈ ns.take (i + 1) := by
  rw [take_cast] at h
  have hm : q ∈ ns.take i := mem_cast.mp h
  intro z
  rw [take_get hq, List.mem_append, q3]
  constructor
  · exact .inl
  · rintro (h | h)
    · exact h
    · rw [List.mem_singleton.mp h]; exact hm
theorem xor_64 : ∀ v : Nat, v < 256 → 0 ≤ Builtin.bitXor (v : Int) 64 ∧ Builtin.bitXor (v : Int) 64 < 256 := by decide +kernel
theorem four_keys {h₀ h : Heap} {L l : Addr} {v : Nat} {x y : Int} {ta tb tc td : Tok} {n : Nat} {more : List (Addr × Obj)} (hv : (v : Int) < 256) (N : News h₀ L h ((l, PySem.W.listOf #[Value.int (v : Int) ta, Value.int (x.fmod 256) tb, Value.int (y.fmod 256) tc, Value.int (Builtin.bitXor (v : Int) 64) td] n) :: more)) :
    ∃ (vs : List Value) (ns : List Nat), IntsAre vs (ns.map fun q : Nat => (q : Int)) ∧ ns.length = 4 ∧ (∀ z ∈ ns, z < 256) ∧ News h₀ L h ((l, PySem.W.listOf vs.toArray n) :: more) := by
  have hx := xor_64 v (by omega)
  obtain ⟨b, hb⟩ := Int.eq_ofNat_of_zero_le (Int.fmod_nonneg_of_pos x (b := 256) (by omega))
  obtain ⟨c, hc⟩ := Int.eq_ofNat_of_zero_le (Int.fmod_nonneg_of_pos y (b := 256) (by omega))
  obtain ⟨d, hd⟩ := Int.eq_ofNat_of_zero_le hx.1
  have b1 := Int.fmod_lt_of_pos x (b := 256) (by omega)
  have c1 := Int.fmod_lt_of_pos y (b := 256) (by omega)
  rw [hb] at N b1
  rw [hc] at N c1
  rw [hd] at N hx
  refine ⟨[Value.int (v : Int) ta, Value.int (b : Int) tb, Value.int (c : Int) tc, Value.int (d : Int) td], [v, b, c, d], .cons _ _ (.cons _ _ (.cons _ _ (.cons _ _ .nil))), rfl, fun z hz => ?_, N⟩
  simp only [List.mem_cons, List.not_mem_nil, or_false] at hz
  omega
theorem out5 {h₀ h : Heap} {L d : Addr} {a b c e : Addr × Obj} {o : Obj} {rest : List (Addr × Obj)} (N : News h₀ L h (a :: b :: c :: e :: rest)) (hm : (d, o) ∈ rest) : News h₀ L h (a :: b :: c :: e :: (d, o) :: less d rest) := fun p hp => by
  rcases List.mem_cons.mp hp with rfl | hp
  · exact N _ (.head _)
  · rcases List.mem_cons.mp hp with rfl | hp
    · exact N _ (.tail _ (.head _))
    · rcases List.mem_cons.mp hp with rfl | hp
      · exact N _ (.tail _ (.tail _ (.head _)))
      · rcases List.mem_cons.mp hp with rfl | hp
        · exact N _ (.tail _ (.tail _ (.tail _ (.head _))))
        · rcases List.mem_cons.mp hp with rfl | hp
          · exact N _ (.tail _ (.tail _ (.tail _ (.tail _ hm))))
          · exact N _ (.tail _ (.tail _ (.tail _ (.tail _ (less_mem.mp hp).1))))
theorem next_nat {prog : Program} {w : World} {p : Program} {loose : List Str} {mean : ExcName → Option Value} {mg mb : Str → Option Value}
    (dp un : Nat) (gd : Option (List Code)) (cn : Str) (cs : Scope) (a : Addr) (ccd : Value) (cl : List (Str × Addr)) (outer : List Env) (A₀ : Around) (base h₀ : Heap) (L : Addr) (m : Str → Option Value) (s : Shared) (Q E : Value → Shared → Prop)
    {news : List (Addr × Obj)} {g : Obj → List (Addr × Obj)} {st xs : Addr} {vs : List Value} {ns : List Int} {i c : Int} {t1 t2 tm : Tok} {n n2 : Nat} {many : Int}
    (Bl : Below A₀ base outer h₀) (F : Fr h₀ L s.heap m) (X : (Mine.hd.heap_39 w.params).In h₀) (N : News h₀ L s.heap news) (T : Top p loose mean mg mb h₀) (hk : cs.kind = .function) (hd : dp + 1 < recursionLimit) (hu : un + 8 < cLine)
    (U : UpdF st (stO xs i c t1 t2 n) news g) (hx : (xs, listOf vs.toArray n2) ∈ news) (hi : IntsAre vs ns) (hlen : ns.length ≤ 40) (h0 : 0 ≤ i) (hc0 : 0 ≤ c) (hc1 : c < 2147483647) (hm : 0 < many) (hm1 : many < 1000)
    (hret : ∀ (v : Nat) (t : Tok) (i' c' : Int) (t1' t2' : Tok) (n' : Nat) (h' : Heap) (tk' : Nat), (v : Int) < many → 0 ≤ i' → 0 ≤ c' → c' < 2147483647 → Fr h₀ L h' m → News h₀ L h' (g (stO xs i' c' t1' t2' n')) →
      Q (.int (v : Int) t) { s with heap := h', toks := tk' }) :
    wpAny (model prog w) (ktrTop dp un gd cn cs L a ccd cl outer) (call (.ref 179) [.ref st, .int many tm]) Q E s :=
  next_ok dp un gd cn cs a ccd cl outer A₀ base h₀ L m s Q E Bl F X N T hk hd hu U hx hi hlen h0 hc0 hc1 hm hm1 fun v t i' c' t1' t2' n' h' tk' v0 v1 i0 c0 c1 F' N' => by
    obtain ⟨q, rfl⟩ := Int.eq_ofNat_of_zero_le v0
    exact hret q t i' c' t1' t2' n' h' tk' v1 i0 c0 c1 F' N'
end Mine
end
section
open PySem PySem.W PyProof.Rows PySem.Calls
set_option Elab.async false
set_option maxRecDepth 100000
set_option maxHeartbeats 4000000
set_option linter.unusedSimpArgs false
set_option linter.unusedSectionVars false
set_option linter.unusedVariables false
theorem Mine.fillLb : (fun (_ : OpenLaw) (_ : Params → Frag) => True) PySem.Challenge.rw_bs0043_01 Mine.hd.heap_39 := by w_top off; k_fill; trivial
namespace Mine
local macro_rules | `(tactic| k_ne) => `(tactic| (refine neN ?_; (try dsimp only); first | with_reducible assumption | exact Ne.symm (by with_reducible assumption) | omega))
local macro_rules | `(tactic| k_all) => `(tactic| first | with_reducible assumption | (refine' all_cons ?a ?b; (case a => first | with_reducible assumption | exact Ne.symm (by with_reducible assumption) | omega); (case b => k_all)))
local macro_rules | `(tactic| k_mem) => `(tactic| first | assumption | exact List.mem_append_left _ (by assumption))
local macro_rules | `(tactic| k_room) => `(tactic| ((try simp only [depth_under_make, depth_under_kw, depth_in1, depth_deeper, depth_caller]); (try dsimp only [ktrTop]); omega))
local macro_rules | `(tactic| k_units) => `(tactic| ((have hcL9 := cLine_is); (try simp only [units_under_make, units_in1, units_deeper, Around.mark_units, units_caller]); (try dsimp only [ktrTop]); omega))
local macro_rules | `(tactic| walk_at "eval Name") => `(tactic| (k_here; (with_reducible show wpAny _ _ (eval (Expr.Name _ _) (envX _ _ _ _ _ _)) _ _ _); k_dflt (first
  | (refine' nameX_L ?F ?v ?_ ?a ?b; (case F => k_asm); (case a => rfl); (case b => rfl); (case v => first | rfl | assumption); k_whole)
  | (refine' nameX_C ?N ?c ?m ?d ?_ ?a ?b; (case a => rfl); (case b => rfl); (case N => k_asm); (case c => rfl); (case m => k_mem); (case d => k_asm); k_whole)
  | (refine' nameX_K ?F ?X ?T ?e ?_ ?a ?b; (case F => k_asm); (case X => k_asm); (case T => k_asm); (case a => rfl); (case b => rfl); (case e => k_is); k_whole)
  | (refine' nameX_B ?F ?X ?T ?e ?v ?n ?_ ?a ?b; (case F => k_asm); (case X => k_asm); (case T => k_asm); (case a => rfl); (case b => rfl); (case e => k_is); (case v => boot_fast); (case n => decide); k_whole))))
local macro_rules | `(tactic| walk_at "pyIter ref") => `(tactic| refine rest ?_)
local macro_rules | `(tactic| walk_at "exec For Name Call cons nil") => `(tactic| (k_here; (rename Fr _ _ _ _ => lF'); (with_unfolding_all refine' For_invVF lF' ?k1 ?k2 ?_ ?ks ?ke; (case k1 => exact rfl); (case k2 => exact rfl); (case ks => exact fun _ => rfl); (case ke => assumption); k_whole)))
local macro_rules | `(tactic| walk_at "InvEndN") => `(tactic| refine rest ?_)
local macro_rules | `(tactic| walk_at "call ref") => `(tactic| (k_here; (with_reducible show wpAny _ _ (call (Value.ref 179) [Value.ref _, Value.int _ _]) _ _ _); k_dflt (refine' next_nat _ _ _ _ _ _ _ _ _ _ _ _ _ _ _ _ _ ?Bl ?F ?X ?N ?T ?k ?d ?u ?U ?hx ?hi ?hl ?i0 ?c0 ?c1 ?m0 ?m1 ?_; (case Bl => k_asm); (case F => k_asm); (case X => k_asm); (case N => k_asm); (case T => k_asm); (case k => rfl); (case d => k_room); (case u => k_units); (case U => k_updF); (case hx => k_mem); (case hi => with_reducible assumption); (case hl => with_reducible assumption); (case i0 => assumption); (case c0 => assumption); (case c1 => assumption); (case m0 => first | decide | omega); (case m1 => first | decide | omega); k_whole); intro v' tv' i' c' t1' t2' n' h' tk' v1' i0' c0' c1' F' N'; (try dsimp only at N'); (try k_sweep)))
local macro_rules | `(tactic| walk_at "setItem ref int") => `(tactic| (k_here; (with_reducible show wpAny _ _ (setItem (Value.ref _) (Value.int _ _) (Value.bytes _ _)) _ _ _); k_dflt (refine' db_set (knd := intKind _ _) ?F ?N ?U ?d ?k ?z ?_; (case F => k_asm); (case N => k_asm); (case U => k_updF); (case d => with_reducible assumption); (case k => exact intKind_is _ _ _ _); (case z => omega)); intro h' o' F' N' hd'; (try dsimp only at N'); (try k_sweep)))
local macro_rules | `(tactic| walk_at "binaryOp Mult bytes int") => `(tactic| (k_here; k_dflt (refine' mulB ?v ?_; (case v => omega)); intro val' t' k' hval'))
local macro_rules | `(tactic| walk_at "call ref") => `(tactic| (k_here; (with_reducible show wpAny _ _ (call (Value.ref 123) _) _ _ _); refine rest ?_))
local macro_rules | `(tactic| walk_at "call ref") => `(tactic| (k_here; (with_reducible show wpAny _ _ (call (Value.ref 123) _) _ _ _); k_dflt (refine' set_use _ _ _ _ _ _ _ _ _ _ _ _ _ _ _ _ _ ?HC ?mt ?md ?hT ?Bl ?F ?X ?N ?T ?k ?d ?u ?U1 ?U2 ?U3 ?mh ?mc ?mo ?hoc ?hoco ?hB ?hD ?Tr ?root ?key ?q ?bl ?dl ?val ?_; (case F => k_asm); (case N => k_asm); (case HC => with_reducible assumption); (case mt => k_mem); (case md => k_mem); (case hT => exact ⟨_, _, _, _, _, _, _, _, _, _, rfl⟩); (case Bl => k_asm); (case X => k_asm); (case T => k_asm); (case k => rfl); (case d => k_room); (case u => k_units); (case U1 => k_updF); (case U2 => (intro _; k_updF)); (case U3 => (intro _ _; k_updF)); (case mh => k_mem); (case mc => k_mem); (case mo => k_mem); (case hoc => with_reducible assumption); (case hoco => with_reducible assumption); (case hB => with_reducible assumption); (case hD => with_reducible assumption); (case Tr => with_reducible assumption); (case root => rfl); (case key => exact key1 (by assumption)); (case q => omega); (case bl => omega); (case dl => omega); (case val => (constructor <;> omega)); k_whole); intro tp' vs' ob' od' otd' B' D' H' h' tk' hvs' hB' hD' hpre' hbl' hdl' hT' hTr' hoff' F' N' l1; (try dsimp only at N'); (try k_lt l1); (try k_sweep)))
structure SetsJ where
  i : Int
  c : Int
  t1 : Tok
  t2 : Tok
  n : Nat
  ob : Obj
  B : List Bts
  od : Obj
  D : List (List UInt8 × Bts)
  otd : Obj
  ℓ : Nat → Bts
  H : Nat → Nat → Bts
  oh : Obj
  HV : List (Int × Bts)
abbrev setsLed (xs st bk db td he : Addr) (rest : List (Addr × Obj)) (c : SetsJ) : List (Addr × Obj) := (st, stO xs c.i c.c c.t1 c.t2 c.n) :: (bk, c.ob) :: (db, c.od) :: (td, c.otd) :: (he, c.oh) :: rest
structure SetsP (prog : Program) (w : World) (hof db : Addr) (k : Nat) (c : SetsJ) : Prop where
  i0 : 0 ≤ c.i
  c0 : 0 ≤ c.c
  c1 : c.c < 2147483647
  book : Book prog w c.ob c.B
  dbk : DB (bytesKind prog w) c.od c.D
  tdk : IsTD w.params c.otd hof db (c.H 0 0)
  T : Tree c.B c.D c.ℓ c.H
  held : DB (intKind prog w) c.oh c.HV
  heldV : ∀ q : Nat, q < 256 → (look c.HV (q : Int)).getD #[100] = c.ℓ q
  hl : c.HV.length ≤ k
  bl : c.B.length ≤ 9 + 9 * k
  dl : c.D.length ≤ 9 + 9 * k
  small : ∀ q, (c.ℓ q).size < 5
section
variable {prog : Program} {w : World} {A : Around} {E : Value → Shared → Prop} {s : Shared} {env : Env} {h₀ : Heap} {x : Str} {body : List Stmt} {Q : Flow → Shared → Prop}
theorem sets_loop {xs st bk db td he hof r : Addr} {rest : List (Addr × Obj)} {v i c : Int} {t1 t2 t₀ u₀ v₀ : Tok} {n : Nat} {ob od otd oh : Obj} {B : List Bts} {D : List (List UInt8 × Bts)} {ℓ : Nat → Bts} {H : Nat → Nat → Bts} {m₀ : Str → Option Value}
    (hh : A.handled = none) (hr : IsRange s.heap r 0 v 1 t₀ u₀ v₀) (hv0 : 0 ≤ v) (hv1 : v < 5) (F : Fr h₀ env.locals s.heap m₀) (N : News h₀ env.locals s.heap ((st, stO xs i c t1 t2 n) :: (bk, ob) :: (db, od) :: (td, otd) :: rest)) (mhe : (he, oh) ∈ rest)
    (r0 : ∀ q ∈ rest, q.1 ≠ st ∧ q.1 ≠ bk ∧ q.1 ≠ db ∧ q.1 ≠ td) (P0 : SetsP prog w hof db 0 ⟨i, c, t1, t2, n, ob, B, od, D, otd, ℓ, H, oh, []⟩)
    (turn : ∀ (c : SetsJ) (k : Nat) (t : Tok) (u : Str → Option Value) h tk own (rest' : List (Addr × Obj)), k < 5 → (∀ q ∈ rest', q.1 ≠ st) → (∀ q ∈ rest', q.1 ≠ bk) → (∀ q ∈ rest', q.1 ≠ db) → (∀ q ∈ rest', q.1 ≠ td) → (∀ q ∈ rest', q.1 ≠ he) → (∀ q ∈ less he rest, q ∈ rest') → (∀ q ∈ own, q ∈ rest') → SetsP prog w hof db k c →
      Fr h₀ env.locals h (fun y => if y = x then some (.int (k : Int) t) else if [Str.ofString "key", Str.ofString "value"].contains y then u y else m₀ y) → News h₀ env.locals h ((st, stO xs c.i c.c c.t1 c.t2 c.n) :: (bk, c.ob) :: (db, c.od) :: (td, c.otd) :: (he, c.oh) :: rest') →
      wpAny (model prog w) A (execs body env) (InvPostN h₀ env.locals (KN (setsLed xs st bk db td he (less he rest)) (fun _ => []) x [Str.ofString "key", Str.ofString "value"] m₀ (SetsP prog w hof db) (k + 1)) own (st :: bk :: db :: td :: he :: (less he rest).map (·.1)) { s with heap := h, toks := tk } Q) E { s with heap := h, toks := tk })
    (done : ∀ (c : SetsJ) (k : Nat) (u : Str → Option Value) h tk, k ≤ 4 → SetsP prog w hof db k c → Fr h₀ env.locals h (fun y => if y = x then u y else if [Str.ofString "key", Str.ofString "value"].contains y then u y else m₀ y) → News h₀ env.locals h ((st, stO xs c.i c.c c.t1 c.t2 c.n) :: (bk, c.ob) :: (db, c.od) :: (td, c.otd) :: (he, c.oh) :: less he rest) → Q .next { s with heap := h, toks := tk }) :
    wpAny (model prog w) A (pyIter (.ref r)) (fun it s₂ => LoopAtV prog w A h₀ env x body Q E it s₂) E s := by
  obtain ⟨k0, rfl⟩ : ∃ k : Nat, v = (k : Int) := ⟨v.toNat, by omega⟩
  have N1 : News h₀ env.locals s.heap (setsLed xs st bk db td he (less he rest) ⟨i, c, t1, t2, n, ob, B, od, D, otd, ℓ, H, oh, []⟩) := fun p hp => by
    rcases List.mem_cons.mp hp with rfl | hp
    · exact N _ (.head _)
    · rcases List.mem_cons.mp hp with rfl | hp
      · exact N _ (.tail _ (.head _))
      · rcases List.mem_cons.mp hp with rfl | hp
        · exact N _ (.tail _ (.tail _ (.head _)))
        · rcases List.mem_cons.mp hp with rfl | hp
          · exact N _ (.tail _ (.tail _ (.tail _ (.head _))))
          · rcases List.mem_cons.mp hp with rfl | hp
            · exact N _ (.tail _ (.tail _ (.tail _ (.tail _ mhe))))
            · exact N _ (.tail _ (.tail _ (.tail _ (.tail _ (less_mem.mp hp).1))))
  refine kn_range (n := k0) (setsLed xs st bk db td he (less he rest)) (fun _ => []) [Str.ofString "key", Str.ofString "value"] (SetsP prog w hof db) ⟨i, c, t1, t2, n, ob, B, od, D, otd, ℓ, H, oh, []⟩ hh hr rfl (by omega) F N1 (fun p hp => nomatch hp) P0 ?_ ?_
  · intro c k t u h tk own hk hoff hP F' N'
    have o1 : ∀ z : Addr, z ∈ st :: bk :: db :: td :: he :: (less he rest).map (·.1) → (∀ q ∈ less he rest, q.1 ≠ z) → ∀ q ∈ less he rest ++ own, q.1 ≠ z := fun z hz hr q hq => (List.mem_append.mp hq).elim (hr q) fun hq => hoff q hq z hz
    exact turn c k t u h tk own (less he rest ++ own) (by omega) (o1 st (.head _) fun q hq => (r0 q (less_mem.mp hq).1).1) (o1 bk (.tail _ (.head _)) fun q hq => (r0 q (less_mem.mp hq).1).2.1) (o1 db (.tail _ (.tail _ (.head _))) fun q hq => (r0 q (less_mem.mp hq).1).2.2.1)
      (o1 td (.tail _ (.tail _ (.tail _ (.head _)))) fun q hq => (r0 q (less_mem.mp hq).1).2.2.2) (o1 he (.tail _ (.tail _ (.tail _ (.tail _ (.head _))))) less_ne) (fun q hq => List.mem_append_left _ hq) (fun q hq => List.mem_append_right _ hq) hP F' N'
  · intro c u h tk hP F' N'
    exact done c k0 u h tk (by omega) hP F' N'
end
theorem sets_end {prog : Program} {w : World} {xs st bk db td he hof L : Addr} {restH rest' own all : List (Addr × Obj)} {k : Nat} {m₀ m' : Str → Option Value} {x : Str} {h₀ h' : Heap} {s₁ : Shared} {tk : Nat} (c : SetsJ) (hP : SetsP prog w hof db (k + 1) c)
    (hsub : ∀ q ∈ restH, q ∈ rest') (hown : ∀ q ∈ own, q ∈ rest') (F : Fr h₀ L h' m') (N : News h₀ L h' all) (sub : ∀ p ∈ (st, stO xs c.i c.c c.t1 c.t2 c.n) :: (bk, c.ob) :: (db, c.od) :: (td, c.otd) :: (he, c.oh) :: rest', p ∈ all)
    (hsame : ∀ z, z ≠ x → [Str.ofString "key", Str.ofString "value"].contains z = false → m' z = m₀ z) :
    InvEndN h₀ L (KN (setsLed xs st bk db td he restH) (fun _ => []) x [Str.ofString "key", Str.ofString "value"] m₀ (SetsP prog w hof db) (k + 1)) own (st :: bk :: db :: td :: he :: restH.map (·.1)) s₁ { s₁ with heap := h', toks := tk } := by
  refine kn_end c F (fun p hp => N p (sub p hp)) ?_ ?_ rfl (fun p hp => nomatch hp) (fun z h1 _ h3 => hsame z h1 h3) hP
  · intro p hp
    rcases List.mem_cons.mp hp with rfl | hp
    · exact .head _
    · rcases List.mem_cons.mp hp with rfl | hp
      · exact .tail _ (.head _)
      · rcases List.mem_cons.mp hp with rfl | hp
        · exact .tail _ (.tail _ (.head _))
        · rcases List.mem_cons.mp hp with rfl | hp
          · exact .tail _ (.tail _ (.tail _ (.head _)))
          · rcases List.mem_cons.mp hp with rfl | hp
            · exact .tail _ (.tail _ (.tail _ (.tail _ (.head _))))
            · exact .tail _ (.tail _ (.tail _ (.tail _ (.tail _ (hsub p hp)))))
  · intro p hp
    exact .tail _ (.tail _ (.tail _ (.tail _ (.tail _ (hown p hp)))))
theorem sets_fin {prog : Program} {w : World} {xs st bk db td he hof L : Addr} {restH rest' own all : List (Addr × Obj)} {k q : Nat} {i c : Int} {t1 t2 : Tok} {n : Nat} {ob od otd oh : Obj} {B B' : List Bts} {D D' : List (List UInt8 × Bts)} {ℓ : Nat → Bts} {H' : Nat → Nat → Bts} {HV : List (Int × Bts)} {val : Bts} {m₀ m' : Str → Option Value} {x : Str} {h₀ h' : Heap} {s₁ : Shared} {tk : Nat}
    (heldV : ∀ q : Nat, q < 256 → (look HV (q : Int)).getD #[100] = ℓ q) (hl : HV.length ≤ k) (bl : B.length ≤ 9 + 9 * k) (dl : D.length ≤ 9 + 9 * k) (small : ∀ q, (ℓ q).size < 5) (hq : q < 256) (hval : val.size < 5)
    (i0 : 0 ≤ i) (c0 : 0 ≤ c) (c1 : c < 2147483647) (hB : Book prog w ob B') (hD : DB (bytesKind prog w) od D') (hT : IsTD w.params otd hof db (H' 0 0)) (T : Tree B' D' (upd ℓ q val) H') (hd : DB (intKind prog w) oh (put HV (q : Int) val)) (hbl : B'.length ≤ B.length + 9) (hdl : D'.length ≤ D.length + 9)
    (hsub : ∀ q ∈ restH, q ∈ rest') (hown : ∀ q ∈ own, q ∈ rest') (F : Fr h₀ L h' m') (N : News h₀ L h' all) (sub : ∀ p ∈ (st, stO xs i c t1 t2 n) :: (bk, ob) :: (db, od) :: (td, otd) :: (he, oh) :: rest', p ∈ all)
    (hsame : ∀ z, z ≠ x → [Str.ofString "key", Str.ofString "value"].contains z = false → m' z = m₀ z) :
    InvEndN h₀ L (KN (setsLed xs st bk db td he restH) (fun _ => []) x [Str.ofString "key", Str.ofString "value"] m₀ (SetsP prog w hof db) (k + 1)) own (st :: bk :: db :: td :: he :: restH.map (·.1)) s₁ { s₁ with heap := h', toks := tk } := by
  refine sets_end ⟨i, c, t1, t2, n, ob, B', od, D', otd, upd ℓ q val, H', oh, put HV (q : Int) val⟩ ⟨i0, c0, c1, hB, hD, hT, T, hd, fun q' hq' => ?_, Nat.le_trans (put_length _ _ _) (by omega), by simp only; omega, by simp only; omega, fun q' => ?_⟩ hsub hown F N sub hsame
  · simp only
    rw [look_put]
    unfold upd
    by_cases e : q' = q
    · subst e; simp
    · have : ¬ (q : Int) = (q' : Int) := by omega
      rw [if_neg this, if_neg e]; exact heldV q' hq'
  · simp only
    unfold upd
    split
    · exact hval
    · exact small q'
section
variable {prog : Program} {w : World} {p : Program} {loose : List Str} {mean : ExcName → Option Value} {mg mb : Str → Option Value} {L xs st bk cod hof td tr db he : Addr} {led : List (Addr × Obj)} {B : List Bts} {D : List (List UInt8 × Bts)} {ℓ : Nat → Bts} {H : Nat → Nat → Bts}
theorem segB (dp un : Nat) (gd : Option (List Code)) (a : Addr) (ccd : Value) (outer : List Env) (A₀ : Around) (base h₀ : Heap) (m : Str → Option Value) (s : Shared) (Q : Flow → Shared → Prop) (E : Value → Shared → Prop) (more : List Stmt) {oh : Obj}
    (Bl : Below A₀ base outer h₀) (F : Fr h₀ L s.heap m) (X : (Mine.hd.heap_39 w.params).In h₀) (N : News h₀ L s.heap led) (T : Top p loose mean mg mb h₀) (hd : dp + 12 < recursionLimit) (hu : un + 80 < cLine)
    (AD : Adr L xs st bk cod hof td tr db he) (S : LSt prog w p loose mean mg mb L xs st bk cod hof td tr db he led B D ℓ H 9) (mhe : (he, oh) ∈ led) (hhe : DB (intKind prog w) oh []) (hℓ : ∀ q, ℓ q = #[100])
    (hE : PassesOwn (model prog w) (ktrTop dp un gd lawN lawScope L a ccd (lawCl L) outer) (envX lawN lawScope L a ccd (lawCl L)) E)
    (hm1 : m (Str.ofString "state") = some (.ref st)) (hm2 : m (Str.ofString "hash_of") = some (.ref hof))
    (next : ∀ h' tk' m' led' B' D' ℓ' H' oh' HV, Fr h₀ L h' m' → News h₀ L h' led' → LSt prog w p loose mean mg mb L xs st bk cod hof td tr db he led' B' D' ℓ' H' 50 → (he, oh') ∈ led' → DB (intKind prog w) oh' HV → (∀ q : Nat, q < 256 → (look HV (q : Int)).getD #[100] = ℓ' q) →
      m' (Str.ofString "state") = some (.ref st) → m' (Str.ofString "hash_of") = some (.ref hof) → wpAny (model prog w) (ktrTop dp un gd lawN lawScope L a ccd (lawCl L) outer) (execs more (envX lawN lawScope L a ccd (lawCl L))) Q E { s with heap := h', toks := tk' }) :
    wpAny (model prog w) (ktrTop dp un gd lawN lawScope L a ccd (lawCl L) outer) (execs (lawSeg 5 1 ++ more) (envX lawN lawScope L a ccd (lawCl L))) Q E s := by
  have e1 : lawSeg 5 1 ++ more = _ :: more := rfl
  rw [e1]
  clear e1
  have e3 : lawScope = lawScope := rfl
  conv at e3 => lhs; whnf
  rw [lawCl_eq] at next hE ⊢
  rw [← e3] at next hE ⊢
  clear e3
  obtain ⟨rest, i, c, t1, t2, n, ob, od, otd, N1, i0, c0, c1, hB, hD, hT, R, inr, outr⟩ := S.open4 AD N
  obtain ⟨vs, ns, nx, mx, hx1, hx2⟩ := R.xsL
  obtain ⟨nm, ql, ps, bd, sc, clo, pm, ctv, oc, oco, mh, mc, mo, k1, k2, HC⟩ := R.hash
  obtain ⟨o1, n1, d1⟩ := R.c1
  obtain ⟨o2, n2, d2⟩ := R.c2
  have mt := R.inst
  have r1 : ∀ q ∈ rest, q.1 ≠ st := fun q hq => (R.off q hq).1
  have r2 : ∀ q ∈ rest, q.1 ≠ bk := fun q hq => (R.off q hq).2.1
  have r3 : ∀ q ∈ rest, q.1 ≠ db := fun q hq => (R.off q hq).2.2.1
  have r4 : ∀ q ∈ rest, q.1 ≠ td := fun q hq => (R.off q hq).2.2.2
  obtain ⟨ne1, ne2, ne3, ne4, ne5, ne6⟩ := AD.ne4
  obtain ⟨g1, g2, g3, g4, g5, g6, g7, g8⟩ := AD.he4
  obtain ⟨f1, f2, f3, f4, f5, f6, f7, f8⟩ := AD.low
  have mhe' := inr he oh mhe g1 g2 g3 g4
  clear N
  k_steps
  show wpAny _ _ _ _ _ _
  rename IsRange _ _ _ _ _ _ _ _ => hrg
  rename News _ _ _ _ => Nr
  rename Fr _ _ _ _ => Fr'
  refine sets_loop rfl hrg (Int.natCast_nonneg _) (by assumption) Fr' Nr mhe' R.off ⟨by assumption, by assumption, by assumption, hB, hD, hT, S.T, hhe, fun q _ => (hℓ q).symm, Nat.le_refl _, S.lim.1, S.lim.2, S.small⟩ ?_ ?_
  · rintro ⟨i, c, t1, t2, n, ob, B, od, D, otd, ℓ, H, oh, HV⟩ k tt u h tk own rest9 hk q1 q2 q3 q4 q5 hsub hown ⟨y1, y2, y3, y4, y5, y6, y7, y8, y9, y10, y11, y12, y13⟩ F1 N1
    dsimp only at y1 y2 y3 y4 y5 y6 y7 y8 y9 y10 y11 y12 y13 N1
    replace F1 : Fr h₀ L h _ := F1
    obtain ⟨k1, k2, k3, k4, k5, k6, v1, v2, v3, v6, rfl⟩ := y6
    have mx := hsub _ (in_less mx g5)
    have mh := hsub _ (in_less mh g7)
    have mo := hsub _ (in_less mo g8)
    have mc := hsub _ (in_less mc (Nat.ne_of_lt f5))
    have mt := hsub _ (in_less mt g6)
    have n1 := hsub _ (in_less n1 (by omega))
    have n2 := hsub _ (in_less n2 (by omega))
    clear hrg Nr Fr' r1 r2 r3 r4 next S hm2 inr outr mhe mhe' R AD hB hD hT i0 c0 c1 hℓ hhe
    k_steps
    refine' sets_fin y9 y10 y11 y12 y13 ?q ?val ?i0 ?c0 ?c1 ?hB ?hD ?hT ?Tr ?hd ?bl ?dl hsub hown ?F ?N ?sub ?hs
    (case F => assumption); (case N => assumption); (case sub => kcf_all)
    (case hB => with_reducible assumption); (case hD => with_reducible assumption); (case hT => with_reducible assumption); (case Tr => with_reducible assumption); (case hd => with_reducible assumption); (case bl => with_reducible assumption); (case dl => with_reducible assumption)
    (case i0 => assumption); (case c0 => assumption); (case c1 => assumption); (case q => omega); (case val => omega)
    case hs =>
      intro z h1 h2
      have k1 : z ≠ Str.ofString "key" := by rintro rfl; exact absurd h2 (by decide)
      have k2 : z ≠ Str.ofString "value" := by rintro rfl; exact absurd h2 (by decide)
      show (if z = Str.ofString "key" then _ else if z = Str.ofString "value" then _ else if z = Str.ofString "_" then _ else if [Str.ofString "key", Str.ofString "value"].contains z = true then u z else m z) = m z
      rw [if_neg k1, if_neg k2, if_neg h1, h2]; rfl
  · rintro ⟨i, c, t1, t2, n, ob, B, od, D, otd, ℓ, H, oh, HV⟩ k u h tk hk ⟨y1, y2, y3, y4, y5, y6, y7, y8, y9, y10, y11, y12, y13⟩ F1 N1
    dsimp only at y1 y2 y3 y4 y5 y6 y7 y8 y9 y10 y11 y12 y13 N1
    replace F1 : Fr h₀ L h _ := F1
    refine next _ _ _ _ B D ℓ H oh HV F1 N1 ?_ (.tail _ (.tail _ (.tail _ (.tail _ (.head _))))) y8 y9 hm1 hm2
    refine (R.putNew AD (d := he) (o' := oh) AD.a9).close (fun q hq => .tail _ (.tail _ (.tail _ (.tail _ hq)))) (.head _) (.tail _ (.head _)) (.tail _ (.tail _ (.head _))) (.tail _ (.tail _ (.tail _ (.head _)))) y1 y2 y3 y4 y5 y6 y7 (by omega) (by omega) y13
end
end Mine
end
section
local macro_rules | `(tactic| walk_at "zzz") => `(tactic| fail)
local macro_rules | `(tactic| walk_at "zzz") => `(tactic| fail)
local macro_rules | `(tactic| walk_at "zzz") => `(tactic| fail)
local macro_rules | `(tactic| walk_at "zzz") => `(tactic| fail)
local macro_rules | `(tactic| walk_at "zzz") => `(tactic| fail)
local macro_rules | `(tactic| walk_at "zzz") => `(tactic| fail)
local macro_rules | `(tactic| walk_at "zzz") => `(tactic| fail)
local macro_rules | `(tactic| walk_at "zzz") => `(tactic| fail)
local macro_rules | `(tactic| walk_at "zzz") => `(tactic| fail)
local macro_rules | `(tactic| walk_at "zzz") => `(tactic| fail)
local macro_rules | `(tactic| walk_at "zzz") => `(tactic| fail)
local macro_rules | `(tactic| walk_at "zzz") => `(tactic| fail)
local macro_rules | `(tactic| walk_at "zzz") => `(tactic| fail)
local macro_rules | `(tactic| walk_at "zzz") => `(tactic| fail)
local macro_rules | `(tactic| walk_at "zzz") => `(tactic| fail)
local macro_rules | `(tactic| walk_at "zzz") => `(tactic| fail)
local macro_rules | `(tactic| walk_at "zzz") => `(tactic| fail)
local macro_rules | `(tactic| walk_at "zzz") => `(tactic| fail)
local macro_rules | `(tactic| walk_at "zzz") => `(tactic| fail)
local macro_rules | `(tactic| walk_at "zzz") => `(tactic| fail)
local macro_rules | `(tactic| walk_at "zzz") => `(tactic| fail)
local macro_rules | `(tactic| walk_at "zzz") => `(tactic| fail)
local macro_rules | `(tactic| walk_at "zzz") => `(tactic| fail)
local macro_rules | `(tactic| walk_at "zzz") => `(tactic| fail)
local macro_rules | `(tactic| walk_at "zzz") => `(tactic| fail)
local macro_rules | `(tactic| walk_at "zzz") => `(tactic| fail)
local macro_rules | `(tactic| walk_at "zzz") => `(tactic| fail)
local macro_rules | `(tactic| walk_at "zzz") => `(tactic| fail)
local macro_rules | `(tactic| walk_at "zzz") => `(tactic| fail)
local macro_rules | `(tactic| walk_at "zzz") => `(tactic| fail)
local macro_rules | `(tactic| walk_at "zzz") => `(tactic| fail)
local macro_rules | `(tactic| walk_at "zzz") => `(tactic| fail)
local macro_rules | `(tactic| walk_at "zzz") => `(tactic| fail)
local macro_rules | `(tactic| walk_at "zzz") => `(tactic| fail)
local macro_rules | `(tactic| walk_at "zzz") => `(tactic| fail)
local macro_rules | `(tactic| walk_at "zzz") => `(tactic| fail)
local macro_rules | `(tactic| walk_at "zzz") => `(tactic| fail)
local macro_rules | `(tactic| walk_at "zzz") => `(tactic| fail)
local macro_rules | `(tactic| walk_at "zzz") => `(tactic| fail)
local macro_rules | `(tactic| walk_at "zzz") => `(tactic| fail)
local macro_rules | `(tactic| walk_at "zzz") => `(tactic| fail)
local macro_rules | `(tactic| walk_at "zzz") => `(tactic| fail)
local macro_rules | `(tactic| walk_at "zzz") => `(tactic| fail)
local macro_rules | `(tactic| walk_at "zzz") => `(tactic| fail)
local macro_rules | `(tactic| walk_at "zzz") => `(tactic| fail)
local macro_rules | `(tactic| walk_at "zzz") => `(tactic| fail)
local macro_rules | `(tactic| walk_at "zzz") => `(tactic| fail)
local macro_rules | `(tactic| walk_at "zzz") => `(tactic| fail)
local macro_rules | `(tactic| walk_at "zzz") => `(tactic| fail)
local macro_rules | `(tactic| walk_at "zzz") => `(tactic| fail)
local macro_rules | `(tactic| walk_at "zzz") => `(tactic| fail)
local macro_rules | `(tactic| walk_at "zzz") => `(tactic| fail)
local macro_rules | `(tactic| walk_at "zzz") => `(tactic| fail)
local macro_rules | `(tactic| walk_at "zzz") => `(tactic| fail)
local macro_rules | `(tactic| walk_at "zzz") => `(tactic| fail)
local macro_rules | `(tactic| walk_at "zzz") => `(tactic| fail)
local macro_rules | `(tactic| walk_at "zzz") => `(tactic| fail)
local macro_rules | `(tactic| walk_at "zzz") => `(tactic| fail)
local macro_rules | `(tactic| walk_at "zzz") => `(tactic| fail)
local macro_rules | `(tactic| walk_at "zzz") => `(tactic| fail)
local macro_rules | `(tactic| walk_at "zzz") => `(tactic| fail)
local macro_rules | `(tactic| walk_at "zzz") => `(tactic| fail)
local macro_rules | `(tactic| walk_at "zzz") => `(tactic| fail)
local macro_rules | `(tactic| walk_at "zzz") => `(tactic| fail)
local macro_rules | `(tactic| walk_at "zzz") => `(tactic| fail)
local macro_rules | `(tactic| walk_at "zzz") => `(tactic| fail)
local macro_rules | `(tactic| walk_at "zzz") => `(tactic| fail)
local macro_rules | `(tactic| walk_at "zzz") => `(tactic| fail)
local macro_rules | `(tactic| walk_at "zzz") => `(tactic| fail)
local macro_rules | `(tactic| walk_at "zzz") => `(tactic| fail)
local macro_rules | `(tactic| walk_at "zzz") => `(tactic| fail)
local macro_rules | `(tactic| walk_at "zzz") => `(tactic| fail)
local macro_rules | `(tactic| walk_at "zzz") => `(tactic| fail)
local macro_rules | `(tactic| walk_at "zzz") => `(tactic| fail)
local macro_rules | `(tactic| walk_at "zzz") => `(tactic| fail)
local macro_rules | `(tactic| walk_at "zzz") => `(tactic| fail)
local macro_rules | `(tactic| walk_at "zzz") => `(tactic| fail)
local macro_rules | `(tactic| walk_at "zzz") => `(tactic| fail)
local macro_rules | `(tactic| walk_at "zzz") => `(tactic| fail)
local macro_rules | `(tactic| walk_at "zzz") => `(tactic| fail)
open PySem PySem.W PyProof.Rows PySem.Calls
set_option Elab.async false
set_option maxRecDepth 100000
set_option maxHeartbeats 4000000
set_option linter.unusedSimpArgs false
set_option linter.unusedSectionVars false
set_option linter.unusedVariables false
theorem Mine.fillLc : (fun (_ : OpenLaw) (_ : Params → Frag) => True) PySem.Challenge.rw_bs0043_01 Mine.hd.heap_39 := by w_top off; k_fill; trivial
namespace Mine
local macro_rules | `(tactic| k_ne) => `(tactic| (refine neN ?_; (try dsimp only); first | with_reducible assumption | exact Ne.symm (by with_reducible assumption) | omega))
local macro_rules | `(tactic| k_all) => `(tactic| first | with_reducible assumption | (refine' all_cons ?a ?b; (case a => first | with_reducible assumption | exact Ne.symm (by with_reducible assumption) | omega); (case b => k_all)))
local macro_rules | `(tactic| k_mem) => `(tactic| first | assumption | exact List.mem_append_left _ (by assumption))
local macro_rules | `(tactic| k_room) => `(tactic| ((try simp only [depth_under_make, depth_under_kw, depth_in1, depth_deeper, depth_caller]); (try dsimp only [ktrTop]); omega))
local macro_rules | `(tactic| k_units) => `(tactic| ((have hcL9 := cLine_is); (try simp only [units_under_make, units_in1, units_deeper, Around.mark_units, units_caller]); (try dsimp only [ktrTop]); omega))
local macro_rules | `(tactic| walk_at "eval Name") => `(tactic| (k_here; (with_reducible show wpAny _ _ (eval (Expr.Name _ _) (envX _ _ _ _ _ _)) _ _ _); k_dflt (first
  | (refine' nameX_L ?F ?v ?_ ?a ?b; (case F => k_asm); (case a => rfl); (case b => rfl); (case v => first | rfl | assumption); k_whole)
  | (refine' nameX_C ?N ?c ?m ?d ?_ ?a ?b; (case a => rfl); (case b => rfl); (case N => k_asm); (case c => rfl); (case m => k_mem); (case d => k_asm); k_whole)
  | (refine' nameX_K ?F ?X ?T ?e ?_ ?a ?b; (case F => k_asm); (case X => k_asm); (case T => k_asm); (case a => rfl); (case b => rfl); (case e => k_is); k_whole)
  | (refine' nameX_B ?F ?X ?T ?e ?v ?n ?_ ?a ?b; (case F => k_asm); (case X => k_asm); (case T => k_asm); (case a => rfl); (case b => rfl); (case e => k_is); (case v => boot_fast); (case n => decide); k_whole))))
local macro_rules | `(tactic| walk_at "eval ListComp") => `(tactic| refine rest ?_)
local macro_rules | `(tactic| walk_at "compareOp NotIn int ref") => `(tactic| (k_here; k_dflt (refine' notin_ints ?N ?m ?i ?_; (case N => k_asm); (case m => k_mem); (case i => assumption); k_whole)))
local macro_rules | `(tactic| walk_at "call type:enumerate") => `(tactic| refine rest ?_)
local macro_rules | `(tactic| walk_at "pyIter ref") => `(tactic| refine rest ?_)
local macro_rules | `(tactic| walk_at "exec For Name Call cons nil") => `(tactic| (k_here; (rename Fr _ _ _ _ => lF'); (with_unfolding_all refine' For_invVF lF' ?k1 ?k2 ?_ ?ks ?ke; (case k1 => exact rfl); (case k2 => exact rfl); (case ks => exact fun _ => rfl); (case ke => assumption); k_whole)))
local macro_rules | `(tactic| walk_at "InvEndN") => `(tactic| refine rest ?_)
local macro_rules | `(tactic| walk_at "call ref") => `(tactic| (k_here; (with_reducible show wpAny _ _ (call (Value.ref 179) _) _ _ _); refine rest ?_))
local macro_rules | `(tactic| walk_at "call ref") => `(tactic| (k_here; (with_reducible show wpAny _ _ (call (Value.ref 179) [Value.ref _, Value.int _ _]) _ _ _); k_dflt (refine' next_nat _ _ _ _ _ _ _ _ _ _ _ _ _ _ _ _ _ ?Bl ?F ?X ?N ?T ?k ?d ?u ?U ?hx ?hi ?hl ?i0 ?c0 ?c1 ?m0 ?m1 ?_; (case Bl => k_asm); (case F => k_asm); (case X => k_asm); (case N => k_asm); (case T => k_asm); (case k => rfl); (case d => k_room); (case u => k_units); (case U => k_updF); (case hx => k_mem); (case hi => with_reducible assumption); (case hl => with_reducible assumption); (case i0 => assumption); (case c0 => assumption); (case c1 => assumption); (case m0 => first | decide | omega); (case m1 => first | decide | omega); k_whole); intro v' tv' i' c' t1' t2' n' h' tk' v1' i0' c0' c1' F' N'; (try dsimp only at N'); (try k_sweep)))
local macro_rules | `(tactic| walk_at "setItem ref int") => `(tactic| (k_here; (with_reducible show wpAny _ _ (setItem (Value.ref _) (Value.int _ _) (Value.bytes _ _)) _ _ _); k_dflt (refine' db_set (knd := intKind _ _) ?F ?N ?U ?d ?k ?z ?_; (case F => k_asm); (case N => k_asm); (case U => k_updF); (case d => with_reducible assumption); (case k => exact intKind_is _ _ _ _); (case z => omega)); intro h' o' F' N' hd'; (try dsimp only at N'); (try k_sweep)))
local macro_rules | `(tactic| walk_at "binaryOp Mult bytes int") => `(tactic| (k_here; k_dflt (refine' mulB ?v ?_; (case v => omega)); intro val' t' k' hval'))
local macro_rules | `(tactic| walk_at "call ref") => `(tactic| (k_here; (with_reducible show wpAny _ _ (call (Value.ref 123) _) _ _ _); refine rest ?_))
local macro_rules | `(tactic| walk_at "call ref") => `(tactic| (k_here; (with_reducible show wpAny _ _ (call (Value.ref 123) _) _ _ _); k_dflt (refine' set_use _ _ _ _ _ _ _ _ _ _ _ _ _ _ _ _ _ ?HC ?mt ?md ?hT ?Bl ?F ?X ?N ?T ?k ?d ?u ?U1 ?U2 ?U3 ?mh ?mc ?mo ?hoc ?hoco ?hB ?hD ?Tr ?root ?key ?q ?bl ?dl ?val ?_; (case F => k_asm); (case N => k_asm); (case HC => with_reducible assumption); (case mt => k_mem); (case md => k_mem); (case hT => exact ⟨_, _, _, _, _, _, _, _, _, _, rfl⟩); (case Bl => k_asm); (case X => k_asm); (case T => k_asm); (case k => rfl); (case d => k_room); (case u => k_units); (case U1 => k_updF); (case U2 => (intro _; k_updF)); (case U3 => (intro _ _; k_updF)); (case mh => k_mem); (case mc => k_mem); (case mo => k_mem); (case hoc => with_reducible assumption); (case hoco => with_reducible assumption); (case hB => with_reducible assumption); (case hD => with_reducible assumption); (case Tr => with_reducible assumption); (case root => rfl); (case key => exact key1 (by assumption)); (case q => omega); (case bl => omega); (case dl => omega); (case val => (constructor <;> omega)); k_whole); intro tp' vs' ob' od' otd' B' D' H' h' tk' hvs' hB' hD' hpre' hbl' hdl' hT' hTr' hoff' F' N' l1; (try dsimp only at N'); (try k_lt l1); (try k_sweep)))
theorem keys_fin {ns zs : List Nat} {ws ys : List Value} {v k : Nat} (hk : k = 4) (hl4 : ns.length = 4) (hb : ∀ z ∈ ns, z < 256) (q2 : zs.Nodup) (q3 : ∀ z, z ∈ zs ↔ z ∈ ns.take k) (q4 : zs.length ≤ k) (hI : IntsAre ws (List.take (1 + (v : Int)).toNat (zs.map fun q : Nat => (q : Int)))) :
    ∃ qs : List Nat, IntsAre ws (qs.map fun q : Nat => (q : Int)) ∧ qs.Nodup ∧ qs ≠ [] ∧ qs.length ≤ 4 ∧ ∀ q ∈ qs, q < 256 := by
  subst hk
  rw [show (1 + (v : Int)) = ((1 + v : Nat) : Int) by omega, take_cast] at hI
  rw [List.take_of_length_le (by omega)] at q3
  refine ⟨zs.take (1 + v), hI, q2.sublist (List.take_sublist _ _), fun e => ?_, by rw [List.length_take]; omega, fun q hq => hb q ((q3 q).mp (List.mem_of_mem_take hq))⟩
  have hz : zs = [] := by
    cases zs with
    | nil => rfl
    | cons a r => rw [Nat.add_comm, List.take_succ_cons] at e; cases e
  cases ns with
  | nil => simp at hl4
  | cons a r =>
    have := (q3 a).mpr (.head _)
    rw [hz] at this; cases this
theorem c_fin {prog : Program} {w : World} {p : Program} {loose : List Str} {mean : ExcName → Option Value} {mg mb : Str → Option Value} {L xs st bk cod hof td tr db he : Addr} {rest rest9 : List (Addr × Obj)} {B : List Bts} {D : List (List UInt8 × Bts)} {ℓ : Nat → Bts} {H : Nat → Nat → Bts} {nB : Nat} {h₀ h : Heap}
    {x1 x2 x3 x4 x5 : Addr × Obj} {kp se ky : Addr} {okp os oky o3 o4 ob od otd oh : Obj} {i c : Int} {t1 t2 : Tok} {n : Nat} {v3 v4 : Option Value} (AD : Adr L xs st bk cod hof td tr db he) (R : LRest prog w p loose mean mg mb L xs st bk cod hof td tr db he rest)
    (N : News h₀ L h (x1 :: (kp, okp) :: (se, os) :: (ky, oky) :: x2 :: x3 :: x4 :: x5 :: (st, stO xs i c t1 t2 n) :: (L + 1 + 1 + 1, o3) :: (L + 1 + 1 + 1 + 1, o4) :: rest9)) (hr9 : (bk, ob) :: (db, od) :: (td, otd) :: less (L + 1 + 1 + 1 + 1) (less (L + 1 + 1 + 1) rest) = rest9)
    (mhe : (he, oh) ∈ rest9) (d3 : o3.data = .cell v3) (d4 : o4.data = .cell v4) (i0 : 0 ≤ i) (c0 : 0 ≤ c) (c1 : c < 2147483647) (hB : Book prog w ob B) (hD : DB (bytesKind prog w) od D) (hT : IsTD w.params otd hof db (H 0 0)) (T : Tree B D ℓ H) (l1 : B.length ≤ nB) (l2 : D.length ≤ nB) (hs : ∀ q, (ℓ q).size < 5) :
    ∃ led', News h₀ L h led' ∧ LSt prog w p loose mean mg mb L xs st bk cod hof td tr db he led' B D ℓ H nB ∧ (he, oh) ∈ led' ∧ (kp, okp) ∈ led' ∧ (se, os) ∈ led' ∧ (ky, oky) ∈ led' ∧ (L + 1 + 1 + 1, o3) ∈ led' ∧ (L + 1 + 1 + 1 + 1, o4) ∈ led' := by
  subst hr9
  refine ⟨_, N, ?_, ?_, .tail _ (.head _), .tail _ (.tail _ (.head _)), .tail _ (.tail _ (.tail _ (.head _))), .tail _ (.tail _ (.tail _ (.tail _ (.tail _ (.tail _ (.tail _ (.tail _ (.tail _ (.head _))))))))), .tail _ (.tail _ (.tail _ (.tail _ (.tail _ (.tail _ (.tail _ (.tail _ (.tail _ (.tail _ (.head _))))))))))⟩
  · have R1 := R.putCell AD (d := L + 1 + 1 + 1) (o' := o3) (by omega) (by omega) d3
    have R2 := R1.putCell AD (d := L + 1 + 1 + 1 + 1) (o' := o4) (by omega) (by omega) d4
    refine R2.close (fun q hq => ?_) (ob := ob) (od := od) (otd := otd) (i := i) (c := c) (t1 := t1) (t2 := t2) (n := n) ?_ ?_ ?_ ?_ i0 c0 c1 hB hD hT T l1 l2 hs
    · refine .tail _ (.tail _ (.tail _ (.tail _ (.tail _ (.tail _ (.tail _ (.tail _ (.tail _ ?_))))))))
      rcases List.mem_cons.mp hq with rfl | hq
      · exact .tail _ (.head _)
      · obtain ⟨hq, hn⟩ := less_mem.mp hq
        rcases List.mem_cons.mp hq with rfl | hq
        · exact .head _
        · exact .tail _ (.tail _ (.tail _ (.tail _ (.tail _ (less_mem.mpr ⟨hq, hn⟩)))))
    · exact .tail _ (.tail _ (.tail _ (.tail _ (.tail _ (.tail _ (.tail _ (.tail _ (.head _))))))))
    · exact .tail _ (.tail _ (.tail _ (.tail _ (.tail _ (.tail _ (.tail _ (.tail _ (.tail _ (.tail _ (.tail _ (.head _)))))))))))
    · exact .tail _ (.tail _ (.tail _ (.tail _ (.tail _ (.tail _ (.tail _ (.tail _ (.tail _ (.tail _ (.tail _ (.tail _ (.head _))))))))))))
    · exact .tail _ (.tail _ (.tail _ (.tail _ (.tail _ (.tail _ (.tail _ (.tail _ (.tail _ (.tail _ (.tail _ (.tail _ (.tail _ (.head _)))))))))))))
  · exact .tail _ (.tail _ (.tail _ (.tail _ (.tail _ (.tail _ (.tail _ (.tail _ (.tail _ (.tail _ (.tail _ mhe))))))))))
section
variable {prog : Program} {w : World} {p : Program} {loose : List Str} {mean : ExcName → Option Value} {mg mb : Str → Option Value} {L xs st bk cod hof td tr db he : Addr} {led : List (Addr × Obj)} {B : List Bts} {D : List (List UInt8 × Bts)} {ℓ : Nat → Bts} {H : Nat → Nat → Bts}
theorem segC (dp un : Nat) (gd : Option (List Code)) (a : Addr) (ccd : Value) (outer : List Env) (A₀ : Around) (base h₀ : Heap) (m : Str → Option Value) (s : Shared) (Q : Flow → Shared → Prop) (E : Value → Shared → Prop) (more : List Stmt) {oh : Obj}
    (Bl : Below A₀ base outer h₀) (F : Fr h₀ L s.heap m) (X : (Mine.hd.heap_39 w.params).In h₀) (N : News h₀ L s.heap led) (T : Top p loose mean mg mb h₀) (hd : dp + 12 < recursionLimit) (hu : un + 80 < cLine)
    (AD : Adr L xs st bk cod hof td tr db he) (S : LSt prog w p loose mean mg mb L xs st bk cod hof td tr db he led B D ℓ H 50) (mhe : (he, oh) ∈ led)
    (hE : PassesOwn (model prog w) (ktrTop dp un gd lawN lawScope L a ccd (lawCl L) outer) (envX lawN lawScope L a ccd (lawCl L)) E)
    (hm1 : m (Str.ofString "state") = some (.ref st)) (hm2 : m (Str.ofString "hash_of") = some (.ref hof))
    (next : ∀ h' tk' m' led' ky kvs nk qs se os kp okp, Fr h₀ L h' m' → News h₀ L h' led' → LSt prog w p loose mean mg mb L xs st bk cod hof td tr db he led' B D ℓ H 50 → (he, oh) ∈ led' → @LT.lt Nat _ he ky → @LT.lt Nat _ ky se → @LT.lt Nat _ se kp →
      (ky, PySem.W.listOf (List.toArray kvs) nk) ∈ led' → IntsAre kvs (qs.map fun q : Nat => (q : Int)) → qs.Nodup → qs ≠ [] → qs.length ≤ 4 → (∀ q ∈ qs, q < 256) → (se, os) ∈ led' → DB (PySem.strKind prog w) os [] → (kp, okp) ∈ led' → DB (PySem.strKind prog w) okp [] →
      (∃ o, (L + 1 + 1 + 1, o) ∈ led' ∧ o.data = .cell (some (.ref ky))) → (∃ o, (L + 1 + 1 + 1 + 1, o) ∈ led' ∧ o.data = .cell (some (.ref se))) →
      m' (Str.ofString "state") = some (.ref st) → m' (Str.ofString "hash_of") = some (.ref hof) → m' (Str.ofString "kept") = some (.ref kp) →
      wpAny (model prog w) (ktrTop dp un gd lawN lawScope L a ccd (lawCl L) outer) (execs more (envX lawN lawScope L a ccd (lawCl L))) Q E { s with heap := h', toks := tk' }) :
    wpAny (model prog w) (ktrTop dp un gd lawN lawScope L a ccd (lawCl L) outer) (execs (lawSeg 6 4 ++ more) (envX lawN lawScope L a ccd (lawCl L))) Q E s := by
  have e1 : lawSeg 6 4 ++ more = _ :: _ :: _ :: _ :: more := rfl
  rw [e1]
  clear e1
  have e3 : lawScope = lawScope := rfl
  conv at e3 => lhs; whnf
  rw [lawCl_eq] at next hE ⊢
  rw [← e3] at next hE ⊢
  clear e3
  obtain ⟨rest, i, c, t1, t2, n, ob, od, otd, N1, i0, c0, c1, hB, hD, hT, R, inr, outr⟩ := S.open4 AD N
  obtain ⟨o3, v3, n3, d3⟩ := R.c3
  obtain ⟨o4, v4, n4, d4⟩ := R.c4
  obtain ⟨vs, ns, nx, mx, hx1, hx2⟩ := R.xsL
  obtain ⟨g1, g2, g3, g4, g5, g6, g7, g8⟩ := AD.he4
  obtain ⟨f1, f2, f3, f4, f5, f6, f7, f8⟩ := AD.low
  obtain ⟨h1, h2, h3, h4, h5, h6⟩ := AD.ne4
  have N9 : News h₀ L s.heap ((st, stO xs i c t1 t2 n) :: (L + 1 + 1 + 1, o3) :: (L + 1 + 1 + 1 + 1, o4) :: (bk, ob) :: (db, od) :: (td, otd) :: less (L + 1 + 1 + 1 + 1) (less (L + 1 + 1 + 1) rest)) := fun p hp => by
    rcases List.mem_cons.mp hp with rfl | hp
    · exact N1 _ (.head _)
    · rcases List.mem_cons.mp hp with rfl | hp
      · exact N1 _ (.tail _ (.tail _ (.tail _ (.tail _ n3))))
      · rcases List.mem_cons.mp hp with rfl | hp
        · exact N1 _ (.tail _ (.tail _ (.tail _ (.tail _ n4))))
        · rcases List.mem_cons.mp hp with rfl | hp
          · exact N1 _ (.tail _ (.head _))
          · rcases List.mem_cons.mp hp with rfl | hp
            · exact N1 _ (.tail _ (.tail _ (.head _)))
            · rcases List.mem_cons.mp hp with rfl | hp
              · exact N1 _ (.tail _ (.tail _ (.tail _ (.head _))))
              · exact N1 _ (.tail _ (.tail _ (.tail _ (.tail _ (less_mem.mp (less_mem.mp hp).1).1))))
  have rr : ∀ q ∈ less (L + 1 + 1 + 1 + 1) (less (L + 1 + 1 + 1) rest), q ∈ rest := fun q hq => (less_mem.mp (less_mem.mp hq).1).1
  have ri : ∀ {a : Addr} {o : Obj}, (a, o) ∈ rest → @Ne Nat a (L + 1 + 1 + 1) → @Ne Nat a (L + 1 + 1 + 1 + 1) → (a, o) ∈ (bk, ob) :: (db, od) :: (td, otd) :: less (L + 1 + 1 + 1 + 1) (less (L + 1 + 1 + 1) rest) := fun hm k1 k2 => .tail _ (.tail _ (.tail _ (in_less (in_less hm k1) k2)))
  have fx := AD.a1
  have mx9 := ri mx (by omega) (by omega)
  have r1 : ∀ q ∈ (bk, ob) :: (db, od) :: (td, otd) :: less (L + 1 + 1 + 1 + 1) (less (L + 1 + 1 + 1) rest), q.1 ≠ st := all_cons (Ne.symm h1) (all_cons (Ne.symm h2) (all_cons (Ne.symm h3) fun q hq => (R.off q (rr q hq)).1))
  have r2 : ∀ q ∈ (bk, ob) :: (db, od) :: (td, otd) :: less (L + 1 + 1 + 1 + 1) (less (L + 1 + 1 + 1) rest), q.1 ≠ L + 1 + 1 + 1 := all_cons (by omega) (all_cons (by omega) (all_cons (by omega) (less_off2 less_off)))
  have r3 : ∀ q ∈ (bk, ob) :: (db, od) :: (td, otd) :: less (L + 1 + 1 + 1 + 1) (less (L + 1 + 1 + 1) rest), q.1 ≠ L + 1 + 1 + 1 + 1 := all_cons (by omega) (all_cons (by omega) (all_cons (by omega) less_off))
  have z1 : @Ne Nat st (L + 1 + 1 + 1) := by omega
  have z2 : @Ne Nat st (L + 1 + 1 + 1 + 1) := by omega
  have z3 : @Ne Nat (L + 1 + 1 + 1) (L + 1 + 1 + 1 + 1) := by omega
  have mhe' := inr he oh mhe g1 g2 g3 g4
  have mhe9 := ri mhe' (by omega) (by omega)
  generalize hr9 : (bk, ob) :: (db, od) :: (td, otd) :: less (L + 1 + 1 + 1 + 1) (less (L + 1 + 1 + 1) rest) = rest9 at N9 mx9 r1 r2 r3 mhe9
  clear N N1 ri rr h1 h2 h3 h4 h5 h6
  k_steps
  show wpAny _ _ _ _ _ _
  rename News _ _ _ _ => N8
  obtain ⟨vs4, ns4, hI4, hl4, hb4, N8⟩ := four_keys (by assumption) N8
  have hvl4 : vs4.length = 4 := by have := hI4.length; rw [List.length_map] at this; omega
  rename Fr _ _ _ _ => F8
  refine ListComp_E F8 (by with_unfolding_all rfl) (by rfl) (by decide) ?_
  k_steps
  show wpAny _ _ _ _ _ _
  refine esrc_enum (fun i ys => ∃ zs : List Nat, IntsAre ys (zs.map fun q : Nat => (q : Int)) ∧ zs.Nodup ∧ (∀ z, z ∈ zs ↔ z ∈ ns4.take i) ∧ zs.length ≤ i) rfl (by decide) (by rfl) (by rfl) (by rfl) (by decide) (by assumption) (by assumption) (.head _) (by omega) ⟨[], .nil, .nil, fun z => by simp, Nat.le_refl _⟩ ?_ ?_
  · rintro i ys v t e it C D oe oi oC m₂ h tk E' hi ⟨zs, q1, q2, q3, q4⟩ hv hC hx1 hx2 F' N'
    obtain ⟨z, tz, rfl, hz⟩ := hI4.at i v hv
    rw [List.getElem?_map] at hz
    obtain ⟨q, hq, rfl⟩ := Option.map_eq_some_iff.mp hz
    k_steps
    · refine' QEnd.intro ?F ?N ?s ?r
      (case F => assumption); (case N => assumption); (case s => kcf_all)
      (case r => exact ⟨zs, q1, q2, dedup_old hq q3 (by assumption), Nat.le_succ_of_le q4⟩)
    · refine' QEnd.intro ?F ?N ?s ?r
      (case F => assumption); (case N => assumption); (case s => kcf_all)
      (case r => exact dedup_new hq q1 q2 q3 q4 (by assumption))
  · rintro D h tk ys F' N' hlt ⟨zs, q1, q2, q3, q4⟩
    (k_lt hlt)
    have hyl : ys.length ≤ 4 := by have := q1.length; rw [List.length_map] at this; omega
    k_steps
    try clear N9
    rename IntsAre _ (List.take _ _) => hI7
    obtain ⟨qs, w1, w2, w3, w4, w5⟩ := keys_fin (ys := ys) hvl4 hl4 hb4 q2 q3 q4 hI7
    rename News _ _ _ _ => N7
    rename Fr _ _ _ _ => F7
    obtain ⟨led', NN, SS, me, mk, ms, my, m3, m4⟩ := c_fin AD R N7 hr9 mhe9 (by assumption) (by assumption) (by assumption) (by assumption) (by assumption) hB hD hT S.T S.lim.1 S.lim.2 S.small
    refine' next _ _ _ led' _ _ _ qs _ _ _ _ F7 NN SS me ?a1 ?a2 ?a3 my w1 w2 w3 w4 w5 ms ?d1 mk ?d2 ⟨_, m3, ?e1⟩ ⟨_, m4, ?e2⟩ ?n1 ?n2 ?n3
    (case a1 => (rename _ ∧ _ ∧ _ ∧ _ ∧ _ ∧ _ ∧ _ ∧ AllLt _ rest9 => l7; exact allLt_mem l7.2.2.2.2.2.2.2 _ mhe9))
    (case a2 => omega); (case a3 => omega); (case d1 => exact DB.nil (by assumption)); (case d2 => exact DB.nil (by assumption)); (case e1 => assumption); (case e2 => assumption)
    (case n1 => exact hm1); (case n2 => exact hm2); (case n3 => rfl)
end
end Mine
end
section
theorem Mine.offDm : True := by w_top off; trivial
open PySem PySem.W PyProof.Rows PySem.Calls
set_option Elab.async false
set_option maxRecDepth 100000
set_option maxHeartbeats 2000000
set_option linter.unusedSimpArgs false
set_option linter.unusedSectionVars false
set_option linter.unusedVariables false
namespace Mine
/-! what was seen -/
section
variable {prog : Program} {w : World} {p : Program} {loose : List Str} {mean : ExcName → Option Value} {mg mb : Str → Option Value} {L xs st bk cod hof td tr db he : Addr} {led led' : List (Addr × Obj)} {B : List Bts} {D : List (List UInt8 × Bts)} {ℓ : Nat → Bts} {H : Nat → Nat → Bts} {nB : Nat}
/-- nothing but some later objects and one cell has changed -/
theorem LSt.keep (AD : Adr L xs st bk cod hof td tr db he) (S : LSt prog w p loose mean mg mb L xs st bk cod hof td tr db he led B D ℓ H nB) {c : Addr} (chg : Addr → Prop) (hk : ∀ a o, (a, o) ∈ led → ¬ chg a → (a, o) ∈ led') (h1 : @LT.lt Nat _ (L + 2) c) (h2 : @LT.lt Nat _ c (L + 8)) (hc : ∃ o v, (c, o) ∈ led' ∧ o.data = .cell v) (hch : ∀ a : Addr, chg a → a = c ∨ @LT.lt Nat _ db a) :
    LSt prog w p loose mean mg mb L xs st bk cod hof td tr db he led' B D ℓ H nB := by
  obtain ⟨a0, a1, a2, a3, a4, a5, a6, a7, a8, a9⟩ := AD
  have nc : ∀ {a : Addr}, @Ne Nat a c → @LE.le Nat _ a db → ¬ chg a := fun {a} h h' q => by
    rcases hch a q with e | e
    · exact h e
    · exact absurd (Nat.lt_of_lt_of_le e h') (Nat.lt_irrefl _)
  obtain ⟨i, cc, t1, t2, n, m1, i0, c0, c1'⟩ := S.state
  obtain ⟨ob, m2, hB⟩ := S.book
  obtain ⟨od, m3, hD⟩ := S.tdb
  obtain ⟨otd, m4, hT⟩ := S.tree
  obtain ⟨vs, ns, nx, mx, hx1, hx2⟩ := S.xsL
  obtain ⟨nm, ql, ps, bd, sc, clo, pm, ctv, oc, oco, mh, mc, mo, k1, k2, HC⟩ := S.hash
  obtain ⟨o1, n1, d1⟩ := S.c1
  obtain ⟨o2, n2, d2⟩ := S.c2
  obtain ⟨ps', mt⟩ := S.tab
  have cell : ∀ {a : Addr}, @LE.le Nat _ a db → (∃ o v, (a, o) ∈ led ∧ o.data = .cell v) → ∃ o v, (a, o) ∈ led' ∧ o.data = .cell v := fun {a} ha ⟨o, v, hm, hv⟩ => by
    by_cases e : @Eq Nat a c
    · have e' : a = c := e
      rw [e']; exact hc
    · exact ⟨o, v, hk a o hm (nc e ha), hv⟩
  refine ⟨⟨i, cc, t1, t2, n, hk _ _ m1 (nc ?_ ?_), i0, c0, c1'⟩, ⟨vs, ns, nx, hk _ _ mx (nc ?_ ?_), hx1, hx2⟩, ⟨ob, hk _ _ m2 (nc ?_ ?_), hB⟩, ⟨od, hk _ _ m3 (nc ?_ ?_), hD⟩, ⟨otd, hk _ _ m4 (nc ?_ ?_), hT⟩, hk _ _ S.inst (nc ?_ ?_), S.T, ⟨nm, ql, ps, bd, sc, clo, pm, ctv, oc, oco, hk _ _ mh (nc ?_ ?_), hk _ _ mc (nc ?_ ?_), hk _ _ mo (nc ?_ ?_), k1, k2, HC⟩, ⟨o1, hk _ _ n1 (nc ?_ ?_), d1⟩, ⟨o2, hk _ _ n2 (nc ?_ ?_), d2⟩, cell ?_ S.c3, cell ?_ S.c4, cell ?_ S.c5, cell ?_ S.c6, cell ?_ S.c7, ⟨ps', hk _ _ mt (nc ?_ ?_)⟩, S.lim, S.small⟩
  all_goals omega
end
structure SeJ where
  os : Obj
  SV : List (Str × Bts)
  o5 : Obj
structure SeP (prog : Program) (w : World) (H : Nat → Nat → Bts) (P : Nat → Nat → Prop) (n : Nat) (c : SeJ) : Prop where
  dbk : DB (PySem.strKind prog w) c.os c.SV
  mem : ∀ k b, look c.SV k = some b → ∃ q j, j < 8 ∧ q < 256 ∧ P q j ∧ k = pathStr (8 - j) (sib (q / 2 ^ j)) ∧ b = H (8 - j) (sib (q / 2 ^ j))
  all : ∀ q j, j < 8 → P q j → look c.SV (pathStr (8 - j) (sib (q / 2 ^ j))) = some (H (8 - j) (sib (q / 2 ^ j)))
  len : c.SV.length ≤ n
  cell : ∃ v, c.o5.data = Data.cell v
theorem SeP.congr {prog : Program} {w : World} {H : Nat → Nat → Bts} {P P' : Nat → Nat → Prop} {n n' : Nat} {c : SeJ} (S : SeP prog w H P n c) (h : ∀ q j, j < 8 → (P q j ↔ P' q j)) (hn : n = n') : SeP prog w H P' n' c := by
  subst hn
  refine ⟨S.dbk, fun k b e => ?_, fun q j hj hp => S.all q j hj ((h q j hj).mpr hp), S.len, S.cell⟩
  obtain ⟨q, j, a1, a2, a3, a4, a5⟩ := S.mem k b e
  exact ⟨q, j, a1, a2, (h q j a1).mp a3, a4, a5⟩
/-- what is told of a place twice is told alike -/
theorem SeP.same {prog : Program} {w : World} {H : Nat → Nat → Bts} {P : Nat → Nat → Prop} {n q k : Nat} {c : SeJ} (S : SeP prog w H P n c) (hq : q < 256) (hk : k < 8) :
    (look c.SV (pathStr (k + 1) (sib (q / 2 ^ (7 - k))))).getD (H (k + 1) (sib (q / 2 ^ (7 - k)))) = H (k + 1) (sib (q / 2 ^ (7 - k))) := by
  cases e : look c.SV (pathStr (k + 1) (sib (q / 2 ^ (7 - k)))) with
  | none => rfl
  | some b =>
    obtain ⟨q', j, a1, a2, a3, a4, a5⟩ := S.mem _ _ e
    have s1 := sib_lt hq (i := 7 - k) (by omega)
    rw [show 8 - (7 - k) = k + 1 by omega] at s1
    obtain ⟨e1, e2⟩ := path_inj2 s1 (sib_lt a2 a1) a4
    show b = _
    rw [a5, e1, e2]
theorem SeP.put {prog : Program} {w : World} {H : Nat → Nat → Bts} {P P' : Nat → Nat → Prop} {n q k : Nat} {os o5 os' o5' : Obj} {SV : List (Str × Bts)} (S : SeP prog w H P n ⟨os, SV, o5⟩) (hq : q < 256) (hk : k < 8) (hP : ∀ q' j, j < 8 → (P' q' j ↔ (P q' j ∨ (q' = q ∧ j = 7 - k))))
    (hd : DB (PySem.strKind prog w) os' (put SV (pathStr (k + 1) (sib (q / 2 ^ (7 - k)))) (H (k + 1) (sib (q / 2 ^ (7 - k)))))) (hc : ∃ v, o5'.data = Data.cell v) : SeP prog w H P' (n + 1) ⟨os', Mine.put SV (pathStr (k + 1) (sib (q / 2 ^ (7 - k)))) (H (k + 1) (sib (q / 2 ^ (7 - k)))), o5'⟩ := by
  have e8 : 8 - (7 - k) = k + 1 := by omega
  refine ⟨hd, fun k' b e => ?_, fun q' j hj hp => ?_, Nat.le_trans (put_length _ _ _) (Nat.succ_le_succ S.len), hc⟩
  · simp only at e
    rw [look_put] at e
    split at e
    · rename_i h
      cases e
      exact ⟨q, 7 - k, by omega, hq, (hP _ _ (by omega)).mpr (.inr ⟨rfl, rfl⟩), by rw [e8]; exact h.symm, by rw [e8]⟩
    · obtain ⟨q', j, a1, a2, a3, a4, a5⟩ := S.mem _ _ e
      exact ⟨q', j, a1, a2, (hP _ _ a1).mpr (.inl a3), a4, a5⟩
  · simp only
    rw [look_put]
    have s1 := sib_lt hq (i := 7 - k) (by omega)
    rw [e8] at s1
    rcases (hP _ _ hj).mp hp with h | ⟨rfl, rfl⟩
    · have ha := S.all q' j hj h
      simp only at ha
      split
      · rename_i h'
        obtain ⟨q2, j2, b1, b2, b3, b4, b5⟩ := S.mem _ _ ha
        rw [b4] at h'
        obtain ⟨e1, e2⟩ := path_inj2 s1 (sib_lt b2 b1) h'
        rw [b5, e1, e2]
      · exact ha
    · rw [e8, if_pos rfl]
theorem branch_use {prog : Program} {w : World} {p : Program} {loose : List Str} {mean : ExcName → Option Value} {mg mb : Str → Option Value}
    (dp un : Nat) (gd : Option (List Code)) (cn : Str) (cs : Scope) (a : Addr) (ccd : Value) (cl : List (Str × Addr)) (outer : List Env) (A₀ : Around) (base h₀ : Heap) (L : Addr) (m : Str → Option Value) (s : Shared) (Q E : Value → Shared → Prop)
    {news : List (Addr × Obj)} {tr td db hof : Addr} {od otd : Obj} {root key : Bts} {tkk : Tok} {q : Nat} {B : List Bts} {D : List (List UInt8 × Bts)} {ℓ : Nat → Bts} {H : Nat → Nat → Bts}
    (mt : (tr, instObj 168 td) ∈ news) (md : (td, otd) ∈ news) (hT : IsTD w.params otd hof db root)
    (Bl : Below A₀ base outer h₀) (F : Fr h₀ L s.heap m) (X : (Mine.hd.heap_39 w.params).In h₀) (N : News h₀ L s.heap news) (T : Top p loose mean mg mb h₀) (hk : cs.kind = .function) (hd : dp + 6 < recursionLimit) (hu : un + 40 < cLine)
    (mdb : (db, od) ∈ news) (hD : DB (bytesKind prog w) od D) (Tr : Tree B D ℓ H) (hroot : root = H 0 0) (hkey : KBw.bInts key = [(q : Int)]) (hq : q < 256)
    (hret : ∀ (tp : Addr) (vs : List Value) (h' : Heap) (tk' : Nat), BytesAre vs (branchOf H q) → Fr h₀ L h' m → News h₀ L h' ((tp, tupO vs) :: news) → (∀ q ∈ news, q.1 < tp) → Q (.ref tp) { s with heap := h', toks := tk' }) :
    wpAny (model prog w) (ktrTop dp un gd cn cs L a ccd cl outer) (call (.ref 109) [.ref tr, .bytes key tkk]) Q E s :=
  branchI_ok dp un gd cn cs a ccd cl outer A₀ base h₀ L m s Q E Bl F X N T hk hd hu mt md mdb hT hD Tr hroot hq hkey hret
abbrev seLed (se c5 : Addr) (rest : List (Addr × Obj)) (c : SeJ) : List (Addr × Obj) := (se, c.os) :: (c5, c.o5) :: rest
section
variable {prog : Program} {w : World} {A : Around} {E : Value → Shared → Prop} {s : Shared} {env : Env} {h₀ : Heap} {x : Str} {body : List Stmt} {Q : Flow → Shared → Prop}
theorem seen_loop {se c5 ky : Addr} {rest : List (Addr × Obj)} {kvs : List Value} {nk : Nat} {qs : List Nat} {os o5 : Obj} {v5 : Option Value} {H : Nat → Nat → Bts} {m₀ : Str → Option Value}
    (hh : A.handled = none) (F : Fr h₀ env.locals s.heap m₀) (N : News h₀ env.locals s.heap ((se, os) :: (c5, o5) :: rest)) (mky : (ky, PySem.W.listOf kvs.toArray nk) ∈ rest) (hI : IntsAre kvs (qs.map fun q : Nat => (q : Int))) (hqb : ∀ q ∈ qs, q < 256) (r1 : ∀ q ∈ rest, q.1 ≠ se) (r2 : ∀ q ∈ rest, q.1 ≠ c5)
    (hd : DB (PySem.strKind prog w) os []) (h5 : o5.data = .cell v5)
    (turn : ∀ (I : Addr) (c : SeJ) (i q : Nat) (t : Tok) (u : Str → Option Value) h tk own (rest' : List (Addr × Obj)), qs[i]? = some q → i < qs.length → q < 256 → (∀ q ∈ rest', q.1 ≠ se) → (∀ q ∈ rest', q.1 ≠ c5) → (∀ q ∈ rest, q ∈ rest') → (∀ q ∈ own, q ∈ rest') → @Ne Nat se I → @Ne Nat c5 I → (∀ q ∈ rest, q.1 ≠ I) → SeP prog w H (fun q j => q ∈ qs.take i) (8 * i) c →
      Fr h₀ env.locals h (fun y => if y = x then some (.int (q : Int) t) else if [Str.ofString "branch", Str.ofString "path", Str.ofString "k"].contains y then u y else m₀ y) → News h₀ env.locals h ((se, c.os) :: (c5, c.o5) :: rest') →
      wpAny (model prog w) A (execs body env) (PostF h₀ env.locals (KN (seLed se c5 rest) (fun _ => []) x [Str.ofString "branch", Str.ofString "path", Str.ofString "k"] m₀ (fun i c => SeP prog w H (fun q j => q ∈ qs.take i) (8 * i) c) (i + 1)) own I { s with heap := h, toks := tk } Q) E { s with heap := h, toks := tk })
    (done : ∀ (c : SeJ) (u : Str → Option Value) h tk, SeP prog w H (fun q j => q ∈ qs) (8 * qs.length) c → Fr h₀ env.locals h (fun y => if y = x then u y else if [Str.ofString "branch", Str.ofString "path", Str.ofString "k"].contains y then u y else m₀ y) → News h₀ env.locals h ((se, c.os) :: (c5, c.o5) :: rest) → Q .next { s with heap := h, toks := tk }) :
    wpAny (model prog w) A (pyIter (.ref ky)) (fun it s₂ => LoopAtV prog w A h₀ env x body Q E it s₂) E s := by
  have hkl : kvs.length = qs.length := by have := hI.length; rw [List.length_map] at this; omega
  refine kf_list (seLed se c5 rest) (fun _ => []) [Str.ofString "branch", Str.ofString "path", Str.ofString "k"] (fun i c => SeP prog w H (fun q j => q ∈ qs.take i) (8 * i) c) ⟨os, [], o5⟩ hh F N (.tail _ (.tail _ mky)) (fun p hp => nomatch hp) ⟨hd, (fun k b e => by cases e), (fun q j _ hp => by simp at hp), Nat.le_refl _, ⟨v5, h5⟩⟩ ?_ ?_
  · intro I c i v u h tk own hlt hi hv hoff hown hI' hP F' N'
    obtain ⟨z, t, rfl, hz⟩ := hI.at i v hv
    rw [List.getElem?_map] at hz
    obtain ⟨q, hq, rfl⟩ := Option.map_eq_some_iff.mp hz
    have nI1 : @Ne Nat se I := hoff _ (.head _)
    have nI2 : @Ne Nat c5 I := hoff _ (.tail _ (.head _))
    have off : ∀ z : Addr, @Ne Nat z I → @Ne Nat ky z → (∀ q ∈ rest, q.1 ≠ z) → ∀ q ∈ rest ++ own, q.1 ≠ z := fun z h1 h2 h3 q hq => (List.mem_append.mp hq).elim (h3 q) fun hq => by
      rcases hown q hq with e | e
      · rw [e]; exact Ne.symm h1
      · rw [e]; exact h2
    exact turn I c i q t u h tk own (rest ++ own) hq (by omega) (hqb q (List.mem_of_getElem? hq)) (off se nI1 (r1 _ mky) r1) (off c5 nI2 (r2 _ mky) r2) (fun q hq => List.mem_append_left _ hq) (fun q hq => List.mem_append_right _ hq) nI1 nI2 (fun q hq => hoff q (.tail _ (.tail _ hq))) hP F' N'
  · intro c u h tk hP F' N'
    rw [hkl] at hP
    exact done c u h tk (hP.congr (fun q j _ => by rw [List.take_length]) rfl) F' N'
theorem seen_in {se c5 r : Addr} {rest : List (Addr × Obj)} {os o5 : Obj} {SV : List (Str × Bts)} {t₀ u₀ v₀ : Tok} {i q : Nat} {qs : List Nat} {H : Nat → Nat → Bts} {m₀ : Str → Option Value}
    {tp : Addr} {vs : List Value} {rest0 : List (Addr × Obj)} (hvs : BytesAre vs (branchOf H q)) (hrest : rest = (tp, tupO vs) :: rest0)
    (hh : A.handled = none) (hr : IsRange s.heap r 0 8 1 t₀ u₀ v₀) (F : Fr h₀ env.locals s.heap m₀) {all : List (Addr × Obj)} (N : News h₀ env.locals s.heap all) (sub : ∀ p ∈ (se, os) :: (c5, o5) :: rest, p ∈ all) (r1 : ∀ q ∈ rest, q.1 ≠ se) (r2 : ∀ q ∈ rest, q.1 ≠ c5)
    (hq : qs[i]? = some q) (P : SeP prog w H (fun q j => q ∈ qs.take i) (8 * i) ⟨os, SV, o5⟩)
    (turn : ∀ (os : Obj) (SV : List (Str × Bts)) (o5 : Obj) (k : Nat) (t : Tok) (u : Str → Option Value) h tk own (rest' : List (Addr × Obj)), k < 8 → (∀ q ∈ rest', q.1 ≠ se) → (∀ q ∈ rest', q.1 ≠ c5) → (∀ q ∈ rest, q ∈ rest') → (∀ q ∈ own, q ∈ rest') → SeP prog w H (fun q' j => q' ∈ qs.take i ∨ (q' = q ∧ 8 - k ≤ j)) (8 * i + k) ⟨os, SV, o5⟩ →
      Fr h₀ env.locals h (fun y => if y = x then some (.int (k : Int) t) else m₀ y) → News h₀ env.locals h ((se, os) :: (c5, o5) :: rest') →
      wpAny (model prog w) A (execs body env) (InvPostN h₀ env.locals (KN (seLed se c5 rest) (fun _ => []) x [] m₀ (fun k c => SeP prog w H (fun q' j => q' ∈ qs.take i ∨ (q' = q ∧ 8 - k ≤ j)) (8 * i + k) c) (k + 1)) own (se :: c5 :: rest.map (·.1)) { s with heap := h, toks := tk } Q) E { s with heap := h, toks := tk })
    (done : ∀ (c : SeJ) (u : Str → Option Value) h tk, SeP prog w H (fun q j => q ∈ qs.take (i + 1)) (8 * (i + 1)) c → Fr h₀ env.locals h (fun y => if y = x then u y else m₀ y) → News h₀ env.locals h ((se, c.os) :: (c5, c.o5) :: rest) → Q .next { s with heap := h, toks := tk }) :
    wpAny (model prog w) A (pyIter (.ref r)) (fun it s₂ => LoopAtV prog w A h₀ env x body Q E it s₂) E s := by
  refine kn_range (n := 8) (seLed se c5 rest) (fun _ => []) [] (fun k c => SeP prog w H (fun q' j => q' ∈ qs.take i ∨ (q' = q ∧ 8 - k ≤ j)) (8 * i + k) c) ⟨os, SV, o5⟩ hh hr rfl (by decide) F (fun p hp => N p (sub p hp)) (fun p hp => nomatch hp) (P.congr (fun q' j hj => ?_) rfl) ?_ ?_
  · constructor
    · exact .inl
    · rintro (h | ⟨_, h⟩)
      · exact h
      · omega
  · rintro ⟨os, SV, o5⟩ k t u h tk own hk hoff hP F' N'
    have o1 : ∀ z : Addr, z ∈ se :: c5 :: rest.map (·.1) → (∀ q ∈ rest, q.1 ≠ z) → ∀ q ∈ rest ++ own, q.1 ≠ z := fun z hz hr q hq => (List.mem_append.mp hq).elim (hr q) fun hq => hoff q hq z hz
    exact turn os SV o5 k t u h tk own (rest ++ own) hk (o1 se (.head _) r1) (o1 c5 (.tail _ (.head _)) r2) (fun q hq => List.mem_append_left _ hq) (fun q hq => List.mem_append_right _ hq) hP F' N'
  · intro c u h tk hP F' N'
    refine done c u h tk (hP.congr (fun q' j hj => ?_) (by omega)) F' N'
    rw [take_get hq, List.mem_append, List.mem_singleton]
    constructor
    · rintro (h | ⟨h, _⟩)
      · exact .inl h
      · exact .inr h
    · rintro (h | h)
      · exact .inl h
      · exact .inr ⟨h, by omega⟩
end
theorem seen_in_end {prog : Program} {w : World} {H : Nat → Nat → Bts} {se c5 L : Addr} {rest rest' own all : List (Addr × Obj)} {os o5 os' o5' : Obj} {SV : List (Str × Bts)} {v5 : Option Value} {i k q : Nat} {qs : List Nat} {m₀ m' : Str → Option Value} {x : Str} {h₀ h' : Heap} {s₁ : Shared} {tk : Nat}
    (P : SeP prog w H (fun q' j => q' ∈ qs.take i ∨ (q' = q ∧ 8 - k ≤ j)) (8 * i + k) ⟨os, SV, o5⟩) (hq : q < 256) (hk : k < 8) (hsub : ∀ q ∈ rest, q ∈ rest') (hown : ∀ q ∈ own, q ∈ rest') (F : Fr h₀ L h' m') (N : News h₀ L h' all) (sub : ∀ p ∈ (se, os') :: (c5, o5') :: rest', p ∈ all)
    (hd : DB (PySem.strKind prog w) os' (put SV (pathStr (k + 1) (sib (q / 2 ^ (7 - k)))) (H (k + 1) (sib (q / 2 ^ (7 - k)))))) (hc : o5'.data = Data.cell v5) (hsame : ∀ z, z ≠ x → m' z = m₀ z) :
    InvEndN h₀ L (KN (seLed se c5 rest) (fun _ => []) x [] m₀ (fun k c => SeP prog w H (fun q' j => q' ∈ qs.take i ∨ (q' = q ∧ 8 - k ≤ j)) (8 * i + k) c) (k + 1)) own (se :: c5 :: rest.map (·.1)) s₁ { s₁ with heap := h', toks := tk } := by
  refine kn_end ⟨os', put SV (pathStr (k + 1) (sib (q / 2 ^ (7 - k)))) (H (k + 1) (sib (q / 2 ^ (7 - k)))), o5'⟩ F (fun p hp => N p (sub p hp)) ?_ ?_ rfl (fun p hp => nomatch hp) (fun z h1 _ _ => hsame z h1) ?_
  · intro p hp
    rcases List.mem_cons.mp hp with rfl | hp
    · exact .head _
    · rcases List.mem_cons.mp hp with rfl | hp
      · exact .tail _ (.head _)
      · exact .tail _ (.tail _ (hsub p hp))
  · intro p hp
    exact .tail _ (.tail _ (hown p hp))
  · refine P.put hq hk (fun q' j hj => ?_) hd ⟨v5, hc⟩
    constructor
    · rintro (h | ⟨h1, h2⟩)
      · exact .inl (.inl h)
      · by_cases e : j = 7 - k
        · exact .inr ⟨h1, e⟩
        · exact .inl (.inr ⟨h1, by omega⟩)
    · rintro ((h | ⟨h1, h2⟩) | ⟨h1, h2⟩)
      · exact .inl h
      · exact .inr ⟨h1, by omega⟩
      · exact .inr ⟨h1, by omega⟩
theorem seen_out_end {prog : Program} {w : World} {H : Nat → Nat → Bts} {se c5 L I : Addr} {rest rest' own all : List (Addr × Obj)} {os o5 : Obj} {SV : List (Str × Bts)} {i : Nat} {qs : List Nat} {m₀ m' : Str → Option Value} {x : Str} {h₀ h' : Heap} {s₁ : Shared} {tk : Nat}
    (P : SeP prog w H (fun q j => q ∈ qs.take (i + 1)) (8 * (i + 1)) ⟨os, SV, o5⟩) (hsub : ∀ q ∈ rest, q ∈ rest') (hown : ∀ q ∈ own, q ∈ rest') (n1 : @Ne Nat se I) (n2 : @Ne Nat c5 I) (n3 : ∀ q ∈ rest, q.1 ≠ I) (F : Fr h₀ L h' m') (N : News h₀ L h' all) (sub : ∀ p ∈ (se, os) :: (c5, o5) :: rest', p ∈ all)
    (hsame : ∀ z, z ≠ x → [Str.ofString "branch", Str.ofString "path", Str.ofString "k"].contains z = false → m' z = m₀ z) :
    EndF h₀ L (KN (seLed se c5 rest) (fun _ => []) x [Str.ofString "branch", Str.ofString "path", Str.ofString "k"] m₀ (fun i c => SeP prog w H (fun q j => q ∈ qs.take i) (8 * i) c) (i + 1)) own I s₁ { s₁ with heap := h', toks := tk } := by
  refine kf_end ⟨os, SV, o5⟩ F (fun p hp => N p (sub p hp)) ?_ ?_ ?_ (fun p hp => nomatch hp) (fun z h1 _ h3 => hsame z h1 h3) P
  · intro p hp
    rcases List.mem_cons.mp hp with rfl | hp
    · exact .head _
    · rcases List.mem_cons.mp hp with rfl | hp
      · exact .tail _ (.head _)
      · exact .tail _ (.tail _ (hsub p hp))
  · intro p hp
    exact .tail _ (.tail _ (hown p hp))
  · intro p hp
    rcases List.mem_cons.mp hp with rfl | hp
    · exact n1
    · rcases List.mem_cons.mp hp with rfl | hp
      · exact n2
      · exact n3 p hp
theorem slice_up {q k : Nat} (hk : k < 8) : Txt.slice (pathStr 8 q) none (some ((k : Int) + 1)) = pathStr (k + 1) (q / 2 ^ (7 - k)) := by
  have := slice_path (d := 8) (q := q) (k := k + 1) (j := ((k : Int) + 1)) (by omega) (by omega)
  rw [this, show 8 - (k + 1) = 7 - k by omega]
theorem branch_item {H : Nat → Nat → Bts} {q k : Nat} {vs : List Value} (hvs : BytesAre vs (branchOf H q)) (hk : k < 8) : ∃ t, vs[k]? = some (Value.bytes (H (k + 1) (sib (q / 2 ^ (7 - k)))) t) :=
  hvs.get k _ (by
    have h2 : k < (branchOf H q).length := by rw [branchOf_len]; exact hk
    rw [List.getElem?_eq_getElem h2]
    simp [branchOf])
section
variable {prog : Program} {w : World} {A : Around} {E : Value → Shared → Prop} {s : Shared} {h₀ : Heap} {L tp : Addr} {news : List (Addr × Obj)} {vs : List Value} {value slice : PySem.Expr}
theorem item_tup {k : Nat} {v : Value} {t : Tok} {Q : Value → Shared → Prop} (N : News h₀ L s.heap news) (hm : (tp, tupO vs) ∈ news) (hv : vs[k]? = some v) (hl : vs.length ≤ 1000000) (h : Q v s)
    (hs : subscripted slice false (.ref tp) (.int (k : Int) t) = operate [.ref tp, .int (k : Int) t] (getItem (.ref tp) (.int (k : Int) t)) := by with_unfolding_all rfl) :
    wpAny (model prog w) A (subscriptTail value slice (.ref tp) (.int (k : Int) t)) Q E s := by
  have hT : IsTup s.heap tp vs.toArray := ⟨_, (N _ hm).1, rfl, 0, rfl⟩
  have hlt : k < vs.length := (List.getElem?_eq_some_iff.mp hv).1
  have hg : seqIndex? (k : Int) vs.length = some k := by
    have : ¬ (k : Int) < 0 := by omega
    simp [seqIndex?, this, hlt]
  exact item_tupleT hT (by omega) (by omega) hg hv h hs
theorem db_get_same {K : Type} [DecidableEq K] {knd : KeyKind prog w K} {o : Obj} {l : List (K × Bts)} {d : Addr} {k : K} {key : Value} {dk : Bts} {tk : Tok} {Q : Value → Shared → Prop} (N : News h₀ L s.heap news) (hp : (d, o) ∈ news) (hd : DB knd o l) (lo : (d == sysModules) = false) (hkey : knd.is k key = true) (hs : (look l k).getD dk = dk)
    (h : ∀ tk', Q (.bytes dk tk') { s with toks := s.toks + 1 }) : wpAny (model prog w) A (call (.builtin "dict.get") [.ref d, key, .bytes dk tk]) Q E s :=
  db_get2 N hp hd lo hkey fun tk' => by rw [hs]; exact h tk'
theorem ne_same {b : Bts} {t u : Tok} {Q : Value → Shared → Prop} (h : Q (.bool false) s) : wpAny (model prog w) A (compareOp .NotEq (.bytes b t) (.bytes b u)) Q E s := by
  refine ne_bytes ?_
  have : (b.toList != b.toList) = false := by simp
  rw [this]; exact h
theorem len_branch {H : Nat → Nat → Bts} {q : Nat} {Q : Value → Shared → Prop} (N : News h₀ L s.heap news) (hm : (tp, tupO vs) ∈ news) (hb : BytesAre vs (branchOf H q)) (h : Q (.int 8 (s.toks + 1)) { s with toks := s.toks + 1 + 1 }) : wpAny (model prog w) A (call (.builtin "len") [.ref tp]) Q E s := by
  have hT : IsTup s.heap tp vs.toArray := ⟨_, (N _ hm).1, rfl, 0, rfl⟩
  have hz : vs.toArray.size = 8 := by rw [List.size_toArray, hb.length, branchOf_len]
  refine len_tuple hT (by rw [hz]; omega) ?_
  rw [hz]; exact h
theorem len_tup {Q : Value → Shared → Prop} (N : News h₀ L s.heap news) (hm : (tp, tupO vs) ∈ news) (hl : vs.length ≤ 1000000) (h : Q (.int vs.length (s.toks + 1)) { s with toks := s.toks + 1 + 1 }) : wpAny (model prog w) A (call (.builtin "len") [.ref tp]) Q E s := by
  have hT : IsTup s.heap tp vs.toArray := ⟨_, (N _ hm).1, rfl, 0, rfl⟩
  have hz : vs.toArray.size = vs.length := List.size_toArray
  refine len_tuple hT (by rw [hz]; omega) ?_
  rw [hz]; exact h
end
end Mine
end
section
open PySem PySem.W PyProof.Rows PySem.Calls
set_option Elab.async false
set_option maxRecDepth 100000
set_option maxHeartbeats 4000000
set_option linter.unusedSimpArgs false
set_option linter.unusedSectionVars false
set_option linter.unusedVariables false
theorem Mine.fillLd : (fun (_ : OpenLaw) (_ : Params → Frag) => True) PySem.Challenge.rw_bs0043_01 Mine.hd.heap_39 := by w_top off; k_fill; trivial
namespace Mine
local macro_rules | `(tactic| k_ne) => `(tactic| (refine neN ?_; (try dsimp only); first | with_reducible assumption | exact Ne.symm (by with_reducible assumption) | omega))
local macro_rules | `(tactic| k_all) => `(tactic| first | with_reducible assumption | (refine' all_cons ?a ?b; (case a => first | with_reducible assumption | exact Ne.symm (by with_reducible assumption) | omega); (case b => k_all)))
local macro_rules | `(tactic| k_mem) => `(tactic| first | assumption | exact List.mem_append_left _ (by assumption))
local macro_rules | `(tactic| k_room) => `(tactic| ((try simp only [depth_under_make, depth_under_kw, depth_in1, depth_deeper, depth_caller]); (try dsimp only [ktrTop]); omega))
local macro_rules | `(tactic| k_units) => `(tactic| ((have hcL9 := cLine_is); (try simp only [units_under_make, units_in1, units_deeper, Around.mark_units, units_caller]); (try dsimp only [ktrTop]); omega))
local macro_rules | `(tactic| walk_at "eval Name") => `(tactic| (k_here; (with_reducible show wpAny _ _ (eval (Expr.Name _ _) (envX _ _ _ _ _ _)) _ _ _); k_dflt (first
  | (refine' nameX_L ?F ?v ?_ ?a ?b; (case F => k_asm); (case a => rfl); (case b => rfl); (case v => first | rfl | assumption); k_whole)
  | (refine' nameX_C ?N ?c ?m ?d ?_ ?a ?b; (case a => rfl); (case b => rfl); (case N => k_asm); (case c => rfl); (case m => k_mem); (case d => k_asm); k_whole)
  | (refine' nameX_K ?F ?X ?T ?e ?_ ?a ?b; (case F => k_asm); (case X => k_asm); (case T => k_asm); (case a => rfl); (case b => rfl); (case e => k_is); k_whole)
  | (refine' nameX_B ?F ?X ?T ?e ?v ?n ?_ ?a ?b; (case F => k_asm); (case X => k_asm); (case T => k_asm); (case a => rfl); (case b => rfl); (case e => k_is); (case v => boot_fast); (case n => decide); k_whole))))
local macro_rules | `(tactic| walk_at "pyIter ref") => `(tactic| refine rest ?_)
local macro_rules | `(tactic| walk_at "exec For Name Call cons nil") => `(tactic| (k_here; (rename Fr _ _ _ _ => lF'); (with_unfolding_all refine' For_invVF lF' ?k1 ?k2 ?_ ?ks ?ke; (case k1 => exact rfl); (case k2 => exact rfl); (case ks => exact fun _ => rfl); (case ke => assumption); k_whole)))
local macro_rules | `(tactic| walk_at "exec For Name Name cons nil") => `(tactic| (k_here; (rename Fr _ _ _ _ => lF'); (with_unfolding_all refine' For_invVF lF' ?k1 ?k2 ?_ ?ks ?ke; (case k1 => exact rfl); (case k2 => exact rfl); (case ks => exact fun _ => rfl); (case ke => assumption); k_whole)))
local macro_rules | `(tactic| walk_at "EndF") => `(tactic| refine rest ?_)
local macro_rules | `(tactic| walk_at "call ref") => `(tactic| (k_here; (first | (with_reducible show wpAny _ _ (call (Value.ref 109) _) _ _ _) | (with_reducible show wpAny _ _ (call (Value.ref 184) _) _ _ _) | (with_reducible show wpAny _ _ (call (Value.ref 191) _) _ _ _)); refine rest ?_))
local macro_rules | `(tactic| walk_at "call ref") => `(tactic| (k_here; (with_reducible show wpAny _ _ (call (Value.ref 109) _) _ _ _); k_dflt (refine' branch_use _ _ _ _ _ _ _ _ _ _ _ _ _ _ _ _ _ ?mt ?md ?hT ?Bl ?F ?X ?N ?T ?k ?d ?u ?mdb ?hD ?Tr ?root ?key ?q ?_; (case F => k_asm); (case N => k_asm); (case mt => k_mem); (case md => k_mem); (case hT => exact ⟨_, _, _, _, _, _, _, _, _, _, rfl⟩); (case Bl => k_asm); (case X => k_asm); (case T => k_asm); (case k => rfl); (case d => k_room); (case u => k_units); (case mdb => k_mem); (case hD => with_reducible assumption); (case Tr => with_reducible assumption); (case root => rfl); (case key => exact key1 (by assumption)); (case q => first | assumption | omega); k_whole); intro tp' vs' h' tk' hvs' F' N' l1; (have hvl' := get_len hvs'); (try k_lt l1); (try k_sweep)))
local macro_rules | `(tactic| walk_at "call ref") => `(tactic| (k_here; (with_reducible show wpAny _ _ (call (Value.ref 184) [Value.int _ _]) _ _ _); k_dflt (refine' path_ok _ _ _ _ _ _ _ _ _ _ _ _ _ _ _ _ _ ?Bl ?F ?X ?N ?T ?k ?d ?u ?_; (case F => k_asm); (case N => k_asm); (case Bl => k_asm); (case X => k_asm); (case T => k_asm); (case k => rfl); (case d => k_room); (case u => k_units); k_whole); intro h' t' tk' F' N'; (try k_sweep)))
local macro_rules | `(tactic| walk_at "call ref") => `(tactic| (k_here; (with_reducible show wpAny _ _ (call (Value.ref 191) [Value.str _ _]) _ _ _); k_dflt (refine' beside_ok _ _ _ _ _ _ _ _ _ _ _ _ _ _ _ _ _ ?Bl ?F ?X ?N ?T ?k ?d ?u ?dd ?_; (case F => k_asm); (case N => k_asm); (case Bl => k_asm); (case X => k_asm); (case T => k_asm); (case k => rfl); (case d => k_room); (case u => k_units); (case dd => omega); k_whole); intro h' t' tk' F' N'; (try k_sweep)))
local macro_rules | `(tactic| walk_at "subscriptTail") => `(tactic| (k_here; (with_reducible show wpAny _ _ (subscriptTail _ _ (Value.str (pathStr _ _) _) (Value.ref _)) _ _ _); k_dflt (refine' slice_P ?F ?N ?e ?z ?_; (case F => k_asm); (case N => k_asm); (case e => exact slice_up (by omega)); (case z => (rw [pathStr_len]; omega)); k_whole); intro h' t' k' F' N'))
local macro_rules | `(tactic| walk_at "subscriptTail") => `(tactic| (k_here; (with_reducible show wpAny _ _ (subscriptTail _ _ (Value.ref _) (Value.int _ _)) _ _ _); k_dflt (refine' item_tup ?N ?m ?v ?l ?_; (case N => k_asm); (case m => k_mem); (case v => assumption); (case l => omega); k_whole)))
local macro_rules | `(tactic| walk_at "call builtin:dict.get") => `(tactic| (k_here; k_dflt (refine' db_get_same (knd := PySem.strKind _ _) ?N ?p ?d ?lo ?k ?s ?_; (case N => k_asm); (case p => k_mem); (case d => with_reducible assumption); (case lo => assumption); (case k => exact sk_is _ _ _ _); (case s => assumption); k_whole); intro _))
local macro_rules | `(tactic| walk_at "getMethod ref") => `(tactic| (k_here; (with_reducible show wpAny _ _ (getMethod (Value.ref _) (Str.ofString "get") _) _ _ _); k_dflt (refine' db_mGet (knd := PySem.strKind _ _) ?N ?p ?d ?_; (case N => k_asm); (case p => k_mem); (case d => with_reducible assumption); k_whole)))
local macro_rules | `(tactic| walk_at "compareOp NotEq bytes bytes") => `(tactic| (k_here; k_dflt (refine' ne_same ?_; k_whole)))
local macro_rules | `(tactic| walk_at "call builtin:len") => `(tactic| (k_here; k_dflt (refine' len_branch ?N ?m ?b ?_; (case N => k_asm); (case m => k_mem); (case b => assumption); k_whole)))
local macro_rules | `(tactic| walk_at "setItem ref") => `(tactic| (k_here; (with_reducible show wpAny _ _ (setItem (Value.ref _) (Value.str _ _) (Value.bytes _ _)) _ _ _); k_dflt (refine' db_set (knd := PySem.strKind _ _) ?F ?N ?U ?d ?k ?z ?_; (case F => k_asm); (case N => k_asm); (case U => k_updF); (case d => with_reducible assumption); (case k => exact sk_is _ _ _ _); (case z => omega)); intro h' o' F' N' hd'; (try dsimp only at N'); (try k_sweep)))
section
variable {prog : Program} {w : World} {p : Program} {loose : List Str} {mean : ExcName → Option Value} {mg mb : Str → Option Value} {L xs st bk cod hof td tr db he : Addr} {led : List (Addr × Obj)} {B : List Bts} {D : List (List UInt8 × Bts)} {ℓ : Nat → Bts} {H : Nat → Nat → Bts} {nB : Nat}
theorem segD (dp un : Nat) (gd : Option (List Code)) (a : Addr) (ccd : Value) (outer : List Env) (A₀ : Around) (base h₀ : Heap) (m : Str → Option Value) (s : Shared) (Q : Flow → Shared → Prop) (E : Value → Shared → Prop) (more : List Stmt) {ky se kp : Addr} {kvs : List Value} {nk : Nat} {qs : List Nat} {os : Obj}
    (Bl : Below A₀ base outer h₀) (F : Fr h₀ L s.heap m) (X : (Mine.hd.heap_39 w.params).In h₀) (N : News h₀ L s.heap led) (T : Top p loose mean mg mb h₀) (hd : dp + 12 < recursionLimit) (hu : un + 80 < cLine)
    (AD : Adr L xs st bk cod hof td tr db he) (S : LSt prog w p loose mean mg mb L xs st bk cod hof td tr db he led B D ℓ H nB)
    (hE : PassesOwn (model prog w) (ktrTop dp un gd lawN lawScope L a ccd (lawCl L) outer) (envX lawN lawScope L a ccd (lawCl L)) E)
    (hky : @LT.lt Nat _ he ky) (hse : @LT.lt Nat _ ky se) (mky : (ky, PySem.W.listOf (List.toArray kvs) nk) ∈ led) (hI : IntsAre kvs (qs.map fun q : Nat => (q : Int))) (hql : qs.length ≤ 4) (hqb : ∀ q ∈ qs, q < 256) (mse : (se, os) ∈ led) (hos : DB (PySem.strKind prog w) os [])
    (m3 : ∃ o, (L + 1 + 1 + 1, o) ∈ led ∧ o.data = .cell (some (.ref ky))) (m4 : ∃ o, (L + 1 + 1 + 1 + 1, o) ∈ led ∧ o.data = .cell (some (.ref se)))
    (hm1 : m (Str.ofString "state") = some (.ref st)) (hm2 : m (Str.ofString "hash_of") = some (.ref hof)) (hm3 : m (Str.ofString "kept") = some (.ref kp))
    (next : ∀ h' tk' m' led' os' SV, Fr h₀ L h' m' → News h₀ L h' led' → LSt prog w p loose mean mg mb L xs st bk cod hof td tr db he led' B D ℓ H nB → (∀ a o, (a, o) ∈ led → @Ne Nat a se → @Ne Nat a (L + 5) → (a, o) ∈ led') → (se, os') ∈ led' → (∃ o5, SeP prog w H (fun q _ => q ∈ qs) (8 * qs.length) ⟨os', SV, o5⟩) →
      m' (Str.ofString "state") = some (.ref st) → m' (Str.ofString "hash_of") = some (.ref hof) → m' (Str.ofString "kept") = some (.ref kp) →
      wpAny (model prog w) (ktrTop dp un gd lawN lawScope L a ccd (lawCl L) outer) (execs more (envX lawN lawScope L a ccd (lawCl L))) Q E { s with heap := h', toks := tk' }) :
    wpAny (model prog w) (ktrTop dp un gd lawN lawScope L a ccd (lawCl L) outer) (execs (lawSeg 10 1 ++ more) (envX lawN lawScope L a ccd (lawCl L))) Q E s := by
  have e1 : lawSeg 10 1 ++ more = _ :: more := rfl
  rw [e1]
  clear e1
  have e3 : lawScope = lawScope := rfl
  conv at e3 => lhs; whnf
  rw [lawCl_eq] at next hE ⊢
  rw [← e3] at next hE ⊢
  clear e3
  obtain ⟨a0, a1, a2, a3, a4, a5, a6, a7, a8, a9⟩ := AD
  obtain ⟨od, mod, hD⟩ := S.tdb
  obtain ⟨otd, motd, hT⟩ := S.tree
  obtain ⟨k1, k2, k3, k4, k5, k6, v1, v2, v3, v6, rfl⟩ := hT
  obtain ⟨o1, n1, d1⟩ := S.c1
  obtain ⟨o3, n3, d3⟩ := m3
  obtain ⟨o4, n4, d4⟩ := m4
  obtain ⟨o5, v5, n5, d5⟩ := S.c5
  have mt := S.inst
  have loS : (se == sysModules) = false := not_modules F (Top.nolimit T) (by omega)
  have ri : ∀ {a : Addr} {o : Obj}, (a, o) ∈ led → @Ne Nat a se → @Ne Nat a (L + 1 + 1 + 1 + 1 + 1) → (a, o) ∈ less (L + 1 + 1 + 1 + 1 + 1) (less se led) := fun hm k1 k2 => in_less (in_less hm k1) k2
  have N9 : News h₀ L s.heap ((se, os) :: (L + 1 + 1 + 1 + 1 + 1, o5) :: less (L + 1 + 1 + 1 + 1 + 1) (less se led)) := fun p hp => by
    rcases List.mem_cons.mp hp with rfl | hp
    · exact N _ mse
    · rcases List.mem_cons.mp hp with rfl | hp
      · exact N _ n5
      · exact N _ (less_mem.mp (less_mem.mp hp).1).1
  have mod9 := ri mod (by omega) (by omega)
  have motd9 := ri motd (by omega) (by omega)
  have n19 := ri n1 (by omega) (by omega)
  have n39 := ri n3 (by omega) (by omega)
  have n49 := ri n4 (by omega) (by omega)
  have mt9 := ri mt (by omega) (by omega)
  have mky9 := ri mky (by omega) (by omega)
  have r1 : ∀ q ∈ less (L + 1 + 1 + 1 + 1 + 1) (less se led), q.1 ≠ se := less_off2 less_off
  have r2 : ∀ q ∈ less (L + 1 + 1 + 1 + 1 + 1) (less se led), q.1 ≠ L + 1 + 1 + 1 + 1 + 1 := less_off
  have z1 : @Ne Nat se (L + 1 + 1 + 1 + 1 + 1) := by omega
  have Tr := S.T
  have hsk : ∀ (led' : List (Addr × Obj)) (o5' : Obj) (v : Option Value), (∀ q ∈ less (L + 1 + 1 + 1 + 1 + 1) (less se led), q ∈ led') → (L + 1 + 1 + 1 + 1 + 1, o5') ∈ led' → o5'.data = .cell v → LSt prog w p loose mean mg mb L xs st bk cod hof td tr db he led' B D ℓ H nB ∧ (∀ a o, (a, o) ∈ led → @Ne Nat a se → @Ne Nat a (L + 5) → (a, o) ∈ led') := fun led' o5' v hs hm hv =>
    ⟨S.keep ⟨a0, a1, a2, a3, a4, a5, a6, a7, a8, a9⟩ (c := L + 1 + 1 + 1 + 1 + 1) (fun a => a = se ∨ a = L + 1 + 1 + 1 + 1 + 1) (fun a o hm' hc => hs _ (ri hm' (fun e => hc (.inl e)) (fun e => hc (.inr e)))) (by omega) (by omega) ⟨o5', v, hm, hv⟩ (fun a ha => ha.elim (fun e => .inr (by rw [e]; omega)) .inl), fun a o hm' k1 k2 => hs _ (ri hm' k1 k2)⟩
  generalize less (L + 1 + 1 + 1 + 1 + 1) (less se led) = rest9 at N9 mod9 motd9 n19 n39 n49 mt9 mky9 r1 r2 hsk
  clear ri mod motd n1 n3 n4 n5 mt mky N S mse
  k_steps
  show wpAny _ _ _ _ _ _
  refine seen_loop (H := H) rfl (by assumption) N9 mky9 hI hqb r1 r2 hos d5 ?_ ?_
  · rintro I ⟨os, SV, o5⟩ i q t u h tk own rest' hq hi hq256 q1 q2 hsub hown nI1 nI2 nI3 P F1 N1
    replace F1 : Fr h₀ L h _ := F1
    dsimp only at N1
    have mod9 := hsub _ mod9
    have motd9 := hsub _ motd9
    have n19 := hsub _ n19
    have n39 := hsub _ n39
    have n49 := hsub _ n49
    have mt9 := hsub _ mt9
    obtain ⟨vc, hcell⟩ := P.cell
    dsimp only at hcell
    k_steps
    show wpAny _ _ _ _ _ _
    rename BytesAre _ _ => hvs
    rename IsRange _ _ _ _ _ _ _ _ => hrg
    have hvl := get_len hvs
    refine' seen_in (H := H) (rest0 := rest') hvs rfl rfl hrg ?F ?N ?sub ?r1 ?r2 hq P ?turn ?done
    case F => assumption
    case N => assumption
    case sub => kcf_all
    case r1 => k_all
    case r2 => k_all
    case turn =>
      rintro os SV o5 k t7 u7 h7 tk7 own7 rest7 hk7 y1 y2 hsub7 hown7 P7 F7 N7
      replace F7 : Fr h₀ L h7 _ := F7
      obtain ⟨tb, hitem⟩ := branch_item hvs hk7
      have hsm := P7.same hq256 hk7
      have mtp := hsub7 _ (.head _)
      have n49 := hsub7 _ (.tail _ n49)
      obtain ⟨vc7, hcell7⟩ := P7.cell
      have hdb7 := P7.dbk
      have hln := P7.len
      dsimp only at hcell7 hdb7 hsm hln
      have hi4 : i < 4 := by omega
      k_steps
      refine' seen_in_end P7 hq256 hk7 hsub7 hown7 ?F ?N ?sub ?hd ?hc ?hs
      (case F => assumption); (case N => assumption); (case sub => kcf_all); (case hd => with_reducible assumption); (case hc => assumption); (case hs => exact fun z hz => if_neg hz)
    case done =>
      rintro ⟨os, SV, o5⟩ u7 h7 tk7 P7 F7 N7
      replace F7 : Fr h₀ L h7 _ := F7
      dsimp only at N7
      k_steps
      show EndF _ _ _ _ _ _ _
      refine' seen_out_end P7 hsub hown nI1 nI2 nI3 F7 N7 ?sub ?hs
      (case sub => kcf_all)
      case hs =>
        intro z h1 h2
        have k1 : z ≠ Str.ofString "branch" := by rintro rfl; exact absurd h2 (by decide)
        have k2 : z ≠ Str.ofString "path" := by rintro rfl; exact absurd h2 (by decide)
        have k3 : z ≠ Str.ofString "k" := by rintro rfl; exact absurd h2 (by decide)
        show (if z = Str.ofString "k" then _ else if z = Str.ofString "branch" then _ else if z = Str.ofString "path" then _ else if z = Str.ofString "key" then _ else if [Str.ofString "branch", Str.ofString "path", Str.ofString "k"].contains z = true then u z else m z) = m z
        rw [if_neg k1, if_neg k2, if_neg k3, if_neg h1, h2]; rfl
  · rintro ⟨os, SV, o5⟩ u h tk P F1 N1
    replace F1 : Fr h₀ L h _ := F1
    dsimp only at N1
    obtain ⟨vc, hcell⟩ := P.cell
    obtain ⟨S', hkp⟩ := hsk _ _ vc (fun q hq => .tail _ (.tail _ hq)) (.tail _ (.head _)) hcell
    exact next _ _ _ _ os SV F1 N1 S' hkp (.head _) ⟨o5, P⟩ hm1 hm2 hm3
end
end Mine
end
section
theorem Mine.offEm : True := by w_top off; trivial
open PySem PySem.W PyProof.Rows PySem.Calls
set_option Elab.async false
set_option maxRecDepth 100000
set_option maxHeartbeats 2000000
set_option linter.unusedSimpArgs false
set_option linter.unusedSectionVars false
set_option linter.unusedVariables false
namespace Mine
/-! for x in d, where x is a cell of the frame -/
section
variable {prog : Program} {w : World} {A : Around} {E : Value → Shared → Prop} {s : Shared} {env : Env} {h₀ : Heap}
def CellStep {σ : Type} (h₀ : Heap) (L : Addr) (m₀ : Str → Option Value) (I : Addr) (oI : Obj) (c5 : Addr) (Led : σ → List (Addr × Obj)) (PP : Nat → σ → Prop) (i : Nat) (s₁ : Shared) (f : Flow) (s₂ : Shared) : Prop :=
  f = .next ∧ ∃ h' tk' o5'' c', s₂ = { s₁ with heap := h', toks := tk' } ∧ Fr h₀ L h' m₀ ∧ News h₀ L h' ((I, oI) :: (c5, o5'') :: Led c') ∧ (∃ v, o5''.data = Data.cell v) ∧ PP (i + 1) c'
theorem CellStep.intro {σ : Type} {h₀ h' : Heap} {L I c5 : Addr} {m₀ : Str → Option Value} {oI o5 : Obj} {v5 : Option Value} {Led : σ → List (Addr × Obj)} {PP : Nat → σ → Prop} {i : Nat} {s₁ : Shared} {tk : Nat} {all : List (Addr × Obj)} (c : σ) (F : Fr h₀ L h' m₀) (N : News h₀ L h' all) (sub : ∀ p ∈ (I, oI) :: (c5, o5) :: Led c, p ∈ all) (h5 : o5.data = Data.cell v5) (P : PP (i + 1) c) :
    CellStep h₀ L m₀ I oI c5 Led PP i s₁ .next { s₁ with heap := h', toks := tk } := ⟨rfl, h', tk, o5, c, rfl, F, fun p hp => N p (sub p hp), ⟨v5, h5⟩, P⟩
def CellD (prog : Program) (w : World) (A : Around) (h₀ : Heap) (env : Env) (x : Str) (body : List Stmt) (Q : Flow → Shared → Prop) (E : Value → Shared → Prop) (xv : Value) (s₁ : Shared) : Prop :=
  ∃ (σ K : Type) (_ : DecidableEq K) (knd : KeyKind prog w K) (d c5 : Addr) (od o5 : Obj) (V : List (K × Bts)) (m₀ : Str → Option Value) (Led : σ → List (Addr × Obj)) (adr : List Addr) (PP : Nat → σ → Prop) (c₀ : σ), xv = .ref d ∧ A.handled = none ∧ env.cells.lookup x = some c5 ∧ (d == sysModules) = false ∧ DB knd od V ∧
    Fr h₀ env.locals s₁.heap m₀ ∧ News h₀ env.locals s₁.heap ((c5, o5) :: Led c₀) ∧ (∃ v, o5.data = Data.cell v) ∧ (∀ c, (d, od) ∈ Led c) ∧ (∀ c, (Led c).map (·.1) = adr) ∧ (∀ z ∈ adr, z ≠ c5) ∧ PP 0 c₀ ∧
    (∀ I oI c i v k b o5' h tk, i < V.length → V[i]? = some (k, b) → knd.is k v = true → o5'.data = Data.cell (some v) → Fr h₀ env.locals h m₀ → News h₀ env.locals h ((I, oI) :: (c5, o5') :: Led c) → (∀ p ∈ Led c, p.1 ≠ I) → @Ne Nat c5 I → (∀ p ∈ Led c, p.1 ≠ c5) → PP i c →
      wpAny (model prog w) A (execs body env) (CellStep h₀ env.locals m₀ I oI c5 Led PP i { s₁ with heap := h, toks := tk }) E { s₁ with heap := h, toks := tk }) ∧
    (∀ c o5' h tk, PP V.length c → Fr h₀ env.locals h m₀ → News h₀ env.locals h ((c5, o5') :: Led c) → (∃ v, o5'.data = Data.cell v) → Q .next { s₁ with heap := h, toks := tk })
theorem For_cellD {Q : Flow → Shared → Prop} {x : Str} {px pos : Pos} {iter : PySem.Expr} {body : List Stmt} {m : Str → Option Value} (_F : Fr h₀ env.locals s.heap m) (hk : env.scope.kind = .function) (hx : env.kindOf x = some .cell)
    (h : wpAny (model prog w) A (eval iter env) (CellD prog w A h₀ env x body Q E) E s) (hs : ∀ x, foldedSetIterable iter env x = pure x := by intro _; rfl) (hE : PassesOwn (model prog w) A env E) :
    wpAny (model prog w) A (exec (.For (.Name x px) iter body [] pos) env) Q E s := by
  refine wpAny_For (wpAny_mono h (fun xv s₁ h₁ => ?_) fun _ _ e => e) hs
  obtain ⟨σ, K, _, knd, d, c5, od, o5, V, m₀, Led, adr, PP, c₀, rfl, hh, hc5, lo, hV, F, N, hcell, hm, hadr, hne, h0, turn, done⟩ := h₁
  obtain ⟨kvs, ⟨es, ep, h1, h2, h3, h4, h5⟩, hb⟩ := hV
  have hlen := hb.length
  have at_ : ∀ h nw, News h₀ env.locals h nw → (d, od) ∈ nw → h.DictAt knd d kvs ep := fun h nw N hm => ⟨od, es, (N _ hm).1, h1, h2, h3, h4, h5⟩
  have hD := at_ _ _ N (.tail _ (hm c₀))
  have hlt : d < s₁.heap.objs.size := hD.lt_size
  refine wpAny_pyIter_dict lo hD ?_
  have up : ∀ b o, s₁.heap.get? b = some o → (s₁.heap.push { cls := .type "dict_keyiterator", data := .fields #[.ref d, .int 0 0, .int kvs.length 0, .int ep 0] }).get? b = some o := fun b o e => Heap.get?_push_of_some _ e
  have W := Walks.dictKeys (knd := knd) (A := A) (prog := prog) (w := w) hh s₁.heap.objs.size d (Nat.ne_of_lt hlt) kvs ep
  have zI : h₀.get? s₁.heap.objs.size = none := next_is_new F
  have nIL : s₁.heap.objs.size ≠ env.locals := Nat.ne_of_gt F.ns.lt
  have nc5 : c5 < s₁.heap.objs.size := Heap.lt_size (N _ (.head _)).1
  have nadr : ∀ z ∈ adr, z < s₁.heap.objs.size := fun z hz => by
    rw [← hadr c₀] at hz
    obtain ⟨p, hp, rfl⟩ := List.mem_map.mp hz
    exact Heap.lt_size (N p (.tail _ hp)).1
  have offA : ∀ c, ∀ p ∈ Led c, p.1 ∈ adr := fun c p hp => by rw [← hadr c]; exact List.mem_map.mpr ⟨p, hp, rfl⟩
  refine codeAny_forLoop
    (fun k s' => ∃ g tk, ∃ i : Nat, ∃ o5' c, s' = { s₁ with heap := g, toks := tk } ∧ (∃ oI, g.get? s₁.heap.objs.size = some oI ∧ oI.cls = .type "dict_keyiterator" ∧ oI.data = .fields #[.ref d, .int (i : Int) 0, .int kvs.length 0, .int ep 0]) ∧ Fr h₀ env.locals g m₀ ∧ News h₀ env.locals g ((c5, o5') :: Led c) ∧ (∃ v, o5'.data = Data.cell v) ∧ PP i c ∧ i ≤ V.length ∧ k = V.length + 1 - i) ?_ (V.length + 1)
    ⟨_, _, 0, o5, c₀, rfl, ⟨_, Heap.get?_push_size _ rfl, rfl, rfl⟩, F.keeps up, N.grown up, hcell, h0, Nat.zero_le _, rfl⟩
  rintro k s' ⟨g, tk, i, o5', c, rfl, hit, F', N', ⟨v0, hv0⟩, hP, hi, rfl⟩
  have hst := at_ _ _ N' (.tail _ (hm c))
  by_cases hlt' : i < V.length
  · refine W.item i _ _ _ (by omega) ⟨hit, hst⟩ fun v h₂ tk₂ hPv hst₂ hk₂ => ?_
    obtain ⟨kk, y, hkk, hkv⟩ := hPv
    have hw : ∀ b, b ≠ s₁.heap.objs.size → b ∉ [s₁.heap.objs.size] := fun b hb => by simpa using hb
    have zK : h₂.get? c5 = some o5' := hk₂ _ _ (hw _ (Nat.ne_of_lt nc5)) (N' _ (.head _)).1
    refine wpAny_assign_Name (wpAny_storeName_cell (c := c5) (v₀ := v0) hk hx hc5 ⟨o5', zK, hv0⟩ fun h₃ hc₃ hs₃ => ?_)
    obtain ⟨oK', eK', dK'⟩ := hc₃
    obtain ⟨⟨oI', eI', rI'⟩, -⟩ := hst₂
    have eI3 : h₃.get? s₁.heap.objs.size = some oI' := hs₃.extBut _ _ (Nat.ne_of_gt nc5) eI'
    have F₃ : Fr h₀ env.locals h₃ m₀ := (LCg.fr_but F' hk₂ (Ne.symm nIL) zI).change hs₃ (N' _ (.head _)).2.1 (N' _ (.head _)).2.2
    have N₃ : News h₀ env.locals h₃ ((s₁.heap.objs.size, oI') :: (c5, oK') :: Led c) := fun p hp => by
      rcases List.mem_cons.mp hp with rfl | hp
      · exact ⟨eI3, nIL, zI⟩
      · rcases List.mem_cons.mp hp with rfl | hp
        · exact ⟨eK', (N' _ (.head _)).2⟩
        · have z := N' p (.tail _ hp)
          exact ⟨hs₃.extBut _ _ (hne _ (offA c p hp)) (hk₂ _ _ (hw _ (Nat.ne_of_lt (nadr _ (offA c p hp)))) z.1), z.2⟩
    have : ∃ b, V[i]? = some (kk, b) := by
      have e := congrArg (fun l : List K => l[i]?) hb.keys
      simp only [List.getElem?_map, hkk, Option.map_some] at e
      obtain ⟨p, hp, e2⟩ := Option.map_eq_some_iff.mp e.symm
      exact ⟨p.2, by rw [hp, ← e2]⟩
    obtain ⟨b, hb'⟩ := this
    refine wpAny_mono (wpAny_passesOwn hE (turn s₁.heap.objs.size oI' c i v kk b oK' h₃ _ hlt' hb' hkv dK' F₃ N₃ (fun p hp => Nat.ne_of_lt (nadr _ (offA c p hp))) (Nat.ne_of_lt nc5) (fun p hp => hne _ (offA c p hp)) hP)) (fun f s₃ q => ?_) fun _ _ e => e
    obtain ⟨rfl, h', tk', o5'', c', rfl, F₄, N₄, hc4, hP4⟩ := q
    exact ⟨V.length + 1 - (i + 1), by omega, h', tk', i + 1, o5'', c', rfl, ⟨oI', (N₄ _ (.head _)).1, rI'⟩, F₄, fun p hp => N₄ p (.tail _ hp), hc4, hP4, hlt', rfl⟩
  · obtain rfl : i = V.length := Nat.le_antisymm hi (Nat.not_lt.mp hlt')
    rw [← hlen] at hit
    refine W.done _ _ _ ⟨hit, hst⟩ fun h₂ tk₂ hk₂ => wpAny_execs_nil ?_
    refine done c o5' h₂ tk₂ hP (LCg.fr_but F' hk₂ (Ne.symm nIL) zI) (LCg.news_but N' hk₂ fun p hp => ?_) ⟨v0, hv0⟩
    rcases List.mem_cons.mp hp with rfl | hp
    · exact Nat.ne_of_lt nc5
    · exact Nat.ne_of_lt (nadr _ (offA c p hp))
end
/-! what is kept -/
def Free (qs : List Nat) (k : Str) : Prop := ∀ d x, k = pathStr d x → x < 2 ^ d → d ≤ 8 → ∀ q ∈ qs, q / 2 ^ (8 - d) ≠ x
structure KeJ where
  okp : Obj
  KV : List (Str × Bts)
structure KeP (prog : Program) (w : World) (qs : List Nat) (SV : List (Str × Bts)) (i : Nat) (c : KeJ) : Prop where
  dbk : DB (PySem.strKind prog w) c.okp c.KV
  mem : ∀ k b, look c.KV k = some b → ∃ j, j < i ∧ SV[j]? = some (k, b) ∧ Free qs k
  all : ∀ j k b, j < i → SV[j]? = some (k, b) → Free qs k → look c.KV k = some b
  len : c.KV.length ≤ i
theorem KeP.skip {prog : Program} {w : World} {qs : List Nat} {SV : List (Str × Bts)} {i : Nat} {c : KeJ} {k : Str} {b : Bts} (P : KeP prog w qs SV i c) (hk : SV[i]? = some (k, b)) (hn : ¬ Free qs k) : KeP prog w qs SV (i + 1) c := by
  refine ⟨P.dbk, fun k b e => ?_, fun j k' b' hj e f => ?_, Nat.le_succ_of_le P.len⟩
  · obtain ⟨j, a1, a2, a3⟩ := P.mem k b e
    exact ⟨j, by omega, a2, a3⟩
  · by_cases e' : j = i
    · subst e'
      rw [hk] at e
      cases e
      exact absurd f hn
    · exact P.all j k' b' (by omega) e f
theorem KeP.put {prog : Program} {w : World} {qs : List Nat} {SV : List (Str × Bts)} {i : Nat} {okp okp' : Obj} {KV : List (Str × Bts)} {k : Str} {b : Bts} (P : KeP prog w qs SV i ⟨okp, KV⟩) (hn : (SV.map (·.1)).Nodup) (hk : SV[i]? = some (k, b)) (hf : Free qs k) (hd : DB (PySem.strKind prog w) okp' (put KV k b)) :
    KeP prog w qs SV (i + 1) ⟨okp', Mine.put KV k b⟩ := by
  refine ⟨hd, fun k' b' e => ?_, fun j k' b' hj e f => ?_, Nat.le_trans (put_length _ _ _) (Nat.succ_le_succ P.len)⟩
  · simp only at e
    rw [look_put] at e
    split at e
    · rename_i h
      cases e
      subst h
      exact ⟨i, by omega, hk, hf⟩
    · obtain ⟨j, a1, a2, a3⟩ := P.mem k' b' e
      exact ⟨j, by omega, a2, a3⟩
  · simp only
    rw [look_put]
    by_cases e' : j = i
    · subst e'
      rw [hk] at e
      cases e
      rw [if_pos rfl]
    · have hne : k ≠ k' := by
        intro h
        subst h
        have l1 := (List.getElem?_eq_some_iff.mp hk).1
        have l2 := (List.getElem?_eq_some_iff.mp e).1
        have g1 : (SV.map (·.1))[i]'(by simpa using l1) = k := by
          have := (List.getElem?_eq_some_iff.mp hk).2
          simp [this]
        have g2 : (SV.map (·.1))[j]'(by simpa using l2) = k := by
          have := (List.getElem?_eq_some_iff.mp e).2
          simp [this]
        exact e' ((List.getElem_inj hn).mp (g2.trans g1.symm))
      rw [if_neg hne]
      exact P.all j k' b' (by omega) e f
theorem free_of {qs : List Nat} {d x : Nat} (hx : x < 2 ^ d) (h : ∀ q ∈ qs, q / 2 ^ (8 - d) ≠ x) : Free qs (pathStr d x) := fun d' x' e hx' _ => by
  obtain ⟨e1, e2⟩ := path_inj2 hx hx' e
  subst e1
  subst e2
  exact h
theorem KeP.kept {prog : Program} {w : World} {H : Nat → Nat → Bts} {qs : List Nat} {n : Nat} {os o5 : Obj} {SV : List (Str × Bts)} {c : KeJ} (S : SeP prog w H (fun q _ => q ∈ qs) n ⟨os, SV, o5⟩) (P : KeP prog w qs SV SV.length c) (hq : ∀ q ∈ qs, q < 256) : KeptOK qs H c.KV := by
  have hnd := DB.nodup S.dbk
  refine ⟨fun k b e => ?_, fun q hqs i hi hno => ?_⟩
  · obtain ⟨j, a1, a2, a3⟩ := P.mem k b e
    obtain ⟨q, i, b1, b2, b3, b4, b5⟩ := S.mem k b (look_of_mem hnd (List.mem_of_getElem? a2))
    refine ⟨q, b3, i, b1, b4, b5, fun q' hq' => ?_⟩
    have := a3 (8 - i) _ b4 (sib_lt b2 b1) (by omega) q' hq'
    rwa [show 8 - (8 - i) = i by omega] at this
  · have h1 := S.all q i hi hqs
    obtain ⟨j, hj⟩ := List.getElem?_of_mem (look_some_mem h1)
    refine P.all j _ _ (List.getElem?_eq_some_iff.mp hj).1 hj (free_of (sib_lt (hq q hqs) hi) ?_)
    rw [show 8 - (8 - i) = i by omega]
    exact hno
theorem slice_len {q d x : Nat} (hd : d ≤ 8) : Txt.slice (pathStr 8 q) none (some (((pathStr d x).length : Nat) : Int)) = pathStr d (q / 2 ^ (8 - d)) := by
  rw [pathStr_len]; exact slice_path rfl hd
/-- the comprehension's outcome after i keys -/
def Hits (qs : List Nat) (d x i : Nat) (ys : List Value) : Prop := ys = [] ↔ ∀ q ∈ qs.take i, q / 2 ^ (8 - d) ≠ x
theorem Hits.yes {qs : List Nat} {d x i q : Nat} {ys : List Value} {y : Value} (hq : qs[i]? = some q) (h : q / 2 ^ (8 - d) = x) : Hits qs d x (i + 1) (ys ++ [y]) := by
  constructor
  · intro e; simp at e
  · intro h'
    rw [take_get hq] at h'
    exact absurd h (h' q (by simp))
theorem Hits.no {qs : List Nat} {d x i q : Nat} {ys : List Value} (hq : qs[i]? = some q) (h : q / 2 ^ (8 - d) ≠ x) (H : Hits qs d x i ys) : Hits qs d x (i + 1) ys := by
  unfold Hits at *
  rw [H, take_get hq]
  constructor
  · intro h' q' hq'
    rcases List.mem_append.mp hq' with h1 | h1
    · exact h' q' h1
    · rw [List.mem_singleton.mp h1]; exact h
  · intro h' q' hq'
    exact h' q' (List.mem_append_left _ hq')
theorem Hits.free {qs : List Nat} {d x : Nat} {ys : List Value} (hx : x < 2 ^ d) (hd : d ≤ 8) (H : Hits qs d x qs.length ys) : ys = [] ↔ Free qs (pathStr d x) := by
  unfold Hits at H
  rw [List.take_length] at H
  rw [H]
  exact ⟨free_of hx, fun f => f d x rfl hx hd⟩
end Mine
end
section
local macro_rules | `(tactic| walk_at "zzz") => `(tactic| fail)
local macro_rules | `(tactic| walk_at "zzz") => `(tactic| fail)
local macro_rules | `(tactic| walk_at "zzz") => `(tactic| fail)
local macro_rules | `(tactic| walk_at "zzz") => `(tactic| fail)
local macro_rules | `(tactic| walk_at "zzz") => `(tactic| fail)
local macro_rules | `(tactic| walk_at "zzz") => `(tactic| fail)
local macro_rules | `(tactic| walk_at "zzz") => `(tactic| fail)
local macro_rules | `(tactic| walk_at "zzz") => `(tactic| fail)
local macro_rules | `(tactic| walk_at "zzz") => `(tactic| fail)
local macro_rules | `(tactic| walk_at "zzz") => `(tactic| fail)
local macro_rules | `(tactic| walk_at "zzz") => `(tactic| fail)
local macro_rules | `(tactic| walk_at "zzz") => `(tactic| fail)
local macro_rules | `(tactic| walk_at "zzz") => `(tactic| fail)
local macro_rules | `(tactic| walk_at "zzz") => `(tactic| fail)
local macro_rules | `(tactic| walk_at "zzz") => `(tactic| fail)
local macro_rules | `(tactic| walk_at "zzz") => `(tactic| fail)
local macro_rules | `(tactic| walk_at "zzz") => `(tactic| fail)
local macro_rules | `(tactic| walk_at "zzz") => `(tactic| fail)
local macro_rules | `(tactic| walk_at "zzz") => `(tactic| fail)
local macro_rules | `(tactic| walk_at "zzz") => `(tactic| fail)
local macro_rules | `(tactic| walk_at "zzz") => `(tactic| fail)
local macro_rules | `(tactic| walk_at "zzz") => `(tactic| fail)
local macro_rules | `(tactic| walk_at "zzz") => `(tactic| fail)
local macro_rules | `(tactic| walk_at "zzz") => `(tactic| fail)
local macro_rules | `(tactic| walk_at "zzz") => `(tactic| fail)
local macro_rules | `(tactic| walk_at "zzz") => `(tactic| fail)
local macro_rules | `(tactic| walk_at "zzz") => `(tactic| fail)
local macro_rules | `(tactic| walk_at "zzz") => `(tactic| fail)
local macro_rules | `(tactic| walk_at "zzz") => `(tactic| fail)
local macro_rules | `(tactic| walk_at "zzz") => `(tactic| fail)
local macro_rules | `(tactic| walk_at "zzz") => `(tactic| fail)
local macro_rules | `(tactic| walk_at "zzz") => `(tactic| fail)
local macro_rules | `(tactic| walk_at "zzz") => `(tactic| fail)
local macro_rules | `(tactic| walk_at "zzz") => `(tactic| fail)
local macro_rules | `(tactic| walk_at "zzz") => `(tactic| fail)
local macro_rules | `(tactic| walk_at "zzz") => `(tactic| fail)
local macro_rules | `(tactic| walk_at "zzz") => `(tactic| fail)
local macro_rules | `(tactic| walk_at "zzz") => `(tactic| fail)
local macro_rules | `(tactic| walk_at "zzz") => `(tactic| fail)
local macro_rules | `(tactic| walk_at "zzz") => `(tactic| fail)
local macro_rules | `(tactic| walk_at "zzz") => `(tactic| fail)
local macro_rules | `(tactic| walk_at "zzz") => `(tactic| fail)
local macro_rules | `(tactic| walk_at "zzz") => `(tactic| fail)
local macro_rules | `(tactic| walk_at "zzz") => `(tactic| fail)
local macro_rules | `(tactic| walk_at "zzz") => `(tactic| fail)
local macro_rules | `(tactic| walk_at "zzz") => `(tactic| fail)
local macro_rules | `(tactic| walk_at "zzz") => `(tactic| fail)
local macro_rules | `(tactic| walk_at "zzz") => `(tactic| fail)
local macro_rules | `(tactic| walk_at "zzz") => `(tactic| fail)
local macro_rules | `(tactic| walk_at "zzz") => `(tactic| fail)
local macro_rules | `(tactic| walk_at "zzz") => `(tactic| fail)
local macro_rules | `(tactic| walk_at "zzz") => `(tactic| fail)
local macro_rules | `(tactic| walk_at "zzz") => `(tactic| fail)
local macro_rules | `(tactic| walk_at "zzz") => `(tactic| fail)
local macro_rules | `(tactic| walk_at "zzz") => `(tactic| fail)
local macro_rules | `(tactic| walk_at "zzz") => `(tactic| fail)
local macro_rules | `(tactic| walk_at "zzz") => `(tactic| fail)
local macro_rules | `(tactic| walk_at "zzz") => `(tactic| fail)
local macro_rules | `(tactic| walk_at "zzz") => `(tactic| fail)
local macro_rules | `(tactic| walk_at "zzz") => `(tactic| fail)
local macro_rules | `(tactic| walk_at "zzz") => `(tactic| fail)
local macro_rules | `(tactic| walk_at "zzz") => `(tactic| fail)
local macro_rules | `(tactic| walk_at "zzz") => `(tactic| fail)
local macro_rules | `(tactic| walk_at "zzz") => `(tactic| fail)
local macro_rules | `(tactic| walk_at "zzz") => `(tactic| fail)
local macro_rules | `(tactic| walk_at "zzz") => `(tactic| fail)
local macro_rules | `(tactic| walk_at "zzz") => `(tactic| fail)
local macro_rules | `(tactic| walk_at "zzz") => `(tactic| fail)
local macro_rules | `(tactic| walk_at "zzz") => `(tactic| fail)
local macro_rules | `(tactic| walk_at "zzz") => `(tactic| fail)
local macro_rules | `(tactic| walk_at "zzz") => `(tactic| fail)
local macro_rules | `(tactic| walk_at "zzz") => `(tactic| fail)
local macro_rules | `(tactic| walk_at "zzz") => `(tactic| fail)
local macro_rules | `(tactic| walk_at "zzz") => `(tactic| fail)
local macro_rules | `(tactic| walk_at "zzz") => `(tactic| fail)
local macro_rules | `(tactic| walk_at "zzz") => `(tactic| fail)
local macro_rules | `(tactic| walk_at "zzz") => `(tactic| fail)
local macro_rules | `(tactic| walk_at "zzz") => `(tactic| fail)
local macro_rules | `(tactic| walk_at "zzz") => `(tactic| fail)
local macro_rules | `(tactic| walk_at "zzz") => `(tactic| fail)
open PySem PySem.W PyProof.Rows PySem.Calls
set_option Elab.async false
set_option maxRecDepth 100000
set_option maxHeartbeats 4000000
set_option linter.unusedSimpArgs false
set_option linter.unusedSectionVars false
set_option linter.unusedVariables false
theorem Mine.fillLe : (fun (_ : OpenLaw) (_ : Params → Frag) => True) PySem.Challenge.rw_bs0043_01 Mine.hd.heap_39 := by w_top off; k_fill; trivial
namespace Mine
local macro_rules | `(tactic| k_ne) => `(tactic| (refine neN ?_; (try dsimp only); first | with_reducible assumption | exact Ne.symm (by with_reducible assumption) | omega))
local macro_rules | `(tactic| k_all) => `(tactic| first | with_reducible assumption | (refine' all_cons ?a ?b; (case a => first | with_reducible assumption | exact Ne.symm (by with_reducible assumption) | omega); (case b => k_all)))
local macro_rules | `(tactic| k_mem) => `(tactic| first | assumption | exact List.mem_append_left _ (by assumption))
local macro_rules | `(tactic| k_room) => `(tactic| ((try simp only [depth_under_make, depth_under_kw, depth_in1, depth_deeper, depth_caller]); (try dsimp only [ktrTop]); omega))
local macro_rules | `(tactic| k_units) => `(tactic| ((have hcL9 := cLine_is); (try simp only [units_under_make, units_in1, units_deeper, Around.mark_units, units_caller]); (try dsimp only [ktrTop]); omega))
local macro_rules | `(tactic| walk_at "eval Name") => `(tactic| (k_here; (with_reducible show wpAny _ _ (eval (Expr.Name _ _) (envX _ _ _ _ _ _)) _ _ _); k_dflt (first
  | (refine' nameX_L ?F ?v ?_ ?a ?b; (case F => k_asm); (case a => rfl); (case b => rfl); (case v => first | rfl | assumption); k_whole)
  | (refine' nameX_C ?N ?c ?m ?d ?_ ?a ?b; (case a => rfl); (case b => rfl); (case N => k_asm); (case c => rfl); (case m => k_mem); (case d => k_asm); k_whole)
  | (refine' nameX_K ?F ?X ?T ?e ?_ ?a ?b; (case F => k_asm); (case X => k_asm); (case T => k_asm); (case a => rfl); (case b => rfl); (case e => k_is); k_whole)
  | (refine' nameX_B ?F ?X ?T ?e ?v ?n ?_ ?a ?b; (case F => k_asm); (case X => k_asm); (case T => k_asm); (case a => rfl); (case b => rfl); (case e => k_is); (case v => boot_fast); (case n => decide); k_whole))))
local macro_rules | `(tactic| walk_at "pyIter ref") => `(tactic| refine rest ?_)
local macro_rules | `(tactic| walk_at "exec For Name Call cons nil") => `(tactic| (k_here; (rename Fr _ _ _ _ => lF'); (with_unfolding_all refine' For_invVF lF' ?k1 ?k2 ?_ ?ks ?ke; (case k1 => exact rfl); (case k2 => exact rfl); (case ks => exact fun _ => rfl); (case ke => assumption); k_whole)))
local macro_rules | `(tactic| walk_at "exec For Name Name cons nil") => `(tactic| (k_here; (rename Fr _ _ _ _ => lF'); (with_unfolding_all refine' For_invVF lF' ?k1 ?k2 ?_ ?ks ?ke; (case k1 => exact rfl); (case k2 => exact rfl); (case ks => exact fun _ => rfl); (case ke => assumption); k_whole)))
local macro_rules | `(tactic| walk_at "EndF") => `(tactic| refine rest ?_)
local macro_rules | `(tactic| walk_at "call ref") => `(tactic| (k_here; (first | (with_reducible show wpAny _ _ (call (Value.ref 109) _) _ _ _) | (with_reducible show wpAny _ _ (call (Value.ref 184) _) _ _ _) | (with_reducible show wpAny _ _ (call (Value.ref 191) _) _ _ _)); refine rest ?_))
local macro_rules | `(tactic| walk_at "call ref") => `(tactic| (k_here; (with_reducible show wpAny _ _ (call (Value.ref 109) _) _ _ _); k_dflt (refine' branch_use _ _ _ _ _ _ _ _ _ _ _ _ _ _ _ _ _ ?mt ?md ?hT ?Bl ?F ?X ?N ?T ?k ?d ?u ?mdb ?hD ?Tr ?root ?key ?q ?_; (case F => k_asm); (case N => k_asm); (case mt => k_mem); (case md => k_mem); (case hT => exact ⟨_, _, _, _, _, _, _, _, _, _, rfl⟩); (case Bl => k_asm); (case X => k_asm); (case T => k_asm); (case k => rfl); (case d => k_room); (case u => k_units); (case mdb => k_mem); (case hD => with_reducible assumption); (case Tr => with_reducible assumption); (case root => rfl); (case key => exact key1 (by assumption)); (case q => first | assumption | omega); k_whole); intro tp' vs' h' tk' hvs' F' N' l1; (have hvl' := get_len hvs'); (try k_lt l1); (try k_sweep)))
local macro_rules | `(tactic| walk_at "call ref") => `(tactic| (k_here; (with_reducible show wpAny _ _ (call (Value.ref 184) [Value.int _ _]) _ _ _); k_dflt (refine' path_ok _ _ _ _ _ _ _ _ _ _ _ _ _ _ _ _ _ ?Bl ?F ?X ?N ?T ?k ?d ?u ?_; (case F => k_asm); (case N => k_asm); (case Bl => k_asm); (case X => k_asm); (case T => k_asm); (case k => rfl); (case d => k_room); (case u => k_units); k_whole); intro h' t' tk' F' N'; (try k_sweep)))
local macro_rules | `(tactic| walk_at "call ref") => `(tactic| (k_here; (with_reducible show wpAny _ _ (call (Value.ref 191) [Value.str _ _]) _ _ _); k_dflt (refine' beside_ok _ _ _ _ _ _ _ _ _ _ _ _ _ _ _ _ _ ?Bl ?F ?X ?N ?T ?k ?d ?u ?dd ?_; (case F => k_asm); (case N => k_asm); (case Bl => k_asm); (case X => k_asm); (case T => k_asm); (case k => rfl); (case d => k_room); (case u => k_units); (case dd => omega); k_whole); intro h' t' tk' F' N'; (try k_sweep)))
local macro_rules | `(tactic| walk_at "subscriptTail") => `(tactic| (k_here; (with_reducible show wpAny _ _ (subscriptTail _ _ (Value.str (pathStr _ _) _) (Value.ref _)) _ _ _); k_dflt (refine' slice_P ?F ?N ?e ?z ?_; (case F => k_asm); (case N => k_asm); (case e => exact slice_up (by omega)); (case z => (rw [pathStr_len]; omega)); k_whole); intro h' t' k' F' N'))
local macro_rules | `(tactic| walk_at "subscriptTail") => `(tactic| (k_here; (with_reducible show wpAny _ _ (subscriptTail _ _ (Value.ref _) (Value.int _ _)) _ _ _); k_dflt (refine' item_tup ?N ?m ?v ?l ?_; (case N => k_asm); (case m => k_mem); (case v => assumption); (case l => omega); k_whole)))
local macro_rules | `(tactic| walk_at "call builtin:dict.get") => `(tactic| (k_here; k_dflt (refine' db_get_same (knd := PySem.strKind _ _) ?N ?p ?d ?lo ?k ?s ?_; (case N => k_asm); (case p => k_mem); (case d => with_reducible assumption); (case lo => assumption); (case k => exact sk_is _ _ _ _); (case s => assumption); k_whole); intro _))
local macro_rules | `(tactic| walk_at "getMethod ref") => `(tactic| (k_here; (with_reducible show wpAny _ _ (getMethod (Value.ref _) (Str.ofString "get") _) _ _ _); k_dflt (refine' db_mGet (knd := PySem.strKind _ _) ?N ?p ?d ?_; (case N => k_asm); (case p => k_mem); (case d => with_reducible assumption); k_whole)))
local macro_rules | `(tactic| walk_at "compareOp NotEq bytes bytes") => `(tactic| (k_here; k_dflt (refine' ne_same ?_; k_whole)))
local macro_rules | `(tactic| walk_at "call builtin:len") => `(tactic| (k_here; k_dflt (refine' len_branch ?N ?m ?b ?_; (case N => k_asm); (case m => k_mem); (case b => assumption); k_whole)))
local macro_rules | `(tactic| walk_at "setItem ref") => `(tactic| (k_here; (with_reducible show wpAny _ _ (setItem (Value.ref _) (Value.str _ _) (Value.bytes _ _)) _ _ _); k_dflt (refine' db_set (knd := PySem.strKind _ _) ?F ?N ?U ?d ?k ?z ?_; (case F => k_asm); (case N => k_asm); (case U => k_updF); (case d => with_reducible assumption); (case k => exact sk_is _ _ _ _); (case z => omega)); intro h' o' F' N' hd'; (try dsimp only at N'); (try k_sweep)))
local macro_rules | `(tactic| walk_at "exec For Name Name cons nil") => `(tactic| (k_here; (rename Fr _ _ _ _ => lF'); (with_unfolding_all refine' For_cellD lF' ?k1 ?k2 ?_ ?ks ?ke; (case k1 => exact rfl); (case k2 => exact rfl); (case ks => exact fun _ => rfl); (case ke => assumption); k_whole)))
local macro_rules | `(tactic| walk_at "call builtin:len") => `(tactic| (k_here; (with_reducible show wpAny _ _ (call _ [Value.str (pathStr _ _) _]) _ _ _); k_dflt (refine' PyProof.Rows.len_str ?z ?_; (case z => (rw [pathStr_len]; omega)); k_whole)))
local macro_rules | `(tactic| walk_at "CellD") => `(tactic| refine rest ?_)
local macro_rules | `(tactic| walk_at "CellStep") => `(tactic| refine rest ?_)
local macro_rules | `(tactic| walk_at "CompSrcT") => `(tactic| refine rest ?_)
local macro_rules | `(tactic| walk_at "compareOp Eq ref ref") => `(tactic| (k_here; (with_reducible show wpAny _ _ (compareOp CmpOp.Eq (Value.ref _) (Value.ref _)) _ _ _); k_dflt (refine' eq_nil_list ?N ?ma ?mb ?u ?_; (case N => k_asm); (case ma => k_mem); (case mb => k_mem); (case u => k_units); k_whole)))
local macro_rules | `(tactic| walk_at "subscriptTail") => `(tactic| (k_here; (with_reducible show wpAny _ _ (subscriptTail _ _ (Value.str (pathStr _ _) _) (Value.ref _)) _ _ _); k_dflt (refine' slice_P ?F ?N ?e ?z ?_; (case F => k_asm); (case N => k_asm); (case e => exact slice_len (by omega)); (case z => (rw [pathStr_len]; omega)); k_whole); intro h' t' k' F' N'))
local macro_rules | `(tactic| walk_at "subscriptTail") => `(tactic| (k_here; (with_reducible show wpAny _ _ (subscriptTail _ _ (Value.ref _) (Value.str _ _)) _ _ _); k_dflt (refine' db_item (knd := PySem.strKind _ _) ?N ?p ?d ?k ?l ?_; (case N => k_asm); (case p => k_mem); (case d => with_reducible assumption); (case k => exact sk_is _ _ _ _); (case l => with_reducible assumption); k_whole); intro _))
section
variable {prog : Program} {w : World} {p : Program} {loose : List Str} {mean : ExcName → Option Value} {mg mb : Str → Option Value} {L xs st bk cod hof td tr db he : Addr} {led : List (Addr × Obj)} {B : List Bts} {D : List (List UInt8 × Bts)} {ℓ : Nat → Bts} {H : Nat → Nat → Bts} {nB : Nat}
theorem segE (dp un : Nat) (gd : Option (List Code)) (a : Addr) (ccd : Value) (outer : List Env) (A₀ : Around) (base h₀ : Heap) (m : Str → Option Value) (s : Shared) (Q : Flow → Shared → Prop) (E : Value → Shared → Prop) (more : List Stmt) {ky se kp : Addr} {kvs : List Value} {nk : Nat} {qs : List Nat} {os okp o5s : Obj} {SV : List (Str × Bts)}
    (Bl : Below A₀ base outer h₀) (F : Fr h₀ L s.heap m) (X : (Mine.hd.heap_39 w.params).In h₀) (N : News h₀ L s.heap led) (T : Top p loose mean mg mb h₀) (hd : dp + 12 < recursionLimit) (hu : un + 80 < cLine)
    (AD : Adr L xs st bk cod hof td tr db he) (S : LSt prog w p loose mean mg mb L xs st bk cod hof td tr db he led B D ℓ H nB)
    (hE : PassesOwn (model prog w) (ktrTop dp un gd lawN lawScope L a ccd (lawCl L) outer) (envX lawN lawScope L a ccd (lawCl L)) E)
    (hky : @LT.lt Nat _ he ky) (hse : @LT.lt Nat _ ky se) (hkp : @LT.lt Nat _ se kp) (mky : (ky, PySem.W.listOf (List.toArray kvs) nk) ∈ led) (hI : IntsAre kvs (qs.map fun q : Nat => (q : Int))) (hql : qs.length ≤ 4) (hqb : ∀ q ∈ qs, q < 256) (mse : (se, os) ∈ led) (mkp : (kp, okp) ∈ led) (hokp : DB (PySem.strKind prog w) okp [])
    (P : SeP prog w H (fun q _ => q ∈ qs) (8 * qs.length) ⟨os, SV, o5s⟩)
    (m3 : ∃ o, (L + 1 + 1 + 1, o) ∈ led ∧ o.data = .cell (some (.ref ky))) (m4 : ∃ o, (L + 1 + 1 + 1 + 1, o) ∈ led ∧ o.data = .cell (some (.ref se)))
    (hm1 : m (Str.ofString "state") = some (.ref st)) (hm2 : m (Str.ofString "hash_of") = some (.ref hof)) (hm3 : m (Str.ofString "kept") = some (.ref kp))
    (next : ∀ h' tk' led' okp' KV, Fr h₀ L h' m → News h₀ L h' led' → LSt prog w p loose mean mg mb L xs st bk cod hof td tr db he led' B D ℓ H nB → (∀ a o, (a, o) ∈ led → @Ne Nat a kp → @Ne Nat a (L + 5) → (a, o) ∈ led') → (kp, okp') ∈ led' → DB (PySem.strKind prog w) okp' KV → KeptOK qs H KV → KV.length ≤ 32 →
      wpAny (model prog w) (ktrTop dp un gd lawN lawScope L a ccd (lawCl L) outer) (execs more (envX lawN lawScope L a ccd (lawCl L))) Q E { s with heap := h', toks := tk' }) :
    wpAny (model prog w) (ktrTop dp un gd lawN lawScope L a ccd (lawCl L) outer) (execs (lawSeg 11 1 ++ more) (envX lawN lawScope L a ccd (lawCl L))) Q E s := by
  have e1 : lawSeg 11 1 ++ more = _ :: more := rfl
  rw [e1]
  clear e1
  have e3 : lawScope = lawScope := rfl
  conv at e3 => lhs; whnf
  rw [lawCl_eq] at next hE ⊢
  rw [← e3] at next hE ⊢
  clear e3
  obtain ⟨a0, a1, a2, a3, a4, a5, a6, a7, a8, a9⟩ := AD
  obtain ⟨o3, n3, d3⟩ := m3
  obtain ⟨o4, n4, d4⟩ := m4
  obtain ⟨o5, v5, n5, d5⟩ := S.c5
  have loS : (se == sysModules) = false := not_modules F (Top.nolimit T) (by omega)
  have ri : ∀ {a : Addr} {o : Obj}, (a, o) ∈ led → @Ne Nat a kp → @Ne Nat a (L + 1 + 1 + 1 + 1 + 1) → (a, o) ∈ less (L + 1 + 1 + 1 + 1 + 1) (less kp led) := fun hm k1 k2 => in_less (in_less hm k1) k2
  have N9 : News h₀ L s.heap ((L + 1 + 1 + 1 + 1 + 1, o5) :: (kp, okp) :: less (L + 1 + 1 + 1 + 1 + 1) (less kp led)) := fun p hp => by
    rcases List.mem_cons.mp hp with rfl | hp
    · exact N _ n5
    · rcases List.mem_cons.mp hp with rfl | hp
      · exact N _ mkp
      · exact N _ (less_mem.mp (less_mem.mp hp).1).1
  have n39 := ri n3 (by omega) (by omega)
  have n49 := ri n4 (by omega) (by omega)
  have mky9 := ri mky (by omega) (by omega)
  have mse9 := ri mse (by omega) (by omega)
  have r1 : ∀ q ∈ less (L + 1 + 1 + 1 + 1 + 1) (less kp led), q.1 ≠ kp := less_off2 less_off
  have r2 : ∀ q ∈ less (L + 1 + 1 + 1 + 1 + 1) (less kp led), q.1 ≠ L + 1 + 1 + 1 + 1 + 1 := less_off
  have z1 : @Ne Nat kp (L + 1 + 1 + 1 + 1 + 1) := by omega
  have hsk : ∀ (led' : List (Addr × Obj)) (o5' : Obj) (v : Option Value), (∀ q ∈ less (L + 1 + 1 + 1 + 1 + 1) (less kp led), q ∈ led') → (L + 1 + 1 + 1 + 1 + 1, o5') ∈ led' → o5'.data = .cell v → LSt prog w p loose mean mg mb L xs st bk cod hof td tr db he led' B D ℓ H nB ∧ (∀ a o, (a, o) ∈ led → @Ne Nat a kp → @Ne Nat a (L + 5) → (a, o) ∈ led') := fun led' o5' v hs hm hv =>
    ⟨S.keep ⟨a0, a1, a2, a3, a4, a5, a6, a7, a8, a9⟩ (c := L + 1 + 1 + 1 + 1 + 1) (fun a => a = kp ∨ a = L + 1 + 1 + 1 + 1 + 1) (fun a o hm' hc => hs _ (ri hm' (fun e => hc (.inl e)) (fun e => hc (.inr e)))) (by omega) (by omega) ⟨o5', v, hm, hv⟩ (fun a ha => ha.elim (fun e => .inr (by rw [e]; omega)) .inl), fun a o hm' k1 k2 => hs _ (ri hm' k1 k2)⟩
  generalize less (L + 1 + 1 + 1 + 1 + 1) (less kp led) = rest9 at N9 n39 n49 mky9 mse9 r1 r2 hsk
  clear ri n3 n4 n5 mky mse N S mkp
  have hSV := P.dbk
  have hSl := P.len
  dsimp only at hSV hSl
  k_steps
  show CellD _ _ _ _ _ _ _ _ _ _ _
  refine ⟨KeJ, Str, inferInstance, PySem.strKind prog w, se, L + 1 + 1 + 1 + 1 + 1, os, o5, SV, m, fun c => (kp, c.okp) :: rest9, kp :: rest9.map (·.1), KeP prog w qs SV, ⟨okp, []⟩, rfl, rfl, rfl, loS, hSV, by assumption, N9, ⟨v5, d5⟩, fun _ => .tail _ mse9, fun _ => rfl, ?_, ⟨hokp, (fun k b e => by cases e), fun j k b hj => absurd hj (Nat.not_lt_zero _), Nat.le_refl _⟩, ?_, ?_⟩
  · intro z hz
    rcases List.mem_cons.mp hz with rfl | hz
    · exact z1
    · obtain ⟨q, hq, rfl⟩ := List.mem_map.mp hz
      exact r2 q hq
  · rintro I oI ⟨okp, KV⟩ i v k b o5' h tk hi hk hkv d5' F1 N1 nI1 nI2 nI3 PK
    obtain ⟨tv, rfl⟩ := Value.isStrOf_shape hkv
    have hlk : look SV k = some b := look_of_mem (DB.nodup hSV) (List.mem_of_getElem? hk)
    obtain ⟨q0, j0, hj8, hq0, hqs0, rfl, rfl⟩ := P.mem k b hlk
    have hx := sib_lt hq0 hj8
    generalize hdd : 8 - j0 = d0 at *
    have hd8 : d0 ≤ 8 := by omega
    generalize sib (q0 / 2 ^ j0) = x0 at *
    have hdb := PK.dbk
    have hln := PK.len
    dsimp only at hdb hln N1
    replace F1 : Fr h₀ L h m := F1
    replace N1 : News h₀ L h _ := N1
    have hkl : kvs.length = qs.length := by have := hI.length; rw [List.length_map] at this; omega
    k_steps
    show LCt.CompSrcT _ _ _ _ _ _ _ _ _ _ _ _ _ _ _
    refine lsrcT (Hits qs d0 x0) rfl F1 N1 (.tail _ (.tail _ (.tail _ mky9))) (by omega) ⟨fun _ q hq => by simp at hq, fun _ => rfl⟩ ?_ ?_
    · rintro i' ys v I' oI' C oC D m₂ h' tk' E' hi' hHits hv hC hx' F2 N2 off ne
      obtain ⟨z, tz, rfl, hz⟩ := hI.at i' v hv
      rw [List.getElem?_map] at hz
      obtain ⟨q, hq, rfl⟩ := Option.map_eq_some_iff.mp hz
      have hq256 := hqb q (List.mem_of_getElem? hq)
      have hql' : q / 2 ^ (8 - d0) < 2 ^ d0 := by
        have := anc_lt hq256 (i := 8 - d0) (by omega)
        rwa [show 8 - (8 - d0) = d0 by omega] at this
      k_steps
      · rename _ = true => hc
        refine' LCg.CompEnd.intro ?F ?N _ ?s off ?S ⟨rfl, Hits.yes hq (path_inj hql' hx (eq_of_beq hc))⟩
        (case F => assumption); (case N => assumption); (case s => kcf_all); (case S => lcg_src)
      · rename _ = false => hc
        refine' LCg.CompEnd.intro ?F ?N _ ?s off ?S ⟨rfl, Hits.no hq (fun e => by rw [e, beq_self_eq_true] at hc; cases hc) hHits⟩
        (case F => assumption); (case N => assumption); (case s => kcf_all); (case S => lcg_src)
    · intro g ys hHits
      have nkI : @Ne Nat kp I := nI1 (kp, okp) (.head _)
      rw [hkl] at hHits
      k_steps
      · refine' CellStep.intro ⟨_, _⟩ ?F ?N ?sub d5' ?P
        (case F => assumption); (case N => assumption); (case sub => kcf_all)
        (case P => exact PK.put (DB.nodup hSV) hk ((hHits.free hx hd8).mp (by assumption)) (by assumption))
      · refine' CellStep.intro ⟨okp, KV⟩ ?F ?N ?sub d5' ?P
        (case F => assumption); (case N => assumption); (case sub => kcf_all)
        (case P => exact PK.skip hk fun f => absurd ((hHits.free hx hd8).mpr f) (by assumption))
  · rintro ⟨okp, KV⟩ o5' h tk PK F1 N1 ⟨v5', d5'⟩
    obtain ⟨S', hkeep⟩ := hsk _ _ v5' (fun q hq => .tail _ (.tail _ hq)) (.head _) d5'
    have hln := PK.len
    dsimp only at hln
    exact next _ _ _ okp KV F1 N1 S' hkeep (.tail _ (.head _)) PK.dbk (PK.kept P hqb) (by omega)
end
end Mine
end
section
theorem Mine.offFm : True := by w_top off; trivial
open PySem PySem.W PyProof.Rows PySem.Calls
set_option Elab.async false
set_option maxRecDepth 100000
set_option maxHeartbeats 2000000
set_option linter.unusedSimpArgs false
set_option linter.unusedSectionVars false
set_option linter.unusedVariables false
namespace Mine
theorem Tree.mono {B B' : List Bts} {D : List (List UInt8 × Bts)} {ℓ : Nat → Bts} {H : Nat → Nat → Bts} (T : Tree B D ℓ H) (p : B <+: B') : Tree B' D ℓ H :=
  ⟨fun q hq => ⟨(T.leaf q hq).1, (T.leaf q hq).2.mono p⟩, fun d hd q hq => ⟨(T.node d hd q hq).1, (T.node d hd q hq).2.mono p⟩, Back.mono T.back p, T.full⟩
section
variable {prog : Program} {w : World} {p : Program} {loose : List Str} {mean : ExcName → Option Value} {mg mb : Str → Option Value} {L xs st bk cod hof td tr db he : Addr} {led led' : List (Addr × Obj)} {B B' : List Bts} {D : List (List UInt8 × Bts)} {ℓ : Nat → Bts} {H : Nat → Nat → Bts} {nB nB' : Nat}
/-- the book has grown, one cell has changed, maybe the draws' state -/
theorem LSt.keepB (AD : Adr L xs st bk cod hof td tr db he) (S : LSt prog w p loose mean mg mb L xs st bk cod hof td tr db he led B D ℓ H nB) {c : Addr} {ob' : Obj} (chg : Addr → Prop) (hk : ∀ a o, (a, o) ∈ led → ¬ chg a → (a, o) ∈ led') (h1 : @LT.lt Nat _ (L + 2) c) (h2 : @LT.lt Nat _ c (L + 8)) (hc : ∃ o v, (c, o) ∈ led' ∧ o.data = .cell v) (hch : ∀ a : Addr, chg a → a = c ∨ a = bk ∨ a = st ∨ @LT.lt Nat _ db a)
    (hst : ∃ i c t1 t2 n, (st, stO xs i c t1 t2 n) ∈ led' ∧ 0 ≤ i ∧ 0 ≤ c ∧ c < 2147483647) (hb : (bk, ob') ∈ led') (hB : Book prog w ob' B') (hp : B <+: B') (l1 : B'.length ≤ nB') (l2 : nB ≤ nB') : LSt prog w p loose mean mg mb L xs st bk cod hof td tr db he led' B' D ℓ H nB' := by
  obtain ⟨a0, a1, a2, a3, a4, a5, a6, a7, a8, a9⟩ := AD
  have nc : ∀ {a : Addr}, @Ne Nat a c → @Ne Nat a bk → @Ne Nat a st → @LE.le Nat _ a db → ¬ chg a := fun {a} h hb hs h' q => by
    rcases hch a q with e | e | e | e
    · exact h e
    · exact hb e
    · exact hs e
    · exact absurd (Nat.lt_of_lt_of_le e h') (Nat.lt_irrefl _)
  obtain ⟨od, m3, hD⟩ := S.tdb
  obtain ⟨otd, m4, hT⟩ := S.tree
  obtain ⟨vs, ns, nx, mx, hx1, hx2⟩ := S.xsL
  obtain ⟨nm, ql, ps, bd, sc, clo, pm, ctv, oc, oco, mh, mc, mo, k1, k2, HC⟩ := S.hash
  obtain ⟨o1, n1, d1⟩ := S.c1
  obtain ⟨o2, n2, d2⟩ := S.c2
  obtain ⟨ps', mt⟩ := S.tab
  have cell : ∀ {a : Addr}, @Ne Nat a bk → @Ne Nat a st → @LE.le Nat _ a db → (∃ o v, (a, o) ∈ led ∧ o.data = .cell v) → ∃ o v, (a, o) ∈ led' ∧ o.data = .cell v := fun {a} hb hs ha ⟨o, v, hm, hv⟩ => by
    by_cases e : @Eq Nat a c
    · have e' : a = c := e
      rw [e']; exact hc
    · exact ⟨o, v, hk a o hm (nc e hb hs ha), hv⟩
  refine ⟨hst, ⟨vs, ns, nx, hk _ _ mx (nc ?_ ?_ ?_ ?_), hx1, hx2⟩, ⟨ob', hb, hB⟩, ⟨od, hk _ _ m3 (nc ?_ ?_ ?_ ?_), hD⟩, ⟨otd, hk _ _ m4 (nc ?_ ?_ ?_ ?_), hT⟩, hk _ _ S.inst (nc ?_ ?_ ?_ ?_), S.T.mono hp, ⟨nm, ql, ps, bd, sc, clo, pm, ctv, oc, oco, hk _ _ mh (nc ?_ ?_ ?_ ?_), hk _ _ mc (nc ?_ ?_ ?_ ?_), hk _ _ mo (nc ?_ ?_ ?_ ?_), k1, k2, HC⟩, ⟨o1, hk _ _ n1 (nc ?_ ?_ ?_ ?_), d1⟩, ⟨o2, hk _ _ n2 (nc ?_ ?_ ?_ ?_), d2⟩, cell ?_ ?_ ?_ S.c3, cell ?_ ?_ ?_ S.c4, cell ?_ ?_ ?_ S.c5, cell ?_ ?_ ?_ S.c6, cell ?_ ?_ ?_ S.c7, ⟨ps', hk _ _ mt (nc ?_ ?_ ?_ ?_)⟩, ⟨l1, Nat.le_trans S.lim.2 l2⟩, S.small⟩
  all_goals omega
end
/-! y = {kx: vx for x in l} -/
section
open LCg
variable {prog : Program} {w : World} {A : Around} {E : Value → Shared → Prop} {s : Shared} {h₀ : Heap} {L : Addr} {m : Str → Option Value} {env : Env}
def DSrcA (prog : Program) (w : World) (A : Around) (h₀ : Heap) (L : Addr) (m : Str → Option Value) (env : Env) (kx vx : PySem.Expr) (x : Str) (scope : Scope) (cl : List (Str × Addr)) (y : Str) (Q : Flow → Shared → Prop) (xv : Value) (s₁ : Shared) : Prop :=
  ∃ (K : Type) (_ : DecidableEq K) (knd : KeyKind prog w K) (ax : Addr) (its : List Value) (k : Nat) (news : List (Addr × Obj)) (J : Nat → List (K × Bts) → Prop), xv = .ref ax ∧ A.handled = none ∧ Fr h₀ L s₁.heap m ∧ News h₀ L s₁.heap news ∧ (ax, PySem.W.listOf its.toArray k) ∈ news ∧ its.length ≤ 1000000 ∧ J 0 [] ∧
    (∀ i acc v I oI C oC D oD m₂ h tk (E' : Value → Shared → Prop), i < its.length → J i acc → its[i]? = some v → NsObj oC m₂ → m₂ x = some v → Fr h₀ L h m → News h₀ L h ((I, oI) :: (C, oC) :: (D, oD) :: news) → DB knd oD acc → Off3 I C D news → ((@Ne Nat I C) ∧ (@Ne Nat I D) ∧ (@Ne Nat C D)) →
      wpAny (model prog w) A (eval kx (compEnvC scope cl C env)) (fun kv s' => wpAny (model prog w) A (eval vx (compEnvC scope cl C env)) (fun vv s'' => DEnd knd h₀ L m { s₁ with heap := h, toks := tk } I oI C oC D oD (fun _ => True) (fun k b nw' => nw' = news ∧ J (i + 1) (put acc k b)) kv vv s'') E' s') E' { s₁ with heap := h, toks := tk }) ∧
    (∀ D oD h tk acc, Fr h₀ L h (fun z => if z = y then some (.ref D) else m z) → News h₀ L h ((D, oD) :: news) → DB knd oD acc → (∀ p ∈ news, p.1 ≠ D) → @LT.lt Nat _ L D → J its.length acc → Q .next { s₁ with heap := h, toks := tk })
theorem Assign_DictComp_A {kx vx iter : PySem.Expr} {x y : Str} {px py : Pos} {scope : Scope} {cl : List (Str × Addr)} {pos spos : Pos} {Q : Flow → Shared → Prop} (F₀ : Fr h₀ L s.heap m) (hLe : env.locals = L)
    (hsw : swapsWith (.DictComp kx vx [⟨.Name x px, iter, [], 0⟩] scope pos) (some (.Name y py)) spos.line env = pure true)
    (hclos : closureFor scope env = pure cl) (hcell : ∀ z ∈ scope.names, z.2 ≠ .cell) (hkind : scope.kind = .function)
    (hnames : ∀ z ∈ scope.names, z.2 = .local → scope.names.lookup z.1 = some .local) (hx : scope.names.lookup x = some .local)
    (hy : env.kindOf y = some .local) (hp : (env.scope.kind == .class || (env.scope.kind == .module && env.locals != env.globals)) = false)
    (h : wpAny (model prog w) A (eval iter env) (DSrcA prog w A h₀ L m env kx vx x scope cl y Q) E s)
    (hs : ∀ x, foldedSetIterable iter env x = pure x := by intro _; rfl) :
    wpAny (model prog w) A (exec (.Assign [.Name y py] (.DictComp kx vx [⟨.Name x px, iter, [], 0⟩] scope pos) spos) env) Q E s := by
  subst hLe
  rw [exec_Assign_Name_used _ _ _ _ hsw]
  refine wpAny_bind (wpAny_standAt (wpAny_bind ?_))
  show wpAny _ A (do let _ ← comprehension (.DictComp kx vx [⟨.Name x px, iter, [], 0⟩] scope pos) scope env _ newDict false (eval iter env) (some (assign (.Name y py) env))) _ _ s
  refine wpAny_bind (wpAny_mono (wpAny_comprehension_free (use := some (assign (.Name y py) env)) (Q := fun _ s' => Q .next s') rfl hs hclos hkind hnames
    (wpAny_mono h (fun xv s₁ h₁ => ?_) fun _ _ e => e)) (fun _ s' hq => wpAny_pure (wpAny_pure hq)) fun _ _ e => e)
  obtain ⟨K, _, knd, ax, its, k, news, J, rfl, hh, F, N, hm, hsz, h0, turn, fin⟩ := h₁
  have hl : s₁.heap.IsList ax its.toArray := list_in N hm
  have hz : its.toArray.size = its.length := List.size_toArray
  have hlt : ax < s₁.heap.objs.size := Heap.lt_size (N _ hm).1
  refine wpAny_pyIter_list hl ?_
  have up : ∀ b o, s₁.heap.get? b = some o → (s₁.heap.push { cls := .type "list_iterator", data := .fields #[.ref ax, .int 0 0] }).get? b = some o := fun b o e => Heap.get?_push_of_some _ e
  have W := Walks.list (A := A) (prog := prog) (w := w) hh s₁.heap.objs.size ax (Nat.ne_of_lt hlt) its.toArray
  rw [hz] at W
  have nI : ∀ p ∈ news, p.1 < s₁.heap.objs.size := fun p hp => Heap.lt_size (N p hp).1
  refine block_D (knd := knd) (S := fun nw => nw = news) (J := fun i acc nw => nw = news ∧ J i acc) (RR := fun acc C => compPost (model prog w) A E (some (assign (.Name y py) env)) (fun _ s' => Q .next s') acc C) W hsz (fun i h st => let ⟨o, e, _⟩ := st.1; ⟨o, e⟩) ?_ hcell hkind hx ⟨⟨_, Heap.get?_push_size _ rfl, rfl, rfl⟩, hl.push _⟩ ?_ (F.keeps up) (N.grown up) (Nat.ne_of_lt F.ns.lt) (next_is_new F) (fun p hp => Nat.ne_of_lt (nI p hp)) rfl ⟨rfl, h0⟩ ?_ ?_
  · rintro i h h' o nw st e e' k N' rfl
    exact ⟨by obtain ⟨o', q, r⟩ := st.1; rw [e] at q; cases q; exact ⟨o, e', r⟩, list_in N' hm⟩
  · intro b hb
    show b < (s₁.heap.push _).objs.size
    rw [Heap.size_push]
    rcases List.mem_cons.mp hb with rfl | hb
    · exact Nat.lt_succ_self _
    · rw [List.mem_singleton.mp hb]; exact Nat.lt_succ_of_lt hlt
  · rintro i acc nw v I oI C oC D oD m₂ h tk E' hi ⟨rfl, hJ⟩ hv hC hx' F' N' hdb off ne -
    refine wpAny_mono (turn i acc v I oI C oC D oD m₂ h tk E' hi hJ (by simpa using hv) hC hx' F' N' hdb off ne) (fun kv s₄ h₄ => wpAny_mono h₄ (fun vv s₅ h₅ => ?_) fun _ _ e => e) fun _ _ e => e
    obtain ⟨h', tk', nw', kk, b, t, e, hkk, hvv, F4, N4, off4, -, rfl, hJ4⟩ := h₅
    exact ⟨h', tk', nw', kk, b, t, e, hkk, hvv, F4, N4, off4, rfl, rfl, hJ4⟩
  · rintro D oD C h tk m' acc news' F' N' hdb o1 hLD hn hC₀ hD₀ hCL hDL hCD offC ⟨rfl, hJ⟩
    show wpAny _ A (assign (.Name y py) env (.ref D)) _ _ _
    refine wpAny_assign_Name (wpAny_storeName_local hy F'.ns (fun h₂ hn₂ hs₂ => ?_) hp)
    have hL₀ : h₀.get? env.locals = none := Heap.get?_none_of_le F'.above
    have F₂ : Fr h₀ env.locals h₂ (fun z => if z = y then some (.ref D) else m z) := ⟨hn₂, fun b o e => hs₂.extBut b o (fun q => by rw [q, hL₀] at e; cases e) (F'.keep b o e), F'.above⟩
    refine ⟨m', hn.sameBut hs₂ hCL, fun h'' hs'' => fin D oD h'' _ acc (F₂.change hs'' hCL hC₀) (fun p hp => ?_) hdb (fun p hp e => ?_) hLD hJ⟩
    · have z : h₂.get? p.1 = some p.2 := hs₂.extBut _ _ (N' p hp).2.1 (N' p hp).1
      refine ⟨hs''.extBut _ _ ?_ z, (N' p hp).2⟩
      rcases List.mem_cons.mp hp with rfl | hp
      · exact Ne.symm hCD
      · exact offC p hp
    · have key : ∀ {l : List (Addr × Obj)}, Off1 D l → ∀ p ∈ l, p.1 ≠ D := by
        intro l
        induction l with
        | nil => intro _ p hp; cases hp
        | cons q r ih =>
          intro o p hp
          rcases List.mem_cons.mp hp with rfl | hp
          · exact o.1
          · exact ih o.2 p hp
      exact key o1 p hp e
end
end Mine
end
section
open PySem PySem.W PyProof.Rows PySem.Calls
set_option Elab.async false
set_option maxRecDepth 100000
set_option maxHeartbeats 4000000
set_option linter.unusedSimpArgs false
set_option linter.unusedSectionVars false
set_option linter.unusedVariables false
theorem Mine.fillLf : (fun (_ : OpenLaw) (_ : Params → Frag) => True) PySem.Challenge.rw_bs0043_01 Mine.hd.heap_39 := by w_top off; k_fill; trivial
namespace Mine
local macro_rules | `(tactic| k_ne) => `(tactic| (refine neN ?_; (try dsimp only); first | with_reducible assumption | exact Ne.symm (by with_reducible assumption) | omega))
local macro_rules | `(tactic| k_all) => `(tactic| first | with_reducible assumption | (refine' all_cons ?a ?b; (case a => first | with_reducible assumption | exact Ne.symm (by with_reducible assumption) | omega); (case b => k_all)))
local macro_rules | `(tactic| k_mem) => `(tactic| first | assumption | exact List.mem_append_left _ (by assumption))
local macro_rules | `(tactic| k_room) => `(tactic| ((try simp only [depth_under_make, depth_under_kw, depth_in1, depth_deeper, depth_caller]); (try dsimp only [ktrTop]); omega))
local macro_rules | `(tactic| k_units) => `(tactic| ((have hcL9 := cLine_is); (try simp only [units_under_make, units_in1, units_deeper, Around.mark_units, units_caller]); (try dsimp only [ktrTop]); omega))
local macro_rules | `(tactic| walk_at "eval Name") => `(tactic| (k_here; (with_reducible show wpAny _ _ (eval (Expr.Name _ _) (envX _ _ _ _ _ _)) _ _ _); k_dflt (first
  | (refine' nameX_L ?F ?v ?_ ?a ?b; (case F => k_asm); (case a => rfl); (case b => rfl); (case v => first | rfl | assumption); k_whole)
  | (refine' nameX_C ?N ?c ?m ?d ?_ ?a ?b; (case a => rfl); (case b => rfl); (case N => k_asm); (case c => rfl); (case m => k_mem); (case d => k_asm); k_whole)
  | (refine' nameX_K ?F ?X ?T ?e ?_ ?a ?b; (case F => k_asm); (case X => k_asm); (case T => k_asm); (case a => rfl); (case b => rfl); (case e => k_is); k_whole)
  | (refine' nameX_B ?F ?X ?T ?e ?v ?n ?_ ?a ?b; (case F => k_asm); (case X => k_asm); (case T => k_asm); (case a => rfl); (case b => rfl); (case e => k_is); (case v => boot_fast); (case n => decide); k_whole))))
local macro_rules | `(tactic| walk_at "pyIter ref") => `(tactic| refine rest ?_)
local macro_rules | `(tactic| walk_at "exec For Name Call cons nil") => `(tactic| (k_here; (rename Fr _ _ _ _ => lF'); (with_unfolding_all refine' For_invVF lF' ?k1 ?k2 ?_ ?ks ?ke; (case k1 => exact rfl); (case k2 => exact rfl); (case ks => exact fun _ => rfl); (case ke => assumption); k_whole)))
local macro_rules | `(tactic| walk_at "exec For Name Name cons nil") => `(tactic| (k_here; (rename Fr _ _ _ _ => lF'); (with_unfolding_all refine' For_invVF lF' ?k1 ?k2 ?_ ?ks ?ke; (case k1 => exact rfl); (case k2 => exact rfl); (case ks => exact fun _ => rfl); (case ke => assumption); k_whole)))
local macro_rules | `(tactic| walk_at "EndF") => `(tactic| refine rest ?_)
local macro_rules | `(tactic| walk_at "call ref") => `(tactic| (k_here; (first | (with_reducible show wpAny _ _ (call (Value.ref 109) _) _ _ _) | (with_reducible show wpAny _ _ (call (Value.ref 184) _) _ _ _) | (with_reducible show wpAny _ _ (call (Value.ref 191) _) _ _ _)); refine rest ?_))
local macro_rules | `(tactic| walk_at "call ref") => `(tactic| (k_here; (with_reducible show wpAny _ _ (call (Value.ref 109) _) _ _ _); k_dflt (refine' branch_use _ _ _ _ _ _ _ _ _ _ _ _ _ _ _ _ _ ?mt ?md ?hT ?Bl ?F ?X ?N ?T ?k ?d ?u ?mdb ?hD ?Tr ?root ?key ?q ?_; (case F => k_asm); (case N => k_asm); (case mt => k_mem); (case md => k_mem); (case hT => exact ⟨_, _, _, _, _, _, _, _, _, _, rfl⟩); (case Bl => k_asm); (case X => k_asm); (case T => k_asm); (case k => rfl); (case d => k_room); (case u => k_units); (case mdb => k_mem); (case hD => with_reducible assumption); (case Tr => with_reducible assumption); (case root => rfl); (case key => exact key1 (by assumption)); (case q => first | assumption | omega); k_whole); intro tp' vs' h' tk' hvs' F' N' l1; (have hvl' := get_len hvs'); (try k_lt l1); (try k_sweep)))
local macro_rules | `(tactic| walk_at "call ref") => `(tactic| (k_here; (with_reducible show wpAny _ _ (call (Value.ref 184) [Value.int _ _]) _ _ _); k_dflt (refine' path_ok _ _ _ _ _ _ _ _ _ _ _ _ _ _ _ _ _ ?Bl ?F ?X ?N ?T ?k ?d ?u ?_; (case F => k_asm); (case N => k_asm); (case Bl => k_asm); (case X => k_asm); (case T => k_asm); (case k => rfl); (case d => k_room); (case u => k_units); k_whole); intro h' t' tk' F' N'; (try k_sweep)))
local macro_rules | `(tactic| walk_at "call ref") => `(tactic| (k_here; (with_reducible show wpAny _ _ (call (Value.ref 191) [Value.str _ _]) _ _ _); k_dflt (refine' beside_ok _ _ _ _ _ _ _ _ _ _ _ _ _ _ _ _ _ ?Bl ?F ?X ?N ?T ?k ?d ?u ?dd ?_; (case F => k_asm); (case N => k_asm); (case Bl => k_asm); (case X => k_asm); (case T => k_asm); (case k => rfl); (case d => k_room); (case u => k_units); (case dd => omega); k_whole); intro h' t' tk' F' N'; (try k_sweep)))
local macro_rules | `(tactic| walk_at "subscriptTail") => `(tactic| (k_here; (with_reducible show wpAny _ _ (subscriptTail _ _ (Value.str (pathStr _ _) _) (Value.ref _)) _ _ _); k_dflt (refine' slice_P ?F ?N ?e ?z ?_; (case F => k_asm); (case N => k_asm); (case e => exact slice_up (by omega)); (case z => (rw [pathStr_len]; omega)); k_whole); intro h' t' k' F' N'))
local macro_rules | `(tactic| walk_at "subscriptTail") => `(tactic| (k_here; (with_reducible show wpAny _ _ (subscriptTail _ _ (Value.ref _) (Value.int _ _)) _ _ _); k_dflt (refine' item_tup ?N ?m ?v ?l ?_; (case N => k_asm); (case m => k_mem); (case v => assumption); (case l => omega); k_whole)))
local macro_rules | `(tactic| walk_at "call builtin:dict.get") => `(tactic| (k_here; k_dflt (refine' db_get_same (knd := PySem.strKind _ _) ?N ?p ?d ?lo ?k ?s ?_; (case N => k_asm); (case p => k_mem); (case d => with_reducible assumption); (case lo => assumption); (case k => exact sk_is _ _ _ _); (case s => assumption); k_whole); intro _))
local macro_rules | `(tactic| walk_at "getMethod ref") => `(tactic| (k_here; (with_reducible show wpAny _ _ (getMethod (Value.ref _) (Str.ofString "get") _) _ _ _); k_dflt (refine' db_mGet (knd := PySem.strKind _ _) ?N ?p ?d ?_; (case N => k_asm); (case p => k_mem); (case d => with_reducible assumption); k_whole)))
local macro_rules | `(tactic| walk_at "compareOp NotEq bytes bytes") => `(tactic| (k_here; k_dflt (refine' ne_same ?_; k_whole)))
local macro_rules | `(tactic| walk_at "call builtin:len") => `(tactic| (k_here; k_dflt (refine' len_branch ?N ?m ?b ?_; (case N => k_asm); (case m => k_mem); (case b => assumption); k_whole)))
local macro_rules | `(tactic| walk_at "setItem ref") => `(tactic| (k_here; (with_reducible show wpAny _ _ (setItem (Value.ref _) (Value.str _ _) (Value.bytes _ _)) _ _ _); k_dflt (refine' db_set (knd := PySem.strKind _ _) ?F ?N ?U ?d ?k ?z ?_; (case F => k_asm); (case N => k_asm); (case U => k_updF); (case d => with_reducible assumption); (case k => exact sk_is _ _ _ _); (case z => omega)); intro h' o' F' N' hd'; (try dsimp only at N'); (try k_sweep)))
local macro_rules | `(tactic| walk_at "exec Assign cons DictComp") => `(tactic| (k_here; k_dflt (refine Assign_DictComp_A (F₀ := by k_asm) (by rfl) (by with_unfolding_all rfl) (by with_unfolding_all rfl) (by decide) (by rfl) (by decide) (by rfl) (by rfl) (by rfl) ?_)))
local macro_rules | `(tactic| walk_at "DSrcA") => `(tactic| refine rest ?_)
local macro_rules | `(tactic| walk_at "DEnd") => `(tactic| refine rest ?_)
local macro_rules | `(tactic| walk_at "TSrcD") => `(tactic| refine rest ?_)
local macro_rules | `(tactic| walk_at "eval ListComp") => `(tactic| refine rest ?_)
local macro_rules | `(tactic| walk_at "eval ListComp") => `(tactic| (k_here; k_dflt (refine ListComp_TD (by k_asm) (by with_unfolding_all rfl) (by decide) (by rfl) (by decide) (by rfl) ?_)))
local macro_rules | `(tactic| walk_at "call ref") => `(tactic| (k_here; (with_reducible show wpAny _ _ (call (Value.ref 196) _) _ _ _); refine rest ?_))
local macro_rules | `(tactic| walk_at "call ref") => `(tactic| (k_here; (with_reducible show wpAny _ _ (call (Value.ref 196) _) _ _ _); k_dflt (refine' joined_ok _ _ _ _ _ _ _ _ _ _ _ _ _ _ _ _ _ ?Bl ?F ?X ?N ?T ?k ?d ?u ?U1 ?mh ?mc ?mo ?mv ?mk ?HC ?hoc ?hoco ?hvb ?hkb ?lov ?lok ?hVl ?hKl ?hB ?hBl _ ?hVq ?hqb ?hside ?hV ?hK ?_; (case HC => with_reducible assumption); (case hB => with_reducible assumption); (case F => k_asm); (case N => k_asm); (case Bl => k_asm); (case X => k_asm); (case T => k_asm); (case k => rfl); (case d => k_room); (case u => k_units); (case U1 => k_updF); (case mh => k_mem); (case mc => k_mem); (case mo => k_mem); (case mv => k_mem); (case mk => k_mem); (case hoc => with_reducible assumption); (case hoco => with_reducible assumption); (case hvb => omega); (case hkb => omega); (case lov => with_reducible assumption); (case lok => with_reducible assumption); (case hBl => omega); (case hV => with_reducible assumption); (case hK => with_reducible assumption); (case hVl => omega); (case hKl => omega); (case hVq => with_reducible assumption); (case hqb => with_reducible assumption); (case hside => with_reducible assumption); k_whole); intro D' ob' od' B' W' h' tk' hB' hp' hl' hW' J' hWl' loW' F' N' l1; (try k_lt l1); (try k_sweep)))
local macro_rules | `(tactic| walk_at "callWith ref") => `(tactic| (k_here; k_dflt (refine' callWith_F ?k1 ?_; (case k1 => exact FnAt.of (by k_asm) (by k_mem)); k_whole)))
local macro_rules | `(tactic| walk_at "getMethod ref") => `(tactic| (k_here; (with_reducible show wpAny _ _ (getMethod (Value.ref _) (Str.ofString "get") _) _ _ _); k_dflt (refine' db_mGet (knd := intKind _ _) ?N ?p ?d ?_; (case N => k_asm); (case p => k_mem); (case d => with_reducible assumption); k_whole)))
local macro_rules | `(tactic| walk_at "call builtin:dict.get") => `(tactic| (k_here; k_dflt (refine' db_get2 (knd := intKind _ _) ?N ?p ?d ?lo ?k ?_; (case N => k_asm); (case p => k_mem); (case d => with_reducible assumption); (case lo => assumption); (case k => exact intKind_is _ _ _ _); k_whole); intro _))
local macro_rules | `(tactic| walk_at "subscriptTail") => `(tactic| (k_here; (with_reducible show wpAny _ _ (subscriptTail _ _ (Value.ref _) (Value.str _ _)) _ _ _); k_dflt (refine' db_item (knd := PySem.strKind _ _) ?N ?p ?d ?k ?l ?_; (case N => k_asm); (case p => k_mem); (case d => with_reducible assumption); (case k => exact sk_is _ _ _ _); (case l => with_reducible assumption); k_whole); intro _))
local macro_rules | `(tactic| walk_at "compareOp NotEq ref ref") => `(tactic| (k_here; (with_reducible show wpAny _ _ (compareOp CmpOp.NotEq (Value.ref _) (Value.ref _)) _ _ _); k_dflt (refine' ne_nil_list ?N ?ma ?mb ?u ?_; (case N => k_asm); (case ma => k_mem); (case mb => k_mem); (case u => k_units); k_whole)))
theorem vals_step {qs : List Nat} {ℓ : Nat → Bts} {acc : List (Str × Bts)} {i q : Nat} (hnd : qs.Nodup) (hq : qs[i]? = some q) (hqb : ∀ q ∈ qs, q < 256) (j1 : acc.map (·.1) = (qs.take i).map (pathStr 8)) (j2 : ∀ q ∈ qs.take i, look acc (pathStr 8 q) = some (ℓ q)) :
    (put acc (pathStr 8 q) (ℓ q)).map (·.1) = (qs.take (i + 1)).map (pathStr 8) ∧ ∀ x ∈ qs.take (i + 1), look (put acc (pathStr 8 q) (ℓ q)) (pathStr 8 x) = some (ℓ x) := by
  have hm := List.mem_of_getElem? hq
  have ht : qs.take (i + 1) = qs.take i ++ [q] := by rw [List.take_add_one, hq]; rfl
  have hni : q ∉ qs.take i := fun h => by
    obtain ⟨j, hj, e⟩ := List.getElem_of_mem h
    have hji : j < i := by rw [List.length_take] at hj; omega
    obtain ⟨hi, e'⟩ := List.getElem?_eq_some_iff.mp hq
    rw [List.getElem_take] at e
    have := (List.getElem_inj hnd).mp (e.trans e'.symm)
    omega
  have hl : look acc (pathStr 8 q) = none := by
    cases h : look acc (pathStr 8 q) with
    | none => rfl
    | some b =>
      have h3 := look_some_mem h
      have h2 : pathStr 8 q ∈ acc.map (·.1) := List.mem_map.mpr ⟨_, h3, rfl⟩
      rw [j1] at h2
      obtain ⟨x, hx, e⟩ := List.mem_map.mp h2
      exact absurd (path_inj (hqb x (List.mem_of_mem_take hx)) (hqb q hm) e ▸ hx) hni
  refine ⟨?_, fun x hx => ?_⟩
  · rw [put_absent hl, List.map_append, j1, ht, List.map_append]; rfl
  · rw [look_put]
    split
    · rename_i e
      rw [ht] at hx
      rcases List.mem_append.mp hx with hx | hx
      · exact absurd (path_inj (hqb q hm) (hqb x (List.mem_of_mem_take hx)) e ▸ hx) hni
      · rw [List.mem_singleton.mp hx]
    · rename_i e
      rw [ht] at hx
      rcases List.mem_append.mp hx with hx | hx
      · exact j2 x hx
      · exact absurd (congrArg _ (List.mem_singleton.mp hx).symm) e
theorem root_same {qs : List Nat} {K V : List (Str × Bts)} {B B' : List Bts} {D : List (List UInt8 × Bts)} {ℓ : Nat → Bts} {H : Nat → Nat → Bts} {W : List (Str × Bts)} (hne : qs ≠ []) (T : Tree B D ℓ H) (J : JRes qs K V B' W) (KO : KeptOK qs H K) (hq : ∀ q ∈ qs, q < 256) (hp : B <+: B') (hn : B'.Nodup)
    (hv : ∀ q ∈ qs, look V (pathStr 8 q) = some (ℓ q)) : look W (Str.ofString "") = some (H 0 0) := by
  obtain ⟨q, hqs⟩ := List.exists_mem_of_ne_nil qs hne
  have := (joined_same T J KO hq hp hn hv).1 q hqs 8 (Nat.le_refl _)
  rw [Nat.sub_self, show q / 2 ^ 8 = 0 from Nat.div_eq_of_lt (hq q hqs)] at this
  exact this
theorem seen_same {prog : Program} {w : World} {qs : List Nat} {K V : List (Str × Bts)} {B B' : List Bts} {D : List (List UInt8 × Bts)} {ℓ : Nat → Bts} {H : Nat → Nat → Bts} {W SV : List (Str × Bts)} {os o5s : Obj} {n : Nat} (P : SeP prog w H (fun q _ => q ∈ qs) n ⟨os, SV, o5s⟩) (T : Tree B D ℓ H) (J : JRes qs K V B' W) (KO : KeptOK qs H K) (hq : ∀ q ∈ qs, q < 256) (hp : B <+: B') (hn : B'.Nodup)
    (hv : ∀ q ∈ qs, look V (pathStr 8 q) = some (ℓ q)) : ∀ k b, look SV k = some b → look W k = some b := by
  intro k b hk
  obtain ⟨q, j, hj, _, hqs, rfl, rfl⟩ := P.mem k b hk
  exact (joined_same T J KO hq hp hn hv).2 q hqs j hj
section
variable {prog : Program} {w : World} {p : Program} {loose : List Str} {mean : ExcName → Option Value} {mg mb : Str → Option Value} {L xs st bk cod hof td tr db he : Addr} {led : List (Addr × Obj)} {B : List Bts} {D : List (List UInt8 × Bts)} {ℓ : Nat → Bts} {H : Nat → Nat → Bts} {nB : Nat}
theorem segF (dp un : Nat) (gd : Option (List Code)) (a : Addr) (ccd : Value) (outer : List Env) (A₀ : Around) (base h₀ : Heap) (m : Str → Option Value) (s : Shared) (Q : Flow → Shared → Prop) (E : Value → Shared → Prop) (more : List Stmt) {ky se kp : Addr} {kvs : List Value} {nk : Nat} {qs : List Nat} {oh os okp o5s : Obj} {SV KV : List (Str × Bts)} {HV : List (Int × Bts)}
    (Bl : Below A₀ base outer h₀) (F : Fr h₀ L s.heap m) (X : (Mine.hd.heap_39 w.params).In h₀) (N : News h₀ L s.heap led) (T : Top p loose mean mg mb h₀) (hd : dp + 12 < recursionLimit) (hu : un + 80 < cLine)
    (AD : Adr L xs st bk cod hof td tr db he) (S : LSt prog w p loose mean mg mb L xs st bk cod hof td tr db he led B D ℓ H nB) (hnB : nB ≤ 1000)
    (mhe : (he, oh) ∈ led) (hHV : DB (intKind prog w) oh HV) (heldV : ∀ q : Nat, q < 256 → (look HV (q : Int)).getD #[100] = ℓ q)
    (hky : @LT.lt Nat _ he ky) (hse : @LT.lt Nat _ ky se) (hkp : @LT.lt Nat _ se kp) (mky : (ky, PySem.W.listOf (List.toArray kvs) nk) ∈ led) (hI : IntsAre kvs (qs.map fun q : Nat => (q : Int))) (hnd : qs.Nodup) (hne : qs ≠ []) (hql : qs.length ≤ 4) (hqb : ∀ q ∈ qs, q < 256) (mse : (se, os) ∈ led) (mkp : (kp, okp) ∈ led)
    (P : SeP prog w H (fun q _ => q ∈ qs) (8 * qs.length) ⟨os, SV, o5s⟩) (hKV : DB (PySem.strKind prog w) okp KV) (KO : KeptOK qs H KV) (hKl : KV.length ≤ 32)
    (m3 : ∃ o, (L + 1 + 1 + 1, o) ∈ led ∧ o.data = .cell (some (.ref ky))) (m4 : ∃ o, (L + 1 + 1 + 1 + 1, o) ∈ led ∧ o.data = .cell (some (.ref se)))
    (hm1 : m (Str.ofString "state") = some (.ref st)) (hm2 : m (Str.ofString "hash_of") = some (.ref hof)) (hm3 : m (Str.ofString "kept") = some (.ref kp))
    (next : ∀ h' tk' m' led' B' va ov VV, Fr h₀ L h' m' → News h₀ L h' led' → B <+: B' → LSt prog w p loose mean mg mb L xs st bk cod hof td tr db he led' B' D ℓ H (nB + 36) → (∀ a o, (a, o) ∈ led → @Ne Nat a bk → @Ne Nat a (L + 6) → (a, o) ∈ led') → (va, ov) ∈ led' → DB (PySem.strKind prog w) ov VV → VV.map (·.1) = qs.map (pathStr 8) → (∀ q ∈ qs, look VV (pathStr 8 q) = some (ℓ q)) →
      @LT.lt Nat _ L va → @Ne Nat va bk → (∀ a o, (a, o) ∈ led → @Ne Nat a bk → @Ne Nat a (L + 6) → @Ne Nat va a) → m' (Str.ofString "state") = some (.ref st) → m' (Str.ofString "hash_of") = some (.ref hof) → m' (Str.ofString "kept") = some (.ref kp) → m' (Str.ofString "values") = some (.ref va) →
      wpAny (model prog w) (ktrTop dp un gd lawN lawScope L a ccd (lawCl L) outer) (execs more (envX lawN lawScope L a ccd (lawCl L))) Q E { s with heap := h', toks := tk' }) :
    wpAny (model prog w) (ktrTop dp un gd lawN lawScope L a ccd (lawCl L) outer) (execs (lawSeg 12 3 ++ more) (envX lawN lawScope L a ccd (lawCl L))) Q E s := by
  have e1 : lawSeg 12 3 ++ more = _ :: _ :: _ :: more := rfl
  rw [e1]
  clear e1
  have e3 : lawScope = lawScope := rfl
  conv at e3 => lhs; whnf
  rw [lawCl_eq] at next ⊢
  rw [← e3] at next ⊢
  clear e3
  obtain ⟨a0, a1, a2, a3, a4, a5, a6, a7, a8, a9⟩ := AD
  obtain ⟨ob, mob, hB⟩ := S.book
  obtain ⟨otd, motd, hT⟩ := S.tree
  obtain ⟨k1, k2, k3, k4, k5, k6, v1, v2, v3, v6, rfl⟩ := hT
  obtain ⟨nm, ql, ps, bd, sc, clo, pm, ctv, oc, oco, mh, mc, mo, hoc, hoco, HC⟩ := S.hash
  obtain ⟨o1, n1, d1⟩ := S.c1
  obtain ⟨o2, n2, d2⟩ := S.c2
  obtain ⟨o3, n3, d3⟩ := m3
  obtain ⟨o4, n4, d4⟩ := m4
  obtain ⟨o6, v6', n6, d6⟩ := S.c6
  have mt := S.inst
  have loS : (se == sysModules) = false := not_modules F (Top.nolimit T) (by omega)
  have loK : (kp == sysModules) = false := not_modules F (Top.nolimit T) (by omega)
  have loH : (he == sysModules) = false := not_modules F (Top.nolimit T) (by omega)
  have ri : ∀ {a : Addr} {o : Obj}, (a, o) ∈ led → @Ne Nat a bk → @Ne Nat a (L + 1 + 1 + 1 + 1 + 1 + 1) → (a, o) ∈ less (L + 1 + 1 + 1 + 1 + 1 + 1) (less bk led) := fun hm k1 k2 => in_less (in_less hm k1) k2
  have N9 : News h₀ L s.heap ((bk, ob) :: (L + 1 + 1 + 1 + 1 + 1 + 1, o6) :: less (L + 1 + 1 + 1 + 1 + 1 + 1) (less bk led)) := fun p hp => by
    rcases List.mem_cons.mp hp with rfl | hp
    · exact N _ mob
    · rcases List.mem_cons.mp hp with rfl | hp
      · exact N _ n6
      · exact N _ (less_mem.mp (less_mem.mp hp).1).1
  have motd9 := ri motd (by omega) (by omega)
  have mt9 := ri mt (by omega) (by omega)
  have mh9 := ri mh (by omega) (by omega)
  have mc9 := ri mc (by omega) (by omega)
  have mo9 := ri mo (by omega) (by omega)
  have n19 := ri n1 (by omega) (by omega)
  have n29 := ri n2 (by omega) (by omega)
  have n39 := ri n3 (by omega) (by omega)
  have n49 := ri n4 (by omega) (by omega)
  have mky9 := ri mky (by omega) (by omega)
  have mse9 := ri mse (by omega) (by omega)
  have mkp9 := ri mkp (by omega) (by omega)
  have mhe9 := ri mhe (by omega) (by omega)
  obtain ⟨i0, c0, t10, t20, n0, mst, i00, c00, c10⟩ := S.state
  have mst9 := ri mst (by omega) (by omega)
  have r1 : ∀ q ∈ less (L + 1 + 1 + 1 + 1 + 1 + 1) (less bk led), q.1 ≠ bk := less_off2 less_off
  have r2 : ∀ q ∈ less (L + 1 + 1 + 1 + 1 + 1 + 1) (less bk led), q.1 ≠ L + 1 + 1 + 1 + 1 + 1 + 1 := less_off
  have z1 : @Ne Nat bk (L + 1 + 1 + 1 + 1 + 1 + 1) := by omega
  have kb : @Ne Nat kp bk := by omega
  have hBl := S.lim.1
  have Tr := S.T
  have hsk : ∀ (led' : List (Addr × Obj)) (B' : List Bts) (ob' o6' : Obj) (v : Option Value), (∀ q ∈ less (L + 1 + 1 + 1 + 1 + 1 + 1) (less bk led), q ∈ led') → (bk, ob') ∈ led' → Book prog w ob' B' → B <+: B' → B'.length ≤ nB + 36 → (L + 1 + 1 + 1 + 1 + 1 + 1, o6') ∈ led' → o6'.data = .cell v → LSt prog w p loose mean mg mb L xs st bk cod hof td tr db he led' B' D ℓ H (nB + 36) ∧ (∀ a o, (a, o) ∈ led → @Ne Nat a bk → @Ne Nat a (L + 6) → (a, o) ∈ led') := fun led' B' ob' o6' v hs hb hB' hp hl hm hv =>
    ⟨S.keepB ⟨a0, a1, a2, a3, a4, a5, a6, a7, a8, a9⟩ (c := L + 1 + 1 + 1 + 1 + 1 + 1) (fun a => a = bk ∨ a = L + 1 + 1 + 1 + 1 + 1 + 1) (fun a o hm' hc => hs _ (ri hm' (fun e => hc (.inl e)) (fun e => hc (.inr e)))) (by omega) (by omega) ⟨o6', v, hm, hv⟩ (fun a ha => ha.elim (fun e => .inr (.inl e)) .inl) ⟨i0, c0, t10, t20, n0, hs _ mst9, i00, c00, c10⟩ hb hB' hp hl (by omega), fun a o hm' k1 k2 => hs _ (ri hm' k1 k2)⟩
  have hri : ∀ a o, (a, o) ∈ led → @Ne Nat a bk → @Ne Nat a (L + 6) → (a, o) ∈ less (L + 1 + 1 + 1 + 1 + 1 + 1) (less bk led) := fun a o hm k1 k2 => ri hm k1 k2
  generalize less (L + 1 + 1 + 1 + 1 + 1 + 1) (less bk led) = rest9 at hri N9 motd9 mt9 mh9 mc9 mo9 n19 n29 n39 n49 mky9 mse9 mkp9 mhe9 mst9 r1 r2 hsk
  clear ri motd mt mh mc mo n1 n2 n3 n4 n6 mky mse mkp mhe mst mst9 N S mob
  have hSV := P.dbk
  have hSl := P.len
  dsimp only at hSV hSl
  have hkl : kvs.length = qs.length := by have := hI.length; rw [List.length_map] at this; omega
  k_steps
  show DSrcA _ _ _ _ _ _ _ _ _ _ _ _ _ _ _ _
  refine ⟨Str, inferInstance, PySem.strKind prog w, ky, kvs, nk, _, fun i acc => acc.map (·.1) = (qs.take i).map (pathStr 8) ∧ ∀ q ∈ qs.take i, look acc (pathStr 8 q) = some (ℓ q), rfl, rfl, by assumption, N9, .tail _ (.tail _ mky9), by omega, ⟨rfl, fun q hq => by simp at hq⟩, ?_, ?_⟩
  · rintro i acc v I oI C oC Dd oD m₂ h tk E' hi ⟨j1, j2⟩ hv hC hx' F2 N2 hdb off ne
    obtain ⟨z, tz, rfl, hz⟩ := hI.at i v hv
    rw [List.getElem?_map] at hz
    obtain ⟨q, hq, rfl⟩ := Option.map_eq_some_iff.mp hz
    have hq256 := hqb q (List.mem_of_getElem? hq)
    k_steps
    show DEnd _ _ _ _ _ _ _ _ _ _ _ _ _ _ _ _
    refine' dend _ ?F ?N (fun p hp => hp) off trivial (sk_is _ _ _ _) ⟨rfl, ?P⟩
    (case F => assumption); (case N => assumption)
    (case P => rw [heldV q hq256]; exact vals_step hnd hq hqb j1 j2)
  · rintro va ov h tk VV F2 N2 hVV oVa hLva ⟨j1, j2⟩
    have hVq : VV.map (·.1) = qs.map (pathStr 8) := by rw [j1, hkl, List.take_length]
    have hVl : VV.length ≤ 4 := by have := congrArg List.length hVq; rw [List.length_map, List.length_map] at this; omega
    have j2' : ∀ q ∈ qs, look VV (pathStr 8 q) = some (ℓ q) := fun q hq => j2 q (by rw [hkl, List.take_length]; exact hq)
    have hvb : @Ne Nat va bk := Ne.symm (oVa (bk, ob) (.head _))
    have hv6 : @Ne Nat va (L + 1 + 1 + 1 + 1 + 1 + 1) := Ne.symm (oVa (L + 1 + 1 + 1 + 1 + 1 + 1, o6) (.tail _ (.head _)))
    have lov := not_modules F2 (Top.nolimit T) hLva
    have hside : ∀ q ∈ qs, ∀ i, i < 8 → (∀ q' ∈ qs, q' / 2 ^ i ≠ sib (q / 2 ^ i)) → ∃ b, look KV (pathStr (8 - i) (sib (q / 2 ^ i))) = some b ∧ b.size ≤ 1000 := fun q hq i hi hno => ⟨_, KO.all q hq i hi hno, by rw [KO.size Tr hqb (KO.all q hq i hi hno)]; omega⟩
    k_steps
    have J9 := ‹JRes qs KV VV _ _›
    have hp9 := ‹B <+: _›
    rename Book prog w _ _ => hB9
    have hroot := root_same hne Tr J9 KO hqb hp9 hB9.nodup j2'
    have hseen := seen_same P Tr J9 KO hqb hp9 hB9.nodup j2'
    k_steps
    rename DB (PySem.strKind prog w) _ _ => hW9
    rename Fr _ _ _ _ => F9
    rename News _ _ _ _ => N99
    show TSrcD _ _ _ _ _ _ _ _ _ _ _ _ _ _ _
    refine ⟨Str, inferInstance, PySem.strKind prog w, se, os, SV, _, fun _ ys => ys = [], rfl, rfl, by assumption, N99, .tail _ (.tail _ (.tail _ (.tail _ mse9))), hSV, loS, by omega, rfl, ?_, ?_⟩
    · rintro i ys v k b I oI C oC Dd m₂ h tk E' hi rfl hk hkv hC hx' F3 N3 off ne
      obtain ⟨tv, rfl⟩ := Value.isStrOf_shape hkv
      have hlk : look SV k = some b := look_of_mem (DB.nodup hSV) (List.mem_of_getElem? hk)
      have hlw := hseen k b hlk
      k_steps
      refine' LCg.CompEnd.intro ?F ?N _ ?s off ?S ?R
      (case F => assumption); (case N => assumption); (case s => kcf_all); (case S => exact .tail _ (.tail _ (.tail _ (.tail _ mse9)))); (case R => exact ⟨rfl, rfl⟩)
    · rintro Dd h tk ys F3 N3 off rfl
      k_steps
      have hl9 := ‹List.length _ ≤ B.length + 36›
      have N98 := ‹News _ _ _ ((_, PySem.W.listOf #[] 0) :: _)›
      obtain ⟨S', hkeep⟩ := hsk ((_, PySem.W.listOf #[] 0) :: _) _ _ _ _ (fun q hq => .tail _ (.tail _ (.tail _ (.tail _ (.tail _ (.tail _ hq)))))) (.tail _ (.tail _ (.tail _ (.tail _ (.head _))))) hB9 hp9 (by omega) (.tail _ (.tail _ (.tail _ (.tail _ (.tail _ (.head _)))))) (by assumption)
      exact next _ _ (fun z => if z = Str.ofString "values" then some (.ref va) else m z) _ _ va ov VV (by assumption) N98 hp9 S' hkeep (.tail _ (.tail _ (.tail _ (.head _)))) hVV hVq j2' hLva hvb (fun a o hm k1 k2 => Ne.symm (oVa (a, o) (.tail _ (.tail _ (hri a o hm k1 k2))))) ((if_neg (by decide)).trans hm1) ((if_neg (by decide)).trans hm2) ((if_neg (by decide)).trans hm3) (if_pos rfl)
end
end Mine
end
section
theorem Mine.offGm : True := by w_top off; trivial
open PySem PySem.W PyProof.Rows PySem.Calls
set_option Elab.async false
set_option maxRecDepth 100000
set_option maxHeartbeats 2000000
set_option linter.unusedSimpArgs false
set_option linter.unusedSectionVars false
set_option linter.unusedVariables false
namespace Mine
section
variable {K : Type} [DecidableEq K]
theorem merged_app : ∀ {V l : List (K × Bts)}, (V.map (·.1)).Nodup → (∀ p ∈ V, look l p.1 = none) → mergedB l V = l ++ V
  | [], l, _, _ => (List.append_nil l).symm
  | p :: V, l, hn, h => by
    rw [List.map_cons, List.nodup_cons] at hn
    show mergedB (put l p.1 p.2) V = _
    rw [put_absent (h p (.head _)), merged_app hn.2 fun q hq => ?_, List.append_assoc]
    · rfl
    · rw [← put_absent (h p (.head _)), look_put, if_neg (fun e => hn.1 (List.mem_map.mpr ⟨q, hq, e.symm⟩))]
      exact h q (.tail _ hq)
theorem merged_nil {V : List (K × Bts)} (hn : (V.map (·.1)).Nodup) : mergedB [] V = V := by
  rw [merged_app hn fun _ _ => rfl]; rfl
theorem put_over {V : List (K × Bts)} {k : K} {b b' : Bts} (h : look V k = some b') : (put V k b).map (·.1) = V.map (·.1) := by
  have hm := look_some_mem h
  unfold put
  rw [if_pos (List.any_eq_true.mpr ⟨_, hm, by simp⟩), List.map_map]
  refine List.map_congr_left fun p _ => ?_
  show (if p.1 = k then (p.1, b) else p).1 = p.1
  split <;> rfl
end
section
variable {prog : Program} {w : World} {A : Around} {E : Value → Shared → Prop} {s : Shared} {h₀ : Heap} {L l : Addr} {m : Str → Option Value} {news : List (Addr × Obj)} {vs : List Value} {n : Nat} {value slice : PySem.Expr}
theorem len_lst {k : Nat} {Q : Value → Shared → Prop} (N : News h₀ L s.heap news) (hm : (l, PySem.W.listOf vs.toArray n) ∈ news) (hl : vs.length = k) (hk : k ≤ 16384) (h : Q (.int (k : Int) (s.toks + 1)) { s with toks := s.toks + 1 + 1 }) :
    wpAny (model prog w) A (call (.builtin "len") [.ref l]) Q E s := by
  have hz : vs.toArray.size = k := by rw [List.size_toArray, hl]
  exact len_list (list_in N hm) (by rw [hz]; omega) (by rw [hz]; exact h)
theorem item_ints {qs : List Nat} {v : Nat} {t : Tok} {Q : Value → Shared → Prop} (N : News h₀ L s.heap news) (hm : (l, PySem.W.listOf vs.toArray n) ∈ news) (hi : IntsAre vs (qs.map fun q : Nat => (q : Int))) (hv : v < qs.length) (hz : v < 1000) (h : ∀ (q : Nat) t', qs[v]? = some q → Q (.int (q : Int) t') s)
    (hs : subscripted slice false (.ref l) (.int (v : Int) t) = operate [.ref l, .int (v : Int) t] (getItem (.ref l) (.int (v : Int) t)) := by with_unfolding_all rfl) (hg : ∀ r, letTemporaryGo value (.ref l) r = pure () := by intro _; with_unfolding_all rfl) :
    wpAny (model prog w) A (subscriptTail value slice (.ref l) (.int (v : Int) t)) Q E s := by
  have hl : vs.length = qs.length := by have := hi.length; rw [List.length_map] at this; omega
  have hx : vs[v]? = some vs[v] := List.getElem?_eq_getElem (by omega)
  obtain ⟨z, t', e, hz'⟩ := hi.at v _ hx
  rw [List.getElem?_map] at hz'
  obtain ⟨q, hq, rfl⟩ := Option.map_eq_some_iff.mp hz'
  refine item_listL (list_in N hm) (by omega) (by omega) (by rw [Int.toNat_natCast]; exact hx) ?_ hs hg
  rw [e]; exact h q t' hq
theorem strs_get : ∀ {vs : List Value} {ss : List Str}, StrsAre vs ss → ∀ (i : Nat), i < ss.length → ∃ k t, ss[i]? = some k ∧ vs[i]? = some (.str k t)
  | _, _, .cons k t r, 0, _ => ⟨k, t, rfl, rfl⟩
  | _, _, .cons k t r, i + 1, h => by
    obtain ⟨k', t', a, b⟩ := strs_get r i (by simpa using h)
    exact ⟨k', t', by simpa using a, by simpa using b⟩
theorem item_strs {ss : List Str} {v : Nat} {t : Tok} {Q : Value → Shared → Prop} (N : News h₀ L s.heap news) (hm : (l, PySem.W.listOf vs.toArray n) ∈ news) (hi : StrsAre vs ss) (hv : v < ss.length) (hz : v < 1000) (h : ∀ (k : Str) t', ss[v]? = some k → Q (.str k t') s)
    (hs : subscripted slice false (.ref l) (.int (v : Int) t) = operate [.ref l, .int (v : Int) t] (getItem (.ref l) (.int (v : Int) t)) := by with_unfolding_all rfl) (hg : ∀ r, letTemporaryGo value (.ref l) r = pure () := by intro _; with_unfolding_all rfl) :
    wpAny (model prog w) A (subscriptTail value slice (.ref l) (.int (v : Int) t)) Q E s := by
  obtain ⟨k, t', hk, hx⟩ := strs_get hi v hv
  exact item_listL (list_in N hm) (by omega) (by omega) (by rw [Int.toNat_natCast]; exact hx) (h k t' hk) hs hg
theorem over_ok {K : Type} [DecidableEq K] {knd : KeyKind prog w K} {o : Obj} {V : List (K × Bts)} {k : K} {b b' : Bts} (h : DB knd o (mergedB V (put [] k b))) (hl : look V k = some b') : ∃ W, DB knd o W ∧ W.map (·.1) = V.map (·.1) ∧ (∀ k', look W k' = if k = k' then some b else look V k') :=
  ⟨put V k b, h, put_over hl, fun k' => look_put V k k' b⟩
theorem set_K {K : Type} [DecidableEq K] {knd : KeyKind prog w K} {d : Addr} {o : Obj} {g : Obj → List (Addr × Obj)} {k : K} {key : Value} {b : Bts} {tk : Tok} {V : List (K × Bts)} {Q : Unit → Shared → Prop} (F : Fr h₀ L s.heap m) (N : News h₀ L s.heap news) (U : UpdF d o news g) (hd : DB knd o V) (hkey : knd.is k key = true) (hsz : V.length ≤ 1000000)
    (h : ∀ h' o', Fr h₀ L h' m → News h₀ L h' (g o') → DB knd o' (put V k b) → Q () { s with heap := h', toks := s.toks + 1 }) : wpAny (model prog w) A (dictSet d key (.bytes b tk)) Q E s := by
  obtain ⟨kvs, hi, hb⟩ := hd
  obtain ⟨pre, post, rfl, hg, a1, a2⟩ := U.split
  have hmD := N (d, o) (List.mem_append_right _ (.head _))
  refine wpAny_dictSet_pairs (hsz := by rw [hb.length, sizeLine_eq]; omega) hkey (Heap.dictOf_iff.mpr ⟨o, hmD.1, hi⟩) fun h' hd' hs' => ?_
  obtain ⟨o', ho', hdo'⟩ := Heap.dictOf_iff.mp hd'
  exact h h' o' (F.change hs' hmD.2.1 hmD.2.2) (hg o' ▸ N.setIn a1 a2 hs' ho') ⟨_, hdo', hb.stored k b tk⟩
end
end Mine
end
section
local macro_rules | `(tactic| walk_at "zzz") => `(tactic| fail)
local macro_rules | `(tactic| walk_at "zzz") => `(tactic| fail)
local macro_rules | `(tactic| walk_at "zzz") => `(tactic| fail)
local macro_rules | `(tactic| walk_at "zzz") => `(tactic| fail)
local macro_rules | `(tactic| walk_at "zzz") => `(tactic| fail)
local macro_rules | `(tactic| walk_at "zzz") => `(tactic| fail)
local macro_rules | `(tactic| walk_at "zzz") => `(tactic| fail)
local macro_rules | `(tactic| walk_at "zzz") => `(tactic| fail)
local macro_rules | `(tactic| walk_at "zzz") => `(tactic| fail)
local macro_rules | `(tactic| walk_at "zzz") => `(tactic| fail)
local macro_rules | `(tactic| walk_at "zzz") => `(tactic| fail)
local macro_rules | `(tactic| walk_at "zzz") => `(tactic| fail)
local macro_rules | `(tactic| walk_at "zzz") => `(tactic| fail)
local macro_rules | `(tactic| walk_at "zzz") => `(tactic| fail)
local macro_rules | `(tactic| walk_at "zzz") => `(tactic| fail)
local macro_rules | `(tactic| walk_at "zzz") => `(tactic| fail)
local macro_rules | `(tactic| walk_at "zzz") => `(tactic| fail)
local macro_rules | `(tactic| walk_at "zzz") => `(tactic| fail)
local macro_rules | `(tactic| walk_at "zzz") => `(tactic| fail)
local macro_rules | `(tactic| walk_at "zzz") => `(tactic| fail)
local macro_rules | `(tactic| walk_at "zzz") => `(tactic| fail)
local macro_rules | `(tactic| walk_at "zzz") => `(tactic| fail)
local macro_rules | `(tactic| walk_at "zzz") => `(tactic| fail)
local macro_rules | `(tactic| walk_at "zzz") => `(tactic| fail)
local macro_rules | `(tactic| walk_at "zzz") => `(tactic| fail)
local macro_rules | `(tactic| walk_at "zzz") => `(tactic| fail)
local macro_rules | `(tactic| walk_at "zzz") => `(tactic| fail)
local macro_rules | `(tactic| walk_at "zzz") => `(tactic| fail)
local macro_rules | `(tactic| walk_at "zzz") => `(tactic| fail)
local macro_rules | `(tactic| walk_at "zzz") => `(tactic| fail)
local macro_rules | `(tactic| walk_at "zzz") => `(tactic| fail)
local macro_rules | `(tactic| walk_at "zzz") => `(tactic| fail)
local macro_rules | `(tactic| walk_at "zzz") => `(tactic| fail)
local macro_rules | `(tactic| walk_at "zzz") => `(tactic| fail)
local macro_rules | `(tactic| walk_at "zzz") => `(tactic| fail)
local macro_rules | `(tactic| walk_at "zzz") => `(tactic| fail)
local macro_rules | `(tactic| walk_at "zzz") => `(tactic| fail)
local macro_rules | `(tactic| walk_at "zzz") => `(tactic| fail)
local macro_rules | `(tactic| walk_at "zzz") => `(tactic| fail)
local macro_rules | `(tactic| walk_at "zzz") => `(tactic| fail)
local macro_rules | `(tactic| walk_at "zzz") => `(tactic| fail)
local macro_rules | `(tactic| walk_at "zzz") => `(tactic| fail)
local macro_rules | `(tactic| walk_at "zzz") => `(tactic| fail)
local macro_rules | `(tactic| walk_at "zzz") => `(tactic| fail)
local macro_rules | `(tactic| walk_at "zzz") => `(tactic| fail)
local macro_rules | `(tactic| walk_at "zzz") => `(tactic| fail)
local macro_rules | `(tactic| walk_at "zzz") => `(tactic| fail)
local macro_rules | `(tactic| walk_at "zzz") => `(tactic| fail)
local macro_rules | `(tactic| walk_at "zzz") => `(tactic| fail)
local macro_rules | `(tactic| walk_at "zzz") => `(tactic| fail)
local macro_rules | `(tactic| walk_at "zzz") => `(tactic| fail)
local macro_rules | `(tactic| walk_at "zzz") => `(tactic| fail)
local macro_rules | `(tactic| walk_at "zzz") => `(tactic| fail)
local macro_rules | `(tactic| walk_at "zzz") => `(tactic| fail)
local macro_rules | `(tactic| walk_at "zzz") => `(tactic| fail)
local macro_rules | `(tactic| walk_at "zzz") => `(tactic| fail)
local macro_rules | `(tactic| walk_at "zzz") => `(tactic| fail)
local macro_rules | `(tactic| walk_at "zzz") => `(tactic| fail)
local macro_rules | `(tactic| walk_at "zzz") => `(tactic| fail)
local macro_rules | `(tactic| walk_at "zzz") => `(tactic| fail)
local macro_rules | `(tactic| walk_at "zzz") => `(tactic| fail)
local macro_rules | `(tactic| walk_at "zzz") => `(tactic| fail)
local macro_rules | `(tactic| walk_at "zzz") => `(tactic| fail)
local macro_rules | `(tactic| walk_at "zzz") => `(tactic| fail)
local macro_rules | `(tactic| walk_at "zzz") => `(tactic| fail)
local macro_rules | `(tactic| walk_at "zzz") => `(tactic| fail)
local macro_rules | `(tactic| walk_at "zzz") => `(tactic| fail)
local macro_rules | `(tactic| walk_at "zzz") => `(tactic| fail)
local macro_rules | `(tactic| walk_at "zzz") => `(tactic| fail)
local macro_rules | `(tactic| walk_at "zzz") => `(tactic| fail)
local macro_rules | `(tactic| walk_at "zzz") => `(tactic| fail)
local macro_rules | `(tactic| walk_at "zzz") => `(tactic| fail)
local macro_rules | `(tactic| walk_at "zzz") => `(tactic| fail)
local macro_rules | `(tactic| walk_at "zzz") => `(tactic| fail)
local macro_rules | `(tactic| walk_at "zzz") => `(tactic| fail)
local macro_rules | `(tactic| walk_at "zzz") => `(tactic| fail)
local macro_rules | `(tactic| walk_at "zzz") => `(tactic| fail)
local macro_rules | `(tactic| walk_at "zzz") => `(tactic| fail)
local macro_rules | `(tactic| walk_at "zzz") => `(tactic| fail)
local macro_rules | `(tactic| walk_at "zzz") => `(tactic| fail)
open PySem PySem.W PyProof.Rows PySem.Calls
set_option Elab.async false
set_option maxRecDepth 100000
set_option maxHeartbeats 4000000
set_option linter.unusedSimpArgs false
set_option linter.unusedSectionVars false
set_option linter.unusedVariables false
theorem Mine.fillLg : (fun (_ : OpenLaw) (_ : Params → Frag) => True) PySem.Challenge.rw_bs0043_01 Mine.hd.heap_39 := by w_top off; k_fill; trivial
namespace Mine
local macro_rules | `(tactic| k_ne) => `(tactic| (refine neN ?_; (try dsimp only); first | with_reducible assumption | exact Ne.symm (by with_reducible assumption) | omega))
local macro_rules | `(tactic| k_all) => `(tactic| first | with_reducible assumption | (refine' all_cons ?a ?b; (case a => first | with_reducible assumption | exact Ne.symm (by with_reducible assumption) | omega); (case b => k_all)))
local macro_rules | `(tactic| k_mem) => `(tactic| first | assumption | exact List.mem_append_left _ (by assumption))
local macro_rules | `(tactic| k_room) => `(tactic| ((try simp only [depth_under_make, depth_under_kw, depth_in1, depth_deeper, depth_caller]); (try dsimp only [ktrTop]); omega))
local macro_rules | `(tactic| k_units) => `(tactic| ((have hcL9 := cLine_is); (try simp only [units_under_make, units_in1, units_deeper, Around.mark_units, units_caller]); (try dsimp only [ktrTop]); omega))
local macro_rules | `(tactic| walk_at "eval Name") => `(tactic| (k_here; (with_reducible show wpAny _ _ (eval (Expr.Name _ _) (envX _ _ _ _ _ _)) _ _ _); k_dflt (first
  | (refine' nameX_L ?F ?v ?_ ?a ?b; (case F => k_asm); (case a => rfl); (case b => rfl); (case v => first | rfl | assumption); k_whole)
  | (refine' nameX_C ?N ?c ?m ?d ?_ ?a ?b; (case a => rfl); (case b => rfl); (case N => k_asm); (case c => rfl); (case m => k_mem); (case d => k_asm); k_whole)
  | (refine' nameX_K ?F ?X ?T ?e ?_ ?a ?b; (case F => k_asm); (case X => k_asm); (case T => k_asm); (case a => rfl); (case b => rfl); (case e => k_is); k_whole)
  | (refine' nameX_B ?F ?X ?T ?e ?v ?n ?_ ?a ?b; (case F => k_asm); (case X => k_asm); (case T => k_asm); (case a => rfl); (case b => rfl); (case e => k_is); (case v => boot_fast); (case n => decide); k_whole))))
local macro_rules | `(tactic| walk_at "pyIter ref") => `(tactic| refine rest ?_)
local macro_rules | `(tactic| walk_at "exec For Name Call cons nil") => `(tactic| (k_here; (rename Fr _ _ _ _ => lF'); (with_unfolding_all refine' For_invVF lF' ?k1 ?k2 ?_ ?ks ?ke; (case k1 => exact rfl); (case k2 => exact rfl); (case ks => exact fun _ => rfl); (case ke => assumption); k_whole)))
local macro_rules | `(tactic| walk_at "exec For Name Name cons nil") => `(tactic| (k_here; (rename Fr _ _ _ _ => lF'); (with_unfolding_all refine' For_invVF lF' ?k1 ?k2 ?_ ?ks ?ke; (case k1 => exact rfl); (case k2 => exact rfl); (case ks => exact fun _ => rfl); (case ke => assumption); k_whole)))
local macro_rules | `(tactic| walk_at "EndF") => `(tactic| refine rest ?_)
local macro_rules | `(tactic| walk_at "call ref") => `(tactic| (k_here; (first | (with_reducible show wpAny _ _ (call (Value.ref 109) _) _ _ _) | (with_reducible show wpAny _ _ (call (Value.ref 184) _) _ _ _) | (with_reducible show wpAny _ _ (call (Value.ref 191) _) _ _ _) | (with_reducible show wpAny _ _ (call (Value.ref 179) _) _ _ _)); refine rest ?_))
local macro_rules | `(tactic| walk_at "call ref") => `(tactic| (k_here; (with_reducible show wpAny _ _ (call (Value.ref 109) _) _ _ _); k_dflt (refine' branch_use _ _ _ _ _ _ _ _ _ _ _ _ _ _ _ _ _ ?mt ?md ?hT ?Bl ?F ?X ?N ?T ?k ?d ?u ?mdb ?hD ?Tr ?root ?key ?q ?_; (case F => k_asm); (case N => k_asm); (case mt => k_mem); (case md => k_mem); (case hT => exact ⟨_, _, _, _, _, _, _, _, _, _, rfl⟩); (case Bl => k_asm); (case X => k_asm); (case T => k_asm); (case k => rfl); (case d => k_room); (case u => k_units); (case mdb => k_mem); (case hD => with_reducible assumption); (case Tr => with_reducible assumption); (case root => rfl); (case key => exact key1 (by assumption)); (case q => first | assumption | omega); k_whole); intro tp' vs' h' tk' hvs' F' N' l1; (have hvl' := get_len hvs'); (try k_lt l1); (try k_sweep)))
local macro_rules | `(tactic| walk_at "call ref") => `(tactic| (k_here; (with_reducible show wpAny _ _ (call (Value.ref 184) [Value.int _ _]) _ _ _); k_dflt (refine' path_ok _ _ _ _ _ _ _ _ _ _ _ _ _ _ _ _ _ ?Bl ?F ?X ?N ?T ?k ?d ?u ?_; (case F => k_asm); (case N => k_asm); (case Bl => k_asm); (case X => k_asm); (case T => k_asm); (case k => rfl); (case d => k_room); (case u => k_units); k_whole); intro h' t' tk' F' N'; (try k_sweep)))
local macro_rules | `(tactic| walk_at "call ref") => `(tactic| (k_here; (with_reducible show wpAny _ _ (call (Value.ref 191) [Value.str _ _]) _ _ _); k_dflt (refine' beside_ok _ _ _ _ _ _ _ _ _ _ _ _ _ _ _ _ _ ?Bl ?F ?X ?N ?T ?k ?d ?u ?dd ?_; (case F => k_asm); (case N => k_asm); (case Bl => k_asm); (case X => k_asm); (case T => k_asm); (case k => rfl); (case d => k_room); (case u => k_units); (case dd => omega); k_whole); intro h' t' tk' F' N'; (try k_sweep)))
local macro_rules | `(tactic| walk_at "subscriptTail") => `(tactic| (k_here; (with_reducible show wpAny _ _ (subscriptTail _ _ (Value.str (pathStr _ _) _) (Value.ref _)) _ _ _); k_dflt (refine' slice_P ?F ?N ?e ?z ?_; (case F => k_asm); (case N => k_asm); (case e => exact slice_up (by omega)); (case z => (rw [pathStr_len]; omega)); k_whole); intro h' t' k' F' N'))
local macro_rules | `(tactic| walk_at "subscriptTail") => `(tactic| (k_here; (with_reducible show wpAny _ _ (subscriptTail _ _ (Value.ref _) (Value.int _ _)) _ _ _); k_dflt (refine' item_tup ?N ?m ?v ?l ?_; (case N => k_asm); (case m => k_mem); (case v => assumption); (case l => omega); k_whole)))
local macro_rules | `(tactic| walk_at "call builtin:dict.get") => `(tactic| (k_here; k_dflt (refine' db_get_same (knd := PySem.strKind _ _) ?N ?p ?d ?lo ?k ?s ?_; (case N => k_asm); (case p => k_mem); (case d => with_reducible assumption); (case lo => assumption); (case k => exact sk_is _ _ _ _); (case s => assumption); k_whole); intro _))
local macro_rules | `(tactic| walk_at "getMethod ref") => `(tactic| (k_here; (with_reducible show wpAny _ _ (getMethod (Value.ref _) (Str.ofString "get") _) _ _ _); k_dflt (refine' db_mGet (knd := PySem.strKind _ _) ?N ?p ?d ?_; (case N => k_asm); (case p => k_mem); (case d => with_reducible assumption); k_whole)))
local macro_rules | `(tactic| walk_at "compareOp NotEq bytes bytes") => `(tactic| (k_here; k_dflt (refine' ne_same ?_; k_whole)))
local macro_rules | `(tactic| walk_at "call builtin:len") => `(tactic| (k_here; k_dflt (refine' len_branch ?N ?m ?b ?_; (case N => k_asm); (case m => k_mem); (case b => assumption); k_whole)))
local macro_rules | `(tactic| walk_at "setItem ref") => `(tactic| (k_here; (with_reducible show wpAny _ _ (setItem (Value.ref _) (Value.str _ _) (Value.bytes _ _)) _ _ _); k_dflt (refine' db_set (knd := PySem.strKind _ _) ?F ?N ?U ?d ?k ?z ?_; (case F => k_asm); (case N => k_asm); (case U => k_updF); (case d => with_reducible assumption); (case k => exact sk_is _ _ _ _); (case z => omega)); intro h' o' F' N' hd'; (try dsimp only at N'); (try k_sweep)))
local macro_rules | `(tactic| walk_at "exec Assign cons DictComp") => `(tactic| (k_here; k_dflt (refine Assign_DictComp_A (F₀ := by k_asm) (by rfl) (by with_unfolding_all rfl) (by with_unfolding_all rfl) (by decide) (by rfl) (by decide) (by rfl) (by rfl) (by rfl) ?_)))
local macro_rules | `(tactic| walk_at "DSrcA") => `(tactic| refine rest ?_)
local macro_rules | `(tactic| walk_at "DEnd") => `(tactic| refine rest ?_)
local macro_rules | `(tactic| walk_at "TSrcD") => `(tactic| refine rest ?_)
local macro_rules | `(tactic| walk_at "eval ListComp") => `(tactic| refine rest ?_)
local macro_rules | `(tactic| walk_at "eval ListComp") => `(tactic| (k_here; k_dflt (refine ListComp_TD (by k_asm) (by with_unfolding_all rfl) (by decide) (by rfl) (by decide) (by rfl) ?_)))
local macro_rules | `(tactic| walk_at "call ref") => `(tactic| (k_here; (with_reducible show wpAny _ _ (call (Value.ref 196) _) _ _ _); refine rest ?_))
local macro_rules | `(tactic| walk_at "call ref") => `(tactic| (k_here; (with_reducible show wpAny _ _ (call (Value.ref 196) _) _ _ _); k_dflt (refine' joined_ok _ _ _ _ _ _ _ _ _ _ _ _ _ _ _ _ _ ?Bl ?F ?X ?N ?T ?k ?d ?u ?U1 ?mh ?mc ?mo ?mv ?mk ?HC ?hoc ?hoco ?hvb ?hkb ?lov ?lok ?hVl ?hKl ?hB ?hBl _ ?hVq ?hqb ?hside ?hV ?hK ?_; (case HC => with_reducible assumption); (case hB => with_reducible assumption); (case F => k_asm); (case N => k_asm); (case Bl => k_asm); (case X => k_asm); (case T => k_asm); (case k => rfl); (case d => k_room); (case u => k_units); (case U1 => k_updF); (case mh => k_mem); (case mc => k_mem); (case mo => k_mem); (case mv => k_mem); (case mk => k_mem); (case hoc => with_reducible assumption); (case hoco => with_reducible assumption); (case hvb => omega); (case hkb => omega); (case lov => with_reducible assumption); (case lok => with_reducible assumption); (case hBl => omega); (case hV => with_reducible assumption); (case hK => with_reducible assumption); (case hVl => omega); (case hKl => omega); (case hVq => with_reducible assumption); (case hqb => with_reducible assumption); (case hside => with_reducible assumption); k_whole); intro D' ob' od' B' W' h' tk' hB' hp' hl' hW' J' hWl' loW' F' N' l1; (try k_lt l1); (try k_sweep)))
local macro_rules | `(tactic| walk_at "callWith ref") => `(tactic| (k_here; k_dflt (refine' callWith_F ?k1 ?_; (case k1 => exact FnAt.of (by k_asm) (by k_mem)); k_whole)))
local macro_rules | `(tactic| walk_at "getMethod ref") => `(tactic| (k_here; (with_reducible show wpAny _ _ (getMethod (Value.ref _) (Str.ofString "get") _) _ _ _); k_dflt (refine' db_mGet (knd := intKind _ _) ?N ?p ?d ?_; (case N => k_asm); (case p => k_mem); (case d => with_reducible assumption); k_whole)))
local macro_rules | `(tactic| walk_at "call builtin:dict.get") => `(tactic| (k_here; k_dflt (refine' db_get2 (knd := intKind _ _) ?N ?p ?d ?lo ?k ?_; (case N => k_asm); (case p => k_mem); (case d => with_reducible assumption); (case lo => assumption); (case k => exact intKind_is _ _ _ _); k_whole); intro _))
local macro_rules | `(tactic| walk_at "subscriptTail") => `(tactic| (k_here; (with_reducible show wpAny _ _ (subscriptTail _ _ (Value.ref _) (Value.str _ _)) _ _ _); k_dflt (refine' db_item (knd := PySem.strKind _ _) ?N ?p ?d ?k ?l ?_; (case N => k_asm); (case p => k_mem); (case d => with_reducible assumption); (case k => exact sk_is _ _ _ _); (case l => with_reducible assumption); k_whole); intro _))
local macro_rules | `(tactic| walk_at "compareOp NotEq ref ref") => `(tactic| (k_here; (with_reducible show wpAny _ _ (compareOp CmpOp.NotEq (Value.ref _) (Value.ref _)) _ _ _); k_dflt (refine' ne_nil_list ?N ?ma ?mb ?u ?_; (case N => k_asm); (case ma => k_mem); (case mb => k_mem); (case u => k_units); k_whole)))
local macro_rules | `(tactic| walk_at "call ref") => `(tactic| (k_here; (with_reducible show wpAny _ _ (call (Value.ref 179) [Value.ref _, Value.int _ _]) _ _ _); k_dflt (refine' next_nat _ _ _ _ _ _ _ _ _ _ _ _ _ _ _ _ _ ?Bl ?F ?X ?N ?T ?k ?d ?u ?U ?hx ?hi ?hl ?i0 ?c0 ?c1 ?m0 ?m1 ?_; (case Bl => k_asm); (case F => k_asm); (case X => k_asm); (case N => k_asm); (case T => k_asm); (case k => rfl); (case d => k_room); (case u => k_units); (case U => k_updF); (case hx => k_mem); (case hi => with_reducible assumption); (case hl => with_reducible assumption); (case i0 => assumption); (case c0 => assumption); (case c1 => assumption); (case m0 => first | decide | omega); (case m1 => first | decide | omega); k_whole); intro v' tv' i' c' t1' t2' n' h' tk' v1' i0' c0' c1' F' N'; (try dsimp only at N'); (try k_sweep)))
local macro_rules | `(tactic| walk_at "eval Dict") => `(tactic| refine rest ?_)
local macro_rules | `(tactic| walk_at "mergeMapping ref") => `(tactic| refine rest ?_)
local macro_rules | `(tactic| walk_at "dictSet") => `(tactic| refine rest ?_)
local macro_rules | `(tactic| walk_at "call builtin:len") => `(tactic| (k_here; k_dflt (refine' len_lst ?N ?m ?l ?k ?_; (case N => k_asm); (case m => k_mem); (case l => with_reducible assumption); (case k => omega); k_whole)))
local macro_rules | `(tactic| walk_at "subscriptTail") => `(tactic| (k_here; (with_reducible show wpAny _ _ (subscriptTail _ _ (Value.ref _) (Value.int _ _)) _ _ _); k_dflt (refine' item_ints ?N ?m ?i ?v ?z ?_; (case N => k_asm); (case m => k_mem); (case i => with_reducible assumption); (case v => omega); (case z => omega)); intro q' t' hq'))
section
variable {prog : Program} {w : World} {p : Program} {loose : List Str} {mean : ExcName → Option Value} {mg mb : Str → Option Value} {L xs st bk cod hof td tr db he : Addr} {led : List (Addr × Obj)} {B : List Bts} {D : List (List UInt8 × Bts)} {ℓ : Nat → Bts} {H : Nat → Nat → Bts} {nB : Nat}
theorem segG (dp un : Nat) (gd : Option (List Code)) (a : Addr) (ccd : Value) (outer : List Env) (A₀ : Around) (base h₀ : Heap) (m : Str → Option Value) (s : Shared) (Q : Flow → Shared → Prop) (E : Value → Shared → Prop) (more : List Stmt) {ky va kp : Addr} {kvs : List Value} {nk : Nat} {qs : List Nat} {ov okp : Obj} {VV KV : List (Str × Bts)}
    (Bl : Below A₀ base outer h₀) (F : Fr h₀ L s.heap m) (X : (Mine.hd.heap_39 w.params).In h₀) (N : News h₀ L s.heap led) (T : Top p loose mean mg mb h₀) (hd : dp + 12 < recursionLimit) (hu : un + 80 < cLine)
    (AD : Adr L xs st bk cod hof td tr db he) (S : LSt prog w p loose mean mg mb L xs st bk cod hof td tr db he led B D ℓ H nB) (hnB : nB ≤ 1100)
    (hky : @LT.lt Nat _ he ky) (hkp : @LT.lt Nat _ ky kp) (mky : (ky, PySem.W.listOf (List.toArray kvs) nk) ∈ led) (hI : IntsAre kvs (qs.map fun q : Nat => (q : Int))) (hnd : qs.Nodup) (hne : qs ≠ []) (hql : qs.length ≤ 4) (hqb : ∀ q ∈ qs, q < 256) (mkp : (kp, okp) ∈ led)
    (hKV : DB (PySem.strKind prog w) okp KV) (KO : KeptOK qs H KV) (hKl : KV.length ≤ 32) (mva : (va, ov) ∈ led) (hVV : DB (PySem.strKind prog w) ov VV) (hVq : VV.map (·.1) = qs.map (pathStr 8)) (hVl : ∀ q ∈ qs, look VV (pathStr 8 q) = some (ℓ q)) (hLva : @LT.lt Nat _ L va) (hvb : @Ne Nat va bk) (hvs : @Ne Nat va st)
    (m3 : ∃ o, (L + 1 + 1 + 1, o) ∈ led ∧ o.data = .cell (some (.ref ky)))
    (hm1 : m (Str.ofString "state") = some (.ref st)) (hm2 : m (Str.ofString "hash_of") = some (.ref hof)) (hm3 : m (Str.ofString "kept") = some (.ref kp)) (hm4 : m (Str.ofString "values") = some (.ref va))
    (next : ∀ h' tk' m' led' B' v t, Fr h₀ L h' m' → News h₀ L h' led' → B <+: B' → LSt prog w p loose mean mg mb L xs st bk cod hof td tr db he led' B' D ℓ H (nB + 36) → (∀ a o, (a, o) ∈ led → @Ne Nat a bk → @Ne Nat a st → (a, o) ∈ led') → v < qs.length →
      m' (Str.ofString "state") = some (.ref st) → m' (Str.ofString "hash_of") = some (.ref hof) → m' (Str.ofString "kept") = some (.ref kp) → m' (Str.ofString "values") = some (.ref va) → m' (Str.ofString "turn") = some (.int (v : Int) t) →
      wpAny (model prog w) (ktrTop dp un gd lawN lawScope L a ccd (lawCl L) outer) (execs more (envX lawN lawScope L a ccd (lawCl L))) Q E { s with heap := h', toks := tk' }) :
    wpAny (model prog w) (ktrTop dp un gd lawN lawScope L a ccd (lawCl L) outer) (execs (lawSeg 15 3 ++ more) (envX lawN lawScope L a ccd (lawCl L))) Q E s := by
  have e1 : lawSeg 15 3 ++ more = _ :: _ :: _ :: more := rfl
  rw [e1]
  clear e1
  have e3 : lawScope = lawScope := rfl
  conv at e3 => lhs; whnf
  rw [lawCl_eq] at next ⊢
  rw [← e3] at next ⊢
  clear e3
  obtain ⟨a0, a1, a2, a3, a4, a5, a6, a7, a8, a9⟩ := AD
  obtain ⟨ob, mob, hB⟩ := S.book
  obtain ⟨otd, motd, hT⟩ := S.tree
  obtain ⟨k1, k2, k3, k4, k5, k6, v1, v2, v3, v6, rfl⟩ := hT
  obtain ⟨nm, ql, ps, bd, sc, clo, pm, ctv, oc, oco, mh, mc, mo, hoc, hoco, HC⟩ := S.hash
  obtain ⟨o1, n1, d1⟩ := S.c1
  obtain ⟨o3, n3, d3⟩ := m3
  obtain ⟨i0, c0, t10, t20, n0, mst, i00, c00, c10⟩ := S.state
  obtain ⟨xvs, xns, nx, mx, hx1, hx2⟩ := S.xsL
  have mt := S.inst
  have loK : (kp == sysModules) = false := not_modules F (Top.nolimit T) (by omega)
  have lov : (va == sysModules) = false := not_modules F (Top.nolimit T) hLva
  have ri : ∀ {a : Addr} {o : Obj}, (a, o) ∈ led → @Ne Nat a bk → @Ne Nat a st → (a, o) ∈ less st (less bk led) := fun hm k1 k2 => in_less (in_less hm k1) k2
  have N9 : News h₀ L s.heap ((bk, ob) :: (st, stO xs i0 c0 t10 t20 n0) :: less st (less bk led)) := fun p hp => by
    rcases List.mem_cons.mp hp with rfl | hp
    · exact N _ mob
    · rcases List.mem_cons.mp hp with rfl | hp
      · exact N _ mst
      · exact N _ (less_mem.mp (less_mem.mp hp).1).1
  have motd9 := ri motd (by omega) (by omega)
  have mt9 := ri mt (by omega) (by omega)
  have mh9 := ri mh (by omega) (by omega)
  have mc9 := ri mc (by omega) (by omega)
  have mo9 := ri mo (by omega) (by omega)
  have n19 := ri n1 (by omega) (by omega)
  have n39 := ri n3 (by omega) (by omega)
  have mky9 := ri mky (by omega) (by omega)
  have mkp9 := ri mkp (by omega) (by omega)
  have mva9 := ri mva hvb hvs
  have mx9 := ri mx (by omega) (by omega)
  have r1 : ∀ q ∈ less st (less bk led), q.1 ≠ bk := less_off2 less_off
  have r2 : ∀ q ∈ less st (less bk led), q.1 ≠ st := less_off
  have z1 : @Ne Nat bk st := by omega
  have kb : @Ne Nat kp bk := by omega
  have hBl := S.lim.1
  have Tr := S.T
  have hsk : ∀ (led' : List (Addr × Obj)) (B' : List Bts) (ob' : Obj) (i c : Int) (t1 t2 : Tok) (n : Nat), (∀ q ∈ less st (less bk led), q ∈ led') → (bk, ob') ∈ led' → Book prog w ob' B' → B <+: B' → B'.length ≤ nB + 36 → (st, stO xs i c t1 t2 n) ∈ led' → 0 ≤ i → 0 ≤ c → c < 2147483647 → LSt prog w p loose mean mg mb L xs st bk cod hof td tr db he led' B' D ℓ H (nB + 36) ∧ (∀ a o, (a, o) ∈ led → @Ne Nat a bk → @Ne Nat a st → (a, o) ∈ led') := fun led' B' ob' i c t1 t2 n hs hb hB' hp hl hm g1 g2 g3 => by
    obtain ⟨o5, w5, n5, d5⟩ := S.c5
    exact ⟨S.keepB ⟨a0, a1, a2, a3, a4, a5, a6, a7, a8, a9⟩ (c := L + 1 + 1 + 1 + 1 + 1) (fun a => a = bk ∨ a = st) (fun a o hm' hc => hs _ (ri hm' (fun e => hc (.inl e)) (fun e => hc (.inr e)))) (by omega) (by omega) ⟨o5, w5, hs _ (ri n5 (by omega) (by omega)), d5⟩ (fun a ha => ha.elim (fun e => .inr (.inl e)) (fun e => .inr (.inr (.inl e)))) ⟨i, c, t1, t2, n, hm, g1, g2, g3⟩ hb hB' hp hl (by omega), fun a o hm' k1 k2 => hs _ (ri hm' k1 k2)⟩
  have hsm := S.small
  generalize less st (less bk led) = rest9 at N9 motd9 mt9 mh9 mc9 mo9 n19 n39 mky9 mkp9 mva9 mx9 r1 r2 hsk
  clear ri motd mt mh mc mo n1 n3 mky mva mkp mx mst N S mob
  have hkl : kvs.length = qs.length := by have := hI.length; rw [List.length_map] at this; omega
  have hq0 : 0 < qs.length := List.length_pos_iff.mpr hne
  have hVl4 : VV.length ≤ 4 := by have := congrArg List.length hVq; rw [List.length_map, List.length_map] at this; omega
  have hside : ∀ q ∈ qs, ∀ i, i < 8 → (∀ q' ∈ qs, q' / 2 ^ i ≠ sib (q / 2 ^ i)) → ∃ b, look KV (pathStr (8 - i) (sib (q / 2 ^ i))) = some b ∧ b.size ≤ 1000 := fun q hq i hi hno => ⟨_, KO.all q hq i hi hno, by rw [KO.size Tr hqb (KO.all q hq i hi hno)]; omega⟩
  k_steps
  show wpAny _ _ _ _ _ _
  refine eval_dict1A ?_
  rename Fr _ _ _ _ => F5
  rename News _ _ _ _ => N5
  refine alloc_K (prog := prog) (w := w) F5 N5 ?_
  intro D1 od1 h6 F6 N6 hd6 l6 hLD1
  have hDv : @Ne Nat D1 va := Ne.symm (Nat.ne_of_lt (l6 (va, ov) (.tail _ (.tail _ mva9))))
  have hDk : @Ne Nat D1 kp := Ne.symm (Nat.ne_of_lt (l6 (kp, okp) (.tail _ (.tail _ mkp9))))
  (k_lt l6)
  k_steps
  show wpAny _ _ _ _ _ _
  refine merge_K (by assumption) (by assumption) (by k_updF) hd6 (.tail _ (.tail _ (.tail _ mva9))) hVV hDv lov str_nr (by simp only [List.length_nil]; omega) ?_
  intro h7 od7 F7 N7 hd7
  rw [merged_nil hVV.nodup] at hd7
  refine alloc_K (prog := prog) (w := w) F7 N7 ?_
  intro D2 od2 h8 F8 N8 hd8 l8 hLD2
  (k_lt l8)
  k_steps
  show wpAny _ _ _ _ _ _
  refine set_K (prog := prog) (w := w) (by assumption) (by assumption) (by k_updF) hd8 (sk_is _ _ _ _) (by simp only [List.length_nil]; omega) ?_
  intro h9 od9 F9 N9 hd9
  have loD2 := not_modules F9 (Top.nolimit T) hLD2
  have loD1 := not_modules F9 (Top.nolimit T) hLD1
  rename _ = some _ => hq9
  have hqm := List.mem_of_getElem? hq9
  k_steps
  show wpAny _ _ _ _ _ _
  refine merge_K (by assumption) (by assumption) (by k_updF) hd7 (.head _) hd9 (by omega) loD2 str_nr (by show _ + 1 ≤ _; omega) ?_
  intro h10 od10 F10 N10 hd10
  obtain ⟨WW, hdW, hWV, hWl⟩ := over_ok hd10 (hVl _ hqm)
  clear hd10
  have hWq : WW.map (·.1) = qs.map (pathStr 8) := hWV.trans hVq
  have hWl4 : WW.length ≤ 4 := by have := congrArg List.length hWq; rw [List.length_map, List.length_map] at this; omega
  have hDb : @Ne Nat D1 bk := by omega
  k_steps
  have J9 := ‹JRes qs KV WW _ _›
  have hp9 := ‹B <+: _›
  have hl9 := ‹List.length _ ≤ B.length + 36›
  rename Book prog w _ _ => hB9
  obtain ⟨hr, hroot⟩ := root_of J9 hqb hqm
  have hoth : ∀ q, (#[111, 116, 104, 101, 114] : Bts) ≠ ℓ q := fun q e => by have := hsm q; rw [← e] at this; exact absurd this (by decide)
  have hrne := joined_other Tr J9 KO hqb hp9 (by omega) hqm ((hWl _).trans (if_pos rfl)) (hoth _) hroot
  replace hroot : look _ (Str.ofString "") = some hr := hroot
  k_steps
  · rename (_ == _) = true => hc
    exact absurd (Array.toList_inj.mp (eq_of_beq hc)) (by first | exact hrne | exact Ne.symm hrne)
  · have N98 := ‹News h₀ L _ ((_, _) :: (D2, od9) :: _)›
    obtain ⟨S', hkeep⟩ := (fun led' (_ : News h₀ L _ led') => hsk led') _ N98 _ _ _ _ _ _ _ (fun q hq => .tail _ (.tail _ (.tail _ (.tail _ (.tail _ hq))))) (.tail _ (.tail _ (.tail _ (.head _)))) hB9 hp9 (by omega) (.tail _ (.tail _ (.tail _ (.tail _ (.head _))))) (by assumption) (by assumption) (by assumption)
    refine' next _ _ _ _ _ _ _ ?F N98 hp9 S' hkeep ?vl ?n1 ?n2 ?n3 ?n4 ?n5
    (case F => assumption)
    (case n1 => exact hm1); (case n2 => exact hm2); (case n3 => exact hm3); (case n4 => exact hm4); (case n5 => rfl); (case vl => omega)
end
end Mine
end
section
open PySem PySem.W PyProof.Rows PySem.Calls
set_option Elab.async false
set_option maxRecDepth 100000
set_option maxHeartbeats 4000000
set_option linter.unusedSimpArgs false
set_option linter.unusedSectionVars false
set_option linter.unusedVariables false
theorem Mine.fillLk : (fun (_ : OpenLaw) (_ : Params → Frag) => True) PySem.Challenge.rw_bs0043_01 Mine.hd.heap_39 := by w_top off; k_fill; trivial
namespace Mine
local macro_rules | `(tactic| k_ne) => `(tactic| (refine neN ?_; (try dsimp only); first | with_reducible assumption | exact Ne.symm (by with_reducible assumption) | omega))
local macro_rules | `(tactic| k_all) => `(tactic| first | with_reducible assumption | (refine' all_cons ?a ?b; (case a => first | with_reducible assumption | exact Ne.symm (by with_reducible assumption) | omega); (case b => k_all)))
local macro_rules | `(tactic| k_mem) => `(tactic| first | assumption | exact List.mem_append_left _ (by assumption))
local macro_rules | `(tactic| k_room) => `(tactic| ((try simp only [depth_under_make, depth_under_kw, depth_in1, depth_deeper, depth_caller]); (try dsimp only [ktrTop]); omega))
local macro_rules | `(tactic| k_units) => `(tactic| ((have hcL9 := cLine_is); (try simp only [units_under_make, units_in1, units_deeper, Around.mark_units, units_caller]); (try dsimp only [ktrTop]); omega))
local macro_rules | `(tactic| walk_at "eval Name") => `(tactic| (k_here; (with_reducible show wpAny _ _ (eval (Expr.Name _ _) (envX _ _ _ _ _ _)) _ _ _); k_dflt (first
  | (refine' nameX_L ?F ?v ?_ ?a ?b; (case F => k_asm); (case a => rfl); (case b => rfl); (case v => first | rfl | assumption); k_whole)
  | (refine' nameX_C ?N ?c ?m ?d ?_ ?a ?b; (case a => rfl); (case b => rfl); (case N => k_asm); (case c => rfl); (case m => k_mem); (case d => k_asm); k_whole)
  | (refine' nameX_K ?F ?X ?T ?e ?_ ?a ?b; (case F => k_asm); (case X => k_asm); (case T => k_asm); (case a => rfl); (case b => rfl); (case e => k_is); k_whole)
  | (refine' nameX_B ?F ?X ?T ?e ?v ?n ?_ ?a ?b; (case F => k_asm); (case X => k_asm); (case T => k_asm); (case a => rfl); (case b => rfl); (case e => k_is); (case v => boot_fast); (case n => decide); k_whole))))
local macro_rules | `(tactic| walk_at "pyIter ref") => `(tactic| refine rest ?_)
local macro_rules | `(tactic| walk_at "exec For Name Call cons nil") => `(tactic| (k_here; (rename Fr _ _ _ _ => lF'); (with_unfolding_all refine' For_invVF lF' ?k1 ?k2 ?_ ?ks ?ke; (case k1 => exact rfl); (case k2 => exact rfl); (case ks => exact fun _ => rfl); (case ke => assumption); k_whole)))
local macro_rules | `(tactic| walk_at "exec For Name Name cons nil") => `(tactic| (k_here; (rename Fr _ _ _ _ => lF'); (with_unfolding_all refine' For_invVF lF' ?k1 ?k2 ?_ ?ks ?ke; (case k1 => exact rfl); (case k2 => exact rfl); (case ks => exact fun _ => rfl); (case ke => assumption); k_whole)))
local macro_rules | `(tactic| walk_at "EndF") => `(tactic| refine rest ?_)
local macro_rules | `(tactic| walk_at "call ref") => `(tactic| (k_here; (first | (with_reducible show wpAny _ _ (call (Value.ref 109) _) _ _ _) | (with_reducible show wpAny _ _ (call (Value.ref 184) _) _ _ _) | (with_reducible show wpAny _ _ (call (Value.ref 191) _) _ _ _) | (with_reducible show wpAny _ _ (call (Value.ref 179) _) _ _ _)); refine rest ?_))
local macro_rules | `(tactic| walk_at "call ref") => `(tactic| (k_here; (with_reducible show wpAny _ _ (call (Value.ref 109) _) _ _ _); k_dflt (refine' branch_use _ _ _ _ _ _ _ _ _ _ _ _ _ _ _ _ _ ?mt ?md ?hT ?Bl ?F ?X ?N ?T ?k ?d ?u ?mdb ?hD ?Tr ?root ?key ?q ?_; (case F => k_asm); (case N => k_asm); (case mt => k_mem); (case md => k_mem); (case hT => exact ⟨_, _, _, _, _, _, _, _, _, _, rfl⟩); (case Bl => k_asm); (case X => k_asm); (case T => k_asm); (case k => rfl); (case d => k_room); (case u => k_units); (case mdb => k_mem); (case hD => with_reducible assumption); (case Tr => with_reducible assumption); (case root => rfl); (case key => exact key1 (by assumption)); (case q => first | assumption | omega); k_whole); intro tp' vs' h' tk' hvs' F' N' l1; (have hvl' := get_len hvs'); (try k_lt l1); (try k_sweep)))
local macro_rules | `(tactic| walk_at "call ref") => `(tactic| (k_here; (with_reducible show wpAny _ _ (call (Value.ref 184) [Value.int _ _]) _ _ _); k_dflt (refine' path_ok _ _ _ _ _ _ _ _ _ _ _ _ _ _ _ _ _ ?Bl ?F ?X ?N ?T ?k ?d ?u ?_; (case F => k_asm); (case N => k_asm); (case Bl => k_asm); (case X => k_asm); (case T => k_asm); (case k => rfl); (case d => k_room); (case u => k_units); k_whole); intro h' t' tk' F' N'; (try k_sweep)))
local macro_rules | `(tactic| walk_at "call ref") => `(tactic| (k_here; (with_reducible show wpAny _ _ (call (Value.ref 191) [Value.str _ _]) _ _ _); k_dflt (refine' beside_ok _ _ _ _ _ _ _ _ _ _ _ _ _ _ _ _ _ ?Bl ?F ?X ?N ?T ?k ?d ?u ?dd ?_; (case F => k_asm); (case N => k_asm); (case Bl => k_asm); (case X => k_asm); (case T => k_asm); (case k => rfl); (case d => k_room); (case u => k_units); (case dd => omega); k_whole); intro h' t' tk' F' N'; (try k_sweep)))
local macro_rules | `(tactic| walk_at "subscriptTail") => `(tactic| (k_here; (with_reducible show wpAny _ _ (subscriptTail _ _ (Value.str (pathStr _ _) _) (Value.ref _)) _ _ _); k_dflt (refine' slice_P ?F ?N ?e ?z ?_; (case F => k_asm); (case N => k_asm); (case e => exact slice_up (by omega)); (case z => (rw [pathStr_len]; omega)); k_whole); intro h' t' k' F' N'))
local macro_rules | `(tactic| walk_at "subscriptTail") => `(tactic| (k_here; (with_reducible show wpAny _ _ (subscriptTail _ _ (Value.ref _) (Value.int _ _)) _ _ _); k_dflt (refine' item_tup ?N ?m ?v ?l ?_; (case N => k_asm); (case m => k_mem); (case v => assumption); (case l => omega); k_whole)))
local macro_rules | `(tactic| walk_at "call builtin:dict.get") => `(tactic| (k_here; k_dflt (refine' db_get_same (knd := PySem.strKind _ _) ?N ?p ?d ?lo ?k ?s ?_; (case N => k_asm); (case p => k_mem); (case d => with_reducible assumption); (case lo => assumption); (case k => exact sk_is _ _ _ _); (case s => assumption); k_whole); intro _))
local macro_rules | `(tactic| walk_at "getMethod ref") => `(tactic| (k_here; (with_reducible show wpAny _ _ (getMethod (Value.ref _) (Str.ofString "get") _) _ _ _); k_dflt (refine' db_mGet (knd := PySem.strKind _ _) ?N ?p ?d ?_; (case N => k_asm); (case p => k_mem); (case d => with_reducible assumption); k_whole)))
local macro_rules | `(tactic| walk_at "compareOp NotEq bytes bytes") => `(tactic| (k_here; k_dflt (refine' ne_same ?_; k_whole)))
local macro_rules | `(tactic| walk_at "call builtin:len") => `(tactic| (k_here; k_dflt (refine' len_branch ?N ?m ?b ?_; (case N => k_asm); (case m => k_mem); (case b => assumption); k_whole)))
local macro_rules | `(tactic| walk_at "setItem ref") => `(tactic| (k_here; (with_reducible show wpAny _ _ (setItem (Value.ref _) (Value.str _ _) (Value.bytes _ _)) _ _ _); k_dflt (refine' db_set (knd := PySem.strKind _ _) ?F ?N ?U ?d ?k ?z ?_; (case F => k_asm); (case N => k_asm); (case U => k_updF); (case d => with_reducible assumption); (case k => exact sk_is _ _ _ _); (case z => omega)); intro h' o' F' N' hd'; (try dsimp only at N'); (try k_sweep)))
local macro_rules | `(tactic| walk_at "exec Assign cons DictComp") => `(tactic| (k_here; k_dflt (refine Assign_DictComp_A (F₀ := by k_asm) (by rfl) (by with_unfolding_all rfl) (by with_unfolding_all rfl) (by decide) (by rfl) (by decide) (by rfl) (by rfl) (by rfl) ?_)))
local macro_rules | `(tactic| walk_at "DSrcA") => `(tactic| refine rest ?_)
local macro_rules | `(tactic| walk_at "DEnd") => `(tactic| refine rest ?_)
local macro_rules | `(tactic| walk_at "TSrcD") => `(tactic| refine rest ?_)
local macro_rules | `(tactic| walk_at "eval ListComp") => `(tactic| refine rest ?_)
local macro_rules | `(tactic| walk_at "eval ListComp") => `(tactic| (k_here; k_dflt (refine ListComp_TD (by k_asm) (by with_unfolding_all rfl) (by decide) (by rfl) (by decide) (by rfl) ?_)))
local macro_rules | `(tactic| walk_at "call ref") => `(tactic| (k_here; (with_reducible show wpAny _ _ (call (Value.ref 196) _) _ _ _); refine rest ?_))
local macro_rules | `(tactic| walk_at "call ref") => `(tactic| (k_here; (with_reducible show wpAny _ _ (call (Value.ref 196) _) _ _ _); k_dflt (refine' joined_ok _ _ _ _ _ _ _ _ _ _ _ _ _ _ _ _ _ ?Bl ?F ?X ?N ?T ?k ?d ?u ?U1 ?mh ?mc ?mo ?mv ?mk ?HC ?hoc ?hoco ?hvb ?hkb ?lov ?lok ?hVl ?hKl ?hB ?hBl _ ?hVq ?hqb ?hside ?hV ?hK ?_; (case HC => with_reducible assumption); (case hB => with_reducible assumption); (case F => k_asm); (case N => k_asm); (case Bl => k_asm); (case X => k_asm); (case T => k_asm); (case k => rfl); (case d => k_room); (case u => k_units); (case U1 => k_updF); (case mh => k_mem); (case mc => k_mem); (case mo => k_mem); (case mv => k_mem); (case mk => k_mem); (case hoc => with_reducible assumption); (case hoco => with_reducible assumption); (case hvb => omega); (case hkb => omega); (case lov => with_reducible assumption); (case lok => with_reducible assumption); (case hBl => omega); (case hV => with_reducible assumption); (case hK => with_reducible assumption); (case hVl => omega); (case hKl => omega); (case hVq => with_reducible assumption); (case hqb => with_reducible assumption); (case hside => with_reducible assumption); k_whole); intro D' ob' od' B' W' h' tk' hB' hp' hl' hW' J' hWl' loW' F' N' l1; (try k_lt l1); (try k_sweep)))
local macro_rules | `(tactic| walk_at "call ref") => `(tactic| (k_here; (with_reducible show wpAny _ _ (call (Value.ref _) [Value.bytes _ _]) _ _ _); k_dflt (refine' hash_use ?HC ?Bl ?F ?X ?N ?T ?k ?d ?u ?U ?mc ?mh ?mo ?hB ?l ?_; (case HC => with_reducible assumption); (case Bl => k_asm); (case F => k_asm); (case X => k_asm); (case N => k_asm); (case T => k_asm); (case k => rfl); (case d => k_room); (case u => k_units); (case U => k_updF); (case mc => k_mem); (case mh => k_mem); (case mo => k_mem); (case hB => with_reducible assumption); (case l => omega); k_whole); intro hh' tk' ob' B' h' tks' hB' hpre' hH' hl' F' N'; (try dsimp only at N'); (have hs' := Hash.size hH'); (try k_sweep)))
local macro_rules | `(tactic| walk_at "callWith ref") => `(tactic| (k_here; k_dflt (refine' callWith_F ?k1 ?_; (case k1 => exact FnAt.of (by k_asm) (by k_mem)); k_whole)))
local macro_rules | `(tactic| walk_at "getMethod ref") => `(tactic| (k_here; (with_reducible show wpAny _ _ (getMethod (Value.ref _) (Str.ofString "get") _) _ _ _); k_dflt (refine' db_mGet (knd := intKind _ _) ?N ?p ?d ?_; (case N => k_asm); (case p => k_mem); (case d => with_reducible assumption); k_whole)))
local macro_rules | `(tactic| walk_at "call builtin:dict.get") => `(tactic| (k_here; k_dflt (refine' db_get2 (knd := intKind _ _) ?N ?p ?d ?lo ?k ?_; (case N => k_asm); (case p => k_mem); (case d => with_reducible assumption); (case lo => assumption); (case k => exact intKind_is _ _ _ _); k_whole); intro _))
local macro_rules | `(tactic| walk_at "subscriptTail") => `(tactic| (k_here; (with_reducible show wpAny _ _ (subscriptTail _ _ (Value.ref _) (Value.str _ _)) _ _ _); k_dflt (refine' db_item (knd := PySem.strKind _ _) ?N ?p ?d ?k ?l ?_; (case N => k_asm); (case p => k_mem); (case d => with_reducible assumption); (case k => exact sk_is _ _ _ _); (case l => with_reducible assumption); k_whole); intro _))
local macro_rules | `(tactic| walk_at "call ref") => `(tactic| (k_here; (with_reducible show wpAny _ _ (call (Value.ref 179) [Value.ref _, Value.int _ _]) _ _ _); k_dflt (refine' next_nat _ _ _ _ _ _ _ _ _ _ _ _ _ _ _ _ _ ?Bl ?F ?X ?N ?T ?k ?d ?u ?U ?hx ?hi ?hl ?i0 ?c0 ?c1 ?m0 ?m1 ?_; (case Bl => k_asm); (case F => k_asm); (case X => k_asm); (case N => k_asm); (case T => k_asm); (case k => rfl); (case d => k_room); (case u => k_units); (case U => k_updF); (case hx => k_mem); (case hi => with_reducible assumption); (case hl => with_reducible assumption); (case i0 => assumption); (case c0 => assumption); (case c1 => assumption); (case m0 => first | decide | omega); (case m1 => first | decide | omega); k_whole); intro v' tv' i' c' t1' t2' n' h' tk' v1' i0' c0' c1' F' N'; (try dsimp only at N'); (try k_sweep)))
local macro_rules | `(tactic| walk_at "eval Dict") => `(tactic| refine rest ?_)
local macro_rules | `(tactic| walk_at "mergeMapping ref") => `(tactic| refine rest ?_)
local macro_rules | `(tactic| walk_at "dictSet") => `(tactic| refine rest ?_)
local macro_rules | `(tactic| walk_at "call builtin:len") => `(tactic| (k_here; k_dflt (refine' db_len (knd := PySem.strKind _ _) ?N ?m ?l ?lo ?k ?_; (case N => k_asm); (case m => k_mem); (case l => with_reducible assumption); (case lo => with_reducible assumption); (case k => omega); k_whole)))
local macro_rules | `(tactic| walk_at "call builtin:sorted") => `(tactic| (k_here; k_dflt (refine' sorted_dict_K ?A ?F ?N ?m ?V ?lo ?k ?_; (case A => rfl); (case F => k_asm); (case N => k_asm); (case m => k_mem); (case V => with_reducible assumption); (case lo => with_reducible assumption); (case k => omega)); intro Ds vss sss es h' tk' F' N' l1 hS' hP'; (have hsl' := hP'.length_eq); (try k_lt l1); (try k_sweep)))
local macro_rules | `(tactic| walk_at "compareOp NotEq ref ref") => `(tactic| (k_here; (with_reducible show wpAny _ _ (compareOp CmpOp.NotEq (Value.ref _) (Value.ref _)) _ _ _); k_dflt (refine' ne_nil_dict (knd := PySem.strKind _ _) ?N ?ma ?mb ?da ?db ?la ?lb ?u ?_; (case N => k_asm); (case ma => k_mem); (case mb => k_mem); (case da => with_reducible assumption); (case db => exact DB.nil (by with_reducible assumption)); (case la => with_reducible assumption); (case lb => with_reducible assumption); (case u => k_units); k_whole)))
local macro_rules | `(tactic| walk_at "subscriptTail") => `(tactic| (k_here; (with_reducible show wpAny _ _ (subscriptTail _ _ (Value.ref _) (Value.int _ _)) _ _ _); k_dflt (refine' item_strs ?N ?m ?i ?v ?z ?_; (case N => k_asm); (case m => k_mem); (case i => with_reducible assumption); (case v => omega); (case z => omega)); intro q' t' hq'))
theorem place_ok {ss : List Str} {V : List (Str × Bts)} {v : Nat} (hP : ss.Perm (V.map (·.1))) (hv : (v : Int) < (V.length : Int)) : ∃ k b, ss.getD (v : Int).toNat PySem.Str.empty = k ∧ look V k = some b := by
  have hl : v < ss.length := by have := hP.length_eq; rw [List.length_map] at this; omega
  have hm : ss.getD (v : Int).toNat PySem.Str.empty ∈ V.map (·.1) := by
    refine hP.mem_iff.mp ?_
    rw [Int.toNat_natCast, List.getD_eq_getElem?_getD, List.getElem?_eq_getElem hl]
    exact List.getElem_mem hl
  obtain ⟨b, hb⟩ := look_mem_keys hm
  exact ⟨_, b, rfl, hb⟩
section
variable {prog : Program} {w : World} {p : Program} {loose : List Str} {mean : ExcName → Option Value} {mg mb : Str → Option Value} {L xs st bk cod hof td tr db he : Addr} {led : List (Addr × Obj)} {B : List Bts} {D : List (List UInt8 × Bts)} {ℓ : Nat → Bts} {H : Nat → Nat → Bts} {nB : Nat}
theorem segK (dp un : Nat) (gd : Option (List Code)) (a : Addr) (ccd : Value) (outer : List Env) (A₀ : Around) (base h₀ : Heap) (m : Str → Option Value) (s : Shared) (Q : Flow → Shared → Prop) (E : Value → Shared → Prop) (more : List Stmt) {va kp : Addr} {qs : List Nat} {ov okp : Obj} {VV KV : List (Str × Bts)}
    (Bl : Below A₀ base outer h₀) (F : Fr h₀ L s.heap m) (X : (Mine.hd.heap_39 w.params).In h₀) (N : News h₀ L s.heap led) (T : Top p loose mean mg mb h₀) (hd : dp + 12 < recursionLimit) (hu : un + 80 < cLine)
    (AD : Adr L xs st bk cod hof td tr db he) (S : LSt prog w p loose mean mg mb L xs st bk cod hof td tr db he led B D ℓ H nB) (hnB : nB ≤ 1150)
    (hkp : @LT.lt Nat _ he kp) (hnd : qs.Nodup) (hne : qs ≠ []) (hql : qs.length ≤ 4) (hqb : ∀ q ∈ qs, q < 256) (mkp : (kp, okp) ∈ led)
    (hKV : DB (PySem.strKind prog w) okp KV) (KO : KeptOK qs H KV) (hKl : KV.length ≤ 32) (mva : (va, ov) ∈ led) (hVV : DB (PySem.strKind prog w) ov VV) (hVq : VV.map (·.1) = qs.map (pathStr 8)) (hVl : ∀ q ∈ qs, look VV (pathStr 8 q) = some (ℓ q)) (hLva : @LT.lt Nat _ L va) (hvb : @Ne Nat va bk) (hvs : @Ne Nat va st) (hv5 : @Ne Nat va (L + 5))
    (hm1 : m (Str.ofString "state") = some (.ref st)) (hm2 : m (Str.ofString "hash_of") = some (.ref hof)) (hm3 : m (Str.ofString "kept") = some (.ref kp)) (hm4 : m (Str.ofString "values") = some (.ref va))
    (next : ∀ h' tk' led' B', Fr h₀ L h' m → News h₀ L h' led' → B <+: B' → LSt prog w p loose mean mg mb L xs st bk cod hof td tr db he led' B' D ℓ H (nB + 37) → (∀ a o, (a, o) ∈ led → @Ne Nat a bk → @Ne Nat a st → @Ne Nat a (L + 5) → (a, o) ∈ led') →
      wpAny (model prog w) (ktrTop dp un gd lawN lawScope L a ccd (lawCl L) outer) (execs more (envX lawN lawScope L a ccd (lawCl L))) Q E { s with heap := h', toks := tk' }) :
    wpAny (model prog w) (ktrTop dp un gd lawN lawScope L a ccd (lawCl L) outer) (execs (lawSeg 18 1 ++ more) (envX lawN lawScope L a ccd (lawCl L))) Q E s := by
  have e1 : lawSeg 18 1 ++ more = _ :: more := rfl
  rw [e1]
  clear e1
  have e3 : lawScope = lawScope := rfl
  conv at e3 => lhs; whnf
  rw [lawCl_eq] at next ⊢
  rw [← e3] at next ⊢
  clear e3
  obtain ⟨a0, a1, a2, a3, a4, a5, a6, a7, a8, a9⟩ := AD
  obtain ⟨ob, mob, hB⟩ := S.book
  obtain ⟨otd, motd, hT⟩ := S.tree
  obtain ⟨k1, k2, k3, k4, k5, k6, v1, v2, v3, v6, rfl⟩ := hT
  obtain ⟨nm, ql, ps, bd, sc, clo, pm, ctv, oc, oco, mh, mc, mo, hoc, hoco, HC⟩ := S.hash
  obtain ⟨o1, n1, d1⟩ := S.c1
  obtain ⟨o5, w5, n5, d5⟩ := S.c5
  obtain ⟨i0, c0, t10, t20, n0, mst, i00, c00, c10⟩ := S.state
  obtain ⟨xvs, xns, nx, mx, hx1, hx2⟩ := S.xsL
  have mt := S.inst
  have loK : (kp == sysModules) = false := not_modules F (Top.nolimit T) (by omega)
  have lov : (va == sysModules) = false := not_modules F (Top.nolimit T) hLva
  have ri : ∀ {a : Addr} {o : Obj}, (a, o) ∈ led → @Ne Nat a bk → @Ne Nat a st → @Ne Nat a (L + 1 + 1 + 1 + 1 + 1) → (a, o) ∈ less (L + 1 + 1 + 1 + 1 + 1) (less st (less bk led)) := fun hm k1 k2 k3 => in_less (in_less (in_less hm k1) k2) k3
  have N9 : News h₀ L s.heap ((bk, ob) :: (st, stO xs i0 c0 t10 t20 n0) :: (L + 1 + 1 + 1 + 1 + 1, o5) :: less (L + 1 + 1 + 1 + 1 + 1) (less st (less bk led))) := fun p hp => by
    rcases List.mem_cons.mp hp with rfl | hp
    · exact N _ mob
    · rcases List.mem_cons.mp hp with rfl | hp
      · exact N _ mst
      · rcases List.mem_cons.mp hp with rfl | hp
        · exact N _ n5
        · exact N _ (less_mem.mp (less_mem.mp (less_mem.mp hp).1).1).1
  have motd9 := ri motd (by omega) (by omega) (by omega)
  have mt9 := ri mt (by omega) (by omega) (by omega)
  have mh9 := ri mh (by omega) (by omega) (by omega)
  have mc9 := ri mc (by omega) (by omega) (by omega)
  have mo9 := ri mo (by omega) (by omega) (by omega)
  have n19 := ri n1 (by omega) (by omega) (by omega)
  have mkp9 := ri mkp (by omega) (by omega) (by omega)
  have mva9 := ri mva hvb hvs hv5
  have mx9 := ri mx (by omega) (by omega) (by omega)
  have r1 : ∀ q ∈ less (L + 1 + 1 + 1 + 1 + 1) (less st (less bk led)), q.1 ≠ bk := less_off2 (less_off2 less_off)
  have r2 : ∀ q ∈ less (L + 1 + 1 + 1 + 1 + 1) (less st (less bk led)), q.1 ≠ st := less_off2 less_off
  have r3 : ∀ q ∈ less (L + 1 + 1 + 1 + 1 + 1) (less st (less bk led)), q.1 ≠ L + 1 + 1 + 1 + 1 + 1 := less_off
  have z2 : @Ne Nat bk (L + 1 + 1 + 1 + 1 + 1) := by omega
  have z3 : @Ne Nat st (L + 1 + 1 + 1 + 1 + 1) := by omega
  have z1 : @Ne Nat bk st := by omega
  have kb : @Ne Nat kp bk := by omega
  have hBl := S.lim.1
  have Tr := S.T
  have hsk : ∀ (led' : List (Addr × Obj)) (B' : List Bts) (ob' o5' : Obj) (i c : Int) (t1 t2 : Tok) (n : Nat) (v : Option Value), (∀ q ∈ less (L + 1 + 1 + 1 + 1 + 1) (less st (less bk led)), q ∈ led') → (bk, ob') ∈ led' → Book prog w ob' B' → B <+: B' → B'.length ≤ nB + 37 → (st, stO xs i c t1 t2 n) ∈ led' → 0 ≤ i → 0 ≤ c → c < 2147483647 → (L + 1 + 1 + 1 + 1 + 1, o5') ∈ led' → o5'.data = .cell v → LSt prog w p loose mean mg mb L xs st bk cod hof td tr db he led' B' D ℓ H (nB + 37) ∧ (∀ a o, (a, o) ∈ led → @Ne Nat a bk → @Ne Nat a st → @Ne Nat a (L + 5) → (a, o) ∈ led') := fun led' B' ob' o5' i c t1 t2 n v hs hb hB' hp hl hm g1 g2 g3 hm5 hv5 =>
    ⟨S.keepB ⟨a0, a1, a2, a3, a4, a5, a6, a7, a8, a9⟩ (c := L + 1 + 1 + 1 + 1 + 1) (fun a => a = bk ∨ a = st ∨ a = L + 1 + 1 + 1 + 1 + 1) (fun a o hm' hc => hs _ (ri hm' (fun e => hc (.inl e)) (fun e => hc (.inr (.inl e))) (fun e => hc (.inr (.inr e))))) (by omega) (by omega) ⟨o5', v, hm5, hv5⟩ (fun a ha => ha.elim (fun e => .inr (.inl e)) (fun e => e.elim (fun e => .inr (.inr (.inl e))) .inl)) ⟨i, c, t1, t2, n, hm, g1, g2, g3⟩ hb hB' hp hl (by omega), fun a o hm' k1 k2 k3 => hs _ (ri hm' k1 k2 k3)⟩
  have hsm := S.small
  generalize less (L + 1 + 1 + 1 + 1 + 1) (less st (less bk led)) = rest9 at N9 motd9 mt9 mh9 mc9 mo9 n19 mkp9 mva9 mx9 r1 r2 r3 hsk
  clear ri motd mt mh mc mo n1 n5 mva mkp mx mst N S mob
  have hVl4 : VV.length ≤ 4 := by have := congrArg List.length hVq; rw [List.length_map, List.length_map] at this; omega
  have hside : ∀ q ∈ qs, ∀ i, i < 8 → (∀ q' ∈ qs, q' / 2 ^ i ≠ sib (q / 2 ^ i)) → ∃ b, look KV (pathStr (8 - i) (sib (q / 2 ^ i))) = some b ∧ b.size ≤ 1000 := fun q hq i hi hno => ⟨_, KO.all q hq i hi hno, by rw [KO.size Tr hqb (KO.all q hq i hi hno)]; omega⟩
  k_steps
  · have N98 := ‹News h₀ L _ ((_, _) :: (bk, ob) :: _)›
    obtain ⟨S', hkeep⟩ := (fun led' (_ : News h₀ L _ led') => hsk led') _ N98 _ _ _ _ _ _ _ _ _ (fun q hq => .tail _ (.tail _ (.tail _ (.tail _ hq)))) (.tail _ (.head _)) hB (List.prefix_refl B) (by omega) (.tail _ (.tail _ (.head _))) (by assumption) (by assumption) (by assumption) (.tail _ (.tail _ (.tail _ (.head _)))) d5
    exact next _ _ _ _ (by assumption) N98 (List.prefix_refl B) S' hkeep
  · have hkp0 : 0 < KV.length := List.length_pos_iff.mpr (by assumption)
    rename List.Perm _ _ => hP
    have hsl := hP.length_eq
    rw [List.length_map] at hsl
    show wpAny _ _ _ _ _ _
    k_steps
    rename _ = Data.cell (some (Value.str _ _)) => d5'
    rename (_ : Int) < (KV.length : Int) => hv5'
    obtain ⟨kx, bx, hkx, hk0⟩ := place_ok hP hv5'
    rw [hkx] at d5'
    show wpAny _ _ _ _ _ _
    refine eval_dict1A ?_
    rename Fr _ _ _ _ => F5
    rename News _ _ _ _ => N5
    refine alloc_K (prog := prog) (w := w) F5 N5 ?_
    intro D1 od1 h6 F6 N6 hd6 l6 hLD1
    have hDv : @Ne Nat D1 va := Ne.symm (Nat.ne_of_lt (l6 (va, ov) (.tail _ (.tail _ (.tail _ (.tail _ (.tail _ mva9)))))))
    have hDk : @Ne Nat D1 kp := Ne.symm (Nat.ne_of_lt (l6 (kp, okp) (.tail _ (.tail _ (.tail _ (.tail _ (.tail _ mkp9)))))))
    have hDb : @Ne Nat D1 bk := Ne.symm (Nat.ne_of_lt (l6 (bk, _) (.tail _ (.tail _ (.head _)))))
    (k_lt l6)
    k_steps
    show wpAny _ _ _ _ _ _
    refine merge_K (by assumption) (by assumption) (by k_updF) hd6 (.tail _ (.tail _ (.tail _ (.tail _ (.tail _ (.tail _ mkp9)))))) hKV hDk loK str_nr (by simp only [List.length_nil]; omega) ?_
    intro h7 od7 F7 N7 hd7
    rw [merged_nil hKV.nodup] at hd7
    refine alloc_K (prog := prog) (w := w) F7 N7 ?_
    intro D2 od2 h8 F8 N8 hd8 l8 hLD2
    (k_lt l8)
    k_steps
    show wpAny _ _ _ _ _ _
    refine set_K (prog := prog) (w := w) (by assumption) (by assumption) (by k_updF) hd8 (sk_is _ _ _ _) (by simp only [List.length_nil]; omega) ?_
    intro h9 od9 F9 N9 hd9
    have loD2 := not_modules F9 (Top.nolimit T) hLD2
    have loD1 := not_modules F9 (Top.nolimit T) hLD1
    k_steps
    show wpAny _ _ _ _ _ _
    refine merge_K (by assumption) (by assumption) (by k_updF) hd7 (.head _) hd9 (by omega) loD2 str_nr (by show _ + 1 ≤ _; omega) ?_
    intro h10 od10 F10 N10 hd10
    obtain ⟨KW, hdW, hWV, hWl⟩ := over_ok hd10 hk0
    clear hd10
    have hKWl : KW.length ≤ 32 := by have := congrArg List.length hWV; rw [List.length_map, List.length_map] at this; omega
    rename Hash _ _ _ => hH5
    rename B <+: _ => hp5
    have hsideW : ∀ q ∈ qs, ∀ i, i < 8 → (∀ q' ∈ qs, q' / 2 ^ i ≠ sib (q / 2 ^ i)) → ∃ b, look KW (pathStr (8 - i) (sib (q / 2 ^ i))) = some b ∧ b.size ≤ 1000 := fun q hq i hi hno => by
      rw [hWl]
      split
      · exact ⟨_, rfl, by rw [hH5.size]; omega⟩
      · exact hside q hq i hi hno
    clear hside
    k_steps
    have J9 := ‹JRes qs KW VV _ _›
    have hp9 := hp5.trans ‹_ <+: _›
    rename Book prog w _ _ => hB9
    rename List.length _ ≤ B.length + 1 => hl5
    obtain ⟨q0, hq0⟩ := List.exists_mem_of_ne_nil qs hne
    obtain ⟨hr, hroot⟩ := root_of J9 hqb hq0
    have hrne := joined_kept Tr J9 KO hqb hp9 (by omega) hk0 hWl (hH5.mono ‹_ <+: _›) rfl hsm hroot
    replace hroot : look _ (Str.ofString "") = some hr := hroot
    k_steps
    · rename (_ == _) = true => hc
      exact absurd (Array.toList_inj.mp (eq_of_beq hc)) (by first | exact hrne | exact Ne.symm hrne)
    · have N98 := ‹News h₀ L _ ((_, _) :: (D2, od9) :: _)›
      obtain ⟨S', hkeep⟩ := (fun led' (_ : News h₀ L _ led') => hsk led') _ N98 _ _ _ _ _ _ _ _ _ (fun q hq => .tail _ (.tail _ (.tail _ (.tail _ (.tail _ (.tail _ (.tail _ (.tail _ hq)))))))) (.tail _ (.tail _ (.tail _ (.tail _ (.tail _ (.head _)))))) hB9 hp9 (by omega) (.tail _ (.tail _ (.tail _ (.tail _ (.tail _ (.tail _ (.head _))))))) (by assumption) (by assumption) (by assumption) (.tail _ (.tail _ (.tail _ (.tail _ (.tail _ (.tail _ (.tail _ (.head _)))))))) d5'
      exact next _ _ _ _ (by assumption) N98 hp9 S' hkeep
end
end Mine
end
section
theorem Mine.offHm : True := by w_top off; trivial
open PySem PySem.W PyProof.Rows PySem.Calls
set_option Elab.async false
set_option maxRecDepth 100000
set_option maxHeartbeats 2000000
set_option linter.unusedSimpArgs false
set_option linter.unusedSectionVars false
set_option linter.unusedVariables false
namespace Mine
structure LaJ where
  i : Int
  c : Int
  t1 : Tok
  t2 : Tok
  n : Nat
  ob : Obj
  B : List Bts
  od : Obj
  D : List (List UInt8 × Bts)
  otd : Obj
  ℓ : Nat → Bts
  H : Nat → Nat → Bts
  ola : Obj
  LV : List (Str × Bts)
  o7 : Obj
  tp : Option (Addr × List Value)
abbrev laSix (xs st bk db td la c7 : Addr) (rest : List (Addr × Obj)) (c : LaJ) : List (Addr × Obj) := (st, stO xs c.i c.c c.t1 c.t2 c.n) :: (bk, c.ob) :: (db, c.od) :: (td, c.otd) :: (la, c.ola) :: (c7, c.o7) :: rest
def laTold (c : LaJ) : List (Addr × Obj) := match c.tp with | none => [] | some p => [(p.1, tupO p.2)]
def laLed (xs st bk db td la c7 : Addr) (rest : List (Addr × Obj)) (c : LaJ) : List (Addr × Obj) := laSix xs st bk db td la c7 (laTold c ++ rest) c
def laPs (c : LaJ) : List (Str × Value) := match c.tp with | none => [] | some p => [(Str.ofString "told", .ref p.1)]
structure LaP (prog : Program) (w : World) (hof db : Addr) (B₀ : List Bts) (H₀ : Nat → Nat → Bts) (rs : List Nat) (nB : Nat) (k : Nat) (c : LaJ) : Prop where
  i0 : 0 ≤ c.i
  c0 : 0 ≤ c.c
  c1 : c.c < 2147483647
  book : Book prog w c.ob c.B
  dbk : DB (bytesKind prog w) c.od c.D
  tdk : IsTD w.params c.otd hof db (c.H 0 0)
  T : Tree c.B c.D c.ℓ c.H
  later : DB (PySem.strKind prog w) c.ola c.LV
  keys : c.LV.map (·.1) = (rs.take k).map (pathStr 8)
  vals : ∀ q ∈ rs.take k, look c.LV (pathStr 8 q) = some (c.ℓ q)
  small : ∀ q, (c.ℓ q).size < 5
  off : ∀ d p, (∀ q ∈ rs, p ≠ q / 2 ^ (8 - d)) → c.H d p = H₀ d p
  pre : B₀ <+: c.B
  bl : c.B.length ≤ nB + 9 * k
  dl : c.D.length ≤ nB + 9 * k
  cell : ∃ v, c.o7.data = .cell v
  last : (k = 0 ∧ c.tp = none) ∨ ∃ a vs q t, c.tp = some (a, vs) ∧ q ∈ rs ∧ c.o7.data = .cell (some (.int (q : Int) t)) ∧ BytesAre vs (pathOf c.H q) ∧ @LT.lt Nat _ db a
section
variable {prog : Program} {w : World} {A : Around} {E : Value → Shared → Prop} {s : Shared} {env : Env} {h₀ : Heap} {x : Str} {body : List Stmt} {Q : Flow → Shared → Prop}
theorem db_set_at {K : Type} [DecidableEq K] {knd : KeyKind prog w K} {L d : Addr} {m : Str → Option Value} {news : List (Addr × Obj)} {g : Obj → List (Addr × Obj)} {o : Obj} {l : List (K × Bts)} {k : K} {key : Value} {b : Bts} {tk : Tok} {Q : Unit → Shared → Prop} (F : Fr h₀ L s.heap m) (N : News h₀ L s.heap news) (U : UpdF d o news g) (hd : DB knd o l) (hkey : knd.is k key = true) (hsz : l.length ≤ 1000000)
    (h : ∀ h' o' W, W = put l k b → look W k = some b → Fr h₀ L h' m → News h₀ L h' (g o') → DB knd o' W → Q () { s with heap := h', toks := s.toks + 1 }) : wpAny (model prog w) A (setItem (.ref d) key (.bytes b tk)) Q E s :=
  db_set F N U hd hkey hsz fun h' o' F' N' hd' => h h' o' _ rfl (by rw [look_put, if_pos rfl]) F' N' hd'
theorem later_loop {xs st bk db td la c7 ky hof : Addr} {rest : List (Addr × Obj)} {kvs : List Value} {nk : Nat} {rs : List Nat} {B₀ : List Bts} {H₀ : Nat → Nat → Bts} {nB : Nat} {m₀ : Str → Option Value} (c₀ : LaJ) (h₁ : c₀.tp = none)
    (hh : A.handled = none) (F : Fr h₀ env.locals s.heap m₀) (N : News h₀ env.locals s.heap (laSix xs st bk db td la c7 rest c₀)) (mky : (ky, PySem.W.listOf kvs.toArray nk) ∈ rest) (hI : IntsAre kvs (rs.map fun q : Nat => (q : Int))) (hqb : ∀ q ∈ rs, q < 256)
    (r1 : ∀ q ∈ rest, q.1 ≠ st) (r2 : ∀ q ∈ rest, q.1 ≠ bk) (r3 : ∀ q ∈ rest, q.1 ≠ db) (r4 : ∀ q ∈ rest, q.1 ≠ td) (r5 : ∀ q ∈ rest, q.1 ≠ la) (r6 : ∀ q ∈ rest, q.1 ≠ c7) (P0 : LaP prog w hof db B₀ H₀ rs nB 0 c₀) (hne : rs ≠ [])
    (turn : ∀ (I : Addr) (oI : Obj) (c : LaJ) (i q : Nat) (t : Tok) (u : Str → Option Value) h tk own (rest' : List (Addr × Obj)), rs[i]? = some q → i < rs.length → q < 256 → (∀ q ∈ rest', q.1 ≠ st) → (∀ q ∈ rest', q.1 ≠ bk) → (∀ q ∈ rest', q.1 ≠ db) → (∀ q ∈ rest', q.1 ≠ td) → (∀ q ∈ rest', q.1 ≠ la) → (∀ q ∈ rest', q.1 ≠ c7) → (∀ q ∈ rest, q ∈ rest') → (∀ q ∈ own, q ∈ rest') →
      @Ne Nat I st → @Ne Nat I bk → @Ne Nat I db → @Ne Nat I td → @Ne Nat I la → @Ne Nat I c7 → (∀ q ∈ rest, q.1 ≠ I) → LaP prog w hof db B₀ H₀ rs nB i c →
      Fr h₀ env.locals h (fun y => if y = x then some (.int (q : Int) t) else if [Str.ofString "told"].contains y then u y else m₀ y) → News h₀ env.locals h (laSix xs st bk db td la c7 ((I, oI) :: rest') c) →
      wpAny (model prog w) A (execs body env) (PostF h₀ env.locals (KN (laLed xs st bk db td la c7 rest) laPs x [] m₀ (LaP prog w hof db B₀ H₀ rs nB) (i + 1)) own I { s with heap := h, toks := tk } Q) E { s with heap := h, toks := tk })
    (done : ∀ (c : LaJ) (u : Str → Option Value) h tk (a : Addr) (vs : List Value), c.tp = some (a, vs) → LaP prog w hof db B₀ H₀ rs nB rs.length c → Fr h₀ env.locals h (fun y => if y = x then u y else if y = Str.ofString "told" then some (.ref a) else m₀ y) → News h₀ env.locals h (laSix xs st bk db td la c7 ((a, tupO vs) :: rest) c) → Q .next { s with heap := h, toks := tk }) :
    wpAny (model prog w) A (pyIter (.ref ky)) (fun it s₂ => LoopAtV prog w A h₀ env x body Q E it s₂) E s := by
  have hkl : kvs.length = rs.length := by have := hI.length; rw [List.length_map] at this; omega
  have e0 : laLed xs st bk db td la c7 rest c₀ = laSix xs st bk db td la c7 rest c₀ := by unfold laLed laTold; rw [h₁]; rfl
  refine kf_list (laLed xs st bk db td la c7 rest) laPs [] (LaP prog w hof db B₀ H₀ rs nB) c₀ hh F (e0 ▸ N) (by rw [e0]; exact .tail _ (.tail _ (.tail _ (.tail _ (.tail _ (.tail _ mky)))))) (fun p hp => by unfold laPs at hp; rw [h₁] at hp; cases hp) P0 ?_ ?_
  · intro I c i v u h tk own hlt hi hv hoff hown hI' hP F' N'
    obtain ⟨z, t, rfl, hz⟩ := hI.at i v hv
    rw [List.getElem?_map] at hz
    obtain ⟨q, hq, rfl⟩ := Option.map_eq_some_iff.mp hz
    obtain ⟨oI, hoI⟩ := hI'
    have nI : ∀ p ∈ laSix xs st bk db td la c7 rest c, p.1 ≠ I := fun p hp => by
      refine hoff p ?_
      unfold laLed
      simp only [laSix, List.mem_cons, List.mem_append] at hp ⊢
      rcases hp with h | h | h | h | h | h | h
      · exact .inl h
      · exact .inr (.inl h)
      · exact .inr (.inr (.inl h))
      · exact .inr (.inr (.inr (.inl h)))
      · exact .inr (.inr (.inr (.inr (.inl h))))
      · exact .inr (.inr (.inr (.inr (.inr (.inl h)))))
      · exact .inr (.inr (.inr (.inr (.inr (.inr (.inr h))))))
    have n1 : @Ne Nat st I := nI _ (.head _)
    have n2 : @Ne Nat bk I := nI _ (.tail _ (.head _))
    have n3 : @Ne Nat db I := nI _ (.tail _ (.tail _ (.head _)))
    have n4 : @Ne Nat td I := nI _ (.tail _ (.tail _ (.tail _ (.head _))))
    have n5 : @Ne Nat la I := nI _ (.tail _ (.tail _ (.tail _ (.tail _ (.head _)))))
    have n6 : @Ne Nat c7 I := nI _ (.tail _ (.tail _ (.tail _ (.tail _ (.tail _ (.head _))))))
    have off : ∀ z : Addr, @Ne Nat z I → @Ne Nat ky z → (∀ q ∈ rest, q.1 ≠ z) → ∀ q ∈ rest ++ own, q.1 ≠ z := fun z h1 h2 h3 q hq => (List.mem_append.mp hq).elim (h3 q) fun hq => by
      rcases hown q hq with e | e
      · rw [e]; exact Ne.symm h1
      · rw [e]; exact h2
    refine turn I oI c i q t (fun y => if y = Str.ofString "told" then (kstB m₀ (laPs c) y) else u y) h tk own (rest ++ own) hq (by omega) (hqb q (List.mem_of_getElem? hq)) (off st n1 (r1 _ mky) r1) (off bk n2 (r2 _ mky) r2) (off db n3 (r3 _ mky) r3) (off td n4 (r4 _ mky) r4) (off la n5 (r5 _ mky) r5) (off c7 n6 (r6 _ mky) r6)
      (fun q hq => List.mem_append_left _ hq) (fun q hq => List.mem_append_right _ hq) (Ne.symm n1) (Ne.symm n2) (Ne.symm n3) (Ne.symm n4) (Ne.symm n5) (Ne.symm n6) (fun q hq => nI q (.tail _ (.tail _ (.tail _ (.tail _ (.tail _ (.tail _ hq))))))) hP ?_ ?_
    · refine cast (congrArg (Fr h₀ env.locals h) (funext fun y => ?_)) F'
      by_cases hx : y = x
      · rw [if_pos hx, if_pos hx]
      · rw [if_neg hx, if_neg hx]
        have e1 : (fun z => if ([] : List Str).contains z = true then u z else m₀ z) = m₀ := rfl
        rw [e1]
        by_cases ht : y = Str.ofString "told"
        · subst ht
          rw [if_pos (by decide), if_pos rfl]
        · have hc : [Str.ofString "told"].contains y = false := by
            simp [ht]
          rw [hc]
          show kstB m₀ (laPs c) y = m₀ y
          unfold laPs
          cases c.tp with
          | none => rfl
          | some p => exact if_neg ht
    · intro p hp
      refine (fun hp' => N' p hp') ?_
      unfold laLed
      simp only [laSix, List.mem_cons, List.mem_append] at hp ⊢
      rcases hp with h | h | h | h | h | h | h | h | h
      · exact .inl (.inl h)
      · exact .inl (.inr (.inl h))
      · exact .inl (.inr (.inr (.inl h)))
      · exact .inl (.inr (.inr (.inr (.inl h))))
      · exact .inl (.inr (.inr (.inr (.inr (.inl h)))))
      · exact .inl (.inr (.inr (.inr (.inr (.inr (.inl h))))))
      · exact .inr (h ▸ hoI)
      · exact .inl (.inr (.inr (.inr (.inr (.inr (.inr (.inr h)))))))
      · exact .inr h
  · intro c u h tk hP F' N'
    rw [hkl] at hP
    rcases hP.last with ⟨e, _⟩ | ⟨a, vs, q, t, e, _, _, _, _⟩
    · exact absurd (List.length_eq_zero_iff.mp e) hne
    · refine done c u h tk a vs e hP ?_ ?_
      · refine cast (congrArg (Fr h₀ env.locals h) (funext fun y => ?_)) F'
        unfold laPs
        rw [e]
        rfl
      · unfold laLed laTold at N'
        rw [e] at N'
        exact N'
end
theorem notin_take {qs : List Nat} {i q : Nat} (hnd : qs.Nodup) (hq : qs[i]? = some q) : q ∉ qs.take i := fun h => by
  obtain ⟨j, hj, e⟩ := List.getElem_of_mem h
  have hji : j < i := by rw [List.length_take] at hj; omega
  obtain ⟨hi, e'⟩ := List.getElem?_eq_some_iff.mp hq
  rw [List.getElem_take] at e
  have := (List.getElem_inj hnd).mp (e.trans e'.symm)
  omega
theorem LaP.step {prog : Program} {w : World} {hof db a : Addr} {B₀ : List Bts} {H₀ : Nat → Nat → Bts} {rs : List Nat} {nB k q : Nat} {c : LaJ} (P : LaP prog w hof db B₀ H₀ rs nB k c) (hq : rs[k]? = some q) (hnd : rs.Nodup) (hqb : ∀ q ∈ rs, q < 256) {i cc : Int} {t1 t2 t : Tok} {n : Nat} {ob od otd ola o7 : Obj} {B : List Bts} {D : List (List UInt8 × Bts)} {H : Nat → Nat → Bts} {LV : List (Str × Bts)} {val : Bts} {vs : List Value}
    (i0 : 0 ≤ i) (c0 : 0 ≤ cc) (c1 : cc < 2147483647) (hB : Book prog w ob B) (hD : DB (bytesKind prog w) od D) (hT : IsTD w.params otd hof db (H 0 0)) (T : Tree B D (upd c.ℓ q val) H) (hl : DB (PySem.strKind prog w) ola LV) (hLV : LV = put c.LV (pathStr 8 q) val) (hval : val.size < 5) (hoff : ∀ d p, p ≠ q / 2 ^ (8 - d) → H d p = c.H d p)
    (hp : c.B <+: B) (hbl : B.length ≤ c.B.length + 9) (hdl : D.length ≤ c.D.length + 9) (h7 : o7.data = .cell (some (.int (q : Int) t))) (hvs : BytesAre vs (pathOf H q)) (hda : @LT.lt Nat _ db a) :
    LaP prog w hof db B₀ H₀ rs nB (k + 1) ⟨i, cc, t1, t2, n, ob, B, od, D, otd, upd c.ℓ q val, H, ola, LV, o7, some (a, vs)⟩ := by
  have hm := List.mem_of_getElem? hq
  have hni := notin_take hnd hq
  have hu : upd c.ℓ q val q = val := by unfold upd; rw [if_pos rfl]
  have hu' : ∀ x, x ≠ q → upd c.ℓ q val x = c.ℓ x := fun x hx => by unfold upd; rw [if_neg hx]
  obtain ⟨s1, s2⟩ := vals_step (ℓ := upd c.ℓ q val) (acc := c.LV) hnd hq hqb P.keys fun x hx => by rw [P.vals x hx, hu' x (fun e => hni (e ▸ hx))]
  rw [hu] at s1 s2
  have bl := P.bl
  have dl := P.dl
  refine ⟨i0, c0, c1, hB, hD, hT, T, hl, by rw [hLV]; exact s1, by rw [hLV]; exact s2, fun x => ?_, fun d p h => ?_, P.pre.trans hp, by show B.length ≤ _; omega, by show D.length ≤ _; omega, ⟨_, h7⟩, .inr ⟨a, vs, q, t, rfl, hm, h7, hvs, hda⟩⟩
  · show (upd c.ℓ q val x).size < 5
    by_cases e : x = q
    · rw [e, hu]; exact hval
    · rw [hu' x e]; exact P.small x
  · show H d p = _
    rw [hoff d p (h q hm)]; exact P.off d p h
theorem later_end {prog : Program} {w : World} {xs st bk db td la c7 hof L I a : Addr} {rest rest' own all : List (Addr × Obj)} {rs : List Nat} {B₀ : List Bts} {H₀ : Nat → Nat → Bts} {nB k : Nat} {m₀ m' : Str → Option Value} {x : Str} {h₀ h' : Heap} {s₁ : Shared} {tk : Nat} {vs : List Value} (c : LaJ) (hc : c.tp = some (a, vs)) (hP : LaP prog w hof db B₀ H₀ rs nB (k + 1) c)
    (hsub : ∀ q ∈ rest, q ∈ rest') (hown : ∀ q ∈ own, q ∈ rest') (n1 : @Ne Nat I st) (n2 : @Ne Nat I bk) (n3 : @Ne Nat I db) (n4 : @Ne Nat I td) (n5 : @Ne Nat I la) (n6 : @Ne Nat I c7) (n7 : @Ne Nat I a) (n8 : ∀ q ∈ rest, q.1 ≠ I) (F : Fr h₀ L h' m') (N : News h₀ L h' all) (sub : ∀ p ∈ laSix xs st bk db td la c7 ((a, tupO vs) :: rest') c, p ∈ all)
    (htold : m' (Str.ofString "told") = some (.ref a)) (hsame : ∀ z, z ≠ x → z ≠ Str.ofString "told" → m' z = m₀ z) :
    EndF h₀ L (KN (laLed xs st bk db td la c7 rest) laPs x [] m₀ (LaP prog w hof db B₀ H₀ rs nB) (k + 1)) own I s₁ { s₁ with heap := h', toks := tk } := by
  have e1 : laLed xs st bk db td la c7 rest c = laSix xs st bk db td la c7 ((a, tupO vs) :: rest) c := by unfold laLed laTold; rw [hc]; rfl
  have e2 : laPs c = [(Str.ofString "told", .ref a)] := by unfold laPs; rw [hc]
  refine kf_end c F (fun p hp => N p (sub p hp)) ?_ ?_ ?_ ?_ ?_ hP
  · rw [e1]
    intro p hp
    simp only [laSix, List.mem_cons] at hp ⊢
    rcases hp with h | h | h | h | h | h | h | h
    · exact .inl h
    · exact .inr (.inl h)
    · exact .inr (.inr (.inl h))
    · exact .inr (.inr (.inr (.inl h)))
    · exact .inr (.inr (.inr (.inr (.inl h))))
    · exact .inr (.inr (.inr (.inr (.inr (.inl h)))))
    · exact .inr (.inr (.inr (.inr (.inr (.inr (.inl h))))))
    · exact .inr (.inr (.inr (.inr (.inr (.inr (.inr (hsub p h)))))))
  · intro p hp
    exact .tail _ (.tail _ (.tail _ (.tail _ (.tail _ (.tail _ (.tail _ (hown p hp)))))))
  · rw [e1]
    intro p hp
    simp only [laSix, List.mem_cons] at hp
    rcases hp with h | h | h | h | h | h | h | h
    · rw [h]; exact Ne.symm n1
    · rw [h]; exact Ne.symm n2
    · rw [h]; exact Ne.symm n3
    · rw [h]; exact Ne.symm n4
    · rw [h]; exact Ne.symm n5
    · rw [h]; exact Ne.symm n6
    · rw [h]; exact Ne.symm n7
    · exact n8 p h
  · rw [e2]
    intro p hp
    rw [List.mem_singleton.mp hp]; exact htold
  · rw [e2]
    intro z h1 h2 _
    exact hsame z h1 (h2 _ (.head _))
end Mine
end
section
local macro_rules | `(tactic| walk_at "zzz") => `(tactic| fail)
local macro_rules | `(tactic| walk_at "zzz") => `(tactic| fail)
local macro_rules | `(tactic| walk_at "zzz") => `(tactic| fail)
local macro_rules | `(tactic| walk_at "zzz") => `(tactic| fail)
local macro_rules | `(tactic| walk_at "zzz") => `(tactic| fail)
local macro_rules | `(tactic| walk_at "zzz") => `(tactic| fail)
local macro_rules | `(tactic| walk_at "zzz") => `(tactic| fail)
local macro_rules | `(tactic| walk_at "zzz") => `(tactic| fail)
local macro_rules | `(tactic| walk_at "zzz") => `(tactic| fail)
local macro_rules | `(tactic| walk_at "zzz") => `(tactic| fail)
local macro_rules | `(tactic| walk_at "zzz") => `(tactic| fail)
local macro_rules | `(tactic| walk_at "zzz") => `(tactic| fail)
local macro_rules | `(tactic| walk_at "zzz") => `(tactic| fail)
local macro_rules | `(tactic| walk_at "zzz") => `(tactic| fail)
local macro_rules | `(tactic| walk_at "zzz") => `(tactic| fail)
local macro_rules | `(tactic| walk_at "zzz") => `(tactic| fail)
local macro_rules | `(tactic| walk_at "zzz") => `(tactic| fail)
local macro_rules | `(tactic| walk_at "zzz") => `(tactic| fail)
local macro_rules | `(tactic| walk_at "zzz") => `(tactic| fail)
local macro_rules | `(tactic| walk_at "zzz") => `(tactic| fail)
local macro_rules | `(tactic| walk_at "zzz") => `(tactic| fail)
local macro_rules | `(tactic| walk_at "zzz") => `(tactic| fail)
local macro_rules | `(tactic| walk_at "zzz") => `(tactic| fail)
local macro_rules | `(tactic| walk_at "zzz") => `(tactic| fail)
local macro_rules | `(tactic| walk_at "zzz") => `(tactic| fail)
local macro_rules | `(tactic| walk_at "zzz") => `(tactic| fail)
local macro_rules | `(tactic| walk_at "zzz") => `(tactic| fail)
local macro_rules | `(tactic| walk_at "zzz") => `(tactic| fail)
local macro_rules | `(tactic| walk_at "zzz") => `(tactic| fail)
local macro_rules | `(tactic| walk_at "zzz") => `(tactic| fail)
local macro_rules | `(tactic| walk_at "zzz") => `(tactic| fail)
local macro_rules | `(tactic| walk_at "zzz") => `(tactic| fail)
local macro_rules | `(tactic| walk_at "zzz") => `(tactic| fail)
local macro_rules | `(tactic| walk_at "zzz") => `(tactic| fail)
local macro_rules | `(tactic| walk_at "zzz") => `(tactic| fail)
local macro_rules | `(tactic| walk_at "zzz") => `(tactic| fail)
local macro_rules | `(tactic| walk_at "zzz") => `(tactic| fail)
local macro_rules | `(tactic| walk_at "zzz") => `(tactic| fail)
local macro_rules | `(tactic| walk_at "zzz") => `(tactic| fail)
local macro_rules | `(tactic| walk_at "zzz") => `(tactic| fail)
local macro_rules | `(tactic| walk_at "zzz") => `(tactic| fail)
local macro_rules | `(tactic| walk_at "zzz") => `(tactic| fail)
local macro_rules | `(tactic| walk_at "zzz") => `(tactic| fail)
local macro_rules | `(tactic| walk_at "zzz") => `(tactic| fail)
local macro_rules | `(tactic| walk_at "zzz") => `(tactic| fail)
local macro_rules | `(tactic| walk_at "zzz") => `(tactic| fail)
local macro_rules | `(tactic| walk_at "zzz") => `(tactic| fail)
local macro_rules | `(tactic| walk_at "zzz") => `(tactic| fail)
local macro_rules | `(tactic| walk_at "zzz") => `(tactic| fail)
local macro_rules | `(tactic| walk_at "zzz") => `(tactic| fail)
local macro_rules | `(tactic| walk_at "zzz") => `(tactic| fail)
local macro_rules | `(tactic| walk_at "zzz") => `(tactic| fail)
local macro_rules | `(tactic| walk_at "zzz") => `(tactic| fail)
local macro_rules | `(tactic| walk_at "zzz") => `(tactic| fail)
local macro_rules | `(tactic| walk_at "zzz") => `(tactic| fail)
local macro_rules | `(tactic| walk_at "zzz") => `(tactic| fail)
local macro_rules | `(tactic| walk_at "zzz") => `(tactic| fail)
local macro_rules | `(tactic| walk_at "zzz") => `(tactic| fail)
local macro_rules | `(tactic| walk_at "zzz") => `(tactic| fail)
local macro_rules | `(tactic| walk_at "zzz") => `(tactic| fail)
local macro_rules | `(tactic| walk_at "zzz") => `(tactic| fail)
local macro_rules | `(tactic| walk_at "zzz") => `(tactic| fail)
local macro_rules | `(tactic| walk_at "zzz") => `(tactic| fail)
local macro_rules | `(tactic| walk_at "zzz") => `(tactic| fail)
local macro_rules | `(tactic| walk_at "zzz") => `(tactic| fail)
local macro_rules | `(tactic| walk_at "zzz") => `(tactic| fail)
local macro_rules | `(tactic| walk_at "zzz") => `(tactic| fail)
local macro_rules | `(tactic| walk_at "zzz") => `(tactic| fail)
local macro_rules | `(tactic| walk_at "zzz") => `(tactic| fail)
local macro_rules | `(tactic| walk_at "zzz") => `(tactic| fail)
local macro_rules | `(tactic| walk_at "zzz") => `(tactic| fail)
local macro_rules | `(tactic| walk_at "zzz") => `(tactic| fail)
local macro_rules | `(tactic| walk_at "zzz") => `(tactic| fail)
local macro_rules | `(tactic| walk_at "zzz") => `(tactic| fail)
local macro_rules | `(tactic| walk_at "zzz") => `(tactic| fail)
local macro_rules | `(tactic| walk_at "zzz") => `(tactic| fail)
local macro_rules | `(tactic| walk_at "zzz") => `(tactic| fail)
local macro_rules | `(tactic| walk_at "zzz") => `(tactic| fail)
local macro_rules | `(tactic| walk_at "zzz") => `(tactic| fail)
local macro_rules | `(tactic| walk_at "zzz") => `(tactic| fail)
open PySem PySem.W PyProof.Rows PySem.Calls
set_option Elab.async false
set_option maxRecDepth 100000
set_option maxHeartbeats 4000000
set_option linter.unusedSimpArgs false
set_option linter.unusedSectionVars false
set_option linter.unusedVariables false
theorem Mine.fillLh : (fun (_ : OpenLaw) (_ : Params → Frag) => True) PySem.Challenge.rw_bs0043_01 Mine.hd.heap_39 := by w_top off; k_fill; trivial
namespace Mine
local macro_rules | `(tactic| k_ne) => `(tactic| (refine neN ?_; (try dsimp only); first | with_reducible assumption | exact Ne.symm (by with_reducible assumption) | omega))
local macro_rules | `(tactic| k_all) => `(tactic| first | with_reducible assumption | (refine' all_cons ?a ?b; (case a => first | with_reducible assumption | exact Ne.symm (by with_reducible assumption) | omega); (case b => k_all)))
local macro_rules | `(tactic| k_mem) => `(tactic| first | assumption | exact List.mem_append_left _ (by assumption))
local macro_rules | `(tactic| k_room) => `(tactic| ((try simp only [depth_under_make, depth_under_kw, depth_in1, depth_deeper, depth_caller]); (try dsimp only [ktrTop]); omega))
local macro_rules | `(tactic| k_units) => `(tactic| ((have hcL9 := cLine_is); (try simp only [units_under_make, units_in1, units_deeper, Around.mark_units, units_caller]); (try dsimp only [ktrTop]); omega))
local macro_rules | `(tactic| walk_at "eval Name") => `(tactic| (k_here; (with_reducible show wpAny _ _ (eval (Expr.Name _ _) (envX _ _ _ _ _ _)) _ _ _); k_dflt (first
  | (refine' nameX_L ?F ?v ?_ ?a ?b; (case F => k_asm); (case a => rfl); (case b => rfl); (case v => first | rfl | assumption); k_whole)
  | (refine' nameX_C ?N ?c ?m ?d ?_ ?a ?b; (case a => rfl); (case b => rfl); (case N => k_asm); (case c => rfl); (case m => k_mem); (case d => k_asm); k_whole)
  | (refine' nameX_K ?F ?X ?T ?e ?_ ?a ?b; (case F => k_asm); (case X => k_asm); (case T => k_asm); (case a => rfl); (case b => rfl); (case e => k_is); k_whole)
  | (refine' nameX_B ?F ?X ?T ?e ?v ?n ?_ ?a ?b; (case F => k_asm); (case X => k_asm); (case T => k_asm); (case a => rfl); (case b => rfl); (case e => k_is); (case v => boot_fast); (case n => decide); k_whole))))
local macro_rules | `(tactic| walk_at "pyIter ref") => `(tactic| refine rest ?_)
local macro_rules | `(tactic| walk_at "exec For Name Call cons nil") => `(tactic| (k_here; (rename Fr _ _ _ _ => lF'); (with_unfolding_all refine' For_invVF lF' ?k1 ?k2 ?_ ?ks ?ke; (case k1 => exact rfl); (case k2 => exact rfl); (case ks => exact fun _ => rfl); (case ke => assumption); k_whole)))
local macro_rules | `(tactic| walk_at "exec For") => `(tactic| (k_here; (rename Fr _ _ _ _ => lF'); (with_unfolding_all refine' For_invVF lF' ?k1 ?k2 ?_ ?ks ?ke; (case k1 => exact rfl); (case k2 => exact rfl); (case ks => exact fun _ => rfl); (case ke => assumption); k_whole)))
local macro_rules | `(tactic| walk_at "exec For Name Name cons nil") => `(tactic| (k_here; (rename Fr _ _ _ _ => lF'); (with_unfolding_all refine' For_invVF lF' ?k1 ?k2 ?_ ?ks ?ke; (case k1 => exact rfl); (case k2 => exact rfl); (case ks => exact fun _ => rfl); (case ke => assumption); k_whole)))
local macro_rules | `(tactic| walk_at "EndF") => `(tactic| refine rest ?_)
local macro_rules | `(tactic| walk_at "call ref") => `(tactic| (k_here; (first | (with_reducible show wpAny _ _ (call (Value.ref 109) _) _ _ _) | (with_reducible show wpAny _ _ (call (Value.ref 184) _) _ _ _) | (with_reducible show wpAny _ _ (call (Value.ref 191) _) _ _ _) | (with_reducible show wpAny _ _ (call (Value.ref 179) _) _ _ _) | (with_reducible show wpAny _ _ (call (Value.ref 123) _) _ _ _)); refine rest ?_))
local macro_rules | `(tactic| walk_at "call ref") => `(tactic| (k_here; (with_reducible show wpAny _ _ (call (Value.ref 109) _) _ _ _); k_dflt (refine' branch_use _ _ _ _ _ _ _ _ _ _ _ _ _ _ _ _ _ ?mt ?md ?hT ?Bl ?F ?X ?N ?T ?k ?d ?u ?mdb ?hD ?Tr ?root ?key ?q ?_; (case F => k_asm); (case N => k_asm); (case mt => k_mem); (case md => k_mem); (case hT => exact ⟨_, _, _, _, _, _, _, _, _, _, rfl⟩); (case Bl => k_asm); (case X => k_asm); (case T => k_asm); (case k => rfl); (case d => k_room); (case u => k_units); (case mdb => k_mem); (case hD => with_reducible assumption); (case Tr => with_reducible assumption); (case root => rfl); (case key => exact key1 (by assumption)); (case q => first | assumption | omega); k_whole); intro tp' vs' h' tk' hvs' F' N' l1; (have hvl' := get_len hvs'); (try k_lt l1); (try k_sweep)))
local macro_rules | `(tactic| walk_at "call ref") => `(tactic| (k_here; (with_reducible show wpAny _ _ (call (Value.ref 184) [Value.int _ _]) _ _ _); k_dflt (refine' path_ok _ _ _ _ _ _ _ _ _ _ _ _ _ _ _ _ _ ?Bl ?F ?X ?N ?T ?k ?d ?u ?_; (case F => k_asm); (case N => k_asm); (case Bl => k_asm); (case X => k_asm); (case T => k_asm); (case k => rfl); (case d => k_room); (case u => k_units); k_whole); intro h' t' tk' F' N'; (try k_sweep)))
local macro_rules | `(tactic| walk_at "call ref") => `(tactic| (k_here; (with_reducible show wpAny _ _ (call (Value.ref 191) [Value.str _ _]) _ _ _); k_dflt (refine' beside_ok _ _ _ _ _ _ _ _ _ _ _ _ _ _ _ _ _ ?Bl ?F ?X ?N ?T ?k ?d ?u ?dd ?_; (case F => k_asm); (case N => k_asm); (case Bl => k_asm); (case X => k_asm); (case T => k_asm); (case k => rfl); (case d => k_room); (case u => k_units); (case dd => omega); k_whole); intro h' t' tk' F' N'; (try k_sweep)))
local macro_rules | `(tactic| walk_at "subscriptTail") => `(tactic| (k_here; (with_reducible show wpAny _ _ (subscriptTail _ _ (Value.str (pathStr _ _) _) (Value.ref _)) _ _ _); k_dflt (refine' slice_P ?F ?N ?e ?z ?_; (case F => k_asm); (case N => k_asm); (case e => exact slice_up (by omega)); (case z => (rw [pathStr_len]; omega)); k_whole); intro h' t' k' F' N'))
local macro_rules | `(tactic| walk_at "call builtin:dict.get") => `(tactic| (k_here; k_dflt (refine' db_get_same (knd := PySem.strKind _ _) ?N ?p ?d ?lo ?k ?s ?_; (case N => k_asm); (case p => k_mem); (case d => with_reducible assumption); (case lo => assumption); (case k => exact sk_is _ _ _ _); (case s => assumption); k_whole); intro _))
local macro_rules | `(tactic| walk_at "getMethod ref") => `(tactic| (k_here; (with_reducible show wpAny _ _ (getMethod (Value.ref _) (Str.ofString "get") _) _ _ _); k_dflt (refine' db_mGet (knd := PySem.strKind _ _) ?N ?p ?d ?_; (case N => k_asm); (case p => k_mem); (case d => with_reducible assumption); k_whole)))
local macro_rules | `(tactic| walk_at "compareOp NotEq bytes bytes") => `(tactic| (k_here; k_dflt (refine' ne_same ?_; k_whole)))
local macro_rules | `(tactic| walk_at "setItem ref") => `(tactic| (k_here; (with_reducible show wpAny _ _ (setItem (Value.ref _) (Value.str _ _) (Value.bytes _ _)) _ _ _); k_dflt (refine' db_set_at (knd := PySem.strKind _ _) ?F ?N ?U ?d ?k ?z ?_; (case F => k_asm); (case N => k_asm); (case U => k_updF); (case d => with_reducible assumption); (case k => exact sk_is _ _ _ _); (case z => omega)); intro h' o' W' hW' hWl' F' N' hd'; (try dsimp only at N'); (try k_sweep)))
local macro_rules | `(tactic| walk_at "exec Assign cons DictComp") => `(tactic| (k_here; k_dflt (refine Assign_DictComp_A (F₀ := by k_asm) (by rfl) (by with_unfolding_all rfl) (by with_unfolding_all rfl) (by decide) (by rfl) (by decide) (by rfl) (by rfl) (by rfl) ?_)))
local macro_rules | `(tactic| walk_at "DSrcA") => `(tactic| refine rest ?_)
local macro_rules | `(tactic| walk_at "DEnd") => `(tactic| refine rest ?_)
local macro_rules | `(tactic| walk_at "TSrcD") => `(tactic| refine rest ?_)
local macro_rules | `(tactic| walk_at "eval ListComp") => `(tactic| refine rest ?_)
local macro_rules | `(tactic| walk_at "eval ListComp") => `(tactic| (k_here; k_dflt (refine ListComp_TD (by k_asm) (by with_unfolding_all rfl) (by decide) (by rfl) (by decide) (by rfl) ?_)))
local macro_rules | `(tactic| walk_at "call ref") => `(tactic| (k_here; (with_reducible show wpAny _ _ (call (Value.ref 196) _) _ _ _); refine rest ?_))
local macro_rules | `(tactic| walk_at "call ref") => `(tactic| (k_here; (with_reducible show wpAny _ _ (call (Value.ref 196) _) _ _ _); k_dflt (refine' joined_ok _ _ _ _ _ _ _ _ _ _ _ _ _ _ _ _ _ ?Bl ?F ?X ?N ?T ?k ?d ?u ?U1 ?mh ?mc ?mo ?mv ?mk ?HC ?hoc ?hoco ?hvb ?hkb ?lov ?lok ?hVl ?hKl ?hB ?hBl _ ?hVq ?hqb ?hside ?hV ?hK ?_; (case HC => with_reducible assumption); (case hB => with_reducible assumption); (case F => k_asm); (case N => k_asm); (case Bl => k_asm); (case X => k_asm); (case T => k_asm); (case k => rfl); (case d => k_room); (case u => k_units); (case U1 => k_updF); (case mh => k_mem); (case mc => k_mem); (case mo => k_mem); (case mv => k_mem); (case mk => k_mem); (case hoc => with_reducible assumption); (case hoco => with_reducible assumption); (case hvb => omega); (case hkb => omega); (case lov => with_reducible assumption); (case lok => with_reducible assumption); (case hBl => omega); (case hV => with_reducible assumption); (case hK => with_reducible assumption); (case hVl => omega); (case hKl => omega); (case hVq => with_reducible assumption); (case hqb => with_reducible assumption); (case hside => with_reducible assumption); k_whole); intro D' ob' od' B' W' h' tk' hB' hp' hl' hW' J' hWl' loW' F' N' l1; (try k_lt l1); (try k_sweep)))
local macro_rules | `(tactic| walk_at "callWith ref") => `(tactic| (k_here; k_dflt (refine' callWith_F ?k1 ?_; (case k1 => exact FnAt.of (by k_asm) (by k_mem)); k_whole)))
local macro_rules | `(tactic| walk_at "getMethod ref") => `(tactic| (k_here; (with_reducible show wpAny _ _ (getMethod (Value.ref _) (Str.ofString "get") _) _ _ _); k_dflt (refine' db_mGet (knd := intKind _ _) ?N ?p ?d ?_; (case N => k_asm); (case p => k_mem); (case d => with_reducible assumption); k_whole)))
local macro_rules | `(tactic| walk_at "call builtin:dict.get") => `(tactic| (k_here; k_dflt (refine' db_get2 (knd := intKind _ _) ?N ?p ?d ?lo ?k ?_; (case N => k_asm); (case p => k_mem); (case d => with_reducible assumption); (case lo => assumption); (case k => exact intKind_is _ _ _ _); k_whole); intro _))
local macro_rules | `(tactic| walk_at "subscriptTail") => `(tactic| (k_here; (with_reducible show wpAny _ _ (subscriptTail _ _ (Value.ref _) (Value.str _ _)) _ _ _); k_dflt (refine' db_item (knd := PySem.strKind _ _) ?N ?p ?d ?k ?l ?_; (case N => k_asm); (case p => k_mem); (case d => with_reducible assumption); (case k => exact sk_is _ _ _ _); (case l => with_reducible assumption); k_whole); intro _))
local macro_rules | `(tactic| walk_at "call ref") => `(tactic| (k_here; (with_reducible show wpAny _ _ (call (Value.ref 179) [Value.ref _, Value.int _ _]) _ _ _); k_dflt (refine' next_nat _ _ _ _ _ _ _ _ _ _ _ _ _ _ _ _ _ ?Bl ?F ?X ?N ?T ?k ?d ?u ?U ?hx ?hi ?hl ?i0 ?c0 ?c1 ?m0 ?m1 ?_; (case Bl => k_asm); (case F => k_asm); (case X => k_asm); (case N => k_asm); (case T => k_asm); (case k => rfl); (case d => k_room); (case u => k_units); (case U => k_updF); (case hx => k_mem); (case hi => with_reducible assumption); (case hl => with_reducible assumption); (case i0 => assumption); (case c0 => assumption); (case c1 => assumption); (case m0 => first | decide | omega); (case m1 => first | decide | omega); k_whole); intro v' tv' i' c' t1' t2' n' h' tk' v1' i0' c0' c1' F' N'; (try dsimp only at N'); (try k_sweep)))
local macro_rules | `(tactic| walk_at "dictSet") => `(tactic| refine rest ?_)
local macro_rules | `(tactic| walk_at "binaryOp Mult bytes int") => `(tactic| (k_here; k_dflt (refine' mulB ?v ?_; (case v => omega)); intro val' t' k' hval'))
local macro_rules | `(tactic| walk_at "call ref") => `(tactic| (k_here; (with_reducible show wpAny _ _ (call (Value.ref 123) _) _ _ _); k_dflt (refine' set_use _ _ _ _ _ _ _ _ _ _ _ _ _ _ _ _ _ ?HC ?mt ?md ?hT ?Bl ?F ?X ?N ?T ?k ?d ?u ?U1 ?U2 ?U3 ?mh ?mc ?mo ?hoc ?hoco ?hB ?hD ?Tr ?root ?key ?q ?bl ?dl ?val ?_; (case F => k_asm); (case N => k_asm); (case HC => with_reducible assumption); (case mt => k_mem); (case md => k_mem); (case hT => exact ⟨_, _, _, _, _, _, _, _, _, _, rfl⟩); (case Bl => k_asm); (case X => k_asm); (case T => k_asm); (case k => rfl); (case d => k_room); (case u => k_units); (case U1 => k_updF); (case U2 => (intro _; k_updF)); (case U3 => (intro _ _; k_updF)); (case mh => k_mem); (case mc => k_mem); (case mo => k_mem); (case hoc => with_reducible assumption); (case hoco => with_reducible assumption); (case hB => with_reducible assumption); (case hD => with_reducible assumption); (case Tr => with_reducible assumption); (case root => rfl); (case key => exact key1 (by assumption)); (case q => omega); (case bl => omega); (case dl => omega); (case val => (constructor <;> omega)); k_whole); intro tp' vs' ob' od' otd' B' D' H' h' tk' hvs' hB' hD' hpre' hbl' hdl' hT' hTr' hoff' F' N' l1; (try dsimp only at N'); (try k_lt l1); (try k_sweep)))
local macro_rules | `(tactic| walk_at "subscriptTail Name Slice ref ref") => `(tactic| (k_here; k_dflt (refine' kmk_slice_ints ?F ?N ?l ?p ?q ?i ?m ?c ?_ ?s ?t ?z; (case F => k_asm); (case N => k_asm); (case l => exact list_in (by k_asm) (by k_mem)); (case p => kmk_part); (case q => kmk_part); (case i => with_reducible assumption); (case m => first | exact kmk_from (by with_reducible assumption) (Int.natCast_nonneg _) | exact kmk_upto (by with_reducible assumption) (Int.natCast_nonneg _)); (case c => exact rfl); (case s => with_unfolding_all rfl); (case t => kmk_pure); (case z => (rw [List.size_toArray, sizeLine_eq]; omega))); intro D' ws' h' F' N' l1 hI' hC' hL'; (try k_lt l1)))
theorem later_reorder {h₀ h : Heap} {L : Addr} {x1 x2 x3 la s b d t c7 : Addr × Obj} {rest : List (Addr × Obj)} (N : News h₀ L h (x1 :: x2 :: x3 :: la :: s :: b :: d :: t :: c7 :: rest)) : News h₀ L h (s :: b :: d :: t :: la :: c7 :: x1 :: rest) := fun p hp => N p (by
  simp only [List.mem_cons] at hp ⊢
  rcases hp with h | h | h | h | h | h | h | h
  · exact .inr (.inr (.inr (.inr (.inl h))))
  · exact .inr (.inr (.inr (.inr (.inr (.inl h)))))
  · exact .inr (.inr (.inr (.inr (.inr (.inr (.inl h))))))
  · exact .inr (.inr (.inr (.inr (.inr (.inr (.inr (.inl h)))))))
  · exact .inr (.inr (.inr (.inl h)))
  · exact .inr (.inr (.inr (.inr (.inr (.inr (.inr (.inr (.inl h))))))))
  · exact .inl h
  · exact .inr (.inr (.inr (.inr (.inr (.inr (.inr (.inr (.inr h)))))))))
theorem drop134 {h₀ h : Heap} {L : Addr} {x1 x2 x3 x4 : Addr × Obj} {rest : List (Addr × Obj)} (N : News h₀ L h (x1 :: x2 :: x3 :: x4 :: rest)) : News h₀ L h (x2 :: rest) := fun p hp => N p (by
  rcases List.mem_cons.mp hp with h | h
  · exact h ▸ .tail _ (.head _)
  · exact .tail _ (.tail _ (.tail _ (.tail _ h))))
theorem turned {qs : List Nat} (v : Nat) {ws : List Value} (h : IntsAre ws (List.drop (v : Int).toNat (qs.map fun q : Nat => (q : Int)) ++ List.take (v : Int).toNat (qs.map fun q : Nat => (q : Int)))) :
    ∃ rs : List Nat, IntsAre ws (rs.map fun q : Nat => (q : Int)) ∧ rs.Perm qs := by
  refine ⟨qs.drop v ++ qs.take v, ?_, List.perm_append_comm.trans (by rw [List.take_append_drop])⟩
  rw [Int.toNat_natCast, ← List.map_drop, ← List.map_take, ← List.map_append] at h
  exact h
section
variable {prog : Program} {w : World} {p : Program} {loose : List Str} {mean : ExcName → Option Value} {mg mb : Str → Option Value} {L xs st bk cod hof td tr db he : Addr} {led : List (Addr × Obj)} {B : List Bts} {D : List (List UInt8 × Bts)} {ℓ : Nat → Bts} {H : Nat → Nat → Bts} {nB : Nat}
theorem segH (dp un : Nat) (gd : Option (List Code)) (a : Addr) (ccd : Value) (outer : List Env) (A₀ : Around) (base h₀ : Heap) (m : Str → Option Value) (s : Shared) (Q : Flow → Shared → Prop) (E : Value → Shared → Prop) (more : List Stmt) {ky kp : Addr} {kvs : List Value} {nk v : Nat} {tv : Tok} {qs : List Nat}
    (Bl : Below A₀ base outer h₀) (F : Fr h₀ L s.heap m) (X : (Mine.hd.heap_39 w.params).In h₀) (N : News h₀ L s.heap led) (T : Top p loose mean mg mb h₀) (hd : dp + 12 < recursionLimit) (hu : un + 80 < cLine)
    (AD : Adr L xs st bk cod hof td tr db he) (S : LSt prog w p loose mean mg mb L xs st bk cod hof td tr db he led B D ℓ H nB) (hnB : nB ≤ 1200)
    (hE : PassesOwn (model prog w) (ktrTop dp un gd lawN lawScope L a ccd (lawCl L) outer) (envX lawN lawScope L a ccd (lawCl L)) E)
    (hky : @LT.lt Nat _ he ky) (mky : (ky, PySem.W.listOf (List.toArray kvs) nk) ∈ led) (hI : IntsAre kvs (qs.map fun q : Nat => (q : Int))) (hnd : qs.Nodup) (hne : qs ≠ []) (hql : qs.length ≤ 4) (hqb : ∀ q ∈ qs, q < 256) (hv : v < qs.length)
    (m3 : ∃ o, (L + 1 + 1 + 1, o) ∈ led ∧ o.data = .cell (some (.ref ky)))
    (hm1 : m (Str.ofString "state") = some (.ref st)) (hm2 : m (Str.ofString "hash_of") = some (.ref hof)) (hm3 : m (Str.ofString "kept") = some (.ref kp)) (hm5 : m (Str.ofString "turn") = some (.int (v : Int) tv))
    (next : ∀ h' tk' m' led' B' D' ℓ' H' la ola LV tp tvs ql, Fr h₀ L h' m' → News h₀ L h' led' → B <+: B' → LSt prog w p loose mean mg mb L xs st bk cod hof td tr db he led' B' D' ℓ' H' (nB + 36) → (∀ a o, (a, o) ∈ led → @Ne Nat a st → @Ne Nat a bk → @Ne Nat a db → @Ne Nat a td → @Ne Nat a (L + 7) → (a, o) ∈ led') →
      (la, ola) ∈ led' → DB (PySem.strKind prog w) ola LV → (∃ rs : List Nat, rs.Nodup ∧ (∀ q, q ∈ rs ↔ q ∈ qs) ∧ rs.length = qs.length ∧ LV.map (·.1) = rs.map (pathStr 8)) → (∀ q ∈ qs, look LV (pathStr 8 q) = some (ℓ' q)) → (∀ d p, (∀ q ∈ qs, p ≠ q / 2 ^ (8 - d)) → H' d p = H d p) →
      (tp, tupO tvs) ∈ led' → BytesAre tvs (pathOf H' ql) → ql ∈ qs → (∃ o t, (L + 1 + 1 + 1 + 1 + 1 + 1 + 1, o) ∈ led' ∧ o.data = .cell (some (.int (ql : Int) t))) → @LT.lt Nat _ db la → @LT.lt Nat _ db tp →
      m' (Str.ofString "hash_of") = some (.ref hof) → m' (Str.ofString "kept") = some (.ref kp) → m' (Str.ofString "later") = some (.ref la) → m' (Str.ofString "told") = some (.ref tp) →
      wpAny (model prog w) (ktrTop dp un gd lawN lawScope L a ccd (lawCl L) outer) (execs more (envX lawN lawScope L a ccd (lawCl L))) Q E { s with heap := h', toks := tk' }) :
    wpAny (model prog w) (ktrTop dp un gd lawN lawScope L a ccd (lawCl L) outer) (execs (lawSeg 19 2 ++ more) (envX lawN lawScope L a ccd (lawCl L))) Q E s := by
  have e1 : lawSeg 19 2 ++ more = _ :: _ :: more := rfl
  rw [e1]
  clear e1
  have e3 : lawScope = lawScope := rfl
  conv at e3 => lhs; whnf
  rw [lawCl_eq] at next hE ⊢
  rw [← e3] at next hE ⊢
  clear e3
  obtain ⟨rest, i, c, t1, t2, n, ob, od, otd, N1, i0, c0, c1, hB, hD, hT, R, inr, outr⟩ := S.open4 AD N
  obtain ⟨o7, v7, n7, d7⟩ := R.c7
  have AD' := AD
  obtain ⟨a0, a1, a2, a3, a4, a5, a6, a7, a8, a9⟩ := AD'
  obtain ⟨vs, ns, nx, mx, hx1, hx2⟩ := R.xsL
  obtain ⟨nm, ql, ps, bd, sc, clo, pm, ctv, oc, oco, mh, mc, mo, k1, k2, HC⟩ := R.hash
  obtain ⟨o1, n1, d1⟩ := R.c1
  obtain ⟨o3, n3', d3⟩ := m3
  have inrN : ∀ {a : Addr} {o : Obj}, (a, o) ∈ led → @Ne Nat a st → @Ne Nat a bk → @Ne Nat a db → @Ne Nat a td → (a, o) ∈ rest := fun hm h1 h2 h3 h4 => inr _ _ hm h1 h2 h3 h4
  have n3 := inrN n3' (by omega) (by omega) (by omega) (by omega)
  have mt := R.inst
  have mky' := inrN mky (by omega) (by omega) (by omega) (by omega)
  have N9 : News h₀ L s.heap ((st, stO xs i c t1 t2 n) :: (bk, ob) :: (db, od) :: (td, otd) :: (L + 1 + 1 + 1 + 1 + 1 + 1 + 1, o7) :: less (L + 1 + 1 + 1 + 1 + 1 + 1 + 1) rest) := fun p hp => by
    rcases List.mem_cons.mp hp with rfl | hp
    · exact N1 _ (.head _)
    · rcases List.mem_cons.mp hp with rfl | hp
      · exact N1 _ (.tail _ (.head _))
      · rcases List.mem_cons.mp hp with rfl | hp
        · exact N1 _ (.tail _ (.tail _ (.head _)))
        · rcases List.mem_cons.mp hp with rfl | hp
          · exact N1 _ (.tail _ (.tail _ (.tail _ (.head _))))
          · rcases List.mem_cons.mp hp with rfl | hp
            · exact N1 _ (.tail _ (.tail _ (.tail _ (.tail _ n7))))
            · exact N1 _ (.tail _ (.tail _ (.tail _ (.tail _ (less_mem.mp hp).1))))
  have mx9 := in_less mx (d := L + 1 + 1 + 1 + 1 + 1 + 1 + 1) (by omega)
  have mh9 := in_less mh (d := L + 1 + 1 + 1 + 1 + 1 + 1 + 1) (by omega)
  have mc9 := in_less mc (d := L + 1 + 1 + 1 + 1 + 1 + 1 + 1) (by omega)
  have mo9 := in_less mo (d := L + 1 + 1 + 1 + 1 + 1 + 1 + 1) (by omega)
  have n19 := in_less n1 (d := L + 1 + 1 + 1 + 1 + 1 + 1 + 1) (by omega)
  have n39 := in_less n3 (d := L + 1 + 1 + 1 + 1 + 1 + 1 + 1) (by omega)
  have mt9 := in_less mt (d := L + 1 + 1 + 1 + 1 + 1 + 1 + 1) (by omega)
  have mky9 := in_less mky' (d := L + 1 + 1 + 1 + 1 + 1 + 1 + 1) (by omega)
  have r1 : ∀ q ∈ less (L + 1 + 1 + 1 + 1 + 1 + 1 + 1) rest, q.1 ≠ st := fun q hq => (R.off q (less_mem.mp hq).1).1
  have r2 : ∀ q ∈ less (L + 1 + 1 + 1 + 1 + 1 + 1 + 1) rest, q.1 ≠ bk := fun q hq => (R.off q (less_mem.mp hq).1).2.1
  have r3 : ∀ q ∈ less (L + 1 + 1 + 1 + 1 + 1 + 1 + 1) rest, q.1 ≠ db := fun q hq => (R.off q (less_mem.mp hq).1).2.2.1
  have r4 : ∀ q ∈ less (L + 1 + 1 + 1 + 1 + 1 + 1 + 1) rest, q.1 ≠ td := fun q hq => (R.off q (less_mem.mp hq).1).2.2.2
  have r5 : ∀ q ∈ less (L + 1 + 1 + 1 + 1 + 1 + 1 + 1) rest, q.1 ≠ L + 1 + 1 + 1 + 1 + 1 + 1 + 1 := less_off
  have Tr := S.T
  have hlim := S.lim
  have hsm := S.small
  generalize hr9 : less (L + 1 + 1 + 1 + 1 + 1 + 1 + 1) rest = rest9 at N9 mx9 mh9 mc9 mo9 n19 n39 mt9 mky9 r1 r2 r3 r4 r5
  clear N N1 mx mh mc mo n1 n3 n3' mt mky' mky
  have hkl : kvs.length = qs.length := by have := hI.length; rw [List.length_map] at this; omega
  k_steps
  show wpAny _ _ _ _ _ _
  rename IntsAre _ (_ ++ _) => hI8
  obtain ⟨rs, hIr, hperm⟩ := turned v hI8
  have hndr : rs.Nodup := hperm.nodup_iff.mpr hnd
  have hmem : ∀ q, q ∈ rs ↔ q ∈ qs := fun q => hperm.mem_iff
  have hqbr : ∀ q ∈ rs, q < 256 := fun q hq => hqb q ((hmem q).mp hq)
  have hlr : rs.length = qs.length := hperm.length_eq
  have hner : rs ≠ [] := fun e => by rw [e] at hlr; exact hne (List.length_eq_zero_iff.mp hlr.symm)
  rename News _ _ _ _ => N8
  rename Fr _ _ _ _ => F8
  rename _ ∧ _ ∧ _ ∧ _ ∧ _ ∧ AllLt _ rest9 => l5
  have la5 := allLt_mem l5.2.2.2.2.2
  have hladb : @LT.lt Nat _ db _ := l5.2.2.1
  refine later_loop ⟨i, c, t1, t2, n, ob, B, od, D, otd, ℓ, H, _, [], o7, none⟩ rfl rfl F8 (later_reorder N8) (.head _) hIr hqbr (all_cons (by omega) r1) (all_cons (by omega) r2) (all_cons (by omega) r3) (all_cons (by omega) r4) (all_cons (by omega) fun q hq => Nat.ne_of_lt (la5 q hq)) (all_cons (by omega) r5) ⟨by assumption, by assumption, by assumption, hB, hD, hT, Tr, DB.nil (by assumption), rfl, (fun q hq => by simp at hq), hsm, fun _ _ _ => rfl, List.prefix_refl _, hlim.1, hlim.2, ⟨v7, d7⟩, .inl ⟨rfl, rfl⟩⟩ hner ?_ ?_
  · rintro I oI ⟨i, c, t1, t2, n, ob, B1, od, D1, otd, ℓ1, H1, ola, LV, o7, tp⟩ k q t u h tk own rest' hk hkl' hq256 q1 q2 q3 q4 q5 q6 hsub hown nI1 nI2 nI3 nI4 nI5 nI6 nI7 P F1 N1
    have y0 := P.i0
    have y1 := P.c0
    have y2 := P.c1
    have y3 := P.book
    have y4 := P.dbk
    have y5 := P.tdk
    have y6 := P.T
    have y7 := P.later
    have y8 := P.small
    have y9 := P.bl
    have y10 := P.dl
    obtain ⟨vc, y11⟩ := P.cell
    have y12 : LV.length ≤ 4 := by have := congrArg List.length P.keys; rw [List.length_map, List.length_map, List.length_take] at this; dsimp only at this; omega
    dsimp only [laSix] at y0 y1 y2 y3 y4 y5 y6 y7 y8 y9 y10 y11 N1
    replace F1 : Fr h₀ L h _ := F1
    obtain ⟨j1, j2, j3, j4, j5, j6, v1, v2, v3, v6, rfl⟩ := y5
    have mx9 := hsub _ (.tail _ mx9)
    have mh9 := hsub _ (.tail _ mh9)
    have mc9 := hsub _ (.tail _ mc9)
    have mo9 := hsub _ (.tail _ mo9)
    have n19 := hsub _ (.tail _ n19)
    have mt9 := hsub _ (.tail _ mt9)
    clear N8 F8 next S R Tr hB hD hT hsm hlim d7 inr inrN outr
    have hk4 : k < 4 := by omega
    k_steps
    rename News _ _ _ _ => N7
    have N7' := drop134 N7
    clear N7
    k_steps
    show EndF _ _ _ _ _ _ _
    refine' later_end _ ?hc (LaP.step P hk hndr hqbr ?i0 ?c0 ?c1 ?hB ?hD ?hT ?T ?hl ?hLV ?hval ?hoff ?hp ?hbl ?hdl ?h7 ?hvs ?hda) hsub hown nI1 nI2 nI3 nI4 nI5 nI6 ?n7 nI7 ?F ?N ?sub ?told ?same
    case F => assumption
    case N => assumption
    case hc => rfl
    case sub => kcf_all
    case hB => with_reducible assumption
    case hD => with_reducible assumption
    case hT => with_reducible assumption
    case T => with_reducible assumption
    case hl => with_reducible assumption
    case hLV => assumption
    case hval => omega
    case hoff => assumption
    case hp => assumption
    case hbl => assumption
    case hdl => assumption
    case h7 => assumption
    case hvs => assumption
    case n7 => omega
    case hda => omega
    case i0 => assumption
    case c0 => assumption
    case c1 => assumption
    case told => rfl
    case same =>
      intro z h1 h2
      have k3 : [Str.ofString "told"].contains z = false := by simp [h2]
      show (if z = Str.ofString "told" then _ else if z = Str.ofString "key" then _ else if [Str.ofString "told"].contains z = true then u z else if z = Str.ofString "later" then _ else m z) = if z = Str.ofString "later" then _ else m z
      rw [if_neg h2, if_neg h1, k3]; rfl
  · rintro ⟨i, c, t1, t2, n, ob, B1, od, D1, otd, ℓ1, H1, ola, LV, o7, tp⟩ u h tk a vs hc P F1 N1
    rcases P.last with ⟨e, _⟩ | ⟨a', vs', ql, t, e, hql', h7, hvs, hdt⟩
    · exact absurd (List.length_eq_zero_iff.mp e) hner
    · have e2 := e.symm.trans hc
      obtain ⟨rfl, rfl⟩ := Prod.mk.inj (Option.some.inj e2)
      have hb9 := P.bl
      have hd9 := P.dl
      have hk9 := P.keys
      have hv9 := P.vals
      rw [List.take_length] at hk9 hv9
      dsimp only at hb9 hd9 hk9 hv9
      replace F1 : Fr h₀ L h _ := F1
      refine next _ _ _ _ B1 D1 ℓ1 H1 _ ola LV a' vs' ql F1 N1 P.pre ?_ ?_ (.tail _ (.tail _ (.tail _ (.tail _ (.head _))))) P.later ⟨rs, hndr, hmem, hlr, hk9⟩ (fun q hq => hv9 q ((hmem q).mpr hq)) (fun d p hq => P.off d p fun q hqr => hq q ((hmem q).mp hqr)) (.tail _ (.tail _ (.tail _ (.tail _ (.tail _ (.tail _ (.head _))))))) hvs ((hmem ql).mp hql') ⟨o7, t, .tail _ (.tail _ (.tail _ (.tail _ (.tail _ (.head _))))), h7⟩ hladb hdt hm2 hm3 rfl rfl
      · refine (R.putCell AD (d := L + 1 + 1 + 1 + 1 + 1 + 1 + 1) (o' := o7) (by omega) (by omega) h7).close (fun q hq => ?_) (.head _) (.tail _ (.head _)) (.tail _ (.tail _ (.head _))) (.tail _ (.tail _ (.tail _ (.head _)))) P.i0 P.c0 P.c1 P.book P.dbk P.tdk P.T (by show B1.length ≤ _; omega) (by show D1.length ≤ _; omega) P.small
        rcases List.mem_cons.mp hq with rfl | hq
        · exact .tail _ (.tail _ (.tail _ (.tail _ (.tail _ (.head _)))))
        · rw [hr9] at hq
          exact .tail _ (.tail _ (.tail _ (.tail _ (.tail _ (.tail _ (.tail _ (.tail _ hq)))))))
      · intro a o hm h1 h2 h3 h4 h5
        have := in_less (inrN hm h1 h2 h3 h4) h5
        rw [hr9] at this
        exact .tail _ (.tail _ (.tail _ (.tail _ (.tail _ (.tail _ (.tail _ (.tail _ this)))))))
end
end Mine
end
section
open PySem PySem.W PyProof.Rows PySem.Calls
set_option Elab.async false
set_option maxRecDepth 100000
set_option maxHeartbeats 4000000
set_option linter.unusedSimpArgs false
set_option linter.unusedSectionVars false
set_option linter.unusedVariables false
theorem Mine.fillLi : (fun (_ : OpenLaw) (_ : Params → Frag) => True) PySem.Challenge.rw_bs0043_01 Mine.hd.heap_39 := by w_top off; k_fill; trivial
namespace Mine
local macro_rules | `(tactic| k_ne) => `(tactic| (refine neN ?_; (try dsimp only); first | with_reducible assumption | exact Ne.symm (by with_reducible assumption) | omega))
local macro_rules | `(tactic| k_all) => `(tactic| first | with_reducible assumption | (refine' all_cons ?a ?b; (case a => first | with_reducible assumption | exact Ne.symm (by with_reducible assumption) | omega); (case b => k_all)))
local macro_rules | `(tactic| k_mem) => `(tactic| first | assumption | exact List.mem_append_left _ (by assumption))
local macro_rules | `(tactic| k_room) => `(tactic| ((try simp only [depth_under_make, depth_under_kw, depth_in1, depth_deeper, depth_caller]); (try dsimp only [ktrTop]); omega))
local macro_rules | `(tactic| k_units) => `(tactic| ((have hcL9 := cLine_is); (try simp only [units_under_make, units_in1, units_deeper, Around.mark_units, units_caller]); (try dsimp only [ktrTop]); omega))
local macro_rules | `(tactic| walk_at "eval Name") => `(tactic| (k_here; (with_reducible show wpAny _ _ (eval (Expr.Name _ _) (envX _ _ _ _ _ _)) _ _ _); k_dflt (first
  | (refine' nameX_L ?F ?v ?_ ?a ?b; (case F => k_asm); (case a => rfl); (case b => rfl); (case v => first | rfl | assumption); k_whole)
  | (refine' nameX_C ?N ?c ?m ?d ?_ ?a ?b; (case a => rfl); (case b => rfl); (case N => k_asm); (case c => rfl); (case m => k_mem); (case d => k_asm); k_whole)
  | (refine' nameX_K ?F ?X ?T ?e ?_ ?a ?b; (case F => k_asm); (case X => k_asm); (case T => k_asm); (case a => rfl); (case b => rfl); (case e => k_is); k_whole)
  | (refine' nameX_B ?F ?X ?T ?e ?v ?n ?_ ?a ?b; (case F => k_asm); (case X => k_asm); (case T => k_asm); (case a => rfl); (case b => rfl); (case e => k_is); (case v => boot_fast); (case n => decide); k_whole))))
local macro_rules | `(tactic| walk_at "pyIter ref") => `(tactic| refine rest ?_)
local macro_rules | `(tactic| walk_at "exec For Name Call cons nil") => `(tactic| (k_here; (rename Fr _ _ _ _ => lF'); (with_unfolding_all refine' For_invVF lF' ?k1 ?k2 ?_ ?ks ?ke; (case k1 => exact rfl); (case k2 => exact rfl); (case ks => exact fun _ => rfl); (case ke => assumption); k_whole)))
local macro_rules | `(tactic| walk_at "exec For Name Name cons nil") => `(tactic| (k_here; (rename Fr _ _ _ _ => lF'); (with_unfolding_all refine' For_invVF lF' ?k1 ?k2 ?_ ?ks ?ke; (case k1 => exact rfl); (case k2 => exact rfl); (case ks => exact fun _ => rfl); (case ke => assumption); k_whole)))
local macro_rules | `(tactic| walk_at "EndF") => `(tactic| refine rest ?_)
local macro_rules | `(tactic| walk_at "call ref") => `(tactic| (k_here; (first | (with_reducible show wpAny _ _ (call (Value.ref 109) _) _ _ _) | (with_reducible show wpAny _ _ (call (Value.ref 184) _) _ _ _) | (with_reducible show wpAny _ _ (call (Value.ref 191) _) _ _ _) | (with_reducible show wpAny _ _ (call (Value.ref 179) _) _ _ _)); refine rest ?_))
local macro_rules | `(tactic| walk_at "call ref") => `(tactic| (k_here; (with_reducible show wpAny _ _ (call (Value.ref 109) _) _ _ _); k_dflt (refine' branch_use _ _ _ _ _ _ _ _ _ _ _ _ _ _ _ _ _ ?mt ?md ?hT ?Bl ?F ?X ?N ?T ?k ?d ?u ?mdb ?hD ?Tr ?root ?key ?q ?_; (case F => k_asm); (case N => k_asm); (case mt => k_mem); (case md => k_mem); (case hT => exact ⟨_, _, _, _, _, _, _, _, _, _, rfl⟩); (case Bl => k_asm); (case X => k_asm); (case T => k_asm); (case k => rfl); (case d => k_room); (case u => k_units); (case mdb => k_mem); (case hD => with_reducible assumption); (case Tr => with_reducible assumption); (case root => rfl); (case key => exact key1 (by assumption)); (case q => first | assumption | omega); k_whole); intro tp' vs' h' tk' hvs' F' N' l1; (have hvl' := get_len hvs'); (try k_lt l1); (try k_sweep)))
local macro_rules | `(tactic| walk_at "call ref") => `(tactic| (k_here; (with_reducible show wpAny _ _ (call (Value.ref 184) [Value.int _ _]) _ _ _); k_dflt (refine' path_ok _ _ _ _ _ _ _ _ _ _ _ _ _ _ _ _ _ ?Bl ?F ?X ?N ?T ?k ?d ?u ?_; (case F => k_asm); (case N => k_asm); (case Bl => k_asm); (case X => k_asm); (case T => k_asm); (case k => rfl); (case d => k_room); (case u => k_units); k_whole); intro h' t' tk' F' N'; (try k_sweep)))
local macro_rules | `(tactic| walk_at "call ref") => `(tactic| (k_here; (with_reducible show wpAny _ _ (call (Value.ref 191) [Value.str _ _]) _ _ _); k_dflt (refine' beside_ok _ _ _ _ _ _ _ _ _ _ _ _ _ _ _ _ _ ?Bl ?F ?X ?N ?T ?k ?d ?u ?dd ?_; (case F => k_asm); (case N => k_asm); (case Bl => k_asm); (case X => k_asm); (case T => k_asm); (case k => rfl); (case d => k_room); (case u => k_units); (case dd => omega); k_whole); intro h' t' tk' F' N'; (try k_sweep)))
local macro_rules | `(tactic| walk_at "subscriptTail") => `(tactic| (k_here; (with_reducible show wpAny _ _ (subscriptTail _ _ (Value.str (pathStr _ _) _) (Value.ref _)) _ _ _); k_dflt (refine' slice_P ?F ?N ?e ?z ?_; (case F => k_asm); (case N => k_asm); (case e => exact slice_up (by omega)); (case z => (rw [pathStr_len]; omega)); k_whole); intro h' t' k' F' N'))
local macro_rules | `(tactic| walk_at "subscriptTail") => `(tactic| (k_here; (with_reducible show wpAny _ _ (subscriptTail _ _ (Value.ref _) (Value.int _ _)) _ _ _); k_dflt (refine' item_tup ?N ?m ?v ?l ?_; (case N => k_asm); (case m => k_mem); (case v => assumption); (case l => omega); k_whole)))
local macro_rules | `(tactic| walk_at "call builtin:dict.get") => `(tactic| (k_here; k_dflt (refine' db_get_same (knd := PySem.strKind _ _) ?N ?p ?d ?lo ?k ?s ?_; (case N => k_asm); (case p => k_mem); (case d => with_reducible assumption); (case lo => assumption); (case k => exact sk_is _ _ _ _); (case s => assumption); k_whole); intro _))
local macro_rules | `(tactic| walk_at "getMethod ref") => `(tactic| (k_here; (with_reducible show wpAny _ _ (getMethod (Value.ref _) (Str.ofString "get") _) _ _ _); k_dflt (refine' db_mGet (knd := PySem.strKind _ _) ?N ?p ?d ?_; (case N => k_asm); (case p => k_mem); (case d => with_reducible assumption); k_whole)))
local macro_rules | `(tactic| walk_at "compareOp NotEq bytes bytes") => `(tactic| (k_here; k_dflt (refine' ne_same ?_; k_whole)))
local macro_rules | `(tactic| walk_at "setItem ref") => `(tactic| (k_here; (with_reducible show wpAny _ _ (setItem (Value.ref _) (Value.str _ _) (Value.bytes _ _)) _ _ _); k_dflt (refine' db_set (knd := PySem.strKind _ _) ?F ?N ?U ?d ?k ?z ?_; (case F => k_asm); (case N => k_asm); (case U => k_updF); (case d => with_reducible assumption); (case k => exact sk_is _ _ _ _); (case z => omega)); intro h' o' F' N' hd'; (try dsimp only at N'); (try k_sweep)))
local macro_rules | `(tactic| walk_at "exec Assign cons DictComp") => `(tactic| (k_here; k_dflt (refine Assign_DictComp_A (F₀ := by k_asm) (by rfl) (by with_unfolding_all rfl) (by with_unfolding_all rfl) (by decide) (by rfl) (by decide) (by rfl) (by rfl) (by rfl) ?_)))
local macro_rules | `(tactic| walk_at "DSrcA") => `(tactic| refine rest ?_)
local macro_rules | `(tactic| walk_at "DEnd") => `(tactic| refine rest ?_)
local macro_rules | `(tactic| walk_at "TSrcD") => `(tactic| refine rest ?_)
local macro_rules | `(tactic| walk_at "eval ListComp") => `(tactic| refine rest ?_)
local macro_rules | `(tactic| walk_at "call ref") => `(tactic| (k_here; (with_reducible show wpAny _ _ (call (Value.ref 196) _) _ _ _); refine rest ?_))
local macro_rules | `(tactic| walk_at "call ref") => `(tactic| (k_here; (with_reducible show wpAny _ _ (call (Value.ref 196) _) _ _ _); k_dflt (refine' joined_ok _ _ _ _ _ _ _ _ _ _ _ _ _ _ _ _ _ ?Bl ?F ?X ?N ?T ?k ?d ?u ?U1 ?mh ?mc ?mo ?mv ?mk ?HC ?hoc ?hoco ?hvb ?hkb ?lov ?lok ?hVl ?hKl ?hB ?hBl _ ?hVq ?hqb ?hside ?hV ?hK ?_; (case HC => with_reducible assumption); (case hB => with_reducible assumption); (case F => k_asm); (case N => k_asm); (case Bl => k_asm); (case X => k_asm); (case T => k_asm); (case k => rfl); (case d => k_room); (case u => k_units); (case U1 => k_updF); (case mh => k_mem); (case mc => k_mem); (case mo => k_mem); (case mv => k_mem); (case mk => k_mem); (case hoc => with_reducible assumption); (case hoco => with_reducible assumption); (case hvb => omega); (case hkb => omega); (case lov => with_reducible assumption); (case lok => with_reducible assumption); (case hBl => omega); (case hV => with_reducible assumption); (case hK => with_reducible assumption); (case hVl => omega); (case hKl => omega); (case hVq => with_reducible assumption); (case hqb => with_reducible assumption); (case hside => with_reducible assumption); k_whole); intro D' ob' od' B' W' h' tk' hB' hp' hl' hW' J' hWl' loW' F' N' l1; (try k_lt l1); (try k_sweep)))
local macro_rules | `(tactic| walk_at "callWith ref") => `(tactic| (k_here; k_dflt (refine' callWith_F ?k1 ?_; (case k1 => exact FnAt.of (by k_asm) (by k_mem)); k_whole)))
local macro_rules | `(tactic| walk_at "getMethod ref") => `(tactic| (k_here; (with_reducible show wpAny _ _ (getMethod (Value.ref _) (Str.ofString "get") _) _ _ _); k_dflt (refine' db_mGet (knd := intKind _ _) ?N ?p ?d ?_; (case N => k_asm); (case p => k_mem); (case d => with_reducible assumption); k_whole)))
local macro_rules | `(tactic| walk_at "call builtin:dict.get") => `(tactic| (k_here; k_dflt (refine' db_get2 (knd := intKind _ _) ?N ?p ?d ?lo ?k ?_; (case N => k_asm); (case p => k_mem); (case d => with_reducible assumption); (case lo => assumption); (case k => exact intKind_is _ _ _ _); k_whole); intro _))
local macro_rules | `(tactic| walk_at "subscriptTail") => `(tactic| (k_here; (with_reducible show wpAny _ _ (subscriptTail _ _ (Value.ref _) (Value.str _ _)) _ _ _); k_dflt (refine' db_item (knd := PySem.strKind _ _) ?N ?p ?d ?k ?l ?_; (case N => k_asm); (case p => k_mem); (case d => with_reducible assumption); (case k => exact sk_is _ _ _ _); (case l => with_reducible assumption); k_whole); intro _))
local macro_rules | `(tactic| walk_at "call ref") => `(tactic| (k_here; (with_reducible show wpAny _ _ (call (Value.ref 179) [Value.ref _, Value.int _ _]) _ _ _); k_dflt (refine' next_nat _ _ _ _ _ _ _ _ _ _ _ _ _ _ _ _ _ ?Bl ?F ?X ?N ?T ?k ?d ?u ?U ?hx ?hi ?hl ?i0 ?c0 ?c1 ?m0 ?m1 ?_; (case Bl => k_asm); (case F => k_asm); (case X => k_asm); (case N => k_asm); (case T => k_asm); (case k => rfl); (case d => k_room); (case u => k_units); (case U => k_updF); (case hx => k_mem); (case hi => with_reducible assumption); (case hl => with_reducible assumption); (case i0 => assumption); (case c0 => assumption); (case c1 => assumption); (case m0 => first | decide | omega); (case m1 => first | decide | omega); k_whole); intro v' tv' i' c' t1' t2' n' h' tk' v1' i0' c0' c1' F' N'; (try dsimp only at N'); (try k_sweep)))
local macro_rules | `(tactic| walk_at "eval Dict") => `(tactic| refine rest ?_)
local macro_rules | `(tactic| walk_at "mergeMapping ref") => `(tactic| refine rest ?_)
local macro_rules | `(tactic| walk_at "dictSet") => `(tactic| refine rest ?_)
local macro_rules | `(tactic| walk_at "eval ListComp") => `(tactic| (k_here; k_dflt (refine LCg.ListComp_U (F₀ := by k_asm) (by with_unfolding_all rfl) (by decide) (by rfl) (by decide) (by rfl) ?_)))
local macro_rules | `(tactic| walk_at "CompSrc") => `(tactic| refine rest ?_)
local macro_rules | `(tactic| walk_at "CompEnd") => `(tactic| refine rest ?_)
local macro_rules | `(tactic| walk_at "compareOp NotEq ref ref") => `(tactic| (k_here; refine rest ?_))
section
variable {prog : Program} {w : World} {A : Around} {E : Value → Shared → Prop} {s : Shared} {h₀ : Heap} {L : Addr} {m : Str → Option Value} {news : List (Addr × Obj)}
theorem list_of_tup {b : Addr} {vs : List Value} {Q : Value → Shared → Prop} (F : Fr h₀ L s.heap m) (N : News h₀ L s.heap news) (hm : (b, tupO vs) ∈ news) (hz : vs.length ≤ 1000)
    (h : ∀ D c h', Fr h₀ L h' m → News h₀ L h' ((D, listOf vs.toArray c) :: news) → (∀ q ∈ news, q.1 < D) → Q (.ref D) { s with heap := h' }) : wpAny (model prog w) A (call (.type "list") [.ref b]) Q E s :=
  kup_listOfT F N hm rfl h (by show vs.length ≤ _; rw [sizeLine_eq]; omega)
end
local macro_rules | `(tactic| walk_at "call type:list") => `(tactic| (k_here; (with_reducible show wpAny _ _ (call (Value.type _) [Value.ref _]) _ _ _); k_dflt (refine' list_of_tup ?F ?N ?b ?z ?_; (case F => k_asm); (case N => k_asm); (case b => k_mem); (case z => omega)); intro D' c' h' F' N' l1; (try k_lt l1)))
theorem path_at {H : Nat → Nat → Bts} {q : Nat} {ys : List Value} (hl : ys.length = 8) (h : ∀ (i : Nat) (y : Value), ys[i]? = some y → ∃ t, y = Value.bytes (H (i + 1) (q / 2 ^ (7 - i))) t) : BytesAre ys (pathOf H q) := by
  have key : ∀ (ys : List Value) (s : Nat), (∀ (i : Nat) (y : Value), ys[i]? = some y → ∃ t, y = Value.bytes (H (s + i + 1) (q / 2 ^ (7 - (s + i)))) t) → BytesAre ys ((List.range' s ys.length).map fun k => H (k + 1) (q / 2 ^ (7 - k))) := by
    intro ys
    induction ys with
    | nil => intro s _; exact .nil
    | cons y r ih =>
      intro s h
      obtain ⟨t, e⟩ := h 0 y rfl
      rw [e, Nat.add_zero, List.length_cons, List.range'_succ, List.map_cons]
      exact .cons (ih (s + 1) fun i z hz => by
        obtain ⟨u, eu⟩ := h (i + 1) z (by simpa using hz)
        exact ⟨u, by rw [eu, show s + (i + 1) = s + 1 + i by omega]⟩)
  have := key ys 0 fun i y e => by rw [Nat.zero_add]; exact h i y e
  rw [hl, ← List.range_eq_range'] at this
  exact this
theorem KeptOK.perm {qs rs : List Nat} {H : Nat → Nat → Bts} {KV : List (Str × Bts)} (K : KeptOK qs H KV) (h : ∀ q, q ∈ rs ↔ q ∈ qs) : KeptOK rs H KV := by
  refine ⟨fun k b hk => ?_, fun q hq i hi hno => K.all q ((h q).mp hq) i hi fun q' hq' => hno q' ((h q').mpr hq')⟩
  obtain ⟨q, hq, i, hi, e1, e2, e3⟩ := K.mem k b hk
  exact ⟨q, (h q).mpr hq, i, hi, e1, e2, fun q' hq' => e3 q' ((h q').mp hq')⟩
section
variable {prog : Program} {w : World} {p : Program} {loose : List Str} {mean : ExcName → Option Value} {mg mb : Str → Option Value} {L xs st bk cod hof td tr db he : Addr} {led : List (Addr × Obj)} {B : List Bts} {D : List (List UInt8 × Bts)} {ℓ : Nat → Bts} {H : Nat → Nat → Bts} {nB : Nat}
theorem segI (dp un : Nat) (gd : Option (List Code)) (a : Addr) (ccd : Value) (outer : List Env) (A₀ : Around) (base h₀ : Heap) (m : Str → Option Value) (s : Shared) (Q : Flow → Shared → Prop) (E : Value → Shared → Prop) (more : List Stmt) {kp la tp : Addr} {qs : List Nat} {okp ola o7 : Obj} {KV LV : List (Str × Bts)} {tvs : List Value} {qz : Nat} {t7 : Tok}
    (Bl : Below A₀ base outer h₀) (F : Fr h₀ L s.heap m) (X : (Mine.hd.heap_39 w.params).In h₀) (N : News h₀ L s.heap led) (T : Top p loose mean mg mb h₀) (hd : dp + 12 < recursionLimit) (hu : un + 80 < cLine)
    (AD : Adr L xs st bk cod hof td tr db he) (S : LSt prog w p loose mean mg mb L xs st bk cod hof td tr db he led B D ℓ H nB) (hnB : nB ≤ 1300)
    (hne : qs ≠ []) (hql : qs.length ≤ 4) (hqb : ∀ q ∈ qs, q < 256) (hkp : @LT.lt Nat _ he kp) (mkp : (kp, okp) ∈ led)
    (hKV : DB (PySem.strKind prog w) okp KV) (KO : KeptOK qs H KV) (hKl : KV.length ≤ 32) (mla : (la, ola) ∈ led) (hLV : DB (PySem.strKind prog w) ola LV) (hrs : ∃ rs : List Nat, rs.Nodup ∧ (∀ q, q ∈ rs ↔ q ∈ qs) ∧ rs.length = qs.length ∧ LV.map (·.1) = rs.map (pathStr 8)) (hLl : ∀ q ∈ qs, look LV (pathStr 8 q) = some (ℓ q))
    (mtp : (tp, tupO tvs) ∈ led) (htv : BytesAre tvs (pathOf H qz)) (hqlm : qz ∈ qs) (m7 : (L + 1 + 1 + 1 + 1 + 1 + 1 + 1, o7) ∈ led) (d7 : o7.data = .cell (some (.int (qz : Int) t7))) (hla : @LT.lt Nat _ db la) (htp : @LT.lt Nat _ db tp)
    (hm2 : m (Str.ofString "hash_of") = some (.ref hof)) (hm3 : m (Str.ofString "kept") = some (.ref kp)) (hm4 : m (Str.ofString "later") = some (.ref la)) (hm5 : m (Str.ofString "told") = some (.ref tp))
    (next : ∀ h' tk' led' B' kd okd W, Fr h₀ L h' m → News h₀ L h' led' → B <+: B' → LSt prog w p loose mean mg mb L xs st bk cod hof td tr db he led' B' D ℓ H (nB + 36) → (∀ a o, (a, o) ∈ led → @Ne Nat a bk → @Ne Nat a (L + 6) → (a, o) ∈ led') → (kd, okd) ∈ led' → DB (PySem.strKind prog w) okd W → (∃ o, (L + 1 + 1 + 1 + 1 + 1 + 1, o) ∈ led' ∧ o.data = .cell (some (.ref kd))) →
      (∀ q ∈ qs, ∀ i, i < 8 → look W (pathStr (8 - i) (sib (q / 2 ^ i))) = some (H (8 - i) (sib (q / 2 ^ i)))) →
      wpAny (model prog w) (ktrTop dp un gd lawN lawScope L a ccd (lawCl L) outer) (execs more (envX lawN lawScope L a ccd (lawCl L))) Q E { s with heap := h', toks := tk' }) :
    wpAny (model prog w) (ktrTop dp un gd lawN lawScope L a ccd (lawCl L) outer) (execs (lawSeg 21 2 ++ more) (envX lawN lawScope L a ccd (lawCl L))) Q E s := by
  have e1 : lawSeg 21 2 ++ more = _ :: _ :: more := rfl
  rw [e1]
  clear e1
  have e3 : lawScope = lawScope := rfl
  conv at e3 => lhs; whnf
  rw [lawCl_eq] at next ⊢
  rw [← e3] at next ⊢
  clear e3
  obtain ⟨a0, a1, a2, a3, a4, a5, a6, a7, a8, a9⟩ := AD
  obtain ⟨ob, mob, hB⟩ := S.book
  obtain ⟨otd, motd, hT⟩ := S.tree
  obtain ⟨k1, k2, k3, k4, k5, k6, v1, v2, v3, v6, rfl⟩ := hT
  obtain ⟨nm, ql, ps, bd, sc, clo, pm, ctv, oc, oco, mh, mc, mo, hoc, hoco, HC⟩ := S.hash
  obtain ⟨o1, n1, d1⟩ := S.c1
  obtain ⟨o6, v6', n6, d6⟩ := S.c6
  have mt := S.inst
  have loK : (kp == sysModules) = false := not_modules F (Top.nolimit T) (by omega)
  have ri : ∀ {a : Addr} {o : Obj}, (a, o) ∈ led → @Ne Nat a bk → @Ne Nat a (L + 1 + 1 + 1 + 1 + 1 + 1) → (a, o) ∈ less (L + 1 + 1 + 1 + 1 + 1 + 1) (less bk led) := fun hm k1 k2 => in_less (in_less hm k1) k2
  have N9 : News h₀ L s.heap ((bk, ob) :: (L + 1 + 1 + 1 + 1 + 1 + 1, o6) :: less (L + 1 + 1 + 1 + 1 + 1 + 1) (less bk led)) := fun p hp => by
    rcases List.mem_cons.mp hp with rfl | hp
    · exact N _ mob
    · rcases List.mem_cons.mp hp with rfl | hp
      · exact N _ n6
      · exact N _ (less_mem.mp (less_mem.mp hp).1).1
  have motd9 := ri motd (by omega) (by omega)
  have mt9 := ri mt (by omega) (by omega)
  have mh9 := ri mh (by omega) (by omega)
  have mc9 := ri mc (by omega) (by omega)
  have mo9 := ri mo (by omega) (by omega)
  have n19 := ri n1 (by omega) (by omega)
  have n79 := ri m7 (by omega) (by omega)
  have mla9 := ri mla (by omega) (by omega)
  have mtp9 := ri mtp (by omega) (by omega)
  have mkp9 := ri mkp (by omega) (by omega)
  obtain ⟨i0, c0, t10, t20, n0, mst, i00, c00, c10⟩ := S.state
  have mst9 := ri mst (by omega) (by omega)
  have r1 : ∀ q ∈ less (L + 1 + 1 + 1 + 1 + 1 + 1) (less bk led), q.1 ≠ bk := less_off2 less_off
  have r2 : ∀ q ∈ less (L + 1 + 1 + 1 + 1 + 1 + 1) (less bk led), q.1 ≠ L + 1 + 1 + 1 + 1 + 1 + 1 := less_off
  have z1 : @Ne Nat bk (L + 1 + 1 + 1 + 1 + 1 + 1) := by omega
  have kb : @Ne Nat kp bk := by omega
  have hBl := S.lim.1
  have Tr := S.T
  have hsk : ∀ (led' : List (Addr × Obj)) (B' : List Bts) (ob' o6' : Obj) (v : Option Value), (∀ q ∈ less (L + 1 + 1 + 1 + 1 + 1 + 1) (less bk led), q ∈ led') → (bk, ob') ∈ led' → Book prog w ob' B' → B <+: B' → B'.length ≤ nB + 36 → (L + 1 + 1 + 1 + 1 + 1 + 1, o6') ∈ led' → o6'.data = .cell v → LSt prog w p loose mean mg mb L xs st bk cod hof td tr db he led' B' D ℓ H (nB + 36) ∧ (∀ a o, (a, o) ∈ led → @Ne Nat a bk → @Ne Nat a (L + 6) → (a, o) ∈ led') := fun led' B' ob' o6' v hs hb hB' hp hl hm hv =>
    ⟨S.keepB ⟨a0, a1, a2, a3, a4, a5, a6, a7, a8, a9⟩ (c := L + 1 + 1 + 1 + 1 + 1 + 1) (fun a => a = bk ∨ a = L + 1 + 1 + 1 + 1 + 1 + 1) (fun a o hm' hc => hs _ (ri hm' (fun e => hc (.inl e)) (fun e => hc (.inr e)))) (by omega) (by omega) ⟨o6', v, hm, hv⟩ (fun a ha => ha.elim (fun e => .inr (.inl e)) .inl) ⟨i0, c0, t10, t20, n0, hs _ mst9, i00, c00, c10⟩ hb hB' hp hl (by omega), fun a o hm' k1 k2 => hs _ (ri hm' k1 k2)⟩
  generalize less (L + 1 + 1 + 1 + 1 + 1 + 1) (less bk led) = rest9 at N9 motd9 mt9 mh9 mc9 mo9 n19 n79 mla9 mtp9 mkp9 mst9 r1 r2 hsk
  clear ri motd mt mh mc mo n1 n6 m7 mla mtp mkp mst mst9 N S mob
  have htl : tvs.length = 8 := by have := htv.length; unfold pathOf at this; rw [List.length_map, List.length_range] at this; exact this
  have hq256 := hqb qz hqlm
  have loL : (la == sysModules) = false := not_modules F (Top.nolimit T) (by omega)
  have hlb : @Ne Nat la bk := by omega
  obtain ⟨rs, hndr, hmem, hlr, hVq⟩ := hrs
  have KOr : KeptOK rs H KV := KO.perm hmem
  have hqbr : ∀ q ∈ rs, q < 256 := fun q hq => hqb q ((hmem q).mp hq)
  have hner : rs ≠ [] := fun e => by rw [e] at hlr; exact hne (List.length_eq_zero_iff.mp hlr.symm)
  have hVl4 : LV.length ≤ 4 := by have := congrArg List.length hVq; rw [List.length_map, List.length_map] at this; omega
  have hLr : ∀ q ∈ rs, look LV (pathStr 8 q) = some (ℓ q) := fun q hq => hLl q ((hmem q).mp hq)
  have hside : ∀ q ∈ rs, ∀ i, i < 8 → (∀ q' ∈ rs, q' / 2 ^ i ≠ sib (q / 2 ^ i)) → ∃ b, look KV (pathStr (8 - i) (sib (q / 2 ^ i))) = some b ∧ b.size ≤ 1000 := fun q hq i hi hno => ⟨_, KOr.all q hq i hi hno, by rw [KOr.size Tr hqbr (KOr.all q hq i hi hno)]; omega⟩
  k_steps
  have J9 := ‹JRes rs KV LV _ _›
  have hp9 := ‹B <+: _›
  rename Book prog w _ _ => hB9
  have hroot := root_same hner Tr J9 KOr hqbr hp9 hB9.nodup hLr
  obtain ⟨js1, js2⟩ := joined_same Tr J9 KOr hqbr hp9 hB9.nodup hLr
  k_steps
  show LCg.CompSrc _ _ _ _ _ _ _ _ _ _ _ _ _ _
  refine' comp_range (n := 8) (fun i y => ∃ t, y = .bytes (H (i + 1) (qz / 2 ^ (7 - i))) t) ?h ?F ?N ?r ?b ?z ?turn ?fin
  (case h => rfl); (case F => assumption); (case N => assumption); (case r => assumption); (case b => rfl); (case z => decide)
  case turn =>
    intro i t I oI C oC D m₂ ys h tk E' hi hC hx F' N' off ne
    have hlk := js1 qz ((hmem qz).mpr hqlm) (7 - i) (by omega)
    rw [show 8 - (7 - i) = i + 1 by omega] at hlk
    k_steps
    refine' comp_end ?F ?N ?s off ?S ?r
    (case F => assumption); (case N => assumption); (case s => kcf_all); (case S => trivial); (case r => exact ⟨_, rfl⟩)
  case fin =>
    intro g ys hl hR
    have hys := path_at (H := H) (q := qz) hl hR
    k_steps
    show wpAny _ _ _ _ _ _
    rename News _ _ _ _ => N97
    k_dflt (refine ne_bytes_lists N97 (.tail _ (.head _)) (.head _) htv hys (by k_units) ?_)
    k_steps
    have hl9 := ‹List.length _ ≤ B.length + 36›
    obtain ⟨S', hkeep⟩ := (fun led' (_ : News h₀ L _ led') => hsk led') _ N97 _ _ _ _ (fun q hq => .tail _ (.tail _ (.tail _ (.tail _ (.tail _ hq))))) (.tail _ (.tail _ (.tail _ (.head _)))) hB9 hp9 (by omega) (.tail _ (.tail _ (.tail _ (.tail _ (.head _))))) (by assumption)
    refine' next _ _ _ _ _ _ _ ?F N97 hp9 S' hkeep (.tail _ (.tail _ (.head _))) ?W ⟨_, .tail _ (.tail _ (.tail _ (.tail _ (.head _)))), ?c⟩ ?sib
    (case F => assumption)
    (case W => with_reducible assumption)
    (case c => assumption)
    (case sib => exact fun q hq i hi => js2 q ((hmem q).mpr hq) i hi)
end
end Mine
end
section
local macro_rules | `(tactic| walk_at "zzz") => `(tactic| fail)
local macro_rules | `(tactic| walk_at "zzz") => `(tactic| fail)
local macro_rules | `(tactic| walk_at "zzz") => `(tactic| fail)
local macro_rules | `(tactic| walk_at "zzz") => `(tactic| fail)
local macro_rules | `(tactic| walk_at "zzz") => `(tactic| fail)
local macro_rules | `(tactic| walk_at "zzz") => `(tactic| fail)
local macro_rules | `(tactic| walk_at "zzz") => `(tactic| fail)
local macro_rules | `(tactic| walk_at "zzz") => `(tactic| fail)
local macro_rules | `(tactic| walk_at "zzz") => `(tactic| fail)
local macro_rules | `(tactic| walk_at "zzz") => `(tactic| fail)
local macro_rules | `(tactic| walk_at "zzz") => `(tactic| fail)
local macro_rules | `(tactic| walk_at "zzz") => `(tactic| fail)
local macro_rules | `(tactic| walk_at "zzz") => `(tactic| fail)
local macro_rules | `(tactic| walk_at "zzz") => `(tactic| fail)
local macro_rules | `(tactic| walk_at "zzz") => `(tactic| fail)
local macro_rules | `(tactic| walk_at "zzz") => `(tactic| fail)
local macro_rules | `(tactic| walk_at "zzz") => `(tactic| fail)
local macro_rules | `(tactic| walk_at "zzz") => `(tactic| fail)
local macro_rules | `(tactic| walk_at "zzz") => `(tactic| fail)
local macro_rules | `(tactic| walk_at "zzz") => `(tactic| fail)
local macro_rules | `(tactic| walk_at "zzz") => `(tactic| fail)
local macro_rules | `(tactic| walk_at "zzz") => `(tactic| fail)
local macro_rules | `(tactic| walk_at "zzz") => `(tactic| fail)
local macro_rules | `(tactic| walk_at "zzz") => `(tactic| fail)
local macro_rules | `(tactic| walk_at "zzz") => `(tactic| fail)
local macro_rules | `(tactic| walk_at "zzz") => `(tactic| fail)
local macro_rules | `(tactic| walk_at "zzz") => `(tactic| fail)
local macro_rules | `(tactic| walk_at "zzz") => `(tactic| fail)
local macro_rules | `(tactic| walk_at "zzz") => `(tactic| fail)
local macro_rules | `(tactic| walk_at "zzz") => `(tactic| fail)
local macro_rules | `(tactic| walk_at "zzz") => `(tactic| fail)
local macro_rules | `(tactic| walk_at "zzz") => `(tactic| fail)
local macro_rules | `(tactic| walk_at "zzz") => `(tactic| fail)
local macro_rules | `(tactic| walk_at "zzz") => `(tactic| fail)
local macro_rules | `(tactic| walk_at "zzz") => `(tactic| fail)
local macro_rules | `(tactic| walk_at "zzz") => `(tactic| fail)
local macro_rules | `(tactic| walk_at "zzz") => `(tactic| fail)
local macro_rules | `(tactic| walk_at "zzz") => `(tactic| fail)
local macro_rules | `(tactic| walk_at "zzz") => `(tactic| fail)
local macro_rules | `(tactic| walk_at "zzz") => `(tactic| fail)
local macro_rules | `(tactic| walk_at "zzz") => `(tactic| fail)
local macro_rules | `(tactic| walk_at "zzz") => `(tactic| fail)
local macro_rules | `(tactic| walk_at "zzz") => `(tactic| fail)
local macro_rules | `(tactic| walk_at "zzz") => `(tactic| fail)
local macro_rules | `(tactic| walk_at "zzz") => `(tactic| fail)
local macro_rules | `(tactic| walk_at "zzz") => `(tactic| fail)
local macro_rules | `(tactic| walk_at "zzz") => `(tactic| fail)
local macro_rules | `(tactic| walk_at "zzz") => `(tactic| fail)
local macro_rules | `(tactic| walk_at "zzz") => `(tactic| fail)
local macro_rules | `(tactic| walk_at "zzz") => `(tactic| fail)
local macro_rules | `(tactic| walk_at "zzz") => `(tactic| fail)
local macro_rules | `(tactic| walk_at "zzz") => `(tactic| fail)
local macro_rules | `(tactic| walk_at "zzz") => `(tactic| fail)
local macro_rules | `(tactic| walk_at "zzz") => `(tactic| fail)
local macro_rules | `(tactic| walk_at "zzz") => `(tactic| fail)
local macro_rules | `(tactic| walk_at "zzz") => `(tactic| fail)
local macro_rules | `(tactic| walk_at "zzz") => `(tactic| fail)
local macro_rules | `(tactic| walk_at "zzz") => `(tactic| fail)
local macro_rules | `(tactic| walk_at "zzz") => `(tactic| fail)
local macro_rules | `(tactic| walk_at "zzz") => `(tactic| fail)
local macro_rules | `(tactic| walk_at "zzz") => `(tactic| fail)
local macro_rules | `(tactic| walk_at "zzz") => `(tactic| fail)
local macro_rules | `(tactic| walk_at "zzz") => `(tactic| fail)
local macro_rules | `(tactic| walk_at "zzz") => `(tactic| fail)
local macro_rules | `(tactic| walk_at "zzz") => `(tactic| fail)
local macro_rules | `(tactic| walk_at "zzz") => `(tactic| fail)
local macro_rules | `(tactic| walk_at "zzz") => `(tactic| fail)
local macro_rules | `(tactic| walk_at "zzz") => `(tactic| fail)
local macro_rules | `(tactic| walk_at "zzz") => `(tactic| fail)
local macro_rules | `(tactic| walk_at "zzz") => `(tactic| fail)
local macro_rules | `(tactic| walk_at "zzz") => `(tactic| fail)
local macro_rules | `(tactic| walk_at "zzz") => `(tactic| fail)
local macro_rules | `(tactic| walk_at "zzz") => `(tactic| fail)
local macro_rules | `(tactic| walk_at "zzz") => `(tactic| fail)
local macro_rules | `(tactic| walk_at "zzz") => `(tactic| fail)
local macro_rules | `(tactic| walk_at "zzz") => `(tactic| fail)
local macro_rules | `(tactic| walk_at "zzz") => `(tactic| fail)
local macro_rules | `(tactic| walk_at "zzz") => `(tactic| fail)
local macro_rules | `(tactic| walk_at "zzz") => `(tactic| fail)
local macro_rules | `(tactic| walk_at "zzz") => `(tactic| fail)
open PySem PySem.W PyProof.Rows PySem.Calls
set_option Elab.async false
set_option maxRecDepth 100000
set_option maxHeartbeats 4000000
set_option linter.unusedSimpArgs false
set_option linter.unusedSectionVars false
set_option linter.unusedVariables false
theorem Mine.fillLj : (fun (_ : OpenLaw) (_ : Params → Frag) => True) PySem.Challenge.rw_bs0043_01 Mine.hd.heap_39 := by w_top off; k_fill; trivial
namespace Mine
local macro_rules | `(tactic| k_ne) => `(tactic| (refine neN ?_; (try dsimp only); first | with_reducible assumption | exact Ne.symm (by with_reducible assumption) | omega))
local macro_rules | `(tactic| k_all) => `(tactic| first | with_reducible assumption | (refine' all_cons ?a ?b; (case a => first | with_reducible assumption | exact Ne.symm (by with_reducible assumption) | omega); (case b => k_all)))
local macro_rules | `(tactic| k_mem) => `(tactic| first | assumption | exact List.mem_append_left _ (by assumption))
local macro_rules | `(tactic| k_room) => `(tactic| ((try simp only [depth_under_make, depth_under_kw, depth_in1, depth_deeper, depth_caller]); (try dsimp only [ktrTop]); omega))
local macro_rules | `(tactic| k_units) => `(tactic| ((have hcL9 := cLine_is); (try simp only [units_under_make, units_in1, units_deeper, Around.mark_units, units_caller]); (try dsimp only [ktrTop]); omega))
local macro_rules | `(tactic| walk_at "eval Name") => `(tactic| (k_here; (with_reducible show wpAny _ _ (eval (Expr.Name _ _) (envX _ _ _ _ _ _)) _ _ _); k_dflt (first
  | (refine' nameX_L ?F ?v ?_ ?a ?b; (case F => k_asm); (case a => rfl); (case b => rfl); (case v => first | rfl | assumption); k_whole)
  | (refine' nameX_C ?N ?c ?m ?d ?_ ?a ?b; (case a => rfl); (case b => rfl); (case N => k_asm); (case c => rfl); (case m => k_mem); (case d => k_asm); k_whole)
  | (refine' nameX_K ?F ?X ?T ?e ?_ ?a ?b; (case F => k_asm); (case X => k_asm); (case T => k_asm); (case a => rfl); (case b => rfl); (case e => k_is); k_whole)
  | (refine' nameX_B ?F ?X ?T ?e ?v ?n ?_ ?a ?b; (case F => k_asm); (case X => k_asm); (case T => k_asm); (case a => rfl); (case b => rfl); (case e => k_is); (case v => boot_fast); (case n => decide); k_whole))))
local macro_rules | `(tactic| walk_at "pyIter ref") => `(tactic| refine rest ?_)
local macro_rules | `(tactic| walk_at "exec For Name Call cons nil") => `(tactic| (k_here; (rename Fr _ _ _ _ => lF'); (with_unfolding_all refine' For_invVF lF' ?k1 ?k2 ?_ ?ks ?ke; (case k1 => exact rfl); (case k2 => exact rfl); (case ks => exact fun _ => rfl); (case ke => assumption); k_whole)))
local macro_rules | `(tactic| walk_at "exec For Name Name cons nil") => `(tactic| (k_here; (rename Fr _ _ _ _ => lF'); (with_unfolding_all refine' For_invVF lF' ?k1 ?k2 ?_ ?ks ?ke; (case k1 => exact rfl); (case k2 => exact rfl); (case ks => exact fun _ => rfl); (case ke => assumption); k_whole)))
local macro_rules | `(tactic| walk_at "EndF") => `(tactic| refine rest ?_)
local macro_rules | `(tactic| walk_at "call ref") => `(tactic| (k_here; (first | (with_reducible show wpAny _ _ (call (Value.ref 109) _) _ _ _) | (with_reducible show wpAny _ _ (call (Value.ref 184) _) _ _ _) | (with_reducible show wpAny _ _ (call (Value.ref 191) _) _ _ _) | (with_reducible show wpAny _ _ (call (Value.ref 179) _) _ _ _)); refine rest ?_))
local macro_rules | `(tactic| walk_at "call ref") => `(tactic| (k_here; (with_reducible show wpAny _ _ (call (Value.ref 109) _) _ _ _); k_dflt (refine' branch_use _ _ _ _ _ _ _ _ _ _ _ _ _ _ _ _ _ ?mt ?md ?hT ?Bl ?F ?X ?N ?T ?k ?d ?u ?mdb ?hD ?Tr ?root ?key ?q ?_; (case F => k_asm); (case N => k_asm); (case mt => k_mem); (case md => k_mem); (case hT => exact ⟨_, _, _, _, _, _, _, _, _, _, rfl⟩); (case Bl => k_asm); (case X => k_asm); (case T => k_asm); (case k => rfl); (case d => k_room); (case u => k_units); (case mdb => k_mem); (case hD => with_reducible assumption); (case Tr => with_reducible assumption); (case root => rfl); (case key => exact key1 (by assumption)); (case q => first | assumption | omega); k_whole); intro tp' vs' h' tk' hvs' F' N' l1; (have hvl' := get_len hvs'); (try k_lt l1); (try k_sweep)))
local macro_rules | `(tactic| walk_at "call ref") => `(tactic| (k_here; (with_reducible show wpAny _ _ (call (Value.ref 184) [Value.int _ _]) _ _ _); k_dflt (refine' path_ok _ _ _ _ _ _ _ _ _ _ _ _ _ _ _ _ _ ?Bl ?F ?X ?N ?T ?k ?d ?u ?_; (case F => k_asm); (case N => k_asm); (case Bl => k_asm); (case X => k_asm); (case T => k_asm); (case k => rfl); (case d => k_room); (case u => k_units); k_whole); intro h' t' tk' F' N'; (try k_sweep)))
local macro_rules | `(tactic| walk_at "call ref") => `(tactic| (k_here; (with_reducible show wpAny _ _ (call (Value.ref 191) [Value.str _ _]) _ _ _); k_dflt (refine' beside_ok _ _ _ _ _ _ _ _ _ _ _ _ _ _ _ _ _ ?Bl ?F ?X ?N ?T ?k ?d ?u ?dd ?_; (case F => k_asm); (case N => k_asm); (case Bl => k_asm); (case X => k_asm); (case T => k_asm); (case k => rfl); (case d => k_room); (case u => k_units); (case dd => omega); k_whole); intro h' t' tk' F' N'; (try k_sweep)))
local macro_rules | `(tactic| walk_at "subscriptTail") => `(tactic| (k_here; (with_reducible show wpAny _ _ (subscriptTail _ _ (Value.str (pathStr _ _) _) (Value.ref _)) _ _ _); k_dflt (refine' slice_P ?F ?N ?e ?z ?_; (case F => k_asm); (case N => k_asm); (case e => exact slice_up (by omega)); (case z => (rw [pathStr_len]; omega)); k_whole); intro h' t' k' F' N'))
local macro_rules | `(tactic| walk_at "subscriptTail") => `(tactic| (k_here; (with_reducible show wpAny _ _ (subscriptTail _ _ (Value.ref _) (Value.int _ _)) _ _ _); k_dflt (refine' item_tup ?N ?m ?v ?l ?_; (case N => k_asm); (case m => k_mem); (case v => assumption); (case l => omega); k_whole)))
local macro_rules | `(tactic| walk_at "call builtin:dict.get") => `(tactic| (k_here; k_dflt (refine' db_get_same (knd := PySem.strKind _ _) ?N ?p ?d ?lo ?k ?s ?_; (case N => k_asm); (case p => k_mem); (case d => with_reducible assumption); (case lo => assumption); (case k => exact sk_is _ _ _ _); (case s => assumption); k_whole); intro _))
local macro_rules | `(tactic| walk_at "getMethod ref") => `(tactic| (k_here; (with_reducible show wpAny _ _ (getMethod (Value.ref _) (Str.ofString "get") _) _ _ _); k_dflt (refine' db_mGet (knd := PySem.strKind _ _) ?N ?p ?d ?_; (case N => k_asm); (case p => k_mem); (case d => with_reducible assumption); k_whole)))
local macro_rules | `(tactic| walk_at "compareOp NotEq bytes bytes") => `(tactic| (k_here; k_dflt (refine' ne_same ?_; k_whole)))
local macro_rules | `(tactic| walk_at "setItem ref") => `(tactic| (k_here; (with_reducible show wpAny _ _ (setItem (Value.ref _) (Value.str _ _) (Value.bytes _ _)) _ _ _); k_dflt (refine' db_set (knd := PySem.strKind _ _) ?F ?N ?U ?d ?k ?z ?_; (case F => k_asm); (case N => k_asm); (case U => k_updF); (case d => with_reducible assumption); (case k => exact sk_is _ _ _ _); (case z => omega)); intro h' o' F' N' hd'; (try dsimp only at N'); (try k_sweep)))
local macro_rules | `(tactic| walk_at "exec Assign cons DictComp") => `(tactic| (k_here; k_dflt (refine Assign_DictComp_A (F₀ := by k_asm) (by rfl) (by with_unfolding_all rfl) (by with_unfolding_all rfl) (by decide) (by rfl) (by decide) (by rfl) (by rfl) (by rfl) ?_)))
local macro_rules | `(tactic| walk_at "DSrcA") => `(tactic| refine rest ?_)
local macro_rules | `(tactic| walk_at "DEnd") => `(tactic| refine rest ?_)
local macro_rules | `(tactic| walk_at "TSrcD") => `(tactic| refine rest ?_)
local macro_rules | `(tactic| walk_at "eval ListComp") => `(tactic| refine rest ?_)
local macro_rules | `(tactic| walk_at "call ref") => `(tactic| (k_here; (with_reducible show wpAny _ _ (call (Value.ref 196) _) _ _ _); refine rest ?_))
local macro_rules | `(tactic| walk_at "call ref") => `(tactic| (k_here; (with_reducible show wpAny _ _ (call (Value.ref 196) _) _ _ _); k_dflt (refine' joined_ok _ _ _ _ _ _ _ _ _ _ _ _ _ _ _ _ _ ?Bl ?F ?X ?N ?T ?k ?d ?u ?U1 ?mh ?mc ?mo ?mv ?mk ?HC ?hoc ?hoco ?hvb ?hkb ?lov ?lok ?hVl ?hKl ?hB ?hBl _ ?hVq ?hqb ?hside ?hV ?hK ?_; (case HC => with_reducible assumption); (case hB => with_reducible assumption); (case F => k_asm); (case N => k_asm); (case Bl => k_asm); (case X => k_asm); (case T => k_asm); (case k => rfl); (case d => k_room); (case u => k_units); (case U1 => k_updF); (case mh => k_mem); (case mc => k_mem); (case mo => k_mem); (case mv => k_mem); (case mk => k_mem); (case hoc => with_reducible assumption); (case hoco => with_reducible assumption); (case hvb => omega); (case hkb => omega); (case lov => with_reducible assumption); (case lok => with_reducible assumption); (case hBl => omega); (case hV => with_reducible assumption); (case hK => with_reducible assumption); (case hVl => omega); (case hKl => omega); (case hVq => with_reducible assumption); (case hqb => with_reducible assumption); (case hside => with_reducible assumption); k_whole); intro D' ob' od' B' W' h' tk' hB' hp' hl' hW' J' hWl' loW' F' N' l1; (try k_lt l1); (try k_sweep)))
local macro_rules | `(tactic| walk_at "callWith ref") => `(tactic| (k_here; k_dflt (refine' callWith_F ?k1 ?_; (case k1 => exact FnAt.of (by k_asm) (by k_mem)); k_whole)))
local macro_rules | `(tactic| walk_at "getMethod ref") => `(tactic| (k_here; (with_reducible show wpAny _ _ (getMethod (Value.ref _) (Str.ofString "get") _) _ _ _); k_dflt (refine' db_mGet (knd := intKind _ _) ?N ?p ?d ?_; (case N => k_asm); (case p => k_mem); (case d => with_reducible assumption); k_whole)))
local macro_rules | `(tactic| walk_at "call builtin:dict.get") => `(tactic| (k_here; k_dflt (refine' db_get2 (knd := intKind _ _) ?N ?p ?d ?lo ?k ?_; (case N => k_asm); (case p => k_mem); (case d => with_reducible assumption); (case lo => assumption); (case k => exact intKind_is _ _ _ _); k_whole); intro _))
local macro_rules | `(tactic| walk_at "subscriptTail") => `(tactic| (k_here; (with_reducible show wpAny _ _ (subscriptTail _ _ (Value.ref _) (Value.str _ _)) _ _ _); k_dflt (refine' db_item (knd := PySem.strKind _ _) ?N ?p ?d ?k ?l ?_; (case N => k_asm); (case p => k_mem); (case d => with_reducible assumption); (case k => exact sk_is _ _ _ _); (case l => with_reducible assumption); k_whole); intro _))
local macro_rules | `(tactic| walk_at "call ref") => `(tactic| (k_here; (with_reducible show wpAny _ _ (call (Value.ref 179) [Value.ref _, Value.int _ _]) _ _ _); k_dflt (refine' next_nat _ _ _ _ _ _ _ _ _ _ _ _ _ _ _ _ _ ?Bl ?F ?X ?N ?T ?k ?d ?u ?U ?hx ?hi ?hl ?i0 ?c0 ?c1 ?m0 ?m1 ?_; (case Bl => k_asm); (case F => k_asm); (case X => k_asm); (case N => k_asm); (case T => k_asm); (case k => rfl); (case d => k_room); (case u => k_units); (case U => k_updF); (case hx => k_mem); (case hi => with_reducible assumption); (case hl => with_reducible assumption); (case i0 => assumption); (case c0 => assumption); (case c1 => assumption); (case m0 => first | decide | omega); (case m1 => first | decide | omega); k_whole); intro v' tv' i' c' t1' t2' n' h' tk' v1' i0' c0' c1' F' N'; (try dsimp only at N'); (try k_sweep)))
local macro_rules | `(tactic| walk_at "eval Dict") => `(tactic| refine rest ?_)
local macro_rules | `(tactic| walk_at "mergeMapping ref") => `(tactic| refine rest ?_)
local macro_rules | `(tactic| walk_at "dictSet") => `(tactic| refine rest ?_)
local macro_rules | `(tactic| walk_at "eval ListComp") => `(tactic| (k_here; (with_reducible show wpAny _ _ (eval (Expr.ListComp _ [⟨_, _, [], _⟩] _ _) _) _ _ _); k_dflt (refine LCg.ListComp_U (F₀ := by k_asm) (by with_unfolding_all rfl) (by decide) (by rfl) (by decide) (by rfl) ?_)))
local macro_rules | `(tactic| walk_at "eval ListComp") => `(tactic| (k_here; (with_reducible show wpAny _ _ (eval (Expr.ListComp _ [⟨_, _, [_], _⟩] _ _) _) _ _ _); refine rest ?_))
local macro_rules | `(tactic| walk_at "CompSrc") => `(tactic| refine rest ?_)
local macro_rules | `(tactic| walk_at "CompEnd") => `(tactic| refine rest ?_)
local macro_rules | `(tactic| walk_at "compareOp NotEq ref ref") => `(tactic| (k_here; refine rest ?_))
local macro_rules | `(tactic| walk_at "call type:list") => `(tactic| (k_here; (with_reducible show wpAny _ _ (call (Value.type _) [Value.ref _]) _ _ _); k_dflt (refine' list_of_tup ?F ?N ?b ?z ?_; (case F => k_asm); (case N => k_asm); (case b => k_mem); (case z => omega)); intro D' c' h' F' N' l1; (try k_lt l1)))
theorem branch_at {H : Nat → Nat → Bts} {q : Nat} {ys : List Value} (hl : ys.length = 8) (h : ∀ (i : Nat) (y : Value), ys[i]? = some y → ∃ t, y = Value.bytes (H (i + 1) (sib (q / 2 ^ (7 - i)))) t) : BytesAre ys (branchOf H q) := by
  have key : ∀ (ys : List Value) (s : Nat), (∀ (i : Nat) (y : Value), ys[i]? = some y → ∃ t, y = Value.bytes (H (s + i + 1) (sib (q / 2 ^ (7 - (s + i))))) t) → BytesAre ys ((List.range' s ys.length).map fun k => H (k + 1) (sib (q / 2 ^ (7 - k)))) := by
    intro ys
    induction ys with
    | nil => intro s _; exact .nil
    | cons y r ih =>
      intro s h
      obtain ⟨t, e⟩ := h 0 y rfl
      rw [e, Nat.add_zero, List.length_cons, List.range'_succ, List.map_cons]
      exact .cons (ih (s + 1) fun i z hz => by
        obtain ⟨u, eu⟩ := h (i + 1) z (by simpa using hz)
        exact ⟨u, by rw [eu, show s + (i + 1) = s + 1 + i by omega]⟩)
  have := key ys 0 fun i y e => by rw [Nat.zero_add]; exact h i y e
  rw [hl, ← List.range_eq_range'] at this
  exact this
section
variable {prog : Program} {w : World} {p : Program} {loose : List Str} {mean : ExcName → Option Value} {mg mb : Str → Option Value} {L xs st bk cod hof td tr db he : Addr} {led : List (Addr × Obj)} {B : List Bts} {D : List (List UInt8 × Bts)} {ℓ : Nat → Bts} {H : Nat → Nat → Bts} {nB : Nat}
theorem segJ (dp un : Nat) (gd : Option (List Code)) (a : Addr) (ccd : Value) (outer : List Env) (A₀ : Around) (base h₀ : Heap) (m : Str → Option Value) (s : Shared) (Q : Flow → Shared → Prop) (E : Value → Shared → Prop) (more : List Stmt) {ky kd : Addr} {kvs : List Value} {nk : Nat} {qs : List Nat} {okd : Obj} {W : List (Str × Bts)}
    (Bl : Below A₀ base outer h₀) (F : Fr h₀ L s.heap m) (X : (Mine.hd.heap_39 w.params).In h₀) (N : News h₀ L s.heap led) (T : Top p loose mean mg mb h₀) (hd : dp + 12 < recursionLimit) (hu : un + 80 < cLine)
    (AD : Adr L xs st bk cod hof td tr db he) (S : LSt prog w p loose mean mg mb L xs st bk cod hof td tr db he led B D ℓ H nB)
    (mky : (ky, PySem.W.listOf (List.toArray kvs) nk) ∈ led) (hI : IntsAre kvs (qs.map fun q : Nat => (q : Int))) (hql : qs.length ≤ 4) (hqb : ∀ q ∈ qs, q < 256) (mkd : (kd, okd) ∈ led) (hW : DB (PySem.strKind prog w) okd W)
    (m3 : ∃ o, (L + 1 + 1 + 1, o) ∈ led ∧ o.data = .cell (some (.ref ky))) (m6 : ∃ o, (L + 1 + 1 + 1 + 1 + 1 + 1, o) ∈ led ∧ o.data = .cell (some (.ref kd)))
    (hsib : ∀ q ∈ qs, ∀ i, i < 8 → look W (pathStr (8 - i) (sib (q / 2 ^ i))) = some (H (8 - i) (sib (q / 2 ^ i))))
    (next : ∀ h' tk' led', Fr h₀ L h' m → News h₀ L h' led' → (∀ q ∈ led, q ∈ led') → Q (.ret (.bool true)) { s with heap := h', toks := tk' }) :
    wpAny (model prog w) (ktrTop dp un gd lawN lawScope L a ccd (lawCl L) outer) (execs (lawSeg 23 1 ++ more) (envX lawN lawScope L a ccd (lawCl L))) Q E s := by
  have e1 : lawSeg 23 1 ++ more = _ :: more := rfl
  rw [e1]
  clear e1
  have e3 : lawScope = lawScope := rfl
  conv at e3 => lhs; whnf
  rw [lawCl_eq]
  rw [← e3]
  clear e3
  obtain ⟨a0, a1, a2, a3, a4, a5, a6, a7, a8, a9⟩ := AD
  obtain ⟨od, mdb, hD⟩ := S.tdb
  obtain ⟨otd, motd, hT⟩ := S.tree
  obtain ⟨k1, k2, k3, k4, k5, k6, v1, v2, v3, v6, rfl⟩ := hT
  obtain ⟨o1, n1, d1⟩ := S.c1
  obtain ⟨o3, n3, d3⟩ := m3
  obtain ⟨o6, n6, d6⟩ := m6
  have mt := S.inst
  have Tr := S.T
  have hkl : kvs.length = qs.length := by have := hI.length; rw [List.length_map] at this; omega
  clear S
  k_steps
  show wpAny _ _ _ _ _ _
  refine ListComp_K (by assumption) (by with_unfolding_all rfl) (by rfl) (fun n => by rfl) (fun h => by rfl) (by decide) (by rfl) ?_
  k_steps
  refine ⟨ky, kvs, nk, _, fun _ ys => ys = [], rfl, rfl, by assumption, by assumption, mky, by omega, rfl, ?_, ?_⟩
  · rintro i ys v I C K Dd oI oC oK h tk E' hi rfl hv hK F3 N3
    obtain ⟨z, tz, rfl, hz⟩ := hI.at i v hv
    rw [List.getElem?_map] at hz
    obtain ⟨q, hq, rfl⟩ := Option.map_eq_some_iff.mp hz
    have hqm := List.mem_of_getElem? hq
    have hq256 := hqb q hqm
    k_steps
    show LCg.CompSrc _ _ _ _ _ _ _ _ _ _ _ _ _ _
    rename BytesAre _ _ => hvs
    refine' comp_range (n := 8) (fun i y => ∃ t, y = .bytes (H (i + 1) (sib (q / 2 ^ (7 - i)))) t) ?h ?F ?N ?r ?b ?z ?turn ?fin
    (case h => rfl); (case F => assumption); (case N => assumption); (case r => assumption); (case b => rfl); (case z => decide)
    case turn =>
      intro i t I oI C oC D m₂ ys h tk E' hi8 hC hx F' N' off ne
      have hlk := hsib q hqm (7 - i) (by omega)
      rw [show 8 - (7 - i) = i + 1 by omega] at hlk
      k_steps
      refine' comp_end ?F ?N ?s off ?S ?r
      (case F => assumption); (case N => assumption); (case s => kcf_all); (case S => trivial); (case r => exact ⟨_, rfl⟩)
    case fin =>
      intro g ys hl hR
      have hys := branch_at (H := H) (q := q) hl hR
      k_steps
      show wpAny _ _ (compareOp _ _ _) _ _ _
      rename News _ _ _ _ => N97
      k_dflt (refine ne_bytes_lists N97 (.tail _ (.head _)) (.head _) hvs hys (by k_units) ?_)
      k_steps
      refine' QEnd.intro ?F ?N ?s ?r
      (case F => assumption); (case N => assumption); (case s => kcf_all)
      (case r => rfl)
  · rintro Dd h tk ys F3 N3 hlt rfl
    k_steps
    rename News _ _ _ _ => N98
    exact next _ _ _ (by assumption) N98 (fun q hq => .tail _ (.tail _ hq))
end
end Mine
end
section
theorem Mine.offLz : True := by w_top off; trivial
open PySem PySem.W PyProof.Rows PySem.Calls
set_option Elab.async false
set_option maxRecDepth 100000
set_option maxHeartbeats 4000000
set_option linter.unusedSimpArgs false
set_option linter.unusedSectionVars false
set_option linter.unusedVariables false
namespace Mine
section
variable {prog : Program} {w : World} {p : Program} {loose : List Str} {mean : ExcName → Option Value} {mg mb : Str → Option Value} {L xs st bk cod hof td tr db he : Addr} {led : List (Addr × Obj)} {B : List Bts} {D : List (List UInt8 × Bts)} {ℓ : Nat → Bts} {H : Nat → Nat → Bts}
theorem lawChain (dp un : Nat) (gd : Option (List Code)) (a : Addr) (ccd : Value) (outer : List Env) (A₀ : Around) (base h₀ : Heap) (m : Str → Option Value) (s : Shared) (Q : Flow → Shared → Prop) (E : Value → Shared → Prop) {oh : Obj}
    (Bl : Below A₀ base outer h₀) (F : Fr h₀ L s.heap m) (X : (Mine.hd.heap_39 w.params).In h₀) (N : News h₀ L s.heap led) (T : Top p loose mean mg mb h₀) (hd : dp + 12 < recursionLimit) (hu : un + 80 < cLine)
    (AD : Adr L xs st bk cod hof td tr db he) (S : LSt prog w p loose mean mg mb L xs st bk cod hof td tr db he led B D ℓ H 9) (mhe : (he, oh) ∈ led) (hhe : DB (intKind prog w) oh []) (hℓ : ∀ q, ℓ q = #[100])
    (hE : PassesOwn (model prog w) (ktrTop dp un gd lawN lawScope L a ccd (lawCl L) outer) (envX lawN lawScope L a ccd (lawCl L)) E)
    (hm1 : m (Str.ofString "state") = some (.ref st)) (hm2 : m (Str.ofString "hash_of") = some (.ref hof))
    (next : ∀ h' tk' m' led', Fr h₀ L h' m' → News h₀ L h' led' → (∃ ps, (198, tabObj ps) ∈ led') → Q (.ret (.bool true)) { s with heap := h', toks := tk' }) :
    wpAny (model prog w) (ktrTop dp un gd lawN lawScope L a ccd (lawCl L) outer) (execs (lawSeg 5 19) (envX lawN lawScope L a ccd (lawCl L))) Q E s := by
  have e0 : lawSeg 5 19 = lawSeg 5 1 ++ (lawSeg 6 4 ++ (lawSeg 10 1 ++ (lawSeg 11 1 ++ (lawSeg 12 3 ++ (lawSeg 15 3 ++ (lawSeg 18 1 ++ (lawSeg 19 2 ++ (lawSeg 21 2 ++ (lawSeg 23 1 ++ []))))))))) := rfl
  rw [e0]
  obtain ⟨a0, a1, a2, a3, a4, a5, a6, a7, a8, a9⟩ := id AD
  refine segB dp un gd a ccd outer A₀ base h₀ m s Q E _ Bl F X N T hd hu AD S mhe hhe hℓ hE hm1 hm2 ?_
  intro h1 tk1 m1 led1 B1 D1 ℓ1 H1 oh1 HV F1 N1 S1 mhe1 hHV heldV b1 b2
  refine segC dp un gd a ccd outer A₀ base h₀ m1 { s with heap := h1, toks := tk1 } Q E _ Bl F1 X N1 T hd hu AD S1 mhe1 hE b1 b2 ?_
  intro h2 tk2 m2 led2 ky kvs nk qs se os kp okp F2 N2 S2 mhe2 hky hse hkp mky hI hnd hne hql hqb mse hos mkp hokp m3 m4 c1 c2 c3
  refine segD dp un gd a ccd outer A₀ base h₀ m2 { s with heap := h2, toks := tk2 } Q E _ Bl F2 X N2 T hd hu AD S2 hE hky hse mky hI hql hqb mse hos m3 m4 c1 c2 c3 ?_
  intro h3 tk3 m3' led3 os3 SV F3 N3 S3 keep3 mse3 hP d1 d2 d3
  obtain ⟨o5s, P⟩ := hP
  obtain ⟨o3, n3, e3⟩ := m3
  obtain ⟨o4, n4, e4⟩ := m4
  have mky3 := keep3 _ _ mky (by omega) (by omega)
  have mkp3 := keep3 _ _ mkp (by omega) (by omega)
  have mhe3 := keep3 _ _ mhe2 (by omega) (by omega)
  have n33 := keep3 _ _ n3 (by omega) (by omega)
  have n43 := keep3 _ _ n4 (by omega) (by omega)
  refine segE dp un gd a ccd outer A₀ base h₀ m3' { s with heap := h3, toks := tk3 } Q E _ Bl F3 X N3 T hd hu AD S3 hE hky hse hkp mky3 hI hql hqb mse3 mkp3 hokp P ⟨o3, n33, e3⟩ ⟨o4, n43, e4⟩ d1 d2 d3 ?_
  intro h4 tk4 led4 okp4 KV F4 N4 S4 keep4 mkp4 hKV KO hKl
  have mky4 := keep4 _ _ mky3 (by omega) (by omega)
  have mhe4 := keep4 _ _ mhe3 (by omega) (by omega)
  have mse4 := keep4 _ _ mse3 (by omega) (by omega)
  have n34 := keep4 _ _ n33 (by omega) (by omega)
  have n44 := keep4 _ _ n43 (by omega) (by omega)
  refine segF dp un gd a ccd outer A₀ base h₀ m3' { s with heap := h4, toks := tk4 } Q E _ Bl F4 X N4 T hd hu AD S4 (by decide) mhe4 hHV heldV hky hse hkp mky4 hI hnd hne hql hqb mse4 mkp4 P hKV KO hKl ⟨o3, n34, e3⟩ ⟨o4, n44, e4⟩ d1 d2 d3 ?_
  intro h5 tk5 m5 led5 B5 va ov VV F5 N5 p5 S5 keep5 mva hVV hVq hVl hLva hvb hvo f1 f2 f3 f4
  obtain ⟨i0, c0, t1, t2, nn, mst4, _⟩ := S4.state
  obtain ⟨o5, w5, n54, e5⟩ := S4.c5
  have hvs := hvo _ _ mst4 (by omega) (by omega)
  have hv5 := hvo _ _ n54 (by omega) (by omega)
  have mky5 := keep5 _ _ mky4 (by omega) (by omega)
  have mkp5 := keep5 _ _ mkp4 (by omega) (by omega)
  have n35 := keep5 _ _ n34 (by omega) (by omega)
  refine segG dp un gd a ccd outer A₀ base h₀ m5 { s with heap := h5, toks := tk5 } Q E _ Bl F5 X N5 T hd hu AD S5 (by decide) hky (by omega) mky5 hI hnd hne hql hqb mkp5 hKV KO hKl mva hVV hVq hVl hLva hvb hvs ⟨o3, n35, e3⟩ f1 f2 f3 f4 ?_
  intro h6 tk6 m6 led6 B6 v tv F6 N6 p6 S6 keep6 hv g1 g2 g3 g4 g5
  have mky6 := keep6 _ _ mky5 (by omega) (by omega)
  have mkp6 := keep6 _ _ mkp5 (by omega) (by omega)
  have n36 := keep6 _ _ n35 (by omega) (by omega)
  have mva6 := keep6 _ _ mva hvb hvs
  refine segK dp un gd a ccd outer A₀ base h₀ m6 { s with heap := h6, toks := tk6 } Q E _ Bl F6 X N6 T hd hu AD S6 (by decide) (by omega) hnd hne hql hqb mkp6 hKV KO hKl mva6 hVV hVq hVl hLva hvb hvs hv5 g1 g2 g3 g4 ?_
  intro h7 tk7 led7 B7 F7 N7 p7 S7 keep7
  have mky7 := keep7 _ _ mky6 (by omega) (by omega) (by omega)
  have mkp7 := keep7 _ _ mkp6 (by omega) (by omega) (by omega)
  have n37 := keep7 _ _ n36 (by omega) (by omega) (by omega)
  refine segH dp un gd a ccd outer A₀ base h₀ m6 { s with heap := h7, toks := tk7 } Q E _ Bl F7 X N7 T hd hu AD S7 (by decide) hE hky mky7 hI hnd hne hql hqb hv ⟨o3, n37, e3⟩ g1 g2 g3 g5 ?_
  intro h8 tk8 m8 led8 B8 D8 ℓ8 H8 la ola LV tp tvs ql F8 N8 p8 S8 keep8 mla hLV hrs hLl hoff mtp htv hqlm m7 hla htp j2 j3 j4 j5
  have mky8 := keep8 _ _ mky7 (by omega) (by omega) (by omega) (by omega) (by omega)
  have mkp8 := keep8 _ _ mkp7 (by omega) (by omega) (by omega) (by omega) (by omega)
  have n38 := keep8 _ _ n37 (by omega) (by omega) (by omega) (by omega) (by omega)
  obtain ⟨o7, t7, n78, e7⟩ := m7
  refine segI dp un gd a ccd outer A₀ base h₀ m8 { s with heap := h8, toks := tk8 } Q E _ Bl F8 X N8 T hd hu AD S8 (by decide) hne hql hqb (by omega) mkp8 hKV (KO.moved hoff) hKl mla hLV hrs hLl mtp htv hqlm n78 e7 hla htp j2 j3 j4 j5 ?_
  intro h9 tk9 led9 B9 kd okd W F9 N9 p9 S9 keep9 mkd hW m6c hsib
  have mky9 := keep9 _ _ mky8 (by omega) (by omega)
  have n39 := keep9 _ _ n38 (by omega) (by omega)
  refine segJ dp un gd a ccd outer A₀ base h₀ m8 { s with heap := h9, toks := tk9 } Q E _ Bl F9 X N9 T hd hu AD S9 mky9 hI hql hqb mkd hW ⟨o3, n39, e3⟩ m6c hsib ?_
  intro h10 tk10 led10 F10 N10 hsub
  obtain ⟨ps, mt⟩ := S9.tab
  exact next h10 tk10 m8 led10 F10 N10 ⟨ps, hsub _ mt⟩
end
end Mine
end
section
open PySem PySem.W PyProof.Rows PySem.Calls
set_option Elab.async false
set_option maxRecDepth 100000
set_option maxHeartbeats 4000000
set_option linter.unusedSimpArgs false
set_option linter.unusedSectionVars false
set_option linter.unusedVariables false
theorem Mine.fillLy : (fun (_ : OpenLaw) (_ : Params → Frag) => True) PySem.Challenge.rw_bs0043_01 Mine.hd.heap_39 := by w_top off; k_fill; trivial
namespace Mine
local macro_rules | `(tactic| k_ne) => `(tactic| (refine neN ?_; (try dsimp only); first | with_reducible assumption | exact Ne.symm (by with_reducible assumption) | omega))
local macro_rules | `(tactic| k_all) => `(tactic| first | with_reducible assumption | (refine' all_cons ?a ?b; (case a => first | with_reducible assumption | exact Ne.symm (by with_reducible assumption) | omega); (case b => k_all)))
local macro_rules | `(tactic| k_mem) => `(tactic| first | assumption | exact List.mem_append_left _ (by assumption))
local macro_rules | `(tactic| k_room) => `(tactic| ((try simp only [depth_under_make, depth_under_kw, depth_in1, depth_deeper, depth_caller]); (try dsimp only [ktrTop]); omega))
local macro_rules | `(tactic| k_units) => `(tactic| ((have hcL9 := cLine_is); (try simp only [units_under_make, units_in1, units_deeper, Around.mark_units, units_caller]); (try dsimp only [ktrTop]); omega))
local macro_rules | `(tactic| walk_at "eval Name") => `(tactic| (k_here; (with_reducible show wpAny _ _ (eval (Expr.Name _ _) (envX _ _ _ _ _ _)) _ _ _); k_dflt (first
  | (refine' nameX_L ?F ?v ?_ ?a ?b; (case F => k_asm); (case a => rfl); (case b => rfl); (case v => first | rfl | assumption); k_whole)
  | (refine' nameX_C ?N ?c ?m ?d ?_ ?a ?b; (case a => rfl); (case b => rfl); (case N => k_asm); (case c => rfl); (case m => k_mem); (case d => k_asm); k_whole)
  | (refine' nameX_K ?F ?X ?T ?e ?_ ?a ?b; (case F => k_asm); (case X => k_asm); (case T => k_asm); (case a => rfl); (case b => rfl); (case e => k_is); k_whole)
  | (refine' nameX_B ?F ?X ?T ?e ?v ?n ?_ ?a ?b; (case F => k_asm); (case X => k_asm); (case T => k_asm); (case a => rfl); (case b => rfl); (case e => k_is); (case v => boot_fast); (case n => decide); k_whole))))
local macro_rules | `(tactic| walk_at "call ref") => `(tactic| (k_here; (with_reducible show wpAny _ _ (call (Value.ref 109) _) _ _ _); k_dflt (refine' branch_use _ _ _ _ _ _ _ _ _ _ _ _ _ _ _ _ _ ?mt ?md ?hT ?Bl ?F ?X ?N ?T ?k ?d ?u ?mdb ?hD ?Tr ?root ?key ?q ?_; (case F => k_asm); (case N => k_asm); (case mt => k_mem); (case md => k_mem); (case hT => exact ⟨_, _, _, _, _, _, _, _, _, _, rfl⟩); (case Bl => k_asm); (case X => k_asm); (case T => k_asm); (case k => rfl); (case d => k_room); (case u => k_units); (case mdb => k_mem); (case hD => with_reducible assumption); (case Tr => with_reducible assumption); (case root => rfl); (case key => exact key1 (by assumption)); (case q => first | assumption | omega); k_whole); intro tp' vs' h' tk' hvs' F' N' l1; (have hvl' := get_len hvs'); (try k_lt l1); (try k_sweep)))
local macro_rules | `(tactic| walk_at "call ref") => `(tactic| (k_here; (with_reducible show wpAny _ _ (call (Value.ref 184) [Value.int _ _]) _ _ _); k_dflt (refine' path_ok _ _ _ _ _ _ _ _ _ _ _ _ _ _ _ _ _ ?Bl ?F ?X ?N ?T ?k ?d ?u ?_; (case F => k_asm); (case N => k_asm); (case Bl => k_asm); (case X => k_asm); (case T => k_asm); (case k => rfl); (case d => k_room); (case u => k_units); k_whole); intro h' t' tk' F' N'; (try k_sweep)))
local macro_rules | `(tactic| walk_at "call ref") => `(tactic| (k_here; (with_reducible show wpAny _ _ (call (Value.ref 191) [Value.str _ _]) _ _ _); k_dflt (refine' beside_ok _ _ _ _ _ _ _ _ _ _ _ _ _ _ _ _ _ ?Bl ?F ?X ?N ?T ?k ?d ?u ?dd ?_; (case F => k_asm); (case N => k_asm); (case Bl => k_asm); (case X => k_asm); (case T => k_asm); (case k => rfl); (case d => k_room); (case u => k_units); (case dd => omega); k_whole); intro h' t' tk' F' N'; (try k_sweep)))
local macro_rules | `(tactic| walk_at "subscriptTail") => `(tactic| (k_here; (with_reducible show wpAny _ _ (subscriptTail _ _ (Value.ref _) (Value.int _ _)) _ _ _); k_dflt (refine' item_tup ?N ?m ?v ?l ?_; (case N => k_asm); (case m => k_mem); (case v => assumption); (case l => omega); k_whole)))
local macro_rules | `(tactic| walk_at "call builtin:dict.get") => `(tactic| (k_here; k_dflt (refine' db_get_same (knd := PySem.strKind _ _) ?N ?p ?d ?lo ?k ?s ?_; (case N => k_asm); (case p => k_mem); (case d => with_reducible assumption); (case lo => assumption); (case k => exact sk_is _ _ _ _); (case s => assumption); k_whole); intro _))
local macro_rules | `(tactic| walk_at "getMethod ref") => `(tactic| (k_here; (with_reducible show wpAny _ _ (getMethod (Value.ref _) (Str.ofString "get") _) _ _ _); k_dflt (refine' db_mGet (knd := PySem.strKind _ _) ?N ?p ?d ?_; (case N => k_asm); (case p => k_mem); (case d => with_reducible assumption); k_whole)))
local macro_rules | `(tactic| walk_at "call builtin:len") => `(tactic| (k_here; k_dflt (refine' len_branch ?N ?m ?b ?_; (case N => k_asm); (case m => k_mem); (case b => assumption); k_whole)))
local macro_rules | `(tactic| walk_at "call ref") => `(tactic| (k_here; (with_reducible show wpAny _ _ (call (Value.ref 196) _) _ _ _); k_dflt (refine' joined_ok _ _ _ _ _ _ _ _ _ _ _ _ _ _ _ _ _ ?Bl ?F ?X ?N ?T ?k ?d ?u ?U1 ?mh ?mc ?mo ?mv ?mk ?HC ?hoc ?hoco ?hvb ?hkb ?lov ?lok ?hVl ?hKl ?hB ?hBl _ ?hVq ?hqb ?hside ?hV ?hK ?_; (case HC => with_reducible assumption); (case hB => with_reducible assumption); (case F => k_asm); (case N => k_asm); (case Bl => k_asm); (case X => k_asm); (case T => k_asm); (case k => rfl); (case d => k_room); (case u => k_units); (case U1 => k_updF); (case mh => k_mem); (case mc => k_mem); (case mo => k_mem); (case mv => k_mem); (case mk => k_mem); (case hoc => with_reducible assumption); (case hoco => with_reducible assumption); (case hvb => omega); (case hkb => omega); (case lov => with_reducible assumption); (case lok => with_reducible assumption); (case hBl => omega); (case hV => with_reducible assumption); (case hK => with_reducible assumption); (case hVl => omega); (case hKl => omega); (case hVq => with_reducible assumption); (case hqb => with_reducible assumption); (case hside => with_reducible assumption); k_whole); intro D' ob' od' B' W' h' tk' hB' hp' hl' hW' J' hWl' loW' F' N' l1; (try k_lt l1); (try k_sweep)))
local macro_rules | `(tactic| walk_at "callWith ref") => `(tactic| (k_here; k_dflt (refine' callWith_F ?k1 ?_; (case k1 => exact FnAt.of (by k_asm) (by k_mem)); k_whole)))
local macro_rules | `(tactic| walk_at "getMethod ref") => `(tactic| (k_here; (with_reducible show wpAny _ _ (getMethod (Value.ref _) (Str.ofString "get") _) _ _ _); k_dflt (refine' db_mGet (knd := intKind _ _) ?N ?p ?d ?_; (case N => k_asm); (case p => k_mem); (case d => with_reducible assumption); k_whole)))
local macro_rules | `(tactic| walk_at "call builtin:dict.get") => `(tactic| (k_here; k_dflt (refine' db_get2 (knd := intKind _ _) ?N ?p ?d ?lo ?k ?_; (case N => k_asm); (case p => k_mem); (case d => with_reducible assumption); (case lo => assumption); (case k => exact intKind_is _ _ _ _); k_whole); intro _))
local macro_rules | `(tactic| walk_at "subscriptTail") => `(tactic| (k_here; (with_reducible show wpAny _ _ (subscriptTail _ _ (Value.ref _) (Value.str _ _)) _ _ _); k_dflt (refine' db_item (knd := PySem.strKind _ _) ?N ?p ?d ?k ?l ?_; (case N => k_asm); (case p => k_mem); (case d => with_reducible assumption); (case k => exact sk_is _ _ _ _); (case l => with_reducible assumption); k_whole); intro _))
local macro_rules | `(tactic| walk_at "compareOp NotEq ref ref") => `(tactic| (k_here; (with_reducible show wpAny _ _ (compareOp CmpOp.NotEq (Value.ref _) (Value.ref _)) _ _ _); k_dflt (refine' ne_nil_list ?N ?ma ?mb ?u ?_; (case N => k_asm); (case ma => k_mem); (case mb => k_mem); (case u => k_units); k_whole)))
local macro_rules | `(tactic| walk_at "call ref") => `(tactic| (k_here; (with_reducible show wpAny _ _ (call (Value.ref 179) [Value.ref _, Value.int _ _]) _ _ _); k_dflt (refine' next_nat _ _ _ _ _ _ _ _ _ _ _ _ _ _ _ _ _ ?Bl ?F ?X ?N ?T ?k ?d ?u ?U ?hx ?hi ?hl ?i0 ?c0 ?c1 ?m0 ?m1 ?_; (case Bl => k_asm); (case F => k_asm); (case X => k_asm); (case N => k_asm); (case T => k_asm); (case k => rfl); (case d => k_room); (case u => k_units); (case U => k_updF); (case hx => k_mem); (case hi => with_reducible assumption); (case hl => with_reducible assumption); (case i0 => assumption); (case c0 => assumption); (case c1 => assumption); (case m0 => first | decide | omega); (case m1 => first | decide | omega); k_whole); intro v' tv' i' c' t1' t2' n' h' tk' v1' i0' c0' c1' F' N'; (try dsimp only at N'); (try k_sweep)))
local macro_rules | `(tactic| walk_at "call builtin:len") => `(tactic| (k_here; k_dflt (refine' len_lst ?N ?m ?l ?k ?_; (case N => k_asm); (case m => k_mem); (case l => with_reducible assumption); (case k => omega); k_whole)))
local macro_rules | `(tactic| walk_at "subscriptTail") => `(tactic| (k_here; (with_reducible show wpAny _ _ (subscriptTail _ _ (Value.ref _) (Value.int _ _)) _ _ _); k_dflt (refine' item_ints ?N ?m ?i ?v ?z ?_; (case N => k_asm); (case m => k_mem); (case i => with_reducible assumption); (case v => omega); (case z => omega)); intro q' t' hq'))
local macro_rules | `(tactic| walk_at "call ref") => `(tactic| (k_here; (with_reducible show wpAny _ _ (call (Value.ref 168) _) _ _ _); refine rest ?_))
section
variable {prog : Program} {w : World} {p : Program} {loose : List Str} {mean : ExcName → Option Value} {mg mb : Str → Option Value} {L xs st bk cod hof : Addr}
theorem lawHead (dp un : Nat) (gd : Option (List Code)) (a : Addr) (ccd : Value) (outer : List Env) (A₀ : Around) (base h₀ : Heap) (m : Str → Option Value) (s : Shared) (Q : Flow → Shared → Prop) (E : Value → Shared → Prop) {nm : Str} {pm ctv : Value} {ta tb tq : Tok} {ws : List Value} {ns : List Int} {oc ob o1 o2 o3 o4 o5 o6 o7 o8 : Obj} {ps : Array Value} {vs : Array Value} {v1 v2 v3 v4 v5 v6 v7 : Option Value}
    (Bl : Below A₀ base outer h₀) (F : Fr h₀ L s.heap m) (X : (Mine.hd.heap_39 w.params).In h₀) (N : News h₀ L s.heap [(hof, kla_obj nm lamQ lamParams lamBody lamScope [(Str.ofString "book", L + 1 + 1 + 1 + 1 + 1 + 1 + 1 + 1)] pm cod ctv), (cod, oc), (bk, ob), (st, PySem.W.listOf #[Value.ref xs, Value.int 0 ta, Value.int 17 tb] 0), (xs, PySem.W.listOf ws.toArray 0), (L + 1 + 1 + 1 + 1 + 1 + 1 + 1 + 1, o8), (L + 1 + 1 + 1 + 1 + 1 + 1 + 1, o7), (L + 1 + 1 + 1 + 1 + 1 + 1, o6), (L + 1 + 1 + 1 + 1 + 1, o5), (L + 1 + 1 + 1 + 1, o4), (L + 1 + 1 + 1, o3), (L + 1 + 1, o2), (L + 1, o1), (198, tabObj ps)])
    (T : Top p loose mean mg mb h₀) (hd : dp + 12 < recursionLimit) (hu : un + 80 < cLine)
    (a0 : @LT.lt Nat _ 198 L) (a1 : @LT.lt Nat _ (L + 8) xs) (a2 : @LT.lt Nat _ xs st) (a3 : @LT.lt Nat _ st bk) (a4 : @LT.lt Nat _ bk cod) (a5 : @LT.lt Nat _ cod hof)
    (lo : (bk == sysModules) = false) (hob : ob.IsDictOf (intKind prog w) []) (hws : IntsAre ws ns) (hns : ns.length ≤ 40) (e1 : o1.data = .cell v1) (e2 : o2.data = .cell v2) (e3 : o3.data = .cell v3) (e4 : o4.data = .cell v4) (e5 : o5.data = .cell v5) (e6 : o6.data = .cell v6) (e7 : o7.data = .cell v7) (e8 : o8.data = .cell (some (.ref bk))) (f1 : oc.data = .fields vs) (f2 : vs[1]? = some (.str lamQ tq))
    (hE : PassesOwn (model prog w) (ktrTop dp un gd lawN lawScope L a ccd (lawCl L) outer) (envX lawN lawScope L a ccd (lawCl L)) E)
    (hm1 : m (Str.ofString "state") = some (.ref st)) (hm2 : m (Str.ofString "hash_of") = some (.ref hof))
    (next : ∀ h' tk' m' led', Fr h₀ L h' m' → News h₀ L h' led' → (∃ ps, (198, tabObj ps) ∈ led') → Q (.ret (.bool true)) { s with heap := h', toks := tk' }) :
    wpAny (model prog w) (ktrTop dp un gd lawN lawScope L a ccd (lawCl L) outer) (execs (lawSeg 3 21) (envX lawN lawScope L a ccd (lawCl L))) Q E s := by
  have HC : HashC prog w p loose mean mg mb hof bk (L + 1 + 1 + 1 + 1 + 1 + 1 + 1 + 1) cod (kla_obj nm lamQ lamParams lamBody lamScope [(Str.ofString "book", L + 1 + 1 + 1 + 1 + 1 + 1 + 1 + 1)] pm cod ctv) o8 oc := hash_ok lo e8 f1 f2
  have hB : Book prog w ob [] := DB.nil hob
  have nd8 : NotDict o8 := fun es n e => by rw [e8] at e; cases e
  have ndc : NotDict oc := fun es n e => by rw [f1] at e; cases e
  generalize lamQ = LQ at N HC
  generalize lamParams = LP at N HC
  generalize lamBody = LB at N HC
  generalize lamScope = LS at N HC
  have q1 : lawSeg 3 21 = _ :: _ :: lawSeg 5 19 := rfl
  rw [q1]
  clear q1
  have nextC : ∀ (td tr db he : Addr) (led : List (Addr × Obj)) (B : List Bts) (D : List (List UInt8 × Bts)) (ℓ : Nat → Bts) (H : Nat → Nat → Bts) (oh : Obj) (m' : Str → Option Value) (h' : Heap) (tk' : Nat), Fr h₀ L h' m' → News h₀ L h' led → Adr L xs st bk cod hof td tr db he → LSt prog w p loose mean mg mb L xs st bk cod hof td tr db he led B D ℓ H 9 → (he, oh) ∈ led → DB (intKind prog w) oh [] → (∀ q, ℓ q = #[100]) → m' (Str.ofString "state") = some (.ref st) → m' (Str.ofString "hash_of") = some (.ref hof) →
      wpAny (model prog w) (ktrTop dp un gd lawN lawScope L a ccd (lawCl L) outer) (execs (lawSeg 5 19) (envX lawN lawScope L a ccd (lawCl L))) Q E { s with heap := h', toks := tk' } :=
    fun td tr db he led B D ℓ H oh m' h' tk' F' N' AD S mhe hhe hl g1 g2 => lawChain dp un gd a ccd outer A₀ base h₀ m' { s with heap := h', toks := tk' } Q E Bl F' X N' T hd hu AD S mhe hhe hl hE g1 g2 next
  generalize lawSeg 5 19 = rest5 at nextC ⊢
  have e3' : lawScope = lawScope := rfl
  conv at e3' => lhs; whnf
  rw [lawCl_eq] at nextC ⊢
  rw [← e3'] at nextC ⊢
  clear e3' next hE
  k_steps
  show wpAny _ _ _ _ _ _
  refine initI_ok _ _ _ _ _ _ _ _ _ _ _ _ _ _ _ _ _ Bl (by assumption) X (by assumption) T rfl (by k_room) (by k_units) (by k_updF) (.head _) (by k_mem) (.tail _ (.head _)) HC nd8 ndc hB (by decide) ?_
  intro tr db td ob' od otd B' D H h' tk' hB' hD hp hBl hDl hT Tr F' N' ltd htr hdb
  (k_lt ltd)
  k_steps
  show wpAny _ _ _ _ _ _
  rename News _ _ _ _ => N99
  rename Fr _ _ _ _ => F99
  rename Obj.IsDictOf (intKind prog w) _ _ => hheld
  rename _ = Data.cell (some (Value.ref tr)) => g1
  refine' nextC td tr db _ _ B' D (fun _ => #[100]) H _ _ _ _ F99 N99 ⟨a0, a1, a2, a3, a4, a5, ltd.1, htr, hdb, ?h9⟩ ⟨⟨0, 17, ta, tb, 0, by repeat (first | exact List.Mem.head _ | refine List.Mem.tail _ ?_), by decide, by decide, by decide⟩, ⟨ws, ns, 0, by repeat (first | exact List.Mem.head _ | refine List.Mem.tail _ ?_), hws, hns⟩, ⟨ob', by repeat (first | exact List.Mem.head _ | refine List.Mem.tail _ ?_), hB'⟩, ⟨od, by repeat (first | exact List.Mem.head _ | refine List.Mem.tail _ ?_), hD⟩, ⟨otd, by repeat (first | exact List.Mem.head _ | refine List.Mem.tail _ ?_), hT⟩, by repeat (first | exact List.Mem.head _ | refine List.Mem.tail _ ?_), Tr, ⟨nm, LQ, LP, LB, LS, _, pm, ctv, o8, oc, by repeat (first | exact List.Mem.head _ | refine List.Mem.tail _ ?_), by repeat (first | exact List.Mem.head _ | refine List.Mem.tail _ ?_), by repeat (first | exact List.Mem.head _ | refine List.Mem.tail _ ?_), nd8, ndc, HC⟩, ⟨_, by repeat (first | exact List.Mem.head _ | refine List.Mem.tail _ ?_), g1⟩, ⟨_, ?m2, ?d2⟩, ⟨o3, v3, by repeat (first | exact List.Mem.head _ | refine List.Mem.tail _ ?_), e3⟩, ⟨o4, v4, by repeat (first | exact List.Mem.head _ | refine List.Mem.tail _ ?_), e4⟩, ⟨o5, v5, by repeat (first | exact List.Mem.head _ | refine List.Mem.tail _ ?_), e5⟩, ⟨o6, v6, by repeat (first | exact List.Mem.head _ | refine List.Mem.tail _ ?_), e6⟩, ⟨o7, v7, by repeat (first | exact List.Mem.head _ | refine List.Mem.tail _ ?_), e7⟩, ⟨ps, by repeat (first | exact List.Mem.head _ | refine List.Mem.tail _ ?_)⟩, ⟨by simpa using hBl, hDl⟩, fun _ => by decide⟩ (.head _) ?dh (fun _ => rfl) ?n1 ?n2
  case h9 => omega
  case m2 => (repeat (first | exact List.Mem.head _ | refine List.Mem.tail _ ?_))
  case d2 => assumption
  case dh => exact DB.nil hheld
  case n1 => exact hm1
  case n2 => exact hm2
end
end Mine
end
section
local macro_rules | `(tactic| walk_at "zzz") => `(tactic| fail)
local macro_rules | `(tactic| walk_at "zzz") => `(tactic| fail)
local macro_rules | `(tactic| walk_at "zzz") => `(tactic| fail)
local macro_rules | `(tactic| walk_at "zzz") => `(tactic| fail)
local macro_rules | `(tactic| walk_at "zzz") => `(tactic| fail)
local macro_rules | `(tactic| walk_at "zzz") => `(tactic| fail)
local macro_rules | `(tactic| walk_at "zzz") => `(tactic| fail)
local macro_rules | `(tactic| walk_at "zzz") => `(tactic| fail)
local macro_rules | `(tactic| walk_at "zzz") => `(tactic| fail)
local macro_rules | `(tactic| walk_at "zzz") => `(tactic| fail)
local macro_rules | `(tactic| walk_at "zzz") => `(tactic| fail)
local macro_rules | `(tactic| walk_at "zzz") => `(tactic| fail)
local macro_rules | `(tactic| walk_at "zzz") => `(tactic| fail)
local macro_rules | `(tactic| walk_at "zzz") => `(tactic| fail)
local macro_rules | `(tactic| walk_at "zzz") => `(tactic| fail)
local macro_rules | `(tactic| walk_at "zzz") => `(tactic| fail)
local macro_rules | `(tactic| walk_at "zzz") => `(tactic| fail)
local macro_rules | `(tactic| walk_at "zzz") => `(tactic| fail)
local macro_rules | `(tactic| walk_at "zzz") => `(tactic| fail)
local macro_rules | `(tactic| walk_at "zzz") => `(tactic| fail)
local macro_rules | `(tactic| walk_at "zzz") => `(tactic| fail)
local macro_rules | `(tactic| walk_at "zzz") => `(tactic| fail)
local macro_rules | `(tactic| walk_at "zzz") => `(tactic| fail)
local macro_rules | `(tactic| walk_at "zzz") => `(tactic| fail)
local macro_rules | `(tactic| walk_at "zzz") => `(tactic| fail)
local macro_rules | `(tactic| walk_at "zzz") => `(tactic| fail)
local macro_rules | `(tactic| walk_at "zzz") => `(tactic| fail)
local macro_rules | `(tactic| walk_at "zzz") => `(tactic| fail)
local macro_rules | `(tactic| walk_at "zzz") => `(tactic| fail)
local macro_rules | `(tactic| walk_at "zzz") => `(tactic| fail)
local macro_rules | `(tactic| walk_at "zzz") => `(tactic| fail)
local macro_rules | `(tactic| walk_at "zzz") => `(tactic| fail)
local macro_rules | `(tactic| walk_at "zzz") => `(tactic| fail)
local macro_rules | `(tactic| walk_at "zzz") => `(tactic| fail)
local macro_rules | `(tactic| walk_at "zzz") => `(tactic| fail)
local macro_rules | `(tactic| walk_at "zzz") => `(tactic| fail)
local macro_rules | `(tactic| walk_at "zzz") => `(tactic| fail)
local macro_rules | `(tactic| walk_at "zzz") => `(tactic| fail)
local macro_rules | `(tactic| walk_at "zzz") => `(tactic| fail)
local macro_rules | `(tactic| walk_at "zzz") => `(tactic| fail)
local macro_rules | `(tactic| walk_at "zzz") => `(tactic| fail)
local macro_rules | `(tactic| walk_at "zzz") => `(tactic| fail)
local macro_rules | `(tactic| walk_at "zzz") => `(tactic| fail)
local macro_rules | `(tactic| walk_at "zzz") => `(tactic| fail)
local macro_rules | `(tactic| walk_at "zzz") => `(tactic| fail)
local macro_rules | `(tactic| walk_at "zzz") => `(tactic| fail)
local macro_rules | `(tactic| walk_at "zzz") => `(tactic| fail)
local macro_rules | `(tactic| walk_at "zzz") => `(tactic| fail)
local macro_rules | `(tactic| walk_at "zzz") => `(tactic| fail)
local macro_rules | `(tactic| walk_at "zzz") => `(tactic| fail)
local macro_rules | `(tactic| walk_at "zzz") => `(tactic| fail)
local macro_rules | `(tactic| walk_at "zzz") => `(tactic| fail)
local macro_rules | `(tactic| walk_at "zzz") => `(tactic| fail)
local macro_rules | `(tactic| walk_at "zzz") => `(tactic| fail)
local macro_rules | `(tactic| walk_at "zzz") => `(tactic| fail)
local macro_rules | `(tactic| walk_at "zzz") => `(tactic| fail)
local macro_rules | `(tactic| walk_at "zzz") => `(tactic| fail)
local macro_rules | `(tactic| walk_at "zzz") => `(tactic| fail)
local macro_rules | `(tactic| walk_at "zzz") => `(tactic| fail)
local macro_rules | `(tactic| walk_at "zzz") => `(tactic| fail)
local macro_rules | `(tactic| walk_at "zzz") => `(tactic| fail)
local macro_rules | `(tactic| walk_at "zzz") => `(tactic| fail)
local macro_rules | `(tactic| walk_at "zzz") => `(tactic| fail)
local macro_rules | `(tactic| walk_at "zzz") => `(tactic| fail)
local macro_rules | `(tactic| walk_at "zzz") => `(tactic| fail)
local macro_rules | `(tactic| walk_at "zzz") => `(tactic| fail)
local macro_rules | `(tactic| walk_at "zzz") => `(tactic| fail)
local macro_rules | `(tactic| walk_at "zzz") => `(tactic| fail)
local macro_rules | `(tactic| walk_at "zzz") => `(tactic| fail)
local macro_rules | `(tactic| walk_at "zzz") => `(tactic| fail)
local macro_rules | `(tactic| walk_at "zzz") => `(tactic| fail)
local macro_rules | `(tactic| walk_at "zzz") => `(tactic| fail)
local macro_rules | `(tactic| walk_at "zzz") => `(tactic| fail)
local macro_rules | `(tactic| walk_at "zzz") => `(tactic| fail)
local macro_rules | `(tactic| walk_at "zzz") => `(tactic| fail)
local macro_rules | `(tactic| walk_at "zzz") => `(tactic| fail)
local macro_rules | `(tactic| walk_at "zzz") => `(tactic| fail)
local macro_rules | `(tactic| walk_at "zzz") => `(tactic| fail)
local macro_rules | `(tactic| walk_at "zzz") => `(tactic| fail)
local macro_rules | `(tactic| walk_at "zzz") => `(tactic| fail)
open PySem PySem.W PyProof.Rows PySem.Calls
set_option Elab.async false
set_option maxRecDepth 100000
set_option maxHeartbeats 4000000
set_option linter.unusedSimpArgs false
set_option linter.unusedSectionVars false
set_option linter.unusedVariables false
theorem Mine.fillLa : (fun (_ : OpenLaw) (_ : Params → Frag) => True) PySem.Challenge.rw_bs0043_01 Mine.hd.heap_39 := by w_top off; k_fill; trivial
namespace Mine
local macro_rules | `(tactic| walk_at "execs cons") => `(tactic| (k_here; (with_reducible show wpAny _ _ (execs (Stmt.Assign [Expr.Name (Str.ofString "tree") _] _ _ :: _) _) _ _ _); refine rest ?_))
theorem law_holds : PySem.Challenge.rw_bs0043_01.Holds := Mine.hd (by
  w_strict (
    k_go0
    (all_goals try k_fold)
    k_steps
    show wpAny _ _ _ _ _ _
    rename Fr _ _ _ _ => F9
    rename News _ _ _ _ => N9
    rename Frag.In _ _ => X9
    rename Top _ _ _ _ _ _ => T9
    rename Below _ _ _ _ => B9
    have h200 := Heap.lt_size (X9 200 _ (by k_is))
    have hab := F9.above
    (with_unfolding_all refine' lawHead (1 + claimMargin + 1) 7 (some []) _ _ [] _ _ _ _ _ _ _ B9 F9 X9 N9 T9 ?hd ?hu ?a0 ?a1 ?a2 ?a3 ?a4 ?a5 ?lo ?hob ?hws ?hns ?e1 ?e2 ?e3 ?e4 ?e5 ?e6 ?e7 ?e8 ?f1 ?f2 ?hE ?n1 ?n2 ?next)
    case hd => (first | decide | decide +kernel)
    case hu => (have := cLine_is; omega)
    case a0 => exact Nat.lt_of_lt_of_le (Nat.lt_trans (by decide) h200) hab
    case a1 => omega
    case a2 => omega
    case a3 => omega
    case a4 => omega
    case a5 => omega
    case lo => assumption
    case hob => assumption
    case hws => assumption
    case hns => omega
    case e1 => assumption
    case e2 => assumption
    case e3 => assumption
    case e4 => assumption
    case e5 => assumption
    case e6 => assumption
    case e7 => assumption
    case e8 => assumption
    case f1 => assumption
    case f2 => (with_unfolding_all assumption)
    case n1 => rfl
    case n2 => rfl
    case hE => passes_own
    case next =>
      intro h' tk' m' led' F' N' hm
      obtain ⟨ps', hm'⟩ := hm
      k_steps))
end Mine
end
theorem PySem.Challenge.cw_bs0043_01_holds : PySem.Challenge.rw_bs0043_01.Holds := by
  exact Mine.law_holds
