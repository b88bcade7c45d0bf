import PyProof.Rows.All
import Wide.All
import OpenK.AllK
import Wide.FinOn
import Lean
import PySem.Challenge.RW_aq6051_01
set_option Elab.async false

section
open PySem PySem.W PyProof.Rows
set_option Elab.async false
namespace Mine
set_option maxRecDepth 100000 in
set_option maxHeartbeats 8000000 in
open_top hd for PySem.Challenge.rw_aq6051_01
end Mine
end

section
open PySem PySem.W PyProof.Rows PySem.Calls PySem.Spec PyProof.V
set_option Elab.async false
namespace Mine

/-- the ledger with the object at d replaced -/
@[irreducible] def upd (d : Addr) (o : Obj) (news : List (Addr × Obj)) : List (Addr × Obj) := (d, o) :: news.filter (fun p => decide (p.1 ≠ d))
theorem mem_upd_self {d : Addr} {o : Obj} {news : List (Addr × Obj)} : (d, o) ∈ upd d o news := by unfold upd; exact List.mem_cons_self
theorem mem_upd {a d : Addr} {oa o : Obj} {news : List (Addr × Obj)} (h : (a, oa) ∈ news) (hn : a ≠ d) : (a, oa) ∈ upd d o news := by
  unfold upd; exact List.mem_cons_of_mem _ (List.mem_filter.mpr ⟨h, by simpa using hn⟩)
theorem news_front {h₀ h : Heap} {L d : Addr} {o : Obj} {news : List (Addr × Obj)} (N : News h₀ L h news) (hm : (d, o) ∈ news) : News h₀ L h (upd d o news) := fun p hp => by
  unfold upd at hp
  rcases List.mem_cons.mp hp with rfl | hp
  · exact N _ hm
  · exact N _ (List.mem_filter.mp hp).1
theorem updF_front {d : Addr} {o : Obj} {news : List (Addr × Obj)} : UpdF d o (upd d o news) (fun o' => upd d o' news) := by
  unfold upd; exact UpdF.head fun p hp => by simpa using (List.mem_filter.mp hp).2
theorem upd_front {d : Addr} {o o' : Obj} {news : List (Addr × Obj)} : Upd d o o' (upd d o news) (upd d o' news) := by
  unfold upd; exact Upd.head fun p hp => by simpa using (List.mem_filter.mp hp).2
/-- the ledger has an object at that address -/
def Has (news : List (Addr × Obj)) (a : Addr) : Prop := ∃ o, (a, o) ∈ news
theorem Has.of {news : List (Addr × Obj)} {a : Addr} {o : Obj} (h : (a, o) ∈ news) : Has news a := ⟨o, h⟩
theorem Has.self {news : List (Addr × Obj)} {a : Addr} {o : Obj} : Has ((a, o) :: news) a := ⟨o, List.mem_cons_self⟩
theorem Has.cons {news : List (Addr × Obj)} {a : Addr} {p : Addr × Obj} (h : Has news a) : Has (p :: news) a := let ⟨o, h⟩ := h; ⟨o, List.mem_cons_of_mem _ h⟩
theorem Has.upd {news : List (Addr × Obj)} {a d : Addr} {o : Obj} (h : Has news a) : Has (upd d o news) a := by
  obtain ⟨oa, h⟩ := h
  by_cases e : a = d
  · subst e; exact ⟨o, mem_upd_self⟩
  · exact ⟨oa, mem_upd h e⟩
theorem Has.self_upd {news : List (Addr × Obj)} {a : Addr} {o : Obj} : Has (Mine.upd a o news) a := ⟨o, mem_upd_self⟩
theorem ne_fresh {news : List (Addr × Obj)} {q a : Addr} (l : ∀ p ∈ news, p.1 < q) (h : Has news a) : a ≠ q := let ⟨_, h⟩ := h; Nat.ne_of_lt (l _ h)
theorem ne_fresh' {news : List (Addr × Obj)} {q a : Addr} (l : ∀ p ∈ news, p.1 < q) (h : Has news a) : q ≠ a := let ⟨_, h⟩ := h; Nat.ne_of_gt (l _ h)

theorem ne_fresh2 {news : List (Addr × Obj)} {q q' a : Addr} (l : ∀ p ∈ news, p.1 < q) (l2 : q < q') (h : Has news a) : a ≠ q' := let ⟨_, h⟩ := h; Nat.ne_of_lt (Nat.lt_trans (l _ h) l2)
theorem ne_fresh2' {news : List (Addr × Obj)} {q q' a : Addr} (l : ∀ p ∈ news, p.1 < q) (l2 : q < q') (h : Has news a) : q' ≠ a := let ⟨_, h⟩ := h; Nat.ne_of_gt (Nat.lt_trans (l _ h) l2)
theorem valueAt_stored_self {K : Type} [DecidableEq K] (kvs : List (K × Value)) (k : K) (v : Value) : valueAt (stored kvs k v) k = some v := by
  unfold valueAt stored
  split
  · rename_i h
    induction kvs with
    | nil => simp at h
    | cons p r ih =>
      by_cases hp : p.1 = k
      · simp [hp]
      · have h' : (r.any fun kv => decide (kv.1 = k)) = true := by simpa [hp] using h
        simp only [List.map_cons, if_neg hp, List.find?_cons, decide_eq_false hp]
        exact ih h'
  · rename_i h
    have h' : kvs.find? (fun kv => decide (kv.1 = k)) = none := by
      rw [List.find?_eq_none]; intro x hx hc
      exact h (List.any_eq_true.mpr ⟨x, hx, hc⟩)
    simp [List.find?_append, h']
theorem find_put_ne {K : Type} [DecidableEq K] {k k' : K} {v : Value} (hn : k' ≠ k) : ∀ kvs : List (K × Value), (kvs.map (fun kv => if kv.1 = k then (kv.1, v) else kv)).find? (fun kv => decide (kv.1 = k')) = kvs.find? (fun kv => decide (kv.1 = k'))
  | [] => rfl
  | (pk, pv) :: r => by
    have ih := find_put_ne hn (v := v) r
    by_cases hp : pk = k
    · subst hp
      simp only [List.map_cons, if_true, List.find?_cons, decide_eq_false (fun e : pk = k' => hn e.symm)]
      exact ih
    · by_cases hq : pk = k'
      · subst hq; simp only [List.map_cons, if_neg hp, List.find?_cons, decide_true]
      · simp only [List.map_cons, if_neg hp, List.find?_cons, decide_eq_false hq]
        exact ih
theorem valueAt_stored_ne {K : Type} [DecidableEq K] {kvs : List (K × Value)} {k k' : K} {v : Value} (hn : k' ≠ k) : valueAt (stored kvs k v) k' = valueAt kvs k' := by
  unfold valueAt stored
  split
  · rw [find_put_ne hn]
  · rw [List.find?_append]
    have : ([(k, v)] : List (K × Value)).find? (fun kv => decide (kv.1 = k')) = none := by
      simp [decide_eq_false (fun e : k = k' => hn e.symm)]
    simp only [this, Option.or_none]

section
variable {prog : Program} {w : World} {K : Type} [DecidableEq K] {knd : KeyKind prog w K} {A : Around} {E : Value → Shared → Prop} {s : Shared} {h₀ : Heap} {L d : Addr} {m : Str → Option Value} {news : List (Addr × Obj)} {o : Obj} {kvs : List (K × Value)} {k : K} {key v x : Value}
theorem r_set {Q : Unit → Shared → Prop} (F : Fr h₀ L s.heap m) (N : News h₀ L s.heap news) (hm : (d, o) ∈ news) (hd : o.IsDictOf knd kvs) (hkey : knd.is k key = true) (hsz : kvs.length ≤ sizeLine)
    (h : ∀ h' o', Fr h₀ L h' m → News h₀ L h' (upd d o' news) → o'.IsDictOf knd (stored kvs k v) → Q () { s with heap := h', toks := s.toks + 1 }) : wpAny (model prog w) A (setItem (.ref d) key v) Q E s :=
  kda_set F (news_front N hm) updF_front hd hkey hsz h
theorem r_in_no {Q : Value → Shared → Prop} (N : News h₀ L s.heap news) (hp : (d, o) ∈ news) (hd : o.IsDictOf knd kvs) (lo : (d == sysModules) = false) (hkey : knd.is k key = true) (hl : valueAt kvs k = none) (h : Q (.bool false) { s with toks := s.toks + 1 }) :
    wpAny (model prog w) A (compareOp .In key (.ref d)) Q E s := kda_in N hp hd lo hkey false (by rw [hl]; rfl) h
theorem r_in_yes {Q : Value → Shared → Prop} (N : News h₀ L s.heap news) (hp : (d, o) ∈ news) (hd : o.IsDictOf knd kvs) (lo : (d == sysModules) = false) (hkey : knd.is k key = true) (hl : valueAt kvs k = some x) (h : Q (.bool true) { s with toks := s.toks + 1 }) :
    wpAny (model prog w) A (compareOp .In key (.ref d)) Q E s := kda_in N hp hd lo hkey true (by rw [hl]; rfl) h
theorem r_notin_no {Q : Value → Shared → Prop} (N : News h₀ L s.heap news) (hp : (d, o) ∈ news) (hd : o.IsDictOf knd kvs) (lo : (d == sysModules) = false) (hkey : knd.is k key = true) (hl : valueAt kvs k = none) (h : Q (.bool true) { s with toks := s.toks + 1 }) :
    wpAny (model prog w) A (compareOp .NotIn key (.ref d)) Q E s := kdg_notin N hp hd lo hkey false (by rw [hl]; rfl) h
theorem r_notin_yes {Q : Value → Shared → Prop} (N : News h₀ L s.heap news) (hp : (d, o) ∈ news) (hd : o.IsDictOf knd kvs) (lo : (d == sysModules) = false) (hkey : knd.is k key = true) (hl : valueAt kvs k = some x) (h : Q (.bool false) { s with toks := s.toks + 1 }) :
    wpAny (model prog w) A (compareOp .NotIn key (.ref d)) Q E s := kdg_notin N hp hd lo hkey true (by rw [hl]; rfl) h
theorem r_get2_no {dflt : Value} {Q : Value → Shared → Prop} (N : News h₀ L s.heap news) (hp : (d, o) ∈ news) (hd : o.IsDictOf knd kvs) (lo : (d == sysModules) = false) (hkey : knd.is k key = true) (hl : valueAt kvs k = none) (h : Q dflt { s with toks := s.toks + 1 }) :
    wpAny (model prog w) A (call (.builtin "dict.get") [.ref d, key, dflt]) Q E s := kdg_get2 N hp hd lo hkey none hl h
end
section
variable {prog : Program} {w : World} {A : Around} {E : Value → Shared → Prop} {s : Shared} {h₀ : Heap} {L d d₂ : Addr} {m : Str → Option Value} {news : List (Addr × Obj)} {o o₂ : Obj}
theorem flat_nil_inv {K : Type} [DecidableEq K] {enc : K → PyData} {kvs : List (K × Value)} (h : FlatPairs enc kvs []) : kvs = [] := by
  have := h.length
  cases kvs with
  | nil => rfl
  | cons _ _ => simp at this
theorem r_update_nil {Q : Value → Shared → Prop} (F : Fr h₀ L s.heap m) (N : News h₀ L s.heap news) (hm : (d, o) ∈ news) (hd : o.IsDictOf (PySem.strKind prog w) []) (hm₂ : (d₂, o₂) ∈ news) (hd₂ : o₂.IsDictOf (PySem.strKind prog w) [])
    (lo₂ : (d₂ == sysModules) = false) (hne : d ≠ d₂)
    (h : ∀ h' o', Fr h₀ L h' m → News h₀ L h' (upd d o' news) → o'.IsDictOf (PySem.strKind prog w) [] → Q .none { s with heap := h' }) :
    wpAny (model prog w) A (call (.builtin "dict.update") [.ref d, .ref d₂]) Q E s :=
  kt_update_K (enc := PyData.str) (D := []) (D₂ := []) (fun a b => PyProof.V.same_str a b) F (news_front N hm) updF_front hd FlatPairs.nil (TabAt.ofNews N hm₂ lo₂ hd₂ FlatPairs.nil) hne
    (fun h' o' kvs' F' N' a b => h h' o' F' N' (flat_nil_inv b ▸ a)) (by simp)
end
end Mine
end

section
open PySem PySem.W PyProof.Rows PySem.Calls PySem.Spec PyProof.V
set_option Elab.async false
set_option linter.unusedVariables false
namespace Mine
local macro_rules | `(tactic| k_lt $_h:ident) => `(tactic| skip)
local macro_rules | `(tactic| walk_at "g_ne") => `(tactic| first | with_reducible assumption | (refine Ne.symm ?_; with_reducible assumption) | (refine' ne_fresh ?l ?h; (case l => with_reducible assumption); (case h => walk_at "g_has")) | (refine' ne_fresh' ?l ?h; (case l => with_reducible assumption); (case h => walk_at "g_has")))
local macro_rules | `(tactic| walk_at "g_has") => `(tactic| first | with_reducible exact Has.of (by with_reducible assumption) | with_reducible exact Has.self | with_reducible exact Has.self_upd | (with_reducible refine Has.cons ?_; walk_at "g_has") | (with_reducible refine Has.upd ?_; walk_at "g_has"))
local macro_rules | `(tactic| k_mem) => `(tactic| first | with_reducible assumption | with_reducible exact mem_upd_self | (with_reducible refine' mem_upd ?h ?n; (case h => k_mem); (case n => walk_at "g_ne")) | with_reducible exact List.mem_cons_self | (with_reducible refine List.mem_cons_of_mem _ ?_; k_mem))
local macro_rules | `(tactic| walk_at "g_val") => `(tactic| first | with_reducible assumption | with_reducible exact valueAt_stored_self _ _ _ | (rw [valueAt_stored_ne (by walk_at "g_ne")]; walk_at "g_val") | rfl)
local macro_rules | `(tactic| walk_at "g_size") => `(tactic| (rw [sizeLine_eq]; first | omega | (refine Nat.le_trans (stored_length_le _ _ _) ?_; omega) | (simp; done)))
local macro_rules | `(tactic| walk_at "compareOp NotIn int ref") => `(tactic| (k_here; k_dflt (first
  | (refine' r_notin_no (knd := PySem.intKind _ _) ?N ?hp ?hd ?lo (intKind_is _ _ _ _) ?hl ?_; (case N => k_asm); (case hp => k_mem); (case hd => with_reducible assumption); (case lo => with_reducible assumption); (case hl => walk_at "g_val"))
  | (refine' r_notin_yes (knd := PySem.intKind _ _) ?N ?hp ?hd ?lo (intKind_is _ _ _ _) ?hl ?_; (case N => k_asm); (case hp => k_mem); (case hd => with_reducible assumption); (case lo => with_reducible assumption); (case hl => walk_at "g_val")))))
local macro_rules | `(tactic| walk_at "compareOp In int ref") => `(tactic| (k_here; k_dflt (first
  | (refine' r_in_no (knd := PySem.intKind _ _) ?N ?hp ?hd ?lo (intKind_is _ _ _ _) ?hl ?_; (case N => k_asm); (case hp => k_mem); (case hd => with_reducible assumption); (case lo => with_reducible assumption); (case hl => walk_at "g_val"))
  | (refine' r_in_yes (knd := PySem.intKind _ _) ?N ?hp ?hd ?lo (intKind_is _ _ _ _) ?hl ?_; (case N => k_asm); (case hp => k_mem); (case hd => with_reducible assumption); (case lo => with_reducible assumption); (case hl => walk_at "g_val")))))
local macro_rules | `(tactic| walk_at "getItem ref int") => `(tactic| (k_here; k_dflt (refine' kdt_getItem (knd := PySem.intKind _ _) ?N ?hp ?hd (intKind_is _ _ _ _) ?hl ?_; (case N => k_asm); (case hp => k_mem); (case hd => with_reducible assumption); (case hl => walk_at "g_val"))))
local macro_rules | `(tactic| walk_at "subscriptTail") => `(tactic| (k_here; (with_reducible show wpAny _ _ (subscriptTail _ _ (Value.ref _) (Value.int _ _)) _ _ _); k_dflt (refine' kdt_tail (knd := PySem.intKind _ _) ?N ?hp ?hd ?_; (case N => k_asm); (case hp => k_mem); (case hd => with_reducible assumption))))
local macro_rules | `(tactic| walk_at "setItem ref int") => `(tactic| (k_here; k_dflt (refine' r_set (knd := PySem.intKind _ _) ?F ?N ?hm ?hd (intKind_is _ _ _ _) ?z ?_; (case F => k_asm); (case N => k_asm); (case hm => k_mem); (case hd => with_reducible assumption); (case z => walk_at "g_size")); intro h' o' F' N' hd'))
local macro_rules | `(tactic| walk_at "call builtin:dict.get") => `(tactic| (k_here; k_dflt (refine' r_get2_no (knd := PySem.intKind _ _) ?N ?hp ?hd ?lo (intKind_is _ _ _ _) ?hl ?_; (case N => k_asm); (case hp => k_mem); (case hd => with_reducible assumption); (case lo => with_reducible assumption); (case hl => walk_at "g_val"))))
local macro_rules | `(tactic| walk_at "call builtin:dict.update") => `(tactic| (k_here; k_dflt (refine' r_update_nil ?F ?N ?hm ?hd ?hm2 ?hd2 ?lo ?ne ?_; (case F => k_asm); (case N => k_asm); (case hm => k_mem); (case hd => with_reducible assumption); (case hm2 => k_mem); (case hd2 => with_reducible assumption); (case lo => with_reducible assumption); (case ne => walk_at "g_ne")); intro h' o' F' N' hd'))
local macro_rules | `(tactic| walk_at "getMethod ref") => `(tactic| (k_here; k_dflt (first
  | ((with_reducible show wpAny _ _ (getMethod (Value.ref _) (Str.ofString "get") _) _ _ _); refine' kdg_method (knd := PySem.intKind _ _) ?N ?hp ?hd ?_; (case N => k_asm); (case hp => k_mem); (case hd => with_reducible assumption))
  | ((with_reducible show wpAny _ _ (getMethod (Value.ref _) (Str.ofString "update") _) _ _ _); refine' kdl_method (knd := PySem.strKind _ _) PySem.F.slot_dict_update PySem.F.type_dict_update ?N ?hp ?hd ?_; (case N => k_asm); (case hp => k_mem); (case hd => with_reducible assumption)))))

set_option maxRecDepth 100000 in
set_option maxHeartbeats 4000000 in
theorem add_node_old {w : World} {A₀ : Around} {base h₀ : Heap} {L a : Addr} {m mg mb : Str → Option Value} {cn : Str} {cnm : List (Str × NameKind)} {cig cic : Bool} {cmo : List (Str × Const)} {ccd : Value} {news : List (Addr × Obj)}
   {p : Program} {loose : List Str} {mean : ExcName → Option Value} {s : Shared} {Q E : Value → Shared → Prop} {e1 e2 : Env} {x dx gd nd ad : Addr} {t1 t2 t3 : Tok} {h1 h2 h3 : Int} {ep : Nat} {ond oad : Obj} {kn ka : List (Int × Value)}
   {v : Int} {tv : Tok} {na : Addr} {ona : Obj}
   (B : Below A₀ base [e1, e2] h₀) (F : Fr h₀ L s.heap m) (X₀ : (hd.heap_39 w.params).In h₀) (N : News h₀ L s.heap news) (T : Top p loose mean mg mb h₀)
   (hx : (x, instObj 617 dx) ∈ news) (hdx : (dx, dictOf [⟨h1, .str "graph" t1, .ref gd⟩, ⟨h2, .str "_node" t2, .ref nd⟩, ⟨h3, .str "_adj" t3, .ref ad⟩] ep) ∈ news)
   (hnd : (nd, ond) ∈ news) (hond : ond.IsDictOf (intKind Challenge.rw_aq6051_01.row.prog w) kn) (lo1 : (nd == sysModules) = false)
   (had : (ad, oad) ∈ news) (hoad : oad.IsDictOf (intKind Challenge.rw_aq6051_01.row.prog w) ka) (lo2 : (ad == sysModules) = false)
   (hzn : kn.length ≤ 1000) (hza : ka.length ≤ 1000)
   (d1 : x ≠ nd) (d2 : x ≠ ad) (d3 : dx ≠ nd) (d4 : dx ≠ ad) (d5 : nd ≠ ad)
   (hv : valueAt kn v = some (.ref na)) (hna : (na, ona) ∈ news) (hona : ona.IsDictOf (strKind Challenge.rw_aq6051_01.row.prog w) [])
   (hQ : ∀ h' tk news' o', Fr h₀ L h' m → News h₀ L h' news' → (na, o') ∈ news' → o'.IsDictOf (strKind Challenge.rw_aq6051_01.row.prog w) [] → (∀ qa qo, (qa, qo) ∈ news → qa ≠ na → (qa, qo) ∈ news') → Q .none { s with heap := h', toks := tk }) :
   wpAny (model Challenge.rw_aq6051_01.row.prog w) (((callerA.deeper e2).deeper e1).deeper (envOf cn { kind := .function, names := cnm, isGenerator := cig, isCoroutine := cic, more := cmo } L a ccd)) (call (.ref 426) [.ref x, .int v tv]) Q E s := by
  revert X₀
  k_fill
  intro X₀
  w_on
  k_steps
  exact hQ _ _ _ _ (by assumption) (by assumption) (by k_mem) (by assumption) (by intro qa qo hq n1; k_mem)

set_option maxRecDepth 100000 in
set_option maxHeartbeats 4000000 in
theorem add_node_new {w : World} {A₀ : Around} {base h₀ : Heap} {L a : Addr} {m mg mb : Str → Option Value} {cn : Str} {cnm : List (Str × NameKind)} {cig cic : Bool} {cmo : List (Str × Const)} {ccd : Value} {news : List (Addr × Obj)}
   {p : Program} {loose : List Str} {mean : ExcName → Option Value} {s : Shared} {Q E : Value → Shared → Prop} {e1 e2 : Env} {x dx gd nd ad : Addr} {t1 t2 t3 : Tok} {h1 h2 h3 : Int} {ep : Nat} {ond oad : Obj} {kn ka : List (Int × Value)}
   {v : Int} {tv : Tok}
   (B : Below A₀ base [e1, e2] h₀) (F : Fr h₀ L s.heap m) (X₀ : (hd.heap_39 w.params).In h₀) (N : News h₀ L s.heap news) (T : Top p loose mean mg mb h₀)
   (hx : (x, instObj 617 dx) ∈ news) (hdx : (dx, dictOf [⟨h1, .str "graph" t1, .ref gd⟩, ⟨h2, .str "_node" t2, .ref nd⟩, ⟨h3, .str "_adj" t3, .ref ad⟩] ep) ∈ news)
   (hnd : (nd, ond) ∈ news) (hond : ond.IsDictOf (intKind Challenge.rw_aq6051_01.row.prog w) kn) (lo1 : (nd == sysModules) = false)
   (had : (ad, oad) ∈ news) (hoad : oad.IsDictOf (intKind Challenge.rw_aq6051_01.row.prog w) ka) (lo2 : (ad == sysModules) = false)
   (hzn : kn.length ≤ 1000) (hza : ka.length ≤ 1000)
   (d1 : x ≠ nd) (d2 : x ≠ ad) (d3 : dx ≠ nd) (d4 : dx ≠ ad) (d5 : nd ≠ ad)
   (hv : valueAt kn v = none)
   (hQ : ∀ h' tk news' na aa ona oaa ond' oad', Fr h₀ L h' m → News h₀ L h' news' → (nd, ond') ∈ news' → ond'.IsDictOf (intKind Challenge.rw_aq6051_01.row.prog w) (stored kn v (.ref na)) → (ad, oad') ∈ news' → oad'.IsDictOf (intKind Challenge.rw_aq6051_01.row.prog w) (stored ka v (.ref aa)) →
     (na, ona) ∈ news' → ona.IsDictOf (strKind Challenge.rw_aq6051_01.row.prog w) [] → (na == sysModules) = false → (aa, oaa) ∈ news' → oaa.IsDictOf (intKind Challenge.rw_aq6051_01.row.prog w) [] → (aa == sysModules) = false → na ≠ aa → (∀ qa qo, (qa, qo) ∈ news → qa ≠ na ∧ qa ≠ aa) →
     (∀ qa qo, (qa, qo) ∈ news → qa ≠ nd → qa ≠ ad → (qa, qo) ∈ news') → Q .none { s with heap := h', toks := tk }) :
   wpAny (model Challenge.rw_aq6051_01.row.prog w) (((callerA.deeper e2).deeper e1).deeper (envOf cn { kind := .function, names := cnm, isGenerator := cig, isCoroutine := cic, more := cmo } L a ccd)) (call (.ref 426) [.ref x, .int v tv]) Q E s := by
  revert X₀
  k_fill
  intro X₀
  w_on
  k_steps
  exact hQ _ _ _ _ _ _ _ _ _ (by assumption) (by assumption) (by k_mem) (by assumption) (by k_mem) (by assumption) (by k_mem) (by assumption) (by assumption) (by k_mem) (by assumption) (by assumption) (by walk_at "g_ne") (by intro qa qo hq; exact ⟨by walk_at "g_ne", by walk_at "g_ne"⟩) (by intro qa qo hq n1 n2; k_mem)


end Mine
end

section
open PySem PySem.W PyProof.Rows PySem.Calls PySem.Spec PyProof.V
set_option Elab.async false
set_option linter.unusedVariables false
namespace Mine
local macro_rules | `(tactic| k_lt $_h:ident) => `(tactic| skip)
local macro_rules | `(tactic| walk_at "g_ne") => `(tactic| first | with_reducible assumption | (refine Ne.symm ?_; with_reducible assumption) | (refine' ne_fresh ?l ?h; (case l => with_reducible assumption); (case h => walk_at "g_has")) | (refine' ne_fresh' ?l ?h; (case l => with_reducible assumption); (case h => walk_at "g_has")))
local macro_rules | `(tactic| walk_at "g_has") => `(tactic| first | with_reducible exact Has.of (by with_reducible assumption) | with_reducible exact Has.self | with_reducible exact Has.self_upd | (with_reducible refine Has.cons ?_; walk_at "g_has") | (with_reducible refine Has.upd ?_; walk_at "g_has"))
local macro_rules | `(tactic| k_mem) => `(tactic| first | with_reducible assumption | with_reducible exact mem_upd_self | (with_reducible refine' mem_upd ?h ?n; (case h => k_mem); (case n => walk_at "g_ne")) | with_reducible exact List.mem_cons_self | (with_reducible refine List.mem_cons_of_mem _ ?_; k_mem))
local macro_rules | `(tactic| walk_at "g_val") => `(tactic| first | with_reducible assumption | with_reducible exact valueAt_stored_self _ _ _ | (rw [valueAt_stored_ne (by walk_at "g_ne")]; walk_at "g_val") | rfl)
local macro_rules | `(tactic| walk_at "g_size") => `(tactic| (rw [sizeLine_eq]; first | omega | (refine Nat.le_trans (stored_length_le _ _ _) ?_; omega) | (simp; done)))
local macro_rules | `(tactic| walk_at "compareOp NotIn int ref") => `(tactic| (k_here; k_dflt (first
  | (refine' r_notin_no (knd := PySem.intKind _ _) ?N ?hp ?hd ?lo (intKind_is _ _ _ _) ?hl ?_; (case N => k_asm); (case hp => k_mem); (case hd => with_reducible assumption); (case lo => with_reducible assumption); (case hl => walk_at "g_val"))
  | (refine' r_notin_yes (knd := PySem.intKind _ _) ?N ?hp ?hd ?lo (intKind_is _ _ _ _) ?hl ?_; (case N => k_asm); (case hp => k_mem); (case hd => with_reducible assumption); (case lo => with_reducible assumption); (case hl => walk_at "g_val")))))
local macro_rules | `(tactic| walk_at "compareOp In int ref") => `(tactic| (k_here; k_dflt (first
  | (refine' r_in_no (knd := PySem.intKind _ _) ?N ?hp ?hd ?lo (intKind_is _ _ _ _) ?hl ?_; (case N => k_asm); (case hp => k_mem); (case hd => with_reducible assumption); (case lo => with_reducible assumption); (case hl => walk_at "g_val"))
  | (refine' r_in_yes (knd := PySem.intKind _ _) ?N ?hp ?hd ?lo (intKind_is _ _ _ _) ?hl ?_; (case N => k_asm); (case hp => k_mem); (case hd => with_reducible assumption); (case lo => with_reducible assumption); (case hl => walk_at "g_val")))))
local macro_rules | `(tactic| walk_at "getItem ref int") => `(tactic| (k_here; k_dflt (refine' kdt_getItem (knd := PySem.intKind _ _) ?N ?hp ?hd (intKind_is _ _ _ _) ?hl ?_; (case N => k_asm); (case hp => k_mem); (case hd => with_reducible assumption); (case hl => walk_at "g_val"))))
local macro_rules | `(tactic| walk_at "subscriptTail") => `(tactic| (k_here; (with_reducible show wpAny _ _ (subscriptTail _ _ (Value.ref _) (Value.int _ _)) _ _ _); k_dflt (refine' kdt_tail (knd := PySem.intKind _ _) ?N ?hp ?hd ?_; (case N => k_asm); (case hp => k_mem); (case hd => with_reducible assumption))))
local macro_rules | `(tactic| walk_at "setItem ref int") => `(tactic| (k_here; k_dflt (refine' r_set (knd := PySem.intKind _ _) ?F ?N ?hm ?hd (intKind_is _ _ _ _) ?z ?_; (case F => k_asm); (case N => k_asm); (case hm => k_mem); (case hd => with_reducible assumption); (case z => walk_at "g_size")); intro h' o' F' N' hd'))
local macro_rules | `(tactic| walk_at "call builtin:dict.get") => `(tactic| (k_here; k_dflt (refine' r_get2_no (knd := PySem.intKind _ _) ?N ?hp ?hd ?lo (intKind_is _ _ _ _) ?hl ?_; (case N => k_asm); (case hp => k_mem); (case hd => with_reducible assumption); (case lo => with_reducible assumption); (case hl => walk_at "g_val"))))
local macro_rules | `(tactic| walk_at "call builtin:dict.update") => `(tactic| (k_here; k_dflt (refine' r_update_nil ?F ?N ?hm ?hd ?hm2 ?hd2 ?lo ?ne ?_; (case F => k_asm); (case N => k_asm); (case hm => k_mem); (case hd => with_reducible assumption); (case hm2 => k_mem); (case hd2 => with_reducible assumption); (case lo => with_reducible assumption); (case ne => walk_at "g_ne")); intro h' o' F' N' hd'))
local macro_rules | `(tactic| walk_at "getMethod ref") => `(tactic| (k_here; k_dflt (first
  | ((with_reducible show wpAny _ _ (getMethod (Value.ref _) (Str.ofString "get") _) _ _ _); refine' kdg_method (knd := PySem.intKind _ _) ?N ?hp ?hd ?_; (case N => k_asm); (case hp => k_mem); (case hd => with_reducible assumption))
  | ((with_reducible show wpAny _ _ (getMethod (Value.ref _) (Str.ofString "update") _) _ _ _); refine' kdl_method (knd := PySem.strKind _ _) PySem.F.slot_dict_update PySem.F.type_dict_update ?N ?hp ?hd ?_; (case N => k_asm); (case hp => k_mem); (case hd => with_reducible assumption)))))

set_option maxRecDepth 100000 in
set_option maxHeartbeats 4000000 in
theorem add_edge_new {w : World} {A₀ : Around} {base h₀ : Heap} {L a : Addr} {m mg mb : Str → Option Value} {cn : Str} {cnm : List (Str × NameKind)} {cig cic : Bool} {cmo : List (Str × Const)} {ccd : Value} {news : List (Addr × Obj)}
   {p : Program} {loose : List Str} {mean : ExcName → Option Value} {s : Shared} {Q E : Value → Shared → Prop} {e1 e2 : Env} {x dx gd nd ad : Addr} {t1 t2 t3 : Tok} {h1 h2 h3 : Int} {ep : Nat} {ond oad : Obj} {kn ka : List (Int × Value)}
   {u v : Int} {tu tv : Tok} {nv av : Addr} {oav : Obj} {kv : List (Int × Value)}
   (B : Below A₀ base [e1, e2] h₀) (F : Fr h₀ L s.heap m) (X₀ : (hd.heap_39 w.params).In h₀) (N : News h₀ L s.heap news) (T : Top p loose mean mg mb h₀)
   (hx : (x, instObj 617 dx) ∈ news) (hdx : (dx, dictOf [⟨h1, .str "graph" t1, .ref gd⟩, ⟨h2, .str "_node" t2, .ref nd⟩, ⟨h3, .str "_adj" t3, .ref ad⟩] ep) ∈ news)
   (hnd : (nd, ond) ∈ news) (hond : ond.IsDictOf (intKind Challenge.rw_aq6051_01.row.prog w) kn) (lo1 : (nd == sysModules) = false)
   (had : (ad, oad) ∈ news) (hoad : oad.IsDictOf (intKind Challenge.rw_aq6051_01.row.prog w) ka) (lo2 : (ad == sysModules) = false)
   (hzn : kn.length ≤ 1000) (hza : ka.length ≤ 1000)
   (d1 : x ≠ nd) (d2 : x ≠ ad) (d3 : dx ≠ nd) (d4 : dx ≠ ad) (d5 : nd ≠ ad)
   (hu : valueAt kn u = none) (hv : valueAt kn v = some (.ref nv)) (hav : valueAt ka v = some (.ref av)) (hoav : (av, oav) ∈ news) (hkv : oav.IsDictOf (intKind Challenge.rw_aq6051_01.row.prog w) kv) (lo3 : (av == sysModules) = false) (hzv : kv.length ≤ 1000)
   (uv : u ≠ v) (d6 : x ≠ av) (d7 : dx ≠ av) (d8 : nd ≠ av) (d9 : ad ≠ av)
   (hQ : ∀ h' tk news' na au dd ona oau oav' ond' oad', Fr h₀ L h' m → News h₀ L h' news' → (nd, ond') ∈ news' → ond'.IsDictOf (intKind Challenge.rw_aq6051_01.row.prog w) (stored kn u (.ref na)) → (ad, oad') ∈ news' → oad'.IsDictOf (intKind Challenge.rw_aq6051_01.row.prog w) (stored ka u (.ref au)) →
     (na, ona) ∈ news' → ona.IsDictOf (strKind Challenge.rw_aq6051_01.row.prog w) [] → (na == sysModules) = false → (au, oau) ∈ news' → oau.IsDictOf (intKind Challenge.rw_aq6051_01.row.prog w) (stored [] v (.ref dd)) → (au == sysModules) = false → (av, oav') ∈ news' → oav'.IsDictOf (intKind Challenge.rw_aq6051_01.row.prog w) (stored kv u (.ref dd)) →
     na ≠ au → (∀ qa qo, (qa, qo) ∈ news → qa ≠ na ∧ qa ≠ au) →
     (∀ qa qo, (qa, qo) ∈ news → qa ≠ nd → qa ≠ ad → qa ≠ av → (qa, qo) ∈ news') → Q .none { s with heap := h', toks := tk }) :
   wpAny (model Challenge.rw_aq6051_01.row.prog w) (((callerA.deeper e2).deeper e1).deeper (envOf cn { kind := .function, names := cnm, isGenerator := cig, isCoroutine := cic, more := cmo } L a ccd)) (call (.ref 485) [.ref x, .int u tu, .int v tv]) Q E s := by
  revert X₀
  k_fill
  intro X₀
  w_on
  k_steps
  exact hQ _ _ _ _ _ _ _ _ _ _ _ (by assumption) (by assumption) (by k_mem) (by with_reducible assumption) (by k_mem) (by with_reducible assumption) (by k_mem) (by with_reducible assumption) (by with_reducible assumption) (by k_mem) (by with_reducible assumption) (by with_reducible assumption) (by k_mem) (by with_reducible assumption) (by walk_at "g_ne") (by intro qa qo hq; exact ⟨by walk_at "g_ne", by walk_at "g_ne"⟩) (by intro qa qo hq n1 n2 n3; k_mem)

set_option maxRecDepth 100000 in
set_option maxHeartbeats 4000000 in
theorem add_edge_old {w : World} {A₀ : Around} {base h₀ : Heap} {L a : Addr} {m mg mb : Str → Option Value} {cn : Str} {cnm : List (Str × NameKind)} {cig cic : Bool} {cmo : List (Str × Const)} {ccd : Value} {news : List (Addr × Obj)}
   {p : Program} {loose : List Str} {mean : ExcName → Option Value} {s : Shared} {Q E : Value → Shared → Prop} {e1 e2 : Env} {x dx gd nd ad : Addr} {t1 t2 t3 : Tok} {h1 h2 h3 : Int} {ep : Nat} {ond oad : Obj} {kn ka : List (Int × Value)}
   {u v : Int} {tu tv : Tok} {nu nv au av : Addr} {oau oav : Obj} {ku kv : List (Int × Value)}
   (B : Below A₀ base [e1, e2] h₀) (F : Fr h₀ L s.heap m) (X₀ : (hd.heap_39 w.params).In h₀) (N : News h₀ L s.heap news) (T : Top p loose mean mg mb h₀)
   (hx : (x, instObj 617 dx) ∈ news) (hdx : (dx, dictOf [⟨h1, .str "graph" t1, .ref gd⟩, ⟨h2, .str "_node" t2, .ref nd⟩, ⟨h3, .str "_adj" t3, .ref ad⟩] ep) ∈ news)
   (hnd : (nd, ond) ∈ news) (hond : ond.IsDictOf (intKind Challenge.rw_aq6051_01.row.prog w) kn) (lo1 : (nd == sysModules) = false)
   (had : (ad, oad) ∈ news) (hoad : oad.IsDictOf (intKind Challenge.rw_aq6051_01.row.prog w) ka) (lo2 : (ad == sysModules) = false)
   (hzn : kn.length ≤ 1000) (hza : ka.length ≤ 1000)
   (d1 : x ≠ nd) (d2 : x ≠ ad) (d3 : dx ≠ nd) (d4 : dx ≠ ad) (d5 : nd ≠ ad)
   (hu : valueAt kn u = some (.ref nu)) (hv : valueAt kn v = some (.ref nv)) (hau : valueAt ka u = some (.ref au)) (hav : valueAt ka v = some (.ref av)) (hoav : (av, oav) ∈ news) (hkv : oav.IsDictOf (intKind Challenge.rw_aq6051_01.row.prog w) kv) (lo3 : (av == sysModules) = false) (hzv : kv.length ≤ 1000)
   (hoau : (au, oau) ∈ news) (hku : oau.IsDictOf (intKind Challenge.rw_aq6051_01.row.prog w) ku) (lo4 : (au == sysModules) = false) (hzu : ku.length ≤ 1000) (huv : valueAt ku v = none)
   (uv : u ≠ v) (d6 : x ≠ av) (d7 : dx ≠ av) (d8 : nd ≠ av) (d9 : ad ≠ av) (d10 : x ≠ au) (d11 : dx ≠ au) (d12 : nd ≠ au) (d13 : ad ≠ au) (d14 : au ≠ av)
   (hQ : ∀ h' tk news' dd oau' oav', Fr h₀ L h' m → News h₀ L h' news' → (nd, ond) ∈ news' → (ad, oad) ∈ news' →
     (au, oau') ∈ news' → oau'.IsDictOf (intKind Challenge.rw_aq6051_01.row.prog w) (stored ku v (.ref dd)) → (av, oav') ∈ news' → oav'.IsDictOf (intKind Challenge.rw_aq6051_01.row.prog w) (stored kv u (.ref dd)) →
     (∀ qa qo, (qa, qo) ∈ news → qa ≠ au → qa ≠ av → (qa, qo) ∈ news') → Q .none { s with heap := h', toks := tk }) :
   wpAny (model Challenge.rw_aq6051_01.row.prog w) (((callerA.deeper e2).deeper e1).deeper (envOf cn { kind := .function, names := cnm, isGenerator := cig, isCoroutine := cic, more := cmo } L a ccd)) (call (.ref 485) [.ref x, .int u tu, .int v tv]) Q E s := by
  revert X₀
  k_fill
  intro X₀
  w_on
  k_steps
  exact hQ _ _ _ _ _ _ (by assumption) (by assumption) (by k_mem) (by k_mem) (by k_mem) (by with_reducible assumption) (by k_mem) (by with_reducible assumption) (by intro qa qo hq n1 n2; k_mem)

set_option maxRecDepth 100000 in
set_option maxHeartbeats 4000000 in
theorem has_edge_yes {w : World} {A₀ : Around} {base h₀ : Heap} {L a : Addr} {m mg mb : Str → Option Value} {cn : Str} {cnm : List (Str × NameKind)} {cig cic : Bool} {cmo : List (Str × Const)} {ccd : Value} {news : List (Addr × Obj)}
   {p : Program} {loose : List Str} {mean : ExcName → Option Value} {s : Shared} {Q E : Value → Shared → Prop} {e1 : Env} {x dx gd nd ad : Addr} {t1 t2 t3 : Tok} {h1 h2 h3 : Int} {ep : Nat} {ond oad : Obj} {kn ka : List (Int × Value)}
   {u v : Int} {tu tv : Tok} {au : Addr} {oau : Obj} {ku : List (Int × Value)} {y : Value}
   (B : Below A₀ base [e1] h₀) (F : Fr h₀ L s.heap m) (X₀ : (hd.heap_39 w.params).In h₀) (N : News h₀ L s.heap news) (T : Top p loose mean mg mb h₀)
   (hx : (x, instObj 617 dx) ∈ news) (hdx : (dx, dictOf [⟨h1, .str "graph" t1, .ref gd⟩, ⟨h2, .str "_node" t2, .ref nd⟩, ⟨h3, .str "_adj" t3, .ref ad⟩] ep) ∈ news)
   (hnd : (nd, ond) ∈ news) (hond : ond.IsDictOf (intKind Challenge.rw_aq6051_01.row.prog w) kn) (lo1 : (nd == sysModules) = false)
   (had : (ad, oad) ∈ news) (hoad : oad.IsDictOf (intKind Challenge.rw_aq6051_01.row.prog w) ka) (lo2 : (ad == sysModules) = false)
   (hzn : kn.length ≤ 1000) (hza : ka.length ≤ 1000)
   (d1 : x ≠ nd) (d2 : x ≠ ad) (d3 : dx ≠ nd) (d4 : dx ≠ ad) (d5 : nd ≠ ad)
   (hau : valueAt ka u = some (.ref au)) (hoau : (au, oau) ∈ news) (hku : oau.IsDictOf (intKind Challenge.rw_aq6051_01.row.prog w) ku) (lo4 : (au == sysModules) = false) (huv : valueAt ku v = some y)
   (hQ : ∀ h' tk, Fr h₀ L h' m → News h₀ L h' news → Q (.bool true) { s with heap := h', toks := tk }) :
   wpAny (model Challenge.rw_aq6051_01.row.prog w) ((callerA.deeper e1).deeper (envOf cn { kind := .function, names := cnm, isGenerator := cig, isCoroutine := cic, more := cmo } L a ccd)) (call (.ref 513) [.ref x, .int u tu, .int v tv]) Q E s := by
  revert X₀
  k_fill
  intro X₀
  w_on
  k_steps
  exact hQ _ _ (by assumption) (by assumption)
set_option maxRecDepth 100000 in
set_option maxHeartbeats 4000000 in
theorem has_edge_no {w : World} {A₀ : Around} {base h₀ : Heap} {L a : Addr} {m mg mb : Str → Option Value} {cn : Str} {cnm : List (Str × NameKind)} {cig cic : Bool} {cmo : List (Str × Const)} {ccd : Value} {news : List (Addr × Obj)}
   {p : Program} {loose : List Str} {mean : ExcName → Option Value} {s : Shared} {Q E : Value → Shared → Prop} {e1 : Env} {x dx gd nd ad : Addr} {t1 t2 t3 : Tok} {h1 h2 h3 : Int} {ep : Nat} {ond oad : Obj} {kn ka : List (Int × Value)}
   {u v : Int} {tu tv : Tok} {au : Addr} {oau : Obj} {ku : List (Int × Value)}
   (B : Below A₀ base [e1] h₀) (F : Fr h₀ L s.heap m) (X₀ : (hd.heap_39 w.params).In h₀) (N : News h₀ L s.heap news) (T : Top p loose mean mg mb h₀)
   (hx : (x, instObj 617 dx) ∈ news) (hdx : (dx, dictOf [⟨h1, .str "graph" t1, .ref gd⟩, ⟨h2, .str "_node" t2, .ref nd⟩, ⟨h3, .str "_adj" t3, .ref ad⟩] ep) ∈ news)
   (hnd : (nd, ond) ∈ news) (hond : ond.IsDictOf (intKind Challenge.rw_aq6051_01.row.prog w) kn) (lo1 : (nd == sysModules) = false)
   (had : (ad, oad) ∈ news) (hoad : oad.IsDictOf (intKind Challenge.rw_aq6051_01.row.prog w) ka) (lo2 : (ad == sysModules) = false)
   (hzn : kn.length ≤ 1000) (hza : ka.length ≤ 1000)
   (d1 : x ≠ nd) (d2 : x ≠ ad) (d3 : dx ≠ nd) (d4 : dx ≠ ad) (d5 : nd ≠ ad)
   (hau : valueAt ka u = some (.ref au)) (hoau : (au, oau) ∈ news) (hku : oau.IsDictOf (intKind Challenge.rw_aq6051_01.row.prog w) ku) (lo4 : (au == sysModules) = false) (huv : valueAt ku v = none)
   (hQ : ∀ h' tk, Fr h₀ L h' m → News h₀ L h' news → Q (.bool false) { s with heap := h', toks := tk }) :
   wpAny (model Challenge.rw_aq6051_01.row.prog w) ((callerA.deeper e1).deeper (envOf cn { kind := .function, names := cnm, isGenerator := cig, isCoroutine := cic, more := cmo } L a ccd)) (call (.ref 513) [.ref x, .int u tu, .int v tv]) Q E s := by
  revert X₀
  k_fill
  intro X₀
  w_on
  k_steps
  exact hQ _ _ (by assumption) (by assumption)


end Mine
end

section
open PySem PySem.W PyProof.Rows PySem.Calls PySem.Spec PyProof.V
set_option Elab.async false
set_option linter.unusedVariables false
namespace Mine
local macro_rules | `(tactic| k_lt $_h:ident) => `(tactic| skip)
local macro_rules | `(tactic| walk_at "g_ne") => `(tactic| first | with_reducible assumption | (refine Ne.symm ?_; with_reducible assumption) | (refine' ne_fresh ?l ?h; (case l => with_reducible assumption); (case h => walk_at "g_has")) | (refine' ne_fresh' ?l ?h; (case l => with_reducible assumption); (case h => walk_at "g_has")))
local macro_rules | `(tactic| walk_at "g_has") => `(tactic| first | with_reducible exact Has.of (by with_reducible assumption) | with_reducible exact Has.self | with_reducible exact Has.self_upd | (with_reducible refine Has.cons ?_; walk_at "g_has") | (with_reducible refine Has.upd ?_; walk_at "g_has"))
local macro_rules | `(tactic| k_mem) => `(tactic| first | with_reducible assumption | with_reducible exact mem_upd_self | (with_reducible refine' mem_upd ?h ?n; (case h => k_mem); (case n => walk_at "g_ne")) | with_reducible exact List.mem_cons_self | (with_reducible refine List.mem_cons_of_mem _ ?_; k_mem))
local macro_rules | `(tactic| walk_at "g_val") => `(tactic| first | with_reducible assumption | with_reducible exact valueAt_stored_self _ _ _ | (rw [valueAt_stored_ne (by walk_at "g_ne")]; walk_at "g_val") | rfl)
local macro_rules | `(tactic| walk_at "g_size") => `(tactic| (rw [sizeLine_eq]; first | omega | (refine Nat.le_trans (stored_length_le _ _ _) ?_; omega) | (simp; done)))
local macro_rules | `(tactic| walk_at "compareOp NotIn int ref") => `(tactic| (k_here; k_dflt (first
  | (refine' r_notin_no (knd := PySem.intKind _ _) ?N ?hp ?hd ?lo (intKind_is _ _ _ _) ?hl ?_; (case N => k_asm); (case hp => k_mem); (case hd => with_reducible assumption); (case lo => with_reducible assumption); (case hl => walk_at "g_val"))
  | (refine' r_notin_yes (knd := PySem.intKind _ _) ?N ?hp ?hd ?lo (intKind_is _ _ _ _) ?hl ?_; (case N => k_asm); (case hp => k_mem); (case hd => with_reducible assumption); (case lo => with_reducible assumption); (case hl => walk_at "g_val")))))
local macro_rules | `(tactic| walk_at "compareOp In int ref") => `(tactic| (k_here; k_dflt (first
  | (refine' r_in_no (knd := PySem.intKind _ _) ?N ?hp ?hd ?lo (intKind_is _ _ _ _) ?hl ?_; (case N => k_asm); (case hp => k_mem); (case hd => with_reducible assumption); (case lo => with_reducible assumption); (case hl => walk_at "g_val"))
  | (refine' r_in_yes (knd := PySem.intKind _ _) ?N ?hp ?hd ?lo (intKind_is _ _ _ _) ?hl ?_; (case N => k_asm); (case hp => k_mem); (case hd => with_reducible assumption); (case lo => with_reducible assumption); (case hl => walk_at "g_val")))))
local macro_rules | `(tactic| walk_at "getItem ref int") => `(tactic| (k_here; k_dflt (refine' kdt_getItem (knd := PySem.intKind _ _) ?N ?hp ?hd (intKind_is _ _ _ _) ?hl ?_; (case N => k_asm); (case hp => k_mem); (case hd => with_reducible assumption); (case hl => walk_at "g_val"))))
local macro_rules | `(tactic| walk_at "subscriptTail") => `(tactic| (k_here; (with_reducible show wpAny _ _ (subscriptTail _ _ (Value.ref _) (Value.int _ _)) _ _ _); k_dflt (refine' kdt_tail (knd := PySem.intKind _ _) ?N ?hp ?hd ?_; (case N => k_asm); (case hp => k_mem); (case hd => with_reducible assumption))))
local macro_rules | `(tactic| walk_at "setItem ref int") => `(tactic| (k_here; k_dflt (refine' r_set (knd := PySem.intKind _ _) ?F ?N ?hm ?hd (intKind_is _ _ _ _) ?z ?_; (case F => k_asm); (case N => k_asm); (case hm => k_mem); (case hd => with_reducible assumption); (case z => walk_at "g_size")); intro h' o' F' N' hd'))
local macro_rules | `(tactic| walk_at "call builtin:dict.get") => `(tactic| (k_here; k_dflt (refine' r_get2_no (knd := PySem.intKind _ _) ?N ?hp ?hd ?lo (intKind_is _ _ _ _) ?hl ?_; (case N => k_asm); (case hp => k_mem); (case hd => with_reducible assumption); (case lo => with_reducible assumption); (case hl => walk_at "g_val"))))
local macro_rules | `(tactic| walk_at "call builtin:dict.update") => `(tactic| (k_here; k_dflt (refine' r_update_nil ?F ?N ?hm ?hd ?hm2 ?hd2 ?lo ?ne ?_; (case F => k_asm); (case N => k_asm); (case hm => k_mem); (case hd => with_reducible assumption); (case hm2 => k_mem); (case hd2 => with_reducible assumption); (case lo => with_reducible assumption); (case ne => walk_at "g_ne")); intro h' o' F' N' hd'))
local macro_rules | `(tactic| walk_at "getMethod ref") => `(tactic| (k_here; k_dflt (first
  | ((with_reducible show wpAny _ _ (getMethod (Value.ref _) (Str.ofString "get") _) _ _ _); refine' kdg_method (knd := PySem.intKind _ _) ?N ?hp ?hd ?_; (case N => k_asm); (case hp => k_mem); (case hd => with_reducible assumption))
  | ((with_reducible show wpAny _ _ (getMethod (Value.ref _) (Str.ofString "update") _) _ _ _); refine' kdl_method (knd := PySem.strKind _ _) PySem.F.slot_dict_update PySem.F.type_dict_update ?N ?hp ?hd ?_; (case N => k_asm); (case hp => k_mem); (case hd => with_reducible assumption)))))

local macro_rules | `(tactic| walk_at "call builtin:len") => `(tactic| (k_here; (with_reducible show wpAny _ _ (call (Value.builtin "len") [Value.ref _]) _ _ _); k_dflt (refine' kda_len (knd := PySem.intKind _ _) ?N ?hp ?hd ?lo ?z ?_; (case N => k_asm); (case hp => k_mem); (case hd => with_reducible assumption); (case lo => with_reducible assumption); (case z => omega))))
set_option maxRecDepth 100000 in
set_option maxHeartbeats 4000000 in
theorem g_iter3 {w : World} {A₀ : Around} {base h₀ : Heap} {L a : Addr} {m mg mb : Str → Option Value} {cn : Str} {cnm : List (Str × NameKind)} {cig cic : Bool} {cmo : List (Str × Const)} {ccd : Value} {news : List (Addr × Obj)}
   {p : Program} {loose : List Str} {mean : ExcName → Option Value} {s : Shared} {Q E : Value → Shared → Prop} {e1 e2 : Env} {x dx gd nd ad : Addr} {t1 t2 t3 : Tok} {h1 h2 h3 : Int} {ep : Nat} {ond oad : Obj} {kn ka : List (Int × Value)}
   (B : Below A₀ base [e1, e2] h₀) (F : Fr h₀ L s.heap m) (X₀ : (hd.heap_39 w.params).In h₀) (N : News h₀ L s.heap news) (T : Top p loose mean mg mb h₀)
   (hx : (x, instObj 617 dx) ∈ news) (hdx : (dx, dictOf [⟨h1, .str "graph" t1, .ref gd⟩, ⟨h2, .str "_node" t2, .ref nd⟩, ⟨h3, .str "_adj" t3, .ref ad⟩] ep) ∈ news)
   (hnd : (nd, ond) ∈ news) (hond : ond.IsDictOf (intKind Challenge.rw_aq6051_01.row.prog w) kn) (lo1 : (nd == sysModules) = false)
   (had : (ad, oad) ∈ news) (hoad : oad.IsDictOf (intKind Challenge.rw_aq6051_01.row.prog w) ka) (lo2 : (ad == sysModules) = false)
   (hzn : kn.length ≤ 1000) (hza : ka.length ≤ 1000)
   (d1 : x ≠ nd) (d2 : x ≠ ad) (d3 : dx ≠ nd) (d4 : dx ≠ ad) (d5 : nd ≠ ad)
   (hQ : ∀ h' tk I oI ep', Fr h₀ L h' m → News h₀ L h' ((I, oI) :: news) → (∀ q ∈ news, q.1 < I) → KdkIter oI nd 0 kn.length ep' → KdkAt (intKind Challenge.rw_aq6051_01.row.prog w) ond kn ep' → Q (.ref I) { s with heap := h', toks := tk }) :
   wpAny (model Challenge.rw_aq6051_01.row.prog w) ((((callerA.deeper e2).deeper e1).deeper (envOf cn { kind := .function, names := cnm, isGenerator := cig, isCoroutine := cic, more := cmo } L a ccd)).in1.in1) (call (.ref 398) [.ref x]) Q E s := by
  revert X₀
  k_fill
  intro X₀
  w_on
  k_steps
  exact hQ _ _ _ _ _ (by assumption) (by assumption) (by assumption) (by assumption) (by assumption)
set_option maxRecDepth 100000 in
set_option maxHeartbeats 4000000 in
theorem g_len3 {w : World} {A₀ : Around} {base h₀ : Heap} {L a : Addr} {m mg mb : Str → Option Value} {cn : Str} {cnm : List (Str × NameKind)} {cig cic : Bool} {cmo : List (Str × Const)} {ccd : Value} {news : List (Addr × Obj)}
   {p : Program} {loose : List Str} {mean : ExcName → Option Value} {s : Shared} {Q E : Value → Shared → Prop} {e1 e2 : Env} {x dx gd nd ad : Addr} {t1 t2 t3 : Tok} {h1 h2 h3 : Int} {ep : Nat} {ond oad : Obj} {kn ka : List (Int × Value)}
   (B : Below A₀ base [e1, e2] h₀) (F : Fr h₀ L s.heap m) (X₀ : (hd.heap_39 w.params).In h₀) (N : News h₀ L s.heap news) (T : Top p loose mean mg mb h₀)
   (hx : (x, instObj 617 dx) ∈ news) (hdx : (dx, dictOf [⟨h1, .str "graph" t1, .ref gd⟩, ⟨h2, .str "_node" t2, .ref nd⟩, ⟨h3, .str "_adj" t3, .ref ad⟩] ep) ∈ news)
   (hnd : (nd, ond) ∈ news) (hond : ond.IsDictOf (intKind Challenge.rw_aq6051_01.row.prog w) kn) (lo1 : (nd == sysModules) = false)
   (had : (ad, oad) ∈ news) (hoad : oad.IsDictOf (intKind Challenge.rw_aq6051_01.row.prog w) ka) (lo2 : (ad == sysModules) = false)
   (hzn : kn.length ≤ 1000) (hza : ka.length ≤ 1000)
   (d1 : x ≠ nd) (d2 : x ≠ ad) (d3 : dx ≠ nd) (d4 : dx ≠ ad) (d5 : nd ≠ ad)
   (hQ : ∀ h' tk t, Fr h₀ L h' m → News h₀ L h' news → Q (.int kn.length t) { s with heap := h', toks := tk }) :
   wpAny (model Challenge.rw_aq6051_01.row.prog w) ((((callerA.deeper e2).deeper e1).deeper (envOf cn { kind := .function, names := cnm, isGenerator := cig, isCoroutine := cic, more := cmo } L a ccd)).in1.in1) (call (.builtin "len") [.ref x]) Q E s := by
  revert X₀
  k_fill
  intro X₀
  w_on
  k_steps
  exact hQ _ _ _ (by assumption) (by assumption)
set_option maxRecDepth 100000 in
set_option maxHeartbeats 4000000 in
theorem g_iter2 {w : World} {A₀ : Around} {base h₀ : Heap} {L a : Addr} {m mg mb : Str → Option Value} {cn : Str} {cnm : List (Str × NameKind)} {cig cic : Bool} {cmo : List (Str × Const)} {ccd : Value} {news : List (Addr × Obj)}
   {p : Program} {loose : List Str} {mean : ExcName → Option Value} {s : Shared} {Q E : Value → Shared → Prop} {e1 : Env} {x dx gd nd ad : Addr} {t1 t2 t3 : Tok} {h1 h2 h3 : Int} {ep : Nat} {ond oad : Obj} {kn ka : List (Int × Value)}
   (B : Below A₀ base [e1] h₀) (F : Fr h₀ L s.heap m) (X₀ : (hd.heap_39 w.params).In h₀) (N : News h₀ L s.heap news) (T : Top p loose mean mg mb h₀)
   (hx : (x, instObj 617 dx) ∈ news) (hdx : (dx, dictOf [⟨h1, .str "graph" t1, .ref gd⟩, ⟨h2, .str "_node" t2, .ref nd⟩, ⟨h3, .str "_adj" t3, .ref ad⟩] ep) ∈ news)
   (hnd : (nd, ond) ∈ news) (hond : ond.IsDictOf (intKind Challenge.rw_aq6051_01.row.prog w) kn) (lo1 : (nd == sysModules) = false)
   (had : (ad, oad) ∈ news) (hoad : oad.IsDictOf (intKind Challenge.rw_aq6051_01.row.prog w) ka) (lo2 : (ad == sysModules) = false)
   (hzn : kn.length ≤ 1000) (hza : ka.length ≤ 1000)
   (d1 : x ≠ nd) (d2 : x ≠ ad) (d3 : dx ≠ nd) (d4 : dx ≠ ad) (d5 : nd ≠ ad)
   (hQ : ∀ h' tk I oI ep', Fr h₀ L h' m → News h₀ L h' ((I, oI) :: news) → (∀ q ∈ news, q.1 < I) → KdkIter oI nd 0 kn.length ep' → KdkAt (intKind Challenge.rw_aq6051_01.row.prog w) ond kn ep' → Q (.ref I) { s with heap := h', toks := tk }) :
   wpAny (model Challenge.rw_aq6051_01.row.prog w) (((callerA.deeper e1).deeper (envOf cn { kind := .function, names := cnm, isGenerator := cig, isCoroutine := cic, more := cmo } L a ccd)).in1.in1) (call (.ref 398) [.ref x]) Q E s := by
  revert X₀
  k_fill
  intro X₀
  w_on
  k_steps
  exact hQ _ _ _ _ _ (by assumption) (by assumption) (by assumption) (by assumption) (by assumption)
set_option maxRecDepth 100000 in
set_option maxHeartbeats 4000000 in
theorem g_len2 {w : World} {A₀ : Around} {base h₀ : Heap} {L a : Addr} {m mg mb : Str → Option Value} {cn : Str} {cnm : List (Str × NameKind)} {cig cic : Bool} {cmo : List (Str × Const)} {ccd : Value} {news : List (Addr × Obj)}
   {p : Program} {loose : List Str} {mean : ExcName → Option Value} {s : Shared} {Q E : Value → Shared → Prop} {e1 : Env} {x dx gd nd ad : Addr} {t1 t2 t3 : Tok} {h1 h2 h3 : Int} {ep : Nat} {ond oad : Obj} {kn ka : List (Int × Value)}
   (B : Below A₀ base [e1] h₀) (F : Fr h₀ L s.heap m) (X₀ : (hd.heap_39 w.params).In h₀) (N : News h₀ L s.heap news) (T : Top p loose mean mg mb h₀)
   (hx : (x, instObj 617 dx) ∈ news) (hdx : (dx, dictOf [⟨h1, .str "graph" t1, .ref gd⟩, ⟨h2, .str "_node" t2, .ref nd⟩, ⟨h3, .str "_adj" t3, .ref ad⟩] ep) ∈ news)
   (hnd : (nd, ond) ∈ news) (hond : ond.IsDictOf (intKind Challenge.rw_aq6051_01.row.prog w) kn) (lo1 : (nd == sysModules) = false)
   (had : (ad, oad) ∈ news) (hoad : oad.IsDictOf (intKind Challenge.rw_aq6051_01.row.prog w) ka) (lo2 : (ad == sysModules) = false)
   (hzn : kn.length ≤ 1000) (hza : ka.length ≤ 1000)
   (d1 : x ≠ nd) (d2 : x ≠ ad) (d3 : dx ≠ nd) (d4 : dx ≠ ad) (d5 : nd ≠ ad)
   (hQ : ∀ h' tk t, Fr h₀ L h' m → News h₀ L h' news → Q (.int kn.length t) { s with heap := h', toks := tk }) :
   wpAny (model Challenge.rw_aq6051_01.row.prog w) (((callerA.deeper e1).deeper (envOf cn { kind := .function, names := cnm, isGenerator := cig, isCoroutine := cic, more := cmo } L a ccd)).in1.in1) (call (.builtin "len") [.ref x]) Q E s := by
  revert X₀
  k_fill
  intro X₀
  w_on
  k_steps
  exact hQ _ _ _ (by assumption) (by assumption)

end Mine
end

section
open PySem PySem.W PyProof.Rows PySem.Calls PySem.Spec PyProof.V
set_option Elab.async false
set_option linter.unusedVariables false
set_option maxRecDepth 100000
namespace Mine
/-- list(x), sorted(x) for an own object whose __iter__ hands back a dict's key iterator and whose __len__ gives its length -/
structure OwnSrc (prog : Program) (w : World) (A : Around) (K : Frag) (h₀ : Heap) (L : Addr) (m : Str → Option Value) (news : List (Addr × Obj)) (C f g x d : Addr) (knd : KeyKind prog w Int) (ond : Obj) (kvs : List (Int × Value)) : Prop where
  inst : ∃ dx od, (x, instObj C dx) ∈ news ∧ (dx, od) ∈ news
  hmd : (d, ond) ∈ news
  hod : ond.IsDictOf knd kvs
  hxd : x ≠ d
  si : findIn K (.ref C) "__iter__" = some (some (.ref f))
  sf : isFn K (.ref f) = true
  sl : findIn K (.ref C) "__len__" = some (some (.ref g))
  iter : ∀ (news' : List (Addr × Obj)) (s : Shared) (Q E : Value → Shared → Prop), (∀ p ∈ news, p ∈ news') → Fr h₀ L s.heap m → News h₀ L s.heap news' →
    (∀ h' tk I oI ep', Fr h₀ L h' m → News h₀ L h' ((I, oI) :: news') → (∀ q ∈ news', q.1 < I) → KdkIter oI d 0 kvs.length ep' → KdkAt knd ond kvs ep' → Q (.ref I) { s with heap := h', toks := tk }) →
    wpAny (model prog w) A (call (.ref f) [.ref x]) Q E s
  len : ∀ (news' : List (Addr × Obj)) (s : Shared) (Q E : Value → Shared → Prop), (∀ p ∈ news, p ∈ news') → Fr h₀ L s.heap m → News h₀ L s.heap news' →
    (∀ h' tk t, Fr h₀ L h' m → News h₀ L h' news' → Q (.int kvs.length t) { s with heap := h', toks := tk }) →
    wpAny (model prog w) A (call (.builtin "len") [.ref x]) Q E s

section
variable {prog : Program} {w : World} {A : Around} {E : Value → Shared → Prop} {s : Shared} {K : Frag} {h₀ : Heap} {L : Addr} {m : Str → Option Value} {news : List (Addr × Obj)} {C f g x d S : Addr} {knd : KeyKind prog w Int} {ond : Obj} {kvs : List (Int × Value)}
theorem own_hint (O : OwnSrc prog w A K h₀ L m news C f g x d knd ond kvs) (X₀ : K.In h₀) {news' : List (Addr × Obj)} (hs : ∀ p ∈ news, p ∈ news') (F : Fr h₀ L s.heap m) (N : News h₀ L s.heap news') (hn : kvs.length ≤ 1000) {Q : Bool → Shared → Prop}
    (h : ∀ b h' tk, Fr h₀ L h' m → News h₀ L h' news' → Q b { s with heap := h', toks := tk }) : wpAny (model prog w) A (Builtin.List.listLengthHint (.ref x)) Q E s := by
  obtain ⟨dx, od, hx, hdx⟩ := O.inst
  have I : InstAt s.heap x (instObj C dx) C (some od) := InstAt.of_news N (hs _ hx) (hs _ hdx)
  unfold Builtin.List.listLengthHint
  refine wpAny_bind (wpAny_bind (I.type.here ((looks_findIn (X₀.keeps F.keep) O.sl).here ?_)))
  dsimp only
  refine wpAny_ite_split (fun h => absurd (show false = true from h) (by decide)) (fun _ => ?_)
  refine wpAny_ite_split (fun _ => ?_) (fun h => absurd rfl h)
  refine wpAny_bind (wpAny_rule ?_)
  refine wpAny_bind (wpAny_attempt (O.len news' s _ _ hs F N fun h' tk t F' N' => ?_))
  dsimp only
  refine wpAny_bind (m := asInt? _) (wpAny_pure ?_)
  dsimp only
  refine wpAny_ite_split (fun h => absurd h (by simp [Builtin.List.listTooLong, sizeLine_eq]; omega)) (fun _ => ?_)
  exact wpAny_pure (h _ _ _ F' N')
theorem own_extend {R : Result → Shared → Prop} (O : OwnSrc prog w A.in1 K h₀ L m news C f g x d knd ond kvs) (X₀ : K.In h₀) (hh : A.handled = none) {news' : List (Addr × Obj)} (hs : ∀ p ∈ news, p ∈ news') (F : Fr h₀ L s.heap m) (N : News h₀ L s.heap news') (hn : kvs.length ≤ 1000)
    (hSx : S ≠ x) (hSd : S ≠ d) (hSL : S ≠ L) (hS0 : h₀.get? S = none) (res : Value) (c₀ : Nat) (hS : (S, ({ cls := .type "list", data := .seq #[] c₀ } : Obj)) ∈ news')
    (hR : ∀ h' tk vs c, Fr h₀ L h' m → (∀ p ∈ news', p.1 ≠ S → h'.get? p.1 = some p.2) → h'.get? S = some { cls := .type "list", dict := none, data := .seq vs c, slots := #[] } → ItemsOf (fun i v => ∃ k x, kvs[i]? = some (k, x) ∧ knd.is k v = true) vs kvs.length → R (.ok (.ret res)) { s with heap := h', toks := tk }) :
    wpAny (model prog w) A.in1 (Builtin.List.listExtendWith (.ref S) (.ref x) res)
      (fun fin s' => match fin with | .done f => R (.ok f) s' | .again c' => c'.quiet = true ∧ codeAny (model prog w) A c' R s') E s := by
  obtain ⟨dx, od, hx, hdx⟩ := O.inst
  have I : InstAt s.heap x (instObj C dx) C (some od) := InstAt.of_news N (hs _ hx) (hs _ hdx)
  have hSlt : S < s.heap.objs.size := Heap.lt_size (N _ hS).1
  unfold Builtin.List.listExtendWith
  refine wpAny_bind (I.type.here ?_)
  have h1 : Builtin.List.listSameRef (.ref S) (.ref x) = false := by simp [Builtin.List.listSameRef, hSx]
  have h2 : (Value.ref C == Value.type "list") = false := beq_eq_false_iff_ne.mpr (by intro e; cases e)
  have h3 : (Value.ref C == Value.type "tuple") = false := beq_eq_false_iff_ne.mpr (by intro e; cases e)
  simp only [h1, h2, h3, Bool.or_false, Bool.false_eq_true, if_false]
  refine wpAny_bind (owit_iter F X₀ I O.si O.sf (O.iter news' s _ _ hs F N fun h' tk Ia oI ep' F' N' l1 hI hA => ?_))
  have hIt := hI.at (N' _ List.mem_cons_self).1
  have hDt := hA.dictAt (N' _ (List.mem_cons_of_mem _ (hs _ O.hmd))).1
  unfold OwitIt
  refine wpAny_specialOf (s := { s with heap := h', toks := tk }) hIt.typeIs PySem.F.slot_dict_keyiterator_next.lookup ?_
  dsimp only
  refine wpAny_bind (wpAny_holding (own_hint O X₀ (news' := (Ia, oI) :: news') (fun p hp => List.mem_cons_of_mem _ (hs p hp)) F' N' hn fun b h₂ tk₂ F₂ N₂ => ?_))
  have hS₂ := (N₂ _ (List.mem_cons_of_mem _ hS)).1
  have hIt₂ := hI.at (N₂ _ List.mem_cons_self).1
  have hDt₂ := hA.dictAt (N₂ _ (List.mem_cons_of_mem _ (hs _ O.hmd))).1
  have hSI : S ≠ Ia := Nat.ne_of_lt (l1 _ hS)
  have hId : Ia ≠ d := Nat.ne_of_gt (l1 _ (hs _ O.hmd))
  have hSf : S ∉ [Ia, d] := by simp only [List.mem_cons, List.not_mem_nil, or_false, not_or]; exact ⟨hSI, hSd⟩
  have W := Walks.dictKeys (prog := prog) (w := w) (knd := knd) (A := A.in1) hh Ia d (Ne.symm hId) kvs ep'
  have hIL : Ia ≠ L := (N' _ List.mem_cons_self).2.1
  have hI0 : h₀.get? Ia = none := (N' _ List.mem_cons_self).2.2
  have key : ∀ (h : Heap) (c₁ tk : Nat), h.IsKeyIter Ia d 0 kvs.length ep' → h.DictAt knd d kvs ep' → (∀ b o, b ≠ S → h₂.get? b = some o → h.get? b = some o) →
      h.get? S = some { cls := .type "list", data := .seq #[] c₁ } → codeAny (model prog w) A (.builtin "list.extend.loop" ⟨[.ref S, .ref Ia, res], []⟩) R { s with heap := h, toks := tk } := by
    intro h c₁ tk hst1 hst2 hk hS₁
    refine codeAny_extend_loopS W.toS (by rw [sizeLine_eq]; omega) S hSf res kvs.length 0 _ #[] c₁ rfl (Nat.zero_le _) ⟨hst1, hst2⟩ hS₁ (ItemsOf.nil _) fun s' acc' c' hm hS' hacc => ?_
    rw [Moved.eq_with hm]
    have old : ∀ b o, b ≠ S → b ≠ Ia → h₂.get? b = some o → s'.heap.get? b = some o := fun b o hb hb' e => hm.heap b o (by simp only [List.mem_cons, List.not_mem_nil, or_false, not_or]; exact ⟨hb, hb'⟩) (hk b o hb e)
    refine hR s'.heap s'.toks acc' c' ⟨F₂.ns.at' fun o e => old L o (Ne.symm hSL) (Ne.symm hIL) e, fun b o e => old b o (fun q => by rw [q, hS0] at e; cases e) (fun q => by rw [q, hI0] at e; cases e) (F₂.keep b o e), F₂.above⟩ (fun p hp hpS => ?_) hS' hacc
    exact old p.1 p.2 hpS (Nat.ne_of_lt (l1 _ hp)) (N₂ _ (List.mem_cons_of_mem _ hp)).1
  refine wpAny_ite_split (fun _ => ?_) (fun _ => wpAny_pure ⟨plainId_quiet PySem.F.plain_extend_loop _, key _ c₀ _ hIt₂ hDt₂ (fun b o _ e => e) hS₂⟩)
  refine wpAny_bind (wpAny_rule ?_)
  refine wpAny_bind ?_
  show wpAny _ _ (updateSeq S (·.push .none) >>= fun _ => updateSeq S (·.pop)) _ _ _
  refine wpAny_bind (wpAny_updateSeq hS₂ rfl ?_)
  have hS₃ := Heap.get?_update_self (Obj.mapSeq (·.push Value.none)) hS₂ rfl
  refine wpAny_updateSeq (hz := by seq_fits) hS₃ rfl ?_
  have hS₄ := Heap.get?_update_self (Obj.mapSeq (·.pop)) hS₃ rfl
  have up : ∀ b o, b ≠ S → h₂.get? b = some o → ((h₂.update S (Obj.mapSeq (·.push Value.none))).update S (Obj.mapSeq (·.pop))).get? b = some o := fun b o hb e =>
    (Heap.get?_update_other _ _ (Ne.symm hb)).trans ((Heap.get?_update_other _ _ (Ne.symm hb)).trans e)
  exact wpAny_pure ⟨plainId_quiet PySem.F.plain_extend_loop _, key _ _ _ (hIt₂.at fun o e => up _ o (Ne.symm hSI) e) (hDt₂.at' fun o e => up _ o (Ne.symm hSd) e) up hS₄⟩
theorem own_list {Q : Value → Shared → Prop} (O : OwnSrc prog w A.in1.in1 K h₀ L m news C f g x d knd ond kvs) (X₀ : K.In h₀) (hh : A.handled = none) (F : Fr h₀ L s.heap m) (N : News h₀ L s.heap news) (hn : kvs.length ≤ 1000)
    (hQ : ∀ B h' tk vs c, Fr h₀ L h' m → News h₀ L h' ((B, listOf vs c) :: news) → (∀ p ∈ news, p.1 < B) → ItemsOf (fun i v => ∃ k x, kvs[i]? = some (k, x) ∧ knd.is k v = true) vs kvs.length → Q (.ref B) { s with heap := h', toks := tk }) :
    wpAny (model prog w) A (call (.type "list") [.ref x]) Q E s := by
  obtain ⟨dx, od, hx, hdx⟩ := O.inst
  refine callType_codes (Q₁ := fun obj s₁ => obj = .ref s.heap.objs.size ∧ s₁ = { s with heap := s.heap.push { cls := .type "list", data := .seq #[] } }) PySem.F.called_list (PySem.F.typeCall_list_1 _) PySem.F.entry_list_init
    (code_list_new _ ⟨rfl, rfl⟩) fun obj s₁ h₁ => ?_
  obtain ⟨rfl, rfl⟩ := h₁
  have hSz : (s.heap.push { cls := .type "list", data := .seq #[] }).get? s.heap.objs.size = some { cls := .type "list", data := .seq #[] } := Heap.get?_push_size _ rfl
  refine ⟨⟨_, hSz, rfl⟩, PySem.F.args_list_init_2 _ _, ?_⟩
  show wpAny _ _ (do let old ← Builtin.List.listItems (.ref s.heap.objs.size); Builtin.List.listUpdate (.ref s.heap.objs.size) (fun _ => #[]); letGo old.toList.reverse; Builtin.List.listExtendWith (.ref s.heap.objs.size) (.ref x) .none) _ _ _
  refine wpAny_bind ?_
  unfold Builtin.List.listItems
  refine wpAny_bind (wpAny_seqItems hSz rfl (wpAny_pure ?_))
  show wpAny _ _ (updateSeq s.heap.objs.size (fun _ => #[]) >>= fun _ => letGo (#[] : Array Value).toList.reverse >>= fun _ => Builtin.List.listExtendWith (.ref s.heap.objs.size) (.ref x) .none) _ _ _
  refine wpAny_bind (wpAny_updateSeq hSz rfl ?_)
  have hS₂ := Heap.get?_update_self (Obj.mapSeq (fun _ => (#[] : Array Value))) hSz rfl
  have oth : ∀ b o, s.heap.get? b = some o → ((s.heap.push { cls := .type "list", data := .seq #[] }).update s.heap.objs.size (Obj.mapSeq (fun _ => (#[] : Array Value)))).get? b = some o :=
    fun b o e => (Heap.get?_update_other _ _ (Nat.ne_of_gt (Heap.lt_size e))).trans (Heap.get?_push_of_some _ e)
  refine wpAny_bind (wpAny_letGo ?_)
  have N' := news_pushed F N oth hS₂ rfl
  have fresh := kdx_fresh F (Nat.le_refl s.heap.objs.size)
  refine own_extend (A := A.in1) O X₀ hh (news' := _ :: news) (fun p hp => List.mem_cons_of_mem _ hp) (F.keeps oth) N' hn (Nat.ne_of_gt (Heap.lt_size (N _ hx).1)) (Nat.ne_of_gt (Heap.lt_size (N _ O.hmd).1)) fresh.1 fresh.2 .none _ List.mem_cons_self (fun h' tk vs c F' hk hS' hacc => ?_)
  refine ⟨rfl, hQ _ h' tk vs c F' (fun p hp => ?_) (fun p hp => Heap.lt_size (N p hp).1) hacc⟩
  rcases List.mem_cons.mp hp with rfl | hp
  · exact ⟨hS', fresh⟩
  · exact ⟨hk p (List.mem_cons_of_mem _ hp) (Nat.ne_of_lt (Heap.lt_size (N p hp).1)), (N p hp).2⟩
theorem own_collect {Q : List Value → Shared → Prop} (O : OwnSrc prog w A.in1 K h₀ L m news C f g x d knd ond kvs) (X₀ : K.In h₀) (hh : A.handled = none) (F : Fr h₀ L s.heap m) (N : News h₀ L s.heap news) (hn : kvs.length ≤ 1000)
    (hQ : ∀ h' tk (vs : Array Value), Fr h₀ L h' m → News h₀ L h' news → ItemsOf (fun i v => ∃ k x, kvs[i]? = some (k, x) ∧ knd.is k v = true) vs kvs.length → Q vs.toList { s with heap := h', toks := tk }) :
    wpAny (model prog w) A (collect (.ref x)) Q E s := by
  obtain ⟨dx, od, hx, hdx⟩ := O.inst
  unfold collect
  refine wpAny_bind (wpAny_runValue (codeAny_builtin entry_proto_collect' ?_))
  rw [Around.under_plainId PySem.F.plain_proto_collect _]
  show wpAny _ A.in1 (newList [] >>= fun l => again (.builtin "list.__iadd__" ⟨[l, .ref x], []⟩)) _ _ s
  refine wpAny_bind (wpAny_newObj_type ?_)
  refine wpAny_pure ⟨plainId_quiet PySem.F.plain_list_iadd _, codeAny_builtin entry_list_iadd' ?_⟩
  rw [Around.under_plainId PySem.F.plain_list_iadd _]
  have hS₁ : (s.heap.push { cls := .type "list", data := .seq ([] : List Value).toArray }).get? s.heap.objs.size = some { cls := .type "list", data := .seq #[] } := Heap.get?_push_size _ rfl
  show wpAny _ A.in1 (Builtin.List.listExtendWith (.ref s.heap.objs.size) (.ref x) (.ref s.heap.objs.size)) _ _ _
  have oth : ∀ b o, s.heap.get? b = some o → (s.heap.push { cls := .type "list", data := .seq ([] : List Value).toArray }).get? b = some o := fun b o e => Heap.get?_push_of_some _ e
  have N' := news_pushed F N oth hS₁ rfl
  have fresh := kdx_fresh F (Nat.le_refl s.heap.objs.size)
  have ke := own_extend (A := A) (E := E) (s := { s with heap := s.heap.push { cls := .type "list", data := .seq ([] : List Value).toArray } }) (R := fun (q : Result) (s' : Shared) => ∃ (h' : Heap) (tk : Nat) (acc : Array Value) (c' : Nat), q = .ok (.ret (.ref s.heap.objs.size)) ∧ s' = { s with heap := h', toks := tk } ∧
      h'.get? s.heap.objs.size = some { cls := .type "list", dict := none, data := .seq acc c', slots := #[] } ∧ Q acc.toList s') O X₀ hh (news' := _ :: news) (fun p hp => List.mem_cons_of_mem _ hp) (F.keeps oth) N' hn (Nat.ne_of_gt (Heap.lt_size (N _ hx).1)) (Nat.ne_of_gt (Heap.lt_size (N _ O.hmd).1)) fresh.1 fresh.2 (.ref s.heap.objs.size) _ List.mem_cons_self
      (fun h' tk vs c F' hk hS' hacc => ⟨h', tk, vs, c, rfl, rfl, hS', hQ h' tk vs F' (fun p hp => ⟨hk p (List.mem_cons_of_mem _ hp) (Nat.ne_of_lt (Heap.lt_size (N p hp).1)), (N p hp).2⟩) hacc⟩)
  refine wpAny_mono ke (fun fin s' x => ?_) fun e s' x => x
  · cases fin with
    | done f =>
      obtain ⟨h', tk, acc', c', e, rfl, hS', hq⟩ := x
      cases e
      show wpAny _ A (load s.heap.objs.size >>= _) _ _ _
      refine wpAny_bind (wpAny_load hS' ?_)
      exact wpAny_pure hq
    | again c₁ =>
      refine ⟨x.1, codeAny_mono x.2 fun q s₂ y => ?_⟩
      obtain ⟨h', tk, acc', c', rfl, rfl, hS', hq⟩ := y
      show wpAny _ A (load s.heap.objs.size >>= _) _ _ _
      refine wpAny_bind (wpAny_load hS' ?_)
      exact wpAny_pure hq
end
end Mine
end

section
open PySem PySem.W PyProof.Rows PySem.Calls PySem.Spec PyProof.V
set_option Elab.async false
set_option linter.unusedVariables false
set_option maxRecDepth 100000
namespace Mine

structure GN where
  key : Int
  na : Addr
  aa : Addr
  kv : List (Int × Value)
def nkv (g : List GN) : List (Int × Value) := g.map fun n => (n.key, Value.ref n.na)
def akv (g : List GN) : List (Int × Value) := g.map fun n => (n.key, Value.ref n.aa)
def foot (nd ad : Addr) (g : List GN) : List Addr := nd :: ad :: (g.map (·.aa) ++ g.map (·.na))
/-- a dict of the ledger -/
def DAt {prog : Program} {w : World} {K : Type} [DecidableEq K] (knd : KeyKind prog w K) (news : List (Addr × Obj)) (d : Addr) (kvs : List (K × Value)) : Prop := ∃ o, (d, o) ∈ news ∧ o.IsDictOf knd kvs ∧ (d == sysModules) = false
structure GRep (w : World) (news : List (Addr × Obj)) (x dx nd ad : Addr) (g : List GN) : Prop where
  inst : ∃ gd h1 h2 h3 t1 t2 t3 ep, (x, instObj 617 dx) ∈ news ∧ (dx, dictOf [⟨h1, .str "graph" t1, .ref gd⟩, ⟨h2, .str "_node" t2, .ref nd⟩, ⟨h3, .str "_adj" t3, .ref ad⟩] ep) ∈ news ∧ x ∉ foot nd ad g ∧ dx ∉ foot nd ad g
  nodes : DAt (intKind Challenge.rw_aq6051_01.row.prog w) news nd (nkv g)
  adjs : DAt (intKind Challenge.rw_aq6051_01.row.prog w) news ad (akv g)
  atts : ∀ n ∈ g, DAt (strKind Challenge.rw_aq6051_01.row.prog w) news n.na []
  rows : ∀ n ∈ g, DAt (intKind Challenge.rw_aq6051_01.row.prog w) news n.aa n.kv
  nodup : (foot nd ad g).Nodup
  keys : (g.map (·.key)).Nodup

theorem valueAt_map {f : GN → Value} : ∀ {g : List GN} {n : GN}, (g.map (·.key)).Nodup → n ∈ g → valueAt (g.map fun n => (n.key, f n)) n.key = some (f n)
  | m :: r, n, hn, h => by
    rw [List.map_cons, List.nodup_cons] at hn
    unfold valueAt
    rcases List.mem_cons.mp h with rfl | h
    · simp
    · have hne : m.key ≠ n.key := fun e => hn.1 (by rw [e]; exact List.mem_map_of_mem h)
      simp only [List.map_cons, List.find?_cons, decide_eq_false hne]
      exact valueAt_map (f := f) hn.2 h
theorem valueAt_map_none {f : GN → Value} {g : List GN} {k : Int} (h : k ∉ g.map (·.key)) : valueAt (g.map fun n => (n.key, f n)) k = none := by
  unfold valueAt
  rw [List.find?_eq_none.mpr]
  · rfl
  · intro p hp
    obtain ⟨n, hn, rfl⟩ := List.mem_map.mp hp
    simp only [decide_eq_true_eq]
    intro e
    exact h (by rw [← e]; exact List.mem_map_of_mem hn)
theorem stored_new {K : Type} [DecidableEq K] {kvs : List (K × Value)} {k : K} {v : Value} (h : valueAt kvs k = none) : stored kvs k v = kvs ++ [(k, v)] := by
  unfold stored
  rw [if_neg]
  intro e
  obtain ⟨p, hp, hk⟩ := List.any_eq_true.mp e
  unfold valueAt at h
  rw [Option.map_eq_none_iff, List.find?_eq_none] at h
  exact h p hp hk






/-- the ledger's part outside the footprint stands, and stays outside -/
def Keep (news : List (Addr × Obj)) (F : List Addr) (news' : List (Addr × Obj)) (F' : List Addr) : Prop := ∀ a o, (a, o) ∈ news → a ∉ F → (a, o) ∈ news' ∧ a ∉ F'
theorem Keep.refl {news : List (Addr × Obj)} {F : List Addr} : Keep news F news F := fun _ _ h n => ⟨h, n⟩
theorem Keep.trans {n1 n2 n3 : List (Addr × Obj)} {F1 F2 F3 : List Addr} (h : Keep n1 F1 n2 F2) (h' : Keep n2 F2 n3 F3) : Keep n1 F1 n3 F3 := fun a o x n => let ⟨x', n'⟩ := h a o x n; h' a o x' n'
theorem Keep.cons2 {n1 n2 : List (Addr × Obj)} {F1 F2 : List Addr} {x dx : Addr} (h : Keep n1 F1 n2 F2) : Keep n1 (x :: dx :: F1) n2 (x :: dx :: F2) := fun a o hm hn => by
  simp only [List.mem_cons, not_or] at hn ⊢
  exact ⟨(h a o hm hn.2.2).1, hn.1, hn.2.1, (h a o hm hn.2.2).2⟩
/-- a Graph object x with the nodes ks and the edges Ed -/
def GR (w : World) (news : List (Addr × Obj)) (x : Addr) (F : List Addr) (ks : List Int) (Ed : Int → Int → Bool) (b : Nat) : Prop :=
  ∃ nd ad dx g, GRep w news x dx nd ad g ∧ F = x :: dx :: foot nd ad g ∧ g.map (·.key) = ks ∧ (∀ n ∈ g, ∀ k, (valueAt n.kv k).isSome = Ed n.key k) ∧ ∀ n ∈ g, n.kv.length ≤ b
theorem foot_mem {nd ad : Addr} {g : List GN} {n : GN} (h : n ∈ g) : n.aa ∈ foot nd ad g ∧ n.na ∈ foot nd ad g := by
  unfold foot
  exact ⟨List.mem_cons_of_mem _ (List.mem_cons_of_mem _ (List.mem_append_left _ (List.mem_map_of_mem h))), List.mem_cons_of_mem _ (List.mem_cons_of_mem _ (List.mem_append_right _ (List.mem_map_of_mem h)))⟩
theorem foot_facts {nd ad : Addr} {g : List GN} (h : (foot nd ad g).Nodup) : nd ≠ ad ∧ (∀ n ∈ g, nd ≠ n.aa ∧ ad ≠ n.aa ∧ nd ≠ n.na ∧ ad ≠ n.na) ∧ (g.map (·.aa)).Nodup ∧ (g.map (·.na)).Nodup ∧ (∀ n ∈ g, ∀ n' ∈ g, n.aa ≠ n'.na) := by
  unfold foot at h
  rw [List.nodup_cons, List.nodup_cons, List.nodup_append] at h
  obtain ⟨h1, h2, h3, h4, h5⟩ := h
  simp only [List.mem_cons, List.mem_append, not_or] at h1 h2
  refine ⟨h1.1, fun n hn => ⟨?_, ?_, ?_, ?_⟩, h3, h4, fun n hn n' hn' => h5 _ (List.mem_map_of_mem hn) _ (List.mem_map_of_mem hn')⟩
  · exact fun e => h1.2.1 (e ▸ List.mem_map_of_mem hn)
  · exact fun e => h2.1 (e ▸ List.mem_map_of_mem hn)
  · exact fun e => h1.2.2 (e ▸ List.mem_map_of_mem hn)
  · exact fun e => h2.2 (e ▸ List.mem_map_of_mem hn)
theorem nodup_map_inj {α β : Type} {f : α → β} : ∀ {l : List α} {x y : α}, (l.map f).Nodup → x ∈ l → y ∈ l → f x = f y → x = y
  | a :: r, x, y, hn, hx, hy, e => by
    rw [List.map_cons, List.nodup_cons] at hn
    rcases List.mem_cons.mp hx with h1 | h1 <;> rcases List.mem_cons.mp hy with h2 | h2
    · rw [h1, h2]
    · have z : f y ∈ r.map f := List.mem_map_of_mem h2
      rw [← e, h1] at z
      exact (hn.1 z).elim
    · have z : f x ∈ r.map f := List.mem_map_of_mem h1
      rw [e, h2] at z
      exact (hn.1 z).elim
    · exact nodup_map_inj hn.2 h1 h2 e
/-- the adjacency of the node v gets the key u -/
def putE (v u : Int) (dd : Addr) (n : GN) : GN := if n.key = v then { n with kv := stored n.kv u (.ref dd) } else n
theorem putE_key (v u : Int) (dd : Addr) (n : GN) : (putE v u dd n).key = n.key := by unfold putE; split <;> rfl
theorem putE_aa (v u : Int) (dd : Addr) (n : GN) : (putE v u dd n).aa = n.aa := by unfold putE; split <;> rfl
theorem putE_na (v u : Int) (dd : Addr) (n : GN) : (putE v u dd n).na = n.na := by unfold putE; split <;> rfl
theorem map_putE_key (v u : Int) (dd : Addr) (g : List GN) : (g.map (putE v u dd)).map (·.key) = g.map (·.key) := by rw [List.map_map]; exact List.map_congr_left fun n _ => putE_key v u dd n
theorem map_putE_aa (v u : Int) (dd : Addr) (g : List GN) : (g.map (putE v u dd)).map (·.aa) = g.map (·.aa) := by rw [List.map_map]; exact List.map_congr_left fun n _ => putE_aa v u dd n
theorem map_putE_na (v u : Int) (dd : Addr) (g : List GN) : (g.map (putE v u dd)).map (·.na) = g.map (·.na) := by rw [List.map_map]; exact List.map_congr_left fun n _ => putE_na v u dd n
theorem nkv_putE (v u : Int) (dd : Addr) (g : List GN) : nkv (g.map (putE v u dd)) = nkv g := by unfold nkv; rw [List.map_map]; exact List.map_congr_left fun n _ => by simp [putE_key, putE_na]
theorem akv_putE (v u : Int) (dd : Addr) (g : List GN) : akv (g.map (putE v u dd)) = akv g := by unfold akv; rw [List.map_map]; exact List.map_congr_left fun n _ => by simp [putE_key, putE_aa]
theorem isSome_stored {kv : List (Int × Value)} {u k : Int} {v : Value} : (valueAt (stored kv u v) k).isSome = (decide (k = u) || (valueAt kv k).isSome) := by
  by_cases h : k = u
  · subst h; rw [valueAt_stored_self]; simp
  · rw [valueAt_stored_ne h]; simp [h]
theorem isSome_putE {v u k : Int} {dd : Addr} {n : GN} : (valueAt (putE v u dd n).kv k).isSome = ((decide (n.key = v) && decide (k = u)) || (valueAt n.kv k).isSome) := by
  unfold putE
  by_cases h : n.key = v
  · rw [if_pos h, isSome_stored]; simp [h]
  · rw [if_neg h]; simp [h]
theorem len_putE {v u : Int} {dd : Addr} {n : GN} {b : Nat} (h : n.kv.length ≤ b) : (putE v u dd n).kv.length ≤ b + 1 := by
  unfold putE
  split
  · exact Nat.le_trans (stored_length_le _ _ _) (Nat.succ_le_succ h)
  · exact Nat.le_succ_of_le h

theorem add_edge_G1 {w : World} {A₀ : Around} {base h₀ : Heap} {L a : Addr} {m mg mb : Str → Option Value} {cn : Str} {cnm : List (Str × NameKind)} {cig cic : Bool} {cmo : List (Str × Const)} {ccd : Value} {news : List (Addr × Obj)}
   {p : Program} {loose : List Str} {mean : ExcName → Option Value} {s : Shared} {Q E : Value → Shared → Prop} {e1 e2 : Env} {x : Addr} {F : List Addr} {ks : List Int} {Ed : Int → Int → Bool} {b : Nat}
   (B : Below A₀ base [e1, e2] h₀) (Fh : Fr h₀ L s.heap m) (X₀ : (hd.heap_39 w.params).In h₀) (N : News h₀ L s.heap news) (T : Top p loose mean mg mb h₀) (G : GR w news x F ks Ed b) (hb : b ≤ 900) (hk : ks.length ≤ 900)
   {u v : Int} {tu tv : Tok} (hv : v ∈ ks) (hu : u ∉ ks)
   (hQ : ∀ h' tk news' F', Fr h₀ L h' m → News h₀ L h' news' → GR w news' x F' (ks ++ [u]) (fun c d => (decide (c = u) && decide (d = v)) || (decide (c = v) && decide (d = u)) || (decide (c ≠ u) && Ed c d)) (b + 1) → Keep news F news' F' → Q .none { s with heap := h', toks := tk }) :
   wpAny (model Challenge.rw_aq6051_01.row.prog w) ((((callerA.deeper e2).deeper e1).deeper (envOf cn { kind := .function, names := cnm, isGenerator := cig, isCoroutine := cic, more := cmo } L a ccd))) (call (.ref 485) [.ref x, .int u tu, .int v tv]) Q E s := by
  obtain ⟨nd, ad, dx, g, R, rfl, rfl, hE, hB⟩ := G
  obtain ⟨n, hn, rfl⟩ := List.mem_map.mp hv
  obtain ⟨gd, h1, h2, h3, t1, t2, t3, ep, hx, hdx, fx, fdx⟩ := R.inst
  obtain ⟨ond, hnd, hond, lo1⟩ := R.nodes
  obtain ⟨oad, had, hoad, lo2⟩ := R.adjs
  obtain ⟨oav, hoav, hkv, lo3⟩ := R.rows n hn
  obtain ⟨f1, f2, f3, f4, f5⟩ := foot_facts R.nodup
  obtain ⟨fa, fn⟩ := foot_mem (nd := nd) (ad := ad) hn
  have m1 : nd ∈ foot nd ad g := List.mem_cons_self
  have m2 : ad ∈ foot nd ad g := List.mem_cons_of_mem _ List.mem_cons_self
  have ne : ∀ {y z : Addr}, y ∉ foot nd ad g → z ∈ foot nd ad g → y ≠ z := fun hy hz e => hy (e ▸ hz)
  have hun : u ≠ n.key := fun e => hu (e ▸ List.mem_map_of_mem hn)
  have lk : (nkv g).length = (g.map (·.key)).length := by simp [nkv]
  have la : (akv g).length = (g.map (·.key)).length := by simp [akv]
  refine add_edge_new B Fh X₀ N T hx hdx hnd hond lo1 had hoad lo2 (by omega) (by omega) (ne fx m1) (ne fx m2) (ne fdx m1) (ne fdx m2) f1
    (valueAt_map_none hu) (valueAt_map (f := fun n => Value.ref n.na) R.keys hn) (valueAt_map (f := fun n => Value.ref n.aa) R.keys hn) hoav hkv lo3 (Nat.le_trans (hB n hn) (by omega)) hun (ne fx fa) (ne fdx fa) (f2 n hn).1 (f2 n hn).2.1 ?_
  intro h' tk news' na au dd ona oau oav' ond' oad' F' N' q1 q2 q3 q4 q5 q6 q7 q8 q9 q10 q11 q12 q13 q14 q15
  have fresh : ∀ y ∈ foot nd ad g, y ≠ na ∧ y ≠ au := fun y hy => by
    unfold foot at hy
    rcases List.mem_cons.mp hy with rfl | hy
    · exact q14 _ _ hnd
    · rcases List.mem_cons.mp hy with rfl | hy
      · exact q14 _ _ had
      · rcases List.mem_append.mp hy with hy | hy
        · obtain ⟨n', hn', rfl⟩ := List.mem_map.mp hy
          obtain ⟨o, ho, _⟩ := R.rows n' hn'
          exact q14 _ _ ho
        · obtain ⟨n', hn', rfl⟩ := List.mem_map.mp hy
          obtain ⟨o, ho, _⟩ := R.atts n' hn'
          exact q14 _ _ ho
  have perm : (foot nd ad (g.map (putE n.key u dd) ++ [⟨u, na, au, stored [] n.key (.ref dd)⟩])).Perm (au :: na :: foot nd ad g) := by
    unfold foot
    rw [List.map_append, List.map_append, map_putE_aa, map_putE_na]
    rw [List.perm_iff_count]
    intro a
    simp only [List.map_cons, List.map_nil, List.count_append, List.count_cons, List.count_nil]
    omega
  have memf : ∀ y, y ∈ foot nd ad (g.map (putE n.key u dd) ++ [⟨u, na, au, stored [] n.key (.ref dd)⟩]) ↔ y = au ∨ y = na ∨ y ∈ foot nd ad g := fun y => by
    rw [perm.mem_iff, List.mem_cons, List.mem_cons]
  have keep : Keep news (foot nd ad g) news' (foot nd ad (g.map (putE n.key u dd) ++ [⟨u, na, au, stored [] n.key (.ref dd)⟩])) := fun y o hy hf =>
    ⟨q15 y o hy (ne hf m1) (ne hf m2) (ne hf fa), fun hc => by
      rcases (memf y).mp hc with rfl | rfl | hc
      · exact (q14 _ _ hy).2 rfl
      · exact (q14 _ _ hy).1 rfl
      · exact hf hc⟩
  have kx := keep _ _ hx fx
  have kdx := keep _ _ hdx fdx
  refine hQ h' tk news' _ F' N' ⟨nd, ad, dx, g.map (putE n.key u dd) ++ [⟨u, na, au, stored [] n.key (.ref dd)⟩], ⟨⟨gd, h1, h2, h3, t1, t2, t3, ep, kx.1, kdx.1, kx.2, kdx.2⟩, ⟨ond', q1, ?_, lo1⟩, ⟨oad', q3, ?_, lo2⟩, ?_, ?_, ?_, ?_⟩, rfl, ?_, ?_, ?_⟩ keep.cons2
  · rw [show nkv (g.map (putE n.key u dd) ++ [⟨u, na, au, stored [] n.key (.ref dd)⟩]) = stored (nkv g) u (.ref na) by
      rw [stored_new (show valueAt (nkv g) u = none from valueAt_map_none hu)]; unfold nkv; rw [List.map_append]; exact congrArg (· ++ _) (nkv_putE n.key u dd g)]
    exact q2
  · rw [show akv (g.map (putE n.key u dd) ++ [⟨u, na, au, stored [] n.key (.ref dd)⟩]) = stored (akv g) u (.ref au) by
      rw [stored_new (show valueAt (akv g) u = none from valueAt_map_none hu)]; unfold akv; rw [List.map_append]; exact congrArg (· ++ _) (akv_putE n.key u dd g)]
    exact q4
  · intro n' hn'
    rcases List.mem_append.mp hn' with hn' | hn'
    · obtain ⟨n₀, hn₀, rfl⟩ := List.mem_map.mp hn'
      obtain ⟨o, ho, hd, lo⟩ := R.atts n₀ hn₀
      rw [putE_na]
      exact ⟨o, q15 _ _ ho (Ne.symm (f2 n₀ hn₀).2.2.1) (Ne.symm (f2 n₀ hn₀).2.2.2) (Ne.symm (f5 n hn n₀ hn₀)), hd, lo⟩
    · obtain rfl := List.mem_singleton.mp hn'
      exact ⟨ona, q5, q6, q7⟩
  · intro n' hn'
    rcases List.mem_append.mp hn' with hn' | hn'
    · obtain ⟨n₀, hn₀, rfl⟩ := List.mem_map.mp hn'
      rw [putE_aa]
      by_cases e : n₀.key = n.key
      · obtain rfl := nodup_map_inj R.keys hn₀ hn e
        refine ⟨oav', q11, ?_, lo3⟩
        unfold putE; rw [if_pos rfl]; exact q12
      · obtain ⟨o, ho, hd, lo⟩ := R.rows n₀ hn₀
        have ha : n₀.aa ≠ n.aa := fun e' => e (by rw [nodup_map_inj f3 hn₀ hn e'])
        refine ⟨o, q15 _ _ ho (Ne.symm (f2 n₀ hn₀).1) (Ne.symm (f2 n₀ hn₀).2.1) ha, ?_, lo⟩
        unfold putE; rw [if_neg e]; exact hd
    · obtain rfl := List.mem_singleton.mp hn'
      exact ⟨oau, q8, q9, q10⟩
  · rw [perm.nodup_iff, List.nodup_cons, List.nodup_cons]
    refine ⟨fun hc => ?_, fun hc => (fresh na hc).1 rfl, R.nodup⟩
    rcases List.mem_cons.mp hc with e | hc
    · exact q13 e.symm
    · exact (fresh au hc).2 rfl
  · rw [List.map_append, map_putE_key, List.nodup_append]
    refine ⟨R.keys, by simp, fun y hy z hz e => ?_⟩
    simp only [List.map_cons, List.map_nil, List.mem_singleton] at hz
    exact hu (by rw [← hz, ← e]; exact hy)
  · rw [List.map_append, map_putE_key]; rfl
  · intro n' hn' k
    rcases List.mem_append.mp hn' with hn' | hn'
    · obtain ⟨n₀, hn₀, rfl⟩ := List.mem_map.mp hn'
      have hne : n₀.key ≠ u := fun e => hu (e ▸ List.mem_map_of_mem hn₀)
      rw [isSome_putE, hE n₀ hn₀ k, putE_key]
      simp [hne]
    · obtain rfl := List.mem_singleton.mp hn'
      rw [isSome_stored]
      simp [valueAt, hun]
  · intro n' hn'
    rcases List.mem_append.mp hn' with hn' | hn'
    · obtain ⟨n₀, hn₀, rfl⟩ := List.mem_map.mp hn'
      exact len_putE (hB n₀ hn₀)
    · obtain rfl := List.mem_singleton.mp hn'
      show (stored [] n.key (Value.ref dd)).length ≤ b + 1
      exact Nat.le_trans (stored_length_le _ _ _) (by simp)


/-- part two -/

theorem add_edge_G2 {w : World} {A₀ : Around} {base h₀ : Heap} {L a : Addr} {m mg mb : Str → Option Value} {cn : Str} {cnm : List (Str × NameKind)} {cig cic : Bool} {cmo : List (Str × Const)} {ccd : Value} {news : List (Addr × Obj)}
   {p : Program} {loose : List Str} {mean : ExcName → Option Value} {s : Shared} {Q E : Value → Shared → Prop} {e1 e2 : Env} {x : Addr} {F : List Addr} {ks : List Int} {Ed : Int → Int → Bool} {b : Nat}
   (B : Below A₀ base [e1, e2] h₀) (Fh : Fr h₀ L s.heap m) (X₀ : (hd.heap_39 w.params).In h₀) (N : News h₀ L s.heap news) (T : Top p loose mean mg mb h₀) (G : GR w news x F ks Ed b) (hb : b ≤ 900) (hk : ks.length ≤ 900)
   {u v : Int} {tu tv : Tok} (hv : v ∈ ks) (hu : u ∈ ks) (uv : u ≠ v) (huv : Ed u v = false)
   (hQ : ∀ h' tk news', Fr h₀ L h' m → News h₀ L h' news' → GR w news' x F ks (fun c d => (decide (c = u) && decide (d = v)) || (decide (c = v) && decide (d = u)) || Ed c d) (b + 1) → Keep news F news' F → Q .none { s with heap := h', toks := tk }) :
   wpAny (model Challenge.rw_aq6051_01.row.prog w) ((((callerA.deeper e2).deeper e1).deeper (envOf cn { kind := .function, names := cnm, isGenerator := cig, isCoroutine := cic, more := cmo } L a ccd))) (call (.ref 485) [.ref x, .int u tu, .int v tv]) Q E s := by
  obtain ⟨nd, ad, dx, g, R, rfl, rfl, hE, hB⟩ := G
  obtain ⟨gd, h1, h2, h3, t1, t2, t3, ep, hx, hdx, fx, fdx⟩ := R.inst
  obtain ⟨ond, hnd, hond, lo1⟩ := R.nodes
  obtain ⟨oad, had, hoad, lo2⟩ := R.adjs
  obtain ⟨f1, f2, f3, f4, f5⟩ := foot_facts R.nodup
  have m1 : nd ∈ foot nd ad g := List.mem_cons_self
  have m2 : ad ∈ foot nd ad g := List.mem_cons_of_mem _ List.mem_cons_self
  have ne : ∀ {y z : Addr}, y ∉ foot nd ad g → z ∈ foot nd ad g → y ≠ z := fun hy hz e => hy (e ▸ hz)
  have lk : (nkv g).length = (g.map (·.key)).length := by simp [nkv]
  have la : (akv g).length = (g.map (·.key)).length := by simp [akv]
  obtain ⟨n, hn, rfl⟩ := List.mem_map.mp hv
  obtain ⟨k, hkk, rfl⟩ := List.mem_map.mp hu
  obtain ⟨oav, hoav, hkv, lo3⟩ := R.rows n hn
  obtain ⟨oau, hoau, hku, lo4⟩ := R.rows k hkk
  obtain ⟨fa, fn⟩ := foot_mem (nd := nd) (ad := ad) hn
  obtain ⟨fb, fm⟩ := foot_mem (nd := nd) (ad := ad) hkk
  have kn : k.aa ≠ n.aa := fun e => uv (by rw [nodup_map_inj f3 hkk hn e])
  have huv' : valueAt k.kv n.key = none := by
    have := hE k hkk n.key
    rw [huv] at this
    cases q : valueAt k.kv n.key with
    | none => rfl
    | some _ => rw [q] at this; cases this
  refine add_edge_old B Fh X₀ N T hx hdx hnd hond lo1 had hoad lo2 (by omega) (by omega) (ne fx m1) (ne fx m2) (ne fdx m1) (ne fdx m2) f1
    (valueAt_map (f := fun n => Value.ref n.na) R.keys hkk) (valueAt_map (f := fun n => Value.ref n.na) R.keys hn) (valueAt_map (f := fun n => Value.ref n.aa) R.keys hkk) (valueAt_map (f := fun n => Value.ref n.aa) R.keys hn) hoav hkv lo3 (Nat.le_trans (hB n hn) (by omega))
    hoau hku lo4 (Nat.le_trans (hB k hkk) (by omega)) huv' uv (ne fx fa) (ne fdx fa) (f2 n hn).1 (f2 n hn).2.1 (ne fx fb) (ne fdx fb) (f2 k hkk).1 (f2 k hkk).2.1 kn ?_
  intro h' tk news' dd oau' oav' F' N' q1 q2 q3 q4 q5 q6 q7
  have eqf : foot nd ad ((g.map (putE n.key k.key dd)).map (putE k.key n.key dd)) = foot nd ad g := by
    unfold foot; rw [map_putE_aa, map_putE_na, map_putE_aa, map_putE_na]
  have keep : Keep news (foot nd ad g) news' (foot nd ad g) := fun y o hy hf => ⟨q7 y o hy (ne hf fb) (ne hf fa), hf⟩
  refine hQ h' tk news' F' N' ⟨nd, ad, dx, (g.map (putE n.key k.key dd)).map (putE k.key n.key dd), ⟨⟨gd, h1, h2, h3, t1, t2, t3, ep, (keep _ _ hx fx).1, (keep _ _ hdx fdx).1, by rw [eqf]; exact fx, by rw [eqf]; exact fdx⟩, ⟨ond, q1, ?_, lo1⟩, ⟨oad, q2, ?_, lo2⟩, ?_, ?_, ?_, ?_⟩, congrArg (fun z => x :: dx :: z) eqf.symm, ?_, ?_, ?_⟩ keep.cons2
  · rw [nkv_putE, nkv_putE]; exact hond
  · rw [akv_putE, akv_putE]; exact hoad
  · intro n' hn'
    obtain ⟨n₁, hn₁, rfl⟩ := List.mem_map.mp hn'
    obtain ⟨n₀, hn₀, rfl⟩ := List.mem_map.mp hn₁
    obtain ⟨o, ho, hd, lo⟩ := R.atts n₀ hn₀
    rw [putE_na, putE_na]
    exact ⟨o, q7 _ _ ho (Ne.symm (f5 k hkk n₀ hn₀)) (Ne.symm (f5 n hn n₀ hn₀)), hd, lo⟩
  · intro n' hn'
    obtain ⟨n₁, hn₁, rfl⟩ := List.mem_map.mp hn'
    obtain ⟨n₀, hn₀, rfl⟩ := List.mem_map.mp hn₁
    rw [putE_aa, putE_aa]
    by_cases e : n₀.key = n.key
    · obtain rfl := nodup_map_inj R.keys hn₀ hn e
      refine ⟨oav', q5, ?_, lo3⟩
      unfold putE; rw [if_pos rfl, if_neg (fun q => uv q.symm)]; exact q6
    · by_cases e2 : n₀.key = k.key
      · obtain rfl := nodup_map_inj R.keys hn₀ hkk e2
        refine ⟨oau', q3, ?_, lo4⟩
        unfold putE; rw [if_neg e, if_pos rfl]; exact q4
      · obtain ⟨o, ho, hd, lo⟩ := R.rows n₀ hn₀
        have ha : n₀.aa ≠ n.aa := fun e' => e (by rw [nodup_map_inj f3 hn₀ hn e'])
        have hb : n₀.aa ≠ k.aa := fun e' => e2 (by rw [nodup_map_inj f3 hn₀ hkk e'])
        refine ⟨o, q7 _ _ ho hb ha, ?_, lo⟩
        unfold putE; rw [if_neg e, if_neg e2]; exact hd
  · rw [eqf]; exact R.nodup
  · rw [map_putE_key, map_putE_key]; exact R.keys
  · rw [map_putE_key, map_putE_key]
  · intro n' hn' j
    obtain ⟨n₁, hn₁, rfl⟩ := List.mem_map.mp hn'
    obtain ⟨n₀, hn₀, rfl⟩ := List.mem_map.mp hn₁
    rw [isSome_putE, isSome_putE, hE n₀ hn₀ j]
    simp only [putE_key]
    simp only [Bool.or_assoc]
  · intro n' hn'
    obtain ⟨n₁, hn₁, rfl⟩ := List.mem_map.mp hn'
    obtain ⟨n₀, hn₀, rfl⟩ := List.mem_map.mp hn₁
    have hb0 := hB n₀ hn₀
    by_cases e : n₀.key = n.key
    · have e2 : ¬ n₀.key = k.key := fun q => uv (q.symm.trans e)
      have z : putE k.key n.key dd (putE n.key k.key dd n₀) = putE n.key k.key dd n₀ := by
        generalize hz : putE n.key k.key dd n₀ = z
        have : z.key = n₀.key := by rw [← hz, putE_key]
        unfold putE; rw [if_neg (by rw [this]; exact e2)]
      rw [z]; exact len_putE hb0
    · have z : putE n.key k.key dd n₀ = n₀ := by unfold putE; rw [if_neg e]
      rw [z]; exact len_putE hb0

theorem add_node_G1 {w : World} {A₀ : Around} {base h₀ : Heap} {L a : Addr} {m mg mb : Str → Option Value} {cn : Str} {cnm : List (Str × NameKind)} {cig cic : Bool} {cmo : List (Str × Const)} {ccd : Value} {news : List (Addr × Obj)}
   {p : Program} {loose : List Str} {mean : ExcName → Option Value} {s : Shared} {Q E : Value → Shared → Prop} {e1 e2 : Env} {x : Addr} {F : List Addr} {ks : List Int} {Ed : Int → Int → Bool} {b : Nat}
   (B : Below A₀ base [e1, e2] h₀) (Fh : Fr h₀ L s.heap m) (X₀ : (hd.heap_39 w.params).In h₀) (N : News h₀ L s.heap news) (T : Top p loose mean mg mb h₀) (G : GR w news x F ks Ed b) (hb : b ≤ 900) (hk : ks.length ≤ 900)
   {v : Int} {tv : Tok} (hv : v ∉ ks)
   (hQ : ∀ h' tk news' F', Fr h₀ L h' m → News h₀ L h' news' → GR w news' x F' (ks ++ [v]) (fun c d => decide (c ≠ v) && Ed c d) b → Keep news F news' F' → Q .none { s with heap := h', toks := tk }) :
   wpAny (model Challenge.rw_aq6051_01.row.prog w) ((((callerA.deeper e2).deeper e1).deeper (envOf cn { kind := .function, names := cnm, isGenerator := cig, isCoroutine := cic, more := cmo } L a ccd))) (call (.ref 426) [.ref x, .int v tv]) Q E s := by
  obtain ⟨nd, ad, dx, g, R, rfl, rfl, hE, hB⟩ := G
  obtain ⟨gd, h1, h2, h3, t1, t2, t3, ep, hx, hdx, fx, fdx⟩ := R.inst
  obtain ⟨ond, hnd, hond, lo1⟩ := R.nodes
  obtain ⟨oad, had, hoad, lo2⟩ := R.adjs
  obtain ⟨f1, f2, f3, f4, f5⟩ := foot_facts R.nodup
  have m1 : nd ∈ foot nd ad g := List.mem_cons_self
  have m2 : ad ∈ foot nd ad g := List.mem_cons_of_mem _ List.mem_cons_self
  have ne : ∀ {y z : Addr}, y ∉ foot nd ad g → z ∈ foot nd ad g → y ≠ z := fun hy hz e => hy (e ▸ hz)
  have lk : (nkv g).length = (g.map (·.key)).length := by simp [nkv]
  have la : (akv g).length = (g.map (·.key)).length := by simp [akv]
  refine add_node_new B Fh X₀ N T hx hdx hnd hond lo1 had hoad lo2 (by omega) (by omega) (ne fx m1) (ne fx m2) (ne fdx m1) (ne fdx m2) f1 (valueAt_map_none hv) ?_
  intro h' tk news' na aa ona oaa ond' oad' F' N' q1 q2 q3 q4 q5 q6 q7 q8 q9 q10 q11 q12 q13
  have fresh : ∀ y ∈ foot nd ad g, y ≠ na ∧ y ≠ aa := fun y hy => by
    unfold foot at hy
    rcases List.mem_cons.mp hy with rfl | hy
    · exact q12 _ _ hnd
    · rcases List.mem_cons.mp hy with rfl | hy
      · exact q12 _ _ had
      · rcases List.mem_append.mp hy with hy | hy
        · obtain ⟨n', hn', rfl⟩ := List.mem_map.mp hy
          obtain ⟨o, ho, _⟩ := R.rows n' hn'
          exact q12 _ _ ho
        · obtain ⟨n', hn', rfl⟩ := List.mem_map.mp hy
          obtain ⟨o, ho, _⟩ := R.atts n' hn'
          exact q12 _ _ ho
  have perm : (foot nd ad (g ++ [⟨v, na, aa, []⟩])).Perm (aa :: na :: foot nd ad g) := by
    unfold foot
    rw [List.map_append, List.map_append]
    rw [List.perm_iff_count]
    intro a
    simp only [List.map_cons, List.map_nil, List.count_append, List.count_cons, List.count_nil]
    omega
  have memf : ∀ y, y ∈ foot nd ad (g ++ [⟨v, na, aa, []⟩]) ↔ y = aa ∨ y = na ∨ y ∈ foot nd ad g := fun y => by
    rw [perm.mem_iff, List.mem_cons, List.mem_cons]
  have keep : Keep news (foot nd ad g) news' (foot nd ad (g ++ [⟨v, na, aa, []⟩])) := fun y o hy hf =>
    ⟨q13 y o hy (ne hf m1) (ne hf m2), fun hc => by
      rcases (memf y).mp hc with rfl | rfl | hc
      · exact (q12 _ _ hy).2 rfl
      · exact (q12 _ _ hy).1 rfl
      · exact hf hc⟩
  have kx := keep _ _ hx fx
  have kdx := keep _ _ hdx fdx
  refine hQ h' tk news' _ F' N' ⟨nd, ad, dx, g ++ [⟨v, na, aa, []⟩], ⟨⟨gd, h1, h2, h3, t1, t2, t3, ep, kx.1, kdx.1, kx.2, kdx.2⟩, ⟨ond', q1, ?_, lo1⟩, ⟨oad', q3, ?_, lo2⟩, ?_, ?_, ?_, ?_⟩, rfl, ?_, ?_, ?_⟩ keep.cons2
  · rw [show nkv (g ++ [⟨v, na, aa, []⟩]) = stored (nkv g) v (.ref na) by
      rw [stored_new (show valueAt (nkv g) v = none from valueAt_map_none hv)]; unfold nkv; rw [List.map_append]; rfl]
    exact q2
  · rw [show akv (g ++ [⟨v, na, aa, []⟩]) = stored (akv g) v (.ref aa) by
      rw [stored_new (show valueAt (akv g) v = none from valueAt_map_none hv)]; unfold akv; rw [List.map_append]; rfl]
    exact q4
  · intro n' hn'
    rcases List.mem_append.mp hn' with hn' | hn'
    · obtain ⟨o, ho, hd, lo⟩ := R.atts n' hn'
      exact ⟨o, q13 _ _ ho (Ne.symm (f2 n' hn').2.2.1) (Ne.symm (f2 n' hn').2.2.2), hd, lo⟩
    · obtain rfl := List.mem_singleton.mp hn'
      exact ⟨ona, q5, q6, q7⟩
  · intro n' hn'
    rcases List.mem_append.mp hn' with hn' | hn'
    · obtain ⟨o, ho, hd, lo⟩ := R.rows n' hn'
      exact ⟨o, q13 _ _ ho (Ne.symm (f2 n' hn').1) (Ne.symm (f2 n' hn').2.1), hd, lo⟩
    · obtain rfl := List.mem_singleton.mp hn'
      exact ⟨oaa, q8, q9, q10⟩
  · rw [perm.nodup_iff, List.nodup_cons, List.nodup_cons]
    refine ⟨fun hc => ?_, fun hc => (fresh na hc).1 rfl, R.nodup⟩
    rcases List.mem_cons.mp hc with e | hc
    · exact q11 e.symm
    · exact (fresh aa hc).2 rfl
  · rw [List.map_append, List.nodup_append]
    refine ⟨R.keys, by simp, fun y hy z hz e => ?_⟩
    simp only [List.map_cons, List.map_nil, List.mem_singleton] at hz
    exact hv (by rw [← hz, ← e]; exact hy)
  · rw [List.map_append]; rfl
  · intro n' hn' k
    rcases List.mem_append.mp hn' with hn' | hn'
    · have hne : n'.key ≠ v := fun e => hv (e ▸ List.mem_map_of_mem hn')
      rw [hE n' hn' k]
      simp [hne]
    · obtain rfl := List.mem_singleton.mp hn'
      simp [valueAt]
  · intro n' hn'
    rcases List.mem_append.mp hn' with hn' | hn'
    · exact hB n' hn'
    · obtain rfl := List.mem_singleton.mp hn'
      exact Nat.zero_le _

theorem add_node_G2 {w : World} {A₀ : Around} {base h₀ : Heap} {L a : Addr} {m mg mb : Str → Option Value} {cn : Str} {cnm : List (Str × NameKind)} {cig cic : Bool} {cmo : List (Str × Const)} {ccd : Value} {news : List (Addr × Obj)}
   {p : Program} {loose : List Str} {mean : ExcName → Option Value} {s : Shared} {Q E : Value → Shared → Prop} {e1 e2 : Env} {x : Addr} {F : List Addr} {ks : List Int} {Ed : Int → Int → Bool} {b : Nat}
   (B : Below A₀ base [e1, e2] h₀) (Fh : Fr h₀ L s.heap m) (X₀ : (hd.heap_39 w.params).In h₀) (N : News h₀ L s.heap news) (T : Top p loose mean mg mb h₀) (G : GR w news x F ks Ed b) (hb : b ≤ 900) (hk : ks.length ≤ 900)
   {v : Int} {tv : Tok} (hv : v ∈ ks)
   (hQ : ∀ h' tk news', Fr h₀ L h' m → News h₀ L h' news' → GR w news' x F ks Ed b → Keep news F news' F → Q .none { s with heap := h', toks := tk }) :
   wpAny (model Challenge.rw_aq6051_01.row.prog w) ((((callerA.deeper e2).deeper e1).deeper (envOf cn { kind := .function, names := cnm, isGenerator := cig, isCoroutine := cic, more := cmo } L a ccd))) (call (.ref 426) [.ref x, .int v tv]) Q E s := by
  obtain ⟨nd, ad, dx, g, R, rfl, rfl, hE, hB⟩ := G
  obtain ⟨gd, h1, h2, h3, t1, t2, t3, ep, hx, hdx, fx, fdx⟩ := R.inst
  obtain ⟨ond, hnd, hond, lo1⟩ := R.nodes
  obtain ⟨oad, had, hoad, lo2⟩ := R.adjs
  obtain ⟨f1, f2, f3, f4, f5⟩ := foot_facts R.nodup
  have m1 : nd ∈ foot nd ad g := List.mem_cons_self
  have m2 : ad ∈ foot nd ad g := List.mem_cons_of_mem _ List.mem_cons_self
  have ne : ∀ {y z : Addr}, y ∉ foot nd ad g → z ∈ foot nd ad g → y ≠ z := fun hy hz e => hy (e ▸ hz)
  have lk : (nkv g).length = (g.map (·.key)).length := by simp [nkv]
  have la : (akv g).length = (g.map (·.key)).length := by simp [akv]
  obtain ⟨n, hn, rfl⟩ := List.mem_map.mp hv
  obtain ⟨ona, hona, hna, lo3⟩ := R.atts n hn
  obtain ⟨fa, fn⟩ := foot_mem (nd := nd) (ad := ad) hn
  refine add_node_old B Fh X₀ N T hx hdx hnd hond lo1 had hoad lo2 (by omega) (by omega) (ne fx m1) (ne fx m2) (ne fdx m1) (ne fdx m2) f1 (valueAt_map (f := fun n => Value.ref n.na) R.keys hn) hona hna ?_
  intro h' tk news' o' F' N' q1 q2 q3
  have keep : Keep news (foot nd ad g) news' (foot nd ad g) := fun y o hy hf => ⟨q3 y o hy (ne hf fn), hf⟩
  refine hQ h' tk news' F' N' ⟨nd, ad, dx, g, ⟨⟨gd, h1, h2, h3, t1, t2, t3, ep, (keep _ _ hx fx).1, (keep _ _ hdx fdx).1, fx, fdx⟩, ⟨ond, q3 _ _ hnd (f2 n hn).2.2.1, hond, lo1⟩, ⟨oad, q3 _ _ had (f2 n hn).2.2.2, hoad, lo2⟩, ?_, ?_, R.nodup, R.keys⟩, rfl, rfl, hE, hB⟩ keep.cons2
  · intro n' hn'
    by_cases e : n'.na = n.na
    · rw [e]; exact ⟨o', q1, q2, lo3⟩
    · obtain ⟨o, ho, hd, lo⟩ := R.atts n' hn'
      exact ⟨o, q3 _ _ ho e, hd, lo⟩
  · intro n' hn'
    obtain ⟨o, ho, hd, lo⟩ := R.rows n' hn'
    exact ⟨o, q3 _ _ ho (f5 n' hn' n hn), hd, lo⟩

theorem has_edge_G {w : World} {A₀ : Around} {base h₀ : Heap} {L a : Addr} {m mg mb : Str → Option Value} {cn : Str} {cnm : List (Str × NameKind)} {cig cic : Bool} {cmo : List (Str × Const)} {ccd : Value} {news : List (Addr × Obj)}
   {p : Program} {loose : List Str} {mean : ExcName → Option Value} {s : Shared} {Q E : Value → Shared → Prop} {e1 : Env} {x : Addr} {F : List Addr} {ks : List Int} {Ed : Int → Int → Bool} {b : Nat}
   (B : Below A₀ base [e1] h₀) (Fh : Fr h₀ L s.heap m) (X₀ : (hd.heap_39 w.params).In h₀) (N : News h₀ L s.heap news) (T : Top p loose mean mg mb h₀) (G : GR w news x F ks Ed b) (hb : b ≤ 900) (hk : ks.length ≤ 900)
   {u v : Int} {tu tv : Tok} (hu : u ∈ ks)
   (hQ : ∀ h' tk, Fr h₀ L h' m → News h₀ L h' news → Q (.bool (Ed u v)) { s with heap := h', toks := tk }) :
   wpAny (model Challenge.rw_aq6051_01.row.prog w) (((callerA.deeper e1).deeper (envOf cn { kind := .function, names := cnm, isGenerator := cig, isCoroutine := cic, more := cmo } L a ccd))) (call (.ref 513) [.ref x, .int u tu, .int v tv]) Q E s := by
  obtain ⟨nd, ad, dx, g, R, rfl, rfl, hE, hB⟩ := G
  obtain ⟨gd, h1, h2, h3, t1, t2, t3, ep, hx, hdx, fx, fdx⟩ := R.inst
  obtain ⟨ond, hnd, hond, lo1⟩ := R.nodes
  obtain ⟨oad, had, hoad, lo2⟩ := R.adjs
  obtain ⟨f1, f2, f3, f4, f5⟩ := foot_facts R.nodup
  have m1 : nd ∈ foot nd ad g := List.mem_cons_self
  have m2 : ad ∈ foot nd ad g := List.mem_cons_of_mem _ List.mem_cons_self
  have ne : ∀ {y z : Addr}, y ∉ foot nd ad g → z ∈ foot nd ad g → y ≠ z := fun hy hz e => hy (e ▸ hz)
  have lk : (nkv g).length = (g.map (·.key)).length := by simp [nkv]
  have la : (akv g).length = (g.map (·.key)).length := by simp [akv]
  obtain ⟨n, hn, rfl⟩ := List.mem_map.mp hu
  obtain ⟨oau, hoau, hku, lo4⟩ := R.rows n hn
  have hE' := hE n hn v
  cases q : valueAt n.kv v with
  | none =>
    rw [q] at hE'
    refine has_edge_no B Fh X₀ N T hx hdx hnd hond lo1 had hoad lo2 (by omega) (by omega) (ne fx m1) (ne fx m2) (ne fdx m1) (ne fdx m2) f1 (valueAt_map (f := fun n => Value.ref n.aa) R.keys hn) hoau hku lo4 q fun h' tk F' N' => ?_
    have := hQ h' tk F' N'
    rw [← hE'] at this
    exact this
  | some y =>
    rw [q] at hE'
    refine has_edge_yes B Fh X₀ N T hx hdx hnd hond lo1 had hoad lo2 (by omega) (by omega) (ne fx m1) (ne fx m2) (ne fdx m1) (ne fdx m2) f1 (valueAt_map (f := fun n => Value.ref n.aa) R.keys hn) hoau hku lo4 q fun h' tk F' N' => ?_
    have := hQ h' tk F' N'
    rw [← hE'] at this
    exact this

end Mine
end

section
open PySem PySem.W PyProof.Rows PySem.Calls PySem.Spec PyProof.V
set_option Elab.async false
set_option linter.unusedVariables false
set_option maxRecDepth 100000
namespace Mine

theorem ints_of_items {prog : Program} {w : World} : ∀ {kvs : List (Int × Value)} {vs : List Value}, vs.length = kvs.length → (∀ (j : Nat) (v : Value), vs[j]? = some v → ∃ (k : Int) (x : Value), kvs[j]? = some (k, x) ∧ (intKind prog w).is k v = true) → IntsAre vs (kvs.map (·.1))
  | [], [], _, _ => .nil
  | [], _ :: _, h, _ => by simp at h
  | _ :: _, [], h, _ => by simp at h
  | (k, x) :: r, v :: vs, hl, h => by
    obtain ⟨k', x', e, hk⟩ := h 0 v rfl
    simp only [List.getElem?_cons_zero, Option.some.injEq] at e
    cases e
    obtain ⟨t, rfl⟩ := Value.isInt_shape hk
    exact .cons k t (ints_of_items (prog := prog) (w := w) (by simpa using hl) fun j u hu => by simpa using h (j + 1) u (by simpa using hu))

theorem list_G {w : World} {A₀ : Around} {base h₀ : Heap} {L a : Addr} {m mg mb : Str → Option Value} {cn : Str} {cnm : List (Str × NameKind)} {cig cic : Bool} {cmo : List (Str × Const)} {ccd : Value} {news : List (Addr × Obj)}
   {p : Program} {loose : List Str} {mean : ExcName → Option Value} {s : Shared} {Q E : Value → Shared → Prop} {e1 e2 : Env} {x : Addr} {F : List Addr} {ks : List Int} {Ed : Int → Int → Bool} {b : Nat}
   (B : Below A₀ base [e1, e2] h₀) (Fh : Fr h₀ L s.heap m) (X₀ : (hd.heap_39 w.params).In h₀) (N : News h₀ L s.heap news) (T : Top p loose mean mg mb h₀) (G : GR w news x F ks Ed b) (hb : b ≤ 900) (hk : ks.length ≤ 900)
   (hQ : ∀ D h' tk vs c, Fr h₀ L h' m → News h₀ L h' ((D, listOf vs c) :: news) → (∀ q ∈ news, q.1 < D) → IntsAre vs.toList ks → Q (.ref D) { s with heap := h', toks := tk }) :
   wpAny (model Challenge.rw_aq6051_01.row.prog w) ((((callerA.deeper e2).deeper e1).deeper (envOf cn { kind := .function, names := cnm, isGenerator := cig, isCoroutine := cic, more := cmo } L a ccd))) (call (.type "list") [.ref x]) Q E s := by
  revert X₀
  k_fill
  intro X₀
  have si : findIn (hd.heap_39 w.params) (.ref 617) "__iter__" = some (some (.ref 398)) := by k_is
  have sf : isFn (hd.heap_39 w.params) (.ref 398) = true := by k_is
  have sl : findIn (hd.heap_39 w.params) (.ref 617) "__len__" = some (some (.ref 412)) := by k_is
  obtain ⟨nd, ad, dx, g, R, rfl, rfl, hE, hB⟩ := G
  obtain ⟨gd, h1, h2, h3, t1, t2, t3, ep, hx, hdx, fx, fdx⟩ := R.inst
  obtain ⟨ond, hnd, hond, lo1⟩ := R.nodes
  obtain ⟨oad, had, hoad, lo2⟩ := R.adjs
  obtain ⟨f1, f2, f3, f4, f5⟩ := foot_facts R.nodup
  have m1 : nd ∈ foot nd ad g := List.mem_cons_self
  have m2 : ad ∈ foot nd ad g := List.mem_cons_of_mem _ List.mem_cons_self
  have ne : ∀ {y z : Addr}, y ∉ foot nd ad g → z ∈ foot nd ad g → y ≠ z := fun hy hz e => hy (e ▸ hz)
  have lk : (nkv g).length = (g.map (·.key)).length := by simp [nkv]
  have la : (akv g).length = (g.map (·.key)).length := by simp [akv]
  have O : OwnSrc Challenge.rw_aq6051_01.row.prog w ((((((callerA.deeper e2).deeper e1).deeper (envOf cn { kind := .function, names := cnm, isGenerator := cig, isCoroutine := cic, more := cmo } L a ccd)))).in1.in1) (hd.heap_39 w.params) h₀ L m news 617 398 412 x nd (intKind Challenge.rw_aq6051_01.row.prog w) ond (nkv g) :=
    ⟨⟨dx, _, hx, hdx⟩, hnd, hond, ne fx m1, si, sf, sl, fun news' s Q E hs F' N' h => g_iter3 B F' X₀ N' T (hs _ hx) (hs _ hdx) (hs _ hnd) hond lo1 (hs _ had) hoad lo2 (by omega) (by omega) (ne fx m1) (ne fx m2) (ne fdx m1) (ne fdx m2) f1 h,
      fun news' s Q E hs F' N' h => g_len3 B F' X₀ N' T (hs _ hx) (hs _ hdx) (hs _ hnd) hond lo1 (hs _ had) hoad lo2 (by omega) (by omega) (ne fx m1) (ne fx m2) (ne fdx m1) (ne fdx m2) f1 h⟩
  have ek : (nkv g).map (·.1) = g.map (·.key) := by unfold nkv; rw [List.map_map]; rfl
  refine own_list O X₀ rfl Fh N (by omega) fun D h' tk vs c F' N' l1 hi => ?_
  refine hQ D h' tk vs c F' N' l1 ?_
  rw [← ek]
  exact ints_of_items (prog := Challenge.rw_aq6051_01.row.prog) (w := w) (by rw [Array.length_toList]; exact hi.1) fun j v hv => hi.2 j v (by rw [← Array.getElem?_toList]; exact hv)

theorem collect_G {w : World} {A₀ : Around} {base h₀ : Heap} {L a : Addr} {m mg mb : Str → Option Value} {cn : Str} {cnm : List (Str × NameKind)} {cig cic : Bool} {cmo : List (Str × Const)} {ccd : Value} {news : List (Addr × Obj)}
   {p : Program} {loose : List Str} {mean : ExcName → Option Value} {s : Shared} {Q : List Value → Shared → Prop} {E : Value → Shared → Prop} {e1 : Env} {x : Addr} {F : List Addr} {ks : List Int} {Ed : Int → Int → Bool} {b : Nat}
   (B : Below A₀ base [e1] h₀) (Fh : Fr h₀ L s.heap m) (X₀ : (hd.heap_39 w.params).In h₀) (N : News h₀ L s.heap news) (T : Top p loose mean mg mb h₀) (G : GR w news x F ks Ed b) (hb : b ≤ 900) (hk : ks.length ≤ 900)
   (hQ : ∀ h' tk vs, Fr h₀ L h' m → News h₀ L h' news → IntsAre vs ks → Q vs { s with heap := h', toks := tk }) :
   wpAny (model Challenge.rw_aq6051_01.row.prog w) (((((callerA.deeper e1).deeper (envOf cn { kind := .function, names := cnm, isGenerator := cig, isCoroutine := cic, more := cmo } L a ccd)))).in1) (collect (.ref x)) Q E s := by
  revert X₀
  k_fill
  intro X₀
  have si : findIn (hd.heap_39 w.params) (.ref 617) "__iter__" = some (some (.ref 398)) := by k_is
  have sf : isFn (hd.heap_39 w.params) (.ref 398) = true := by k_is
  have sl : findIn (hd.heap_39 w.params) (.ref 617) "__len__" = some (some (.ref 412)) := by k_is
  obtain ⟨nd, ad, dx, g, R, rfl, rfl, hE, hB⟩ := G
  obtain ⟨gd, h1, h2, h3, t1, t2, t3, ep, hx, hdx, fx, fdx⟩ := R.inst
  obtain ⟨ond, hnd, hond, lo1⟩ := R.nodes
  obtain ⟨oad, had, hoad, lo2⟩ := R.adjs
  obtain ⟨f1, f2, f3, f4, f5⟩ := foot_facts R.nodup
  have m1 : nd ∈ foot nd ad g := List.mem_cons_self
  have m2 : ad ∈ foot nd ad g := List.mem_cons_of_mem _ List.mem_cons_self
  have ne : ∀ {y z : Addr}, y ∉ foot nd ad g → z ∈ foot nd ad g → y ≠ z := fun hy hz e => hy (e ▸ hz)
  have lk : (nkv g).length = (g.map (·.key)).length := by simp [nkv]
  have la : (akv g).length = (g.map (·.key)).length := by simp [akv]
  have O : OwnSrc Challenge.rw_aq6051_01.row.prog w (((((callerA.deeper e1).deeper (envOf cn { kind := .function, names := cnm, isGenerator := cig, isCoroutine := cic, more := cmo } L a ccd)))).in1.in1) (hd.heap_39 w.params) h₀ L m news 617 398 412 x nd (intKind Challenge.rw_aq6051_01.row.prog w) ond (nkv g) :=
    ⟨⟨dx, _, hx, hdx⟩, hnd, hond, ne fx m1, si, sf, sl, fun news' s Q E hs F' N' h => g_iter2 B F' X₀ N' T (hs _ hx) (hs _ hdx) (hs _ hnd) hond lo1 (hs _ had) hoad lo2 (by omega) (by omega) (ne fx m1) (ne fx m2) (ne fdx m1) (ne fdx m2) f1 h,
      fun news' s Q E hs F' N' h => g_len2 B F' X₀ N' T (hs _ hx) (hs _ hdx) (hs _ hnd) hond lo1 (hs _ had) hoad lo2 (by omega) (by omega) (ne fx m1) (ne fx m2) (ne fdx m1) (ne fdx m2) f1 h⟩
  have ek : (nkv g).map (·.1) = g.map (·.key) := by unfold nkv; rw [List.map_map]; rfl
  refine own_collect O X₀ rfl Fh N (by omega) fun h' tk vs F' N' hi => ?_
  refine hQ h' tk vs.toList F' N' ?_
  rw [← ek]
  exact ints_of_items (prog := Challenge.rw_aq6051_01.row.prog) (w := w) (by rw [Array.length_toList]; exact hi.1) fun j v hv => hi.2 j v (by rw [← Array.getElem?_toList]; exact hv)

end Mine
end

section
open PySem PySem.W PyProof.Rows PySem.Calls PySem.Spec PyProof.V
set_option Elab.async false
set_option linter.unusedVariables false
set_option maxRecDepth 100000
namespace Mine
/-- an item of a labelled creation sequence: its address, the label, is it a d -/
structure TE where
  t : Addr
  lab : Int
  tl : Tok
  d : Bool
  td : Tok
def letter (d : Bool) : Str := if d then Str.ofString "d" else Str.ofString "i"
abbrev tupO (e : TE) : Obj := { cls := .type "tuple", data := .seq #[.int e.lab e.tl, .str (letter e.d) e.td] }
def refs (ts : List TE) : List Value := ts.map fun e => Value.ref e.t
theorem refs_length (ts : List TE) : (refs ts).length = ts.length := by simp [refs]
end Mine
end

section
open PySem PySem.W PyProof.Rows PySem.Calls PySem.Spec PyProof.V
set_option Elab.async false
set_option linter.unusedVariables false
set_option maxRecDepth 100000
namespace Mine
section
variable {prog : Program} {w : World} {A : Around} {E : Value → Shared → Prop} {s : Shared} {h₀ : Heap} {L a : Addr} {m : Str → Option Value} {news : List (Addr × Obj)} {value slice : Expr} {l : List Value} {n : Nat} {k : Int} {u : Tok} {x : Value} {Q : Value → Shared → Prop}
theorem r_item (N : News h₀ L s.heap news) (hm : (a, listOf l.toArray n) ∈ news) (h0 : 0 ≤ k) (hfit : k < 2 ^ 63) (hx : l[k.toNat]? = some x) (h : Q x s)
    (hs : subscripted slice false (.ref a) (.int k u) = operate [.ref a, .int k u] (getItem (.ref a) (.int k u))) :
    wpAny (model prog w) A (subscriptTail value slice (.ref a) (.int k u)) Q E s :=
  have hl : s.heap.IsList a l.toArray := ⟨_, (N _ hm).1, rfl, n, rfl⟩
  tail_any hl.typeIs slot_list_getitem.lookup (wpAny_getItem_list hl h0 hfit (by simpa using hx) h) hs
theorem r_back (N : News h₀ L s.heap news) (hm : (a, listOf l.toArray n) ∈ news) (h0 : k < 0) (h1 : -(l.length : Int) ≤ k) (hfit : -(2 ^ 63) ≤ k) (hx : l[(k + (l.length : Int)).toNat]? = some x) (h : Q x s)
    (hs : subscripted slice false (.ref a) (.int k u) = operate [.ref a, .int k u] (getItem (.ref a) (.int k u))) :
    wpAny (model prog w) A (subscriptTail value slice (.ref a) (.int k u)) Q E s :=
  have hl : s.heap.IsList a l.toArray := ⟨_, (N _ hm).1, rfl, n, rfl⟩
  tail_any hl.typeIs slot_list_getitem.lookup (wpAny_getItem_list_neg hl h0 (by rw [List.size_toArray]; exact h1) hfit (by rw [List.size_toArray]; simpa using hx) h) hs
theorem r_tup {j : Nat} (N : News h₀ L s.heap news) (hm : (a, ({ cls := .type "tuple", data := .seq l.toArray n } : Obj)) ∈ news) (hlo : -(2 ^ 63) ≤ k) (hhi : k < 2 ^ 63) (hj : seqIndex? k l.length = some j) (hx : l[j]? = some x) (h : Q x s)
    (hs : subscripted slice false (.ref a) (.int k u) = operate [.ref a, .int k u] (getItem (.ref a) (.int k u))) :
    wpAny (model prog w) A (subscriptTail value slice (.ref a) (.int k u)) Q E s :=
  have ht : IsTup s.heap a l.toArray := ⟨_, (N _ hm).1, rfl, n, rfl⟩
  tail_any ht.typeIs slot_tuple_getitem.lookup (getItem_tuple ht hlo hhi (by simpa using hj) (by simpa using hx) h) hs
theorem r_len (N : News h₀ L s.heap news) (hm : (a, listOf l.toArray n) ∈ news) (hz : l.length ≤ 1000) (h : Q (.int l.length (s.toks + 1)) { s with toks := s.toks + 1 + 1 }) :
    wpAny (model prog w) A (call (.builtin "len") [.ref a]) Q E s := by
  have hl : s.heap.IsList a l.toArray := ⟨_, (N _ hm).1, rfl, n, rfl⟩
  refine len_list hl (by rw [List.size_toArray]; omega) ?_
  rw [List.size_toArray]; exact h
theorem r_truthy {Q : Bool → Shared → Prop} (N : News h₀ L s.heap news) (hm : (a, listOf l.toArray n) ∈ news) (hz : l.length ≤ 1000) (h : ∀ tk, Q (!l.isEmpty) { s with toks := tk }) :
    wpAny (model prog w) A (truthy (.ref a)) Q E s := by
  have hl : s.heap.IsList a l.toArray := ⟨_, (N _ hm).1, rfl, n, rfl⟩
  refine wpAny_truthy_list hl (by rw [List.size_toArray]; omega) ?_
  have := h (s.toks + 1 + 1)
  cases l <;> simpa using this
theorem r_pop {p : List Value} {y : Value} (F : Fr h₀ L s.heap m) (N : News h₀ L s.heap news) (hm : (a, listOf l.toArray n) ∈ news) (e : l = p ++ [y]) (hz : l.length ≤ 1000) (h : ∀ h', Fr h₀ L h' m → News h₀ L h' (upd a (listOf p.toArray (n + 1)) news) → Q y { s with heap := h' }) :
    wpAny (model prog w) A (call (.builtin "list.pop") [.ref a]) Q E s :=
  kl_pop F (news_front N hm) (by rw [List.toList_toArray, e]; exact kpa_last y p) upd_front (by rw [List.toList_toArray, sizeLine_eq]; omega) h
theorem r_pop0 {q : List Value} {y : Value} (F : Fr h₀ L s.heap m) (N : News h₀ L s.heap news) (hm : (a, listOf l.toArray n) ∈ news) (e : l = y :: q) (hz : l.length ≤ 1000) (h : ∀ h', Fr h₀ L h' m → News h₀ L h' (upd a (listOf q.toArray (n + 1)) news) → Q y { s with heap := h' }) :
    wpAny (model prog w) A (call (.builtin "list.pop") [.ref a, .int 0 u]) Q E s := by
  subst e
  exact kl_popAt (k := 0) (p := []) (q := q) (y := y) F (news_front N hm) rfl (by rw [List.size_toArray]; simp [seqIndex?]) rfl upd_front (by rw [List.toList_toArray, sizeLine_eq]; omega) h
theorem r_append (F : Fr h₀ L s.heap m) (N : News h₀ L s.heap news) (hm : (a, listOf l.toArray n) ∈ news) (hz : l.length ≤ 1000) (h : ∀ h', Fr h₀ L h' m → News h₀ L h' (upd a (listOf (l ++ [x]).toArray (n + 1)) news) → Q .none { s with heap := h' }) :
    wpAny (model prog w) A (call (.builtin "list.append") [.ref a, x]) Q E s :=
  append_K F (news_front N hm) upd_front (fun h' F' N' => h h' F' (by rw [List.push_toArray] at N'; exact N')) (by rw [List.size_toArray, sizeLine_eq]; omega)
theorem r_reverse (F : Fr h₀ L s.heap m) (N : News h₀ L s.heap news) (hm : (a, listOf l.toArray n) ∈ news) (hz : l.length ≤ 1000) (h : ∀ h', Fr h₀ L h' m → News h₀ L h' (upd a (listOf l.reverse.toArray n) news) → Q .none { s with heap := h' }) :
    wpAny (model prog w) A (call (.builtin "list.reverse") [.ref a]) Q E s :=
  kl_reverse F (news_front N hm) (by rw [List.toList_toArray]) upd_front (by rw [List.toList_toArray, sizeLine_eq]; omega) h
theorem r_method {name : Str} {id : String} {pl : Sem Bool} {Q : Value × List Value → Shared → Prop} (N : News h₀ L s.heap news) (hm : (a, listOf l.toArray n) ∈ news) (slot : Slot "list" name id) (hty : typeOf (.builtin id) = pure (.type "method_descriptor"))
    (h : Q (.builtin id, [.ref a]) s) : wpAny (model prog w) A (getMethod (.ref a) name pl) Q E s := kl_method N hm slot hty h
theorem kms_pick_all (l : List Value) : kms_pick l none none = l := by simp [kms_pick, kms_lo, kms_hi]
theorem r_slice_all (F : Fr h₀ L s.heap m) (N : News h₀ L s.heap news) (hm : (a, listOf l.toArray n) ∈ news) (hz : l.length ≤ 1000)
    (h : ∀ D h', Fr h₀ L h' m → News h₀ L h' ((D, listOf l.toArray 0) :: news) → (∀ p ∈ news, p.1 < D) → Q (.ref D) { s with heap := h' })
    (hs : subscripted slice false (.ref a) (.ref s.heap.objs.size) = operate [.ref s.heap.objs.size, .ref a] (getItem (.ref a) (.ref s.heap.objs.size))) (ht : ∀ r, letTemporaryGo value (.ref a) r = pure ()) :
    wpAny (model prog w) A (subscriptTail value slice (.ref a) (.ref s.heap.objs.size)) Q E { s with heap := s.heap.push { cls := .type "slice", data := .fields #[.none, .none, .none] } } :=
  kms_slice_lit (lo := none) (hi := none) F N ⟨_, (N _ hm).1, rfl, n, rfl⟩ .none .none (by rw [List.toList_toArray]; exact kms_pick_all l) h hs ht (by rw [List.size_toArray, sizeLine_eq]; omega)
end
section
variable {prog : Program} {w : World} {A : Around} {E : Value → Shared → Prop} {s : Shared} {K : Frag} {h₀ : Heap} {L x C dx : Addr} {m : Str → Option Value} {news : List (Addr × Obj)} {es es' : List DictEntry} {n n' : Nat} {name : Str} {v : Value}
theorem r_setattr {Q : Unit → Shared → Prop} (F : Fr h₀ L s.heap m) (X₀ : K.In h₀) (N : News h₀ L s.heap news) (hx : (x, instObj C dx) ∈ news) (hdx : (dx, dictOf es n) ∈ news)
    (hs : findIn K (.ref C) "__setattr__" = some (some (.builtin "object.__setattr__"))) (hp : plainOver K C = true) (ht : takerIn K C name = some none) (hh : hasDictIn K C = true) (hl : (getL name es).isSome = true)
    (e : (putL name (PyData.keyHash w.params name) (.str name (s.toks + 1)) v es, putN name es n) = (es', n')) (hz : es'.length ≤ 1000)
    (h : ∀ h', Fr h₀ L h' m → News h₀ L h' (upd dx (dictOf es' n') news) → Q () { s with heap := h', toks := s.toks + 2 }) :
    wpAny (model prog w) A (setAttr (.ref x) name v) Q E s :=
  set_dict F X₀ (news_front N hdx) (InstAt.of_news N hx hdx) rfl hs hp ht hh hl e upd_front hz h
end
section
variable {prog : Program} {w : World} {A : Around} {E : Value → Shared → Prop} {s : Shared} {h₀ : Heap} {L d : Addr} {news : List (Addr × Obj)} {o : Obj} {k : Str} {u : Tok} {dflt : Value}
theorem r_dpop {Q : Value → Shared → Prop} (N : News h₀ L s.heap news) (hm : (d, o) ∈ news) (hd : o.IsDictOf (PySem.strKind prog w) []) (lo : (d == sysModules) = false) (h : Q dflt { s with toks := s.toks + 1 }) :
    wpAny (model prog w) A (call (.builtin "dict.pop") [.ref d, .str k u, dflt]) Q E s :=
  kt_pop_default PyProof.V.same_str (strKind_is _ _ _ _) rfl (TabAt.ofNews N hm lo hd FlatPairs.nil) (PySem.F.args_dict_pop_3 _ _ _) rfl h
end
end Mine
end

section
open PySem PySem.W PyProof.Rows PySem.Calls PySem.Spec PyProof.V
set_option Elab.async false
set_option linter.unusedVariables false
set_option maxRecDepth 100000
namespace Mine
theorem GR.mono {w : World} {news news' : List (Addr × Obj)} {x : Addr} {F : List Addr} {ks : List Int} {Ed : Int → Int → Bool} {b : Nat} (G : GR w news x F ks Ed b) (h : ∀ a o, (a, o) ∈ news → a ∈ F → (a, o) ∈ news') : GR w news' x F ks Ed b := by
  obtain ⟨nd, ad, dx, g, R, rfl, rfl, hE, hB⟩ := G
  obtain ⟨gd, h1, h2, h3, t1, t2, t3, ep, hx, hdx, fx, fdx⟩ := R.inst
  obtain ⟨ond, hnd, hond, lo1⟩ := R.nodes
  obtain ⟨oad, had, hoad, lo2⟩ := R.adjs
  have up : ∀ {y : Addr}, y ∈ foot nd ad g → y ∈ x :: dx :: foot nd ad g := fun hy => List.mem_cons_of_mem _ (List.mem_cons_of_mem _ hy)
  refine ⟨nd, ad, dx, g, ⟨⟨gd, h1, h2, h3, t1, t2, t3, ep, h _ _ hx List.mem_cons_self, h _ _ hdx (List.mem_cons_of_mem _ List.mem_cons_self), fx, fdx⟩, ⟨ond, h _ _ hnd (up List.mem_cons_self), hond, lo1⟩, ⟨oad, h _ _ had (up (List.mem_cons_of_mem _ List.mem_cons_self)), hoad, lo2⟩, ?_, ?_, R.nodup, R.keys⟩, rfl, rfl, hE, hB⟩
  · intro n hn
    obtain ⟨o, ho, hd, lo⟩ := R.atts n hn
    exact ⟨o, h _ _ ho (up (foot_mem hn).2), hd, lo⟩
  · intro n hn
    obtain ⟨o, ho, hd, lo⟩ := R.rows n hn
    exact ⟨o, h _ _ ho (up (foot_mem hn).1), hd, lo⟩
/-- the ledger without the object at d -/
def off (d : Addr) (news : List (Addr × Obj)) : List (Addr × Obj) := news.filter (fun p => decide (p.1 ≠ d))
theorem mem_off {a d : Addr} {oa : Obj} {news : List (Addr × Obj)} (h : (a, oa) ∈ news) (hn : a ≠ d) : (a, oa) ∈ off d news := List.mem_filter.mpr ⟨h, by simpa using hn⟩
theorem off_sub {d : Addr} {news : List (Addr × Obj)} : ∀ p ∈ off d news, p ∈ news := fun p hp => (List.mem_filter.mp hp).1
theorem off_ne {d : Addr} {news : List (Addr × Obj)} : ∀ p ∈ off d news, p.1 ≠ d := fun p hp => by simpa using (List.mem_filter.mp hp).2

/-- a turn's end -/
def TurnP (h₀ : Heap) (L Ia : Addr) (oI : Obj) (J : (Str → Option Value) → List (Addr × Obj) → Prop) (s : Shared) (Q : Flow → Shared → Prop) (f : Flow) (s₂ : Shared) : Prop :=
  match f with
  | .ret v => Q (.ret v) s₂
  | .brk => Q .next s₂
  | _ => ∃ h' tk m' news', s₂ = { s with heap := h', toks := tk } ∧ Fr h₀ L h' m' ∧ News h₀ L h' news' ∧ (Ia, oI) ∈ news' ∧ J m' (off Ia news')

section
variable {prog : Program} {w : World} {A : Around} {E : Value → Shared → Prop} {s : Shared} {env : Env} {h₀ : Heap} {x : Str} {body : List Stmt} {Q : Flow → Shared → Prop}
theorem for_mem {ax : Addr} {vs : List Value} {n : Nat} {m₀ : Str → Option Value} {news : List (Addr × Obj)} (J : Nat → (Str → Option Value) → List (Addr × Obj) → Prop)
    (hh : A.handled = none) (F : Fr h₀ env.locals s.heap m₀) (N : News h₀ env.locals s.heap news) (hm : (ax, listOf vs.toArray n) ∈ news)
    (hJl : ∀ i m' nw, J i m' nw → (ax, listOf vs.toArray n) ∈ nw) (h0 : J 0 m₀ news)
    (turn : ∀ i v m₁ news₁ h tk Ia oI, vs[i]? = some v → J i m₁ news₁ → (∀ p ∈ news₁, p.1 ≠ Ia) → Fr h₀ env.locals h (fun y => if y = x then some v else m₁ y) → News h₀ env.locals h ((Ia, oI) :: news₁) →
      wpAny (model prog w) A (execs body env) (TurnP h₀ env.locals Ia oI (J (i + 1)) s Q) E { s with heap := h, toks := tk })
    (done : ∀ m₁ news₁ h tk, J vs.length m₁ news₁ → Fr h₀ env.locals h m₁ → News h₀ env.locals h news₁ → Q .next { s with heap := h, toks := tk }) :
    wpAny (model prog w) A (pyIter (.ref ax)) (fun it s₂ => LoopAtV prog w A h₀ env x body Q E it s₂) E s := by
  have hax := N _ hm
  have hl : s.heap.IsList ax vs.toArray := ⟨_, hax.1, rfl, n, rfl⟩
  have hlt : ax < s.heap.objs.size := Heap.lt_size hax.1
  have hne : ax ≠ s.heap.objs.size := Nat.ne_of_lt hlt
  refine wpAny_pyIter_list hl ?_
  have W := Walks.list (prog := prog) (w := w) hh s.heap.objs.size ax hne vs.toArray
  have hnew := next_is_new F
  have hlen : vs.toArray.size = vs.length := by simp
  rw [hlen] at W
  refine ⟨_, _, _, vs.length, _, _, m₀, news, J, rfl, W, ?_, ?_, ?_, ⟨⟨_, Heap.get?_push_size _ rfl, rfl, rfl⟩, hl.at fun o e => Heap.get?_push_of_some _ e⟩, F.push _, (fun p hp => ⟨Heap.get?_push_of_some _ (N p hp).1, (N p hp).2⟩), h0, ?_, ?_⟩
  · intro hmm
    rcases List.mem_cons.mp hmm with e | hmm
    · exact absurd F.ns.lt (e ▸ Nat.lt_irrefl _)
    · exact hax.2.1 (List.mem_singleton.mp hmm).symm
  · intro b hb
    rw [List.mem_singleton.mp hb]
    exact hnew
  · intro p hp hI
    exact absurd (Heap.lt_size (N p hp).1) ((List.mem_singleton.mp hI) ▸ Nat.lt_irrefl _)
  · rintro i v m₁ news₁ s₁ own ⟨hh', tk', rfl⟩ hin hP hJ hoff hown hget hall hst F₁ N₁
    obtain ⟨it, hit, hic, hid⟩ := hst.1
    have hmemI := hall s.heap.objs.size (List.mem_cons_self ..) hnew _ hit
    have hoff' : ∀ p ∈ news₁, p.1 ≠ s.heap.objs.size := fun p hp e => hoff p hp (List.mem_singleton.mpr e)
    have N₂ : News h₀ env.locals hh' ((s.heap.objs.size, it) :: news₁) := fun p hp => by
      rcases List.mem_cons.mp hp with rfl | hp
      · exact N₁ _ (List.mem_append_left _ hmemI)
      · exact N₁ _ (List.mem_append_right _ hp)
    have hgetax := (N₂ _ (List.mem_cons_of_mem _ (hJl _ _ _ hJ))).1
    refine wpAny_mono (turn i v m₁ news₁ hh' tk' _ it (by simpa using hP) hJ hoff' F₁ N₂) (fun f s₂ p => ?_) fun _ _ e => e
    have fin : (∃ h' tk m' news', s₂ = { s with heap := h', toks := tk } ∧ Fr h₀ env.locals h' m' ∧ News h₀ env.locals h' news' ∧ (s.heap.objs.size, it) ∈ news' ∧ J (i + 1) m' (off s.heap.objs.size news')) →
        LoopStepU h₀ env.locals [s.heap.objs.size] own (J (i + 1)) { s with heap := hh', toks := tk' } .next s₂ := by
      rintro ⟨h', tk, m', news', e, F', N', hI, hJ'⟩
      refine ⟨rfl, h', tk, m', off s.heap.objs.size news', e, F', fun p hp => ?_, fun p hp hI => off_ne p hp (List.mem_singleton.mp hI), hJ'⟩
      rcases List.mem_append.mp hp with hp | hp
      · have h1 := hown p hp
        have h2 : hh'.get? p.1 = some p.2 := hget p hp
        rcases List.mem_cons.mp h1 with h1 | h1
        · have h3 : p = (s.heap.objs.size, it) := by
            rw [h1, hit] at h2
            exact Prod.ext h1 (Option.some.inj h2).symm
          rw [h3]; exact N' _ hI
        · have h1 := List.mem_singleton.mp h1
          have h3 : p = (ax, listOf vs.toArray n) := by
            rw [h1] at h2
            rw [hgetax] at h2
            exact Prod.ext h1 (Option.some.inj h2).symm
          rw [h3]; exact N' _ (off_sub _ (hJl _ _ _ hJ'))
      · exact N' _ (off_sub _ hp)
    cases f with
    | ret v => exact .ret p
    | brk => exact .brk p
    | next => exact .next (fin p)
    | cont => exact .cont (fin p)
  · rintro h' tk m' news' F' N' _ hJ
    exact done m' news' h' tk hJ F' N'
theorem for_none {ax : Addr} {vs : List Value} {ns : List Int} {n : Nat} {m₀ : Str → Option Value} {news : List (Addr × Obj)} (hh : A.handled = none) (F : Fr h₀ env.locals s.heap m₀) (N : News h₀ env.locals s.heap news) (hm : (ax, listOf vs.toArray n) ∈ news)
    (hi : IntsAre vs ns) (e : ns = []) (done : ∀ h tk, Fr h₀ env.locals h m₀ → News h₀ env.locals h news → Q .next { s with heap := h, toks := tk }) :
    wpAny (model prog w) A (pyIter (.ref ax)) (fun it s₂ => LoopAtV prog w A h₀ env x body Q E it s₂) E s := by
  subst e
  cases hi
  exact for_mem (vs := []) (fun _ m' nw => m' = m₀ ∧ nw = news) hh F N hm (fun _ _ _ h => h.2 ▸ hm) ⟨rfl, rfl⟩ (fun i v _ _ _ _ _ _ h => by simp at h) (fun m₁ news₁ h tk ⟨h1, h2⟩ F' N' => by subst h1; subst h2; exact done h tk F' N')
end
-- loops with a canonical frame

theorem fr_canon {h₀ h : Heap} {L : Addr} {m₀ m₁ : Str → Option Value} (stored : List Str) (h2 : ∀ z, stored.contains z = false → m₁ z = m₀ z) (F : Fr h₀ L h m₁) : Fr h₀ L h (fun z => if stored.contains z then m₁ z else m₀ z) := by
  have e : (fun z => if stored.contains z = true then m₁ z else m₀ z) = m₁ := by
    funext z
    cases hc : stored.contains z with
    | true => simp
    | false => simp only [Bool.false_eq_true, if_false]; exact (h2 z hc).symm
  rw [e]; exact F
def WEnd (h₀ : Heap) (L : Addr) (stored : List Str) (m₀ : Str → Option Value) (J : Nat → List (Addr × Obj) → Prop) (s : Shared) (Q : Flow → Shared → Prop) (n : Nat) (f : Flow) (s₂ : Shared) : Prop :=
  match f with
  | .ret v => Q (.ret v) s₂
  | .brk => Q .next s₂
  | _ => ∃ h' tk m' nw' n', s₂ = { s with heap := h', toks := tk } ∧ Fr h₀ L h' m' ∧ News h₀ L h' nw' ∧ n' < n ∧ J n' nw' ∧ ∀ z, stored.contains z = false → m' z = m₀ z
theorem WEnd.intro {h₀ : Heap} {L : Addr} {stored : List Str} {m₀ : Str → Option Value} {J : Nat → List (Addr × Obj) → Prop} {s : Shared} {Q : Flow → Shared → Prop} {n : Nat} {h' : Heap} {tk : Nat} {m' : Str → Option Value} {nw' : List (Addr × Obj)} {n' : Nat}
    (F : Fr h₀ L h' m') (N : News h₀ L h' nw') (hn : n' < n) (hJ : J n' nw') (hm : ∀ z, stored.contains z = false → m' z = m₀ z) : WEnd h₀ L stored m₀ J s Q n .next { s with heap := h', toks := tk } := ⟨h', tk, m', nw', n', rfl, F, N, hn, hJ, hm⟩
section
variable {prog : Program} {w : World} {A : Around} {E : Value → Shared → Prop} {s : Shared} {env : Env} {h₀ : Heap} {L : Addr} {Q : Flow → Shared → Prop}
theorem while_st {test : Expr} {body : List Stmt} {pos : Pos} {m₀ : Str → Option Value} {news₀ : List (Addr × Obj)} (stored : List Str) (J : Nat → List (Addr × Obj) → Prop) (n₀ : Nat)
    (F : Fr h₀ L s.heap m₀) (N : News h₀ L s.heap news₀) (hJ : J n₀ news₀)
    (turn : ∀ n (u : Str → Option Value) nw h tk, Fr h₀ L h (fun z => if stored.contains z then u z else m₀ z) → News h₀ L h nw → J n nw →
      wpAny (model prog w) A (isTrue test env (eval test env)) (fun b s₂ =>
        if b = true then wpAny (model prog w) A (execs body env) (WEnd h₀ L stored m₀ J s Q n) E s₂ else Q .next s₂) E { s with heap := h, toks := tk })
    (hE : PassesOwn (model prog w) A env E := by passes_own) :
    wpAny (model prog w) A (exec (.While test body [] pos) env) Q E s := by
  refine While_inv2 (fun n m nw => J n nw ∧ ∀ z, stored.contains z = false → m z = m₀ z) F N ⟨hJ, fun _ _ => rfl⟩ ?_ hE
  rintro n m₁ nw h tk F₁ N₁ ⟨h1, h2⟩
  refine wpAny_mono (turn n m₁ nw h tk (fr_canon stored h2 F₁) N₁ h1) (fun b s₂ p => ?_) fun _ _ x => x
  cases b with
  | false => simpa using p
  | true =>
    simp only [if_true] at p ⊢
    refine wpAny_mono p (fun f s₃ q => ?_) fun _ _ x => x
    cases f with
    | ret v => exact q
    | brk => exact q
    | next =>
      obtain ⟨h', tk', m', nw', n', rfl, F', N', hn, hj, hm⟩ := q
      exact ⟨h', tk', m', nw', n', rfl, F', N', hn, hj, hm⟩
    | cont =>
      obtain ⟨h', tk', m', nw', n', rfl, F', N', hn, hj, hm⟩ := q
      exact ⟨h', tk', m', nw', n', rfl, F', N', hn, hj, hm⟩
end
def FEnd (h₀ : Heap) (L Ia : Addr) (oI : Obj) (x : Str) (stored : List Str) (m₀ : Str → Option Value) (J : List (Addr × Obj) → Prop) (s : Shared) (Q : Flow → Shared → Prop) (f : Flow) (s₂ : Shared) : Prop :=
  match f with
  | .ret v => Q (.ret v) s₂
  | .brk => Q .next s₂
  | _ => ∃ h' tk m' news', s₂ = { s with heap := h', toks := tk } ∧ Fr h₀ L h' m' ∧ News h₀ L h' news' ∧ (Ia, oI) ∈ news' ∧ J (off Ia news') ∧ ∀ z, z ≠ x → stored.contains z = false → m' z = m₀ z
theorem FEnd.intro {h₀ : Heap} {L Ia : Addr} {oI : Obj} {x : Str} {stored : List Str} {m₀ : Str → Option Value} {J : List (Addr × Obj) → Prop} {s : Shared} {Q : Flow → Shared → Prop} {h' : Heap} {tk : Nat} {m' : Str → Option Value} {nw' : List (Addr × Obj)}
    (F : Fr h₀ L h' m') (N : News h₀ L h' nw') (hI : (Ia, oI) ∈ nw') (hJ : J (off Ia nw')) (hm : ∀ z, z ≠ x → stored.contains z = false → m' z = m₀ z) : FEnd h₀ L Ia oI x stored m₀ J s Q .next { s with heap := h', toks := tk } := ⟨h', tk, m', nw', rfl, F, N, hI, hJ, hm⟩
section
variable {prog : Program} {w : World} {A : Around} {E : Value → Shared → Prop} {s : Shared} {env : Env} {h₀ : Heap} {x : Str} {body : List Stmt} {Q : Flow → Shared → Prop}
theorem for_st {ax : Addr} {vs : List Value} {n : Nat} {m₀ : Str → Option Value} {news : List (Addr × Obj)} (stored : List Str) (J : Nat → List (Addr × Obj) → Prop)
    (hh : A.handled = none) (F : Fr h₀ env.locals s.heap m₀) (N : News h₀ env.locals s.heap news) (hm : (ax, listOf vs.toArray n) ∈ news)
    (hJl : ∀ i nw, J i nw → (ax, listOf vs.toArray n) ∈ nw) (h0 : J 0 news)
    (turn : ∀ i v (u : Str → Option Value) news₁ h tk Ia oI, vs[i]? = some v → J i news₁ → (∀ p ∈ news₁, p.1 ≠ Ia) → Fr h₀ env.locals h (fun y => if y = x then some v else if stored.contains y then u y else m₀ y) → News h₀ env.locals h ((Ia, oI) :: news₁) →
      wpAny (model prog w) A (execs body env) (FEnd h₀ env.locals Ia oI x stored m₀ (J (i + 1)) s Q) E { s with heap := h, toks := tk })
    (done : ∀ (u : Str → Option Value) news₁ h tk, J vs.length news₁ → Fr h₀ env.locals h (fun y => if y = x then u y else if stored.contains y then u y else m₀ y) → News h₀ env.locals h news₁ → Q .next { s with heap := h, toks := tk }) :
    wpAny (model prog w) A (pyIter (.ref ax)) (fun it s₂ => LoopAtV prog w A h₀ env x body Q E it s₂) E s := by
  have canon : ∀ (m₁ : Str → Option Value) (g : Option Value), (∀ z, z ≠ x → stored.contains z = false → m₁ z = m₀ z) → (fun y => if y = x then g else m₁ y) = fun y => if y = x then g else if stored.contains y then m₁ y else m₀ y := by
    intro m₁ g h
    funext y
    by_cases h1 : y = x
    · simp [h1]
    · simp only [if_neg h1]
      cases h2 : stored.contains y with
      | true => simp
      | false => simp only [Bool.false_eq_true, if_false]; exact h y h1 h2
  refine for_mem (fun i m' nw => J i nw ∧ ∀ z, z ≠ x → stored.contains z = false → m' z = m₀ z) hh F N hm (fun i m' nw h => hJl i nw h.1) ⟨h0, fun _ _ _ => rfl⟩ ?_ ?_
  · rintro i v m₁ news₁ h tk Ia oI hv ⟨h1, h2⟩ ho F₁ N₁
    rw [canon m₁ _ h2] at F₁
    refine wpAny_mono (turn i v m₁ news₁ h tk Ia oI hv h1 ho F₁ N₁) (fun f s₃ q => ?_) fun _ _ x => x
    cases f with
    | ret v => exact q
    | brk => exact q
    | next =>
      obtain ⟨h', tk', m', nw', rfl, F', N', hI, hj, hm⟩ := q
      exact ⟨h', tk', m', nw', rfl, F', N', hI, hj, hm⟩
    | cont =>
      obtain ⟨h', tk', m', nw', rfl, F', N', hI, hj, hm⟩ := q
      exact ⟨h', tk', m', nw', rfl, F', N', hI, hj, hm⟩
  · rintro m₁ news₁ h tk ⟨h1, h2⟩ F₁ N₁
    refine done m₁ news₁ h tk h1 ?_ N₁
    have e : (fun y => if y = x then m₁ y else if stored.contains y = true then m₁ y else m₀ y) = m₁ := by
      funext y
      by_cases h3 : y = x
      · simp [h3]
      · simp only [if_neg h3]
        cases h4 : stored.contains y with
        | true => simp
        | false => simp only [Bool.false_eq_true, if_false]; exact (h2 y h3 h4).symm
    rw [e]; exact F₁
end
end Mine
end

section
open PySem PySem.W PyProof.Rows PySem.Calls PySem.Spec PyProof.V
set_option Elab.async false
set_option linter.unusedVariables false
namespace Mine
set_option maxRecDepth 100000

theorem add_edge_U {w : World} {A₀ : Around} {base h₀ : Heap} {L a : Addr} {m mg mb : Str → Option Value} {cn : Str} {cnm : List (Str × NameKind)} {cig cic : Bool} {cmo : List (Str × Const)} {ccd : Value} {news : List (Addr × Obj)}
   {p : Program} {loose : List Str} {mean : ExcName → Option Value} {s : Shared} {Q E : Value → Shared → Prop} {e1 e2 : Env} {x : Addr} {F : List Addr} {ks : List Int} {Ed : Int → Int → Bool} {b : Nat}
   (B : Below A₀ base [e1, e2] h₀) (Fh : Fr h₀ L s.heap m) (X₀ : (hd.heap_39 w.params).In h₀) (N : News h₀ L s.heap news) (T : Top p loose mean mg mb h₀) (G : GR w news x F ks Ed b) (hb : b ≤ 900) (hk : ks.length ≤ 900)
   {u v : Int} {tu tv : Tok} (hv : v ∈ ks) (uv : u ≠ v) (huv : Ed u v = false) (hin : ∀ c d, Ed c d = true → c ∈ ks)
   (hQ : ∀ h' tk news' F' Ed', Fr h₀ L h' m → News h₀ L h' news' → GR w news' x F' (if u ∈ ks then ks else ks ++ [u]) Ed' (b + 1) → (∀ c d, Ed' c d = true ↔ ((c = u ∧ d = v) ∨ (c = v ∧ d = u)) ∨ Ed c d = true) → Keep news F news' F' → Q .none { s with heap := h', toks := tk }) :
   wpAny (model Challenge.rw_aq6051_01.row.prog w) ((((callerA.deeper e2).deeper e1).deeper (envOf cn { kind := .function, names := cnm, isGenerator := cig, isCoroutine := cic, more := cmo } L a ccd))) (call (.ref 485) [.ref x, .int u tu, .int v tv]) Q E s := by
  by_cases hu : u ∈ ks
  · refine add_edge_G2 B Fh X₀ N T G hb hk hv hu uv huv fun h' tk news' F' N' G' K' => ?_
    refine hQ h' tk news' F _ F' N' (by rw [if_pos hu]; exact G') (fun c d => ?_) K'
    simp only [Bool.or_eq_true, Bool.and_eq_true, decide_eq_true_eq]
  · refine add_edge_G1 B Fh X₀ N T G hb hk hv hu fun h' tk news' F' hF' N' G' K' => ?_
    refine hQ h' tk news' F' _ hF' N' (by rw [if_neg hu]; exact G') (fun c d => ?_) K'
    simp only [Bool.or_eq_true, Bool.and_eq_true, decide_eq_true_eq]
    constructor
    · rintro (h | h)
      · exact .inl h
      · exact .inr h.2
    · rintro (h | h)
      · exact .inl h
      · exact .inr ⟨fun e => hu (e ▸ hin c d h), h⟩
theorem add_node_U {w : World} {A₀ : Around} {base h₀ : Heap} {L a : Addr} {m mg mb : Str → Option Value} {cn : Str} {cnm : List (Str × NameKind)} {cig cic : Bool} {cmo : List (Str × Const)} {ccd : Value} {news : List (Addr × Obj)}
   {p : Program} {loose : List Str} {mean : ExcName → Option Value} {s : Shared} {Q E : Value → Shared → Prop} {e1 e2 : Env} {x : Addr} {F : List Addr} {ks : List Int} {Ed : Int → Int → Bool} {b : Nat}
   (B : Below A₀ base [e1, e2] h₀) (Fh : Fr h₀ L s.heap m) (X₀ : (hd.heap_39 w.params).In h₀) (N : News h₀ L s.heap news) (T : Top p loose mean mg mb h₀) (G : GR w news x F ks Ed b) (hb : b ≤ 900) (hk : ks.length ≤ 900)
   {v : Int} {tv : Tok} (hin : ∀ c d, Ed c d = true → c ∈ ks)
   (hQ : ∀ h' tk news' F' Ed', Fr h₀ L h' m → News h₀ L h' news' → GR w news' x F' (if v ∈ ks then ks else ks ++ [v]) Ed' b → (∀ c d, Ed' c d = true ↔ Ed c d = true) → Keep news F news' F' → Q .none { s with heap := h', toks := tk }) :
   wpAny (model Challenge.rw_aq6051_01.row.prog w) ((((callerA.deeper e2).deeper e1).deeper (envOf cn { kind := .function, names := cnm, isGenerator := cig, isCoroutine := cic, more := cmo } L a ccd))) (call (.ref 426) [.ref x, .int v tv]) Q E s := by
  by_cases hu : v ∈ ks
  · refine add_node_G2 B Fh X₀ N T G hb hk hu fun h' tk news' F' N' G' K' => ?_
    exact hQ h' tk news' F _ F' N' (by rw [if_pos hu]; exact G') (fun c d => Iff.rfl) K'
  · refine add_node_G1 B Fh X₀ N T G hb hk hu fun h' tk news' F' hF' N' G' K' => ?_
    refine hQ h' tk news' F' _ hF' N' (by rw [if_neg hu]; exact G') (fun c d => ?_) K'
    simp only [Bool.and_eq_true, decide_eq_true_eq]
    exact ⟨fun h => h.2, fun h => ⟨fun e => hu (e ▸ hin c d h), h⟩⟩

def labs (P : List TE) : List Int := P.map (·.lab)
/-- an edge of the threshold graph of a creation sequence: the later of the two is a d -/
def edP (P : List TE) (c d : Int) : Prop := ∃ P1 r P2, P = P1 ++ r :: P2 ∧ r.d = true ∧ ∃ e ∈ P1, (e.lab = c ∧ r.lab = d) ∨ (e.lab = d ∧ r.lab = c)
theorem edP_nil {c d : Int} : ¬ edP [] c d := by rintro ⟨P1, r, P2, h, _⟩; simp at h
theorem edP_snoc {P : List TE} {r : TE} {c d : Int} : edP (P ++ [r]) c d ↔ edP P c d ∨ (r.d = true ∧ ∃ e ∈ P, (e.lab = c ∧ r.lab = d) ∨ (e.lab = d ∧ r.lab = c)) := by
  constructor
  · rintro ⟨P1, r', P2, h, hd, he⟩
    rcases List.eq_nil_or_concat P2 with rfl | ⟨P2', z, rfl⟩
    · have := List.append_inj' h rfl
      obtain ⟨h1, h2⟩ := this
      subst h1
      cases h2
      exact .inr ⟨hd, he⟩
    · have h' : P ++ [r] = (P1 ++ r' :: P2') ++ [z] := by rw [h]; simp
      obtain ⟨h1, h2⟩ := List.append_inj' h' rfl
      exact .inl ⟨P1, r', P2', h1, hd, he⟩
  · rintro (⟨P1, r', P2, h, hd, he⟩ | ⟨hd, he⟩)
    · exact ⟨P1, r', P2 ++ [r], by rw [h]; simp, hd, he⟩
    · exact ⟨P, r, [], rfl, hd, he⟩
theorem edP_mem {P : List TE} {c d : Int} (h : edP P c d) : c ∈ labs P ∧ d ∈ labs P := by
  obtain ⟨P1, r, P2, rfl, hd, e, he, h | h⟩ := h
  · obtain ⟨rfl, rfl⟩ := h
    simp [labs]; exact .inl ⟨e, he, rfl⟩
  · obtain ⟨rfl, rfl⟩ := h
    simp [labs]; exact .inl ⟨e, he, rfl⟩
theorem ints_at {vs : List Value} {ks : List Int} (hi : IntsAre vs ks) {i : Nat} {v : Value} (h : vs[i]? = some v) : ∃ k t, ks[i]? = some k ∧ v = .int k t := let ⟨k, t, h1, h2⟩ := IntsAre.at hi i v h; ⟨k, t, h2, h1⟩

/-- a goal that the walk leaves alone -/
structure Hold (p : Prop) : Prop where
  out : p
/-- what holds in the loop over the nodes: i of them are joined to v -/
def ForJ (w : World) (x : Addr) (F : List Addr) (ks : List Int) (P : List TE) (b : Nat) (v : Int) (nw₀ : List (Addr × Obj)) (i : Nat) (nw : List (Addr × Obj)) : Prop :=
  ∃ F' Ed', GR w nw x F' (if i = 0 then ks else ks ++ [v]) Ed' (b + i) ∧ (∀ c d, Ed' c d = true ↔ edP P c d ∨ ∃ k ∈ ks.take i, (k = c ∧ v = d) ∨ (k = d ∧ v = c)) ∧ Keep nw₀ F nw F'
theorem Keep.off {n1 n2 : List (Addr × Obj)} {F1 F2 : List Addr} {Ia : Addr} (h : Keep n1 F1 n2 F2) (hI : ∀ a o, (a, o) ∈ n1 → a ≠ Ia) : Keep n1 F1 (off Ia n2) F2 := fun a o hm hf => ⟨mem_off (h a o hm hf).1 (hI a o hm), (h a o hm hf).2⟩
section
variable {prog : Program} {w : World} {A : Around} {E : Value → Shared → Prop} {s : Shared} {env : Env} {h₀ : Heap} {x0 : Str} {body : List Stmt} {Q : Flow → Shared → Prop}
theorem tg_for {D x : Addr} {vs : Array Value} {n : Nat} {m₀ : Str → Option Value} {nw₀ : List (Addr × Obj)} {F : List Addr} {ks : List Int} {P : List TE} {Ed : Int → Int → Bool} {b : Nat} {v : Int} (stored : List Str)
    (hh : A.handled = none) (F0 : Fr h₀ env.locals s.heap m₀) (N0 : News h₀ env.locals s.heap nw₀) (hm : (D, listOf vs n) ∈ nw₀) (hD : D ∉ F) (hi : IntsAre vs.toList ks) (hks : ks = labs P) (hnd : ks.Nodup)
    (G : GR w nw₀ x F ks Ed b) (hEd : ∀ c d, Ed c d = true ↔ edP P c d) (hv : v ∉ ks)
    (turn : Hold (∀ i k t (u : Str → Option Value) nw h tk Ia oI F' ks' Ed', GR w ((Ia, oI) :: nw) x F' ks' Ed' (b + i) → i < ks.length → ks'.length ≤ ks.length + 1 → k ∈ ks' → v ≠ k → Ed' v k = false → (∀ c d, Ed' c d = true → c ∈ ks') →
      (∀ q ∈ nw, q.1 ≠ Ia) → (∀ h' tk' m' nw' F'' Ed'', Fr h₀ env.locals h' m' → News h₀ env.locals h' nw' → GR w nw' x F'' (if v ∈ ks' then ks' else ks' ++ [v]) Ed'' (b + i + 1) → (∀ c d, Ed'' c d = true ↔ ((c = v ∧ d = k) ∨ (c = k ∧ d = v)) ∨ Ed' c d = true) → Keep ((Ia, oI) :: nw) F' nw' F'' →
        (∀ z, z ≠ x0 → stored.contains z = false → m' z = m₀ z) → FEnd h₀ env.locals Ia oI x0 stored m₀ (fun nw => (D, listOf vs n) ∈ nw ∧ ForJ w x F ks P b v nw₀ (i + 1) nw) s Q .next { s with heap := h', toks := tk' }) →
      Fr h₀ env.locals h (fun y => if y = x0 then some (.int k t) else if stored.contains y then u y else m₀ y) → News h₀ env.locals h ((Ia, oI) :: nw) →
      wpAny (model prog w) A (execs body env) (FEnd h₀ env.locals Ia oI x0 stored m₀ (fun nw => (D, listOf vs n) ∈ nw ∧ ForJ w x F ks P b v nw₀ (i + 1) nw) s Q) E { s with heap := h, toks := tk }))
    (done : Hold (∀ (u : Str → Option Value) nw h tk F' Ed', GR w nw x F' (if ks.length = 0 then ks else ks ++ [v]) Ed' (b + ks.length) → (∀ c d, Ed' c d = true ↔ edP P c d ∨ ∃ k ∈ ks, (k = c ∧ v = d) ∨ (k = d ∧ v = c)) → Keep nw₀ F nw F' →
      Fr h₀ env.locals h (fun y => if y = x0 then u y else if stored.contains y then u y else m₀ y) → News h₀ env.locals h nw → Q .next { s with heap := h, toks := tk })) :
    wpAny (model prog w) A (pyIter (.ref D)) (fun it s₂ => LoopAtV prog w A h₀ env x0 body Q E it s₂) E s := by
  have hl : vs.toList.length = ks.length := hi.length
  have e : listOf vs n = listOf vs.toList.toArray n := by rw [Array.toArray_toList]
  rw [e] at hm
  refine for_st stored (fun i nw => (D, listOf vs.toList.toArray n) ∈ nw ∧ ForJ w x F ks P b v nw₀ i nw) hh F0 N0 hm (fun i nw h => h.1) ⟨hm, F, Ed, by simpa using G, by simpa using hEd, Keep.refl⟩ ?_ ?_
  · rintro i val u nw h tk Ia oI hval ⟨hDn, F', Ed', G', hE', K'⟩ hne F₁ N₁
    obtain ⟨k, t, hk, rfl⟩ := ints_at hi hval
    have hlt : i < ks.length := (List.getElem?_eq_some_iff.mp hk).1
    have hkm : k ∈ ks := List.mem_of_getElem? hk
    have hvk : v ≠ k := fun q => hv (q ▸ hkm)
    have hk' : k ∈ (if i = 0 then ks else ks ++ [v]) := by split <;> simp [hkm]
    have hEf : Ed' v k = false := by
      cases q : Ed' v k with
      | false => rfl
      | true =>
        exfalso
        rcases (hE' v k).mp q with q | ⟨j, hj, q | q⟩
        · exact hv (hks ▸ (edP_mem q).1)
        · exact hvk q.2
        · obtain ⟨rfl, _⟩ := q
          obtain ⟨i', hi', e'⟩ := List.mem_iff_getElem.mp hj
          have h1 : i' < i := by simp at hi'; omega
          rw [List.getElem_take] at e'
          have h2 := (List.getElem?_eq_some_iff.mp hk).2
          have h3 : ks[i'] ≠ ks[i] := (List.pairwise_iff_getElem.mp hnd) i' i (by omega) hlt h1
          exact h3 (e'.trans h2.symm)
    have hin : ∀ c d, Ed' c d = true → c ∈ (if i = 0 then ks else ks ++ [v]) := fun c d q => by
      rcases (hE' c d).mp q with q | ⟨j, hj, q | q⟩
      · have : c ∈ ks := hks ▸ (edP_mem q).1
        split <;> simp [this]
      · have : c ∈ ks := q.1 ▸ List.mem_of_mem_take hj
        split <;> simp [this]
      · have hi0 : i ≠ 0 := by rintro rfl; simp at hj
        rw [if_neg hi0, ← q.2]; simp
    rw [← e]
    refine turn.out i k t u nw h tk Ia oI F' _ Ed' (G'.mono fun a o h _ => List.mem_cons_of_mem _ h) hlt (by split <;> simp) hk' hvk hEf hin hne (fun h' tk' m' nw' F'' Ed'' F2 N2 G2 hE2 K2 hm2 => ?_) F₁ N₁
    have hI : ∀ a o, (a, o) ∈ nw₀ → a ∉ F → a ≠ Ia := fun a o ha hf => hne _ (K' a o ha hf).1
    have hIF : Ia ∉ F' := fun hc => by
      obtain ⟨nd, ad, dx, g, R, rfl, _⟩ := G'
      obtain ⟨gd, h1, h2, h3, t1, t2, t3, ep, hx, hdx, _⟩ := R.inst
      rcases List.mem_cons.mp hc with q | hc
      · exact hne _ hx q.symm
      rcases List.mem_cons.mp hc with q | hc
      · exact hne _ hdx q.symm
      unfold foot at hc
      rcases List.mem_cons.mp hc with q | hc
      · obtain ⟨o, ho, _⟩ := R.nodes; exact hne _ ho q.symm
      rcases List.mem_cons.mp hc with q | hc
      · obtain ⟨o, ho, _⟩ := R.adjs; exact hne _ ho q.symm
      rcases List.mem_append.mp hc with hc | hc
      · obtain ⟨n', hn', rfl⟩ := List.mem_map.mp hc
        obtain ⟨o, ho, _⟩ := R.rows n' hn'; exact hne _ ho rfl
      · obtain ⟨n', hn', rfl⟩ := List.mem_map.mp hc
        obtain ⟨o, ho, _⟩ := R.atts n' hn'; exact hne _ ho rfl
    have kI := K2 Ia oI List.mem_cons_self hIF
    have K3 : Keep nw₀ F (off Ia nw') F'' := fun a o ha hf => by
      have z := K' a o ha hf
      have z2 := K2 a o (List.mem_cons_of_mem _ z.1) z.2
      exact ⟨mem_off z2.1 (hI a o ha hf), z2.2⟩
    refine FEnd.intro F2 N2 kI.1 ⟨e ▸ (K3 D _ hm hD).1, F'', Ed'', ?_, fun c d => ?_, K3⟩ hm2
    · have e3 : (if v ∈ (if i = 0 then ks else ks ++ [v]) then (if i = 0 then ks else ks ++ [v]) else (if i = 0 then ks else ks ++ [v]) ++ [v]) = if i + 1 = 0 then ks else ks ++ [v] := by
        rw [if_neg (Nat.succ_ne_zero i)]
        by_cases h0 : i = 0
        · simp [h0, hv]
        · simp [h0]
      rw [e3] at G2
      exact G2.mono fun a o ha hf => mem_off ha fun q => kI.2 (q ▸ hf)
    · rw [hE2 c d, hE' c d, List.take_add_one, hk]
      simp only [Option.toList_some, List.mem_append, List.mem_singleton]
      constructor
      · rintro (h | h | ⟨j, hj, h⟩)
        · exact .inr ⟨k, .inr rfl, by rcases h with ⟨rfl, rfl⟩ | ⟨rfl, rfl⟩ <;> simp⟩
        · exact .inl h
        · exact .inr ⟨j, .inl hj, h⟩
      · rintro (h | ⟨j, hj | rfl, h⟩)
        · exact .inr (.inl h)
        · exact .inr (.inr ⟨j, hj, h⟩)
        · exact .inl (by rcases h with ⟨rfl, rfl⟩ | ⟨rfl, rfl⟩ <;> simp)
  · rintro u nw h tk ⟨hDn, F', Ed', G', hE', K'⟩ F₁ N₁
    rw [hl] at G' hE'
    rw [List.take_length] at hE'
    exact done.out u nw h tk F' Ed' G' hE' K' F₁ N₁
end

theorem stop_here {M : Model} {A : Around} {α : Type} {t : Sem α} {Q : α → Shared → Prop} {E : Value → Shared → Prop} {s : Shared} (h : Hold (wpAny M A t Q E s)) : wpAny M A t Q E s := h.out
/-- which ledger a spec speaks of -/
structure NewsIs (l : List (Addr × Obj)) : Prop where
theorem not_in4 {a b c d e : Addr} (h1 : a ≠ b) (h2 : a ≠ c) (h3 : a ≠ d) (h4 : a ≠ e) : a ∉ [b, c, d, e] := by simp [h1, h2, h3, h4]
theorem gr_init {w : World} {nw : List (Addr × Obj)} {x dx gd nd ad : Addr} {h1 h2 h3 : Int} {t1 t2 t3 : Tok} {ep : Nat} {ond oad : Obj} (hx : (x, instObj 617 dx) ∈ nw) (hdx : (dx, dictOf [⟨h1, .str "graph" t1, .ref gd⟩, ⟨h2, .str "_node" t2, .ref nd⟩, ⟨h3, .str "_adj" t3, .ref ad⟩] ep) ∈ nw)
    (hnd : (nd, ond) ∈ nw) (hond : ond.IsDictOf (intKind Challenge.rw_aq6051_01.row.prog w) []) (lo1 : (nd == sysModules) = false) (had : (ad, oad) ∈ nw) (hoad : oad.IsDictOf (intKind Challenge.rw_aq6051_01.row.prog w) []) (lo2 : (ad == sysModules) = false)
    (d1 : x ≠ nd) (d2 : x ≠ ad) (d3 : dx ≠ nd) (d4 : dx ≠ ad) (d5 : nd ≠ ad) : GR w nw x [x, dx, nd, ad] [] (fun _ _ => false) 0 :=
  ⟨nd, ad, dx, [], ⟨⟨gd, h1, h2, h3, t1, t2, t3, ep, hx, hdx, by simp [foot, d1, d2], by simp [foot, d3, d4]⟩, ⟨ond, hnd, hond, lo1⟩, ⟨oad, had, hoad, lo2⟩, (fun _ h => nomatch h), (fun _ h => nomatch h), by simp [foot, d5], by simp⟩, rfl, rfl, (fun _ h => nomatch h), (fun _ h => nomatch h)⟩
def TGJ (w : World) (x ci : Addr) (ts : List TE) (news : List (Addr × Obj)) (n : Nat) (nw : List (Addr × Obj)) : Prop :=
  ∃ P R cn F Ed b, ts = P ++ R ∧ n = R.length ∧ (ci, listOf (refs R).toArray cn) ∈ nw ∧ ci ∉ F ∧ GR w nw x F (labs P) Ed b ∧ b ≤ 9 * P.length ∧ (∀ c d, Ed c d = true ↔ edP P c d) ∧ ∀ a o, (a, o) ∈ news → a ≠ ci ∧ (a, o) ∈ nw ∧ a ∉ F
section
variable {prog : Program} {w : World} {A : Around} {E : Value → Shared → Prop} {s : Shared} {env : Env} {h₀ : Heap} {L : Addr} {Q : Flow → Shared → Prop}
theorem tg_loop {test : Expr} {body : List Stmt} {pos : Pos} {x ci : Addr} {cn : Nat} {ts : List TE} {m₀ : Str → Option Value} {news nw₀ : List (Addr × Obj)} {F : List Addr} (stored : List Str) (_hmk : NewsIs news) (hz : ts.length ≤ 9) (hnd : (labs ts).Nodup)
    (wF : Fr h₀ L s.heap m₀) (wN : News h₀ L s.heap nw₀) (_hg : m₀ (Str.ofString "G") = some (.ref x)) (_hc : m₀ (Str.ofString "ci") = some (.ref ci)) (hci : (ci, listOf (refs ts).toArray cn) ∈ nw₀) (G0 : GR w nw₀ x F [] (fun _ _ => false) 0) (hciF : ci ∉ F) (hkeep : ∀ a o, (a, o) ∈ news → a ≠ ci ∧ (a, o) ∈ nw₀ ∧ a ∉ F)
    (turn : Hold (∀ n P r R cn F Ed b (u : Str → Option Value) nw h tk, ts = P ++ r :: R → (ci, listOf (refs (r :: R)).toArray cn) ∈ nw → ci ∉ F → GR w nw x F (labs P) Ed b → b ≤ 9 * P.length → P.length ≤ 8 → R.length ≤ 8 → (∀ c d, Ed c d = true ↔ edP P c d) → r.lab ∉ labs P → (labs P).Nodup → (∀ a o, (a, o) ∈ news → a ≠ ci ∧ (a, o) ∈ nw ∧ a ∉ F) →
      (∀ h' tk' m' nw' F' Ed' b' cn', Fr h₀ L h' m' → News h₀ L h' nw' → GR w nw' x F' (labs P ++ [r.lab]) Ed' b' → b' ≤ b + P.length → (∀ c d, Ed' c d = true ↔ edP (P ++ [r]) c d) → (ci, listOf (refs R).toArray cn') ∈ nw' → ci ∉ F' → (∀ a o, (a, o) ∈ news → (a, o) ∈ nw' ∧ a ∉ F') →
        (∀ z, stored.contains z = false → m' z = m₀ z) → WEnd h₀ L stored m₀ (TGJ w x ci ts news) s Q n .next { s with heap := h', toks := tk' }) →
      Fr h₀ L h (fun z => if stored.contains z then u z else m₀ z) → News h₀ L h nw →
      wpAny (model prog w) A (isTrue test env (eval test env)) (fun b s₂ => if b = true then wpAny (model prog w) A (execs body env) (WEnd h₀ L stored m₀ (TGJ w x ci ts news) s Q n) E s₂ else Q .next s₂) E { s with heap := h, toks := tk }))
    (stop : Hold (∀ n cn F Ed b (u : Str → Option Value) nw h tk, (ci, listOf (refs []).toArray cn) ∈ nw → GR w nw x F (labs ts) Ed b → b ≤ 81 → (∀ c d, Ed c d = true ↔ edP ts c d) → (∀ a o, (a, o) ∈ news → (a, o) ∈ nw ∧ a ∉ F) →
      Fr h₀ L h (fun z => if stored.contains z then u z else m₀ z) → News h₀ L h nw →
      wpAny (model prog w) A (isTrue test env (eval test env)) (fun b s₂ => if b = true then wpAny (model prog w) A (execs body env) (WEnd h₀ L stored m₀ (TGJ w x ci ts news) s Q n) E s₂ else Q .next s₂) E { s with heap := h, toks := tk }))
    (hE : PassesOwn (model prog w) A env E := by passes_own) :
    wpAny (model prog w) A (exec (.While test body [] pos) env) Q E s := by
  refine while_st stored (TGJ w x ci ts news) ts.length wF wN ⟨[], ts, cn, F, fun _ _ => false, 0, rfl, rfl, hci, hciF, G0, Nat.zero_le _, fun c d => ⟨fun h => (Bool.false_ne_true h).elim, fun h => (edP_nil h).elim⟩, hkeep⟩ ?_ hE
  rintro n u nw h tk F₁ N₁ ⟨P, R, cn, F, Ed, b, e, rfl, hci, hcF, G, hb, hEd, hk⟩
  cases R with
  | nil =>
    have e' : ts = P := by simpa using e
    subst e'
    exact stop.out _ cn F Ed b u nw h tk hci G (by omega) hEd (fun a o ha => (hk a o ha).2) F₁ N₁
  | cons r R =>
    have hl : P.length + (R.length + 1) ≤ 9 := by rw [e] at hz; simpa using hz
    have hnd' : (labs P).Nodup ∧ r.lab ∉ labs P := by
      rw [e] at hnd
      unfold labs at hnd ⊢
      rw [List.map_append, List.nodup_append] at hnd
      exact ⟨hnd.1, fun hc => hnd.2.2 _ hc _ (by simp) rfl⟩
    refine turn.out _ P r R cn F Ed b u nw h tk e hci hcF G hb (by omega) (by omega) hEd hnd'.2 hnd'.1 hk (fun h' tk' m' nw' F' Ed' b' cn' F2 N2 G2 hb2 hE2 hc2 hcf2 hk2 hm2 => ?_) F₁ N₁
    refine WEnd.intro F2 N2 (n' := R.length) (by simp) ⟨P ++ [r], R, cn', F', Ed', b', by rw [e]; simp, rfl, hc2, hcf2, by unfold labs at G2 ⊢; rw [List.map_append]; exact G2, by simp; omega, hE2, fun a o ha => ⟨(hk a o ha).1, hk2 a o ha⟩⟩ hm2
end

end Mine
end

section
open PySem PySem.W PyProof.Rows PySem.Calls PySem.Spec PyProof.V
set_option Elab.async false
set_option linter.unusedVariables false
namespace Mine
set_option pp.maxSteps 3000
set_option pp.deepTerms false
theorem ne_of_in {a b : Addr} {F : List Addr} (h : a ∈ F) (h2 : b ∉ F) : a ≠ b := fun e => h2 (e ▸ h)
theorem refs_cons {r : TE} {R : List TE} : refs (r :: R) = .ref r.t :: refs R := rfl
local macro_rules | `(tactic| k_lt $_h:ident) => `(tactic| skip)
local macro_rules | `(tactic| walk_at "g_ne") => `(tactic| first | with_reducible assumption | (refine Ne.symm ?_; with_reducible assumption) | exact Nat.ne_of_gt (by with_reducible assumption) | exact Nat.ne_of_lt (by with_reducible assumption) | (refine' ne_fresh ?l ?h; (case l => with_reducible assumption); (case h => walk_at "g_has")) | (refine' ne_fresh' ?l ?h; (case l => with_reducible assumption); (case h => walk_at "g_has")))
local macro_rules | `(tactic| walk_at "g_has") => `(tactic| first | with_reducible exact Has.of (by with_reducible assumption) | with_reducible exact Has.self | with_reducible exact Has.self_upd | (with_reducible refine Has.cons ?_; walk_at "g_has") | (with_reducible refine Has.upd ?_; walk_at "g_has"))
local macro_rules | `(tactic| k_mem) => `(tactic| first | with_reducible assumption | with_reducible exact mem_upd_self | (with_reducible refine' mem_upd ?h ?n; (case h => k_mem); (case n => walk_at "g_ne")) | with_reducible exact List.mem_cons_self | (with_reducible refine List.mem_cons_of_mem _ ?_; k_mem))
local macro_rules | `(tactic| walk_at "g_val") => `(tactic| first | with_reducible assumption | with_reducible exact valueAt_stored_self _ _ _ | (rw [valueAt_stored_ne (by walk_at "g_ne")]; walk_at "g_val") | rfl)
local macro_rules | `(tactic| walk_at "g_size") => `(tactic| (rw [sizeLine_eq]; first | omega | (refine Nat.le_trans (stored_length_le _ _ _) ?_; omega) | (simp; done)))
local macro_rules | `(tactic| walk_at "compareOp NotIn int ref") => `(tactic| (k_here; k_dflt (first
  | (refine' r_notin_no (knd := PySem.intKind _ _) ?N ?hp ?hd ?lo (intKind_is _ _ _ _) ?hl ?_; (case N => k_asm); (case hp => k_mem); (case hd => with_reducible assumption); (case lo => with_reducible assumption); (case hl => walk_at "g_val"))
  | (refine' r_notin_yes (knd := PySem.intKind _ _) ?N ?hp ?hd ?lo (intKind_is _ _ _ _) ?hl ?_; (case N => k_asm); (case hp => k_mem); (case hd => with_reducible assumption); (case lo => with_reducible assumption); (case hl => walk_at "g_val")))))
local macro_rules | `(tactic| walk_at "compareOp In int ref") => `(tactic| (k_here; k_dflt (first
  | (refine' r_in_no (knd := PySem.intKind _ _) ?N ?hp ?hd ?lo (intKind_is _ _ _ _) ?hl ?_; (case N => k_asm); (case hp => k_mem); (case hd => with_reducible assumption); (case lo => with_reducible assumption); (case hl => walk_at "g_val"))
  | (refine' r_in_yes (knd := PySem.intKind _ _) ?N ?hp ?hd ?lo (intKind_is _ _ _ _) ?hl ?_; (case N => k_asm); (case hp => k_mem); (case hd => with_reducible assumption); (case lo => with_reducible assumption); (case hl => walk_at "g_val")))))
local macro_rules | `(tactic| walk_at "getItem ref int") => `(tactic| (k_here; k_dflt (refine' kdt_getItem (knd := PySem.intKind _ _) ?N ?hp ?hd (intKind_is _ _ _ _) ?hl ?_; (case N => k_asm); (case hp => k_mem); (case hd => with_reducible assumption); (case hl => walk_at "g_val"))))
local macro_rules | `(tactic| walk_at "subscriptTail") => `(tactic| (k_here; (with_reducible show wpAny _ _ (subscriptTail _ _ (Value.ref _) (Value.int _ _)) _ _ _); k_dflt (refine' kdt_tail (knd := PySem.intKind _ _) ?N ?hp ?hd ?_; (case N => k_asm); (case hp => k_mem); (case hd => with_reducible assumption))))
local macro_rules | `(tactic| walk_at "setItem ref int") => `(tactic| (k_here; k_dflt (refine' r_set (knd := PySem.intKind _ _) ?F ?N ?hm ?hd (intKind_is _ _ _ _) ?z ?_; (case F => k_asm); (case N => k_asm); (case hm => k_mem); (case hd => with_reducible assumption); (case z => walk_at "g_size")); intro h' o' F' N' hd'))
local macro_rules | `(tactic| walk_at "call builtin:dict.get") => `(tactic| (k_here; k_dflt (refine' r_get2_no (knd := PySem.intKind _ _) ?N ?hp ?hd ?lo (intKind_is _ _ _ _) ?hl ?_; (case N => k_asm); (case hp => k_mem); (case hd => with_reducible assumption); (case lo => with_reducible assumption); (case hl => walk_at "g_val"))))
local macro_rules | `(tactic| walk_at "call builtin:dict.update") => `(tactic| (k_here; k_dflt (refine' r_update_nil ?F ?N ?hm ?hd ?hm2 ?hd2 ?lo ?ne ?_; (case F => k_asm); (case N => k_asm); (case hm => k_mem); (case hd => with_reducible assumption); (case hm2 => k_mem); (case hd2 => with_reducible assumption); (case lo => with_reducible assumption); (case ne => walk_at "g_ne")); intro h' o' F' N' hd'))
local macro_rules | `(tactic| walk_at "getMethod ref") => `(tactic| (k_here; k_dflt (first
  | ((with_reducible show wpAny _ _ (getMethod (Value.ref _) (Str.ofString "get") _) _ _ _); refine' kdg_method (knd := PySem.intKind _ _) ?N ?hp ?hd ?_; (case N => k_asm); (case hp => k_mem); (case hd => with_reducible assumption))
  | ((with_reducible show wpAny _ _ (getMethod (Value.ref _) (Str.ofString "update") _) _ _ _); refine' kdl_method (knd := PySem.strKind _ _) PySem.F.slot_dict_update PySem.F.type_dict_update ?N ?hp ?hd ?_; (case N => k_asm); (case hp => k_mem); (case hd => with_reducible assumption)))))

local macro_rules | `(tactic| walk_at "call builtin:len") => `(tactic| (k_here; (with_reducible show wpAny _ _ (call (Value.builtin "len") [Value.ref _]) _ _ _); k_dflt (refine' kda_len (knd := PySem.intKind _ _) ?N ?hp ?hd ?lo ?z ?_; (case N => k_asm); (case hp => k_mem); (case hd => with_reducible assumption); (case lo => with_reducible assumption); (case z => omega))))
local macro_rules | `(tactic| walk_at "g_ne") => `(tactic| first | (refine' ne_fresh2 ?l ?l2 ?h; (case l2 => with_reducible assumption); (case l => with_reducible assumption); (case h => walk_at "g_has")) | (refine' ne_fresh2' ?l ?l2 ?h; (case l2 => with_reducible assumption); (case l => with_reducible assumption); (case h => walk_at "g_has")))
local macro_rules | `(tactic| walk_at "g_nth") => `(tactic| first | rfl | with_reducible assumption | (simp; done))
local macro_rules | `(tactic| walk_at "g_len") => `(tactic| first | omega | (simp only [List.length_cons, List.length_append, List.length_nil, refs_length, List.length_reverse, List.length_map]; omega))
local macro_rules | `(tactic| walk_at "subscriptTail") => `(tactic| (k_here; (with_reducible show wpAny _ _ (subscriptTail _ _ (Value.ref _) (Value.int _ _)) _ _ _); k_dflt (first | (refine' r_item ?N ?hm ?h0 ?hf ?hx ?_ ?hs; (case N => k_asm); (case hm => k_mem); (case h0 => first | decide | omega); (case hf => first | decide | omega); (case hx => walk_at "g_nth"); (case hs => with_unfolding_all rfl); k_whole) | (refine' r_back ?N ?hm ?h0 ?h1 ?hf ?hx ?_ ?hs; (case N => k_asm); (case hm => k_mem); (case h0 => decide); (case h1 => walk_at "g_len"); (case hf => decide); (case hx => walk_at "g_nth"); (case hs => with_unfolding_all rfl); k_whole) | (refine' r_tup ?N ?hm ?h0 ?hf ?hj ?hx ?_ ?hs; (case N => k_asm); (case hm => k_mem); (case h0 => decide); (case hf => decide); (case hj => rfl); (case hx => rfl); (case hs => with_unfolding_all rfl); k_whole))))
local macro_rules | `(tactic| walk_at "subscriptTail Name Slice ref ref") => `(tactic| (k_here; k_dflt (refine' r_slice_all ?F ?N ?hm ?z ?_ ?hs ?ht; (case F => k_asm); (case N => k_asm); (case hm => k_mem); (case z => walk_at "g_len"); (case hs => with_unfolding_all rfl); (case ht => intro _; with_unfolding_all rfl)); intro D' h' F' N' l1))
local macro_rules | `(tactic| walk_at "truthy ref") => `(tactic| (k_here; k_dflt (refine' r_truthy ?N ?hm ?z ?_; (case N => k_asm); (case hm => k_mem); (case z => walk_at "g_len")); intro tk'))
local macro_rules | `(tactic| walk_at "getMethod ref") => `(tactic| (k_here; k_dflt (first | ((with_reducible show wpAny _ _ (getMethod (Value.ref _) (Str.ofString "pop") _) _ _ _); refine' r_method ?N ?hm PySem.F.slot_list_pop PySem.F.type_list_pop ?_; (case N => k_asm); (case hm => k_mem)) | ((with_reducible show wpAny _ _ (getMethod (Value.ref _) (Str.ofString "append") _) _ _ _); refine' r_method ?N ?hm PySem.F.slot_list_append PySem.F.type_list_append ?_; (case N => k_asm); (case hm => k_mem)) | ((with_reducible show wpAny _ _ (getMethod (Value.ref _) (Str.ofString "reverse") _) _ _ _); refine' r_method ?N ?hm PySem.F.slot_list_reverse PySem.F.type_list_reverse ?_; (case N => k_asm); (case hm => k_mem)))))
local macro_rules | `(tactic| walk_at "call builtin:list.pop") => `(tactic| (k_here; k_dflt (first | (refine' r_pop0 ?F ?N ?hm ?e ?z ?_; (case F => k_asm); (case N => k_asm); (case hm => k_mem); (case e => first | with_reducible exact refs_cons | with_reducible rfl | with_reducible assumption | rfl); (case z => walk_at "g_len")) | (refine' r_pop ?F ?N ?hm ?e ?z ?_; (case F => k_asm); (case N => k_asm); (case hm => k_mem); (case e => with_reducible assumption); (case z => walk_at "g_len"))); intro h' F' N'))
local macro_rules | `(tactic| walk_at "call builtin:list.append") => `(tactic| (k_here; k_dflt (refine' r_append ?F ?N ?hm ?z ?_; (case F => k_asm); (case N => k_asm); (case hm => k_mem); (case z => walk_at "g_len")); intro h' F' N'))
local macro_rules | `(tactic| walk_at "call builtin:list.reverse") => `(tactic| (k_here; k_dflt (refine' r_reverse ?F ?N ?hm ?z ?_; (case F => k_asm); (case N => k_asm); (case hm => k_mem); (case z => walk_at "g_len")); intro h' F' N'))
local macro_rules | `(tactic| walk_at "call builtin:len") => `(tactic| (k_here; (with_reducible show wpAny _ _ (call (Value.builtin "len") [Value.ref _]) _ _ _); k_dflt (refine' r_len ?N ?hm ?z ?_; (case N => k_asm); (case hm => k_mem); (case z => walk_at "g_len"))))
local macro_rules | `(tactic| walk_at "setAttr ref") => `(tactic| (k_here; k_dflt (refine' r_setattr ?F ?X ?N ?hx ?hd ?k4 ?k5 ?k6 ?k7 ?k8 ?k9 ?kz ?_; (case F => k_asm); (case X => k_asm); (case N => k_asm); (case hx => k_mem); (case hd => k_mem); (case k4 => k_is); (case k5 => k_is); (case k6 => k_is); (case k7 => k_is); (case k8 => k_get); (case k9 => k_put); (case kz => exact Nat.le_of_ble_eq_true rfl); k_whole); intro h' F' N'))
local macro_rules | `(tactic| walk_at "call builtin:dict.pop") => `(tactic| (k_here; k_dflt (refine' r_dpop ?N ?hm ?hd ?lo ?_; (case N => k_asm); (case hm => k_mem); (case hd => with_reducible assumption); (case lo => with_reducible assumption))))
local macro_rules | `(tactic| walk_at "exec For Name Name cons nil") => `(tactic| (k_here; (rename Fr _ _ _ _ => lF'); (with_unfolding_all refine' For_invVF lF' ?k1 ?k2 ?_; (case k1 => exact rfl); (case k2 => exact rfl); k_whole)))
local macro_rules | `(tactic| walk_at "pyIter ref") => `(tactic| ((with_reducible show wpAny _ _ (pyIter (Value.ref _)) (fun it s₂ => LoopAtV _ _ _ _ _ _ _ _ _ it s₂) _ _); k_dflt (refine' for_none ?hh ?F ?N ?hm ?hi ?e ?_; (case hh => rfl); (case F => k_asm); (case N => k_asm); (case hm => k_mem); (case hi => with_reducible assumption); (case e => rfl)); intro h' tk' F' N'))

local macro_rules | `(tactic| walk_at "g_gr") => `(tactic| first | with_reducible assumption | (refine' GR.mono ?h1 ?h2; (case h1 => with_reducible assumption); (case h2 => (intro a' o' hm' hf'; k_mem))))
local macro_rules | `(tactic| walk_at "g_ne") => `(tactic| exact ne_of_in (by with_reducible assumption) (by with_reducible assumption))
local macro_rules | `(tactic| walk_at "setItem ref str") => `(tactic| (k_here; k_dflt (refine' r_set (knd := PySem.strKind _ _) ?F ?N ?hm ?hd (strKind_is _ _ _ _) ?z ?_; (case F => k_asm); (case N => k_asm); (case hm => k_mem); (case hd => with_reducible assumption); (case z => walk_at "g_size")); intro h' o' F' N' hd'))
local macro_rules | `(tactic| walk_at "g_in4") => `(tactic| exact not_in4 (by first | walk_at "g_ne" | fail) (by first | walk_at "g_ne" | fail) (by first | walk_at "g_ne" | fail) (by first | walk_at "g_ne" | fail))
local macro_rules | `(tactic| walk_at "exec While Name cons nil") => `(tactic| refine stop_here ?_)

theorem keep2 {p : Addr × Obj} {n0 n1 n2 : List (Addr × Obj)} {F0 F1 F2 : List Addr} (h : Keep (p :: n0) F0 n1 F1) (h2 : Keep n1 F1 n2 F2) : Keep n0 F0 n2 F2 := fun a o hm hf => h2 a o (h a o (List.mem_cons_of_mem _ hm) hf).1 (h a o (List.mem_cons_of_mem _ hm) hf).2
theorem len_d {ks : List Int} {v : Int} (h : ks.length ≤ 800) : (if ks.length = 0 then ks else ks ++ [v]).length ≤ 900 := by
  split
  · omega
  · simp; omega
theorem stored3 {a b c z : Str} (h : [a, b, c].contains z = false) : z ≠ a ∧ z ≠ b ∧ z ≠ c := by
  simp only [List.contains_cons, List.contains_nil, Bool.or_false, Bool.or_eq_false_iff, beq_eq_false_iff_ne] at h
  exact h
theorem mem_split {e0 r : TE} {ts P R : List TE} {news : List (Addr × Obj)} (h : e0 :: ts = P ++ r :: R) (h0 : (e0.t, tupO e0) ∈ news) (ht : ∀ e ∈ ts, (e.t, tupO e) ∈ news) : (r.t, tupO r) ∈ news := by
  have : r ∈ e0 :: ts := by rw [h]; simp
  rcases List.mem_cons.mp this with rfl | h'
  · exact h0
  · exact ht _ h'
theorem tup_d {r : TE} {nw : List (Addr × Obj)} (h : (r.t, tupO r) ∈ nw) (hd : r.d = true) : (r.t, ({ cls := .type "tuple", data := .seq [.int r.lab r.tl, .str (Str.ofString "d") r.td].toArray } : Obj)) ∈ nw := by
  unfold tupO letter at h; rw [hd] at h; exact h
theorem tup_i {r : TE} {nw : List (Addr × Obj)} (h : (r.t, tupO r) ∈ nw) (hd : r.d = false) : (r.t, ({ cls := .type "tuple", data := .seq [.int r.lab r.tl, .str (Str.ofString "i") r.td].toArray } : Obj)) ∈ nw := by
  unfold tupO letter at h; rw [hd] at h; exact h
theorem ks_d {ks : List Int} {v : Int} (hv : v ∉ ks) : (if v ∈ (if ks.length = 0 then ks else ks ++ [v]) then (if ks.length = 0 then ks else ks ++ [v]) else (if ks.length = 0 then ks else ks ++ [v]) ++ [v]) = ks ++ [v] := by
  by_cases h : ks.length = 0
  · rw [if_pos h, if_neg hv]
  · rw [if_neg h, if_pos (by simp)]
theorem in_d {ks : List Int} {P : List TE} {v : Int} {Ed : Int → Int → Bool} (e : ks = labs P) (h : ∀ c d, Ed c d = true ↔ edP P c d ∨ ∃ k ∈ ks, (k = c ∧ v = d) ∨ (k = d ∧ v = c)) : ∀ c d, Ed c d = true → c ∈ (if ks.length = 0 then ks else ks ++ [v]) := by
  intro c d q
  rcases (h c d).mp q with q | ⟨k, hk, q | q⟩
  · have : c ∈ ks := e ▸ (edP_mem q).1
    split <;> simp [this]
  · have : c ∈ ks := q.1 ▸ hk
    split <;> simp [this]
  · have hn : ks.length ≠ 0 := by rintro h; rw [List.length_eq_zero_iff] at h; subst h; cases hk
    rw [if_neg hn, ← q.2]; simp
theorem in_i {P : List TE} {Ed : Int → Int → Bool} (h : ∀ c d, Ed c d = true ↔ edP P c d) : ∀ c d, Ed c d = true → c ∈ labs P := fun c d q => (edP_mem ((h c d).mp q)).1
theorem ed_d {P : List TE} {r : TE} {Ed Ed2 : Int → Int → Bool} (hd : r.d = true) (h : ∀ c d, Ed c d = true ↔ edP P c d ∨ ∃ k ∈ labs P, (k = c ∧ r.lab = d) ∨ (k = d ∧ r.lab = c)) (h2 : ∀ c d, Ed2 c d = true ↔ Ed c d = true) : ∀ c d, Ed2 c d = true ↔ edP (P ++ [r]) c d := by
  intro c d
  rw [h2, h, edP_snoc]
  simp only [hd, true_and, labs]
  refine or_congr Iff.rfl ⟨?_, ?_⟩
  · rintro ⟨k, hk, q⟩
    obtain ⟨e, he, rfl⟩ := List.mem_map.mp hk
    exact ⟨e, he, q⟩
  · rintro ⟨e, he, q⟩
    exact ⟨e.lab, List.mem_map_of_mem he, q⟩
theorem ed_i {P : List TE} {r : TE} {Ed Ed2 : Int → Int → Bool} (hd : r.d = false) (h : ∀ c d, Ed c d = true ↔ edP P c d) (h2 : ∀ c d, Ed2 c d = true ↔ Ed c d = true) : ∀ c d, Ed2 c d = true ↔ edP (P ++ [r]) c d := by
  intro c d
  rw [h2, h, edP_snoc]
  simp [hd]
theorem labs_length (P : List TE) : (labs P).length = P.length := by simp [labs]
theorem r_truthy_nil {prog : Program} {w : World} {A : Around} {E : Value → Shared → Prop} {s : Shared} {h₀ : Heap} {L a : Addr} {news : List (Addr × Obj)} {l : List Value} {n : Nat} {Q : Bool → Shared → Prop} (N : News h₀ L s.heap news) (hm : (a, listOf l.toArray n) ∈ news) (e : l = []) (h : ∀ tk, Q false { s with toks := tk }) :
    wpAny (model prog w) A (truthy (.ref a)) Q E s := by
  subst e; exact r_truthy N hm (by simp) h
theorem r_truthy_cons {prog : Program} {w : World} {A : Around} {E : Value → Shared → Prop} {s : Shared} {h₀ : Heap} {L a : Addr} {news : List (Addr × Obj)} {l q : List Value} {y : Value} {n : Nat} {Q : Bool → Shared → Prop} (N : News h₀ L s.heap news) (hm : (a, listOf l.toArray n) ∈ news) (e : l = y :: q) (hz : l.length ≤ 1000) (h : ∀ tk, Q true { s with toks := tk }) :
    wpAny (model prog w) A (truthy (.ref a)) Q E s := by
  subst e; exact r_truthy N hm hz h
theorem GR.inst {w : World} {nw : List (Addr × Obj)} {x : Addr} {F : List Addr} {ks : List Int} {Ed : Int → Int → Bool} {b : Nat} (G : GR w nw x F ks Ed b) : ∃ dx h1 h2 h3 t1 t2 t3 gd nd ad ep, (x, instObj 617 dx) ∈ nw ∧ (dx, dictOf [⟨h1, .str (Str.ofString "graph") t1, .ref gd⟩, ⟨h2, .str (Str.ofString "_node") t2, .ref nd⟩, ⟨h3, .str (Str.ofString "_adj") t3, .ref ad⟩] ep) ∈ nw ∧ x ∈ F ∧ dx ∈ F := by
  obtain ⟨nd, ad, dx, g, R, rfl, _⟩ := G
  obtain ⟨gd, h1, h2, h3, t1, t2, t3, ep, hx, hdx, _⟩ := R.inst
  exact ⟨dx, h1, h2, h3, t1, t2, t3, gd, nd, ad, ep, hx, hdx, List.mem_cons_self, List.mem_cons_of_mem _ List.mem_cons_self⟩
theorem GR.has {w : World} {nw : List (Addr × Obj)} {x : Addr} {F : List Addr} {ks : List Int} {Ed : Int → Int → Bool} {b : Nat} (G : GR w nw x F ks Ed b) : ∀ a ∈ F, Has nw a := by
  obtain ⟨nd, ad, dx, g, R, rfl, _⟩ := G
  obtain ⟨gd, h1, h2, h3, t1, t2, t3, ep, hx, hdx, _⟩ := R.inst
  intro a hc
  rcases List.mem_cons.mp hc with rfl | hc
  · exact .of hx
  rcases List.mem_cons.mp hc with rfl | hc
  · exact .of hdx
  unfold foot at hc
  rcases List.mem_cons.mp hc with rfl | hc
  · obtain ⟨o, ho, _⟩ := R.nodes; exact .of ho
  rcases List.mem_cons.mp hc with rfl | hc
  · obtain ⟨o, ho, _⟩ := R.adjs; exact .of ho
  rcases List.mem_append.mp hc with hc | hc
  · obtain ⟨n', hn', rfl⟩ := List.mem_map.mp hc
    obtain ⟨o, ho, _⟩ := R.rows n' hn'; exact .of ho
  · obtain ⟨n', hn', rfl⟩ := List.mem_map.mp hc
    obtain ⟨o, ho, _⟩ := R.atts n' hn'; exact .of ho
theorem GR.fresh {w : World} {nw : List (Addr × Obj)} {x D : Addr} {F : List Addr} {ks : List Int} {Ed : Int → Int → Bool} {b : Nat} (G : GR w nw x F ks Ed b) (l : ∀ q ∈ nw, q.1 < D) : D ∉ F := fun hc => ne_fresh l (G.has D hc) rfl
theorem GR.fresh' {w : World} {nw : List (Addr × Obj)} {x D : Addr} {F : List Addr} {ks : List Int} {Ed : Int → Int → Bool} {b : Nat} (l : ∀ q ∈ nw, q.1 < D) (G : GR w nw x F ks Ed b) : D ∉ F := G.fresh l
local macro_rules | `(tactic| walk_at "truthy ref") => `(tactic| (k_here; k_dflt (first | (refine' r_truthy_nil ?N ?hm ?e ?_; (case N => k_asm); (case hm => k_mem); (case e => rfl)) | (refine' r_truthy_cons ?N ?hm ?e ?z ?_; (case N => k_asm); (case hm => k_mem); (case e => first | with_reducible exact refs_cons | rfl); (case z => walk_at "g_len"))); intro tk'))
local macro_rules | `(tactic| walk_at "call ref") => `(tactic| (k_here; (with_reducible show wpAny _ _ (call (Value.ref 485) [Value.ref _, Value.int _ _, Value.int _ _]) _ _ _); k_dflt (refine' add_edge_U ?B ?F ?X ?N ?T ?G ?hb ?hkk ?hv ?uv ?huv ?hin ?_; (case B => with_reducible assumption); (case F => k_asm); (case X => k_asm); (case N => k_asm); (case T => with_reducible assumption); (case G => walk_at "g_gr"); (case hb => omega); (case hkk => omega); (case hv => with_reducible assumption); (case uv => with_reducible assumption); (case huv => with_reducible assumption); (case hin => with_reducible assumption)); intro h' tk' news' F' Ed' wF' wN' G' hE' K'; obtain ⟨dx9, h91, h92, h93, t91, t92, t93, gd9, nd9, ad9, ep9, hgx9, hgd9, hxF9, hdF9⟩ := GR.inst G'))
local macro_rules | `(tactic| walk_at "call ref") => `(tactic| (k_here; (with_reducible show wpAny _ _ (call (Value.ref 426) [Value.ref _, Value.int _ _]) _ _ _); k_dflt (refine' add_node_U ?B ?F ?X ?N ?T ?G ?hb ?hkk ?hin ?_; (case B => with_reducible assumption); (case F => k_asm); (case X => k_asm); (case N => k_asm); (case T => with_reducible assumption); (case G => walk_at "g_gr"); (case hb => omega); (case hkk => omega); (case hin => first | exact in_i (by with_reducible assumption) | exact in_d rfl (by with_reducible assumption))); intro h' tk' news' F' Ed' wF' wN' G' hE' K'; obtain ⟨dx9, h91, h92, h93, t91, t92, t93, gd9, nd9, ad9, ep9, hgx9, hgd9, hxF9, hdF9⟩ := GR.inst G'))
local macro_rules | `(tactic| walk_at "pyIter ref") => `(tactic| ((with_reducible show wpAny _ _ (pyIter (Value.ref _)) (fun it s₂ => LoopAtV _ _ _ _ _ _ _ _ _ it s₂) _ _); k_dflt (refine' tg_for [] ?hh ?F0 ?N0 ?hm ?hD ?hi ?hks ?hnd ?G ?hEd ?hv ?turn ?done; (case hh => rfl); (case F0 => k_asm); (case N0 => k_asm); (case hm => with_reducible exact List.mem_cons_self); (case G => (refine' GR.mono ?h1 ?h2; (case h1 => with_reducible assumption); (case h2 => (intro a' o' hm' hf'; k_mem)))); (case hD => exact GR.fresh' (by with_reducible assumption) (by first | walk_at "g_gr" | fail)); (case hi => with_reducible assumption); (case hks => rfl); (case hnd => with_reducible assumption); (case hEd => with_reducible assumption); (case hv => with_reducible assumption))))
local macro_rules | `(tactic| walk_at "call type:list") => `(tactic| (k_here; k_dflt (refine' list_G ?B ?F ?X ?N ?T ?G ?hb ?hkk ?_; (case B => with_reducible assumption); (case F => k_asm); (case X => k_asm); (case N => k_asm); (case T => with_reducible assumption); (case G => walk_at "g_gr"); (case hb => omega); (case hkk => omega)); intro D' h' tk' vs' c' wF' wN' l1' hi'))

set_option maxRecDepth 100000 in
set_option maxHeartbeats 4000000 in
theorem tg {w : World} {A₀ : Around} {base h₀ : Heap} {L a : Addr} {m mg mb : Str → Option Value} {cn : Str} {cnm : List (Str × NameKind)} {cig cic : Bool} {cmo : List (Str × Const)} {ccd : Value} {news : List (Addr × Obj)}
   {p : Program} {loose : List Str} {mean : ExcName → Option Value} {s : Shared} {Q E : Value → Shared → Prop} {e1 : Env}
   (B : Below A₀ base [e1] h₀) (Fh : Fr h₀ L s.heap m) (X₀ : (hd.heap_39 w.params).In h₀) (N : News h₀ L s.heap news) (T : Top p loose mean mg mb h₀) {r : Addr} {c : Nat} {e0 : TE} {ts : List TE} (hr : (r, listOf (refs (e0 :: ts)).toArray c) ∈ news) (h0 : (e0.t, tupO e0) ∈ news) (ht : ∀ e ∈ ts, (e.t, tupO e) ∈ news) (hz : ts.length ≤ 8) (hnd : (labs (e0 :: ts)).Nodup)
   (hQ : ∀ {h' tk news' x F Ed b}, Fr h₀ L h' m → News h₀ L h' news' → GR w news' x F (labs (e0 :: ts)) Ed b → b ≤ 81 → (∀ c d, Ed c d = true ↔ edP (e0 :: ts) c d) → Keep news [] news' F → Q (.ref x) { s with heap := h', toks := tk }) :
   wpAny (model Challenge.rw_aq6051_01.row.prog w) (((callerA.deeper e1).deeper (envOf cn { kind := .function, names := cnm, isGenerator := cig, isCoroutine := cic, more := cmo } L a ccd))) (call (.ref 666) [.ref r]) Q E s := by
  revert X₀
  k_fill
  intro X₀
  w_on
  have hmk : NewsIs news := ⟨⟩
  k_steps
  refine ⟨?_⟩
  refine' tg_loop [Str.ofString "v", Str.ofString "node_type", Str.ofString "u"] ?hmk ?hz ?hnd ?wF ?wN ?hg ?hc ?hci (gr_init (gd := _) ?hx ?hdx ?hn ?hon ?lo1 ?ha ?hoa ?lo2 ?d1 ?d2 ?d3 ?d4 ?d5) ?hcf ?hkp ?turn ?stop
  (case hmk => with_reducible assumption)
  (case hnd => with_reducible assumption)
  (case hz => (simp only [List.length_cons]; omega))
  (case wF => k_asm)
  (case wN => k_asm)
  (case hg => rfl)
  (case hc => rfl)
  (case hci => k_mem)
  (case hx => k_mem)
  (case hdx => k_mem)
  (case hn => k_mem)
  (case hon => with_reducible assumption)
  (case lo1 => with_reducible assumption)
  (case ha => k_mem)
  (case hoa => with_reducible assumption)
  (case lo2 => with_reducible assumption)
  (case d1 => first | walk_at "g_ne" | fail)
  (case d2 => first | walk_at "g_ne" | fail)
  (case d3 => first | walk_at "g_ne" | fail)
  (case d4 => first | walk_at "g_ne" | fail)
  (case d5 => first | walk_at "g_ne" | fail)
  (case hcf => first | walk_at "g_in4" | fail)
  (case hkp => (intro a' o' hm'; refine ⟨?_, ?_, ?_⟩; (first | walk_at "g_ne" | fail); (k_mem); (first | walk_at "g_in4" | fail)))
  (case stop => (refine ⟨?_⟩; intro n cn F Ed b u nw h tk hci' hG hb hEd hk' wF2 wN2; k_steps; exact hQ (by k_asm) (by k_asm) hG hb hEd (fun a' o' hm' _ => ⟨(hk' a' o' hm').1, (hk' a' o' hm').2⟩)))
  (case turn =>
    refine ⟨?_⟩
    intro n P r' R cn F Ed b u nw h tk e1' hci' hcF' G hb hP hR hEd hrl hndP hk' cont wF2 wN2
    have hrt := (hk' _ _ (mem_split e1' h0 ht)).2.1
    have hrn := (hk' _ _ (mem_split e1' h0 ht)).1
    have hlp := labs_length P
    obtain ⟨dx9, h91, h92, h93, t91, t92, t93, gd9, nd9, ad9, ep9, hgx9, hgd9, hxF9, hdF9⟩ := GR.inst G
    have hnx := ne_of_in hxF9 hcF'
    have hnd9 := ne_of_in hdF9 hcF'
    cases hd : r'.d with
    | false =>
      have hrt2 := tup_i hrt hd
      k_steps
      rename GR _ _ _ _ (ite _ _ _) _ _ => G8
      rename Keep _ _ _ _ => K8
      rename (∀ (c d : Int), _ = true ↔ _ = true) => hE8
      rw [if_neg hrl] at G8
      exact cont _ _ _ _ _ _ _ _ (by k_asm) (by k_asm) G8 (by omega) (ed_i hd hEd hE8) (K8 _ _ mem_upd_self hcF').1 (K8 _ _ mem_upd_self hcF').2 (fun a' o' hm' => K8 _ _ (mem_upd (hk' a' o' hm').2.1 (hk' a' o' hm').1) (hk' a' o' hm').2.2) (by intro z hz'; have q := stored3 hz'; simp only [if_neg q.1, if_neg q.2.1, if_neg q.2.2, hz', Bool.false_eq_true, if_false])
    | true =>
      have hrt2 := tup_d hrt hd
      k_steps
      · refine ⟨?_⟩
        intro i k t u9 nw9 h9 tk9 Ia oI F9 ks9 Ed9 G9 hlt hlen hkk hvk hEf hin hne cont9 wF9 wN9
        obtain ⟨dx7, h71, h72, h73, t71, t72, t73, gd7, nd7, ad7, ep7, hgx7, hgd7, hxF7, hdF7⟩ := GR.inst G9
        k_steps
        rename GR _ _ _ _ (ite _ _ _) _ _ => G8
        rename Keep _ _ _ _ => K8
        rename (∀ (c d : Int), _ = true ↔ _ ∨ _) => hE8
        exact cont9 _ _ _ _ _ _ (by k_asm) (by k_asm) G8 hE8 K8 (by intro z hz1 hz2; simp only [if_neg hz1, List.contains_nil, Bool.false_eq_true, if_false])
      · refine ⟨?_⟩
        intro u9 nw9 h9 tk9 F9 Ed9 G9 hE9 K9 wF9 wN9
        have hl9 : (if (labs P).length = 0 then labs P else labs P ++ [r'.lab]).length ≤ 900 := len_d (by omega)
        obtain ⟨dx7, h71, h72, h73, t71, t72, t73, gd7, nd7, ad7, ep7, hgx7, hgd7, hxF7, hdF7⟩ := GR.inst G9
        k_steps
        rename GR _ _ _ _ (ite _ _ _) _ _ => G8
        rename Keep _ _ _ _ => K8
        rename (∀ (c d : Int), _ = true ↔ _ = true) => hE8
        rw [ks_d hrl] at G8
        have KK := keep2 K9 K8
        exact cont _ _ _ _ _ _ _ _ (by k_asm) (by k_asm) G8 (by omega) (ed_d hd hE9 hE8) (KK _ _ mem_upd_self hcF').1 (KK _ _ mem_upd_self hcF').2 (fun a' o' hm' => KK _ _ (mem_upd (hk' a' o' hm').2.1 (hk' a' o' hm').1) (hk' a' o' hm').2.2) (by intro z hz'; have q := stored3 hz'; simp only [if_neg q.1, if_neg q.2.1, if_neg q.2.2, hz', List.contains_nil, Bool.false_eq_true, if_false]))
  all_goals w_report


end Mine
end

section
open PySem PySem.W PyProof.Rows PySem.Calls PySem.Spec PyProof.V PyProof.Rows.LCg
set_option Elab.async false
set_option linter.unusedVariables false
set_option maxRecDepth 100000
namespace Mine
theorem ad2 {a b : Nat} (h : a + 2 ≤ b) : b ≠ a ∧ b ≠ a + 1 ∧ ¬ b < a ∧ a < b := by omega
section
variable {prog : Program} {w : World} {A : Around} {E : Value → Shared → Prop} {s : Shared} {h₀ : Heap} {L : Addr} {m : Str → Option Value} {env : Env} {news : List (Addr × Obj)}
theorem cg_block {elt iter target : PySem.Expr} {scope : Scope} {cl : List (Str × Addr)} {pos : Pos} {s₂ : Shared} {I : Addr} {fp wr : List Addr} {n : Nat} {P Md : Nat → Value → Heap → Prop} {St : Nat → Heap → Prop}
    {Nm : Nat → (Str → Option Value) → Prop} {Rel : Nat → Value → List (Addr × Obj) → Prop} {RR : Value → Addr → Result → Shared → Prop}
    (W : KTurns prog w A target I fp wr n P Md St) (hself : ∀ (s : Shared) (Q : Value → Shared → Prop) (E : Value → Shared → Prop), St 0 s.heap → Q (.ref I) s → wpAny (model prog w) A (pyIter (.ref I)) Q E s) (hsz : n ≤ sizeLine)
    (hst : St 0 s₂.heap) (hfp : ∀ b ∈ fp, b < s₂.heap.objs.size)
    (hcell : ∀ y ∈ scope.names, y.2 ≠ .cell) (hkind : scope.kind = .function)
    (hasg : ∀ i v C (s : Shared) m (Q : Unit → Shared → Prop) (E' : Value → Shared → Prop), P i v s.heap → s.heap.Ns C m →
      (∀ h' tk m', Nm i m' → h'.Ns C m' → (∀ c o, c ≠ C → s.heap.get? c = some o → h'.get? c = some o) → Q () { s with heap := h', toks := tk }) → wpAny (model prog w) A (assign target (compEnvC scope cl C env) v) Q E' s)
    (helt : ∀ i C (s : Shared) m' (Q : Value → Shared → Prop) (E' : Value → Shared → Prop), i < n → Nm i m' → s.heap.Ns C m' → (∀ c o, c ∉ wr → s₂.heap.get? c = some o → s.heap.get? c = some o) →
      (∀ y h' tk objs, (∀ c o, s.heap.get? c = some o → h'.get? c = some o) → (∀ p ∈ objs, s.heap.objs.size ≤ p.1 ∧ h'.get? p.1 = some p.2) → Rel i y objs → Q y { s with heap := h', toks := tk }) →
      wpAny (model prog w) A (eval elt (compEnvC scope cl C env)) Q E' s)
    (hRR : ∀ h tk m' (rs : List (Value × List (Addr × Obj))), rs.length = n → (∀ i r, rs[i]? = some r → Rel i r.1 r.2) → h.get? s₂.heap.objs.size = some (lst (rs.map (·.1))) →
      (∀ r ∈ rs, ∀ p ∈ r.2, s₂.heap.objs.size + 2 ≤ p.1 ∧ h.get? p.1 = some p.2) → h.Ns (s₂.heap.objs.size + 1) m' → (∀ c o, c ∉ wr → s₂.heap.get? c = some o → h.get? c = some o) →
      RR (.ref s₂.heap.objs.size) (s₂.heap.objs.size + 1) (.ok .next) { s₂ with heap := h, toks := tk }) :
    wpAny (model prog w) A (newList []) (fun acc s₃ => wpAny (model prog w) A (newFunctionEnv scope env.globals cl [] env.qual none .none (some env)) (fun cenv s₄ =>
      codeAny (model prog w) A (.compStart (.ListComp elt [⟨target, iter, [], 0⟩] scope pos) 0 (.ref I) acc { cenv with scope := relabel scope env }) (RR acc cenv.locals) s₄) E s₃) E s₂ := by
  refine wpAny_newObj_type (wpAny_newFunctionEnv hcell (by intro y hy; simp at hy) (fun h₁ hns₁ hsb₁ => ?_) hkind)
  dsimp only at hns₁ hsb₁ ⊢
  generalize hH2 : s₂.heap.push { cls := .type "list", dict := none, data := .seq ([] : List Value).toArray } = H2 at hns₁ hsb₁ ⊢
  have hC : H2.objs.size = s₂.heap.objs.size + 1 := by rw [← hH2, Heap.size_push]
  rw [hC] at hns₁ hsb₁ ⊢
  have old : ∀ b o, s₂.heap.get? b = some o → h₁.get? b = some o := fun b o e => hsb₁.extBut b o (Nat.ne_of_lt (Nat.lt_succ_of_lt (Heap.lt_size e))) (Heap.get?_push_of_some _ (hH2 ▸ Heap.get?_push_of_some _ e))
  have hacc : h₁.get? s₂.heap.objs.size = some (lst []) := hsb₁.extBut _ _ (Nat.ne_of_lt (Nat.lt_succ_self _)) (Heap.get?_push_of_some _ (hH2 ▸ Heap.get?_push_size _ rfl))
  have hwr : ∀ b ∈ wr, b < s₂.heap.objs.size := fun b hb => hfp b (W.sub b hb)
  have cwr : s₂.heap.objs.size + 1 ∉ wr := fun hc => absurd (hwr _ hc) (Nat.not_lt.mpr (Nat.le_succ _))
  have dwr : s₂.heap.objs.size ∉ wr := fun hc => absurd (hwr _ hc) (Nat.lt_irrefl _)
  have rwr : ∀ a, s₂.heap.objs.size + 2 ≤ a → a ∉ wr := fun a ha hc => (ad2 ha).2.2.1 (hwr _ hc)
  have loop : ∀ s₃ : Shared, s₃ = { s₂ with heap := h₁, toks := s₂.toks + ([] : List (Str × Value)).length } →
      codeAny (model prog w) A (.compLoop (.ListComp elt [⟨target, iter, [], 0⟩] scope pos) 0 (.ref I) (.ref s₂.heap.objs.size) (compEnvC scope cl (s₂.heap.objs.size + 1) env))
        (RR (.ref s₂.heap.objs.size) (s₂.heap.objs.size + 1)) s₃ := by
    rintro s₃ rfl
    refine kcp_loop
      (fun k s' => ∃ h' tk i m' rs, s' = { s₂ with heap := h', toks := tk } ∧ i ≤ n ∧ k = n + 1 - i ∧ rs.length = i ∧ (∀ i (r : Value × List (Addr × Obj)), rs[i]? = some r → Rel i r.1 r.2) ∧ St i h' ∧
        h'.get? s₂.heap.objs.size = some (lst (rs.map (·.1))) ∧ (∀ r ∈ rs, ∀ p ∈ r.2, s₂.heap.objs.size + 2 ≤ p.1 ∧ h'.get? p.1 = some p.2) ∧ h'.Ns (s₂.heap.objs.size + 1) m' ∧
        (∀ c o, c ∉ wr → s₂.heap.get? c = some o → h'.get? c = some o)) ?_ (n + 1)
      ⟨h₁, _, 0, _, [], rfl, Nat.zero_le _, rfl, rfl, (fun i r h => by simp at h), W.frame _ _ _ hst (fun b _ o e => old b o e), hacc, (fun r h => nomatch h), hns₁, fun c o _ e => old c o e⟩
    rintro k s' ⟨h', tk, i, m', rs, rfl, hi, rfl, hl, hrel, hst', hD, hobj, hns, hold⟩
    by_cases hlt : i < n
    · refine W.item i _ _ _ hlt hst' fun v h₂ tk₂ hMd hk₂ => ?_
      refine W.go i v _ _ _ hMd fun h₃ hP hst₃ hk₃ => ?_
      have up₃ : ∀ c o, c ∉ wr → h'.get? c = some o → h₃.get? c = some o := fun c o hc e => hk₃ c o hc (hk₂ c o hc e)
      refine hasg i v _ _ _ _ _ hP (hns.at' fun o e => up₃ _ o cwr e) fun h₄ tk₄ m₄ hnm hn₄ hs₄ => ?_
      have up : ∀ c o, c ∉ wr → c ≠ s₂.heap.objs.size + 1 → h'.get? c = some o → h₄.get? c = some o := fun c o h1 h2 e => hs₄ c o h2 (up₃ c o h1 e)
      have hold₄ : ∀ c o, c ∉ wr → s₂.heap.get? c = some o → h₄.get? c = some o := fun c o hc e => up c o hc (Nat.ne_of_lt (Nat.lt_succ_of_lt (Heap.lt_size e))) (hold c o hc e)
      have hsz₄ : s₂.heap.objs.size + 2 ≤ h₄.objs.size := hn₄.lt
      refine helt i _ _ _ _ _ hlt hnm hn₄ hold₄ fun y h₅ tk₅ objs hs₅ hobjs hr => ?_
      have zD := hs₅ _ _ (up _ _ dwr (Nat.ne_of_lt (Nat.lt_succ_self _)) hD)
      refine append_at (hsz := by rw [List.size_toArray, List.length_map, hl]; exact Nat.le_trans hi hsz) zD fun h₆ hs₆ hD₆ => ?_
      have hst₆ : St (i + 1) h₆ := W.frame _ _ _ hst₃ fun b hb o e => hs₆.extBut b o (Nat.ne_of_lt (hfp b hb)) (hs₅ b o (hs₄ b o (Nat.ne_of_lt (Nat.lt_succ_of_lt (hfp b hb))) e))
      refine ⟨n + 1 - (i + 1), by omega, h₆, tk₅, i + 1, _, rs ++ [(y, objs)], rfl, hlt, rfl, by rw [List.length_append, hl]; rfl, ?_, hst₆, ?_, ?_, (hn₄.at' fun o e => hs₅ _ o e).sameBut hs₆ (Nat.ne_of_gt (Nat.lt_succ_self _)), fun c o hc e => hs₆.extBut c o (Nat.ne_of_lt (Heap.lt_size e)) (hs₅ c o (hold₄ c o hc e))⟩
      · intro j r hj
        rcases Nat.lt_or_ge j i with hji | hji
        · rw [List.getElem?_append_left (by omega)] at hj
          exact hrel j r hj
        · rw [List.getElem?_append_right (by omega)] at hj
          have : j - rs.length = 0 := by
            rcases Nat.eq_zero_or_pos (j - rs.length) with q | q
            · exact q
            · rw [List.getElem?_eq_none (by simp; omega)] at hj; cases hj
          rw [this] at hj
          cases hj
          have : j = i := by omega
          subst this
          exact hr
      · rw [List.map_append]
        exact hD₆.trans (congrArg some (lst_snoc _ y))
      · intro r hr' p hp
        rcases List.mem_append.mp hr' with hr' | hr'
        · obtain ⟨a1, a2⟩ := hobj r hr' p hp
          exact ⟨a1, hs₆.extBut _ _ (ad2 a1).1 (hs₅ _ _ (up _ _ (rwr _ a1) (ad2 a1).2.1 a2))⟩
        · obtain rfl := List.mem_singleton.mp hr'
          obtain ⟨a1, a2⟩ := hobjs p hp
          have : s₂.heap.objs.size + 2 ≤ p.1 := Nat.le_trans hsz₄ a1
          exact ⟨this, hs₆.extBut _ _ (ad2 this).1 a2⟩
    · have hin : i = n := Nat.le_antisymm hi (Nat.not_lt.mp hlt)
      subst hin
      refine W.done _ _ _ hst' fun h₂ tk₂ hk₂ => ?_
      exact hRR h₂ tk₂ m' rs hl hrel (hk₂ _ _ dwr hD) (fun r hr p hp => ⟨(hobj r hr p hp).1, hk₂ _ _ (rwr _ (hobj r hr p hp).1) (hobj r hr p hp).2⟩) (hns.at' fun o e => hk₂ _ o cwr e) fun c o hc e => hk₂ c o hc (hold c o hc e)
  exact codeAny_compStart_list (loop _ rfl) (hself _ _ _ (W.frame _ _ _ hst fun b _ o e => old b o e) (loop _ rfl))

/-- a source of a list comprehension, with what its element makes -/
def CgSrc (prog : Program) (w : World) (A : Around) (h₀ : Heap) (L : Addr) (m : Str → Option Value) (env : Env) (elt target : PySem.Expr) (scope : Scope) (cl : List (Str × Addr)) (mf : Addr → Str → Option Value) (QF : Addr → Shared → Prop) (it : Value) (s₂ : Shared) : Prop :=
  ∃ (I : Addr) (fp wr : List Addr) (n : Nat) (P Md : Nat → Value → Heap → Prop) (St : Nat → Heap → Prop) (Nm : Nat → (Str → Option Value) → Prop) (Rel : Nat → Value → List (Addr × Obj) → Prop) (news : List (Addr × Obj)),
    it = .ref I ∧ KTurns prog w A target I fp wr n P Md St ∧ (∀ (s : Shared) (Q : Value → Shared → Prop) (E : Value → Shared → Prop), St 0 s.heap → Q (.ref I) s → wpAny (model prog w) A (pyIter (.ref I)) Q E s) ∧ n ≤ sizeLine ∧ St 0 s₂.heap ∧ (∀ b ∈ fp, b < s₂.heap.objs.size) ∧
    (∀ b ∈ wr, b ≠ L ∧ h₀.get? b = none ∧ ∀ p ∈ news, p.1 ≠ b) ∧ Fr h₀ L s₂.heap m ∧ News h₀ L s₂.heap news ∧
    (∀ i v C (s : Shared) m (Q : Unit → Shared → Prop) (E' : Value → Shared → Prop), P i v s.heap → s.heap.Ns C m →
      (∀ h' tk m', Nm i m' → h'.Ns C m' → (∀ c o, c ≠ C → s.heap.get? c = some o → h'.get? c = some o) → Q () { s with heap := h', toks := tk }) → wpAny (model prog w) A (assign target (compEnvC scope cl C env) v) Q E' s) ∧
    (∀ i C (s : Shared) m' (Q : Value → Shared → Prop) (E' : Value → Shared → Prop), i < n → Nm i m' → s.heap.Ns C m' → Fr h₀ L s.heap m → News h₀ L s.heap news →
      (∀ y h' tk objs, (∀ c o, s.heap.get? c = some o → h'.get? c = some o) → (∀ p ∈ objs, s.heap.objs.size ≤ p.1 ∧ h'.get? p.1 = some p.2) → Rel i y objs → Q y { s with heap := h', toks := tk }) →
      wpAny (model prog w) A (eval elt (compEnvC scope cl C env)) Q E' s) ∧
    (∀ D h tk (rs : List (Value × List (Addr × Obj))), Fr h₀ L h (mf D) → News h₀ L h ((D, lst (rs.map (·.1))) :: (rs.flatMap (·.2) ++ news)) → rs.length = n → (∀ i r, rs[i]? = some r → Rel i r.1 r.2) → (∀ p ∈ news, p.1 < D) → (∀ r ∈ rs, ∀ p ∈ r.2, D < p.1) →
      QF D { s₂ with heap := h, toks := tk })

theorem cg_comp {elt iter target : PySem.Expr} {scope : Scope} {cl : List (Str × Addr)} {pos : Pos} {Q : Value → Shared → Prop}
    (_F0 : Fr h₀ L s.heap m) (hclos : closureFor scope env = pure cl) (hcell : ∀ y ∈ scope.names, y.2 ≠ .cell) (hkind : scope.kind = .function)
    (hnames : ∀ y ∈ scope.names, y.2 = .local → scope.names.lookup y.1 = some .local)
    (h : wpAny (model prog w) A (eval iter env) (fun xv s₁ => wpAny (model prog w) A (pyIter xv) (CgSrc prog w A h₀ L m env elt target scope cl (fun _ => m) (fun D => Q (.ref D))) E s₁) E s)
    (hs : ∀ x, foldedSetIterable iter env x = pure x := by intro _; rfl) :
    wpAny (model prog w) A (eval (.ListComp elt [⟨target, iter, [], 0⟩] scope pos) env) Q E s := by
  rw [eval_ListComp]
  refine wpAny_comprehension_free (use := none) rfl hs hclos hkind hnames (wpAny_mono h (fun xv s₁ h₁ => wpAny_mono h₁ (fun it s₂ h₂ => ?_) fun _ _ e => e) fun _ _ e => e)
  obtain ⟨I, fp, wr, n, P, Md, St, Nm, Rel, news, rfl, W, hself, hsz, hst, hfp, hwr, F, N, hasg, helt, fin⟩ := h₂
  have up : ∀ {h : Heap}, (∀ c o, c ∉ wr → s₂.heap.get? c = some o → h.get? c = some o) → Fr h₀ L h m ∧ News h₀ L h news := fun {h} hk =>
    ⟨⟨F.ns.at' fun o e => hk _ o (fun hc => (hwr _ hc).1 rfl) e, fun c o e => hk c o (fun hc => by rw [(hwr _ hc).2.1] at e; cases e) (F.keep c o e), F.above⟩,
      fun p hp => ⟨hk _ _ (fun hc => (hwr _ hc).2.2 p hp rfl) (N p hp).1, (N p hp).2⟩⟩
  have fresh : ∀ a, s₂.heap.objs.size ≤ a → h₀.get? a = none := fun a ha => by
    cases e : h₀.get? a with
    | none => rfl
    | some o => exact absurd (Heap.lt_size (F.keep a o e)) (Nat.not_lt.mpr ha)
  have hLl : L < s₂.heap.objs.size := F.ns.lt
  refine cg_block W hself hsz hst hfp hcell hkind hasg (fun i C s m' Q E' hi hn hC hk => helt i C s m' Q E' hi hn hC (up hk).1 (up hk).2) ?_
  intro h tk m' rs hl hrel hD hobj hns hk
  refine ⟨m', hns, fun h'' hs'' => ?_⟩
  have F' := (up hk).1.change hs'' (Nat.ne_of_gt (Nat.lt_succ_of_lt hLl)) (fresh _ (Nat.le_succ _))
  refine fin _ h'' tk rs F' (fun p hp => ?_) hl hrel (fun p hp => Heap.lt_size (N p hp).1) fun r hr p hp => (ad2 (hobj r hr p hp).1).2.2.2
  rcases List.mem_cons.mp hp with rfl | hp
  · exact ⟨hs''.extBut _ _ (Nat.ne_of_lt (Nat.lt_succ_self _)) hD, Nat.ne_of_gt hLl, fresh _ (Nat.le_refl _)⟩
  · rcases List.mem_append.mp hp with hp | hp
    · obtain ⟨r, hr, hp⟩ := List.mem_flatMap.mp hp
      obtain ⟨a1, a2⟩ := hobj r hr p hp
      exact ⟨hs''.extBut _ _ (ad2 a1).2.1 a2, Nat.ne_of_gt (Nat.lt_trans hLl (ad2 a1).2.2.2), fresh _ (Nat.le_of_lt (ad2 a1).2.2.2)⟩
    · have z := (up hk).2 p hp
      have : p.1 < s₂.heap.objs.size := Heap.lt_size (N p hp).1
      exact ⟨hs''.extBut _ _ (Nat.ne_of_lt (Nat.lt_succ_of_lt this)) z.1, z.2⟩
theorem cg_assign {elt iter target : PySem.Expr} {y : Str} {py : Pos} {scope : Scope} {cl : List (Str × Addr)} {pos spos : Pos} {Q : Flow → Shared → Prop} (_F0 : Fr h₀ L s.heap m) (hLe : env.locals = L)
    (hsw : swapsWith (.ListComp elt [⟨target, iter, [], 0⟩] scope pos) (some (.Name y py)) spos.line env = pure true)
    (hclos : closureFor scope env = pure cl) (hcell : ∀ y ∈ scope.names, y.2 ≠ .cell) (hkind : scope.kind = .function)
    (hnames : ∀ y ∈ scope.names, y.2 = .local → scope.names.lookup y.1 = some .local)
    (hy : env.kindOf y = some .local) (hp : (env.scope.kind == .class || (env.scope.kind == .module && env.locals != env.globals)) = false)
    (h : wpAny (model prog w) A (eval iter env) (fun xv s₁ => wpAny (model prog w) A (pyIter xv) (CgSrc prog w A h₀ L m env elt target scope cl (fun D z => if z = y then some (.ref D) else m z) (fun _ => Q .next)) E s₁) E s)
    (hs : ∀ x, foldedSetIterable iter env x = pure x := by intro _; rfl) :
    wpAny (model prog w) A (exec (.Assign [.Name y py] (.ListComp elt [⟨target, iter, [], 0⟩] scope pos) spos) env) Q E s := by
  subst hLe
  rw [exec_Assign_Name_used _ _ _ _ hsw]
  refine wpAny_bind (wpAny_standAt (wpAny_bind ?_))
  show wpAny _ A (do let _ ← comprehension (.ListComp elt [⟨target, iter, [], 0⟩] scope pos) scope env _ (newList []) false (eval iter env) (some (assign (.Name y py) env))) _ _ s
  refine wpAny_bind (wpAny_mono (wpAny_comprehension_free (use := some (assign (.Name y py) env)) (Q := fun _ s' => Q .next s') rfl hs hclos hkind hnames
    (wpAny_mono h (fun xv s₁ h₁ => wpAny_mono h₁ (fun it s₂ h₂ => ?_) fun _ _ e => e) fun _ _ e => e)) (fun _ s' hq => wpAny_pure (wpAny_pure hq)) fun _ _ e => e)
  obtain ⟨I, fp, wr, n, P, Md, St, Nm, Rel, news, rfl, W, hself, hsz, hst, hfp, hwr, F, N, hasg, helt, fin⟩ := h₂
  have up : ∀ {h : Heap}, (∀ c o, c ∉ wr → s₂.heap.get? c = some o → h.get? c = some o) → Fr h₀ env.locals h m ∧ News h₀ env.locals h news := fun {h} hk =>
    ⟨⟨F.ns.at' fun o e => hk _ o (fun hc => (hwr _ hc).1 rfl) e, fun c o e => hk c o (fun hc => by rw [(hwr _ hc).2.1] at e; cases e) (F.keep c o e), F.above⟩,
      fun p hp => ⟨hk _ _ (fun hc => (hwr _ hc).2.2 p hp rfl) (N p hp).1, (N p hp).2⟩⟩
  have fresh : ∀ a, s₂.heap.objs.size ≤ a → h₀.get? a = none := fun a ha => by
    cases e : h₀.get? a with
    | none => rfl
    | some o => exact absurd (Heap.lt_size (F.keep a o e)) (Nat.not_lt.mpr ha)
  have hLl : env.locals < s₂.heap.objs.size := F.ns.lt
  refine cg_block W hself hsz hst hfp hcell hkind hasg (fun i C s m' Q E' hi hn hC hk => helt i C s m' Q E' hi hn hC (up hk).1 (up hk).2) ?_
  intro h tk m' rs hl hrel hD hobj hns hk
  have F' := (up hk).1
  have hCL : s₂.heap.objs.size + 1 ≠ env.locals := Nat.ne_of_gt (Nat.lt_succ_of_lt hLl)
  show wpAny _ A (assign (.Name y py) env (.ref s₂.heap.objs.size)) _ _ _
  refine wpAny_assign_Name (wpAny_storeName_local hy F'.ns (fun h₂ hn₂ hs₂ => ?_) hp)
  have hL₀ : h₀.get? env.locals = none := Heap.get?_none_of_le F'.above
  have F₂ : Fr h₀ env.locals h₂ (fun z => if z = y then some (.ref s₂.heap.objs.size) else m z) := ⟨hn₂, fun b o e => hs₂.extBut b o (fun q => by rw [q, hL₀] at e; cases e) (F'.keep b o e), F'.above⟩
  refine ⟨m', hns.sameBut hs₂ hCL, fun h'' hs'' => ?_⟩
  refine fin _ h'' _ rs (F₂.change hs'' hCL (fresh _ (Nat.le_succ _))) (fun p hp => ?_) hl hrel (fun p hp => Heap.lt_size (N p hp).1) fun r hr p hp => (ad2 (hobj r hr p hp).1).2.2.2
  rcases List.mem_cons.mp hp with rfl | hp
  · exact ⟨hs''.extBut _ _ (Nat.ne_of_lt (Nat.lt_succ_self _)) (hs₂.extBut _ _ (Nat.ne_of_gt hLl) hD), Nat.ne_of_gt hLl, fresh _ (Nat.le_refl _)⟩
  · rcases List.mem_append.mp hp with hp | hp
    · obtain ⟨r, hr, hp⟩ := List.mem_flatMap.mp hp
      obtain ⟨a1, a2⟩ := hobj r hr p hp
      have hpl : p.1 ≠ env.locals := Nat.ne_of_gt (Nat.lt_trans hLl (ad2 a1).2.2.2)
      exact ⟨hs''.extBut _ _ (ad2 a1).2.1 (hs₂.extBut _ _ hpl a2), hpl, fresh _ (Nat.le_of_lt (ad2 a1).2.2.2)⟩
    · have z := (up hk).2 p hp
      have : p.1 < s₂.heap.objs.size := Heap.lt_size (N p hp).1
      exact ⟨hs''.extBut _ _ (Nat.ne_of_lt (Nat.lt_succ_of_lt this)) (hs₂.extBut _ _ z.2.1 z.1), z.2⟩
end
end Mine
end

section
open PySem PySem.W PyProof.Rows PySem.Calls PySem.Spec PyProof.V PyProof.Rows.LCg
set_option Elab.async false
set_option linter.unusedVariables false
set_option maxRecDepth 100000
namespace Mine
/-- a row [weight, label] -/
structure RE where
  a : Addr
  w : Int
  tw : Tok
  lab : Int
  tl : Tok
abbrev rowO (r : RE) : Obj := listOf [.int r.w r.tw, .int r.lab r.tl].toArray 0
def rrefs (rs : List RE) : List Value := rs.map fun r => Value.ref r.a
def rows (rs : List RE) : List (Addr × Obj) := rs.map fun r => (r.a, rowO r)
def rvals (rs : List RE) : List (Int × Int) := rs.map fun r => (r.lab, r.w)
theorem rows_of (ps : List (Int × Int)) : ∀ (k : Nat) (rs : List (Value × List (Addr × Obj))), (∀ i r, rs[i]? = some r → ∃ q : RE, r.1 = .ref q.a ∧ r.2 = [(q.a, rowO q)] ∧ ps[k + i]? = some (q.lab, q.w)) → k + rs.length = ps.length →
    ∃ qs : List RE, rs.map (·.1) = rrefs qs ∧ rs.flatMap (·.2) = rows qs ∧ rvals qs = ps.drop k
  | k, [], _, hl => ⟨[], rfl, rfl, by rw [List.drop_eq_nil_of_le (by simp at hl; omega)]; rfl⟩
  | k, r :: rs, h, hl => by
    obtain ⟨q, h1, h2, h3⟩ := h 0 r rfl
    obtain ⟨qs, a1, a2, a3⟩ := rows_of ps (k + 1) rs (fun i r' hr => by
      have := h (i + 1) r' (by simpa using hr)
      rw [show k + 1 + i = k + (i + 1) by omega]; exact this) (by simp at hl; omega)
    refine ⟨q :: qs, ?_, ?_, ?_⟩
    · simp only [List.map_cons, rrefs] at a1 ⊢; rw [h1, a1]
    · simp only [List.flatMap_cons, rows, List.map_cons] at a2 ⊢; rw [h2, a2]; rfl
    · have hk : k < ps.length := by simp at hl; omega
      rw [List.drop_eq_getElem_cons hk]
      have : ps[k] = (q.lab, q.w) := by
        have := h3
        rw [Nat.add_zero, List.getElem?_eq_getElem hk] at this
        exact Option.some.inj this
      rw [this, ← a3]; rfl
section
variable {prog : Program} {w : World} {A : Around} {E : Value → Shared → Prop} {s : Shared} {h₀ : Heap} {L : Addr} {m : Str → Option Value} {env : Env} {news : List (Addr × Obj)}
theorem pairs_src {a b : Str} {pa pb tp pa' pb' lp : Pos} {kk : Nat} {scope : Scope} {cl : List (Str × Addr)} {mf : Addr → Str → Option Value} {QF : Addr → Shared → Prop} {I : Addr} {fp wr : List Addr} {ps : List (Int × Int)} {P Md : Nat → Value → Heap → Prop} {St : Nat → Heap → Prop}
    {n : Nat} (W : KTurns prog w A (.Tuple [.Name a pa, .Name b pb] kk tp) I fp wr n P Md St) (hn : n = ps.length) (hself : ∀ (s : Shared) (Q : Value → Shared → Prop) (E : Value → Shared → Prop), St 0 s.heap → Q (.ref I) s → wpAny (model prog w) A (pyIter (.ref I)) Q E s)
    (hP : ∀ i v h, P i v h → ∃ T lab wt tl tw, v = .ref T ∧ ps[i]? = some (lab, wt) ∧ h.IsTuple T #[.int lab tl, .int wt tw])
    (hh : A.handled = none) (hsz : n ≤ sizeLine) (hst : St 0 s.heap) (hfp : ∀ b ∈ fp, b < s.heap.objs.size) (hwr : ∀ b ∈ wr, b ≠ L ∧ h₀.get? b = none ∧ ∀ p ∈ news, p.1 ≠ b)
    (F : Fr h₀ L s.heap m) (N : News h₀ L s.heap news)
    (hkind : scope.kind = .function) (hxa : scope.names.lookup a = some .local) (hxb : scope.names.lookup b = some .local) (hab : ¬ a = b) (hda : (a == ("__debug__" : Str)) = false) (hdb : (b == ("__debug__" : Str)) = false)
    (fin : ∀ D h tk (rs : List RE), Fr h₀ L h (mf D) → News h₀ L h ((D, lst (rrefs rs)) :: (rows rs ++ news)) → rvals rs = ps → (∀ p ∈ news, p.1 < D) → (∀ r ∈ rs, D < r.a) → QF D { s with heap := h, toks := tk }) :
    CgSrc prog w A h₀ L m env (.List [.Name b pb', .Name a pa'] lp) (.Tuple [.Name a pa, .Name b pb] kk tp) scope cl mf QF (.ref I) s := by
  refine ⟨I, fp, wr, n, P, Md, St, fun i m' => ∃ lab wt tl tw, ps[i]? = some (lab, wt) ∧ m' a = some (.int lab tl) ∧ m' b = some (.int wt tw), fun i y objs => ∃ q : RE, y = .ref q.a ∧ objs = [(q.a, rowO q)] ∧ ps[i]? = some (q.lab, q.w),
    news, rfl, W, hself, hsz, hst, hfp, hwr, F, N, ?_, ?_, ?_⟩
  · rintro i v C s m Q E' hp hns hQ
    obtain ⟨T, lab, wt, tl, tw, rfl, hps, hT⟩ := hP i v _ hp
    refine kcp_assign (env := compEnvC scope cl C env) hh hT (lookup_relabel_local hxa) (lookup_relabel_local hxb) (by simp [compEnvC, relabel, hkind]) hns fun h' tk hn hk => ?_
    exact hQ h' tk _ ⟨lab, wt, tl, tw, hps, by simp [hab], by simp⟩ hn hk
  · rintro i C s m' Q E' hi ⟨lab, wt, tl, tw, hps, ha, hb⟩ hns F' N' hQ
    have hk : (compEnvC scope cl C env).scope.kind = .function := by simp [compEnvC, relabel, hkind]
    refine wpAny_List (spliced_more (wpAny_Name (wpAny_loadName_local hk (lookup_relabel_local hxb) hns hb ?_) hdb))
    refine spliced_more (wpAny_Name (wpAny_loadName_local hk (lookup_relabel_local hxa) hns ha ?_) hda)
    refine spliced_none ⟨by size_fits, ?_⟩
    refine hQ _ _ s.toks [(s.heap.objs.size, rowO ⟨s.heap.objs.size, wt, tw, lab, tl⟩)] (fun c o e => Heap.get?_push_of_some _ e) (fun p hp => ?_) ⟨⟨s.heap.objs.size, wt, tw, lab, tl⟩, rfl, rfl, hps⟩
    obtain rfl := List.mem_singleton.mp hp
    exact ⟨Nat.le_refl _, Heap.get?_push_size _ rfl⟩
  · intro D h tk rs F' N' hl hrel l1 l2
    obtain ⟨qs, a1, a2, a3⟩ := rows_of ps 0 rs (fun i r hr => by rw [Nat.zero_add]; exact hrel i r hr) (by rw [Nat.zero_add, ← hn]; exact hl)
    rw [a1, a2] at N'
    refine fin D h tk qs F' N' a3 l1 fun r hr => ?_
    have : (r.a, rowO r) ∈ rs.flatMap (·.2) := by rw [a2]; exact List.mem_map_of_mem hr
    obtain ⟨r', hr', hp⟩ := List.mem_flatMap.mp this
    exact l2 r' hr' _ hp
theorem enum_src {a b : Str} {pa pb tp pa' pb' lp : Pos} {kk : Nat} {scope : Scope} {cl : List (Str × Addr)} {mf : Addr → Str → Option Value} {QF : Addr → Shared → Prop} {l : Addr} {vs : List Value} {c : Nat} {ws : List Int}
    (hh : A.handled = none) (F : Fr h₀ L s.heap m) (N : News h₀ L s.heap news) (hm : (l, listOf vs.toArray c) ∈ news) (hi : IntsAre vs ws) (hz : ws.length ≤ 1000)
    (hkind : scope.kind = .function) (hxa : scope.names.lookup a = some .local) (hxb : scope.names.lookup b = some .local) (hab : ¬ a = b) (hda : (a == ("__debug__" : Str)) = false) (hdb : (b == ("__debug__" : Str)) = false)
    (fin : ∀ D h tk (rs : List RE), Fr h₀ L h (mf D) → News h₀ L h ((D, lst (rrefs rs)) :: (rows rs ++ news)) → rvals rs = ws.zipIdx.map (fun p => ((p.2 : Int), p.1)) → (∀ p ∈ news, p.1 < D) → (∀ r ∈ rs, D < r.a) → QF D { s with heap := h, toks := tk }) :
    wpAny (model prog w) A (call (.type "enumerate") [.ref l]) (fun xv s₁ => wpAny (model prog w) A (pyIter xv) (CgSrc prog w A h₀ L m env (.List [.Name b pb', .Name a pa'] lp) (.Tuple [.Name a pa, .Name b pb] kk tp) scope cl mf QF) E s₁) E s := by
  have hax := N _ hm
  have hl : s.heap.IsList l vs.toArray := ⟨_, hax.1, rfl, c, rfl⟩
  have hlt : l < s.heap.objs.size := Heap.lt_size hax.1
  have hlen : vs.length = ws.length := hi.length
  refine call_enumerate_list hl fun h' hE hI hsz hk => ?_
  refine wpAny_pyIter_enum hE ?_
  have fresh : ∀ a, s.heap.objs.size ≤ a → h₀.get? a = none := fun a ha => by
    cases e : h₀.get? a with
    | none => rfl
    | some o => exact absurd (Heap.lt_size (F.keep a o e)) (Nat.not_lt.mpr ha)
  have hn : (ws.zipIdx.map (fun p => ((p.2 : Int), p.1))).length = vs.toArray.size := by simp [hlen]
  refine pairs_src (ps := ws.zipIdx.map (fun p => ((p.2 : Int), p.1))) (KTurns.ofWalksU (WalksT.enumerate hh (s.heap.objs.size + 1) s.heap.objs.size l (Nat.succ_ne_self _) (Nat.ne_of_lt (Nat.lt_succ_of_lt hlt)) (Nat.ne_of_lt hlt) vs.toArray).toU) hn.symm
    (fun s' Q E hst h => by obtain ⟨⟨old, he⟩, _⟩ := hst; exact wpAny_pyIter_enum he h) ?_ hh (by rw [List.size_toArray, hlen]; exact Nat.le_trans hz (by rw [sizeLine_eq]; omega)) ⟨⟨_, hE⟩, hI, hl.at fun o e => hk l o e⟩ ?_ ?_ (F.keeps hk) (N.grown hk) hkind hxa hxb hab hda hdb fin
  · rintro i v h ⟨T, vals, rfl, ⟨t, x, hx, rfl⟩, hT⟩
    have hx' : vs[i]? = some x := by simpa using hx
    obtain ⟨wt, tw, h1, h2⟩ := hi.at i x hx'
    subst h1
    refine ⟨T, i, wt, t, tw, rfl, ?_, hT⟩
    rw [List.getElem?_map, List.getElem?_zipIdx, h2]
    simp
  · intro b hb
    show b < h'.objs.size
    rw [hsz]
    simp only [List.mem_cons, List.not_mem_nil, or_false] at hb
    rcases hb with rfl | rfl | rfl
    · exact Nat.lt_succ_self _
    · exact Nat.lt_succ_of_lt (Nat.lt_succ_self _)
    · exact Nat.lt_succ_of_lt (Nat.lt_succ_of_lt hlt)
  · intro b hb
    have hge : s.heap.objs.size ≤ b := by
      simp only [List.mem_cons, List.not_mem_nil, or_false] at hb
      rcases hb with rfl | rfl
      · exact Nat.le_succ _
      · exact Nat.le_refl _
    exact ⟨Nat.ne_of_gt (Nat.lt_of_lt_of_le F.ns.lt hge), fresh b hge, fun p hp => Nat.ne_of_lt (Nat.lt_of_lt_of_le (Heap.lt_size (N p hp).1) hge)⟩
theorem dict_src {a b : Str} {pa pb tp pa' pb' lp : Pos} {kk : Nat} {scope : Scope} {cl : List (Str × Addr)} {mf : Addr → Str → Option Value} {QF : Addr → Shared → Prop} {d vw : Addr} {od : Obj} {kvs : List (Int × Value)} {ks ws : List Int}
    (hh : A.handled = none) (F : Fr h₀ L s.heap m) (N : News h₀ L s.heap news) (hv : ∃ ov, s.heap.get? vw = some ov ∧ ov.cls = .type "dict_items" ∧ ov.data = .fields #[.ref d]) (hm : (d, od) ∈ news) (hd : od.IsDictOf (intKind prog w) kvs)
    (hk : kvs.map (·.1) = ks) (hi : IntsAre (kvs.map (·.2)) ws) (hz : ws.length ≤ 1000)
    (hkind : scope.kind = .function) (hxa : scope.names.lookup a = some .local) (hxb : scope.names.lookup b = some .local) (hab : ¬ a = b) (hda : (a == ("__debug__" : Str)) = false) (hdb : (b == ("__debug__" : Str)) = false)
    (fin : ∀ D h tk (rs : List RE), Fr h₀ L h (mf D) → News h₀ L h ((D, lst (rrefs rs)) :: (rows rs ++ news)) → rvals rs = ks.zip ws → (∀ p ∈ news, p.1 < D) → (∀ r ∈ rs, D < r.a) → QF D { s with heap := h, toks := tk }) :
    wpAny (model prog w) A (pyIter (.ref vw)) (CgSrc prog w A h₀ L m env (.List [.Name b pb', .Name a pa'] lp) (.Tuple [.Name a pa, .Name b pb] kk tp) scope cl mf QF) E s := by
  obtain ⟨ep, hat⟩ := KdkAt.of hd
  have hax := N _ hm
  have hlt : d < s.heap.objs.size := Heap.lt_size hax.1
  have hlen : kvs.length = ws.length := by have := hi.length; simpa using this
  refine wpAny_pyIter_items hv (hat.dictAt hax.1) ?_
  have fresh : ∀ a, s.heap.objs.size ≤ a → h₀.get? a = none := fun a ha => by
    cases e : h₀.get? a with
    | none => rfl
    | some o => exact absurd (Heap.lt_size (F.keep a o e)) (Nat.not_lt.mpr ha)
  have hn : (ks.zip ws).length = kvs.length := by rw [← hk, List.length_zip, List.length_map, ← hlen, Nat.min_self]
  have up : ∀ b o, s.heap.get? b = some o → (s.heap.push { cls := .type "dict_itemiterator", data := .fields #[.none, .bool false, .ref d, .int 0 0, .int kvs.length 0, .int ep 0, .none, .none] }).get? b = some o := fun b o e => Heap.get?_push_of_some _ e
  refine pairs_src (ps := ks.zip ws) (kti_itemsTurns (knd := intKind prog w) hh s.heap.objs.size d (Nat.ne_of_lt hlt) kvs ep) hn.symm
    (fun s' Q E hst h => by obtain ⟨⟨ok, ov, he⟩, _⟩ := hst; exact kcp_self he h) ?_ hh (by rw [hlen]; exact Nat.le_trans hz (by rw [sizeLine_eq]; omega)) ⟨⟨_, _, Heap.get?_push_size _ rfl⟩, hat.dictAt (up _ _ hax.1)⟩ ?_ ?_ (F.keeps up) (N.grown up) hkind hxa hxb hab hda hdb fin
  · rintro i v h ⟨T, key, k, x, rfl, hx, hkey, hT⟩
    obtain ⟨t, rfl⟩ := Value.isInt_shape hkey
    obtain ⟨wt, tw, h1, h2⟩ := hi.at i x (by rw [List.getElem?_map, hx]; rfl)
    subst h1
    refine ⟨T, k, wt, t, tw, rfl, ?_, hT⟩
    rw [List.getElem?_zip_eq_some]
    exact ⟨by rw [← hk, List.getElem?_map, hx]; rfl, h2⟩
  · intro b hb
    show b < (s.heap.push _).objs.size
    rw [Heap.size_push]
    simp only [List.mem_cons, List.not_mem_nil, or_false] at hb
    rcases hb with rfl | rfl
    · exact Nat.lt_succ_self _
    · exact Nat.lt_succ_of_lt hlt
  · intro b hb
    obtain rfl := List.mem_singleton.mp hb
    exact ⟨Nat.ne_of_gt F.ns.lt, fresh _ (Nat.le_refl _), fun p hp => Nat.ne_of_lt (Heap.lt_size (N p hp).1)⟩
end
end Mine
end

section
open PySem PySem.W PyProof.Rows PySem.Calls PySem.Spec PyProof.V PyProof.Rows.LCg
set_option Elab.async false
set_option linter.unusedVariables false
set_option maxRecDepth 100000
namespace Mine
open PySem.AutoSeq1 (wpAny_loadPart')
open PySem.SeqAt PySem.MeetsSeq PySem.MeetsSeq2 PySem.MeetsSeq3
def pairLt (wa la wb lb : Int) : Bool := if wa = wb then decide (la < lb) else decide (wa < wb)
theorem rc_lt_int {prog : Program} {w : World} {A : Around} {E : Value → Shared → Prop} {s : Shared} {a b : Int} {t u : Tok} {Q : Value → Shared → Prop} (h : Q (.bool (decide (a < b))) s) :
    wpAny (model prog w) A (richCompare .Lt (.int a t) (.int b u)) Q E s :=
  wpAny_richCompare_same (typeIs_int s a t) (typeIs_int s b u) slot_int_lt (call_int_lt ⟨by simp, h⟩)
theorem lt_loop2 (l b : Addr) (I1 I2 : Array Value) (z1 : I1.size = 2) (z2 : I2.size = 2) (n n2 : Nat) :
    Meets (Builtin.«list.__eq__.loop» ⟨[.ref l, .ref b, rawInt (2 : Nat), rawInt 0], []⟩)
      (fun A R s => s.heap.get? l = some (listOf I1 n) ∧ s.heap.get? b = some (listOf I2 n2) ∧ R (.ok (.ret (.bool false))) s) := by
  intro prog w A R s h
  obtain ⟨hp, g, d, tk, os⟩ := s; obtain ⟨hl, hb, h⟩ := h
  wp_walk using wpAny_loadPart' hl, wpAny_loadPart' hb
  have hi1 : I1[((2 : Nat) : Int).toNat]? = none := by simp; omega
  have hi2 : I2[((2 : Nat) : Int).toNat]? = none := by simp; omega
  rw [hi1, hi2]
  wp_walk using wpAny_loadPart' hl, wpAny_loadPart' hb
  show R (.ok (.ret (.bool (decide (I1.size < I2.size))))) _
  rw [z1, z2]
  exact h
theorem lt_loop1 (l b : Addr) (I1 I2 : Array Value) (z1 : I1.size = 2) (z2 : I2.size = 2) (la lb : Int) (ta tb : Tok) (n n2 : Nat) (x1 : I1[1]? = some (.int la ta)) (x2 : I2[1]? = some (.int lb tb)) :
    Meets (Builtin.«list.__eq__.loop» ⟨[.ref l, .ref b, rawInt (1 : Nat), rawInt 0], []⟩)
      (fun A R s => s.heap.get? l = some (listOf I1 n) ∧ s.heap.get? b = some (listOf I2 n2) ∧ R (.ok (.ret (.bool (decide (la < lb))))) s) := by
  intro prog w A R s h
  obtain ⟨hp, g, d, tk, os⟩ := s; obtain ⟨hl, hb, h⟩ := h
  wp_walk using wpAny_loadPart' hl, wpAny_loadPart' hb
  have hi1 : I1[((1 : Nat) : Int).toNat]? = some (.int la ta) := x1
  have hi2 : I2[((1 : Nat) : Int).toNat]? = some (.int lb tb) := x2
  rw [hi1, hi2]
  refine wpAny_bind (wpAny_eqBool_int ?_)
  by_cases e : la = lb
  · subst e
    have e1 : (la == la) = true := by simp
    rw [e1]
    wp_walk
    have e2 : decide (la < la) = false := by simp
    rw [e2] at h
    exact ⟨plainId_quiet plain_eq_loop _, codeAny_builtin entry_eq_loop (by
      rw [Around.under_plainId plain_eq_loop _]
      exact lt_loop2 l b I1 I2 z1 z2 n n2 prog w A R _ ⟨hl, hb, h⟩)⟩
  · have e1 : (la == lb) = false := by simp [e]
    rw [e1]
    wp_walk using wpAny_loadPart' hl, wpAny_loadPart' hb
    rw [hi1, hi2]
    refine wpAny_bind (rc_lt_int ?_)
    wp_walk
    exact h
theorem lt_loop0 (l b : Addr) (I1 I2 : Array Value) (z1 : I1.size = 2) (z2 : I2.size = 2) (wa la wb lb : Int) (ua ub ta tb : Tok) (n n2 : Nat) (y1 : I1[0]? = some (.int wa ua)) (y2 : I2[0]? = some (.int wb ub)) (x1 : I1[1]? = some (.int la ta)) (x2 : I2[1]? = some (.int lb tb)) :
    Meets (Builtin.«list.__eq__.loop» ⟨[.ref l, .ref b, rawInt 0, rawInt 0], []⟩)
      (fun A R s => s.heap.get? l = some (listOf I1 n) ∧ s.heap.get? b = some (listOf I2 n2) ∧ R (.ok (.ret (.bool (pairLt wa la wb lb)))) s) := by
  intro prog w A R s h
  obtain ⟨hp, g, d, tk, os⟩ := s; obtain ⟨hl, hb, h⟩ := h
  wp_walk using wpAny_loadPart' hl, wpAny_loadPart' hb
  have hi1 : I1[(0 : Int).toNat]? = some (.int wa ua) := y1
  have hi2 : I2[(0 : Int).toNat]? = some (.int wb ub) := y2
  rw [hi1, hi2]
  refine wpAny_bind (wpAny_eqBool_int ?_)
  by_cases e : wa = wb
  · subst e
    have e1 : (wa == wa) = true := by simp
    rw [e1]
    wp_walk
    rw [pairLt, if_pos rfl] at h
    exact ⟨plainId_quiet plain_eq_loop _, codeAny_builtin entry_eq_loop (by
      rw [Around.under_plainId plain_eq_loop _]
      exact lt_loop1 l b I1 I2 z1 z2 la lb ta tb n n2 x1 x2 prog w A R _ ⟨hl, hb, h⟩)⟩
  · have e1 : (wa == wb) = false := by simp [e]
    rw [e1]
    wp_walk using wpAny_loadPart' hl, wpAny_loadPart' hb
    rw [hi1, hi2]
    refine wpAny_bind (rc_lt_int ?_)
    wp_walk
    rw [pairLt, if_neg e] at h
    exact h
theorem list_lt_rows (l b : Addr) (I1 I2 : Array Value) (z1 : I1.size = 2) (z2 : I2.size = 2) (wa la wb lb : Int) (ua ub ta tb : Tok) (n n2 : Nat) (y1 : I1[0]? = some (.int wa ua)) (y2 : I2[0]? = some (.int wb ub)) (x1 : I1[1]? = some (.int la ta)) (x2 : I2[1]? = some (.int lb tb)) :
    Meets (Builtin.«list.__lt__» ⟨[.ref l, .ref b], []⟩)
      (fun A R s => s.heap.get? l = some (listOf I1 n) ∧ s.heap.get? b = some (listOf I2 n2) ∧ R (.ok (.ret (.bool (pairLt wa la wb lb)))) s) := by
  intro prog w A R s h
  obtain ⟨hp, g, d, tk, os⟩ := s; obtain ⟨hl, hb, h⟩ := h
  have f3 := AutoSeq1.sub_list_list
  wp_walk using wpAny_loadPart' hl, wpAny_loadPart' hb
  exact ⟨plainId_quiet plain_eq_loop _, codeAny_builtin entry_eq_loop (by
    rw [Around.under_plainId plain_eq_loop _]
    exact lt_loop0 l b I1 I2 z1 z2 wa la wb lb ua ub ta tb n n2 y1 y2 x1 x2 prog w A R _ ⟨hl, hb, h⟩)⟩
theorem row_lt {prog : Program} {w : World} {A : Around} {E : Value → Shared → Prop} {s : Shared} {p q : RE} {Q : Bool → Shared → Prop} (hu : A.units < cLine) (hp : s.heap.get? p.a = some (rowO p)) (hq : s.heap.get? q.a = some (rowO q))
    (h : Q (pairLt p.w p.lab q.w q.lab) s) : wpAny (model prog w) A (keyLt' oneType' (.ref p.a) (.ref q.a)) Q E s := by
  rw [keyLt'_oneType, oneLt'_eq]
  simp only [if_true]
  refine wpAny_bind (wpAny_cRoomFor hu ?_)
  have hT : s.TypeIs (.ref p.a) "list" := ⟨_, hp, rfl⟩
  refine wpAny_bind (wpAny_callSpecialIfBound?_slot hT PySem.F.slot_list_lt ?_)
  exact call_meetsIn PySem.F.slot_list_lt hT PySem.F.entry_list_lt (PySem.F.args_list_lt_2 _ _) (fun A R s h => list_lt_rows p.a q.a [.int p.w p.tw, .int p.lab p.tl].toArray [.int q.w q.tw, .int q.lab q.tl].toArray rfl rfl p.w p.lab q.w q.lab p.tw q.tw p.tl q.tl 0 0 rfl rfl rfl rfl prog w A R s h) ⟨hp, hq, wpAny_truthy_bool h⟩
end Mine
end

section
open PySem PySem.W PyProof.Rows PySem.Calls PySem.Spec PyProof.V PyProof.Rows.LCg
set_option Elab.async false
set_option linter.unusedVariables false
set_option maxRecDepth 100000
namespace Mine
/-- all questions of the tree are of indices under n, and with lt's answers it ends as said -/
def sok (lt : Nat → Nat → Bool) (n : Nat) {α : Type} : KasT α → (α → Prop) → Prop
  | .ret a, Q => Q a
  | .ask i j k, Q => i < n ∧ j < n ∧ sok lt n (k (lt i j)) Q
theorem sok_bind {lt : Nat → Nat → Bool} {n : Nat} {α β : Type} {f : α → KasT β} {Q : β → Prop} : ∀ (t : KasT α), sok lt n t (fun a => sok lt n (f a) Q) → sok lt n (t.bind f) Q
  | .ret a, h => h
  | .ask i j k, h => ⟨h.1, h.2.1, sok_bind (k (lt i j)) h.2.2⟩
theorem sok_mono {lt : Nat → Nat → Bool} {n : Nat} {α : Type} {Q Q' : α → Prop} (hq : ∀ a, Q a → Q' a) : ∀ (t : KasT α), sok lt n t Q → sok lt n t Q'
  | .ret a, h => hq a h
  | .ask i j k, h => ⟨h.1, h.2.1, sok_mono hq (k (lt i j)) h.2.2⟩
/-- the tree's end with lt's answers -/
def sval (lt : Nat → Nat → Bool) {α : Type} : KasT α → α
  | .ret a => a
  | .ask i j k => sval lt (k (lt i j))
theorem sok_val {lt : Nat → Nat → Bool} {n : Nat} {α : Type} {Q : α → Prop} : ∀ (t : KasT α), sok lt n t Q → Q (sval lt t)
  | .ret a, h => h
  | .ask i j k, h => sok_val (k (lt i j)) h.2.2
theorem sok_wp {lt : Nat → Nat → Bool} {n : Nat} {α : Type} {P : α → Prop} {cmp : Nat → Nat → (Bool → Shared → Prop) → Shared → Prop} {Q : α → Shared → Prop} {s : Shared}
    (hc : ∀ i j, i < n → j < n → ∀ C : Bool → Shared → Prop, C (lt i j) s → cmp i j C s) : ∀ (t : KasT α), sok lt n t P → Q (sval lt t) s → t.kasWp cmp Q s
  | .ret a, h, hq => hq
  | .ask i j k, h, hq => hc i j h.1 h.2.1 _ (sok_wp hc (k (lt i j)) h.2.2 hq)
section
variable {lt : Nat → Nat → Bool} {n : Nat}
abbrev gt (p : Array Nat) (i : Nat) : Nat := p.getD i 0
def PA (n : Nat) (p : Array Nat) : Prop := p.toList.Perm (List.range n)
theorem PA.size {p : Array Nat} (h : PA n p) : p.size = n := by have := h.length_eq; simpa using this
theorem PA.below {p : Array Nat} (h : PA n p) {i : Nat} (hi : i < n) : gt p i < n := by
  have hs := h.size
  have : gt p i ∈ p.toList := by
    have e : gt p i = p[i]'(by omega) := by simp [gt, Array.getD, hs, hi]
    rw [e]; simp
  simpa using h.mem_iff.mp this
theorem gt_get {p : Array Nat} (h : PA n p) {i : Nat} (hi : i < n) : p[i]? = some (gt p i) := by
  have hs := h.size
  simp [gt, Array.getD, hs, hi]
theorem gt_of {p : Array Nat} {i x : Nat} (h : p[i]? = some x) : gt p i = x := by
  simp [gt, Array.getD_eq_getD_getElem?, h]
theorem PA.inj {p : Array Nat} (h : PA n p) {i j : Nat} (hi : i < n) (hj : j < n) (hij : i ≠ j) : gt p i ≠ gt p j := by
  have hs := h.size
  have nd : p.toList.Nodup := h.nodup_iff.mpr List.nodup_range
  intro e
  have h1 := gt_get h hi
  have h2 := gt_get h hj
  rw [← e] at h2
  rw [← Array.getElem?_toList] at h1 h2
  have a1 : i < p.toList.length := by simp; omega
  have a2 : j < p.toList.length := by simp; omega
  have b1 := (List.getElem?_eq_some_iff.mp h1).2
  have b2 := (List.getElem?_eq_some_iff.mp h2).2
  have pw := List.pairwise_iff_getElem.mp nd
  rcases Nat.lt_or_gt_of_ne hij with z | z
  · exact pw i j a1 a2 z (b1.trans b2.symm)
  · exact pw j i a2 a1 z (b2.trans b1.symm)
structure Ord (lt : Nat → Nat → Bool) (n : Nat) : Prop where
  tr : ∀ i j k, i < n → j < n → k < n → lt i j = true → lt j k = true → lt i k = true
  tot : ∀ i j, i < n → j < n → i ≠ j → lt i j = false → lt j i = true
def asc (lt : Nat → Nat → Bool) (p : Array Nat) (k : Nat) : Prop := ∀ i, i + 1 < k → lt (gt p i) (gt p (i + 1)) = true
def desc (lt : Nat → Nat → Bool) (p : Array Nat) (k : Nat) : Prop := ∀ i, i + 1 < k → lt (gt p (i + 1)) (gt p i) = true
theorem asc_chain (O : Ord lt n) {p : Array Nat} (hp : PA n p) {k : Nat} (hk : k ≤ n) (h : asc lt p k) : ∀ d i, i + d + 1 < k → lt (gt p i) (gt p (i + d + 1)) = true
  | 0, i, hd => h i hd
  | d + 1, i, hd => O.tr _ _ _ (hp.below (by omega)) (hp.below (by omega)) (hp.below (by omega)) (asc_chain O hp hk h d i (by omega)) (h (i + d + 1) hd)
theorem asc_lt (O : Ord lt n) {p : Array Nat} (hp : PA n p) {k : Nat} (hk : k ≤ n) (h : asc lt p k) {i j : Nat} (hij : i < j) (hj : j < k) : lt (gt p i) (gt p j) = true := by
  have := asc_chain O hp hk h (j - i - 1) i (by omega)
  rwa [show i + (j - i - 1) + 1 = j by omega] at this
theorem asc_ok (O : Ord lt n) {p : Array Nat} (hp : PA n p) : ∀ (f m : Nat), 1 ≤ m → m + f ≤ n → asc lt p m → sok lt n (kas_asc p f m) fun r => m ≤ r ∧ r ≤ m + f ∧ asc lt p r ∧ (r < m + f → lt (gt p r) (gt p (r - 1)) = true)
  | 0, m, h1, h2, h => ⟨Nat.le_refl _, Nat.le_refl _, h, fun q => absurd q (by omega)⟩
  | f + 1, m, h1, h2, h => by
    refine ⟨hp.below (by omega), hp.below (by omega), ?_⟩
    cases q : lt (gt p m) (gt p (m - 1)) with
    | true => exact ⟨Nat.le_refl _, by omega, h, fun _ => q⟩
    | false =>
      have q' := O.tot _ _ (hp.below (by omega)) (hp.below (by omega)) (hp.inj (by omega) (by omega) (by omega)) q
      refine sok_mono (fun r hr => ?_) (kas_asc p f (m + 1)) (asc_ok O hp f (m + 1) (by omega) (by omega) fun i hi => ?_)
      · exact ⟨by omega, by omega, hr.2.2.1, fun z => hr.2.2.2 (by omega)⟩
      · rcases Nat.lt_or_ge (i + 1) m with z | z
        · exact h i z
        · have : m = i + 1 := by omega
          subst this
          exact q'
theorem desc_ok (O : Ord lt n) {p : Array Nat} (hp : PA n p) : ∀ (f m : Nat), 1 ≤ m → m + f ≤ n → desc lt p m → sok lt n (kas_desc f p m 0) fun r => r.1 = p ∧ r.2.2 = 0 ∧ m ≤ r.2.1 ∧ r.2.1 ≤ m + f ∧ desc lt p r.2.1
  | 0, m, h1, h2, h => ⟨rfl, rfl, Nat.le_refl _, Nat.le_refl _, h⟩
  | f + 1, m, h1, h2, h => by
    refine ⟨hp.below (by omega), hp.below (by omega), ?_⟩
    cases q : lt (gt p m) (gt p (m - 1)) with
    | true =>
      refine sok_mono (fun r hr => ?_) (kas_desc f p (m + 1) 0) (desc_ok O hp f (m + 1) (by omega) (by omega) fun i hi => ?_)
      · exact ⟨hr.1, hr.2.1, by omega, by omega, hr.2.2.2.2⟩
      · rcases Nat.lt_or_ge (i + 1) m with z | z
        · exact h i z
        · have : m = i + 1 := by omega
          subst this
          exact q
    | false =>
      have q' := O.tot _ _ (hp.below (by omega)) (hp.below (by omega)) (hp.inj (by omega) (by omega) (by omega)) q
      refine ⟨hp.below (by omega), hp.below (by omega), ?_⟩
      show sok lt n (if lt (gt p (m - 1)) (gt p m) = true then KasT.ret (p, m, 0) else kas_desc f p (m + 1) (0 + 1)) _
      rw [if_pos q']
      exact ⟨rfl, rfl, Nat.le_refl _, by show m ≤ m + (f + 1); omega, h⟩
theorem rev_gt {p : Array Nat} (hp : PA n p) {m i : Nat} (hm : m ≤ n) (hi : i < m) : gt (kas_rev p 0 m) i = gt p (m - 1 - i) := by
  refine gt_of ?_
  unfold kas_rev
  rw [getElem?_mirror_all (by rw [hp.size]; exact hm), if_pos ⟨by omega, hi⟩, show 0 + m - 1 - i = m - 1 - i by omega]
  exact gt_get hp (by omega)
theorem rev_PA {p : Array Nat} (hp : PA n p) {m : Nat} : PA n (kas_rev p 0 m) := ((mirror_perm p 0 m ((m - 0) / 2)).toList).trans hp
theorem tail3_ok (O : Ord lt n) {p : Array Nat} (hp : PA n p) {m : Nat} (h1 : 1 ≤ m) (h2 : m ≤ n) (h : desc lt p m) : sok lt n (kas_tail3 m n p) fun r => PA n r.2 ∧ 1 ≤ r.1 ∧ r.1 ≤ n ∧ asc lt r.2 r.1 := by
  refine sok_bind _ (sok_mono (fun r hr => ?_) _ (asc_ok O (rev_PA hp) (n - m) m h1 (by omega) fun i hi => ?_))
  · exact ⟨rev_PA hp, by omega, by omega, hr.2.2.1⟩
  · rw [rev_gt hp h2 (by omega), rev_gt hp h2 (by omega)]
    have := h (m - 1 - (i + 1)) (by omega)
    rwa [show m - 1 - (i + 1) + 1 = m - 1 - i by omega] at this
theorem count_ok (O : Ord lt n) {p : Array Nat} (hp : PA n p) (hn : 2 ≤ n) : sok lt n (kas_count n p) fun r => PA n r.2 ∧ 1 ≤ r.1 ∧ r.1 ≤ n ∧ asc lt r.2 r.1 := by
  refine sok_bind _ (sok_mono (fun r hr => ?_) _ (asc_ok O hp (n - 1) 1 (Nat.le_refl _) (by omega) fun i hi => absurd hi (by omega)))
  by_cases e : (r == n) = true
  · rw [if_pos e]
    exact ⟨hp, hr.1, by omega, hr.2.2.1⟩
  · rw [if_neg e]
    have e' : r ≠ n := fun q => e (by simp [q])
    by_cases e2 : r > 1
    · rw [if_pos e2]
      refine ⟨hp.below (by omega), hp.below (by omega), ?_⟩
      have q : lt (gt p 0) (gt p (r - 1)) = true := asc_lt O hp (by omega) hr.2.2.1 (by omega) (by omega)
      show sok lt n (if lt (gt p 0) (gt p (r - 1)) = true then KasT.ret (r, p) else kas_descPart r n (kas_rev p 0 r)) _
      rw [if_pos q]
      exact ⟨hp, hr.1, by omega, hr.2.2.1⟩
    · rw [if_neg e2]
      have : r = 1 := by omega
      subst this
      have q := hr.2.2.2 (by omega)
      refine sok_bind _ (sok_mono (fun t ht => ?_) _ (desc_ok O hp (n - (1 + 1)) (1 + 1) (by omega) (by omega) fun i hi => ?_))
      · rw [if_neg (by rw [ht.2.1]; omega), ht.1]
        exact tail3_ok O hp (by omega) (by omega) ht.2.2.2.2
      · have : i = 0 := by omega
        subst this
        exact q
theorem place_ok (O : Ord lt n) {p : Array Nat} (hp : PA n p) {k : Nat} (hk : k < n) (h : asc lt p k) : ∀ (f l r : Nat), l ≤ r → r ≤ k → r - l ≤ f → (∀ i, i < l → lt (gt p i) (gt p k) = true) → (∀ i, r ≤ i → i < k → lt (gt p k) (gt p i) = true) →
    sok lt n (kas_place p k f l r) fun x => x ≤ k ∧ (∀ i, i < x → lt (gt p i) (gt p k) = true) ∧ (∀ i, x ≤ i → i < k → lt (gt p k) (gt p i) = true)
  | 0, l, r, h1, h2, h3, h4, h5 => ⟨by omega, h4, by rw [show l = r by omega]; exact h5⟩
  | f + 1, l, r, h1, h2, h3, h4, h5 => by
    by_cases e : l ≥ r
    · show sok lt n (if l ≥ r then KasT.ret l else _) _
      rw [if_pos e]
      exact ⟨by omega, h4, by rw [show l = r by omega]; exact h5⟩
    · show sok lt n (if l ≥ r then KasT.ret l else KasT.ask (gt p k) (gt p ((l + r) / 2)) fun c => if c = true then kas_place p k f l ((l + r) / 2) else kas_place p k f ((l + r) / 2 + 1) r) _
      rw [if_neg e]
      refine ⟨hp.below hk, hp.below (by omega), ?_⟩
      cases q : lt (gt p k) (gt p ((l + r) / 2)) with
      | true =>
        refine place_ok O hp hk h f l ((l + r) / 2) (by omega) (by omega) (by omega) h4 fun i hi hik => ?_
        rcases Nat.lt_or_ge ((l + r) / 2) i with z | z
        · exact O.tr _ _ _ (hp.below hk) (hp.below (by omega)) (hp.below (by omega)) q (asc_lt O hp (by omega) h z hik)
        · rw [show i = (l + r) / 2 by omega]; exact q
      | false =>
        have q' := O.tot _ _ (hp.below hk) (hp.below (by omega)) (hp.inj hk (by omega) (by omega)) q
        refine place_ok O hp hk h f ((l + r) / 2 + 1) r (by omega) h2 (by omega) (fun i hi => ?_) h5
        rcases Nat.lt_or_ge i ((l + r) / 2) with z | z
        · exact O.tr _ _ _ (hp.below (by omega)) (hp.below (by omega)) (hp.below hk) (asc_lt O hp (by omega) h z (by omega)) q'
        · rw [show i = (l + r) / 2 by omega]; exact q'
theorem bin_ok (O : Ord lt n) : ∀ (f : Nat) (p : Array Nat) (k : Nat), PA n p → k + f = n → 1 ≤ k → asc lt p k → sok lt n (kas_bin f p k) fun r => PA n r ∧ asc lt r n
  | 0, p, k, hp, h1, h2, h => ⟨hp, by rw [← h1]; exact h⟩
  | f + 1, p, k, hp, h1, h2, h => by
    have hk : k < n := by omega
    refine sok_bind _ (sok_mono (fun x hx => ?_) _ (place_ok O hp hk h k 0 k (Nat.zero_le _) (Nat.le_refl _) (by omega) (fun i hi => absurd hi (by omega)) fun i hi hik => absurd hi (by omega)))
    obtain ⟨hxk, hlo, hhi⟩ := hx
    have hp2 : PA n (bubble p k (k - x)) := (bubble_perm p k (k - x)).toList.trans hp
    have bg : ∀ i, i < n → gt (bubble p k (k - x)) i = if i = x then gt p k else if x < i ∧ i ≤ k then gt p (i - 1) else gt p i := fun i hi => by
      refine gt_of ?_
      rw [getElem?_bubble (by rw [hp.size]; exact hk) (k - x) (by omega) i, show k - (k - x) = x by omega]
      split
      · exact gt_get hp hk
      · split
        · exact gt_get hp (by omega)
        · exact gt_get hp hi
    refine bin_ok O f _ (k + 1) hp2 (by omega) (by omega) fun i hi => ?_
    rw [bg i (by omega), bg (i + 1) (by omega)]
    by_cases c1 : i = x
    · subst c1
      rw [if_pos rfl, if_neg (by omega), if_pos ⟨by omega, by omega⟩, Nat.add_sub_cancel]
      exact hhi i (Nat.le_refl _) (by omega)
    · rw [if_neg c1]
      by_cases c2 : i + 1 = x
      · rw [if_pos c2, if_neg (by omega)]
        exact hlo i (by omega)
      · rw [if_neg c2]
        by_cases c3 : x < i
        · rw [if_pos ⟨c3, by omega⟩, if_pos ⟨by omega, by omega⟩, Nat.add_sub_cancel]
          exact asc_lt O hp (by omega) h (by omega) (by omega)
        · rw [if_neg (by omega), if_neg (by omega)]
          exact h i (by omega)
theorem sort_ok (O : Ord lt n) (hn : 2 ≤ n) : sok lt n (kas_sort n) fun r => PA n r ∧ asc lt r n := by
  have hr : PA n (List.toArray (List.range n)) := by unfold PA; simp
  refine sok_bind _ (sok_mono (fun r h => ?_) _ (count_ok O hr hn))
  obtain ⟨h1, h2, h3, h4⟩ := h
  by_cases e : r.1 < n
  · rw [if_pos e]
    rw [show max r.1 1 = r.1 by omega]
    exact bin_ok O _ _ _ h1 (by omega) h2 h4
  · rw [if_neg e]
    have : r.1 = n := by omega
    exact ⟨h1, this ▸ h4⟩
end
end Mine
end

section
open PySem PySem.W PyProof.Rows PySem.Calls PySem.Spec PyProof.V PyProof.Rows.LCg
set_option Elab.async false
set_option linter.unusedVariables false
set_option maxRecDepth 100000
namespace Mine
/-- which of the rows i and j comes first -/
def ltP (ps : List (Int × Int)) (i j : Nat) : Bool := pairLt (ps.getD i (0, 0)).2 (ps.getD i (0, 0)).1 (ps.getD j (0, 0)).2 (ps.getD j (0, 0)).1
def sortI (ps : List (Int × Int)) : List Nat := (sval (ltP ps) (kas_sort ps.length)).toList
def sortP (ps : List (Int × Int)) : List (Int × Int) := (sortI ps).map fun i => ps.getD i (0, 0)
theorem pairLt_true {wa la wb lb : Int} (h : pairLt wa la wb lb = true) : wa < wb ∨ wa = wb ∧ la < lb := by
  unfold pairLt at h
  split at h
  · exact .inr ⟨by assumption, by simpa using h⟩
  · exact .inl (by simpa using h)
theorem pairLt_of {wa la wb lb : Int} (h : wa < wb ∨ wa = wb ∧ la < lb) : pairLt wa la wb lb = true := by
  unfold pairLt
  rcases h with h | ⟨h, h'⟩
  · rw [if_neg (by omega)]; simpa using h
  · rw [if_pos h]; simpa using h'
theorem pairLt_false {wa la wb lb : Int} (h : pairLt wa la wb lb = false) : wb < wa ∨ wa = wb ∧ lb ≤ la := by
  unfold pairLt at h
  split at h
  · exact .inr ⟨by assumption, by simpa using h⟩
  · have : ¬ wa < wb := by simpa using h
    exact .inl (by omega)
theorem ltP_ord {ps : List (Int × Int)} (hnd : (ps.map (·.1)).Nodup) : Ord (ltP ps) ps.length where
  tr := fun i j k _ _ _ h1 h2 => by
    have a := pairLt_true h1
    have b := pairLt_true h2
    exact pairLt_of (by omega)
  tot := fun i j hi hj hij h => by
    have a := pairLt_false h
    have hne : (ps.getD i (0, 0)).1 ≠ (ps.getD j (0, 0)).1 := by
      have e1 : ps.getD i (0, 0) = ps[i] := by simp [hi]
      have e2 : ps.getD j (0, 0) = ps[j] := by simp [hj]
      rw [e1, e2]
      have pw := List.pairwise_iff_getElem.mp hnd
      rcases Nat.lt_or_gt_of_ne hij with z | z
      · have := pw i j (by simpa using hi) (by simpa using hj) z
        simpa using this
      · have := pw j i (by simpa using hj) (by simpa using hi) z
        simpa using Ne.symm this
    exact pairLt_of (by omega)
theorem map_getD_range {α : Type} (l : List α) (d : α) : (List.range l.length).map (fun i => l.getD i d) = l := by
  apply List.ext_getElem
  · simp
  · intro i h1 h2
    simp at h1
    simp [h1]
theorem sortI_ok {ps : List (Int × Int)} (hnd : (ps.map (·.1)).Nodup) (h2 : 2 ≤ ps.length) : (sortI ps).Perm (List.range ps.length) ∧ asc (ltP ps) (sval (ltP ps) (kas_sort ps.length)) ps.length :=
  sok_val _ (sort_ok (ltP_ord hnd) h2)
theorem sortP_perm {ps : List (Int × Int)} (hnd : (ps.map (·.1)).Nodup) (h2 : 2 ≤ ps.length) : (sortP ps).Perm ps := by
  have := ((sortI_ok hnd h2).1.map (fun i => ps.getD i (0, 0)))
  rw [map_getD_range] at this
  exact this
theorem sortP_sorted {ps : List (Int × Int)} (hnd : (ps.map (·.1)).Nodup) (h2 : 2 ≤ ps.length) : (sortP ps).Pairwise (fun a b => a.2 ≤ b.2) := by
  obtain ⟨h, ha⟩ := sortI_ok hnd h2
  have hs : (sval (ltP ps) (kas_sort ps.length)).size = ps.length := by have := h.length_eq; simpa [sortI] using this
  unfold sortP
  rw [List.pairwise_map, List.pairwise_iff_getElem]
  intro i j hi hj hij
  have hj' : j < ps.length := by rw [← hs]; simpa [sortI] using hj
  have := pairLt_true (asc_lt (ltP_ord hnd) h (Nat.le_refl _) ha hij hj')
  have e1 : gt (sval (ltP ps) (kas_sort ps.length)) i = (sortI ps)[i] := by simp [gt, sortI, Array.getD, hs, Nat.lt_trans hij hj']
  have e2 : gt (sval (ltP ps) (kas_sort ps.length)) j = (sortI ps)[j] := by simp [gt, sortI, Array.getD, hs, hj']
  rw [e1, e2] at this
  omega
section
variable {prog : Program} {w : World} {A : Around} {E : Value → Shared → Prop} {s : Shared} {h₀ : Heap} {L : Addr} {m : Str → Option Value} {news : List (Addr × Obj)}
theorem r_sort {D : Addr} {rs : List RE} {c : Nat} {Q : Value → Shared → Prop} (F : Fr h₀ L s.heap m) (N : News h₀ L s.heap news) (hm : (D, listOf (rrefs rs).toArray c) ∈ news) (hrows : ∀ r ∈ rs, (r.a, rowO r) ∈ news ∧ r.a ≠ D)
    (h2 : 2 ≤ rs.length) (h64 : rs.length < 64) (hu : A.in1.units < cLine) (hnd : ((rvals rs).map (·.1)).Nodup)
    (h : ∀ h' c' rs', Fr h₀ L h' m → News h₀ L h' (upd D (listOf (rrefs rs').toArray c') news) → rs'.Perm rs → rvals rs' = sortP (rvals rs) → Q .none { s with heap := h' }) :
    wpAny (model prog w) A (call (.builtin "list.sort") [.ref D]) Q E s := by
  have hl : (rrefs rs).length = rs.length := by simp [rrefs]
  have hl2 : (rvals rs).length = rs.length := by simp [rvals]
  refine kas_lsort (T := .type "list") (vs := rrefs rs) F (news_front N hm) updF_front (by rw [List.toList_toArray]) (by omega) (by omega) (fun e1 h F' N' v hv => ?_) rfl fun e1 h' F' N' => ?_
  · obtain ⟨r, hr, rfl⟩ := List.mem_map.mp hv
    obtain ⟨hr1, hr2⟩ := hrows r hr
    intro A Q E s hk hq
    exact wpAny_typeOf (T := "list") ⟨_, hk _ _ (N' _ (mem_upd hr1 hr2)).1, rfl⟩ hq
  · rw [hl, ← hl2]
    refine sok_wp (lt := ltP (rvals rs)) (fun i j hi hj C hC => ?_) _ (sort_ok (ltP_ord hnd) (by omega)) ?_
    · rw [hl2] at hi hj
      have key : ∀ k (hk : k < rs.length), (rrefs rs).getD k Value.none = .ref rs[k].a ∧ (rvals rs).getD k (0, 0) = (rs[k].lab, rs[k].w) := fun k hk => by
        constructor
        · simp [rrefs, hk]
        · simp [rvals, hk]
      have ri := hrows rs[i] (List.getElem_mem hi)
      have rj := hrows rs[j] (List.getElem_mem hj)
      unfold kas_ask
      rw [(key i hi).1, (key j hj).1]
      refine row_lt hu (N' _ (mem_upd ri.1 ri.2)).1 (N' _ (mem_upd rj.1 rj.2)).1 ?_
      have e : ltP (rvals rs) i j = pairLt rs[i].w rs[i].lab rs[j].w rs[j].lab := by unfold ltP; rw [(key i hi).2, (key j hj).2]
      rw [← e]; exact hC
    · have pm := (sortI_ok hnd (by omega : 2 ≤ (rvals rs).length)).1
      have lt' : ∀ i ∈ sortI (rvals rs), i < rs.length := fun i hi => by
        have := pm.mem_iff.mp hi
        simpa [hl2] using this
      have e1 : (sortI (rvals rs)).map (fun i => (rrefs rs).getD i Value.none) = rrefs ((sortI (rvals rs)).map fun i => rs.getD i ⟨0, 0, 0, 0, 0⟩) := by
        unfold rrefs
        rw [List.map_map]
        refine List.map_congr_left fun i hi => ?_
        have := lt' i hi
        simp [this]
      have e2 : rvals ((sortI (rvals rs)).map fun i => rs.getD i ⟨0, 0, 0, 0, 0⟩) = sortP (rvals rs) := by
        unfold sortP
        show List.map _ (List.map _ _) = _
        rw [List.map_map]
        refine List.map_congr_left fun i hi => ?_
        have := lt' i hi
        simp [rvals, this]
      refine KasFin.intro F' N' updF_front fun h'' c'' F'' N'' => ?_
      rw [show (sval (ltP (rvals rs)) (kas_sort (rvals rs).length)).toList = sortI (rvals rs) from rfl, e1] at N''
      refine h h'' c'' _ F'' N'' ?_ e2
      have := pm.map (fun i => rs.getD i (⟨0, 0, 0, 0, 0⟩ : RE))
      rw [hl2, map_getD_range] at this
      exact this
end
end Mine
end

section
open PySem PySem.W PyProof.Rows PySem.Calls PySem.Spec PyProof.V PyProof.Rows.LCg
set_option Elab.async false
set_option linter.unusedVariables false
set_option maxRecDepth 100000
namespace Mine
/-- the weights handed: a list, or a dict under names; ps: the pairs (name, weight) -/
inductive WIn (w : World) (a : Addr) (news : List (Addr × Obj)) : List (Int × Int) → Prop
  | list {vs : List Value} {c : Nat} {ws : List Int} : (a, listOf vs.toArray c) ∈ news → IntsAre vs ws → WIn w a news (ws.zipIdx.map (fun p => ((p.2 : Int), p.1)))
  | dict {od : Obj} {kvs : List (Int × Value)} {ks ws : List Int} : (a, od) ∈ news → od.IsDictOf (intKind Challenge.rw_aq6051_01.row.prog w) kvs → (a == sysModules) = false → kvs.map (·.1) = ks → IntsAre (kvs.map (·.2)) ws → ks.length = ws.length → WIn w a news (ks.zip ws)
def RowsJ (h₀ : Heap) (L : Addr) (m : Str → Option Value) (news : List (Addr × Obj)) (y : Str) (ps : List (Int × Int)) (s s' : Shared) : Prop :=
  ∃ h' tk D rs, s' = { s with heap := h', toks := tk } ∧ Fr h₀ L h' (fun z => if z = y then some (.ref D) else m z) ∧ News h₀ L h' ((D, lst (rrefs rs)) :: (rows rs ++ news)) ∧ rvals rs = ps ∧ (∀ p ∈ news, p.1 < D) ∧ (∀ r ∈ rs, D < r.a)
theorem rows_join {M : Model} {A : Around} {E : Value → Shared → Prop} {s : Shared} {h₀ : Heap} {L : Addr} {m : Str → Option Value} {news : List (Addr × Obj)} {t : Sem Flow} {Q : Flow → Shared → Prop} (y : Str) (ps : List (Int × Int))
    (F : Fr h₀ L s.heap m) (N : News h₀ L s.heap news) (h1 : wpAny M A t (fun f s' => f = Flow.next ∧ RowsJ h₀ L m news y ps s s') E s)
    (h2 : ∀ h' tk D rs, Fr h₀ L h' (fun z => if z = y then some (.ref D) else m z) → News h₀ L h' ((D, lst (rrefs rs)) :: (rows rs ++ news)) → rvals rs = ps → (∀ p ∈ news, p.1 < D) → (∀ r ∈ rs, D < r.a) → Q .next { s with heap := h', toks := tk }) :
    wpAny M A t Q E s := by
  refine wpAny_mono h1 (fun f s' hj => ?_) fun _ _ e => e
  obtain ⟨rfl, h', tk, D, rs, rfl, F', N', e, l1, l2⟩ := hj
  exact h2 h' tk D rs F' N' e l1 l2
end Mine
end

section
open PySem PySem.W PyProof.Rows PySem.Calls PySem.Spec PyProof.V PyProof.Rows.LCg
set_option Elab.async false
set_option linter.unusedVariables false
set_option maxRecDepth 100000
namespace Mine
/-- what the loop of weights_to_creation_sequence appends: rows (label, weight), in order of the appends -/
def pops (th : Int) : Nat → List (Int × Int) → List (Int × Bool)
  | 0, _ => []
  | n + 1, [] => []
  | n + 1, [x] => [(x.1, true)]
  | n + 1, x :: y :: r => if x.2 < th - ((x :: y :: r).getLast (by simp)).2 then (x.1, false) :: pops th n (y :: r) else (((x :: y :: r).getLast (by simp)).1, true) :: pops th n ((x :: y :: r).dropLast)
def evals (es : List TE) : List (Int × Bool) := es.map fun e => (e.lab, e.d)
structure WTG (W C : Addr) (news nw : List (Addr × Obj)) (rem : List RE) (cw : Nat) (es : List TE) (cc : Nat) : Prop where
  hW : (W, listOf (rrefs rem).toArray cw) ∈ nw
  hC : (C, listOf (refs es).toArray cc) ∈ nw
  rows : ∀ r ∈ rem, (r.a, rowO r) ∈ nw ∧ r.a ≠ W ∧ r.a ≠ C
  tups : ∀ e ∈ es, (e.t, tupO e) ∈ nw ∧ e.t ≠ W ∧ e.t ≠ C
  keep : ∀ a o, (a, o) ∈ news → (a, o) ∈ nw ∧ a ≠ W ∧ a ≠ C
  wc : W ≠ C
theorem WTG.popW {W C : Addr} {news nw : List (Addr × Obj)} {rem rem' : List RE} {cw c' : Nat} {es : List TE} {cc : Nat} (G : WTG W C news nw rem cw es cc) (sub : ∀ r ∈ rem', r ∈ rem) : WTG W C news (upd W (listOf (rrefs rem').toArray c') nw) rem' c' es cc where
  hW := mem_upd_self
  hC := mem_upd G.hC G.wc.symm
  rows := fun r hr => let ⟨a, b, c⟩ := G.rows r (sub r hr); ⟨mem_upd a b, b, c⟩
  tups := fun e he => let ⟨a, b, c⟩ := G.tups e he; ⟨mem_upd a b, b, c⟩
  keep := fun x o hx => let ⟨a, b, c⟩ := G.keep x o hx; ⟨mem_upd a b, b, c⟩
  wc := G.wc
theorem WTG.push {W C : Addr} {news nw : List (Addr × Obj)} {rem : List RE} {cw c' : Nat} {es : List TE} {cc : Nat} {e : TE} (G : WTG W C news nw rem cw es cc) (fr : ∀ q ∈ nw, q.1 < e.t) : WTG W C news (upd C (listOf (refs es ++ [Value.ref e.t]).toArray c') ((e.t, tupO e) :: nw)) rem cw (es ++ [e]) c' where
  hW := mem_upd (List.mem_cons_of_mem _ G.hW) G.wc
  hC := by
    have : refs (es ++ [e]) = refs es ++ [Value.ref e.t] := by simp [refs]
    rw [this]; exact mem_upd_self
  rows := fun r hr => let ⟨a, b, c⟩ := G.rows r hr; ⟨mem_upd (List.mem_cons_of_mem _ a) c, b, c⟩
  tups := fun x hx => by
    rcases List.mem_append.mp hx with hx | hx
    · obtain ⟨a, b, c⟩ := G.tups x hx
      exact ⟨mem_upd (List.mem_cons_of_mem _ a) c, b, c⟩
    · obtain rfl := List.mem_singleton.mp hx
      have c := Nat.ne_of_gt (fr _ G.hC)
      exact ⟨mem_upd List.mem_cons_self c, Nat.ne_of_gt (fr _ G.hW), c⟩
  keep := fun x o hx => let ⟨a, b, c⟩ := G.keep x o hx; ⟨mem_upd (List.mem_cons_of_mem _ a) c, b, c⟩
  wc := G.wc
def CO (th : Int) (rem : List RE) (co : Int) : Prop := ∀ p r, rem = p ++ [r] → co = th - r.w
section
variable {prog : Program} {w : World} {A : Around} {E : Value → Shared → Prop} {s : Shared} {env : Env} {h₀ : Heap} {L : Addr} {Q : Flow → Shared → Prop}
def WtEnd (h₀ : Heap) (L : Addr) (stored : List Str) (xc : Str) (m₀ : Str → Option Value) (W C : Addr) (news : List (Addr × Obj)) (th : Int) (tot : List (Int × Bool)) (s : Shared) (Q : Flow → Shared → Prop) (n : Nat) (f : Flow) (s₂ : Shared) : Prop :=
  match f with
  | .ret v => Q (.ret v) s₂
  | .brk => Q .next s₂
  | _ => ∃ h' tk m' nw' rem cw es cc co tco, s₂ = { s with heap := h', toks := tk } ∧ Fr h₀ L h' m' ∧ News h₀ L h' nw' ∧ rem.length < n ∧ rem.length ≠ 1 ∧ WTG W C news nw' rem cw es cc ∧ CO th rem co ∧ evals es ++ pops th rem.length (rvals rem) = tot ∧ m' xc = some (.int co tco) ∧ ∀ z, z ≠ xc → stored.contains z = false → m' z = m₀ z
theorem WtEnd.intro {stored : List Str} {xc : Str} {m₀ : Str → Option Value} {W C : Addr} {news : List (Addr × Obj)} {th : Int} {tot : List (Int × Bool)} {n : Nat} {h' : Heap} {tk : Nat} {m' : Str → Option Value} {nw' : List (Addr × Obj)} {rem : List RE} {cw : Nat} {es : List TE} {cc : Nat} {co : Int} {tco : Tok}
    (F : Fr h₀ L h' m') (N : News h₀ L h' nw') (G : WTG W C news nw' rem cw es cc) (hn : rem.length < n) (h1 : rem.length ≠ 1) (hc : CO th rem co) (ht : evals es ++ pops th rem.length (rvals rem) = tot) (hm : m' xc = some (.int co tco)) (hs : ∀ z, z ≠ xc → stored.contains z = false → m' z = m₀ z) :
    WtEnd h₀ L stored xc m₀ W C news th tot s Q n .next { s with heap := h', toks := tk } := ⟨h', tk, m', nw', rem, cw, es, cc, co, tco, rfl, F, N, hn, h1, G, hc, ht, hm, hs⟩
theorem wt_loop {test : Expr} {body : List Stmt} {pos : Pos} {m₀ : Str → Option Value} {news nw₀ : List (Addr × Obj)} {W C : Addr} {rem₀ : List RE} {cw₀ cc₀ : Nat} {th co₀ : Int} {tco₀ : Tok} (stored : List Str) (xc : Str)
    (_hmk : NewsIs news) (F : Fr h₀ L s.heap (fun z => if z = xc then some (.int co₀ tco₀) else m₀ z)) (N : News h₀ L s.heap nw₀) (G : WTG W C news nw₀ rem₀ cw₀ [] cc₀) (h9 : rem₀.length ≤ 9) (h1 : rem₀.length ≠ 1) (hc : CO th rem₀ co₀)
    (turn : Hold (∀ r0 mid rl cw es cc tco (u : Str → Option Value) nw h tk, WTG W C news nw (r0 :: (mid ++ [rl])) cw es cc → mid.length ≤ 7 → es.length ≤ 9 →
      (∀ h' tk' m' nw' rem' cw' es' cc' co' tco', Fr h₀ L h' m' → News h₀ L h' nw' → WTG W C news nw' rem' cw' es' cc' → rem'.length < mid.length + 2 → rem'.length ≠ 1 → CO th rem' co' → evals es' ++ pops th rem'.length (rvals rem') = evals es ++ pops th (mid.length + 2) (rvals (r0 :: (mid ++ [rl]))) → m' xc = some (.int co' tco') → (∀ z, z ≠ xc → stored.contains z = false → m' z = m₀ z) →
        WtEnd h₀ L stored xc m₀ W C news th (pops th rem₀.length (rvals rem₀)) s Q (mid.length + 2) .next { s with heap := h', toks := tk' }) →
      Fr h₀ L h (fun z => if z = xc then some (.int (th - rl.w) tco) else if stored.contains z then u z else m₀ z) → News h₀ L h nw →
      wpAny (model prog w) A (isTrue test env (eval test env)) (fun b s₂ => if b = true then wpAny (model prog w) A (execs body env) (WtEnd h₀ L stored xc m₀ W C news th (pops th rem₀.length (rvals rem₀)) s Q (mid.length + 2)) E s₂ else Q .next s₂) E { s with heap := h, toks := tk }))
    (stop : Hold (∀ cw es cc (u : Str → Option Value) nw h tk, WTG W C news nw [] cw es cc → es.length ≤ 9 → evals es = pops th rem₀.length (rvals rem₀) →
      Fr h₀ L h (fun z => if z = xc then u z else if stored.contains z then u z else m₀ z) → News h₀ L h nw →
      wpAny (model prog w) A (isTrue test env (eval test env)) (fun b s₂ => if b = true then wpAny (model prog w) A (execs body env) (WtEnd h₀ L stored xc m₀ W C news th (pops th rem₀.length (rvals rem₀)) s Q 0) E s₂ else Q .next s₂) E { s with heap := h, toks := tk }))
    (hE : PassesOwn (model prog w) A env E := by passes_own) :
    wpAny (model prog w) A (exec (.While test body [] pos) env) Q E s := by
  have plen : ∀ (n : Nat) (l : List (Int × Int)), (pops th n l).length ≤ n := by
    intro n
    induction n with
    | zero => intro l; exact Nat.le_refl _
    | succ n ih =>
      intro l
      match l with
      | [] => exact Nat.zero_le _
      | [x] => exact Nat.succ_le_succ (Nat.zero_le _)
      | x :: y :: r =>
        rw [pops]
        split
        · exact Nat.succ_le_succ (ih _)
        · exact Nat.succ_le_succ (ih _)
  have canon : ∀ {h : Heap} {m₁ : Str → Option Value}, Fr h₀ L h m₁ → (∀ z, z ≠ xc → stored.contains z = false → m₁ z = m₀ z) → Fr h₀ L h (fun z => if z = xc then m₁ z else if stored.contains z then m₁ z else m₀ z) := fun {h m₁} F hs => by
    have e : (fun z => if z = xc then m₁ z else if stored.contains z = true then m₁ z else m₀ z) = m₁ := by
      funext z
      by_cases c : z = xc
      · rw [if_pos c]
      · rw [if_neg c]
        cases hc : stored.contains z with
        | true => simp
        | false => simp only [Bool.false_eq_true, if_false]; exact (hs z c hc).symm
    rw [e]; exact F
  have conv : ∀ (k n : Nat) (f : Flow) (s₃ : Shared), n ≤ k → k ≤ 9 → WtEnd h₀ L stored xc m₀ W C news th (pops th rem₀.length (rvals rem₀)) s Q n f s₃ → WhileStep2 h₀ L s (fun n m nw => ∃ rem cw es cc co tco, rem.length = n ∧ rem.length ≤ 9 ∧ rem.length ≠ 1 ∧ WTG W C news nw rem cw es cc ∧ CO th rem co ∧ evals es ++ pops th rem.length (rvals rem) = pops th rem₀.length (rvals rem₀) ∧ m xc = some (.int co tco) ∧ ∀ z, z ≠ xc → stored.contains z = false → m z = m₀ z) Q k f s₃ := by
    intro k n f s₃ hn hk q
    cases f with
    | ret v => exact q
    | brk => exact q
    | next =>
      obtain ⟨h', tk', m', nw', rem', cw', es', cc', co', tco', rfl, F', N', hn', h1', G2, hc', ht', hm', hs'⟩ := q
      exact ⟨h', tk', m', nw', rem'.length, rfl, F', N', by omega, rem', cw', es', cc', co', tco', rfl, by omega, h1', G2, hc', ht', hm', hs'⟩
    | cont =>
      obtain ⟨h', tk', m', nw', rem', cw', es', cc', co', tco', rfl, F', N', hn', h1', G2, hc', ht', hm', hs'⟩ := q
      exact ⟨h', tk', m', nw', rem'.length, rfl, F', N', by omega, rem', cw', es', cc', co', tco', rfl, by omega, h1', G2, hc', ht', hm', hs'⟩
  refine While_inv2 (fun n m nw => ∃ rem cw es cc co tco, rem.length = n ∧ rem.length ≤ 9 ∧ rem.length ≠ 1 ∧ WTG W C news nw rem cw es cc ∧ CO th rem co ∧ evals es ++ pops th rem.length (rvals rem) = pops th rem₀.length (rvals rem₀) ∧ m xc = some (.int co tco) ∧ ∀ z, z ≠ xc → stored.contains z = false → m z = m₀ z)
    F N ⟨rem₀, cw₀, [], cc₀, co₀, tco₀, rfl, h9, h1, G, hc, rfl, by simp, fun z hz _ => by simp [hz]⟩ ?_ hE
  rintro n m₁ nw h tk F₁ N₁ ⟨rem, cw, es, cc, co, tco, rfl, hr9, hr1, G', hco, htot, hmc, hms⟩
  have hes : es.length ≤ 9 := by
    have h1 := congrArg List.length htot
    have h2 := plen rem₀.length (rvals rem₀)
    simp only [evals, List.length_append, List.length_map] at h1
    omega
  have fin : ∀ (n : Nat) (b : Bool) (s₂ : Shared), n ≤ rem.length → (if b = true then wpAny (model prog w) A (execs body env) (WtEnd h₀ L stored xc m₀ W C news th (pops th rem₀.length (rvals rem₀)) s Q n) E s₂ else Q .next s₂) →
      (if b = true then wpAny (model prog w) A (execs body env) (WhileStep2 h₀ L s (fun n m nw => ∃ rem cw es cc co tco, rem.length = n ∧ rem.length ≤ 9 ∧ rem.length ≠ 1 ∧ WTG W C news nw rem cw es cc ∧ CO th rem co ∧ evals es ++ pops th rem.length (rvals rem) = pops th rem₀.length (rvals rem₀) ∧ m xc = some (.int co tco) ∧ ∀ z, z ≠ xc → stored.contains z = false → m z = m₀ z) Q rem.length) E s₂ else Q .next s₂) := fun n b s₂ hn p => by
    cases b with
    | false => simpa using p
    | true =>
      simp only [if_true] at p ⊢
      exact wpAny_mono p (fun f s₃ q => conv _ _ _ _ hn hr9 q) fun _ _ x => x
  match rem, hr9, hr1, G', hco, htot, fin with
  | [], _, _, G', hco, htot, fin =>
    have e0 : evals es = pops th rem₀.length (rvals rem₀) := by rw [← htot]; simp [pops]
    exact wpAny_mono (stop.out cw es cc m₁ nw h tk G' hes e0 (canon F₁ hms) N₁) (fun b s₂ p => fin 0 b s₂ (Nat.le_refl _) p) fun _ _ x => x
  | [x], _, hr1, _, _, _, _ => exact absurd rfl hr1
  | r0 :: y :: r, hr9, _, G', hco, htot, fin =>
    obtain ⟨mid, rl, e⟩ : ∃ mid rl, y :: r = mid ++ [rl] := ⟨(y :: r).dropLast, (y :: r).getLast (by simp), (List.dropLast_concat_getLast (by simp)).symm⟩
    have hl : (r0 :: y :: r).length = mid.length + 2 := by rw [e]; simp
    have hco' := hco (r0 :: mid) rl (by rw [e]; rfl)
    have hle : mid.length ≤ 7 := by rw [hl] at hr9; omega
    rw [hl, e] at htot
    have F₂ := canon F₁ hms
    have F₃ : Fr h₀ L h (fun z => if z = xc then some (.int (th - rl.w) tco) else if stored.contains z then m₁ z else m₀ z) := by
      have e2 : (fun z => if z = xc then some (.int (th - rl.w) tco) else if stored.contains z = true then m₁ z else m₀ z) = fun z => if z = xc then m₁ z else if stored.contains z = true then m₁ z else m₀ z := by
        funext z
        by_cases c : z = xc
        · rw [if_pos c, if_pos c, c, hmc, hco']
        · rw [if_neg c, if_neg c]
      rw [e2]; exact F₂
    refine wpAny_mono (turn.out r0 mid rl cw es cc tco m₁ nw h tk (e ▸ G') hle hes (fun h' tk' m' nw' rem' cw' es' cc' co' tco' F' N' G2 hn h1 hc ht hm hs => ?_) F₃ N₁) (fun b s₂ p => fin _ b s₂ (Nat.le_of_eq hl.symm) p) fun _ _ x => x
    exact WtEnd.intro F' N' G2 hn h1 hc (ht.trans htot) hm hs
end
end Mine
end

section
open PySem PySem.W PyProof.Rows PySem.Calls PySem.Spec PyProof.V PyProof.Rows.LCg
set_option Elab.async false
set_option linter.unusedVariables false
set_option maxRecDepth 100000
namespace Mine
section
variable {prog : Program} {w : World} {A : Around} {E : Value → Shared → Prop} {s : Shared} {h₀ : Heap} {L : Addr} {m : Str → Option Value} {env : Env} {news : List (Addr × Obj)}
theorem vals_src {elt target : PySem.Expr} {scope : Scope} {cl : List (Str × Addr)} {mf : Addr → Str → Option Value} {QF : Addr → Shared → Prop} {l : Addr} {c : Nat} {es : List TE} {g : TE → Value} {Nm : TE → (Str → Option Value) → Prop}
    (hh : A.handled = none) (F : Fr h₀ L s.heap m) (N : News h₀ L s.heap news) (hm : (l, listOf (refs es).toArray c) ∈ news) (hz : es.length ≤ 1000) (ht : ∀ e ∈ es, (e.t, tupO e) ∈ news)
    (hgo : ∀ I i v (s : Shared) (Q : Unit → Shared → Prop) (E : Value → Shared → Prop), s.heap.IsListIter I l i → Q () s → wpAny (model prog w) A (letOwnedTupleGo target (.ref I) v) Q E s)
    (hasg : ∀ e C (s : Shared) m (Q : Unit → Shared → Prop) (E' : Value → Shared → Prop), e ∈ es → s.heap.get? e.t = some (tupO e) → s.heap.Ns C m →
      (∀ h' tk m', Nm e m' → h'.Ns C m' → (∀ c o, c ≠ C → s.heap.get? c = some o → h'.get? c = some o) → Q () { s with heap := h', toks := tk }) → wpAny (model prog w) A (assign target (compEnvC scope cl C env) (.ref e.t)) Q E' s)
    (helt : ∀ e C (s : Shared) m' (Q : Value → Shared → Prop) (E' : Value → Shared → Prop), e ∈ es → Nm e m' → s.heap.Ns C m' → News h₀ L s.heap news → (∀ tk, Q (g e) { s with toks := tk }) → wpAny (model prog w) A (eval elt (compEnvC scope cl C env)) Q E' s)
    (fin : ∀ D h tk, Fr h₀ L h (mf D) → News h₀ L h ((D, lst (es.map g)) :: news) → (∀ p ∈ news, p.1 < D) → QF D { s with heap := h, toks := tk }) :
    wpAny (model prog w) A (pyIter (.ref l)) (CgSrc prog w A h₀ L m env elt target scope cl mf QF) E s := by
  have hax := N _ hm
  have hl : s.heap.IsList l (refs es).toArray := ⟨_, hax.1, rfl, c, rfl⟩
  have hlt : l < s.heap.objs.size := Heap.lt_size hax.1
  have hn : (refs es).toArray.size = es.length := by simp [refs]
  refine wpAny_pyIter_list hl ?_
  have up : ∀ b o, s.heap.get? b = some o → (s.heap.push { cls := .type "list_iterator", data := .fields #[.ref l, .int 0 0] }).get? b = some o := fun b o e => Heap.get?_push_of_some _ e
  have W0 := Walks.list (prog := prog) (w := w) hh s.heap.objs.size l (Nat.ne_of_lt hlt) (refs es).toArray
  have fresh : ∀ a, s.heap.objs.size ≤ a → h₀.get? a = none := fun a ha => by
    cases e : h₀.get? a with
    | none => rfl
    | some o => exact absurd (Heap.lt_size (F.keep a o e)) (Nat.not_lt.mpr ha)
  have tne : ∀ e ∈ es, e.t ≠ s.heap.objs.size := fun e he => Nat.ne_of_lt (Heap.lt_size (N _ (ht e he)).1)
  refine ⟨s.heap.objs.size, s.heap.objs.size :: l :: es.map (·.t), [s.heap.objs.size], (refs es).toArray.size, fun i v h => (refs es).toArray[i]? = some v ∧ ∀ e ∈ es, h.get? e.t = some (tupO e),
    fun i v h => (refs es).toArray[i]? = some v ∧ (h.IsListIter s.heap.objs.size l (i + 1) ∧ h.IsList l (refs es).toArray) ∧ ∀ e ∈ es, h.get? e.t = some (tupO e),
    fun i h => (h.IsListIter s.heap.objs.size l i ∧ h.IsList l (refs es).toArray) ∧ ∀ e ∈ es, h.get? e.t = some (tupO e), fun i m' => ∃ e, es[i]? = some e ∧ Nm e m', fun i y objs => ∃ e, es[i]? = some e ∧ y = g e ∧ objs = [], news, rfl, ?_, ?_, ?_, ?_, ?_, ?_, F.keeps up, N.grown up, ?_, ?_, ?_⟩
  · exact {
      sub := fun b hb => by rw [List.mem_singleton.mp hb]; exact List.mem_cons_self
      frame := fun i h h' st hk => ⟨W0.frame i h h' st.1 fun b hb o e => hk b (by simp at hb ⊢; rcases hb with h | h <;> simp [h]) o e, fun e he => hk _ (by simp; exact .inr (.inr ⟨e, he, rfl⟩)) _ (st.2 e he)⟩
      item := fun i s' Q E hi st hQ => W0.item i s' Q E hi st.1 fun v h' tk hP st' hk => hQ v h' tk ⟨hP, st', fun e he => hk _ _ (by simpa using tne e he) (st.2 e he)⟩ hk
      go := fun i v s' Q E hm' hQ => hgo _ (i + 1) v s' Q E hm'.2.1.1 (hQ s'.heap ⟨hm'.1, hm'.2.2⟩ ⟨hm'.2.1, hm'.2.2⟩ fun _ _ _ e => e)
      done := fun s' Q E st hQ => W0.done s' Q E st.1 hQ }
  · exact fun s' Q E st h => W0.self 0 s' Q E st.1 h
  · rw [hn]; exact Nat.le_trans hz (by rw [sizeLine_eq]; omega)
  · exact ⟨⟨⟨_, Heap.get?_push_size _ rfl, rfl, rfl⟩, hl.push _⟩, fun e he => up _ _ (N _ (ht e he)).1⟩
  · intro b hb
    show b < (s.heap.push _).objs.size
    rw [Heap.size_push]
    rcases List.mem_cons.mp hb with rfl | hb
    · exact Nat.lt_succ_self _
    · rcases List.mem_cons.mp hb with rfl | hb
      · exact Nat.lt_succ_of_lt hlt
      · obtain ⟨e, he, rfl⟩ := List.mem_map.mp hb
        exact Nat.lt_succ_of_lt (Heap.lt_size (N _ (ht e he)).1)
  · intro b hb
    obtain rfl := List.mem_singleton.mp hb
    exact ⟨Nat.ne_of_gt F.ns.lt, fresh _ (Nat.le_refl _), fun p hp => Nat.ne_of_lt (Heap.lt_size (N p hp).1)⟩
  · rintro i v C s' m' Q E' ⟨hv, htp⟩ hns hQ
    have : (refs es)[i]? = some v := by simpa using hv
    rw [refs, List.getElem?_map] at this
    cases he : es[i]? with
    | none => rw [he] at this; cases this
    | some e =>
      rw [he] at this
      cases this
      exact hasg e C s' m' Q E' (List.mem_of_getElem? he) (htp e (List.mem_of_getElem? he)) hns fun h' tk m'' a b c => hQ h' tk m'' ⟨e, he, a⟩ b c
  · rintro i C s' m' Q E' hi ⟨e, he, hnm⟩ hns F' N' hQ
    exact helt e C s' m' Q E' (List.mem_of_getElem? he) hnm hns N' fun tk => hQ (g e) s'.heap tk [] (fun _ _ e => e) (fun _ h => nomatch h) ⟨e, he, rfl, rfl⟩
  · intro D h tk rs F' N' hlen hrel l1 l2
    have e1 : rs.map (·.1) = es.map g := by
      apply List.ext_getElem?
      intro i
      rw [List.getElem?_map, List.getElem?_map]
      cases hr : rs[i]? with
      | none =>
        have : es[i]? = none := by rw [List.getElem?_eq_none_iff] at hr ⊢; rw [hlen, hn] at hr; exact hr
        rw [this]; rfl
      | some r =>
        obtain ⟨e, he, h1, h2⟩ := hrel i r hr
        rw [he]; simp [h1]
    have e2 : rs.flatMap (·.2) = [] := by
      rw [List.flatMap_eq_nil_iff]
      intro r hr
      obtain ⟨i, hi⟩ := List.getElem?_of_mem hr
      obtain ⟨e, he, h1, h2⟩ := hrel i r hi
      exact h2
    rw [e1, e2] at N'
    exact fin D h tk F' N' l1
/-- [v[1] for v in cs] -/
theorem second_src {x : Str} {px pv pc sp : Pos} {kd : Nat} {scope : Scope} {cl : List (Str × Addr)} {mf : Addr → Str → Option Value} {QF : Addr → Shared → Prop} {l : Addr} {c : Nat} {es : List TE}
    (hh : A.handled = none) (F : Fr h₀ L s.heap m) (N : News h₀ L s.heap news) (hm : (l, listOf (refs es).toArray c) ∈ news) (hz : es.length ≤ 1000) (ht : ∀ e ∈ es, (e.t, tupO e) ∈ news)
    (hkind : scope.kind = .function) (hxa : scope.names.lookup x = some .local) (hda : (x == ("__debug__" : Str)) = false)
    (fin : ∀ D h tk, Fr h₀ L h (mf D) → News h₀ L h ((D, lst (es.map fun e => .str (letter e.d) e.td)) :: news) → (∀ p ∈ news, p.1 < D) → QF D { s with heap := h, toks := tk }) :
    wpAny (model prog w) A (pyIter (.ref l)) (CgSrc prog w A h₀ L m env (.Subscript (.Name x pv) (.Constant (.int 1) kd pc) sp) (.Name x px) scope cl mf QF) E s := by
  refine vals_src (Nm := fun e m' => m' x = some (.ref e.t)) hh F N hm hz ht (fun I i v s Q E _ hq => by show wpAny _ _ (pure ()) _ _ _; exact wpAny_pure hq) ?_ ?_ fin
  · intro e C s m Q E' he htp hns hQ
    refine wpAny_assign_Name (wpAny_storeName_local (lookup_relabel_local hxa) hns (fun h' hn' hs' => ?_) (by simp [compEnvC, relabel, hkind]))
    exact hQ h' _ _ (by simp) hn' fun c o hc e => hs'.extBut c o hc e
  · intro e C s m' Q E' he hnm hns N' hQ
    have hk : (compEnvC scope cl C env).scope.kind = .function := by simp [compEnvC, relabel, hkind]
    refine Subscript_ (wpAny_Name (wpAny_loadName_local hk (lookup_relabel_local hxa) hns hnm ?_) hda)
    refine wpAny_Constant_int ?_
    exact r_tup (l := [.int e.lab e.tl, .str (letter e.d) e.td]) (j := 1) (x := .str (letter e.d) e.td) (n := 0) (s := { s with toks := s.toks + 1 }) N' (ht e he) (by decide) (by decide) rfl rfl (hQ _) (by with_unfolding_all rfl)
/-- [a for a, b in told], and [b for a, b in told] -/
theorem pairN_src {a b x : Str} {pa pb tp px : Pos} {kk : Nat} {scope : Scope} {cl : List (Str × Addr)} {mf : Addr → Str → Option Value} {QF : Addr → Shared → Prop} {l : Addr} {c : Nat} {es : List TE} {g : TE → Value}
    (hh : A.handled = none) (F : Fr h₀ L s.heap m) (N : News h₀ L s.heap news) (hm : (l, listOf (refs es).toArray c) ∈ news) (hz : es.length ≤ 1000) (ht : ∀ e ∈ es, (e.t, tupO e) ∈ news)
    (hkind : scope.kind = .function) (hxa : scope.names.lookup a = some .local) (hxb : scope.names.lookup b = some .local) (hab : ¬ a = b) (hdx : (x == ("__debug__" : Str)) = false)
    (hg : x = a ∧ (g = fun e => .int e.lab e.tl) ∨ x = b ∧ (g = fun e => .str (letter e.d) e.td))
    (fin : ∀ D h tk, Fr h₀ L h (mf D) → News h₀ L h ((D, lst (es.map g)) :: news) → (∀ p ∈ news, p.1 < D) → QF D { s with heap := h, toks := tk }) :
    wpAny (model prog w) A (pyIter (.ref l)) (CgSrc prog w A h₀ L m env (.Name x px) (.Tuple [.Name a pa, .Name b pb] kk tp) scope cl mf QF) E s := by
  refine vals_src (Nm := fun e m' => m' a = some (.int e.lab e.tl) ∧ m' b = some (.str (letter e.d) e.td)) hh F N hm hz ht (fun I i v s Q E hit hq => ?_) ?_ ?_ fin
  · cases v with
    | ref T => exact wpAny_letOwnedTupleGo_listiter hit hq
    | _ => exact wpAny_pure hq
  · intro e C s m Q E' he htp hns hQ
    refine kcp_assign (env := compEnvC scope cl C env) hh ⟨_, htp, rfl, _, rfl⟩ (lookup_relabel_local hxa) (lookup_relabel_local hxb) (by simp [compEnvC, relabel, hkind]) hns fun h' tk hn hk => ?_
    exact hQ h' tk _ ⟨by simp [hab], by simp⟩ hn hk
  · intro e C s m' Q E' he hnm hns N' hQ
    have hk : (compEnvC scope cl C env).scope.kind = .function := by simp [compEnvC, relabel, hkind]
    rcases hg with ⟨rfl, rfl⟩ | ⟨rfl, rfl⟩
    · exact wpAny_Name (wpAny_loadName_local hk (lookup_relabel_local hxa) hns hnm.1 (hQ _)) hdx
    · exact wpAny_Name (wpAny_loadName_local hk (lookup_relabel_local hxb) hns hnm.2 (hQ _)) hdx
end
end Mine
end

section
open PySem PySem.W PyProof.Rows PySem.Calls PySem.Spec PyProof.V PyProof.Rows.LCg
set_option Elab.async false
set_option linter.unusedVariables false
set_option maxRecDepth 100000
namespace Mine
section
variable {prog : Program} {w : World} {A : Around} {E : Value → Shared → Prop} {s : Shared} {env : Env} {h₀ : Heap} {x : Str} {body : List Stmt} {Q : Flow → Shared → Prop}
theorem for_rng {r : Addr} {a b : Int} {t u v : Tok} {n : Nat} {m₀ : Str → Option Value} {news : List (Addr × Obj)} (J : Nat → (Str → Option Value) → List (Addr × Obj) → Prop)
    (hh : A.handled = none) (F : Fr h₀ env.locals s.heap m₀) (N : News h₀ env.locals s.heap news) (hr : IsRange s.heap r a b 1 t u v) (hsm : Builtin.Range.small a b 1 = true) (hn : Builtin.Range.rangeSize a b 1 = ((n : Nat) : Int)) (h0 : J 0 m₀ news)
    (turn : ∀ i k m₁ news₁ h tk Ia oI, i < n → J i m₁ news₁ → (∀ p ∈ news₁, p.1 ≠ Ia) → Fr h₀ env.locals h (fun y => if y = x then some (.int (a + (i : Int)) k) else m₁ y) → News h₀ env.locals h ((Ia, oI) :: news₁) →
      wpAny (model prog w) A (execs body env) (TurnP h₀ env.locals Ia oI (J (i + 1)) s Q) E { s with heap := h, toks := tk })
    (done : ∀ m₁ news₁ h tk, J n m₁ news₁ → Fr h₀ env.locals h m₁ → News h₀ env.locals h news₁ → Q .next { s with heap := h, toks := tk }) :
    wpAny (model prog w) A (pyIter (.ref r)) (fun it s₂ => LoopAtV prog w A h₀ env x body Q E it s₂) E s := by
  refine wpAny_pyIter_range hr hsm ?_
  have W := range_walks (prog := prog) (w := w) (I := s.heap.objs.size) hh a n
  have hnew := next_is_new F
  refine ⟨_, _, _, n, _, _, m₀, news, J, rfl, W, ?_, ?_, ?_, (by show IsRangeIter _ _ _ _ _; rw [hn]; simpa using Heap.get?_push_size _ rfl), F.push _, (fun p hp => ⟨Heap.get?_push_of_some _ (N p hp).1, (N p hp).2⟩), h0, ?_, ?_⟩
  · intro hmm
    exact absurd F.ns.lt ((List.mem_singleton.mp hmm) ▸ Nat.lt_irrefl _)
  · intro b hb
    rw [List.mem_singleton.mp hb]
    exact hnew
  · intro p hp hI
    exact absurd (Heap.lt_size (N p hp).1) ((List.mem_singleton.mp hI) ▸ Nat.lt_irrefl _)
  · rintro i v m₁ news₁ s₁ own ⟨hh', tk', rfl⟩ hin hP hJ hoff hown hget hall hst F₁ N₁
    obtain ⟨k, rfl⟩ := hP
    obtain ⟨it, hit⟩ : ∃ it, hh'.get? s.heap.objs.size = some it := ⟨_, hst⟩
    have hmemI := hall s.heap.objs.size (List.mem_cons_self ..) hnew _ hit
    have hoff' : ∀ p ∈ news₁, p.1 ≠ s.heap.objs.size := fun p hp e => hoff p hp (List.mem_singleton.mpr e)
    have N₂ : News h₀ env.locals hh' ((s.heap.objs.size, it) :: news₁) := fun p hp => by
      rcases List.mem_cons.mp hp with rfl | hp
      · exact N₁ _ (List.mem_append_left _ hmemI)
      · exact N₁ _ (List.mem_append_right _ hp)
    refine wpAny_mono (turn i k m₁ news₁ hh' tk' _ it hin hJ hoff' F₁ N₂) (fun f s₂ p => ?_) fun _ _ e => e
    have fin : (∃ h' tk m' news', s₂ = { s with heap := h', toks := tk } ∧ Fr h₀ env.locals h' m' ∧ News h₀ env.locals h' news' ∧ (s.heap.objs.size, it) ∈ news' ∧ J (i + 1) m' (off s.heap.objs.size news')) →
        LoopStepU h₀ env.locals [s.heap.objs.size] own (J (i + 1)) { s with heap := hh', toks := tk' } .next s₂ := by
      rintro ⟨h', tk, m', news', e, F', N', hI, hJ'⟩
      refine ⟨rfl, h', tk, m', off s.heap.objs.size news', e, F', fun p hp => ?_, fun p hp hI => off_ne p hp (List.mem_singleton.mp hI), hJ'⟩
      rcases List.mem_append.mp hp with hp | hp
      · have h1 := List.mem_singleton.mp (hown p hp)
        have h2 : hh'.get? p.1 = some p.2 := hget p hp
        have h3 : p = (s.heap.objs.size, it) := by
          rw [h1, hit] at h2
          exact Prod.ext h1 (Option.some.inj h2).symm
        rw [h3]; exact N' _ hI
      · exact N' _ (off_sub _ hp)
    cases f with
    | ret v => exact .ret p
    | brk => exact .brk p
    | next => exact .next (fin p)
    | cont => exact .cont (fin p)
  · rintro h' tk m' news' F' N' _ hJ
    exact done m' news' h' tk hJ F' N'
/-- a loop over a range: the frame's names other than the loop's and xs are as at the start; J sees the frame -/
def REnd (h₀ : Heap) (L Ia : Addr) (oI : Obj) (x : Str) (stored : List Str) (m₀ : Str → Option Value) (J : (Str → Option Value) → List (Addr × Obj) → Prop) (s : Shared) (Q : Flow → Shared → Prop) (f : Flow) (s₂ : Shared) : Prop :=
  match f with
  | .ret v => Q (.ret v) s₂
  | .brk => Q .next s₂
  | _ => ∃ h' tk m' news', s₂ = { s with heap := h', toks := tk } ∧ Fr h₀ L h' m' ∧ News h₀ L h' news' ∧ (Ia, oI) ∈ news' ∧ J m' (off Ia news') ∧ ∀ z, z ≠ x → stored.contains z = false → m' z = m₀ z
theorem REnd.intro {L Ia : Addr} {oI : Obj} {x : Str} {stored : List Str} {m₀ : Str → Option Value} {J : (Str → Option Value) → List (Addr × Obj) → Prop} {h' : Heap} {tk : Nat} {m' : Str → Option Value} {nw' : List (Addr × Obj)}
    (F : Fr h₀ L h' m') (N : News h₀ L h' nw') (hI : (Ia, oI) ∈ nw') (hJ : J m' (off Ia nw')) (hm : ∀ z, z ≠ x → stored.contains z = false → m' z = m₀ z) : REnd h₀ L Ia oI x stored m₀ J s Q .next { s with heap := h', toks := tk } := ⟨h', tk, m', nw', rfl, F, N, hI, hJ, hm⟩
theorem for_rs {r : Addr} {a b : Int} {t u v : Tok} {n : Nat} {m₀ : Str → Option Value} {news : List (Addr × Obj)} (stored : List Str) (J : Nat → (Str → Option Value) → List (Addr × Obj) → Prop)
    (hh : A.handled = none) (F : Fr h₀ env.locals s.heap m₀) (N : News h₀ env.locals s.heap news) (hr : IsRange s.heap r a b 1 t u v) (hsm : Builtin.Range.small a b 1 = true) (hn : Builtin.Range.rangeSize a b 1 = ((n : Nat) : Int)) (h0 : J 0 m₀ news)
    (turn : ∀ i k (m₁ : Str → Option Value) news₁ h tk Ia oI, i < n → J i m₁ news₁ → (∀ p ∈ news₁, p.1 ≠ Ia) → Fr h₀ env.locals h (fun y => if y = x then some (.int (a + (i : Int)) k) else if stored.contains y then m₁ y else m₀ y) → News h₀ env.locals h ((Ia, oI) :: news₁) →
      wpAny (model prog w) A (execs body env) (REnd h₀ env.locals Ia oI x stored m₀ (J (i + 1)) s Q) E { s with heap := h, toks := tk })
    (done : ∀ (m₁ : Str → Option Value) news₁ h tk, J n m₁ news₁ → Fr h₀ env.locals h (fun y => if y = x then m₁ y else if stored.contains y then m₁ y else m₀ y) → News h₀ env.locals h news₁ → Q .next { s with heap := h, toks := tk }) :
    wpAny (model prog w) A (pyIter (.ref r)) (fun it s₂ => LoopAtV prog w A h₀ env x body Q E it s₂) E s := by
  have canon : ∀ (m₁ : Str → Option Value) (g : Option Value), (∀ z, z ≠ x → stored.contains z = false → m₁ z = m₀ z) → (fun y => if y = x then g else m₁ y) = fun y => if y = x then g else if stored.contains y then m₁ y else m₀ y := by
    intro m₁ g h
    funext y
    by_cases h1 : y = x
    · simp [h1]
    · simp only [if_neg h1]
      cases h2 : stored.contains y with
      | true => simp
      | false => simp only [Bool.false_eq_true, if_false]; exact h y h1 h2
  refine for_rng (fun i m' nw => J i m' nw ∧ ∀ z, z ≠ x → stored.contains z = false → m' z = m₀ z) hh F N hr hsm hn ⟨h0, fun _ _ _ => rfl⟩ ?_ ?_
  · rintro i k m₁ news₁ h tk Ia oI hi ⟨h1, h2⟩ ho F₁ N₁
    rw [canon m₁ _ h2] at F₁
    refine wpAny_mono (turn i k m₁ news₁ h tk Ia oI hi h1 ho F₁ N₁) (fun f s₃ q => ?_) fun _ _ x => x
    cases f with
    | ret v => exact q
    | brk => exact q
    | next =>
      obtain ⟨h', tk', m', nw', rfl, F', N', hI, hj, hm⟩ := q
      exact ⟨h', tk', m', nw', rfl, F', N', hI, hj, hm⟩
    | cont =>
      obtain ⟨h', tk', m', nw', rfl, F', N', hI, hj, hm⟩ := q
      exact ⟨h', tk', m', nw', rfl, F', N', hI, hj, hm⟩
  · rintro m₁ news₁ h tk ⟨h1, h2⟩ F₁ N₁
    refine done m₁ news₁ h tk h1 ?_ N₁
    have e : (fun y => if y = x then m₁ y else if stored.contains y = true then m₁ y else m₀ y) = m₁ := by
      funext y
      by_cases h3 : y = x
      · simp [h3]
      · simp only [if_neg h3]
        cases h4 : stored.contains y with
        | true => simp
        | false => simp only [Bool.false_eq_true, if_false]; exact (h2 y h3 h4).symm
    rw [e]; exact F₁
end
section
variable {prog : Program} {w : World} {A : Around} {E : Value → Shared → Prop} {s : Shared} {env : Env} {h₀ : Heap} {x xc : Str} {body : List Stmt} {Q : Flow → Shared → Prop}
def CEnd (h₀ : Heap) (L Ia : Addr) (oI : Obj) (x xc : Str) (m₀ : Str → Option Value) (J : Int → List (Addr × Obj) → Prop) (s : Shared) (Q : Flow → Shared → Prop) (f : Flow) (s₂ : Shared) : Prop :=
  match f with
  | .ret v => Q (.ret v) s₂
  | .brk => Q .next s₂
  | _ => ∃ h' tk m' news' c tc, s₂ = { s with heap := h', toks := tk } ∧ Fr h₀ L h' m' ∧ News h₀ L h' news' ∧ (Ia, oI) ∈ news' ∧ J c (off Ia news') ∧ m' xc = some (.int c tc) ∧ ∀ z, z ≠ x → z ≠ xc → m' z = m₀ z
theorem CEnd.intro {L Ia : Addr} {oI : Obj} {m₀ : Str → Option Value} {J : Int → List (Addr × Obj) → Prop} {h' : Heap} {tk : Nat} {m' : Str → Option Value} {nw' : List (Addr × Obj)} {c : Int} {tc : Tok}
    (F : Fr h₀ L h' m') (N : News h₀ L h' nw') (hI : (Ia, oI) ∈ nw') (hJ : J c (off Ia nw')) (hc : m' xc = some (.int c tc)) (hm : ∀ z, z ≠ x → z ≠ xc → m' z = m₀ z) : CEnd h₀ L Ia oI x xc m₀ J s Q .next { s with heap := h', toks := tk } := ⟨h', tk, m', nw', c, tc, rfl, F, N, hI, hJ, hc, hm⟩
theorem for_rc {r : Addr} {a b c₀ : Int} {t u v tc₀ : Tok} {n : Nat} {m₀ : Str → Option Value} {news : List (Addr × Obj)} (J : Nat → Int → List (Addr × Obj) → Prop) (hx : xc ≠ x)
    (hh : A.handled = none) (F : Fr h₀ env.locals s.heap (fun y => if y = xc then some (.int c₀ tc₀) else m₀ y)) (N : News h₀ env.locals s.heap news) (hr : IsRange s.heap r a b 1 t u v) (hsm : Builtin.Range.small a b 1 = true) (hn : Builtin.Range.rangeSize a b 1 = ((n : Nat) : Int)) (h0 : J 0 c₀ news)
    (turn : ∀ i k c tc news₁ h tk Ia oI, i < n → J i c news₁ → (∀ p ∈ news₁, p.1 ≠ Ia) → Fr h₀ env.locals h (fun y => if y = x then some (.int (a + (i : Int)) k) else if y = xc then some (.int c tc) else m₀ y) → News h₀ env.locals h ((Ia, oI) :: news₁) →
      wpAny (model prog w) A (execs body env) (CEnd h₀ env.locals Ia oI x xc m₀ (J (i + 1)) s Q) E { s with heap := h, toks := tk })
    (done : ∀ (g : Option Value) c tc news₁ h tk, J n c news₁ → Fr h₀ env.locals h (fun y => if y = x then g else if y = xc then some (.int c tc) else m₀ y) → News h₀ env.locals h news₁ → Q .next { s with heap := h, toks := tk }) :
    wpAny (model prog w) A (pyIter (.ref r)) (fun it s₂ => LoopAtV prog w A h₀ env x body Q E it s₂) E s := by
  have canon : ∀ (m₁ : Str → Option Value) (g : Option Value) (c : Int) (tc : Tok), m₁ xc = some (.int c tc) → (∀ z, z ≠ x → z ≠ xc → m₁ z = m₀ z) → (fun y => if y = x then g else m₁ y) = fun y => if y = x then g else if y = xc then some (.int c tc) else m₀ y := by
    intro m₁ g c tc hc h
    funext y
    by_cases h1 : y = x
    · simp [h1]
    · by_cases h2 : y = xc
      · simp only [if_neg h1, if_pos h2]; rw [h2, hc]
      · simp only [if_neg h1, if_neg h2]; exact h y h1 h2
  refine for_rng (fun i m' nw => ∃ c tc, J i c nw ∧ m' xc = some (.int c tc) ∧ ∀ z, z ≠ x → z ≠ xc → m' z = m₀ z) hh F N hr hsm hn ⟨c₀, tc₀, h0, by simp, fun z _ hz => by simp [hz]⟩ ?_ ?_
  · rintro i k m₁ news₁ h tk Ia oI hi ⟨c, tc, h1, h2, h3⟩ ho F₁ N₁
    rw [canon m₁ _ c tc h2 h3] at F₁
    refine wpAny_mono (turn i k c tc news₁ h tk Ia oI hi h1 ho F₁ N₁) (fun f s₃ q => ?_) fun _ _ x => x
    cases f with
    | ret v => exact q
    | brk => exact q
    | next =>
      obtain ⟨h', tk', m', nw', c', tc', rfl, F', N', hI, hj, hc', hm⟩ := q
      exact ⟨h', tk', m', nw', rfl, F', N', hI, c', tc', hj, hc', hm⟩
    | cont =>
      obtain ⟨h', tk', m', nw', c', tc', rfl, F', N', hI, hj, hc', hm⟩ := q
      exact ⟨h', tk', m', nw', rfl, F', N', hI, c', tc', hj, hc', hm⟩
  · rintro m₁ news₁ h tk ⟨c, tc, h1, h2, h3⟩ F₁ N₁
    refine done (m₁ x) c tc news₁ h tk h1 ?_ N₁
    rw [← canon m₁ (m₁ x) c tc h2 h3]
    have e : (fun y => if y = x then m₁ x else m₁ y) = m₁ := by
      funext y
      by_cases h4 : y = x
      · rw [if_pos h4, h4]
      · rw [if_neg h4]
    rw [e]; exact F₁
end
/-- lengths of the runs among the first k letters -/
def runsK (bs : List Bool) : Nat → List Int
  | 0 => []
  | k + 1 => if 0 < k ∧ bs[k]? = bs[k - 1]? then (runsK bs k).dropLast ++ [(runsK bs k).getLastD 0 + 1] else runsK bs k ++ [1]
theorem runsK_ne (bs : List Bool) (k : Nat) : runsK bs (k + 1) ≠ [] := by
  rw [runsK]; split <;> simp
end Mine
end

section
open PySem PySem.W PyProof.Rows PySem.Calls PySem.Spec PyProof.V PyProof.Rows.LCg
set_option Elab.async false
set_option linter.unusedVariables false
set_option maxRecDepth 100000
namespace Mine
theorem rng_small {a b : Int} (h1 : 0 ≤ a) (h2 : a ≤ 1000) (h3 : 0 ≤ b) (h4 : b ≤ 1000) : Builtin.Range.small a b 1 = true := by
  have e : Builtin.Range.rangeSize a b 1 ≤ 1000 ∧ 0 ≤ Builtin.Range.rangeSize a b 1 := by
    unfold Builtin.Range.rangeSize
    rw [if_pos (by decide)]
    split
    · rw [Int.ediv_one]; omega
    · omega
  unfold Builtin.Range.small Builtin.Range.rangeFitsLong
  have p : (2 : Int) ^ 63 = 9223372036854775808 := by decide
  have q : (1 : Int) > 0 := by decide
  simp only [Bool.and_eq_true, Bool.or_eq_true, decide_eq_true_eq, p, if_pos q]
  refine ⟨⟨⟨⟨by omega, by omega⟩, by omega⟩, by omega⟩, .inr (by omega)⟩
theorem rng_size {a b : Int} {n : Nat} (h : a + n = b) : Builtin.Range.rangeSize a b 1 = (n : Int) := by
  unfold Builtin.Range.rangeSize
  rw [if_pos (by decide)]
  split
  · rw [Int.ediv_one]; omega
  · omega
theorem ints_snoc {vs : List Value} {ns : List Int} (h : IntsAre vs ns) (c : Int) (t : Tok) : IntsAre (vs ++ [.int c t]) (ns ++ [c]) := by
  induction h with
  | nil => exact .cons c t .nil
  | cons n u _ ih => exact .cons n u ih
theorem letter_inj {a b : Bool} (h : letter a = letter b) : a = b := by
  cases a <;> cases b <;> first | rfl | (exfalso; revert h; decide)
/-- the state of make_compact's loop -/
def MCJ (l D : Addr) (news : List (Addr × Obj)) (bs : List Bool) (lv : List Value) (i : Nat) (c : Int) (nw : List (Addr × Obj)) : Prop :=
  ∃ vs cd pre, (l, listOf vs.toArray cd) ∈ nw ∧ vs.length ≤ i ∧ IntsAre vs pre ∧ pre ++ [c] = runsK bs (i + 1) ∧ (D, lst lv) ∈ nw ∧ D ≠ l ∧ ∀ a o, (a, o) ∈ news → (a, o) ∈ nw ∧ a ≠ l
theorem MCJ.init {l D : Addr} {news : List (Addr × Obj)} {bs : List Bool} {lv : List Value} (l1 : ∀ p ∈ (D, lst lv) :: news, p.1 < l) : MCJ l D news bs lv 0 1 ((l, listOf #[] 0) :: (D, lst lv) :: news) :=
  ⟨[], 0, [], List.mem_cons_self, Nat.le_refl _, .nil, by simp [runsK], List.mem_cons_of_mem _ List.mem_cons_self, Nat.ne_of_lt (l1 _ List.mem_cons_self), fun a o h => ⟨List.mem_cons_of_mem _ (List.mem_cons_of_mem _ h), Nat.ne_of_lt (l1 _ (List.mem_cons_of_mem _ h))⟩⟩
theorem MCJ.same {l D Ia : Addr} {oI : Obj} {news nw : List (Addr × Obj)} {bs : List Bool} {lv : List Value} {i : Nat} {c : Int} (J : MCJ l D news bs lv i c nw) (hne : ∀ p ∈ nw, p.1 ≠ Ia) (h : bs[i + 1]? = bs[i]?) : MCJ l D news bs lv (i + 1) (c + 1) (off Ia ((Ia, oI) :: nw)) := by
  obtain ⟨vs, cd, pre, h1, hl, h2, h3, h4, h5, h6⟩ := J
  have up : ∀ {a o}, (a, o) ∈ nw → (a, o) ∈ off Ia ((Ia, oI) :: nw) := fun hm => mem_off (List.mem_cons_of_mem _ hm) (hne _ hm)
  refine ⟨vs, cd, pre, up h1, Nat.le_succ_of_le hl, h2, ?_, up h4, h5, fun a o hm => ⟨up (h6 a o hm).1, (h6 a o hm).2⟩⟩
  rw [runsK, if_pos ⟨Nat.succ_pos _, by rw [Nat.add_sub_cancel]; exact h⟩, ← h3]
  simp
theorem MCJ.next {l D Ia : Addr} {oI : Obj} {news nw : List (Addr × Obj)} {bs : List Bool} {lv : List Value} {i cd cd' : Nat} {c : Int} {tc : Tok} {vs : List Value} {pre : List Int} (hl : vs.length ≤ i) (h2 : IntsAre vs pre) (h3 : pre ++ [c] = runsK bs (i + 1)) (h4 : (D, lst lv) ∈ nw) (h5 : D ≠ l) (h6 : ∀ a o, (a, o) ∈ news → (a, o) ∈ nw ∧ a ≠ l) (hl' : (l, listOf vs.toArray cd) ∈ nw)
    (hne : ∀ p ∈ nw, p.1 ≠ Ia) (h : bs[i + 1]? ≠ bs[i]?) : MCJ l D news bs lv (i + 1) 1 (off Ia (upd l (listOf (vs ++ [Value.int c tc]).toArray cd') ((Ia, oI) :: nw))) := by
  have up : ∀ {a o}, (a, o) ∈ nw → a ≠ l → (a, o) ∈ off Ia (upd l (listOf (vs ++ [Value.int c tc]).toArray cd') ((Ia, oI) :: nw)) := fun hm hn => mem_off (mem_upd (List.mem_cons_of_mem _ hm) hn) (hne _ hm)
  refine ⟨vs ++ [.int c tc], cd', pre ++ [c], mem_off mem_upd_self (hne _ hl'), by simp; omega, ints_snoc h2 c tc, ?_, up h4 h5, h5, fun a o hm => ⟨up (h6 a o hm).1 (h6 a o hm).2, (h6 a o hm).2⟩⟩
  rw [runsK, if_neg (by rintro ⟨_, q⟩; rw [Nat.add_sub_cancel] at q; exact h q), h3]
end Mine
end

section
open PySem PySem.W PyProof.Rows PySem.Calls PySem.Spec PyProof.V
set_option Elab.async false
set_option linter.unusedVariables false
namespace Mine
set_option pp.maxSteps 3000
set_option pp.deepTerms false
open PyProof.Rows.LCg
theorem rrefs_cons {r : RE} {R : List RE} : rrefs (r :: R) = .ref r.a :: rrefs R := rfl
theorem rrefs_first {r : RE} {R : List RE} : (rrefs (r :: R))[(0 : Int).toNat]? = some (.ref r.a) := rfl
theorem CO.of {th : Int} {p : List RE} {r : RE} : CO th (p ++ [r]) (th - r.w) := fun p' r' e => by
  obtain ⟨_, h⟩ := List.append_inj' e rfl
  cases h; rfl
theorem WTG.init {D C : Addr} {o : Obj} {c2 : Nat} {rs rs2 : List RE} {news : List (Addr × Obj)} (hr2 : ∀ r ∈ rs2, (r.a, rowO r) ∈ ((D, o) :: (Mine.rows rs ++ news)) ∧ r.a ≠ D) (l1 : ∀ p ∈ news, p.1 < D)
    (lc : ∀ p ∈ upd D (listOf (rrefs rs2).toArray c2) ((D, o) :: (Mine.rows rs ++ news)), p.1 < C) : WTG D C news ((C, listOf #[] 0) :: upd D (listOf (rrefs rs2).toArray c2) ((D, o) :: (Mine.rows rs ++ news))) rs2 c2 [] 0 where
  hW := List.mem_cons_of_mem _ mem_upd_self
  hC := List.mem_cons_self
  rows := fun r hr => let z := mem_upd (o := listOf (rrefs rs2).toArray c2) (hr2 r hr).1 (hr2 r hr).2; ⟨List.mem_cons_of_mem _ z, (hr2 r hr).2, Nat.ne_of_lt (lc _ z)⟩
  tups := fun _ h => nomatch h
  keep := fun a x h => let n := Nat.ne_of_lt (l1 _ h); let z := mem_upd (o := listOf (rrefs rs2).toArray c2) (List.mem_cons_of_mem (D, o) (List.mem_append_right (Mine.rows rs) h)) n; ⟨List.mem_cons_of_mem _ z, n, Nat.ne_of_lt (lc _ z)⟩
  wc := Nat.ne_of_lt (lc _ mem_upd_self)
theorem refs_snoc {e : TE} {es : List TE} : refs (es ++ [e]) = refs es ++ [Value.ref e.t] := by simp [refs]
theorem news_lt {h₀ h : Heap} {L : Addr} {nw : List (Addr × Obj)} (N : News h₀ L h nw) : ∀ q ∈ nw, q.1 < h.objs.size := fun q hq => Heap.lt_size (N q hq).1
theorem step1 (d : Bool) {W C T : Addr} {news nw : List (Addr × Obj)} {rem rem' : List RE} {cw cc c1 c2 : Nat} {es : List TE} {lab : Int} {tl k : Tok} {l l2 : List Value} (G : WTG W C news nw rem cw es cc) (sub : ∀ r ∈ rem', r ∈ rem) (hl : l = refs es) (hl2 : l2 = rrefs rem')
    (fr : ∀ q ∈ upd W (listOf l2.toArray c1) nw, q.1 < T) :
    WTG W C news (upd C (listOf (l ++ [Value.ref T]).toArray c2) ((T, ({ cls := .type "tuple", data := .seq [.int lab tl, .str (letter d) k].toArray } : Obj)) :: upd W (listOf l2.toArray c1) nw)) rem' c1 (es ++ [⟨T, lab, tl, d, k⟩]) c2 := by
  subst hl hl2
  exact (G.popW sub).push (e := ⟨T, lab, tl, d, k⟩) fr
theorem rvals_snoc {r0 rl : RE} {mid : List RE} : rvals (r0 :: (mid ++ [rl])) = (r0.lab, r0.w) :: (rvals mid ++ [(rl.lab, rl.w)]) := by simp [rvals]
theorem pops_I {th : Int} {r0 rl : RE} {mid : List RE} (h : r0.w < th - rl.w) : pops th (mid.length + 2) (rvals (r0 :: (mid ++ [rl]))) = (r0.lab, false) :: pops th (mid ++ [rl]).length (rvals (mid ++ [rl])) := by
  cases mid with
  | nil => simp [rvals, pops, h]
  | cons m0 mid =>
    have e : ((r0.lab, r0.w) :: (m0.lab, m0.w) :: (rvals mid ++ [(rl.lab, rl.w)])).getLast (by simp) = (rl.lab, rl.w) := List.getLast_concat (l := (r0.lab, r0.w) :: (m0.lab, m0.w) :: rvals mid)
    rw [rvals_snoc]
    show pops th (mid.length + 2 + 1) ((r0.lab, r0.w) :: (m0.lab, m0.w) :: (rvals mid ++ [(rl.lab, rl.w)])) = _
    rw [pops, e, if_pos h]
    simp [rvals]
theorem pops_D {th : Int} {r0 rl : RE} {mid : List RE} (h : ¬ r0.w < th - rl.w) : pops th (mid.length + 2) (rvals (r0 :: (mid ++ [rl]))) = (rl.lab, true) :: pops th (r0 :: mid).length (rvals (r0 :: mid)) := by
  cases mid with
  | nil => simp [rvals, pops, h]
  | cons m0 mid =>
    have e : ((r0.lab, r0.w) :: (m0.lab, m0.w) :: (rvals mid ++ [(rl.lab, rl.w)])).getLast (by simp) = (rl.lab, rl.w) := List.getLast_concat (l := (r0.lab, r0.w) :: (m0.lab, m0.w) :: rvals mid)
    have e2 : ((r0.lab, r0.w) :: (m0.lab, m0.w) :: (rvals mid ++ [(rl.lab, rl.w)])).dropLast = (r0.lab, r0.w) :: (m0.lab, m0.w) :: rvals mid := by
      have : (r0.lab, r0.w) :: (m0.lab, m0.w) :: (rvals mid ++ [(rl.lab, rl.w)]) = ((r0.lab, r0.w) :: (m0.lab, m0.w) :: rvals mid) ++ [(rl.lab, rl.w)] := rfl
      rw [this, List.dropLast_concat]
    rw [rvals_snoc]
    show pops th (mid.length + 2 + 1) ((r0.lab, r0.w) :: (m0.lab, m0.w) :: (rvals mid ++ [(rl.lab, rl.w)])) = _
    rw [pops, e, if_neg h, e2]
    simp [rvals]
theorem pops_one {th : Int} {r : RE} : pops th [r].length (rvals [r]) = [(r.lab, true)] := rfl
theorem evals_snoc {e : TE} {es : List TE} : evals (es ++ [e]) = evals es ++ [(e.lab, e.d)] := by simp [evals]
theorem CO.nil {th co : Int} : CO th [] co := fun p r e => by simp at e
theorem refs_snoc' {T : Addr} {lab : Int} {tl k : Tok} {d : Bool} {es : List TE} : refs es ++ [Value.ref T] = refs (es ++ [⟨T, lab, tl, d, k⟩]) := by simp [refs]
theorem evals_rev {es : List TE} : evals es.reverse = (evals es).reverse := by simp [evals]
theorem refs_rev {es : List TE} : refs es.reverse = (refs es).reverse := by simp [refs]
theorem r_reverse_refs {prog : Program} {w : World} {A : Around} {E : Value → Shared → Prop} {s : Shared} {h₀ : Heap} {L a : Addr} {m : Str → Option Value} {news : List (Addr × Obj)} {n : Nat} {Q : Value → Shared → Prop} {es : List TE} (F : Fr h₀ L s.heap m) (N : News h₀ L s.heap news) (hm : (a, listOf (refs es).toArray n) ∈ news) (hz : es.length ≤ 1000)
    (h : ∀ h', Fr h₀ L h' m → News h₀ L h' (upd a (listOf (refs es.reverse).toArray n) news) → Q .none { s with heap := h' }) :
    wpAny (model prog w) A (call (.builtin "list.reverse") [.ref a]) Q E s :=
  r_reverse F N hm (by rw [refs_length]; exact hz) fun h' F' N' => h h' F' (by rw [refs_rev]; exact N')
theorem stored2 {a b z : Str} (h : [a, b].contains z = false) : z ≠ a ∧ z ≠ b := by
  simp only [List.contains_cons, List.contains_nil, Bool.or_false, Bool.or_eq_false_iff, beq_eq_false_iff_ne] at h
  exact h
theorem rrefs_snoc {r : RE} {R : List RE} : rrefs (R ++ [r]) = rrefs R ++ [.ref r.a] := by simp [rrefs]
theorem rrefs_length {R : List RE} : (rrefs R).length = R.length := by simp [rrefs]
theorem rrefs_last {r : RE} {R : List RE} : (rrefs (R ++ [r]))[((-1 : Int) + ((rrefs (R ++ [r])).length : Int)).toNat]? = some (.ref r.a) := by
  have : ((-1 : Int) + ((rrefs (R ++ [r])).length : Int)).toNat = R.length := by rw [rrefs_length]; simp; omega
  rw [this, rrefs_snoc, List.getElem?_append_right (by rw [rrefs_length]; omega), rrefs_length, Nat.sub_self]; rfl
theorem rvals_length {R : List RE} : (rvals R).length = R.length := by simp [rvals]
theorem rows_facts {D : Addr} {o : Obj} {rs : List RE} {news : List (Addr × Obj)} (l : ∀ r ∈ rs, D < r.a) : ∀ r ∈ rs, (r.a, rowO r) ∈ ((D, o) :: (rows rs ++ news)) ∧ r.a ≠ D :=
  fun r hr => ⟨List.mem_cons_of_mem _ (List.mem_append_left _ (List.mem_map_of_mem hr)), Nat.ne_of_gt (l r hr)⟩
theorem snoc_of {α : Type} {l : List α} (h : 0 < l.length) : ∃ p z, l = p ++ [z] := ⟨l.dropLast, l.getLast (by intro e; subst e; cases h), (List.dropLast_concat_getLast _).symm⟩
theorem r_isdict {prog : Program} {w : World} {A : Around} {E : Value → Shared → Prop} {s : Shared} {h₀ : Heap} {L d : Addr} {news : List (Addr × Obj)} {od : Obj} {kvs : List (Int × Value)} {Q : Value → Shared → Prop} (N : News h₀ L s.heap news) (hm : (d, od) ∈ news) (hd : od.IsDictOf (intKind prog w) kvs) (h : Q (.bool true) s) :
    wpAny (model prog w) A (call (.builtin "isinstance") [.ref d, .type "dict"]) Q E s :=
  call_isinstance_yes (Tx := "dict") (T := "dict") (kda_dict N hm hd).typeIs PySem.F.isi_meta_dict PySem.F.sub_dict_dict h
local macro_rules | `(tactic| k_lt $_h:ident) => `(tactic| skip)
local macro_rules | `(tactic| walk_at "g_ne") => `(tactic| first | with_reducible assumption | (refine Ne.symm ?_; with_reducible assumption) | exact Nat.ne_of_gt (by with_reducible assumption) | exact Nat.ne_of_lt (by with_reducible assumption) | (refine' ne_fresh ?l ?h; (case l => with_reducible assumption); (case h => walk_at "g_has")) | (refine' ne_fresh' ?l ?h; (case l => with_reducible assumption); (case h => walk_at "g_has")))
local macro_rules | `(tactic| walk_at "g_has") => `(tactic| first | with_reducible exact Has.of (by with_reducible assumption) | with_reducible exact Has.self | with_reducible exact Has.self_upd | (with_reducible refine Has.cons ?_; walk_at "g_has") | (with_reducible refine Has.upd ?_; walk_at "g_has"))
local macro_rules | `(tactic| k_mem) => `(tactic| first | with_reducible assumption | with_reducible exact mem_upd_self | (with_reducible refine' mem_upd ?h ?n; (case h => k_mem); (case n => walk_at "g_ne")) | with_reducible exact List.mem_cons_self | (with_reducible refine List.mem_cons_of_mem _ ?_; k_mem))
local macro_rules | `(tactic| walk_at "g_val") => `(tactic| first | with_reducible assumption | with_reducible exact valueAt_stored_self _ _ _ | (rw [valueAt_stored_ne (by walk_at "g_ne")]; walk_at "g_val") | rfl)
local macro_rules | `(tactic| walk_at "g_size") => `(tactic| (rw [sizeLine_eq]; first | omega | (refine Nat.le_trans (stored_length_le _ _ _) ?_; omega) | (simp; done)))
local macro_rules | `(tactic| walk_at "compareOp NotIn int ref") => `(tactic| (k_here; k_dflt (first
  | (refine' r_notin_no (knd := PySem.intKind _ _) ?N ?hp ?hd ?lo (intKind_is _ _ _ _) ?hl ?_; (case N => k_asm); (case hp => k_mem); (case hd => with_reducible assumption); (case lo => with_reducible assumption); (case hl => walk_at "g_val"))
  | (refine' r_notin_yes (knd := PySem.intKind _ _) ?N ?hp ?hd ?lo (intKind_is _ _ _ _) ?hl ?_; (case N => k_asm); (case hp => k_mem); (case hd => with_reducible assumption); (case lo => with_reducible assumption); (case hl => walk_at "g_val")))))
local macro_rules | `(tactic| walk_at "compareOp In int ref") => `(tactic| (k_here; k_dflt (first
  | (refine' r_in_no (knd := PySem.intKind _ _) ?N ?hp ?hd ?lo (intKind_is _ _ _ _) ?hl ?_; (case N => k_asm); (case hp => k_mem); (case hd => with_reducible assumption); (case lo => with_reducible assumption); (case hl => walk_at "g_val"))
  | (refine' r_in_yes (knd := PySem.intKind _ _) ?N ?hp ?hd ?lo (intKind_is _ _ _ _) ?hl ?_; (case N => k_asm); (case hp => k_mem); (case hd => with_reducible assumption); (case lo => with_reducible assumption); (case hl => walk_at "g_val")))))
local macro_rules | `(tactic| walk_at "getItem ref int") => `(tactic| (k_here; k_dflt (refine' kdt_getItem (knd := PySem.intKind _ _) ?N ?hp ?hd (intKind_is _ _ _ _) ?hl ?_; (case N => k_asm); (case hp => k_mem); (case hd => with_reducible assumption); (case hl => walk_at "g_val"))))
local macro_rules | `(tactic| walk_at "subscriptTail") => `(tactic| (k_here; (with_reducible show wpAny _ _ (subscriptTail _ _ (Value.ref _) (Value.int _ _)) _ _ _); k_dflt (refine' kdt_tail (knd := PySem.intKind _ _) ?N ?hp ?hd ?_; (case N => k_asm); (case hp => k_mem); (case hd => with_reducible assumption))))
local macro_rules | `(tactic| walk_at "setItem ref int") => `(tactic| (k_here; k_dflt (refine' r_set (knd := PySem.intKind _ _) ?F ?N ?hm ?hd (intKind_is _ _ _ _) ?z ?_; (case F => k_asm); (case N => k_asm); (case hm => k_mem); (case hd => with_reducible assumption); (case z => walk_at "g_size")); intro h' o' F' N' hd'))
local macro_rules | `(tactic| walk_at "call builtin:dict.get") => `(tactic| (k_here; k_dflt (refine' r_get2_no (knd := PySem.intKind _ _) ?N ?hp ?hd ?lo (intKind_is _ _ _ _) ?hl ?_; (case N => k_asm); (case hp => k_mem); (case hd => with_reducible assumption); (case lo => with_reducible assumption); (case hl => walk_at "g_val"))))
local macro_rules | `(tactic| walk_at "call builtin:dict.update") => `(tactic| (k_here; k_dflt (refine' r_update_nil ?F ?N ?hm ?hd ?hm2 ?hd2 ?lo ?ne ?_; (case F => k_asm); (case N => k_asm); (case hm => k_mem); (case hd => with_reducible assumption); (case hm2 => k_mem); (case hd2 => with_reducible assumption); (case lo => with_reducible assumption); (case ne => walk_at "g_ne")); intro h' o' F' N' hd'))
local macro_rules | `(tactic| walk_at "getMethod ref") => `(tactic| (k_here; k_dflt (first
  | ((with_reducible show wpAny _ _ (getMethod (Value.ref _) (Str.ofString "get") _) _ _ _); refine' kdg_method (knd := PySem.intKind _ _) ?N ?hp ?hd ?_; (case N => k_asm); (case hp => k_mem); (case hd => with_reducible assumption))
  | ((with_reducible show wpAny _ _ (getMethod (Value.ref _) (Str.ofString "update") _) _ _ _); refine' kdl_method (knd := PySem.strKind _ _) PySem.F.slot_dict_update PySem.F.type_dict_update ?N ?hp ?hd ?_; (case N => k_asm); (case hp => k_mem); (case hd => with_reducible assumption)))))

local macro_rules | `(tactic| walk_at "call builtin:len") => `(tactic| (k_here; (with_reducible show wpAny _ _ (call (Value.builtin "len") [Value.ref _]) _ _ _); k_dflt (refine' kda_len (knd := PySem.intKind _ _) ?N ?hp ?hd ?lo ?z ?_; (case N => k_asm); (case hp => k_mem); (case hd => with_reducible assumption); (case lo => with_reducible assumption); (case z => omega))))
local macro_rules | `(tactic| walk_at "g_ne") => `(tactic| first | (refine' ne_fresh2 ?l ?l2 ?h; (case l2 => with_reducible assumption); (case l => with_reducible assumption); (case h => walk_at "g_has")) | (refine' ne_fresh2' ?l ?l2 ?h; (case l2 => with_reducible assumption); (case l => with_reducible assumption); (case h => walk_at "g_has")))
local macro_rules | `(tactic| walk_at "g_nth") => `(tactic| first | rfl | with_reducible assumption | (simp; done))
local macro_rules | `(tactic| walk_at "g_len") => `(tactic| first | omega | (simp only [List.length_cons, List.length_append, List.length_nil, refs_length, List.length_reverse, List.length_map]; omega))
local macro_rules | `(tactic| walk_at "subscriptTail") => `(tactic| (k_here; (with_reducible show wpAny _ _ (subscriptTail _ _ (Value.ref _) (Value.int _ _)) _ _ _); k_dflt (first | (refine' r_item ?N ?hm ?h0 ?hf ?hx ?_ ?hs; (case N => k_asm); (case hm => k_mem); (case h0 => first | decide | omega); (case hf => first | decide | omega); (case hx => walk_at "g_nth"); (case hs => with_unfolding_all rfl); k_whole) | (refine' r_back ?N ?hm ?h0 ?h1 ?hf ?hx ?_ ?hs; (case N => k_asm); (case hm => k_mem); (case h0 => decide); (case h1 => walk_at "g_len"); (case hf => decide); (case hx => walk_at "g_nth"); (case hs => with_unfolding_all rfl); k_whole) | (refine' r_tup ?N ?hm ?h0 ?hf ?hj ?hx ?_ ?hs; (case N => k_asm); (case hm => k_mem); (case h0 => decide); (case hf => decide); (case hj => rfl); (case hx => rfl); (case hs => with_unfolding_all rfl); k_whole))))
local macro_rules | `(tactic| walk_at "subscriptTail Name Slice ref ref") => `(tactic| (k_here; k_dflt (refine' r_slice_all ?F ?N ?hm ?z ?_ ?hs ?ht; (case F => k_asm); (case N => k_asm); (case hm => k_mem); (case z => walk_at "g_len"); (case hs => with_unfolding_all rfl); (case ht => intro _; with_unfolding_all rfl)); intro D' h' F' N' l1))
local macro_rules | `(tactic| walk_at "truthy ref") => `(tactic| (k_here; k_dflt (refine' r_truthy ?N ?hm ?z ?_; (case N => k_asm); (case hm => k_mem); (case z => walk_at "g_len")); intro tk'))
local macro_rules | `(tactic| walk_at "getMethod ref") => `(tactic| (k_here; k_dflt (first | ((with_reducible show wpAny _ _ (getMethod (Value.ref _) (Str.ofString "pop") _) _ _ _); refine' r_method ?N ?hm PySem.F.slot_list_pop PySem.F.type_list_pop ?_; (case N => k_asm); (case hm => k_mem)) | ((with_reducible show wpAny _ _ (getMethod (Value.ref _) (Str.ofString "append") _) _ _ _); refine' r_method ?N ?hm PySem.F.slot_list_append PySem.F.type_list_append ?_; (case N => k_asm); (case hm => k_mem)) | ((with_reducible show wpAny _ _ (getMethod (Value.ref _) (Str.ofString "reverse") _) _ _ _); refine' r_method ?N ?hm PySem.F.slot_list_reverse PySem.F.type_list_reverse ?_; (case N => k_asm); (case hm => k_mem)))))
local macro_rules | `(tactic| walk_at "call builtin:list.pop") => `(tactic| (k_here; k_dflt (first | (refine' r_pop0 ?F ?N ?hm ?e ?z ?_; (case F => k_asm); (case N => k_asm); (case hm => k_mem); (case e => first | with_reducible exact rrefs_cons | with_reducible assumption | rfl); (case z => walk_at "g_len")) | (refine' r_pop ?F ?N ?hm ?e ?z ?_; (case F => k_asm); (case N => k_asm); (case hm => k_mem); (case e => with_reducible assumption); (case z => walk_at "g_len"))); intro h' F' N'))
local macro_rules | `(tactic| walk_at "call builtin:list.append") => `(tactic| (k_here; k_dflt (refine' r_append ?F ?N ?hm ?z ?_; (case F => k_asm); (case N => k_asm); (case hm => k_mem); (case z => walk_at "g_len")); intro h' F' N'))
local macro_rules | `(tactic| walk_at "call builtin:list.reverse") => `(tactic| (k_here; k_dflt (refine' r_reverse ?F ?N ?hm ?z ?_; (case F => k_asm); (case N => k_asm); (case hm => k_mem); (case z => walk_at "g_len")); intro h' F' N'))
local macro_rules | `(tactic| walk_at "call builtin:len") => `(tactic| (k_here; (with_reducible show wpAny _ _ (call (Value.builtin "len") [Value.ref _]) _ _ _); k_dflt (refine' r_len ?N ?hm ?z ?_; (case N => k_asm); (case hm => k_mem); (case z => walk_at "g_len"))))
local macro_rules | `(tactic| walk_at "setAttr ref") => `(tactic| (k_here; k_dflt (refine' r_setattr ?F ?X ?N ?hx ?hd ?k4 ?k5 ?k6 ?k7 ?k8 ?k9 ?kz ?_; (case F => k_asm); (case X => k_asm); (case N => k_asm); (case hx => k_mem); (case hd => k_mem); (case k4 => k_is); (case k5 => k_is); (case k6 => k_is); (case k7 => k_is); (case k8 => k_get); (case k9 => k_put); (case kz => exact Nat.le_of_ble_eq_true rfl); k_whole); intro h' F' N'))
local macro_rules | `(tactic| walk_at "call builtin:dict.pop") => `(tactic| (k_here; k_dflt (refine' r_dpop ?N ?hm ?hd ?lo ?_; (case N => k_asm); (case hm => k_mem); (case hd => with_reducible assumption); (case lo => with_reducible assumption))))
local macro_rules | `(tactic| walk_at "exec For Name Name cons nil") => `(tactic| (k_here; (rename Fr _ _ _ _ => lF'); (with_unfolding_all refine' For_invVF lF' ?k1 ?k2 ?_; (case k1 => exact rfl); (case k2 => exact rfl); k_whole)))
local macro_rules | `(tactic| walk_at "pyIter ref") => `(tactic| ((with_reducible show wpAny _ _ (pyIter (Value.ref _)) (fun it s₂ => LoopAtV _ _ _ _ _ _ _ _ _ it s₂) _ _); k_dflt (refine' for_none ?hh ?F ?N ?hm ?hi ?e ?_; (case hh => rfl); (case F => k_asm); (case N => k_asm); (case hm => k_mem); (case hi => with_reducible assumption); (case e => rfl)); intro h' tk' F' N'))

local macro_rules | `(tactic| walk_at "exec Assign cons ListComp") => `(tactic| (k_here; k_dflt (refine' cg_assign ?F0 ?k1 ?k2 ?k3 ?k4 ?k5 ?k6 ?k7 ?k8 ?_; (case F0 => k_asm); (case k1 => exact rfl); (case k2 => with_unfolding_all rfl); (case k3 => with_unfolding_all rfl); (case k4 => decide); (case k5 => rfl); (case k6 => decide); (case k7 => rfl); (case k8 => rfl))))
local macro_rules | `(tactic| walk_at "call type:enumerate") => `(tactic| (k_dflt (refine' enum_src ?hh ?F ?N ?hm ?hi ?hz ?e1 ?e2 ?e3 ?e4 ?e5 ?e6 ?_; (case hh => rfl); (case F => k_asm); (case N => k_asm); (case hm => k_mem); (case hi => with_reducible assumption); (case hz => omega); (case e1 => rfl); (case e2 => rfl); (case e3 => rfl); (case e4 => decide); (case e5 => decide); (case e6 => decide)); intro D' h' tk' rs' F' N' e' l1' l2'))
local macro_rules | `(tactic| walk_at "pyIter ref") => `(tactic| ((with_reducible show wpAny _ _ (pyIter (Value.ref _)) (CgSrc _ _ _ _ _ _ _ _ _ _ _ _ _) _ _); k_dflt (refine' dict_src ?hh ?F ?N ?hv ?hm ?hd ?hk ?hi ?hz ?e1 ?e2 ?e3 ?e4 ?e5 ?e6 ?_; (case hh => rfl); (case F => k_asm); (case N => k_asm); (case hv => with_reducible assumption); (case hm => k_mem); (case hd => with_reducible assumption); (case hk => with_reducible assumption); (case hi => with_reducible assumption); (case hz => omega); (case e1 => rfl); (case e2 => rfl); (case e3 => rfl); (case e4 => decide); (case e5 => decide); (case e6 => decide)); intro D' h' tk' rs' F' N' e' l1' l2'))
local macro_rules | `(tactic| walk_at "call builtin:dict.items") => `(tactic| (k_here; k_dflt (refine' kta_callItems (knd := PySem.intKind _ _) ?F ?N ?hm ?hd ?lo ?_; (case F => k_asm); (case N => k_asm); (case hm => k_mem); (case hd => with_reducible assumption); (case lo => with_reducible assumption)); intro h' hv' F' N'))
local macro_rules | `(tactic| walk_at "getMethod ref") => `(tactic| ((with_reducible show wpAny _ _ (getMethod (Value.ref _) (Str.ofString "items") _) _ _ _); k_here; k_dflt (refine' kdl_method (knd := PySem.intKind _ _) PySem.F.slot_dict_items PySem.F.type_dict_items ?N ?hm ?hd ?_; (case N => k_asm); (case hm => k_mem); (case hd => with_reducible assumption))))
local macro_rules | `(tactic| walk_at "call builtin:isinstance") => `(tactic| (k_here; k_dflt (refine' r_isdict ?N ?hm ?hd ?_; (case N => k_asm); (case hm => k_mem); (case hd => with_reducible assumption))))
local macro_rules | `(tactic| walk_at "truthy ref") => `(tactic| (k_here; k_dflt (first | (refine' r_truthy_cons ?N ?hm ?e ?z ?_; (case N => k_asm); (case hm => k_mem); (case e => with_reducible exact rrefs_cons); (case z => walk_at "g_len")) | (refine' r_truthy_nil ?N ?hm ?e ?_; (case N => k_asm); (case hm => k_mem); (case e => rfl))); intro tk'))
local macro_rules | `(tactic| walk_at "g_len") => `(tactic| first | omega | (simp only [List.length_cons, List.length_append, List.length_nil, refs_length, rrefs_length, List.length_reverse, List.length_map]; omega))
local macro_rules | `(tactic| walk_at "call builtin:list.reverse") => `(tactic| (k_here; k_dflt (refine' r_reverse_refs ?F ?N ?hm ?z ?_; (case F => k_asm); (case N => k_asm); (case hm => k_mem); (case z => walk_at "g_len")); intro h' F' N'))
local macro_rules | `(tactic| walk_at "eval ListComp") => `(tactic| (k_here; k_dflt (refine' cg_comp ?F0 ?k3 ?k4 ?k5 ?k6 ?_; (case F0 => k_asm); (case k3 => with_unfolding_all rfl); (case k4 => decide); (case k5 => rfl); (case k6 => decide))))
local macro_rules | `(tactic| walk_at "pyIter ref") => `(tactic| ((with_reducible show wpAny _ _ (pyIter (Value.ref _)) (CgSrc _ _ _ _ _ _ _ _ (Expr.Name _ _) _ _ _ _) _ _); k_dflt (refine' second_src ?hh ?F ?N ?hm ?hz ?ht ?e1 ?e2 ?e3 ?_; (case hh => rfl); (case F => k_asm); (case N => k_asm); (case hm => k_mem); (case ht => with_reducible assumption); (case hz => walk_at "g_len"); (case e1 => rfl); (case e2 => rfl); (case e3 => decide)); intro D' h' tk' F' N' l1'))
local macro_rules | `(tactic| walk_at "call builtin:list.sort") => `(tactic| refine stop_here ?_)
local macro_rules | `(tactic| walk_at "exec While Name cons nil") => `(tactic| refine stop_here ?_)
local macro_rules | `(tactic| walk_at "g_nth") => `(tactic| first | with_reducible exact rrefs_last | with_reducible exact rrefs_first)

local macro_rules | `(tactic| walk_at "pyIter ref") => `(tactic| ((with_reducible show wpAny _ _ (pyIter (Value.ref _)) (fun it s₂ => LoopAtV _ _ _ _ _ _ _ _ _ it s₂) _ _); refine stop_here ?_))

set_option maxRecDepth 100000 in
set_option maxHeartbeats 4000000 in
theorem mc {w : World} {A₀ : Around} {base h₀ : Heap} {L a : Addr} {m mg mb : Str → Option Value} {cn : Str} {cnm : List (Str × NameKind)} {cig cic : Bool} {cmo : List (Str × Const)} {ccd : Value} {news : List (Addr × Obj)}
   {p : Program} {loose : List Str} {mean : ExcName → Option Value} {s : Shared} {Q E : Value → Shared → Prop} {e1 : Env}
   (B : Below A₀ base [e1] h₀) (Fh : Fr h₀ L s.heap m) (X₀ : (hd.heap_39 w.params).In h₀) (N : News h₀ L s.heap news) (T : Top p loose mean mg mb h₀) {r : Addr} {c : Nat} {e0 : TE} {ts : List TE} (hr : (r, listOf (refs (e0 :: ts)).toArray c) ∈ news) (h0 : (e0.t, tupO e0) ∈ news) (ht : ∀ e ∈ e0 :: ts, (e.t, tupO e) ∈ news) (hz : (e0 :: ts).length ≤ 9)
   (hQ : ∀ {h' tk D cd vs news'}, Fr h₀ L h' m → News h₀ L h' news' → (D, listOf vs cd) ∈ news' → IntsAre vs.toList (runsK ((e0 :: ts).map (·.d)) (e0 :: ts).length) → (∀ a o, (a, o) ∈ news → (a, o) ∈ news') → Q (.ref D) { s with heap := h', toks := tk }) :
   wpAny (model Challenge.rw_aq6051_01.row.prog w) (((callerA.deeper e1).deeper (envOf cn { kind := .function, names := cnm, isGenerator := cig, isCoroutine := cic, more := cmo } L a ccd))) (call (.ref 645) [.ref r]) Q E s := by
  revert X₀
  k_fill
  intro X₀
  w_on
  have hz9 : ts.length ≤ 8 := by simpa using hz
  k_steps
  refine ⟨?_⟩
  refine' for_rc (x := Str.ofString "i") (xc := Str.ofString "count") (n := ts.length) (MCJ _ _ news ((e0 :: ts).map (·.d)) ((e0 :: ts).map fun e => Value.str (letter e.d) e.td)) ?hx ?hh ?F ?N ?hr ?hs ?hn (MCJ.init (by with_reducible assumption)) ?turn ?done
  (case hx => decide)
  (case hh => rfl)
  (case F => k_asm)
  (case N => k_asm)
  (case hr => with_reducible assumption)
  (case hs => exact rng_small (by decide) (by decide) (by omega) (by (simp only [List.length_map, List.length_cons]; omega)))
  (case hn => exact rng_size (by (simp only [List.length_map, List.length_cons]; omega)))
  (case done =>
    intro g c' tc nw h tk hJ F9 N9
    obtain ⟨vs, cd, pre, j1, jl, j2, j3, j4, j5, j6⟩ := hJ
    k_steps
    rename Fr h₀ _ _ _ => F8
    rename News h₀ _ _ _ => N8
    exact hQ F8 N8 mem_upd_self (by (have := ints_snoc j2 c' tc; rw [j3] at this; exact this)) (fun a' o' hm' => mem_upd (j6 a' o' hm').1 (j6 a' o' hm').2))
  (case turn =>
    intro i k c' tc nw h tk Ia oI hi hJ hne F9 N9
    have hJ2 := hJ
    obtain ⟨vs, cd, pre, j1, jl, j2, j3, j4, j5, j6⟩ := hJ2
    obtain ⟨ei, hei⟩ : ∃ e, (e0 :: ts)[i]? = some e := ⟨(e0 :: ts)[i]'(by (simp; omega)), by simp⟩
    obtain ⟨ej, hej⟩ : ∃ e, (e0 :: ts)[i + 1]? = some e := ⟨(e0 :: ts)[i + 1]'(by (simp; omega)), by simp⟩
    have hx1 : ((e0 :: ts).map fun e => Value.str (letter e.d) e.td)[((1 : Int) + (i : Int)).toNat]? = some (.str (letter ej.d) ej.td) := by
      rw [show ((1 : Int) + (i : Int)).toNat = i + 1 by omega, List.getElem?_map, hej]; rfl
    have hx0 : ((e0 :: ts).map fun e => Value.str (letter e.d) e.td)[((1 : Int) + (i : Int) - 1).toNat]? = some (.str (letter ei.d) ei.td) := by
      rw [show ((1 : Int) + (i : Int) - 1).toNat = i by omega, List.getElem?_map, hei]; rfl
    have hb1 : ((e0 :: ts).map (·.d))[i + 1]? = some ej.d := by rw [List.getElem?_map, hej]; rfl
    have hb0 : ((e0 :: ts).map (·.d))[i]? = some ei.d := by rw [List.getElem?_map, hei]; rfl
    k_steps
    · rename (letter _ == letter _) = true => hl1
      have hl1 := eq_of_beq hl1
      exact CEnd.intro (by k_asm) (by k_asm) List.mem_cons_self (hJ.same hne (by rw [hb1, hb0, letter_inj hl1])) rfl (by intro z hz1 hz2; simp only [if_neg hz1, if_neg hz2])
    · rename (letter _ == letter _) = false => hl1
      exact CEnd.intro (by k_asm) (by k_asm) (mem_upd List.mem_cons_self (hne _ j1).symm) (MCJ.next jl j2 j3 j4 j5 j6 j1 hne (fun q => by (rw [hb1, hb0] at q; rw [Option.some.inj q] at hl1; simp at hl1))) rfl (by intro z hz1 hz2; simp only [if_neg hz1, if_neg hz2]))
  all_goals w_report


end Mine
end

section
open PySem PySem.W PyProof.Rows PySem.Calls PySem.Spec PyProof.V
set_option Elab.async false
set_option linter.unusedVariables false
namespace Mine
set_option pp.maxSteps 3000
set_option pp.deepTerms false
open PyProof.Rows.LCg
local macro_rules | `(tactic| k_lt $_h:ident) => `(tactic| skip)
local macro_rules | `(tactic| walk_at "g_ne") => `(tactic| first | with_reducible assumption | (refine Ne.symm ?_; with_reducible assumption) | exact Nat.ne_of_gt (by with_reducible assumption) | exact Nat.ne_of_lt (by with_reducible assumption) | (refine' ne_fresh ?l ?h; (case l => with_reducible assumption); (case h => walk_at "g_has")) | (refine' ne_fresh' ?l ?h; (case l => with_reducible assumption); (case h => walk_at "g_has")))
local macro_rules | `(tactic| walk_at "g_has") => `(tactic| first | with_reducible exact Has.of (by with_reducible assumption) | with_reducible exact Has.self | with_reducible exact Has.self_upd | (with_reducible refine Has.cons ?_; walk_at "g_has") | (with_reducible refine Has.upd ?_; walk_at "g_has"))
local macro_rules | `(tactic| k_mem) => `(tactic| first | with_reducible assumption | with_reducible exact mem_upd_self | (with_reducible refine' mem_upd ?h ?n; (case h => k_mem); (case n => walk_at "g_ne")) | with_reducible exact List.mem_cons_self | (with_reducible refine List.mem_cons_of_mem _ ?_; k_mem))
local macro_rules | `(tactic| walk_at "g_val") => `(tactic| first | with_reducible assumption | with_reducible exact valueAt_stored_self _ _ _ | (rw [valueAt_stored_ne (by walk_at "g_ne")]; walk_at "g_val") | rfl)
local macro_rules | `(tactic| walk_at "g_size") => `(tactic| (rw [sizeLine_eq]; first | omega | (refine Nat.le_trans (stored_length_le _ _ _) ?_; omega) | (simp; done)))
local macro_rules | `(tactic| walk_at "compareOp NotIn int ref") => `(tactic| (k_here; k_dflt (first
  | (refine' r_notin_no (knd := PySem.intKind _ _) ?N ?hp ?hd ?lo (intKind_is _ _ _ _) ?hl ?_; (case N => k_asm); (case hp => k_mem); (case hd => with_reducible assumption); (case lo => with_reducible assumption); (case hl => walk_at "g_val"))
  | (refine' r_notin_yes (knd := PySem.intKind _ _) ?N ?hp ?hd ?lo (intKind_is _ _ _ _) ?hl ?_; (case N => k_asm); (case hp => k_mem); (case hd => with_reducible assumption); (case lo => with_reducible assumption); (case hl => walk_at "g_val")))))
local macro_rules | `(tactic| walk_at "compareOp In int ref") => `(tactic| (k_here; k_dflt (first
  | (refine' r_in_no (knd := PySem.intKind _ _) ?N ?hp ?hd ?lo (intKind_is _ _ _ _) ?hl ?_; (case N => k_asm); (case hp => k_mem); (case hd => with_reducible assumption); (case lo => with_reducible assumption); (case hl => walk_at "g_val"))
  | (refine' r_in_yes (knd := PySem.intKind _ _) ?N ?hp ?hd ?lo (intKind_is _ _ _ _) ?hl ?_; (case N => k_asm); (case hp => k_mem); (case hd => with_reducible assumption); (case lo => with_reducible assumption); (case hl => walk_at "g_val")))))
local macro_rules | `(tactic| walk_at "getItem ref int") => `(tactic| (k_here; k_dflt (refine' kdt_getItem (knd := PySem.intKind _ _) ?N ?hp ?hd (intKind_is _ _ _ _) ?hl ?_; (case N => k_asm); (case hp => k_mem); (case hd => with_reducible assumption); (case hl => walk_at "g_val"))))
local macro_rules | `(tactic| walk_at "subscriptTail") => `(tactic| (k_here; (with_reducible show wpAny _ _ (subscriptTail _ _ (Value.ref _) (Value.int _ _)) _ _ _); k_dflt (refine' kdt_tail (knd := PySem.intKind _ _) ?N ?hp ?hd ?_; (case N => k_asm); (case hp => k_mem); (case hd => with_reducible assumption))))
local macro_rules | `(tactic| walk_at "setItem ref int") => `(tactic| (k_here; k_dflt (refine' r_set (knd := PySem.intKind _ _) ?F ?N ?hm ?hd (intKind_is _ _ _ _) ?z ?_; (case F => k_asm); (case N => k_asm); (case hm => k_mem); (case hd => with_reducible assumption); (case z => walk_at "g_size")); intro h' o' F' N' hd'))
local macro_rules | `(tactic| walk_at "call builtin:dict.get") => `(tactic| (k_here; k_dflt (refine' r_get2_no (knd := PySem.intKind _ _) ?N ?hp ?hd ?lo (intKind_is _ _ _ _) ?hl ?_; (case N => k_asm); (case hp => k_mem); (case hd => with_reducible assumption); (case lo => with_reducible assumption); (case hl => walk_at "g_val"))))
local macro_rules | `(tactic| walk_at "call builtin:dict.update") => `(tactic| (k_here; k_dflt (refine' r_update_nil ?F ?N ?hm ?hd ?hm2 ?hd2 ?lo ?ne ?_; (case F => k_asm); (case N => k_asm); (case hm => k_mem); (case hd => with_reducible assumption); (case hm2 => k_mem); (case hd2 => with_reducible assumption); (case lo => with_reducible assumption); (case ne => walk_at "g_ne")); intro h' o' F' N' hd'))
local macro_rules | `(tactic| walk_at "getMethod ref") => `(tactic| (k_here; k_dflt (first
  | ((with_reducible show wpAny _ _ (getMethod (Value.ref _) (Str.ofString "get") _) _ _ _); refine' kdg_method (knd := PySem.intKind _ _) ?N ?hp ?hd ?_; (case N => k_asm); (case hp => k_mem); (case hd => with_reducible assumption))
  | ((with_reducible show wpAny _ _ (getMethod (Value.ref _) (Str.ofString "update") _) _ _ _); refine' kdl_method (knd := PySem.strKind _ _) PySem.F.slot_dict_update PySem.F.type_dict_update ?N ?hp ?hd ?_; (case N => k_asm); (case hp => k_mem); (case hd => with_reducible assumption)))))

local macro_rules | `(tactic| walk_at "call builtin:len") => `(tactic| (k_here; (with_reducible show wpAny _ _ (call (Value.builtin "len") [Value.ref _]) _ _ _); k_dflt (refine' kda_len (knd := PySem.intKind _ _) ?N ?hp ?hd ?lo ?z ?_; (case N => k_asm); (case hp => k_mem); (case hd => with_reducible assumption); (case lo => with_reducible assumption); (case z => omega))))
local macro_rules | `(tactic| walk_at "g_ne") => `(tactic| first | (refine' ne_fresh2 ?l ?l2 ?h; (case l2 => with_reducible assumption); (case l => with_reducible assumption); (case h => walk_at "g_has")) | (refine' ne_fresh2' ?l ?l2 ?h; (case l2 => with_reducible assumption); (case l => with_reducible assumption); (case h => walk_at "g_has")))
local macro_rules | `(tactic| walk_at "g_nth") => `(tactic| first | rfl | with_reducible assumption | (simp; done))
local macro_rules | `(tactic| walk_at "g_len") => `(tactic| first | omega | (simp only [List.length_cons, List.length_append, List.length_nil, refs_length, List.length_reverse, List.length_map]; omega))
local macro_rules | `(tactic| walk_at "subscriptTail") => `(tactic| (k_here; (with_reducible show wpAny _ _ (subscriptTail _ _ (Value.ref _) (Value.int _ _)) _ _ _); k_dflt (first | (refine' r_item ?N ?hm ?h0 ?hf ?hx ?_ ?hs; (case N => k_asm); (case hm => k_mem); (case h0 => first | decide | omega); (case hf => first | decide | omega); (case hx => walk_at "g_nth"); (case hs => with_unfolding_all rfl); k_whole) | (refine' r_back ?N ?hm ?h0 ?h1 ?hf ?hx ?_ ?hs; (case N => k_asm); (case hm => k_mem); (case h0 => decide); (case h1 => walk_at "g_len"); (case hf => decide); (case hx => walk_at "g_nth"); (case hs => with_unfolding_all rfl); k_whole) | (refine' r_tup ?N ?hm ?h0 ?hf ?hj ?hx ?_ ?hs; (case N => k_asm); (case hm => k_mem); (case h0 => decide); (case hf => decide); (case hj => rfl); (case hx => rfl); (case hs => with_unfolding_all rfl); k_whole))))
local macro_rules | `(tactic| walk_at "subscriptTail Name Slice ref ref") => `(tactic| (k_here; k_dflt (refine' r_slice_all ?F ?N ?hm ?z ?_ ?hs ?ht; (case F => k_asm); (case N => k_asm); (case hm => k_mem); (case z => walk_at "g_len"); (case hs => with_unfolding_all rfl); (case ht => intro _; with_unfolding_all rfl)); intro D' h' F' N' l1))
local macro_rules | `(tactic| walk_at "truthy ref") => `(tactic| (k_here; k_dflt (refine' r_truthy ?N ?hm ?z ?_; (case N => k_asm); (case hm => k_mem); (case z => walk_at "g_len")); intro tk'))
local macro_rules | `(tactic| walk_at "getMethod ref") => `(tactic| (k_here; k_dflt (first | ((with_reducible show wpAny _ _ (getMethod (Value.ref _) (Str.ofString "pop") _) _ _ _); refine' r_method ?N ?hm PySem.F.slot_list_pop PySem.F.type_list_pop ?_; (case N => k_asm); (case hm => k_mem)) | ((with_reducible show wpAny _ _ (getMethod (Value.ref _) (Str.ofString "append") _) _ _ _); refine' r_method ?N ?hm PySem.F.slot_list_append PySem.F.type_list_append ?_; (case N => k_asm); (case hm => k_mem)) | ((with_reducible show wpAny _ _ (getMethod (Value.ref _) (Str.ofString "reverse") _) _ _ _); refine' r_method ?N ?hm PySem.F.slot_list_reverse PySem.F.type_list_reverse ?_; (case N => k_asm); (case hm => k_mem)))))
local macro_rules | `(tactic| walk_at "call builtin:list.pop") => `(tactic| (k_here; k_dflt (first | (refine' r_pop0 ?F ?N ?hm ?e ?z ?_; (case F => k_asm); (case N => k_asm); (case hm => k_mem); (case e => first | with_reducible exact rrefs_cons | with_reducible assumption | rfl); (case z => walk_at "g_len")) | (refine' r_pop ?F ?N ?hm ?e ?z ?_; (case F => k_asm); (case N => k_asm); (case hm => k_mem); (case e => with_reducible assumption); (case z => walk_at "g_len"))); intro h' F' N'))
local macro_rules | `(tactic| walk_at "call builtin:list.append") => `(tactic| (k_here; k_dflt (refine' r_append ?F ?N ?hm ?z ?_; (case F => k_asm); (case N => k_asm); (case hm => k_mem); (case z => walk_at "g_len")); intro h' F' N'))
local macro_rules | `(tactic| walk_at "call builtin:list.reverse") => `(tactic| (k_here; k_dflt (refine' r_reverse ?F ?N ?hm ?z ?_; (case F => k_asm); (case N => k_asm); (case hm => k_mem); (case z => walk_at "g_len")); intro h' F' N'))
local macro_rules | `(tactic| walk_at "call builtin:len") => `(tactic| (k_here; (with_reducible show wpAny _ _ (call (Value.builtin "len") [Value.ref _]) _ _ _); k_dflt (refine' r_len ?N ?hm ?z ?_; (case N => k_asm); (case hm => k_mem); (case z => walk_at "g_len"))))
local macro_rules | `(tactic| walk_at "setAttr ref") => `(tactic| (k_here; k_dflt (refine' r_setattr ?F ?X ?N ?hx ?hd ?k4 ?k5 ?k6 ?k7 ?k8 ?k9 ?kz ?_; (case F => k_asm); (case X => k_asm); (case N => k_asm); (case hx => k_mem); (case hd => k_mem); (case k4 => k_is); (case k5 => k_is); (case k6 => k_is); (case k7 => k_is); (case k8 => k_get); (case k9 => k_put); (case kz => exact Nat.le_of_ble_eq_true rfl); k_whole); intro h' F' N'))
local macro_rules | `(tactic| walk_at "call builtin:dict.pop") => `(tactic| (k_here; k_dflt (refine' r_dpop ?N ?hm ?hd ?lo ?_; (case N => k_asm); (case hm => k_mem); (case hd => with_reducible assumption); (case lo => with_reducible assumption))))
local macro_rules | `(tactic| walk_at "exec For Name Name cons nil") => `(tactic| (k_here; (rename Fr _ _ _ _ => lF'); (with_unfolding_all refine' For_invVF lF' ?k1 ?k2 ?_; (case k1 => exact rfl); (case k2 => exact rfl); k_whole)))
local macro_rules | `(tactic| walk_at "pyIter ref") => `(tactic| ((with_reducible show wpAny _ _ (pyIter (Value.ref _)) (fun it s₂ => LoopAtV _ _ _ _ _ _ _ _ _ it s₂) _ _); k_dflt (refine' for_none ?hh ?F ?N ?hm ?hi ?e ?_; (case hh => rfl); (case F => k_asm); (case N => k_asm); (case hm => k_mem); (case hi => with_reducible assumption); (case e => rfl)); intro h' tk' F' N'))

local macro_rules | `(tactic| walk_at "exec If") => `(tactic| ((fail_if_success (with_reducible show wpAny _ _ _ (fun f s' => f = Flow.next ∧ RowsJ _ _ _ _ _ _ _ s') _ _)); (with_reducible show wpAny _ _ (exec (Stmt.If (Expr.Call _ _ _ _) _ _ _) _) _ _ _); refine stop_here ?_))
local macro_rules | `(tactic| walk_at "exec Assign cons ListComp") => `(tactic| (k_here; k_dflt (refine' cg_assign ?F0 ?k1 ?k2 ?k3 ?k4 ?k5 ?k6 ?k7 ?k8 ?_; (case F0 => k_asm); (case k1 => exact rfl); (case k2 => with_unfolding_all rfl); (case k3 => with_unfolding_all rfl); (case k4 => decide); (case k5 => rfl); (case k6 => decide); (case k7 => rfl); (case k8 => rfl))))
local macro_rules | `(tactic| walk_at "call type:enumerate") => `(tactic| (k_dflt (refine' enum_src ?hh ?F ?N ?hm ?hi ?hz ?e1 ?e2 ?e3 ?e4 ?e5 ?e6 ?_; (case hh => rfl); (case F => k_asm); (case N => k_asm); (case hm => k_mem); (case hi => with_reducible assumption); (case hz => omega); (case e1 => rfl); (case e2 => rfl); (case e3 => rfl); (case e4 => decide); (case e5 => decide); (case e6 => decide)); intro D' h' tk' rs' F' N' e' l1' l2'))
local macro_rules | `(tactic| walk_at "pyIter ref") => `(tactic| ((with_reducible show wpAny _ _ (pyIter (Value.ref _)) (CgSrc _ _ _ _ _ _ _ _ _ _ _ _ _) _ _); k_dflt (refine' dict_src ?hh ?F ?N ?hv ?hm ?hd ?hk ?hi ?hz ?e1 ?e2 ?e3 ?e4 ?e5 ?e6 ?_; (case hh => rfl); (case F => k_asm); (case N => k_asm); (case hv => with_reducible assumption); (case hm => k_mem); (case hd => with_reducible assumption); (case hk => with_reducible assumption); (case hi => with_reducible assumption); (case hz => omega); (case e1 => rfl); (case e2 => rfl); (case e3 => rfl); (case e4 => decide); (case e5 => decide); (case e6 => decide)); intro D' h' tk' rs' F' N' e' l1' l2'))
local macro_rules | `(tactic| walk_at "call builtin:dict.items") => `(tactic| (k_here; k_dflt (refine' kta_callItems (knd := PySem.intKind _ _) ?F ?N ?hm ?hd ?lo ?_; (case F => k_asm); (case N => k_asm); (case hm => k_mem); (case hd => with_reducible assumption); (case lo => with_reducible assumption)); intro h' hv' F' N'))
local macro_rules | `(tactic| walk_at "getMethod ref") => `(tactic| ((with_reducible show wpAny _ _ (getMethod (Value.ref _) (Str.ofString "items") _) _ _ _); k_here; k_dflt (refine' kdl_method (knd := PySem.intKind _ _) PySem.F.slot_dict_items PySem.F.type_dict_items ?N ?hm ?hd ?_; (case N => k_asm); (case hm => k_mem); (case hd => with_reducible assumption))))
local macro_rules | `(tactic| walk_at "call builtin:isinstance") => `(tactic| (k_here; k_dflt (refine' r_isdict ?N ?hm ?hd ?_; (case N => k_asm); (case hm => k_mem); (case hd => with_reducible assumption))))
local macro_rules | `(tactic| walk_at "truthy ref") => `(tactic| (k_here; k_dflt (first | (refine' r_truthy_cons ?N ?hm ?e ?z ?_; (case N => k_asm); (case hm => k_mem); (case e => with_reducible exact rrefs_cons); (case z => walk_at "g_len")) | (refine' r_truthy_nil ?N ?hm ?e ?_; (case N => k_asm); (case hm => k_mem); (case e => rfl))); intro tk'))
local macro_rules | `(tactic| walk_at "g_len") => `(tactic| first | omega | (simp only [List.length_cons, List.length_append, List.length_nil, refs_length, rrefs_length, List.length_reverse, List.length_map]; omega))
local macro_rules | `(tactic| walk_at "call builtin:list.reverse") => `(tactic| (k_here; k_dflt (refine' r_reverse_refs ?F ?N ?hm ?z ?_; (case F => k_asm); (case N => k_asm); (case hm => k_mem); (case z => walk_at "g_len")); intro h' F' N'))
local macro_rules | `(tactic| walk_at "eval ListComp") => `(tactic| (k_here; k_dflt (refine' cg_comp ?F0 ?k3 ?k4 ?k5 ?k6 ?_; (case F0 => k_asm); (case k3 => with_unfolding_all rfl); (case k4 => decide); (case k5 => rfl); (case k6 => decide))))
local macro_rules | `(tactic| walk_at "pyIter ref") => `(tactic| ((with_reducible show wpAny _ _ (pyIter (Value.ref _)) (CgSrc _ _ _ _ _ _ _ _ (Expr.Name _ _) _ _ _ _) _ _); k_dflt (refine' second_src ?hh ?F ?N ?hm ?hz ?ht ?e1 ?e2 ?e3 ?_; (case hh => rfl); (case F => k_asm); (case N => k_asm); (case hm => k_mem); (case ht => with_reducible assumption); (case hz => walk_at "g_len"); (case e1 => rfl); (case e2 => rfl); (case e3 => decide)); intro D' h' tk' F' N' l1'))
local macro_rules | `(tactic| walk_at "call builtin:list.sort") => `(tactic| refine stop_here ?_)
local macro_rules | `(tactic| walk_at "exec While Name cons nil") => `(tactic| refine stop_here ?_)
local macro_rules | `(tactic| walk_at "g_nth") => `(tactic| first | with_reducible exact rrefs_last | with_reducible exact rrefs_first)

theorem evals_d {es : List TE} : (evals es).map (·.2) = es.map (·.d) := by simp [evals]
theorem pops_ne {th : Int} {n : Nat} {l : List (Int × Int)} (h : 0 < l.length) : 1 ≤ (pops th (n + 1) l).length := by
  match l, h with
  | [x], _ => exact Nat.le_refl _
  | x :: y :: r, _ => (rw [pops]; split <;> exact Nat.succ_le_succ (Nat.zero_le _))
theorem mc2 {w : World} {A₀ : Around} {base h₀ : Heap} {L a : Addr} {m mg mb : Str → Option Value} {cn : Str} {cnm : List (Str × NameKind)} {cig cic : Bool} {cmo : List (Str × Const)} {ccd : Value} {news : List (Addr × Obj)}
   {p : Program} {loose : List Str} {mean : ExcName → Option Value} {s : Shared} {Q E : Value → Shared → Prop} {e1 : Env}
   (B : Below A₀ base [e1] h₀) (Fh : Fr h₀ L s.heap m) (X₀ : (hd.heap_39 w.params).In h₀) (N : News h₀ L s.heap news) (T : Top p loose mean mg mb h₀) {r : Addr} {c : Nat} {es : List TE} (hr : (r, listOf (refs es).toArray c) ∈ news) (ht : ∀ e ∈ es, (e.t, tupO e) ∈ news) (h1 : 1 ≤ es.length) (hz : es.length ≤ 9)
   (hQ : ∀ {h' tk D cd vs news'}, Fr h₀ L h' m → News h₀ L h' news' → (D, listOf vs cd) ∈ news' → IntsAre vs.toList (runsK (es.map (·.d)) es.length) → (∀ a o, (a, o) ∈ news → (a, o) ∈ news') → Q (.ref D) { s with heap := h', toks := tk }) :
   wpAny (model Challenge.rw_aq6051_01.row.prog w) (((callerA.deeper e1).deeper (envOf cn { kind := .function, names := cnm, isGenerator := cig, isCoroutine := cic, more := cmo } L a ccd))) (call (.ref 645) [.ref r]) Q E s := by
  cases es with
  | nil => simp at h1
  | cons e0 ts => exact mc B Fh X₀ N T hr (ht e0 (by simp)) ht hz hQ
local macro_rules | `(tactic| walk_at "call ref") => `(tactic| (k_here; (with_reducible show wpAny _ _ (call (Value.ref 645) [Value.ref _]) _ _ _); k_dflt (refine' mc2 ?B ?F ?X ?N ?T ?hr ?ht ?h1 ?hz ?_; (case B => with_reducible assumption); (case F => k_asm); (case X => k_asm); (case N => k_asm); (case T => with_reducible assumption); (case hr => k_mem); (case ht => with_reducible assumption); (case h1 => omega); (case hz => omega)); intro h' tk' D' cd' vs' news' F' N' hm' hi' hk'))

set_option maxRecDepth 100000 in
set_option maxHeartbeats 4000000 in
theorem wt_c {ccl : List (Str × Addr)} {w : World} {A₀ : Around} {base h₀ : Heap} {L a : Addr} {m mg mb : Str → Option Value} {cn : Str} {cnm : List (Str × NameKind)} {cig cic : Bool} {cmo : List (Str × Const)} {ccd : Value} {news : List (Addr × Obj)}
   {p : Program} {loose : List Str} {mean : ExcName → Option Value} {s : Shared} {Q E : Value → Shared → Prop} 
   (B : Below A₀ base [] h₀) (Fh : Fr h₀ L s.heap m) (X₀ : (hd.heap_39 w.params).In h₀) (N : News h₀ L s.heap news) (T : Top p loose mean mg mb h₀) {r : Addr} {ps : List (Int × Int)} (W : WIn w r news ps) (h2 : 2 ≤ ps.length) (h9 : ps.length ≤ 9) (hnd : (ps.map (·.1)).Nodup) {th : Int} {tt : Tok}
   (hQ : ∀ {h' tk D cd vs news'}, Fr h₀ L h' m → News h₀ L h' news' → (D, listOf vs cd) ∈ news' → IntsAre vs.toList (runsK ((pops th ps.length (sortP ps)).reverse.map (·.2)) ((pops th ps.length (sortP ps)).reverse.map (·.2)).length) → (∀ a o, (a, o) ∈ news → (a, o) ∈ news') → Q (.ref D) { s with heap := h', toks := tk }) :
   wpAny (model Challenge.rw_aq6051_01.row.prog w) (callerA.deeper (envX cn { kind := .function, names := cnm, isGenerator := cig, isCoroutine := cic, more := cmo } L a ccd ccl)) (call (.ref 658) [.ref r, .int th tt] [(Str.ofString "compact", .bool true)]) Q E s := by
  revert X₀
  k_fill
  intro X₀
  w_on
  have hmk : NewsIs news := ⟨⟩
  k_steps
  refine ⟨?_⟩
  rename Fr _ _ _ _ => F9
  rename News _ _ _ _ => N9
  refine' rows_join (Str.ofString "wseq") ps F9 N9 ?first ?rest
  (case first =>
    cases W with
    | list hm hi =>
      have hz9 := hi.length
      simp only [List.length_map, List.length_zipIdx] at h9
      k_steps
      first | exact ⟨_, _, _, _, rfl, by k_asm, by k_asm, by with_reducible assumption, by with_reducible assumption, by with_reducible assumption⟩ | w_report
    | dict hm hd lo hk hi hkl =>
      simp only [List.length_zip, hkl, Nat.min_self] at h9
      k_steps
      first | exact ⟨_, _, _, _, rfl, by k_asm, by k_asm, by with_reducible assumption, by with_reducible assumption, by with_reducible assumption⟩ | w_report)
  intro h1 tk1 D rs F1 N1 e1 l1 l2
  have hrl : rs.length = ps.length := by rw [← e1, rvals_length]
  k_steps
  refine ⟨?_⟩
  refine' r_sort ?F ?N ?hm (rows_facts l2) ?h2 ?h64 ?hu ?hnd ?_
  (case F => k_asm)
  (case N => k_asm)
  (case hm => k_mem)
  (case h2 => omega)
  (case h64 => omega)
  (case hu => exact Nat.le_of_ble_eq_true rfl)
  (case hnd => (rw [e1]; exact hnd))
  intro h2' c2 rs2 F2 N2 hp2 hs2
  rw [e1] at hs2
  have hl2 : rs2.length = ps.length := by rw [hp2.length_eq, hrl]
  have hr2 := fun r hr => rows_facts (o := lst (rrefs rs)) (news := news) l2 r (hp2.mem_iff.mp hr)
  obtain ⟨p2, z2, rfl⟩ := snoc_of (l := rs2) (by omega)
  obtain ⟨hz2, hz2n⟩ := hr2 z2 (by simp)
  have hpl2 : (rrefs (p2 ++ [z2])).length = ps.length := by rw [rrefs_length]; exact hl2
  k_steps
  refine ⟨?_⟩
  rename Fr _ _ _ _ => F3
  rename News _ _ _ _ => N3
  refine' wt_loop [Str.ofString "w", Str.ofString "label"] (Str.ofString "cutoff") hmk F3 N3 (WTG.init hr2 l1 (by with_reducible assumption)) ?h9 ?h1 CO.of ?turn ?stop
  (case h9 => omega)
  (case h1 => omega)
  (case stop =>
    refine ⟨?_⟩
    intro cw es cc u nw h tk G hes hev F4 N4
    have gC := G.hC
    have gW := G.hW
    have wc := G.wc
    have hrl9 : es.reverse.length ≤ 9 := by (rw [List.length_reverse]; exact hes)
    have hrt9 : ∀ e ∈ es.reverse, (e.t, tupO e) ∈ upd _ (listOf (refs es.reverse).toArray cc) nw := fun e he => let z := G.tups e (List.mem_reverse.mp he); mem_upd z.1 z.2.2
    have kp9 : ∀ a o, (a, o) ∈ news → (a, o) ∈ upd _ (listOf (refs es.reverse).toArray cc) nw := fun a' o' hm' => let z := G.keep a' o' hm'; mem_upd z.1 z.2.2
    rw [hs2, hl2] at hev
    have hev9 : evals es.reverse = (pops th ps.length (sortP ps)).reverse := by (rw [evals_rev, hev])
    have hne9 : 1 ≤ es.reverse.length := by
      have := congrArg List.length hev
      have h4 : 1 ≤ (pops th ps.length (sortP ps)).length := by
        rw [show ps.length = (ps.length - 1) + 1 by omega]
        exact pops_ne (by rw [← hs2, rvals_length]; omega)
      simp only [evals, List.length_map] at this
      rw [List.length_reverse]; omega
    k_steps
    rename Fr h₀ _ _ _ => F8
    rename News h₀ _ _ _ => N8
    rename IntsAre _ _ => i8
    rename (∀ (a : Addr) (o : Obj), _ → (a, o) ∈ _) => k8
    exact hQ F8 N8 (by with_reducible assumption) (by rw [← hev9]; rw [evals_d, List.length_map]; exact i8) (fun a' o' hm' => k8 a' o' (kp9 a' o' hm')))
  (case turn =>
    refine ⟨?_⟩
    intro r0 mid rl cw es cc tco u nw h tk G hmid hes cont F4 N4
    obtain ⟨g0, g0w, g0c⟩ := G.rows r0 (by simp)
    obtain ⟨gl, glw, glc⟩ := G.rows rl (by simp)
    have gC := G.hC
    have gW := G.hW
    have wc := G.wc
    have hrel := refs_length es
    by_cases hlt : r0.w < th - rl.w
    · have hpo := pops_I (mid := mid) hlt
      cases mid with
      | nil =>
        simp only [List.nil_append] at gW G cont hpo
        have hs1 : rrefs [rl] = [] ++ [Value.ref rl.a] := rfl
        k_steps
        · rename Fr _ _ _ _ => F8
          rename News _ _ _ _ => N8
          exact cont _ _ _ _ [] _ _ _ _ _ F8 N8 (step1 true (step1 false G (rem' := [rl]) (by simp) rfl rfl (by with_reducible assumption)) (by simp) refs_snoc' rfl (by with_reducible assumption)) (by simp) (by simp) CO.nil (by rw [hpo, evals_snoc, evals_snoc, pops_one]; simp [pops, rvals]) rfl (by intro z hz1 hz2; have q := stored2 hz2; simp only [if_neg hz1, if_neg q.1, if_neg q.2, hz2, Bool.false_eq_true, if_false])
        · exact absurd rfl (by assumption)
      | cons m0 mid' =>
        simp only [List.length_cons] at hmid
        k_steps
        · exfalso
          rename @Eq Int _ _ => hl1
          simp only [rrefs_length, List.length_append, List.length_cons, List.length_nil] at hl1
          omega
        · rename Fr _ _ _ _ => F8
          rename News _ _ _ _ => N8
          exact cont _ _ _ _ (m0 :: mid' ++ [rl]) _ _ _ _ _ F8 N8 (step1 false G (fun r hr => List.mem_cons_of_mem _ hr) rfl rfl (by with_reducible assumption)) (by simp) (by simp) CO.of (by rw [hpo, evals_snoc]; simp) rfl (by intro z hz1 hz2; have q := stored2 hz2; simp only [if_neg hz1, if_neg q.1, if_neg q.2, hz2, Bool.false_eq_true, if_false])
    · have hpo := pops_D (mid := mid) hlt
      obtain ⟨q, z, hqz⟩ := snoc_of (l := r0 :: mid) (by simp)
      obtain ⟨gz, gzw, gzc⟩ := G.rows z (by (have : z ∈ r0 :: mid := by (rw [hqz]; simp)); simp at this ⊢; rcases this with h | h <;> simp [h])
      have hs1 : rrefs (r0 :: (mid ++ [rl])) = rrefs (q ++ [z]) ++ [Value.ref rl.a] := by (rw [← hqz]; simp [rrefs])
      have hlq : (rrefs (q ++ [z])).length = mid.length + 1 := by (rw [← hqz, rrefs_length]; rfl)
      have hsub : ∀ r ∈ q ++ [z], r ∈ r0 :: (mid ++ [rl]) := fun r hr => by (rw [← hqz] at hr; simp at hr ⊢; rcases hr with h | h <;> simp [h])
      rw [hqz] at hpo
      have hlq2 : (q ++ [z]).length = mid.length + 1 := by (rw [← hqz]; rfl)
      cases mid with
      | nil =>
        obtain ⟨hq0, hz0⟩ : q = [] ∧ z = r0 := by (cases q with | nil => (simp at hqz; exact ⟨rfl, hqz.symm⟩) | cons _ _ => simp at hqz)
        subst hq0 hz0
        simp only [List.nil_append] at gW G cont hpo hs1 hsub
        have hs2 : rrefs [z] = [] ++ [Value.ref z.a] := rfl
        have hlst : (rrefs [z])[((-1 : Int) + ((rrefs [z]).length : Int)).toNat]? = some (.ref z.a) := rfl
        k_steps
        · rename Fr _ _ _ _ => F8
          rename News _ _ _ _ => N8
          exact cont _ _ _ _ [] _ _ _ _ _ F8 N8 (step1 true (step1 true G (rem' := [z]) hsub rfl rfl (by with_reducible assumption)) (by simp) refs_snoc' rfl (by with_reducible assumption)) (by simp) (by simp) CO.nil (by rw [hpo, evals_snoc, evals_snoc, pops_one]; simp [pops, rvals]) rfl (by intro z hz1 hz2; have q := stored2 hz2; simp only [if_neg hz1, if_neg q.1, if_neg q.2, hz2, Bool.false_eq_true, if_false])
        · exact absurd rfl (by assumption)
      | cons m0 mid' =>
        simp only [List.length_cons] at hmid hlq hlq2
        k_steps
        · exfalso
          rename @Eq Int _ _ => hl1
          rw [hlq] at hl1
          omega
        · rename Fr _ _ _ _ => F8
          rename News _ _ _ _ => N8
          exact cont _ _ _ _ (q ++ [z]) _ _ _ _ _ F8 N8 (step1 true G hsub rfl rfl (by with_reducible assumption)) (by rw [hlq2]; simp) (by rw [hlq2]; simp) CO.of (by rw [hpo, evals_snoc]; simp) rfl (by intro z hz1 hz2; have q := stored2 hz2; simp only [if_neg hz1, if_neg q.1, if_neg q.2, hz2, Bool.false_eq_true, if_false]))
  all_goals w_report


end Mine
end

section
open PySem PySem.W PyProof.Rows PySem.Calls PySem.Spec PyProof.V
set_option Elab.async false
set_option linter.unusedVariables false
namespace Mine
set_option pp.maxSteps 3000
set_option pp.deepTerms false
open PyProof.Rows.LCg
local macro_rules | `(tactic| k_lt $_h:ident) => `(tactic| skip)
local macro_rules | `(tactic| walk_at "g_ne") => `(tactic| first | with_reducible assumption | (refine Ne.symm ?_; with_reducible assumption) | exact Nat.ne_of_gt (by with_reducible assumption) | exact Nat.ne_of_lt (by with_reducible assumption) | (refine' ne_fresh ?l ?h; (case l => with_reducible assumption); (case h => walk_at "g_has")) | (refine' ne_fresh' ?l ?h; (case l => with_reducible assumption); (case h => walk_at "g_has")))
local macro_rules | `(tactic| walk_at "g_has") => `(tactic| first | with_reducible exact Has.of (by with_reducible assumption) | with_reducible exact Has.self | with_reducible exact Has.self_upd | (with_reducible refine Has.cons ?_; walk_at "g_has") | (with_reducible refine Has.upd ?_; walk_at "g_has"))
local macro_rules | `(tactic| k_mem) => `(tactic| first | with_reducible assumption | with_reducible exact mem_upd_self | (with_reducible refine' mem_upd ?h ?n; (case h => k_mem); (case n => walk_at "g_ne")) | with_reducible exact List.mem_cons_self | (with_reducible refine List.mem_cons_of_mem _ ?_; k_mem))
local macro_rules | `(tactic| walk_at "g_val") => `(tactic| first | with_reducible assumption | with_reducible exact valueAt_stored_self _ _ _ | (rw [valueAt_stored_ne (by walk_at "g_ne")]; walk_at "g_val") | rfl)
local macro_rules | `(tactic| walk_at "g_size") => `(tactic| (rw [sizeLine_eq]; first | omega | (refine Nat.le_trans (stored_length_le _ _ _) ?_; omega) | (simp; done)))
local macro_rules | `(tactic| walk_at "compareOp NotIn int ref") => `(tactic| (k_here; k_dflt (first
  | (refine' r_notin_no (knd := PySem.intKind _ _) ?N ?hp ?hd ?lo (intKind_is _ _ _ _) ?hl ?_; (case N => k_asm); (case hp => k_mem); (case hd => with_reducible assumption); (case lo => with_reducible assumption); (case hl => walk_at "g_val"))
  | (refine' r_notin_yes (knd := PySem.intKind _ _) ?N ?hp ?hd ?lo (intKind_is _ _ _ _) ?hl ?_; (case N => k_asm); (case hp => k_mem); (case hd => with_reducible assumption); (case lo => with_reducible assumption); (case hl => walk_at "g_val")))))
local macro_rules | `(tactic| walk_at "compareOp In int ref") => `(tactic| (k_here; k_dflt (first
  | (refine' r_in_no (knd := PySem.intKind _ _) ?N ?hp ?hd ?lo (intKind_is _ _ _ _) ?hl ?_; (case N => k_asm); (case hp => k_mem); (case hd => with_reducible assumption); (case lo => with_reducible assumption); (case hl => walk_at "g_val"))
  | (refine' r_in_yes (knd := PySem.intKind _ _) ?N ?hp ?hd ?lo (intKind_is _ _ _ _) ?hl ?_; (case N => k_asm); (case hp => k_mem); (case hd => with_reducible assumption); (case lo => with_reducible assumption); (case hl => walk_at "g_val")))))
local macro_rules | `(tactic| walk_at "getItem ref int") => `(tactic| (k_here; k_dflt (refine' kdt_getItem (knd := PySem.intKind _ _) ?N ?hp ?hd (intKind_is _ _ _ _) ?hl ?_; (case N => k_asm); (case hp => k_mem); (case hd => with_reducible assumption); (case hl => walk_at "g_val"))))
local macro_rules | `(tactic| walk_at "subscriptTail") => `(tactic| (k_here; (with_reducible show wpAny _ _ (subscriptTail _ _ (Value.ref _) (Value.int _ _)) _ _ _); k_dflt (refine' kdt_tail (knd := PySem.intKind _ _) ?N ?hp ?hd ?_; (case N => k_asm); (case hp => k_mem); (case hd => with_reducible assumption))))
local macro_rules | `(tactic| walk_at "setItem ref int") => `(tactic| (k_here; k_dflt (refine' r_set (knd := PySem.intKind _ _) ?F ?N ?hm ?hd (intKind_is _ _ _ _) ?z ?_; (case F => k_asm); (case N => k_asm); (case hm => k_mem); (case hd => with_reducible assumption); (case z => walk_at "g_size")); intro h' o' F' N' hd'))
local macro_rules | `(tactic| walk_at "call builtin:dict.get") => `(tactic| (k_here; k_dflt (refine' r_get2_no (knd := PySem.intKind _ _) ?N ?hp ?hd ?lo (intKind_is _ _ _ _) ?hl ?_; (case N => k_asm); (case hp => k_mem); (case hd => with_reducible assumption); (case lo => with_reducible assumption); (case hl => walk_at "g_val"))))
local macro_rules | `(tactic| walk_at "call builtin:dict.update") => `(tactic| (k_here; k_dflt (refine' r_update_nil ?F ?N ?hm ?hd ?hm2 ?hd2 ?lo ?ne ?_; (case F => k_asm); (case N => k_asm); (case hm => k_mem); (case hd => with_reducible assumption); (case hm2 => k_mem); (case hd2 => with_reducible assumption); (case lo => with_reducible assumption); (case ne => walk_at "g_ne")); intro h' o' F' N' hd'))
local macro_rules | `(tactic| walk_at "getMethod ref") => `(tactic| (k_here; k_dflt (first
  | ((with_reducible show wpAny _ _ (getMethod (Value.ref _) (Str.ofString "get") _) _ _ _); refine' kdg_method (knd := PySem.intKind _ _) ?N ?hp ?hd ?_; (case N => k_asm); (case hp => k_mem); (case hd => with_reducible assumption))
  | ((with_reducible show wpAny _ _ (getMethod (Value.ref _) (Str.ofString "update") _) _ _ _); refine' kdl_method (knd := PySem.strKind _ _) PySem.F.slot_dict_update PySem.F.type_dict_update ?N ?hp ?hd ?_; (case N => k_asm); (case hp => k_mem); (case hd => with_reducible assumption)))))

local macro_rules | `(tactic| walk_at "call builtin:len") => `(tactic| (k_here; (with_reducible show wpAny _ _ (call (Value.builtin "len") [Value.ref _]) _ _ _); k_dflt (refine' kda_len (knd := PySem.intKind _ _) ?N ?hp ?hd ?lo ?z ?_; (case N => k_asm); (case hp => k_mem); (case hd => with_reducible assumption); (case lo => with_reducible assumption); (case z => omega))))
local macro_rules | `(tactic| walk_at "g_ne") => `(tactic| first | (refine' ne_fresh2 ?l ?l2 ?h; (case l2 => with_reducible assumption); (case l => with_reducible assumption); (case h => walk_at "g_has")) | (refine' ne_fresh2' ?l ?l2 ?h; (case l2 => with_reducible assumption); (case l => with_reducible assumption); (case h => walk_at "g_has")))
local macro_rules | `(tactic| walk_at "g_nth") => `(tactic| first | rfl | with_reducible assumption | (simp; done))
local macro_rules | `(tactic| walk_at "g_len") => `(tactic| first | omega | (simp only [List.length_cons, List.length_append, List.length_nil, refs_length, List.length_reverse, List.length_map]; omega))
local macro_rules | `(tactic| walk_at "subscriptTail") => `(tactic| (k_here; (with_reducible show wpAny _ _ (subscriptTail _ _ (Value.ref _) (Value.int _ _)) _ _ _); k_dflt (first | (refine' r_item ?N ?hm ?h0 ?hf ?hx ?_ ?hs; (case N => k_asm); (case hm => k_mem); (case h0 => first | decide | omega); (case hf => first | decide | omega); (case hx => walk_at "g_nth"); (case hs => with_unfolding_all rfl); k_whole) | (refine' r_back ?N ?hm ?h0 ?h1 ?hf ?hx ?_ ?hs; (case N => k_asm); (case hm => k_mem); (case h0 => decide); (case h1 => walk_at "g_len"); (case hf => decide); (case hx => walk_at "g_nth"); (case hs => with_unfolding_all rfl); k_whole) | (refine' r_tup ?N ?hm ?h0 ?hf ?hj ?hx ?_ ?hs; (case N => k_asm); (case hm => k_mem); (case h0 => decide); (case hf => decide); (case hj => rfl); (case hx => rfl); (case hs => with_unfolding_all rfl); k_whole))))
local macro_rules | `(tactic| walk_at "subscriptTail Name Slice ref ref") => `(tactic| (k_here; k_dflt (refine' r_slice_all ?F ?N ?hm ?z ?_ ?hs ?ht; (case F => k_asm); (case N => k_asm); (case hm => k_mem); (case z => walk_at "g_len"); (case hs => with_unfolding_all rfl); (case ht => intro _; with_unfolding_all rfl)); intro D' h' F' N' l1))
local macro_rules | `(tactic| walk_at "truthy ref") => `(tactic| (k_here; k_dflt (refine' r_truthy ?N ?hm ?z ?_; (case N => k_asm); (case hm => k_mem); (case z => walk_at "g_len")); intro tk'))
local macro_rules | `(tactic| walk_at "getMethod ref") => `(tactic| (k_here; k_dflt (first | ((with_reducible show wpAny _ _ (getMethod (Value.ref _) (Str.ofString "pop") _) _ _ _); refine' r_method ?N ?hm PySem.F.slot_list_pop PySem.F.type_list_pop ?_; (case N => k_asm); (case hm => k_mem)) | ((with_reducible show wpAny _ _ (getMethod (Value.ref _) (Str.ofString "append") _) _ _ _); refine' r_method ?N ?hm PySem.F.slot_list_append PySem.F.type_list_append ?_; (case N => k_asm); (case hm => k_mem)) | ((with_reducible show wpAny _ _ (getMethod (Value.ref _) (Str.ofString "reverse") _) _ _ _); refine' r_method ?N ?hm PySem.F.slot_list_reverse PySem.F.type_list_reverse ?_; (case N => k_asm); (case hm => k_mem)))))
local macro_rules | `(tactic| walk_at "call builtin:list.pop") => `(tactic| (k_here; k_dflt (first | (refine' r_pop0 ?F ?N ?hm ?e ?z ?_; (case F => k_asm); (case N => k_asm); (case hm => k_mem); (case e => first | with_reducible exact rrefs_cons | with_reducible assumption | rfl); (case z => walk_at "g_len")) | (refine' r_pop ?F ?N ?hm ?e ?z ?_; (case F => k_asm); (case N => k_asm); (case hm => k_mem); (case e => with_reducible assumption); (case z => walk_at "g_len"))); intro h' F' N'))
local macro_rules | `(tactic| walk_at "call builtin:list.append") => `(tactic| (k_here; k_dflt (refine' r_append ?F ?N ?hm ?z ?_; (case F => k_asm); (case N => k_asm); (case hm => k_mem); (case z => walk_at "g_len")); intro h' F' N'))
local macro_rules | `(tactic| walk_at "call builtin:list.reverse") => `(tactic| (k_here; k_dflt (refine' r_reverse ?F ?N ?hm ?z ?_; (case F => k_asm); (case N => k_asm); (case hm => k_mem); (case z => walk_at "g_len")); intro h' F' N'))
local macro_rules | `(tactic| walk_at "call builtin:len") => `(tactic| (k_here; (with_reducible show wpAny _ _ (call (Value.builtin "len") [Value.ref _]) _ _ _); k_dflt (refine' r_len ?N ?hm ?z ?_; (case N => k_asm); (case hm => k_mem); (case z => walk_at "g_len"))))
local macro_rules | `(tactic| walk_at "setAttr ref") => `(tactic| (k_here; k_dflt (refine' r_setattr ?F ?X ?N ?hx ?hd ?k4 ?k5 ?k6 ?k7 ?k8 ?k9 ?kz ?_; (case F => k_asm); (case X => k_asm); (case N => k_asm); (case hx => k_mem); (case hd => k_mem); (case k4 => k_is); (case k5 => k_is); (case k6 => k_is); (case k7 => k_is); (case k8 => k_get); (case k9 => k_put); (case kz => exact Nat.le_of_ble_eq_true rfl); k_whole); intro h' F' N'))
local macro_rules | `(tactic| walk_at "call builtin:dict.pop") => `(tactic| (k_here; k_dflt (refine' r_dpop ?N ?hm ?hd ?lo ?_; (case N => k_asm); (case hm => k_mem); (case hd => with_reducible assumption); (case lo => with_reducible assumption))))
local macro_rules | `(tactic| walk_at "exec For Name Name cons nil") => `(tactic| (k_here; (rename Fr _ _ _ _ => lF'); (with_unfolding_all refine' For_invVF lF' ?k1 ?k2 ?_; (case k1 => exact rfl); (case k2 => exact rfl); k_whole)))
local macro_rules | `(tactic| walk_at "pyIter ref") => `(tactic| ((with_reducible show wpAny _ _ (pyIter (Value.ref _)) (fun it s₂ => LoopAtV _ _ _ _ _ _ _ _ _ it s₂) _ _); k_dflt (refine' for_none ?hh ?F ?N ?hm ?hi ?e ?_; (case hh => rfl); (case F => k_asm); (case N => k_asm); (case hm => k_mem); (case hi => with_reducible assumption); (case e => rfl)); intro h' tk' F' N'))

local macro_rules | `(tactic| walk_at "exec If") => `(tactic| ((fail_if_success (with_reducible show wpAny _ _ _ (fun f s' => f = Flow.next ∧ RowsJ _ _ _ _ _ _ _ s') _ _)); (with_reducible show wpAny _ _ (exec (Stmt.If (Expr.Call _ _ _ _) _ _ _) _) _ _ _); refine stop_here ?_))
local macro_rules | `(tactic| walk_at "exec Assign cons ListComp") => `(tactic| (k_here; k_dflt (refine' cg_assign ?F0 ?k1 ?k2 ?k3 ?k4 ?k5 ?k6 ?k7 ?k8 ?_; (case F0 => k_asm); (case k1 => exact rfl); (case k2 => with_unfolding_all rfl); (case k3 => with_unfolding_all rfl); (case k4 => decide); (case k5 => rfl); (case k6 => decide); (case k7 => rfl); (case k8 => rfl))))
local macro_rules | `(tactic| walk_at "call type:enumerate") => `(tactic| (k_dflt (refine' enum_src ?hh ?F ?N ?hm ?hi ?hz ?e1 ?e2 ?e3 ?e4 ?e5 ?e6 ?_; (case hh => rfl); (case F => k_asm); (case N => k_asm); (case hm => k_mem); (case hi => with_reducible assumption); (case hz => omega); (case e1 => rfl); (case e2 => rfl); (case e3 => rfl); (case e4 => decide); (case e5 => decide); (case e6 => decide)); intro D' h' tk' rs' F' N' e' l1' l2'))
local macro_rules | `(tactic| walk_at "pyIter ref") => `(tactic| ((with_reducible show wpAny _ _ (pyIter (Value.ref _)) (CgSrc _ _ _ _ _ _ _ _ _ _ _ _ _) _ _); k_dflt (refine' dict_src ?hh ?F ?N ?hv ?hm ?hd ?hk ?hi ?hz ?e1 ?e2 ?e3 ?e4 ?e5 ?e6 ?_; (case hh => rfl); (case F => k_asm); (case N => k_asm); (case hv => with_reducible assumption); (case hm => k_mem); (case hd => with_reducible assumption); (case hk => with_reducible assumption); (case hi => with_reducible assumption); (case hz => omega); (case e1 => rfl); (case e2 => rfl); (case e3 => rfl); (case e4 => decide); (case e5 => decide); (case e6 => decide)); intro D' h' tk' rs' F' N' e' l1' l2'))
local macro_rules | `(tactic| walk_at "call builtin:dict.items") => `(tactic| (k_here; k_dflt (refine' kta_callItems (knd := PySem.intKind _ _) ?F ?N ?hm ?hd ?lo ?_; (case F => k_asm); (case N => k_asm); (case hm => k_mem); (case hd => with_reducible assumption); (case lo => with_reducible assumption)); intro h' hv' F' N'))
local macro_rules | `(tactic| walk_at "getMethod ref") => `(tactic| ((with_reducible show wpAny _ _ (getMethod (Value.ref _) (Str.ofString "items") _) _ _ _); k_here; k_dflt (refine' kdl_method (knd := PySem.intKind _ _) PySem.F.slot_dict_items PySem.F.type_dict_items ?N ?hm ?hd ?_; (case N => k_asm); (case hm => k_mem); (case hd => with_reducible assumption))))
local macro_rules | `(tactic| walk_at "call builtin:isinstance") => `(tactic| (k_here; k_dflt (refine' r_isdict ?N ?hm ?hd ?_; (case N => k_asm); (case hm => k_mem); (case hd => with_reducible assumption))))
local macro_rules | `(tactic| walk_at "truthy ref") => `(tactic| (k_here; k_dflt (first | (refine' r_truthy_cons ?N ?hm ?e ?z ?_; (case N => k_asm); (case hm => k_mem); (case e => with_reducible exact rrefs_cons); (case z => walk_at "g_len")) | (refine' r_truthy_nil ?N ?hm ?e ?_; (case N => k_asm); (case hm => k_mem); (case e => rfl))); intro tk'))
local macro_rules | `(tactic| walk_at "g_len") => `(tactic| first | omega | (simp only [List.length_cons, List.length_append, List.length_nil, refs_length, rrefs_length, List.length_reverse, List.length_map]; omega))
local macro_rules | `(tactic| walk_at "call builtin:list.reverse") => `(tactic| (k_here; k_dflt (refine' r_reverse_refs ?F ?N ?hm ?z ?_; (case F => k_asm); (case N => k_asm); (case hm => k_mem); (case z => walk_at "g_len")); intro h' F' N'))
local macro_rules | `(tactic| walk_at "eval ListComp") => `(tactic| (k_here; k_dflt (refine' cg_comp ?F0 ?k3 ?k4 ?k5 ?k6 ?_; (case F0 => k_asm); (case k3 => with_unfolding_all rfl); (case k4 => decide); (case k5 => rfl); (case k6 => decide))))
local macro_rules | `(tactic| walk_at "pyIter ref") => `(tactic| ((with_reducible show wpAny _ _ (pyIter (Value.ref _)) (CgSrc _ _ _ _ _ _ _ _ (Expr.Name _ _) _ _ _ _) _ _); k_dflt (refine' second_src ?hh ?F ?N ?hm ?hz ?ht ?e1 ?e2 ?e3 ?_; (case hh => rfl); (case F => k_asm); (case N => k_asm); (case hm => k_mem); (case ht => with_reducible assumption); (case hz => walk_at "g_len"); (case e1 => rfl); (case e2 => rfl); (case e3 => decide)); intro D' h' tk' F' N' l1'))
local macro_rules | `(tactic| walk_at "call builtin:list.sort") => `(tactic| refine stop_here ?_)
local macro_rules | `(tactic| walk_at "exec While Name cons nil") => `(tactic| refine stop_here ?_)
local macro_rules | `(tactic| walk_at "g_nth") => `(tactic| first | with_reducible exact rrefs_last | with_reducible exact rrefs_first)

set_option maxRecDepth 100000 in
set_option maxHeartbeats 4000000 in
theorem wt_l {ccl : List (Str × Addr)} {w : World} {A₀ : Around} {base h₀ : Heap} {L a : Addr} {m mg mb : Str → Option Value} {cn : Str} {cnm : List (Str × NameKind)} {cig cic : Bool} {cmo : List (Str × Const)} {ccd : Value} {news : List (Addr × Obj)}
   {p : Program} {loose : List Str} {mean : ExcName → Option Value} {s : Shared} {Q E : Value → Shared → Prop} 
   (B : Below A₀ base [] h₀) (Fh : Fr h₀ L s.heap m) (X₀ : (hd.heap_39 w.params).In h₀) (N : News h₀ L s.heap news) (T : Top p loose mean mg mb h₀) {r : Addr} {ps : List (Int × Int)} (W : WIn w r news ps) (h2 : 2 ≤ ps.length) (h9 : ps.length ≤ 9) (hnd : (ps.map (·.1)).Nodup) {th : Int} {tt : Tok}
   (hQ : ∀ {h' tk C c es news'}, Fr h₀ L h' m → News h₀ L h' news' → (C, listOf (refs es).toArray c) ∈ news' → evals es = (pops th ps.length (sortP ps)).reverse → (∀ e ∈ es, (e.t, tupO e) ∈ news') → (∀ a o, (a, o) ∈ news → (a, o) ∈ news') → Q (.ref C) { s with heap := h', toks := tk }) :
   wpAny (model Challenge.rw_aq6051_01.row.prog w) (callerA.deeper (envX cn { kind := .function, names := cnm, isGenerator := cig, isCoroutine := cic, more := cmo } L a ccd ccl)) (call (.ref 658) [.ref r, .int th tt] [(Str.ofString "with_labels", .bool true)]) Q E s := by
  revert X₀
  k_fill
  intro X₀
  w_on
  have hmk : NewsIs news := ⟨⟩
  k_steps
  refine ⟨?_⟩
  rename Fr _ _ _ _ => F9
  rename News _ _ _ _ => N9
  refine' rows_join (Str.ofString "wseq") ps F9 N9 ?first ?rest
  (case first =>
    cases W with
    | list hm hi =>
      have hz9 := hi.length
      simp only [List.length_map, List.length_zipIdx] at h9
      k_steps
      first | exact ⟨_, _, _, _, rfl, by k_asm, by k_asm, by with_reducible assumption, by with_reducible assumption, by with_reducible assumption⟩ | w_report
    | dict hm hd lo hk hi hkl =>
      simp only [List.length_zip, hkl, Nat.min_self] at h9
      k_steps
      first | exact ⟨_, _, _, _, rfl, by k_asm, by k_asm, by with_reducible assumption, by with_reducible assumption, by with_reducible assumption⟩ | w_report)
  intro h1 tk1 D rs F1 N1 e1 l1 l2
  have hrl : rs.length = ps.length := by rw [← e1, rvals_length]
  k_steps
  refine ⟨?_⟩
  refine' r_sort ?F ?N ?hm (rows_facts l2) ?h2 ?h64 ?hu ?hnd ?_
  (case F => k_asm)
  (case N => k_asm)
  (case hm => k_mem)
  (case h2 => omega)
  (case h64 => omega)
  (case hu => exact Nat.le_of_ble_eq_true rfl)
  (case hnd => (rw [e1]; exact hnd))
  intro h2' c2 rs2 F2 N2 hp2 hs2
  rw [e1] at hs2
  have hl2 : rs2.length = ps.length := by rw [hp2.length_eq, hrl]
  have hr2 := fun r hr => rows_facts (o := lst (rrefs rs)) (news := news) l2 r (hp2.mem_iff.mp hr)
  obtain ⟨p2, z2, rfl⟩ := snoc_of (l := rs2) (by omega)
  obtain ⟨hz2, hz2n⟩ := hr2 z2 (by simp)
  have hpl2 : (rrefs (p2 ++ [z2])).length = ps.length := by rw [rrefs_length]; exact hl2
  k_steps
  refine ⟨?_⟩
  rename Fr _ _ _ _ => F3
  rename News _ _ _ _ => N3
  refine' wt_loop [Str.ofString "w", Str.ofString "label"] (Str.ofString "cutoff") hmk F3 N3 (WTG.init hr2 l1 (by with_reducible assumption)) ?h9 ?h1 CO.of ?turn ?stop
  (case h9 => omega)
  (case h1 => omega)
  (case stop =>
    refine ⟨?_⟩
    intro cw es cc u nw h tk G hes hev F4 N4
    have gC := G.hC
    have gW := G.hW
    have wc := G.wc
    have hrl9 : es.reverse.length ≤ 9 := by (rw [List.length_reverse]; exact hes)
    have hrt9 : ∀ e ∈ es.reverse, (e.t, tupO e) ∈ upd _ (listOf (refs es.reverse).toArray cc) nw := fun e he => let z := G.tups e (List.mem_reverse.mp he); mem_upd z.1 z.2.2
    have kp9 : ∀ a o, (a, o) ∈ news → (a, o) ∈ upd _ (listOf (refs es.reverse).toArray cc) nw := fun a' o' hm' => let z := G.keep a' o' hm'; mem_upd z.1 z.2.2
    rw [hs2, hl2] at hev
    have hev9 : evals es.reverse = (pops th ps.length (sortP ps)).reverse := by (rw [evals_rev, hev])
    k_steps
    rename Fr h₀ _ _ _ => F8
    rename News h₀ _ _ _ => N8
    exact hQ F8 N8 mem_upd_self hev9 hrt9 kp9)
  (case turn =>
    refine ⟨?_⟩
    intro r0 mid rl cw es cc tco u nw h tk G hmid hes cont F4 N4
    obtain ⟨g0, g0w, g0c⟩ := G.rows r0 (by simp)
    obtain ⟨gl, glw, glc⟩ := G.rows rl (by simp)
    have gC := G.hC
    have gW := G.hW
    have wc := G.wc
    have hrel := refs_length es
    by_cases hlt : r0.w < th - rl.w
    · have hpo := pops_I (mid := mid) hlt
      cases mid with
      | nil =>
        simp only [List.nil_append] at gW G cont hpo
        have hs1 : rrefs [rl] = [] ++ [Value.ref rl.a] := rfl
        k_steps
        · rename Fr _ _ _ _ => F8
          rename News _ _ _ _ => N8
          exact cont _ _ _ _ [] _ _ _ _ _ F8 N8 (step1 true (step1 false G (rem' := [rl]) (by simp) rfl rfl (by with_reducible assumption)) (by simp) refs_snoc' rfl (by with_reducible assumption)) (by simp) (by simp) CO.nil (by rw [hpo, evals_snoc, evals_snoc, pops_one]; simp [pops, rvals]) rfl (by intro z hz1 hz2; have q := stored2 hz2; simp only [if_neg hz1, if_neg q.1, if_neg q.2, hz2, Bool.false_eq_true, if_false])
        · exact absurd rfl (by assumption)
      | cons m0 mid' =>
        simp only [List.length_cons] at hmid
        k_steps
        · exfalso
          rename @Eq Int _ _ => hl1
          simp only [rrefs_length, List.length_append, List.length_cons, List.length_nil] at hl1
          omega
        · rename Fr _ _ _ _ => F8
          rename News _ _ _ _ => N8
          exact cont _ _ _ _ (m0 :: mid' ++ [rl]) _ _ _ _ _ F8 N8 (step1 false G (fun r hr => List.mem_cons_of_mem _ hr) rfl rfl (by with_reducible assumption)) (by simp) (by simp) CO.of (by rw [hpo, evals_snoc]; simp) rfl (by intro z hz1 hz2; have q := stored2 hz2; simp only [if_neg hz1, if_neg q.1, if_neg q.2, hz2, Bool.false_eq_true, if_false])
    · have hpo := pops_D (mid := mid) hlt
      obtain ⟨q, z, hqz⟩ := snoc_of (l := r0 :: mid) (by simp)
      obtain ⟨gz, gzw, gzc⟩ := G.rows z (by (have : z ∈ r0 :: mid := by (rw [hqz]; simp)); simp at this ⊢; rcases this with h | h <;> simp [h])
      have hs1 : rrefs (r0 :: (mid ++ [rl])) = rrefs (q ++ [z]) ++ [Value.ref rl.a] := by (rw [← hqz]; simp [rrefs])
      have hlq : (rrefs (q ++ [z])).length = mid.length + 1 := by (rw [← hqz, rrefs_length]; rfl)
      have hsub : ∀ r ∈ q ++ [z], r ∈ r0 :: (mid ++ [rl]) := fun r hr => by (rw [← hqz] at hr; simp at hr ⊢; rcases hr with h | h <;> simp [h])
      rw [hqz] at hpo
      have hlq2 : (q ++ [z]).length = mid.length + 1 := by (rw [← hqz]; rfl)
      cases mid with
      | nil =>
        obtain ⟨hq0, hz0⟩ : q = [] ∧ z = r0 := by (cases q with | nil => (simp at hqz; exact ⟨rfl, hqz.symm⟩) | cons _ _ => simp at hqz)
        subst hq0 hz0
        simp only [List.nil_append] at gW G cont hpo hs1 hsub
        have hs2 : rrefs [z] = [] ++ [Value.ref z.a] := rfl
        have hlst : (rrefs [z])[((-1 : Int) + ((rrefs [z]).length : Int)).toNat]? = some (.ref z.a) := rfl
        k_steps
        · rename Fr _ _ _ _ => F8
          rename News _ _ _ _ => N8
          exact cont _ _ _ _ [] _ _ _ _ _ F8 N8 (step1 true (step1 true G (rem' := [z]) hsub rfl rfl (by with_reducible assumption)) (by simp) refs_snoc' rfl (by with_reducible assumption)) (by simp) (by simp) CO.nil (by rw [hpo, evals_snoc, evals_snoc, pops_one]; simp [pops, rvals]) rfl (by intro z hz1 hz2; have q := stored2 hz2; simp only [if_neg hz1, if_neg q.1, if_neg q.2, hz2, Bool.false_eq_true, if_false])
        · exact absurd rfl (by assumption)
      | cons m0 mid' =>
        simp only [List.length_cons] at hmid hlq hlq2
        k_steps
        · exfalso
          rename @Eq Int _ _ => hl1
          rw [hlq] at hl1
          omega
        · rename Fr _ _ _ _ => F8
          rename News _ _ _ _ => N8
          exact cont _ _ _ _ (q ++ [z]) _ _ _ _ _ F8 N8 (step1 true G hsub rfl rfl (by with_reducible assumption)) (by rw [hlq2]; simp) (by rw [hlq2]; simp) CO.of (by rw [hpo, evals_snoc]; simp) rfl (by intro z hz1 hz2; have q := stored2 hz2; simp only [if_neg hz1, if_neg q.1, if_neg q.2, hz2, Bool.false_eq_true, if_false]))
  all_goals w_report


end Mine
end

section
open PySem PySem.W PyProof.Rows PySem.Calls PySem.Spec PyProof.V
set_option Elab.async false
set_option linter.unusedVariables false
namespace Mine
set_option pp.maxSteps 3000
set_option pp.deepTerms false
open PyProof.Rows.LCg
local macro_rules | `(tactic| k_lt $_h:ident) => `(tactic| skip)
local macro_rules | `(tactic| walk_at "g_ne") => `(tactic| first | with_reducible assumption | (refine Ne.symm ?_; with_reducible assumption) | exact Nat.ne_of_gt (by with_reducible assumption) | exact Nat.ne_of_lt (by with_reducible assumption) | (refine' ne_fresh ?l ?h; (case l => with_reducible assumption); (case h => walk_at "g_has")) | (refine' ne_fresh' ?l ?h; (case l => with_reducible assumption); (case h => walk_at "g_has")))
local macro_rules | `(tactic| walk_at "g_has") => `(tactic| first | with_reducible exact Has.of (by with_reducible assumption) | with_reducible exact Has.self | with_reducible exact Has.self_upd | (with_reducible refine Has.cons ?_; walk_at "g_has") | (with_reducible refine Has.upd ?_; walk_at "g_has"))
local macro_rules | `(tactic| k_mem) => `(tactic| first | with_reducible assumption | with_reducible exact mem_upd_self | (with_reducible refine' mem_upd ?h ?n; (case h => k_mem); (case n => walk_at "g_ne")) | with_reducible exact List.mem_cons_self | (with_reducible refine List.mem_cons_of_mem _ ?_; k_mem))
local macro_rules | `(tactic| walk_at "g_val") => `(tactic| first | with_reducible assumption | with_reducible exact valueAt_stored_self _ _ _ | (rw [valueAt_stored_ne (by walk_at "g_ne")]; walk_at "g_val") | rfl)
local macro_rules | `(tactic| walk_at "g_size") => `(tactic| (rw [sizeLine_eq]; first | omega | (refine Nat.le_trans (stored_length_le _ _ _) ?_; omega) | (simp; done)))
local macro_rules | `(tactic| walk_at "compareOp NotIn int ref") => `(tactic| (k_here; k_dflt (first
  | (refine' r_notin_no (knd := PySem.intKind _ _) ?N ?hp ?hd ?lo (intKind_is _ _ _ _) ?hl ?_; (case N => k_asm); (case hp => k_mem); (case hd => with_reducible assumption); (case lo => with_reducible assumption); (case hl => walk_at "g_val"))
  | (refine' r_notin_yes (knd := PySem.intKind _ _) ?N ?hp ?hd ?lo (intKind_is _ _ _ _) ?hl ?_; (case N => k_asm); (case hp => k_mem); (case hd => with_reducible assumption); (case lo => with_reducible assumption); (case hl => walk_at "g_val")))))
local macro_rules | `(tactic| walk_at "compareOp In int ref") => `(tactic| (k_here; k_dflt (first
  | (refine' r_in_no (knd := PySem.intKind _ _) ?N ?hp ?hd ?lo (intKind_is _ _ _ _) ?hl ?_; (case N => k_asm); (case hp => k_mem); (case hd => with_reducible assumption); (case lo => with_reducible assumption); (case hl => walk_at "g_val"))
  | (refine' r_in_yes (knd := PySem.intKind _ _) ?N ?hp ?hd ?lo (intKind_is _ _ _ _) ?hl ?_; (case N => k_asm); (case hp => k_mem); (case hd => with_reducible assumption); (case lo => with_reducible assumption); (case hl => walk_at "g_val")))))
local macro_rules | `(tactic| walk_at "getItem ref int") => `(tactic| (k_here; k_dflt (refine' kdt_getItem (knd := PySem.intKind _ _) ?N ?hp ?hd (intKind_is _ _ _ _) ?hl ?_; (case N => k_asm); (case hp => k_mem); (case hd => with_reducible assumption); (case hl => walk_at "g_val"))))
local macro_rules | `(tactic| walk_at "subscriptTail") => `(tactic| (k_here; (with_reducible show wpAny _ _ (subscriptTail _ _ (Value.ref _) (Value.int _ _)) _ _ _); k_dflt (refine' kdt_tail (knd := PySem.intKind _ _) ?N ?hp ?hd ?_; (case N => k_asm); (case hp => k_mem); (case hd => with_reducible assumption))))
local macro_rules | `(tactic| walk_at "setItem ref int") => `(tactic| (k_here; k_dflt (refine' r_set (knd := PySem.intKind _ _) ?F ?N ?hm ?hd (intKind_is _ _ _ _) ?z ?_; (case F => k_asm); (case N => k_asm); (case hm => k_mem); (case hd => with_reducible assumption); (case z => walk_at "g_size")); intro h' o' F' N' hd'))
local macro_rules | `(tactic| walk_at "call builtin:dict.get") => `(tactic| (k_here; k_dflt (refine' r_get2_no (knd := PySem.intKind _ _) ?N ?hp ?hd ?lo (intKind_is _ _ _ _) ?hl ?_; (case N => k_asm); (case hp => k_mem); (case hd => with_reducible assumption); (case lo => with_reducible assumption); (case hl => walk_at "g_val"))))
local macro_rules | `(tactic| walk_at "call builtin:dict.update") => `(tactic| (k_here; k_dflt (refine' r_update_nil ?F ?N ?hm ?hd ?hm2 ?hd2 ?lo ?ne ?_; (case F => k_asm); (case N => k_asm); (case hm => k_mem); (case hd => with_reducible assumption); (case hm2 => k_mem); (case hd2 => with_reducible assumption); (case lo => with_reducible assumption); (case ne => walk_at "g_ne")); intro h' o' F' N' hd'))
local macro_rules | `(tactic| walk_at "getMethod ref") => `(tactic| (k_here; k_dflt (first
  | ((with_reducible show wpAny _ _ (getMethod (Value.ref _) (Str.ofString "get") _) _ _ _); refine' kdg_method (knd := PySem.intKind _ _) ?N ?hp ?hd ?_; (case N => k_asm); (case hp => k_mem); (case hd => with_reducible assumption))
  | ((with_reducible show wpAny _ _ (getMethod (Value.ref _) (Str.ofString "update") _) _ _ _); refine' kdl_method (knd := PySem.strKind _ _) PySem.F.slot_dict_update PySem.F.type_dict_update ?N ?hp ?hd ?_; (case N => k_asm); (case hp => k_mem); (case hd => with_reducible assumption)))))

local macro_rules | `(tactic| walk_at "call builtin:len") => `(tactic| (k_here; (with_reducible show wpAny _ _ (call (Value.builtin "len") [Value.ref _]) _ _ _); k_dflt (refine' kda_len (knd := PySem.intKind _ _) ?N ?hp ?hd ?lo ?z ?_; (case N => k_asm); (case hp => k_mem); (case hd => with_reducible assumption); (case lo => with_reducible assumption); (case z => omega))))
local macro_rules | `(tactic| walk_at "g_ne") => `(tactic| first | (refine' ne_fresh2 ?l ?l2 ?h; (case l2 => with_reducible assumption); (case l => with_reducible assumption); (case h => walk_at "g_has")) | (refine' ne_fresh2' ?l ?l2 ?h; (case l2 => with_reducible assumption); (case l => with_reducible assumption); (case h => walk_at "g_has")))
local macro_rules | `(tactic| walk_at "g_nth") => `(tactic| first | rfl | with_reducible assumption | (simp; done))
local macro_rules | `(tactic| walk_at "g_len") => `(tactic| first | omega | (simp only [List.length_cons, List.length_append, List.length_nil, refs_length, List.length_reverse, List.length_map]; omega))
local macro_rules | `(tactic| walk_at "subscriptTail") => `(tactic| (k_here; (with_reducible show wpAny _ _ (subscriptTail _ _ (Value.ref _) (Value.int _ _)) _ _ _); k_dflt (first | (refine' r_item ?N ?hm ?h0 ?hf ?hx ?_ ?hs; (case N => k_asm); (case hm => k_mem); (case h0 => first | decide | omega); (case hf => first | decide | omega); (case hx => walk_at "g_nth"); (case hs => with_unfolding_all rfl); k_whole) | (refine' r_back ?N ?hm ?h0 ?h1 ?hf ?hx ?_ ?hs; (case N => k_asm); (case hm => k_mem); (case h0 => decide); (case h1 => walk_at "g_len"); (case hf => decide); (case hx => walk_at "g_nth"); (case hs => with_unfolding_all rfl); k_whole) | (refine' r_tup ?N ?hm ?h0 ?hf ?hj ?hx ?_ ?hs; (case N => k_asm); (case hm => k_mem); (case h0 => decide); (case hf => decide); (case hj => rfl); (case hx => rfl); (case hs => with_unfolding_all rfl); k_whole))))
local macro_rules | `(tactic| walk_at "subscriptTail Name Slice ref ref") => `(tactic| (k_here; k_dflt (refine' r_slice_all ?F ?N ?hm ?z ?_ ?hs ?ht; (case F => k_asm); (case N => k_asm); (case hm => k_mem); (case z => walk_at "g_len"); (case hs => with_unfolding_all rfl); (case ht => intro _; with_unfolding_all rfl)); intro D' h' F' N' l1))
local macro_rules | `(tactic| walk_at "truthy ref") => `(tactic| (k_here; k_dflt (refine' r_truthy ?N ?hm ?z ?_; (case N => k_asm); (case hm => k_mem); (case z => walk_at "g_len")); intro tk'))
local macro_rules | `(tactic| walk_at "getMethod ref") => `(tactic| (k_here; k_dflt (first | ((with_reducible show wpAny _ _ (getMethod (Value.ref _) (Str.ofString "pop") _) _ _ _); refine' r_method ?N ?hm PySem.F.slot_list_pop PySem.F.type_list_pop ?_; (case N => k_asm); (case hm => k_mem)) | ((with_reducible show wpAny _ _ (getMethod (Value.ref _) (Str.ofString "append") _) _ _ _); refine' r_method ?N ?hm PySem.F.slot_list_append PySem.F.type_list_append ?_; (case N => k_asm); (case hm => k_mem)) | ((with_reducible show wpAny _ _ (getMethod (Value.ref _) (Str.ofString "reverse") _) _ _ _); refine' r_method ?N ?hm PySem.F.slot_list_reverse PySem.F.type_list_reverse ?_; (case N => k_asm); (case hm => k_mem)))))
local macro_rules | `(tactic| walk_at "call builtin:list.pop") => `(tactic| (k_here; k_dflt (first | (refine' r_pop0 ?F ?N ?hm ?e ?z ?_; (case F => k_asm); (case N => k_asm); (case hm => k_mem); (case e => first | with_reducible exact rrefs_cons | with_reducible assumption | rfl); (case z => walk_at "g_len")) | (refine' r_pop ?F ?N ?hm ?e ?z ?_; (case F => k_asm); (case N => k_asm); (case hm => k_mem); (case e => with_reducible assumption); (case z => walk_at "g_len"))); intro h' F' N'))
local macro_rules | `(tactic| walk_at "call builtin:list.append") => `(tactic| (k_here; k_dflt (refine' r_append ?F ?N ?hm ?z ?_; (case F => k_asm); (case N => k_asm); (case hm => k_mem); (case z => walk_at "g_len")); intro h' F' N'))
local macro_rules | `(tactic| walk_at "call builtin:list.reverse") => `(tactic| (k_here; k_dflt (refine' r_reverse ?F ?N ?hm ?z ?_; (case F => k_asm); (case N => k_asm); (case hm => k_mem); (case z => walk_at "g_len")); intro h' F' N'))
local macro_rules | `(tactic| walk_at "call builtin:len") => `(tactic| (k_here; (with_reducible show wpAny _ _ (call (Value.builtin "len") [Value.ref _]) _ _ _); k_dflt (refine' r_len ?N ?hm ?z ?_; (case N => k_asm); (case hm => k_mem); (case z => walk_at "g_len"))))
local macro_rules | `(tactic| walk_at "setAttr ref") => `(tactic| (k_here; k_dflt (refine' r_setattr ?F ?X ?N ?hx ?hd ?k4 ?k5 ?k6 ?k7 ?k8 ?k9 ?kz ?_; (case F => k_asm); (case X => k_asm); (case N => k_asm); (case hx => k_mem); (case hd => k_mem); (case k4 => k_is); (case k5 => k_is); (case k6 => k_is); (case k7 => k_is); (case k8 => k_get); (case k9 => k_put); (case kz => exact Nat.le_of_ble_eq_true rfl); k_whole); intro h' F' N'))
local macro_rules | `(tactic| walk_at "call builtin:dict.pop") => `(tactic| (k_here; k_dflt (refine' r_dpop ?N ?hm ?hd ?lo ?_; (case N => k_asm); (case hm => k_mem); (case hd => with_reducible assumption); (case lo => with_reducible assumption))))
local macro_rules | `(tactic| walk_at "exec For Name Name cons nil") => `(tactic| (k_here; (rename Fr _ _ _ _ => lF'); (with_unfolding_all refine' For_invVF lF' ?k1 ?k2 ?_; (case k1 => exact rfl); (case k2 => exact rfl); k_whole)))
local macro_rules | `(tactic| walk_at "pyIter ref") => `(tactic| ((with_reducible show wpAny _ _ (pyIter (Value.ref _)) (fun it s₂ => LoopAtV _ _ _ _ _ _ _ _ _ it s₂) _ _); k_dflt (refine' for_none ?hh ?F ?N ?hm ?hi ?e ?_; (case hh => rfl); (case F => k_asm); (case N => k_asm); (case hm => k_mem); (case hi => with_reducible assumption); (case e => rfl)); intro h' tk' F' N'))

local macro_rules | `(tactic| walk_at "exec If") => `(tactic| ((fail_if_success (with_reducible show wpAny _ _ _ (fun f s' => f = Flow.next ∧ RowsJ _ _ _ _ _ _ _ s') _ _)); (with_reducible show wpAny _ _ (exec (Stmt.If (Expr.Call _ _ _ _) _ _ _) _) _ _ _); refine stop_here ?_))
local macro_rules | `(tactic| walk_at "exec Assign cons ListComp") => `(tactic| (k_here; k_dflt (refine' cg_assign ?F0 ?k1 ?k2 ?k3 ?k4 ?k5 ?k6 ?k7 ?k8 ?_; (case F0 => k_asm); (case k1 => exact rfl); (case k2 => with_unfolding_all rfl); (case k3 => with_unfolding_all rfl); (case k4 => decide); (case k5 => rfl); (case k6 => decide); (case k7 => rfl); (case k8 => rfl))))
local macro_rules | `(tactic| walk_at "call type:enumerate") => `(tactic| (k_dflt (refine' enum_src ?hh ?F ?N ?hm ?hi ?hz ?e1 ?e2 ?e3 ?e4 ?e5 ?e6 ?_; (case hh => rfl); (case F => k_asm); (case N => k_asm); (case hm => k_mem); (case hi => with_reducible assumption); (case hz => omega); (case e1 => rfl); (case e2 => rfl); (case e3 => rfl); (case e4 => decide); (case e5 => decide); (case e6 => decide)); intro D' h' tk' rs' F' N' e' l1' l2'))
local macro_rules | `(tactic| walk_at "pyIter ref") => `(tactic| ((with_reducible show wpAny _ _ (pyIter (Value.ref _)) (CgSrc _ _ _ _ _ _ _ _ _ _ _ _ _) _ _); k_dflt (refine' dict_src ?hh ?F ?N ?hv ?hm ?hd ?hk ?hi ?hz ?e1 ?e2 ?e3 ?e4 ?e5 ?e6 ?_; (case hh => rfl); (case F => k_asm); (case N => k_asm); (case hv => with_reducible assumption); (case hm => k_mem); (case hd => with_reducible assumption); (case hk => with_reducible assumption); (case hi => with_reducible assumption); (case hz => omega); (case e1 => rfl); (case e2 => rfl); (case e3 => rfl); (case e4 => decide); (case e5 => decide); (case e6 => decide)); intro D' h' tk' rs' F' N' e' l1' l2'))
local macro_rules | `(tactic| walk_at "call builtin:dict.items") => `(tactic| (k_here; k_dflt (refine' kta_callItems (knd := PySem.intKind _ _) ?F ?N ?hm ?hd ?lo ?_; (case F => k_asm); (case N => k_asm); (case hm => k_mem); (case hd => with_reducible assumption); (case lo => with_reducible assumption)); intro h' hv' F' N'))
local macro_rules | `(tactic| walk_at "getMethod ref") => `(tactic| ((with_reducible show wpAny _ _ (getMethod (Value.ref _) (Str.ofString "items") _) _ _ _); k_here; k_dflt (refine' kdl_method (knd := PySem.intKind _ _) PySem.F.slot_dict_items PySem.F.type_dict_items ?N ?hm ?hd ?_; (case N => k_asm); (case hm => k_mem); (case hd => with_reducible assumption))))
local macro_rules | `(tactic| walk_at "call builtin:isinstance") => `(tactic| (k_here; k_dflt (refine' r_isdict ?N ?hm ?hd ?_; (case N => k_asm); (case hm => k_mem); (case hd => with_reducible assumption))))
local macro_rules | `(tactic| walk_at "truthy ref") => `(tactic| (k_here; k_dflt (first | (refine' r_truthy_cons ?N ?hm ?e ?z ?_; (case N => k_asm); (case hm => k_mem); (case e => with_reducible exact rrefs_cons); (case z => walk_at "g_len")) | (refine' r_truthy_nil ?N ?hm ?e ?_; (case N => k_asm); (case hm => k_mem); (case e => rfl))); intro tk'))
local macro_rules | `(tactic| walk_at "g_len") => `(tactic| first | omega | (simp only [List.length_cons, List.length_append, List.length_nil, refs_length, rrefs_length, List.length_reverse, List.length_map]; omega))
local macro_rules | `(tactic| walk_at "call builtin:list.reverse") => `(tactic| (k_here; k_dflt (refine' r_reverse_refs ?F ?N ?hm ?z ?_; (case F => k_asm); (case N => k_asm); (case hm => k_mem); (case z => walk_at "g_len")); intro h' F' N'))
local macro_rules | `(tactic| walk_at "eval ListComp") => `(tactic| (k_here; k_dflt (refine' cg_comp ?F0 ?k3 ?k4 ?k5 ?k6 ?_; (case F0 => k_asm); (case k3 => with_unfolding_all rfl); (case k4 => decide); (case k5 => rfl); (case k6 => decide))))
local macro_rules | `(tactic| walk_at "pyIter ref") => `(tactic| ((with_reducible show wpAny _ _ (pyIter (Value.ref _)) (CgSrc _ _ _ _ _ _ _ _ (Expr.Name _ _) _ _ _ _) _ _); k_dflt (refine' second_src ?hh ?F ?N ?hm ?hz ?ht ?e1 ?e2 ?e3 ?_; (case hh => rfl); (case F => k_asm); (case N => k_asm); (case hm => k_mem); (case ht => with_reducible assumption); (case hz => walk_at "g_len"); (case e1 => rfl); (case e2 => rfl); (case e3 => decide)); intro D' h' tk' F' N' l1'))
local macro_rules | `(tactic| walk_at "call builtin:list.sort") => `(tactic| refine stop_here ?_)
local macro_rules | `(tactic| walk_at "exec While Name cons nil") => `(tactic| refine stop_here ?_)
local macro_rules | `(tactic| walk_at "g_nth") => `(tactic| first | with_reducible exact rrefs_last | with_reducible exact rrefs_first)

set_option maxRecDepth 100000 in
set_option maxHeartbeats 4000000 in
theorem wt_p {ccl : List (Str × Addr)} {w : World} {A₀ : Around} {base h₀ : Heap} {L a : Addr} {m mg mb : Str → Option Value} {cn : Str} {cnm : List (Str × NameKind)} {cig cic : Bool} {cmo : List (Str × Const)} {ccd : Value} {news : List (Addr × Obj)}
   {p : Program} {loose : List Str} {mean : ExcName → Option Value} {s : Shared} {Q E : Value → Shared → Prop} 
   (B : Below A₀ base [] h₀) (Fh : Fr h₀ L s.heap m) (X₀ : (hd.heap_39 w.params).In h₀) (N : News h₀ L s.heap news) (T : Top p loose mean mg mb h₀) {r : Addr} {ps : List (Int × Int)} (W : WIn w r news ps) (h2 : 2 ≤ ps.length) (h9 : ps.length ≤ 9) (hnd : (ps.map (·.1)).Nodup) {th : Int} {tt : Tok}
   (hQ : ∀ {h' tk D es news'}, Fr h₀ L h' m → News h₀ L h' news' → (D, lst (es.map fun e => .str (letter e.d) e.td)) ∈ news' → evals es = (pops th ps.length (sortP ps)).reverse → (∀ a o, (a, o) ∈ news → (a, o) ∈ news') → Q (.ref D) { s with heap := h', toks := tk }) :
   wpAny (model Challenge.rw_aq6051_01.row.prog w) (callerA.deeper (envX cn { kind := .function, names := cnm, isGenerator := cig, isCoroutine := cic, more := cmo } L a ccd ccl)) (call (.ref 658) [.ref r, .int th tt]) Q E s := by
  revert X₀
  k_fill
  intro X₀
  w_on
  have hmk : NewsIs news := ⟨⟩
  k_steps
  refine ⟨?_⟩
  rename Fr _ _ _ _ => F9
  rename News _ _ _ _ => N9
  refine' rows_join (Str.ofString "wseq") ps F9 N9 ?first ?rest
  (case first =>
    cases W with
    | list hm hi =>
      have hz9 := hi.length
      simp only [List.length_map, List.length_zipIdx] at h9
      k_steps
      first | exact ⟨_, _, _, _, rfl, by k_asm, by k_asm, by with_reducible assumption, by with_reducible assumption, by with_reducible assumption⟩ | w_report
    | dict hm hd lo hk hi hkl =>
      simp only [List.length_zip, hkl, Nat.min_self] at h9
      k_steps
      first | exact ⟨_, _, _, _, rfl, by k_asm, by k_asm, by with_reducible assumption, by with_reducible assumption, by with_reducible assumption⟩ | w_report)
  intro h1 tk1 D rs F1 N1 e1 l1 l2
  have hrl : rs.length = ps.length := by rw [← e1, rvals_length]
  k_steps
  refine ⟨?_⟩
  refine' r_sort ?F ?N ?hm (rows_facts l2) ?h2 ?h64 ?hu ?hnd ?_
  (case F => k_asm)
  (case N => k_asm)
  (case hm => k_mem)
  (case h2 => omega)
  (case h64 => omega)
  (case hu => exact Nat.le_of_ble_eq_true rfl)
  (case hnd => (rw [e1]; exact hnd))
  intro h2' c2 rs2 F2 N2 hp2 hs2
  rw [e1] at hs2
  have hl2 : rs2.length = ps.length := by rw [hp2.length_eq, hrl]
  have hr2 := fun r hr => rows_facts (o := lst (rrefs rs)) (news := news) l2 r (hp2.mem_iff.mp hr)
  obtain ⟨p2, z2, rfl⟩ := snoc_of (l := rs2) (by omega)
  obtain ⟨hz2, hz2n⟩ := hr2 z2 (by simp)
  have hpl2 : (rrefs (p2 ++ [z2])).length = ps.length := by rw [rrefs_length]; exact hl2
  k_steps
  refine ⟨?_⟩
  rename Fr _ _ _ _ => F3
  rename News _ _ _ _ => N3
  refine' wt_loop [Str.ofString "w", Str.ofString "label"] (Str.ofString "cutoff") hmk F3 N3 (WTG.init hr2 l1 (by with_reducible assumption)) ?h9 ?h1 CO.of ?turn ?stop
  (case h9 => omega)
  (case h1 => omega)
  (case stop =>
    refine ⟨?_⟩
    intro cw es cc u nw h tk G hes hev F4 N4
    have gC := G.hC
    have gW := G.hW
    have wc := G.wc
    have hrl9 : es.reverse.length ≤ 9 := by (rw [List.length_reverse]; exact hes)
    have hrt9 : ∀ e ∈ es.reverse, (e.t, tupO e) ∈ upd _ (listOf (refs es.reverse).toArray cc) nw := fun e he => let z := G.tups e (List.mem_reverse.mp he); mem_upd z.1 z.2.2
    have kp9 : ∀ a o, (a, o) ∈ news → (a, o) ∈ upd _ (listOf (refs es.reverse).toArray cc) nw := fun a' o' hm' => let z := G.keep a' o' hm'; mem_upd z.1 z.2.2
    rw [hs2, hl2] at hev
    have hev9 : evals es.reverse = (pops th ps.length (sortP ps)).reverse := by (rw [evals_rev, hev])
    k_steps
    rename Fr h₀ _ _ _ => F8
    rename News h₀ _ _ _ => N8
    exact hQ F8 N8 List.mem_cons_self hev9 (fun a' o' hm' => List.mem_cons_of_mem _ (kp9 a' o' hm')))
  (case turn =>
    refine ⟨?_⟩
    intro r0 mid rl cw es cc tco u nw h tk G hmid hes cont F4 N4
    obtain ⟨g0, g0w, g0c⟩ := G.rows r0 (by simp)
    obtain ⟨gl, glw, glc⟩ := G.rows rl (by simp)
    have gC := G.hC
    have gW := G.hW
    have wc := G.wc
    have hrel := refs_length es
    by_cases hlt : r0.w < th - rl.w
    · have hpo := pops_I (mid := mid) hlt
      cases mid with
      | nil =>
        simp only [List.nil_append] at gW G cont hpo
        have hs1 : rrefs [rl] = [] ++ [Value.ref rl.a] := rfl
        k_steps
        · rename Fr _ _ _ _ => F8
          rename News _ _ _ _ => N8
          exact cont _ _ _ _ [] _ _ _ _ _ F8 N8 (step1 true (step1 false G (rem' := [rl]) (by simp) rfl rfl (by with_reducible assumption)) (by simp) refs_snoc' rfl (by with_reducible assumption)) (by simp) (by simp) CO.nil (by rw [hpo, evals_snoc, evals_snoc, pops_one]; simp [pops, rvals]) rfl (by intro z hz1 hz2; have q := stored2 hz2; simp only [if_neg hz1, if_neg q.1, if_neg q.2, hz2, Bool.false_eq_true, if_false])
        · exact absurd rfl (by assumption)
      | cons m0 mid' =>
        simp only [List.length_cons] at hmid
        k_steps
        · exfalso
          rename @Eq Int _ _ => hl1
          simp only [rrefs_length, List.length_append, List.length_cons, List.length_nil] at hl1
          omega
        · rename Fr _ _ _ _ => F8
          rename News _ _ _ _ => N8
          exact cont _ _ _ _ (m0 :: mid' ++ [rl]) _ _ _ _ _ F8 N8 (step1 false G (fun r hr => List.mem_cons_of_mem _ hr) rfl rfl (by with_reducible assumption)) (by simp) (by simp) CO.of (by rw [hpo, evals_snoc]; simp) rfl (by intro z hz1 hz2; have q := stored2 hz2; simp only [if_neg hz1, if_neg q.1, if_neg q.2, hz2, Bool.false_eq_true, if_false])
    · have hpo := pops_D (mid := mid) hlt
      obtain ⟨q, z, hqz⟩ := snoc_of (l := r0 :: mid) (by simp)
      obtain ⟨gz, gzw, gzc⟩ := G.rows z (by (have : z ∈ r0 :: mid := by (rw [hqz]; simp)); simp at this ⊢; rcases this with h | h <;> simp [h])
      have hs1 : rrefs (r0 :: (mid ++ [rl])) = rrefs (q ++ [z]) ++ [Value.ref rl.a] := by (rw [← hqz]; simp [rrefs])
      have hlq : (rrefs (q ++ [z])).length = mid.length + 1 := by (rw [← hqz, rrefs_length]; rfl)
      have hsub : ∀ r ∈ q ++ [z], r ∈ r0 :: (mid ++ [rl]) := fun r hr => by (rw [← hqz] at hr; simp at hr ⊢; rcases hr with h | h <;> simp [h])
      rw [hqz] at hpo
      have hlq2 : (q ++ [z]).length = mid.length + 1 := by (rw [← hqz]; rfl)
      cases mid with
      | nil =>
        obtain ⟨hq0, hz0⟩ : q = [] ∧ z = r0 := by (cases q with | nil => (simp at hqz; exact ⟨rfl, hqz.symm⟩) | cons _ _ => simp at hqz)
        subst hq0 hz0
        simp only [List.nil_append] at gW G cont hpo hs1 hsub
        have hs2 : rrefs [z] = [] ++ [Value.ref z.a] := rfl
        have hlst : (rrefs [z])[((-1 : Int) + ((rrefs [z]).length : Int)).toNat]? = some (.ref z.a) := rfl
        k_steps
        · rename Fr _ _ _ _ => F8
          rename News _ _ _ _ => N8
          exact cont _ _ _ _ [] _ _ _ _ _ F8 N8 (step1 true (step1 true G (rem' := [z]) hsub rfl rfl (by with_reducible assumption)) (by simp) refs_snoc' rfl (by with_reducible assumption)) (by simp) (by simp) CO.nil (by rw [hpo, evals_snoc, evals_snoc, pops_one]; simp [pops, rvals]) rfl (by intro z hz1 hz2; have q := stored2 hz2; simp only [if_neg hz1, if_neg q.1, if_neg q.2, hz2, Bool.false_eq_true, if_false])
        · exact absurd rfl (by assumption)
      | cons m0 mid' =>
        simp only [List.length_cons] at hmid hlq hlq2
        k_steps
        · exfalso
          rename @Eq Int _ _ => hl1
          rw [hlq] at hl1
          omega
        · rename Fr _ _ _ _ => F8
          rename News _ _ _ _ => N8
          exact cont _ _ _ _ (q ++ [z]) _ _ _ _ _ F8 N8 (step1 true G hsub rfl rfl (by with_reducible assumption)) (by rw [hlq2]; simp) (by rw [hlq2]; simp) CO.of (by rw [hpo, evals_snoc]; simp) rfl (by intro z hz1 hz2; have q := stored2 hz2; simp only [if_neg hz1, if_neg q.1, if_neg q.2, hz2, Bool.false_eq_true, if_false]))
  all_goals w_report


end Mine
end

section
open PySem PySem.W PyProof.Rows PySem.Calls PySem.Spec PyProof.V
set_option Elab.async false
set_option linter.unusedVariables false
namespace Mine
set_option pp.maxSteps 3000
set_option pp.deepTerms false
open PyProof.Rows.LCg
local macro_rules | `(tactic| k_lt $_h:ident) => `(tactic| skip)
local macro_rules | `(tactic| walk_at "g_ne") => `(tactic| first | with_reducible assumption | (refine Ne.symm ?_; with_reducible assumption) | exact Nat.ne_of_gt (by with_reducible assumption) | exact Nat.ne_of_lt (by with_reducible assumption) | (refine' ne_fresh ?l ?h; (case l => with_reducible assumption); (case h => walk_at "g_has")) | (refine' ne_fresh' ?l ?h; (case l => with_reducible assumption); (case h => walk_at "g_has")))
local macro_rules | `(tactic| walk_at "g_has") => `(tactic| first | with_reducible exact Has.of (by with_reducible assumption) | with_reducible exact Has.self | with_reducible exact Has.self_upd | (with_reducible refine Has.cons ?_; walk_at "g_has") | (with_reducible refine Has.upd ?_; walk_at "g_has"))
local macro_rules | `(tactic| k_mem) => `(tactic| first | with_reducible assumption | with_reducible exact mem_upd_self | (with_reducible refine' mem_upd ?h ?n; (case h => k_mem); (case n => walk_at "g_ne")) | with_reducible exact List.mem_cons_self | (with_reducible refine List.mem_cons_of_mem _ ?_; k_mem))
local macro_rules | `(tactic| walk_at "g_val") => `(tactic| first | with_reducible assumption | with_reducible exact valueAt_stored_self _ _ _ | (rw [valueAt_stored_ne (by walk_at "g_ne")]; walk_at "g_val") | rfl)
local macro_rules | `(tactic| walk_at "g_size") => `(tactic| (rw [sizeLine_eq]; first | omega | (refine Nat.le_trans (stored_length_le _ _ _) ?_; omega) | (simp; done)))
local macro_rules | `(tactic| walk_at "compareOp NotIn int ref") => `(tactic| (k_here; k_dflt (first
  | (refine' r_notin_no (knd := PySem.intKind _ _) ?N ?hp ?hd ?lo (intKind_is _ _ _ _) ?hl ?_; (case N => k_asm); (case hp => k_mem); (case hd => with_reducible assumption); (case lo => with_reducible assumption); (case hl => walk_at "g_val"))
  | (refine' r_notin_yes (knd := PySem.intKind _ _) ?N ?hp ?hd ?lo (intKind_is _ _ _ _) ?hl ?_; (case N => k_asm); (case hp => k_mem); (case hd => with_reducible assumption); (case lo => with_reducible assumption); (case hl => walk_at "g_val")))))
local macro_rules | `(tactic| walk_at "compareOp In int ref") => `(tactic| (k_here; k_dflt (first
  | (refine' r_in_no (knd := PySem.intKind _ _) ?N ?hp ?hd ?lo (intKind_is _ _ _ _) ?hl ?_; (case N => k_asm); (case hp => k_mem); (case hd => with_reducible assumption); (case lo => with_reducible assumption); (case hl => walk_at "g_val"))
  | (refine' r_in_yes (knd := PySem.intKind _ _) ?N ?hp ?hd ?lo (intKind_is _ _ _ _) ?hl ?_; (case N => k_asm); (case hp => k_mem); (case hd => with_reducible assumption); (case lo => with_reducible assumption); (case hl => walk_at "g_val")))))
local macro_rules | `(tactic| walk_at "getItem ref int") => `(tactic| (k_here; k_dflt (refine' kdt_getItem (knd := PySem.intKind _ _) ?N ?hp ?hd (intKind_is _ _ _ _) ?hl ?_; (case N => k_asm); (case hp => k_mem); (case hd => with_reducible assumption); (case hl => walk_at "g_val"))))
local macro_rules | `(tactic| walk_at "subscriptTail") => `(tactic| (k_here; (with_reducible show wpAny _ _ (subscriptTail _ _ (Value.ref _) (Value.int _ _)) _ _ _); k_dflt (refine' kdt_tail (knd := PySem.intKind _ _) ?N ?hp ?hd ?_; (case N => k_asm); (case hp => k_mem); (case hd => with_reducible assumption))))
local macro_rules | `(tactic| walk_at "setItem ref int") => `(tactic| (k_here; k_dflt (refine' r_set (knd := PySem.intKind _ _) ?F ?N ?hm ?hd (intKind_is _ _ _ _) ?z ?_; (case F => k_asm); (case N => k_asm); (case hm => k_mem); (case hd => with_reducible assumption); (case z => walk_at "g_size")); intro h' o' F' N' hd'))
local macro_rules | `(tactic| walk_at "call builtin:dict.get") => `(tactic| (k_here; k_dflt (refine' r_get2_no (knd := PySem.intKind _ _) ?N ?hp ?hd ?lo (intKind_is _ _ _ _) ?hl ?_; (case N => k_asm); (case hp => k_mem); (case hd => with_reducible assumption); (case lo => with_reducible assumption); (case hl => walk_at "g_val"))))
local macro_rules | `(tactic| walk_at "call builtin:dict.update") => `(tactic| (k_here; k_dflt (refine' r_update_nil ?F ?N ?hm ?hd ?hm2 ?hd2 ?lo ?ne ?_; (case F => k_asm); (case N => k_asm); (case hm => k_mem); (case hd => with_reducible assumption); (case hm2 => k_mem); (case hd2 => with_reducible assumption); (case lo => with_reducible assumption); (case ne => walk_at "g_ne")); intro h' o' F' N' hd'))
local macro_rules | `(tactic| walk_at "getMethod ref") => `(tactic| (k_here; k_dflt (first
  | ((with_reducible show wpAny _ _ (getMethod (Value.ref _) (Str.ofString "get") _) _ _ _); refine' kdg_method (knd := PySem.intKind _ _) ?N ?hp ?hd ?_; (case N => k_asm); (case hp => k_mem); (case hd => with_reducible assumption))
  | ((with_reducible show wpAny _ _ (getMethod (Value.ref _) (Str.ofString "update") _) _ _ _); refine' kdl_method (knd := PySem.strKind _ _) PySem.F.slot_dict_update PySem.F.type_dict_update ?N ?hp ?hd ?_; (case N => k_asm); (case hp => k_mem); (case hd => with_reducible assumption)))))

local macro_rules | `(tactic| walk_at "call builtin:len") => `(tactic| (k_here; (with_reducible show wpAny _ _ (call (Value.builtin "len") [Value.ref _]) _ _ _); k_dflt (refine' kda_len (knd := PySem.intKind _ _) ?N ?hp ?hd ?lo ?z ?_; (case N => k_asm); (case hp => k_mem); (case hd => with_reducible assumption); (case lo => with_reducible assumption); (case z => omega))))
local macro_rules | `(tactic| walk_at "g_ne") => `(tactic| first | (refine' ne_fresh2 ?l ?l2 ?h; (case l2 => with_reducible assumption); (case l => with_reducible assumption); (case h => walk_at "g_has")) | (refine' ne_fresh2' ?l ?l2 ?h; (case l2 => with_reducible assumption); (case l => with_reducible assumption); (case h => walk_at "g_has")))
local macro_rules | `(tactic| walk_at "g_nth") => `(tactic| first | rfl | with_reducible assumption | (simp; done))
local macro_rules | `(tactic| walk_at "g_len") => `(tactic| first | omega | (simp only [List.length_cons, List.length_append, List.length_nil, refs_length, List.length_reverse, List.length_map]; omega))
local macro_rules | `(tactic| walk_at "subscriptTail") => `(tactic| (k_here; (with_reducible show wpAny _ _ (subscriptTail _ _ (Value.ref _) (Value.int _ _)) _ _ _); k_dflt (first | (refine' r_item ?N ?hm ?h0 ?hf ?hx ?_ ?hs; (case N => k_asm); (case hm => k_mem); (case h0 => first | decide | omega); (case hf => first | decide | omega); (case hx => walk_at "g_nth"); (case hs => with_unfolding_all rfl); k_whole) | (refine' r_back ?N ?hm ?h0 ?h1 ?hf ?hx ?_ ?hs; (case N => k_asm); (case hm => k_mem); (case h0 => decide); (case h1 => walk_at "g_len"); (case hf => decide); (case hx => walk_at "g_nth"); (case hs => with_unfolding_all rfl); k_whole) | (refine' r_tup ?N ?hm ?h0 ?hf ?hj ?hx ?_ ?hs; (case N => k_asm); (case hm => k_mem); (case h0 => decide); (case hf => decide); (case hj => rfl); (case hx => rfl); (case hs => with_unfolding_all rfl); k_whole))))
local macro_rules | `(tactic| walk_at "subscriptTail Name Slice ref ref") => `(tactic| (k_here; k_dflt (refine' r_slice_all ?F ?N ?hm ?z ?_ ?hs ?ht; (case F => k_asm); (case N => k_asm); (case hm => k_mem); (case z => walk_at "g_len"); (case hs => with_unfolding_all rfl); (case ht => intro _; with_unfolding_all rfl)); intro D' h' F' N' l1))
local macro_rules | `(tactic| walk_at "truthy ref") => `(tactic| (k_here; k_dflt (refine' r_truthy ?N ?hm ?z ?_; (case N => k_asm); (case hm => k_mem); (case z => walk_at "g_len")); intro tk'))
local macro_rules | `(tactic| walk_at "getMethod ref") => `(tactic| (k_here; k_dflt (first | ((with_reducible show wpAny _ _ (getMethod (Value.ref _) (Str.ofString "pop") _) _ _ _); refine' r_method ?N ?hm PySem.F.slot_list_pop PySem.F.type_list_pop ?_; (case N => k_asm); (case hm => k_mem)) | ((with_reducible show wpAny _ _ (getMethod (Value.ref _) (Str.ofString "append") _) _ _ _); refine' r_method ?N ?hm PySem.F.slot_list_append PySem.F.type_list_append ?_; (case N => k_asm); (case hm => k_mem)) | ((with_reducible show wpAny _ _ (getMethod (Value.ref _) (Str.ofString "reverse") _) _ _ _); refine' r_method ?N ?hm PySem.F.slot_list_reverse PySem.F.type_list_reverse ?_; (case N => k_asm); (case hm => k_mem)))))
local macro_rules | `(tactic| walk_at "call builtin:list.pop") => `(tactic| (k_here; k_dflt (first | (refine' r_pop0 ?F ?N ?hm ?e ?z ?_; (case F => k_asm); (case N => k_asm); (case hm => k_mem); (case e => first | with_reducible exact rrefs_cons | with_reducible assumption | rfl); (case z => walk_at "g_len")) | (refine' r_pop ?F ?N ?hm ?e ?z ?_; (case F => k_asm); (case N => k_asm); (case hm => k_mem); (case e => with_reducible assumption); (case z => walk_at "g_len"))); intro h' F' N'))
local macro_rules | `(tactic| walk_at "call builtin:list.append") => `(tactic| (k_here; k_dflt (refine' r_append ?F ?N ?hm ?z ?_; (case F => k_asm); (case N => k_asm); (case hm => k_mem); (case z => walk_at "g_len")); intro h' F' N'))
local macro_rules | `(tactic| walk_at "call builtin:list.reverse") => `(tactic| (k_here; k_dflt (refine' r_reverse ?F ?N ?hm ?z ?_; (case F => k_asm); (case N => k_asm); (case hm => k_mem); (case z => walk_at "g_len")); intro h' F' N'))
local macro_rules | `(tactic| walk_at "call builtin:len") => `(tactic| (k_here; (with_reducible show wpAny _ _ (call (Value.builtin "len") [Value.ref _]) _ _ _); k_dflt (refine' r_len ?N ?hm ?z ?_; (case N => k_asm); (case hm => k_mem); (case z => walk_at "g_len"))))
local macro_rules | `(tactic| walk_at "setAttr ref") => `(tactic| (k_here; k_dflt (refine' r_setattr ?F ?X ?N ?hx ?hd ?k4 ?k5 ?k6 ?k7 ?k8 ?k9 ?kz ?_; (case F => k_asm); (case X => k_asm); (case N => k_asm); (case hx => k_mem); (case hd => k_mem); (case k4 => k_is); (case k5 => k_is); (case k6 => k_is); (case k7 => k_is); (case k8 => k_get); (case k9 => k_put); (case kz => exact Nat.le_of_ble_eq_true rfl); k_whole); intro h' F' N'))
local macro_rules | `(tactic| walk_at "call builtin:dict.pop") => `(tactic| (k_here; k_dflt (refine' r_dpop ?N ?hm ?hd ?lo ?_; (case N => k_asm); (case hm => k_mem); (case hd => with_reducible assumption); (case lo => with_reducible assumption))))
local macro_rules | `(tactic| walk_at "exec For Name Name cons nil") => `(tactic| (k_here; (rename Fr _ _ _ _ => lF'); (with_unfolding_all refine' For_invVF lF' ?k1 ?k2 ?_; (case k1 => exact rfl); (case k2 => exact rfl); k_whole)))
local macro_rules | `(tactic| walk_at "pyIter ref") => `(tactic| ((with_reducible show wpAny _ _ (pyIter (Value.ref _)) (fun it s₂ => LoopAtV _ _ _ _ _ _ _ _ _ it s₂) _ _); k_dflt (refine' for_none ?hh ?F ?N ?hm ?hi ?e ?_; (case hh => rfl); (case F => k_asm); (case N => k_asm); (case hm => k_mem); (case hi => with_reducible assumption); (case e => rfl)); intro h' tk' F' N'))

local macro_rules | `(tactic| walk_at "exec If") => `(tactic| ((fail_if_success (with_reducible show wpAny _ _ _ (fun f s' => f = Flow.next ∧ RowsJ _ _ _ _ _ _ _ s') _ _)); (with_reducible show wpAny _ _ (exec (Stmt.If (Expr.Call _ _ _ _) _ _ _) _) _ _ _); refine stop_here ?_))
local macro_rules | `(tactic| walk_at "exec Assign cons ListComp") => `(tactic| (k_here; k_dflt (refine' cg_assign ?F0 ?k1 ?k2 ?k3 ?k4 ?k5 ?k6 ?k7 ?k8 ?_; (case F0 => k_asm); (case k1 => exact rfl); (case k2 => with_unfolding_all rfl); (case k3 => with_unfolding_all rfl); (case k4 => decide); (case k5 => rfl); (case k6 => decide); (case k7 => rfl); (case k8 => rfl))))
local macro_rules | `(tactic| walk_at "call type:enumerate") => `(tactic| (k_dflt (refine' enum_src ?hh ?F ?N ?hm ?hi ?hz ?e1 ?e2 ?e3 ?e4 ?e5 ?e6 ?_; (case hh => rfl); (case F => k_asm); (case N => k_asm); (case hm => k_mem); (case hi => with_reducible assumption); (case hz => omega); (case e1 => rfl); (case e2 => rfl); (case e3 => rfl); (case e4 => decide); (case e5 => decide); (case e6 => decide)); intro D' h' tk' rs' F' N' e' l1' l2'))
local macro_rules | `(tactic| walk_at "pyIter ref") => `(tactic| ((with_reducible show wpAny _ _ (pyIter (Value.ref _)) (CgSrc _ _ _ _ _ _ _ _ _ _ _ _ _) _ _); k_dflt (refine' dict_src ?hh ?F ?N ?hv ?hm ?hd ?hk ?hi ?hz ?e1 ?e2 ?e3 ?e4 ?e5 ?e6 ?_; (case hh => rfl); (case F => k_asm); (case N => k_asm); (case hv => with_reducible assumption); (case hm => k_mem); (case hd => with_reducible assumption); (case hk => with_reducible assumption); (case hi => with_reducible assumption); (case hz => omega); (case e1 => rfl); (case e2 => rfl); (case e3 => rfl); (case e4 => decide); (case e5 => decide); (case e6 => decide)); intro D' h' tk' rs' F' N' e' l1' l2'))
local macro_rules | `(tactic| walk_at "call builtin:dict.items") => `(tactic| (k_here; k_dflt (refine' kta_callItems (knd := PySem.intKind _ _) ?F ?N ?hm ?hd ?lo ?_; (case F => k_asm); (case N => k_asm); (case hm => k_mem); (case hd => with_reducible assumption); (case lo => with_reducible assumption)); intro h' hv' F' N'))
local macro_rules | `(tactic| walk_at "getMethod ref") => `(tactic| ((with_reducible show wpAny _ _ (getMethod (Value.ref _) (Str.ofString "items") _) _ _ _); k_here; k_dflt (refine' kdl_method (knd := PySem.intKind _ _) PySem.F.slot_dict_items PySem.F.type_dict_items ?N ?hm ?hd ?_; (case N => k_asm); (case hm => k_mem); (case hd => with_reducible assumption))))
local macro_rules | `(tactic| walk_at "call builtin:isinstance") => `(tactic| (k_here; k_dflt (refine' r_isdict ?N ?hm ?hd ?_; (case N => k_asm); (case hm => k_mem); (case hd => with_reducible assumption))))
local macro_rules | `(tactic| walk_at "truthy ref") => `(tactic| (k_here; k_dflt (first | (refine' r_truthy_cons ?N ?hm ?e ?z ?_; (case N => k_asm); (case hm => k_mem); (case e => with_reducible exact rrefs_cons); (case z => walk_at "g_len")) | (refine' r_truthy_nil ?N ?hm ?e ?_; (case N => k_asm); (case hm => k_mem); (case e => rfl))); intro tk'))
local macro_rules | `(tactic| walk_at "g_len") => `(tactic| first | omega | (simp only [List.length_cons, List.length_append, List.length_nil, refs_length, rrefs_length, List.length_reverse, List.length_map]; omega))
local macro_rules | `(tactic| walk_at "call builtin:list.reverse") => `(tactic| (k_here; k_dflt (refine' r_reverse_refs ?F ?N ?hm ?z ?_; (case F => k_asm); (case N => k_asm); (case hm => k_mem); (case z => walk_at "g_len")); intro h' F' N'))
local macro_rules | `(tactic| walk_at "eval ListComp") => `(tactic| (k_here; k_dflt (refine' cg_comp ?F0 ?k3 ?k4 ?k5 ?k6 ?_; (case F0 => k_asm); (case k3 => with_unfolding_all rfl); (case k4 => decide); (case k5 => rfl); (case k6 => decide))))
local macro_rules | `(tactic| walk_at "pyIter ref") => `(tactic| ((with_reducible show wpAny _ _ (pyIter (Value.ref _)) (CgSrc _ _ _ _ _ _ _ _ (Expr.Name _ _) _ _ _ _) _ _); k_dflt (refine' second_src ?hh ?F ?N ?hm ?hz ?ht ?e1 ?e2 ?e3 ?_; (case hh => rfl); (case F => k_asm); (case N => k_asm); (case hm => k_mem); (case ht => with_reducible assumption); (case hz => walk_at "g_len"); (case e1 => rfl); (case e2 => rfl); (case e3 => decide)); intro D' h' tk' F' N' l1'))
local macro_rules | `(tactic| walk_at "call builtin:list.sort") => `(tactic| refine stop_here ?_)
local macro_rules | `(tactic| walk_at "exec While Name cons nil") => `(tactic| refine stop_here ?_)
local macro_rules | `(tactic| walk_at "g_nth") => `(tactic| first | with_reducible exact rrefs_last | with_reducible exact rrefs_first)

set_option maxRecDepth 100000 in
set_option maxHeartbeats 4000000 in
theorem wt_d {ccl : List (Str × Addr)} {w : World} {A₀ : Around} {base h₀ : Heap} {L a : Addr} {m mg mb : Str → Option Value} {cn : Str} {cnm : List (Str × NameKind)} {cig cic : Bool} {cmo : List (Str × Const)} {ccd : Value} {news : List (Addr × Obj)}
   {p : Program} {loose : List Str} {mean : ExcName → Option Value} {s : Shared} {Q E : Value → Shared → Prop} 
   (B : Below A₀ base [] h₀) (Fh : Fr h₀ L s.heap m) (X₀ : (hd.heap_39 w.params).In h₀) (N : News h₀ L s.heap news) (T : Top p loose mean mg mb h₀) {r : Addr} {ps : List (Int × Int)} (W : WIn w r news ps) (h2 : 2 ≤ ps.length) (h9 : ps.length ≤ 9) (hnd : (ps.map (·.1)).Nodup) 
   (hQ : ∀ {h' tk C c es news'}, Fr h₀ L h' m → News h₀ L h' news' → (C, listOf (refs es).toArray c) ∈ news' → evals es = (pops 1 ps.length (sortP ps)).reverse → (∀ e ∈ es, (e.t, tupO e) ∈ news') → (∀ a o, (a, o) ∈ news → (a, o) ∈ news') → Q (.ref C) { s with heap := h', toks := tk }) :
   wpAny (model Challenge.rw_aq6051_01.row.prog w) (callerA.deeper (envX cn { kind := .function, names := cnm, isGenerator := cig, isCoroutine := cic, more := cmo } L a ccd ccl)) (call (.ref 658) [.ref r] [(Str.ofString "with_labels", .bool true)]) Q E s := by
  revert X₀
  k_fill
  intro X₀
  w_on
  have hmk : NewsIs news := ⟨⟩
  k_steps
  refine ⟨?_⟩
  rename Fr _ _ _ _ => F9
  rename News _ _ _ _ => N9
  refine' rows_join (Str.ofString "wseq") ps F9 N9 ?first ?rest
  (case first =>
    cases W with
    | list hm hi =>
      have hz9 := hi.length
      simp only [List.length_map, List.length_zipIdx] at h9
      k_steps
      first | exact ⟨_, _, _, _, rfl, by k_asm, by k_asm, by with_reducible assumption, by with_reducible assumption, by with_reducible assumption⟩ | w_report
    | dict hm hd lo hk hi hkl =>
      simp only [List.length_zip, hkl, Nat.min_self] at h9
      k_steps
      first | exact ⟨_, _, _, _, rfl, by k_asm, by k_asm, by with_reducible assumption, by with_reducible assumption, by with_reducible assumption⟩ | w_report)
  intro h1 tk1 D rs F1 N1 e1 l1 l2
  have hrl : rs.length = ps.length := by rw [← e1, rvals_length]
  k_steps
  refine ⟨?_⟩
  refine' r_sort ?F ?N ?hm (rows_facts l2) ?h2 ?h64 ?hu ?hnd ?_
  (case F => k_asm)
  (case N => k_asm)
  (case hm => k_mem)
  (case h2 => omega)
  (case h64 => omega)
  (case hu => exact Nat.le_of_ble_eq_true rfl)
  (case hnd => (rw [e1]; exact hnd))
  intro h2' c2 rs2 F2 N2 hp2 hs2
  rw [e1] at hs2
  have hl2 : rs2.length = ps.length := by rw [hp2.length_eq, hrl]
  have hr2 := fun r hr => rows_facts (o := lst (rrefs rs)) (news := news) l2 r (hp2.mem_iff.mp hr)
  obtain ⟨p2, z2, rfl⟩ := snoc_of (l := rs2) (by omega)
  obtain ⟨hz2, hz2n⟩ := hr2 z2 (by simp)
  have hpl2 : (rrefs (p2 ++ [z2])).length = ps.length := by rw [rrefs_length]; exact hl2
  k_steps
  refine ⟨?_⟩
  rename Fr _ _ _ _ => F3
  rename News _ _ _ _ => N3
  refine' wt_loop [Str.ofString "w", Str.ofString "label"] (Str.ofString "cutoff") hmk F3 N3 (WTG.init hr2 l1 (by with_reducible assumption)) ?h9 ?h1 CO.of ?turn ?stop
  (case h9 => omega)
  (case h1 => omega)
  (case stop =>
    refine ⟨?_⟩
    intro cw es cc u nw h tk G hes hev F4 N4
    have gC := G.hC
    have gW := G.hW
    have wc := G.wc
    have hrl9 : es.reverse.length ≤ 9 := by (rw [List.length_reverse]; exact hes)
    have hrt9 : ∀ e ∈ es.reverse, (e.t, tupO e) ∈ upd _ (listOf (refs es.reverse).toArray cc) nw := fun e he => let z := G.tups e (List.mem_reverse.mp he); mem_upd z.1 z.2.2
    have kp9 : ∀ a o, (a, o) ∈ news → (a, o) ∈ upd _ (listOf (refs es.reverse).toArray cc) nw := fun a' o' hm' => let z := G.keep a' o' hm'; mem_upd z.1 z.2.2
    rw [hs2, hl2] at hev
    have hev9 : evals es.reverse = (pops 1 ps.length (sortP ps)).reverse := by (rw [evals_rev, hev])
    k_steps
    rename Fr h₀ _ _ _ => F8
    rename News h₀ _ _ _ => N8
    exact hQ F8 N8 mem_upd_self hev9 hrt9 kp9)
  (case turn =>
    refine ⟨?_⟩
    intro r0 mid rl cw es cc tco u nw h tk G hmid hes cont F4 N4
    obtain ⟨g0, g0w, g0c⟩ := G.rows r0 (by simp)
    obtain ⟨gl, glw, glc⟩ := G.rows rl (by simp)
    have gC := G.hC
    have gW := G.hW
    have wc := G.wc
    have hrel := refs_length es
    by_cases hlt : r0.w < 1 - rl.w
    · have hpo := pops_I (mid := mid) hlt
      cases mid with
      | nil =>
        simp only [List.nil_append] at gW G cont hpo
        have hs1 : rrefs [rl] = [] ++ [Value.ref rl.a] := rfl
        k_steps
        · rename Fr _ _ _ _ => F8
          rename News _ _ _ _ => N8
          exact cont _ _ _ _ [] _ _ _ _ _ F8 N8 (step1 true (step1 false G (rem' := [rl]) (by simp) rfl rfl (by with_reducible assumption)) (by simp) refs_snoc' rfl (by with_reducible assumption)) (by simp) (by simp) CO.nil (by rw [hpo, evals_snoc, evals_snoc, pops_one]; simp [pops, rvals]) rfl (by intro z hz1 hz2; have q := stored2 hz2; simp only [if_neg hz1, if_neg q.1, if_neg q.2, hz2, Bool.false_eq_true, if_false])
        · exact absurd rfl (by assumption)
      | cons m0 mid' =>
        simp only [List.length_cons] at hmid
        k_steps
        · exfalso
          rename @Eq Int _ _ => hl1
          simp only [rrefs_length, List.length_append, List.length_cons, List.length_nil] at hl1
          omega
        · rename Fr _ _ _ _ => F8
          rename News _ _ _ _ => N8
          exact cont _ _ _ _ (m0 :: mid' ++ [rl]) _ _ _ _ _ F8 N8 (step1 false G (fun r hr => List.mem_cons_of_mem _ hr) rfl rfl (by with_reducible assumption)) (by simp) (by simp) CO.of (by rw [hpo, evals_snoc]; simp) rfl (by intro z hz1 hz2; have q := stored2 hz2; simp only [if_neg hz1, if_neg q.1, if_neg q.2, hz2, Bool.false_eq_true, if_false])
    · have hpo := pops_D (mid := mid) hlt
      obtain ⟨q, z, hqz⟩ := snoc_of (l := r0 :: mid) (by simp)
      obtain ⟨gz, gzw, gzc⟩ := G.rows z (by (have : z ∈ r0 :: mid := by (rw [hqz]; simp)); simp at this ⊢; rcases this with h | h <;> simp [h])
      have hs1 : rrefs (r0 :: (mid ++ [rl])) = rrefs (q ++ [z]) ++ [Value.ref rl.a] := by (rw [← hqz]; simp [rrefs])
      have hlq : (rrefs (q ++ [z])).length = mid.length + 1 := by (rw [← hqz, rrefs_length]; rfl)
      have hsub : ∀ r ∈ q ++ [z], r ∈ r0 :: (mid ++ [rl]) := fun r hr => by (rw [← hqz] at hr; simp at hr ⊢; rcases hr with h | h <;> simp [h])
      rw [hqz] at hpo
      have hlq2 : (q ++ [z]).length = mid.length + 1 := by (rw [← hqz]; rfl)
      cases mid with
      | nil =>
        obtain ⟨hq0, hz0⟩ : q = [] ∧ z = r0 := by (cases q with | nil => (simp at hqz; exact ⟨rfl, hqz.symm⟩) | cons _ _ => simp at hqz)
        subst hq0 hz0
        simp only [List.nil_append] at gW G cont hpo hs1 hsub
        have hs2 : rrefs [z] = [] ++ [Value.ref z.a] := rfl
        have hlst : (rrefs [z])[((-1 : Int) + ((rrefs [z]).length : Int)).toNat]? = some (.ref z.a) := rfl
        k_steps
        · rename Fr _ _ _ _ => F8
          rename News _ _ _ _ => N8
          exact cont _ _ _ _ [] _ _ _ _ _ F8 N8 (step1 true (step1 true G (rem' := [z]) hsub rfl rfl (by with_reducible assumption)) (by simp) refs_snoc' rfl (by with_reducible assumption)) (by simp) (by simp) CO.nil (by rw [hpo, evals_snoc, evals_snoc, pops_one]; simp [pops, rvals]) rfl (by intro z hz1 hz2; have q := stored2 hz2; simp only [if_neg hz1, if_neg q.1, if_neg q.2, hz2, Bool.false_eq_true, if_false])
        · exact absurd rfl (by assumption)
      | cons m0 mid' =>
        simp only [List.length_cons] at hmid hlq hlq2
        k_steps
        · exfalso
          rename @Eq Int _ _ => hl1
          rw [hlq] at hl1
          omega
        · rename Fr _ _ _ _ => F8
          rename News _ _ _ _ => N8
          exact cont _ _ _ _ (q ++ [z]) _ _ _ _ _ F8 N8 (step1 true G hsub rfl rfl (by with_reducible assumption)) (by rw [hlq2]; simp) (by rw [hlq2]; simp) CO.of (by rw [hpo, evals_snoc]; simp) rfl (by intro z hz1 hz2; have q := stored2 hz2; simp only [if_neg hz1, if_neg q.1, if_neg q.2, hz2, Bool.false_eq_true, if_false]))
  all_goals w_report


end Mine
end

section
open PySem PySem.W PyProof.Rows PySem.Calls PySem.Spec PyProof.V
set_option Elab.async false
set_option linter.unusedVariables false
namespace Mine
set_option pp.maxSteps 3000
set_option pp.deepTerms false
open PyProof.Rows.LCg
local macro_rules | `(tactic| k_lt $_h:ident) => `(tactic| skip)
local macro_rules | `(tactic| walk_at "g_ne") => `(tactic| first | with_reducible assumption | (refine Ne.symm ?_; with_reducible assumption) | exact Nat.ne_of_gt (by with_reducible assumption) | exact Nat.ne_of_lt (by with_reducible assumption) | (refine' ne_fresh ?l ?h; (case l => with_reducible assumption); (case h => walk_at "g_has")) | (refine' ne_fresh' ?l ?h; (case l => with_reducible assumption); (case h => walk_at "g_has")))
local macro_rules | `(tactic| walk_at "g_has") => `(tactic| first | with_reducible exact Has.of (by with_reducible assumption) | with_reducible exact Has.self | with_reducible exact Has.self_upd | (with_reducible refine Has.cons ?_; walk_at "g_has") | (with_reducible refine Has.upd ?_; walk_at "g_has"))
local macro_rules | `(tactic| k_mem) => `(tactic| first | with_reducible assumption | with_reducible exact mem_upd_self | (with_reducible refine' mem_upd ?h ?n; (case h => k_mem); (case n => walk_at "g_ne")) | with_reducible exact List.mem_cons_self | (with_reducible refine List.mem_cons_of_mem _ ?_; k_mem))
local macro_rules | `(tactic| walk_at "g_val") => `(tactic| first | with_reducible assumption | with_reducible exact valueAt_stored_self _ _ _ | (rw [valueAt_stored_ne (by walk_at "g_ne")]; walk_at "g_val") | rfl)
local macro_rules | `(tactic| walk_at "g_size") => `(tactic| (rw [sizeLine_eq]; first | omega | (refine Nat.le_trans (stored_length_le _ _ _) ?_; omega) | (simp; done)))
local macro_rules | `(tactic| walk_at "compareOp NotIn int ref") => `(tactic| (k_here; k_dflt (first
  | (refine' r_notin_no (knd := PySem.intKind _ _) ?N ?hp ?hd ?lo (intKind_is _ _ _ _) ?hl ?_; (case N => k_asm); (case hp => k_mem); (case hd => with_reducible assumption); (case lo => with_reducible assumption); (case hl => walk_at "g_val"))
  | (refine' r_notin_yes (knd := PySem.intKind _ _) ?N ?hp ?hd ?lo (intKind_is _ _ _ _) ?hl ?_; (case N => k_asm); (case hp => k_mem); (case hd => with_reducible assumption); (case lo => with_reducible assumption); (case hl => walk_at "g_val")))))
local macro_rules | `(tactic| walk_at "compareOp In int ref") => `(tactic| (k_here; k_dflt (first
  | (refine' r_in_no (knd := PySem.intKind _ _) ?N ?hp ?hd ?lo (intKind_is _ _ _ _) ?hl ?_; (case N => k_asm); (case hp => k_mem); (case hd => with_reducible assumption); (case lo => with_reducible assumption); (case hl => walk_at "g_val"))
  | (refine' r_in_yes (knd := PySem.intKind _ _) ?N ?hp ?hd ?lo (intKind_is _ _ _ _) ?hl ?_; (case N => k_asm); (case hp => k_mem); (case hd => with_reducible assumption); (case lo => with_reducible assumption); (case hl => walk_at "g_val")))))
local macro_rules | `(tactic| walk_at "getItem ref int") => `(tactic| (k_here; k_dflt (refine' kdt_getItem (knd := PySem.intKind _ _) ?N ?hp ?hd (intKind_is _ _ _ _) ?hl ?_; (case N => k_asm); (case hp => k_mem); (case hd => with_reducible assumption); (case hl => walk_at "g_val"))))
local macro_rules | `(tactic| walk_at "subscriptTail") => `(tactic| (k_here; (with_reducible show wpAny _ _ (subscriptTail _ _ (Value.ref _) (Value.int _ _)) _ _ _); k_dflt (refine' kdt_tail (knd := PySem.intKind _ _) ?N ?hp ?hd ?_; (case N => k_asm); (case hp => k_mem); (case hd => with_reducible assumption))))
local macro_rules | `(tactic| walk_at "setItem ref int") => `(tactic| (k_here; k_dflt (refine' r_set (knd := PySem.intKind _ _) ?F ?N ?hm ?hd (intKind_is _ _ _ _) ?z ?_; (case F => k_asm); (case N => k_asm); (case hm => k_mem); (case hd => with_reducible assumption); (case z => walk_at "g_size")); intro h' o' F' N' hd'))
local macro_rules | `(tactic| walk_at "call builtin:dict.get") => `(tactic| (k_here; k_dflt (refine' r_get2_no (knd := PySem.intKind _ _) ?N ?hp ?hd ?lo (intKind_is _ _ _ _) ?hl ?_; (case N => k_asm); (case hp => k_mem); (case hd => with_reducible assumption); (case lo => with_reducible assumption); (case hl => walk_at "g_val"))))
local macro_rules | `(tactic| walk_at "call builtin:dict.update") => `(tactic| (k_here; k_dflt (refine' r_update_nil ?F ?N ?hm ?hd ?hm2 ?hd2 ?lo ?ne ?_; (case F => k_asm); (case N => k_asm); (case hm => k_mem); (case hd => with_reducible assumption); (case hm2 => k_mem); (case hd2 => with_reducible assumption); (case lo => with_reducible assumption); (case ne => walk_at "g_ne")); intro h' o' F' N' hd'))
local macro_rules | `(tactic| walk_at "getMethod ref") => `(tactic| (k_here; k_dflt (first
  | ((with_reducible show wpAny _ _ (getMethod (Value.ref _) (Str.ofString "get") _) _ _ _); refine' kdg_method (knd := PySem.intKind _ _) ?N ?hp ?hd ?_; (case N => k_asm); (case hp => k_mem); (case hd => with_reducible assumption))
  | ((with_reducible show wpAny _ _ (getMethod (Value.ref _) (Str.ofString "update") _) _ _ _); refine' kdl_method (knd := PySem.strKind _ _) PySem.F.slot_dict_update PySem.F.type_dict_update ?N ?hp ?hd ?_; (case N => k_asm); (case hp => k_mem); (case hd => with_reducible assumption)))))

local macro_rules | `(tactic| walk_at "call builtin:len") => `(tactic| (k_here; (with_reducible show wpAny _ _ (call (Value.builtin "len") [Value.ref _]) _ _ _); k_dflt (refine' kda_len (knd := PySem.intKind _ _) ?N ?hp ?hd ?lo ?z ?_; (case N => k_asm); (case hp => k_mem); (case hd => with_reducible assumption); (case lo => with_reducible assumption); (case z => omega))))
local macro_rules | `(tactic| walk_at "g_ne") => `(tactic| first | (refine' ne_fresh2 ?l ?l2 ?h; (case l2 => with_reducible assumption); (case l => with_reducible assumption); (case h => walk_at "g_has")) | (refine' ne_fresh2' ?l ?l2 ?h; (case l2 => with_reducible assumption); (case l => with_reducible assumption); (case h => walk_at "g_has")))
local macro_rules | `(tactic| walk_at "g_nth") => `(tactic| first | rfl | with_reducible assumption | (simp; done))
local macro_rules | `(tactic| walk_at "g_len") => `(tactic| first | omega | (simp only [List.length_cons, List.length_append, List.length_nil, refs_length, List.length_reverse, List.length_map]; omega))
local macro_rules | `(tactic| walk_at "subscriptTail") => `(tactic| (k_here; (with_reducible show wpAny _ _ (subscriptTail _ _ (Value.ref _) (Value.int _ _)) _ _ _); k_dflt (first | (refine' r_item ?N ?hm ?h0 ?hf ?hx ?_ ?hs; (case N => k_asm); (case hm => k_mem); (case h0 => first | decide | omega); (case hf => first | decide | omega); (case hx => walk_at "g_nth"); (case hs => with_unfolding_all rfl); k_whole) | (refine' r_back ?N ?hm ?h0 ?h1 ?hf ?hx ?_ ?hs; (case N => k_asm); (case hm => k_mem); (case h0 => decide); (case h1 => walk_at "g_len"); (case hf => decide); (case hx => walk_at "g_nth"); (case hs => with_unfolding_all rfl); k_whole) | (refine' r_tup ?N ?hm ?h0 ?hf ?hj ?hx ?_ ?hs; (case N => k_asm); (case hm => k_mem); (case h0 => decide); (case hf => decide); (case hj => rfl); (case hx => rfl); (case hs => with_unfolding_all rfl); k_whole))))
local macro_rules | `(tactic| walk_at "subscriptTail Name Slice ref ref") => `(tactic| (k_here; k_dflt (refine' r_slice_all ?F ?N ?hm ?z ?_ ?hs ?ht; (case F => k_asm); (case N => k_asm); (case hm => k_mem); (case z => walk_at "g_len"); (case hs => with_unfolding_all rfl); (case ht => intro _; with_unfolding_all rfl)); intro D' h' F' N' l1))
local macro_rules | `(tactic| walk_at "truthy ref") => `(tactic| (k_here; k_dflt (refine' r_truthy ?N ?hm ?z ?_; (case N => k_asm); (case hm => k_mem); (case z => walk_at "g_len")); intro tk'))
local macro_rules | `(tactic| walk_at "getMethod ref") => `(tactic| (k_here; k_dflt (first | ((with_reducible show wpAny _ _ (getMethod (Value.ref _) (Str.ofString "pop") _) _ _ _); refine' r_method ?N ?hm PySem.F.slot_list_pop PySem.F.type_list_pop ?_; (case N => k_asm); (case hm => k_mem)) | ((with_reducible show wpAny _ _ (getMethod (Value.ref _) (Str.ofString "append") _) _ _ _); refine' r_method ?N ?hm PySem.F.slot_list_append PySem.F.type_list_append ?_; (case N => k_asm); (case hm => k_mem)) | ((with_reducible show wpAny _ _ (getMethod (Value.ref _) (Str.ofString "reverse") _) _ _ _); refine' r_method ?N ?hm PySem.F.slot_list_reverse PySem.F.type_list_reverse ?_; (case N => k_asm); (case hm => k_mem)))))
local macro_rules | `(tactic| walk_at "call builtin:list.pop") => `(tactic| (k_here; k_dflt (first | (refine' r_pop0 ?F ?N ?hm ?e ?z ?_; (case F => k_asm); (case N => k_asm); (case hm => k_mem); (case e => first | with_reducible exact rrefs_cons | with_reducible assumption | rfl); (case z => walk_at "g_len")) | (refine' r_pop ?F ?N ?hm ?e ?z ?_; (case F => k_asm); (case N => k_asm); (case hm => k_mem); (case e => with_reducible assumption); (case z => walk_at "g_len"))); intro h' F' N'))
local macro_rules | `(tactic| walk_at "call builtin:list.append") => `(tactic| (k_here; k_dflt (refine' r_append ?F ?N ?hm ?z ?_; (case F => k_asm); (case N => k_asm); (case hm => k_mem); (case z => walk_at "g_len")); intro h' F' N'))
local macro_rules | `(tactic| walk_at "call builtin:list.reverse") => `(tactic| (k_here; k_dflt (refine' r_reverse ?F ?N ?hm ?z ?_; (case F => k_asm); (case N => k_asm); (case hm => k_mem); (case z => walk_at "g_len")); intro h' F' N'))
local macro_rules | `(tactic| walk_at "call builtin:len") => `(tactic| (k_here; (with_reducible show wpAny _ _ (call (Value.builtin "len") [Value.ref _]) _ _ _); k_dflt (refine' r_len ?N ?hm ?z ?_; (case N => k_asm); (case hm => k_mem); (case z => walk_at "g_len"))))
local macro_rules | `(tactic| walk_at "setAttr ref") => `(tactic| (k_here; k_dflt (refine' r_setattr ?F ?X ?N ?hx ?hd ?k4 ?k5 ?k6 ?k7 ?k8 ?k9 ?kz ?_; (case F => k_asm); (case X => k_asm); (case N => k_asm); (case hx => k_mem); (case hd => k_mem); (case k4 => k_is); (case k5 => k_is); (case k6 => k_is); (case k7 => k_is); (case k8 => k_get); (case k9 => k_put); (case kz => exact Nat.le_of_ble_eq_true rfl); k_whole); intro h' F' N'))
local macro_rules | `(tactic| walk_at "call builtin:dict.pop") => `(tactic| (k_here; k_dflt (refine' r_dpop ?N ?hm ?hd ?lo ?_; (case N => k_asm); (case hm => k_mem); (case hd => with_reducible assumption); (case lo => with_reducible assumption))))
local macro_rules | `(tactic| walk_at "exec For Name Name cons nil") => `(tactic| (k_here; (rename Fr _ _ _ _ => lF'); (with_unfolding_all refine' For_invVF lF' ?k1 ?k2 ?_; (case k1 => exact rfl); (case k2 => exact rfl); k_whole)))
local macro_rules | `(tactic| walk_at "pyIter ref") => `(tactic| ((with_reducible show wpAny _ _ (pyIter (Value.ref _)) (fun it s₂ => LoopAtV _ _ _ _ _ _ _ _ _ it s₂) _ _); k_dflt (refine' for_none ?hh ?F ?N ?hm ?hi ?e ?_; (case hh => rfl); (case F => k_asm); (case N => k_asm); (case hm => k_mem); (case hi => with_reducible assumption); (case e => rfl)); intro h' tk' F' N'))

local macro_rules | `(tactic| walk_at "exec Assign cons ListComp") => `(tactic| (k_here; k_dflt (refine' cg_assign ?F0 ?k1 ?k2 ?k3 ?k4 ?k5 ?k6 ?k7 ?k8 ?_; (case F0 => k_asm); (case k1 => exact rfl); (case k2 => with_unfolding_all rfl); (case k3 => with_unfolding_all rfl); (case k4 => decide); (case k5 => rfl); (case k6 => decide); (case k7 => rfl); (case k8 => rfl))))
local macro_rules | `(tactic| walk_at "call type:enumerate") => `(tactic| (k_dflt (refine' enum_src ?hh ?F ?N ?hm ?hi ?hz ?e1 ?e2 ?e3 ?e4 ?e5 ?e6 ?_; (case hh => rfl); (case F => k_asm); (case N => k_asm); (case hm => k_mem); (case hi => with_reducible assumption); (case hz => omega); (case e1 => rfl); (case e2 => rfl); (case e3 => rfl); (case e4 => decide); (case e5 => decide); (case e6 => decide)); intro D' h' tk' rs' F' N' e' l1' l2'))
local macro_rules | `(tactic| walk_at "pyIter ref") => `(tactic| ((with_reducible show wpAny _ _ (pyIter (Value.ref _)) (CgSrc _ _ _ _ _ _ _ _ _ _ _ _ _) _ _); k_dflt (refine' dict_src ?hh ?F ?N ?hv ?hm ?hd ?hk ?hi ?hz ?e1 ?e2 ?e3 ?e4 ?e5 ?e6 ?_; (case hh => rfl); (case F => k_asm); (case N => k_asm); (case hv => with_reducible assumption); (case hm => k_mem); (case hd => with_reducible assumption); (case hk => with_reducible assumption); (case hi => with_reducible assumption); (case hz => omega); (case e1 => rfl); (case e2 => rfl); (case e3 => rfl); (case e4 => decide); (case e5 => decide); (case e6 => decide)); intro D' h' tk' rs' F' N' e' l1' l2'))
local macro_rules | `(tactic| walk_at "call builtin:dict.items") => `(tactic| (k_here; k_dflt (refine' kta_callItems (knd := PySem.intKind _ _) ?F ?N ?hm ?hd ?lo ?_; (case F => k_asm); (case N => k_asm); (case hm => k_mem); (case hd => with_reducible assumption); (case lo => with_reducible assumption)); intro h' hv' F' N'))
local macro_rules | `(tactic| walk_at "getMethod ref") => `(tactic| ((with_reducible show wpAny _ _ (getMethod (Value.ref _) (Str.ofString "items") _) _ _ _); k_here; k_dflt (refine' kdl_method (knd := PySem.intKind _ _) PySem.F.slot_dict_items PySem.F.type_dict_items ?N ?hm ?hd ?_; (case N => k_asm); (case hm => k_mem); (case hd => with_reducible assumption))))
local macro_rules | `(tactic| walk_at "call builtin:isinstance") => `(tactic| (k_here; k_dflt (refine' r_isdict ?N ?hm ?hd ?_; (case N => k_asm); (case hm => k_mem); (case hd => with_reducible assumption))))
local macro_rules | `(tactic| walk_at "truthy ref") => `(tactic| (k_here; k_dflt (first | (refine' r_truthy_cons ?N ?hm ?e ?z ?_; (case N => k_asm); (case hm => k_mem); (case e => with_reducible exact rrefs_cons); (case z => walk_at "g_len")) | (refine' r_truthy_nil ?N ?hm ?e ?_; (case N => k_asm); (case hm => k_mem); (case e => rfl))); intro tk'))
local macro_rules | `(tactic| walk_at "g_len") => `(tactic| first | omega | (simp only [List.length_cons, List.length_append, List.length_nil, refs_length, rrefs_length, List.length_reverse, List.length_map]; omega))
local macro_rules | `(tactic| walk_at "call builtin:list.reverse") => `(tactic| (k_here; k_dflt (refine' r_reverse_refs ?F ?N ?hm ?z ?_; (case F => k_asm); (case N => k_asm); (case hm => k_mem); (case z => walk_at "g_len")); intro h' F' N'))
local macro_rules | `(tactic| walk_at "eval ListComp") => `(tactic| (k_here; k_dflt (refine' cg_comp ?F0 ?k3 ?k4 ?k5 ?k6 ?_; (case F0 => k_asm); (case k3 => with_unfolding_all rfl); (case k4 => decide); (case k5 => rfl); (case k6 => decide))))
local macro_rules | `(tactic| walk_at "pyIter ref") => `(tactic| ((with_reducible show wpAny _ _ (pyIter (Value.ref _)) (CgSrc _ _ _ _ _ _ _ _ (Expr.Name _ _) _ _ _ _) _ _); k_dflt (refine' second_src ?hh ?F ?N ?hm ?hz ?ht ?e1 ?e2 ?e3 ?_; (case hh => rfl); (case F => k_asm); (case N => k_asm); (case hm => k_mem); (case ht => with_reducible assumption); (case hz => walk_at "g_len"); (case e1 => rfl); (case e2 => rfl); (case e3 => decide)); intro D' h' tk' F' N' l1'))
local macro_rules | `(tactic| walk_at "call builtin:list.sort") => `(tactic| refine stop_here ?_)
local macro_rules | `(tactic| walk_at "exec While Name cons nil") => `(tactic| refine stop_here ?_)
local macro_rules | `(tactic| walk_at "g_nth") => `(tactic| first | with_reducible exact rrefs_last | with_reducible exact rrefs_first)

local macro_rules | `(tactic| walk_at "pyIter ref") => `(tactic| ((with_reducible show wpAny _ _ (pyIter (Value.ref _)) (fun it s₂ => LoopAtV _ _ _ _ _ _ _ _ _ it s₂) _ _); refine stop_here ?_))

def LRJ (l : Addr) (news : List (Addr × Obj)) (bs : List Bool) (i : Nat) (nw : List (Addr × Obj)) : Prop :=
  ∃ vs cd, (l, listOf vs.toArray cd) ∈ nw ∧ vs.length ≤ i ∧ IntsAre vs (runsK bs i) ∧ ∀ a o, (a, o) ∈ news → (a, o) ∈ nw ∧ a ≠ l
theorem LRJ.init {l : Addr} {news : List (Addr × Obj)} {bs : List Bool} (l1 : ∀ p ∈ news, p.1 < l) : LRJ l news bs 0 ((l, listOf #[] 0) :: news) :=
  ⟨[], 0, List.mem_cons_self, Nat.le_refl _, .nil, fun a o h => ⟨List.mem_cons_of_mem _ h, Nat.ne_of_lt (l1 _ h)⟩⟩
theorem setL_last {v y : Value} : ∀ p : List Value, ki_setL (p ++ [y]) p.length v = some (p ++ [v])
  | [] => rfl
  | x :: p => by
    show ki_setL (x :: (p ++ [y])) (p.length + 1) v = _
    unfold ki_setL
    rw [setL_last p]; rfl
section
variable {prog : Program} {w : World} {A : Around} {E : Value → Shared → Prop} {s : Shared} {h₀ : Heap} {L a : Addr} {m : Str → Option Value} {news : List (Addr × Obj)} {p l : List Value} {y v : Value} {n : Nat} {t : Tok}
theorem r_getlast {Q : Value → Shared → Prop} (N : News h₀ L s.heap news) (hm : (a, listOf l.toArray n) ∈ news) (e : l = p ++ [y]) (h : Q y s) : wpAny (model prog w) A (getItem (.ref a) (.int (-1) t)) Q E s := by
  subst e
  have hl : s.heap.IsList a (p ++ [y]).toArray := ⟨_, (N _ hm).1, rfl, n, rfl⟩
  refine wpAny_getItem_list_neg hl (by decide) (by rw [List.size_toArray]; simp; omega) (by decide) ?_ h
  rw [List.size_toArray]
  have : ((-1 : Int) + ((p ++ [y]).length : Int)).toNat = p.length := by simp; omega
  rw [this]; simp
theorem r_setlast {Q : Unit → Shared → Prop} (F : Fr h₀ L s.heap m) (N : News h₀ L s.heap news) (hm : (a, listOf l.toArray n) ∈ news) (e : l = p ++ [y]) (h : ∀ h', Fr h₀ L h' m → News h₀ L h' (upd a (listOf (p ++ [v]).toArray n) news) → Q () { s with heap := h' }) :
    wpAny (model prog w) A (setItem (.ref a) (.int (-1) t) v) Q E s := by
  subst e
  refine ki_setNeg (its := (p ++ [y]).toArray) (j := p.length) F (news_front N hm) (by decide) (by decide) (by rw [List.size_toArray]; simp [seqIndex?]; omega) (setL_last p) upd_front h
end
theorem ints_last {vs : List Value} {ns : List Int} (h : IntsAre vs ns) (hn : ns ≠ []) : ∃ p pre c tc, vs = p ++ [.int c tc] ∧ ns = pre ++ [c] ∧ IntsAre p pre := by
  induction h with
  | nil => exact absurd rfl hn
  | @cons n t vs' ns' h' ih =>
    cases ns' with
    | nil => cases h'; exact ⟨[], [], n, t, rfl, rfl, .nil⟩
    | cons a r =>
      obtain ⟨p, pre, c, tc, rfl, e2, h3⟩ := ih (by simp)
      exact ⟨.int n t :: p, n :: pre, c, tc, rfl, by rw [e2]; rfl, .cons n t h3⟩
theorem LRJ.same {l Ia : Addr} {oI : Obj} {news nw : List (Addr × Obj)} {bs : List Bool} {i cd : Nat} {p : List Value} {pre : List Int} {c : Int} {u : Tok} (hl : (p ++ [Value.int c u]).length ≤ i) (h3 : IntsAre p pre) (hr : runsK bs i = pre ++ [c]) (h6 : ∀ a o, (a, o) ∈ news → (a, o) ∈ nw ∧ a ≠ l)
    (hne : ∀ q ∈ nw, q.1 ≠ Ia) (hln : l ≠ Ia) (h0 : 0 < i) (hb : bs[i]? = bs[i - 1]?) {t : Tok} : LRJ l news bs (i + 1) (off Ia (upd l (listOf (p ++ [Value.int (c + 1) t]).toArray cd) ((Ia, oI) :: nw))) := by
  refine ⟨p ++ [.int (c + 1) t], cd, mem_off mem_upd_self hln, by simp at hl ⊢; omega, ?_, fun a o hm => ⟨mem_off (mem_upd (List.mem_cons_of_mem _ (h6 a o hm).1) (h6 a o hm).2) (hne _ (h6 a o hm).1), (h6 a o hm).2⟩⟩
  rw [runsK, if_pos ⟨h0, hb⟩, hr]
  have := ints_snoc h3 (c + 1) t
  simpa using this
theorem LRJ.next {l Ia : Addr} {oI : Obj} {news nw : List (Addr × Obj)} {bs : List Bool} {i cd : Nat} {vs : List Value} (hl : vs.length ≤ i) (h3 : IntsAre vs (runsK bs i)) (h6 : ∀ a o, (a, o) ∈ news → (a, o) ∈ nw ∧ a ≠ l)
    (hne : ∀ q ∈ nw, q.1 ≠ Ia) (hln : l ≠ Ia) (hb : ¬ (0 < i ∧ bs[i]? = bs[i - 1]?)) {t : Tok} : LRJ l news bs (i + 1) (off Ia (upd l (listOf (vs ++ [Value.int 1 t]).toArray cd) ((Ia, oI) :: nw))) := by
  refine ⟨vs ++ [.int 1 t], cd, mem_off mem_upd_self hln, by simp; omega, ?_, fun a o hm => ⟨mem_off (mem_upd (List.mem_cons_of_mem _ (h6 a o hm).1) (h6 a o hm).2) (hne _ (h6 a o hm).1), (h6 a o hm).2⟩⟩
  rw [runsK, if_neg hb]
  exact ints_snoc h3 1 t
theorem runsK_pos {bs : List Bool} {i : Nat} (h : 0 < i) : runsK bs i ≠ [] := by
  cases i with
  | zero => omega
  | succ i => exact runsK_ne bs i
local macro_rules | `(tactic| walk_at "getItem ref int") => `(tactic| (k_here; k_dflt (refine' r_getlast ?N ?hm ?e ?_; (case N => k_asm); (case hm => k_mem); (case e => with_reducible rfl))))
local macro_rules | `(tactic| walk_at "setItem ref int") => `(tactic| (k_here; k_dflt (refine' r_setlast ?F ?N ?hm ?e ?_; (case F => k_asm); (case N => k_asm); (case hm => k_mem); (case e => with_reducible rfl)); intro h' F' N'))
set_option maxRecDepth 100000 in
set_option maxHeartbeats 4000000 in
theorem lruns {ccl : List (Str × Addr)} {w : World} {A₀ : Around} {base h₀ : Heap} {L a : Addr} {m mg mb : Str → Option Value} {cn : Str} {cnm : List (Str × NameKind)} {cig cic : Bool} {cmo : List (Str × Const)} {ccd : Value} {news : List (Addr × Obj)}
   {p : Program} {loose : List Str} {mean : ExcName → Option Value} {s : Shared} {Q E : Value → Shared → Prop} 
   (B : Below A₀ base [] h₀) (Fh : Fr h₀ L s.heap m) (X₀ : (hd.heap_39 w.params).In h₀) (N : News h₀ L s.heap news) (T : Top p loose mean mg mb h₀) {r : Addr} {c : Nat} {es : List TE} (hr : (r, listOf (es.map fun e => Value.str (letter e.d) e.td).toArray c) ∈ news) (hz : es.length ≤ 9)
   (hQ : ∀ {h' tk D cd vs news'}, Fr h₀ L h' m → News h₀ L h' news' → (D, listOf vs cd) ∈ news' → IntsAre vs.toList (runsK (es.map (·.d)) es.length) → (∀ a o, (a, o) ∈ news → (a, o) ∈ news') → Q (.ref D) { s with heap := h', toks := tk }) :
   wpAny (model Challenge.rw_aq6051_01.row.prog w) (callerA.deeper (envX cn { kind := .function, names := cnm, isGenerator := cig, isCoroutine := cic, more := cmo } L a ccd ccl)) (call (.ref 678) [.ref r]) Q E s := by
  revert X₀
  k_fill
  intro X₀
  w_on
  k_steps
  refine ⟨?_⟩
  refine' for_rs (x := Str.ofString "k") (n := es.length) [] (fun i _ nw => LRJ _ news (es.map (·.d)) i nw) ?hh ?F ?N ?hr ?hs ?hn (LRJ.init (by with_reducible assumption)) ?turn ?done
  (case hh => rfl)
  (case F => k_asm)
  (case N => k_asm)
  (case hr => with_reducible assumption)
  (case hs => exact rng_small (by decide) (by decide) (by omega) (by (simp only [List.length_map]; omega)))
  (case hn => exact rng_size (by (simp only [List.length_map]; omega)))
  (case done =>
    intro m1 nw h tk hJ F9 N9
    obtain ⟨vs, cd, j1, jl, j2, j6⟩ := hJ
    k_steps
    rename Fr h₀ _ _ _ => F8
    rename News h₀ _ _ _ => N8
    exact hQ F8 N8 j1 j2 (fun a' o' hm' => (j6 a' o' hm').1))
  (case turn =>
    intro i k m1 nw h tk Ia oI hi hJ hne F9 N9
    have hJ2 := hJ
    obtain ⟨vs, cd, j1, jl, j2, j6⟩ := hJ2
    have j7 := (j6 _ _ hr).1
    obtain ⟨ei, hei⟩ : ∃ e, es[i - 1]? = some e := ⟨es[i - 1]'(by omega), by simp⟩
    obtain ⟨ej, hej⟩ : ∃ e, es[i]? = some e := ⟨es[i]'(by omega), by simp⟩
    have hx1 : (es.map fun e => Value.str (letter e.d) e.td)[((0 : Int) + (i : Int)).toNat]? = some (.str (letter ej.d) ej.td) := by
      rw [show ((0 : Int) + (i : Int)).toNat = i by omega, List.getElem?_map, hej]; rfl
    have hx0 : (es.map fun e => Value.str (letter e.d) e.td)[((0 : Int) + (i : Int) - 1).toNat]? = some (.str (letter ei.d) ei.td) := by
      rw [show ((0 : Int) + (i : Int) - 1).toNat = i - 1 by omega, List.getElem?_map, hei]; rfl
    have hb1 : (es.map (·.d))[i]? = some ej.d := by rw [List.getElem?_map, hej]; rfl
    have hb0 : (es.map (·.d))[i - 1]? = some ei.d := by rw [List.getElem?_map, hei]; rfl
    have jn := hne _ j1
    k_steps
    · have hi0 : 0 < i := by omega
      rename (letter _ == letter _) = true => hl1
      have hl1 := eq_of_beq hl1
      obtain ⟨p, pre, c9, tc9, hvs, hru, j3⟩ := ints_last j2 (runsK_pos hi0)
      subst hvs
      k_steps
      exact REnd.intro (by k_asm) (by k_asm) (mem_upd List.mem_cons_self (Ne.symm jn)) (LRJ.same jl j3 hru j6 hne jn hi0 (by rw [hb1, hb0, letter_inj hl1])) (by intro z hz1 hz2; simp only [if_neg hz1, List.contains_nil, Bool.false_eq_true, if_false])
    · rename (letter _ == letter _) = false => hl1
      exact REnd.intro (by k_asm) (by k_asm) (mem_upd List.mem_cons_self (Ne.symm jn)) (LRJ.next jl j2 j6 hne jn (fun q => by (have q := q.2; rw [hb1, hb0] at q; rw [Option.some.inj q] at hl1; simp at hl1))) (by intro z hz1 hz2; simp only [if_neg hz1, List.contains_nil, Bool.false_eq_true, if_false])
    · exact REnd.intro (by k_asm) (by k_asm) (mem_upd List.mem_cons_self (Ne.symm jn)) (LRJ.next jl j2 j6 hne jn (fun q => by (have q := q.1; omega))) (by intro z hz1 hz2; simp only [if_neg hz1, List.contains_nil, Bool.false_eq_true, if_false]))
  all_goals w_report


end Mine
end

section
open PySem PySem.W PyProof.Rows PySem.Calls PySem.Spec PyProof.V PyProof.Rows.LCg
set_option Elab.async false
set_option linter.unusedVariables false
set_option maxRecDepth 100000
namespace Mine
theorem sorted_uniq : ∀ {a b : List Int}, a.Perm b → a.Pairwise (· ≤ ·) → b.Pairwise (· ≤ ·) → a = b
  | [], b, p, _, _ => by have := p.length_eq; cases b with | nil => rfl | cons _ _ => simp at this
  | x :: a, [], p, _, _ => by have := p.length_eq; simp at this
  | x :: a, y :: b, p, ha, hb => by
    have h1 := List.pairwise_cons.mp ha
    have h2 := List.pairwise_cons.mp hb
    have e : x = y := by
      have l1 : x ≤ y := by
        rcases List.mem_cons.mp (p.mem_iff.mpr List.mem_cons_self) with q | q
        · exact Int.le_of_eq q.symm
        · exact h1.1 y q
      have l2 : y ≤ x := by
        rcases List.mem_cons.mp (p.mem_iff.mp List.mem_cons_self) with q | q
        · exact Int.le_of_eq q.symm
        · exact h2.1 x q
      exact Int.le_antisymm l1 l2
    subst e
    rw [sorted_uniq (List.perm_cons x |>.mp p) h1.2 h2.2]
def srt (ns : List Int) : List Int := ns.mergeSort (fun a b => decide (a ≤ b))
theorem srt_perm (ns : List Int) : (srt ns).Perm ns := List.mergeSort_perm _ _
theorem srt_sorted (ns : List Int) : (srt ns).Pairwise (· ≤ ·) := by
  have := List.pairwise_mergeSort (le := fun (a b : Int) => decide (a ≤ b)) (fun a b c h1 h2 => by simp at *; omega) (fun a b => by simp; omega) ns
  exact this.imp (by intro a b h; simpa using h)
theorem srt_of {a b : List Int} (p : a.Perm b) : srt a = srt b := sorted_uniq ((srt_perm a).trans (p.trans (srt_perm b).symm)) (srt_sorted a) (srt_sorted b)
section
variable {prog : Program} {w : World} {A : Around} {E : Value → Shared → Prop} {s : Shared} {h₀ : Heap} {L l : Addr} {m : Str → Option Value} {news : List (Addr × Obj)} {vs : List Value} {ns : List Int} {Q : Value → Shared → Prop} {c : Nat}
theorem r_sorted (F : Fr h₀ L s.heap m) (N : News h₀ L s.heap news) (hm : (l, listOf vs.toArray c) ∈ news) (hi : IntsAre vs ns) (hz : ns.length ≤ 60)
    (h : ∀ D vs' c h', Fr h₀ L h' m → News h₀ L h' ((D, listOf vs'.toArray c) :: news) → (∀ q ∈ news, q.1 < D) → IntsAre vs' (srt ns) → Q (.ref D) { s with heap := h' }) :
    wpAny (model prog w) A (call (.builtin "sorted") [.ref l]) Q E s := by
  refine kso_sorted F N ⟨_, (N _ hm).1, rfl, c, rfl⟩ hi (by omega) fun D vs' ns' c' h' F' N' l1 hi' _ hp hs _ => ?_
  have : ns' = srt ns := sorted_uniq (hp.trans (srt_perm ns).symm) hs (srt_sorted ns)
  exact h D vs' c' h' F' N' l1 (this ▸ hi')
theorem r_ne_same {a b : Addr} {v1 v2 : List Value} {c1 c2 : Nat} {n1 : List Int} (hu : A.units < cLine) (N : News h₀ L s.heap news) (h1 : (a, listOf v1.toArray c1) ∈ news) (h2 : (b, listOf v2.toArray c2) ∈ news) (i1 : IntsAre v1 n1) (i2 : IntsAre v2 ns) (e : n1 = ns) (h : Q (.bool false) s) :
    wpAny (model prog w) A (compareOp .NotEq (.ref a) (.ref b)) Q E s := by
  subst e
  refine cmp_ofNotEq ?_
  have ha : s.TypeIs (.ref a) "list" := ⟨_, (N _ h1).1, rfl⟩
  have hb : s.TypeIs (.ref b) "list" := ⟨_, (N _ h2).1, rfl⟩
  refine wpAny_richCompare_same_room ha hb PySem.F.slot_list_ne ?_ hu
  have hsz : v1.toArray.size = v2.toArray.size := by rw [List.size_toArray, List.size_toArray, i1.length, i2.length]
  refine call_meetsIn PySem.F.slot_list_ne ha PySem.F.entry_list_ne (PySem.F.args_list_ne_2 _ _) (fun A R s h => PySem.SeqAt.list_neAt a b v1.toArray v2.toArray c1 c2 none none #[] #[] hsz (fun _ => true) prog w A R s h)
    ⟨(N _ h1).1, (N _ h2).1, fun j hj1 hj2 => ?_, ?_⟩
  · obtain ⟨k1, t1, e1, g1⟩ := i1.at j v1[j] (by simp at hj1 ⊢)
    obtain ⟨k2, t2, e2, g2⟩ := i2.at j v2[j] (by simp at hj2 ⊢)
    rw [g1] at g2
    cases g2
    intro prog w E Q hq
    show wpAny _ _ (eqBool v1.toArray[j] v2.toArray[j]) _ _ _
    have x1 : v1.toArray[j] = .int k1 t1 := by simpa using e1
    have x2 : v2.toArray[j] = .int k1 t2 := by simpa using e2
    rw [x1, x2]
    exact wpAny_eqBool_int (by simpa using hq)
  · have : (!(List.range v1.toArray.size).all fun _ => true) = false := by simp
    rw [this]
    exact ⟨by simp, h⟩
end
theorem labs_ints : ∀ es : List TE, IntsAre (es.map fun e => Value.int e.lab e.tl) (labs es)
  | [] => .nil
  | e :: es => .cons e.lab e.tl (labs_ints es)
end Mine
end

section
open PySem PySem.W PyProof.Rows PySem.Calls PySem.Spec PyProof.V PyProof.Rows.LCg
set_option Elab.async false
set_option linter.unusedVariables false
set_option maxRecDepth 100000
namespace Mine
section
variable {prog : Program} {w : World} {A : Around} {E : Value → Shared → Prop} {s : Shared} {h₀ : Heap} {L : Addr} {m : Str → Option Value} {env : Env} {news : List (Addr × Obj)}
/-- a comprehension over a list of tuples whose test never holds -/
theorem cn_comp {elt iter c : PySem.Expr} {a b : Str} {pa pb tp : Pos} {kk : Nat} {scope : Scope} {cl : List (Str × Addr)} {pos : Pos} {Q : Value → Shared → Prop} {l : Addr} {cl0 : Nat} {es : List TE} (F : Fr h₀ L s.heap m) (N : News h₀ L s.heap news)
    (hclos : closureFor scope env = pure cl) (hcell : ∀ y ∈ scope.names, y.2 ≠ .cell) (hkind : scope.kind = .function)
    (hnames : ∀ y ∈ scope.names, y.2 = .local → scope.names.lookup y.1 = some .local) (hxa : scope.names.lookup a = some .local) (hxb : scope.names.lookup b = some .local) (hab : ¬ a = b)
    (hh : A.handled = none) (hm : (l, listOf (refs es).toArray cl0) ∈ news) (hz : es.length ≤ 1000) (ht : ∀ e ∈ es, (e.t, tupO e) ∈ news)
    (hit : ∀ {Q : Value → Shared → Prop}, Q (.ref l) s → wpAny (model prog w) A (eval iter env) Q E s)
    (htest : ∀ e C (s : Shared) m' (Q : Bool → Shared → Prop) (E' : Value → Shared → Prop), e ∈ es → m' a = some (.int e.lab e.tl) → m' b = some (.str (letter e.d) e.td) → s.heap.Ns C m' → (∀ tk, Q false { s with toks := tk }) →
      wpAny (model prog w) A (isTrue c (compEnvC scope cl C env) (eval c (compEnvC scope cl C env))) Q E' s)
    (fin : ∀ D h tk, Fr h₀ L h m → News h₀ L h ((D, lst []) :: news) → (∀ p ∈ news, p.1 < D) → Q (.ref D) { s with heap := h, toks := tk })
    (hs : ∀ x, foldedSetIterable iter env x = pure x := by intro _; rfl) :
    wpAny (model prog w) A (eval (.ListComp elt [⟨.Tuple [.Name a pa, .Name b pb] kk tp, iter, [c], 0⟩] scope pos) env) Q E s := by
  rw [eval_ListComp]
  refine wpAny_comprehension_free (use := none) rfl hs hclos hkind hnames (hit ?_)
  have hax := N _ hm
  have hl : s.heap.IsList l (refs es).toArray := ⟨_, hax.1, rfl, cl0, rfl⟩
  have hlt : l < s.heap.objs.size := Heap.lt_size hax.1
  refine wpAny_pyIter_list hl ?_
  have up : ∀ b o, s.heap.get? b = some o → (s.heap.push { cls := .type "list_iterator", data := .fields #[.ref l, .int 0 0] }).get? b = some o := fun b o e => Heap.get?_push_of_some _ e
  have W0 := Walks.list (prog := prog) (w := w) hh s.heap.objs.size l (Nat.ne_of_lt hlt) (refs es).toArray
  have fresh : ∀ a, s.heap.objs.size ≤ a → h₀.get? a = none := fun a ha => by
    cases e : h₀.get? a with
    | none => rfl
    | some o => exact absurd (Heap.lt_size (F.keep a o e)) (Nat.not_lt.mpr ha)
  generalize hH1 : s.heap.push { cls := .type "list_iterator", data := .fields #[.ref l, .int 0 0] } = H1 at up ⊢
  have hsz1 : H1.objs.size = s.heap.objs.size + 1 := by rw [← hH1, Heap.size_push]
  have hst1 : H1.IsListIter s.heap.objs.size l 0 ∧ H1.IsList l (refs es).toArray := by rw [← hH1]; exact ⟨⟨_, Heap.get?_push_size _ rfl, rfl, rfl⟩, hl.push _⟩
  refine wpAny_newObj_type (wpAny_newFunctionEnv hcell (by intro y hy; simp at hy) (fun h₁ hns₁ hsb₁ => ?_) hkind)
  dsimp only at hns₁ hsb₁ ⊢
  generalize hH2 : H1.push { cls := .type "list", dict := none, data := .seq ([] : List Value).toArray } = H2 at hns₁ hsb₁ ⊢
  have hC : H2.objs.size = H1.objs.size + 1 := by rw [← hH2, Heap.size_push]
  rw [hC] at hns₁ hsb₁ ⊢
  have old : ∀ b o, H1.get? b = some o → h₁.get? b = some o := fun b o e => hsb₁.extBut b o (Nat.ne_of_lt (Nat.lt_succ_of_lt (Heap.lt_size e))) (Heap.get?_push_of_some _ (hH2 ▸ Heap.get?_push_of_some _ e))
  have hacc : h₁.get? H1.objs.size = some (lst []) := hsb₁.extBut _ _ (Nat.ne_of_lt (Nat.lt_succ_self _)) (Heap.get?_push_of_some _ (hH2 ▸ Heap.get?_push_size _ rfl))
  have hI1 : s.heap.objs.size < H1.objs.size := by rw [hsz1]; exact Nat.lt_succ_self _
  have keepI : ∀ b ∈ [s.heap.objs.size, l], b < H1.objs.size := fun b hb => by
    rcases List.mem_cons.mp hb with rfl | hb
    · exact hI1
    · rw [List.mem_singleton.mp hb]; exact Nat.lt_trans hlt hI1
  have loop : ∀ s₃ : Shared, s₃ = { s with heap := h₁, toks := s.toks + ([] : List (Str × Value)).length } →
      codeAny (model prog w) A (.compLoop (.ListComp elt [⟨.Tuple [.Name a pa, .Name b pb] kk tp, iter, [c], 0⟩] scope pos) 0 (.ref s.heap.objs.size) (.ref H1.objs.size) (compEnvC scope cl (H1.objs.size + 1) env))
        (compPost (model prog w) A E none Q (.ref H1.objs.size) (H1.objs.size + 1)) s₃ := by
    rintro s₃ rfl
    refine kct_loop
      (fun k s' => ∃ h' tk i m', s' = { s with heap := h', toks := tk } ∧ i ≤ (refs es).toArray.size ∧ k = (refs es).toArray.size + 1 - i ∧ (h'.IsListIter s.heap.objs.size l i ∧ h'.IsList l (refs es).toArray) ∧
        h'.get? H1.objs.size = some (lst []) ∧ h'.Ns (H1.objs.size + 1) m' ∧ (∀ c o, s.heap.get? c = some o → h'.get? c = some o)) ?_ ((refs es).toArray.size + 1)
      ⟨h₁, _, 0, _, rfl, Nat.zero_le _, rfl, W0.frame _ _ _ hst1 (fun b _ o e => old b o e), hacc, hns₁, fun c o e => old c o (up c o e)⟩
    rintro k s' ⟨h', tk, i, m', rfl, hi, rfl, hst', hD, hns, hold⟩
    have cI : H1.objs.size + 1 ≠ s.heap.objs.size := Nat.ne_of_gt (Nat.lt_succ_of_lt hI1)
    have dI : H1.objs.size ≠ s.heap.objs.size := Nat.ne_of_gt hI1
    have oI : ∀ {c o}, s.heap.get? c = some o → c ≠ s.heap.objs.size := fun e => Nat.ne_of_lt (Heap.lt_size e)
    by_cases hlt' : i < (refs es).toArray.size
    · refine W0.item i _ _ _ hlt' hst' fun v h₂ tk₂ hP hst₂ hk₂ => ?_
      have up₂ : ∀ c o, c ≠ s.heap.objs.size → h'.get? c = some o → h₂.get? c = some o := fun c o hc e => hk₂ c o (by simpa using hc) e
      have hv : (refs es)[i]? = some v := by simpa using hP
      rw [refs, List.getElem?_map] at hv
      cases he : es[i]? with
      | none => rw [he] at hv; cases hv
      | some e =>
        rw [he] at hv
        cases hv
        have hem := List.mem_of_getElem? he
        have htp : h₂.get? e.t = some (tupO e) := up₂ _ _ (oI (N _ (ht e hem)).1) (hold _ _ (N _ (ht e hem)).1)
        refine wpAny_letOwnedTupleGo_listiter hst₂.1 ?_
        refine kcp_assign (env := compEnvC scope cl (H1.objs.size + 1) env) hh ⟨_, htp, rfl, _, rfl⟩ (lookup_relabel_local hxa) (lookup_relabel_local hxb) (by simp [compEnvC, relabel, hkind]) (hns.at' fun o e => up₂ _ o cI e) fun h₄ tk₄ hn₄ hs₄ => ?_
        refine htest e _ _ _ _ _ hem (by simp [hab]) (by simp) hn₄ fun tk₅ => ?_
        rw [if_neg (by simp)]
        have up₄ : ∀ c o, c ≠ s.heap.objs.size → c ≠ H1.objs.size + 1 → h'.get? c = some o → h₄.get? c = some o := fun c o h1 h2 e => hs₄ c o h2 (up₂ c o h1 e)
        refine ⟨(refs es).toArray.size + 1 - (i + 1), by omega, h₄, tk₅, i + 1, _, rfl, hlt', rfl, W0.frame _ _ _ hst₂ fun b hb o e => hs₄ b o (Nat.ne_of_lt (Nat.lt_succ_of_lt (keepI b hb))) e, up₄ _ _ dI (Nat.ne_of_lt (Nat.lt_succ_self _)) hD, hn₄, fun c o e => ?_⟩
        exact up₄ c o (oI e) (Nat.ne_of_lt (Nat.lt_succ_of_lt (Nat.lt_trans (Heap.lt_size e) hI1))) (hold c o e)
    · have hin : i = (refs es).toArray.size := Nat.le_antisymm hi (Nat.not_lt.mp hlt')
      subst hin
      refine W0.done _ _ _ hst' fun h₂ tk₂ hk₂ => ?_
      have up₂ : ∀ c o, c ≠ s.heap.objs.size → h'.get? c = some o → h₂.get? c = some o := fun c o hc e => hk₂ c o (by simpa using hc) e
      refine ⟨m', hns.at' fun o e => up₂ _ o cI e, fun h'' hs'' => ?_⟩
      have kk2 : ∀ c o, s.heap.get? c = some o → h₂.get? c = some o := fun c o e => up₂ c o (oI e) (hold c o e)
      have hLl : L < s.heap.objs.size := F.ns.lt
      have F' := (F.keeps kk2).change hs'' (Nat.ne_of_gt (Nat.lt_succ_of_lt (Nat.lt_trans hLl hI1))) (fresh _ (Nat.le_of_lt (Nat.lt_succ_of_lt hI1)))
      refine fin _ h'' tk₂ F' (fun p hp => ?_) fun p hp => Nat.lt_trans (Heap.lt_size (N p hp).1) hI1
      rcases List.mem_cons.mp hp with rfl | hp
      · exact ⟨hs''.extBut _ _ (Nat.ne_of_lt (Nat.lt_succ_self _)) (up₂ _ _ dI hD), Nat.ne_of_gt (Nat.lt_trans hLl hI1), fresh _ (Nat.le_of_lt hI1)⟩
      · exact ⟨hs''.extBut _ _ (Nat.ne_of_lt (Nat.lt_succ_of_lt (Nat.lt_trans (Heap.lt_size (N p hp).1) hI1))) (kk2 _ _ (N p hp).1), (N p hp).2⟩
  exact codeAny_compStart_list (loop _ rfl) (W0.self 0 _ _ _ (W0.frame _ _ _ hst1 fun b _ o e => old b o e) (loop _ rfl))
/-- letter != 'd' and letter != 'i' never holds of a letter -/
theorem test_letters {x : Str} {p1 p2 q1 q2 c1 c2 bp : Pos} {k1 k2 : Nat} {whole : Sem Value} {cenv : Env} {m' : Str → Option Value} {d : Bool} {td : Tok} {Q : Bool → Shared → Prop} (hk : cenv.scope.kind = .function) (hl : cenv.kindOf x = some .local) (hns : s.heap.Ns cenv.locals m') (hx : m' x = some (.str (letter d) td)) (hdx : (x == ("__debug__" : Str)) = false) (h : ∀ tk, Q false { s with toks := tk }) :
    wpAny (model prog w) A (isTrue (.BoolOp .And [.Compare (.Name x p1) [.NotEq] [.Constant (.str (Str.ofString "d")) k1 q1] c1, .Compare (.Name x p2) [.NotEq] [.Constant (.str (Str.ofString "i")) k2 q2] c2] bp) cenv whole) Q E s := by
  refine wpAny_isTrue_BoolOp (wpAny_allTrue_And_cons (wpAny_isTrue_Compare1 (wpAny_Name (wpAny_loadName_local hk hl hns hx (wpAny_Constant_str (ne_str (wpAny_truthy_bool ?_)))) hdx)))
  cases d with
  | true =>
    have e : (letter true != Str.ofString "d") = false := by decide
    rw [e]; exact h _
  | false =>
    have e : (letter false != Str.ofString "d") = true := by decide
    rw [e, if_pos rfl]
    refine wpAny_allTrue_And_cons (wpAny_isTrue_Compare1 (wpAny_Name (wpAny_loadName_local (s := { s with toks := s.toks + 1 }) hk hl hns hx (wpAny_Constant_str (ne_str (wpAny_truthy_bool ?_)))) hdx))
    have e : (letter false != Str.ofString "i") = false := by decide
    rw [e]; exact h _
end
end Mine
end

section
open PySem PySem.W PyProof.Rows PySem.Calls PySem.Spec PyProof.V PyProof.Rows.LCg
set_option Elab.async false
set_option linter.unusedVariables false
set_option maxRecDepth 100000
namespace Mine
theorem sorted_G {w : World} {A₀ : Around} {base h₀ : Heap} {L a : Addr} {m mg mb : Str → Option Value} {cn : Str} {cnm : List (Str × NameKind)} {cig cic : Bool} {cmo : List (Str × Const)} {ccd : Value} {news : List (Addr × Obj)}
   {p : Program} {loose : List Str} {mean : ExcName → Option Value} {s : Shared} {Q E : Value → Shared → Prop} {e1 : Env} {x : Addr} {F : List Addr} {ks : List Int} {Ed : Int → Int → Bool} {b : Nat}
   (B : Below A₀ base [e1] h₀) (Fh : Fr h₀ L s.heap m) (X₀ : (hd.heap_39 w.params).In h₀) (N : News h₀ L s.heap news) (T : Top p loose mean mg mb h₀) (G : GR w news x F ks Ed b) (hb : b ≤ 900) (hk : ks.length ≤ 60)
   (hQ : ∀ D vs' c h' tk, Fr h₀ L h' m → News h₀ L h' ((D, listOf vs'.toArray c) :: news) → (∀ q ∈ news, q.1 < D) → IntsAre vs' (srt ks) → Q (.ref D) { s with heap := h', toks := tk }) :
   wpAny (model Challenge.rw_aq6051_01.row.prog w) (((callerA.deeper e1).deeper (envOf cn { kind := .function, names := cnm, isGenerator := cig, isCoroutine := cic, more := cmo } L a ccd))) (call (.builtin "sorted") [.ref x]) Q E s := by
  refine Calls.call_function_entry kind_sorted plain_sorted entry_sorted (args_sorted1 _) ?_
  unfold Builtin.«sorted»
  refine wpAny_bind (m := checkCount "sorted" 1 1 _) (wpAny_pure ?_)
  refine wpAny_bind (collect_G B Fh X₀ N T G hb (by omega) fun h1 tk1 vs F1 N1 hi => ?_)
  refine wpAny_bind (wpAny_newList ?_)
  have hoL : (h1.push (seqObj "list" vs.toArray 0)).get? h1.objs.size = some (seqObj "list" vs.toArray 0) := Heap.get?_push_size _ rfl
  show wpAny _ _ _ _ _ { s with heap := h1.push (seqObj "list" vs.toArray 0), toks := tk1 }
  have h64 : vs.length < 64 := by rw [hi.length]; omega
  refine wpAny_bind (wpAny_holding (wpAny_call_entry slot_list_sort ⟨_, hoL, rfl⟩ entry_list_sort (list_sort_tree hoL hi h64 fun out ns' a1 a2 a3 => ⟨_, rfl, ?_⟩) (args_list_sort _)))
  refine wpAny_pure ⟨_, rfl, ?_⟩
  have e : ns' = srt ks := sorted_uniq (a2.trans (srt_perm ks).symm) a3 (srt_sorted ks)
  obtain ⟨c, he⟩ := sortedHeap_at (vs := vs) (out := out) hoL
  have kp : ∀ b o, h1.get? b = some o → (sortedHeap (h1.push (seqObj "list" vs.toArray 0)) h1.objs.size vs out).get? b = some o := fun b o e => by
    have hlt := Heap.lt_size e
    rw [sortedHeap_old (Nat.ne_of_lt hlt) (by rw [Heap.size_push]; exact Nat.lt_succ_of_lt hlt)]
    exact Heap.get?_push_of_some _ e
  exact hQ _ out.toList c _ tk1 (F1.kept kp) (N1.kept_cons F1 kp (Nat.le_refl _) he) (fun q hq => Heap.lt_size (N1 q hq).1) (e ▸ a1)
theorem r_lcopy {prog : Program} {w : World} {A : Around} {E : Value → Shared → Prop} {s : Shared} {h₀ : Heap} {L a : Addr} {m : Str → Option Value} {news : List (Addr × Obj)} {l : List Value} {n : Nat} {Q : Value → Shared → Prop} (F : Fr h₀ L s.heap m) (N : News h₀ L s.heap news) (hm : (a, listOf l.toArray n) ∈ news) (hz : l.length ≤ 1000)
    (h : ∀ D c h', Fr h₀ L h' m → News h₀ L h' ((D, listOf l.toArray c) :: news) → (∀ q ∈ news, q.1 < D) → Q (.ref D) { s with heap := h' }) :
    wpAny (model prog w) A (call (.type "list") [.ref a]) Q E s :=
  list_copyK F N ⟨_, (N _ hm).1, rfl, n, rfl⟩ h (by rw [List.size_toArray, sizeLine_eq]; omega)
def LTJ (news : List (Addr × Obj)) (_ : Nat) (_ : Str → Option Value) (nw : List (Addr × Obj)) : Prop := ∀ a o, (a, o) ∈ news → (a, o) ∈ nw
theorem LTx.get {vs : List Value} {ks : List Int} (h : IntsAre vs ks) {i : Nat} (hi : i < ks.length) : ∃ k t, vs[((0 : Int) + (i : Int)).toNat]? = some (.int k t) ∧ ks[i]? = some k := by
  have hl : i < vs.length := by rw [h.length]; exact hi
  obtain ⟨k, t, h1, h2⟩ := IntsAre.at h i vs[i] (by simp)
  exact ⟨k, t, by rw [show ((0 : Int) + (i : Int)).toNat = i by omega, List.getElem?_eq_getElem hl, h1], h2⟩
theorem LTx.eq {b : Bool} {P : Prop} {x y : Int} (h : b = true ↔ P) (h2 : P ↔ y < x) : b = decide (x > y) := by
  rw [h2] at h
  cases b with
  | true => simp at h; simp [h]
  | false => simp at h; simp; omega
theorem stored1 {a z : Str} (h : [a].contains z = false) : z ≠ a := by
  simp only [List.contains_cons, List.contains_nil, Bool.or_false, beq_eq_false_iff_ne] at h
  exact h
end Mine
end

section
open PySem PySem.W PyProof.Rows PySem.Calls PySem.Spec PyProof.V
set_option Elab.async false
set_option linter.unusedVariables false
namespace Mine
set_option pp.maxSteps 3000
set_option pp.deepTerms false
open PyProof.Rows.LCg
local macro_rules | `(tactic| k_lt $_h:ident) => `(tactic| skip)
local macro_rules | `(tactic| walk_at "g_ne") => `(tactic| first | with_reducible assumption | (refine Ne.symm ?_; with_reducible assumption) | exact Nat.ne_of_gt (by with_reducible assumption) | exact Nat.ne_of_lt (by with_reducible assumption) | (refine' ne_fresh ?l ?h; (case l => with_reducible assumption); (case h => walk_at "g_has")) | (refine' ne_fresh' ?l ?h; (case l => with_reducible assumption); (case h => walk_at "g_has")))
local macro_rules | `(tactic| walk_at "g_has") => `(tactic| first | with_reducible exact Has.of (by with_reducible assumption) | with_reducible exact Has.self | with_reducible exact Has.self_upd | (with_reducible refine Has.cons ?_; walk_at "g_has") | (with_reducible refine Has.upd ?_; walk_at "g_has"))
local macro_rules | `(tactic| k_mem) => `(tactic| first | with_reducible assumption | with_reducible exact mem_upd_self | (with_reducible refine' mem_upd ?h ?n; (case h => k_mem); (case n => walk_at "g_ne")) | with_reducible exact List.mem_cons_self | (with_reducible refine List.mem_cons_of_mem _ ?_; k_mem))
local macro_rules | `(tactic| walk_at "g_val") => `(tactic| first | with_reducible assumption | with_reducible exact valueAt_stored_self _ _ _ | (rw [valueAt_stored_ne (by walk_at "g_ne")]; walk_at "g_val") | rfl)
local macro_rules | `(tactic| walk_at "g_size") => `(tactic| (rw [sizeLine_eq]; first | omega | (refine Nat.le_trans (stored_length_le _ _ _) ?_; omega) | (simp; done)))
local macro_rules | `(tactic| walk_at "compareOp NotIn int ref") => `(tactic| (k_here; k_dflt (first
  | (refine' r_notin_no (knd := PySem.intKind _ _) ?N ?hp ?hd ?lo (intKind_is _ _ _ _) ?hl ?_; (case N => k_asm); (case hp => k_mem); (case hd => with_reducible assumption); (case lo => with_reducible assumption); (case hl => walk_at "g_val"))
  | (refine' r_notin_yes (knd := PySem.intKind _ _) ?N ?hp ?hd ?lo (intKind_is _ _ _ _) ?hl ?_; (case N => k_asm); (case hp => k_mem); (case hd => with_reducible assumption); (case lo => with_reducible assumption); (case hl => walk_at "g_val")))))
local macro_rules | `(tactic| walk_at "compareOp In int ref") => `(tactic| (k_here; k_dflt (first
  | (refine' r_in_no (knd := PySem.intKind _ _) ?N ?hp ?hd ?lo (intKind_is _ _ _ _) ?hl ?_; (case N => k_asm); (case hp => k_mem); (case hd => with_reducible assumption); (case lo => with_reducible assumption); (case hl => walk_at "g_val"))
  | (refine' r_in_yes (knd := PySem.intKind _ _) ?N ?hp ?hd ?lo (intKind_is _ _ _ _) ?hl ?_; (case N => k_asm); (case hp => k_mem); (case hd => with_reducible assumption); (case lo => with_reducible assumption); (case hl => walk_at "g_val")))))
local macro_rules | `(tactic| walk_at "getItem ref int") => `(tactic| (k_here; k_dflt (refine' kdt_getItem (knd := PySem.intKind _ _) ?N ?hp ?hd (intKind_is _ _ _ _) ?hl ?_; (case N => k_asm); (case hp => k_mem); (case hd => with_reducible assumption); (case hl => walk_at "g_val"))))
local macro_rules | `(tactic| walk_at "subscriptTail") => `(tactic| (k_here; (with_reducible show wpAny _ _ (subscriptTail _ _ (Value.ref _) (Value.int _ _)) _ _ _); k_dflt (refine' kdt_tail (knd := PySem.intKind _ _) ?N ?hp ?hd ?_; (case N => k_asm); (case hp => k_mem); (case hd => with_reducible assumption))))
local macro_rules | `(tactic| walk_at "setItem ref int") => `(tactic| (k_here; k_dflt (refine' r_set (knd := PySem.intKind _ _) ?F ?N ?hm ?hd (intKind_is _ _ _ _) ?z ?_; (case F => k_asm); (case N => k_asm); (case hm => k_mem); (case hd => with_reducible assumption); (case z => walk_at "g_size")); intro h' o' F' N' hd'))
local macro_rules | `(tactic| walk_at "call builtin:dict.get") => `(tactic| (k_here; k_dflt (refine' r_get2_no (knd := PySem.intKind _ _) ?N ?hp ?hd ?lo (intKind_is _ _ _ _) ?hl ?_; (case N => k_asm); (case hp => k_mem); (case hd => with_reducible assumption); (case lo => with_reducible assumption); (case hl => walk_at "g_val"))))
local macro_rules | `(tactic| walk_at "call builtin:dict.update") => `(tactic| (k_here; k_dflt (refine' r_update_nil ?F ?N ?hm ?hd ?hm2 ?hd2 ?lo ?ne ?_; (case F => k_asm); (case N => k_asm); (case hm => k_mem); (case hd => with_reducible assumption); (case hm2 => k_mem); (case hd2 => with_reducible assumption); (case lo => with_reducible assumption); (case ne => walk_at "g_ne")); intro h' o' F' N' hd'))
local macro_rules | `(tactic| walk_at "getMethod ref") => `(tactic| (k_here; k_dflt (first
  | ((with_reducible show wpAny _ _ (getMethod (Value.ref _) (Str.ofString "get") _) _ _ _); refine' kdg_method (knd := PySem.intKind _ _) ?N ?hp ?hd ?_; (case N => k_asm); (case hp => k_mem); (case hd => with_reducible assumption))
  | ((with_reducible show wpAny _ _ (getMethod (Value.ref _) (Str.ofString "update") _) _ _ _); refine' kdl_method (knd := PySem.strKind _ _) PySem.F.slot_dict_update PySem.F.type_dict_update ?N ?hp ?hd ?_; (case N => k_asm); (case hp => k_mem); (case hd => with_reducible assumption)))))

local macro_rules | `(tactic| walk_at "call builtin:len") => `(tactic| (k_here; (with_reducible show wpAny _ _ (call (Value.builtin "len") [Value.ref _]) _ _ _); k_dflt (refine' kda_len (knd := PySem.intKind _ _) ?N ?hp ?hd ?lo ?z ?_; (case N => k_asm); (case hp => k_mem); (case hd => with_reducible assumption); (case lo => with_reducible assumption); (case z => omega))))
local macro_rules | `(tactic| walk_at "g_ne") => `(tactic| first | (refine' ne_fresh2 ?l ?l2 ?h; (case l2 => with_reducible assumption); (case l => with_reducible assumption); (case h => walk_at "g_has")) | (refine' ne_fresh2' ?l ?l2 ?h; (case l2 => with_reducible assumption); (case l => with_reducible assumption); (case h => walk_at "g_has")))
local macro_rules | `(tactic| walk_at "g_nth") => `(tactic| first | rfl | with_reducible assumption | (simp; done))
local macro_rules | `(tactic| walk_at "g_len") => `(tactic| first | omega | (simp only [List.length_cons, List.length_append, List.length_nil, refs_length, List.length_reverse, List.length_map]; omega))
local macro_rules | `(tactic| walk_at "subscriptTail") => `(tactic| (k_here; (with_reducible show wpAny _ _ (subscriptTail _ _ (Value.ref _) (Value.int _ _)) _ _ _); k_dflt (first | (refine' r_item ?N ?hm ?h0 ?hf ?hx ?_ ?hs; (case N => k_asm); (case hm => k_mem); (case h0 => first | decide | omega); (case hf => first | decide | omega); (case hx => walk_at "g_nth"); (case hs => with_unfolding_all rfl); k_whole) | (refine' r_back ?N ?hm ?h0 ?h1 ?hf ?hx ?_ ?hs; (case N => k_asm); (case hm => k_mem); (case h0 => decide); (case h1 => walk_at "g_len"); (case hf => decide); (case hx => walk_at "g_nth"); (case hs => with_unfolding_all rfl); k_whole) | (refine' r_tup ?N ?hm ?h0 ?hf ?hj ?hx ?_ ?hs; (case N => k_asm); (case hm => k_mem); (case h0 => decide); (case hf => decide); (case hj => rfl); (case hx => rfl); (case hs => with_unfolding_all rfl); k_whole))))
local macro_rules | `(tactic| walk_at "subscriptTail Name Slice ref ref") => `(tactic| (k_here; k_dflt (refine' r_slice_all ?F ?N ?hm ?z ?_ ?hs ?ht; (case F => k_asm); (case N => k_asm); (case hm => k_mem); (case z => walk_at "g_len"); (case hs => with_unfolding_all rfl); (case ht => intro _; with_unfolding_all rfl)); intro D' h' F' N' l1))
local macro_rules | `(tactic| walk_at "truthy ref") => `(tactic| (k_here; k_dflt (refine' r_truthy ?N ?hm ?z ?_; (case N => k_asm); (case hm => k_mem); (case z => walk_at "g_len")); intro tk'))
local macro_rules | `(tactic| walk_at "getMethod ref") => `(tactic| (k_here; k_dflt (first | ((with_reducible show wpAny _ _ (getMethod (Value.ref _) (Str.ofString "pop") _) _ _ _); refine' r_method ?N ?hm PySem.F.slot_list_pop PySem.F.type_list_pop ?_; (case N => k_asm); (case hm => k_mem)) | ((with_reducible show wpAny _ _ (getMethod (Value.ref _) (Str.ofString "append") _) _ _ _); refine' r_method ?N ?hm PySem.F.slot_list_append PySem.F.type_list_append ?_; (case N => k_asm); (case hm => k_mem)) | ((with_reducible show wpAny _ _ (getMethod (Value.ref _) (Str.ofString "reverse") _) _ _ _); refine' r_method ?N ?hm PySem.F.slot_list_reverse PySem.F.type_list_reverse ?_; (case N => k_asm); (case hm => k_mem)))))
local macro_rules | `(tactic| walk_at "call builtin:list.pop") => `(tactic| (k_here; k_dflt (first | (refine' r_pop0 ?F ?N ?hm ?e ?z ?_; (case F => k_asm); (case N => k_asm); (case hm => k_mem); (case e => first | with_reducible exact rrefs_cons | with_reducible assumption | rfl); (case z => walk_at "g_len")) | (refine' r_pop ?F ?N ?hm ?e ?z ?_; (case F => k_asm); (case N => k_asm); (case hm => k_mem); (case e => with_reducible assumption); (case z => walk_at "g_len"))); intro h' F' N'))
local macro_rules | `(tactic| walk_at "call builtin:list.append") => `(tactic| (k_here; k_dflt (refine' r_append ?F ?N ?hm ?z ?_; (case F => k_asm); (case N => k_asm); (case hm => k_mem); (case z => walk_at "g_len")); intro h' F' N'))
local macro_rules | `(tactic| walk_at "call builtin:list.reverse") => `(tactic| (k_here; k_dflt (refine' r_reverse ?F ?N ?hm ?z ?_; (case F => k_asm); (case N => k_asm); (case hm => k_mem); (case z => walk_at "g_len")); intro h' F' N'))
local macro_rules | `(tactic| walk_at "call builtin:len") => `(tactic| (k_here; (with_reducible show wpAny _ _ (call (Value.builtin "len") [Value.ref _]) _ _ _); k_dflt (refine' r_len ?N ?hm ?z ?_; (case N => k_asm); (case hm => k_mem); (case z => walk_at "g_len"))))
local macro_rules | `(tactic| walk_at "setAttr ref") => `(tactic| (k_here; k_dflt (refine' r_setattr ?F ?X ?N ?hx ?hd ?k4 ?k5 ?k6 ?k7 ?k8 ?k9 ?kz ?_; (case F => k_asm); (case X => k_asm); (case N => k_asm); (case hx => k_mem); (case hd => k_mem); (case k4 => k_is); (case k5 => k_is); (case k6 => k_is); (case k7 => k_is); (case k8 => k_get); (case k9 => k_put); (case kz => exact Nat.le_of_ble_eq_true rfl); k_whole); intro h' F' N'))
local macro_rules | `(tactic| walk_at "call builtin:dict.pop") => `(tactic| (k_here; k_dflt (refine' r_dpop ?N ?hm ?hd ?lo ?_; (case N => k_asm); (case hm => k_mem); (case hd => with_reducible assumption); (case lo => with_reducible assumption))))
local macro_rules | `(tactic| walk_at "exec For Name Name cons nil") => `(tactic| (k_here; (rename Fr _ _ _ _ => lF'); (with_unfolding_all refine' For_invVF lF' ?k1 ?k2 ?_; (case k1 => exact rfl); (case k2 => exact rfl); k_whole)))
local macro_rules | `(tactic| walk_at "pyIter ref") => `(tactic| ((with_reducible show wpAny _ _ (pyIter (Value.ref _)) (fun it s₂ => LoopAtV _ _ _ _ _ _ _ _ _ it s₂) _ _); k_dflt (refine' for_none ?hh ?F ?N ?hm ?hi ?e ?_; (case hh => rfl); (case F => k_asm); (case N => k_asm); (case hm => k_mem); (case hi => with_reducible assumption); (case e => rfl)); intro h' tk' F' N'))

local macro_rules | `(tactic| walk_at "exec Assign cons ListComp") => `(tactic| (k_here; k_dflt (refine' cg_assign ?F0 ?k1 ?k2 ?k3 ?k4 ?k5 ?k6 ?k7 ?k8 ?_; (case F0 => k_asm); (case k1 => exact rfl); (case k2 => with_unfolding_all rfl); (case k3 => with_unfolding_all rfl); (case k4 => decide); (case k5 => rfl); (case k6 => decide); (case k7 => rfl); (case k8 => rfl))))
local macro_rules | `(tactic| walk_at "call type:enumerate") => `(tactic| (k_dflt (refine' enum_src ?hh ?F ?N ?hm ?hi ?hz ?e1 ?e2 ?e3 ?e4 ?e5 ?e6 ?_; (case hh => rfl); (case F => k_asm); (case N => k_asm); (case hm => k_mem); (case hi => with_reducible assumption); (case hz => omega); (case e1 => rfl); (case e2 => rfl); (case e3 => rfl); (case e4 => decide); (case e5 => decide); (case e6 => decide)); intro D' h' tk' rs' F' N' e' l1' l2'))
local macro_rules | `(tactic| walk_at "pyIter ref") => `(tactic| ((with_reducible show wpAny _ _ (pyIter (Value.ref _)) (CgSrc _ _ _ _ _ _ _ _ _ _ _ _ _) _ _); k_dflt (refine' dict_src ?hh ?F ?N ?hv ?hm ?hd ?hk ?hi ?hz ?e1 ?e2 ?e3 ?e4 ?e5 ?e6 ?_; (case hh => rfl); (case F => k_asm); (case N => k_asm); (case hv => with_reducible assumption); (case hm => k_mem); (case hd => with_reducible assumption); (case hk => with_reducible assumption); (case hi => with_reducible assumption); (case hz => omega); (case e1 => rfl); (case e2 => rfl); (case e3 => rfl); (case e4 => decide); (case e5 => decide); (case e6 => decide)); intro D' h' tk' rs' F' N' e' l1' l2'))
local macro_rules | `(tactic| walk_at "call builtin:dict.items") => `(tactic| (k_here; k_dflt (refine' kta_callItems (knd := PySem.intKind _ _) ?F ?N ?hm ?hd ?lo ?_; (case F => k_asm); (case N => k_asm); (case hm => k_mem); (case hd => with_reducible assumption); (case lo => with_reducible assumption)); intro h' hv' F' N'))
local macro_rules | `(tactic| walk_at "getMethod ref") => `(tactic| ((with_reducible show wpAny _ _ (getMethod (Value.ref _) (Str.ofString "items") _) _ _ _); k_here; k_dflt (refine' kdl_method (knd := PySem.intKind _ _) PySem.F.slot_dict_items PySem.F.type_dict_items ?N ?hm ?hd ?_; (case N => k_asm); (case hm => k_mem); (case hd => with_reducible assumption))))
local macro_rules | `(tactic| walk_at "call builtin:isinstance") => `(tactic| (k_here; k_dflt (refine' r_isdict ?N ?hm ?hd ?_; (case N => k_asm); (case hm => k_mem); (case hd => with_reducible assumption))))
local macro_rules | `(tactic| walk_at "truthy ref") => `(tactic| (k_here; k_dflt (first | (refine' r_truthy_cons ?N ?hm ?e ?z ?_; (case N => k_asm); (case hm => k_mem); (case e => with_reducible exact rrefs_cons); (case z => walk_at "g_len")) | (refine' r_truthy_nil ?N ?hm ?e ?_; (case N => k_asm); (case hm => k_mem); (case e => rfl))); intro tk'))
local macro_rules | `(tactic| walk_at "g_len") => `(tactic| first | omega | (simp only [List.length_cons, List.length_append, List.length_nil, refs_length, rrefs_length, List.length_reverse, List.length_map]; omega))
local macro_rules | `(tactic| walk_at "call builtin:list.reverse") => `(tactic| (k_here; k_dflt (refine' r_reverse_refs ?F ?N ?hm ?z ?_; (case F => k_asm); (case N => k_asm); (case hm => k_mem); (case z => walk_at "g_len")); intro h' F' N'))
local macro_rules | `(tactic| walk_at "eval ListComp") => `(tactic| (k_here; (with_reducible show wpAny _ _ (eval (Expr.ListComp _ [Comprehension.mk _ _ [] _] _ _) _) _ _ _); k_dflt (refine' cg_comp ?F0 ?k3 ?k4 ?k5 ?k6 ?_; (case F0 => k_asm); (case k3 => with_unfolding_all rfl); (case k4 => decide); (case k5 => rfl); (case k6 => decide))))
local macro_rules | `(tactic| walk_at "pyIter ref") => `(tactic| ((with_reducible show wpAny _ _ (pyIter (Value.ref _)) (CgSrc _ _ _ _ _ _ _ _ (Expr.Name _ _) _ _ _ _) _ _); k_dflt (refine' second_src ?hh ?F ?N ?hm ?hz ?ht ?e1 ?e2 ?e3 ?_; (case hh => rfl); (case F => k_asm); (case N => k_asm); (case hm => k_mem); (case ht => with_reducible assumption); (case hz => walk_at "g_len"); (case e1 => rfl); (case e2 => rfl); (case e3 => decide)); intro D' h' tk' F' N' l1'))
local macro_rules | `(tactic| walk_at "call builtin:list.sort") => `(tactic| refine stop_here ?_)
local macro_rules | `(tactic| walk_at "exec While Name cons nil") => `(tactic| refine stop_here ?_)
local macro_rules | `(tactic| walk_at "g_nth") => `(tactic| first | with_reducible exact rrefs_last | with_reducible exact rrefs_first)


local macro_rules | `(tactic| walk_at "pyIter ref") => `(tactic| ((with_reducible show wpAny _ _ (pyIter (Value.ref _)) (CgSrc _ _ _ _ _ _ _ _ (Expr.Tuple _ _ _) _ _ _ _) _ _); k_dflt (first | (refine' pairN_src (g := fun e => Value.int e.lab e.tl) ?hh ?F ?N ?hm ?hz ?ht ?e1 ?e2 ?e3 ?e4 ?e5 (.inl ⟨rfl, rfl⟩) ?_; (case hh => rfl); (case F => k_asm); (case N => k_asm); (case hm => k_mem); (case ht => with_reducible assumption); (case hz => walk_at "g_len"); (case e1 => rfl); (case e2 => rfl); (case e3 => rfl); (case e4 => decide); (case e5 => decide)) | (refine' pairN_src (g := fun e => Value.str (letter e.d) e.td) ?hh ?F ?N ?hm ?hz ?ht ?e1 ?e2 ?e3 ?e4 ?e5 (.inr ⟨rfl, rfl⟩) ?_; (case hh => rfl); (case F => k_asm); (case N => k_asm); (case hm => k_mem); (case ht => with_reducible assumption); (case hz => walk_at "g_len"); (case e1 => rfl); (case e2 => rfl); (case e3 => rfl); (case e4 => decide); (case e5 => decide))); intro D' h' tk' F' N' l1'))
local macro_rules | `(tactic| walk_at "call builtin:sorted") => `(tactic| (k_here; k_dflt (refine' r_sorted ?F ?N ?hm ?hi ?hz ?_; (case F => k_asm); (case N => k_asm); (case hm => k_mem); (case hi => with_reducible assumption); (case hz => first | omega | (rw [labs_length]; omega))); intro D' v' c' h' F' N' l1' hi'))
local macro_rules | `(tactic| walk_at "compareOp NotEq") => `(tactic| (k_here; (with_reducible show wpAny _ _ (compareOp CmpOp.NotEq (Value.ref _) (Value.ref _)) _ _ _); k_dflt (refine' r_ne_same ?hu ?N ?h1 ?h2 ?i1 ?i2 ?e ?_; (case hu => exact Nat.le_of_ble_eq_true rfl); (case N => k_asm); (case h1 => k_mem); (case h2 => k_mem); (case i1 => with_reducible assumption); (case i2 => with_reducible assumption); (case e => first | rfl | with_reducible assumption))))
local macro_rules | `(tactic| walk_at "eval ListComp") => `(tactic| (k_here; (with_reducible show wpAny _ _ (eval (Expr.ListComp _ [Comprehension.mk _ _ [_] _] _ _) _) _ _ _); k_dflt (refine' cn_comp ?F ?N ?k1 ?k2 ?k3 ?k4 ?k5 ?k6 ?k7 ?k8 ?hm ?hz ?ht ?hit ?htest ?_; (case hit => (intro _ hq; exact ld (by k_asm) (by rfl) hq)); (case F => k_asm); (case N => k_asm); (case k1 => with_unfolding_all rfl); (case k2 => decide); (case k3 => rfl); (case k4 => decide); (case k5 => rfl); (case k6 => rfl); (case k7 => decide); (case k8 => rfl); (case hm => k_mem); (case hz => walk_at "g_len"); (case ht => (intro e9 he9; have h9 := (show ∀ e ∈ _, (TE.t e, tupO e) ∈ _ from by with_reducible assumption) e9 he9; k_mem)); (case htest => (intro e C s m' Q E' he ha hb hns hq; exact test_letters rfl rfl hns hb (by decide) hq))); intro D' h' tk' F' N' l1'))
local macro_rules | `(tactic| walk_at "call type:list") => `(tactic| (k_here; (with_reducible show wpAny _ _ (call (Value.type _) [Value.ref _]) _ _ _); k_dflt (refine' r_lcopy ?F ?N ?hm ?hz ?_; (case F => k_asm); (case N => k_asm); (case hm => k_mem); (case hz => walk_at "g_len")); intro D' c' h' F' N' l1'))
local macro_rules | `(tactic| walk_at "call ref") => `(tactic| ((with_reducible show wpAny _ _ (call (Value.ref 666) [Value.ref _]) _ _ _); refine stop_here ?_))
local macro_rules | `(tactic| walk_at "g_gr") => `(tactic| first | with_reducible assumption | (refine' GR.mono ?h1 ?h2; (case h1 => with_reducible assumption); (case h2 => (intro a' o' hm' hf'; k_mem))))
local macro_rules | `(tactic| walk_at "call builtin:sorted") => `(tactic| (k_here; k_dflt (first | (refine' sorted_G ?B ?F ?X ?N ?T ?G ?hb ?hz ?_; (case B => with_reducible assumption); (case F => k_asm); (case X => k_asm); (case N => k_asm); (case T => with_reducible assumption); (case G => walk_at "g_gr"); (case hb => omega); (case hz => (rw [labs_length]; omega)); intro D' v' c' h' tk' F' N' l1' hi') | (refine' r_sorted ?F ?N ?hm ?hi ?hz ?_; (case F => k_asm); (case N => k_asm); (case hm => k_mem); (case hi => with_reducible assumption); (case hz => first | omega | (rw [labs_length]; omega)); intro D' v' c' h' F' N' l1' hi'))))
local macro_rules | `(tactic| walk_at "pyIter ref") => `(tactic| ((with_reducible show wpAny _ _ (pyIter (Value.ref _)) (fun it s₂ => LoopAtV _ _ _ _ _ _ _ _ _ it s₂) _ _); refine stop_here ?_))
local macro_rules | `(tactic| walk_at "call type:range") => `(tactic| ((rename Fr _ _ _ _ => F'); (rename News _ _ _ _ => N'); (with_unfolding_all refine range1_rows F' N' ?_; intro _ _ _ _ _ _ _ _ _)))
local macro_rules | `(tactic| walk_at "call ref") => `(tactic| (k_here; (with_reducible show wpAny _ _ (call (Value.ref 513) [Value.ref _, Value.int _ _, Value.int _ _]) _ _ _); k_dflt (refine' has_edge_G ?B ?F ?X ?N ?T ?G ?hb ?hkk ?hu ?_; (case B => with_reducible assumption); (case F => k_asm); (case X => k_asm); (case N => k_asm); (case T => with_reducible assumption); (case G => walk_at "g_gr"); (case hb => omega); (case hkk => (rw [labs_length]; omega)); (case hu => with_reducible assumption)); intro h' tk' F' N'))

set_option maxRecDepth 100000 in
set_option maxHeartbeats 4000000 in
theorem ltells {ccl : List (Str × Addr)} {w : World} {A₀ : Around} {base h₀ : Heap} {L a : Addr} {m mg mb : Str → Option Value} {cn : Str} {cnm : List (Str × NameKind)} {cig cic : Bool} {cmo : List (Str × Const)} {ccd : Value} {news : List (Addr × Obj)}
   {p : Program} {loose : List Str} {mean : ExcName → Option Value} {s : Shared} {Q E : Value → Shared → Prop} 
   (B : Below A₀ base [] h₀) (Fh : Fr h₀ L s.heap m) (X₀ : (hd.heap_39 w.params).In h₀) (N : News h₀ L s.heap news) (T : Top p loose mean mg mb h₀) {r nm wt : Addr} {c cn' cw' : Nat} {e0 : TE} {ts : List TE} {nv wv : List Value} {ks ws : List Int} {lim : Int} {tlim : Tok} (hr : (r, listOf (refs (e0 :: ts)).toArray c) ∈ news) (h0 : (e0.t, tupO e0) ∈ news) (ht : ∀ e ∈ e0 :: ts, (e.t, tupO e) ∈ news) (hz : (e0 :: ts).length ≤ 9)
   (hnm : (nm, listOf nv.toArray cn') ∈ news) (hni : IntsAre nv ks) (hwt : (wt, listOf wv.toArray cw') ∈ news) (hwi : IntsAre wv ws) (hpm : (labs (e0 :: ts)).Perm ks) (hnd : ks.Nodup) (hlw : ws.length = ks.length) (hd : e0.d = true)
   (hed : ∀ (i j : Nat) (k1 k2 w1 w2 : Int), j < i → ks[i]? = some k1 → ks[j]? = some k2 → ws[i]? = some w1 → ws[j]? = some w2 → (edP (e0 :: ts) k1 k2 ↔ lim < w1 + w2))
   (hQ : ∀ {h' tk news'}, Fr h₀ L h' m → News h₀ L h' news' → (∀ a o, (a, o) ∈ news → (a, o) ∈ news') → Q (.bool true) { s with heap := h', toks := tk }) :
   wpAny (model Challenge.rw_aq6051_01.row.prog w) (callerA.deeper (envX cn { kind := .function, names := cnm, isGenerator := cig, isCoroutine := cic, more := cmo } L a ccd ccl)) (call (.ref 683) [.ref r, .ref nm, .ref wt, .int lim tlim]) Q E s := by
  revert X₀
  k_fill
  intro X₀
  w_on
  have hz9 : ts.length ≤ 8 := by simpa using hz
  have hkl : ks.length ≤ 9 := by (rw [← hpm.length_eq, labs_length]; exact hz)
  have h0d := tup_d h0 hd
  have hsrt : srt (labs (e0 :: ts)) = srt ks := srt_of hpm
  have hli := labs_ints (e0 :: ts)
  k_steps
  refine ⟨?_⟩
  refine' tg ?B ?F ?X ?N ?T ?hr ?h0 ?ht ?hz ?hnd ?_
  (case B => with_reducible assumption)
  (case F => k_asm)
  (case X => k_asm)
  (case N => k_asm)
  (case T => with_reducible assumption)
  (case hr => k_mem)
  (case h0 => k_mem)
  (case ht => (intro e9 he9; have h9 := ht e9 (List.mem_cons_of_mem _ he9); k_mem))
  (case hz => exact hz9)
  (case hnd => exact hpm.nodup_iff.mpr hnd)
  intro h' tk' news9 x9 F9 Ed9 b9 wF wN G9 hb9 hEd9 hK9
  have hkp9 : ∀ a o, (a, o) ∈ news → (a, o) ∈ news9 := fun a' o' hm' => (hK9 a' o' (by k_mem) (by simp)).1
  have hnm9 := hkp9 _ _ hnm
  have hwt9 := hkp9 _ _ hwt
  obtain ⟨dx9, h91, h92, h93, t91, t92, t93, gd9, nd9, ad9, ep9, hgx9, hgd9, hxF9, hdF9⟩ := GR.inst G9
  have hnl := hni.length
  have hwl := hwi.length
  k_steps
  refine ⟨?_⟩
  rename Fr _ _ _ _ => F8
  rename News _ _ _ _ => N8
  rename IsRange _ _ _ _ _ _ _ _ => R8
  refine' for_rs (x := Str.ofString "one") (n := ks.length) [Str.ofString "other"] (LTJ news9) ?hh F8 N8 R8 ?hs ?hn (fun a' o' hm' => (by k_mem)) ?turn ?done
  (case hh => rfl)
  (case hs => exact rng_small (by decide) (by decide) (by omega) (by omega))
  (case hn => exact rng_size (by omega))
  (case done =>
    intro m1 nw h tk hJ F7 N7
    k_steps
    rename Fr h₀ _ _ _ => F6
    rename News h₀ _ _ _ => N6
    exact hQ F6 N6 (fun a' o' hm' => hJ _ _ (hkp9 _ _ hm')))
  (case turn =>
    intro i k m1 nw h tk Ia oI hi hJ hne F7 N7
    have G7 := GR.mono G9 (fun a' o' hm' _ => hJ a' o' hm')
    have hnm7 := hJ _ _ hnm9
    have hwt7 := hJ _ _ hwt9
    have hgx7 := hJ _ _ hgx9
    have hgd7 := hJ _ _ hgd9
    k_steps
    refine ⟨?_⟩
    rename Fr _ _ _ _ => F6
    rename News _ _ _ _ => N6
    rename IsRange _ _ _ _ _ _ _ _ => R6
    refine' for_rs (x := Str.ofString "other") (n := i) [] (LTJ ((Ia, oI) :: nw)) ?hh F6 N6 R6 ?hs ?hn (fun a' o' hm' => (by k_mem)) ?turn ?done
    (case hh => rfl)
    (case hs => exact rng_small (by decide) (by decide) (by omega) (by omega))
    (case hn => exact rng_size (by omega))
    (case done =>
      intro m2 nw2 h2 tk2 hJ2 F5 N5
      k_steps
      exact REnd.intro (by k_asm) (by k_asm) (hJ2 _ _ List.mem_cons_self) (fun a' o' hm' => mem_off (hJ2 _ _ (List.mem_cons_of_mem _ (hJ _ _ hm'))) (hne _ (hJ _ _ hm'))) (by intro z hz1 hz2; have q := stored1 hz2; simp only [if_neg hz1, if_neg q, hz2, List.contains_nil, Bool.false_eq_true, if_false]))
    (case turn =>
      intro j k2 m2 nw2 h2 tk2 Ib oIb hj hJ2 hne2 F5 N5
      have G5 := GR.mono G7 (fun a' o' hm' _ => hJ2 a' o' (List.mem_cons_of_mem _ hm'))
      have hnm5 := hJ2 _ _ (List.mem_cons_of_mem _ hnm7)
      have hwt5 := hJ2 _ _ (List.mem_cons_of_mem _ hwt7)
      have hgx5 := hJ2 _ _ (List.mem_cons_of_mem _ hgx7)
      have hgd5 := hJ2 _ _ (List.mem_cons_of_mem _ hgd7)
      obtain ⟨k1', t1, hx1, hk1⟩ := LTx.get hni (show i < ks.length by omega)
      obtain ⟨k2', t2, hx2, hk2⟩ := LTx.get hni (show j < ks.length by omega)
      obtain ⟨w1', t3, hx3, hw1⟩ := LTx.get hwi (show i < ws.length by omega)
      obtain ⟨w2', t4, hx4, hw2⟩ := LTx.get hwi (show j < ws.length by omega)
      have hin1 : k1' ∈ labs (e0 :: ts) := hpm.mem_iff.mpr (List.mem_of_getElem? hk1)
      have hiff := hed i j _ _ _ _ hj hk1 hk2 hw1 hw2
      have hEq : Ed9 k1' k2' = decide (w1' + w2' > lim) := LTx.eq (hEd9 k1' k2') hiff
      k_steps
      · rename (_ != _) = true => hc
        rw [hEq] at hc
        simp at hc
      · exact REnd.intro (by k_asm) (by k_asm) List.mem_cons_self (fun a' o' hm' => mem_off (List.mem_cons_of_mem _ (hJ2 _ _ hm')) (hne2 _ (hJ2 _ _ hm'))) (by intro z hz1 hz2; simp only [if_neg hz1, List.contains_nil, Bool.false_eq_true, if_false])))
  all_goals w_report


end Mine
end

section
open PySem PySem.W PyProof.Rows PySem.Calls PySem.Spec PyProof.V PyProof.Rows.LCg
set_option Elab.async false
set_option linter.unusedVariables false
set_option maxRecDepth 100000
namespace Mine
/-- an edge by the list of pops: the one popped first is a d -/
def edR (R : List (Int × Bool)) (c d : Int) : Prop := ∃ R1 r R2, R = R1 ++ r :: R2 ∧ r.2 = true ∧ ∃ e ∈ R2, (e.1 = c ∧ r.1 = d) ∨ (e.1 = d ∧ r.1 = c)
theorem edR_nil {c d : Int} : ¬ edR [] c d := by rintro ⟨R1, r, R2, h, _⟩; simp at h
theorem edR_cons {x : Int × Bool} {R : List (Int × Bool)} {c d : Int} : edR (x :: R) c d ↔ edR R c d ∨ (x.2 = true ∧ ∃ e ∈ R, (e.1 = c ∧ x.1 = d) ∨ (e.1 = d ∧ x.1 = c)) := by
  constructor
  · rintro ⟨R1, r, R2, h, hd, he⟩
    cases R1 with
    | nil =>
      obtain ⟨rfl, rfl⟩ := List.cons.inj h
      exact .inr ⟨hd, he⟩
    | cons y R1 =>
      obtain ⟨rfl, rfl⟩ := List.cons.inj h
      exact .inl ⟨R1, r, R2, rfl, hd, he⟩
  · rintro (⟨R1, r, R2, rfl, hd, he⟩ | ⟨hd, he⟩)
    · exact ⟨x :: R1, r, R2, rfl, hd, he⟩
    · exact ⟨[], x, R, rfl, hd, he⟩
theorem edR_mem {c d : Int} : ∀ {R : List (Int × Bool)}, edR R c d → c ∈ R.map (·.1) ∧ d ∈ R.map (·.1) := by
  rintro R ⟨R1, r, R2, rfl, hd, e, he, h⟩
  have h1 : r.1 ∈ (R1 ++ r :: R2).map (·.1) := List.mem_map_of_mem (by simp)
  have h2 : e.1 ∈ (R1 ++ r :: R2).map (·.1) := List.mem_map_of_mem (by simp [he])
  rcases h with ⟨rfl, rfl⟩ | ⟨rfl, rfl⟩
  · exact ⟨h2, h1⟩
  · exact ⟨h1, h2⟩
theorem edP_edR {es : List TE} {R : List (Int × Bool)} (h : evals es = R.reverse) {c d : Int} : edP es c d ↔ edR R c d := by
  have h' : R = (evals es).reverse := by rw [h, List.reverse_reverse]
  subst h'
  constructor
  · rintro ⟨P1, r, P2, rfl, hd, e, he, hx⟩
    refine ⟨(evals P2).reverse, (r.lab, r.d), (evals P1).reverse, by simp [evals], hd, (e.lab, e.d), ?_, hx⟩
    rw [List.mem_reverse]
    exact List.mem_map_of_mem he
  · rintro ⟨R1, r, R2, hR, hd, e, he, hx⟩
    have h2 : evals es = R2.reverse ++ r :: R1.reverse := by
      have := congrArg List.reverse hR
      simpa using this
    unfold evals at h2
    obtain ⟨P1, q, rfl, h3, h4⟩ := List.map_eq_append_iff.mp h2
    obtain ⟨r', P2, rfl, h5, h6⟩ := List.map_eq_cons_iff.mp h4
    have : e ∈ P1.map fun e => (e.lab, e.d) := by rw [h3]; exact List.mem_reverse.mpr he
    obtain ⟨e', he', rfl⟩ := List.mem_map.mp this
    subst h5
    exact ⟨P1, r', P2, rfl, hd, e', he', hx⟩
theorem pops_cons {th : Int} {n : Nat} {x y : Int × Int} {r : List (Int × Int)} : pops th (n + 1) (x :: y :: r) = if x.2 < th - ((x :: y :: r).getLast (by simp)).2 then (x.1, false) :: pops th n (y :: r) else (((x :: y :: r).getLast (by simp)).1, true) :: pops th n ((x :: y :: r).dropLast) := by rw [pops]
theorem dropLast_perm {α : Type} : ∀ (l : List α) (h : l ≠ []), (l.getLast h :: l.dropLast).Perm l := fun l h => by
  have := List.dropLast_concat_getLast h
  conv => rhs; rw [← this]
  exact (List.perm_append_singleton _ _).symm
theorem pops_perm {th : Int} : ∀ (n : Nat) (l : List (Int × Int)), l.length = n → ((pops th n l).map (·.1)).Perm (l.map (·.1))
  | 0, l, h => by
    obtain rfl := List.eq_nil_of_length_eq_zero h
    exact List.Perm.refl _
  | n + 1, [], h => by cases h
  | n + 1, [x], h => List.Perm.refl _
  | n + 1, x :: y :: r, h => by
    rw [pops_cons]
    split
    · exact (pops_perm n (y :: r) (by simpa using h)).cons x.1
    · have h1 := pops_perm (th := th) n ((x :: y :: r).dropLast) (by rw [List.length_dropLast, h]; omega)
      refine (h1.cons _).trans ?_
      have := (dropLast_perm (x :: y :: r) (by simp)).map (·.1)
      exact this
theorem pops_last {th : Int} : ∀ (n : Nat) (l : List (Int × Int)), l.length = n → 0 < n → ∃ p x, pops th n l = p ++ [(x, true)]
  | 0, l, h, hn => absurd hn (Nat.lt_irrefl _)
  | n + 1, [], h, _ => by cases h
  | n + 1, [x], h, _ => ⟨[], x.1, rfl⟩
  | n + 1, x :: y :: r, h, _ => by
    rw [pops_cons]
    have hr : r.length + 1 = n := by simpa using h
    split
    · obtain ⟨p, z, e⟩ := pops_last (th := th) n (y :: r) (by simpa using h) (by omega)
      exact ⟨_ :: p, z, by rw [e]; rfl⟩
    · obtain ⟨p, z, e⟩ := pops_last (th := th) n ((x :: y :: r).dropLast) (by rw [List.length_dropLast, h]; omega) (by omega)
      exact ⟨_ :: p, z, by rw [e]; rfl⟩
theorem edR_step {a : Int} {t : Bool} {R : List (Int × Bool)} {l' : List (Int × Int)} {th wa : Int} (hp : (R.map (·.1)).Perm (l'.map (·.1))) (ha : a ∉ l'.map (·.1))
    (ih : ∀ x ∈ l', ∀ y ∈ l', x.1 ≠ y.1 → (edR R x.1 y.1 ↔ th ≤ x.2 + y.2)) (ht : ∀ y ∈ l', (t = true ↔ th ≤ wa + y.2)) :
    ∀ x ∈ (a, wa) :: l', ∀ y ∈ (a, wa) :: l', x.1 ≠ y.1 → (edR ((a, t) :: R) x.1 y.1 ↔ th ≤ x.2 + y.2) := by
  have haR : a ∉ R.map (·.1) := fun h => ha (hp.mem_iff.mp h)
  have hin : ∀ y ∈ l', ∃ e ∈ R, e.1 = y.1 := fun y hy => by
    have : y.1 ∈ R.map (·.1) := hp.mem_iff.mpr (List.mem_map_of_mem hy)
    obtain ⟨e, he, h⟩ := List.mem_map.mp this
    exact ⟨e, he, h⟩
  intro x hx y hy hxy
  rw [edR_cons]
  rcases List.mem_cons.mp hx with rfl | hx <;> rcases List.mem_cons.mp hy with rfl | hy
  · exact absurd rfl hxy
  · constructor
    · rintro (h | ⟨h, _⟩)
      · exact absurd (edR_mem h).1 haR
      · exact (ht y hy).mp h
    · intro h
      obtain ⟨e, he, h1⟩ := hin y hy
      exact .inr ⟨(ht y hy).mpr h, e, he, .inr ⟨h1, rfl⟩⟩
  · constructor
    · rintro (h | ⟨h, _⟩)
      · exact absurd (edR_mem h).2 haR
      · have := (ht x hx).mp h
        show th ≤ x.2 + wa
        omega
    · intro h
      obtain ⟨e, he, h1⟩ := hin x hx
      have h : th ≤ x.2 + wa := h
      exact .inr ⟨(ht x hx).mpr (by omega), e, he, .inl ⟨h1, rfl⟩⟩
  · rw [← ih x hx y hy hxy]
    constructor
    · rintro (h | ⟨_, e, he, h | h⟩)
      · exact h
      · exact absurd (by rw [show a = y.1 from h.2]; exact List.mem_map_of_mem hy) ha
      · exact absurd (by rw [show a = x.1 from h.2]; exact List.mem_map_of_mem hx) ha
    · exact .inl
theorem pops_edge {th : Int} : ∀ (n : Nat) (l : List (Int × Int)), l.length = n → (l.map (·.1)).Nodup → l.Pairwise (fun a b => a.2 ≤ b.2) → ∀ x ∈ l, ∀ y ∈ l, x.1 ≠ y.1 → (edR (pops th n l) x.1 y.1 ↔ th ≤ x.2 + y.2)
  | 0, l, h, _, _ => by
    obtain rfl := List.eq_nil_of_length_eq_zero h
    exact fun x hx => nomatch hx
  | n + 1, [], h, _, _ => fun x hx => nomatch hx
  | n + 1, [z], h, _, _ => fun x hx y hy hxy => by
    rw [List.mem_singleton.mp hx, List.mem_singleton.mp hy] at hxy
    exact absurd rfl hxy
  | n + 1, x :: y :: r, h, hnd, hs => by
    rw [pops_cons]
    have hne : (x :: y :: r) ≠ [] := by simp
    have hz : (x :: y :: r).getLast hne ∈ (x :: y :: r) := List.getLast_mem hne
    have hd : (x :: y :: r) = (x :: y :: r).dropLast ++ [(x :: y :: r).getLast hne] := (List.dropLast_concat_getLast hne).symm
    have hmax : ∀ u ∈ (x :: y :: r), u.2 ≤ ((x :: y :: r).getLast hne).2 := by
      intro u hu
      rw [hd] at hu hs
      rcases List.mem_append.mp hu with hu | hu
      · exact (List.pairwise_append.mp hs).2.2 u hu _ (List.mem_singleton.mpr rfl)
      · rw [List.mem_singleton.mp hu]; exact Int.le_refl _
    have hmin : ∀ u ∈ (x :: y :: r), x.2 ≤ u.2 := by
      intro u hu
      rcases List.mem_cons.mp hu with rfl | hu
      · exact Int.le_refl _
      · exact (List.pairwise_cons.mp hs).1 u hu
    generalize hlast : (x :: y :: r).getLast hne = z at *
    split
    · rename_i hc
      have h1 : (y :: r).length = n := by simpa using h
      rw [List.map_cons, List.nodup_cons] at hnd
      refine edR_step (wa := x.2) (pops_perm n _ h1) hnd.1 (pops_edge n _ h1 hnd.2 (List.pairwise_cons.mp hs).2) fun u hu => ?_
      have := hmax u (List.mem_cons_of_mem _ hu)
      simp only [Bool.false_eq_true, false_iff]
      omega
    · rename_i hc
      have h1 : ((x :: y :: r).dropLast).length = n := by rw [List.length_dropLast, h]; omega
      have hp := dropLast_perm (x :: y :: r) hne
      rw [hlast] at hp
      have hnd' : (z.1 :: ((x :: y :: r).dropLast).map (·.1)).Nodup := (hp.map (fun q : Int × Int => q.1)).nodup_iff.mpr hnd
      rw [List.nodup_cons] at hnd'
      have hsub : ∀ u, u ∈ (x :: y :: r).dropLast → u ∈ (x :: y :: r) := fun u hu => hp.mem_iff.mp (List.mem_cons_of_mem _ hu)
      have step := edR_step (t := true) (th := th) (wa := z.2) (pops_perm (th := th) n _ h1) hnd'.1 (pops_edge n _ h1 hnd'.2 (hs.sublist (List.dropLast_sublist _))) fun u hu => by
        have := hmin u (hsub u hu)
        simp only [true_iff]
        omega
      intro u hu v hv
      exact step u (hp.mem_iff.mpr hu) v (hp.mem_iff.mpr hv)
end Mine
end

section
open PySem PySem.W PyProof.Rows PySem.Calls PySem.Spec PyProof.V PyProof.Rows.LCg
set_option Elab.async false
set_option linter.unusedVariables false
set_option maxRecDepth 100000
namespace Mine
section
variable {prog : Program} {w : World} {A : Around} {E : Value → Shared → Prop} {s : Shared} {h₀ : Heap} {L : Addr} {m : Str → Option Value} {env : Env} {news : List (Addr × Obj)}
theorem ints_of_R {f : Nat → Int} {n : Nat} {vs : List Value} (hl : vs.length = n) (h : ∀ i y, vs[i]? = some y → ∃ t, y = Value.int (f i) t) : IntsAre vs ((List.range n).map f) := by
  have key : ∀ (vs : List Value) (k : Nat), (∀ i y, vs[i]? = some y → ∃ t, y = Value.int (f (k + i)) t) → IntsAre vs ((List.range' k vs.length).map f) := by
    intro vs
    induction vs with
    | nil => intro k _; exact .nil
    | cons v vs ih =>
      intro k hk
      obtain ⟨t, rfl⟩ := hk 0 v rfl
      have := ih (k + 1) fun i y hy => by
        obtain ⟨t, e⟩ := hk (i + 1) y (by simpa using hy)
        exact ⟨t, by rw [e, show k + 1 + i = k + (i + 1) by omega]⟩
      simpa [List.range'_succ] using IntsAre.cons (f (k + 0)) t this
  have := key vs 0 fun i y hy => by rw [Nat.zero_add]; exact h i y hy
  rw [hl, ← List.range_eq_range'] at this
  exact this
/-- [elt for x in range(n)] -/
theorem range_src {elt : PySem.Expr} {x : Str} {px : Pos} {scope : Scope} {cl : List (Str × Addr)} {mf : Addr → Str → Option Value} {QF : Addr → Shared → Prop} {r : Addr} {b : Int} {n : Nat} {t u v : Tok} (R : Nat → Value → Prop)
    (hh : A.handled = none) (F : Fr h₀ L s.heap m) (N : News h₀ L s.heap news) (hr : IsRange s.heap r 0 b 1 t u v) (hb : b = (n : Int)) (hz : n ≤ 1000)
    (hkind : scope.kind = .function) (hxa : scope.names.lookup x = some .local)
    (helt : ∀ (i : Nat) tk C (s : Shared) m' (Q : Value → Shared → Prop) (E' : Value → Shared → Prop), i < n → m' x = some (.int (i : Int) tk) → s.heap.Ns C m' → Fr h₀ L s.heap m → News h₀ L s.heap news → (∀ y tk, R i y → Q y { s with toks := tk }) → wpAny (model prog w) A (eval elt (compEnvC scope cl C env)) Q E' s)
    (fin : ∀ D h tk vs, Fr h₀ L h (mf D) → News h₀ L h ((D, lst vs) :: news) → (∀ p ∈ news, p.1 < D) → vs.length = n → (∀ i y, vs[i]? = some y → R i y) → QF D { s with heap := h, toks := tk }) :
    wpAny (model prog w) A (pyIter (.ref r)) (CgSrc prog w A h₀ L m env elt (.Name x px) scope cl mf QF) E s := by
  subst hb
  refine wpAny_pyIter_range hr (rng_small (by decide) (by decide) (by omega) (by omega)) ?_
  have hn : Builtin.Range.rangeSize 0 (n : Int) 1 = (n : Int) := rng_size (by omega)
  have W := range_walks (prog := prog) (w := w) (I := s.heap.objs.size) hh 0 n
  have hnew := next_is_new F
  refine ⟨s.heap.objs.size, [s.heap.objs.size], [s.heap.objs.size], n, _, _, _, fun i m' => ∃ tk, m' x = some (.int (i : Int) tk), fun i y objs => R i y ∧ objs = [], news, rfl,
    KTurns.ofWalks W (fun i v s Q E _ hq => by show wpAny _ _ (pure ()) _ _ _; exact wpAny_pure hq), fun s' Q E st h => W.self 0 s' Q E st h, by rw [sizeLine_eq]; omega,
    (by show IsRangeIter _ _ _ _ _; rw [hn]; simpa using Heap.get?_push_size _ rfl), ?_, ?_, F.push _, (fun p hp => ⟨Heap.get?_push_of_some _ (N p hp).1, (N p hp).2⟩), ?_, ?_, ?_⟩
  · intro b hb
    rw [List.mem_singleton.mp hb]
    show _ < (s.heap.push _).objs.size
    rw [Heap.size_push]; exact Nat.lt_succ_self _
  · intro b hb
    rw [List.mem_singleton.mp hb]
    exact ⟨Nat.ne_of_gt F.ns.lt, hnew, fun p hp => Nat.ne_of_lt (Heap.lt_size (N p hp).1)⟩
  · rintro i v C s' m' Q E' ⟨tk, rfl⟩ hns hQ
    refine wpAny_assign_Name (wpAny_storeName_local (lookup_relabel_local hxa) hns (fun h' hn' hs' => ?_) (by simp [compEnvC, relabel, hkind]))
    exact hQ h' _ _ ⟨tk, by simp⟩ hn' fun c o hc e => hs'.extBut c o hc e
  · rintro i C s' m' Q E' hi ⟨tk, hm⟩ hns F' N' hQ
    exact helt i tk C s' m' Q E' hi hm hns F' N' fun y tk hy => hQ y s'.heap tk [] (fun _ _ e => e) (fun _ h => nomatch h) ⟨hy, rfl⟩
  · intro D h tk rs F' N' hlen hrel l1 l2
    have e2 : rs.flatMap (·.2) = [] := by
      rw [List.flatMap_eq_nil_iff]
      intro r hr
      obtain ⟨i, hi⟩ := List.getElem?_of_mem hr
      exact (hrel i r hi).2
    rw [e2] at N'
    refine fin D h tk _ F' N' l1 (by rw [List.length_map, hlen]) fun i y hy => ?_
    rw [List.getElem?_map] at hy
    cases hr : rs[i]? with
    | none => rw [hr] at hy; cases hy
    | some r =>
      rw [hr] at hy
      cases hy
      exact (hrel i r hr).1
theorem ce_local {M : Model} {scope : Scope} {cl : List (Str × Addr)} {C : Addr} {m' : Str → Option Value} {x : Str} {pos : Pos} {v : Value} {Q : Value → Shared → Prop} (hns : s.heap.Ns C m') (hv : m' x = some v) (h : Q v s)
    (hk : (compEnvC scope cl C env).scope.kind = .function) (hx : (compEnvC scope cl C env).kindOf x = some .local) (hd : (x == ("__debug__" : Str)) = false) : wpAny M A (eval (.Name x pos) (compEnvC scope cl C env)) Q E s :=
  wpAny_Name (wpAny_loadName_local hk hx hns hv h) hd
theorem ce_cell {M : Model} {scope : Scope} {cl : List (Str × Addr)} {C c : Addr} {o : Obj} {x : Str} {pos : Pos} {v : Value} {Q : Value → Shared → Prop} (N : News h₀ L s.heap news) (hc : cl.lookup x = some c) (hm : (c, o) ∈ news) (hd : o.data = .cell (some v)) (h : Q v s)
    (hk : (compEnvC scope cl C env).scope.kind = .function) (hx : (compEnvC scope cl C env).kindOf x = some .cell) (hb : (x == ("__debug__" : Str)) = false) : wpAny M A (eval (.Name x pos) (compEnvC scope cl C env)) Q E s :=
  wpAny_Name (wpAny_loadName_cell hk hx hc ⟨o, N.get hm, hd⟩ h) hb
theorem ce_builtin {M : Model} {K : Frag} {p : Program} {loose : List Str} {mg mb : Str → Option Value} {scope : Scope} {cl : List (Str × Addr)} {C : Addr} {x : Str} {pos : Pos} {v : Value} {Q : Value → Shared → Prop} (F : Fr h₀ L s.heap m) (X : K.In h₀) (T : TopRead p loose mg mb h₀)
    (hg : env.globals = mainGlobals) (hbi : env.builtins = builtinsNs) (e : nsIn K mainGlobals x = some none) (hv : bootBuiltins x = some v) (hn : x ≠ "__name__") (h : Q v s)
    (hk : (compEnvC scope cl C env).scope.kind = .function) (hx : (compEnvC scope cl C env).kindOf x = some .globalImplicit) (hd : (x == ("__debug__" : Str)) = false) :
    wpAny M A (eval (.Name x pos) (compEnvC scope cl C env)) Q E s :=
  Name_function_global hk hx (loadGlobal_builtin (env := compEnvC scope cl C env) (by show s.heap.Ns env.globals _; rw [hg]; exact T.g.keeps F.keep) (mg_none_of X T.g e) (by show s.heap.Ns env.builtins _; rw [hbi]; exact T.b.keeps F.keep) ((T.builtins x hn).trans hv) h) hd
theorem cg_assignC {elt iter target : PySem.Expr} {y : Str} {py : Pos} {scope : Scope} {cl : List (Str × Addr)} {pos spos : Pos} {Q : Flow → Shared → Prop} {cy : Addr} {oc : Obj} {v₀ : Option Value} (K : Addr → List Value → Prop) (hLe : env.locals = L)
    (hsw : swapsWith (.ListComp elt [⟨target, iter, [], 0⟩] scope pos) (some (.Name y py)) spos.line env = pure true)
    (hclos : closureFor scope env = pure cl) (hcell : ∀ y ∈ scope.names, y.2 ≠ .cell) (hkind : scope.kind = .function)
    (hnames : ∀ y ∈ scope.names, y.2 = .local → scope.names.lookup y.1 = some .local)
    (hek : env.scope.kind = .function) (hy : env.kindOf y = some .cell) (hyc : env.cells.lookup y = some cy) (hm : (cy, oc) ∈ news) (hoc : oc.data = .cell v₀)
    (h : wpAny (model prog w) A (eval iter env) (fun xv s₁ => wpAny (model prog w) A (pyIter xv) (CgSrc prog w A h₀ L m env elt target scope cl (fun _ => m) (fun D s' =>
      ∃ h' tk vs, s' = { s with heap := h', toks := tk } ∧ Fr h₀ L h' m ∧ News h₀ L h' ((D, lst vs) :: news) ∧ (∀ p ∈ news, p.1 < D) ∧ K D vs)) E s₁) E s)
    (fin : ∀ D vs h'' tk oc', Fr h₀ L h'' m → News h₀ L h'' ((D, lst vs) :: upd cy oc' news) → (∀ p ∈ news, p.1 < D) → oc'.data = .cell (some (.ref D)) → K D vs → Q .next { s with heap := h'', toks := tk })
    (hs : ∀ x, foldedSetIterable iter env x = pure x := by intro _; rfl) :
    wpAny (model prog w) A (exec (.Assign [.Name y py] (.ListComp elt [⟨target, iter, [], 0⟩] scope pos) spos) env) Q E s := by
  subst hLe
  rw [exec_Assign_Name_used _ _ _ _ hsw]
  refine wpAny_bind (wpAny_standAt (wpAny_bind ?_))
  show wpAny _ A (do let _ ← comprehension (.ListComp elt [⟨target, iter, [], 0⟩] scope pos) scope env _ (newList []) false (eval iter env) (some (assign (.Name y py) env))) _ _ s
  refine wpAny_bind (wpAny_mono (wpAny_comprehension_free (use := some (assign (.Name y py) env)) (Q := fun _ s' => Q .next s') rfl hs hclos hkind hnames
    (wpAny_mono h (fun xv s₁ h₁ => wpAny_mono h₁ (fun it s₂ h₂ => ?_) fun _ _ e => e) fun _ _ e => e)) (fun _ s' hq => wpAny_pure (wpAny_pure hq)) fun _ _ e => e)
  obtain ⟨I, fp, wr, n, P, Md, St, Nm, Rel, news', rfl, W, hself, hsz, hst, hfp, hwr, F, N, hasg, helt, fin'⟩ := h₂
  have up : ∀ {h : Heap}, (∀ c o, c ∉ wr → s₂.heap.get? c = some o → h.get? c = some o) → Fr h₀ env.locals h m ∧ News h₀ env.locals h news' := fun {h} hk =>
    ⟨⟨F.ns.at' fun o e => hk _ o (fun hc => (hwr _ hc).1 rfl) e, fun c o e => hk c o (fun hc => by rw [(hwr _ hc).2.1] at e; cases e) (F.keep c o e), F.above⟩,
      fun p hp => ⟨hk _ _ (fun hc => (hwr _ hc).2.2 p hp rfl) (N p hp).1, (N p hp).2⟩⟩
  have fresh : ∀ a, s₂.heap.objs.size ≤ a → h₀.get? a = none := fun a ha => by
    cases e : h₀.get? a with
    | none => rfl
    | some o => exact absurd (Heap.lt_size (F.keep a o e)) (Nat.not_lt.mpr ha)
  have hLl : env.locals < s₂.heap.objs.size := F.ns.lt
  refine cg_block W hself hsz hst hfp hcell hkind hasg (fun i C s m' Q E' hi hn hC hk => helt i C s m' Q E' hi hn hC (up hk).1 (up hk).2) ?_
  intro h tk m' rs hl hrel hD hobj hns hk
  have F' := (up hk).1
  have hCL : s₂.heap.objs.size + 1 ≠ env.locals := Nat.ne_of_gt (Nat.lt_succ_of_lt hLl)
  obtain ⟨h', tk', vs, e, Fh, Nh, l1, hK⟩ := fin' s₂.heap.objs.size h tk rs F' (fun p hp => by
    rcases List.mem_cons.mp hp with rfl | hp
    · exact ⟨hD, Nat.ne_of_gt hLl, fresh _ (Nat.le_refl _)⟩
    · rcases List.mem_append.mp hp with hp | hp
      · obtain ⟨r, hr, hp⟩ := List.mem_flatMap.mp hp
        obtain ⟨a1, a2⟩ := hobj r hr p hp
        exact ⟨a2, Nat.ne_of_gt (Nat.lt_trans hLl (ad2 a1).2.2.2), fresh _ (Nat.le_of_lt (ad2 a1).2.2.2)⟩
      · exact (up hk).2 p hp) hl hrel (fun p hp => Heap.lt_size (N p hp).1) fun r hr p hp => (ad2 (hobj r hr p hp).1).2.2.2
  rw [e]
  have eh : h = h' := congrArg Shared.heap e
  subst eh
  have hcD : cy < s₂.heap.objs.size := l1 _ hm
  have hcy := Nh _ (List.mem_cons_of_mem _ hm)
  show wpAny _ A (assign (.Name y py) env (.ref s₂.heap.objs.size)) _ _ _
  refine wpAny_assign_Name (wpAny_storeName_cell hek hy hyc ⟨oc, hcy.1, hoc⟩ fun h₂ hv hs₂ => ?_)
  obtain ⟨oc', ho', hd'⟩ := hv
  have hCc : s₂.heap.objs.size + 1 ≠ cy := Nat.ne_of_gt (Nat.lt_succ_of_lt hcD)
  have F₂ : Fr h₀ env.locals h₂ m := ⟨Fh.ns.sameBut hs₂ (Ne.symm hcy.2.1), fun b o e => (hs₂.2 b (fun q => by rw [q, hcy.2.2] at e; cases e)).trans (Fh.keep b o e), Fh.above⟩
  refine ⟨m', hns.sameBut hs₂ hCc, fun h'' hs'' => ?_⟩
  refine fin _ vs h'' _ oc' (F₂.change hs'' hCL (fresh _ (Nat.le_succ _))) (fun p hp => ?_) l1 hd' hK
  rcases List.mem_cons.mp hp with rfl | hp
  · exact ⟨hs''.extBut _ _ (Nat.ne_of_lt (Nat.lt_succ_self _)) (hs₂.extBut _ _ (Nat.ne_of_gt hcD) (Nh _ List.mem_cons_self).1), Nat.ne_of_gt hLl, fresh _ (Nat.le_refl _)⟩
  · unfold upd at hp
    rcases List.mem_cons.mp hp with rfl | hp
    · exact ⟨hs''.extBut _ _ hCc.symm ho', hcy.2⟩
    · obtain ⟨hp, hne⟩ := List.mem_filter.mp hp
      have z := Nh _ (List.mem_cons_of_mem _ hp)
      exact ⟨hs''.extBut _ _ (Nat.ne_of_lt (Nat.lt_succ_of_lt (l1 _ hp))) (hs₂.extBut _ _ (by simpa using hne) z.1), z.2⟩
end
end Mine
end

section
open PySem PySem.W PyProof.Rows PySem.Calls PySem.Spec PyProof.V
set_option Elab.async false
set_option linter.unusedVariables false
namespace Mine
set_option pp.maxSteps 3000
set_option pp.deepTerms false
open PyProof.Rows.LCg
local macro_rules | `(tactic| k_lt $_h:ident) => `(tactic| skip)
local macro_rules | `(tactic| walk_at "g_ne") => `(tactic| first | with_reducible assumption | (refine Ne.symm ?_; with_reducible assumption) | exact Nat.ne_of_gt (by with_reducible assumption) | exact Nat.ne_of_lt (by with_reducible assumption) | (refine' ne_fresh ?l ?h; (case l => with_reducible assumption); (case h => walk_at "g_has")) | (refine' ne_fresh' ?l ?h; (case l => with_reducible assumption); (case h => walk_at "g_has")))
local macro_rules | `(tactic| walk_at "g_has") => `(tactic| first | with_reducible exact Has.of (by with_reducible assumption) | with_reducible exact Has.self | with_reducible exact Has.self_upd | (with_reducible refine Has.cons ?_; walk_at "g_has") | (with_reducible refine Has.upd ?_; walk_at "g_has"))
local macro_rules | `(tactic| k_mem) => `(tactic| first | with_reducible assumption | with_reducible exact mem_upd_self | (with_reducible refine' mem_upd ?h ?n; (case h => k_mem); (case n => walk_at "g_ne")) | with_reducible exact List.mem_cons_self | (with_reducible refine List.mem_cons_of_mem _ ?_; k_mem))
local macro_rules | `(tactic| walk_at "g_val") => `(tactic| first | with_reducible assumption | with_reducible exact valueAt_stored_self _ _ _ | (rw [valueAt_stored_ne (by walk_at "g_ne")]; walk_at "g_val") | rfl)
local macro_rules | `(tactic| walk_at "g_size") => `(tactic| (rw [sizeLine_eq]; first | omega | (refine Nat.le_trans (stored_length_le _ _ _) ?_; omega) | (simp; done)))
local macro_rules | `(tactic| walk_at "compareOp NotIn int ref") => `(tactic| (k_here; k_dflt (first
  | (refine' r_notin_no (knd := PySem.intKind _ _) ?N ?hp ?hd ?lo (intKind_is _ _ _ _) ?hl ?_; (case N => k_asm); (case hp => k_mem); (case hd => with_reducible assumption); (case lo => with_reducible assumption); (case hl => walk_at "g_val"))
  | (refine' r_notin_yes (knd := PySem.intKind _ _) ?N ?hp ?hd ?lo (intKind_is _ _ _ _) ?hl ?_; (case N => k_asm); (case hp => k_mem); (case hd => with_reducible assumption); (case lo => with_reducible assumption); (case hl => walk_at "g_val")))))
local macro_rules | `(tactic| walk_at "compareOp In int ref") => `(tactic| (k_here; k_dflt (first
  | (refine' r_in_no (knd := PySem.intKind _ _) ?N ?hp ?hd ?lo (intKind_is _ _ _ _) ?hl ?_; (case N => k_asm); (case hp => k_mem); (case hd => with_reducible assumption); (case lo => with_reducible assumption); (case hl => walk_at "g_val"))
  | (refine' r_in_yes (knd := PySem.intKind _ _) ?N ?hp ?hd ?lo (intKind_is _ _ _ _) ?hl ?_; (case N => k_asm); (case hp => k_mem); (case hd => with_reducible assumption); (case lo => with_reducible assumption); (case hl => walk_at "g_val")))))
local macro_rules | `(tactic| walk_at "getItem ref int") => `(tactic| (k_here; k_dflt (refine' kdt_getItem (knd := PySem.intKind _ _) ?N ?hp ?hd (intKind_is _ _ _ _) ?hl ?_; (case N => k_asm); (case hp => k_mem); (case hd => with_reducible assumption); (case hl => walk_at "g_val"))))
local macro_rules | `(tactic| walk_at "subscriptTail") => `(tactic| (k_here; (with_reducible show wpAny _ _ (subscriptTail _ _ (Value.ref _) (Value.int _ _)) _ _ _); k_dflt (refine' kdt_tail (knd := PySem.intKind _ _) ?N ?hp ?hd ?_; (case N => k_asm); (case hp => k_mem); (case hd => with_reducible assumption))))
local macro_rules | `(tactic| walk_at "setItem ref int") => `(tactic| (k_here; k_dflt (refine' r_set (knd := PySem.intKind _ _) ?F ?N ?hm ?hd (intKind_is _ _ _ _) ?z ?_; (case F => k_asm); (case N => k_asm); (case hm => k_mem); (case hd => with_reducible assumption); (case z => walk_at "g_size")); intro h' o' F' N' hd'))
local macro_rules | `(tactic| walk_at "call builtin:dict.get") => `(tactic| (k_here; k_dflt (refine' r_get2_no (knd := PySem.intKind _ _) ?N ?hp ?hd ?lo (intKind_is _ _ _ _) ?hl ?_; (case N => k_asm); (case hp => k_mem); (case hd => with_reducible assumption); (case lo => with_reducible assumption); (case hl => walk_at "g_val"))))
local macro_rules | `(tactic| walk_at "call builtin:dict.update") => `(tactic| (k_here; k_dflt (refine' r_update_nil ?F ?N ?hm ?hd ?hm2 ?hd2 ?lo ?ne ?_; (case F => k_asm); (case N => k_asm); (case hm => k_mem); (case hd => with_reducible assumption); (case hm2 => k_mem); (case hd2 => with_reducible assumption); (case lo => with_reducible assumption); (case ne => walk_at "g_ne")); intro h' o' F' N' hd'))
local macro_rules | `(tactic| walk_at "getMethod ref") => `(tactic| (k_here; k_dflt (first
  | ((with_reducible show wpAny _ _ (getMethod (Value.ref _) (Str.ofString "get") _) _ _ _); refine' kdg_method (knd := PySem.intKind _ _) ?N ?hp ?hd ?_; (case N => k_asm); (case hp => k_mem); (case hd => with_reducible assumption))
  | ((with_reducible show wpAny _ _ (getMethod (Value.ref _) (Str.ofString "update") _) _ _ _); refine' kdl_method (knd := PySem.strKind _ _) PySem.F.slot_dict_update PySem.F.type_dict_update ?N ?hp ?hd ?_; (case N => k_asm); (case hp => k_mem); (case hd => with_reducible assumption)))))

local macro_rules | `(tactic| walk_at "call builtin:len") => `(tactic| (k_here; (with_reducible show wpAny _ _ (call (Value.builtin "len") [Value.ref _]) _ _ _); k_dflt (refine' kda_len (knd := PySem.intKind _ _) ?N ?hp ?hd ?lo ?z ?_; (case N => k_asm); (case hp => k_mem); (case hd => with_reducible assumption); (case lo => with_reducible assumption); (case z => omega))))
local macro_rules | `(tactic| walk_at "g_ne") => `(tactic| first | (refine' ne_fresh2 ?l ?l2 ?h; (case l2 => with_reducible assumption); (case l => with_reducible assumption); (case h => walk_at "g_has")) | (refine' ne_fresh2' ?l ?l2 ?h; (case l2 => with_reducible assumption); (case l => with_reducible assumption); (case h => walk_at "g_has")))
local macro_rules | `(tactic| walk_at "g_nth") => `(tactic| first | rfl | with_reducible assumption | (simp; done))
local macro_rules | `(tactic| walk_at "g_len") => `(tactic| first | omega | (simp only [List.length_cons, List.length_append, List.length_nil, refs_length, List.length_reverse, List.length_map]; omega))
local macro_rules | `(tactic| walk_at "subscriptTail") => `(tactic| (k_here; (with_reducible show wpAny _ _ (subscriptTail _ _ (Value.ref _) (Value.int _ _)) _ _ _); k_dflt (first | (refine' r_item ?N ?hm ?h0 ?hf ?hx ?_ ?hs; (case N => k_asm); (case hm => k_mem); (case h0 => first | decide | omega); (case hf => first | decide | omega); (case hx => walk_at "g_nth"); (case hs => with_unfolding_all rfl); k_whole) | (refine' r_back ?N ?hm ?h0 ?h1 ?hf ?hx ?_ ?hs; (case N => k_asm); (case hm => k_mem); (case h0 => decide); (case h1 => walk_at "g_len"); (case hf => decide); (case hx => walk_at "g_nth"); (case hs => with_unfolding_all rfl); k_whole) | (refine' r_tup ?N ?hm ?h0 ?hf ?hj ?hx ?_ ?hs; (case N => k_asm); (case hm => k_mem); (case h0 => decide); (case hf => decide); (case hj => rfl); (case hx => rfl); (case hs => with_unfolding_all rfl); k_whole))))
local macro_rules | `(tactic| walk_at "subscriptTail Name Slice ref ref") => `(tactic| (k_here; k_dflt (refine' r_slice_all ?F ?N ?hm ?z ?_ ?hs ?ht; (case F => k_asm); (case N => k_asm); (case hm => k_mem); (case z => walk_at "g_len"); (case hs => with_unfolding_all rfl); (case ht => intro _; with_unfolding_all rfl)); intro D' h' F' N' l1))
local macro_rules | `(tactic| walk_at "truthy ref") => `(tactic| (k_here; k_dflt (refine' r_truthy ?N ?hm ?z ?_; (case N => k_asm); (case hm => k_mem); (case z => walk_at "g_len")); intro tk'))
local macro_rules | `(tactic| walk_at "getMethod ref") => `(tactic| (k_here; k_dflt (first | ((with_reducible show wpAny _ _ (getMethod (Value.ref _) (Str.ofString "pop") _) _ _ _); refine' r_method ?N ?hm PySem.F.slot_list_pop PySem.F.type_list_pop ?_; (case N => k_asm); (case hm => k_mem)) | ((with_reducible show wpAny _ _ (getMethod (Value.ref _) (Str.ofString "append") _) _ _ _); refine' r_method ?N ?hm PySem.F.slot_list_append PySem.F.type_list_append ?_; (case N => k_asm); (case hm => k_mem)) | ((with_reducible show wpAny _ _ (getMethod (Value.ref _) (Str.ofString "reverse") _) _ _ _); refine' r_method ?N ?hm PySem.F.slot_list_reverse PySem.F.type_list_reverse ?_; (case N => k_asm); (case hm => k_mem)))))
local macro_rules | `(tactic| walk_at "call builtin:list.pop") => `(tactic| (k_here; k_dflt (first | (refine' r_pop0 ?F ?N ?hm ?e ?z ?_; (case F => k_asm); (case N => k_asm); (case hm => k_mem); (case e => first | with_reducible exact rrefs_cons | with_reducible assumption | rfl); (case z => walk_at "g_len")) | (refine' r_pop ?F ?N ?hm ?e ?z ?_; (case F => k_asm); (case N => k_asm); (case hm => k_mem); (case e => with_reducible assumption); (case z => walk_at "g_len"))); intro h' F' N'))
local macro_rules | `(tactic| walk_at "call builtin:list.append") => `(tactic| (k_here; k_dflt (refine' r_append ?F ?N ?hm ?z ?_; (case F => k_asm); (case N => k_asm); (case hm => k_mem); (case z => walk_at "g_len")); intro h' F' N'))
local macro_rules | `(tactic| walk_at "call builtin:list.reverse") => `(tactic| (k_here; k_dflt (refine' r_reverse ?F ?N ?hm ?z ?_; (case F => k_asm); (case N => k_asm); (case hm => k_mem); (case z => walk_at "g_len")); intro h' F' N'))
local macro_rules | `(tactic| walk_at "call builtin:len") => `(tactic| (k_here; (with_reducible show wpAny _ _ (call (Value.builtin "len") [Value.ref _]) _ _ _); k_dflt (refine' r_len ?N ?hm ?z ?_; (case N => k_asm); (case hm => k_mem); (case z => walk_at "g_len"))))
local macro_rules | `(tactic| walk_at "setAttr ref") => `(tactic| (k_here; k_dflt (refine' r_setattr ?F ?X ?N ?hx ?hd ?k4 ?k5 ?k6 ?k7 ?k8 ?k9 ?kz ?_; (case F => k_asm); (case X => k_asm); (case N => k_asm); (case hx => k_mem); (case hd => k_mem); (case k4 => k_is); (case k5 => k_is); (case k6 => k_is); (case k7 => k_is); (case k8 => k_get); (case k9 => k_put); (case kz => exact Nat.le_of_ble_eq_true rfl); k_whole); intro h' F' N'))
local macro_rules | `(tactic| walk_at "call builtin:dict.pop") => `(tactic| (k_here; k_dflt (refine' r_dpop ?N ?hm ?hd ?lo ?_; (case N => k_asm); (case hm => k_mem); (case hd => with_reducible assumption); (case lo => with_reducible assumption))))
local macro_rules | `(tactic| walk_at "exec For Name Name cons nil") => `(tactic| (k_here; (rename Fr _ _ _ _ => lF'); (with_unfolding_all refine' For_invVF lF' ?k1 ?k2 ?_; (case k1 => exact rfl); (case k2 => exact rfl); k_whole)))
local macro_rules | `(tactic| walk_at "pyIter ref") => `(tactic| ((with_reducible show wpAny _ _ (pyIter (Value.ref _)) (fun it s₂ => LoopAtV _ _ _ _ _ _ _ _ _ it s₂) _ _); k_dflt (refine' for_none ?hh ?F ?N ?hm ?hi ?e ?_; (case hh => rfl); (case F => k_asm); (case N => k_asm); (case hm => k_mem); (case hi => with_reducible assumption); (case e => rfl)); intro h' tk' F' N'))

local macro_rules | `(tactic| walk_at "exec Assign cons ListComp") => `(tactic| (k_here; k_dflt (refine' cg_assign ?F0 ?k1 ?k2 ?k3 ?k4 ?k5 ?k6 ?k7 ?k8 ?_; (case F0 => k_asm); (case k1 => exact rfl); (case k2 => with_unfolding_all rfl); (case k3 => with_unfolding_all rfl); (case k4 => decide); (case k5 => rfl); (case k6 => decide); (case k7 => rfl); (case k8 => rfl))))
local macro_rules | `(tactic| walk_at "call type:enumerate") => `(tactic| (k_dflt (refine' enum_src ?hh ?F ?N ?hm ?hi ?hz ?e1 ?e2 ?e3 ?e4 ?e5 ?e6 ?_; (case hh => rfl); (case F => k_asm); (case N => k_asm); (case hm => k_mem); (case hi => with_reducible assumption); (case hz => omega); (case e1 => rfl); (case e2 => rfl); (case e3 => rfl); (case e4 => decide); (case e5 => decide); (case e6 => decide)); intro D' h' tk' rs' F' N' e' l1' l2'))
local macro_rules | `(tactic| walk_at "pyIter ref") => `(tactic| ((with_reducible show wpAny _ _ (pyIter (Value.ref _)) (CgSrc _ _ _ _ _ _ _ _ _ _ _ _ _) _ _); k_dflt (refine' dict_src ?hh ?F ?N ?hv ?hm ?hd ?hk ?hi ?hz ?e1 ?e2 ?e3 ?e4 ?e5 ?e6 ?_; (case hh => rfl); (case F => k_asm); (case N => k_asm); (case hv => with_reducible assumption); (case hm => k_mem); (case hd => with_reducible assumption); (case hk => with_reducible assumption); (case hi => with_reducible assumption); (case hz => omega); (case e1 => rfl); (case e2 => rfl); (case e3 => rfl); (case e4 => decide); (case e5 => decide); (case e6 => decide)); intro D' h' tk' rs' F' N' e' l1' l2'))
local macro_rules | `(tactic| walk_at "call builtin:dict.items") => `(tactic| (k_here; k_dflt (refine' kta_callItems (knd := PySem.intKind _ _) ?F ?N ?hm ?hd ?lo ?_; (case F => k_asm); (case N => k_asm); (case hm => k_mem); (case hd => with_reducible assumption); (case lo => with_reducible assumption)); intro h' hv' F' N'))
local macro_rules | `(tactic| walk_at "getMethod ref") => `(tactic| ((with_reducible show wpAny _ _ (getMethod (Value.ref _) (Str.ofString "items") _) _ _ _); k_here; k_dflt (refine' kdl_method (knd := PySem.intKind _ _) PySem.F.slot_dict_items PySem.F.type_dict_items ?N ?hm ?hd ?_; (case N => k_asm); (case hm => k_mem); (case hd => with_reducible assumption))))
local macro_rules | `(tactic| walk_at "call builtin:isinstance") => `(tactic| (k_here; k_dflt (refine' r_isdict ?N ?hm ?hd ?_; (case N => k_asm); (case hm => k_mem); (case hd => with_reducible assumption))))
local macro_rules | `(tactic| walk_at "truthy ref") => `(tactic| (k_here; k_dflt (first | (refine' r_truthy_cons ?N ?hm ?e ?z ?_; (case N => k_asm); (case hm => k_mem); (case e => with_reducible exact rrefs_cons); (case z => walk_at "g_len")) | (refine' r_truthy_nil ?N ?hm ?e ?_; (case N => k_asm); (case hm => k_mem); (case e => rfl))); intro tk'))
local macro_rules | `(tactic| walk_at "g_len") => `(tactic| first | omega | (simp only [List.length_cons, List.length_append, List.length_nil, refs_length, rrefs_length, List.length_reverse, List.length_map]; omega))
local macro_rules | `(tactic| walk_at "call builtin:list.reverse") => `(tactic| (k_here; k_dflt (refine' r_reverse_refs ?F ?N ?hm ?z ?_; (case F => k_asm); (case N => k_asm); (case hm => k_mem); (case z => walk_at "g_len")); intro h' F' N'))
local macro_rules | `(tactic| walk_at "eval ListComp") => `(tactic| (k_here; k_dflt (refine' cg_comp ?F0 ?k3 ?k4 ?k5 ?k6 ?_; (case F0 => k_asm); (case k3 => with_unfolding_all rfl); (case k4 => decide); (case k5 => rfl); (case k6 => decide))))
local macro_rules | `(tactic| walk_at "pyIter ref") => `(tactic| ((with_reducible show wpAny _ _ (pyIter (Value.ref _)) (CgSrc _ _ _ _ _ _ _ _ (Expr.Name _ _) _ _ _ _) _ _); k_dflt (refine' second_src ?hh ?F ?N ?hm ?hz ?ht ?e1 ?e2 ?e3 ?_; (case hh => rfl); (case F => k_asm); (case N => k_asm); (case hm => k_mem); (case ht => with_reducible assumption); (case hz => walk_at "g_len"); (case e1 => rfl); (case e2 => rfl); (case e3 => decide)); intro D' h' tk' F' N' l1'))
local macro_rules | `(tactic| walk_at "call builtin:list.sort") => `(tactic| refine stop_here ?_)
local macro_rules | `(tactic| walk_at "exec While Name cons nil") => `(tactic| refine stop_here ?_)
local macro_rules | `(tactic| walk_at "g_nth") => `(tactic| first | with_reducible exact rrefs_last | with_reducible exact rrefs_first)


local macro_rules | `(tactic| walk_at "eval Name") => `(tactic| (k_here; (with_reducible show wpAny _ _ (eval (Expr.Name _ _) (compEnvC _ _ _ _)) _ _ _); k_dflt (first
  | (refine' ce_local ?hns ?hv ?_ ?hk ?hx ?hd; (case hk => rfl); (case hx => rfl); (case hd => decide); (case hns => with_reducible assumption); (case hv => with_reducible assumption))
  | (refine' ce_cell ?N ?hc ?hm ?hd ?_ ?hk ?hx ?hb; (case hk => rfl); (case hx => rfl); (case hb => decide); (case N => k_asm); (case hc => rfl); (case hm => k_mem); (case hd => k_asm))
  | (refine' ce_builtin ?F ?X ?T ?hg ?hbi ?e ?hv ?hn ?_ ?hk ?hx ?hd; (case hk => rfl); (case hx => rfl); (case hd => decide); (case F => k_asm); (case X => k_asm); (case T => k_asm); (case hg => rfl); (case hbi => rfl); (case e => k_is); (case hv => boot_fast); (case hn => decide)))))
local macro_rules | `(tactic| walk_at "pyIter ref") => `(tactic| ((with_reducible show wpAny _ _ (pyIter (Value.ref _)) (CgSrc _ _ _ _ _ _ _ _ _ _ _ _ _) _ _); refine stop_here ?_))
local macro_rules | `(tactic| walk_at "call type:range") => `(tactic| ((rename Fr _ _ _ _ => F'); (rename News _ _ _ _ => N'); (with_unfolding_all refine range1_rows F' N' ?_; intro _ _ _ _ _ _ _ _ _)))

theorem fm_toNat (i n : Nat) : ((i : Int).fmod (n : Int)).toNat = i % n := by
  rw [Int.fmod_eq_emod_of_nonneg _ (Int.natCast_nonneg n), ← Int.natCast_emod]; rfl
theorem nil_getD {ns : List Int} {i : Nat} (h : ns.length = 0) : ns.getD i 0 = 0 := by
  rw [List.length_eq_zero_iff] at h; subst h; rfl
set_option maxRecDepth 100000 in
set_option maxHeartbeats 4000000 in
theorem lnum {ccl : List (Str × Addr)} {w : World} {A₀ : Around} {base h₀ : Heap} {L a : Addr} {m mg mb : Str → Option Value} {cn : Str} {cnm : List (Str × NameKind)} {cig cic : Bool} {cmo : List (Str × Const)} {ccd : Value} {news : List (Addr × Obj)}
   {p : Program} {loose : List Str} {mean : ExcName → Option Value} {s : Shared} {Q E : Value → Shared → Prop} 
   (B : Below A₀ base [] h₀) (Fh : Fr h₀ L s.heap m) (X₀ : (hd.heap_39 w.params).In h₀) (N : News h₀ L s.heap news) (T : Top p loose mean mg mb h₀) {sl : Addr} {vs : List Value} {ns : List Int} {t18 : Tok} (hS : h₀.IsList sl vs.toArray) (hI : IntsAre vs ns) (hz : ns.length ≤ 63)
   (hQ : ∀ {h' tk D us news'}, Fr h₀ L h' m → News h₀ L h' news' → (D, lst us) ∈ news' → IntsAre us ((List.range 18).map fun k => ns.getD (k % ns.length) 0) → (∀ a o, (a, o) ∈ news → (a, o) ∈ news') → Q (.ref D) { s with heap := h', toks := tk }) :
   wpAny (model Challenge.rw_aq6051_01.row.prog w) (callerA.deeper (envX cn { kind := .function, names := cnm, isGenerator := cig, isCoroutine := cic, more := cmo } L a ccd ccl)) (call (.ref 671) [.ref sl, .int 18 t18]) Q E s := by
  revert X₀
  k_fill
  intro X₀
  w_on
  k_steps
  refine ⟨?_⟩
  refine' range_src (n := 18) (fun i y => ∃ t, y = Value.int (ns.getD (i % ns.length) 0) t) ?hh ?F ?N ?hr ?hb ?hz ?hkind ?hxa ?helt ?fin
  (case hh => rfl)
  (case F => k_asm)
  (case N => k_asm)
  (case hr => with_reducible assumption)
  (case hb => rfl)
  (case hz => omega)
  (case hkind => rfl)
  (case hxa => rfl)
  (case fin =>
    intro D h tk us F9 N9 l9 hlen hR
    k_steps
    rename Fr h₀ _ _ _ => F8
    rename News h₀ _ _ _ => N8
    exact hQ F8 N8 (by k_mem) (ints_of_R hlen hR) (fun a' o' hm' => (by k_mem)))
  (case helt =>
    intro i tk C s' m' Q' E' hi hm hns F9 N9 hq
    rename Fr h₀ _ _ _ => F7
    have hS7 := (let ⟨o7, e7, c7⟩ := hS; ⟨o7, F7.keep _ _ e7, c7⟩ : Heap.IsList _ sl vs.toArray)
    k_steps
    · exact hq _ _ ⟨_, by rw [fm_toNat]⟩
    · exact hq _ _ ⟨_, by rw [nil_getD (by omega)]⟩)
  all_goals w_report


end Mine
end

section
open PySem PySem.W PyProof.Rows PySem.Calls PySem.Spec PyProof.V PyProof.Rows.LCg
set_option Elab.async false
set_option linter.unusedVariables false
set_option maxRecDepth 100000
namespace Mine
section
variable {prog : Program} {w : World} {A : Around} {E : Value → Shared → Prop} {s : Shared} {h₀ : Heap} {L : Addr} {m : Str → Option Value} {env : Env} {news : List (Addr × Obj)}
/-- a source of a dict comprehension with int keys, with what its key and value make -/
def DcSrc (prog : Program) (w : World) (A : Around) (h₀ : Heap) (L : Addr) (m : Str → Option Value) (env : Env) (scope : Scope) (cl : List (Str × Addr)) (x : Str) (kx vx : PySem.Expr) (QF : Addr → Shared → Prop) (it : Value) (s₂ : Shared) : Prop :=
  ∃ (I : Addr) (fp : List Addr) (n : Nat) (P : Nat → Value → Prop) (St : Nat → Heap → Prop) (FK : Value → Int → Prop) (FV : Value → Value → Prop) (news : List (Addr × Obj)),
    it = .ref I ∧ Walks prog w A I fp [I] n P St ∧ (∀ b ∈ fp, b < s₂.heap.objs.size) ∧ n ≤ sizeLine ∧ St 0 s₂.heap ∧ I < s₂.heap.objs.size ∧ I ≠ L ∧ h₀.get? I = none ∧ (∀ p ∈ news, p.1 ≠ I) ∧ Fr h₀ L s₂.heap m ∧ News h₀ L s₂.heap news ∧
    (∀ i v C (s : Shared) m' (Q : Value → Shared → Prop) (E' : Value → Shared → Prop), P i v → s.heap.Ns C m' → m' x = some v → Fr h₀ L s.heap m → News h₀ L s.heap news →
      (∀ k key tk, (intKind prog w).is k key = true → FK v k → Q key { s with toks := tk }) → wpAny (model prog w) A (eval kx (compEnvC scope cl C env)) Q E' s) ∧
    (∀ i v C (s : Shared) m' (Q : Value → Shared → Prop) (E' : Value → Shared → Prop), P i v → s.heap.Ns C m' → m' x = some v → Fr h₀ L s.heap m → News h₀ L s.heap news →
      (∀ y tk, FV v y → Q y { s with toks := tk }) → wpAny (model prog w) A (eval vx (compEnvC scope cl C env)) Q E' s) ∧
    (∀ D h tk od kvs (vs : List Value), Fr h₀ L h m → News h₀ L h ((D, od) :: news) → (∀ p ∈ news, p.1 < D) → (D == sysModules) = false → od.IsDictOf (intKind prog w) kvs → vs.length = n → (∀ j v, vs[j]? = some v → P j v) → StoredAll FK FV vs kvs →
      QF D { s₂ with heap := h, toks := tk })
theorem dc_comp {kx vx iter : PySem.Expr} {x : Str} {px : Pos} {scope : Scope} {cl : List (Str × Addr)} {pos : Pos} {Q : Value → Shared → Prop} (_F0 : Fr h₀ L s.heap m) (hbig : h₀.NoLimit)
    (hclos : closureFor scope env = pure cl) (hcell : ∀ y ∈ scope.names, y.2 ≠ .cell) (hkind : scope.kind = .function)
    (hnames : ∀ y ∈ scope.names, y.2 = .local → scope.names.lookup y.1 = some .local) (hx : scope.names.lookup x = some .local)
    (h : wpAny (model prog w) A (eval iter env) (fun xv s₁ => wpAny (model prog w) A (pyIter xv) (DcSrc prog w A h₀ L m env scope cl x kx vx (fun D => Q (.ref D))) E s₁) E s)
    (hs : ∀ x, foldedSetIterable iter env x = pure x := by intro _; rfl) :
    wpAny (model prog w) A (eval (.DictComp kx vx [⟨.Name x px, iter, [], 0⟩] scope pos) env) Q E s := by
  rw [arm_eval_DictComp]
  refine wpAny_comprehension_free (use := none) rfl hs hclos hkind hnames (wpAny_mono h (fun xv s₁ h₁ => wpAny_mono h₁ (fun it s₂ h₂ => ?_) fun _ _ e => e) fun _ _ e => e)
  obtain ⟨I, fp, n, P, St, FK, FV, news, rfl, W, hfp, hsz, hst, hI, hIL, hI0, hIn, F, N, hkey, hval, fin⟩ := h₂
  have fresh : ∀ a, s₂.heap.objs.size ≤ a → h₀.get? a = none := fun a ha => by
    cases e : h₀.get? a with
    | none => rfl
    | some o => exact absurd (Heap.lt_size (F.keep a o e)) (Nat.not_lt.mpr ha)
  have hLl : L < s₂.heap.objs.size := F.ns.lt
  refine wpAny_newObj_type (wpAny_newFunctionEnv hcell (by intro y hy; simp at hy) (fun h₁ hns₁ hsb₁ => ?_) hkind)
  dsimp only at hns₁ hsb₁ ⊢
  have hnew : (s₂.heap.push { cls := .type "dict", dict := none, data := .dict #[] }).DictOf (intKind prog w) s₂.heap.objs.size [] := Heap.DictOf.new s₂.heap
  generalize hH2 : s₂.heap.push { cls := .type "dict", dict := none, data := .dict #[] } = H2 at hns₁ hsb₁ hnew ⊢
  have hC : H2.objs.size = s₂.heap.objs.size + 1 := by rw [← hH2, Heap.size_push]
  rw [hC] at hns₁ hsb₁ ⊢
  have old : ∀ b o, s₂.heap.get? b = some o → h₁.get? b = some o := fun b o e => hsb₁.extBut b o (Nat.ne_of_lt (Nat.lt_succ_of_lt (Heap.lt_size e))) (Heap.get?_push_of_some _ (hH2 ▸ Heap.get?_push_of_some _ e))
  have hacc : h₁.DictOf (intKind prog w) s₂.heap.objs.size [] := hnew.at fun o e => hsb₁.extBut _ _ (Nat.ne_of_lt (Nat.lt_succ_self _)) (Heap.get?_push_of_some _ e)
  have hst₁ : St 0 h₁ := W.frame _ _ _ hst fun b _ o e => old b o e
  have up : ∀ {h : Heap}, (∀ b o, b ≠ s₂.heap.objs.size + 1 → b ∉ [I] → b ≠ s₂.heap.objs.size → h₁.get? b = some o → h.get? b = some o) → Fr h₀ L h m ∧ News h₀ L h news := fun {h} hk => by
    have hk2 : ∀ b o, b ≠ I → s₂.heap.get? b = some o → h.get? b = some o := fun b o hb e =>
      hk b o (Nat.ne_of_lt (Nat.lt_succ_of_lt (Heap.lt_size e))) (fun q => hb (List.mem_singleton.mp q)) (Nat.ne_of_lt (Heap.lt_size e)) (old b o e)
    exact ⟨⟨F.ns.at' fun o e => hk2 _ o (Ne.symm hIL) e, fun c o e => hk2 c o (fun hc => by rw [hc, hI0] at e; cases e) (F.keep c o e), F.above⟩,
      fun p hp => ⟨hk2 _ _ (hIn p hp) (N p hp).1, (N p hp).2⟩⟩
  have loop : ∀ s₃ : Shared, s₃ = { s₂ with heap := h₁, toks := s₂.toks + ([] : List (Str × Value)).length } →
      codeAny (model prog w) A (.compLoop (.DictComp kx vx [⟨.Name x px, iter, [], 0⟩] scope pos) 0 (.ref I) (.ref s₂.heap.objs.size) (compEnvC scope cl (s₂.heap.objs.size + 1) env))
        (compPost (model prog w) A E none Q (.ref s₂.heap.objs.size) (s₂.heap.objs.size + 1)) s₃ := by
    rintro s₃ rfl
    refine codeAny_compLoop_walkD (hsz := hsz) (knd := intKind prog w) (cenv := compEnvC scope cl (s₂.heap.objs.size + 1) env) W (fun _ => true) FK FV (lookup_relabel_local hx) (by simp [compEnvC, relabel, hkind])
      (Nat.ne_of_lt (Nat.lt_succ_self _)) (fun q => Nat.lt_irrefl _ (hfp _ q)) (fun q => Nat.lt_irrefl _ (Nat.lt_trans (Nat.lt_succ_self _) (hfp _ q))) hst₁ hacc hns₁
      (fun i v s₃ m₃ hv hn hm hk => by
        show wpAny _ _ (pure true) _ _ _
        exact wpAny_pure ⟨rfl, _, _, rfl, fun _ _ e => e⟩)
      (fun i v s₃ m₃ hv hpv hn hm hk => hkey i v _ s₃ m₃ _ _ hv hn hm (up hk).1 (up hk).2 fun k key tk h1 h2 => ⟨⟨k, h1, h2⟩, _, _, rfl, fun _ _ e => e⟩)
      (fun i v s₃ m₃ hv hpv hn hm hk => hval i v _ s₃ m₃ _ _ hv hn hm (up hk).1 (up hk).2 fun y tk h1 => ⟨h1, _, _, rfl, fun _ _ e => e⟩) fun h' tk m' kvs vs hn ha hlen hP hF hk => ?_
    refine ⟨m', hn, fun h'' hs'' => ?_⟩
    obtain ⟨od, hod, hdo⟩ := Heap.dictOf_iff.mp ha
    have F' := (up hk).1.change hs'' (Nat.ne_of_gt (Nat.lt_succ_of_lt hLl)) (fresh _ (Nat.le_succ _))
    refine fin s₂.heap.objs.size h'' tk od kvs vs F' (fun p hp => ?_) (fun p hp => Heap.lt_size (N p hp).1) (F.notModules (modules_low hbig)) hdo hlen hP (by rw [List.filter_eq_self.mpr (by simp)] at hF; exact hF)
    rcases List.mem_cons.mp hp with rfl | hp
    · exact ⟨hs''.extBut _ _ (Nat.ne_of_lt (Nat.lt_succ_self _)) hod, Nat.ne_of_gt hLl, fresh _ (Nat.le_refl _)⟩
    · have z := (up hk).2 p hp
      exact ⟨hs''.extBut _ _ (Nat.ne_of_lt (Nat.lt_succ_of_lt (Heap.lt_size (N p hp).1))) z.1, z.2⟩
  exact codeAny_compStart_dict (loop _ rfl) (W.self 0 _ _ _ hst₁ (loop _ rfl))
theorem sa_pairs {FK : Value → Int → Prop} {FV : Value → Value → Prop} {kf vf : Nat → Int} {N : Nat} (hK : ∀ (i : Nat) t k, i < N → FK (.int (i : Int) t) k → k = kf i) (hV : ∀ (i : Nat) t y, i < N → FV (.int (i : Int) t) y → ∃ u, y = Value.int (vf i) u) (hinj : ∀ i j, i < N → j < N → kf i = kf j → i = j) :
    ∀ {vs : List Value} {kvs : List (Int × Value)}, StoredAll FK FV vs kvs → vs.length ≤ N → (∀ (j : Nat) (v : Value), vs[j]? = some v → ∃ t, v = Value.int (j : Int) t) → kvs.map (·.1) = (List.range vs.length).map kf ∧ IntsAre (kvs.map (·.2)) ((List.range vs.length).map vf) := by
  intro vs kvs h
  induction h with
  | nil => intro _ _; exact ⟨rfl, .nil⟩
  | @snoc l kvs v k y h1 h2 h3 ih =>
    intro hl hv
    rw [List.length_append, List.length_singleton] at hl
    obtain ⟨i1, i2⟩ := ih (by omega) fun j v hj => hv j v (by rw [List.getElem?_append_left (List.getElem?_eq_some_iff.mp hj).1]; exact hj)
    obtain ⟨t, rfl⟩ := hv l.length v (by simp)
    obtain rfl := hK _ _ _ (by omega) h2
    obtain ⟨u, rfl⟩ := hV _ _ _ (by omega) h3
    have hn : valueAt kvs (kf l.length) = none := by
      unfold valueAt
      rw [List.find?_eq_none.mpr]
      · rfl
      · intro p hp
        have : p.1 ∈ kvs.map (·.1) := List.mem_map_of_mem hp
        rw [i1] at this
        obtain ⟨j, hj, e⟩ := List.mem_map.mp this
        have hj := List.mem_range.mp hj
        simp only [decide_eq_true_eq]
        intro e2
        have := hinj j l.length (by omega) (by omega) (e.trans e2)
        omega
    rw [stored_new hn, List.length_append, List.length_singleton, List.range_succ]
    refine ⟨by simp [i1], ?_⟩
    simp only [List.map_append, List.map_cons, List.map_nil]
    exact ints_snoc i2 _ u
/-- {kx: vx for x in range(n)}, the keys all different, by a walk given -/
theorem dc_src_gen {fp : List Addr} {St : Nat → Heap → Prop} {kx vx : PySem.Expr} {x : Str} {scope : Scope} {cl : List (Str × Addr)} {QF : Addr → Shared → Prop} {r : Addr} {b : Int} {n : Nat} {t u v : Tok} (kf vf : Nat → Int)
    (W₀ : Walks prog w A s.heap.objs.size fp [s.heap.objs.size] n (fun i v => ∃ t, v = .int (0 + (i : Int)) t) St) (hfp : ∀ b ∈ fp, b < s.heap.objs.size + 1) (hst : St 0 (s.heap.push { cls := .type "range_iterator", data := .fields #[rawInt 0, rawInt (Builtin.Range.rangeSize 0 b 1), rawInt 1] })) (F : Fr h₀ L s.heap m) (N : News h₀ L s.heap news) (hr : IsRange s.heap r 0 b 1 t u v) (hb : b = (n : Int)) (hz : n ≤ 1000) (hinj : ∀ i j, i < n → j < n → kf i = kf j → i = j)
    (hkey : ∀ (i : Nat) tk C (s : Shared) m' (Q : Value → Shared → Prop) (E' : Value → Shared → Prop), i < n → m' x = some (.int (i : Int) tk) → s.heap.Ns C m' → Fr h₀ L s.heap m → News h₀ L s.heap news → (∀ t tk, Q (.int (kf i) t) { s with toks := tk }) → wpAny (model prog w) A (eval kx (compEnvC scope cl C env)) Q E' s)
    (hval : ∀ (i : Nat) tk C (s : Shared) m' (Q : Value → Shared → Prop) (E' : Value → Shared → Prop), i < n → m' x = some (.int (i : Int) tk) → s.heap.Ns C m' → Fr h₀ L s.heap m → News h₀ L s.heap news → (∀ t tk, Q (.int (vf i) t) { s with toks := tk }) → wpAny (model prog w) A (eval vx (compEnvC scope cl C env)) Q E' s)
    (fin : ∀ D h tk od kvs, Fr h₀ L h m → News h₀ L h ((D, od) :: news) → (∀ p ∈ news, p.1 < D) → (D == sysModules) = false → od.IsDictOf (intKind prog w) kvs → kvs.map (·.1) = (List.range n).map kf → IntsAre (kvs.map (·.2)) ((List.range n).map vf) → QF D { s with heap := h, toks := tk }) :
    wpAny (model prog w) A (pyIter (.ref r)) (DcSrc prog w A h₀ L m env scope cl x kx vx QF) E s := by
  subst hb
  refine wpAny_pyIter_range hr (rng_small (by decide) (by decide) (by omega) (by omega)) ?_
  have hn : Builtin.Range.rangeSize 0 (n : Int) 1 = (n : Int) := rng_size (by omega)
  have W := W₀.bound
  refine ⟨s.heap.objs.size, fp, n, _, _, fun v k => ∀ (i : Nat) t, i < n → v = .int (i : Int) t → k = kf i, fun v y => ∀ (i : Nat) t, i < n → v = .int (i : Int) t → ∃ u, y = Value.int (vf i) u, news, rfl, W, (fun b hb => by show b < (s.heap.push _).objs.size; rw [Heap.size_push]; exact hfp b hb), by rw [sizeLine_eq]; omega, hst, ?_, Nat.ne_of_gt F.ns.lt, next_is_new F, fun p hp => Nat.ne_of_lt (Heap.lt_size (N p hp).1), F.push _, (fun p hp => ⟨Heap.get?_push_of_some _ (N p hp).1, (N p hp).2⟩), ?_, ?_, ?_⟩
  · show _ < (s.heap.push _).objs.size
    rw [Heap.size_push]; exact Nat.lt_succ_self _
  · rintro i v C s' m' Q E' ⟨hi, tk, rfl⟩ hns hm F' N' hQ
    rw [Int.zero_add] at hm hQ
    exact hkey i tk C s' m' Q E' hi hm hns F' N' fun t tk' => hQ (kf i) _ _ (intKind_is _ _ _ _) fun j t' hj e => by cases e; rfl
  · rintro i v C s' m' Q E' ⟨hi, tk, rfl⟩ hns hm F' N' hQ
    rw [Int.zero_add] at hm hQ
    exact hval i tk C s' m' Q E' hi hm hns F' N' fun t tk' => hQ _ _ fun j t' hj e => by cases e; exact ⟨_, rfl⟩
  · intro D h tk od kvs vs F' N' l1 lo hd hlen hP hS
    obtain ⟨a1, a2⟩ := sa_pairs (N := n) (kf := kf) (vf := vf) (fun i t k hi hk => hk i t hi rfl) (fun i t y hi hy => hy i t hi rfl) hinj hS (Nat.le_of_eq hlen) fun j v hj => by
      obtain ⟨_, t, e⟩ := hP j v hj
      exact ⟨t, by rw [e, Int.zero_add]⟩
    rw [hlen] at a1 a2
    exact fin D h tk od kvs F' N' l1 lo hd a1 a2
/-- {kx: vx for x in range(n)}, the keys all different -/
theorem dc_src {kx vx : PySem.Expr} {x : Str} {scope : Scope} {cl : List (Str × Addr)} {QF : Addr → Shared → Prop} {r : Addr} {b : Int} {n : Nat} {t u v : Tok} (kf vf : Nat → Int)
    (hh : A.handled = none) (F : Fr h₀ L s.heap m) (N : News h₀ L s.heap news) (hr : IsRange s.heap r 0 b 1 t u v) (hb : b = (n : Int)) (hz : n ≤ 1000) (hinj : ∀ i j, i < n → j < n → kf i = kf j → i = j)
    (hkey : ∀ (i : Nat) tk C (s : Shared) m' (Q : Value → Shared → Prop) (E' : Value → Shared → Prop), i < n → m' x = some (.int (i : Int) tk) → s.heap.Ns C m' → Fr h₀ L s.heap m → News h₀ L s.heap news → (∀ t tk, Q (.int (kf i) t) { s with toks := tk }) → wpAny (model prog w) A (eval kx (compEnvC scope cl C env)) Q E' s)
    (hval : ∀ (i : Nat) tk C (s : Shared) m' (Q : Value → Shared → Prop) (E' : Value → Shared → Prop), i < n → m' x = some (.int (i : Int) tk) → s.heap.Ns C m' → Fr h₀ L s.heap m → News h₀ L s.heap news → (∀ t tk, Q (.int (vf i) t) { s with toks := tk }) → wpAny (model prog w) A (eval vx (compEnvC scope cl C env)) Q E' s)
    (fin : ∀ D h tk od kvs, Fr h₀ L h m → News h₀ L h ((D, od) :: news) → (∀ p ∈ news, p.1 < D) → (D == sysModules) = false → od.IsDictOf (intKind prog w) kvs → kvs.map (·.1) = (List.range n).map kf → IntsAre (kvs.map (·.2)) ((List.range n).map vf) → QF D { s with heap := h, toks := tk }) :
    wpAny (model prog w) A (pyIter (.ref r)) (DcSrc prog w A h₀ L m env scope cl x kx vx QF) E s :=
  dc_src_gen kf vf (range_walks hh 0 n) (fun b hb => by rw [List.mem_singleton.mp hb]; exact Nat.lt_succ_self _) (by
    subst hb
    have hn : Builtin.Range.rangeSize 0 (n : Int) 1 = (n : Int) := rng_size (by omega)
    show IsRangeIter _ _ _ _ _
    rw [hn]; simpa using Heap.get?_push_size _ rfl) F N hr hb hz hinj hkey hval fin
/-- two lists whose items are equal, one by one -/
theorem r_eq_lists {op : Bool} {a b : Addr} {v1 v2 : List Value} {c1 c2 : Nat} {Q : Value → Shared → Prop} (hu : A.units < cLine) (N : News h₀ L s.heap news) (h1 : (a, listOf v1.toArray c1) ∈ news) (h2 : (b, listOf v2.toArray c2) ∈ news) (hl : v1.length = v2.length)
    (he : ∀ (j : Nat) x y (A : Around), v1[j]? = some x → v2[j]? = some y → SeqAt.EqAt A s x y true) (h : Q (.bool op) s) :
    wpAny (model prog w) A (compareOp (if op then .Eq else .NotEq) (.ref a) (.ref b)) Q E s := by
  have hsz : v1.toArray.size = v2.toArray.size := by rw [List.size_toArray, List.size_toArray, hl]
  have ha : s.TypeIs (.ref a) "list" := ⟨_, (N _ h1).1, rfl⟩
  have hb : s.TypeIs (.ref b) "list" := ⟨_, (N _ h2).1, rfl⟩
  have he' : ∀ (A : Around) j (hj1 : j < v1.toArray.size) (hj2 : j < v2.toArray.size), SeqAt.EqAt A s v1.toArray[j] v2.toArray[j] true := fun A j hj1 hj2 =>
    he j _ _ A (by simp at hj1 ⊢) (by simp at hj2 ⊢)
  have ht : ((List.range v1.toArray.size).all fun _ => true) = true := by simp
  cases op with
  | true =>
    refine cmp_ofEq ?_
    refine wpAny_richCompare_same_room ha hb PySem.F.slot_list_eq ?_ hu
    refine call_meetsIn PySem.F.slot_list_eq ha PySem.F.entry_list_eq (PySem.F.args_list_eq_2 _ _) (fun A R s h => PySem.SeqAt.list_eqAt a b v1.toArray v2.toArray c1 c2 none none #[] #[] hsz (fun _ => true) prog w A R s h)
      ⟨(N _ h1).1, (N _ h2).1, fun j hj1 hj2 => he' _ j hj1 hj2, ?_⟩
    rw [ht]
    exact ⟨by simp, h⟩
  | false =>
    refine cmp_ofNotEq ?_
    refine wpAny_richCompare_same_room ha hb PySem.F.slot_list_ne ?_ hu
    refine call_meetsIn PySem.F.slot_list_ne ha PySem.F.entry_list_ne (PySem.F.args_list_ne_2 _ _) (fun A R s h => PySem.SeqAt.list_neAt a b v1.toArray v2.toArray c1 c2 none none #[] #[] hsz (fun _ => true) prog w A R s h)
      ⟨(N _ h1).1, (N _ h2).1, fun j hj1 hj2 => he' _ j hj1 hj2, ?_⟩
    rw [ht]
    exact ⟨by simp, h⟩
theorem r_ne_lists {a b : Addr} {v1 v2 : List Value} {c1 c2 : Nat} {Q : Value → Shared → Prop} (hu : A.units < cLine) (N : News h₀ L s.heap news) (h1 : (a, listOf v1.toArray c1) ∈ news) (h2 : (b, listOf v2.toArray c2) ∈ news) (hl : v1.length = v2.length)
    (he : ∀ (j : Nat) x y (A : Around), v1[j]? = some x → v2[j]? = some y → SeqAt.EqAt A s x y true) (h : Q (.bool false) s) :
    wpAny (model prog w) A (compareOp .NotEq (.ref a) (.ref b)) Q E s := r_eq_lists (op := false) hu N h1 h2 hl he h
theorem r_eqq_lists {a b : Addr} {v1 v2 : List Value} {c1 c2 : Nat} {Q : Value → Shared → Prop} (hu : A.units < cLine) (N : News h₀ L s.heap news) (h1 : (a, listOf v1.toArray c1) ∈ news) (h2 : (b, listOf v2.toArray c2) ∈ news) (hl : v1.length = v2.length)
    (he : ∀ (j : Nat) x y (A : Around), v1[j]? = some x → v2[j]? = some y → SeqAt.EqAt A s x y true) (h : Q (.bool true) s) :
    wpAny (model prog w) A (compareOp .Eq (.ref a) (.ref b)) Q E s := r_eq_lists (op := true) hu N h1 h2 hl he h
theorem eqAt_ints {v1 v2 : List Value} {ns : List Int} (i1 : IntsAre v1 ns) (i2 : IntsAre v2 ns) {s : Shared} : ∀ (j : Nat) x y (A : Around), v1[j]? = some x → v2[j]? = some y → SeqAt.EqAt A s x y true := by
  intro j x y A hx hy prog w E Q hq
  obtain ⟨k1, t1, rfl, g1⟩ := i1.at j x hx
  obtain ⟨k2, t2, rfl, g2⟩ := i2.at j y hy
  rw [g1] at g2
  cases g2
  exact wpAny_eqBool_int (by simpa using hq)
theorem eqAt_letters {e1 e2 : List TE} (h : e1.map (·.d) = e2.map (·.d)) {s : Shared} : ∀ (j : Nat) x y (A : Around), (e1.map fun e => Value.str (letter e.d) e.td)[j]? = some x → (e2.map fun e => Value.str (letter e.d) e.td)[j]? = some y → SeqAt.EqAt A s x y true := by
  intro j x y A hx hy prog w E Q hq
  rw [List.getElem?_map] at hx hy
  have hj : (e1.map (·.d))[j]? = (e2.map (·.d))[j]? := by rw [h]
  rw [List.getElem?_map, List.getElem?_map] at hj
  cases h1 : e1[j]? with
  | none => rw [h1] at hx; cases hx
  | some a =>
    cases h2 : e2[j]? with
    | none => rw [h2] at hy; cases hy
    | some b =>
      rw [h1] at hx hj
      rw [h2] at hy hj
      cases hx
      cases hy
      have : a.d = b.d := Option.some.inj hj
      show wpAny _ _ (eqBool (Value.str (letter a.d) a.td) (Value.str (letter b.d) b.td)) _ _ _
      rw [this]
      exact wpAny_eqBool_str (by simpa using hq)
theorem r_eq_dicts {a b : Addr} {oa ob : Obj} {ka kb : List (Int × Value)} {ks ws : List Int} {Q : Value → Shared → Prop} (hu : A.units < cLine) (N : News h₀ L s.heap news) (pa : (a, oa) ∈ news) (pb : (b, ob) ∈ news) (da : oa.IsDictOf (intKind prog w) ka) (db : ob.IsDictOf (intKind prog w) kb)
    (la : (a == sysModules) = false) (lb : (b == sysModules) = false) (k1 : ka.map (·.1) = ks) (k2 : kb.map (·.1) = ks) (i1 : IntsAre (ka.map (·.2)) ws) (i2 : IntsAre (kb.map (·.2)) ws) (h : Q (.bool true) s) :
    wpAny (model prog w) A (compareOp .Eq (.ref a) (.ref b)) Q E s := by
  have hnd : (kb.map (·.1)).Nodup := keysNodup_of_isDictOf db
  refine keq_pairs N pa pb da db la lb (by rw [← List.length_map (f := (·.1)) (as := ka), k1, ← k2, List.length_map]) hu (r := true) ?_ h
  have key : ∀ (ka' : List (Int × Value)) (ws' ks' : List Int) (pre : List (Int × Value)) (kb' : List (Int × Value)), kb = pre ++ kb' → ka'.map (·.1) = ks' → kb'.map (·.1) = ks' → IntsAre (ka'.map (·.2)) ws' → IntsAre (kb'.map (·.2)) ws' → KeqHits A.in1 s kb ka' true := by
    intro ka'
    induction ka' with
    | nil => intro _ _ _ _ _ _ _ _ _; exact .nil
    | cons p r ih =>
      intro ws' ks' pre kb' e h1 h2 h3 h4
      obtain ⟨pk, pv⟩ := p
      cases kb' with
      | nil => rw [← h1] at h2; simp at h2
      | cons q r' =>
        obtain ⟨qk, qv⟩ := q
        subst h1
        simp only [List.map_cons, List.cons.injEq] at h2
        obtain ⟨rfl, h2⟩ := h2
        simp only [List.map_cons] at h3 h4
        cases h3 with
        | cons n t h3 =>
          cases h4 with
          | cons n t' h4 =>
            have hv : valueAt kb qk = some (Value.int n t') := by
              have hm : (qk, Value.int n t') ∈ kb := by rw [e]; simp
              unfold valueAt
              have key2 : ∀ l : List (Int × Value), (l.map (·.1)).Nodup → (qk, Value.int n t') ∈ l → l.find? (fun kv => decide (kv.1 = qk)) = some (qk, Value.int n t') := by
                intro l
                induction l with
                | nil => intro _ h; cases h
                | cons z l ih2 =>
                  intro hn hz
                  rw [List.map_cons, List.nodup_cons] at hn
                  rcases List.mem_cons.mp hz with rfl | hz
                  · simp
                  · have hne : z.1 ≠ qk := fun e => hn.1 (by rw [e]; exact List.mem_map_of_mem (f := (·.1)) hz)
                    simp only [List.find?_cons, decide_eq_false hne]
                    exact ih2 hn.2 hz
              rw [key2 kb hnd hm]; rfl
            have := ih _ _ (pre ++ [(qk, Value.int n t')]) r' (by rw [e]; simp) rfl h2 h3 h4
            exact KeqHits.hit (e := true) (b := true) hv (fun prog w E Q hq => wpAny_eqBool_int (by simpa using hq)) this
  exact key ka ws ks [] kb rfl k1 k2 i1 i2
end
end Mine
end

section
open PySem PySem.W PyProof.Rows PySem.Calls PySem.Spec PyProof.V PyProof.Rows.LCg
set_option Elab.async false
set_option linter.unusedVariables false
set_option maxRecDepth 100000
namespace Mine
theorem ne_cell {h₀ h : Heap} {L a c : Addr} {nw : List (Addr × Obj)} {us : List Value} {n : Nat} {oc : Obj} {v : Option Value} (N : News h₀ L h nw) (h1 : (a, listOf us.toArray n) ∈ nw) (h2 : (c, oc) ∈ nw) (hd : oc.data = .cell v) : a ≠ c := by
  rintro rfl
  have e := (N _ h1).1.symm.trans (N _ h2).1
  have e2 : W.listOf us.toArray n = oc := Option.some.inj e
  rw [← e2] at hd
  cases hd
section
variable {M : Model} {A : Around} {E : Value → Shared → Prop} {s : Shared} {h₀ : Heap} {L a c : Addr} {m : Str → Option Value} {cn : Str} {cs : Scope} {ccd : Value} {cl : List (Str × Addr)}
  {x : Str} {v : Value} {Q : Unit → Shared → Prop} {news : List (Addr × Obj)} {o : Obj} {v₀ : Option Value}
theorem r_storeC (F : Fr h₀ L s.heap m) (N : News h₀ L s.heap news) (hc : cl.lookup x = some c) (hm : (c, o) ∈ news) (hd : o.data = .cell v₀)
    (h : ∀ h' o', Fr h₀ L h' m → News h₀ L h' (upd c o' news) → o'.data = .cell (some v) → Q () { s with heap := h' })
    (hk : cs.kind = .function) (hx : (envX cn cs L a ccd cl).kindOf x = some .cell) : wpAny M A (storeName (envX cn cs L a ccd cl) x v) Q E s :=
  storeX_C F (news_front N hm) hc updF_front hd h hk hx
end
theorem us_at {us : List Value} {f : Nat → Int} {n : Nat} (h : IntsAre us ((List.range n).map f)) {i : Nat} {j : Int} (hi : i < n) (hj : j = (i : Int)) : ∃ t, us[j.toNat]? = some (.int (f i) t) := by
  subst hj
  have hl : us.length = n := by rw [h.length]; simp
  have hi' : i < us.length := by omega
  obtain ⟨k, t, h1, h2⟩ := IntsAre.at h i us[i] (by simp)
  rw [List.getElem?_map, List.getElem?_range hi] at h2
  cases h2
  exact ⟨t, by rw [Int.toNat_natCast, List.getElem?_eq_getElem hi', h1]⟩
theorem nes {L : Nat} {o1 o2 o3 o4 : Obj} {nw : List (Addr × Obj)} (_ : (L + 1, o1) ∈ nw) (_ : (L + 1 + 1, o2) ∈ nw) (_ : (L + 1 + 1 + 1, o3) ∈ nw) (_ : (L + 1 + 1 + 1 + 1, o4) ∈ nw) :
    L + 1 ≠ L + 1 + 1 ∧ L + 1 ≠ L + 1 + 1 + 1 ∧ L + 1 ≠ L + 1 + 1 + 1 + 1 ∧ L + 1 + 1 ≠ L + 1 + 1 + 1 ∧ L + 1 + 1 ≠ L + 1 + 1 + 1 + 1 ∧ L + 1 + 1 + 1 ≠ L + 1 + 1 + 1 + 1 := by omega
theorem any_toks {α : Type} {M : Model} {A : Around} {t : Sem α} {Q : α → Shared → Prop} {E : Value → Shared → Prop} {s : Shared} {h : Heap} (e : s.heap = h) (H : ∀ tk, wpAny M A t Q E { heap := h, gens := s.gens, drawn := s.drawn, toks := tk, os := s.os }) : wpAny M A t Q E s := by
  subst e; exact H s.toks
theorem sz_of (a : Int) : ∃ n : Nat, 2 + a.fmod 6 = (n : Int) ∧ 2 ≤ n ∧ n ≤ 7 := by
  have h1 := Int.fmod_nonneg_of_pos a (b := 6) (by decide)
  have h2 := Int.fmod_lt_of_pos a (b := 6) (by decide)
  exact ⟨(2 + a.fmod 6).toNat, by omega, by omega, by omega⟩
theorem fm_of (a : Int) : ∃ f : Bool, a.fmod 2 = if f then 1 else 0 := by
  have h1 := Int.fmod_nonneg_of_pos a (b := 2) (by decide)
  have h2 := Int.fmod_lt_of_pos a (b := 2) (by decide)
  by_cases h : a.fmod 2 = 1
  · exact ⟨true, by simpa using h⟩
  · exact ⟨false, by simp; omega⟩
theorem rangeKs_eq {n : Nat} : rangeKs 0 ((n : Int) - 0).toNat = (List.range n).map (fun i : Nat => (i : Int)) := by
  have : ((n : Int) - 0).toNat = n := by omega
  rw [this]
  unfold rangeKs
  simp
theorem zip_fst {ks ws : List Int} (h : ks.length = ws.length) : (ks.zip ws).map (·.1) = ks := List.map_fst_zip (Nat.le_of_eq h)
theorem range_nodup {n : Nat} {f : Nat → Int} (h : ∀ i j, i < n → j < n → f i = f j → i = j) : ((List.range n).map f).Nodup := by
  unfold List.Nodup
  rw [List.pairwise_map]
  exact List.pairwise_lt_range.imp_of_mem fun ha hb hab e => absurd (h _ _ (List.mem_range.mp ha) (List.mem_range.mp hb) e) (Nat.ne_of_lt hab)
theorem evals_d' {e1 e2 : List TE} (h : evals e1 = evals e2) : e1.map (·.d) = e2.map (·.d) := by
  have := congrArg (List.map (fun p : Int × Bool => p.2)) h
  unfold evals at this
  rw [List.map_map, List.map_map] at this
  exact this
/-- what the creation sequence tells of the weights -/
theorem told_facts {es : List TE} {ks ws : List Int} {th : Int} (hl : ks.length = ws.length) (h2 : 2 ≤ ks.length) (hnd : ks.Nodup) (hes : evals es = (pops th (ks.zip ws).length (sortP (ks.zip ws))).reverse)
    (hpar : ∀ a ∈ ws, ∀ b ∈ ws, th ≤ a + b → th < a + b) :
    (∃ e0 ts, es = e0 :: ts ∧ e0.d = true) ∧ (labs es).Perm ks ∧ es.length = ks.length ∧ ∀ (i j : Nat) (k1 k2 w1 w2 : Int), j < i → ks[i]? = some k1 → ks[j]? = some k2 → ws[i]? = some w1 → ws[j]? = some w2 → (edP es k1 k2 ↔ th < w1 + w2) := by
  have hz : (ks.zip ws).length = ks.length := by rw [List.length_zip, hl, Nat.min_self]
  have hf := zip_fst hl
  have hndz : ((ks.zip ws).map (·.1)).Nodup := by rw [hf]; exact hnd
  have hp := sortP_perm hndz (by omega)
  have hsl : (sortP (ks.zip ws)).length = (ks.zip ws).length := hp.length_eq
  have hpp := pops_perm (th := th) (ks.zip ws).length (sortP (ks.zip ws)) hsl
  have hlabs : labs es = (evals es).map (·.1) := by simp [labs, evals]
  have hperm : (labs es).Perm ks := by
    rw [hlabs, hes, List.map_reverse]
    refine (List.reverse_perm _).trans (hpp.trans ?_)
    have := hp.map (fun p : Int × Int => p.1)
    rw [hf] at this
    exact this
  refine ⟨?_, hperm, by rw [← hperm.length_eq]; simp [labs], ?_⟩
  · obtain ⟨p, x, e⟩ := pops_last (th := th) (ks.zip ws).length (sortP (ks.zip ws)) hsl (by omega)
    rw [e, List.reverse_append] at hes
    cases es with
    | nil => simp [evals] at hes
    | cons e0 ts =>
      simp only [evals, List.map_cons, List.reverse_cons, List.reverse_nil, List.nil_append, List.singleton_append, List.cons.injEq] at hes
      exact ⟨e0, ts, rfl, by rw [Prod.mk.injEq] at hes; exact hes.1.2⟩
  · intro i j k1 k2 w1 w2 hji h1 h2' h3 h4
    have m1 : (k1, w1) ∈ ks.zip ws := List.mem_of_getElem? (i := i) (by rw [List.getElem?_zip_eq_some]; exact ⟨h1, h3⟩)
    have m2 : (k2, w2) ∈ ks.zip ws := List.mem_of_getElem? (i := j) (by rw [List.getElem?_zip_eq_some]; exact ⟨h2', h4⟩)
    have hne : k1 ≠ k2 := by
      intro e
      obtain ⟨a1, a2⟩ := List.getElem?_eq_some_iff.mp h1
      obtain ⟨b1, b2⟩ := List.getElem?_eq_some_iff.mp h2'
      exact (List.pairwise_iff_getElem.mp hnd) j i b1 a1 hji (by rw [a2, b2, e])
    have he := pops_edge (th := th) (ks.zip ws).length (sortP (ks.zip ws)) hsl ((hp.map (fun p : Int × Int => p.1)).nodup_iff.mpr hndz) (sortP_sorted hndz (by omega)) (k1, w1) (hp.mem_iff.mpr m1) (k2, w2) (hp.mem_iff.mpr m2) hne
    rw [edP_edR hes, he]
    exact ⟨hpar _ (List.mem_of_getElem? h3) _ (List.mem_of_getElem? h4), Int.le_of_lt⟩
structure NoStop : Prop where
/-- the state behind «names = ..» -/
def NamesJ (h₀ : Heap) (L cN : Addr) (m : Str → Option Value) (news : List (Addr × Obj)) (ks : List Int) (s s' : Shared) : Prop :=
  ∃ h' tk D vs c o' news', s' = { s with heap := h', toks := tk } ∧ Fr h₀ L h' m ∧ News h₀ L h' news' ∧ (∀ a o, (a, o) ∈ news → a ≠ cN → (a, o) ∈ news') ∧ (cN, o') ∈ news' ∧ o'.data = .cell (some (.ref D)) ∧ (D, W.listOf (List.toArray vs) c) ∈ news' ∧ IntsAre vs ks
theorem names_join {M : Model} {A : Around} {E : Value → Shared → Prop} {s : Shared} {h₀ : Heap} {L : Addr} {m : Str → Option Value} {news : List (Addr × Obj)} {t : Sem Flow} {Q : Flow → Shared → Prop} (cN : Addr) (ks : List Int)
    (F : Fr h₀ L s.heap m) (N : News h₀ L s.heap news) (h1 : wpAny M A t (fun f s' => f = Flow.next ∧ NamesJ h₀ L cN m news ks s s') E s)
    (h2 : ∀ h' tk D vs c o' news', Fr h₀ L h' m → News h₀ L h' news' → (∀ a o, (a, o) ∈ news → a ≠ cN → (a, o) ∈ news') → (cN, o') ∈ news' → o'.data = .cell (some (.ref D)) → (D, W.listOf (List.toArray vs) c) ∈ news' → IntsAre vs ks → Q .next { s with heap := h', toks := tk }) :
    wpAny M A t Q E s := wpAny_mono h1 (fun f s' h => by
      obtain ⟨rfl, h', tk, D, vs, c, o', news', rfl, a1, a2, a3, a4, a5, a6, a7⟩ := h
      exact h2 h' tk D vs c o' news' a1 a2 a3 a4 a5 a6 a7) fun _ _ e => e
/-- what is handed in: a dict (f) or a list (not f) -/
def HIn (w : World) (f : Bool) (H : Addr) (news : List (Addr × Obj)) (ks ws : List Int) : Prop :=
  if f then ∃ od kvs, (H, od) ∈ news ∧ od.IsDictOf (intKind Challenge.rw_aq6051_01.row.prog w) kvs ∧ (H == sysModules) = false ∧ kvs.map (·.1) = ks ∧ IntsAre (kvs.map (·.2)) ws
  else ∃ vs c, (H, W.listOf (List.toArray vs) c) ∈ news ∧ IntsAre vs ws
theorem HIn.mono {w : World} {f : Bool} {H : Addr} {news news' : List (Addr × Obj)} {ks ws : List Int} (h : HIn w f H news ks ws) (hk : ∀ a o, (a, o) ∈ news → (a, o) ∈ news') : HIn w f H news' ks ws := by
  unfold HIn at h ⊢
  split
  · rename_i hf
    rw [if_pos hf] at h
    obtain ⟨od, kvs, a, b⟩ := h
    exact ⟨od, kvs, hk _ _ a, b⟩
  · rename_i hf
    rw [if_neg hf] at h
    obtain ⟨vs, c, a, b⟩ := h
    exact ⟨vs, c, hk _ _ a, b⟩
theorem zipIdx_zip (ws : List Int) : ws.zipIdx.map (fun p => ((p.2 : Int), p.1)) = ((List.range ws.length).map (fun i : Nat => (i : Int))).zip ws := by
  apply List.ext_getElem
  · simp
  · intro i h1 h2
    simp
theorem HIn.win {w : World} {f : Bool} {H : Addr} {news : List (Addr × Obj)} {ks ws : List Int} (h : HIn w f H news ks ws) (hl : ks.length = ws.length) (hr : f = false → ks = (List.range ws.length).map (fun i : Nat => (i : Int))) : WIn w H news (ks.zip ws) := by
  unfold HIn at h
  cases f with
  | true =>
    obtain ⟨od, kvs, a, b, c, d, e⟩ := h
    exact .dict a b c d e hl
  | false =>
    obtain ⟨vs, c, a, b⟩ := h
    rw [hr rfl, ← zipIdx_zip]
    exact .list a b
def HandJ (w : World) (f : Bool) (h₀ : Heap) (L : Addr) (m : Str → Option Value) (y : Str) (news : List (Addr × Obj)) (ks ws : List Int) (s s' : Shared) : Prop :=
  ∃ h' tk H news', s' = { s with heap := h', toks := tk } ∧ Fr h₀ L h' (fun z => if z = y then some (.ref H) else m z) ∧ News h₀ L h' news' ∧ (∀ a o, (a, o) ∈ news → (a, o) ∈ news') ∧ HIn w f H news' ks ws
theorem hand_join {M : Model} {A : Around} {E : Value → Shared → Prop} {s : Shared} {w : World} {h₀ : Heap} {L : Addr} {m : Str → Option Value} {news : List (Addr × Obj)} {t : Sem Flow} {Q : Flow → Shared → Prop} (f : Bool) (y : Str) (ks ws : List Int)
    (F : Fr h₀ L s.heap m) (N : News h₀ L s.heap news) (h1 : wpAny M A t (fun fl s' => fl = Flow.next ∧ HandJ w f h₀ L m y news ks ws s s') E s)
    (h2 : ∀ h' tk H news', Fr h₀ L h' (fun z => if z = y then some (.ref H) else m z) → News h₀ L h' news' → (∀ a o, (a, o) ∈ news → (a, o) ∈ news') → HIn w f H news' ks ws → Q .next { s with heap := h', toks := tk }) :
    wpAny M A t Q E s := wpAny_mono h1 (fun fl s' h => by
      obtain ⟨rfl, h', tk, H, news', rfl, a1, a2, a3, a4⟩ := h
      exact h2 h' tk H news' a1 a2 a3 a4) fun _ _ e => e
end Mine
end

section
open PySem PySem.W PyProof.Rows PySem.Calls PySem.Spec PyProof.V PyProof.Rows.LCg
set_option Elab.async false
set_option linter.unusedVariables false
set_option maxRecDepth 100000
namespace Mine
theorem entry_unchain : entryFor table "proto.unchain" = some Builtin.«proto.unchain» := entryFor_of_fast (by kernel_rfl)
section
variable {prog : Program} {w : World} {A : Around} {E : Value → Shared → Prop} {s : Shared}
/-- a new exception raised while e, that has no context, is handled -/
theorem raise_in {α : Type} {a e : Addr} {oa oe : Obj} {wa ws : Array Value} {Q : α → Shared → Prop} (hh : A.handled = some (.ref e)) (he : s.heap.get? e = some oe) (hd : oe.data = .fields ws) (h2 : ws[2]? = some .none)
    (ha : s.heap.get? a = some oa) (hda : oa.data = .fields wa) (hsz : 2 < wa.size) (hne : e ≠ a) (h : E (.ref a) { s with heap := s.heap.update a (Obj.mapFields (·.setIfInBounds 2 (.ref e))) }) :
    wpAny (model prog w) A (raiseNew (.ref a) : Sem α) Q E s := by
  simp only [raiseNew]
  refine wpAny_bind (wpAny_handled ?_)
  rw [hh]
  dsimp only
  have hb : ((Value.ref e != Value.ref a) = true) := by simp [hne]
  rw [if_pos hb]
  refine wpAny_bind (wpAny_holding (wpAny_runValue (codeAny_builtin entry_unchain ?_)))
  show wpAny _ _ (field (.ref e) 2 >>= _) _ _ s
  refine wpAny_bind (wpAny_field he hd h2 ?_)
  refine wpAny_pure ?_
  show wpAny _ _ (setField (.ref a) 2 (.ref e) >>= _) _ _ s
  exact wpAny_bind (wpAny_setField ha hda hsz (wpAny_throw h))
theorem range_end_h {it e : Addr} {x left step : Int} {oe : Obj} {ws : Array Value} {Q : Option Value → Shared → Prop} (hh : A.handled = some (.ref e)) (he : s.heap.get? e = some oe) (hd : oe.data = .fields ws) (h2 : ws[2]? = some .none)
    (hit : IsRangeIter s.heap it x left step) (hleft : left ≤ 0) (hQ : ∀ h', Heap.ExtBut it s.heap h' → Q none { s with heap := h' }) : wpAny (model prog w) A (pyNext (.ref it)) Q E s := by
  have hT : s.TypeIs (.ref it) "range_iterator" := ⟨_, hit, rfl⟩
  unfold pyNext
  refine wpAny_bind (wpAny_attempt (wpAny_callSpecial?_slot (name := Str.ofString "__next__") hT F.slot_range_iterator_next
    (wpAny_call_entry F.slot_range_iterator_next hT F.entry_range_iterator_next ?_ (F.args_range_iterator_next_1 _))))
  show wpAny _ _ (field (.ref it) 0 >>= _) _ _ s
  refine wpAny_bind (wpAny_field hit rfl (x := rawInt x) rfl ?_)
  show wpAny _ _ (field (.ref it) 1 >>= _) _ _ s
  refine wpAny_bind (wpAny_field hit rfl (x := rawInt left) rfl ?_)
  show wpAny _ _ (field (.ref it) 2 >>= _) _ _ s
  refine wpAny_bind (wpAny_field hit rfl (x := rawInt step) rfl ?_)
  show wpAny _ _ (if left ≤ 0 then _ else _) _ _ s
  rw [if_pos hleft]
  refine wpAny_bind (wpAny_rule ?_)
  refine wpAny_bind ?_
  show wpAny _ _ (newExc (.type "StopIteration") [] >>= _) _ _ _
  refine wpAny_bind ?_
  simp only [newExc, newTuple]
  refine wpAny_bind (wpAny_newObj_type ?_ (by size_fits))
  refine wpAny_bind (m := firstArgMember _ _) (wpAny_of_eq (a := Value.none) (by first | rfl | (simp only [firstArgMember]; rfl)) ?_)
  refine wpAny_newObj_type ?_ (by size_fits)
  have l1 := Heap.lt_size he
  refine raise_in (oe := oe) (ws := ws) (show A.in1.handled = some (.ref e) from hh) (Heap.get?_push_of_some _ (Heap.get?_push_of_some _ he)) hd h2 (Heap.get?_push_size _ rfl) rfl (by rw [Array.size_append]; exact Nat.lt_of_lt_of_le (show 2 < 6 by decide) (Nat.le_add_right _ _)) (Nat.ne_of_lt (by rw [Heap.size_push]; exact Nat.lt_succ_of_lt l1)) ?_
  refine wpAny_bind (wpAny_isInstance (T := "StopIteration") (b := true) ⟨_, Heap.get?_update_self _ (Heap.get?_push_size _ rfl) rfl, rfl⟩ isSubtype_stop ?_)
  refine wpAny_pure (hQ _ fun b o hb e' => ?_)
  have l2 := Heap.lt_size e'
  rw [Heap.get?_update_other _ _ (Nat.ne_of_gt (by rw [Heap.size_push]; exact Nat.lt_succ_of_lt l2))]
  exact Heap.get?_push_of_some _ (Heap.get?_push_of_some _ e')
theorem range_walks_h {I e : Addr} {oe : Obj} {ws : Array Value} (hh : A.handled = some (.ref e)) (hd : oe.data = .fields ws) (h2 : ws[2]? = some .none) (hI : I ≠ e) (n : Nat) :
    Walks prog w A I [I, e] [I] n (fun i v => ∃ t, v = .int (0 + (i : Int)) t) (fun i h => IsRangeIter h I (0 + (i : Nat) * 1) ((n : Int) - (i : Nat)) 1 ∧ h.get? e = some oe) where
  sub := fun b hb => by rw [List.mem_singleton.mp hb]; exact List.mem_cons_self
  frame := fun _ _ _ st hk => ⟨hk I (by simp) _ st.1, hk e (by simp) _ st.2⟩
  item := fun i s Q E hi st hQ => by
    refine wpAny_pyNext_range_item st.1 (by omega) fun h' hit' hs' => ?_
    refine hQ _ h' _ ⟨_, by rw [Int.mul_one]⟩ ⟨?_, hs'.extBut _ _ (Ne.symm hI) st.2⟩ fun b o hb e => hs'.extBut b o (fun h => hb (by simp [h])) e
    have e1 : (0 : Int) + ((i + 1 : Nat) : Int) * 1 = 0 + (i : Int) * 1 + 1 := by omega
    have e2 : (n : Int) - ((i + 1 : Nat) : Int) = (n : Int) - (i : Int) - 1 := by omega
    rw [e1, e2]; exact hit'
  done := fun s Q E st hQ => range_end_h hh st.2 hd h2 st.1 (by omega) fun h' he' => hQ h' s.toks fun b o hb e => he' b o (fun h => hb (by simp [h])) e
  self := fun _ _ _ _ st hQ => wpAny_pyIter_rangeiter st.1 hQ
end
section
variable {prog : Program} {w : World} {A : Around} {E : Value → Shared → Prop} {s : Shared} {h₀ : Heap} {L : Addr} {m : Str → Option Value} {env : Env} {news : List (Addr × Obj)}
/-- the same while an exception is handled -/
theorem dc_src_h {e : Addr} {oe : Obj} {ws : Array Value} {kx vx : PySem.Expr} {x : Str} {scope : Scope} {cl : List (Str × Addr)} {QF : Addr → Shared → Prop} {r : Addr} {b : Int} {n : Nat} {t u v : Tok} (kf vf : Nat → Int)
    (hh : A.handled = some (.ref e)) (hde : oe.data = .fields ws) (h2 : ws[2]? = some .none) (he : (e, oe) ∈ news) (F : Fr h₀ L s.heap m) (N : News h₀ L s.heap news) (hr : IsRange s.heap r 0 b 1 t u v) (hb : b = (n : Int)) (hz : n ≤ 1000) (hinj : ∀ i j, i < n → j < n → kf i = kf j → i = j)
    (hkey : ∀ (i : Nat) tk C (s : Shared) m' (Q : Value → Shared → Prop) (E' : Value → Shared → Prop), i < n → m' x = some (.int (i : Int) tk) → s.heap.Ns C m' → Fr h₀ L s.heap m → News h₀ L s.heap news → (∀ t tk, Q (.int (kf i) t) { s with toks := tk }) → wpAny (model prog w) A (eval kx (compEnvC scope cl C env)) Q E' s)
    (hval : ∀ (i : Nat) tk C (s : Shared) m' (Q : Value → Shared → Prop) (E' : Value → Shared → Prop), i < n → m' x = some (.int (i : Int) tk) → s.heap.Ns C m' → Fr h₀ L s.heap m → News h₀ L s.heap news → (∀ t tk, Q (.int (vf i) t) { s with toks := tk }) → wpAny (model prog w) A (eval vx (compEnvC scope cl C env)) Q E' s)
    (fin : ∀ D h tk od kvs, Fr h₀ L h m → News h₀ L h ((D, od) :: news) → (∀ p ∈ news, p.1 < D) → (D == sysModules) = false → od.IsDictOf (intKind prog w) kvs → kvs.map (·.1) = (List.range n).map kf → IntsAre (kvs.map (·.2)) ((List.range n).map vf) → QF D { s with heap := h, toks := tk }) :
    wpAny (model prog w) A (pyIter (.ref r)) (DcSrc prog w A h₀ L m env scope cl x kx vx QF) E s :=
  dc_src_gen kf vf (range_walks_h hh hde h2 (Nat.ne_of_gt (Heap.lt_size (N _ he).1)) n) (fun b hb => by
    rcases List.mem_cons.mp hb with rfl | hb
    · exact Nat.lt_succ_self _
    · rw [List.mem_singleton.mp hb]; exact Nat.lt_succ_of_lt (Heap.lt_size (N _ he).1)) (by
    subst hb
    have hn : Builtin.Range.rangeSize 0 (n : Int) 1 = (n : Int) := rng_size (by omega)
    refine ⟨?_, Heap.get?_push_of_some _ (N _ he).1⟩
    show IsRangeIter _ _ _ _ _
    rw [hn]; simpa using Heap.get?_push_size _ rfl) F N hr hb hz hinj hkey hval fin
end
end Mine
end

section
open PySem PySem.W PyProof.Rows PySem.Calls PySem.Spec PyProof.V PyProof.Rows.LCg
set_option Elab.async false
set_option linter.unusedVariables false
set_option maxRecDepth 100000
namespace Mine
/-- a flying exception that has no context -/
def TrC (base : Heap) (e : Addr) (cls a0 fl : Value) (h : Heap) : Prop :=
  ∃ oe vs T oT ts, h.get? e = some oe ∧ oe.cls = cls ∧ vs[0]? = some a0 ∧ vs[2]? = some .none ∧ oe.data = .fields vs ∧ vs[1]? = some (.ref T) ∧ base.get? T = none ∧ T ≠ e ∧ h.get? T = some oT ∧ oT.data = .fields ts ∧ ts[3]? = some fl
def FlC (base : Heap) (l : List Env) (e : Addr) (cls a0 fl : Value) (h : Heap) : Prop := base.StaysIn h ∧ base.get? e = none ∧ h.FunFrames base l ∧ TrC base e cls a0 fl h
section
variable {M : Model} {A : Around} {E : Value → Shared → Prop} {s : Shared}
theorem entryC {base : Heap} {env : Env} {outer : List Env} {L e : Addr} {oe : Obj} {vs : Array Value} {head a0 : Value} {hadNext : Bool} {Q : Unit → Shared → Prop}
    (hfr : A.frames = some (env :: outer)) (hl : s.heap.FunFrames base (env :: outer)) (hf : env.frame = some L)
    (he : s.heap.get? e = some oe) (hkb : base.StaysIn s.heap) (hen : base.get? e = none) (hd : oe.data = .fields vs) (hsz : 1 < vs.size) (h0 : vs[0]? = some a0) (h2 : vs[2]? = some .none)
    (h : ∀ h', FlC base (env :: outer) e oe.cls a0 (rawInt L) h' → s.heap.UpToSlots h' → Q () { s with heap := h' }) :
    wpAny M A (do let a ← frameOf env; let pl ← entryPlaceOf L hadNext; let b ← EntryCells.newEntry head a .none (rawInt L) .none pl; setField (.ref e) 1 b) Q E s := by
  have hene : e ∉ (env :: outer).filterMap (·.frame) := fun hm => by
    obtain ⟨_, o, ho, hnf⟩ := hl.mem hm
    rw [he] at ho; injection ho with ho; subst ho; exact hnf vs hd
  refine wpAny_bind (wpAny_frameOf_fun hfr hl hf fun h₁ hs₁ => ?_)
  refine wpAny_bind (wpAny_entryPlaceOf fun pl hpl => ?_)
  unfold EntryCells.newEntry newFields
  refine wpAny_bind (wpAny_newObj_type ?_ (hpl.sizeOk5 _ _ _ _ _))
  have he₁ : h₁.get? e = some oe := (hs₁.2.1 e hene).trans he
  have kb₁ : base.StaysIn h₁ := fun b o hbo => (hs₁.2.1 b fun hm => by rw [(hl.mem hm).1] at hbo; cases hbo).trans (hkb b o hbo)
  have hTe : h₁.objs.size ≠ e := Nat.ne_of_gt (Heap.lt_size he₁)
  generalize hTo : ({ cls := .type "traceback", dict := none, data := .fields ([head, .ref L, .none, rawInt L, .none] ++ (if pl.isEmpty then List.replicate 6 Value.none else pl)).toArray } : Obj) = oT
  have hTd : oT.data = .fields ([head, .ref L, .none, rawInt L, .none] ++ (if pl.isEmpty then List.replicate 6 Value.none else pl)).toArray := by rw [← hTo]
  have hTf : oT.isFreed = false := Obj.isFreed_of_fields hTd
  have he₂ := Heap.get?_push_of_some (h := h₁) oT he₁
  refine wpAny_setField he₂ hd hsz (h _ ?_ ?_)
  · have keep : ∀ b o, b ≠ e → h₁.get? b = some o → ((h₁.push oT).update e (Obj.mapFields (·.setIfInBounds 1 (Value.ref h₁.objs.size)))).get? b = some o := fun b o hbe hb => by
      rw [Heap.get?_update_other _ _ (Ne.symm hbe)]; exact Heap.get?_push_of_some _ hb
    have hd₃ := Obj.data_mapFields hd (·.setIfInBounds 1 (Value.ref h₁.objs.size))
    refine ⟨fun b o hbo => keep b o (fun q => by rw [q, hen] at hbo; cases hbo) (kb₁ b o hbo), hen, hl.of_keeps fun b o hb hnf => ?_,
      _, _, h₁.objs.size, oT, _, Heap.get?_update_self (Obj.mapFields (·.setIfInBounds 1 (Value.ref h₁.objs.size))) he₂ (Obj.isFreed_of_fields hd₃), Obj.cls_mapFields _ _, by rw [Array.getElem?_setIfInBounds_ne (by decide)]; exact h0, by rw [Array.getElem?_setIfInBounds_ne (by decide)]; exact h2,
      hd₃, by simp [hsz], kb₁.fresh, hTe, (Heap.get?_update_other _ _ (Ne.symm hTe)).trans (Heap.get?_push_size h₁ hTf), hTd, by first | (simp; done) | (rcases hpl with rfl | ⟨_, _, _, _, _, _, _, rfl⟩ <;> simp)⟩
    obtain ⟨sl, hs⟩ := hs₁.2.2 b o hb
    exact ⟨_, keep b _ (fun q => by rw [q, he] at hb; injection hb with hb; subst hb; exact hnf vs hd) hs, rfl⟩
  · intro b o hb hnf
    obtain ⟨sl, hs⟩ := hs₁.2.2 b o hb
    refine ⟨sl, ?_⟩
    rw [Heap.get?_update_other _ _ (fun q => by rw [← q, he] at hb; injection hb with hb; subst hb; exact hnf vs hd)]
    exact Heap.get?_push_of_some _ hs
theorem note_firstC {base : Heap} {env : Env} {outer : List Env} {L e : Addr} {oe : Obj} {vs : Array Value} {a0 : Value} {Q : Unit → Shared → Prop}
    (hfr : A.frames = some (env :: outer)) (hl : s.heap.FunFrames base (env :: outer)) (hf : env.frame = some L)
    (he : s.heap.get? e = some oe) (hkb : base.StaysIn s.heap) (hen : base.get? e = none) (hd : oe.data = .fields vs) (h1 : vs[1]? = some .none) (h0 : vs[0]? = some a0) (h2 : vs[2]? = some .none)
    (h : ∀ h', FlC base (env :: outer) e oe.cls a0 (rawInt L) h' → s.heap.UpToSlots h' → Q () { s with heap := h' }) : wpAny M A (noteFrame (.ref e) env) Q E s := by
  unfold noteFrame
  simp only [hf]
  refine wpAny_bind (wpAny_field he hd h1 ?_)
  rw [if_neg (by decide)]
  exact entryC hfr hl hf he hkb hen hd (Array.getElem?_eq_some_iff.mp h1).1 h0 h2 h
theorem upd_T {base : Heap} {l : List Env} {e T : Addr} {cls a0 fl x : Value} {oe oT : Obj} {vs ts : Array Value} {h : Heap} (hkb : base.StaysIn h) (hl : h.FunFrames base l) (he : h.get? e = some oe) (hnT : base.get? T = none) (hTe : T ≠ e) (hT : h.get? T = some oT) (hdT : oT.data = .fields ts) :
    base.StaysIn (h.update T (Obj.mapFields (·.setIfInBounds 3 x))) ∧ (h.update T (Obj.mapFields (·.setIfInBounds 3 x))).FunFrames base l ∧ (h.update T (Obj.mapFields (·.setIfInBounds 3 x))).get? e = some oe ∧ h.UpToSlots (h.update T (Obj.mapFields (·.setIfInBounds 3 x))) := by
  have other : ∀ b, b ≠ T → (h.update T (Obj.mapFields (·.setIfInBounds 3 x))).get? b = h.get? b := fun b hb => Heap.get?_update_other _ _ (Ne.symm hb)
  have noRecord : ∀ b o, h.get? b = some o → (∀ vs, o.data ≠ .fields vs) → b ≠ T := fun b o hb hnf q => by
    rw [q, hT] at hb; injection hb with hb; subst hb; exact hnf ts hdT
  exact ⟨fun b o hbo => (other b fun q => by rw [q, hnT] at hbo; cases hbo).trans (hkb b o hbo), hl.of_keeps fun b o hb hnf => ⟨o, (other b (noRecord b o hb hnf)).trans hb, rfl⟩, (other e (Ne.symm hTe)).trans he,
    fun b o hb hnf => ⟨o.slots, (other b (noRecord b o hb hnf)).trans hb⟩⟩
theorem note_onC {base : Heap} {env : Env} {outer : List Env} {L e : Addr} {cls a0 : Value} {Q : Unit → Shared → Prop}
    (hfr : A.frames = some (env :: outer)) (hf : env.frame = some L) (x : FlC base (env :: outer) e cls a0 .none s.heap)
    (h : ∀ h', FlC base (env :: outer) e cls a0 (rawInt L) h' → s.heap.UpToSlots h' → Q () { s with heap := h' }) : wpAny M A (noteFrame (.ref e) env) Q E s := by
  obtain ⟨hkb, hen, hl, oe, vs, T, oT, ts, he, rfl, h0, h2, hd, h1, hnT, hTe, hT, hdT, h3⟩ := x
  unfold noteFrame
  simp only [hf]
  refine wpAny_bind (wpAny_field he hd h1 ?_)
  rw [if_pos (show (Value.ref T != Value.none) = true from by simp)]
  refine wpAny_bind (wpAny_field hT hdT h3 ?_)
  rw [if_neg (show ¬ ((Value.none == rawInt L) = true) from by simp [rawInt])]
  refine wpAny_bind (wpAny_setField hT hdT (Array.getElem?_eq_some_iff.mp h3).1 ?_)
  obtain ⟨a1, a2, a3, a4⟩ := upd_T (x := .none) (cls := .none) (a0 := .none) (fl := .none) (vs := vs) hkb hl he hnT hTe hT hdT
  exact entryC hfr a2 hf a3 a1 hen hd (Array.getElem?_eq_some_iff.mp h1).1 h0 h2 fun h' y1 y2 => h h' y1 (a4.trans y2)
theorem flightC {base : Heap} {l : List Env} {e : Addr} {cls a0 fl : Value} {Q : Unit → Shared → Prop} (x : FlC base l e cls a0 fl s.heap)
    (h : ∀ h', FlC base l e cls a0 .none h' → s.heap.UpToSlots h' → Q () { s with heap := h' }) : wpAny M A (setFlight (.ref e) none) Q E s := by
  obtain ⟨hkb, hen, hl, oe, vs, T, oT, ts, he, rfl, h0, h2, hd, h1, hnT, hTe, hT, hdT, h3⟩ := x
  have hsz3 : 3 < ts.size := (Array.getElem?_eq_some_iff.mp h3).1
  unfold setFlight
  refine wpAny_bind (wpAny_field he hd h1 ?_)
  rw [if_pos (show (Value.ref T != Value.none) = true from by simp)]
  obtain ⟨a1, a2, a3, a4⟩ := upd_T (x := (none : Option Addr).elim Value.none fun f => rawInt f) (cls := .none) (a0 := .none) (fl := .none) (vs := vs) hkb hl he hnT hTe hT hdT
  exact wpAny_setField hT hdT hsz3 (h _ ⟨a1, hen, a2, oe, vs, T, _, _, a3, rfl, h0, h2, hd, h1, hnT, hTe, Heap.get?_update_self _ hT (Obj.isFreed_of_fields (Obj.data_mapFields hdT _)), Obj.data_mapFields hdT _, by simp [hsz3]⟩ a4)
def RaisedC (base : Heap) (l : List Env) (e : Addr) (cls : Value) (t : Addr) (news : List (Addr × Obj)) (h : Heap) : Prop :=
  ∃ B, base.StaysIn B ∧ (∀ q ∈ news, B.get? q.1 = some q.2 ∧ base.get? q.1 = none) ∧ FlC B l e cls (.ref t) .none h
theorem leave_madeC {base g h : Heap} {outer : List Env} {L a e : Addr} {m : Str → Option Value} {name : Str} {scope : Scope} {cd : Value} {Q : Unit → Shared → Prop} {news : List (Addr × Obj)} {cls : Value} {vs : List Value}
    (K : Below A base outer g) (hx : Heap.MadeExcOf h s.heap e cls vs) (F : Fr g L h m) (N : News g L h news)
    (hQ : ∀ h' t, RaisedC base outer e cls t news h' → g.UpToSlots h' → Q () { s with heap := h' }) (hk : scope.kind = .function := by rfl) :
    wpAny M (A.deeper (envOf name scope L a cd)) (leaving (envOf name scope L a cd) (.ref e)) Q E s := by
  have K' := K.push (name := name) (a := a) (cd := cd) F hk
  have hin : ∀ env ∈ (envOf name scope L a cd :: outer), ∀ b, env.frame = some b → b ∈ (envOf name scope L a cd :: outer).filterMap (·.frame) := fun env he b hb => List.mem_filterMap.mpr ⟨env, he, hb⟩
  have st : base.StaysIn (hideAll h ((envOf name scope L a cd :: outer).filterMap (·.frame))) := fun b o q => hideAll_get _ (K'.stays b o q) fun hm => by
    rw [(K'.frames.mem hm).1] at q; cases q
  have hl : ∀ q ∈ news, (hideAll h ((envOf name scope L a cd :: outer).filterMap (·.frame))).get? q.1 = some q.2 ∧ base.get? q.1 = none := fun q hq => by
    refine ⟨hideAll_get _ (N q hq).1 fun hm => ?_, fresh_of_stays K.stays (N q hq).2.2⟩
    obtain ⟨env, he, hf⟩ := List.mem_filterMap.mp hm
    rcases List.mem_cons.mp he with rfl | he
    · exact (N q hq).2.1 (Option.some.inj hf).symm
    · obtain ⟨o, ho, _⟩ := (K.frames.mem (List.mem_filterMap.mpr ⟨env, he, hf⟩)).2
      rw [(N q hq).2.2] at ho; cases ho
  generalize hB : hideAll h ((envOf name scope L a cd :: outer).filterMap (·.frame)) = B at st hl
  have hff : h.FunFrames B (envOf name scope L a cd :: outer) := hB ▸ funFrames_hide K'.frames hin
  have hkB : B.StaysIn h := fun b o q => of_hideAll _ (hB ▸ q)
  obtain ⟨t, he, htn, ht⟩ := hx.there
  have fresh : ∀ b, h.get? b = none → B.get? b = none := fun b hb => by
    cases hq : B.get? b with
    | none => rfl
    | some o' => have := hkB b o' hq; rw [hb] at this; cases this
  unfold leaving
  refine wpAny_bind (note_firstC (base := B) (a0 := .ref t) K'.stack (hff.of_keeps fun b o hb _ => ⟨o, hx.keeps b o hb, rfl⟩) rfl he (fun b o hb => hx.keeps b o (hkB b o hb)) (fresh e hx.new) rfl rfl rfl rfl fun h' x1 x2 => ?_)
  refine flightC x1 fun h₂ x3 x4 => ?_
  obtain ⟨k1, k2, ⟨_, _, k3⟩, k4⟩ := x3
  exact hQ h₂ t ⟨B, st, hl, k1, k2, k3, k4⟩ (((Heap.UpToSlots.of_keeps F.keep).trans (Heap.UpToSlots.of_keeps hx.keeps)).trans (x2.trans x4))
end
section
variable {prog : Program} {w : World} {A₀ : Around} {E : Value → Shared → Prop} {s' : Shared} {h₀ h : Heap} {outer : List Env} {L a e t : Addr} {m : Str → Option Value} {name : Str} {scope : Scope} {cd : Value} {cl : List (Str × Addr)}
  {b₀ : Stmt} {suite : List Stmt} {pos np : Pos} {rest : List ExceptHandler} {Q : Flow → Shared → Prop} {news : List (Addr × Obj)} {K : Frag}
  {p : Program} {loose : List Str} {mg mb : Str → Option Value} {x : Str} {X T' : String}
theorem flC_base {base B h : Heap} {l : List Env} {e : Addr} {cls a0 fl : Value} (k : base.StaysIn B) (x : FlC B l e cls a0 fl h) : base.StaysIn h ∧ base.get? e = none := ⟨fun b o q => x.1 b o (k b o q), fresh_of_stays k x.2.1⟩
theorem caughtC (K₀ : Below A₀ h₀ outer h₀) (F : Fr h₀ L h m) (hsm : h.UpToSlots s'.heap) (R : RaisedC h₀ (envX name scope L a cd cl :: outer) e (.type X) t news s'.heap)
    (XK : K.In h₀) (T : TopRead p loose mg mb h₀) (hm : nsIn K mainGlobals x = some none) (hv : bootBuiltins x = some (.type T'))
    (hexc : isSubtype (.type T') (.type "BaseException") = pure true) (hnt : isSubtype (.type ((Manifest.find? T').elim "type" fun y => y.metatype)) (.type "tuple") = pure false) (hsub : isSubtype (.type X) (.type T') = pure true)
    (k : ∀ h' oe ws, Fr h₀ L h' m → News h₀ L h' ((e, oe) :: news) → oe.data = .fields ws → ws[2]? = some .none →
      wpAny (model prog w) ((A₀.deeper (envX name scope L a cd cl)).mark (some (.ref e))) (execs (b₀ :: suite) (envX name scope L a cd cl)) Q (fun _ _ => False) { s' with heap := h' })
    (hn : x ≠ "__name__") (hk : scope.kind = .function) (hx : (envX name scope L a cd cl).kindOf x = some .globalImplicit) (hd : (x == ("__debug__" : Str)) = false) :
    wpAny (model prog w) (A₀.deeper (envX name scope L a cd cl)) (noteFrame (.ref e) (envX name scope L a cd cl))
      (fun _ s₂ => wpAny (model prog w) (A₀.deeper (envX name scope L a cd cl)) (setFlight (.ref e) none) (fun _ s₃ =>
        wpAny (model prog w) (A₀.deeper (envX name scope L a cd cl)) (handleBy (.ref e) (envX name scope L a cd cl) (.ExceptHandler (some (.Name x np)) none (b₀ :: suite) pos :: rest)) Q E s₃) E s₂) E s' := by
  obtain ⟨B, hB, hl, hfl⟩ := R
  have hL : B.get? L = none := by
    obtain ⟨_, ⟨L', _, hf, hn', _⟩, _⟩ := hfl.2.2.1
    obtain rfl : L = L' := Option.some.inj hf
    exact hn'
  refine note_onC (Around.frames_deeper K₀.stack) rfl hfl fun h₄ hheld₄ hsm₄ => ?_
  refine flightC hheld₄ fun h₅ hheld hsm₅' => ?_
  have hsm₅ := hsm₄.trans hsm₅'
  have F₅ := F.of_stays (flC_base hB hheld).1 (hsm.trans hsm₅)
  obtain ⟨ob, _, _, _, _, hob, hobc, _⟩ := hheld.2.2.2
  refine wpAny_handleBy_builtin (X := X) (T := T') (b := true) hexc hnt hsub (nameX_B F₅ XK T hm hv hn ⟨rfl, ⟨ob, hob, hobc⟩, ?_⟩ hk hx hd)
  refine flightC hheld fun h₆ hfl₆ hsm₆ => ?_
  have F₆ := F.of_stays (flC_base hB hfl₆).1 ((hsm.trans hsm₅).trans hsm₆)
  obtain ⟨oe, ws, _, _, _, hoe, _, _, h2, hoed, _⟩ := hfl₆.2.2.2
  refine wpAny_mono (k h₆ oe ws F₆ (fun q hq => ?_) hoed h2) (fun _ _ y => y) fun _ _ y => y.elim
  rcases List.mem_cons.mp hq with rfl | hq
  · refine ⟨hoe, fun z => ?_, (flC_base hB hfl₆).2⟩
    obtain ⟨oL, _, _, hLg, hLd, _⟩ := F₆.ns
    have z : e = L := z
    rw [z, hLg] at hoe
    injection hoe with hoe
    rw [hoe, hoed] at hLd; cases hLd
  · exact ⟨hfl₆.1 _ _ (hl q hq).1, (fun z => by have := (hl q hq).1; rw [z, hL] at this; cases this), (hl q hq).2⟩
end
end Mine
end

section
open PySem PySem.W PyProof.Rows PySem.Calls PySem.Spec PyProof.V
set_option Elab.async false
set_option linter.unusedVariables false
namespace Mine
set_option pp.maxSteps 3000
set_option pp.deepTerms false
open PyProof.Rows.LCg
local macro_rules | `(tactic| k_lt $_h:ident) => `(tactic| skip)
local macro_rules | `(tactic| walk_at "g_ne") => `(tactic| first | with_reducible assumption | (refine Ne.symm ?_; with_reducible assumption) | exact Nat.ne_of_gt (by with_reducible assumption) | exact Nat.ne_of_lt (by with_reducible assumption) | (refine' ne_fresh ?l ?h; (case l => with_reducible assumption); (case h => walk_at "g_has")) | (refine' ne_fresh' ?l ?h; (case l => with_reducible assumption); (case h => walk_at "g_has")))
local macro_rules | `(tactic| walk_at "g_has") => `(tactic| first | with_reducible exact Has.of (by with_reducible assumption) | with_reducible exact Has.self | with_reducible exact Has.self_upd | (with_reducible refine Has.cons ?_; walk_at "g_has") | (with_reducible refine Has.upd ?_; walk_at "g_has"))
local macro_rules | `(tactic| k_mem) => `(tactic| first | with_reducible assumption | with_reducible exact mem_upd_self | (with_reducible refine' mem_upd ?h ?n; (case h => k_mem); (case n => walk_at "g_ne")) | with_reducible exact List.mem_cons_self | (with_reducible refine List.mem_cons_of_mem _ ?_; k_mem))
local macro_rules | `(tactic| walk_at "g_val") => `(tactic| first | with_reducible assumption | with_reducible exact valueAt_stored_self _ _ _ | (rw [valueAt_stored_ne (by walk_at "g_ne")]; walk_at "g_val") | rfl)
local macro_rules | `(tactic| walk_at "g_size") => `(tactic| (rw [sizeLine_eq]; first | omega | (refine Nat.le_trans (stored_length_le _ _ _) ?_; omega) | (simp; done)))
local macro_rules | `(tactic| walk_at "compareOp NotIn int ref") => `(tactic| (k_here; k_dflt (first
  | (refine' r_notin_no (knd := PySem.intKind _ _) ?N ?hp ?hd ?lo (intKind_is _ _ _ _) ?hl ?_; (case N => k_asm); (case hp => k_mem); (case hd => with_reducible assumption); (case lo => with_reducible assumption); (case hl => walk_at "g_val"))
  | (refine' r_notin_yes (knd := PySem.intKind _ _) ?N ?hp ?hd ?lo (intKind_is _ _ _ _) ?hl ?_; (case N => k_asm); (case hp => k_mem); (case hd => with_reducible assumption); (case lo => with_reducible assumption); (case hl => walk_at "g_val")))))
local macro_rules | `(tactic| walk_at "compareOp In int ref") => `(tactic| (k_here; k_dflt (first
  | (refine' r_in_no (knd := PySem.intKind _ _) ?N ?hp ?hd ?lo (intKind_is _ _ _ _) ?hl ?_; (case N => k_asm); (case hp => k_mem); (case hd => with_reducible assumption); (case lo => with_reducible assumption); (case hl => walk_at "g_val"))
  | (refine' r_in_yes (knd := PySem.intKind _ _) ?N ?hp ?hd ?lo (intKind_is _ _ _ _) ?hl ?_; (case N => k_asm); (case hp => k_mem); (case hd => with_reducible assumption); (case lo => with_reducible assumption); (case hl => walk_at "g_val")))))
local macro_rules | `(tactic| walk_at "getItem ref int") => `(tactic| (k_here; k_dflt (refine' kdt_getItem (knd := PySem.intKind _ _) ?N ?hp ?hd (intKind_is _ _ _ _) ?hl ?_; (case N => k_asm); (case hp => k_mem); (case hd => with_reducible assumption); (case hl => walk_at "g_val"))))
local macro_rules | `(tactic| walk_at "subscriptTail") => `(tactic| (k_here; (with_reducible show wpAny _ _ (subscriptTail _ _ (Value.ref _) (Value.int _ _)) _ _ _); k_dflt (refine' kdt_tail (knd := PySem.intKind _ _) ?N ?hp ?hd ?_; (case N => k_asm); (case hp => k_mem); (case hd => with_reducible assumption))))
local macro_rules | `(tactic| walk_at "setItem ref int") => `(tactic| (k_here; k_dflt (refine' r_set (knd := PySem.intKind _ _) ?F ?N ?hm ?hd (intKind_is _ _ _ _) ?z ?_; (case F => k_asm); (case N => k_asm); (case hm => k_mem); (case hd => with_reducible assumption); (case z => walk_at "g_size")); intro h' o' F' N' hd'))
local macro_rules | `(tactic| walk_at "call builtin:dict.get") => `(tactic| (k_here; k_dflt (refine' r_get2_no (knd := PySem.intKind _ _) ?N ?hp ?hd ?lo (intKind_is _ _ _ _) ?hl ?_; (case N => k_asm); (case hp => k_mem); (case hd => with_reducible assumption); (case lo => with_reducible assumption); (case hl => walk_at "g_val"))))
local macro_rules | `(tactic| walk_at "call builtin:dict.update") => `(tactic| (k_here; k_dflt (refine' r_update_nil ?F ?N ?hm ?hd ?hm2 ?hd2 ?lo ?ne ?_; (case F => k_asm); (case N => k_asm); (case hm => k_mem); (case hd => with_reducible assumption); (case hm2 => k_mem); (case hd2 => with_reducible assumption); (case lo => with_reducible assumption); (case ne => walk_at "g_ne")); intro h' o' F' N' hd'))
local macro_rules | `(tactic| walk_at "getMethod ref") => `(tactic| (k_here; k_dflt (first
  | ((with_reducible show wpAny _ _ (getMethod (Value.ref _) (Str.ofString "get") _) _ _ _); refine' kdg_method (knd := PySem.intKind _ _) ?N ?hp ?hd ?_; (case N => k_asm); (case hp => k_mem); (case hd => with_reducible assumption))
  | ((with_reducible show wpAny _ _ (getMethod (Value.ref _) (Str.ofString "update") _) _ _ _); refine' kdl_method (knd := PySem.strKind _ _) PySem.F.slot_dict_update PySem.F.type_dict_update ?N ?hp ?hd ?_; (case N => k_asm); (case hp => k_mem); (case hd => with_reducible assumption)))))

local macro_rules | `(tactic| walk_at "call builtin:len") => `(tactic| (k_here; (with_reducible show wpAny _ _ (call (Value.builtin "len") [Value.ref _]) _ _ _); k_dflt (refine' kda_len (knd := PySem.intKind _ _) ?N ?hp ?hd ?lo ?z ?_; (case N => k_asm); (case hp => k_mem); (case hd => with_reducible assumption); (case lo => with_reducible assumption); (case z => omega))))
local macro_rules | `(tactic| walk_at "g_ne") => `(tactic| first | (refine' ne_fresh2 ?l ?l2 ?h; (case l2 => with_reducible assumption); (case l => with_reducible assumption); (case h => walk_at "g_has")) | (refine' ne_fresh2' ?l ?l2 ?h; (case l2 => with_reducible assumption); (case l => with_reducible assumption); (case h => walk_at "g_has")))
local macro_rules | `(tactic| walk_at "g_nth") => `(tactic| first | rfl | with_reducible assumption | (simp; done))
local macro_rules | `(tactic| walk_at "g_len") => `(tactic| first | omega | (simp only [List.length_cons, List.length_append, List.length_nil, refs_length, List.length_reverse, List.length_map]; omega))
local macro_rules | `(tactic| walk_at "subscriptTail") => `(tactic| (k_here; (with_reducible show wpAny _ _ (subscriptTail _ _ (Value.ref _) (Value.int _ _)) _ _ _); k_dflt (first | (refine' r_item ?N ?hm ?h0 ?hf ?hx ?_ ?hs; (case N => k_asm); (case hm => k_mem); (case h0 => first | decide | omega); (case hf => first | decide | omega); (case hx => walk_at "g_nth"); (case hs => with_unfolding_all rfl); k_whole) | (refine' r_back ?N ?hm ?h0 ?h1 ?hf ?hx ?_ ?hs; (case N => k_asm); (case hm => k_mem); (case h0 => decide); (case h1 => walk_at "g_len"); (case hf => decide); (case hx => walk_at "g_nth"); (case hs => with_unfolding_all rfl); k_whole) | (refine' r_tup ?N ?hm ?h0 ?hf ?hj ?hx ?_ ?hs; (case N => k_asm); (case hm => k_mem); (case h0 => decide); (case hf => decide); (case hj => rfl); (case hx => rfl); (case hs => with_unfolding_all rfl); k_whole))))
local macro_rules | `(tactic| walk_at "subscriptTail Name Slice ref ref") => `(tactic| (k_here; k_dflt (refine' r_slice_all ?F ?N ?hm ?z ?_ ?hs ?ht; (case F => k_asm); (case N => k_asm); (case hm => k_mem); (case z => walk_at "g_len"); (case hs => with_unfolding_all rfl); (case ht => intro _; with_unfolding_all rfl)); intro D' h' F' N' l1))
local macro_rules | `(tactic| walk_at "truthy ref") => `(tactic| (k_here; k_dflt (refine' r_truthy ?N ?hm ?z ?_; (case N => k_asm); (case hm => k_mem); (case z => walk_at "g_len")); intro tk'))
local macro_rules | `(tactic| walk_at "getMethod ref") => `(tactic| (k_here; k_dflt (first | ((with_reducible show wpAny _ _ (getMethod (Value.ref _) (Str.ofString "pop") _) _ _ _); refine' r_method ?N ?hm PySem.F.slot_list_pop PySem.F.type_list_pop ?_; (case N => k_asm); (case hm => k_mem)) | ((with_reducible show wpAny _ _ (getMethod (Value.ref _) (Str.ofString "append") _) _ _ _); refine' r_method ?N ?hm PySem.F.slot_list_append PySem.F.type_list_append ?_; (case N => k_asm); (case hm => k_mem)) | ((with_reducible show wpAny _ _ (getMethod (Value.ref _) (Str.ofString "reverse") _) _ _ _); refine' r_method ?N ?hm PySem.F.slot_list_reverse PySem.F.type_list_reverse ?_; (case N => k_asm); (case hm => k_mem)))))
local macro_rules | `(tactic| walk_at "call builtin:list.pop") => `(tactic| (k_here; k_dflt (first | (refine' r_pop0 ?F ?N ?hm ?e ?z ?_; (case F => k_asm); (case N => k_asm); (case hm => k_mem); (case e => first | with_reducible exact rrefs_cons | with_reducible assumption | rfl); (case z => walk_at "g_len")) | (refine' r_pop ?F ?N ?hm ?e ?z ?_; (case F => k_asm); (case N => k_asm); (case hm => k_mem); (case e => with_reducible assumption); (case z => walk_at "g_len"))); intro h' F' N'))
local macro_rules | `(tactic| walk_at "call builtin:list.append") => `(tactic| (k_here; k_dflt (refine' r_append ?F ?N ?hm ?z ?_; (case F => k_asm); (case N => k_asm); (case hm => k_mem); (case z => walk_at "g_len")); intro h' F' N'))
local macro_rules | `(tactic| walk_at "call builtin:list.reverse") => `(tactic| (k_here; k_dflt (refine' r_reverse ?F ?N ?hm ?z ?_; (case F => k_asm); (case N => k_asm); (case hm => k_mem); (case z => walk_at "g_len")); intro h' F' N'))
local macro_rules | `(tactic| walk_at "call builtin:len") => `(tactic| (k_here; (with_reducible show wpAny _ _ (call (Value.builtin "len") [Value.ref _]) _ _ _); k_dflt (refine' r_len ?N ?hm ?z ?_; (case N => k_asm); (case hm => k_mem); (case z => walk_at "g_len"))))
local macro_rules | `(tactic| walk_at "setAttr ref") => `(tactic| (k_here; k_dflt (refine' r_setattr ?F ?X ?N ?hx ?hd ?k4 ?k5 ?k6 ?k7 ?k8 ?k9 ?kz ?_; (case F => k_asm); (case X => k_asm); (case N => k_asm); (case hx => k_mem); (case hd => k_mem); (case k4 => k_is); (case k5 => k_is); (case k6 => k_is); (case k7 => k_is); (case k8 => k_get); (case k9 => k_put); (case kz => exact Nat.le_of_ble_eq_true rfl); k_whole); intro h' F' N'))
local macro_rules | `(tactic| walk_at "call builtin:dict.pop") => `(tactic| (k_here; k_dflt (refine' r_dpop ?N ?hm ?hd ?lo ?_; (case N => k_asm); (case hm => k_mem); (case hd => with_reducible assumption); (case lo => with_reducible assumption))))
local macro_rules | `(tactic| walk_at "exec For Name Name cons nil") => `(tactic| (k_here; (rename Fr _ _ _ _ => lF'); (with_unfolding_all refine' For_invVF lF' ?k1 ?k2 ?_; (case k1 => exact rfl); (case k2 => exact rfl); k_whole)))
local macro_rules | `(tactic| walk_at "pyIter ref") => `(tactic| ((with_reducible show wpAny _ _ (pyIter (Value.ref _)) (fun it s₂ => LoopAtV _ _ _ _ _ _ _ _ _ it s₂) _ _); k_dflt (refine' for_none ?hh ?F ?N ?hm ?hi ?e ?_; (case hh => rfl); (case F => k_asm); (case N => k_asm); (case hm => k_mem); (case hi => with_reducible assumption); (case e => rfl)); intro h' tk' F' N'))

local macro_rules | `(tactic| walk_at "exec Assign cons ListComp") => `(tactic| (k_here; k_dflt (refine' cg_assign ?F0 ?k1 ?k2 ?k3 ?k4 ?k5 ?k6 ?k7 ?k8 ?_; (case F0 => k_asm); (case k1 => exact rfl); (case k2 => with_unfolding_all rfl); (case k3 => with_unfolding_all rfl); (case k4 => decide); (case k5 => rfl); (case k6 => decide); (case k7 => rfl); (case k8 => rfl))))
local macro_rules | `(tactic| walk_at "call type:enumerate") => `(tactic| (k_dflt (refine' enum_src ?hh ?F ?N ?hm ?hi ?hz ?e1 ?e2 ?e3 ?e4 ?e5 ?e6 ?_; (case hh => rfl); (case F => k_asm); (case N => k_asm); (case hm => k_mem); (case hi => with_reducible assumption); (case hz => omega); (case e1 => rfl); (case e2 => rfl); (case e3 => rfl); (case e4 => decide); (case e5 => decide); (case e6 => decide)); intro D' h' tk' rs' F' N' e' l1' l2'))
local macro_rules | `(tactic| walk_at "pyIter ref") => `(tactic| ((with_reducible show wpAny _ _ (pyIter (Value.ref _)) (CgSrc _ _ _ _ _ _ _ _ _ _ _ _ _) _ _); k_dflt (refine' dict_src ?hh ?F ?N ?hv ?hm ?hd ?hk ?hi ?hz ?e1 ?e2 ?e3 ?e4 ?e5 ?e6 ?_; (case hh => rfl); (case F => k_asm); (case N => k_asm); (case hv => with_reducible assumption); (case hm => k_mem); (case hd => with_reducible assumption); (case hk => with_reducible assumption); (case hi => with_reducible assumption); (case hz => omega); (case e1 => rfl); (case e2 => rfl); (case e3 => rfl); (case e4 => decide); (case e5 => decide); (case e6 => decide)); intro D' h' tk' rs' F' N' e' l1' l2'))
local macro_rules | `(tactic| walk_at "call builtin:dict.items") => `(tactic| (k_here; k_dflt (refine' kta_callItems (knd := PySem.intKind _ _) ?F ?N ?hm ?hd ?lo ?_; (case F => k_asm); (case N => k_asm); (case hm => k_mem); (case hd => with_reducible assumption); (case lo => with_reducible assumption)); intro h' hv' F' N'))
local macro_rules | `(tactic| walk_at "getMethod ref") => `(tactic| ((with_reducible show wpAny _ _ (getMethod (Value.ref _) (Str.ofString "items") _) _ _ _); k_here; k_dflt (refine' kdl_method (knd := PySem.intKind _ _) PySem.F.slot_dict_items PySem.F.type_dict_items ?N ?hm ?hd ?_; (case N => k_asm); (case hm => k_mem); (case hd => with_reducible assumption))))
local macro_rules | `(tactic| walk_at "call builtin:isinstance") => `(tactic| (k_here; k_dflt (refine' r_isdict ?N ?hm ?hd ?_; (case N => k_asm); (case hm => k_mem); (case hd => with_reducible assumption))))
local macro_rules | `(tactic| walk_at "truthy ref") => `(tactic| (k_here; k_dflt (first | (refine' r_truthy_cons ?N ?hm ?e ?z ?_; (case N => k_asm); (case hm => k_mem); (case e => with_reducible exact rrefs_cons); (case z => walk_at "g_len")) | (refine' r_truthy_nil ?N ?hm ?e ?_; (case N => k_asm); (case hm => k_mem); (case e => rfl))); intro tk'))
local macro_rules | `(tactic| walk_at "g_len") => `(tactic| first | omega | (simp only [List.length_cons, List.length_append, List.length_nil, refs_length, rrefs_length, List.length_reverse, List.length_map]; omega))
local macro_rules | `(tactic| walk_at "call builtin:list.reverse") => `(tactic| (k_here; k_dflt (refine' r_reverse_refs ?F ?N ?hm ?z ?_; (case F => k_asm); (case N => k_asm); (case hm => k_mem); (case z => walk_at "g_len")); intro h' F' N'))
local macro_rules | `(tactic| walk_at "eval ListComp") => `(tactic| (k_here; k_dflt (refine' cg_comp ?F0 ?k3 ?k4 ?k5 ?k6 ?_; (case F0 => k_asm); (case k3 => with_unfolding_all rfl); (case k4 => decide); (case k5 => rfl); (case k6 => decide))))
local macro_rules | `(tactic| walk_at "pyIter ref") => `(tactic| ((with_reducible show wpAny _ _ (pyIter (Value.ref _)) (CgSrc _ _ _ _ _ _ _ _ (Expr.Name _ _) _ _ _ _) _ _); k_dflt (refine' second_src ?hh ?F ?N ?hm ?hz ?ht ?e1 ?e2 ?e3 ?_; (case hh => rfl); (case F => k_asm); (case N => k_asm); (case hm => k_mem); (case ht => with_reducible assumption); (case hz => walk_at "g_len"); (case e1 => rfl); (case e2 => rfl); (case e3 => decide)); intro D' h' tk' F' N' l1'))
local macro_rules | `(tactic| walk_at "call builtin:list.sort") => `(tactic| refine stop_here ?_)
local macro_rules | `(tactic| walk_at "exec While Name cons nil") => `(tactic| refine stop_here ?_)
local macro_rules | `(tactic| walk_at "g_nth") => `(tactic| first | with_reducible exact rrefs_last | with_reducible exact rrefs_first)


local macro_rules | `(tactic| walk_at "eval Name") => `(tactic| (k_here; (with_reducible show wpAny _ _ (eval (Expr.Name _ _) (compEnvC _ _ _ _)) _ _ _); k_dflt (first
  | (refine' ce_local ?hns ?hv ?_ ?hk ?hx ?hd; (case hk => rfl); (case hx => rfl); (case hd => decide); (case hns => with_reducible assumption); (case hv => with_reducible assumption))
  | (refine' ce_cell ?N ?hc ?hm ?hd ?_ ?hk ?hx ?hb; (case hk => rfl); (case hx => rfl); (case hb => decide); (case N => k_asm); (case hc => rfl); (case hm => k_mem); (case hd => k_asm))
  | (refine' ce_builtin ?F ?X ?T ?hg ?hbi ?e ?hv ?hn ?_ ?hk ?hx ?hd; (case hk => rfl); (case hx => rfl); (case hd => decide); (case F => k_asm); (case X => k_asm); (case T => k_asm); (case hg => rfl); (case hbi => rfl); (case e => k_is); (case hv => boot_fast); (case hn => decide)))))
local macro_rules | `(tactic| walk_at "pyIter ref") => `(tactic| ((with_reducible show wpAny _ _ (pyIter (Value.ref _)) (CgSrc _ _ _ _ _ _ _ _ _ _ _ _ _) _ _); refine stop_here ?_))
local macro_rules | `(tactic| walk_at "call type:range") => `(tactic| ((rename Fr _ _ _ _ => F'); (rename News _ _ _ _ => N'); (with_unfolding_all refine range1_rows F' N' ?_; intro _ _ _ _ _ _ _ _ _)))

local macro_rules | `(tactic| walk_at "call ref") => `(tactic| (k_here; (with_reducible show wpAny _ _ (call (Value.ref 671) _) _ _ _); refine stop_here ?_))
local macro_rules | `(tactic| walk_at "exec Assign cons ListComp") => `(tactic| ((with_reducible show wpAny _ _ (exec (Stmt.Assign [Expr.Name (Str.ofString "weights") _] _ _) _) _ _ _); refine stop_here ?_))
local macro_rules | `(tactic| walk_at "storeName") => `(tactic| (k_here; k_dflt (refine' r_storeC ?F ?N ?hc ?hm ?hd ?_ ?hk ?hx; (case hk => rfl); (case hx => rfl); (case F => k_asm); (case N => k_asm); (case hc => rfl); (case hm => k_mem); (case hd => with_reducible assumption)); intro h' o' F' N' hd'))

local macro_rules | `(tactic| walk_at "exec Assign") => `(tactic| ((with_reducible show wpAny _ _ (exec (Stmt.Assign [Expr.Name (Str.ofString "names") _] _ _) _) _ _ _); refine stop_here ?_))
local macro_rules | `(tactic| walk_at "exec Assign") => `(tactic| ((with_reducible show wpAny _ _ (exec (Stmt.Assign [Expr.Name (Str.ofString "handed") _] _ _) _) _ _ _); refine stop_here ?_))
local macro_rules | `(tactic| walk_at "eval DictComp") => `(tactic| (k_here; k_dflt (refine' dc_comp ?F0 ?hb ?k3 ?k4 ?k5 ?k6 ?k7 ?_; (case F0 => k_asm); (case hb => exact Top.nolimit (by with_reducible assumption)); (case k3 => with_unfolding_all rfl); (case k4 => decide); (case k5 => rfl); (case k6 => decide); (case k7 => rfl))))
local macro_rules | `(tactic| walk_at "pyIter ref") => `(tactic| ((with_reducible show wpAny _ _ (pyIter (Value.ref _)) (DcSrc _ _ _ _ _ _ _ _ _ _ _ _ _) _ _); refine stop_here ?_))
local macro_rules | `(tactic| walk_at "call type:list") => `(tactic| (k_here; (with_reducible show wpAny _ _ (call (Value.type _) [Value.ref _]) _ _ _); k_dflt (refine' r_lcopy ?F ?N ?hm ?hz ?_; (case F => k_asm); (case N => k_asm); (case hm => k_mem); (case hz => omega)); intro D' c' h' F' N' l1'))
local macro_rules | `(tactic| walk_at "call ref") => `(tactic| (k_here; (with_reducible show wpAny _ _ (call (Value.ref 683) _ _) _ _ _); refine stop_here ?_))
local macro_rules | `(tactic| walk_at "call ref") => `(tactic| (k_here; (with_reducible show wpAny _ _ (call (Value.ref 678) _ _) _ _ _); refine stop_here ?_))
local macro_rules | `(tactic| walk_at "compareOp NotEq ref ref") => `(tactic| (k_here; (with_reducible show wpAny _ _ (compareOp CmpOp.NotEq (Value.ref _) (Value.ref _)) _ _ _); refine stop_here ?_))
local macro_rules | `(tactic| walk_at "compareOp Eq ref ref") => `(tactic| (k_here; (with_reducible show wpAny _ _ (compareOp CmpOp.Eq (Value.ref _) (Value.ref _)) _ _ _); refine stop_here ?_))
local macro_rules | `(tactic| walk_at "pyIter ref") => `(tactic| ((with_reducible show wpAny _ _ (pyIter (Value.ref _)) (CgSrc _ _ _ _ _ _ _ _ (Expr.Tuple _ _ _) _ _ _ _) _ _); k_dflt (refine' pairN_src (g := fun e => Value.str (letter e.d) e.td) ?hh ?F ?N ?hm ?hz ?ht ?e1 ?e2 ?e3 ?e4 ?e5 (.inr ⟨rfl, rfl⟩) ?_; (case hh => rfl); (case F => k_asm); (case N => k_asm); (case hm => k_mem); (case ht => with_reducible assumption); (case hz => omega); (case e1 => rfl); (case e2 => rfl); (case e3 => rfl); (case e4 => decide); (case e5 => decide)); intro D' h' tk' F' N' l1'))
local macro_rules | `(tactic| walk_at "call ref") => `(tactic| (k_here; (with_reducible show wpAny _ _ (call (Value.ref 658) _ _) _ _ _); (fail_if_success (have hns9 : NoStop := by with_reducible assumption)); refine stop_here ?_))
local macro_rules | `(tactic| walk_at "leaving ref") => `(tactic| (k_here; (refine' leave_madeC ?k1 (Heap.MadeExc.of (by assumption)) ?k2 ?k3 ?_; (case k1 => assumption); (case k2 => assumption); (case k3 => k_asm); k_whole; intro h' t' R' U'; (try dsimp only at R' U' ⊢))))
local macro_rules | `(tactic| walk_at "noteFrame ref") => `(tactic| refine stop_here ?_)

set_option maxRecDepth 100000 in
set_option maxHeartbeats 4000000 in
theorem law_ok : Challenge.rw_aq6051_01.Holds := by
  refine hd ?_
  k_go0
  rename_i w s0 s1 mg mb G Y fa ob pm doc ho hg KX XX V GL T B TE TW wa wb M wc wd hcd ns hs hlay0 hLL hr1 hl2 wl1 wl2 sl vs wl3 hL0 ra w1 r0 hI0 hr2 hlen0 hct K0 hD h1 tk1 F0 o4 o3 o2 o1 d4 d3 d2 d1 N0 X00
  clear hcd hD B TE TW GL V M XX hct
  replace K0 : Below callerA s1.heap [] s1.heap := K0
  clear X00
  replace d1 : _ = Data.cell none := d1
  replace d2 : _ = Data.cell none := d2
  replace d3 : _ = Data.cell none := d3
  replace d4 : _ = Data.cell none := d4
  replace F0 : Fr _ _ h1 (fun y => if y = Str.ofString "script" then some (.ref _) else none) := F0
  k_steps
  refine ⟨?_⟩
  refine' lnum ?B ?F ?X ?N ?T ?hS ?hI ?hz ?_
  (case B => exact K0)
  (case F => k_asm)
  (case X => k_asm)
  (case N => k_asm)
  (case T => with_reducible assumption)
  (case hS => exact hL0)
  (case hI => exact hI0)
  (case hz => omega)
  intro h9 tk9 D9 us news9 F9 N9 hD9 hi9 hk9
  have m1 := hk9 _ _ (show (_, o1) ∈ _ from by k_mem)
  have m2 := hk9 _ _ (show (_, o2) ∈ _ from by k_mem)
  have m3 := hk9 _ _ (show (_, o3) ∈ _ from by k_mem)
  have m4 := hk9 _ _ (show (_, o4) ∈ _ from by k_mem)
  clear N0 F0 hk9
  generalize hnf : (fun k => List.getD ns (k % List.length ns) (0 : Int)) = nf at hi9
  obtain ⟨t0, e0⟩ := us_at hi9 (i := 0) (j := 0) (by omega) rfl
  obtain ⟨t1, e1⟩ := us_at hi9 (i := 1) (j := 1) (by omega) rfl
  obtain ⟨t2, e2⟩ := us_at hi9 (i := 2) (j := 2) (by omega) rfl
  obtain ⟨t3, e3⟩ := us_at hi9 (i := 3) (j := 3) (by omega) rfl
  obtain ⟨n12, n13, n14, n23, n24, n34⟩ := nes m1 m2 m3 m4
  have nD1 := ne_cell N9 hD9 m1 d1
  have nD2 := ne_cell N9 hD9 m2 d2
  have nD3 := ne_cell N9 hD9 m3 d3
  have nD4 := ne_cell N9 hD9 m4 d4
  k_steps
  refine ⟨?_⟩
  rename_i hA p1 b1 tkA Ta hB lT hC hD' hE hF p2 b2 hG F7 N7
  obtain ⟨nw2, N8, q1, q2, q3, q4, qD⟩ : ∃ nw, News s1.heap s1.heap.objs.size hG nw ∧ (s1.heap.objs.size + 1, p1) ∈ nw ∧ (s1.heap.objs.size + 1 + 1, p2) ∈ nw ∧ (s1.heap.objs.size + 1 + 1 + 1, o3) ∈ nw ∧ (s1.heap.objs.size + 1 + 1 + 1 + 1, o4) ∈ nw ∧ (D9, lst us) ∈ nw := ⟨_, N7, by k_mem, by k_mem, by k_mem, by k_mem, by k_mem⟩
  obtain ⟨sz, hsz, hs2, hs7⟩ := sz_of (nf 0)
  obtain ⟨fm, hfm⟩ := fm_of (nf 1)
  obtain ⟨tsz, tfo, tli, F8⟩ : ∃ a b c, Fr s1.heap s1.heap.objs.size hG (fun y => if y = Str.ofString "limit" then some (.int (2 * ((nf 2).fmod 9 - 4) + 1 + 2 * (2 * nf 3)) c) else if y = Str.ofString "form" then some (.int ((nf 1).fmod 2) b) else if y = Str.ofString "size" then some (.int (2 + (nf 0).fmod 6) a) else if y = Str.ofString "script" then some (.ref sl) else none) := ⟨_, _, _, F7⟩
  rw [hsz, hfm] at F8
  generalize hlim : 2 * ((nf 2).fmod 9 - 4) + 1 + 2 * (2 * nf 3) = lim at F8
  generalize hlift : 2 * nf 3 = lift at b2
  generalize hwf : (fun k : Nat => 2 * ((nf (4 + k)).fmod 11 - 5) + lift) = wf
  clear N7 F7 lT e0 e1 e2 e3 m1 m2 m3 m4 hD9 d1 d2
  refine any_toks rfl ?_
  intro tk8
  refine' wpAny_Assign_Name ?_ (by with_unfolding_all rfl)
  k_steps
  refine ⟨?_⟩
  refine' range_src (n := sz) (fun i y => ∃ t, y = Value.int (wf i) t) ?hh ?F ?N ?hr ?hb ?hz ?hkind ?hxa ?helt ?fin
  (case hh => rfl)
  (case F => k_asm)
  (case N => k_asm)
  (case hr => with_reducible assumption)
  (case hb => rfl)
  (case hz => omega)
  (case hkind => rfl)
  (case hxa => rfl)
  (case helt =>
    intro i tk C s' m' Q' E' hi hm hns F9 N9 hq
    obtain ⟨t9, e9⟩ := us_at hi9 (i := 4 + i) (j := 4 + (i : Int)) (by omega) (by omega)
    k_steps
    exact hq _ _ ⟨_, by rw [← hwf]⟩)
  (case fin =>
    intro Dw h' tk wv F9 N9 l9 hlw hRw
    have hiw := ints_of_R hlw hRw
    k_steps
    refine ⟨?_⟩
    rename Fr _ _ _ _ => F10
    rename News _ _ _ _ => N10
    rename _ = Data.cell (some (Value.ref Dw)) => b3
    obtain ⟨p3, nw3, N11, b3, u1, u2, u3, u4, uD, uW⟩ : ∃ p3 nw, News s1.heap s1.heap.objs.size _ nw ∧ p3.data = Data.cell (some (Value.ref Dw)) ∧ (s1.heap.objs.size + 1, p1) ∈ nw ∧ (s1.heap.objs.size + 1 + 1, p2) ∈ nw ∧ (s1.heap.objs.size + 1 + 1 + 1, p3) ∈ nw ∧ (s1.heap.objs.size + 1 + 1 + 1 + 1, o4) ∈ nw ∧ (D9, lst us) ∈ nw ∧ (Dw, lst wv) ∈ nw := ⟨_, _, N10, b3, by k_mem, by k_mem, by k_mem, by k_mem, by k_mem, by k_mem⟩
    clear N10 q1 q2 q3 q4 qD l9
    have nW4 := ne_cell N11 uW u4 d4
    refine any_toks rfl ?_
    intro tk10
    generalize hkf : (fun k : Nat => 8 * nf (11 + k) + (k : Int)) = kf
    obtain ⟨ks, hks⟩ : ∃ ks : List Int, ks = if fm then (List.range sz).map kf else (List.range sz).map (fun i : Nat => (i : Int)) := ⟨_, rfl⟩
    refine' names_join (s1.heap.objs.size + 1 + 1 + 1 + 1) ks F10 N11 ?first ?rest
    (case first =>
      refine' wpAny_Assign_Name ?_ (by with_unfolding_all rfl)
      cases fm with
      | true =>
        simp only [if_true] at F10 hks
        k_steps
        refine ⟨?_⟩
        refine' range_src (n := sz) (fun i y => ∃ t, y = Value.int (kf i) t) ?hh ?F ?N ?hr ?hb ?hz ?hkind ?hxa ?helt ?fin
        (case hh => rfl)
        (case F => k_asm)
        (case N => k_asm)
        (case hr => with_reducible assumption)
        (case hb => rfl)
        (case hz => omega)
        (case hkind => rfl)
        (case hxa => rfl)
        (case helt =>
          intro i tk C s' m' Q' E' hi hm hns F9 N9 hq
          obtain ⟨t9, e9⟩ := us_at hi9 (i := 11 + i) (j := 11 + (i : Int)) (by omega) (by omega)
          k_steps
          exact hq _ _ ⟨_, by rw [← hkf]⟩)
        (case fin =>
          intro Dn h' tk nv F9 N9 l9 hln hRn
          have hin := ints_of_R hln hRn
          rw [← hks] at hin
          k_steps
          · trivial
          exact ⟨_, _, Dn, nv, _, _, _, rfl, by k_asm, by k_asm, (fun a' o' hm' hne => by k_mem), by k_mem, by with_reducible assumption, by k_mem, hin⟩)
      | false =>
        simp only [Bool.false_eq_true, if_false] at F10 hks
        k_steps
        · trivial
        rename IntsAre _ (rangeKs _ _) => hin
        rw [rangeKs_eq, ← hks] at hin
        exact ⟨_, _, _, _, _, _, _, rfl, by k_asm, by k_asm, (fun a' o' hm' hne => by k_mem), by k_mem, by with_reducible assumption, by k_mem, hin⟩)
    (case rest =>
      intro h12 tk12 Dn nv cn4 p4 nw4 F12 N12 k12 v4 b4 vn hin
      have v1 := k12 _ _ u1 n14
      have v2 := k12 _ _ u2 n24
      have v3 := k12 _ _ u3 n34
      have vW := k12 _ _ uW nW4
      clear N11 u1 u2 u3 u4 uD uW k12
      k_steps
      refine ⟨?_⟩
      obtain ⟨ws, hws⟩ : ∃ ws : List Int, (List.range sz).map wf = ws := ⟨_, rfl⟩
      have hiw2 := hiw
      rw [hws] at hiw2
      refine' hand_join (w := w) fm (Str.ofString "handed") ks ws F12 N12 ?first ?rest
      (case first =>
        refine' wpAny_Assign_Name ?_ (by with_unfolding_all rfl)
        cases fm with
        | true =>
          simp only [if_true] at F12 hks
          k_steps
          refine ⟨?_⟩
          have hin2 := hin
          rw [hks] at hin2
          refine' dc_src (n := sz) kf wf ?hh ?F ?N ?hr ?hb ?hz ?hinj ?hkey ?hval ?fin
          (case hh => rfl)
          (case F => k_asm)
          (case N => k_asm)
          (case hr => with_reducible assumption)
          (case hb => rfl)
          (case hz => omega)
          (case hinj =>
            intro i j hi hj h
            rw [← hkf] at h
            simp only at h
            omega)
          (case hkey =>
            intro i tk C s' m' Q' E' hi hm hns F9 N9 hq
            obtain ⟨t9, e9⟩ := us_at hin2 (i := i) (j := (i : Int)) (by omega) (by omega)
            k_steps
            exact hq _ _)
          (case hval =>
            intro i tk C s' m' Q' E' hi hm hns F9 N9 hq
            obtain ⟨t9, e9⟩ := us_at hiw (i := i) (j := (i : Int)) (by omega) (by omega)
            k_steps
            exact hq _ _)
          (case fin =>
            intro H h' tk od kvs F9 N9 l9 lo hdo hk1 hv1
            rw [← hks] at hk1
            rw [hws] at hv1
            k_steps
            · trivial
            exact ⟨_, _, H, _, rfl, by k_asm, by k_asm, (fun a' o' hm' => by k_mem), od, kvs, by k_mem, hdo, lo, hk1, hv1⟩)
        | false =>
          simp only [Bool.false_eq_true, if_false] at F12 hks
          have hwl := hiw.length
          k_steps
          · trivial
          exact ⟨_, _, _, _, rfl, by k_asm, by k_asm, (fun a' o' hm' => by k_mem), _, _, List.mem_cons_self, hiw2⟩)
      (case rest =>
        intro h13 tk13 H nw5 F13 N13 k13 HI
        have x1 := k13 _ _ v1
        have x2 := k13 _ _ v2
        have x3 := k13 _ _ v3
        have x4 := k13 _ _ v4
        have xW := k13 _ _ vW
        have xn := k13 _ _ vn
        clear N12 v1 v2 v3 v4 vW vn k13
        have hkl : ks.length = ws.length := by
          rw [hks, ← hws]; split <;> simp
        have hwsl : ws.length = sz := by rw [← hws]; simp
        have hkr : fm = false → ks = (List.range ws.length).map (fun i : Nat => (i : Int)) := by
          rintro rfl
          rw [hks, hwsl]; rfl
        have hknd : ks.Nodup := by
          rw [hks]
          split
          · refine range_nodup fun i j hi hj h => ?_
            rw [← hkf] at h
            simp only at h
            omega
          · exact range_nodup fun i j hi hj h => by
              have h : (i : Int) = (j : Int) := h
              omega
        have heven : ∀ a ∈ ws, a % 2 = 0 := by
          intro a ha
          rw [← hws] at ha
          obtain ⟨k, hk, rfl⟩ := List.mem_map.mp ha
          rw [← hwf]
          show (2 * ((nf (4 + k)).fmod 11 - 5) + lift) % 2 = 0
          omega
        have hzl : (ks.zip ws).length = sz := by rw [List.length_zip, hkl, hwsl, Nat.min_self]
        have hzf := zip_fst hkl
        k_steps
        refine ⟨?_⟩
        refine any_toks rfl ?_
        intro tk14
        refine' wt_l (ps := ks.zip ws) ?B ?F ?X ?N ?T (HI.win hkl hkr) ?h2 ?h9 ?hnd ?_
        (case B => exact K0)
        (case F => k_asm)
        (case X => k_asm)
        (case N => k_asm)
        (case T => with_reducible assumption)
        (case h2 => omega)
        (case h9 => omega)
        (case hnd => (rw [hzf]; exact hknd))
        intro h15 tk15 C1 cc1 es nw6 F15 N15 hC1 hes htp k15
        have x1 := k15 _ _ x1
        have x2 := k15 _ _ x2
        have x3 := k15 _ _ x3
        have x4 := k15 _ _ x4
        have xW := k15 _ _ xW
        have xn := k15 _ _ xn
        have HI := HI.mono k15
        clear k15 N13
        obtain ⟨⟨e0, ts, hee, hd0⟩, hpm, hel, hed⟩ := told_facts hkl (by omega) hknd hes (fun a ha b hb h => by
          have h1 := heven a ha
          have h2 := heven b hb
          omega)
        subst hee
        k_steps
        refine ⟨?_⟩
        refine' ltells (e0 := e0) (ts := ts) (ks := ks) (ws := ws) ?B ?F ?X ?N ?T ?hr ?h0 ?ht ?hz ?hnm hin ?hwt hiw2 hpm hknd hkl.symm hd0 hed ?_
        (case B => exact K0)
        (case F => k_asm)
        (case X => k_asm)
        (case N => k_asm)
        (case T => with_reducible assumption)
        (case hr => k_mem)
        (case h0 => exact htp e0 List.mem_cons_self)
        (case ht => exact htp)
        (case hz => (rw [hel]; omega))
        (case hnm => k_mem)
        (case hwt => k_mem)
        intro h16 tk16 nw7 F16 N16 k16
        have x1 := k16 _ _ x1
        have x2 := k16 _ _ x2
        have x3 := k16 _ _ x3
        have x4 := k16 _ _ x4
        have xW := k16 _ _ xW
        have xn := k16 _ _ xn
        have HI := HI.mono k16
        have htp := fun e he => k16 _ _ (htp e he)
        have hC1 := k16 _ _ hC1
        have hel9 : (e0 :: ts).length ≤ 9 := by omega
        clear k16
        k_steps
        refine ⟨?_⟩
        refine any_toks rfl ?_
        intro tk17
        refine' wt_p (ps := ks.zip ws) ?B ?F ?X ?N ?T ?W ?h2 ?h9 ?hnd ?_
        (case B => exact K0)
        (case F => k_asm)
        (case X => k_asm)
        (case N => k_asm)
        (case T => with_reducible assumption)
        (case W => exact (HI.mono (fun a' o' hm' => by k_mem)).win hkl hkr)
        (case h2 => omega)
        (case h9 => omega)
        (case hnd => (rw [hzf]; exact hknd))
        intro h18 tk18 D2 es2 nw8 F18 N18 hD2 hes2 k18
        have hDl := k18 _ _ List.mem_cons_self
        have x1 := k18 _ _ (List.mem_cons_of_mem _ x1)
        have x2 := k18 _ _ (List.mem_cons_of_mem _ x2)
        have x3 := k18 _ _ (List.mem_cons_of_mem _ x3)
        have x4 := k18 _ _ (List.mem_cons_of_mem _ x4)
        have xW := k18 _ _ (List.mem_cons_of_mem _ xW)
        have xn := k18 _ _ (List.mem_cons_of_mem _ xn)
        have HI := HI.mono (fun a' o' hm' => k18 a' o' (List.mem_cons_of_mem _ hm'))
        clear k18
        have hdd := evals_d' (hes2.trans hes.symm)
        k_steps --M1
        refine ⟨?_⟩ --M2
        refine' r_ne_lists ?hu ?N ?h1 ?h2 ?hl ?he ?_
        (case hu => exact Nat.le_of_ble_eq_true rfl)
        (case N => k_asm)
        (case h1 => exact hD2)
        (case h2 => exact hDl)
        (case hl => (have := congrArg List.length hdd; simpa using this))
        (case he => exact eqAt_letters hdd)
        k_steps
        refine ⟨?_⟩
        refine any_toks rfl ?_
        intro tk19
        refine' wt_c (ps := ks.zip ws) ?B ?F ?X ?N ?T ?W ?h2 ?h9 ?hnd ?_
        (case B => exact K0)
        (case F => k_asm)
        (case X => k_asm)
        (case N => k_asm)
        (case T => with_reducible assumption)
        (case W => exact (HI.mono (fun a' o' hm' => by k_mem)).win hkl hkr)
        (case h2 => omega)
        (case h9 => omega)
        (case hnd => (rw [hzf]; exact hknd))
        intro h20 tk20 D3 cd3 vs3 nw9 F20 N20 hD3 hi3 k20
        have hDl := k20 _ _ hDl
        have x1 := k20 _ _ x1
        have x2 := k20 _ _ x2
        have x3 := k20 _ _ x3
        have x4 := k20 _ _ x4
        have xW := k20 _ _ xW
        have xn := k20 _ _ xn
        have HI := HI.mono k20
        clear k20
        k_steps
        refine ⟨?_⟩
        refine' lruns (es := e0 :: ts) ?B ?F ?X ?N ?T ?hr hel9 ?_
        (case B => exact K0)
        (case F => k_asm)
        (case X => k_asm)
        (case N => k_asm)
        (case T => with_reducible assumption)
        (case hr => exact hDl)
        intro h21 tk21 D4 cd4 vs4 nw10 F21 N21 hD4 hi4 k21
        have hDl := k21 _ _ hDl
        have hD3 := k21 _ _ hD3
        have x1 := k21 _ _ x1
        have x2 := k21 _ _ x2
        have x3 := k21 _ _ x3
        have x4 := k21 _ _ x4
        have xW := k21 _ _ xW
        have xn := k21 _ _ xn
        have HI := HI.mono k21
        clear k21
        rw [← hes, evals_d, List.length_map] at hi3
        k_steps
        refine ⟨?_⟩
        refine' r_ne_lists (v1 := vs3.toList) (v2 := vs4.toList) ?hu ?N hD3 hD4 ?hl ?he ?_
        (case hu => exact Nat.le_of_ble_eq_true rfl)
        (case N => k_asm)
        (case hl => rw [hi3.length, hi4.length])
        (case he => exact eqAt_ints hi3 hi4)
        k_steps
        refine ⟨?_⟩
        refine any_toks rfl ?_
        intro tk22
        refine' wt_d (ps := ks.zip ws) ?B ?F ?X ?N ?T ?W ?h2 ?h9 ?hnd ?_
        (case B => exact K0)
        (case F => k_asm)
        (case X => k_asm)
        (case N => k_asm)
        (case T => with_reducible assumption)
        (case W => exact (HI.mono (fun a' o' hm' => by k_mem)).win hkl hkr)
        (case h2 => omega)
        (case h9 => omega)
        (case hnd => (rw [hzf]; exact hknd))
        intro h23 tk23 C5 cc5 es5 nw11 F23 N23 hC5 hes5 htp5 k23
        have x1 := k23 _ _ x1
        have x2 := k23 _ _ x2
        have x3 := k23 _ _ x3
        have x4 := k23 _ _ x4
        have xW := k23 _ _ xW
        have xn := k23 _ _ xn
        have HI := HI.mono k23
        clear k23
        obtain ⟨⟨f0, fs, hff, hf0⟩, hpm5, hel5, hed5⟩ := told_facts hkl (by omega) hknd hes5 (fun a ha b hb h => by
          have h1 := heven a ha
          have h2 := heven b hb
          omega)
        subst hff
        k_steps
        refine ⟨?_⟩
        refine' ltells (e0 := f0) (ts := fs) (ks := ks) (ws := ws) ?B ?F ?X ?N ?T ?hr ?h0 ?ht ?hz ?hnm hin ?hwt hiw2 hpm5 hknd hkl.symm hf0 hed5 ?_
        (case B => exact K0)
        (case F => k_asm)
        (case X => k_asm)
        (case N => k_asm)
        (case T => with_reducible assumption)
        (case hr => k_mem)
        (case h0 => exact htp5 f0 List.mem_cons_self)
        (case ht => exact htp5)
        (case hz => (rw [hel5]; omega))
        (case hnm => k_mem)
        (case hwt => k_mem)
        intro h24 tk24 nw12 F24 N24 k24
        have x1 := k24 _ _ x1
        have x2 := k24 _ _ x2
        have x3 := k24 _ _ x3
        have x4 := k24 _ _ x4
        have xW := k24 _ _ xW
        have xn := k24 _ _ xn
        have HI := HI.mono k24
        clear k24
        have hns : NoStop := ⟨⟩
        refine any_toks rfl ?_
        intro tk25
        k_steps
        refine wpAny_Try_except ?_
        k_steps
        refine ⟨?_⟩
        rename RaisedC _ _ _ _ _ _ _ => rk
        rename Heap.UpToSlots _ _ => hsm
        refine' caughtC (T' := "ValueError") K0 ?F hsm rk ?XK ?T ?hm PyProof.Rows.Boot.«ValueError» PySem.F.isExc_ValueError PySem.F.notTuple_ValueError (by rw [isSubtype_type]; kernel_rfl) ?_ ?hn ?hk ?hx ?hd
        (case F => assumption)
        (case XK => exact KX)
        (case T => k_asm)
        (case hm => k_is)
        (case hn => decide)
        (case hk => rfl)
        (case hx => rfl)
        (case hd => decide)
        intro h26 oe26 ws26 F26 N26 hd26 hc26
        have hin3 := hin
        clear hsm rk
        cases fm with
        | true =>
          simp only [if_true] at F26 hks
          rw [hks] at hin3
          obtain ⟨od, kvs, hH, hdo, hlo, hk1, hv1⟩ := (show ∃ od kvs, (H, od) ∈ nw12 ∧ od.IsDictOf (intKind Challenge.rw_aq6051_01.row.prog w) kvs ∧ (H == sysModules) = false ∧ kvs.map (·.1) = ks ∧ IntsAre (kvs.map (·.2)) ws from HI)
          k_steps
          refine ⟨?_⟩
          refine' dc_src_h (n := sz) kf wf ?hh hd26 hc26 ?he ?F ?N ?hr ?hb ?hz ?hinj ?hkey ?hval ?fin
          (case hh => rfl)
          (case F => k_asm)
          (case N => k_asm)
          (case he => k_mem)
          (case hr => with_reducible assumption)
          (case hb => rfl)
          (case hz => omega)
          (case hinj =>
            intro i j hi hj h
            rw [← hkf] at h
            simp only at h
            omega)
          (case hkey =>
            intro i tk C s' m' Q' E' hi hm hns F9 N9 hq
            obtain ⟨t9, e9⟩ := us_at hin3 (i := i) (j := (i : Int)) (by omega) (by omega)
            k_steps
            exact hq _ _)
          (case hval =>
            intro i tk C s' m' Q' E' hi hm hns F9 N9 hq
            obtain ⟨t9, e9⟩ := us_at hiw (i := i) (j := (i : Int)) (by omega) (by omega)
            k_steps
            exact hq _ _)
          (case fin =>
            intro H2 h' tk od2 kvs2 F9 N9 l9 lo2 hdo2 hk2 hv2
            rw [← hks] at hk2
            rw [hws] at hv2
            k_steps
            refine ⟨?_⟩
            refine' r_eq_dicts (ks := ks) (ws := ws) ?hu ?N ?pa ?pb hdo hdo2 hlo lo2 hk1 hk2 hv1 hv2 ?_
            (case hu => exact Nat.le_of_ble_eq_true rfl)
            (case N => k_asm)
            (case pa => k_mem)
            (case pb => k_mem)
            k_steps)
        | false =>
          simp only [Bool.false_eq_true, if_false] at F26 hks
          obtain ⟨vsH, cH, hH, hv1⟩ := (show ∃ vs c, (H, W.listOf (List.toArray vs) c) ∈ nw12 ∧ IntsAre vs ws from HI)
          k_steps
          refine ⟨?_⟩
          refine' r_eqq_lists ?hu ?N ?h1 ?h2 ?hl ?he ?_
          (case hu => exact Nat.le_of_ble_eq_true rfl)
          (case N => k_asm)
          (case h1 => exact List.mem_cons_of_mem _ hH)
          (case h2 => exact List.mem_cons_of_mem _ xW)
          (case hl => rw [hv1.length, hiw2.length])
          (case he => exact eqAt_ints hv1 hiw2)
          k_steps)))

end Mine
end

theorem PySem.Challenge.cw_aq6051_01_holds : PySem.Challenge.rw_aq6051_01.Holds := by
  exact Mine.law_ok
