import PyProof.Rows.All
import Wide.All
import OpenK.AllK
import Wide.FinOn
import PySem.Challenge.RW_xg0053_01
set_option Elab.async false
section
open PySem PySem.W PyProof.Rows
namespace Mine
set_option maxRecDepth 100000
set_option maxHeartbeats 8000000
open_top hd for PySem.Challenge.rw_xg0053_01
end Mine
end
section
open PySem PySem.W PyProof.Rows PySem.Calls
namespace Mine
theorem fill : ∀ (h : Heap) (w : World), (hd.heap_39 w.params).In h → PySem.Challenge.rw_xg0053_01.row.prog = PySem.Challenge.rw_xg0053_01.row.prog := by
  k_fill
  intros; rfl
/-- what __init__ reads off a lead: how many tabs follow so many blanks; the signs; the tabs; the blanks behind -/
structure Ws where
  cnt : List Int
  n : Int
  nt : Int
  b : Int
def Ws.simple (d : Ws) : Bool := decide ((d.cnt.length : Int) ≤ 1)

def ilSum (ts : Int) (cnt : List Int) (pre : List Int) : Int := (pre.map fun i => Int.fdiv i ts * cnt.getD i.toNat 0).sum
theorem ilSum_snoc (ts : Int) (cnt pre : List Int) (i : Int) : ilSum ts cnt (pre ++ [i]) = ilSum ts cnt pre + Int.fdiv i ts * cnt.getD i.toNat 0 := by
  simp [ilSum, List.map_append, List.sum_append]
theorem ilSum_nil (ts : Int) (cnt : List Int) : ilSum ts cnt [] = 0 := rfl
theorem fdiv_ok {a b c : Int} (h0 : 0 ≤ a) (h1 : a < 1000) (hb : 1 ≤ b) : IntMulOk (a.fdiv b) c := by
  refine IntMulOk.of_left (intBits_le_64 ?_ ?_)
  · have : 0 ≤ a.fdiv b := Int.fdiv_nonneg h0 (by omega)
    omega
  · have : a.fdiv b ≤ a := by
      rw [Int.fdiv_eq_ediv_of_nonneg _ (by omega)]
      exact Int.ediv_le_self _ h0
    omega
def Ws.level (d : Ws) (ts : Int) : Int := d.b + ts * (ilSum ts d.cnt (rangeKs ts ((d.cnt.length : Int) - ts).toNat) + d.nt)
def Ws.longest (d : Ws) : Int := max ((d.cnt.length : Int) - 1) d.b

abbrev entN (a : Int × Tok) (n : String) (v : Value) : DictEntry := ⟨a.1, .str (PySem.Str.ofString n) a.2, v⟩
abbrev wsDict (k1 k2 k3 k4 k5 : Int × Tok) (raw n nt norm simp : Value) : List DictEntry :=
  [entN k1 "raw" raw, entN k2 "n" n, entN k3 "nt" nt, entN k4 "norm" norm, entN k5 "is_simple" simp]

/-- the ledger bears an object of Whitespace at x, with the numbers of d -/
structure WsAt (news : List (Addr × Obj)) (x : Addr) (d : Ws) (dx tn tc : Addr) (k1 k2 k3 k4 k5 : Int × Tok) (raw : Value) (tkn tnt tb : Tok) (vs : List Value) : Prop where
  ins : (x, instObj 76 dx) ∈ news
  own : (dx, dictOf (wsDict k1 k2 k3 k4 k5 raw (.int d.n tkn) (.int d.nt tnt) (.ref tn) (.bool d.simple)) 5) ∈ news
  nrm : (tn, ({ cls := .type "tuple", data := .seq #[.ref tc, .int d.b tb] } : Obj)) ∈ news
  cnts : (tc, ({ cls := .type "tuple", data := .seq vs.toArray } : Obj)) ∈ news
  its : IntsAre vs d.cnt
  fit : vs.length ≤ 13
  bl : 0 ≤ d.b ∧ d.b ≤ 24
def WsIn (news : List (Addr × Obj)) (x : Addr) (d : Ws) : Prop := ∃ dx tn tc k1 k2 k3 k4 k5 raw tkn tnt tb vs, WsAt news x d dx tn tc k1 k2 k3 k4 k5 raw tkn tnt tb vs
theorem WsIn.mono {news news' : List (Addr × Obj)} {x : Addr} {d : Ws} (h : WsIn news x d) (hs : ∀ p ∈ news, p ∈ news') : WsIn news' x d := by
  obtain ⟨dx, tn, tc, k1, k2, k3, k4, k5, raw, tkn, tnt, tb, vs, h⟩ := h
  exact ⟨dx, tn, tc, k1, k2, k3, k4, k5, raw, tkn, tnt, tb, vs, hs _ h.1, hs _ h.2, hs _ h.3, hs _ h.4, h.5, h.6, h.7⟩

local macro_rules | `(tactic| mul_fits) => `(tactic| exact fdiv_ok (by omega) (by omega) (by assumption))
local macro_rules | `(tactic| walk_at "call builtin:len") => `(tactic| (k_here; (with_reducible show wpAny _ _ (call (Value.builtin "len") [Value.ref _]) _ _ _); (refine len_tuple (News.isTup (by k_asm) (by k_mem)) (by (simp only [List.size_toArray] at *; omega)) ?_); (try simp only [List.size_toArray])))

section
variable {w : World} {p : Program} {loose : List Str} {mean : ExcName → Option Value} {mg mb : Str → Option Value}
  {dp un : Nat} {gd : Option (List Code)} {cn : Str} {cs : Scope} {a : Addr} {ccd : Value} {cl : List (Str × Addr)} {outer : List Env} {A₀ : Around} {base h₀ : Heap} {L : Addr} {m : Str → Option Value} {s : Shared} {Q E : Value → Shared → Prop}
  {x y : Addr} {d d' : Ws} {ts : Int} {tts : Tok} {news : List (Addr × Obj)}
set_option maxRecDepth 100000
set_option maxHeartbeats 8000000
theorem level_call (B : Below A₀ base outer h₀) (F : Fr h₀ L s.heap m) (X : (hd.heap_39 w.params).In h₀) (N : News h₀ L s.heap news) (T : Top p loose mean mg mb h₀) (hk : cs.kind = .function)
    (hd : dp + 3 < recursionLimit) (hu : un + 100 < cLine) (W : WsIn news x d) (hts : 1 ≤ ts) (hts2 : ts ≤ 14)
    (hret : ∀ t h' tk', Fr h₀ L h' m → News h₀ L h' news → Q (.int (d.level ts) t) { s with heap := h', toks := tk' }) :
    wpAny (model PySem.Challenge.rw_xg0053_01.row.prog w) (ktrTop dp un gd cn cs L a ccd cl outer) (call (.ref 45) [.ref x, .int ts tts]) Q E s := by
  obtain ⟨dx, tn, tc, k1, k2, k3, k4, k5, raw, tkn, tnt, tb, vs, m1, m2, m3, m4, hi, hlen, hb⟩ := W
  obtain ⟨cnt, n, nt, b⟩ := d
  dsimp only at m2 m3 hi hb
  (k_with "pyIter ref" => k_state (fun pre il => il = ilSum ts cnt pre) "il")
  (k_with "state" => first | exact ilSum_nil _ _ | (rw [ilSum_snoc]; omega))
  refine wpAny_call ?_
  k_dflt cell_enter
  k_steps
  all_goals (subst kInv; exact hret _ _ _ (by k_asm) (by k_asm))

theorem ws_eq {tn tn' tc tc' : Addr} {cnt cnt' : List Int} {b b' : Int} {tb tb' : Tok} {vs vs' : List Value} {A : Around} {prog : Program} (N : News h₀ L s.heap news)
    (m3 : (tn, ({ cls := .type "tuple", data := .seq #[.ref tc, .int b tb] } : Obj)) ∈ news) (m4 : (tc, ({ cls := .type "tuple", data := .seq vs.toArray } : Obj)) ∈ news) (hi : IntsAre vs cnt)
    (m3' : (tn', ({ cls := .type "tuple", data := .seq #[.ref tc', .int b' tb'] } : Obj)) ∈ news) (m4' : (tc', ({ cls := .type "tuple", data := .seq vs'.toArray } : Obj)) ∈ news) (hi' : IntsAre vs' cnt')
    (hu : A.units + 64 < cLine) (h : Q (.bool (decide (cnt = cnt') && decide (b = b'))) s) : wpAny (model prog w) A (compareOp .Eq (.ref tn) (.ref tn')) Q E s := by
  have r1 : Reads s.heap (.ref tc) (.tuple (cnt.map .int)) [] := reads_newDataT (News.isTup N m4) (ke_carried hi)
  have r2 : Reads s.heap (.ref tc') (.tuple (cnt'.map .int)) [] := reads_newDataT (News.isTup N m4') (ke_carried hi')
  refine eq_dataH (da := .tuple [.tuple (cnt.map .int), .int b]) (db := .tuple [.tuple (cnt'.map .int), .int b'])
    (reads_tuple_at (N.get m3) rfl rfl (ReadsAll.cons r1 (ReadsAll.cons (Reads.int _ _) ReadsAll.nil)))
    (reads_tuple_at (N.get m3') rfl rfl (ReadsAll.cons r2 (ReadsAll.cons (Reads.int _ _) ReadsAll.nil))) ?_ ?_ hu ?_
  · simp [SeqAt.shaped, PyData.canLay0, PyData.canLayAll0, PyData.depth, PyData.depthAll, ke_canLayAll0, ke_depthAll]
  · simp [SeqAt.shaped, PyData.canLay0, PyData.canLayAll0, PyData.depth, PyData.depthAll, ke_canLayAll0, ke_depthAll]
  · have e : PyData.eqv (.tuple [.tuple (cnt.map .int), .int b]) (.tuple [.tuple (cnt'.map .int), .int b']) = (decide (cnt = cnt') && decide (b = b')) := by
      simp only [PyData.eqv, PyData.eqvAll, ked_eqvAll, Bool.and_true]
      by_cases h : b = b' <;> simp [h]
    rw [e]; exact h

theorem longest_call (B : Below A₀ base outer h₀) (F : Fr h₀ L s.heap m) (X : (hd.heap_39 w.params).In h₀) (N : News h₀ L s.heap news) (T : Top p loose mean mg mb h₀) (hk : cs.kind = .function)
    (hd : dp + 3 < recursionLimit) (hu : un + 100 < cLine) (W : WsIn news x d)
    (hret : ∀ t h' tk', Fr h₀ L h' m → News h₀ L h' news → Q (.int d.longest t) { s with heap := h', toks := tk' }) :
    wpAny (model PySem.Challenge.rw_xg0053_01.row.prog w) (ktrTop dp un gd cn cs L a ccd cl outer) (call (.ref 38) [.ref x]) Q E s := by
  obtain ⟨dx, tn, tc, k1, k2, k3, k4, k5, raw, tkn, tnt, tb, vs, m1, m2, m3, m4, hi, hlen, hb⟩ := W
  obtain ⟨cnt, n, nt, b⟩ := d
  dsimp only at m2 m3 hi hb
  (k_with_none)
  refine wpAny_call ?_
  k_dflt cell_enter
  k_steps
  all_goals (refine cb_retI hret ?_ (by k_asm) (by k_asm); simp only [Ws.longest, ← IntsAre.length (by assumption)]; omega)

local macro_rules | `(tactic| walk_at "compareOp Eq ref ref") => `(tactic| (k_here; k_dflt (refine' ws_eq ?N ?m1 ?m2 ?i1 ?m3 ?m4 ?i2 ?hu ?_; (case N => k_asm); (case m1 => k_mem); (case m2 => k_mem); (case i1 => assumption); (case m3 => k_mem); (case m4 => k_mem); (case i2 => assumption); (case hu => ktr_units); k_whole)))
theorem equal_call (B : Below A₀ base outer h₀) (F : Fr h₀ L s.heap m) (X : (hd.heap_39 w.params).In h₀) (N : News h₀ L s.heap news) (T : Top p loose mean mg mb h₀) (hk : cs.kind = .function)
    (hd : dp + 3 < recursionLimit) (hu : un + 100 < cLine) (W : WsIn news x d) (W' : WsIn news y d')
    (hret : ∀ (t : Tok) h' tk', Fr h₀ L h' m → News h₀ L h' news → Q (.bool (decide (d.cnt = d'.cnt) && decide (d.b = d'.b))) { s with heap := h', toks := tk' }) :
    wpAny (model PySem.Challenge.rw_xg0053_01.row.prog w) (ktrTop dp un gd cn cs L a ccd cl outer) (call (.ref 52) [.ref x, .ref y]) Q E s := by
  obtain ⟨dx, tn, tc, k1, k2, k3, k4, k5, raw, tkn, tnt, tb, vs, m1, m2, m3, m4, hi, hlen, hb⟩ := W
  obtain ⟨dx', tn', tc', k1', k2', k3', k4', k5', raw', tkn', tnt', tb', vs', m1', m2', m3', m4', hi', hlen', hb'⟩ := W'
  obtain ⟨cnt, n, nt, b⟩ := d
  obtain ⟨cnt', n', nt', b'⟩ := d'
  dsimp only at m2 m3 hi hb m2' m3' hi' hb'
  refine wpAny_call ?_
  k_dflt cell_enter
  k_steps

  all_goals (refine hret 0 _ _ ?e1 ?e2; (case e1 => k_asm); (case e2 => k_asm))
end
end Mine
end
section
open PySem PySem.W PyProof.Rows PySem.Calls
namespace Mine
def triple (d d' : Ws) (ts : Int) : Dat := Dat.tuple [.int ts, .int (d.level ts), .int (d'.level ts)]
def witNE (d d' : Ws) (pre : List Int) : List Dat := (pre.filter fun ts => decide (d.level ts ≠ d'.level ts)).map (triple d d')
def witNL (d d' : Ws) (pre : List Int) : List Dat := (pre.filter fun ts => decide (d'.level ts ≤ d.level ts)).map (triple d d')
def Ws.most (d d' : Ws) : Int := max d.longest d'.longest + 1

local macro_rules | `(tactic| ktr_rel) => `(tactic| first | assumption | (refine WsIn.mono (by assumption) ?_; first | exact fun _ h => h | (intro p9 h9; simp only [List.mem_append, List.mem_cons, List.nil_append, List.cons_append, List.append_assoc]; simp only [h9, true_or, or_true])))
local macro_rules | `(tactic| walk_at "call ref") => `(tactic| (k_here; (with_reducible show wpAny _ _ (call (Value.ref 45) _) _ _ _); k_dflt (refine' level_call ?k1 ?k2 ?k3 ?k4 ?k5 ?kK ?kd ?ku ?kW ?h1 ?h2 ?_; (case k1 => k_asm); (case k2 => k_asm); (case k3 => k_asm); (case k4 => k_asm); (case k5 => k_asm); (case kK => exact rfl); (case kd => ktr_room); (case ku => ktr_units); (case kW => ktr_rel); (case h1 => omega); (case h2 => omega); k_whole); intro t9 h9 tk9 F9 N9; (try dsimp only)))
local macro_rules | `(tactic| walk_at "call ref") => `(tactic| (k_here; (with_reducible show wpAny _ _ (call (Value.ref 38) _) _ _ _); k_dflt (refine' longest_call ?k1 ?k2 ?k3 ?k4 ?k5 ?kK ?kd ?ku ?kW ?_; (case k1 => k_asm); (case k2 => k_asm); (case k3 => k_asm); (case k4 => k_asm); (case k5 => k_asm); (case kK => exact rfl); (case kd => ktr_room); (case ku => ktr_units); (case kW => ktr_rel); k_whole); intro t9 h9 tk9 F9 N9; (try dsimp only)))
theorem mem_range {a v : Int} {n : Nat} : v ∈ rangeKs a n ↔ a ≤ v ∧ v < a + n := by
  unfold rangeKs
  simp only [List.mem_map, List.mem_range]
  constructor
  · rintro ⟨i, hi, rfl⟩; omega
  · rintro ⟨h1, h2⟩; exact ⟨(v - a).toNat, by omega, by omega⟩
theorem wne_nil {d d' : Ws} : ([] : List Dat) = witNE d d' [] ∧ ([] : List Dat).length ≤ ([] : List Int).length := ⟨rfl, Nat.le_refl _⟩
theorem wne_len (d d' : Ws) (pre : List Int) : (witNE d d' pre).length ≤ pre.length := by
  unfold witNE; rw [List.length_map]; exact List.length_filter_le _ _
theorem wnl_len (d d' : Ws) (pre : List Int) : (witNL d d' pre).length ≤ pre.length := by
  unfold witNL; rw [List.length_map]; exact List.length_filter_le _ _
theorem wne_no {d d' : Ws} {pre : List Int} {k : Int} (hb : d.level k = d'.level k) : witNE d d' pre = witNE d d' (pre ++ [k]) ∧ (witNE d d' pre).length ≤ (pre ++ [k]).length := by
  have e : witNE d d' pre = witNE d d' (pre ++ [k]) := by simp [witNE, List.filter_append, hb]
  exact ⟨e, by rw [e]; exact wne_len _ _ _⟩
theorem wne_yes {d d' : Ws} {pre : List Int} {k : Int} (hb : ¬ d.level k = d'.level k) :
    witNE d d' pre ++ [Dat.tuple [.int k, .int (d.level k), .int (d'.level k)]] = witNE d d' (pre ++ [k]) ∧ (witNE d d' pre ++ [Dat.tuple [.int k, .int (d.level k), .int (d'.level k)]]).length ≤ (pre ++ [k]).length := by
  have e : witNE d d' pre ++ [Dat.tuple [.int k, .int (d.level k), .int (d'.level k)]] = witNE d d' (pre ++ [k]) := by simp [witNE, List.filter_append, hb, triple]
  exact ⟨e, by rw [e]; exact wne_len _ _ _⟩
theorem wnl_nil {d d' : Ws} : ([] : List Dat) = witNL d d' [] ∧ ([] : List Dat).length ≤ ([] : List Int).length := ⟨rfl, Nat.le_refl _⟩
theorem wnl_no {d d' : Ws} {pre : List Int} {k : Int} (hb : ¬ d'.level k ≤ d.level k) : witNL d d' pre = witNL d d' (pre ++ [k]) ∧ (witNL d d' pre).length ≤ (pre ++ [k]).length := by
  have e : witNL d d' pre = witNL d d' (pre ++ [k]) := by simp [witNL, List.filter_append, hb]
  exact ⟨e, by rw [e]; exact wnl_len _ _ _⟩
theorem wnl_yes {d d' : Ws} {pre : List Int} {k : Int} (hb : d'.level k ≤ d.level k) :
    witNL d d' pre ++ [Dat.tuple [.int k, .int (d.level k), .int (d'.level k)]] = witNL d d' (pre ++ [k]) ∧ (witNL d d' pre ++ [Dat.tuple [.int k, .int (d.level k), .int (d'.level k)]]).length ≤ (pre ++ [k]).length := by
  have e : witNL d d' pre ++ [Dat.tuple [.int k, .int (d.level k), .int (d'.level k)]] = witNL d d' (pre ++ [k]) := by simp [witNL, List.filter_append, hb, triple]
  exact ⟨e, by rw [e]; exact wnl_len _ _ _⟩
theorem most_is (d d' : Ws) : d.most d' = (if d'.longest > d.longest then d'.longest else d.longest) + 1 := by
  unfold Ws.most; split <;> omega
theorem most_nat {d d' : Ws} : ((if d'.longest > d.longest then d'.longest else d.longest) + 1 + 1 - 1).toNat = (d.most d').toNat := by rw [most_is]; congr 1; omega
def LessSays (d d' : Ws) (r : Bool) : Prop :=
  (d'.n ≤ d.n → r = false) ∧ (¬ d'.n ≤ d.n → d.simple = true → d'.simple = true → r = decide (d.nt ≤ d'.nt)) ∧
  (¬ d'.n ≤ d.n → d.simple = false ∨ d'.simple = false → (r = true ↔ ∀ v, 2 ≤ v → v ≤ d.most d' → d.level v < d'.level v))
theorem ls1 {d d' : Ws} (h : d'.n ≤ d.n) : LessSays d d' false := ⟨fun _ => rfl, fun q => absurd h q, fun q => absurd h q⟩
theorem ls2 {d d' : Ws} (h : ¬ d'.n ≤ d.n) (h1 : d.simple = true) (h2 : d'.simple = true) : LessSays d d' (decide (d.nt ≤ d'.nt)) :=
  ⟨fun q => absurd q h, fun _ _ _ => rfl, fun _ q => by rw [h1, h2] at q; simp at q⟩
theorem ls3 {d d' : Ws} (h : ¬ d'.n ≤ d.n) (hs : d.simple = false ∨ d'.simple = false) {k : Int} {pre : List Int} (hk : k = 2 + (pre.length : Int))
    (hl : pre.length < ((if d'.longest > d.longest then d'.longest else d.longest) + 1 + 1 - 2).toNat) (hle : d'.level k ≤ d.level k) : LessSays d d' false := by
  refine ⟨fun _ => rfl, fun _ q1 q2 => ?_, fun _ _ => ⟨fun q => (nomatch q), fun q => ?_⟩⟩
  · rw [q1, q2] at hs; simp at hs
  · have := q k (by omega) (by rw [most_is]; omega)
    omega
theorem ls4 {d d' : Ws} (h : ¬ d'.n ≤ d.n) (hs : d.simple = false ∨ d'.simple = false)
    (hi : ∀ v : Int, v ∈ rangeKs 2 ((if d'.longest > d.longest then d'.longest else d.longest) + 1 + 1 - 2).toNat → d.level v < d'.level v) : LessSays d d' true := by
  refine ⟨fun q => absurd q h, fun _ q1 q2 => ?_, fun _ _ => ⟨fun _ v h1 h2 => hi v (mem_range.mpr ⟨h1, ?_⟩), fun _ => rfl⟩⟩
  · rw [q1, q2] at hs; simp at hs
  · rw [most_is] at h2; omega
section
variable {w : World} {p : Program} {loose : List Str} {mean : ExcName → Option Value} {mg mb : Str → Option Value}
  {dp un : Nat} {gd : Option (List Code)} {cn : Str} {cs : Scope} {a : Addr} {ccd : Value} {cl : List (Str × Addr)} {outer : List Env} {A₀ : Around} {base h₀ : Heap} {L : Addr} {m : Str → Option Value} {s : Shared} {Q E : Value → Shared → Prop}
  {x y : Addr} {d d' : Ws} {ts : Int} {tts : Tok} {news : List (Addr × Obj)}
set_option maxRecDepth 100000
set_option maxHeartbeats 8000000

theorem less_call (B : Below A₀ base outer h₀) (F : Fr h₀ L s.heap m) (X : (hd.heap_39 w.params).In h₀) (N : News h₀ L s.heap news) (T : Top p loose mean mg mb h₀) (hk : cs.kind = .function)
    (hd : dp + 5 < recursionLimit) (hu : un + 200 < cLine) (W : WsIn news x d) (W' : WsIn news y d')
    (hm1 : 0 ≤ d.longest ∧ d.longest ≤ 12) (hm2 : 0 ≤ d'.longest ∧ d'.longest ≤ 12)
    (hret : ∀ (r : Bool) h' tk', LessSays d d' r → Fr h₀ L h' m → News h₀ L h' news → Q (.bool r) { s with heap := h', toks := tk' }) :
    wpAny (model PySem.Challenge.rw_xg0053_01.row.prog w) (ktrTop dp un gd cn cs L a ccd cl outer) (call (.ref 66) [.ref x, .ref y]) Q E s := by
  k_with_none
  have WW := W
  have WW' := W'
  obtain ⟨dx, tn, tc, k1, k2, k3, k4, k5, raw, tkn, tnt, tb, vs, m1, m2, m3, m4, hi, hlen, hb⟩ := W
  obtain ⟨dx', tn', tc', k1', k2', k3', k4', k5', raw', tkn', tnt', tb', vs', m1', m2', m3', m4', hi', hlen', hb'⟩ := W'
  (k_with "pyIter ref" => k_search (fun pre => ∀ v ∈ pre, d.level v < d'.level v))
  refine wpAny_call ?_
  k_dflt cell_enter
  k_steps
  all_goals (
    refine hret _ _ _ ?e0 ?e1 ?e2
    (case e1 => k_asm)
    (case e2 => first | k_asm | (refine cb_drop (by k_asm) ?_; intro p9 h9; exact List.mem_append.mpr (.inl h9)))
    (case e0 => first
      | exact ls1 (by assumption)
      | exact ls2 (by assumption) (by assumption) (by assumption)
      | exact ls3 (by assumption) (.inl (by assumption)) (by assumption) (by assumption) (by assumption)
      | exact ls3 (by assumption) (.inr (by assumption)) (by assumption) (by assumption) (by assumption)
      | exact ls4 (by assumption) (.inl (by assumption)) (by assumption)
      | exact ls4 (by assumption) (.inr (by assumption)) (by assumption)))

theorem notequal_call (B : Below A₀ base outer h₀) (F : Fr h₀ L s.heap m) (X : (hd.heap_39 w.params).In h₀) (N : News h₀ L s.heap news) (T : Top p loose mean mg mb h₀) (hk : cs.kind = .function)
    (hd : dp + 5 < recursionLimit) (hu : un + 200 < cLine) (W : WsIn news x d) (W' : WsIn news y d')
    (hm1 : 0 ≤ d.longest ∧ d.longest ≤ 12) (hm2 : 0 ≤ d'.longest ∧ d'.longest ≤ 12)
    (hret : ∀ (l : Addr) (us : List Value) (k : Nat) (tl : List (Addr × Obj)) h' tk', DatAll (news ++ tl) us (witNE d d' (rangeKs 1 (d.most d').toNat)) → (∀ p ∈ news, p.1 < l) → Fr h₀ L h' m → News h₀ L h' ((l, listOf us.toArray k) :: (news ++ tl)) → Q (.ref l) { s with heap := h', toks := tk' }) :
    wpAny (model PySem.Challenge.rw_xg0053_01.row.prog w) (ktrTop dp un gd cn cs L a ccd cl outer) (call (.ref 59) [.ref x, .ref y]) Q E s := by
  k_with_none
  have WW := W
  have WW' := W'
  obtain ⟨dx, tn, tc, k1, k2, k3, k4, k5, raw, tkn, tnt, tb, vs, m1, m2, m3, m4, hi, hlen, hb⟩ := W
  obtain ⟨dx', tn', tc', k1', k2', k3', k4', k5', raw', tkn', tnt', tb', vs', m1', m2', m3', m4', hi', hlen', hb'⟩ := W'
  (k_with "state" => (try dsimp only); first | exact wne_nil | exact wne_no (by first | assumption | omega) | exact wne_yes (by first | assumption | omega))
  (k_with "pyIter ref" => k_dat (fun pre a => a = witNE d d' pre ∧ a.length ≤ pre.length) "a*")
  refine wpAny_call ?_
  k_dflt cell_enter
  k_steps
  rw [most_nat] at kFacts
  exact hret _ _ _ _ _ _ kFacts (by assumption) (by k_asm) (by k_asm)

theorem notless_call (B : Below A₀ base outer h₀) (F : Fr h₀ L s.heap m) (X : (hd.heap_39 w.params).In h₀) (N : News h₀ L s.heap news) (T : Top p loose mean mg mb h₀) (hk : cs.kind = .function)
    (hd : dp + 5 < recursionLimit) (hu : un + 200 < cLine) (W : WsIn news x d) (W' : WsIn news y d')
    (hm1 : 0 ≤ d.longest ∧ d.longest ≤ 12) (hm2 : 0 ≤ d'.longest ∧ d'.longest ≤ 12)
    (hret : ∀ (l : Addr) (us : List Value) (k : Nat) (tl : List (Addr × Obj)) h' tk', DatAll (news ++ tl) us (witNL d d' (rangeKs 1 (d.most d').toNat)) → (∀ p ∈ news, p.1 < l) → Fr h₀ L h' m → News h₀ L h' ((l, listOf us.toArray k) :: (news ++ tl)) → Q (.ref l) { s with heap := h', toks := tk' }) :
    wpAny (model PySem.Challenge.rw_xg0053_01.row.prog w) (ktrTop dp un gd cn cs L a ccd cl outer) (call (.ref 73) [.ref x, .ref y]) Q E s := by
  k_with_none
  have WW := W
  have WW' := W'
  obtain ⟨dx, tn, tc, k1, k2, k3, k4, k5, raw, tkn, tnt, tb, vs, m1, m2, m3, m4, hi, hlen, hb⟩ := W
  obtain ⟨dx', tn', tc', k1', k2', k3', k4', k5', raw', tkn', tnt', tb', vs', m1', m2', m3', m4', hi', hlen', hb'⟩ := W'
  (k_with "state" => (try dsimp only); first | exact wnl_nil | exact wnl_no (by first | assumption | omega) | exact wnl_yes (by first | assumption | omega))
  (k_with "pyIter ref" => k_dat (fun pre a => a = witNL d d' pre ∧ a.length ≤ pre.length) "a*")
  refine wpAny_call ?_
  k_dflt cell_enter
  k_steps
  rw [most_nat] at kFacts
  exact hret _ _ _ _ _ _ kFacts (by assumption) (by k_asm) (by k_asm)
end
end Mine
end
section
open PySem PySem.W PyProof.Rows PySem.Calls
namespace Mine
def Stop (p : Prop) : Prop := p
theorem Stop.out {p : Prop} (h : Stop p) : p := h
theorem Stop.on {p : Prop} (h : p) : Stop p := h
section
open LCg
/-- what a turn of a comprehension leaves behind: its own three objects and the ledger as they stood -/
def TurnEnd (h₀ : Heap) (L : Addr) (m : Str → Option Value) (s₁ : Shared) (all : List (Addr × Obj)) (r : Value → Prop) (y : Value) (s₂ : Shared) : Prop :=
  ∃ h' tk, s₂ = { s₁ with heap := h', toks := tk } ∧ Fr h₀ L h' m ∧ News h₀ L h' all ∧ r y
variable {prog : Program} {w : World} {A : Around} {h₀ : Heap} {L : Addr} {m : Str → Option Value} {env : Env} {ct elt : Expr} {x : Str} {scope : Scope} {cl : List (Str × Addr)} {s : Shared} {S : List (Addr × Obj) → Prop} {P : Nat → Value → Prop} {Fin : List Value → List (Addr × Obj) → Prop} {news : List (Addr × Obj)}
theorem comp_map {n : Nat} (R : Nat → Value → Prop) (hS : S news)
    (turn : ∀ i v I oI C oC D m₂ ys h tk (E' : Value → Shared → Prop), i < n → P i v → NsObj oC m₂ → m₂ x = some v → Fr h₀ L h m → News h₀ L h ((I, oI) :: (C, oC) :: (D, lst ys) :: news) → Off3 I C D news →
      wpAny (model prog w) A (eval elt (compEnvC scope cl C env)) (TurnEnd h₀ L m { s with heap := h, toks := tk } ((I, oI) :: (C, oC) :: (D, lst ys) :: news) (R i)) E' { s with heap := h, toks := tk })
    (fin : ∀ ys, ys.length = n → (∀ j y, ys[j]? = some y → R j y) → Fin ys news) : CompRest prog w A h₀ L m env elt x scope cl s S P Fin n 0 [] news := by
  have key : ∀ (j i : Nat) (ys : List Value), i + j = n → ys.length = i → (∀ j y, ys[j]? = some y → R j y) → CompRest prog w A h₀ L m env elt x scope cl s S P Fin j i ys news := by
    intro j
    induction j with
    | zero => intro i ys hi hl hy; exact CompRest.zero (fin ys (by omega) hy)
    | succ j ih =>
      intro i ys hi hl hy
      refine CompRest.succ ?_
      intro v I oI C oC D m₂ h tk E' hv hC hx F N off ne
      refine wpAny_mono (turn i v I oI C oC D m₂ ys h tk E' (by omega) hv hC hx F N off) (fun y s₂ hq => ?_) fun _ _ e => e
      obtain ⟨h', tk', e, F', N', r⟩ := hq
      refine ⟨h', tk', news, e, F', N', off, hS, ih (i + 1) _ (by omega) (by simp [hl]) ?_⟩
      intro k z hz
      rcases Nat.lt_trichotomy k ys.length with hk | hk | hk
      · rw [List.getElem?_append_left hk] at hz; exact hy k z hz
      · subst hk; simp at hz; subst hz; rw [hl]; exact r
      · rw [List.getElem?_eq_none (by rw [List.length_append, List.length_singleton]; omega)] at hz; cases hz
  exact key n 0 [] (by omega) rfl (by simp)
theorem comp_filter {n : Nat} (p : Nat → Bool) (R : Nat → Value → Prop) (hS : S news)
    (turn : ∀ i v I oI C oC D m₂ ys h tk (E' : Value → Shared → Prop), i < n → P i v → NsObj oC m₂ → m₂ x = some v → Fr h₀ L h m → News h₀ L h ((I, oI) :: (C, oC) :: (D, lst ys) :: news) → Off3 I C D news →
      wpAny (model prog w) A (isTrue ct (compEnvC scope cl C env) (eval ct (compEnvC scope cl C env))) (fun ok s' => if ok = true then
        wpAny (model prog w) A (eval elt (compEnvC scope cl C env)) (TurnEnd h₀ L m { s with heap := h, toks := tk } ((I, oI) :: (C, oC) :: (D, lst ys) :: news) (fun y => p i = true ∧ R i y)) E' s'
        else TurnEnd h₀ L m { s with heap := h, toks := tk } ((I, oI) :: (C, oC) :: (D, lst ys) :: news) (fun _ => p i = false) Value.none s') E' { s with heap := h, toks := tk })
    (fin : ∀ ys, Paired R ((List.range n).filter p) ys → Fin ys news) : LCt.CompRestT prog w A h₀ L m env ct elt x scope cl s S P Fin n 0 [] news := by
  have key : ∀ (j i : Nat) (ys : List Value), i + j = n → Paired R ((List.range i).filter p) ys → LCt.CompRestT prog w A h₀ L m env ct elt x scope cl s S P Fin j i ys news := by
    intro j
    induction j with
    | zero => intro i ys hi hy; exact LCt.CompRestT.zero (fin ys (by have : i = n := by omega
                                                                     rw [← this]; exact hy))
    | succ j ih =>
      intro i ys hi hy
      refine LCt.CompRestT.succ ?_
      intro v I oI C oC D m₂ h tk E' hv hC hx F N off ne
      refine wpAny_mono (turn i v I oI C oC D m₂ ys h tk E' (by omega) hv hC hx F N off) (fun ok s₂ hq => ?_) fun _ _ e => e
      cases ok with
      | true =>
        simp only [if_true] at hq ⊢
        refine wpAny_mono hq (fun y s₃ hq => ?_) fun _ _ e => e
        obtain ⟨h', tk', e, F', N', hp, r⟩ := hq
        refine ⟨h', tk', news, e, F', N', off, hS, ih (i + 1) _ (by omega) ?_⟩
        rw [List.range_succ, List.filter_append]
        simp only [List.filter_cons, hp, if_true, List.filter_nil]
        exact Paired.snoc hy r
      | false =>
        simp only [Bool.false_eq_true, if_false] at hq ⊢
        obtain ⟨h', tk', e, F', N', hp⟩ := hq
        refine ⟨h', tk', news, e, F', N', off, hS, ih (i + 1) _ (by omega) ?_⟩
        rw [List.range_succ, List.filter_append]
        simp only [List.filter_cons, hp, Bool.false_eq_true, if_false, List.filter_nil, List.append_nil]
        exact hy
  exact key n 0 [] (by omega) .nil
/-- a list of the call's ledger, iterated, no test -/
theorem src_map {k : Nat} {ax : Addr} {its : Array Value} {s₁ : Shared} {Fin : Shared → List Value → List (Addr × Obj) → Prop} (R : Nat → Value → Prop)
    (hh : A.handled = none) (F : Fr h₀ L s₁.heap m) (N : News h₀ L s₁.heap news) (hm : (ax, ({ cls := .type "list", data := .seq its k } : Obj)) ∈ news) (hsz : its.size ≤ sizeLine)
    (turn : ∀ i v I oI C oC D m₂ ys h tk (E' : Value → Shared → Prop), i < its.size → its[i]? = some v → NsObj oC m₂ → m₂ x = some v → Fr h₀ L h m → News h₀ L h ((I, oI) :: (C, oC) :: (D, lst ys) :: news) → Off3 I C D news →
      wpAny (model prog w) A (eval elt (compEnvC scope cl C env)) (TurnEnd h₀ L m { s₁ with heap := h, toks := tk } ((I, oI) :: (C, oC) :: (D, lst ys) :: news) (R i)) E' { s₁ with heap := h, toks := tk })
    (fin : ∀ g ys, ys.length = its.size → (∀ j y, ys[j]? = some y → R j y) → Fin { s₁ with heap := g } ys news) : CompSrc prog w A h₀ L m env elt x scope cl Fin (.ref ax) s₁ :=
  CompSrc.ledger hh F N hm hsz fun g => comp_map R (.inr ⟨_, hm, rfl, _, rfl⟩) turn (fin g)
theorem src_filter {k : Nat} {ax : Addr} {its : Array Value} {s₁ : Shared} {Fin : Shared → List Value → List (Addr × Obj) → Prop} (p : Nat → Bool) (R : Nat → Value → Prop)
    (hh : A.handled = none) (F : Fr h₀ L s₁.heap m) (N : News h₀ L s₁.heap news) (hm : (ax, ({ cls := .type "list", data := .seq its k } : Obj)) ∈ news) (hsz : its.size ≤ sizeLine)
    (turn : ∀ i v I oI C oC D m₂ ys h tk (E' : Value → Shared → Prop), i < its.size → its[i]? = some v → NsObj oC m₂ → m₂ x = some v → Fr h₀ L h m → News h₀ L h ((I, oI) :: (C, oC) :: (D, lst ys) :: news) → Off3 I C D news →
      wpAny (model prog w) A (isTrue ct (compEnvC scope cl C env) (eval ct (compEnvC scope cl C env))) (fun ok s' => if ok = true then
        wpAny (model prog w) A (eval elt (compEnvC scope cl C env)) (TurnEnd h₀ L m { s₁ with heap := h, toks := tk } ((I, oI) :: (C, oC) :: (D, lst ys) :: news) (fun y => p i = true ∧ R i y)) E' s'
        else TurnEnd h₀ L m { s₁ with heap := h, toks := tk } ((I, oI) :: (C, oC) :: (D, lst ys) :: news) (fun _ => p i = false) Value.none s') E' { s₁ with heap := h, toks := tk })
    (fin : ∀ g ys, Paired R ((List.range its.size).filter p) ys → Fin { s₁ with heap := g } ys news) : LCt.CompSrcT prog w A h₀ L m env ct elt x scope cl Fin (.ref ax) s₁ :=
  LCt.CompSrcT.ledger hh F N hm hsz fun g => comp_filter p R (.inr ⟨_, hm, rfl, _, rfl⟩) turn (fin g)
theorem src_range {r : Addr} {a b : Int} {t u v : Tok} {n : Nat} {s₁ : Shared} {Fin : Shared → List Value → List (Addr × Obj) → Prop} (R : Nat → Value → Prop)
    (hh : A.handled = none) (F : Fr h₀ L s₁.heap m) (N : News h₀ L s₁.heap news) (hr : IsRange s₁.heap r a b 1 t u v) (hsm : Builtin.Range.small a b 1 = true) (hn : Builtin.Range.rangeSize a b 1 = ((n : Nat) : Int)) (hsz : n ≤ sizeLine)
    (turn : ∀ i t I oI C oC D m₂ ys h tk (E' : Value → Shared → Prop), i < n → NsObj oC m₂ → m₂ x = some (.int (a + (i : Int)) t) → Fr h₀ L h m → News h₀ L h ((I, oI) :: (C, oC) :: (D, lst ys) :: news) → Off3 I C D news →
      wpAny (model prog w) A (eval elt (compEnvC scope cl C env)) (TurnEnd h₀ L m { s₁ with heap := h, toks := tk } ((I, oI) :: (C, oC) :: (D, lst ys) :: news) (R i)) E' { s₁ with heap := h, toks := tk })
    (fin : ∀ g ys, ys.length = n → (∀ j y, ys[j]? = some y → R j y) → Fin { s₁ with heap := g } ys news) : CompSrc prog w A h₀ L m env elt x scope cl Fin (.ref r) s₁ :=
  CompSrc.range hh F N hr hsm hn hsz fun g => comp_map R trivial (fun i v I oI C oC D m₂ ys h tk E' hi hv hC hx => by obtain ⟨t, rfl⟩ := hv; exact turn i t I oI C oC D m₂ ys h tk E' hi hC hx) (fin g)
theorem src_rangeT {r : Addr} {a b : Int} {t u v : Tok} {n : Nat} {s₁ : Shared} {Fin : Shared → List Value → List (Addr × Obj) → Prop} (p : Nat → Bool) (R : Nat → Value → Prop)
    (hh : A.handled = none) (F : Fr h₀ L s₁.heap m) (N : News h₀ L s₁.heap news) (hr : IsRange s₁.heap r a b 1 t u v) (hsm : Builtin.Range.small a b 1 = true) (hn : Builtin.Range.rangeSize a b 1 = ((n : Nat) : Int)) (hsz : n ≤ sizeLine)
    (turn : ∀ i t I oI C oC D m₂ ys h tk (E' : Value → Shared → Prop), i < n → NsObj oC m₂ → m₂ x = some (.int (a + (i : Int)) t) → Fr h₀ L h m → News h₀ L h ((I, oI) :: (C, oC) :: (D, lst ys) :: news) → Off3 I C D news →
      wpAny (model prog w) A (isTrue ct (compEnvC scope cl C env) (eval ct (compEnvC scope cl C env))) (fun ok s' => if ok = true then
        wpAny (model prog w) A (eval elt (compEnvC scope cl C env)) (TurnEnd h₀ L m { s₁ with heap := h, toks := tk } ((I, oI) :: (C, oC) :: (D, lst ys) :: news) (fun y => p i = true ∧ R i y)) E' s'
        else TurnEnd h₀ L m { s₁ with heap := h, toks := tk } ((I, oI) :: (C, oC) :: (D, lst ys) :: news) (fun _ => p i = false) Value.none s') E' { s₁ with heap := h, toks := tk })
    (fin : ∀ g ys, Paired R ((List.range n).filter p) ys → Fin { s₁ with heap := g } ys news) : LCt.CompSrcT prog w A h₀ L m env ct elt x scope cl Fin (.ref r) s₁ :=
  LCt.CompSrcT.range hh F N hr hsm hn hsz fun g => comp_filter p R trivial (fun i v I oI C oC D m₂ ys h tk E' hi hv hC hx => by obtain ⟨t, rfl⟩ := hv; exact turn i t I oI C oC D m₂ ys h tk E' hi hC hx) (fin g)
end
end Mine
end
section
open PySem PySem.W PyProof.Rows PySem.Calls
namespace Mine

def lawLongest (lead : Str) (M : Int) : Prop := (∃ r ∈ Txt.split lead (Str.ofString "\t"), M = r.length) ∧ ∀ r ∈ Txt.split lead (Str.ofString "\t"), (r.length : Int) ≤ M
theorem strs_get : ∀ {vs : List Value} {xs : List Str}, StrsAre vs xs → ∀ {i : Nat} {v : Value}, vs[i]? = some v → ∃ r t, xs[i]? = some r ∧ v = .str r t
  | _, _, .nil, i, v, h => by simp at h
  | _, _, .cons r t k, 0, v, h => by simp at h; exact ⟨r, t, rfl, h.symm⟩
  | _, _, .cons r t k, i + 1, v, h => by simp at h; simpa using strs_get k h
theorem split_pos {lead : Str} : 0 < (Txt.split lead (Str.ofString "\t")).length := by
  unfold Txt.split
  split
  · simp
  · split
    · simp
    · rw [StrLaws.partsBetween_eq]
      obtain ⟨q, r, e⟩ := StrLaws.partsFrom_ne lead (Str.ofString "\t").length 0 (Builtin.Str.occurrences lead (Str.ofString "\t") 0 lead.length (lead.length + 1))
      rw [e]; simp
theorem ints_of : ∀ {rs : List Str} {ys : List Value}, ys.length = rs.length → (∀ (j : Nat) (y : Value), ys[j]? = some y → ∃ (r : Str) (t : Tok), rs[j]? = some r ∧ y = Value.int (r.length : Int) t) → IntsAre ys (rs.map fun r => (r.length : Int))
  | [], [], _, _ => .nil
  | r :: rs, y :: ys, hl, h => by
    obtain ⟨r', t, e, rfl⟩ := h 0 y rfl
    simp at e; subst e
    exact .cons _ t (ints_of (by simpa using hl) fun j z hz => by simpa using h (j + 1) z (by simpa using hz))
theorem longest_says {lead : Str} {ns : List Int} {M : Int} (hns : ns = (Txt.split lead (Str.ofString "\t")).map fun r => (r.length : Int)) (h : M ∈ ns) (h' : ∀ a ∈ ns, a ≤ M) : lawLongest lead M := by
  subst hns
  obtain ⟨r, hr, rfl⟩ := List.mem_map.mp h
  exact ⟨⟨r, hr, rfl⟩, fun r hr => h' _ (List.mem_map.mpr ⟨r, hr, rfl⟩)⟩
section
local macro_rules | `(tactic| walk_at "eval ListComp") => `(tactic| refine Stop.out ?_)
local macro_rules | `(tactic| walk_at "CompSrc") => `(tactic| refine Stop.out ?_)
local macro_rules | `(tactic| walk_at "FinE") => `(tactic| refine Stop.out ?_)
local macro_rules | `(tactic| walk_at "call builtin:max") => `(tactic| refine Stop.out ?_)
variable {w : World} {p : Program} {loose : List Str} {mean : ExcName → Option Value} {mg mb : Str → Option Value}
  {dp un : Nat} {gd : Option (List Code)} {cn : Str} {cs : Scope} {a : Addr} {ccd : Value} {cl : List (Str × Addr)} {outer : List Env} {A₀ : Around} {base h₀ : Heap} {L : Addr} {m : Str → Option Value} {s : Shared} {Q E : Value → Shared → Prop}
  {x y : Addr} {d d' : Ws} {ts : Int} {tts : Tok} {news : List (Addr × Obj)}
set_option maxRecDepth 100000
set_option maxHeartbeats 8000000
theorem lawlongest_call (B : Below A₀ base outer h₀) (F : Fr h₀ L s.heap m) (X : (hd.heap_39 w.params).In h₀) (N : News h₀ L s.heap news) (T : Top p loose mean mg mb h₀) (hk : cs.kind = .function)
    (hd : dp + 5 < recursionLimit) (hu : un + 200 < cLine) {lead : Str} {tl : Tok} (hl : lead.length ≤ 12)
    (hret : ∀ (M : Int) (t : Tok) h' tk', lawLongest lead M → Fr h₀ L h' m → News h₀ L h' news → Q (.int M t) { s with heap := h', toks := tk' }) :
    wpAny (model PySem.Challenge.rw_xg0053_01.row.prog w) (ktrTop dp un gd cn cs L a ccd cl outer) (call (.ref 108) [.str lead tl]) Q E s := by
  k_with_none
  refine wpAny_call ?_
  k_dflt cell_enter
  k_steps
  refine Stop.on ?_
  k_dflt (refine LCg.ListComp_U (F₀ := by k_asm) (by rfl) (by decide) (by rfl) (by decide) (by rfl) ?_)
  k_steps
  refine Stop.on ?_
  rename_i l9 h9 k9 e9 s9 b9 i9 F9 N9
  refine src_map (fun i y => ∃ r t, (Txt.split lead (Str.ofString "\t"))[i]? = some r ∧ y = Value.int (r.length : Int) t) (by rfl) (by k_asm) N9 (by k_mem) (by size_fits) ?_ ?_
  · intro i v I oI C oC D m₂ ys h tk E' hi hv hC hx F8 N8 off
    rw [e9] at s9 b9
    have hv' : (strValues l9)[i]? = some v := by simpa using hv
    obtain ⟨r, t, hr, rfl⟩ := strs_get s9 hv'
    have hrl : r.length ≤ 12 := Nat.le_trans (b9 r (List.mem_of_getElem? hr)) hl
    clear hv hv'
    k_steps
    all_goals exact ⟨_, _, rfl, by k_asm, by k_asm, _, _, hr, rfl⟩
  · intro g ys hlen hys
    unfold LCg.FinE
    intro D h tk F8 N8 o8
    dsimp only
    rw [List.size_toArray, StrsAre.length s9, e9] at hlen
    obtain ⟨ns, hi, hns⟩ : ∃ ns, IntsAre ys ns ∧ ns = (Txt.split lead (Str.ofString "\t")).map fun r => (r.length : Int) := by
      exact ⟨_, ints_of hlen hys, rfl⟩
    have hne : 0 < ns.length := by rw [hns, List.length_map]; exact split_pos
    k_steps
    refine Stop.on ?_
    refine kso_max F8 N8 ⟨_, (N8 _ (.head _)).1, rfl, _, rfl⟩ hi hne (by with_unfolding_all rfl) ?_
    intro h7 M t7 tk7 F7 N7 hM hM'
    k_steps
    all_goals (refine hret _ _ _ _ ?e0 ?e1 ?e2; (case e1 => k_asm); (case e2 => (refine cb_drop (by k_asm) ?_; intro p9 h9; simp only [List.mem_append, List.mem_cons]; simp only [h9, true_or, or_true])); (case e0 => exact longest_says hns hM hM'))
end
end Mine
end
section
open PySem PySem.W PyProof.Rows PySem.Calls
namespace Mine

def stepOf (z p : Int) (c : Nat) : Int := if c = 32 then p + 1 else (p.fdiv z + 1) * z
def reach (z : Int) (lead : Str) : Int := lead.cps.toList.foldl (stepOf z) 0
theorem step1 {z p : Int} {c : Nat} (h : ((⟨#[c]⟩ : Str) == Str.ofString " ") = true) : stepOf z p c = p + 1 := by
  have h' : (⟨#[c]⟩ : Str) = Str.ofString " " := eq_of_beq h
  have e : c = 32 := by
    have := congrArg Str.cps h'
    have e2 : (Str.ofString " ").cps = #[32] := by decide +kernel
    rw [e2] at this
    simpa using this
  unfold stepOf; rw [if_pos e]
theorem step2 {z p : Int} {c : Nat} (h : ((⟨#[c]⟩ : Str) == Str.ofString " ") = false) : stepOf z p c = (p.fdiv z + 1) * z := by
  have h' : (⟨#[c]⟩ : Str) ≠ Str.ofString " " := by simpa using h
  unfold stepOf; rw [if_neg ?_]
  intro e; subst e
  exact h' (by decide +kernel)
theorem step_say {f : Option Value} {z p v : Int} {c : Nat} {t : Tok} (h : stepOf z p c = v) (e : f = some (.int v t)) : f = some (.int (stepOf z p c) t) := by rw [h]; exact e
/-- the table of _law_reach's constants: empty, or with its lambda's code object in it -/
def LamTab (news : List (Addr × Obj)) (ps : Array Value) : Prop := ps = #[] ∨ ∃ c' oc vs t, ps = #[rawInt 90, rawInt 18, .ref c'] ∧ (c', oc) ∈ news ∧ oc.data = .fields vs ∧ vs[1]? = some (.str (Str.ofString "_law_reach" ++ Str.ofString ".<locals>." ++ Str.ofString "<lambda>") t)
section
variable {prog : Program} {w : World} {A : Around} {E : Value → Shared → Prop} {s : Shared} {h₀ : Heap} {L : Addr} {m : Str → Option Value} {news : List (Addr × Obj)} {Q : Value → Shared → Prop}
theorem iter_text {x : Str} {t : Tok} (F : Fr h₀ L s.heap m) (N : News h₀ L s.heap news)
    (h : ∀ (I : Addr) (o : Obj) (St : Nat → Heap → Prop), I = s.heap.objs.size → (∀ A' : Around, A'.handled = none → Walks prog w A' I [I] [I] x.cps.size (SignAt x) St) → St 0 (s.heap.push o) → Fr h₀ L (s.heap.push o) m → News h₀ L (s.heap.push o) ((I, o) :: news) → (∀ p ∈ news, p.1 < I) → Q (.ref I) { s with heap := s.heap.push o }) :
    wpAny (model prog w) A (call (.builtin "iter") [.str x t]) Q E s := by
  refine call_function_entry (by decide +kernel) (by decide +kernel) kdk_entry_iter (kdk_args_iter _) ?_
  unfold Builtin.«iter»
  refine wpAny_bind (m := someArgs "iter" 1 2 _) (wpAny_of_eq (a := [Value.str x t]) (by first | rfl | kernel_rfl!) ?_)
  show wpAny _ _ (pyIter (.str x t) >>= _) _ _ _
  cases ha : x.cps.all (· < 128)
  · refine wpAny_bind (wpAny_pyIter_wide ha ?_)
    exact wpAny_pure ⟨_, rfl, h _ _ _ rfl (fun A' hA => Walks.strWide hA _ x t) ⟨_, Heap.get?_push_size _ rfl, rfl, rfl⟩ (F.push _) (News.push F N _ rfl) (fun q hq => Heap.lt_size (N q hq).1)⟩
  · refine wpAny_bind (wpAny_pyIter_ascii ha ?_)
    exact wpAny_pure ⟨_, rfl, h _ _ _ rfl (fun A' hA => Walks.strAscii hA _ x t) ⟨_, Heap.get?_push_size _ rfl, rfl, rfl⟩ (F.push _) (News.push F N _ rfl) (fun q hq => Heap.lt_size (N q hq).1)⟩
theorem st_at {I : Addr} {oI : Obj} {n : Nat} {P : Nat → Value → Prop} {St : Nat → Heap → Prop} {A : Around} {h : Heap} (W : Walks prog w A I [I] [I] n P St) (hst : St 0 h) (e : h.get? I = some oI) : ∀ h', h'.get? I = some oI → St 0 h' :=
  fun h' e' => W.frame 0 h h' hst fun b hb o eb => by rw [List.mem_singleton.mp hb] at eb ⊢; rw [e] at eb; cases eb; exact e'
theorem for_text {E : Value → Shared → Prop} {env : Env} {body : List Stmt} {Q : Flow → Shared → Prop} {lead x y : Str} {St : Nat → Heap → Prop} {I : Addr} {oI : Obj} {m₀ : Str → Option Value} {c₀ : Int} {t₀ : Tok} (g : Int → Nat → Int)
    (hh : A.handled = none) (W : Walks prog w A I [I] [I] lead.cps.size (SignAt lead) St) (hSt : ∀ h, h.get? I = some oI → St 0 h)
    (F : Fr h₀ env.locals s.heap m₀) (N : News h₀ env.locals s.heap ((I, oI) :: news)) (hIn : ∀ p ∈ news, p.1 < I) (hy : m₀ y = some (.int c₀ t₀))
    (turn : ∀ (a : Int) ta (c : Nat) t h tk own, OwnOff own (news.map (·.1)) → Fr h₀ env.locals h (fun z => if z = x then some (.str ⟨#[c]⟩ t) else if z = y then some (.int a ta) else m₀ z) → News h₀ env.locals h (news ++ own) →
      wpAny (model prog w) A (execs body env) (InvPostN h₀ env.locals (fun m' nx => nx = news ∧ (∃ t', m' y = some (.int (g a c) t')) ∧ ∀ z, z ≠ x → z ≠ y → m' z = m₀ z) own (news.map (·.1)) { s with heap := h, toks := tk } Q) E { s with heap := h, toks := tk })
    (done : ∀ (u : Str → Option Value) t h tk, Fr h₀ env.locals h (fun z => if z = x then u z else if z = y then some (.int (lead.cps.toList.foldl g c₀) t) else m₀ z) → News h₀ env.locals h news → Q .next { s with heap := h, toks := tk }) :
    wpAny (model prog w) A (pyIter (.ref I)) (fun it s₂ => LoopAtV prog w A h₀ env x body Q E it s₂) E s := by
  have hI := N _ (.head _)
  have off : ∀ p ∈ news, p.1 ∉ [I] := fun p hp q => by
    have e : p.1 = I := List.mem_singleton.mp q
    exact absurd (e ▸ hIn p hp) (Nat.lt_irrefl _)
  refine W.self 0 _ _ _ (hSt _ hI.1) (loop_invN (fun i m nx => nx = news ∧ (∃ t, m y = some (.int ((lead.cps.toList.take i).foldl g c₀) t)) ∧ ∀ z, z ≠ x → z ≠ y → m z = m₀ z) W ?_ ?_ off off (hSt _ hI.1) F (fun p hp => N p (.tail _ hp)) ⟨rfl, ⟨t₀, hy⟩, fun _ _ _ => rfl⟩ ?_ ?_)
  · intro q
    exact hI.2.1 (List.mem_singleton.mp q).symm
  · intro b hb
    rw [List.mem_singleton.mp hb]; exact hI.2.2
  · rintro i v m₁ nx h tk own hi ⟨n, u, hn, rfl⟩ _ hoff ⟨rfl, ⟨ta, ha⟩, hm⟩ F₁ N₁
    rw [map_one ha hm] at F₁
    have hs : (lead.cps.toList.take (i + 1)).foldl g c₀ = g ((lead.cps.toList.take i).foldl g c₀) n := by
      have e : lead.cps.toList[i]? = some n := by simpa using hn
      rw [List.take_add_one, e, List.foldl_append]; rfl
    rw [hs]
    exact turn _ ta n u h tk own hoff F₁ N₁
  · rintro m₁ nx h tk ⟨rfl, ⟨t, ha⟩, hm⟩ F₁ N₁
    have hl : lead.cps.toList.take lead.cps.size = lead.cps.toList := List.take_of_length_le (by simp)
    rw [hl] at ha
    refine done m₁ t h tk ?_ N₁
    rw [done_one ha hm]; exact F₁
end
section
local macro_rules | `(tactic| walk_at "compareOp Is int ref") => `(tactic| refine wpAny_is_other (by rfl) (by intro x; cases x) ?_)
local macro_rules | `(tactic| walk_at "exec For Name Name cons nil") => `(tactic| (k_here; (rename Fr _ _ _ _ => lF'); (with_unfolding_all refine' For_invVF lF' ?k1 ?k2 ?_; (case k1 => exact rfl); (case k2 => exact rfl); k_whole)))
local macro_rules | `(tactic| walk_at "eval Lambda") => `(tactic| refine Stop.out ?_)
local macro_rules | `(tactic| walk_at "call ref") => `(tactic| refine Stop.out ?_)
local macro_rules | `(tactic| walk_at "call builtin:iter") => `(tactic| refine Stop.out ?_)
local macro_rules | `(tactic| walk_at "pyIter ref") => `(tactic| refine Stop.out ?_)
local macro_rules | `(tactic| walk_at "InvEndN") => `(tactic| refine Stop.out ?_)
variable {w : World} {p : Program} {loose : List Str} {mean : ExcName → Option Value} {mg mb : Str → Option Value}
  {dp un : Nat} {gd : Option (List Code)} {cn : Str} {cs : Scope} {a : Addr} {ccd : Value} {cl : List (Str × Addr)} {outer : List Env} {A₀ : Around} {base h₀ : Heap} {L : Addr} {m : Str → Option Value} {s : Shared} {Q E : Value → Shared → Prop}
  {x y : Addr} {d d' : Ws} {ts : Int} {tts : Tok} {news : List (Addr × Obj)}
set_option maxRecDepth 100000
set_option maxHeartbeats 8000000
theorem reach_call {rest : List (Addr × Obj)} {ps : Array Value} (B : Below A₀ base outer h₀) (F : Fr h₀ L s.heap m) (X : (hd.heap_39 w.params).In h₀) (N : News h₀ L s.heap ((98, tabObj ps) :: rest)) (T : Top p loose mean mg mb h₀) (hk : cs.kind = .function)
    (hd : dp + 5 < recursionLimit) (hu : un + 200 < cLine) (C : CodeHd h₀ 102 98) (hps : LamTab rest ps) (hoff : ∀ p ∈ rest, p.1 ≠ 98) {lead : Str} {tl : Tok} (hl : lead.length ≤ 12) {z : Int} {tz : Tok} (hz : 1 ≤ z ∧ z ≤ 14)
    (hret : ∀ ps' tl t h' tk', (LamTab tl ps' ∨ ps' = ps) → (∀ p ∈ tl, p.1 ≠ 98) → (∀ p ∈ tl, ∀ q ∈ rest, @LT.lt Nat _ q.1 p.1) → Fr h₀ L h' m → News h₀ L h' ((98, tabObj ps') :: (tl ++ rest)) → Q (.int (reach z lead) t) { s with heap := h', toks := tk' }) :
    wpAny (model PySem.Challenge.rw_xg0053_01.row.prog w) (ktrTop dp un gd cn cs L a ccd cl outer) (call (.ref 103) [.str lead tl, .int z tz]) Q E s := by
  k_with_none
  refine wpAny_call ?_
  k_dflt ((refine' code_defC ?k1 ?k2 ?k3 ?k4 ?k5 ?kA ?kF ?kK ?k6 ?k7 ?k8 ?k9 ?kB ?kD ?_ ?c2 ?c3 ?c4; (case kA => exact rfl); (case kF => exact rfl); (case kK => assumption); (case k1 => k_asm); (case k2 => k_asm); (case k3 => k_asm); (case k4 => k_asm); (case k5 => k_asm); (case k6 => k_is); (case k7 => k_is); (case k8 => ktr_room); (case k9 => exact BindsTo.of_eq rfl); (case kB => exact rfl); (case kD => decide +kernel); (case c2 => exact rfl); (case c3 => exact rfl); (case c4 => exact rfl); k_whole; intro g' L' h' tk' cells' FG' F' N' Y' B' X' T' l1; k_cells Y'; (try simp only [List.cons_append, List.nil_append] at N'); (try dsimp only); (try k_lift B'); (try k_fold)))
  have C9 := CodeHd.keeps C (Fr.keep FG')
  have o1 : L' + 1 ≠ 98 := (Nat.ne_of_lt (Nat.lt_succ_of_lt (l1 _ (.head _)))).symm
  have fin1 : ∀ {h7 : Heap} {t6 : Tok} {tk6 : Tok} {nn tl : List (Addr × Obj)} {ps' : Array Value}, Fr h₀ L h7 m → News h₀ L h7 nn → (∀ p ∈ (98, tabObj ps') :: (tl ++ rest), p ∈ nn) → (LamTab tl ps' ∨ ps' = ps) → (∀ p ∈ tl, p.1 ≠ 98) → (∀ p ∈ tl, ∀ q ∈ rest, @LT.lt Nat _ q.1 p.1) → Q (Value.int (List.foldl (stepOf z) 0 lead.cps.toList) t6) { heap := h7, gens := s.gens, drawn := s.drawn, toks := tk6, os := s.os } :=
    fun F1 N1 hs h1 h2 h3 => hret _ _ _ _ _ h1 h2 h3 F1 (cb_drop N1 hs)
  rcases hps with hps | ⟨c', oc', vs', t', rfl, hc1, hc2, hc3⟩
  · subst hps
    k_steps
    refine Stop.on ?_
    k_dflt (refine' kla_eval ?d0 ?_; (case d0 => exact rfl))
    (k_dflt (refine' kla_nest ?F ?N ?T ?C ?cd ?U ?t ?n ?cl ?_; (case F => k_asm); (case N => k_asm); (case T => k_asm); (case cd => exact rfl); (case C => kn_code); (case U => exact UpdF.tail o1 (UpdF.head hoff)); (case t => kn_triples); (case n => kn_among); (case cl => exact rfl); k_whole); intro f' c' oc' vs' t' ct' h' tk' F' N' d1' d2' l1 l2; (try dsimp only at N'))
    have c98 : c' ≠ 98 := (Nat.ne_of_lt (l1 _ (.tail _ (.head _)))).symm
    k_steps
    refine Stop.on ?_
    refine wpAny_call ?_
    k_dflt (refine' code_def ?k1 ?k2 ?k3 ?k4 ?k5 ?kA ?kF ?kK ?k6 ?k7 ?k8 ?k9 ?kB ?_ ?c2 ?c3 ?c4 ?c5; (case kA => exact rfl); (case kF => exact rfl); (case kK => exact rfl); (case k1 => k_asm); (case k2 => k_asm); (case k3 => k_asm); (case k4 => k_asm); (case k5 => k_asm); (case k6 => k_is); (case k7 => k_is); (case k8 => ktr_room); (case k9 => exact binds_K (by k_in) rfl (by k_is) rfl rfl rfl); (case c5 => decide); (case kB => exact locs rfl); (case c2 => exact rfl); (case c3 => exact rfl); (case c4 => exact rfl); k_whole; intro g8 L8 h8 FG8 F8 N8 B8 X8 T8; (try dsimp only); (try k_lift B8); (try k_fold))
    k_steps
    refine Stop.on ?_
    refine iter_text (by k_asm) (by k_asm) ?_
    intro I oI St hI hW hSt F7 N7 l7
    have hSt' := st_at (hW (ktrTop dp un gd cn cs L a ccd cl outer) (by rfl)) hSt (N7 _ (.head _)).1
    k_steps
    refine Stop.on ?_
    rename News _ _ _ _ => N5
    rename Fr _ _ _ _ => F5
    with_unfolding_all refine' for_text (y := Str.ofString "value") (stepOf z) ?hh ?W hSt' ?F ?N l7 ?hy ?_ ?_
    case F => exact F5
    case N => exact N5
    case hh => rfl
    case W => exact hW _ rfl
    case hy => rfl
    · intro a6 ta6 c6 t6 h6 tk6 own6 ho6 F6 N6
      k_steps
      refine Stop.on ?_
      refine wpAny_call ?_
      k_dflt (refine' kla_code ?k1 ?k2 ?k3 ?k4 ?k5 ?kA ?kF ?kK ?k6 ?k7 ?k8 ?k9 ?kB ?_ ?c2 ?c3 ?c4 ?c5; (case kA => exact rfl); (case kF => exact rfl); (case kK => exact rfl); (case k1 => k_asm); (case k2 => k_asm); (case k3 => k_asm); (case k4 => k_asm); (case k5 => k_asm); (case k6 => k_mem); (case k7 => exact codeRec_news (by k_asm) (by k_mem) (by assumption) (by assumption)); (case k8 => ktr_room); (case k9 => exact rfl); (case c5 => decide); (case kB => exact locs rfl); (case c2 => exact rfl); (case c3 => exact rfl); (case c4 => exact rfl); k_whole; intro g' L' h' FG' F' N' B' X' T'; (try dsimp only); (try k_lift B'); (try k_fold))
      k_steps
      all_goals (
        refine Stop.on ?_
        refine InvEndN.intro (by k_asm) (by k_asm) ⟨rfl, ⟨_, step_say (by first | exact step1 (by assumption) | exact step2 (by assumption)) rfl⟩, by (intro z9 h9 h9'; first | rfl | (simp [h9, h9']; done))⟩ (by rfl) ?e1 ?e2
        (case e1 => (intro p9 h9; repeat (first | exact List.mem_append_left _ h9 | (rcases List.mem_cons.mp h9 with h9 | h9; (rw [h9]; exact .head _); refine .tail _ ?_))))
        (case e2 => (intro p9 h9; repeat (first | exact List.mem_append_right _ h9 | refine .tail _ ?_))))
    · intro u6 t6 h6 tk6 F6 N6
      k_steps
      all_goals (refine fin1 (tl := [(c', oc')]) (ps' := #[rawInt 90, rawInt 18, .ref c']) (by k_asm) (by k_asm) ?e1 (.inl (.inr ⟨c', oc', vs', t', rfl, .head _, d1', d2'⟩)) ?e2 (fun p9 h9 q9 g9 => by rw [List.mem_singleton.mp h9]; exact l1 q9 (.tail _ (.tail _ g9))); (case e1 => (intro p9 h9; (try simp only [List.mem_append, List.mem_cons, List.not_mem_nil, List.nil_append, List.cons_append, or_false, false_or] at h9 ⊢); rcases h9 with h9 | h9 | h9 <;> simp [h9])); (case e2 => (intro p9 h9; rw [List.mem_singleton.mp h9]; exact c98)))
  · skip
    k_steps
    refine Stop.on ?_
    k_dflt (refine' kla_eval ?d0 ?_; (case d0 => exact rfl))
    (k_dflt (refine' kla_hit ?F ?N ?T ?C ?cd ?mem ?t ?n ?cl ?_; (case F => k_asm); (case N => k_asm); (case T => k_asm); (case cd => exact rfl); (case C => kn_code); (case mem => k_mem); (case t => kn_triples); (case n => kn_hit); (case cl => exact rfl); k_whole); intro f' ct' h' tk' F' N' l1; (try dsimp only at N'))
    k_steps
    refine Stop.on ?_
    refine wpAny_call ?_
    k_dflt (refine' code_def ?k1 ?k2 ?k3 ?k4 ?k5 ?kA ?kF ?kK ?k6 ?k7 ?k8 ?k9 ?kB ?_ ?c2 ?c3 ?c4 ?c5; (case kA => exact rfl); (case kF => exact rfl); (case kK => exact rfl); (case k1 => k_asm); (case k2 => k_asm); (case k3 => k_asm); (case k4 => k_asm); (case k5 => k_asm); (case k6 => k_is); (case k7 => k_is); (case k8 => ktr_room); (case k9 => exact binds_K (by k_in) rfl (by k_is) rfl rfl rfl); (case c5 => decide); (case kB => exact locs rfl); (case c2 => exact rfl); (case c3 => exact rfl); (case c4 => exact rfl); k_whole; intro g8 L8 h8 FG8 F8 N8 B8 X8 T8; (try dsimp only); (try k_lift B8); (try k_fold))
    k_steps
    refine Stop.on ?_
    refine iter_text (by k_asm) (by k_asm) ?_
    intro I oI St hI hW hSt F7 N7 l7
    have hSt' := st_at (hW (ktrTop dp un gd cn cs L a ccd cl outer) (by rfl)) hSt (N7 _ (.head _)).1
    k_steps
    refine Stop.on ?_
    rename News _ _ _ _ => N5
    rename Fr _ _ _ _ => F5
    with_unfolding_all refine' for_text (y := Str.ofString "value") (stepOf z) ?hh ?W hSt' ?F ?N l7 ?hy ?_ ?_
    case F => exact F5
    case N => exact N5
    case hh => rfl
    case W => exact hW _ rfl
    case hy => rfl
    · intro a6 ta6 c6 t6 h6 tk6 own6 ho6 F6 N6
      k_steps
      refine Stop.on ?_
      refine wpAny_call ?_
      k_dflt (refine' kla_code ?k1 ?k2 ?k3 ?k4 ?k5 ?kA ?kF ?kK ?k6 ?k7 ?k8 ?k9 ?kB ?_ ?c2 ?c3 ?c4 ?c5; (case kA => exact rfl); (case kF => exact rfl); (case kK => exact rfl); (case k1 => k_asm); (case k2 => k_asm); (case k3 => k_asm); (case k4 => k_asm); (case k5 => k_asm); (case k6 => k_mem); (case k7 => exact codeRec_news (by k_asm) (by (repeat (first | exact List.mem_append_left _ hc1 | refine .tail _ ?_))) hc2 hc3); (case k8 => ktr_room); (case k9 => exact rfl); (case c5 => decide); (case kB => exact locs rfl); (case c2 => exact rfl); (case c3 => exact rfl); (case c4 => exact rfl); k_whole; intro g' L' h' FG' F' N' B' X' T'; (try dsimp only); (try k_lift B'); (try k_fold))
      k_steps
      all_goals (
        refine Stop.on ?_
        refine InvEndN.intro (by k_asm) (by k_asm) ⟨rfl, ⟨_, step_say (by first | exact step1 (by assumption) | exact step2 (by assumption)) rfl⟩, by (intro z9 h9 h9'; first | rfl | (simp [h9, h9']; done))⟩ (by rfl) ?e1 ?e2
        (case e1 => (intro p9 h9; repeat (first | exact List.mem_append_left _ h9 | (rcases List.mem_cons.mp h9 with h9 | h9; (rw [h9]; exact .head _); refine .tail _ ?_))))
        (case e2 => (intro p9 h9; repeat (first | exact List.mem_append_right _ h9 | refine .tail _ ?_))))
    · intro u6 t6 h6 tk6 F6 N6
      k_steps
      all_goals (refine fin1 (tl := []) (ps' := #[rawInt 90, rawInt 18, .ref c']) (by k_asm) (by k_asm) ?e1 (.inr rfl) ?e2 (fun _ h9 => nomatch h9); (case e1 => (intro p9 h9; (try simp only [List.mem_append, List.mem_cons, List.not_mem_nil, List.nil_append, List.cons_append, or_false, false_or] at h9 ⊢); rcases h9 with h9 | h9 <;> simp [h9])); (case e2 => exact fun _ h9 => nomatch h9))
theorem LamTab.mono {a b : List (Addr × Obj)} {ps : Array Value} (h : LamTab a ps) (hs : ∀ p ∈ a, p ∈ b) : LamTab b ps := by
  rcases h with h | ⟨c', oc, vs, t, h1, h2, h3⟩
  · exact .inl h
  · exact .inr ⟨c', oc, vs, t, h1, hs _ h2, h3⟩
/-- the same, with an object of the caller's own ahead of the table -/
theorem reach_call2 {rest : List (Addr × Obj)} {ps : Array Value} {lR : Addr} {oR : Obj} (B : Below A₀ base outer h₀) (F : Fr h₀ L s.heap m) (X : (hd.heap_39 w.params).In h₀) (N : News h₀ L s.heap ((lR, oR) :: (98, tabObj ps) :: rest)) (T : Top p loose mean mg mb h₀) (hk : cs.kind = .function)
    (hd : dp + 5 < recursionLimit) (hu : un + 200 < cLine) (C : CodeHd h₀ 102 98) (hps : LamTab rest ps) (hR : lR ≠ 98) (hoff : ∀ p ∈ rest, p.1 ≠ 98) {lead : Str} {tl : Tok} (hl : lead.length ≤ 12) {z : Int} {tz : Tok} (hz : 1 ≤ z ∧ z ≤ 14)
    (hret : ∀ ps' tl' t h' tk', (LamTab tl' ps' ∨ ps' = ps) → (∀ p ∈ tl', p.1 ≠ 98) → (∀ p ∈ tl', p.1 ≠ lR) → (∀ p ∈ tl', ∀ q ∈ rest, @LT.lt Nat _ q.1 p.1) → Fr h₀ L h' m → News h₀ L h' ((lR, oR) :: (98, tabObj ps') :: (tl' ++ rest)) → Q (.int (reach z lead) t) { s with heap := h', toks := tk' }) :
    wpAny (model PySem.Challenge.rw_xg0053_01.row.prog w) (ktrTop dp un gd cn cs L a ccd cl outer) (call (.ref 103) [.str lead tl, .int z tz]) Q E s := by
  refine reach_call (rest := (lR, oR) :: rest) B F X (cb_drop N fun p hp => ?_) T hk hd hu C (hps.mono fun p hp => .tail _ hp) (fun p hp => ?_) hl hz ?_
  · rcases List.mem_cons.mp hp with rfl | hp
    · exact .tail _ (.head _)
    · rcases List.mem_cons.mp hp with rfl | hp
      · exact .head _
      · exact .tail _ (.tail _ hp)
  · rcases List.mem_cons.mp hp with rfl | hp
    · exact hR
    · exact hoff p hp
  · intro ps' tl' t h' tk' h1 h2 h3 F' N'
    refine hret ps' tl' t h' tk' h1 h2 (fun p hp => (Nat.ne_of_lt (h3 p hp (lR, oR) (.head _))).symm) (fun p hp q hq => h3 p hp q (.tail _ hq)) F' (cb_drop N' fun p hp => ?_)
    rcases List.mem_cons.mp hp with rfl | hp
    · exact .tail _ (List.mem_append_right _ (.head _))
    · rcases List.mem_cons.mp hp with rfl | hp
      · exact .head _
      · rcases List.mem_append.mp hp with hp | hp
        · exact .tail _ (List.mem_append_left _ hp)
        · exact .tail _ (List.mem_append_right _ (.tail _ hp))
end
end Mine
end
section
open PySem PySem.W PyProof.Rows PySem.Calls
namespace Mine

theorem off_lt {l : List (Addr × Obj)} {d : Addr} (h : ∀ p ∈ l, p.1 < d) : ∀ p ∈ l, p.1 ≠ d := fun p hp => Nat.ne_of_lt (h p hp)
theorem allLt_all {d : Addr} : ∀ {l : List (Addr × Obj)}, AllLt d l → ∀ p ∈ l, p.1 < d
  | [], _, _, h => nomatch h
  | q :: r, x, p, h => by
    rcases List.mem_cons.mp h with rfl | h
    · exact x.1
    · exact allLt_all x.2 p h
/-- what __init__ has read so far -/
structure WsSt where
  cnt : List Int
  b : Int
  n : Int
  nt : Int
def WsSt.blank (s : WsSt) : WsSt := { s with b := s.b + 1, n := s.n + 1 }
def WsSt.grown (s : WsSt) : List Int := s.cnt ++ List.replicate (s.b - (s.cnt.length : Int) + 1).toNat 0
def WsSt.tab (s : WsSt) : WsSt := { cnt := s.grown.set s.b.toNat (s.grown.getD s.b.toNat 0 + 1), b := 0, n := s.n + 1, nt := s.nt + 1 }
def WsSt.step (s : WsSt) (c : Nat) : WsSt := if c = 32 then s.blank else s.tab
def WsSt.init : WsSt := ⟨[], 0, 0, 0⟩
def isWs (c : Nat) : Bool := c == 32 || c == 9
def wsRun (cs : List Nat) : WsSt := (cs.takeWhile isWs).foldl WsSt.step WsSt.init
theorem step_bounds (s : WsSt) (c k : Nat) (h : 0 ≤ s.b ∧ s.b ≤ k ∧ s.cnt.length ≤ k ∧ 0 ≤ s.n ∧ s.n ≤ k ∧ 0 ≤ s.nt ∧ s.nt ≤ k) :
    0 ≤ (s.step c).b ∧ (s.step c).b ≤ (k + 1 : Nat) ∧ (s.step c).cnt.length ≤ k + 1 ∧ 0 ≤ (s.step c).n ∧ (s.step c).n ≤ (k + 1 : Nat) ∧ 0 ≤ (s.step c).nt ∧ (s.step c).nt ≤ (k + 1 : Nat) := by
  unfold WsSt.step
  split
  · simp only [WsSt.blank]; omega
  · simp only [WsSt.tab, WsSt.grown, List.length_set, List.length_append, List.length_replicate]; omega
theorem fold_bounds (cs : List Nat) : let s := cs.foldl WsSt.step WsSt.init
    0 ≤ s.b ∧ s.b ≤ (cs.length : Nat) ∧ s.cnt.length ≤ cs.length ∧ 0 ≤ s.n ∧ s.n ≤ (cs.length : Nat) ∧ 0 ≤ s.nt ∧ s.nt ≤ (cs.length : Nat) := by
  have key : ∀ (cs : List Nat) (s : WsSt) (k : Nat), (0 ≤ s.b ∧ s.b ≤ k ∧ s.cnt.length ≤ k ∧ 0 ≤ s.n ∧ s.n ≤ k ∧ 0 ≤ s.nt ∧ s.nt ≤ k) →
      0 ≤ (cs.foldl WsSt.step s).b ∧ (cs.foldl WsSt.step s).b ≤ (k + cs.length : Nat) ∧ (cs.foldl WsSt.step s).cnt.length ≤ k + cs.length ∧ 0 ≤ (cs.foldl WsSt.step s).n ∧ (cs.foldl WsSt.step s).n ≤ (k + cs.length : Nat) ∧ 0 ≤ (cs.foldl WsSt.step s).nt ∧ (cs.foldl WsSt.step s).nt ≤ (k + cs.length : Nat) := by
    intro cs
    induction cs with
    | nil => intro s k h; simpa using h
    | cons c r ih =>
      intro s k h
      have := ih (s.step c) (k + 1) (step_bounds s c k h)
      simp only [List.foldl_cons, List.length_cons]
      omega
  have := key cs WsSt.init 0 (by simp [WsSt.init])
  simpa using this
theorem take_while_here {cs : List Nat} {i c : Nat} (hc : cs[i]? = some c) (hs : ∀ k ∈ cs.take i, isWs k = true) (hn : isWs c = false) : cs.takeWhile isWs = cs.take i := by
  induction cs generalizing i with
  | nil => simp at hc
  | cons k r ih =>
    cases i with
    | zero => simp at hc; subst hc; simp [List.takeWhile_cons, hn]
    | succ i =>
      have hk : isWs k = true := hs k (by simp)
      simp only [List.takeWhile_cons, hk, if_true, List.take_succ_cons]
      rw [ih (by simpa using hc) (fun q hq => hs q (by simp [hq]))]
theorem take_while_all {cs : List Nat} (hs : ∀ k ∈ cs, isWs k = true) : cs.takeWhile isWs = cs := by
  induction cs with
  | nil => rfl
  | cons k r ih => simp only [List.takeWhile_cons, hs k (.head _), if_true]; rw [ih fun q hq => hs q (.tail _ hq)]
def WsJ (base : List (Addr × Obj)) (m₀ : Str → Option Value) (st : WsSt) (m : Str → Option Value) (nx : List (Addr × Obj)) : Prop :=
  ∃ l vs k tb tn tnt, nx = (l, W.listOf vs.toArray k) :: base ∧ (∀ p ∈ base, p.1 < l) ∧ IntsAre vs st.cnt ∧ m (Str.ofString "count") = some (.ref l) ∧ m (Str.ofString "b") = some (.int st.b tb) ∧ m (Str.ofString "n") = some (.int st.n tn) ∧ m (Str.ofString "nt") = some (.int st.nt tnt) ∧
    ∀ z, z ≠ Str.ofString "ch" → z ≠ Str.ofString "count" → z ≠ Str.ofString "b" → z ≠ Str.ofString "n" → z ≠ Str.ofString "nt" → m z = m₀ z
def wsMap (m₀ : Str → Option Value) (l : Addr) (b n nt : Value) (z : Str) : Option Value :=
  if z = Str.ofString "count" then some (.ref l) else if z = Str.ofString "b" then some b else if z = Str.ofString "n" then some n else if z = Str.ofString "nt" then some nt else m₀ z
theorem map_ws {m₁ m₀ : Str → Option Value} {l : Addr} {b n nt : Value} (f : Str → Option Value) (h1 : m₁ (Str.ofString "count") = some (.ref l)) (h2 : m₁ (Str.ofString "b") = some b) (h3 : m₁ (Str.ofString "n") = some n) (h4 : m₁ (Str.ofString "nt") = some nt)
    (hm : ∀ z, z ≠ Str.ofString "ch" → z ≠ Str.ofString "count" → z ≠ Str.ofString "b" → z ≠ Str.ofString "n" → z ≠ Str.ofString "nt" → m₁ z = m₀ z) :
    (fun z => if z = Str.ofString "ch" then f z else m₁ z) = fun z => if z = Str.ofString "ch" then f z else wsMap m₀ l b n nt z := by
  funext z
  by_cases e0 : z = Str.ofString "ch"
  · rw [if_pos e0, if_pos e0]
  rw [if_neg e0, if_neg e0]
  unfold wsMap
  by_cases e1 : z = Str.ofString "count"
  · rw [if_pos e1, e1, h1]
  rw [if_neg e1]
  by_cases e2 : z = Str.ofString "b"
  · rw [if_pos e2, e2, h2]
  rw [if_neg e2]
  by_cases e3 : z = Str.ofString "n"
  · rw [if_pos e3, e3, h3]
  rw [if_neg e3]
  by_cases e4 : z = Str.ofString "nt"
  · rw [if_pos e4, e4, h4]
  rw [if_neg e4]
  exact hm z e0 e1 e2 e3 e4
section
variable {prog : Program} {w : World} {A : Around} {E : Value → Shared → Prop} {s : Shared} {env : Env} {h₀ : Heap} {x : Str} {body : List Stmt} {Q : Flow → Shared → Prop}
theorem text_loop {xt : Str} {tx : Tok} {m₀ : Str → Option Value} {news : List (Addr × Obj)} (J : Nat → (Str → Option Value) → List (Addr × Obj) → Prop)
    (hh : A.handled = none) (F : Fr h₀ env.locals s.heap m₀) (N : News h₀ env.locals s.heap news) (hj : J 0 m₀ news)
    (turn : ∀ i c t m₁ nx h tk own, xt.cps[i]? = some c → OwnOff own (nx.map (·.1)) → J i m₁ nx → Fr h₀ env.locals h (fun y => if y = x then some (.str ⟨#[c]⟩ t) else m₁ y) → News h₀ env.locals h (nx ++ own) →
      wpAny (model prog w) A (execs body env) (InvPostG h₀ env.locals (J (i + 1)) own { s with heap := h, toks := tk } Q) E { s with heap := h, toks := tk })
    (done : ∀ m₁ nx h tk, J xt.cps.size m₁ nx → Fr h₀ env.locals h m₁ → News h₀ env.locals h nx → Q .next { s with heap := h, toks := tk }) :
    wpAny (model prog w) A (pyIter (.str xt tx)) (fun it s₂ => LoopAtV prog w A h₀ env x body Q E it s₂) E s := by
  have hLf : env.locals ∉ [s.heap.objs.size] := fun hm => absurd F.ns.lt ((List.mem_singleton.mp hm) ▸ Nat.lt_irrefl _)
  have hwr : ∀ b ∈ [s.heap.objs.size], h₀.get? b = none := fun b hb => by rw [List.mem_singleton.mp hb]; exact next_is_new F
  have hnw : ∀ p ∈ news, p.1 ∉ [s.heap.objs.size] := fun p hp hI => absurd (Heap.lt_size (N p hp).1) ((List.mem_singleton.mp hI) ▸ Nat.lt_irrefl _)
  have tn : ∀ i v m₁ nx h tk own, i < xt.cps.size → SignAt xt i v → OwnOff own (nx.map (·.1)) → J i m₁ nx → Fr h₀ env.locals h (fun y => if y = x then some v else m₁ y) → News h₀ env.locals h (nx ++ own) →
      wpAny (model prog w) A (execs body env) (InvPostG h₀ env.locals (J (i + 1)) own { s with heap := h, toks := tk } Q) E { s with heap := h, toks := tk } := by
    rintro i v m₁ nx h tk own _ ⟨c, u, hc, rfl⟩ ho hJ F₁ N₁
    exact turn i c u m₁ nx h tk own hc ho hJ F₁ N₁
  cases ha : xt.cps.all (· < 128)
  · refine wpAny_pyIter_wide ha ?_
    exact kdr_loop J (Walks.strWide hh s.heap.objs.size xt tx) (fun _ h => h) (fun _ h => h) (fun i h st b hb => by rw [List.mem_singleton.mp hb]; obtain ⟨o, e, _⟩ := st; exact ⟨o, e⟩) hLf hwr hnw ⟨_, Heap.get?_push_size _ rfl, rfl, rfl⟩ (F.push _) (fun p hp => ⟨Heap.get?_push_of_some _ (N p hp).1, (N p hp).2⟩) hj tn done
  · refine wpAny_pyIter_ascii ha ?_
    exact kdr_loop J (Walks.strAscii hh s.heap.objs.size xt tx) (fun _ h => h) (fun _ h => h) (fun i h st b hb => by rw [List.mem_singleton.mp hb]; obtain ⟨o, e, _⟩ := st; exact ⟨o, e⟩) hLf hwr hnw ⟨_, Heap.get?_push_size _ rfl, rfl, rfl⟩ (F.push _) (fun p hp => ⟨Heap.get?_push_of_some _ (N p hp).1, (N p hp).2⟩) hj tn done
theorem ws_loop {xt : Str} {tx : Tok} {m₀ : Str → Option Value} {base : List (Addr × Obj)} {l₀ : Addr} {t1 t2 t3 : Tok} (hlen : xt.length ≤ 27)
    (hh : A.handled = none) (F : Fr h₀ env.locals s.heap m₀) (N : News h₀ env.locals s.heap ((l₀, W.listOf #[] 0) :: base)) (hlo : ∀ p ∈ base, p.1 < l₀)
    (i1 : m₀ (Str.ofString "count") = some (.ref l₀)) (i2 : m₀ (Str.ofString "b") = some (.int 0 t1)) (i3 : m₀ (Str.ofString "n") = some (.int 0 t2)) (i4 : m₀ (Str.ofString "nt") = some (.int 0 t3))
    (turn : ∀ (st : WsSt) (k : Nat) (c : Nat) t l vs kk tb tn tnt h tk own rest, (isWs c = false → wsRun xt.cps.toList = st) → k < 27 → (0 ≤ st.b ∧ st.b ≤ k ∧ st.cnt.length ≤ k ∧ 0 ≤ st.n ∧ st.n ≤ k ∧ 0 ≤ st.nt ∧ st.nt ≤ k) → IntsAre vs st.cnt →
      (∀ p ∈ base, p.1 < l) → (∀ p ∈ rest, p.1 ≠ l) → (∀ p ∈ base, p ∈ rest) → (∀ p ∈ own, p ∈ rest) → OwnOff own (base.map (·.1)) →
      Fr h₀ env.locals h (fun z => if z = Str.ofString "ch" then some (.str ⟨#[c]⟩ t) else wsMap m₀ l (.int st.b tb) (.int st.n tn) (.int st.nt tnt) z) → News h₀ env.locals h ((l, W.listOf vs.toArray kk) :: rest) →
      wpAny (model prog w) A (execs body env) (InvPostG h₀ env.locals (fun m' nx => isWs c = true ∧ WsJ base m₀ (st.step c) m' nx) own { s with heap := h, toks := tk } Q) E { s with heap := h, toks := tk })
    (done : ∀ (u : Str → Option Value) (st : WsSt) l vs kk tb tn tnt h tk, wsRun xt.cps.toList = st → (0 ≤ st.b ∧ st.b ≤ 27 ∧ st.cnt.length ≤ 27 ∧ 0 ≤ st.n ∧ st.n ≤ 27 ∧ 0 ≤ st.nt ∧ st.nt ≤ 27) → IntsAre vs st.cnt → (∀ p ∈ base, p.1 < l) →
      Fr h₀ env.locals h (fun z => if z = Str.ofString "ch" then u z else wsMap m₀ l (.int st.b tb) (.int st.n tn) (.int st.nt tnt) z) → News h₀ env.locals h ((l, W.listOf vs.toArray kk) :: base) → Q .next { s with heap := h, toks := tk }) :
    wpAny (model prog w) A (pyIter (.str xt tx)) (fun it s₂ => LoopAtV prog w A h₀ env (Str.ofString "ch") body Q E it s₂) E s := by
  have hsz : xt.cps.size ≤ 27 := hlen
  refine text_loop (fun i m nx => (∀ k ∈ xt.cps.toList.take i, isWs k = true) ∧ WsJ base m₀ ((xt.cps.toList.take i).foldl WsSt.step WsSt.init) m nx) hh F N ?_ ?_ ?_
  · exact ⟨by simp, l₀, [], 0, t1, t2, t3, rfl, hlo, .nil, i1, i2, i3, i4, fun _ _ _ _ _ _ => rfl⟩
  · rintro i c t m₁ nx h tk own hc hoff ⟨hs, l, vs, k, tb, tn, tnt, rfl, hlt, hi, h1, h2, h3, h4, hm⟩ F₁ N₁
    have hc' : xt.cps.toList[i]? = some c := by simpa using hc
    have hi27 : i < 27 := by
      have : i < xt.cps.toList.length := (List.getElem?_eq_some_iff.mp hc').1
      rw [Array.length_toList] at this; omega
    rw [map_ws (fun _ => some (.str ⟨#[c]⟩ t)) h1 h2 h3 h4 hm] at F₁
    have hb := fold_bounds (xt.cps.toList.take i)
    have hlen : (xt.cps.toList.take i).length = i := by
      rw [List.length_take]
      have : i < xt.cps.toList.length := (List.getElem?_eq_some_iff.mp hc').1
      omega
    rw [hlen] at hb
    have e1 : xt.cps.toList.take (i + 1) = xt.cps.toList.take i ++ [c] := by rw [List.take_add_one, hc']; rfl
    have hno : ∀ p ∈ own, p.1 ≠ l := fun p hp => hoff p hp l (by simp)
    refine wpAny_mono (turn _ i c t l vs k tb tn tnt h tk own (base ++ own) (fun hn => ?_) hi27 hb hi hlt (fun p hp => ?_) (fun p hp => List.mem_append_left _ hp) (fun p hp => List.mem_append_right _ hp) (fun p hp b hb => hoff p hp b (by simp only [List.map_cons]; exact .tail _ hb)) F₁ N₁) (fun f s₂ hq => ?_) fun _ _ e => e
    · unfold wsRun; rw [take_while_here hc' hs hn]
    · rcases List.mem_append.mp hp with hp | hp
      · exact Nat.ne_of_lt (hlt p hp)
      · exact hno p hp
    · have up : InvEndG h₀ env.locals (fun m' nx => isWs c = true ∧ WsJ base m₀ (((xt.cps.toList.take i).foldl WsSt.step WsSt.init).step c) m' nx) own { s with heap := h, toks := tk } s₂ →
          InvEndG h₀ env.locals (fun m nx => (∀ k ∈ xt.cps.toList.take (i + 1), isWs k = true) ∧ WsJ base m₀ ((xt.cps.toList.take (i + 1)).foldl WsSt.step WsSt.init) m nx) own { s with heap := h, toks := tk } s₂ := by
        rintro ⟨h', tk', m', news', nx, e, F', N', a1, a2, a3, hw, hj⟩
        refine ⟨h', tk', m', news', nx, e, F', N', a1, a2, a3, ?_, ?_⟩
        · rw [e1]; intro q hq
          rcases List.mem_append.mp hq with hq | hq
          · exact hs q hq
          · rw [List.mem_singleton.mp hq]; exact hw
        · rw [e1, List.foldl_append]; exact hj
      cases f with
      | ret v => exact hq
      | brk => exact hq
      | next => exact up hq
      | cont => exact up hq
  · rintro m₁ nx h tk ⟨hs, l, vs, k, tb, tn, tnt, rfl, hlt, hi, h1, h2, h3, h4, hm⟩ F₁ N₁
    have hl : xt.cps.toList.take xt.cps.size = xt.cps.toList := List.take_of_length_le (by simp)
    rw [hl] at hs hi h2 h3 h4
    have hb := fold_bounds xt.cps.toList
    rw [Array.length_toList] at hb
    refine done m₁ _ l vs k tb tn tnt h tk (by unfold wsRun; rw [take_while_all hs]) ?_ hi hlt ?_ N₁
    · dsimp only at hb ⊢; omega
    · have := map_ws m₁ h1 h2 h3 h4 hm
      rw [← this]
      have e : (fun z => if z = Str.ofString "ch" then m₁ z else m₁ z) = m₁ := by funext z; split <;> rfl
      rw [e]; exact F₁
end
theorem flat_one {α : Type} (k : Nat) (a : α) : (List.replicate k [a]).flatten = List.replicate k a := by
  induction k with
  | zero => rfl
  | succ k ih => rw [List.replicate_succ, List.flatten_cons, ih]; rfl
theorem sign_is {c : Nat} {d : Nat} {t : Str} (ht : t = ⟨#[d]⟩) (h : ((⟨#[c]⟩ : Str) == t) = true) : c = d := by
  have h' := eq_of_beq h
  rw [ht] at h'
  have := congrArg Str.cps h'
  simpa using this
theorem sign_not {c : Nat} {d : Nat} {t : Str} (ht : t = ⟨#[d]⟩) (h : ((⟨#[c]⟩ : Str) == t) = false) : c ≠ d := by
  intro e; subst e; rw [ht] at h; simp at h
theorem str_blank : Str.ofString " " = ⟨#[32]⟩ := by decide +kernel
theorem str_tab : Str.ofString "\t" = ⟨#[9]⟩ := by decide +kernel
theorem ws_no {c : Nat} (h : ((⟨#[c]⟩ : Str) == Str.ofString " ") = false) (h' : ((⟨#[c]⟩ : Str) == Str.ofString "\t") = false) : isWs c = false := by
  have := sign_not str_blank h
  have := sign_not str_tab h'
  simp [isWs, *]
section
variable {h₀ h' : Heap} {L : Addr} {m' m₀ : Str → Option Value} {news' own base rest : List (Addr × Obj)} {c : Nat} {st st' : WsSt} {s₁ : Shared} {tk : Nat} {l : Addr} {vs : List Value} {k : Nat} {tb tn tnt : Tok}
theorem ws_end (F : Fr h₀ L h' m') (N : News h₀ L h' news') (hc : isWs c = true) (hst : st.step c = st') (hl : (l, W.listOf vs.toArray k) ∈ news') (hr : ∀ p ∈ rest, p ∈ news') (hb : ∀ p ∈ base, p ∈ rest) (ho : ∀ p ∈ own, p ∈ rest)
    (hlt : ∀ p ∈ base, p.1 < l) (hol : ∀ p ∈ rest, p.1 ≠ l) (hoff : OwnOff own (base.map (·.1))) (hi : IntsAre vs st'.cnt)
    (i1 : m' (Str.ofString "count") = some (.ref l)) (i2 : m' (Str.ofString "b") = some (.int st'.b tb)) (i3 : m' (Str.ofString "n") = some (.int st'.n tn)) (i4 : m' (Str.ofString "nt") = some (.int st'.nt tnt))
    (hm : ∀ z, z ≠ Str.ofString "ch" → z ≠ Str.ofString "count" → z ≠ Str.ofString "b" → z ≠ Str.ofString "n" → z ≠ Str.ofString "nt" → m' z = m₀ z) :
    InvEndG h₀ L (fun m' nx => isWs c = true ∧ WsJ base m₀ (st.step c) m' nx) own s₁ { s₁ with heap := h', toks := tk } := by
  refine InvEndG.intro (nx := (l, W.listOf vs.toArray k) :: base) F N ⟨hc, ?_⟩ ?_ ?_ ?_
  · rw [hst]
    exact ⟨l, vs, k, tb, tn, tnt, rfl, hlt, hi, i1, i2, i3, i4, hm⟩
  · intro p hp b hb'
    simp only [List.map_cons, List.mem_cons] at hb'
    rcases hb' with rfl | hb'
    · exact hol p (ho p hp)
    · exact hoff p hp b hb'
  · intro p hp
    rcases List.mem_cons.mp hp with rfl | hp
    · exact hl
    · exact hr p (hb p hp)
  · exact fun p hp => hr p (ho p hp)
end
theorem step_blank {st : WsSt} {c : Nat} (h : ((⟨#[c]⟩ : Str) == Str.ofString " ") = true) : isWs c = true ∧ st.step c = ⟨st.cnt, st.b + 1, st.n + 1, st.nt⟩ := by
  have e := sign_is str_blank h
  subst e
  exact ⟨rfl, rfl⟩
theorem step_tab {st : WsSt} {c : Nat} (h : ((⟨#[c]⟩ : Str) == Str.ofString "\t") = true) : isWs c = true ∧ st.step c = ⟨st.grown.set st.b.toNat (st.grown.getD st.b.toNat 0 + 1), 0, st.n + 1, st.nt + 1⟩ := by
  have e := sign_is str_tab h
  subst e
  exact ⟨rfl, rfl⟩
theorem hi_say {st : WsSt} {l : List Int} {vs : List Value} (e : st.grown = l) (h : IntsAre vs (l.set st.b.toNat (l.getD st.b.toNat 0 + 1))) : IntsAre vs (st.grown.set st.b.toNat (st.grown.getD st.b.toNat 0 + 1)) := by rw [e]; exact h
theorem base_drop {h₀ h : Heap} {L l : Addr} {o : Obj} {base rest : List (Addr × Obj)} (N : News h₀ L h ((l, o) :: rest)) (hs : ∀ p ∈ base, p ∈ rest) : News h₀ L h ((l, o) :: base) := cb_drop N fun p hp => by
  rcases List.mem_cons.mp hp with rfl | hp
  · exact .head _
  · exact .tail _ (hs p hp)
def wsData (lead : Str) : Ws := ⟨(wsRun lead.cps.toList).cnt, (wsRun lead.cps.toList).n, (wsRun lead.cps.toList).nt, (wsRun lead.cps.toList).b⟩
theorem grown_more {st : WsSt} {l : List Int} (h : l = st.cnt ++ (List.replicate (st.b - (st.cnt.length : Int) + 1).toNat [0]).flatten) : st.grown = l := by
  rw [h, flat_one]; rfl
theorem grown_same {st : WsSt} (h : ¬ (st.cnt.length : Int) ≤ st.b) : st.grown = st.cnt := by
  unfold WsSt.grown
  have : (st.b - (st.cnt.length : Int) + 1).toNat = 0 := by omega
  rw [this]; simp
section
local macro_rules | `(tactic| k_all) => `(tactic| first | assumption | (refine off_lt ?_; first | assumption | exact allLt_all (by assumption)))
local macro_rules | `(tactic| walk_at "exec For Name Attribute cons nil") => `(tactic| (k_here; (rename Fr _ _ _ _ => lF'); (with_unfolding_all refine' For_invVF lF' ?k1 ?k2 ?_; (case k1 => exact rfl); (case k2 => exact rfl); k_whole)))
local macro_rules | `(tactic| walk_at "call type:tuple") => `(tactic| (k_here; (with_reducible show wpAny _ _ (call (Value.type _) [Value.ref _]) _ _ _); k_dflt (refine' kde_tupleOf ?k1 ?k2 ?k3 ?k4 ?k5 ?_; (case k1 => k_asm); (case k2 => k_asm); (case k3 => exact News.isList (by k_asm) (by k_mem)); (case k4 => (have hL9 := IntsAre.length (by assumption); simp only [List.size_toArray]; omega)); (case k5 => exact rfl); k_whole); intro D' h' F' N' l1; (try k_lt l1); (try k_sweep)))
local macro_rules | `(tactic| walk_at "exec Break") => `(tactic| refine Stop.out ?_)
local macro_rules | `(tactic| walk_at "pyIter str") => `(tactic| refine Stop.out ?_)
variable {w : World} {p : Program} {loose : List Str} {mean : ExcName → Option Value} {mg mb : Str → Option Value}
  {dp un : Nat} {gd : Option (List Code)} {cn : Str} {cs : Scope} {a : Addr} {ccd : Value} {cl : List (Str × Addr)} {outer : List Env} {A₀ : Around} {base h₀ : Heap} {L : Addr} {m : Str → Option Value} {s : Shared} {Q E : Value → Shared → Prop}
  {x y : Addr} {d d' : Ws} {ts : Int} {tts : Tok} {news : List (Addr × Obj)}
set_option maxRecDepth 100000
set_option maxHeartbeats 8000000
theorem init_call (B : Below A₀ base outer h₀) (F : Fr h₀ L s.heap m) (X : (hd.heap_39 w.params).In h₀) (N : News h₀ L s.heap news) (T : Top p loose mean mg mb h₀) (hk : cs.kind = .function)
    (hd : dp + 5 < recursionLimit) (hu : un + 200 < cLine) {lead : Str} {tl : Tok} (hl : lead.length ≤ 27) (hfit : (wsRun lead.cps.toList).cnt.length ≤ 13) (hb24 : (wsRun lead.cps.toList).b ≤ 24)
    (hret : ∀ (x : Addr) (own : List (Addr × Obj)) h' tk', WsIn own x (wsData lead) → (∀ p ∈ own, ∀ q ∈ news, @LT.lt Nat _ q.1 p.1) → Fr h₀ L h' m → News h₀ L h' (own ++ news) → Q (.ref x) { s with heap := h', toks := tk' }) :
    wpAny (model PySem.Challenge.rw_xg0053_01.row.prog w) (ktrTop dp un gd cn cs L a ccd cl outer) (call (.ref 76) [.str lead tl]) Q E s := by
  k_with_none
  k_dflt ((refine' call_cls ?k1 ?k2 ?k3 ?k4 ?k5 ?k6 ?_; (case k1 => k_asm); (case k2 => k_asm); (case k3 => k_asm); (case k4 => k_is); (case k5 => k_is); (case k6 => k_is); k_whole; intro x1 d1 h1 F1 N1 l1 l2; (try k_lt2 l2)))
  k_dflt cell_enter
  k_steps
  refine Stop.on ?_
  rename News _ _ _ _ => N5
  rename Fr _ _ _ _ => F5
  with_unfolding_all refine' ws_loop hl ?hh ?F ?N ?lo ?i1 ?i2 ?i3 ?i4 ?_ ?_
  case F => exact F5
  case N => exact N5
  case hh => rfl
  case i1 => rfl
  case i2 => rfl
  case i3 => rfl
  case i4 => rfl
  case lo =>
    intro p9 h9
    rename (_ < _ ∧ _ < _ ∧ _ < _ ∧ AllLt _ _) => l5
    obtain ⟨a1, a2, a3, a4⟩ := l5
    rcases List.mem_cons.mp h9 with h9 | h9
    · rw [h9]; exact a1
    · rcases List.mem_cons.mp h9 with h9 | h9
      · rw [h9]; exact a2
      · rcases List.mem_cons.mp h9 with h9 | h9
        · rw [h9]; exact a3
        · exact allLt_all a4 _ h9
  · intro st k c t l vs kk tb tn tnt h tk own rest hend hk hb hi hlt hrest hsub hown hoff F6 N6
    k_steps
    · rename Fr _ _ _ _ => F2
      rename News _ _ _ _ => N2
      rename ((_ == _) = true) => a0
      obtain ⟨e1, e2⟩ := step_blank (st := st) a0
      refine ws_end (rest := rest) F2 N2 e1 e2 (.head _) (fun p9 h9 => .tail _ h9) hsub hown hlt hrest hoff hi rfl rfl rfl rfl ?_
      intro z9 g0 g1 g2 g3 g4
      simp [wsMap, g0, g1, g2, g3, g4]
    · rename Fr _ _ _ _ => F2
      rename News _ _ _ _ => N2
      rename ((_ == _) = true) => a1
      rename (IntsAre (List.set _ _ _) _) => hi2
      rename (_ < _ ∧ _ < _ ∧ _ < _ ∧ AllLt _ _) => l1
      obtain ⟨e1, e2⟩ := step_tab (st := st) a1
      have eg := grown_more (st := st) rfl
      have hi3 := hi_say eg hi2
      refine ws_end (rest := rest) F2 N2 e1 e2 (.head _) (fun p9 h9 => .tail _ (.tail _ (.tail _ (.tail _ h9)))) hsub hown (fun p9 h9 => allLt_all l1.2.2.2 p9 (hsub p9 h9)) (off_lt (allLt_all l1.2.2.2)) hoff hi3 rfl rfl rfl rfl ?_
      intro z9 g0 g1 g2 g3 g4
      simp [wsMap, g0, g1, g2, g3, g4]
    · rename Fr _ _ _ _ => F2
      rename News _ _ _ _ => N2
      rename ((_ == _) = true) => a1
      rename (IntsAre (List.set _ _ _) _) => hi2
      rename (¬ (_ ≤ _)) => a2
      obtain ⟨e1, e2⟩ := step_tab (st := st) a1
      have eg := grown_same (st := st) a2
      have hi3 := hi_say eg hi2
      refine ws_end (rest := rest) F2 N2 e1 e2 (.head _) (fun p9 h9 => .tail _ h9) hsub hown hlt hrest hoff hi3 rfl rfl rfl rfl ?_
      intro z9 g0 g1 g2 g3 g4
      simp [wsMap, g0, g1, g2, g3, g4]
    · refine Stop.on ?_
      rename ((_ == Str.ofString " ") = false) => a0
      rename ((_ == Str.ofString "\t") = false) => a1
      have hrun := hend (ws_no a0 a1)
      have N7 := base_drop N6 hsub
      clear N6
      subst hrun
      k_lt hlt
      refine wpAny_Break ?_
      k_steps
      all_goals (
        rename (News h₀ L _ _) => N9
        rename (Fr h₀ L _ _) => F9
        refine hret x1 [_, _, _, _, _, _] _ _ ?W ?o F9 N9
        case W => exact ⟨d1, _, _, (_, _), (_, _), (_, _), (_, _), (_, _), _, _, _, _, _, ⟨.tail _ (.tail _ (.tail _ (.tail _ (.head _)))), .tail _ (.tail _ (.tail _ (.tail _ (.tail _ (.head _))))), .head _, .tail _ (.head _), hi, (by rw [IntsAre.length hi]; exact hfit), ⟨hb.1, hb24⟩⟩⟩
        case o =>
          intro p9 h9 q9 hq9
          have hq : @LT.lt Nat _ q9.1 d1 := l1 q9 hq9
          simp only [List.mem_cons, List.not_mem_nil, or_false] at h9
          rcases h9 with rfl | rfl | rfl | rfl | rfl | rfl <;> (show @LT.lt Nat _ _ _; dsimp only; omega))
  · intro u st l vs kk tb tn tnt h tk hrun hb hi hlt F6 N6
    subst hrun
    k_lt hlt
    k_steps
    all_goals (
      rename (News h₀ L _ _) => N9
      rename (Fr h₀ L _ _) => F9
      refine hret x1 [_, _, _, _, _, _] _ _ ?W ?o F9 N9
      case W => exact ⟨d1, _, _, (_, _), (_, _), (_, _), (_, _), (_, _), _, _, _, _, _, ⟨.tail _ (.tail _ (.tail _ (.tail _ (.head _)))), .tail _ (.tail _ (.tail _ (.tail _ (.tail _ (.head _))))), .head _, .tail _ (.head _), hi, (by rw [IntsAre.length hi]; exact hfit), ⟨hb.1, hb24⟩⟩⟩
      case o =>
        intro p9 h9 q9 hq9
        have hq : @LT.lt Nat _ q9.1 d1 := l1 q9 hq9
        simp only [List.mem_cons, List.not_mem_nil, or_false] at h9
        rcases h9 with rfl | rfl | rfl | rfl | rfl | rfl <;> (show @LT.lt Nat _ _ _; dsimp only; omega))
end
end Mine
end
section
open PySem PySem.W PyProof.Rows PySem.Calls PyProof.Rows.LCg
namespace Mine
section
variable {prog : Program} {w : World} {A : Around} {E : Value → Shared → Prop} {s : Shared} {h₀ : Heap} {L : Addr} {m : Str → Option Value} {env : Env}
def cellO (v : Option Value) : Obj := { cls := .type "cell", data := .cell v }
/-- a comprehension over a range whose own name is a cell (an inner block closes over it) -/
def CellSrc (prog : Program) (w : World) (A : Around) (h₀ : Heap) (L : Addr) (m : Str → Option Value) (env : Env) (elt : PySem.Expr) (x y : Str) (scope : Scope) (cl : List (Str × Addr)) (Q : Flow → Shared → Prop) (xv : Value) (s₁ : Shared) : Prop :=
  ∃ r a b t u v n news, ∃ R : Nat → Value → Prop, xv = .ref r ∧ A.handled = none ∧ Fr h₀ L s₁.heap m ∧ News h₀ L s₁.heap news ∧ IsRange s₁.heap r a b 1 t u v ∧ Builtin.Range.small a b 1 = true ∧ Builtin.Range.rangeSize a b 1 = ((n : Nat) : Int) ∧ n ≤ sizeLine ∧
    (∀ i t I oI C oC c oc D ys h tk (E' : Value → Shared → Prop), i < n → oc.data = .cell (some (.int (a + (i : Nat)) t)) → Fr h₀ L h m → News h₀ L h ((I, oI) :: (C, oC) :: (c, oc) :: (D, lst ys) :: news) →
      wpAny (model prog w) A (eval elt (compEnvC scope ((x, c) :: cl) C env)) (TurnEnd h₀ L m { s₁ with heap := h, toks := tk } ((I, oI) :: (C, oC) :: (c, oc) :: (D, lst ys) :: news) (R i)) E' { s₁ with heap := h, toks := tk }) ∧
    (∀ ys D h tk, ys.length = n → (∀ (j : Nat) (v : Value), ys[j]? = some v → R j v) → Fr h₀ L h (fun z => if z = y then some (.ref D) else m z) → News h₀ L h ((D, lst ys) :: news) → (∀ p ∈ news, p.1 < D) → Q .next { s₁ with heap := h, toks := tk })
theorem news_cons {h : Heap} {a : Addr} {o : Obj} {news : List (Addr × Obj)} (e : h.get? a = some o) (h1 : a ≠ L) (h2 : h₀.get? a = none) (N : News h₀ L h news) : News h₀ L h ((a, o) :: news) := fun p hp => by
  rcases List.mem_cons.mp hp with rfl | hp
  · exact ⟨e, h1, h2⟩
  · exact N p hp
theorem news_same {h h' : Heap} {c : Addr} {news : List (Addr × Obj)} (N : News h₀ L h news) (hs : Heap.SameBut c h h') (off : ∀ p ∈ news, p.1 ≠ c) : News h₀ L h' news := fun p hp => ⟨hs.extBut _ _ (off p hp) (N p hp).1, (N p hp).2⟩
theorem block_cell {elt iter : PySem.Expr} {x : Str} {px : Pos} {scope : Scope} {cl : List (Str × Addr)} {pos : Pos} {s₂ : Shared} {I : Addr} {n : Nat} {a : Int} {news : List (Addr × Obj)} {R : Nat → Value → Prop} {RR : Value → Addr → Result → Shared → Prop}
    (hh : A.handled = none) (hsz : n ≤ sizeLine) (hkind : scope.kind = .function)
    (hpush : ∀ h : Heap, pushCells h scope.names = h.push (cellO none)) (hcf : ∀ a : Nat, cellsFrom a scope.names cl = (x, a) :: cl) (hx : (relabel scope env).names.lookup x = some .cell)
    (hst : IsRangeIter s₂.heap I (a + ((0 : Nat) : Int) * 1) ((n : Int) - ((0 : Nat) : Int)) 1)
    (F : Fr h₀ L s₂.heap m) (N : News h₀ L s₂.heap news) (hIL : L ≠ I) (hI₀ : h₀.get? I = none) (off : ∀ p ∈ news, p.1 ≠ I)
    (turn : ∀ i t I oI C oC c oc D ys h tk (E' : Value → Shared → Prop), i < n → oc.data = .cell (some (.int (a + (i : Nat)) t)) → Fr h₀ L h m → News h₀ L h ((I, oI) :: (C, oC) :: (c, oc) :: (D, lst ys) :: news) →
      wpAny (model prog w) A (eval elt (compEnvC scope ((x, c) :: cl) C env)) (TurnEnd h₀ L m { s₂ with heap := h, toks := tk } ((I, oI) :: (C, oC) :: (c, oc) :: (D, lst ys) :: news) (R i)) E' { s₂ with heap := h, toks := tk })
    (hRR : ∀ D C h tk m' ys, Fr h₀ L h m → News h₀ L h ((D, lst ys) :: news) → (∀ p ∈ news, p.1 < D) → h.Ns C m' → h₀.get? C = none → h₀.get? D = none → C ≠ L → D ≠ L → C ≠ D → (∀ p ∈ news, p.1 ≠ C) → ys.length = n → (∀ (j : Nat) (v : Value), ys[j]? = some v → R j v) → RR (.ref D) C (.ok .next) { s₂ with heap := h, toks := tk }) :
    wpAny (model prog w) A (newList []) (fun acc s₃ => wpAny (model prog w) A (newFunctionEnv scope env.globals cl [] env.qual none .none (some env)) (fun cenv s₄ =>
      codeAny (model prog w) A (.compStart (.ListComp elt [⟨.Name x px, iter, [], 0⟩] scope pos) 0 (.ref I) acc { cenv with scope := relabel scope env }) (RR acc cenv.locals) s₄) E s₃) E s₂ := by
  have W := range_walks (prog := prog) (w := w) (A := A) (I := I) hh a n
  refine wpAny_newObj_type ?_
  simp only [newFunctionEnv, Option.isSome_some, if_true]
  refine wpAny_bind (wpAny_alloc ?_)
  refine wpAny_bind (wpAny_layCells _ (fun name kind cells => by cases hkc : kind == NameKind.cell <;> simp [hkc]) _ _ _ _ ?_)
  rw [hcf, hpush]
  refine wpAny_bind (wpAny_pure (wpAny_pure ?_))
  dsimp only
  have e1 : (s₂.heap.push { cls := .type "list", dict := none, data := .seq ([] : List Value).toArray }).objs.size = s₂.heap.objs.size + 1 := Heap.size_push ..
  generalize hH1 : s₂.heap.push { cls := .type "list", dict := none, data := .seq ([] : List Value).toArray } = H1 at e1 ⊢
  have e2 : (H1.push { cls := .type "dict", data := .dict #[] }).objs.size = H1.objs.size + 1 := Heap.size_push ..
  generalize hH2 : H1.push { cls := .type "dict", data := .dict #[] } = H2 at e2 ⊢
  generalize hD : s₂.heap.objs.size = D at e1 ⊢
  generalize hC : H1.objs.size = C at e1 e2 ⊢
  generalize hc : H2.objs.size = c at e2 ⊢
  generalize hH3 : H2.push (cellO none) = H3
  have k1 : ∀ b o, s₂.heap.get? b = some o → H1.get? b = some o := fun b o e => hH1 ▸ Heap.get?_push_of_some _ e
  have k2 : ∀ b o, H1.get? b = some o → H2.get? b = some o := fun b o e => hH2 ▸ Heap.get?_push_of_some _ e
  have k3 : ∀ b o, H2.get? b = some o → H3.get? b = some o := fun b o e => hH3 ▸ Heap.get?_push_of_some _ e
  have old : ∀ b o, s₂.heap.get? b = some o → H3.get? b = some o := fun b o e => k3 b o (k2 b o (k1 b o e))
  have gD : H3.get? D = some (lst []) := k3 _ _ (k2 _ _ (by rw [← hH1, ← hD]; exact Heap.get?_push_size _ rfl))
  have nC : H2.Ns C (fun _ => none) := by rw [← hH2, ← hC]; exact Heap.Ns.new _ (.type "dict")
  obtain ⟨oC, gC2, nO⟩ := ns_obj nC
  have gC : H3.get? C = some oC := k3 _ _ gC2
  have gc : H3.get? c = some (cellO none) := by rw [← hH3, ← hc]; exact Heap.get?_push_size _ rfl
  have fresh₀ : ∀ b : Nat, D ≤ b → h₀.get? b = none := fun b hb => by
    cases e : h₀.get? b with
    | none => rfl
    | some o' => exact absurd (Heap.lt_size (F.keep b o' e)) (by rw [hD]; exact Nat.not_lt.mpr hb)
  have hLD : L < D := hD ▸ F.ns.lt
  have hID : I < D := hD ▸ Heap.lt_size hst
  have hDC : D < C := by rw [e1]; exact Nat.lt_succ_self _
  have hCc : C < c := by rw [e2]; exact Nat.lt_succ_self _
  have D0 := fresh₀ D (Nat.le_refl _)
  have C0 := fresh₀ C (Nat.le_of_lt hDC)
  have c0 := fresh₀ c (Nat.le_of_lt (Nat.lt_trans hDC hCc))
  have nlt : ∀ p ∈ news, p.1 < D := fun p hp => hD ▸ Heap.lt_size (N p hp).1
  have loop : ∀ s₃ : Shared, s₃ = { s₂ with heap := H3 } →
      codeAny (model prog w) A (.compLoop (.ListComp elt [⟨.Name x px, iter, [], 0⟩] scope pos) 0 (.ref I) (.ref D) (compEnvC scope ((x, c) :: cl) C env))
        (RR (.ref D) C) s₃ := by
    rintro s₃ rfl
    refine codeAny_compLoop_tests
      (fun k s' => ∃ h' tk i ys oc v₀, s' = { s₂ with heap := h', toks := tk } ∧ i ≤ n ∧ k = n + 1 - i ∧ ys.length = i ∧ (∀ (j : Nat) (v : Value), ys[j]? = some v → R j v) ∧ IsRangeIter h' I (a + (i : Nat) * 1) ((n : Int) - (i : Nat)) 1 ∧ Fr h₀ L h' m ∧
        News h₀ L h' ((C, oC) :: (c, oc) :: (D, lst ys) :: news) ∧ oc.data = .cell v₀) ?_ (n + 1)
      ⟨H3, _, 0, [], cellO none, none, rfl, Nat.zero_le _, rfl, rfl, by simp, old _ _ hst, F.keeps old, ?_, rfl⟩
    · rintro k s' ⟨h', tk, i, ys, oc, v₀, rfl, hi, rfl, hyl, hR, hst', F', N', hoc⟩
      by_cases hlt : i < n
      · refine W.item i _ _ _ hlt hst' fun v h₂ tk₂ hPv hst₂ hk₂ => ?_
        obtain ⟨t, rfl⟩ := hPv
        have F₂ := fr_but F' hk₂ hIL hI₀
        have offI : ∀ p ∈ (C, oC) :: (c, oc) :: (D, lst ys) :: news, p.1 ≠ I := fun p hp => by
          rcases List.mem_cons.mp hp with rfl | hp
          · exact (Nat.ne_of_lt (Nat.lt_trans hID hDC)).symm
          rcases List.mem_cons.mp hp with rfl | hp
          · exact (Nat.ne_of_lt (Nat.lt_trans hID (Nat.lt_trans hDC hCc))).symm
          rcases List.mem_cons.mp hp with rfl | hp
          · exact (Nat.ne_of_lt hID).symm
          · exact off p hp
        have N₂ := news_but N' hk₂ offI
        have hcell : h₂.IsCell c v₀ := ⟨oc, (N₂ _ (.tail _ (.head _))).1, hoc⟩
        refine wpAny_assign_Name (wpAny_storeName_cell (by simp [compEnvC, relabel, hkind]) hx (by simp [compEnvC]) hcell (fun h₃ hcell₃ hs₃ => ?_))
        obtain ⟨oc₃, gc₃, hoc₃⟩ := hcell₃
        refine wpAny_tests_nil ?_
        simp only [if_true]
        have F₃ : Fr h₀ L h₃ m := F₂.change hs₃ (Nat.ne_of_lt (Nat.lt_trans hLD (Nat.lt_trans hDC hCc))).symm c0
        have stI : h₃.get? I = h₂.get? I := hs₃.2 I (Nat.ne_of_lt (Nat.lt_trans hID (Nat.lt_trans hDC hCc)))
        have hst₃ : IsRangeIter h₃ I (a + ((i + 1 : Nat) : Int) * 1) ((n : Int) - ((i + 1 : Nat) : Int)) 1 := by
          have : h₂.get? I = some _ := hst₂
          show h₃.get? I = some _
          rw [stI]; exact this
        have N₃ : News h₀ L h₃ ((C, oC) :: (c, oc₃) :: (D, lst ys) :: news) := by
          have gC₃ : h₃.get? C = some oC := hs₃.extBut _ _ (Nat.ne_of_lt hCc) (N₂ _ (.head _)).1
          have gD₃ : h₃.get? D = some (lst ys) := hs₃.extBut _ _ (Nat.ne_of_lt (Nat.lt_trans hDC hCc)) (N₂ _ (.tail _ (.tail _ (.head _)))).1
          refine news_cons gC₃ (Nat.ne_of_lt (Nat.lt_trans hLD hDC)).symm C0 (news_cons gc₃ (Nat.ne_of_lt (Nat.lt_trans hLD (Nat.lt_trans hDC hCc))).symm c0 (news_cons gD₃ (Nat.ne_of_lt hLD).symm D0 ?_))
          exact news_same (fun p hp => N₂ p (.tail _ (.tail _ (.tail _ hp)))) hs₃ fun p hp => Nat.ne_of_lt (Nat.lt_trans (nlt p hp) (Nat.lt_trans hDC hCc))
        have N₃' := news_cons hst₃ hIL.symm hI₀ N₃
        refine wpAny_mono (turn i t I _ C oC c oc₃ D ys h₃ _ _ hlt hoc₃ F₃ N₃') (fun y s₄ h₄ => ?_) fun _ _ e => e
        obtain ⟨h₄, tk₄, rfl, F₄, N₄, r₄⟩ := h₄
        have zI := (N₄ _ (.head _)).1
        have zD := (N₄ _ (.tail _ (.tail _ (.tail _ (.head _))))).1
        refine append_at (hsz := by show ys.toArray.size ≤ sizeLine; rw [List.size_toArray, hyl]; exact Nat.le_trans hi hsz) zD fun h₅ hs₅ hD₅ => ?_
        refine ⟨n + 1 - (i + 1), by omega, h₅, tk₄, i + 1, ys ++ [y], oc₃, _, rfl, hlt, rfl, by rw [List.length_append, List.length_singleton, hyl], ?_, ?_, F₄.change hs₅ (Nat.ne_of_lt hLD).symm D0, ?_, hoc₃⟩
        · intro j z hz
          rcases Nat.lt_trichotomy j ys.length with hk | hk | hk
          · rw [List.getElem?_append_left hk] at hz; exact hR j z hz
          · subst hk; simp at hz; subst hz; rw [hyl]; exact r₄
          · rw [List.getElem?_eq_none (by rw [List.length_append, List.length_singleton]; omega)] at hz; cases hz
        · show h₅.get? I = some _
          rw [hs₅.2 I (Nat.ne_of_lt hID)]; exact zI
        · have gC₅ : h₅.get? C = some oC := hs₅.extBut _ _ (Nat.ne_of_lt hDC).symm (N₄ _ (.tail _ (.head _))).1
          have gc₅ : h₅.get? c = some oc₃ := hs₅.extBut _ _ (Nat.ne_of_lt (Nat.lt_trans hDC hCc)).symm (N₄ _ (.tail _ (.tail _ (.head _)))).1
          refine news_cons gC₅ (Nat.ne_of_lt (Nat.lt_trans hLD hDC)).symm C0 (news_cons gc₅ (Nat.ne_of_lt (Nat.lt_trans hLD (Nat.lt_trans hDC hCc))).symm c0 (news_cons (hD₅.trans (congrArg some (lst_snoc ys y))) (Nat.ne_of_lt hLD).symm D0 ?_))
          exact news_same (fun p hp => N₄ p (.tail _ (.tail _ (.tail _ (.tail _ hp))))) hs₅ fun p hp => Nat.ne_of_lt (nlt p hp)
      · obtain rfl : i = n := Nat.le_antisymm hi (Nat.not_lt.mp hlt)
        refine W.done _ _ _ hst' fun h₂ tk₂ hk₂ => ?_
        have offI : ∀ p ∈ (C, oC) :: (D, lst ys) :: news, p.1 ≠ I := fun p hp => by
          rcases List.mem_cons.mp hp with rfl | hp
          · exact (Nat.ne_of_lt (Nat.lt_trans hID hDC)).symm
          rcases List.mem_cons.mp hp with rfl | hp
          · exact (Nat.ne_of_lt hID).symm
          · exact off p hp
        have N₂ : News h₀ L h₂ ((C, oC) :: (D, lst ys) :: news) := news_but (fun p hp => N' p (by
          rcases List.mem_cons.mp hp with rfl | hp
          · exact .head _
          · exact .tail _ (.tail _ hp))) hk₂ offI
        exact hRR D C h₂ tk₂ _ ys (fr_but F' hk₂ hIL hI₀) (fun p hp => N₂ p (.tail _ hp)) nlt (nO.ns (N₂ _ (.head _)).1) C0 D0 (Nat.ne_of_lt (Nat.lt_trans hLD hDC)).symm (Nat.ne_of_lt hLD).symm (Nat.ne_of_lt hDC).symm
          (fun p hp => Nat.ne_of_lt (Nat.lt_trans (nlt p hp) hDC)) hyl hR
    · refine news_cons gC (Nat.ne_of_lt (Nat.lt_trans hLD hDC)).symm C0 (news_cons gc (Nat.ne_of_lt (Nat.lt_trans hLD (Nat.lt_trans hDC hCc))).symm c0 (news_cons gD (Nat.ne_of_lt hLD).symm D0 ?_))
      exact fun p hp => ⟨old _ _ (N p hp).1, (N p hp).2⟩
  exact codeAny_compStart_list (loop _ rfl) (W.self 0 _ _ _ (old _ _ hst) (loop _ rfl))
/-- the name is stored, the block's frame goes: what the ledger holds stays -/
theorem stored_new {y : Str} {py : Pos} {D C : Addr} {oD : Obj} {m' : Str → Option Value} {news : List (Addr × Obj)} {tk : Tok} {s₁ : Shared} {h' : Heap} {Q : Unit → Shared → Prop} (hy : env.kindOf y = some .local) (hp : (env.scope.kind == .class || (env.scope.kind == .module && env.locals != env.globals)) = false)
    (F : Fr h₀ env.locals h' m) (N : News h₀ env.locals h' ((D, oD) :: news)) (hn : h'.Ns C m') (hC₀ : h₀.get? C = none) (hCL : C ≠ env.locals) (hCD : C ≠ D) (offC : ∀ p ∈ news, p.1 ≠ C)
    (h : ∀ h₂ tk', h₂.Ns C m' → (∀ h'', Heap.SameBut C h₂ h'' → Fr h₀ env.locals h'' (fun z => if z = y then some (.ref D) else m z) ∧ News h₀ env.locals h'' ((D, oD) :: news)) → Q () { s₁ with heap := h₂, toks := tk' }) :
    wpAny (model prog w) A (assign (.Name y py) env (.ref D)) Q E { s₁ with heap := h', toks := tk } := by
  refine wpAny_assign_Name (wpAny_storeName_local hy F.ns (fun h₂ n₂ b₂ => h h₂ _ (hn.sameBut b₂ hCL) fun h'' b'' => ?_) hp)
  have off : ∀ q ∈ (D, oD) :: news, q.1 ≠ C := List.forall_mem_cons.mpr ⟨hCD.symm, offC⟩
  exact ⟨(F.set n₂ b₂).change b'' hCL hC₀, news_same (news_same N b₂ fun q hq => (N q hq).2.1) b'' off⟩
theorem Assign_CellComp {elt iter : PySem.Expr} {x y : Str} {px py : Pos} {scope : Scope} {cl : List (Str × Addr)} {pos spos : Pos} {Q : Flow → Shared → Prop} (F₀ : Fr h₀ L s.heap m) (hLe : env.locals = L)
    (hsw : swapsWith (.ListComp elt [⟨.Name x px, iter, [], 0⟩] scope pos) (some (.Name y py)) spos.line env = pure true)
    (hclos : closureFor scope env = pure cl) (hkind : scope.kind = .function)
    (hpush : ∀ h : Heap, pushCells h scope.names = h.push (cellO none)) (hcf : ∀ a : Nat, cellsFrom a scope.names cl = (x, a) :: cl)
    (hnames : ∀ z ∈ scope.names, z.2 = .local → scope.names.lookup z.1 = some .local) (hx : (relabel scope env).names.lookup x = some .cell)
    (hy : env.kindOf y = some .local) (hp : (env.scope.kind == .class || (env.scope.kind == .module && env.locals != env.globals)) = false)
    (h : wpAny (model prog w) A (eval iter env) (CellSrc prog w A h₀ L m env elt x y scope cl Q) E s)
    (hs : ∀ x, foldedSetIterable iter env x = pure x := by intro _; rfl) :
    wpAny (model prog w) A (exec (.Assign [.Name y py] (.ListComp elt [⟨.Name x px, iter, [], 0⟩] scope pos) spos) env) Q E s := by
  subst hLe
  rw [exec_Assign_Name_used _ _ _ _ hsw]
  have comp : ∀ p9 : Pos, wpAny (model prog w) A (comprehension (.ListComp elt [⟨.Name x px, iter, [], 0⟩] scope pos) scope env p9 (newList []) false (eval iter env) (some (assign (.Name y py) env))) (fun _ s' => Q .next s') E s := fun p9 =>
    wpAny_comprehension_free rfl hs hclos hkind hnames (wpAny_mono h (fun xv s₁ h₁ => ?_) fun _ _ e => e)
  · exact wpAny_bind (wpAny_standAt (wpAny_bind (wpAny_bind (wpAny_mono (comp _) (fun _ _ q => wpAny_pure (wpAny_pure q)) fun _ _ e => e))))
  obtain ⟨r, a, b, t, u, v, n, news, R, rfl, hh, F, N, hr, hsm, hn, hsz, turn, fin⟩ := h₁
  have up : ∀ q o, s₁.heap.get? q = some o → (s₁.heap.push { cls := .type "range_iterator", data := .fields #[rawInt a, rawInt (Builtin.Range.rangeSize a b 1), rawInt 1] }).get? q = some o := fun _ _ e => Heap.get?_push_of_some _ e
  refine wpAny_pyIter_range hr hsm (block_cell hh hsz hkind hpush hcf hx ?_ (F.keeps up) (N.grown up) (Nat.ne_of_lt F.ns.lt) (next_is_new F) (fun p hp => Nat.ne_of_lt (Heap.lt_size (N p hp).1)) turn ?_)
  · have z : (n : Int) - ((0 : Nat) : Int) = n := Int.sub_zero _
    have z' : a + ((0 : Nat) : Int) * 1 = a := by omega
    rw [z, z', ← hn]
    exact Heap.get?_push_size _ rfl
  · intro D C h' tk m' ys F' N' hlt hns hC₀ _ hCL _ hCD offC hlen hR
    refine stored_new (s₁ := s₁) hy hp F' N' hns hC₀ hCL hCD offC fun h₂ tk' n₂ k => ?_
    exact ⟨m', n₂, fun h'' b'' => fin ys D h'' _ hlen hR (k h'' b'').1 (k h'' b'').2 hlt⟩
end
end Mine
end
section
open PySem PySem.W PyProof.Rows PySem.Calls
namespace Mine
theorem step_blank32 (z p : Int) : stepOf z p 32 = p + 1 := by unfold stepOf; rw [if_pos rfl]
theorem step_tab9 (z p : Int) : stepOf z p 9 = (p.fdiv z + 1) * z := by unfold stepOf; rw [if_neg (by decide)]
theorem reach_blanks (z : Int) : ∀ (cs : List Nat) (p : Int), (∀ c ∈ cs, c = 32) → cs.foldl (stepOf z) p = p + cs.length
  | [], p, _ => by simp
  | c :: r, p, h => by
    have hc : c = 32 := h c (.head _)
    subst hc
    rw [List.foldl_cons, step_blank32, reach_blanks z r _ fun q hq => h q (.tail _ hq)]
    simp only [List.length_cons]; omega
theorem col_tab {z : Int} {col : Nat} (hz : 1 ≤ z) : ((col + (z.toNat - col % z.toNat) : Nat) : Int) = ((col : Int).fdiv z + 1) * z := by
  obtain ⟨n, rfl⟩ : ∃ n : Nat, z = n := ⟨z.toNat, by omega⟩
  have hn : 0 < n := by omega
  rw [Int.toNat_natCast, Int.fdiv_eq_ediv_of_nonneg _ (by omega)]
  have h1 := Nat.div_add_mod col n
  have h2 := Nat.mod_lt col hn
  have h3 : col + (n - col % n) = (col / n + 1) * n := by
    rw [Nat.add_mul, Nat.one_mul, Nat.mul_comm (col / n) n]; omega
  rw [h3]; push_cast; rfl
section
variable {prog : Program} {w : World} {A : Around} {E : Value → Shared → Prop} {s : Shared} {Q : Value → Shared → Prop}
set_option maxRecDepth 100000 in
theorem method_expand {M : Model} {x : Str} {t : Tok} {pl : Sem Bool} {Q : Value × List Value → Shared → Prop} (h : Q (.builtin "str.expandtabs", [.str x t]) s) : wpAny M A (getMethod (.str x t) "expandtabs" pl) Q E s := by
  with_reducible exact GM.of (.str x t) (typeIs_str _ _ _) F.slot_str_expandtabs F.type_str_expandtabs GM.noRef h
theorem expand_call {x : Str} {t tz : Tok} {z : Int} (hz : 1 ≤ z ∧ z ≤ 14) (hx : x.length ≤ 12) (hw : ∀ c ∈ x.cps.toList, isWs c = true)
    (hQ : ∀ y t' k, (y.length : Int) = reach z x → y.length ≤ 200 → Q (.str y t') { s with toks := k }) :
    wpAny (model prog w) A (call (.builtin "str.expandtabs") [.str x t, .int z tz]) Q E s := by
  refine wpAny_call_entry F.slot_str_expandtabs (typeIs_str _ _ _) F.entry_str_expandtabs ?_ (F.args_str_expandtabs_2 _ _)
  unfold Builtin.«str.expandtabs»
  refine wpAny_bind (m := Builtin.Str.strSelf _) (wpAny_of_eq (a := (Value.str x t, x, [Value.int z tz])) rfl ?_)
  dsimp only
  refine wpAny_bind (m := Builtin.Str.bindOptional _ _ _ _ _ _) (wpAny_of_eq (a := [some (Value.int z tz)]) (by first | rfl | kernel_rfl!) ?_)
  dsimp only
  refine wpAny_bind (m := asIndex _) (wpAny_of_eq (a := z) rfl ?_)
  rw [if_neg (by simp; omega)]
  by_cases hc : x.cps.contains 9 = true
  · rw [if_neg (by rw [hc]; decide)]
    have inv := forIn_array_ (M := model prog w) (A := A.in1) (E := E) (s := s) (α := Nat) (β := Array Nat × Nat)
      (fun c __s =>
            if (c == 9) = true then
              if Builtin.Str.tooLong (__s.fst.size + if z > 0 then z.toNat - __s.snd % z.toNat else 0) = true then do
                unsupported "str.expandtabs:memory"
                pure
                    (ForInStep.yield
                      (__s.fst ++ Array.replicate (if z > 0 then z.toNat - __s.snd % z.toNat else 0) 32,
                        __s.snd + if z > 0 then z.toNat - __s.snd % z.toNat else 0))
              else
                pure
                  (ForInStep.yield
                    (__s.fst ++ Array.replicate (if z > 0 then z.toNat - __s.snd % z.toNat else 0) 32,
                      __s.snd + if z > 0 then z.toNat - __s.snd % z.toNat else 0))
            else pure (ForInStep.yield (__s.fst.push c, if (c == 10 || c == 13) = true then 0 else __s.snd + 1)))
      (fun rest b s' => s' = s ∧ ∃ pre, x.cps.toList = pre ++ rest ∧ (b.2 : Int) = pre.foldl (stepOf z) 0 ∧ b.1.size = b.2 ∧ b.2 ≤ 14 * pre.length)
      (fun b s' => s' = s ∧ (b.1.size : Int) = reach z x ∧ b.1.size ≤ 200) ?_ ?_ x.cps (#[], 0) ⟨rfl, [], rfl, rfl, rfl, Nat.zero_le _⟩
    · refine wpAny_bind (wpAny_mono inv (fun b s' hb => ?_) fun _ _ e => e)
      obtain ⟨rfl, h1, h2⟩ := hb
      exact wpAny_bind (wpAny_mkStr (wpAny_pure ⟨_, rfl, hQ _ _ _ h1 h2⟩) (by show b.1.size ≤ sizeLine; rw [sizeLine_eq]; omega))
    · rintro c rest b s' ⟨rfl, pre, hp, h1, h2, h3⟩
      have hcm : c ∈ x.cps.toList := by rw [hp]; simp
      have hlen : pre.length + (rest.length + 1) ≤ 12 := by
        have : x.cps.toList.length ≤ 12 := by rw [Array.length_toList]; exact hx
        rw [hp] at this; simpa using this
      have hzn : 1 ≤ z.toNat ∧ z.toNat ≤ 14 := by omega
      have hmod := Nat.mod_lt b.2 (show 0 < z.toNat by omega)
      by_cases h9 : c = 9
      · subst h9
        rw [if_pos (by rfl)]
        have hgt : z > 0 := by omega
        simp only [if_pos hgt]
        rw [if_neg (by simp only [Builtin.Str.tooLong, decide_eq_true_eq, sizeLine_eq]; omega)]
        refine wpAny_pure ⟨rfl, pre ++ [9], by rw [hp]; simp, ?_, by simp [h2], by simp only [List.length_append, List.length_singleton]; omega⟩
        rw [List.foldl_append, ← h1]
        show _ = stepOf z b.2 9
        rw [step_tab9]; exact col_tab hz.1
      · have h32 : c = 32 := by
          have := hw c hcm
          simp [isWs] at this
          rcases this with h | h
          · exact h
          · exact absurd h h9
        subst h32
        rw [if_neg (by decide)]
        refine wpAny_pure ⟨rfl, pre ++ [32], by rw [hp]; simp, ?_, by simp [h2], by simp only [List.length_append, List.length_singleton]; (try simp); omega⟩
        rw [List.foldl_append, ← h1]
        show _ = stepOf z b.2 32
        rw [step_blank32]
        simp
    · rintro b s' ⟨rfl, pre, hp, h1, h2, h3⟩
      rw [List.append_nil] at hp
      have : x.cps.toList.length ≤ 12 := by rw [Array.length_toList]; exact hx
      rw [hp] at this
      exact ⟨rfl, by unfold reach; rw [hp, ← h1, h2], by omega⟩
  · rw [if_pos (by simpa using hc)]
    refine wpAny_bind (wpAny_rule (wpAny_bind (m := Builtin.Str.strUnchanged _ _) (wpAny_of_eq (a := Value.str x t) rfl (wpAny_pure ⟨_, rfl, hQ x t s.toks ?_ (by omega)⟩))))
    unfold reach
    rw [reach_blanks z x.cps.toList 0]
    · show (x.cps.size : Int) = _
      rw [Array.length_toList]; omega
    · intro c hcm
      have := hw c hcm
      simp [isWs] at this
      rcases this with h | h
      · exact h
      · subst h; exact absurd (by simpa using hcm) hc
end
end Mine
end
section
open PySem PySem.W PyProof.Rows PySem.Calls
namespace Mine
def Sx (f : Nat → Int) : Nat → List Int → Int
  | _, [] => 0
  | o, c :: r => f o * c + Sx f (o + 1) r
theorem Sx_append (f : Nat → Int) : ∀ (a b : List Int) (o : Nat), Sx f o (a ++ b) = Sx f o a + Sx f (o + a.length) b
  | [], b, o => by simp [Sx]
  | c :: r, b, o => by
    simp only [List.cons_append, Sx, List.length_cons]
    rw [Sx_append f r b (o + 1), show o + 1 + r.length = o + (r.length + 1) by omega]; omega
theorem Sx_zeros (f : Nat → Int) : ∀ (k o : Nat), Sx f o (List.replicate k 0) = 0
  | 0, _ => rfl
  | k + 1, o => by rw [List.replicate_succ]; simp [Sx, Sx_zeros f k]
theorem Sx_set (f : Nat → Int) : ∀ (a : List Int) (o i : Nat), i < a.length → Sx f o (a.set i (a.getD i 0 + 1)) = Sx f o a + f (o + i)
  | [], _, _, h => by simp at h
  | c :: r, o, 0, _ => by simp [Sx, Int.mul_add]; omega
  | c :: r, o, i + 1, h => by
    simp only [List.set_cons_succ, Sx, List.getD_cons_succ]
    rw [Sx_set f r (o + 1) i (by simpa using h), show o + 1 + i = o + (i + 1) by omega]; omega
theorem Sx_range (f : Nat → Int) : ∀ (a : List Int) (o : Nat), Sx f o a = ((List.range a.length).map fun i => f (o + i) * a.getD i 0).sum
  | [], _ => rfl
  | c :: r, o => by
    rw [List.length_cons, List.range_succ_eq_map, List.map_cons, List.sum_cons, List.map_map, Sx, Sx_range f r (o + 1)]
    congr 1
    congr 1
    refine List.map_congr_left fun i _ => ?_
    simp only [Function.comp, List.getD_cons_succ]
    rw [show o + 1 + i = o + (i + 1) by omega]
theorem sum0 : ∀ l : List Nat, (l.map fun _ => (0 : Int)).sum = 0
  | [] => rfl
  | _ :: r => by rw [List.map_cons, List.sum_cons, sum0 r]; rfl
def tabF (ts : Int) (i : Nat) : Int := (i : Int) / ts
theorem ilSum_is {ts : Int} (h1 : 1 ≤ ts) (cnt : List Int) : ilSum ts cnt (rangeKs ts ((cnt.length : Int) - ts).toNat) = Sx (tabF ts) 0 cnt := by
  obtain ⟨n, rfl⟩ : ∃ n : Nat, ts = n := ⟨ts.toNat, by omega⟩
  rw [Sx_range]
  unfold ilSum rangeKs
  rw [List.map_map]
  have z : ∀ i, i < n → tabF (n : Int) (0 + i) * cnt.getD i 0 = 0 := by
    intro i hi
    have : tabF (n : Int) (0 + i) = 0 := by
      unfold tabF
      exact Int.ediv_eq_zero_of_lt (by omega) (by omega)
    rw [this, Int.zero_mul]
  by_cases hl : cnt.length ≤ n
  · rw [show ((cnt.length : Int) - (n : Int)).toNat = 0 by omega]
    have e : (List.range cnt.length).map (fun i => tabF (n : Int) (0 + i) * cnt.getD i 0) = (List.range cnt.length).map fun _ => (0 : Int) :=
      List.map_congr_left fun i hi => z i (by have := List.mem_range.mp hi; omega)
    rw [e, sum0]
    rfl
  · rw [show cnt.length = n + (cnt.length - n) by omega, List.range_add, List.map_append, List.sum_append]
    have e : (List.range n).map (fun i => tabF (n : Int) (0 + i) * cnt.getD i 0) = (List.range n).map fun _ => (0 : Int) :=
      List.map_congr_left fun i hi => z i (List.mem_range.mp hi)
    rw [e]
    have e2 : (((n + (cnt.length - n) : Nat) : Int) - (n : Int)).toNat = cnt.length - n := by omega
    rw [e2, List.map_map]
    simp only [List.map_const', List.length_range, List.sum_replicate_int, Int.mul_zero, Int.zero_add]
    congr 1
    refine List.map_congr_left fun i _ => ?_
    simp only [Function.comp]
    rw [Int.fdiv_eq_ediv_of_nonneg _ (by omega), show ((n : Int) + (i : Int)).toNat = n + i by omega]
    unfold tabF
    rw [show ((0 + (n + i) : Nat) : Int) = (n : Int) + (i : Int) by omega]
theorem inv_step {ts : Int} (h1 : 1 ≤ ts) {s : WsSt} {p : Int} {c : Nat} (hc : isWs c = true) (hb : 0 ≤ s.b) (hp : p = s.b + ts * (Sx (tabF ts) 0 s.cnt + s.nt)) :
    stepOf ts p c = (s.step c).b + ts * (Sx (tabF ts) 0 (s.step c).cnt + (s.step c).nt) := by
  unfold stepOf WsSt.step
  split
  · simp only [WsSt.blank]; omega
  · simp only [WsSt.tab]
    have hl : s.b.toNat < s.grown.length := by
      unfold WsSt.grown
      rw [List.length_append, List.length_replicate]; omega
    rw [Sx_set _ _ _ _ hl]
    have e : Sx (tabF ts) 0 s.grown = Sx (tabF ts) 0 s.cnt := by
      unfold WsSt.grown
      rw [Sx_append, Sx_zeros]; omega
    rw [e, Int.fdiv_eq_ediv_of_nonneg _ (by omega), hp, Int.add_mul_ediv_left _ _ (by omega)]
    unfold tabF
    rw [show ((0 + s.b.toNat : Nat) : Int) = s.b by omega]
    generalize s.b / ts = q
    generalize Sx _ 0 s.cnt = r
    rw [Int.zero_add, Int.mul_comm]
    congr 1
    omega
theorem inv_fold {ts : Int} (h1 : 1 ≤ ts) : ∀ (cs : List Nat) (s : WsSt) (p : Int), (∀ c ∈ cs, isWs c = true) → 0 ≤ s.b → p = s.b + ts * (Sx (tabF ts) 0 s.cnt + s.nt) →
    cs.foldl (stepOf ts) p = (cs.foldl WsSt.step s).b + ts * (Sx (tabF ts) 0 (cs.foldl WsSt.step s).cnt + (cs.foldl WsSt.step s).nt)
  | [], _, _, _, _, hp => hp
  | c :: r, s, p, hw, hb, hp => by
    rw [List.foldl_cons, List.foldl_cons]
    refine inv_fold h1 r _ _ (fun q hq => hw q (.tail _ hq)) ?_ (inv_step h1 (hw c (.head _)) hb hp)
    unfold WsSt.step
    split
    · simp only [WsSt.blank]; omega
    · simp [WsSt.tab]
end Mine
end
section
open PySem PySem.W PyProof.Rows PySem.Calls
namespace Mine
def leadOf (ns : List Int) (j : Nat) : Str := ⟨(((List.range (min 24 ns.length)).filter fun k => k % 2 == j).map fun k => if ns.getD k 0 % 2 = 0 then 32 else 9).toArray⟩
theorem filter_le (n : Nat) (p : Nat → Bool) (c : Nat) (h : ((List.range 24).filter p).length ≤ c) (hn : n ≤ 24) : ((List.range n).filter p).length ≤ c := by
  have hs : (List.range n).Sublist (List.range 24) := by
    rw [show (24 : Nat) = n + (24 - n) by omega, List.range_add]
    exact List.sublist_append_left _ _
  exact Nat.le_trans (hs.filter p).length_le h
theorem leadOf_len (ns : List Int) (j : Nat) (hj : j < 2) : (leadOf ns j).length ≤ 12 := by
  show (leadOf ns j).cps.size ≤ 12
  unfold leadOf
  rw [List.size_toArray, List.length_map]
  refine filter_le _ _ 12 ?_ (Nat.min_le_left _ _)
  match j, hj with
  | 0, _ => decide
  | 1, _ => decide
theorem leadOf_ws (ns : List Int) (j : Nat) : ∀ c ∈ (leadOf ns j).cps.toList, isWs c = true := by
  intro c hc
  unfold leadOf at hc
  simp only [List.mem_map] at hc
  obtain ⟨k, _, rfl⟩ := hc
  split <;> rfl
def signOf (ns : List Int) (k : Nat) : Str := Txt.item (Str.ofString " \t") ((ns.getD k 0).fmod 2)
theorem signOf_is (ns : List Int) (k : Nat) : signOf ns k = ⟨#[if ns.getD k 0 % 2 = 0 then 32 else 9]⟩ := by
  unfold signOf
  rw [Int.fmod_eq_emod_of_nonneg _ (by omega)]
  rcases Int.emod_two_eq (ns.getD k 0) with h | h
  · rw [h]; decide +kernel
  · rw [h]; decide +kernel
theorem sign_at {ns : List Int} {k : Nat} : Txt.item (Str.ofString " \t") ((ns.getD (0 + (k : Int)).toNat 0).fmod 2) = signOf ns k := by
  rw [show (0 + (k : Int)).toNat = k by omega]; rfl
theorem odd_yes {k i : Nat} (h : (0 + (k : Int)).fmod 2 = 0 + (i : Int)) : (k % 2 == i) = true := by
  rw [Int.fmod_eq_emod_of_nonneg _ (by omega)] at h
  simp; omega
theorem odd_no {k i : Nat} (h : (0 + (k : Int)).fmod 2 ≠ 0 + (i : Int)) : (k % 2 == i) = false := by
  rw [Int.fmod_eq_emod_of_nonneg _ (by omega)] at h
  simp; omega
theorem join_leads (ns : List Int) (j : Nat) : Txt.join (Str.ofString "") (((List.range (min 24 ns.length)).filter fun k => k % 2 == j).map (signOf ns)) = leadOf ns j := by
  have key : ∀ l : List Nat, Txt.join (Str.ofString "") (l.map (signOf ns)) = ⟨(l.map fun k => if ns.getD k 0 % 2 = 0 then 32 else 9).toArray⟩ := by
    intro l
    show Builtin.Str.glued _ _ = _
    rw [StrLaws.glued_eq_join]
    simp only [signOf_is, show (signOf ns) = (fun k => (⟨#[if ns.getD k 0 % 2 = 0 then 32 else 9]⟩ : Str)) from funext (signOf_is ns)]
    induction l with
    | nil => rfl
    | cons k r ih =>
      cases r with
      | nil => rfl
      | cons q r =>
        rw [List.map_cons]
        show (⟨#[if ns.getD k 0 % 2 = 0 then 32 else 9]⟩ : Str) ++ Str.ofString "" ++ Str.join (Str.ofString "") ((q :: r).map (fun k => (⟨#[if ns.getD k 0 % 2 = 0 then 32 else 9]⟩ : Str))) = _
        rw [ih]
        refine Str.ext' (Array.toList_inj.mp ?_)
        have e0 : (Str.ofString "").cps = #[] := by decide +kernel
        simp [Str.cps_append, e0]
  exact key _
theorem paired_strs {g : Nat → Str} : ∀ {idx : List Nat} {ys : List Value}, Paired (fun k v => ∃ t, v = Value.str (g k) t) idx ys → CarriedAll ys (idx.map fun k => PyData.str (g k))
  | _, _, .nil => .nil
  | _, _, .cons ⟨t, e⟩ r => by rw [e]; exact .cons (.str _ _) (paired_strs r)
theorem slice_ws {x : Str} (h : ∀ c ∈ x.cps.toList, isWs c = true) (l u : Option Int) : ∀ c ∈ (Txt.slice x l u).cps.toList, isWs c = true := by
  intro c hc
  unfold Txt.slice at hc
  split at hc
  · exact h c hc
  · simp only [List.mem_filterMap] at hc
    obtain ⟨i, _, hi⟩ := hc
    exact h c (Array.mem_toList_iff.mpr (Array.mem_of_getElem? hi))
/-- what __init__ reads off a lead of blanks and tabs -/
def leadSt (x : Str) : WsSt := x.cps.toList.foldl WsSt.step WsSt.init
def leadData (x : Str) : Ws := ⟨(leadSt x).cnt, (leadSt x).n, (leadSt x).nt, (leadSt x).b⟩
theorem takeWhile_tail {cs tl : List Nat} {c : Nat} (h : ∀ k ∈ cs, isWs k = true) (hc : isWs c = false) : (cs ++ c :: tl).takeWhile isWs = cs := by
  induction cs with
  | nil => simp [hc]
  | cons k r ih =>
    simp only [List.cons_append, List.takeWhile_cons, h k (.head _), if_true]
    rw [ih fun q hq => h q (.tail _ hq)]
theorem wsRun_tail {x y : Str} {c : Nat} {tl : List Nat} (h : ∀ k ∈ x.cps.toList, isWs k = true) (hy : y.cps.toList = c :: tl) (hc : isWs c = false) : wsRun (x ++ y).cps.toList = leadSt x := by
  unfold wsRun leadSt
  rw [Str.cps_append, Array.toList_append, hy, takeWhile_tail h hc]
theorem wsData_tail {x y : Str} {c : Nat} {tl : List Nat} (h : ∀ k ∈ x.cps.toList, isWs k = true) (hy : y.cps.toList = c :: tl) (hc : isWs c = false) : wsData (x ++ y) = leadData x := by
  unfold wsData leadData; rw [wsRun_tail h hy hc]
theorem leadSt_bounds (x : Str) (h : x.length ≤ 12) : 0 ≤ (leadSt x).b ∧ (leadSt x).b ≤ 12 ∧ (leadSt x).cnt.length ≤ 12 := by
  have hb := fold_bounds x.cps.toList
  have hl : x.cps.toList.length ≤ 12 := by rw [Array.length_toList]; exact h
  unfold leadSt
  dsimp only at hb
  omega
theorem longest_bounds (x : Str) (h : x.length ≤ 12) : 0 ≤ (leadData x).longest ∧ (leadData x).longest ≤ 12 := by
  have := leadSt_bounds x h
  unfold Ws.longest leadData
  dsimp only
  omega
theorem initOk {x y : Str} {c : Nat} {tl : List Nat} (h : ∀ k ∈ x.cps.toList, isWs k = true) (hl : x.length ≤ 12) (hy : y.cps.toList = c :: tl) (hc : isWs c = false) (ht : tl.length ≤ 14) :
    (x ++ y).length ≤ 27 ∧ (wsRun (x ++ y).cps.toList).cnt.length ≤ 13 ∧ (wsRun (x ++ y).cps.toList).b ≤ 24 := by
  have hb := leadSt_bounds x hl
  rw [wsRun_tail h hy hc]
  refine ⟨?_, by omega, by omega⟩
  have : y.length = tl.length + 1 := by show y.cps.size = _; rw [← Array.length_toList, hy]; rfl
  rw [Str.length_append]; omega
theorem news_flip {h₀ h : Heap} {L : Addr} {a b : List (Addr × Obj)} (N : News h₀ L h (a ++ b)) : News h₀ L h (b ++ a) := fun p hp => N p (by
  rcases List.mem_append.mp hp with hp | hp
  · exact List.mem_append_right _ hp
  · exact List.mem_append_left _ hp)
theorem level_is {x : Str} (h : ∀ k ∈ x.cps.toList, isWs k = true) (_hl : x.length ≤ 12) {ts : Int} (h1 : 1 ≤ ts) : (leadData x).level ts = reach ts x := by
  unfold Ws.level leadData leadSt reach
  dsimp only
  rw [ilSum_is h1]
  refine (inv_fold h1 x.cps.toList WsSt.init 0 h (by simp [WsSt.init]) ?_).symm
  simp [WsSt.init, Sx]
theorem txt_x : (Str.ofString "x \t").cps.toList = [120, 32, 9] := by decide +kernel
theorem txt_y : (Str.ofString "y").cps.toList = [121] := by decide +kernel
end Mine
end
section
open PySem PySem.W PyProof.Rows PySem.Calls
namespace Mine
section
variable {prog : Program} {w : World} {A : Around} {E : Value → Shared → Prop} {s : Shared} {env : Env} {h₀ : Heap} {x : Str} {body : List Stmt} {Q : Flow → Shared → Prop}
theorem range_loop {r : Addr} {a₀ b₀ : Int} {t₀ u₀ v₀ : Tok} {n : Nat} {m₀ : Str → Option Value} {news : List (Addr × Obj)} (J : Nat → (Str → Option Value) → List (Addr × Obj) → Prop)
    (hh : A.handled = none) (hr : IsRange s.heap r a₀ b₀ 1 t₀ u₀ v₀) (hsmall : Builtin.Range.small a₀ b₀ 1 = true) (hsz : Builtin.Range.rangeSize a₀ b₀ 1 = (n : Int)) (F : Fr h₀ env.locals s.heap m₀) (N : News h₀ env.locals s.heap news) (hj : J 0 m₀ news)
    (turn : ∀ i t m₁ nx h tk own, i < n → OwnOff own (nx.map (·.1)) → J i m₁ nx → Fr h₀ env.locals h (fun y => if y = x then some (.int (a₀ + (i : Nat)) t) else m₁ y) → News h₀ env.locals h (nx ++ own) →
      wpAny (model prog w) A (execs body env) (InvPostG h₀ env.locals (J (i + 1)) own { s with heap := h, toks := tk } Q) E { s with heap := h, toks := tk })
    (done : ∀ m₁ nx h tk, J n m₁ nx → Fr h₀ env.locals h m₁ → News h₀ env.locals h nx → Q .next { s with heap := h, toks := tk }) :
    wpAny (model prog w) A (pyIter (.ref r)) (fun it s₂ => LoopAtV prog w A h₀ env x body Q E it s₂) E s := by
  have top := F.ns.lt
  have one : ∀ {b : Addr}, b ∈ [s.heap.objs.size] → b = s.heap.objs.size := fun h => List.mem_singleton.mp h
  refine wpAny_pyIter_range hr hsmall (kdr_loop J (LCg.range_walks (prog := prog) (w := w) (A := A) hh a₀ n) (fun _ h => h) (fun _ h => h) (fun i h z b hb => ⟨_, one hb ▸ z⟩) (fun h => Nat.lt_irrefl _ (one h ▸ top)) (fun b hb => one hb ▸ next_is_new F)
    (fun p hp h => Nat.lt_irrefl _ (one h ▸ Heap.lt_size (N p hp).1)) ?_ (F.keeps fun _ _ e => Heap.get?_push_of_some _ e) (N.grown fun _ _ e => Heap.get?_push_of_some _ e) hj (fun i v m₁ nx h tk own hi hP hoff hJ F₁ N₁ => ?_) done)
  · have z : (n : Int) - ((0 : Nat) : Int) = n := Int.sub_zero _
    have z' : a₀ + ((0 : Nat) : Int) * 1 = a₀ := by omega
    rw [z, z', ← hsz]
    exact Heap.get?_push_size _ rfl
  · obtain ⟨t, rfl⟩ := hP
    exact turn i t m₁ nx h tk own hi hoff hJ F₁ N₁
theorem append_call {L l : Addr} {m : Str → Option Value} {news rest' : List (Addr × Obj)} {vs : List Value} {k : Nat} {v : Value} {E : Value → Shared → Prop} {Q : Value → Shared → Prop} (F : Fr h₀ L s.heap m) (N : News h₀ L s.heap news) (hm : (l, W.listOf vs.toArray k) ∈ news) (hs : ∀ p ∈ rest', p ∈ news) (ho : ∀ p ∈ rest', p.1 ≠ l) (hsz : vs.length ≤ 1000)
    (h : ∀ h', Fr h₀ L h' m → News h₀ L h' ((l, W.listOf (vs ++ [v]).toArray (k + 1)) :: rest') → Q .none { s with heap := h' }) :
    wpAny (model prog w) A (call (.builtin "list.append") [.ref l, v]) Q E s := by
  have z := N _ hm
  refine append_at (hsz := by rw [List.size_toArray, sizeLine_eq]; omega) z.1 fun h' hs' hD => h h' (F.change hs' z.2.1 z.2.2) fun p hp => ?_
  rcases List.mem_cons.mp hp with rfl | hp
  · exact ⟨hD.trans (congrArg some (by show ({ cls := .type "list", data := .seq (vs.toArray.push v) (k + 1) } : Obj) = { cls := .type "list", data := .seq (vs ++ [v]).toArray (k + 1) }
                                       rw [List.push_toArray])), z.2⟩
  · exact ⟨hs'.extBut _ _ (ho p hp) (N p (hs p hp)).1, (N p (hs p hp)).2⟩
theorem append_call2 {L l : Addr} {m : Str → Option Value} {rest : List (Addr × Obj)} {b c d e f i j : Addr × Obj} {a : Addr × Obj} {vs : List Value} {k : Nat} {v : Value} {E : Value → Shared → Prop} {Q : Value → Shared → Prop} (F : Fr h₀ L s.heap m) (N : News h₀ L s.heap (a :: b :: c :: d :: e :: f :: (l, W.listOf vs.toArray k) :: i :: j :: rest))
    (ha : a.1 ≠ l) (hi : i.1 ≠ l) (ho : ∀ p ∈ rest, p.1 ≠ l) (hsz : vs.length ≤ 1000)
    (h : ∀ h', Fr h₀ L h' m → News h₀ L h' ((l, W.listOf (vs ++ [v]).toArray (k + 1)) :: a :: i :: rest) → Q .none { s with heap := h' }) :
    wpAny (model prog w) A (call (.builtin "list.append") [.ref l, v]) Q E s := by
  refine append_call F N (.tail _ (.tail _ (.tail _ (.tail _ (.tail _ (.tail _ (.head _))))))) (fun p w9 => ?_) (fun p w9 => ?_) hsz h
  · rcases List.mem_cons.mp w9 with w9 | w9
    · rw [w9]; exact .head _
    rcases List.mem_cons.mp w9 with w9 | w9
    · rw [w9]; exact .tail _ (.tail _ (.tail _ (.tail _ (.tail _ (.tail _ (.tail _ (.head _)))))))
    · exact .tail _ (.tail _ (.tail _ (.tail _ (.tail _ (.tail _ (.tail _ (.tail _ (.tail _ w9))))))))
  · rcases List.mem_cons.mp w9 with w9 | w9
    · rw [w9]; exact ha
    rcases List.mem_cons.mp w9 with w9 | w9
    · rw [w9]; exact hi
    · exact ho p w9
def row (tx tb : Str) (j : Nat) : Dat := Dat.tuple [.int (1 + (j : Int)), .int (reach (1 + (j : Int)) tx), .int (reach (1 + (j : Int)) tb)]
def rowsTo (tx tb : Str) (i : Nat) : List Dat := (List.range i).map (row tx tb)
theorem rows_snoc (tx tb : Str) (i : Nat) : rowsTo tx tb (i + 1) = rowsTo tx tb i ++ [row tx tb i] := by
  simp [rowsTo, List.range_succ]
theorem rows_len (tx tb : Str) (i : Nat) : (rowsTo tx tb i).length = i := by simp [rowsTo]
/-- between the turns of the law's loop -/
def LoopJ (base : List (Addr × Obj)) (lR : Addr) (tx tb : Str) (m₀ : Str → Option Value) (i : Nat) (m : Str → Option Value) (nx : List (Addr × Obj)) : Prop :=
  ∃ ps vs k tl, nx = (lR, W.listOf vs.toArray k) :: (98, tabObj ps) :: tl ∧ (∀ p ∈ base, p ∈ tl) ∧ LamTab tl ps ∧ (∀ p ∈ tl, p.1 ≠ 98) ∧ (∀ p ∈ tl, p.1 ≠ lR) ∧ DatAll tl vs (rowsTo tx tb i) ∧
    ∀ z, z ≠ Str.ofString "size" → z ≠ Str.ofString "near" → z ≠ Str.ofString "far" → m z = m₀ z
def loopMap (m₀ : Str → Option Value) (v : Value) (un uf : Option Value) (z : Str) : Option Value :=
  if z = Str.ofString "size" then some v else if z = Str.ofString "near" then un else if z = Str.ofString "far" then uf else m₀ z
theorem map_loop {m₁ m₀ : Str → Option Value} {v : Value} (hm : ∀ z, z ≠ Str.ofString "size" → z ≠ Str.ofString "near" → z ≠ Str.ofString "far" → m₁ z = m₀ z) :
    (fun z => if z = Str.ofString "size" then some v else m₁ z) = loopMap m₀ v (m₁ (Str.ofString "near")) (m₁ (Str.ofString "far")) := by
  funext z
  unfold loopMap
  by_cases e0 : z = Str.ofString "size"
  · rw [if_pos e0, if_pos e0]
  rw [if_neg e0, if_neg e0]
  by_cases e1 : z = Str.ofString "near"
  · rw [if_pos e1, e1]
  rw [if_neg e1]
  by_cases e2 : z = Str.ofString "far"
  · rw [if_pos e2, e2]
  rw [if_neg e2]
  exact hm z e0 e1 e2
theorem law_loop {r : Addr} {t₀ u₀ v₀ : Tok} {m₀ : Str → Option Value} {base : List (Addr × Obj)} {lR : Addr} {tx tb : Str} {ps₀ : Array Value}
    (hh : A.handled = none) (hr : IsRange s.heap r 1 15 1 t₀ u₀ v₀) (F : Fr h₀ env.locals s.heap m₀) (N : News h₀ env.locals s.heap ((lR, W.listOf #[] 0) :: (98, tabObj ps₀) :: base)) (hps : LamTab base ps₀) (h98 : ∀ p ∈ base, p.1 ≠ 98) (hlR : ∀ p ∈ base, p.1 ≠ lR)
    (turn : ∀ (i : Nat) t un uf ps vs k tl rest h tk own, i < 14 → (∀ p ∈ base, p ∈ tl) → LamTab tl ps → (∀ p ∈ tl, p.1 ≠ 98) → (∀ p ∈ tl, p.1 ≠ lR) → DatAll tl vs (rowsTo tx tb i) → (∀ p ∈ own, p.1 ≠ lR) → (∀ p ∈ own, p.1 ≠ 98) → OwnOff own (tl.map (·.1)) → rest = tl ++ own →
      Fr h₀ env.locals h (loopMap m₀ (.int (1 + (i : Int)) t) un uf) → News h₀ env.locals h ((lR, W.listOf vs.toArray k) :: (98, tabObj ps) :: rest) →
      wpAny (model prog w) A (execs body env) (InvPostG h₀ env.locals (LoopJ base lR tx tb m₀ (i + 1)) own { s with heap := h, toks := tk } Q) E { s with heap := h, toks := tk })
    (done : ∀ us un uf ps vs k tl h tk, (∀ p ∈ base, p ∈ tl) → LamTab tl ps → (∀ p ∈ tl, p.1 ≠ 98) → (∀ p ∈ tl, p.1 ≠ lR) → DatAll tl vs (rowsTo tx tb 14) →
      Fr h₀ env.locals h (fun z => if z = Str.ofString "size" then us else if z = Str.ofString "near" then un else if z = Str.ofString "far" then uf else m₀ z) → News h₀ env.locals h ((lR, W.listOf vs.toArray k) :: (98, tabObj ps) :: tl) → Q .next { s with heap := h, toks := tk }) :
    wpAny (model prog w) A (pyIter (.ref r)) (fun it s₂ => LoopAtV prog w A h₀ env (Str.ofString "size") body Q E it s₂) E s := by
  refine range_loop (LoopJ base lR tx tb m₀) (n := 14) hh hr (by decide) (by rfl) F N ⟨ps₀, [], 0, base, rfl, fun _ h => h, hps, h98, hlR, .nil, fun _ _ _ _ => rfl⟩ ?_ ?_
  · rintro i t m₁ nx h tk own hi hoff ⟨ps, vs, k, tl, rfl, hb, hl, h9, hR, hD, hm⟩ F₁ N₁
    rw [map_loop hm] at F₁
    refine turn i t _ _ ps vs k tl (tl ++ own) h tk own hi hb hl h9 hR hD (fun p hp => hoff p hp lR (by simp)) (fun p hp => hoff p hp 98 (by simp)) (fun p hp b hb => hoff p hp b (by simp only [List.map_cons]; exact .tail _ (.tail _ hb))) rfl F₁ N₁
  · rintro m₁ nx h tk ⟨ps, vs, k, tl, rfl, hb, hl, h9, hR, hD, hm⟩ F₁ N₁
    refine done (m₁ (Str.ofString "size")) (m₁ (Str.ofString "near")) (m₁ (Str.ofString "far")) ps vs k tl h tk hb hl h9 hR hD ?_ N₁
    have e : (fun z => if z = Str.ofString "size" then m₁ (Str.ofString "size") else if z = Str.ofString "near" then m₁ (Str.ofString "near") else if z = Str.ofString "far" then m₁ (Str.ofString "far") else m₀ z) = m₁ := by
      funext z
      by_cases e0 : z = Str.ofString "size"
      · rw [if_pos e0, e0]
      rw [if_neg e0]
      by_cases e1 : z = Str.ofString "near"
      · rw [if_pos e1, e1]
      rw [if_neg e1]
      by_cases e2 : z = Str.ofString "far"
      · rw [if_pos e2, e2]
      rw [if_neg e2]
      exact (hm z e0 e1 e2).symm
    rw [e]; exact F₁
/-- a turn's end -/
theorem loop_end {base : List (Addr × Obj)} {lR T : Addr} {tx tb : Str} {m₀ m' : Str → Option Value} {i : Nat} {ps' : Array Value} {vs : List Value} {k : Nat} {tl tl1 tl2 own news' : List (Addr × Obj)} {L : Addr} {h' : Heap} {tk : Nat} {s₁ : Shared} {t1 t2 t3 : Tok}
    (F : Fr h₀ L h' m') (N : News h₀ L h' news') (hRin : (lR, W.listOf (vs ++ [Value.ref T]).toArray k) ∈ news') (hTin : (T, ({ cls := .type "tuple", data := .seq #[.int (1 + (i : Int)) t1, .int (reach (1 + (i : Int)) tx) t2, .int (reach (1 + (i : Int)) tb) t3] } : Obj)) ∈ news')
    (h98in : (98, tabObj ps') ∈ news') (hrest : ∀ p ∈ tl2 ++ (tl1 ++ (tl ++ own)), p ∈ news') (hb : ∀ p ∈ base, p ∈ tl) (hl : LamTab (tl2 ++ (tl1 ++ tl)) ps') (h9 : ∀ p ∈ tl2 ++ (tl1 ++ tl), p.1 ≠ 98) (hR : ∀ p ∈ tl2 ++ (tl1 ++ tl), p.1 ≠ lR) (hT9 : T ≠ 98) (hTR : T ≠ lR)
    (hD : DatAll tl vs (rowsTo tx tb i)) (o1 : ∀ p ∈ own, p.1 ≠ lR) (o2 : ∀ p ∈ own, p.1 ≠ 98) (o3 : OwnOff own (tl.map (·.1))) (o4 : ∀ p ∈ tl1, ∀ q ∈ own, @LT.lt Nat _ q.1 p.1) (o5 : ∀ p ∈ tl2, ∀ q ∈ own, @LT.lt Nat _ q.1 p.1) (o6 : ∀ p ∈ own, p.1 ≠ T)
    (hm : ∀ z, z ≠ Str.ofString "size" → z ≠ Str.ofString "near" → z ≠ Str.ofString "far" → m' z = m₀ z) :
    InvEndG h₀ L (LoopJ base lR tx tb m₀ (i + 1)) own s₁ { s₁ with heap := h', toks := tk } := by
  refine InvEndG.intro (nx := (lR, W.listOf (vs ++ [Value.ref T]).toArray k) :: (98, tabObj ps') :: (T, ({ cls := .type "tuple", data := .seq #[.int (1 + (i : Int)) t1, .int (reach (1 + (i : Int)) tx) t2, .int (reach (1 + (i : Int)) tb) t3] } : Obj)) :: (tl2 ++ (tl1 ++ tl))) F N
    ⟨ps', vs ++ [Value.ref T], k, _, rfl, fun p hp => .tail _ (List.mem_append_right _ (List.mem_append_right _ (hb p hp))), hl.mono fun p hp => .tail _ hp, ?_, ?_, ?_, hm⟩ ?_ ?_ ?_
  · intro p hp
    rcases List.mem_cons.mp hp with rfl | hp
    · exact hT9
    · exact h9 p hp
  · intro p hp
    rcases List.mem_cons.mp hp with rfl | hp
    · exact hTR
    · exact hR p hp
  · rw [rows_snoc]
    refine DatAll.append (hD.mono fun p hp => .tail _ (List.mem_append_right _ (List.mem_append_right _ hp))) (DatAll.one ?_)
    exact .tuple (.head _) (.cons (.int _ _) (.cons (.int _ _) (.cons (.int _ _) .nil)))
  · intro p hp b hb'
    simp only [List.map_cons, List.mem_cons, List.map_append, List.mem_append] at hb'
    rcases hb' with rfl | rfl | rfl | hb' | hb' | hb'
    · exact o1 p hp
    · exact o2 p hp
    · exact o6 p hp
    · obtain ⟨q, hq, rfl⟩ := List.mem_map.mp hb'
      exact Nat.ne_of_lt (o5 q hq p hp)
    · obtain ⟨q, hq, rfl⟩ := List.mem_map.mp hb'
      exact Nat.ne_of_lt (o4 q hq p hp)
    · exact o3 p hp b hb'
  · intro p hp
    rcases List.mem_cons.mp hp with rfl | hp
    · exact hRin
    rcases List.mem_cons.mp hp with rfl | hp
    · exact h98in
    rcases List.mem_cons.mp hp with rfl | hp
    · exact hTin
    refine hrest p ?_
    rcases List.mem_append.mp hp with hp | hp
    · exact List.mem_append_left _ hp
    rcases List.mem_append.mp hp with hp | hp
    · exact List.mem_append_right _ (List.mem_append_left _ hp)
    · exact List.mem_append_right _ (List.mem_append_right _ (List.mem_append_left _ hp))
  · exact fun p hp => hrest p (List.mem_append_right _ (List.mem_append_right _ (List.mem_append_right _ hp)))
theorem show3 {h₀ h : Heap} {L : Addr} {a b c : Addr × Obj} {rest : List (Addr × Obj)} (N : News h₀ L h (a :: b :: rest)) (hc : c ∈ rest) : News h₀ L h (a :: b :: c :: rest) := cb_drop N fun p hp => by
  simp only [List.mem_cons] at hp ⊢
  rcases hp with hp | hp | hp | hp
  · simp [hp]
  · simp [hp]
  · rw [hp]; exact .inr (.inr hc)
  · simp [hp]
theorem news_more {h₀ h : Heap} {L : Addr} {p : Addr × Obj} {news : List (Addr × Obj)} (N : News h₀ L h news) (hp : p ∈ news) : News h₀ L h (p :: news) := fun q hq => by
  rcases List.mem_cons.mp hq with rfl | hq
  · exact N _ hp
  · exact N _ hq
/-- the two objects of a Whitespace, shown at the ledger's head -/
theorem ws_show {news tl : List (Addr × Obj)} {x lR : Addr} {d : Ws} (U : WsIn tl x d) (hs : ∀ p ∈ tl, p ∈ news) (hR : ∀ p ∈ tl, p.1 ≠ lR) :
    ∃ dx k1 k2 k3 k4 k5 raw tkn tnt tn, x ≠ lR ∧ dx ≠ lR ∧ ∀ {h₀ h : Heap} {L : Addr}, News h₀ L h news → News h₀ L h ((x, instObj 76 dx) :: (dx, dictOf (wsDict k1 k2 k3 k4 k5 raw (.int d.n tkn) (.int d.nt tnt) (.ref tn) (.bool d.simple)) 5) :: news) := by
  obtain ⟨dx, tn, tc, k1, k2, k3, k4, k5, raw, tkn, tnt, tb, vs, W⟩ := U
  exact ⟨dx, k1, k2, k3, k4, k5, raw, tkn, tnt, tn, hR _ W.ins, hR _ W.own, fun N => news_more (news_more N (hs _ W.own)) (.tail _ (hs _ W.ins))⟩
theorem ite_bne {a b : Int} {P Q : Prop} (h : a = b) (hq : Q) : if (a != b) = true then P else Q := by
  rw [if_neg (by rw [h]; simp)]; exact hq
theorem off_join {a b : List (Addr × Obj)} {x : Addr} (h1 : ∀ p ∈ a, p.1 ≠ x) (h2 : ∀ p ∈ b, p.1 ≠ x) : ∀ p ∈ a ++ b, p.1 ≠ x := fun p hp => (List.mem_append.mp hp).elim (h1 p) (h2 p)
theorem allLt_ne {d : Addr} {l : List (Addr × Obj)} (h : AllLt d l) : ∀ p ∈ l, p.1 ≠ d := off_lt (allLt_all h)
theorem pick9 {h₀ h : Heap} {L : Addr} {a b c d e f g i : Addr × Obj} {rest : List (Addr × Obj)} (N : News h₀ L h (a :: b :: c :: d :: e :: f :: g :: i :: rest)) : News h₀ L h (a :: g :: d :: e :: f :: i :: rest) := cb_drop N fun p hp => by
  simp only [List.mem_cons] at hp ⊢
  rcases hp with hp | hp | hp | hp | hp | hp | hp <;> simp [hp]
theorem lam_two {tl tl1 tl2 : List (Addr × Obj)} {ps ps1 ps2 : Array Value} (h : LamTab tl ps) (h1 : LamTab tl1 ps1 ∨ ps1 = ps) (h2 : LamTab tl2 ps2 ∨ ps2 = ps1) : LamTab (tl1 ++ tl) ps1 ∧ LamTab (tl2 ++ (tl1 ++ tl)) ps2 := by
  have a : LamTab (tl1 ++ tl) ps1 := by
    rcases h1 with h1 | rfl
    · exact h1.mono fun p hp => List.mem_append_left _ hp
    · exact h.mono fun p hp => List.mem_append_right _ hp
  refine ⟨a, ?_⟩
  rcases h2 with h2 | rfl
  · exact h2.mono fun p hp => List.mem_append_left _ hp
  · exact a.mono fun p hp => List.mem_append_right _ hp
end
section
variable {w : World} {p : Program} {loose : List Str} {mean : ExcName → Option Value} {mg mb : Str → Option Value}
  {dp un : Nat} {gd : Option (List Code)} {cn : Str} {cs : Scope} {a : Addr} {ccd : Value} {cl : List (Str × Addr)} {outer : List Env} {A₀ : Around} {base h₀ : Heap} {L : Addr} {m : Str → Option Value} {s : Shared} {Q E : Value → Shared → Prop}
  {x y : Addr} {d d' : Ws} {ts : Int} {tts : Tok} {news : List (Addr × Obj)}
set_option maxRecDepth 100000
set_option maxHeartbeats 8000000
theorem reach_call3 {rest : List (Addr × Obj)} {ps : Array Value} {lR aD : Addr} {oR oD : Obj} (B : Below A₀ base outer h₀) (F : Fr h₀ L s.heap m) (X : (hd.heap_39 w.params).In h₀) (N : News h₀ L s.heap ((lR, oR) :: (98, tabObj ps) :: (aD, oD) :: rest)) (T : Top p loose mean mg mb h₀) (hk : cs.kind = .function)
    (hd : dp + 5 < recursionLimit) (hu : un + 200 < cLine) (C : CodeHd h₀ 102 98) (hps : LamTab rest ps) (hR : lR ≠ 98) (hD : aD ≠ 98) (hoff : ∀ p ∈ rest, p.1 ≠ 98) {lead : Str} {tl : Tok} (hl : lead.length ≤ 12) {z : Int} {tz : Tok} (hz : 1 ≤ z ∧ z ≤ 14)
    (hret : ∀ ps' tl' t h' tk', (LamTab tl' ps' ∨ ps' = ps) → (∀ p ∈ tl', p.1 ≠ 98) → (∀ p ∈ tl', p.1 ≠ lR) → (∀ p ∈ tl', ∀ q ∈ rest, @LT.lt Nat _ q.1 p.1) → Fr h₀ L h' m → News h₀ L h' ((lR, oR) :: (98, tabObj ps') :: (aD, oD) :: (tl' ++ rest)) → Q (.int (reach z lead) t) { s with heap := h', toks := tk' }) :
    wpAny (model PySem.Challenge.rw_xg0053_01.row.prog w) (ktrTop dp un gd cn cs L a ccd cl outer) (call (.ref 103) [.str lead tl, .int z tz]) Q E s := by
  refine reach_call2 (rest := (aD, oD) :: rest) B F X N T hk hd hu C (hps.mono fun p hp => .tail _ hp) hR (fun p hp => ?_) hl hz ?_
  · rcases List.mem_cons.mp hp with rfl | hp
    · exact hD
    · exact hoff p hp
  · intro ps' tl' t h' tk' h1 h2 h3 h4 F' N'
    refine hret ps' tl' t h' tk' h1 h2 h3 (fun p hp q hq => h4 p hp q (.tail _ hq)) F' (cb_drop N' fun p hp => ?_)
    simp only [List.mem_cons, List.mem_append] at hp ⊢
    rcases hp with hp | hp | hp | hp | hp <;> simp [hp]
end
end Mine
end
section
open PySem PySem.W PyProof.Rows PySem.Calls
namespace Mine
theorem getD_set (l : List Int) (i j : Nat) (v : Int) (hi : i < l.length) : (l.set i v).getD j 0 = if j = i then v else l.getD j 0 := by
  simp only [List.getD_eq_getElem?_getD, List.getElem?_set]
  by_cases h : i = j
  · subst h; simp [hi]
  · rw [if_neg h, if_neg (Ne.symm h)]
theorem getD_zeros (l : List Int) (k j : Nat) : (l ++ List.replicate k 0).getD j 0 = l.getD j 0 := by
  simp only [List.getD_eq_getElem?_getD, List.getElem?_append]
  by_cases h : j < l.length
  · rw [if_pos h]
  · rw [if_neg h, List.getElem?_replicate]
    have e : l[j]? = none := List.getElem?_eq_none (by omega)
    rw [e]
    split <;> rfl
structure WsInv (s : WsSt) : Prop where
  b0 : 0 ≤ s.b
  pos : ∀ i, 0 ≤ s.cnt.getD i 0
  last : s.cnt.length ≠ 0 → 1 ≤ s.cnt.getD (s.cnt.length - 1) 0
  sum : Sx (fun _ => 1) 0 s.cnt = s.nt
  all : Sx (fun i => (i : Int)) 0 s.cnt + s.nt + s.b = s.n
theorem WsInv.init : WsInv WsSt.init := ⟨by simp [WsSt.init], by simp [WsSt.init], by simp [WsSt.init], rfl, rfl⟩
theorem WsInv.step {s : WsSt} (h : WsInv s) (c : Nat) : WsInv (s.step c) := by
  obtain ⟨h0, h1, h2, h3, h4⟩ := h
  unfold WsSt.step
  split
  · refine ⟨?_, h1, h2, h3, ?_⟩
    · simp only [WsSt.blank]; omega
    · simp only [WsSt.blank]; omega
  · have hl : s.b.toNat < s.grown.length := by
      unfold WsSt.grown
      rw [List.length_append, List.length_replicate]; omega
    have hg : ∀ j, s.grown.getD j 0 = s.cnt.getD j 0 := fun j => getD_zeros _ _ _
    have hs : ∀ f : Nat → Int, Sx f 0 s.grown = Sx f 0 s.cnt := fun f => by
      unfold WsSt.grown; rw [Sx_append, Sx_zeros]; omega
    refine ⟨by simp [WsSt.tab], fun i => ?_, fun _ => ?_, ?_, ?_⟩
    · simp only [WsSt.tab]
      rw [getD_set _ _ _ _ hl, hg, hg]
      have := h1 i
      have := h1 s.b.toNat
      split <;> omega
    · simp only [WsSt.tab]
      rw [getD_set _ _ _ _ hl, hg, hg, List.length_set]
      have := h1 s.b.toNat
      split
      · omega
      · rename_i hne
        have hlen : s.grown.length = s.cnt.length := by
          unfold WsSt.grown at hl hne ⊢
          rw [List.length_append, List.length_replicate] at *
          omega
        rw [hlen]
        exact h2 (by omega)
    · simp only [WsSt.tab]
      rw [Sx_set _ _ _ _ hl, hs, h3]
    · simp only [WsSt.tab]
      rw [Sx_set _ _ _ _ hl, hs]
      simp only [Nat.zero_add]
      omega
theorem WsInv.fold : ∀ (cs : List Nat) (s : WsSt), WsInv s → WsInv (cs.foldl WsSt.step s)
  | [], _, h => h
  | c :: r, s, h => WsInv.fold r _ (h.step c)
theorem leadInv (x : Str) : WsInv (leadSt x) := WsInv.fold _ _ .init
/-- twelve counts -/
theorem twelve (a : List Int) (h : a.length ≤ 12) : ∃ c0 c1 c2 c3 c4 c5 c6 c7 c8 c9 c10 c11 : Int, (∀ f : Nat → Int, Sx f 0 a = Sx f 0 [c0, c1, c2, c3, c4, c5, c6, c7, c8, c9, c10, c11]) ∧
    ∀ j, a.getD j 0 = [c0, c1, c2, c3, c4, c5, c6, c7, c8, c9, c10, c11].getD j 0 := by
  have e : ∀ f : Nat → Int, Sx f 0 a = Sx f 0 (a ++ List.replicate (12 - a.length) 0) := fun f => by rw [Sx_append, Sx_zeros]; omega
  have g : ∀ j, a.getD j 0 = (a ++ List.replicate (12 - a.length) 0).getD j 0 := fun j => (getD_zeros _ _ _).symm
  have hl : (a ++ List.replicate (12 - a.length) 0).length = 12 := by rw [List.length_append, List.length_replicate]; omega
  generalize a ++ List.replicate (12 - a.length) 0 = l at *
  match l, hl with
  | [c0, c1, c2, c3, c4, c5, c6, c7, c8, c9, c10, c11], _ => exact ⟨c0, c1, c2, c3, c4, c5, c6, c7, c8, c9, c10, c11, e, g⟩
theorem list_eq_of {a b : List Int} (g : ∀ j, a.getD j 0 = b.getD j 0) (ha : a.length ≠ 0 → 1 ≤ a.getD (a.length - 1) 0) (hb : b.length ≠ 0 → 1 ≤ b.getD (b.length - 1) 0) : a = b := by
  have key : ∀ {a b : List Int}, (∀ j, a.getD j 0 = b.getD j 0) → (b.length ≠ 0 → 1 ≤ b.getD (b.length - 1) 0) → ¬ a.length < b.length := by
    intro a b g hb h
    have h1 := hb (by omega)
    rw [← g, List.getD_eq_getElem?_getD, List.getElem?_eq_none (by omega)] at h1
    simp at h1
  have k1 := key g hb
  have k2 := key (fun j => (g j).symm) ha
  refine List.ext_getElem (by omega) fun j h1 h2 => ?_
  have := g j
  simpa [List.getD_eq_getElem?_getD, h1, h2] using this
def LV (s : WsSt) (ts : Int) : Int := s.b + ts * (Sx (tabF ts) 0 s.cnt + s.nt)
set_option maxHeartbeats 4000000 in
theorem norms_of {s t : WsSt} (hs : WsInv s) (ht : WsInv t) (ls : s.cnt.length ≤ 12) (lt : t.cnt.length ≤ 12) (bs : s.b ≤ 12) (bt : t.b ≤ 12) (h : ∀ ts : Int, 1 ≤ ts → ts ≤ 14 → LV s ts = LV t ts) : s.cnt = t.cnt ∧ s.b = t.b := by
  obtain ⟨c0, c1, c2, c3, c4, c5, c6, c7, c8, c9, c10, c11, e1, g1⟩ := twelve s.cnt ls
  obtain ⟨d0, d1, d2, d3, d4, d5, d6, d7, d8, d9, d10, d11, e2, g2⟩ := twelve t.cnt lt
  have a1 := hs.sum
  have a2 := ht.sum
  have a3 := hs.b0
  have a4 := ht.b0
  rw [e1] at a1
  rw [e2] at a2
  have k1 := h 1 (by decide) (by decide)
  unfold LV at k1
  rw [e1, e2] at k1
  have k2 := h 2 (by decide) (by decide)
  unfold LV at k2
  rw [e1, e2] at k2
  have k3 := h 3 (by decide) (by decide)
  unfold LV at k3
  rw [e1, e2] at k3
  have k4 := h 4 (by decide) (by decide)
  unfold LV at k4
  rw [e1, e2] at k4
  have k5 := h 5 (by decide) (by decide)
  unfold LV at k5
  rw [e1, e2] at k5
  have k6 := h 6 (by decide) (by decide)
  unfold LV at k6
  rw [e1, e2] at k6
  have k7 := h 7 (by decide) (by decide)
  unfold LV at k7
  rw [e1, e2] at k7
  have k8 := h 8 (by decide) (by decide)
  unfold LV at k8
  rw [e1, e2] at k8
  have k9 := h 9 (by decide) (by decide)
  unfold LV at k9
  rw [e1, e2] at k9
  have k10 := h 10 (by decide) (by decide)
  unfold LV at k10
  rw [e1, e2] at k10
  have k11 := h 11 (by decide) (by decide)
  unfold LV at k11
  rw [e1, e2] at k11
  have k12 := h 12 (by decide) (by decide)
  unfold LV at k12
  rw [e1, e2] at k12
  have k13 := h 13 (by decide) (by decide)
  unfold LV at k13
  rw [e1, e2] at k13
  have k14 := h 14 (by decide) (by decide)
  unfold LV at k14
  rw [e1, e2] at k14
  clear h e1 e2
  simp [Sx, tabF] at a1 a2 k1 k2 k3 k4 k5 k6 k7 k8 k9 k10 k11 k12 k13 k14
  have hb : s.b = t.b := by clear a1 a2 k1 k2 k3 k4 k5 k6 k7 k8 k9 k10 k11 k12; omega
  have hn : s.nt = t.nt := by clear a1 a2 k1 k2 k3 k4 k5 k6 k7 k8 k9 k10 k11 k12; omega
  clear k12 k13 k14
  rw [hb, hn] at k1 k2 k3 k4 k5 k6 k7 k8 k9 k10 k11
  rw [hn] at a1
  have q11 : c11 = d11 := by clear a1 a2 k1 k2 k3 k4 k5 k6 k7 k8 k9 k10; omega
  subst q11
  clear k11
  have q10 : c10 = d10 := by clear a1 a2 k1 k2 k3 k4 k5 k6 k7 k8 k9; omega
  subst q10
  clear k10
  have q9 : c9 = d9 := by clear a1 a2 k1 k2 k3 k4 k5 k6 k7 k8; omega
  subst q9
  clear k9
  have q8 : c8 = d8 := by clear a1 a2 k1 k2 k3 k4 k5 k6 k7; omega
  subst q8
  clear k8
  have q7 : c7 = d7 := by clear a1 a2 k1 k2 k3 k4 k5 k6; omega
  subst q7
  clear k7
  have q6 : c6 = d6 := by clear a1 a2 k1 k2 k3 k4 k5; omega
  subst q6
  clear k6
  have q5 : c5 = d5 := by clear a1 a2 k1 k2 k3 k4; omega
  subst q5
  clear k5
  have q4 : c4 = d4 := by clear a1 a2 k1 k2 k3; omega
  subst q4
  clear k4
  have q3 : c3 = d3 := by clear a1 a2 k1 k2; omega
  subst q3
  clear k3
  have q2 : c2 = d2 := by clear a1 a2 k1; omega
  subst q2
  clear k2
  have q1 : c1 = d1 := by clear a1 a2 ; omega
  subst q1
  clear k1
  have q0 : c0 = d0 := by omega
  subst q0
  refine ⟨list_eq_of (fun j => ?_) hs.last ht.last, hb⟩
  rw [g1, g2]
end Mine
end
section
open PySem PySem.W PyProof.Rows PySem.Calls
namespace Mine
theorem level_LV (x : Str) {ts : Int} (h1 : 1 ≤ ts) : (leadData x).level ts = LV (leadSt x) ts := by
  unfold Ws.level LV leadData
  dsimp only
  rw [ilSum_is h1]
theorem Sx_small {ts : Int} : ∀ (a : List Int) (o : Nat), ((o + a.length : Nat) : Int) ≤ ts → Sx (tabF ts) o a = 0
  | [], _, _ => rfl
  | c :: r, o, h => by
    rw [List.length_cons] at h
    have e : tabF ts o = 0 := by
      unfold tabF
      exact Int.ediv_eq_zero_of_lt (by omega) (by omega)
    rw [Sx, e, Sx_small r (o + 1) (by omega)]; omega
theorem LV_one {s : WsSt} (h : WsInv s) : LV s 1 = s.n := by
  have e : tabF 1 = fun i : Nat => (i : Int) := by funext i; unfold tabF; exact Int.ediv_one _
  unfold LV
  rw [e]
  have := h.all
  omega
theorem LV_big {s : WsSt} {ts : Int} (h : (s.cnt.length : Int) ≤ ts) : LV s ts = s.b + ts * s.nt := by
  unfold LV
  rw [Sx_small s.cnt 0 (by omega), Int.zero_add]
theorem grow_lt {b b' nt nt' M ts : Int} (hM : 1 ≤ M) (h : M ≤ ts) (hn : nt ≤ nt') (hl : b + M * nt < b' + M * nt') : b + ts * nt < b' + ts * nt' := by
  obtain ⟨k, rfl⟩ : ∃ k : Int, nt' = nt + k := ⟨nt' - nt, by omega⟩
  have hk : 0 ≤ k := by omega
  have h2 : M * k ≤ ts * k := Int.mul_le_mul_of_nonneg_right h hk
  rw [Int.mul_add] at hl ⊢
  omega
theorem nt_le {b b' nt nt' M : Int} (hM : 1 ≤ M) (hb : 0 ≤ b) (hb' : b' < M) (hl : b + M * nt < b' + M * nt') : nt ≤ nt' := by
  apply Int.not_lt.mp
  intro h
  have h2 : M * (nt' + 1) ≤ M * nt := Int.mul_le_mul_of_nonneg_left (by omega) (by omega)
  rw [Int.mul_add] at h2
  omega
theorem less_core {x y : Str} (lx : x.length ≤ 12) (ly : y.length ≤ 12) {r : Bool} (H : LessSays (leadData x) (leadData y) r) :
    r = true ↔ ∀ ts : Int, 1 ≤ ts → ts ≤ 14 → LV (leadSt x) ts < LV (leadSt y) ts := by
  have hs := leadInv x
  have ht := leadInv y
  have bs := leadSt_bounds x lx
  have bt := leadSt_bounds y ly
  obtain ⟨H1, H2, H3⟩ := H
  have nx : (leadData x).n = (leadSt x).n := rfl
  have ny : (leadData y).n = (leadSt y).n := rfl
  by_cases hn : (leadData y).n ≤ (leadData x).n
  · rw [H1 hn]
    refine ⟨fun h => (nomatch h), fun h => ?_⟩
    have := h 1 (by decide) (by decide)
    rw [LV_one hs, LV_one ht] at this
    omega
  · have h1 : LV (leadSt x) 1 < LV (leadSt y) 1 := by rw [LV_one hs, LV_one ht]; omega
    by_cases hsim : (leadData x).simple = true ∧ (leadData y).simple = true
    · rw [H2 hn hsim.1 hsim.2]
      have c1 : ((leadSt x).cnt.length : Int) ≤ 1 := of_decide_eq_true hsim.1
      have c2 : ((leadSt y).cnt.length : Int) ≤ 1 := of_decide_eq_true hsim.2
      rw [LV_big c1, LV_big c2] at h1
      rw [decide_eq_true_eq]
      show (leadSt x).nt ≤ (leadSt y).nt ↔ _
      refine ⟨fun h ts a b => ?_, fun h => ?_⟩
      · rw [LV_big (by omega), LV_big (by omega)]
        exact grow_lt (by omega) a h h1
      · have := h 14 (by decide) (by decide)
        rw [LV_big (by omega), LV_big (by omega)] at this
        exact nt_le (by decide) bs.1 (by omega) this
    · have hns : (leadData x).simple = false ∨ (leadData y).simple = false := by
        cases h1 : (leadData x).simple
        · exact .inl rfl
        · cases h2 : (leadData y).simple
          · exact .inr rfl
          · exact absurd ⟨h1, h2⟩ hsim
      rw [H3 hn hns]
      have hm2 : 2 ≤ (leadData x).most (leadData y) ∧ (leadData x).most (leadData y) ≤ 13 ∧ ((leadSt x).cnt.length : Int) ≤ (leadData x).most (leadData y) ∧ ((leadSt y).cnt.length : Int) ≤ (leadData x).most (leadData y) ∧ (leadSt y).b < (leadData x).most (leadData y) := by
        have e1 : (leadData x).longest = max (((leadSt x).cnt.length : Int) - 1) (leadSt x).b := rfl
        have e2 : (leadData y).longest = max (((leadSt y).cnt.length : Int) - 1) (leadSt y).b := rfl
        have e3 : ¬ ((leadSt x).cnt.length : Int) ≤ 1 ∨ ¬ ((leadSt y).cnt.length : Int) ≤ 1 := by
          rcases hns with h | h
          · exact .inl (of_decide_eq_false h)
          · exact .inr (of_decide_eq_false h)
        unfold Ws.most
        omega
      generalize (leadData x).most (leadData y) = M at *
      obtain ⟨m2, m13, l1, l2, bM⟩ := hm2
      refine ⟨fun h ts a b => ?_, fun h v a b => ?_⟩
      · by_cases e1 : ts = 1
        · rw [e1]; exact h1
        by_cases e2 : ts ≤ M
        · have := h ts (by omega) e2
          rw [level_LV x a, level_LV y a] at this
          exact this
        · have hM := h M m2 (Int.le_refl _)
          rw [level_LV x (by omega), level_LV y (by omega), LV_big l1, LV_big l2] at hM
          rw [LV_big (by omega), LV_big (by omega)]
          exact grow_lt (by omega) (by omega) (nt_le (by omega) bs.1 bM hM) hM
      · rw [level_LV x (by omega), level_LV y (by omega)]
        exact h v (by omega) (by omega)
end Mine
end
section
open PySem PySem.W PyProof.Rows PySem.Calls PySem.StrLaws PySem.Builtin.Str
namespace Mine
theorem cnt_grow (s : WsSt) (hb : 0 ≤ s.b) : (s.tab.cnt.length : Int) = max (s.cnt.length : Int) (s.b + 1) := by
  simp only [WsSt.tab, WsSt.grown, List.length_set, List.length_append, List.length_replicate]
  omega
theorem cnt_mono : ∀ (cs : List Nat) (s : WsSt), 0 ≤ s.b → s.cnt.length ≤ (cs.foldl WsSt.step s).cnt.length ∧ 0 ≤ (cs.foldl WsSt.step s).b
  | [], s, h => ⟨Nat.le_refl _, h⟩
  | c :: r, s, h => by
    rw [List.foldl_cons]
    have hb : 0 ≤ (s.step c).b := by
      unfold WsSt.step; split
      · simp only [WsSt.blank]; omega
      · simp [WsSt.tab]
    have := cnt_mono r (s.step c) hb
    refine ⟨Nat.le_trans ?_ this.1, this.2⟩
    unfold WsSt.step; split
    · exact Nat.le_refl _
    · have := cnt_grow s h; omega
theorem blanks_fold : ∀ (l : List Nat) (s : WsSt), (∀ c ∈ l, c = 32) → (l.foldl WsSt.step s).cnt = s.cnt ∧ (l.foldl WsSt.step s).b = s.b + l.length
  | [], s, _ => ⟨rfl, by simp⟩
  | c :: r, s, h => by
    have hc := h c (.head _)
    subst hc
    obtain ⟨e1, e2⟩ := blanks_fold r (s.step 32) fun q hq => h q (.tail _ hq)
    have es : s.step 32 = s.blank := by unfold WsSt.step; rw [if_pos rfl]
    rw [es] at e1 e2
    have eb : s.blank.b = s.b + 1 := rfl
    rw [List.foldl_cons, es, List.length_cons]
    exact ⟨e1, by omega⟩
def longOf (s : WsSt) : Int := max ((s.cnt.length : Int) - 1) s.b
theorem runs_fold : ∀ (ps : List Str) (p : Str) (s : WsSt), s.b = 0 → (∀ q ∈ p :: ps, ∀ c ∈ q.cps.toList, c = 32) →
    (∀ q ∈ p :: ps, (q.length : Int) ≤ longOf ((Str.join ⟨#[9]⟩ (p :: ps)).cps.toList.foldl WsSt.step s)) ∧
    ((∃ q ∈ p :: ps, longOf ((Str.join ⟨#[9]⟩ (p :: ps)).cps.toList.foldl WsSt.step s) = q.length) ∨ longOf ((Str.join ⟨#[9]⟩ (p :: ps)).cps.toList.foldl WsSt.step s) = (s.cnt.length : Int) - 1)
  | [], p, s, h0, hp => by
    obtain ⟨e1, e2⟩ := blanks_fold p.cps.toList s (hp p (.head _))
    have el : p.length = p.cps.toList.length := by simp [Str.length]
    show (∀ q ∈ [p], (q.length : Int) ≤ longOf (p.cps.toList.foldl WsSt.step s)) ∧ ((∃ q ∈ [p], longOf (p.cps.toList.foldl WsSt.step s) = q.length) ∨ longOf (p.cps.toList.foldl WsSt.step s) = _)
    unfold longOf
    rw [e1, e2, h0]
    refine ⟨fun q hq => by rw [List.mem_singleton.mp hq]; omega, ?_⟩
    by_cases h : (s.cnt.length : Int) - 1 ≤ p.length
    · exact .inl ⟨p, .head _, by omega⟩
    · exact .inr (by omega)
  | q :: r, p, s, h0, hp => by
    obtain ⟨e1, e2⟩ := blanks_fold p.cps.toList s (hp p (.head _))
    have el : p.length = p.cps.toList.length := by simp [Str.length]
    have ej : (Str.join ⟨#[9]⟩ (p :: q :: r)).cps.toList.foldl WsSt.step s = (Str.join ⟨#[9]⟩ (q :: r)).cps.toList.foldl WsSt.step (p.cps.toList.foldl WsSt.step s).tab := by
      show (p ++ ⟨#[9]⟩ ++ Str.join ⟨#[9]⟩ (q :: r)).cps.toList.foldl WsSt.step s = _
      rw [Str.cps_append, Str.cps_append, Array.toList_append, Array.toList_append, List.foldl_append, List.foldl_append]
      rfl
    rw [ej]
    have h1 : (0 : Int) ≤ (p.cps.toList.foldl WsSt.step s).b := by rw [e2, h0]; omega
    have hg := cnt_grow _ h1
    rw [e1, e2, h0] at hg
    have hz : (p.cps.toList.foldl WsSt.step s).tab.b = 0 := rfl
    generalize (p.cps.toList.foldl WsSt.step s).tab = s' at *
    obtain ⟨A, B⟩ := runs_fold r q s' hz fun q' hq' => hp q' (.tail _ hq')
    have hm := (cnt_mono (Str.join ⟨#[9]⟩ (q :: r)).cps.toList s' (by omega)).1
    have hF : ((((Str.join ⟨#[9]⟩ (q :: r)).cps.toList.foldl WsSt.step s').cnt.length : Int) - 1) ≤ longOf ((Str.join ⟨#[9]⟩ (q :: r)).cps.toList.foldl WsSt.step s') := by unfold longOf; omega
    refine ⟨fun q' hq' => ?_, ?_⟩
    · rcases List.mem_cons.mp hq' with rfl | hq'
      · omega
      · exact A q' hq'
    · rcases B with ⟨q', hq', e⟩ | B
      · exact .inl ⟨q', .tail _ hq', e⟩
      · by_cases hc : (s.cnt.length : Int) ≤ p.length + 1
        · exact .inl ⟨p, .head _, by omega⟩
        · exact .inr (by omega)
theorem longest_law {x : Str} (h : ∀ c ∈ x.cps.toList, isWs c = true) (_hl : x.length ≤ 12) {M : Int} (hM : lawLongest x M) : M = (leadData x).longest := by
  have ht : Str.ofString "\t" = ⟨#[9]⟩ := by decide +kernel
  unfold lawLongest at hM
  rw [ht] at hM
  have hj := join_split x ⟨#[9]⟩
  have hf := split_free x 9
  obtain ⟨⟨r, hr, e⟩, hle⟩ := hM
  have hin : ∀ (ps : List Str), ∀ q ∈ ps, ∀ c ∈ q.cps.toList, c ∈ (Str.join ⟨#[9]⟩ ps).cps.toList := by
    intro ps
    induction ps with
    | nil => intro q hq; cases hq
    | cons p ps ih =>
      cases ps with
      | nil => intro q hq c hc; rw [List.mem_singleton.mp hq] at hc; exact hc
      | cons p2 ps =>
        intro q hq c hc
        show c ∈ (p ++ ⟨#[9]⟩ ++ Str.join ⟨#[9]⟩ (p2 :: ps)).cps.toList
        rw [Str.cps_append, Str.cps_append, Array.toList_append, Array.toList_append]
        rcases List.mem_cons.mp hq with rfl | hq
        · exact List.mem_append_left _ (List.mem_append_left _ hc)
        · exact List.mem_append_right _ (ih q hq c hc)
  have h32 : ∀ q ∈ Txt.split x ⟨#[9]⟩, ∀ c ∈ q.cps.toList, c = 32 := by
    intro q hq c hc
    have h1 := hin _ q hq c hc
    rw [hj] at h1
    have h2 := h c h1
    simp [isWs] at h2
    rcases h2 with h2 | h2
    · exact h2
    · exact absurd (h2 ▸ hc) (hf q hq)
  cases hs : Txt.split x ⟨#[9]⟩ with
  | nil => rw [hs] at hr; cases hr
  | cons p ps =>
    rw [hs] at hj h32 hr hle
    obtain ⟨A, B⟩ := runs_fold ps p WsSt.init rfl h32
    rw [hj] at A B
    have el : (leadData x).longest = longOf (x.cps.toList.foldl WsSt.step WsSt.init) := rfl
    have hb := (cnt_mono x.cps.toList WsSt.init (Int.le_refl _)).2
    rw [el]
    have hge : 0 ≤ longOf (x.cps.toList.foldl WsSt.step WsSt.init) := by unfold longOf; omega
    have i0 : (WsSt.init.cnt.length : Int) = 0 := rfl
    rcases B with ⟨q, hq, e2⟩ | B
    · have a1 := hle q hq
      have a2 := A r hr
      omega
    · omega
end Mine
end
section
open PySem PySem.W PyProof.Rows PySem.Calls
namespace Mine
mutual
theorem datIn_only {news news' : List (Addr × Obj)} (hs : ∀ p ∈ news, (∃ vs n, p.2.data = .seq vs n) → p ∈ news') : ∀ {v : Value} {d : Dat}, DatIn news v d → DatIn news' v d
  | _, _, .none => .none
  | _, _, .bool b => .bool b
  | _, _, .int i t => .int i t
  | _, _, .str x t => .str x t
  | _, _, .bytes b t => .bytes b t
  | _, _, .tuple h r => .tuple (hs _ h ⟨_, _, rfl⟩) (datAll_only hs r)
  | _, _, .list h r => .list (hs _ h ⟨_, _, rfl⟩) (datAll_only hs r)
theorem datAll_only {news news' : List (Addr × Obj)} (hs : ∀ p ∈ news, (∃ vs n, p.2.data = .seq vs n) → p ∈ news') : ∀ {vs : List Value} {ds : List Dat}, DatAll news vs ds → DatAll news' vs ds
  | _, _, .nil => .nil
  | _, _, .cons a r => .cons (datIn_only hs a) (datAll_only hs r)
end
theorem row_get {tl : List (Addr × Obj)} {vs : List Value} {tx tb : Str} {n j : Nat} {v : Value} (hD : DatAll tl vs (rowsTo tx tb n)) (hv : vs[j]? = some v) : j < n ∧ DatIn tl v (row tx tb j) := by
  have hl := DatAll.length hD
  rw [rows_len] at hl
  have hj : j < n := by
    have := (List.getElem?_eq_some_iff.mp hv).1
    omega
  refine ⟨hj, ?_⟩
  obtain ⟨v', e, h⟩ := DatAll.get hD (k := j) (by rw [rows_len]; exact hj)
  rw [hv] at e; cases e
  simpa [rowsTo] using h
theorem row_item {tl : List (Addr × Obj)} {vs : List Value} {tx tb : Str} {n j : Nat} {v : Value} (hD : DatAll tl vs (rowsTo tx tb n)) (hv : vs[j]? = some v) :
    j < n ∧ ∃ a t1 t2 t3 k, v = .ref a ∧ (a, ({ cls := .type "tuple", data := .seq #[.int (1 + (j : Int)) t1, .int (reach (1 + (j : Int)) tx) t2, .int (reach (1 + (j : Int)) tb) t3] k } : Obj)) ∈ tl := by
  obtain ⟨hj, h⟩ := row_get hD hv
  refine ⟨hj, ?_⟩
  unfold row at h
  cases h with
  | tuple hm hr =>
    cases hr with
    | cons a r =>
      cases a; cases r with
      | cons a r =>
        cases a; cases r with
        | cons a r =>
          cases a; cases r
          exact ⟨_, _, _, _, _, rfl, hm⟩
theorem filt_dat {tl : List (Addr × Obj)} {vs : List Value} {tx tb : Str} {n : Nat} (hD : DatAll tl vs (rowsTo tx tb n)) : ∀ {idx : List Nat} {ys : List Value}, Paired (fun (j : Nat) (y : Value) => vs[j]? = some y) idx ys → DatAll tl ys (idx.map (row tx tb))
  | _, _, .nil => .nil
  | _, _, .cons e r => .cons (row_get hD e).2 (filt_dat hD r)
theorem news_one {h₀ h : Heap} {L : Addr} {news : List (Addr × Obj)} (N : News h₀ L h news) {p q : Addr × Obj} (hp : p ∈ news) (hq : q ∈ news) (e : p.1 = q.1) : p.2 = q.2 := by
  have a := (N p hp).1
  have b := (N q hq).1
  rw [e, b] at a; exact (Option.some.inj a).symm
theorem dat_off {h₀ h : Heap} {L c : Addr} {news tl : List (Addr × Obj)} {o : Obj} {v : Option Value} {vs : List Value} {ds : List Dat} (N : News h₀ L h news) (ht : ∀ p ∈ tl, p ∈ news) (hc : (c, o) ∈ news) (hd : o.data = .cell v) (hD : DatAll tl vs ds) :
    DatAll (tl.filter fun p => decide (p.1 ≠ c)) vs ds := datAll_only (fun p hp ⟨xs, n, e⟩ => by
  refine List.mem_filter.mpr ⟨hp, decide_eq_true fun q => ?_⟩
  have := news_one N (ht p hp) hc q
  rw [this] at e
  rw [e] at hd; cases hd) hD
theorem pickB {h₀ h : Heap} {L : Addr} {a b d m s e : Addr × Obj} {tl tf : List (Addr × Obj)} (N : News h₀ L h (a :: b :: tl)) (hd : d ∈ tl) (hm : m ∈ tl) (hs : s ∈ tl) (he : e ∈ tl) (hf : ∀ p ∈ tf, p ∈ tl) : News h₀ L h (d :: m :: s :: e :: a :: b :: tf) := cb_drop N fun p hp => by
  simp only [List.mem_cons] at hp ⊢
  rcases hp with hp | hp | hp | hp | hp | hp | hp
  · rw [hp]; exact .inr (.inr hd)
  · rw [hp]; exact .inr (.inr hm)
  · rw [hp]; exact .inr (.inr hs)
  · rw [hp]; exact .inr (.inr he)
  · simp [hp]
  · simp [hp]
  · exact .inr (.inr (hf p hp))
def idxNE (tx tb : Str) : List Nat := (List.range 14).filter fun j => decide (reach (1 + (j : Int)) tx ≠ reach (1 + (j : Int)) tb)
def idxNL (tx tb : Str) : List Nat := (List.range 14).filter fun j => decide (reach (1 + (j : Int)) tb ≤ reach (1 + (j : Int)) tx)
theorem nil_iff (tx tb : Str) (p : Nat → Bool) : ((List.range 14).filter p).map (row tx tb) = [] ↔ ∀ j, j < 14 → p j = false := by
  rw [List.map_eq_nil_iff, List.filter_eq_nil_iff]
  exact ⟨fun h j hj => by simpa using h j (List.mem_range.mpr hj), fun h j hj => by simp [h j (List.mem_range.mp hj)]⟩
theorem reach_LV {x : Str} (h : ∀ c ∈ x.cps.toList, isWs c = true) (hl : x.length ≤ 12) {ts : Int} (h1 : 1 ≤ ts) : reach ts x = LV (leadSt x) ts := by
  rw [← level_is h hl h1, level_LV x h1]
theorem equal_law {tx tb : Str} (h1 : ∀ c ∈ tx.cps.toList, isWs c = true) (h2 : ∀ c ∈ tb.cps.toList, isWs c = true) (l1 : tx.length ≤ 12) (l2 : tb.length ≤ 12) :
    (decide ((leadData tx).cnt = (leadData tb).cnt) && decide ((leadData tx).b = (leadData tb).b)) = decide ((idxNE tx tb).map (row tx tb) = []) := by
  have b1 := leadSt_bounds tx l1
  have b2 := leadSt_bounds tb l2
  have i1 := leadInv tx
  have i2 := leadInv tb
  have key : ((leadData tx).cnt = (leadData tb).cnt ∧ (leadData tx).b = (leadData tb).b) ↔ (idxNE tx tb).map (row tx tb) = [] := by
    unfold idxNE
    rw [nil_iff]
    constructor
    · intro ⟨e1, e2⟩ j _
      have e1' : (leadSt tx).cnt = (leadSt tb).cnt := e1
      have e2' : (leadSt tx).b = (leadSt tb).b := e2
      have e3 : (leadSt tx).nt = (leadSt tb).nt := by rw [← i1.sum, ← i2.sum, e1']
      rw [reach_LV h1 l1 (by omega), reach_LV h2 l2 (by omega)]
      unfold LV
      rw [e1', e2', e3]
      simp
    · intro h
      refine norms_of i1 i2 b1.2.2 b2.2.2 b1.2.1 b2.2.1 fun ts a b => ?_
      have := h (ts - 1).toNat (by omega)
      rw [show (1 : Int) + ((ts - 1).toNat : Int) = ts by omega] at this
      rw [← reach_LV h1 l1 a, ← reach_LV h2 l2 a]
      simpa using this
  rw [← Bool.decide_and]
  exact decide_eq_decide.mpr key
theorem less_law {tx tb : Str} (h1 : ∀ c ∈ tx.cps.toList, isWs c = true) (h2 : ∀ c ∈ tb.cps.toList, isWs c = true) (l1 : tx.length ≤ 12) (l2 : tb.length ≤ 12) {r : Bool} (hr : LessSays (leadData tx) (leadData tb) r) :
    r = decide ((idxNL tx tb).map (row tx tb) = []) := by
  have key : r = true ↔ (idxNL tx tb).map (row tx tb) = [] := by
    rw [less_core l1 l2 hr]
    unfold idxNL
    rw [nil_iff]
    constructor
    · intro h j hj
      have := h (1 + (j : Int)) (by omega) (by omega)
      rw [reach_LV h1 l1 (by omega), reach_LV h2 l2 (by omega)]
      exact decide_eq_false (by omega)
    · intro h ts a b
      have := of_decide_eq_false (h (ts - 1).toNat (by omega))
      rw [show (1 : Int) + ((ts - 1).toNat : Int) = ts by omega] at this
      rw [← reach_LV h1 l1 a, ← reach_LV h2 l2 a]
      omega
  cases r
  · exact (decide_eq_false fun h => (nomatch (key.mpr h))).symm
  · exact (decide_eq_true (key.mp rfl)).symm
theorem most_law (tx tb : Str) : 1 + (if (leadData tb).longest > (leadData tx).longest then (leadData tb).longest else (leadData tx).longest) = (leadData tx).most (leadData tb) := by
  unfold Ws.most; split <;> omega
def idxU (tx tb : Str) (mm : Int) : List Nat := (List.range 14).filter fun j => decide (reach (1 + (j : Int)) tx ≠ reach (1 + (j : Int)) tb) && decide (1 + (j : Int) ≤ mm)
def idxL (tx tb : Str) (mm : Int) : List Nat := (List.range 14).filter fun j => decide (reach (1 + (j : Int)) tb ≤ reach (1 + (j : Int)) tx) && decide (1 + (j : Int) ≤ mm)
theorem idxU_len (tx tb : Str) (mm : Int) : (idxU tx tb mm).length ≤ 14 := by
  unfold idxU; exact Nat.le_trans (List.length_filter_le _ _) (by simp)
theorem idxL_len (tx tb : Str) (mm : Int) : (idxL tx tb mm).length ≤ 14 := by
  unfold idxL; exact Nat.le_trans (List.length_filter_le _ _) (by simp)
theorem range_split (m : Nat) (hm : m ≤ 14) (p : Nat → Bool) : (List.range m).filter p = (List.range 14).filter fun j => p j && decide (j < m) := by
  rw [show (14 : Nat) = m + (14 - m) by omega, List.range_add, List.filter_append]
  have e1 : ((List.range (14 - m)).map (m + ·)).filter (fun j => p j && decide (j < m)) = [] := by
    rw [List.filter_eq_nil_iff]
    intro j hj
    obtain ⟨i, _, rfl⟩ := List.mem_map.mp hj
    simp
  rw [e1, List.append_nil]
  refine List.filter_congr fun j hj => ?_
  have : j < m := List.mem_range.mp hj
  simp [this]
theorem wit_gen {tx tb : Str} (l1 : tx.length ≤ 12) (l2 : tb.length ≤ 12) (h1 : ∀ c ∈ tx.cps.toList, isWs c = true) (h2 : ∀ c ∈ tb.cps.toList, isWs c = true) (q : Int → Int → Bool) :
    ((rangeKs 1 ((leadData tx).most (leadData tb)).toNat).filter fun ts => q ((leadData tx).level ts) ((leadData tb).level ts)).map (triple (leadData tx) (leadData tb)) =
      ((List.range 14).filter fun j : Nat => q (reach (1 + (j : Int)) tx) (reach (1 + (j : Int)) tb) && decide (1 + (j : Int) ≤ (leadData tx).most (leadData tb))).map (row tx tb) := by
  have b1 := longest_bounds tx l1
  have b2 := longest_bounds tb l2
  have hm : 1 ≤ (leadData tx).most (leadData tb) ∧ (leadData tx).most (leadData tb) ≤ 13 := by unfold Ws.most; omega
  generalize (leadData tx).most (leadData tb) = mm at *
  unfold rangeKs
  rw [List.filter_map, List.map_map]
  have e : (List.range mm.toNat).filter ((fun ts => q ((leadData tx).level ts) ((leadData tb).level ts)) ∘ fun i : Nat => (1 : Int) + (i : Int)) = (List.range mm.toNat).filter fun j : Nat => q (reach (1 + (j : Int)) tx) (reach (1 + (j : Int)) tb) := by
    refine List.filter_congr fun j _ => ?_
    simp only [Function.comp]
    rw [level_is h1 l1 (by omega), level_is h2 l2 (by omega)]
  rw [e, range_split mm.toNat (by omega)]
  have e2 : ((List.range 14).filter fun j : Nat => q (reach (1 + (j : Int)) tx) (reach (1 + (j : Int)) tb) && decide (j < mm.toNat)) = ((List.range 14).filter fun j : Nat => q (reach (1 + (j : Int)) tx) (reach (1 + (j : Int)) tb) && decide (1 + (j : Int) ≤ mm)) := by
    refine List.filter_congr fun j _ => ?_
    congr 1
    exact decide_eq_decide.mpr (by omega)
  rw [e2]
  refine List.map_congr_left fun j _ => ?_
  simp only [Function.comp, triple, row]
  rw [level_is h1 l1 (by omega), level_is h2 l2 (by omega)]
theorem wit_ne {tx tb : Str} (h1 : ∀ c ∈ tx.cps.toList, isWs c = true) (h2 : ∀ c ∈ tb.cps.toList, isWs c = true) (l1 : tx.length ≤ 12) (l2 : tb.length ≤ 12) :
    witNE (leadData tx) (leadData tb) (rangeKs 1 ((leadData tx).most (leadData tb)).toNat) = (idxU tx tb ((leadData tx).most (leadData tb))).map (row tx tb) :=
  wit_gen l1 l2 h1 h2 fun a b => decide (a ≠ b)
theorem wit_nl {tx tb : Str} (h1 : ∀ c ∈ tx.cps.toList, isWs c = true) (h2 : ∀ c ∈ tb.cps.toList, isWs c = true) (l1 : tx.length ≤ 12) (l2 : tb.length ≤ 12) :
    witNL (leadData tx) (leadData tb) (rangeKs 1 ((leadData tx).most (leadData tb)).toNat) = (idxL tx tb ((leadData tx).most (leadData tb))).map (row tx tb) :=
  wit_gen l1 l2 h1 h2 fun a b => decide (b ≤ a)
theorem idx_lt {idx : List Nat} {tl : List (Addr × Obj)} {us : List Value} {tx tb : Str} (hD : DatAll tl us (idx.map (row tx tb))) {j : Nat} {v : Value} (hv : us[j]? = some v) :
    ∃ i a t1 t2 t3 k, idx[j]? = some i ∧ v = .ref a ∧ (a, ({ cls := .type "tuple", data := .seq #[.int (1 + (i : Int)) t1, .int (reach (1 + (i : Int)) tx) t2, .int (reach (1 + (i : Int)) tb) t3] k } : Obj)) ∈ tl := by
  have hl := DatAll.length hD
  rw [List.length_map] at hl
  have hj : j < idx.length := by
    have := (List.getElem?_eq_some_iff.mp hv).1
    omega
  obtain ⟨v', e, h⟩ := DatAll.get hD (k := j) (by rw [List.length_map]; exact hj)
  rw [hv] at e; cases e
  rw [List.getElem_map] at h
  unfold row at h
  cases h with
  | tuple hm hr =>
    cases hr with
    | cons a r =>
      cases a; cases r with
      | cons a r =>
        cases a; cases r with
        | cons a r =>
          cases a; cases r
          exact ⟨idx[j], _, _, _, _, _, by simp [hj], rfl, hm⟩
theorem list_same {us ys : List Value} (hl : ys.length = us.length) (h : ∀ (j : Nat) (y : Value), ys[j]? = some y → us[j]? = some y) : ys = us := by
  refine List.ext_getElem? fun j => ?_
  cases e : ys[j]? with
  | some y => exact (h j y e).symm
  | none =>
    have : us.length ≤ j := by rw [← hl]; exact List.getElem?_eq_none_iff.mp e
    exact (List.getElem?_eq_none this).symm
theorem kqd_ne_same {prog : Program} {w : World} {A : Around} {E : Value → Shared → Prop} {s : Shared} {h₀ : Heap} {L a b : Addr} {oa ob : Obj} {xs ys : List Value} {ka kb : Nat} {ds es : List Dat} {news n₁ n₂ : List (Addr × Obj)} {Q : Value → Shared → Prop}
    (N : News h₀ L s.heap news) (ma : (a, oa) ∈ news) (ca : oa.cls = .type "list") (da : oa.data = .seq xs.toArray ka) (Da : DatAll n₁ xs ds) (sa : ∀ p ∈ n₁, p ∈ news)
    (mb : (b, ob) ∈ news) (cb : ob.cls = .type "list") (db : ob.data = .seq ys.toArray kb) (Db : DatAll n₂ ys es) (sb : ∀ p ∈ n₂, p ∈ news)
    (ha : ∀ d ∈ ds, kqdOk 8 d = true) (hb : ∀ d ∈ es, kqdOk 8 d = true) (hu : A.units + 64 < cLine) (e : ds = es) (h : Q (.bool false) s) : wpAny (model prog w) A (compareOp .NotEq (.ref a) (.ref b)) Q E s := by
  refine kqd_ne N ma ca da Da sa mb cb db Db sb ha hb hu ?_
  subst e
  simpa using h
def numText (i : Nat) : Str := Str.ofString (toString (1 + (i : Int)))
theorem numText_len {i : Nat} (h : i < 14) : (numText i).length ≤ 2 := by
  have : ∀ i : Fin 14, (numText i.val).length ≤ 2 := by decide +kernel
  exact this ⟨i, h⟩
theorem carried_num : ∀ {idx : List Nat} {ys : List Value}, ys.length = idx.length → (∀ (j : Nat) (y : Value), ys[j]? = some y → ∃ i t, idx[j]? = some i ∧ y = Value.str (numText i) t) → CarriedAll ys (idx.map fun i => PyData.str (numText i))
  | [], [], _, _ => .nil
  | i :: idx, y :: ys, hl, h => by
    obtain ⟨i', t, e, rfl⟩ := h 0 y rfl
    simp at e; subst e
    exact .cons (.str _ _) (carried_num (by simpa using hl) fun j z hz => by simpa using h (j + 1) z (by simpa using hz))
theorem idxL_lt {tx tb : Str} {mm : Int} {j i : Nat} (h : (idxL tx tb mm)[j]? = some i) : i < 14 := by
  have := List.mem_of_getElem? h
  unfold idxL at this
  exact List.mem_range.mp (List.mem_filter.mp this).1
theorem len_lst {prog : Program} {w : World} {A : Around} {E : Value → Shared → Prop} {s : Shared} {h₀ : Heap} {L l : Addr} {ys : List Value} {k : Nat} {news : List (Addr × Obj)} {Q : Value → Shared → Prop}
    (N : News h₀ L s.heap news) (hm : (l, ({ cls := .type "list", data := .seq ys.toArray k } : Obj)) ∈ news) (hb : ys.length ≤ 14) (h : ∀ t k', Q (.int (ys.length : Int) t) { s with toks := k' }) : wpAny (model prog w) A (call (.builtin "len") [.ref l]) Q E s := by
  have hl : s.heap.IsList l ys.toArray := ⟨_, (N _ hm).1, rfl, k, rfl⟩
  exact len_list hl (by rw [List.size_toArray]; omega) (by rw [List.size_toArray]; exact h _ _)
theorem eq_yes {prog : Program} {w : World} {A : Around} {E : Value → Shared → Prop} {s : Shared} {Q : Value → Shared → Prop} {x y : Str} {t u : Tok} (e : x = y) (h : Q (.bool true) s) : wpAny (model prog w) A (compareOp .Eq (.str x t) (.str y u)) Q E s := by
  subst e
  refine eq_str ?_
  simpa using h
theorem join_le : ∀ (idx : List Nat), (∀ i ∈ idx, i < 14) → (Txt.join (Str.ofString ", ") (idx.map numText)).length ≤ 4 * idx.length := by
  intro idx h
  show (Builtin.Str.glued _ _).length ≤ _
  rw [StrLaws.glued_eq_join]
  have h1 := StrLaws.join_length_le (Str.ofString ", ") (idx.map numText)
  have h2 : ((idx.map numText).map (·.length)).sum ≤ 2 * idx.length := by
    clear h1
    induction idx with
    | nil => simp
    | cons i r ih =>
      have a := numText_len (h i (.head _))
      have b := ih fun q hq => h q (.tail _ hq)
      simp only [List.map_cons, List.sum_cons, List.length_cons] at b ⊢
      omega
  have h3 : (Str.ofString ", ").length = 2 := by decide +kernel
  rw [List.length_map, h3] at h1
  omega
theorem isnot_same {M : Model} {A : Around} {E : Value → Shared → Prop} {s : Shared} {Q : Value → Shared → Prop} {x y : Bool} (e : x = y) (h : Q (.bool false) s) : wpAny M A (compareOp .IsNot (.bool x) (.bool y)) Q E s := by
  subst e
  refine wpAny_isNot_plain rfl ?_
  have e : (!(Value.bool x == Value.bool x)) = false := by simp
  rw [e]; exact h
theorem rows_ok {idx : List Nat} {tx tb : Str} : ∀ d ∈ idx.map (row tx tb), kqdOk 8 d = true := by
  intro d hd
  obtain ⟨j, _, rfl⟩ := List.mem_map.mp hd
  rfl
end Mine
end
section
open PySem PySem.W PyProof.Rows PySem.Calls
namespace Mine
/-- what the law's call ends in: True, the old objects as they stood but for the tables, and generators bare -/
def LawPost (tabs : List (Addr × Addr)) (s₁ : Shared) (r : Result) (s' : Shared) : Prop :=
  r = .ok (.ret (.bool true)) ∧ (∀ b o, (ghostOf s₁.heap tabs).get? b = some o → s'.heap.get? b = some o) ∧ s'.os = s₁.os ∧ AllBare s'.gens ∧ GrownAll tabs s'.heap
theorem tab_kept {s₁ : Shared} {h' : Heap} {tabs : List (Addr × Addr)} (hT : TabsAt tabs s₁.heap) (hk : ∀ b o, (ghostOf s₁.heap tabs).get? b = some o → h'.get? b = some o) (hgr : GrownAll tabs h') (b : Addr) (o : Obj) (e : s₁.heap.get? b = some o) :
    h'.get? b = some o ∨ (isCodeTable s₁.heap b ∧ o = tabObj #[] ∧ ∃ ps, h'.get? b = some (tabObj ps)) := by
  rcases Classical.em (b ∈ tabs.map (·.2)) with hb | hb
  · refine .inr ?_
    obtain ⟨⟨c, P⟩, hq, h2⟩ := List.mem_map.mp hb
    dsimp only at h2
    subst h2
    obtain ⟨z1, z2⟩ := hT _ hq
    have z3 : tabObj #[] = o := by
      rw [z2] at e
      injection e
    exact ⟨Heap.TableAt.isCodeTable (z1.tab z2), z3.symm, hgr.get _ hq⟩
  · exact .inl (hk _ _ (ghost_ne e hb))
theorem law_post {M : Model} {A : Around} {cd : Code} {s s₁ : Shared} {cw : ClaimW} {cl : Str → Option Addr} {mean : ExcName → Option Value} {args : List WData} {tabs : List (Addr × Addr)} (hT : TabsAt tabs s₁.heap) (hr : ∀ a x, cw.raises a x = false) (hp : cw.post args (.bool true) args = true)
    (h : codeAny M A cd (LawPost tabs s₁) s) : codeAny M A cd (GoodWG cw cl mean args s₁) s := by
  refine codeAny_mono h ?_
  rintro r s' ⟨rfl, hk, hos, hg, hgr⟩
  have all := tab_kept hT hk hgr
  refine ⟨.inl ⟨.bool true, .bool true, [], rfl, hr args, .bool _, hp, fun _ => ⟨.nil, fun a ha => absurd ha List.not_mem_nil⟩⟩, ⟨?_, ?_⟩, hos, hg⟩
  · intro b o e
    rcases all b o e with z | ⟨z1, rfl, ps, z3⟩
    · exact .inl z
    · refine .inr (.inl ⟨z1, rfl, #[], ps, rfl, ?_⟩)
      simpa using z3
  · intro b o e
    rcases all b o e with z | ⟨_, _, ps, z3⟩
    · exact ⟨_, z⟩
    · exact ⟨_, z3⟩
theorem post_true (ns : List Int) : PySem.Challenge.rw_xg0053_01.row.claim.post [ofPy (PyData.list (ns.map PyData.int))] (.bool true) [ofPy (PyData.list (ns.map PyData.int))] = true := by
  wrow_post
end Mine
end
section
open PySem PySem.W PyProof.Rows PySem.Calls
namespace Mine
theorem gneN {a b : Nat} (h : a ≠ b) : (show Addr from a) ≠ (show Addr from b) := h
theorem gltN {a b : Nat} (h : a < b) : (show Addr from a) < (show Addr from b) := h
theorem gleN {a b : Nat} (h : a ≤ b) : a ≤ b := h
/-- a generator that is ready to be run through, wherever the heap has gone on to -/
def GenReady (prog : Program) (w : World) (A : Around) (a I C : Addr) (n : Nat) (F : Nat → Value → Prop) (s : Shared) : Prop :=
  ∃ fp g St, WalksS prog w A.in4 a fp [C, I] (GenOnlyQ g) n F St ∧ St 0 s ∧ (∀ i s', St i s' → s'.TypeIs (.ref a) "generator") ∧ a ∈ fp ∧ ∀ b ∈ fp, b < s.heap.objs.size
def allPass (n : Nat) : List Nat := passing (fun _ => true) n 0
theorem allPass_eq (n : Nat) : allPass n = List.range n := by
  simp [allPass, passing]
abbrev lstObj (items : Array Value) (k : Nat) : Obj := { cls := .type "list", data := .seq items k }
section
variable {prog : Program} {w : World} {A : Around} {E : Value → Shared → Prop} {s : Shared} {h₀ : Heap} {L a c P l : Addr} {m mg mb : Str → Option Value} {cn : Str} {cs : Scope} {ccd : Value} {cl cl' : List (Str × Addr)} {tl : List (Addr × Obj)}
  {p : Program} {loose : List Str} {mean : ExcName → Option Value} {scope : Scope} {ps : Array Value} {pos px py : Pos} {x y : Str} {elt : Expr} {items : Array Value} {k : Nat} {Fy : Nat → Value → Prop} {Q : Value → Shared → Prop}
set_option maxHeartbeats 1000000
theorem gen_K (hh : A.handled = none) (hroom : A.depth < recursionLimit)
    (F : Fr h₀ L s.heap m) (N : News h₀ L s.heap ((P, tabObj ps) :: (l, lstObj items k) :: tl)) (hl : l ≠ P) (hoff : ∀ p ∈ tl, p.1 ≠ P) (T : Top p loose mean mg mb h₀) (Cd : CodeHd h₀ c P) (hcd : ccd = .ref c)
    (ht : TriplesOk ps.toList) (hnf : codeAmong pos ps.toList = none) (G : AllBare s.gens)
    (hy : m y = some (.ref l)) (hky : (envX cn cs L a ccd cl).kindOf y = some .local) (hks : cs.kind = .function) (hdy : (y == ("__debug__" : Str)) = false)
    (hco : scope.isCoroutine = false) (hclos : closureFor scope (envX cn cs L a ccd cl) = pure cl') (hcell : ∀ y ∈ scope.names, y.2 ≠ .cell) (h0 : scope.names.lookup (".0" : Str) = some NameKind.local)
    (hx : scope.names.lookup x = some .local) (hkind : scope.kind = .function)
    (he : ∀ (A' : Around) E' i v C code (s₂ : Shared) m₂, A'.handled = none → A'.depth ≤ A.in4.depth + 1 → A'.units ≤ A.in4.units + 4 → items[i]? = some v → Fr h₀ C s₂.heap m₂ → News h₀ C s₂.heap ((l, lstObj items k) :: tl) → m₂ x = some v →
      wpAny (model prog w) A' (eval elt (genEnv scope cl' C code builtinsNs (envX cn cs L a ccd cl))) (fun y s₃ => Fy i y ∧ Keeps s₂ s₃) E' s₂)
    (h : ∀ ga I C oa oI oC ps' gs h' tk, AllBare gs → Fr h₀ L h' m → News h₀ L h' ((ga, oa) :: (I, oI) :: (C, oC) :: (P, tabObj ps') :: (l, lstObj items k) :: tl) →
      (∀ q ∈ (P, tabObj ps) :: (l, lstObj items k) :: tl, q.1 < I) → I < C → C < ga → L < I →
      (∀ (s'' : Shared) m'', s''.gens = gs → Fr h₀ L s''.heap m'' → News h₀ L s''.heap ((ga, oa) :: (I, oI) :: (C, oC) :: (l, lstObj items k) :: tl) → GenReady prog w A ga I C (allPass items.size).length (fun j y => ∃ i, (allPass items.size)[j]? = some i ∧ Fy i y) s'') →
      Q (.ref ga) { s with gens := gs, heap := h', toks := tk }) :
    wpAny (model prog w) A (eval (.GeneratorExp elt [⟨.Name x px, .Name y py, [], 0⟩] scope pos) (envX cn cs L a ccd cl)) Q E s := by
  refine wpAny_GeneratorExp_make hco hclos hcell h0 hkind hroom ?_ (fun _ => rfl)
  refine wpAny_Name (wpAny_loadName_local hks hky F.ns hy ?_) hdy
  have Nl := N _ (.tail _ (.head _))
  have hL : s.heap.IsList l items := ⟨_, Nl.1, rfl, _, rfl⟩
  have hllt : @LT.lt Nat _ l s.heap.objs.size := Heap.lt_size Nl.1
  have hLlt : @LT.lt Nat _ L s.heap.objs.size := F.ns.lt
  have hab : @LE.le Nat _ h₀.objs.size L := F.above
  refine wpAny_pyIter_list hL ⟨(T.nolimit.keeps F.keep).push _, ?_⟩
  have hP := N _ (.head _)
  have hgs := T.g.keeps F.keep
  obtain ⟨bm, ob, b1, b2, b3, b4, b5, b6⟩ := T.bmain
  have hgP : mainGlobals ≠ P := fun q => by
    obtain ⟨o, es, ep, e, hd, _⟩ := hgs
    rw [q, hP.1] at e; cases e; cases hd
  have hbP : bm ≠ P := fun q => by
    have e := F.keep _ _ b3
    rw [q, hP.1] at e; cases e; cases b4
  let h₁ := s.heap.push { cls := .type "list_iterator", data := .fields #[.ref l, .int 0 0] }
  have up₁ : ∀ b o, s.heap.get? b = some o → h₁.get? b = some o := fun b o e => Heap.get?_push_of_some _ e
  have C₁ : CodeHd h₁ c P := Cd.keeps fun b o e => up₁ b o (F.keep b o e)
  refine wpAny_genexprCodeX (s := { s with heap := h₁ }) hcd (C₁.code (up₁ _ _ hP.1) ht) (C₁.tab (up₁ _ _ hP.1)) hnf fun c' h₃ tk₃ hx₃ hge hlt _ _ htab₃ _ => ?_
  have hsz₁ : h₁.objs.size = s.heap.objs.size + 1 := Heap.size_push ..
  have hsz₃ : @LT.lt Nat _ (s.heap.objs.size + 1) h₃.objs.size := by
    have g1 : @LE.le Nat _ h₁.objs.size c' := hge
    have g2 : @LT.lt Nat _ c' h₃.objs.size := hlt
    omega
  refine wpAny_builtinsFor (hgs.push _ |>.extBut hx₃ hgP) b1 b2 (hx₃ _ _ hbP (up₁ _ _ (F.keep _ _ b3))) b4 b5 b6 ?_
  intro h' hn' hs'
  have hsz : h'.objs.size = h₃.objs.size + 1 := by rw [hs'.1]; exact Heap.size_push ..
  have keep' : ∀ b o, h₃.get? b = some o → h'.get? b = some o := fun b o e => hs'.extBut b o (Nat.ne_of_lt (Heap.lt_size e)) (Heap.get?_push_of_some _ e)
  let oa : Obj := { cls := .type "generator", data := .fields #[.int s.gens.size 0, .str "<genexpr>" (tk₃ + 1), .str ((envX cn cs L a ccd cl).qual ++ "<genexpr>") (tk₃ + 1 + 1)] }
  let h₅ := h'.push oa
  have keep₅ : ∀ b o, h₃.get? b = some o → h₅.get? b = some o := fun b o e => Heap.get?_push_of_some _ (keep' b o e)
  have keep : ∀ b o, b ≠ P → s.heap.get? b = some o → h₅.get? b = some o := fun b o hb e => keep₅ b o (hx₃ b o hb (up₁ b o e))
  have old : ∀ b o, h₀.get? b = some o → h₅.get? b = some o := fun b o e => keep b o (fun q => by rw [q, hP.2.2] at e; cases e) (F.keep b o e)
  obtain ⟨oC, hoC⟩ : ∃ oC, h'.get? h₃.objs.size = some oC := let ⟨o, _, _, e, _⟩ := hn'; ⟨o, e⟩
  have hIs : h₁.get? s.heap.objs.size = some { cls := .type "list_iterator", data := .fields #[.ref l, .int 0 0] } := Heap.get?_push_size _ rfl
  have hPlt : @LT.lt Nat _ P s.heap.objs.size := Heap.lt_size hP.1
  have hI₅ : h₅.get? s.heap.objs.size = some { cls := .type "list_iterator", data := .fields #[.ref l, .int 0 0] } := keep₅ _ _ (hx₃ _ _ (Nat.ne_of_gt hPlt) hIs)
  have hC₅ : h₅.get? h₃.objs.size = some oC := Heap.get?_push_of_some _ hoC
  have ha₅ : h₅.get? h'.objs.size = some oa := Heap.get?_push_size _ rfl
  have fresh : ∀ b, L < b → h₀.get? b = none := fun b hb => Heap.get?_none_of_le (Nat.le_trans F.above (Nat.le_of_lt hb))
  have F₅ : Fr h₀ L h₅ m := ⟨((F.ns.push _ |>.extBut hx₃ hP.2.1.symm).keeps keep').push _, old, F.above⟩
  have N₅ : News h₀ L h₅ ((h'.objs.size, oa) :: (s.heap.objs.size, { cls := .type "list_iterator", data := .fields #[.ref l, .int 0 0] }) :: (h₃.objs.size, oC) :: (P, tabObj (ps ++ #[rawInt pos.line, rawInt pos.col, .ref c'])) :: (l, lstObj items k) :: tl) := by
    intro q hq
    rcases List.mem_cons.mp hq with rfl | hq
    · exact ⟨ha₅, gneN (by dsimp only; omega), fresh _ (gltN (by dsimp only; omega))⟩
    rcases List.mem_cons.mp hq with rfl | hq
    · exact ⟨hI₅, gneN (by dsimp only; omega), fresh _ (gltN (by dsimp only; omega))⟩
    rcases List.mem_cons.mp hq with rfl | hq
    · exact ⟨hC₅, gneN (by dsimp only; omega), fresh _ (gltN (by dsimp only; omega))⟩
    rcases List.mem_cons.mp hq with rfl | hq
    · exact ⟨keep₅ _ _ htab₃.2, hP.2⟩
    rcases List.mem_cons.mp hq with rfl | hq
    · exact ⟨keep _ _ hl Nl.1, Nl.2⟩
    · have n := N q (.tail _ (.tail _ hq))
      exact ⟨keep _ _ (hoff q hq) n.1, n.2⟩
  refine h h'.objs.size s.heap.objs.size h₃.objs.size oa _ oC _ (s.gens.push _) h₅ _ (G.push rfl) F₅ N₅ (fun q hq => Heap.lt_size (N q hq).1) (gltN (by omega)) (gltN (by omega)) hLlt ?_
  intro s'' m'' hg'' F'' N''
  let fp : List Addr := s.heap.objs.size :: ((List.range h₀.objs.size).filter fun b => (h₀.get? b).isSome) ++ ((l, lstObj items k) :: tl).map (·.1)
  have both : ∀ b ∈ fp, ∃ o, h₅.get? b = some o ∧ s''.heap.get? b = some o := by
    intro b hb
    rcases List.mem_append.mp hb with hb | hb
    · rcases List.mem_cons.mp hb with rfl | hb
      · exact ⟨_, hI₅, (N'' _ (.tail _ (.head _))).1⟩
      · have hb := (List.mem_filter.mp hb).2
        obtain ⟨o, e⟩ := Option.isSome_iff_exists.mp hb
        exact ⟨o, old b o e, F''.keep b o e⟩
    · obtain ⟨q, hq, rfl⟩ := List.mem_map.mp hb
      exact ⟨q.2, (N₅ q (.tail _ (.tail _ (.tail _ (.tail _ hq))))).1, (N'' q (.tail _ (.tail _ (.tail _ hq)))).1⟩
  have both' : ∀ b ∈ h'.objs.size :: h₃.objs.size :: fp, ∃ o, h₅.get? b = some o ∧ s''.heap.get? b = some o := by
    intro b hb
    rcases List.mem_cons.mp hb with rfl | hb
    · exact ⟨_, ha₅, (N'' _ (.head _)).1⟩
    rcases List.mem_cons.mp hb with rfl | hb
    · exact ⟨_, hC₅, (N'' _ (.tail _ (.tail _ (.head _)))).1⟩
    · exact both b hb
  have inbase : ∀ b o, h₀.get? b = some o → b ∈ fp := fun b o e =>
    List.mem_append_left _ (.tail _ (List.mem_filter.mpr ⟨List.mem_range.mpr (Heap.lt_size e), by rw [e]; rfl⟩))
  have innews : ∀ q ∈ (l, lstObj items k) :: tl, q.1 ∈ fp := fun q hq => List.mem_append_right _ (List.mem_map_of_mem hq)
  have fplt : ∀ b ∈ fp, @LE.le Nat _ b s.heap.objs.size := by
    intro b hb
    rcases List.mem_append.mp hb with hb | hb
    · rcases List.mem_cons.mp hb with rfl | hb
      · exact Nat.le_refl _
      · have hb : @LT.lt Nat _ b h₀.objs.size := List.mem_range.mp (List.mem_filter.mp hb).1
        omega
    · obtain ⟨q, hq, rfl⟩ := List.mem_map.mp hb
      exact Nat.le_of_lt (Heap.lt_size (N q (.tail _ hq)).1)
  have hst : cStatics ∈ fp := let ⟨_, ⟨o, _, _, e, _⟩, _⟩ := T.nolimit; inbase _ o e
  have hst' : cStatics ≠ s.heap.objs.size := by
    obtain ⟨_, ⟨o, _, _, e, _⟩, _⟩ := T.nolimit
    exact Nat.ne_of_lt (Nat.lt_of_lt_of_le (Heap.lt_size e) (Nat.le_of_lt (Nat.lt_of_le_of_lt F.above hLlt)))
  have W₀ : ∀ A' : Around, A'.handled = none → Walks prog w A' s.heap.objs.size fp [s.heap.objs.size] items.size (fun i v => items[i]? = some v) (fun i h => h.IsListIter s.heap.objs.size l i ∧ h.IsList l items) := fun A' hA =>
    (Walks.list hA _ _ (Nat.ne_of_lt hllt) items).mono_fp fun b hb => by
      rcases List.mem_cons.mp hb with rfl | hb
      · exact List.mem_append_left _ (.head _)
      · rw [List.mem_singleton.mp hb]; exact innews _ (.head _)
  have hCf : h₃.objs.size ∉ fp := fun hb => by have := fplt _ hb; omega
  have haf : h'.objs.size ∉ fp := fun hb => by have := fplt _ hb; omega
  have hqd : QuietGenD prog w (genEnv scope cl' h₃.objs.size (.ref c') builtinsNs (envX cn cs L a ccd cl)) x [] elt fp [s.heap.objs.size] (fun i v => items[i]? = some v) (fun _ => true) Fy h₅ (A.in4.depth + 1) (A.in4.units + 4) := by
    refine ⟨fun A' E' i v s₂ m₂ _ _ _ _ _ _ _ => wpAny_pure ⟨rfl, s₂.heap, s₂.toks, rfl, fun _ _ e => e⟩, fun A' E' i v s₂ m₂ hA hd hu hv _ hn hm hk => ?_⟩
    have hne : ∀ b ∈ fp, b ≠ s.heap.objs.size → ∀ o, h₅.get? b = some o → s₂.heap.get? b = some o := fun b hb hb' o e => hk b hb (fun q => hb' (List.mem_singleton.mp q)) o e
    refine he A' E' i v h₃.objs.size (.ref c') s₂ m₂ hA hd hu hv ⟨hn, fun b o e => hne b (inbase b o e) (fun q => ?_) o (old b o e), gleN (by omega)⟩ (fun q hq => ⟨hne q.1 (innews q hq) (fun e => ?_) q.2 (N₅ q (.tail _ (.tail _ (.tail _ (.tail _ hq))))).1, gneN ?_, (N q (.tail _ hq)).2.2⟩) hm
    · have g1 : @LT.lt Nat _ b h₀.objs.size := Heap.lt_size e
      have g2 : @Eq Nat b s.heap.objs.size := q
      omega
    · have g1 : @LT.lt Nat _ q.1 s.heap.objs.size := Heap.lt_size (N q (.tail _ hq)).1
      have g2 : @Eq Nat q.1 s.heap.objs.size := e
      omega
    · have g1 : @LT.lt Nat _ q.1 s.heap.objs.size := Heap.lt_size (N q (.tail _ hq)).1
      omega
  have W := WalksS.genexpQ (prog := prog) (w := w) (A := A.in4) hh h'.objs.size s.gens.size h₃.objs.size fp [s.heap.objs.size] (fun _ => true) items.size Fy (gneN (by omega)) haf (fun b hb => by rw [List.mem_singleton.mp hb]; exact List.mem_append_left _ (.head _)) hroom hst (fun e => hCf (e ▸ hst)) (fun hm => hst' (List.mem_singleton.mp hm))
  have at5 : GenAt prog w A.in4 h'.objs.size s.gens.size h₃.objs.size fp [s.heap.objs.size] (fun _ => true) items.size Fy 0 { s'' with heap := h₅ } :=
    GenAt.freshD (A := A.in4) (elt := elt) (iter := .Name y py) (px := px) (ifs := []) (scope := scope) (pos := pos) (x := x) (I := s.heap.objs.size) (cenv := genEnv scope cl' h₃.objs.size (.ref c') builtinsNs (envX cn cs L a ccd cl)) (m := fun y => if y = ".0" then some (.ref s.heap.objs.size) else none) hh
      W₀ (fun _ => true) Fy hx (by simp [genEnv, hkind]) hco hCf hqd ⟨_, _, _, ha₅, rfl, rfl, rfl⟩ (by rw [hg'']; exact Array.getElem?_push_size ..) ⟨⟨_, hI₅, rfl, rfl⟩, ⟨_, (N₅ _ (.tail _ (.tail _ (.tail _ (.tail _ (.head _)))))).1, rfl, _, rfl⟩⟩ (hn'.push _) (T.nolimit.keeps old)
  have at'' := W.frame 0 { s'' with heap := h₅ } s''.heap s''.toks at5 (Nat.le_refl _) fun b hb o e => by
    obtain ⟨o', e1, e2⟩ := both' b hb
    rw [show ({ s'' with heap := h₅ } : Shared).heap = h₅ from rfl] at e
    rw [e1] at e; cases e; exact e2
  refine ⟨_, _, _, W, at'', fun i s' st => st.1.typeIs, .head _, fun b hb => ?_⟩
  obtain ⟨o, _, e⟩ := both' b hb
  exact Heap.lt_size e

theorem texts_said : ∀ (lt : List (Str × Tok)) (n : Nat) (tx : Nat → Str), lt.length = n → (∀ j y u, lt[j]? = some (y, u) → y = tx j) → lt.map (·.1) = (List.range n).map tx
  | [], n, tx, hn, _ => by subst hn; rfl
  | (y, u) :: r, n, tx, hn, h => by
    subst hn
    rw [List.length_cons, List.range_succ_eq_map, List.map_cons, List.map_cons, List.map_map]
    rw [texts_said r r.length (tx ∘ Nat.succ) rfl fun j y' u' e => h (j + 1) y' u' e]
    rw [h 0 y u rfl]
theorem gen_join {sep : Str} {t : Tok} {ga I C : Addr} {oa oI oC : Obj} {rest : List (Addr × Obj)} {n : Nat} (tx : Nat → Str)
    (F : Fr h₀ L s.heap m) (N : News h₀ L s.heap ((ga, oa) :: (I, oI) :: (C, oC) :: rest)) (G : AllBare s.gens)
    (X : GenReady prog w A ga I C (allPass n).length (fun j y => ∃ i, (allPass n)[j]? = some i ∧ Fy i y) s)
    (hI : ∀ q ∈ rest, q.1 < I) (hIC : I < C) (hLI : L < I) (htx : ∀ j v, j < n → Fy j v → ∃ u, v = .str (tx j) u)
    (hok : JoinOk sep ((List.range n).map tx) = true) (hsz : n ≤ sizeLine)
    (hQ : ∀ t' h' gs' tk', AllBare gs' → Fr h₀ L h' m → News h₀ L h' rest → Q (.str (Txt.join sep ((List.range n).map tx)) t') { s with heap := h', gens := gs', toks := tk' }) :
    wpAny (model prog w) A (call (.builtin "str.join") [.str sep t, .ref ga]) Q E s := by
  obtain ⟨fp, g, St, W, hst, hT, ha, hfp⟩ := X
  rw [allPass_eq] at W
  have hlen : (List.range n).length = n := List.length_range
  have htx' : ∀ j v, (∃ i, (List.range n)[j]? = some i ∧ Fy i v) → j < n ∧ ∃ u, v = .str (tx j) u := by
    rintro j v ⟨i, hi, hv⟩
    have hj : j < n := by
      have := (List.getElem?_eq_some_iff.mp hi).1
      simpa using this
    have : i = j := by
      simp [hj] at hi; exact hi.symm
    subst this
    exact ⟨hj, htx _ _ hj hv⟩
  refine SC.joinGen W.in4_2 hT hst hfp ha (fun j v hv => let ⟨_, u, e⟩ := htx' j v hv; ⟨_, u, e⟩) (fun s' lt hm hacc => ?_) (by rw [hlen]; exact hsz)
  have hl : lt.map (·.1) = (List.range n).map tx := by
    refine texts_said lt n tx (by have := hacc.1; rw [List.size_toArray] at this; simpa [strValues] using this) fun j y u e => ?_
    obtain ⟨_, u', e'⟩ := htx' j (.str y u) (hacc.2 j _ (by rw [List.getElem?_toArray, strValues, List.getElem?_map, e]; rfl))
    cases e'; rfl
  rw [hl]
  refine ⟨hok, fun t' k => ?_⟩
  have hw : ∀ b, b < I → b ∉ [C, I] := fun b hb hm => by
    rcases List.mem_cons.mp hm with rfl | hm
    · exact absurd (Nat.lt_trans hb hIC) (Nat.lt_irrefl _)
    · rw [List.mem_singleton.mp hm] at hb
      exact absurd hb (Nat.lt_irrefl _)
  have F' : Fr h₀ L s'.heap m := ⟨F.ns.at fun o e => hm.heap L o (hw L hLI) e, fun b o e => hm.heap b o (hw b (Nat.lt_trans (Nat.lt_of_lt_of_le (Heap.lt_size e) F.above) hLI)) (F.keep b o e), F.above⟩
  have N' : News h₀ L s'.heap rest := fun q hq => ⟨hm.heap _ _ (hw _ (hI q hq)) (N q (.tail _ (.tail _ (.tail _ hq)))).1, (N q (.tail _ (.tail _ (.tail _ hq)))).2⟩
  have e : ({ s' with toks := k } : Shared) = { s with heap := s'.heap, gens := s'.gens, toks := k } := by
    have h1 := hm.drawn
    have h2 := hm.os
    obtain ⟨a1, a2, a3, a4, a5⟩ := s'
    obtain ⟨b1, b2, b3, b4, b5⟩ := s
    dsimp only at h1 h2 ⊢
    subst h1; subst h2; rfl
  rw [e]
  exact hQ t' s'.heap s'.gens k (G.movedS hm) F' N'
end
end Mine
end
section
open PySem PySem.W PyProof.Rows PySem.Calls
namespace Mine
def fmtText (idx : List Nat) : Str := Str.ofString "at tab size" ++ (if 1 < idx.length then Str.ofString "s" else Str.ofString "") ++ Str.ofString " " ++ Txt.join (Str.ofString ", ") (idx.map numText)
theorem fmt_many {idx : List Nat} (h : 1 < idx.length) : fmtText idx = Str.ofString "at tab size" ++ Str.ofString "s " ++ Txt.join (Str.ofString ", ") (idx.map numText) := by
  unfold fmtText
  rw [if_pos h]
  refine Str.ext' (Array.toList_inj.mp ?_)
  have e : (Str.ofString "s ").cps.toList = (Str.ofString "s").cps.toList ++ (Str.ofString " ").cps.toList := by decide +kernel
  simp only [Str.cps_append, Array.toList_append, e, List.append_assoc]
theorem fmt_one {idx : List Nat} (h : ¬ 1 < idx.length) : fmtText idx = Str.ofString "at tab size" ++ Str.ofString " " ++ Txt.join (Str.ofString ", ") (idx.map numText) := by
  unfold fmtText
  rw [if_neg h]
  refine Str.ext' (Array.toList_inj.mp ?_)
  have e : (Str.ofString "").cps.toList = [] := by decide +kernel
  simp only [Str.cps_append, Array.toList_append, e, List.nil_append, List.append_assoc]
theorem nameGB {M : Model} {A : Around} {E : Value → Shared → Prop} {s : Shared} {K : Frag} {h₀ : Heap} {L : Addr} {m mg mb : Str → Option Value} {p : Program} {loose : List Str} {x : Str} {pos : Pos} {v : Value} {env : Env} {Q : Value → Shared → Prop} (F : Fr h₀ L s.heap m) (X : K.In h₀) (T : TopRead p loose mg mb h₀)
    (e : nsIn K mainGlobals x = some none) (hv : bootBuiltins x = some v) (hn : x ≠ "__name__") (h : Q v s) (hg : env.globals = mainGlobals) (hb : env.builtins = builtinsNs) (hk : env.scope.kind = .function) (hx : env.kindOf x = some .globalImplicit) (hd : (x == ("__debug__" : Str)) = false := by decide) :
    wpAny M A (eval (.Name x pos) env) Q E s :=
  Name_function_global hk hx (loadGlobal_builtin (env := env) (by rw [hg]; exact T.g.keeps F.keep) (mg_none_of X T.g e) (by rw [hb]; exact T.b.keeps F.keep) ((T.builtins x hn).trans hv) h) hd
theorem elt_K {prog : Program} {w : World} {A : Around} {E : Value → Shared → Prop} {s : Shared} {K : Frag} {h₀ : Heap} {L a5 : Addr} {m mg mb : Str → Option Value} {p : Program} {loose : List Str} {news : List (Addr × Obj)} {x : Str} {p1 p2 p3 p4 pos : Pos} {env : Env} {Q : Value → Shared → Prop} {l : List Value} {k : Nat} {i : Int} {t6 : Tok}
    (F : Fr h₀ L s.heap m) (X : K.In h₀) (T : TopRead p loose mg mb h₀) (N : News h₀ L s.heap news) (e : nsIn K mainGlobals (Str.ofString "str") = some none) (hL : env.locals = L)
    (hv : m x = some (.ref a5)) (hm : (a5, ({ cls := .type "tuple", data := .seq l.toArray k } : Obj)) ∈ news) (hl : l[0]? = some (.int i t6)) (hi : 0 ≤ i ∧ i < 1000)
    (hg : env.globals = mainGlobals) (hb : env.builtins = builtinsNs) (hk : env.scope.kind = .function) (hx : env.kindOf (Str.ofString "str") = some .globalImplicit) (hxl : env.kindOf x = some .local) (hxd : (x == ("__debug__" : Str)) = false)
    (h : ∀ t k, Q (.str (Str.ofString (toString i)) t) { s with toks := k }) :
    wpAny (model prog w) A (eval (.Call (.Name (Str.ofString "str") p1) [.Subscript (.Name x p2) (.Constant (.int 0) 0 p4) p3] [] pos) env) Q E s := by
  refine Call_ (nameGB F X T e (by boot_fast) (by decide) ?_ hg hb hk hx) ?_
  · refine callWith_type1 (args_cons (Subscript_ (wpAny_Name (wpAny_loadName_local hk hxl (hL ▸ F.ns) hv ?_) hxd)) ?_) ?_ ?_
    · refine wpAny_Constant_int (item_tupleT (s := { s with toks := s.toks + 1 }) (j := 0) (News.isTup (h := s.heap) N hm) (by decide) (by decide) ?_ hl ?_ ?_)
      · have h0 : 0 < l.length := (List.getElem?_eq_some_iff.mp hl).1
        unfold seqIndex?
        simp [h0]
      · refine args_nil ?_
        refine P.str_of_int (shown (N := 2 ^ 1920) (by omega) (by omega) (Int.le_refl _)) ?_
        exact h _ _
      · rfl
    · rfl
    · rfl
    · rfl
  · rfl
theorem dat_notab {h₀ h : Heap} {L c : Addr} {news tl : List (Addr × Obj)} {ps : Array Value} {vs : List Value} {ds : List Dat} (N : News h₀ L h news) (ht : ∀ p ∈ tl, p ∈ news) (hc : (c, tabObj ps) ∈ news) (hD : DatAll tl vs ds) :
    DatAll (tl.filter fun p => decide (p.1 ≠ c)) vs ds := datAll_only (fun p hp ⟨xs, n, e⟩ => by
  refine List.mem_filter.mpr ⟨hp, decide_eq_true fun q => ?_⟩
  have := news_one N (ht p hp) hc q
  rw [this] at e
  cases e) hD
theorem numTexts (idx : List Nat) : (List.range idx.length).map (fun j => numText (idx.getD j 0)) = idx.map numText := by
  apply List.ext_getElem?
  intro j
  by_cases hj : j < idx.length
  · simp [hj]
  · have hj : idx.length ≤ j := Nat.le_of_not_lt hj
    rw [List.getElem?_eq_none (by simpa using hj), List.getElem?_eq_none (by simpa using hj)]
theorem fmt_say1 {idx : List Nat} (h : 1 < idx.length) : Str.ofString "at tab sizes" ++ Str.ofString " " ++ Txt.join (Str.ofString ", ") (idx.map numText) = fmtText idx := by
  rw [fmt_many h]
  refine Str.ext' (Array.toList_inj.mp ?_)
  have e : (Str.ofString "at tab sizes").cps.toList ++ (Str.ofString " ").cps.toList = (Str.ofString "at tab size").cps.toList ++ (Str.ofString "s ").cps.toList := by decide +kernel
  simp only [Str.cps_append, Array.toList_append, e]
theorem fmt_say0 {idx : List Nat} (h : ¬ 1 < idx.length) : Str.ofString "at tab size" ++ Str.ofString " " ++ Txt.join (Str.ofString ", ") (idx.map numText) = fmtText idx := (fmt_one h).symm
theorem num_joinOk {idx : List Nat} (h : ∀ i ∈ idx, i < 14) (hl : idx.length ≤ 14) : JoinOk (Str.ofString ", ") (idx.map numText) = true := by
  refine joinOk_of_weight ?_ (by decide +kernel)
  have h2 : ((idx.map numText).map (·.length)).sum ≤ 2 * idx.length := by
    clear hl
    induction idx with
    | nil => simp
    | cons i r ih =>
      have a := numText_len (h i (.head _))
      have b := ih fun q hq => h q (.tail _ hq)
      simp only [List.map_cons, List.sum_cons, List.length_cons] at b ⊢
      omega
  rw [List.length_map]
  omega
section
local macro_rules | `(tactic| walk_at "eval GeneratorExp") => `(tactic| refine Stop.out ?_)
local macro_rules | `(tactic| walk_at "call builtin:str.join") => `(tactic| refine Stop.out ?_)
local macro_rules | `(tactic| walk_at "call builtin:len") => `(tactic| (k_here; (with_reducible show wpAny _ _ (call (Value.builtin "len") [Value.ref _]) _ _ _); (with_reducible rename News _ _ _ _ => N9'); (k_dflt (refine len_lst N9' (.tail _ (.tail _ (.tail _ (.tail _ (.head _))))) (by assumption) ?_)); intro t9' k9'))
variable {w : World} {p : Program} {loose : List Str} {mean : ExcName → Option Value} {mg mb : Str → Option Value}
  {dp un : Nat} {gd : Option (List Code)} {cn : Str} {cs : Scope} {a : Addr} {ccd : Value} {cl : List (Str × Addr)} {outer : List Env} {A₀ : Around} {base h₀ : Heap} {L : Addr} {m : Str → Option Value} {s : Shared} {Q E : Value → Shared → Prop}
  {x y : Addr} {d d' : Ws} {ts : Int} {tts : Tok} {news : List (Addr × Obj)}
set_option maxRecDepth 100000
set_option maxHeartbeats 8000000
theorem format_call {rest : List (Addr × Obj)} {l : Addr} {ys : List Value} {k : Nat} {idx : List Nat} {tx tb : Str} (B : Below A₀ base outer h₀) (F : Fr h₀ L s.heap m) (X : (hd.heap_39 w.params).In h₀) (N : News h₀ L s.heap news) (T : Top p loose mean mg mb h₀) (hk : cs.kind = .function)
    (hd : dp + 5 < recursionLimit) (hu : un + 200 < cLine) (C : CodeHd h₀ 86 82) (G : AllBare s.gens) (h82 : (82, tabObj #[]) ∈ news) (hl : (l, ({ cls := .type "list", data := .seq ys.toArray k } : Obj)) ∈ news) (hD : DatAll news ys (idx.map (row tx tb))) (hidx : ∀ i ∈ idx, i < 14) (hlen : ys.length ≤ 14)
    (hr : ∀ p ∈ rest, p ∈ news ∧ p.1 ≠ 82)
    (hret : ∀ t h' gs' tk' ps', AllBare gs' → Fr h₀ L h' m → News h₀ L h' ((82, tabObj ps') :: (l, ({ cls := .type "list", data := .seq ys.toArray k } : Obj)) :: rest) → Q (.str (fmtText idx) t) { s with heap := h', gens := gs', toks := tk' }) :
    wpAny (model PySem.Challenge.rw_xg0053_01.row.prog w) (ktrTop dp un gd cn cs L a ccd cl outer) (call (.ref 87) [.ref l]) Q E s := by
  k_with_none
  have NT : News h₀ L s.heap ((82, tabObj #[]) :: (l, lstObj ys.toArray k) :: news.filter (fun p => decide (p.1 ≠ 82))) := cb_drop N fun p hp => by
    rcases List.mem_cons.mp hp with rfl | hp
    · exact h82
    rcases List.mem_cons.mp hp with rfl | hp
    · exact hl
    · exact (List.mem_filter.mp hp).1
  have DT : DatAll (news.filter (fun p => decide (p.1 ≠ 82))) ys (idx.map (row tx tb)) := dat_notab N (fun _ h => h) h82 hD
  have hl82 : l ≠ 82 := fun e => by
    have := news_one N hl h82 e
    cases this
  have hoff : ∀ p ∈ news.filter (fun p => decide (p.1 ≠ 82)), p.1 ≠ 82 := fun p hp => of_decide_eq_true (List.mem_filter.mp hp).2
  have hrf : ∀ p ∈ rest, p ∈ news.filter (fun p => decide (p.1 ≠ 82)) := fun p hp => List.mem_filter.mpr ⟨(hr p hp).1, decide_eq_true (hr p hp).2⟩
  generalize news.filter (fun p => decide (p.1 ≠ 82)) = tl at NT DT hoff hrf
  clear N h82 hl hD hr
  have hil : ys.length = idx.length := by rw [DatAll.length DT, List.length_map]
  have hjl := join_le idx hidx
  have hj2 : (Txt.join (Str.ofString ", ") (idx.map numText)).length ≤ 60 := by omega
  clear hjl
  have hret' : ∀ {x : Str} {t : Tok} {h' : Heap} {gs' : Array GenState} {tk' : Tok} {ps' : Array Value}, x = fmtText idx → AllBare gs' → Fr h₀ L h' m → News h₀ L h' ((82, tabObj ps') :: (l, { cls := Value.type "list", data := Data.seq ys.toArray k }) :: tl) → Q (.str x t) { heap := h', gens := gs', drawn := s.drawn, toks := tk', os := s.os } := by
    intro x t h' gs' tk' ps' e g f n
    subst e
    refine hret t h' gs' tk' ps' g f (cb_drop n fun p hp => ?_)
    rcases List.mem_cons.mp hp with rfl | hp
    · exact .head _
    rcases List.mem_cons.mp hp with rfl | hp
    · exact .tail _ (.head _)
    · exact .tail _ (.tail _ (hrf p hp))
  refine wpAny_call ?_
  k_dflt cell_enter
  have C9 := CodeHd.keeps C (Fr.keep (by assumption))
  k_steps
  refine Stop.on ?_
  rename News _ _ _ _ => N5
  rename Fr _ _ _ _ => F5
  rename Top _ _ _ _ _ _ => T5
  rename Frag.In _ _ => X5
  refine gen_K (Fy := fun i y => ∃ j t, idx[i]? = some j ∧ y = Value.str (numText j) t) (hh := rfl) (hroom := ?hroom) F5 N5 hl82 hoff T5 C9 rfl ?ht rfl G rfl rfl rfl (by decide) rfl rfl (by decide) rfl rfl rfl ?he ?h
  case hroom => ktr_room

  case ht => kn_triples
  case he =>
    clear hret G F5 N5 NT
    intro A' E' i v C2 code s₂ m₂ hA hdp hun hv F2 N2 hm
    obtain ⟨i7, a5, t5, t6, t7, kk, hi7, rfl, hm5⟩ := idx_lt DT (show ys[i]? = some v by simpa using hv)
    have hi14 : i7 < 14 := by
      obtain ⟨q, hq⟩ := List.getElem?_eq_some_iff.mp hi7
      exact hidx _ (hq ▸ List.getElem_mem _)
    have N3 := news_more N2 (p := (a5, _)) (.tail _ hm5)
    clear N2
    refine elt_K (l := [_, _, _]) F2 X5 (topRead_of T5) N3 (by k_is) rfl hm (.head _) rfl (by omega) rfl rfl rfl rfl rfl (by decide) (fun t k => ⟨⟨i7, t, hi7, rfl⟩, s₂.heap, k, rfl, fun _ _ e => e⟩)
  case h =>
    intro ga I7 C7 oa oI oC ps7 gs7 h7 tk7 G7 F7 N7 l1 l2 l3 l4 GX
    k_steps
    all_goals (
      refine Stop.on ?_
      rename News _ _ _ _ => N8
      rename Fr _ _ _ _ => F8
      refine gen_join (n := ys.toArray.size) (fun j => numText (idx.getD j 0)) F8 N8 G7 (GX _ _ rfl F8 (cb_drop N8 (fun p hp => by
        simp only [List.mem_cons] at hp ⊢
        rcases hp with hp | hp | hp | hp | hp
        · exact .inl hp
        · exact .inr (.inl hp)
        · exact .inr (.inr (.inl hp))
        · exact .inr (.inr (.inr (.inr (.inl hp))))
        · exact .inr (.inr (.inr (.inr (.inr hp))))))) (fun q hq => by
          rcases List.mem_cons.mp hq with rfl | hq
          · exact l1 (82, tabObj #[]) (.head _)
          · exact l1 q (.tail _ hq)) l2 l4 ?htx ?hok ?hsz ?_
      case htx =>
        rintro j v hj ⟨i9, t9, e9, rfl⟩
        exact ⟨t9, by rw [List.getD_eq_getElem?_getD, e9]; rfl⟩
      case hok =>
        rw [List.size_toArray, hil, numTexts]
        exact num_joinOk hidx (hil ▸ hlen)
      case hsz => rw [List.size_toArray, sizeLine_eq]; omega
      rw [List.size_toArray, hil, numTexts]
      intro t9 h9 gs9 tk9 G9 F9 N9
      k_steps
      refine hret' ?eq G9 (by k_asm) (by k_asm)
      case eq => first | exact fmt_say1 (by omega) | exact fmt_say0 (by omega))
end
end Mine
end
open PySem PySem.W PyProof.Rows PySem.Calls
section
open Mine
local macro_rules | `(tactic| walk_at "eval ListComp") => `(tactic| refine Stop.out ?_)
local macro_rules | `(tactic| walk_at "CompSrcT") => `(tactic| refine Stop.out ?_)
local macro_rules | `(tactic| walk_at "CompSrc") => `(tactic| refine Stop.out ?_)
local macro_rules | `(tactic| walk_at "exec Assign cons ListComp") => `(tactic| refine Stop.out ?_)
local macro_rules | `(tactic| walk_at "call ref") => `(tactic| refine Stop.out ?_)
local macro_rules | `(tactic| walk_at "pyIter ref") => `(tactic| refine Stop.out ?_)
local macro_rules | `(tactic| k_all) => `(tactic| first | assumption | (refine off_lt ?_; first | assumption | exact allLt_all (by assumption)))
local macro_rules | `(tactic| walk_at "compareOp IsNot bool bool") => `(tactic| refine Stop.out ?_)
local macro_rules | `(tactic| walk_at "call builtin:len") => `(tactic| (k_here; (with_reducible show wpAny _ _ (call (Value.builtin "len") [Value.ref _]) _ _ _); (with_reducible rename News _ _ _ ((82, _) :: _) => N9'); (k_dflt (refine len_lst N9' (.tail _ (.head _)) (by assumption) ?_)); intro t9' k9'))
local macro_rules | `(tactic| walk_at "compareOp Eq str str") => `(tactic| refine Stop.out ?_)
local macro_rules | `(tactic| walk_at "compareOp NotEq ref ref") => `(tactic| refine Stop.out ?_)
local macro_rules | `(tactic| walk_at "compareOp Eq ref ref") => `(tactic| refine Stop.out ?_)
local macro_rules | `(tactic| walk_at "call builtin:list.append") => `(tactic| refine Stop.out ?_)
local macro_rules | `(tactic| walk_at "ite") => `(tactic| (with_reducible refine ite_bne ?hb9 ?_; (case hb9 => first | rfl | exact Eq.symm (by assumption) | assumption)))
local macro_rules | `(tactic| walk_at "getMethod str") => `(tactic| with_reducible refine method_expand ?_)
local macro_rules | `(tactic| walk_at "call builtin:str.expandtabs") => `(tactic| refine Stop.out ?_)
set_option maxRecDepth 100000
set_option maxHeartbeats 8000000
theorem PySem.Challenge.cw_xg0053_01_holds : PySem.Challenge.rw_xg0053_01.Holds :=
  hd (by
  k_fill
  intro w s₀ s₁ mg mb G Y fa o pm cd doc dV kV ho hd hcd hD hmg hg args vals as hpre hlay hrd hwl hlo
  have KX := km_in_of Y
  km_tabs Y
  have X := (Ground.X G).1
  have V := (Ground.X G).2
  refine Ground.open G ?_
  intro T B D TE TW
  try (refine guard_noD D (by decide +kernel) ?_; clear D)
  km_lay T hmg ho hd cd
  have hT7 : TabsAt ([(102, 98), (86, 82)] : List (Addr × Addr)) s₁.heap := List.forall_mem_cons.mpr ⟨hT9 _ (.head _), List.forall_mem_cons.mpr ⟨tab_of (x := Str.ofString "format_witnesses") (c := 86) (P := 82) T KX rfl (by kernel_rfl), fun _ h => nomatch h⟩⟩
  clear hT9
  have hT9 := hT7
  clear hT7
  clear hmg
  wrow_args hpre hlay hrd hwl hlo
  all_goals (
    first | refine callC_kw (enter_call ?_) | refine enter_call ?_
    w_top on
    refine law_post hT9 (fun _ _ => rfl) (post_true _) ?_
    w_call any ho hd hcd hD T F
    clear hd
    kn_ghosts F T
    k_drop)
  (all_goals try k_fold)
  rename_i wM wS eM eS x0' x' t' k' f' ch98 n' l0'
  k_steps
  refine Stop.on ?_
  k_dflt (refine' Assign_CellComp ?F ?hL ?sw ?clos ?kind ?push ?cf ?names ?hx ?hy ?hp ?_; (case F => k_asm); (case hL => rfl); (case sw => with_unfolding_all rfl); (case clos => with_unfolding_all rfl); (case kind => rfl); (case push => intro h; rfl); (case cf => intro a; rfl); (case names => decide); (case hx => rfl); (case hy => rfl); (case hp => rfl))
  k_steps
  rename IsRange _ _ _ _ _ _ _ _ => iR
  rename IntsAre _ _ => iI
  rename List Int => ns
  refine ⟨_, 0, 2, _, _, _, 2, _, fun j v => ∃ t, v = Value.str (leadOf ns j) t, rfl, rfl, by k_asm, by k_asm, iR, by decide, by rfl, by size_fits, ?_, ?_⟩
  · intro i t I oI C oC c oc D ys h tk E' hi hoc F8 N8
    k_steps
    refine Stop.on ?_
    k_dflt (refine LCt.ListComp_T (F₀ := by k_asm) (by with_unfolding_all rfl) (by decide) (by rfl) (by decide) (by rfl) ?_)
    k_steps
    refine Stop.on ?_
    rename IsRange _ _ _ _ _ _ _ _ => iR2
    have eb : (if (ns.length : Int) < 24 then (ns.length : Int) else 24) = ((min 24 ns.length : Nat) : Int) := by split <;> omega
    rw [eb] at iR2
    refine src_rangeT (n := min 24 ns.length) (fun k => k % 2 == i) (fun k v => ∃ t, v = Value.str (signOf ns k) t) (by rfl) (by k_asm) (by k_asm) iR2 (small_one (by omega) (by omega) (by omega) (by omega)) (by rw [rangeSize_nat]; omega) (by rw [sizeLine_eq]; omega) ?_ ?_
    · intro k tk7 I7 oI7 C7 oC7 D7 m7 ys7 h7 tk77 E7 hk hC7 hx7 F7 N7 off7
      k_steps
      · exact ⟨_, _, rfl, by k_asm, by k_asm, odd_yes (by assumption), _, by rw [sign_at]⟩
      · exact ⟨_, _, rfl, by k_asm, by k_asm, odd_no (by assumption)⟩
    · intro g7 ys7 hP
      have hc7 := paired_strs hP
      have hlen7 := filter_le (min 24 ns.length) (fun k => k % 2 == i) 24 (List.length_filter_le _ _) (Nat.min_le_left _ _)
      k_steps
      rename News _ _ _ _ => N9
      refine KT.join_1 (ys := ys7) (g := signOf ns) ⟨_, (N9 _ (.head _)).1, rfl, _, rfl⟩ hc7 (fun a _ => by rw [signOf_is]; rfl) (by omega) ?_
      intro t9 k9 hl9
      exact ⟨_, _, rfl, by k_asm, fun p9 h9 => N9 p9 (.tail _ h9), _, by rw [join_leads]⟩
  · intro ys D h tk hlen hR F8 N8 hlt
    obtain ⟨v0, v1, rfl⟩ : ∃ v0 v1, ys = [v0, v1] := by
      match ys, hlen with
      | [a, b], _ => exact ⟨a, b, rfl⟩
    obtain ⟨t0, rfl⟩ := hR 0 v0 rfl
    obtain ⟨t1, rfl⟩ := hR 1 v1 rfl
    clear hR hlen
    k_lt hlt
    have la := leadOf_len ns 0 (by decide)
    have lb := leadOf_len ns 1 (by decide)
    have wa := leadOf_ws ns 0
    have wb := leadOf_ws ns 1
    generalize leadOf ns 0 = ta at *
    generalize leadOf ns 1 = tb at *
    k_steps
    refine Stop.on ?_
    have lx : (Txt.slice ta none (some ((List.take 1 ns).sum.fmod 13))).length ≤ 12 := Nat.le_trans (Txt.slice_le _ _ _) la
    have wx := slice_ws wa none (some ((List.take 1 ns).sum.fmod 13))
    generalize Txt.slice ta none (some ((List.take 1 ns).sum.fmod 13)) = tx at *
    have ey := wsData_tail wx txt_x rfl
    have ez := wsData_tail wb txt_y rfl
    have by1 := leadSt_bounds tx lx
    have bz1 := leadSt_bounds tb lb
    have q1 := initOk wx lx txt_x rfl (by decide)
    have q2 := initOk wb lb txt_y rfl (by decide)
    k_dflt (refine' init_call ?k1 ?k2 ?k3 ?k4 ?k5 ?kK ?kd ?ku ?hl ?hf ?hb ?_; (case k1 => k_asm); (case k2 => k_asm); (case k3 => k_asm); (case k4 => k_asm); (case k5 => k_asm); (case kK => exact rfl); (case kd => ktr_room); (case ku => ktr_units); (case hl => exact q1.1); (case hf => exact q1.2.1); (case hb => exact q1.2.2))
    intro x1 own1 h1 tk1 W1 o1 F1 N1
    rw [ey] at W1
    have N1 := news_flip N1
    simp only [List.cons_append, List.nil_append] at N1
    k_steps
    refine Stop.on ?_
    k_dflt (refine' init_call ?k1 ?k2 ?k3 ?k4 ?k5 ?kK ?kd ?ku ?hl ?hf ?hb ?_; (case k1 => k_asm); (case k2 => k_asm); (case k3 => k_asm); (case k4 => k_asm); (case k5 => k_asm); (case kK => exact rfl); (case kd => ktr_room); (case ku => ktr_units); (case hl => exact q2.1); (case hf => exact q2.2.1); (case hb => exact q2.2.2))
    intro x2 own2 h2 tk2 W2 o2 F2 N2
    rw [ez] at W2
    have N2 := news_flip N2
    simp only [List.cons_append, List.nil_append] at N2
    have hr : ∀ p ∈ own1 ++ own2, @LT.lt Nat _ (s₁.heap.objs.size + 1 + 1) p.1 := by
      intro p9 h9
      rcases List.mem_append.mp h9 with h9 | h9
      · exact o1 p9 h9 (_, _) (.tail _ (.tail _ (.head _)))
      · exact o2 p9 h9 (_, _) (.tail _ (.tail _ (.head _)))
    have V1 : WsIn (own1 ++ own2) x1 (leadData tx) := WsIn.mono W1 fun p9 h9 => List.mem_append_left _ h9
    have V2 : WsIn (own1 ++ own2) x2 (leadData tb) := WsIn.mono W2 fun p9 h9 => List.mem_append_right _ h9
    clear W1 W2 o1 o2
    generalize own1 ++ own2 = rest at *
    k_steps
    refine Stop.on ?_
    rename News _ _ _ _ => N5
    rename Fr _ _ _ _ => F5
    rename IsRange _ _ _ _ _ _ _ _ => iR5
    rename (_ < _ ∧ _ < _ ∧ _ < _ ∧ _ < _ ∧ _ < _ ∧ _ < _ ∧ _ < _ ∧ AllLt _ _) => l5
    have N6 := pick9 N5
    with_unfolding_all refine' law_loop (tx := tx) (tb := tb) ?hh iR5 F5 N6 (.inl rfl) ?h98 ?hlR ?_ ?_
    case hh => rfl
    case h98 =>
      intro p9 h9
      simp only [List.mem_cons] at h9
      rcases h9 with rfl | rfl | rfl | rfl | h9
      · refine neN ?_; dsimp only; omega
      · refine neN ?_; dsimp only; omega
      · refine neN ?_; dsimp only; omega
      · decide
      · have := hr p9 h9
        refine neN ?_; omega
    case hlR =>
      obtain ⟨a1, a2, a3, a4, a5, a6, a7, a8⟩ := l5
      intro p9 h9
      simp only [List.mem_cons] at h9
      rcases h9 with rfl | rfl | rfl | rfl | h9
      · refine neN ?_; dsimp only; omega
      · refine neN ?_; dsimp only; omega
      · refine neN ?_; dsimp only; omega
      · refine neN ?_; dsimp only; omega
      · exact Nat.ne_of_lt (allLt_all a8 p9 h9)
    · intro i t un uf ps vs k tl rest' h tk own hi hb hl h9 hR hD o1 o2 o3 er F8 N8
      clear N6 N5 F5 iR5
      have hlen := DatAll.length hD
      rw [rows_len] at hlen
      have m1 := hb _ (.head _)
      have hbr : ∀ p ∈ rest, p ∈ tl := fun p9 h9 => hb p9 (.tail _ (.tail _ (.tail _ (.tail _ h9))))
      have U1 : WsIn tl x1 (leadData tx) := V1.mono hbr
      have U2 : WsIn tl x2 (leadData tb) := V2.mono hbr
      have s1 : ∀ p ∈ tl, p ∈ rest' := fun p9 h9 => by rw [er]; exact List.mem_append_left _ h9
      have m2 := s1 _ m1
      have N7 := show3 N8 m2
      clear N8
      obtain ⟨_, _, c3, _, _, c6, _, _⟩ := l5
      have nR := Nat.ne_of_gt c6
      have nD : D ≠ 98 := Nat.ne_of_gt hlt.2.2.1
      have q98 : ∀ p ∈ rest', p.1 ≠ 98 := by
        intro p9 g9
        rw [er] at g9
        rcases List.mem_append.mp g9 with g9 | g9
        · exact h9 p9 g9
        · exact o2 p9 g9
      k_steps
      refine Stop.on ?_
      k_dflt (refine' reach_call3 ?k1 ?k2 ?k3 ?k4 ?k5 ?kK ?kd ?ku ?kC ?hp ?hR ?hD ?ho ?hl ?hz ?_; (case k1 => k_asm); (case k2 => k_asm); (case k3 => k_asm); (case k4 => k_asm); (case k5 => k_asm); (case kK => exact rfl); (case kd => ktr_room); (case ku => ktr_units); (case kC => exact ch98); (case hp => exact hl.mono s1); (case hR => exact nR); (case hD => exact nD); (case ho => exact q98); (case hl => assumption); (case hz => exact ⟨by omega, by omega⟩))
      intro ps1 tl1 u1 h1 tk1 a1 a2 a3 a4 F1 N1
      have L1 : LamTab (tl1 ++ rest') ps1 := by
        rcases a1 with a1 | a1
        · exact a1.mono fun p9 g9 => List.mem_append_left _ g9
        · rw [a1]; exact (hl.mono s1).mono fun p9 g9 => List.mem_append_right _ g9
      have q98b : ∀ p ∈ tl1 ++ rest', p.1 ≠ 98 := by
        intro p9 g9
        rcases List.mem_append.mp g9 with g9 | g9
        · exact a2 p9 g9
        · exact q98 p9 g9
      generalize er1 : tl1 ++ rest' = rest1 at *
      k_steps
      refine Stop.on ?_
      k_dflt (refine' reach_call3 ?k1 ?k2 ?k3 ?k4 ?k5 ?kK ?kd ?ku ?kC ?hp ?hR ?hD ?ho ?hl ?hz ?_; (case k1 => k_asm); (case k2 => k_asm); (case k3 => k_asm); (case k4 => k_asm); (case k5 => k_asm); (case kK => exact rfl); (case kd => ktr_room); (case ku => ktr_units); (case kC => exact ch98); (case hp => exact L1); (case hR => exact nR); (case hD => exact nD); (case ho => exact q98b); (case hl => assumption); (case hz => exact ⟨by omega, by omega⟩))
      intro ps2 tl2 u2 h2 tk2 b1 b2 b3 b4 F2 N2
      generalize er2 : tl2 ++ rest1 = rest2 at *
      have qR := off_join b3 (off_join a3 (off_join hR o1))
      rw [← er, er1, er2] at qR
      have s2 : ∀ p ∈ tl, p ∈ rest2 := fun p9 g9 => by rw [← er2, ← er1]; exact List.mem_append_right _ (List.mem_append_right _ (s1 p9 g9))
      obtain ⟨dx1, p1, p2, p3, p4, p5, p6, p7, p8, p9, e1, e2, N3⟩ := ws_show U1 (fun p9 g9 => .tail _ (.tail _ (.tail _ (s2 p9 g9)))) hR
      have N3 := N3 N2
      clear N2
      obtain ⟨dx2, r1, r2, r3, r4, r5, r6, r7, r8, r9, e3, e4, N4⟩ := ws_show U2 (fun p9 g9 => .tail _ (.tail _ (.tail _ (.tail _ (.tail _ (s2 p9 g9)))))) hR
      have N4 := N4 N3
      clear N3
      k_steps
      refine Stop.on ?_
      k_dflt (refine' level_call ?k1 ?k2 ?k3 ?k4 ?k5 ?kK ?kd ?ku (WsIn.mono U1 ?kW) ?h1 ?h2 ?_; (case k1 => k_asm); (case k2 => k_asm); (case k3 => k_asm); (case k4 => k_asm); (case k5 => k_asm); (case kK => exact rfl); (case kd => ktr_room); (case ku => ktr_units); (case kW => (intro p9 g9; repeat (first | exact s2 p9 g9 | refine .tail _ ?_))); (case h1 => omega); (case h2 => omega))
      intro v3 h3 tk3 F3 N3
      rw [level_is wx lx (by omega)]
      k_steps
      refine Stop.on ?_
      k_dflt (refine' level_call ?k1 ?k2 ?k3 ?k4 ?k5 ?kK ?kd ?ku (WsIn.mono U2 ?kW) ?h1 ?h2 ?_; (case k1 => k_asm); (case k2 => k_asm); (case k3 => k_asm); (case k4 => k_asm); (case k5 => k_asm); (case kK => exact rfl); (case kd => ktr_room); (case ku => ktr_units); (case kW => (intro p9 g9; repeat (first | exact s2 p9 g9 | refine .tail _ ?_))); (case h1 => omega); (case h2 => omega))
      intro v4 h4 tk4 F4 N4
      rw [level_is wb lb (by omega)]
      k_steps
      refine Stop.on ?_
      refine expand_call (z := 1 + (i : Int)) ⟨by omega, by omega⟩ lx wx ?_
      intro y5 t5 k5 hy5 hz5
      k_steps
      refine Stop.on ?_
      rename News _ _ _ _ => N6
      rename Fr _ _ _ _ => F6
      rename (_ < _ ∧ _ < _ ∧ _ < _ ∧ _ < _ ∧ _ < _ ∧ _ < _ ∧ _ < _ ∧ _ < _ ∧ AllLt _ _) => l6
      obtain ⟨_, _, _, _, _, g6, g7, _, g9⟩ := l6
      refine append_call2 F6 N6 (Nat.ne_of_gt g6) nR.symm qR (by omega) ?_
      intro h7 F7 N7
      k_steps
      rename News _ _ _ _ => N7
      rename Fr _ _ _ _ => F7
      have LL : LamTab (tl2 ++ (tl1 ++ tl)) ps2 := (lam_two hl a1 b1).2
      have j9 : ∀ p ∈ tl2 ++ (tl1 ++ tl), p.1 ≠ 98 := off_join b2 (off_join a2 h9)
      have jR := off_join b3 (off_join a3 hR)
      have k1 : ∀ p ∈ own, p ∈ rest' := fun p9 w9 => by rw [er]; exact List.mem_append_right _ w9
      have kr : ∀ p ∈ tl2 ++ (tl1 ++ (tl ++ own)), p ∈ rest2 := fun p9 w9 => by rw [← er2, ← er1, er]; exact w9
      have k2 : ∀ p ∈ own, p ∈ rest2 := fun p9 w9 => kr p9 (List.mem_append_right _ (List.mem_append_right _ (List.mem_append_right _ w9)))
      refine loop_end F7 N7 (.head _) (.tail _ (.head _)) (.tail _ (.tail _ (.head _))) (fun p9 w9 => .tail _ (.tail _ (.tail _ (kr p9 w9)))) hb LL j9 jR (Nat.ne_of_gt g7) (Nat.ne_of_gt g6) hD o1 o2 o3 (fun p9 w9 q9 y9 => a4 p9 w9 q9 (k1 q9 y9)) (fun p9 w9 q9 y9 => b4 p9 w9 q9 (by rw [← er1]; exact List.mem_append_right _ (k1 q9 y9))) (fun p9 w9 => allLt_ne g9 p9 (k2 p9 w9)) ?_
      intro z9 w1 w2 w3
      simp [Mine.loopMap, w1, w2, w3]
    · intro us un uf ps vs k tl h tk hb hl h9 hR hD F8 N8
      have hlen := DatAll.length hD
      rw [rows_len] at hlen
      have mD := hb _ (.head _)
      have mM := hb _ (.tail _ (.head _))
      have mS := hb _ (.tail _ (.tail _ (.head _)))
      have m82 := hb _ (.tail _ (.tail _ (.tail _ (.head _))))
      have hbr : ∀ p ∈ rest, p ∈ tl := fun p9 w9 => hb p9 (.tail _ (.tail _ (.tail _ (.tail _ w9))))
      have DD := dat_off N8 (fun p hp => .tail _ (.tail _ hp)) (.tail _ (.tail _ mM)) eM hD
      have hrf : ∀ p ∈ rest, p ∈ tl.filter (fun p => decide (p.1 ≠ s₁.heap.objs.size + 1 + 1)) := fun p9 w9 => List.mem_filter.mpr ⟨hbr p9 w9, decide_eq_true (Nat.ne_of_gt (hr p9 w9))⟩
      have hf1 : ∀ p ∈ tl.filter (fun p => decide (p.1 ≠ s₁.heap.objs.size + 1 + 1)), p ∈ tl := fun p9 w9 => (List.mem_filter.mp w9).1
      have hfc : ∀ p ∈ tl.filter (fun p => decide (p.1 ≠ s₁.heap.objs.size + 1 + 1)), p.1 ≠ s₁.heap.objs.size + 1 + 1 := fun p9 w9 => of_decide_eq_true (List.mem_filter.mp w9).2
      have NB := pickB N8 mD mM mS m82 hf1
      generalize tl.filter (fun p => decide (p.1 ≠ s₁.heap.objs.size + 1 + 1)) = tf at *
      have U1 : WsIn tf x1 (leadData tx) := V1.mono hrf
      have U2 : WsIn tf x2 (leadData tb) := V2.mono hrf
      clear N8 N6 N5 F5 iR5 V1 V2 mD mM mS m82 hb hbr hrf hR h9 hl hD hf1
      obtain ⟨dx1, p1, p2, p3, p4, p5, p6, p7, p8, p9, e1, e2, N3⟩ := ws_show U1 (fun p9 g9 => .tail _ (.tail _ (.tail _ (.tail _ (.tail _ (.tail _ g9)))))) hfc
      have N3 := N3 NB
      clear NB
      obtain ⟨dx2, r1, r2, r3, r4, r5, r6, r7, r8, r9, e3, e4, N4⟩ := ws_show U2 (fun p9 g9 => .tail _ (.tail _ (.tail _ (.tail _ (.tail _ (.tail _ (.tail _ (.tail _ g9)))))))) hfc
      have N4 := N4 N3
      clear N3
      k_steps
      refine Stop.on ?_
      k_dflt (refine' equal_call ?k1 ?k2 ?k3 ?k4 ?k5 ?kK ?kd ?ku (WsIn.mono U1 ?kW) (WsIn.mono U2 ?kW2) ?_; (case k1 => k_asm); (case k2 => k_asm); (case k3 => k_asm); (case k4 => k_asm); (case k5 => k_asm); (case kK => exact rfl); (case kd => ktr_room); (case ku => ktr_units); (case kW => (intro p9 g9; repeat (first | exact g9 | refine .tail _ ?_))); (case kW2 => (intro p9 g9; repeat (first | exact g9 | refine .tail _ ?_))))
      intro v3 h3 tk3 F3 N3
      rw [equal_law wx wb lx lb]
      k_steps
      refine Stop.on ?_
      k_dflt (refine LCt.ListComp_T (F₀ := by k_asm) (by with_unfolding_all rfl) (by decide) (by rfl) (by decide) (by rfl) ?_)
      k_steps
      refine Stop.on ?_
      rename News _ _ _ _ => N5
      rename Fr _ _ _ _ => F5
      refine src_filter (its := vs.toArray) (fun j => decide (reach (1 + (j : Int)) tx ≠ reach (1 + (j : Int)) tb)) (fun j y => vs[j]? = some y) (by rfl) F5 N5 (by k_mem) (by rw [List.size_toArray, sizeLine_eq]; omega) ?_ ?_
      · intro j v I oI C oC D7 m7 ys h5 tk5 E5 hj hv hC hx F6 N6 off
        have hv' : vs[j]? = some v := by simpa using hv
        obtain ⟨hj14, a5, t5, t6, t7, kk, rfl, hm⟩ := row_item DD hv'
        have N7 := news_more N6 (p := (a5, _)) (by (repeat (first | exact hm | refine .tail _ ?_)))
        clear N6
        k_steps
        · exact ⟨_, _, rfl, by k_asm, fun p9 w9 => N7 p9 (.tail _ w9), decide_eq_true (by assumption), hv'⟩
        · exact ⟨_, _, rfl, by k_asm, fun p9 w9 => N7 p9 (.tail _ w9), decide_eq_false (fun w9 => w9 (by assumption))⟩
      intro g5 ys hP
      have hQ := filt_dat DD hP
      rw [List.size_toArray, hlen] at hQ
      clear hP
      k_steps
      refine Stop.on ?_
      rename News _ _ _ _ => N5
      refine kqd_eq N5 (.tail _ (.head _)) rfl rfl hQ (fun p9 w9 => by (repeat (first | exact w9 | refine .tail _ ?_))) (.head _) rfl rfl (xs := ys) (ys := []) .nil (sb := fun _ w9 => nomatch w9) (n₂ := []) rows_ok (fun _ w9 => nomatch w9) (by ktr_units) ?_
      k_steps
      refine Stop.on ?_
      refine isnot_same (decide_eq_decide.mpr Iff.rfl) ?_
      k_steps
      refine Stop.on ?_
      k_dflt (refine' less_call ?k1 ?k2 ?k3 ?k4 ?k5 ?kK ?kd ?ku (WsIn.mono U1 ?kW) (WsIn.mono U2 ?kW2) (longest_bounds tx lx) (longest_bounds tb lb) ?_; (case k1 => k_asm); (case k2 => k_asm); (case k3 => k_asm); (case k4 => k_asm); (case k5 => k_asm); (case kK => exact rfl); (case kd => ktr_room); (case ku => ktr_units); (case kW => (intro p9 g9; repeat (first | exact g9 | refine .tail _ ?_))); (case kW2 => (intro p9 g9; repeat (first | exact g9 | refine .tail _ ?_))))
      intro r8 h8 tk8 hr8 F8 N8
      rw [less_law wx wb lx lb hr8]
      k_steps
      refine Stop.on ?_
      k_dflt (refine LCt.ListComp_T (F₀ := by k_asm) (by with_unfolding_all rfl) (by decide) (by rfl) (by decide) (by rfl) ?_)
      k_steps
      refine Stop.on ?_
      rename News _ _ _ _ => N5
      rename Fr _ _ _ _ => F5
      refine src_filter (its := vs.toArray) (fun j => decide (reach (1 + (j : Int)) tb ≤ reach (1 + (j : Int)) tx)) (fun j y => vs[j]? = some y) (by rfl) F5 N5 (by k_mem) (by rw [List.size_toArray, sizeLine_eq]; omega) ?_ ?_
      · intro j v I oI C oC D7 m7 ys h5 tk5 E5 hj hv hC hx F6 N6 off
        have hv' : vs[j]? = some v := by simpa using hv
        obtain ⟨hj14, a5, t5, t6, t7, kk, rfl, hm⟩ := row_item DD hv'
        have N7 := news_more N6 (p := (a5, _)) (by (repeat (first | exact hm | refine .tail _ ?_)))
        clear N6
        k_steps
        · exact ⟨_, _, rfl, by k_asm, fun p9 w9 => N7 p9 (.tail _ w9), decide_eq_true (by assumption), hv'⟩
        · exact ⟨_, _, rfl, by k_asm, fun p9 w9 => N7 p9 (.tail _ w9), decide_eq_false (by assumption)⟩
      intro g5 ys hP
      have hQ := filt_dat DD hP
      rw [List.size_toArray, hlen] at hQ
      clear hP
      k_steps
      refine Stop.on ?_
      rename News _ _ _ _ => N5
      refine kqd_eq N5 (.tail _ (.head _)) rfl rfl hQ (fun p9 w9 => by (repeat (first | exact w9 | refine .tail _ ?_))) (.head _) rfl rfl (xs := ys) (ys := []) .nil (sb := fun _ w9 => nomatch w9) (n₂ := []) rows_ok (fun _ w9 => nomatch w9) (by ktr_units) ?_
      k_steps
      refine Stop.on ?_
      refine isnot_same (decide_eq_decide.mpr Iff.rfl) ?_
      k_steps
      refine Stop.on ?_
      k_dflt (refine' lawlongest_call ?k1 ?k2 ?k3 ?k4 ?k5 ?kK ?kd ?ku ?hl ?_; (case k1 => k_asm); (case k2 => k_asm); (case k3 => k_asm); (case k4 => k_asm); (case k5 => k_asm); (case kK => exact rfl); (case kd => ktr_room); (case ku => ktr_units); (case hl => assumption))
      intro M t9 h9 tk9 hM F9 N9
      obtain rfl := longest_law wx lx hM
      k_steps
      refine Stop.on ?_
      k_dflt (refine' lawlongest_call ?k1 ?k2 ?k3 ?k4 ?k5 ?kK ?kd ?ku ?hl ?_; (case k1 => k_asm); (case k2 => k_asm); (case k3 => k_asm); (case k4 => k_asm); (case k5 => k_asm); (case kK => exact rfl); (case kd => ktr_room); (case ku => ktr_units); (case hl => assumption))
      intro M t9 h9 tk9 hM F9 N9
      obtain rfl := longest_law wb lb hM
      k_steps
      rename (_ = Data.cell (some (Value.int _ _))) => dM
      rw [most_law] at dM
      refine Stop.on ?_
      k_dflt (refine LCt.Assign_ListComp_T (F₀ := by k_asm) (by rfl) (by with_unfolding_all rfl) (by with_unfolding_all rfl) (by decide) (by rfl) (by decide) (by rfl) (by rfl) (by rfl) ?_)
      k_steps
      refine Stop.on ?_
      rename News _ _ _ _ => N5
      rename Fr _ _ _ _ => F5
      refine src_filter (its := vs.toArray) (fun j => decide (reach (1 + (j : Int)) tx ≠ reach (1 + (j : Int)) tb) && decide (1 + (j : Int) ≤ (leadData tx).most (leadData tb))) (fun j y => vs[j]? = some y) (by rfl) F5 N5 (by k_mem) (by rw [List.size_toArray, sizeLine_eq]; omega) ?_ ?_
      · intro j v I oI C oC D7 m7 ys h5 tk5 E5 hj hv hC hx F6 N6 off
        have hv' : vs[j]? = some v := by simpa using hv
        obtain ⟨hj14, a5, t5, t6, t7, kk, rfl, hm⟩ := row_item DD hv'
        have N7 := news_more N6 (p := (a5, _)) (by (repeat (first | exact hm | refine .tail _ ?_)))
        clear N6
        k_steps
        all_goals first
          | exact ⟨_, _, rfl, by k_asm, fun p9 w9 => N7 p9 (.tail _ w9), (by simp only [Bool.and_eq_true, decide_eq_true_eq]; exact ⟨by assumption, by assumption⟩), hv'⟩
          | exact ⟨_, _, rfl, by k_asm, fun p9 w9 => N7 p9 (.tail _ w9), (by simp only [Bool.and_eq_false_iff, decide_eq_false_iff_not]; first | exact .inl (by assumption) | exact .inl (fun w => w (by assumption)) | exact .inl (by omega) | exact .inr (by assumption) | exact .inr (by omega))⟩
          | (trace_state; fail "turn")
      intro g5 yU hP
      have hU := filt_dat DD hP
      rw [List.size_toArray, hlen] at hU
      clear hP
      k_steps
      refine Stop.on ?_
      k_dflt (refine LCt.Assign_ListComp_T (F₀ := by k_asm) (by rfl) (by with_unfolding_all rfl) (by with_unfolding_all rfl) (by decide) (by rfl) (by decide) (by rfl) (by rfl) (by rfl) ?_)
      k_steps
      refine Stop.on ?_
      rename News _ _ _ _ => N5
      rename Fr _ _ _ _ => F5
      refine src_filter (its := vs.toArray) (fun j => decide (reach (1 + (j : Int)) tb ≤ reach (1 + (j : Int)) tx) && decide (1 + (j : Int) ≤ (leadData tx).most (leadData tb))) (fun j y => vs[j]? = some y) (by rfl) F5 N5 (by k_mem) (by rw [List.size_toArray, sizeLine_eq]; omega) ?_ ?_
      · intro j v I oI C oC D7 m7 ys h5 tk5 E5 hj hv hC hx F6 N6 off
        have hv' : vs[j]? = some v := by simpa using hv
        obtain ⟨hj14, a5, t5, t6, t7, kk, rfl, hm⟩ := row_item DD hv'
        have N7 := news_more N6 (p := (a5, _)) (by (repeat (first | exact hm | refine .tail _ ?_)))
        clear N6
        k_steps
        all_goals first
          | exact ⟨_, _, rfl, by k_asm, fun p9 w9 => N7 p9 (.tail _ w9), (by simp only [Bool.and_eq_true, decide_eq_true_eq]; exact ⟨by assumption, by assumption⟩), hv'⟩
          | exact ⟨_, _, rfl, by k_asm, fun p9 w9 => N7 p9 (.tail _ w9), (by simp only [Bool.and_eq_false_iff, decide_eq_false_iff_not]; first | exact .inl (by assumption) | exact .inl (fun w => w (by assumption)) | exact .inl (by omega) | exact .inr (by assumption) | exact .inr (by omega))⟩
          | (trace_state; fail "turn")
      intro g5 yL hP
      have hL := filt_dat DD hP
      rw [List.size_toArray, hlen] at hL
      clear hP
      k_steps
      refine Stop.on ?_
      k_dflt (refine LCg.ListComp_U (F₀ := by k_asm) (by with_unfolding_all rfl) (by decide) (by rfl) (by decide) (by rfl) ?_)
      k_steps
      refine Stop.on ?_
      k_dflt (refine' notequal_call ?k1 ?k2 ?k3 ?k4 ?k5 ?kK ?kd ?ku (WsIn.mono U1 ?kW) (WsIn.mono U2 ?kW2) (longest_bounds tx lx) (longest_bounds tb lb) ?_; (case k1 => k_asm); (case k2 => k_asm); (case k3 => k_asm); (case k4 => k_asm); (case k5 => k_asm); (case kK => exact rfl); (case kd => ktr_room); (case ku => ktr_units); (case kW => (intro p9 g9; repeat (first | exact g9 | exact List.mem_append_left _ g9 | refine .tail _ ?_))); (case kW2 => (intro p9 g9; repeat (first | exact g9 | exact List.mem_append_left _ g9 | refine .tail _ ?_))))
      intro lw us kw tw hw tkw hDw ltw Fw Nw
      rw [wit_ne wx wb lx lb] at hDw
      simp only [List.cons_append] at Nw
      have hlw := DatAll.length hDw
      rw [List.length_map] at hlw
      have hlw2 : us.length ≤ 14 := by rw [hlw]; exact idxU_len _ _ _
      clear ltw
      k_steps
      refine Stop.on ?_
      rename News _ _ _ _ => N5
      rename Fr _ _ _ _ => F5
      refine src_map (its := us.toArray) (fun j y => us[j]? = some y) (by rfl) F5 N5 (.head _) (by rw [List.size_toArray, sizeLine_eq]; omega) ?_ ?_
      · intro j v I oI C oC D7 m7 ys h5 tk5 E5 hj hv hC hx F6 N6 off
        have hv' : us[j]? = some v := by simpa using hv
        obtain ⟨i7, a5, t5, t6, t7, kk, hi7, rfl, hm⟩ := idx_lt hDw hv'
        have N7 := news_more N6 (p := (a5, _)) (by (repeat (first | exact hm | refine .tail _ ?_)))
        clear N6
        k_steps
        all_goals first
          | exact ⟨_, _, rfl, by k_asm, fun p9 w9 => N7 p9 (.tail _ w9), hv'⟩
          | (trace_state; fail "turn")
      intro g5 ys hy1 hy2
      rw [List.size_toArray] at hy1
      obtain rfl := list_same hy1 hy2
      clear hy1 hy2
      k_steps
      refine Stop.on ?_
      rename News _ _ _ _ => N5
      refine kqd_ne_same N5 (.head _) rfl rfl hDw (fun p9 w9 => by (repeat (first | exact w9 | refine .tail _ ?_))) (by (repeat (first | exact .head _ | refine .tail _ ?_))) rfl rfl hU (fun p9 w9 => by (repeat (first | exact w9 | exact List.mem_append_left _ w9 | exact List.mem_append_left _ (List.mem_append_left _ w9) | refine .tail _ ?_))) rows_ok rows_ok (by ktr_units) rfl ?_
      k_steps
      refine Stop.on ?_
      k_dflt (refine LCg.ListComp_U (F₀ := by k_asm) (by with_unfolding_all rfl) (by decide) (by rfl) (by decide) (by rfl) ?_)
      k_steps
      refine Stop.on ?_
      k_dflt (refine' notless_call ?k1 ?k2 ?k3 ?k4 ?k5 ?kK ?kd ?ku (WsIn.mono U1 ?kW) (WsIn.mono U2 ?kW2) (longest_bounds tx lx) (longest_bounds tb lb) ?_; (case k1 => k_asm); (case k2 => k_asm); (case k3 => k_asm); (case k4 => k_asm); (case k5 => k_asm); (case kK => exact rfl); (case kd => ktr_room); (case ku => ktr_units); (case kW => (intro p9 g9; repeat (first | exact g9 | exact List.mem_append_left _ g9 | refine .tail _ ?_))); (case kW2 => (intro p9 g9; repeat (first | exact g9 | exact List.mem_append_left _ g9 | refine .tail _ ?_))))
      intro lw us kw tw hw tkw hDw ltw Fw Nw
      rw [wit_nl wx wb lx lb] at hDw
      simp only [List.cons_append] at Nw
      have hlw := DatAll.length hDw
      rw [List.length_map] at hlw
      have hlw2 : us.length ≤ 14 := by rw [hlw]; exact idxL_len _ _ _
      clear ltw
      k_steps
      refine Stop.on ?_
      rename News _ _ _ _ => N5
      rename Fr _ _ _ _ => F5
      refine src_map (its := us.toArray) (fun j y => us[j]? = some y) (by rfl) F5 N5 (.head _) (by rw [List.size_toArray, sizeLine_eq]; omega) ?_ ?_
      · intro j v I oI C oC D7 m7 ys h5 tk5 E5 hj hv hC hx F6 N6 off
        have hv' : us[j]? = some v := by simpa using hv
        obtain ⟨i7, a5, t5, t6, t7, kk, hi7, rfl, hm⟩ := idx_lt hDw hv'
        have N7 := news_more N6 (p := (a5, _)) (by (repeat (first | exact hm | refine .tail _ ?_)))
        clear N6
        k_steps
        all_goals first
          | exact ⟨_, _, rfl, by k_asm, fun p9 w9 => N7 p9 (.tail _ w9), hv'⟩
          | (trace_state; fail "turn")
      intro g5 ys hy1 hy2
      rw [List.size_toArray] at hy1
      obtain rfl := list_same hy1 hy2
      clear hy1 hy2
      k_steps
      refine Stop.on ?_
      rename News _ _ _ _ => N5
      refine kqd_ne_same N5 (.head _) rfl rfl hDw (fun p9 w9 => by (repeat (first | exact w9 | refine .tail _ ?_))) (by (repeat (first | exact .head _ | refine .tail _ ?_))) rfl rfl hL (fun p9 w9 => by (repeat (first | exact w9 | exact List.mem_append_left _ w9 | exact List.mem_append_left _ (List.mem_append_left _ w9) | refine .tail _ ?_))) rows_ok rows_ok (by ktr_units) rfl ?_
      k_steps
      refine Stop.on ?_
      k_dflt (refine LCg.ListComp_U (F₀ := by k_asm) (by with_unfolding_all rfl) (by decide) (by rfl) (by decide) (by rfl) ?_)
      k_steps
      refine Stop.on ?_
      rename News _ _ _ _ => N5
      rename Fr _ _ _ _ => F5
      have hll := DatAll.length hL
      rw [List.length_map] at hll
      have hll2 : yL.length ≤ 14 := by rw [hll]; exact idxL_len _ _ _
      refine src_map (its := yL.toArray) (fun j y => ∃ i t, (idxL tx tb ((leadData tx).most (leadData tb)))[j]? = some i ∧ y = Value.str (numText i) t) (by rfl) F5 N5 (by (repeat (first | exact .head _ | refine .tail _ ?_))) (by rw [List.size_toArray, sizeLine_eq]; omega) ?_ ?_
      · intro j v I oI C oC D7 m7 ys h5 tk5 E5 hj hv hC hx F6 N6 off
        have hv' : yL[j]? = some v := by simpa using hv
        obtain ⟨i7, a5, t5, t6, t7, kk, hi7, rfl, hm⟩ := idx_lt hL hv'
        have hi14 := idxL_lt hi7
        have N7 := news_more N6 (p := (a5, _)) (by (repeat (first | exact hm | exact List.mem_append_left _ (List.mem_append_left _ hm) | refine .tail _ ?_)))
        clear N6
        k_steps
        exact ⟨_, _, rfl, by k_asm, fun p9 w9 => N7 p9 (.tail _ w9), i7, _, hi7, rfl⟩
      intro g5 ys hy1 hy2
      rw [List.size_toArray, hll] at hy1
      have hcy := carried_num hy1 hy2
      clear hy2
      k_steps
      rename News _ _ _ _ => N9
      refine KT.join_B (ys := ys) (g := numText) 2 ⟨_, (N9 _ (.head _)).1, rfl, _, rfl⟩ hcy (fun i7 hi7 => numText_len (by obtain ⟨j7, hj7⟩ := List.getElem?_of_mem hi7; exact idxL_lt hj7)) (Nat.le_trans (idxL_len _ _ _) (by decide)) (by decide +kernel) ?_
      intro t9 k9
      k_steps
      refine Stop.on ?_
      rename News _ _ _ _ => N5
      k_dflt (refine' format_call (rest := [(98, tabObj ps)]) (idx := idxL tx tb ((leadData tx).most (leadData tb))) (tx := tx) (tb := tb) ?k1 ?k2 ?k3 N5 ?k5 ?kK ?kd ?ku codeHd ?kG ?h82 ?hl (hL.mono ?hD) ?hi hll2 ?hr ?_; (case k1 => k_asm); (case k2 => k_asm); (case k3 => k_asm); (case k5 => k_asm); (case kK => exact rfl); (case kd => ktr_room); (case ku => ktr_units); (case kG => (rw [hg]; intro x9 w9; simp at w9)); (case hr => (intro p9 w9; rw [List.mem_singleton.mp w9]; exact ⟨by (repeat (first | exact .head _ | refine .tail _ ?_)), show (98 : Nat) ≠ 82 by decide⟩)); (case h82 => (repeat (first | exact .head _ | refine .tail _ ?_))); (case hl => (repeat (first | exact .head _ | refine .tail _ ?_))); (case hD => (intro p9 w9; repeat (first | exact w9 | exact List.mem_append_left _ (List.mem_append_left _ w9) | refine .tail _ ?_))); (case hi => (intro i7 hi7; obtain ⟨j7, hj7⟩ := List.getElem?_of_mem hi7; exact idxL_lt hj7)))
      intro t8 h8 gs8 tk8 ps8 G8 F8 N8
      have hjl := join_le (idxL tx tb ((leadData tx).most (leadData tb))) (fun i7 hi7 => by obtain ⟨j7, hj7⟩ := List.getElem?_of_mem hi7; exact idxL_lt hj7)
      have hj2 : (Txt.join (Str.ofString ", ") ((idxL tx tb ((leadData tx).most (leadData tb))).map numText)).length ≤ 60 := by
        have hj3 := idxL_len tx tb ((leadData tx).most (leadData tb))
        omega
      clear hjl
      have hll' : yL.length = (idxL tx tb ((leadData tx).most (leadData tb))).length := hll
      unfold idxL at hj2
      k_steps
      all_goals (
        refine Stop.on ?_
        refine eq_yes ?eq ?_
        (case eq => first | exact fmt_many (by omega) | exact fmt_one (by omega))
        k_steps)
      all_goals (
        rename Fr _ _ _ _ => F9
        rename News _ _ _ _ => N9
        refine ⟨rfl, F9.keep, rfl, G8, ?_⟩
        refine ⟨GrownAt.of N9 (by (repeat (first | exact .head _ | refine .tail _ ?_))), GrownAt.of N9 (by (repeat (first | exact .head _ | refine .tail _ ?_))), trivial⟩))
end
