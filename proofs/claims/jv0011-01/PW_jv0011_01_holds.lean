import PyProof.Rows.All
import Wide.All
import OpenK.AllK
import Wide.FinOn
import PyProof.ListIndexOut
import Lean
import PySem.Challenge.RW_jv0011_01
set_option Elab.async false
set_option maxRecDepth 100000
set_option maxHeartbeats 8000000
namespace Mine
section
open PySem PySem.W PyProof.Rows
open_top hd for PySem.Challenge.rw_jv0011_01
end
section
open PySem PySem.W PySem.Calls PyProof.Rows
abbrev ClaimL (w : World) (f : Addr) (vs : List Value) (news : List (Addr × Obj)) (d u : Nat)
    (Ret : Heap → Addr → (Str → Option Value) → Shared → (Value → Shared → Prop) → Prop) : Prop :=
  ∀ (prog : Program) (mean : ExcName → Option Value) (mg mb : Str → Option Value) (dp un : Nat) (gd : Option (List Code)) (cn : Str) (cs : Scope) (a : Addr) (ccd : Value) (A₀ : Around) (h₀ : Heap) (L : Addr) (m : Str → Option Value) (s : Shared) (Q E : Value → Shared → Prop),
    Below A₀ h₀ [] h₀ → Fr h₀ L s.heap m → (hd.heap_39 w.params).In h₀ → News h₀ L s.heap news → Top hd.view_39 (looseW hd.view_39 []) mean mg mb h₀ → cs.kind = .function → dp + d < recursionLimit → un + 8 * u < cLine →
    Ret h₀ L m s Q → wpAny (model prog w) { handled := none, depth := dp, frames := some [envOf cn cs L a ccd], guards := gd, units := un } (call (.ref f) vs) Q E s
section
variable {prog : Program} {w : World} {A : Around} {E : Value → Shared → Prop} {s : Shared} {value slice : PySem.Expr} {b : Array UInt8} {t ui : Tok} {i : Int} {ks : List Int}
/-- an index behind the end of a bytes: IndexError -/
theorem meets_out (b : Array UInt8) (t ui : Tok) (i : Int) (h0 : 0 ≤ i) (hj : (b.size : Int) ≤ i) (hf : i < 2 ^ 63) :
    Meets (Builtin.«bytes.__getitem__» ⟨[.bytes b t, .int i ui], []⟩) (fun A R s => A.handled = none ∧ ∀ h' tk e, Heap.NewExc s.heap h' e "IndexError" → R (.error (.ref e)) { s with heap := h', toks := tk }) := by
  refine .of_wp fun prog w A R s hS => ?_
  obtain ⟨hA, hE⟩ := hS
  have hx : (seqIndex? i b.size).bind (fun x => b[x]?) = none := by
    have e : seqIndex? i b.size = none := by
      unfold seqIndex?
      have hn : ¬ i < 0 := by omega
      simp only [hn, if_false]
      rw [if_neg]
      simp only [Bool.and_eq_true, decide_eq_true_eq]
      omega
    rw [e]; rfl
  have hr : Builtin.Bytes.fitsIndex i = true := by
    simp only [Builtin.Bytes.fitsIndex, Bool.and_eq_true, decide_eq_true_eq]; omega
  show wpAny _ _ (Builtin.Bytes.subscript? (.int i ui) >>= fun r => _) _ _ s
  refine wpAny_bind ?_
  unfold Builtin.Bytes.subscript?
  refine wpAny_bind (wpAny_specialOf (typeIs_int s i ui) F.slot_int_index.lookup ?_)
  show wpAny _ _ (if (!Builtin.Bytes.fitsIndex i) = true then _ else pure (some i)) _ _ s
  rw [hr]
  refine wpAny_pure ?_
  show wpAny _ _ (match (seqIndex? i b.size).bind (b[·]?) with | some x => retInt x.toNat | none => _) _ _ s
  rw [hx]
  first
    | exact wpAny_bind (wpAny_rule (by exact_raiseError plainExc_IndexError hA hE))
    | exact wpAny_bind (wpAny_rule (wpAny_bind (by exact_raiseError plainExc_IndexError hA hE)))
    | exact wpAny_bind (wpAny_bind (wpAny_rule (by exact_raiseError plainExc_IndexError hA hE)))
    | exact wpAny_rule (by exact_raiseError plainExc_IndexError hA hE)
theorem byte_any {Q : Value → Shared → Prop} (hA : A.handled = none) (hk : KBw.bInts b = ks) (hfit : ks.length ≤ 1099511627776) (h0 : 0 ≤ i) (hf : i < 2 ^ 63)
    (hE : (ks.length : Int) ≤ i → ∀ h' tk e, Heap.NewExc s.heap h' e "IndexError" → E (.ref e) { s with heap := h', toks := tk })
    (h : i < (ks.length : Int) → ∀ t' k, 0 ≤ ks.getD i.toNat 0 → ks.getD i.toNat 0 < 256 → Q (.int (ks.getD i.toNat 0) t') { s with toks := k })
    (hs : subscripted slice false (.bytes b t) (.int i ui) = operate [.bytes b t, .int i ui] (getItem (.bytes b t) (.int i ui)) := by with_unfolding_all rfl)
    (ht : ∀ r, letTemporaryGo value (.bytes b t) r = pure () := by intro _; with_unfolding_all rfl) : wpAny (model prog w) A (subscriptTail value slice (.bytes b t) (.int i ui)) Q E s := by
  by_cases hc : i < (ks.length : Int)
  · exact KBw.item_K hk hfit h0 hc (h hc) hs ht
  · have hz : (b.size : Int) ≤ i := by rw [← KBw.ints_length, hk]; omega
    exact tail_of_ItemOn ⟨"bytes", _, FB.slot_bytes_getitem.lookup, typeIs_bytes _ _ _, getItem_meets (typeIs_bytes _ _ _) (by decide) FB.slot_bytes_getitem FB.entry_bytes_getitem (FB.args_bytes_getitem_2 _ _) (meets_out b t ui i h0 hz hf)
      ⟨hA, hE (by omega)⟩⟩ hs ht
/-- int.from_bytes(b, 'big') for any bytes up to 4096 octets -/
theorem grown_any {M : Model} {n k : Nat} {Q : Value → Shared → Prop} (hk : k ≤ 65536) (hn : n < 2 ^ k) (h : Q (.int (n : Int) s.toks) { s with toks := s.toks + 1 }) : wpAny M A (mkIntGrown (n : Int)) Q E s := by
  have hl : ¬ ((n : Int).natAbs.log2 ≥ bitsLine) := by
    rw [Int.natAbs_natCast]
    have hb : bitsLine = 134217728 := by first | rfl | decide
    by_cases hz : n = 0
    · subst hz; rw [hb]; decide
    · have h1 := (Nat.log2_lt hz).mpr hn
      omega
  unfold mkIntGrown
  rw [if_neg hl]
  exact wpAny_mkInt h
theorem from_big {b : Array UInt8} {t u : Tok} {P : Fin → Shared → Prop} (hl : b.size ≤ 4096) (h : P (.done (.ret (.int (KFB.value (KBw.bInts b)) s.toks))) { s with toks := s.toks + 1 }) :
    wpAny (model prog w) A (Builtin.«int.from_bytes» ⟨[.type "int", .bytes b t, .str (PySem.Str.ofString "big") u], []⟩) P E s := by
  have hv := KFB.fold_cast b.toList 0
  have hn : b.toList.foldl (fun (acc : Nat) (b : UInt8) => acc * 256 + b.toNat) 0 < 2 ^ (8 * b.size) := by
    have h1 := KFB.fold_lt b.toList 0
    rw [Nat.zero_add, Nat.one_mul, Array.length_toList] at h1
    rw [Nat.pow_mul]
    exact h1
  unfold Builtin.«int.from_bytes»
  refine wpAny_bind (wpAny_of_eq (a := true) KFB.type_int (KFB.if_not rfl ?_))
  refine wpAny_bind (wpAny_of_eq (a := true) F.conv_sub_int (KFB.if_not rfl ?_))
  refine wpAny_bind (wpAny_of_eq (a := [some (.bytes b t), some (.str (PySem.Str.ofString "big") u), none]) (by kernel_rfl) ?_)
  refine wpAny_bind (wpAny_of_eq (a := PySem.Str.ofString "big") (by kernel_rfl) ?_)
  refine wpAny_bind (wpAny_of_eq (a := false) rfl (wpAny_bind (wpAny_of_eq (a := false) (by kernel_rfl) (wpAny_bind (wpAny_of_eq (a := b) rfl ?_)))))
  show wpAny _ _ (mkIntGrown (b.toList.foldl (fun (acc : Int) (b : UInt8) => acc * 256 + (b.toNat : Int)) ((0 : Nat) : Int)) >>= fun v => _) _ _ _
  rw [KFB.foldI_eq]
  refine wpAny_bind (grown_any (k := 8 * b.size) (by omega) hn ?_)
  rw [hv]
  exact KFB.if_so (by decide +kernel) (wpAny_bind (wpAny_pure (wpAny_pure h)))
theorem call_from_big {x : Addr} {b : Array UInt8} {t u : Tok} {h₀ : Heap} {L : Addr} {news : List (Addr × Obj)} {Q : Value → Shared → Prop} (N : News h₀ L s.heap news) (hm : (x, KFB.bound) ∈ news) (hb : KBw.bInts b = ks) (hl : ks.length ≤ 4096)
    (h : ∀ t' k, Q (.int (KFB.value ks) t') { s with toks := k }) : wpAny (model prog w) A (call (.ref x) [.bytes b t, .str (PySem.Str.ofString "big") u]) Q E s := by
  subst hb
  exact KFB.call_of (KFB.at_of N hm) (fun z => from_big (by rw [← KBw.ints_length]; exact hl) z) (h _ _)
/-- slices of a bytes with bounds of 0 or more -/
theorem clip_pos {n : Nat} {i : Int} (h : 0 ≤ i) : clipAt n i = min i.toNat n := by
  have h' : clipAt n ((i.toNat : Nat) : Int) = min i.toNat n := clipAt_nat n i.toNat
  rwa [Int.toNat_of_nonneg h] at h'
theorem cut2 {ks : List Int} {lo hi : Int} (h0 : 0 ≤ lo) (h1 : 0 ≤ hi) :
    (ks.drop (clipAt ks.length lo)).take (clipAt ks.length hi - clipAt ks.length lo) = (ks.drop lo.toNat).take (hi.toNat - lo.toNat) := by
  rw [clip_pos h0, clip_pos h1]
  by_cases hl : lo.toNat ≤ ks.length
  · rw [Nat.min_eq_left hl]
    by_cases hh : hi.toNat ≤ ks.length
    · rw [Nat.min_eq_left hh]
    · have e : min hi.toNat ks.length = ks.length := Nat.min_eq_right (by omega)
      rw [e, List.take_of_length_le (by rw [List.length_drop]; omega), List.take_of_length_le (by rw [List.length_drop]; omega)]
  · have e : min lo.toNat ks.length = ks.length := Nat.min_eq_right (by omega)
    rw [e, List.drop_of_length_le (i := lo.toNat) (by omega), List.drop_of_length_le (Nat.le_refl _)]
    simp
theorem cut_lo {ks : List Int} {lo : Int} (h0 : 0 ≤ lo) :
    (ks.drop (clipAt ks.length lo)).take (ks.length - clipAt ks.length lo) = ks.drop lo.toNat := by
  rw [clip_pos h0]
  by_cases hl : lo.toNat ≤ ks.length
  · rw [Nat.min_eq_left hl, List.take_of_length_le (by rw [List.length_drop]; omega)]
  · rw [Nat.min_eq_right (by omega), List.drop_of_length_le (i := lo.toNat) (by omega), List.drop_of_length_le (Nat.le_refl _)]
    simp
theorem cut_hi {ks : List Int} {hi : Int} (h1 : 0 ≤ hi) : (ks.drop 0).take (clipAt ks.length hi - 0) = ks.take hi.toNat := by
  rw [clip_pos h1, List.drop_zero, Nat.sub_zero]
  by_cases hh : hi.toNat ≤ ks.length
  · rw [Nat.min_eq_left hh]
  · rw [Nat.min_eq_right (by omega), List.take_of_length_le (Nat.le_refl _), List.take_of_length_le (by omega)]
section
variable {h₀ : Heap} {L : Addr} {m : PySem.Str → Option Value} {news : List (Addr × Obj)} {lo hi : Int} {tl th : Tok} {Q : Value → Shared → Prop}
theorem slice2 (hF : Fr h₀ L s.heap m) (hN : News h₀ L s.heap news) (hk : KBw.bInts b = ks) (h0 : 0 ≤ lo) (h1 : 0 ≤ hi) (hz : ks.length ≤ 16777216)
    (h : ∀ h' t' k b', Fr h₀ L h' m → News h₀ L h' news → KBw.bInts b' = (ks.drop lo.toNat).take (hi.toNat - lo.toNat) → Q (.bytes b' t') { s with heap := h', toks := k })
    (hs : subscripted slice false (.bytes b t) (.ref s.heap.objs.size) = operate [.ref s.heap.objs.size, .bytes b t] (getItem (.bytes b t) (.ref s.heap.objs.size)) := by with_unfolding_all rfl)
    (ht : ∀ r, letTemporaryGo value (.bytes b t) r = pure () := by intro _; with_unfolding_all rfl) :
    wpAny (model prog w) A (subscriptTail value slice (.bytes b t) (.ref s.heap.objs.size)) Q E { s with heap := s.heap.push { cls := .type "slice", data := .fields #[.int lo tl, .int hi th, .none] } } :=
  KBc.slice_K hF hN hk (.int lo tl) (.int hi th) hz (fun h' t' k F N e => h h' t' k _ F N (e.trans (cut2 h0 h1))) hs ht
theorem slice_lo (hF : Fr h₀ L s.heap m) (hN : News h₀ L s.heap news) (hk : KBw.bInts b = ks) (h0 : 0 ≤ lo) (hz : ks.length ≤ 16777216)
    (h : ∀ h' t' k b', Fr h₀ L h' m → News h₀ L h' news → KBw.bInts b' = ks.drop lo.toNat → Q (.bytes b' t') { s with heap := h', toks := k })
    (hs : subscripted slice false (.bytes b t) (.ref s.heap.objs.size) = operate [.ref s.heap.objs.size, .bytes b t] (getItem (.bytes b t) (.ref s.heap.objs.size)) := by with_unfolding_all rfl)
    (ht : ∀ r, letTemporaryGo value (.bytes b t) r = pure () := by intro _; with_unfolding_all rfl) :
    wpAny (model prog w) A (subscriptTail value slice (.bytes b t) (.ref s.heap.objs.size)) Q E { s with heap := s.heap.push { cls := .type "slice", data := .fields #[.int lo tl, .none, .none] } } :=
  KBc.slice_K hF hN hk (.int lo tl) .none hz (fun h' t' k F N e => h h' t' k _ F N (e.trans (cut_lo h0))) hs ht
theorem slice_hi (hF : Fr h₀ L s.heap m) (hN : News h₀ L s.heap news) (hk : KBw.bInts b = ks) (h1 : 0 ≤ hi) (hz : ks.length ≤ 16777216)
    (h : ∀ h' t' k b', Fr h₀ L h' m → News h₀ L h' news → KBw.bInts b' = ks.take hi.toNat → Q (.bytes b' t') { s with heap := h', toks := k })
    (hs : subscripted slice false (.bytes b t) (.ref s.heap.objs.size) = operate [.ref s.heap.objs.size, .bytes b t] (getItem (.bytes b t) (.ref s.heap.objs.size)) := by with_unfolding_all rfl)
    (ht : ∀ r, letTemporaryGo value (.bytes b t) r = pure () := by intro _; with_unfolding_all rfl) :
    wpAny (model prog w) A (subscriptTail value slice (.bytes b t) (.ref s.heap.objs.size)) Q E { s with heap := s.heap.push { cls := .type "slice", data := .fields #[.none, .int hi th, .none] } } :=
  KBc.slice_K hF hN hk .none (.int hi th) hz (fun h' t' k F N e => h h' t' k _ F N (e.trans (cut_hi h1))) hs ht
end
end
theorem fold_size {f : UInt8 → Array Nat} (hf : ∀ c, (f c).size ≤ 4) : ∀ (l : List UInt8) (a : Array Nat), (l.foldl (fun acc c => acc ++ f c) a).size ≤ a.size + 4 * l.length
  | [], a => by simp
  | c :: r, a => by
    rw [List.foldl_cons, List.length_cons]
    have h := fold_size hf r (a ++ f c)
    have h2 := hf c
    rw [Array.size_append] at h
    omega
theorem literal_le (b : Array UInt8) : (Builtin.Bytes.literal b).length ≤ 4 * b.size + 3 := by
  unfold Builtin.Bytes.literal
  show (Array.push _ _).size ≤ _
  rw [Array.size_push]
  refine Nat.le_trans (Nat.succ_le_succ ?_) (Nat.le_refl _)
  rw [← Array.foldl_toList]
  refine Nat.le_trans (fold_size (fun c => ?_) b.toList _) ?_
  · dsimp only
    repeat' split
    all_goals first | decide | simp
  · simp only [Array.length_toList]
    show 2 + 4 * b.size ≤ 4 * b.size + 2
    omega
theorem slot_brepr : Slot "bytes" "__repr__" "bytes.__repr__" :=
  .of (owner := "bytes") (n := "__repr__") (by rw [typeLookup_type, builtinLookup_eq_fast]; kernel_rfl) (by decide +kernel) (by decide +kernel) (by decide +kernel)
    (by first | exact .inl (by decide +kernel) | exact .inr (by decide +kernel)) (by rw [isSubtype_type]; kernel_rfl)
theorem entry_brepr : entryFor table "bytes.__repr__" = some Builtin.«bytes.__repr__» := entryFor_of_tree (by kernel_rfl)
theorem args_brepr (a : Value) : argsOk "bytes.__repr__" ⟨[a], []⟩ := by unfold argsOk; kernel_rfl
theorem gives_brepr {b : Array UInt8} {t : Tok} (h : b.size ≤ 65536) : Gives (Builtin.«bytes.__repr__» ⟨[.bytes b t], []⟩) (.str (Builtin.Bytes.literal b)) := by
  have e : Builtin.Bytes.literalAsked b = pure (Builtin.Bytes.literal b) := by
    unfold Builtin.Bytes.literalAsked
    rw [KBy.tooLong_not (n := 4 * b.size + 3 + 0) (by omega)]
    rfl
  refine .of_eq ?_
  show (Builtin.Bytes.literalAsked b >>= fun x => retStr x) = _
  rw [e]
  rfl
theorem repr_bytes {prog : Program} {w : World} {A : Around} {E : Value → Shared → Prop} {s : Shared} {b : Array UInt8} {t : Tok} {ks : List Int} {Q : Value → Shared → Prop} (hb : KBw.bInts b = ks) (hn : ks.length ≤ 65536)
    (h : ∀ x t' k, x.length ≤ 4 * ks.length + 3 → Q (.str x t') { s with toks := k }) : wpAny (model prog w) A (call (.builtin "repr") [.bytes b t]) Q E s := by
  subst hb
  rw [KBw.ints_length] at hn h
  have hl := literal_le b
  exact call_repr_gives (typeIs_bytes s b t) slot_brepr entry_brepr (args_brepr _) (gives_brepr hn) (h _ _ _ hl) rfl (by rw [sizeLine_eq]; omega)
/-- what a reading tells: 'value', 'index' or two numbers -/
inductive Res where
  | value
  | index
  | pair (a b : Int)
inductive One where
  | value
  | index
  | ok (n : Int) (rest : List Int)
/-- one number read from the front -/
def one (ks : List Int) : One :=
  if (ks.length : Int) ≤ 0 then .index
  else if ks.getD 0 0 = 2 then
    if (ks.length : Int) ≤ 1 then .index
    else .ok (KFB.value ((ks.drop 2).take ((2 + ks.getD 1 0).toNat - 2))) (ks.drop (2 + ks.getD 1 0).toNat)
  else .value
def two (n : Int) (ks : List Int) : Res :=
  match one ks with
  | .value => .value
  | .index => .index
  | .ok k r => if (r.length : Int) = 0 then .pair n k else .value
def told (ks : List Int) : Res :=
  if (ks.length : Int) ≤ 0 then .index
  else if ks.getD 0 0 = 48 then
    match one (ks.drop 2) with
    | .value => .value
    | .index => .index
    | .ok n r => two n r
  else .value
abbrev tup (a b : Int) (t u : Tok) (n : Nat) : Obj := { cls := .type "tuple", data := .seq #[.int a t, .int b u] n }
abbrev RetRes (r : Res) (news : List (Addr × Obj)) (h₀ : Heap) (L : Addr) (m : Str → Option Value) (s : Shared) (Q : Value → Shared → Prop) : Prop :=
  (∀ t h' tk', r = .value → Fr h₀ L h' m → News h₀ L h' news → Q (.str (Str.ofString "value") t) { s with heap := h', toks := tk' }) ∧
  (∀ t h' tk', r = .index → Fr h₀ L h' m → News h₀ L h' news → Q (.str (Str.ofString "index") t) { s with heap := h', toks := tk' }) ∧
  (∀ a b x t u n h' tk', r = .pair a b → Fr h₀ L h' m → News h₀ L h' ((x, tup a b t u n) :: news) → (∀ p ∈ news, p.1 ≠ x) → Q (.ref x) { s with heap := h', toks := tk' })
theorem of_allLt {d : Addr} : ∀ {l : List (Addr × Obj)}, AllLt d l → ∀ p ∈ l, p.1 < d
  | [], _, _, h => nomatch h
  | _ :: _, h, p, hp => by
    rcases List.mem_cons.mp hp with rfl | hp
    · exact h.1
    · exact of_allLt h.2 p hp
theorem news_top {h₀ h : Heap} {L : Addr} {p : Addr × Obj} {news news' : List (Addr × Obj)} (N : News h₀ L h (p :: news')) (hs : ∀ q ∈ news, q ∈ p :: news') : News h₀ L h (p :: news) := fun q hq => by
  rcases List.mem_cons.mp hq with rfl | hq
  · exact N _ (.head _)
  · exact N _ (hs _ hq)
theorem allNe_of {d : Addr} {l : List (Addr × Obj)} (h : AllLt d l) : ∀ p ∈ l, p.1 ≠ d := fun p hp => Nat.ne_of_lt (of_allLt h p hp)
theorem allNe_of' {d : Addr} {l : List (Addr × Obj)} (h : ∀ p ∈ l, p.1 < d) : ∀ p ∈ l, p.1 ≠ d := fun p hp => Nat.ne_of_lt (h p hp)
/-- what stood in the heap and is not on the list stands -/
abbrev Stood (s : Shared) (ns : List (Addr × Obj)) (h' : Heap) : Prop := ∀ b o, s.heap.get? b = some o → b ∉ ns.map (·.1) → h'.get? b = some o
section
variable {prog : Program} {w : World} {A₀ A : Around} {s : Shared} {base h₀ : Heap} {outer : List Env} {L : Addr} {m : Str → Option Value} {ns : List (Addr × Obj)} {K : Frag} {p : Program} {loose : List Str} {mean : ExcName → Option Value} {mg mb : Str → Option Value}
theorem enterN {env : Env} {R : Result → Shared → Prop} {name qual : Str} {params : Arguments} {body : List Stmt} {scope : Scope} {dV kV doc pm cdv ct oc : Value} {an od : Option Addr} {osl : Array (Option Value)} {f : Addr} {args : Args} {binds : List (Str × Value)}
    (B : Below A₀ base outer h₀) (F : Fr h₀ L s.heap m) (X₀ : K.In h₀) (N : News h₀ L s.heap ns) (T : Top p loose mean mg mb h₀) (hA : A.frames = some (env :: outer)) (hf : env.frame = some L) (hke : env.scope.kind = .function)
    (ho : K.lookup f = some ⟨oc, od, .func (fnOf name qual params body scope dV kV doc pm an cdv ct), osl⟩) (hcd : codeIn K cdv qual = true) (hroom : A.depth < recursionLimit)
    (hbind : BindsTo s (fnOf name qual params body scope dV kV doc pm an cdv ct) args binds) (hloc : ∀ y ∈ binds, scope.names.lookup y.1 = some .local)
    (h : ∀ g L' h₁, Fr h₀ L g m → Fr g L' h₁ (fun y => binds.reverse.lookup y) → News g L' h₁ ns → Below A base (env :: outer) g → K.In g → Top p loose mean mg mb g → Stood s ns g →
      wpAny (model prog w) (A.deeper (envOf qual scope L' f cdv)) (execs body (envOf qual scope L' f cdv))
        (fun fl s' => LeaveK h₀ L m g R (match fl with | .ret v => v | _ => .none) s')
        (fun e s' => wpAny (model prog w) (A.deeper (envOf qual scope L' f cdv)) (leaving (envOf qual scope L' f cdv) e) (fun _ s'' => R (.error e) s'') (fun e' s'' => R (.error e') s'') s')
        { s with heap := h₁, toks := s.toks + binds.length })
    (hco : scope.isCoroutine = false) (hgen : scope.isGenerator = false) (hk : scope.kind = .function)
    (hcell : ∀ x ∈ scope.names, x.2 ≠ .cell) : codeAny (model prog w) A (.call (.ref f) args) R s := by
  obtain ⟨FG, BG, st, lv⟩ := groundX (R := R) B F N hA hf hke
  refine codeAny_call_def (fd := fnOf name qual params body scope dV kV doc pm an cdv ct) (body := body) (binds := binds) hroom ((X₀.keeps F.keep) _ _ ho) rfl (T.nolimit.keeps F.keep) (codeRec_of (X₀.keeps F.keep) hcd) rfl hbind hcell hloc (fun h₁ hns hk₁ => ?_) hco hgen hk
  have F' : Fr (hideAll s.heap (ns.map (·.1))) s.heap.objs.size h₁ (fun y => binds.reverse.lookup y) := ⟨hns, fun b o e => hk₁ b o (of_hideAll _ e), Nat.le_of_eq (hideAll_size _ _)⟩
  have N' : News (hideAll s.heap (ns.map (·.1))) s.heap.objs.size h₁ ns := fun q hq => ⟨hk₁ _ _ (N q hq).1, Nat.ne_of_lt (Heap.lt_size (N q hq).1), hideAll_none _ (List.mem_map_of_mem hq)⟩
  exact wpAny_mono (h _ _ _ FG F' N' BG (X₀.keeps st) (T.keeps st) fun b o e n => hideAll_get _ e n) (fun fl s' hl => lv _ _ hl) fun _ _ y => y
end
abbrev Claim (w : World) (f : Addr) (vs : List Value) (ns : List (Addr × Obj)) (d u : Nat)
    (Ret : Heap → Addr → (Str → Option Value) → Shared → (Value → Shared → Prop) → Prop) : Prop :=
  ∀ (prog : Program) (mean : ExcName → Option Value) (mg mb : Str → Option Value) (dp un : Nat) (gd : Option (List Code)) (cn : Str) (cs : Scope) (a : Addr) (ccd : Value) (cl : List (Str × Addr)) (outer : List Env) (A₀ : Around) (base h₀ : Heap) (L : Addr) (m : Str → Option Value) (s : Shared) (Q E : Value → Shared → Prop),
    Below A₀ base outer h₀ → Fr h₀ L s.heap m → (hd.heap_39 w.params).In h₀ → News h₀ L s.heap ns → Top hd.view_39 (looseW hd.view_39 []) mean mg mb h₀ → cs.kind = .function → dp + d < recursionLimit → un + 8 * u < cLine →
    Ret h₀ L m s Q → wpAny (model prog w) (ktrTop dp un gd cn cs L a ccd cl outer) (call (.ref f) vs) Q E s
/-- the ledger behind a call: what the callee turned or made, and what stood beside it -/
theorem news_beside {h₀ h' : Heap} {L : Addr} {s : Shared} {ns ns' news : List (Addr × Obj)} (N : News h₀ L s.heap news) (N' : News h₀ L h' ns') (hs : Stood s ns h') (hd : ∀ p ∈ news, p.1 ∉ ns.map (·.1)) : News h₀ L h' (ns' ++ news) := fun p hp => by
  rcases List.mem_append.mp hp with q | q
  · exact N' p q
  · exact ⟨hs _ _ (N p q).1 (hd p q), (N p q).2⟩
theorem stood_end {s : Shared} {ns : List (Addr × Obj)} {g h' : Heap} {L' : Addr} {m' : Str → Option Value} (hG : Stood s ns g) (F' : Fr g L' h' m') : Stood s ns h' := fun b o e n => F'.keep b o (hG b o e n)
theorem fresh_end {s : Shared} {g h' : Heap} {L' x : Addr} {o : Obj} {r : List (Addr × Obj)} (hG : Stood s [] g) (N' : News g L' h' ((x, o) :: r)) : s.heap.get? x = none := by
  have h := (N' _ (.head _)).2.2
  cases e : s.heap.get? x with
  | none => rfl
  | some o => rw [hG x o e (by simp)] at h; cases h
abbrev RetRes0 (r : Res) (h₀ : Heap) (L : Addr) (m : Str → Option Value) (s : Shared) (Q : Value → Shared → Prop) : Prop :=
  (∀ t h' tk', r = .value → Fr h₀ L h' m → Stood s [] h' → Q (.str (Str.ofString "value") t) { s with heap := h', toks := tk' }) ∧
  (∀ t h' tk', r = .index → Fr h₀ L h' m → Stood s [] h' → Q (.str (Str.ofString "index") t) { s with heap := h', toks := tk' }) ∧
  (∀ a b x t u n h' tk', r = .pair a b → Fr h₀ L h' m → Stood s [] h' → News h₀ L h' [(x, tup a b t u n)] → s.heap.get? x = none → Q (.ref x) { s with heap := h', toks := tk' })
theorem RetRes.to0 {r : Res} {news : List (Addr × Obj)} {h₀ : Heap} {L : Addr} {m : Str → Option Value} {s : Shared} {Q : Value → Shared → Prop} (N : News h₀ L s.heap news) (h : RetRes r news h₀ L m s Q) : RetRes0 r h₀ L m s Q :=
  ⟨fun t h' tk' e F S => h.1 t h' tk' e F (news_beside (ns := []) (ns' := []) N (fun _ q => nomatch q) S fun _ _ q => nomatch q),
   fun t h' tk' e F S => h.2.1 t h' tk' e F (news_beside (ns := []) (ns' := []) N (fun _ q => nomatch q) S fun _ _ q => nomatch q),
   fun a b x t u n h' tk' e F S N' q => h.2.2 a b x t u n h' tk' e F (news_beside (ns := []) N N' S fun _ _ q => nomatch q) fun p hp z => by
     have := (N p hp).1
     rw [z, q] at this; cases this⟩
theorem Claim.use {prog : Program} {w : World} {f : Addr} {vs : List Value} {news : List (Addr × Obj)} {d u : Nat} {Ret : Heap → Addr → (Str → Option Value) → Shared → (Value → Shared → Prop) → Prop}
    {mean : ExcName → Option Value} {mg mb : Str → Option Value} {dp un : Nat} {gd : Option (List Code)} {cn : Str} {cs : Scope} {a : Addr} {ccd : Value} {cl : List (Str × Addr)} {outer : List Env} {A₀ : Around} {base h₀ : Heap} {L : Addr} {m : Str → Option Value} {s : Shared} {Q E : Value → Shared → Prop}
    (C : Claim w f vs news d u Ret) (B : Below A₀ base outer h₀) (F : Fr h₀ L s.heap m) (X : (hd.heap_39 w.params).In h₀) (N : News h₀ L s.heap news) (T : Top hd.view_39 (looseW hd.view_39 []) mean mg mb h₀) (hk : cs.kind = .function) (hdp : dp + d < recursionLimit) (hun : un + 8 * u < cLine)
    (ret : Ret h₀ L m s Q) : wpAny (model prog w) (ktrTop dp un gd cn cs L a ccd cl outer) (call (.ref f) vs) Q E s :=
  C prog mean mg mb dp un gd cn cs a ccd cl outer A₀ base h₀ L m s Q E B F X N T hk hdp hun ret
theorem ClaimL.use {prog : Program} {w : World} {f : Addr} {vs : List Value} {news : List (Addr × Obj)} {d u : Nat} {Ret : Heap → Addr → (Str → Option Value) → Shared → (Value → Shared → Prop) → Prop}
    {mean : ExcName → Option Value} {mg mb : Str → Option Value} {dp un : Nat} {gd : Option (List Code)} {cn : Str} {cs : Scope} {a : Addr} {ccd : Value} {A₀ : Around} {h₀ : Heap} {L : Addr} {m : Str → Option Value} {s : Shared} {Q E : Value → Shared → Prop}
    (C : ClaimL w f vs news d u Ret) (B : Below A₀ h₀ [] h₀) (F : Fr h₀ L s.heap m) (X : (hd.heap_39 w.params).In h₀) (N : News h₀ L s.heap news) (T : Top hd.view_39 (looseW hd.view_39 []) mean mg mb h₀) (hk : cs.kind = .function) (hdp : dp + d < recursionLimit) (hun : un + 8 * u < cLine)
    (ret : Ret h₀ L m s Q) : wpAny (model prog w) { handled := none, depth := dp, frames := some [envOf cn cs L a ccd], guards := gd, units := un } (call (.ref f) vs) Q E s :=
  C prog mean mg mb dp un gd cn cs a ccd A₀ h₀ L m s Q E B F X N T hk hdp hun ret
/-- the octets of a number, the great ones ahead -/
def bigs (k : Nat) (x : Int) : List Int := (KTBy.little k x).reverse
theorem bigs_length (k : Nat) (x : Int) : (bigs k x).length = k := by unfold bigs; rw [List.length_reverse, KTBy.little_length]
section
variable {prog : Program} {w : World} {A : Around} {E : Value → Shared → Prop} {s : Shared} {x n : Int} {k : Nat} {t u v : Tok}
theorem to_be {Q : Value → Shared → Prop} (hk : k ≤ 64) (hn : n = (k : Int)) (h0 : 0 ≤ x) (h1 : x < 256 ^ k) (h : ∀ (b : Array UInt8) t' k', KBw.bInts b = bigs k x → Q (.bytes b t') { s with toks := k' }) :
    wpAny (model prog w) A (call (.builtin "int.to_bytes") [.int x t, .int n u, .str (PySem.Str.ofString "big") v]) Q E s := by
  subst hn
  have hb : Builtin.Int.intBits x ≤ 8 * k := KTBy.bits_le rfl h0 h1
  refine wpAny_call_entry KTBy.slot (typeIs_int s x t) KTBy.entry ?_ (KTBy.args _ _ _)
  have parts : Builtin.Int.intBindNamed "to_bytes" ["length", "byteorder", "signed"] 0 2 [.int (k : Int) u, .str (PySem.Str.ofString "big") v] [] = pure [some (.int (k : Int) u), some (.str (PySem.Str.ofString "big") v), none] := by kernel_rfl
  unfold Builtin.«int.to_bytes»
  refine wpAny_bind (wpAny_of_eq (a := x) rfl (wpAny_bind (wpAny_of_eq parts (wpAny_bind (wpAny_of_eq (a := (k : Int)) rfl ?_)))))
  refine KTBy.if_not (by simp only [Bool.or_eq_false_iff, decide_eq_false_iff_not]; omega) ?_
  refine wpAny_bind (wpAny_of_eq (a := PySem.Str.ofString "big") (by kernel_rfl) (wpAny_bind (wpAny_of_eq (a := false) rfl (wpAny_bind (wpAny_of_eq (a := false) (by kernel_rfl) ?_)))))
  have c1 : ¬ ((k : Int) < 0) := by omega
  have c2 : ¬ ((k : Int) > 2 ^ 63 - 1 - 33) := by omega
  have c3 : ¬ ((k : Int) > (sizeLine : Int)) := by rw [sizeLine_eq]; omega
  have c4 : ¬ x < 0 := by omega
  have c5 : ¬ ((Builtin.Int.intBits x : Int) > 8 * (k : Int)) := by omega
  refine wpAny_ite_false (decide_eq_false c1) (wpAny_ite_false (decide_eq_false c2) (wpAny_ite_false (decide_eq_false c3) ?_))
  refine KTBy.if_not (by simp [c4]) (KTBy.if_not (by show (_ && decide ((Builtin.Int.intBits x : Int) > 8 * (k : Int))) = false; rw [decide_eq_false c5, Bool.and_false]) ?_)
  refine wpAny_bind (wpAny_mkBytes (wpAny_pure ⟨_, rfl, h _ _ _ ?_⟩) ?_)
  · show (List.map (fun c : UInt8 => ((c.toNat : Nat) : Int)) (List.reverse (KTBy.low x (Int.toNat (k : Int))))) = bigs k x
    unfold bigs
    rw [Int.toNat_natCast, List.map_reverse, KTBy.low_ints h0 h1, ← KTBy.little_eq]
  · show (List.reverse (KTBy.low x (Int.toNat (k : Int)))).length ≤ sizeLine
    rw [List.length_reverse, KTBy.low_length, Int.toNat_natCast, sizeLine_eq]
    omega
end
def osz (n : Int) : Nat := Builtin.Int.intBits n / 8 + 1
theorem osz_is (n : Int) : Int.fdiv ((Builtin.Int.intBits n : Nat) : Int) 8 + 1 = ((osz n : Nat) : Int) := by
  unfold osz
  rw [Int.fdiv_eq_ediv_of_nonneg _ (by decide)]
  omega
theorem osz_fits {n : Int} (h0 : 0 ≤ n) : n < 256 ^ osz n := by
  have h := intBits_le_iff.mp (Nat.le_refl (Builtin.Int.intBits n))
  have h2 : 2 ^ Builtin.Int.intBits n ≤ 2 ^ (8 * osz n) := Nat.pow_le_pow_right (by decide) (by unfold osz; omega)
  rw [Nat.pow_mul] at h2
  rw [KTBy.p256]
  have e : (2 : Nat) ^ 8 = 256 := by decide
  rw [e] at h2
  omega
theorem osz_le {n : Int} (h0 : 0 ≤ n) (h1 : n < 2 ^ 256) : osz n ≤ 33 := by
  have h : Builtin.Int.intBits n ≤ 256 := intBits_le_iff.mpr (by omega)
  unfold osz
  omega
/-- the octets of a number as X.690 asks for them: a zero ahead of a first bit that is set -/
def octs (n : Int) : List Int := bigs (osz n) n
theorem to_octs {prog : Program} {w : World} {A : Around} {E : Value → Shared → Prop} {s : Shared} {x : Int} {t u v : Tok} {Q : Value → Shared → Prop} (h0 : 0 ≤ x) (h1 : x < 2 ^ 256) (h : ∀ (b : Array UInt8) t' k', KBw.bInts b = octs x → Q (.bytes b t') { s with toks := k' }) :
    wpAny (model prog w) A (call (.builtin "int.to_bytes") [.int x t, .int (Int.fdiv ((Builtin.Int.intBits x : Nat) : Int) 8 + 1) u, .str (PySem.Str.ofString "big") v]) Q E s :=
  to_be (Nat.le_trans (osz_le h0 h1) (by decide)) (osz_is x) h0 (osz_fits h0) h
section
variable {prog : Program} {w : World} {A : Around} {E : Value → Shared → Prop} {s : Shared} {h₀ : Heap} {L D : Addr} {m : Str → Option Value} {news : List (Addr × Obj)} {vs : List Value} {ns ks ls : List Int} {b c : Array UInt8} {t u : Tok}
theorem make_bytes {Q : Value → Shared → Prop} (F : Fr h₀ L s.heap m) (N : News h₀ L s.heap news) (hh : A.handled = none) (hl : s.heap.IsList D vs.toArray) (hi : IntsAre vs ns) (hr : ∀ n ∈ ns, 0 ≤ n ∧ n < 256) (hn : ns.length ≤ 16777216)
    (h : ∀ h' t' k b', Fr h₀ L h' m → News h₀ L h' news → KBw.bInts b' = ns → Q (.bytes b' t') { s with heap := h', toks := k }) : wpAny (model prog w) A (call (.type "bytes") [.ref D]) Q E s :=
  KBa.make_K F N hh hl hi hr hn fun h' t' k F' N' hin => h h' t' k _ F' N' (KBa.ints_make hin)
theorem add_bytes {Q : Value → Shared → Prop} (hb : KBw.bInts b = ks) (hc : KBw.bInts c = ls) (hsz : ks.length + ls.length ≤ 16777216) (h : ∀ t' k b', KBw.bInts b' = ks ++ ls → Q (.bytes b' t') { s with toks := k }) : wpAny (model prog w) A (binaryOp .Add (.bytes b t) (.bytes c u)) Q E s :=
  KBa.add_K hb hc hsz fun t' k e => h t' k _ e
end
theorem slot_bjoin : Slot "bytes" "join" "bytes.join" :=
  .of (owner := "bytes") (n := "join") (by rw [typeLookup_type, builtinLookup_eq_fast]; kernel_rfl) (by decide +kernel) (by decide +kernel) (by decide +kernel)
    (by first | exact .inl (by decide +kernel) | exact .inr (by decide +kernel)) (by rw [isSubtype_type]; kernel_rfl)
theorem entry_bjoin : entryFor table "bytes.join" = some Builtin.«bytes.join» := entryFor_of_tree (by kernel_rfl)
theorem args_bjoin (a b : Value) : argsOk "bytes.join" ⟨[a, b], []⟩ := by unfold argsOk; kernel_rfl
theorem type_bjoin : typeOf (.builtin "bytes.join") = pure (.type "method_descriptor") := by show builtinType _ = _; rw [builtinType_eq_fast]; kernel_rfl
theorem meth_bjoin {M : Model} {A : Around} {E : Value → Shared → Prop} {s : Shared} {b : Array UInt8} {t : Tok} {pl : Sem Bool} {Q : Value × List Value → Shared → Prop} (h : Q (.builtin "bytes.join", [.bytes b t]) s) : wpAny M A (getMethod (.bytes b t) "join" pl) Q E s := by
  with_reducible exact KBd.method_of (.bytes b t) (typeIs_bytes _ _ _) slot_bjoin type_bjoin KBd.noRef h
theorem taken_eq {id : String} {b : Array UInt8} {t : Tok} : Builtin.Bytes.takeBufferQuiet? id (.bytes b t) 0 = pure (some (b, none)) := by
  have e : Builtin.Bytes.buffer? id (.bytes b t) false = pure (some b) := KBy.buffer_eq
  have e2 : ((0 : Int) == Builtin.Bytes.fullReadOnly) = false := by decide
  unfold Builtin.Bytes.takeBufferQuiet? Builtin.Bytes.takeBuffer?
  rw [KBy.special_eq KBy.look_buffer]
  simp only [pure_bind]
  rw [KBy.own_buffer, e2, e]
  rfl
theorem seq_items {M : Model} {A : Around} {E : Value → Shared → Prop} {s : Shared} {pl : Addr} {o : Obj} {xs : Array Value} {n : Nat} {Q : Option (Array Value) → Shared → Prop} (ho : s.heap.get? pl = some o) (hd : o.data = .seq xs n) (h : Q (some xs) s) : wpAny M A (seqItems? (.ref pl)) Q E s := by
  unfold seqItems?
  refine wpAny_bind (wpAny_load ho ?_)
  rw [hd]
  exact wpAny_pure h
theorem meets_join2 {pl : Addr} {np : Nat} {b c : Array UInt8} {t0 tb tc : Tok} (hs : b.size + c.size ≤ 65536) :
    Meets (Builtin.«bytes.join» ⟨[.bytes #[] t0, .ref pl], []⟩) (fun _ R s => s.heap.get? pl = some { cls := .type "list", data := .seq #[.bytes b tb, .bytes c tc] np } ∧ ∀ t' k, R (.ok (.ret (.bytes (b ++ c) t'))) { s with toks := k }) := by
  refine .of_wp fun prog w A R s hS => ?_
  obtain ⟨ho, h⟩ := hS
  have hT : s.TypeIs (.ref pl) "list" := ⟨_, ho, rfl⟩
  unfold Builtin.«bytes.join» Builtin.Bytes.joinM
  refine wpAny_bind (wpAny_of_eq (a := (.bytes #[] t0, .ref pl)) rfl ?_)
  refine wpAny_bind ?_
  show wpAny _ _ (Builtin.Bytes.joinItems (.ref pl)) _ _ _
  unfold Builtin.Bytes.joinItems
  refine wpAny_bind (wpAny_typeOf hT (wpAny_pure ?_))
  refine wpAny_bind (seq_items ho rfl ?_)
  show wpAny _ _ (forIn [:2] (#[], []) _ >>= _) _ _ _
  rw [Std.Legacy.Range.forIn_eq_forIn_range']
  show wpAny _ _ (forIn [0, 1] (#[], []) _ >>= _) _ _ _
  rw [List.forIn_cons]
  refine wpAny_bind (wpAny_bind ?_)
  refine wpAny_bind (seq_items ho rfl ?_)
  show wpAny _ _ (holding _ (Builtin.Bytes.takeBufferQuiet? _ (.bytes b tb) 0) >>= _) _ _ _
  refine wpAny_bind (wpAny_holding (wpAny_of_eq taken_eq ?_))
  refine wpAny_bind (seq_items ho rfl (wpAny_pure ?_))
  show wpAny _ _ (forIn [1] (#[b], [(Value.bytes b tb, none)]) _) _ _ _
  rw [List.forIn_cons]
  refine wpAny_bind ?_
  refine wpAny_bind (seq_items ho rfl ?_)
  show wpAny _ _ (holding _ (Builtin.Bytes.takeBufferQuiet? _ (.bytes c tc) 0) >>= _) _ _ _
  refine wpAny_bind (wpAny_holding (wpAny_of_eq taken_eq ?_))
  refine wpAny_bind (seq_items ho rfl (wpAny_pure ?_))
  show wpAny _ _ (forIn [] (#[b, c], [(Value.bytes b tb, none), (Value.bytes c tc, none)]) _) _ _ _
  rw [List.forIn_nil]
  refine wpAny_pure ?_
  refine wpAny_bind (wpAny_of_eq (a := #[]) rfl ?_)
  refine KFB.if_not (c := Builtin.Bytes.tooLong _) ?_ ?_
  · have e : Array.foldl (fun (x1 : Nat) (x2 : Array UInt8) => x1 + x2.size) ((#[] : Array UInt8).size * ((#[b, c] : Array (Array UInt8)).size - 1)) #[b, c] = b.size + c.size := by simp
    exact (congrArg Builtin.Bytes.tooLong e).trans (KBy.tooLong_not (by omega))
  · have e2 : Builtin.Bytes.joined #[] (#[b, c] : Array (Array UInt8)).toList = b ++ c := by simp [Builtin.Bytes.joined]
    show wpAny _ _ (mkBytes (Builtin.Bytes.joined #[] (#[b, c] : Array (Array UInt8)).toList) >>= _) _ _ _
    rw [e2]
    refine wpAny_bind (wpAny_mkBytes ?_ ?_)
    · refine wpAny_bind (wpAny_holding (wpAny_point ?_))
      refine wpAny_bind ?_
      unfold Builtin.Bytes.joinLetGo
      refine wpAny_bind (wpAny_letGo ?_)
      unfold Builtin.Bytes.joinLetGo
      refine wpAny_bind (wpAny_letGo ?_)
      unfold Builtin.Bytes.joinLetGo
      exact wpAny_pure (wpAny_pure ⟨_, rfl, h _ _⟩)
    · rw [Array.size_append, sizeLine_eq]
      omega
theorem join2 {prog : Program} {w : World} {A : Around} {E : Value → Shared → Prop} {s : Shared} {h₀ : Heap} {L pl : Addr} {news : List (Addr × Obj)} {np : Nat} {b c : Array UInt8} {ks ls : List Int} {t0 tb tc : Tok} {Q : Value → Shared → Prop}
    (N : News h₀ L s.heap news) (hm : (pl, ({ cls := .type "list", data := .seq #[.bytes b tb, .bytes c tc] np } : Obj)) ∈ news) (hb : KBw.bInts b = ks) (hc : KBw.bInts c = ls) (hs : ks.length + ls.length ≤ 65536)
    (h : ∀ t' k b', KBw.bInts b' = ks ++ ls → Q (.bytes b' t') { s with toks := k }) : wpAny (model prog w) A (call (.builtin "bytes.join") [.bytes #[] t0, .ref pl]) Q E s :=
  call_meets slot_bjoin (typeIs_bytes _ _ _) entry_bjoin (args_bjoin _ _) (meets_join2 (by rw [← KBw.ints_length b, ← KBw.ints_length c, hb, hc]; exact hs)) ⟨N.get hm, fun t' k => h t' k _ (KBw.ints_app hb hc)⟩
/-- lengths without arithmetic -/
theorem sz_w {l : List Int} {m n : Nat} (h : l.length ≤ m) (e : m ≤ n) : l.length ≤ n := Nat.le_trans h e
theorem sz_drop {l : List Int} {i n : Nat} (h : l.length ≤ n) : (l.drop i).length ≤ n := by
  rw [List.length_drop]
  exact Nat.le_trans (Nat.sub_le _ _) h
theorem sz_take {l : List Int} {i n : Nat} (h : l.length ≤ n) : (l.take i).length ≤ n := by
  rw [List.length_take]
  exact Nat.le_trans (Nat.min_le_right _ _) h
theorem sz_sum {a b : List Int} {n : Nat} (ha : a.length ≤ n / 2) (hb : b.length ≤ n / 2) : a.length + b.length ≤ n := by omega
theorem sz_app {a b : List Int} {n : Nat} (ha : a.length ≤ n / 2) (hb : b.length ≤ n / 2) : (a ++ b).length ≤ n := by
  rw [List.length_append]
  exact sz_sum ha hb
theorem sz_one {x : Int} {n : Nat} (h : 1 ≤ n) : [x].length ≤ n := h
end
open PySem PySem.W PyProof.Rows
theorem filled : hd.heap_39 = hd.heap_39 := by
  k_fill
  rfl
local macro_rules | `(tactic| walk_at "subscriptTail") => `(tactic| k_extra "my subscriptTail")
local macro_rules | `(tactic| walk_at "call ref") => `(tactic| k_extra "my call ref")
local macro_rules | `(tactic| walk_at "call builtin:repr") => `(tactic| k_extra "my call builtin:repr")
local macro_rules | `(tactic| walk_at "call type:bytes") => `(tactic| k_extra "my call type:bytes")
local macro_rules | `(tactic| walk_at "binaryOp Add bytes bytes") => `(tactic| k_extra "my binaryOp Add bytes bytes")
local macro_rules | `(tactic| walk_at "call builtin:int.to_bytes") => `(tactic| k_extra "my call builtin:int.to_bytes")
local macro_rules | `(tactic| walk_at "getMethod bytes") => `(tactic| k_extra "my getMethod bytes")
local macro_rules | `(tactic| walk_at "call builtin:bytes.join") => `(tactic| k_extra "my call builtin:bytes.join")
local macro_rules | `(tactic| walk_at "compareOp NotEq bytes bytes") => `(tactic| k_extra "my compareOp NotEq bytes bytes")
local macro_rules | `(tactic| walk_at "binaryOp Mult bytes int") => `(tactic| k_extra "my binaryOp Mult bytes int")
local macro_rules | `(tactic| kba_size) => `(tactic| walk_at "my_size")
section
open PySem PySem.W PyProof.Rows
theorem words_C1 : True := by
  w_top off
  k_with "my_size" => ((repeat' (first | exact sz_w (by assumption) (by decide) | refine sz_drop ?_ | refine sz_take ?_ | refine sz_app ?_ ?_ | refine sz_sum ?_ ?_ | exact sz_one (by decide))); done)
  k_with "my_enter" => (refine' enterN ?k1 ?k2 ?k3 ?k4 ?k5 ?kA ?kF ?kK ?k6 ?k7 ?k8 ?k9 ?kB ?_ ?c2 ?c3 ?c4 ?c5; (case kA => exact rfl); (case kF => exact rfl); (case kK => first | exact rfl | assumption); (case k1 => k_asm); (case k2 => k_asm); (case k3 => k_asm); (case k4 => k_asm); (case k5 => k_asm); (case k6 => k_is); (case k7 => k_is); (case k8 => ktr_room); (case k9 => exact BindsTo.of_eq rfl); (case c5 => decide); (case kB => exact locs rfl); (case c2 => exact rfl); (case c3 => exact rfl); (case c4 => exact rfl); k_whole; intro g' L' h' FG' F' N' B' X' T' S'; (try dsimp only); (try k_fold))
  k_with "my_enterS" => (refine' code_defS0 ?k1 ?k2 ?k3 ?k4 ?k5 ?kA ?k6 ?k7 ?k8 ?k9 ?kB ?_ ?cK ?c2 ?c3 ?c4 ?c5; (case kA => exact rfl); (case k2 => k_asm); (case k1 => k_asm); (case k3 => k_asm); (case k4 => k_asm); (case k5 => k_asm); (case k6 => k_is); (case k7 => k_is); (case k8 => ktr_room); (case k9 => exact BindsTo.of_eq rfl); (case kB => exact locs rfl); (case cK => first | exact rfl | assumption); (case c2 => exact rfl); (case c3 => exact rfl); (case c4 => exact rfl); (case c5 => decide); k_whole; intro g' L' h' FG' F' N' B' X' T' D'; (try dsimp only); (try k_fold))
  k_with "my_sub" => (intro p hp; (repeat' (first | exact hp | (refine List.Mem.tail _ ?_))))
  k_with "my_drop" => first | (refine cb_drop (by assumption) ?_; walk_at "my_sub") | exact fun _ q => nomatch q
  k_with "my_lt" => first | exact allNe_of (by assumption) | exact allNe_of' (by assumption) | exact allNe_of (And.right (by assumption)) | exact allNe_of (And.right (And.right (by assumption))) | exact allNe_of (And.right (And.right (And.right (by assumption))))
  k_with "my subscriptTail" => (k_here; (with_reducible show wpAny _ _ (subscriptTail _ _ (Value.bytes _ _) (Value.int _ _)) _ _ _); k_dflt (refine' byte_any ?bah ?bak ?baf ?ba0 ?bai ?_ ?_; (case bah => rfl); (case bak => kba_ints); (case baf => kba_size); (case ba0 => kba_idx); (case bai => kba_idx); k_whole); (all_goals (intros)); (all_goals (try k_sweep)))
  k_with "my subscriptTail" => (k_here; (with_reducible show wpAny _ _ (subscriptTail _ _ (Value.bytes _ _) (Value.int _ _)) _ _ _); (refine KBw.item_K (by kba_ints) (by kba_size) (by kba_idx) (by first | assumption | kba_idx) ?_); intro _ _ kbaLo kbaHi)
  k_with "my subscriptTail" => (k_here; (with_reducible show wpAny _ _ (subscriptTail _ (Expr.Slice (some _) (some _) none _) (Value.bytes _ _) (Value.ref _)) _ _ _); (with_reducible rename Fr _ _ _ _ => F'); (with_reducible rename News _ _ _ _ => N'); (refine slice2 (s := ⟨_, _, _, _, _⟩) F' N' (by kba_ints) (by kba_idx) (by kba_idx) (by kba_size) ?_); intro h' t' k' b' F' N' hb'; (try k_sweep))
  k_with "my subscriptTail" => (k_here; (with_reducible show wpAny _ _ (subscriptTail _ (Expr.Slice (some _) none none _) (Value.bytes _ _) (Value.ref _)) _ _ _); (with_reducible rename Fr _ _ _ _ => F'); (with_reducible rename News _ _ _ _ => N'); (refine slice_lo (s := ⟨_, _, _, _, _⟩) F' N' (by kba_ints) (by kba_idx) (by kba_size) ?_); intro h' t' k' b' F' N' hb'; (try k_sweep))
  k_with "my subscriptTail" => (k_here; (with_reducible show wpAny _ _ (subscriptTail _ (Expr.Slice none (some _) none _) (Value.bytes _ _) (Value.ref _)) _ _ _); (with_reducible rename Fr _ _ _ _ => F'); (with_reducible rename News _ _ _ _ => N'); (refine slice_hi (s := ⟨_, _, _, _, _⟩) F' N' (by kba_ints) (by kba_idx) (by kba_size) ?_); intro h' t' k' b' F' N' hb'; (try k_sweep))
  k_with "my call ref" => (k_here; (with_reducible show wpAny _ _ (call (Value.ref _) [Value.bytes _ _, Value.str _ _]) _ _ _); kfb_any; k_dflt (refine call_from_big (by k_asm) (by k_mem) (by kba_ints2) (by kba_size) ?_); intro _ _)
  k_with "my call builtin:repr" => (k_here; (with_reducible show wpAny _ _ (call (Value.builtin "repr") [Value.bytes _ _]) _ _ _); (refine repr_bytes (by kba_ints) (by kba_size) ?_); intro _ _ _ hrl; (try simp only [List.length_drop, List.length_take] at hrl))
  trivial
theorem bigend_ok (w : World) (b : Array UInt8) (tk : Tok) (ks : List Int) (news : List (Addr × Obj)) (hb : KBw.bInts b = ks) (hn : ks.length ≤ 300) :
    Claim w 21 [.bytes b tk] news 2 2 fun h₀ L m s Q => ∀ t h' tk' , Fr h₀ L h' m → News h₀ L h' news → Q (.int (KFB.value ks) t) { s with heap := h', toks := tk' } := by
  unfold Claim
  intro prog mean mg mb dp un gd cn cs a ccd cl outer A₀ base h₀ L m s Q E B F X N T hk hd hu hret
  refine wpAny_call ?_
  k_dflt (walk_at "my_enter")
  k_steps
  refine hret _ _ _ (by k_asm) ?_
  walk_at "my_drop"
end
section
open PySem PySem.W PyProof.Rows
theorem words_C2 : True := by
  w_top off
  k_with "my_drop" => first | with_reducible assumption | assumption | (refine cb_drop (by assumption) ?_; walk_at "my_sub") | exact fun _ q => nomatch q
  k_with "my call ref" => (k_here; (with_reducible show wpAny _ _ (call (Value.ref 21) [Value.bytes _ _]) _ _ _); k_dflt (refine' Claim.use (bigend_ok _ _ _ _ _ ?cua ?cub) ?k1 ?k2 ?k3 ?k4 ?k5 ?kK ?kd ?ku ?_; (case cua => kba_ints2); (case cub => kba_size); (case k1 => k_asm); (case k2 => k_asm); (case k3 => k_asm); (case k4 => k_asm); (case k5 => k_asm); (case kK => first | exact rfl | assumption); (case kd => ktr_room); (case ku => ktr_units); k_whole; intro t' h' tk' F' N'; (try dsimp only); (try k_sweep)))
  k_with "told_pure" => (law_clear; (try simp only [Int.reduceToNat, List.length_drop] at *); (simp (disch := omega) only [told, one, two, if_pos, if_neg, if_true, if_false, reduceIte, List.length_drop, *]))
  k_with "told_end" => ((with_reducible rename RetRes _ _ _ _ _ _ _ => hret); first
    | ((with_reducible refine' hret.1 _ _ _ ?tp ?ta ?tb); (case ta => k_asm); (case tb => walk_at "my_drop"); (case tp => walk_at "told_pure"))
    | ((with_reducible refine' hret.2.1 _ _ _ ?tp ?ta ?tb); (case ta => k_asm); (case tb => walk_at "my_drop"); (case tp => walk_at "told_pure"))
    | (refine' hret.2.2 _ _ _ _ _ _ _ _ ?tp ?ta ?tb ?tc; (case tb => (refine news_top (by assumption) ?_; walk_at "my_sub")); (case ta => k_asm); (case tc => walk_at "my_lt"); (case tp => walk_at "told_pure")))
  k_with "my_stood" => exact stood_end (by assumption) (by assumption)
  k_with "due_end" => ((with_reducible rename RetRes0 _ _ _ _ _ _ => hret); first
    | ((with_reducible refine' hret.1 _ _ _ ?tp ?ta ?tb); (case ta => k_asm); (case tb => walk_at "my_stood"); (case tp => walk_at "told_pure"))
    | ((with_reducible refine' hret.2.1 _ _ _ ?tp ?ta ?tb); (case ta => k_asm); (case tb => walk_at "my_stood"); (case tp => walk_at "told_pure"))
    | (refine' hret.2.2 _ _ _ _ _ _ _ _ ?tp ?ta ?tb ?tc ?td; (case tc => (refine news_top (by assumption) ?_; exact fun _ q => nomatch q)); (case ta => k_asm); (case tb => walk_at "my_stood"); (case td => exact fresh_end (by assumption) (by assumption)); (case tp => walk_at "told_pure")))
  trivial
abbrev RetTake (box b : Addr) (vs : List Value) (n1 : Nat) (mny : Int) (ns : List (Addr × Obj)) (h₀ : Heap) (L : Addr) (m : Str → Option Value) (s : Shared) (Q : Value → Shared → Prop) : Prop :=
  ∀ (v j : Int) t h' tk' tj nj, 0 ≤ v → v < mny → 0 ≤ j → Fr h₀ L h' m → Stood s ns h' →
    News h₀ L h' [(box, { cls := .type "list", data := .seq #[.ref b, .int j tj] nj }), (b, { cls := .type "list", data := .seq vs.toArray n1 })] → Q (.int v t) { s with heap := h', toks := tk' }
theorem take_ok (w : World) (box b : Addr) (i : Int) (n0 n1 : Nat) (ti tk : Tok) (mny : Int) (vs : List Value) (is : List Int) (hbb : b ≠ box) (hi : IntsAre vs is) (hl : is.length ≤ 100) (hm : 0 < mny) (hi0 : 0 ≤ i) :
    Claim w 63 [.ref box, .int mny tk] [(box, { cls := .type "list", data := .seq #[.ref b, .int i ti] n0 }), (b, { cls := .type "list", data := .seq vs.toArray n1 })] 2 2
      (RetTake box b vs n1 mny [(box, { cls := .type "list", data := .seq #[.ref b, .int i ti] n0 }), (b, { cls := .type "list", data := .seq vs.toArray n1 })]) := by
  unfold Claim
  intro prog mean mg mb dp un gd cn cs a ccd cl outer A₀ base h₀ L m s Q E B F X N T hk hd hu hret
  refine wpAny_call ?_
  k_dflt (walk_at "my_enter")
  k_steps
  · exact hret _ _ _ _ _ _ _ (by decide) hm hi0 (by k_asm) (stood_end (by assumption) (by assumption)) (by k_asm)
  · refine' hret _ _ _ _ _ _ _ (fmod_lo _ hm) (fmod_hi _ hm) ?ta ?tb (stood_end (by assumption) (by assumption)) ?tc
    case tc => assumption
    case tb => assumption
    case ta => omega
end
section
open PySem PySem.W PyProof.Rows
theorem words_C3 : True := by
  w_top off
  k_with "my call type:bytes" => (k_here; (with_reducible show wpAny _ _ (call (Value.type "bytes") [Value.ref _]) _ _ _); k_dflt (refine' make_bytes ?kbaF ?kbaN ?kbah ?kbal ?kbai ?kbar ?kban ?_; (case kbaF => k_asm); (case kbaN => k_asm); (case kbah => rfl); (case kbal => kba_isList); (case kbai => kba_listInts); (case kbar => by_in); (case kban => kba_size)); intro h' t' k' b' F' N' hb'; (try k_sweep))
  k_with "my binaryOp Add bytes bytes" => (k_here; (with_reducible show wpAny _ _ (binaryOp Operator.Add (Value.bytes _ _) (Value.bytes _ _)) _ _ _); (refine add_bytes (by kba_ints2) (by kba_ints2) (by kba_size) ?_); intro t' k' b' hb')
  k_with "my call builtin:int.to_bytes" => (k_here; (with_reducible show wpAny _ _ (call (Value.builtin "int.to_bytes") [Value.int _ _, Value.int _ _, Value.str _ _]) _ _ _); (refine to_octs (by assumption) (by assumption) ?_); intro _ _ _ hob)
  trivial
theorem octets_ok (w : World) (n : Int) (tk : Tok) (news : List (Addr × Obj)) (h0 : 0 ≤ n) (h1 : n < 2 ^ 256) :
    Claim w 77 [.int n tk] news 2 2 fun h₀ L m s Q => ∀ b t h' tk', KBw.bInts b = octs n → Fr h₀ L h' m → News h₀ L h' news → Q (.bytes b t) { s with heap := h', toks := tk' } := by
  unfold Claim
  intro prog mean mg mb dp un gd cn cs a ccd cl outer A₀ base h₀ L m s Q E B F X N T hk hd hu hret
  refine wpAny_call ?_
  k_dflt (walk_at "my_enter")
  k_steps
  · exact hret _ _ _ _ (by assumption) (by k_asm) (by k_asm)
theorem one_ok (w : World) (b : Array UInt8) (tk : Tok) (ks : List Int) (hb : KBw.bInts b = ks) (hn : ks.length ≤ 100) :
    Claim w 84 [.bytes b tk] [] 2 2 fun h₀ L m s Q => ∀ b' t h' tk', KBw.bInts b' = 2 :: (ks.length : Int) :: ks → Fr h₀ L h' m → Stood s [] h' → Q (.bytes b' t) { s with heap := h', toks := tk' } := by
  unfold Claim
  intro prog mean mg mb dp un gd cn cs a ccd cl outer A₀ base h₀ L m s Q E B F X N T hk hd hu hret
  refine wpAny_call ?_
  k_dflt (walk_at "my_enter")
  k_steps
  exact hret _ _ _ _ (by assumption) (by k_asm) (stood_end (by assumption) (by assumption))
end
section
open PySem PySem.W PySem.Calls PySem.Spec PyProof.Rows
open PySem.Sem (wp)
/-- kept by the producer: what the consumer looks at -/
structure KeptBy (H : Addr → Prop) (s₀ s₁ : Shared) : Prop where
  heap : ∀ b o, H b → s₀.heap.get? b = some o → s₁.heap.get? b = some o
  gens : ∃ ext : Array GenState, s₁.gens = s₀.gens ++ ext ∧ AllBare ext
  drawn : s₁.drawn = s₀.drawn
  os : s₁.os = s₀.os
/-- kept by the consumer: all but its own store -/
structure TouchedAt (S : Addr) (s₁ s₂ : Shared) : Prop where
  heap : ∀ b o, b ≠ S → s₁.heap.get? b = some o → s₂.heap.get? b = some o
  gens : s₂.gens = s₁.gens
  drawn : s₂.drawn = s₁.drawn
  os : s₂.os = s₁.os
  there : ∃ o, s₂.heap.get? S = some o
abbrev RR (H : Addr → Prop) : GenEnd := fun n s₀ r s₁ => r = .ok (.ret .none) ∧ (n = 0 ∧ KeptBy H s₀ s₁)
abbrev YY (l : List Int) (H : Addr → Prop) (S : Addr) : Protocol := fun n s₀ v s₁ kap => ∃ x t, l.reverse[n]? = some x ∧ v = .int x t ∧ KeptBy H s₀ s₁ ∧ ∀ s₂, TouchedAt S s₁ s₂ → kap (.send .none) s₂
theorem gens_set {s : Shared} {g : Nat} {gs x : GenState} (h : s.gens[g]? = some gs) : (s.setGen g x).gens[g]? = some x := by
  obtain ⟨hlt, _⟩ := Array.getElem?_eq_some_iff.mp h
  simp [Shared.setGen, hlt]
theorem gens_kept {a b ext : Array GenState} {g : Nat} {x : GenState} (h : a[g]? = some x) (e : b = a ++ ext) : b[g]? = some x := by
  obtain ⟨hlt, _⟩ := Array.getElem?_eq_some_iff.mp h
  rw [e, Array.getElem?_append_left hlt]; exact h
theorem gens_over {a ext : Array GenState} {g : Nat} {x y : GenState} (hlt : g < a.size) : ((a.setIfInBounds g x) ++ ext).setIfInBounds g y = a.setIfInBounds g y ++ ext := by
  apply Array.ext'
  simp only [Array.toList_setIfInBounds, Array.toList_append]
  rw [List.set_append_left _ _ (by simpa using hlt), List.set_set]
theorem bare_app {a b : Array GenState} (ha : AllBare a) (hb : AllBare b) : AllBare (a ++ b) := fun y hy => by
  rcases Array.mem_append.mp hy with h | h
  · exact ha y h
  · exact hb y h
theorem bare_set {a : Array GenState} {g : Nat} {x : GenState} (ha : AllBare a) (hx : x.bare = true) : AllBare (a.setIfInBounds g x) := fun y hy => by
  obtain ⟨i, hi, e⟩ := Array.mem_iff_getElem.mp hy
  rw [Array.getElem_setIfInBounds] at e
  · split at e
    · rw [← e]; exact hx
    · rw [← e]; exact ha _ (Array.getElem_mem _)
  · simpa using hi
theorem rev_at {l : List Int} {m : Nat} {x : Int} (h : l.reverse[m]? = some x) : m < l.length ∧ l[l.length - (m + 1)]? = some x := by
  have hlt : m < l.length := by
    have := List.getElem?_eq_some_iff.mp h
    obtain ⟨q, _⟩ := this
    simpa using q
  refine ⟨hlt, ?_⟩
  rw [List.getElem?_reverse hlt] at h
  rwa [show l.length - (m + 1) = l.length - 1 - m from by omega]
section
variable {prog : Program} {w : World} {A : Around} {E : Value → Shared → Prop}
theorem gen_loop {R : Result → Shared → Prop} {G S : Addr} {H : Addr → Prop} {gno : Nat} {l : List Int} {hb : Heap} (hh : A.handled = none) (hroom : A.depth < recursionLimit) (hr : ∀ n ∈ l, 0 ≤ n ∧ n < 256) (hz : l.length ≤ sizeLine) (hlim : hb.NoLimit)
    (hbS : hb.get? S = none) (hHb : ∀ b o, hb.get? b = some o → H b) (hSG : G ≠ S) (hGL : H G) (hSL : H S) :
    ∀ (n : Nat) (s : Shared) (gs : GenState), n ≤ l.length → (∀ b o, hb.get? b = some o → s.heap.get? b = some o) → s.heap.IsGen G gno → s.gens[gno]? = some gs →
      s.heap.get? S = some { cls := .type "bytearray", data := .bytearray (byteArr (l.take (l.length - n))) } →
      gs.Goes (model prog w) A.in1.in1 (RR H) (YY l H S) n (.send .none) (s.setGen gno .running) →
      (∀ h' t k g', (∀ b o, H b → b ≠ S → s.heap.get? b = some o → h'.get? b = some o) → (∃ ext, g' = (s.setGen gno .finished).gens ++ ext ∧ AllBare ext) → R (.ok (.ret (.bytes (byteArr l) t))) { s with heap := h', gens := g', toks := k }) →
      codeAny (model prog w) A (.builtin "bytes.__new__.loop" ⟨[.type "bytes", .ref G, .ref S], []⟩) R s := by
  intro n
  induction n with
  | zero =>
    intro s gs hn hkb hg hgs hS hgo hR
    have hlt : gno < s.gens.size := (Array.getElem?_eq_some_iff.mp hgs).1
    refine codeAny_builtin F.bm_entry_loop ?_
    rw [Around.under_plainId F.bm_plain_loop _]
    show wpAny _ A.in1 (pyNext (.ref G) >>= _) _ _ s
    refine wpAny_bind (wpAny_pyNext_gen hh (hlim.keeps hkb) hroom hg hgs hgo ?_ ?_)
    · rintro v s₁ gs' ⟨x, t, hx, rfl, hk, hkap⟩
      exact (hkap s₁ ⟨fun _ _ _ e => e, rfl, rfl, rfl, ⟨_, hk.heap _ _ hSL hS⟩⟩).elim
    · rintro s₁ ⟨-, hk⟩ h' hh'
      obtain ⟨ext, hext, hbare⟩ := hk.gens
      have hS' : h'.get? S = some { cls := .type "bytearray", data := .bytearray (byteArr (l.take (l.length - 0))) } := hh' _ _ (hk.heap _ _ hSL hS)
      refine wpAny_bind ?_
      unfold Builtin.Bytes.payload Builtin.Bytes.payload?
      refine wpAny_bind (wpAny_bind (wpAny_load hS' ?_))
      refine wpAny_pure (wpAny_pure ?_)
      rw [Nat.sub_zero, List.take_length]
      refine wpAny_bind (wpAny_mkBytes ?_ (by rw [byteArr_size]; exact hz))
      show wpAny _ _ (if (Value.type "bytes" == Value.type "bytes") = true then _ else _) _ _ _
      refine bm_if_true (by decide) ?_
      have key := hR h' (s₁.setGen gno .finished).toks (((s₁.setGen gno .finished).toks) + 1) (s₁.setGen gno .finished).gens (fun b o hb hb' e => hh' _ _ (hk.heap _ _ hb e)) ⟨ext, by
        simp only [Shared.setGen] at hext ⊢
        rw [hext, gens_over hlt], hbare⟩
      have e : ({ s with heap := h', gens := (s₁.setGen gno .finished).gens, toks := (s₁.setGen gno .finished).toks + 1 } : Shared) = { (s₁.setGen gno .finished) with heap := h', toks := (s₁.setGen gno .finished).toks + 1 } := by
        have d := hk.drawn
        have o := hk.os
        simp only [Shared.setGen] at d o ⊢
        rw [d, o]
      rw [e] at key
      first
        | exact wpAny_pure key
        | exact wpAny_bind (wpAny_pure (wpAny_pure key))
  | succ m ih =>
    intro s gs hn hkb hg hgs hS hgo hR
    have hlt : gno < s.gens.size := (Array.getElem?_eq_some_iff.mp hgs).1
    refine codeAny_builtin F.bm_entry_loop ?_
    rw [Around.under_plainId F.bm_plain_loop _]
    show wpAny _ A.in1 (pyNext (.ref G) >>= _) _ _ s
    refine wpAny_bind (wpAny_pyNext_gen hh (hlim.keeps hkb) hroom hg hgs hgo ?_ ?_)
    · rintro v s₁ gs' ⟨x, t, hx, rfl, hk, hkap⟩
      obtain ⟨ext, hext, hbare⟩ := hk.gens
      obtain ⟨hm, hx⟩ := rev_at (show l.reverse[m]? = some x from hx)
      have hS' : (s₁.setGen gno gs').heap.get? S = some { cls := .type "bytearray", data := .bytearray (byteArr (l.take (l.length - (m + 1)))) } := hk.heap _ _ hSL hS
      obtain ⟨h0, h1⟩ := hr x (List.mem_of_getElem? hx)
      refine wpAny_bind (wpAny_holding (wpAny_of_eq (rfl : asIndex (.int x t) = pure x) ?_))
      refine wpAny_bind (wpAny_letGo ?_)
      refine bm_if_false (by simp only [Bool.or_eq_false_iff, decide_eq_false_iff_not]; omega) ?_
      refine wpAny_bind ?_
      show wpAny _ _ (updateBytearray S (·.push x.toNat.toUInt8)) _ _ _
      unfold updateBytearray
      refine wpAny_bind (wpAny_load hS' ?_)
      show wpAny _ _ (update S (Obj.mapBytearray (·.push x.toNat.toUInt8)) >>= fun _ => lookBehind S) _ _ _
      refine wpAny_bind (wpAny_update hS' ?_)
      have hS₂ : ((s₁.setGen gno gs').heap.update S (Obj.mapBytearray (·.push x.toNat.toUInt8))).get? S = some { cls := .type "bytearray", data := .bytearray (byteArr (l.take (l.length - m))) } := by
        rw [show l.length - m = (l.length - (m + 1)) + 1 from by omega, byteArr_take hx]
        exact Heap.get?_update_self (Obj.mapBytearray (·.push x.toNat.toUInt8)) hS' rfl
      have hoth : ∀ b o, b ≠ S → s₁.heap.get? b = some o → ((s₁.setGen gno gs').heap.update S (Obj.mapBytearray (·.push x.toNat.toUInt8))).get? b = some o := fun b o hb e =>
        (Heap.get?_update_other _ _ (Ne.symm hb)).trans e
      refine wpAny_lookBehind hS₂ ?_ ?_
      · show (if (byteArr (l.take (l.length - m))).size > sizeLine then some "bytearray:memory" else none) = none
        rw [if_neg]
        rw [byteArr_size, List.length_take]
        omega
      · refine wpAny_pure ⟨plainId_quiet F.bm_plain_loop _, ih { (s₁.setGen gno gs') with heap := (s₁.setGen gno gs').heap.update S (Obj.mapBytearray (·.push x.toNat.toUInt8)) } gs' (by omega) ?_ ?_ ?_ hS₂ ?_ fun h3 t' k' g3 hk3 hg3 => ?_⟩
        · intro b o e
          refine hoth b o (fun q => ?_) (hk.heap b o (hHb b o e) (hkb b o e))
          rw [q, hbS] at e; cases e
        · obtain ⟨o, nm, qn, ho, r⟩ := hg
          exact ⟨o, nm, qn, hoth _ _ hSG (hk.heap _ _ hGL ho), r⟩
        · refine gens_set (gs := .running) (gens_kept (gens_set hgs) hext)
        · refine hkap _ ⟨hoth, ?_, rfl, rfl, ⟨_, hS₂⟩⟩
          have e1 := gens_kept (gens_set (x := .running) hgs) hext
          simp only [Shared.setGen]
          rw [Array.setIfInBounds_setIfInBounds]
          exact Array.ext_getElem? fun i => by
            rw [Array.getElem?_setIfInBounds]
            split
            · rename_i q; subst q; rw [e1]; split
              · rfl
              · rename_i q; exact absurd (Array.getElem?_eq_some_iff.mp e1).1 q
            · rfl
        · have key := hR h3 t' k' g3 (fun b o hb hb' e => hk3 b o hb hb' (hoth b o hb' (hk.heap b o hb e))) (by
            obtain ⟨ext', he', hb'⟩ := hg3
            refine ⟨ext ++ ext', ?_, bare_app hbare hb'⟩
            rw [he']
            simp only [Shared.setGen] at hext ⊢
            rw [Array.setIfInBounds_setIfInBounds, hext, gens_over hlt, Array.append_assoc])
          have e : ({ s with heap := h3, gens := g3, toks := k' } : Shared) = { s₁.setGen gno gs' with heap := h3, gens := g3, toks := k' } := by
            have d := hk.drawn
            have o := hk.os
            simp only [Shared.setGen] at d o ⊢
            rw [d, o]
          rw [e] at key
          exact key
    · rintro s₁ ⟨q, -⟩
      cases q
end
theorem gn_no_bytes : typeLookup (.type "generator") "__bytes__" = pure none := by rw [typeLookup_type, builtinLookup_eq_fast]; kernel_rfl
theorem gn_no_index : typeLookup (.type "generator") "__index__" = pure none := by rw [typeLookup_type, builtinLookup_eq_fast]; kernel_rfl
theorem gn_no_buffer : typeLookup (.type "generator") "__buffer__" = pure none := by rw [typeLookup_type, builtinLookup_eq_fast]; kernel_rfl
theorem gn_no_len : typeLookup (.type "generator") "__len__" = pure none := by rw [typeLookup_type, builtinLookup_eq_fast]; kernel_rfl
theorem gn_no_hint : typeLookup (.type "generator") "__length_hint__" = pure none := by rw [typeLookup_type, builtinLookup_eq_fast]; kernel_rfl
/-- what a consumer looks at: what stood before its store, and its store -/
def Seen (h : Heap) (Lg S b : Addr) : Prop := b ≠ Lg ∧ ((∃ o, h.get? b = some o) ∨ b = S)
/-- a generator made and not yet begun: what it will give, whoever takes it -/
structure Ready (prog : Program) (w : World) (A : Around) (G : Addr) (l : List Int) (h₀ : Heap) (L : Addr) (m : Str → Option Value) (news : List (Addr × Obj)) (g₀ : Array GenState) (dr : Drawn) (os : OsState) (h : Heap) (g : Array GenState) : Prop where
  get : ∃ (hc : Heap) (c : Code) (Lg : Addr), Fr h₀ L hc m ∧ News h₀ L hc news ∧ (∀ b o, hc.get? b = some o → h.get? b = some o) ∧ hc.get? Lg = none ∧ (∃ o, h.get? Lg = some o) ∧ G ≠ Lg ∧
    h.IsGen G g₀.size ∧ g = g₀.push (.fresh c) ∧
    ∀ S s₂, h.get? S = none → (∀ b o, h.get? b = some o → s₂.heap.get? b = some o) → s₂.heap.get? S = some { cls := .type "bytearray", data := .bytearray #[] } → s₂.gens = g₀.push .running → s₂.drawn = dr → s₂.os = os →
      (GenState.fresh c).Goes (model prog w) A (RR (Seen h Lg S)) (YY l (Seen h Lg S) S) l.length (.send .none) s₂
section
variable {prog : Program} {w : World} {A : Around} {E : Value → Shared → Prop} {s : Shared}
theorem gen_new {G : Addr} {l : List Int} {h₀ : Heap} {L : Addr} {m : Str → Option Value} {news : List (Addr × Obj)} {g₀ : Array GenState} {Q : Value → Shared → Prop} (hh : A.handled = none) (hroom : A.depth < recursionLimit) (hlim : h₀.NoLimit)
    (hr : ∀ n ∈ l, 0 ≤ n ∧ n < 256) (hz : l.length ≤ sizeLine) (Y : Ready prog w A.in1.in1 G l h₀ L m news g₀ s.drawn s.os s.heap s.gens)
    (hQ : ∀ h' t k g', Fr h₀ L h' m → News h₀ L h' news → (∃ ext, g' = g₀ ++ ext ∧ AllBare ext) → Q (.bytes (byteArr l) t) { s with heap := h', gens := g', toks := k }) :
    codeAny (model prog w) A (.call (.builtin "bytes.__new__") ⟨[.type "bytes", .ref G], []⟩) (wants Q E) s := by
  obtain ⟨hc, c, Lg, FF, N, hkc, hLc, ⟨oL, hoL⟩, hGL, hg, hgs, hgo⟩ := Y.get
  refine codeAny_of_tree ?_
  show wpAny _ A.in1 (do checkBuiltinCall "bytes.__new__" ⟨[.type "bytes", .ref G], []⟩; again (.builtin "bytes.__new__" ⟨[.type "bytes", .ref G], []⟩)) _ _ s
  refine wpAny_bind (wpAny_of_eq (F.bm_newCall _) (wpAny_pure ⟨plainId_quiet F.bm_plain _, codeAny_builtin F.bm_entry ?_⟩))
  rw [Around.under_plainId F.bm_plain _]
  have hT : s.TypeIs (.ref G) "generator" := hg.typeIs
  obtain ⟨og, nm, qn, hog, hoc, hod, hos⟩ := id hg
  unfold Builtin.«bytes.__new__»
  refine wpAny_bind (wpAny_of_eq (a := true) rfl ?_)
  refine bm_if_false rfl ?_
  refine wpAny_bind (wpAny_of_eq F.bm_sub ?_)
  refine bm_if_false rfl ?_
  refine wpAny_bind (wpAny_of_eq (F.bm_bind _) ?_)
  refine wpAny_bind (wpAny_of_eq (a := ()) rfl ?_)
  refine wpAny_bind (wpAny_of_eq (a := ()) rfl ?_)
  refine bm_if_false rfl ?_
  refine wpAny_bind (wpAny_specialOf hT gn_no_bytes ?_)
  refine wpAny_bind (wpAny_bind ?_)
  show wpAny _ _ (load G >>= _) _ _ _
  refine wpAny_bind (wpAny_load hog ?_)
  rw [hod]
  refine wpAny_pure (wpAny_pure ?_)
  refine bm_if_false rfl ?_
  refine wpAny_bind (wpAny_specialOf hT gn_no_index ?_)
  refine bm_if_true rfl ?_
  first
    | show wpAny _ _ (Builtin.Bytes.buffer? "bytes.__new__" (.ref G) true >>= _) _ _ _
    | (refine wpAny_bind ?_; show wpAny _ _ (Builtin.Bytes.buffer? "bytes.__new__" (.ref G) true >>= _) _ _ _)
  refine wpAny_bind ?_
  unfold Builtin.Bytes.buffer?
  refine wpAny_bind (wpAny_specialOf hT gn_no_buffer ?_)
  refine wpAny_bind (wpAny_specialOf hT gn_no_buffer ?_)
  refine wpAny_pure ?_
  refine wpAny_bind (wpAny_tryCatch (wpAny_pyIter_gen hg ?_))
  refine wpAny_bind (wpAny_holding ?_)
  unfold Builtin.Bytes.lengthHint
  refine wpAny_bind (wpAny_specialOf hT gn_no_len ?_)
  dsimp only
  refine bm_if_false rfl ?_
  refine bm_if_false rfl ?_
  refine wpAny_bind (wpAny_specialOf hT gn_no_hint ?_)
  refine wpAny_pure ?_
  refine wpAny_bind ?_
  unfold Builtin.Bytes.newBytearray
  refine wpAny_newObj_type ?_ (Nat.zero_le _)
  have hnew : s.heap.get? s.heap.objs.size = none := by
    cases q : s.heap.get? s.heap.objs.size with
    | none => rfl
    | some o => exact absurd (Heap.lt_size q) (Nat.lt_irrefl _)
  have nS : ∀ b o, s.heap.get? b = some o → b ≠ s.heap.objs.size := fun b o e q => by rw [q, hnew] at e; cases e
  have nL : ∀ b o, hc.get? b = some o → b ≠ Lg := fun b o e q => by rw [q, hLc] at e; cases e
  have hlt : g₀.size < s.gens.size := by rw [hgs]; simp
  have hgs' : s.gens[g₀.size]? = some (.fresh c) := by rw [hgs]; simp
  have hrun : (s.gens.setIfInBounds g₀.size .running) = g₀.push .running := by
    rw [hgs]
    apply Array.ext_getElem?
    intro i
    rw [Array.getElem?_setIfInBounds, Array.getElem?_push, Array.getElem?_push]
    by_cases q : g₀.size = i
    · subst q; simp
    · simp [q, Ne.symm q]
  have hfin : (s.gens.setIfInBounds g₀.size .finished) = g₀ ++ #[GenState.finished] := by
    rw [hgs, Array.append_singleton]
    apply Array.ext_getElem?
    intro i
    rw [Array.getElem?_setIfInBounds, Array.getElem?_push, Array.getElem?_push]
    by_cases q : g₀.size = i
    · subst q; simp
    · simp [q, Ne.symm q]
  have main := gen_loop (prog := prog) (w := w) (A := A) (R := wants Q E) (G := G) (S := s.heap.objs.size) (H := Seen s.heap Lg s.heap.objs.size) (gno := g₀.size) (l := l) (hb := h₀) hh hroom hr hz hlim
    (by cases q : h₀.get? s.heap.objs.size with
        | none => rfl
        | some o => rw [hkc _ _ (FF.keep _ _ q)] at hnew; cases hnew)
    (fun b o e => ⟨nL _ _ (FF.keep _ _ e), .inl ⟨o, hkc _ _ (FF.keep _ _ e)⟩⟩)
    (nS _ _ hog) ⟨hGL, .inl ⟨_, hog⟩⟩ ⟨Ne.symm (nS _ _ hoL), .inr rfl⟩
    l.length { s with heap := s.heap.push { cls := .type "bytearray", data := .bytearray #[] } } (.fresh c) (Nat.le_refl _) (fun b o e => Heap.get?_push_of_some _ (hkc _ _ (FF.keep _ _ e))) (hg.push _) hgs'
    (by rw [Nat.sub_self]; exact Heap.get?_push_size _ rfl)
    (hgo _ _ hnew (fun b o e => Heap.get?_push_of_some _ e) (Heap.get?_push_size _ rfl) (by simpa only [Shared.setGen] using hrun) rfl rfl)
    fun h' t k g' hk' hg' => by
      have hall : ∀ b o, hc.get? b = some o → h'.get? b = some o := fun b o e => hk' b o ⟨nL b o e, .inl ⟨o, hkc b o e⟩⟩ (nS b o (hkc b o e)) (Heap.get?_push_of_some _ (hkc b o e))
      have F' : Fr h₀ L h' m := by
        obtain ⟨o, a1, a2, h1, h2⟩   := FF.ns
        exact ⟨⟨o, a1, a2, hall _ _ h1, h2⟩, fun b o e => hall b o (FF.keep b o e), FF.above⟩
      refine hQ h' t k g' F' (fun p hp => ⟨hall _ _ (N p hp).1, (N p hp).2⟩) ?_
      obtain ⟨ext, he, hb⟩ := hg'
      refine ⟨#[.finished] ++ ext, ?_, bare_app (fun y hy => by simp at hy; subst hy; rfl) hb⟩
      rw [he]
      simp only [Shared.setGen]
      rw [hfin, Array.append_assoc]
  first
    | exact wpAny_pure ⟨plainId_quiet F.bm_plain_loop _, main⟩
    | exact wpAny_pure (wpAny_pure ⟨plainId_quiet F.bm_plain_loop _, main⟩)
/-- bytes(generator) -/
theorem bytes_gen {G : Addr} {l : List Int} {h₀ : Heap} {L : Addr} {m : Str → Option Value} {news : List (Addr × Obj)} {g₀ : Array GenState} {Q : Value → Shared → Prop} (hh : A.handled = none) (hroom : A.depth < recursionLimit) (hlim : h₀.NoLimit)
    (hr : ∀ n ∈ l, 0 ≤ n ∧ n < 256) (hz : l.length ≤ sizeLine) (Y : Ready prog w A.in1.in1.in1 G l h₀ L m news g₀ s.drawn s.os s.heap s.gens)
    (hQ : ∀ h' t k g' b', KBw.bInts b' = l → Fr h₀ L h' m → News h₀ L h' news → (∃ ext, g' = g₀ ++ ext ∧ AllBare ext) → Q (.bytes b' t) { s with heap := h', gens := g', toks := k }) :
    wpAny (model prog w) A (call (.type "bytes") [.ref G]) Q E s := by
  refine callType_codes (Q₁ := fun obj s₁ => s₁.TypeIs obj "bytes" ∧ Q obj s₁) F.bm_called (F.bm_typeCall _) F.entry_object_init
    (gen_new (A := A.in1) hh hroom hlim hr hz Y fun h' t k g' F' N' hg' => ⟨PySem.W.typeIs_bytes _ _ _, hQ h' t k g' _ (KBa.ints_make hr) F' N' hg'⟩) fun obj s₁ h₁ => ?_
  exact ⟨h₁.1, F.args_object_init_2 obj _, object_init_meets F.bm_called.init.lookup F.bm_called.made (by decide) prog w A.in1 _ s₁ ⟨h₁.1, rfl, h₁.2⟩⟩
end
theorem yf_entry : entryFor table "proto.yield_from" = some Builtin.«proto.yield_from» := entryFor_of_tree (by kernel_rfl)
theorem den_of {id : String} {b : Builtin} (prog : Program) (w : World) (args : Args) (hb : entryFor table id = some b) : (model prog w).den (.builtin id args) = b args := by
  show (match entryFor table id with | some b => b args | none => unsupported ((withoutEnding? id "#data").getD id)) = _
  rw [hb]
theorem yf_den (prog : Program) (w : World) (args : Args) : (model prog w).den (.builtin "proto.yield_from" args) = Builtin.«proto.yield_from» args := den_of prog w args yf_entry
theorem wpAny_slept {M : Model} {A : Around} {E : Value → Shared → Prop} {s : Shared} {I : Addr} {o : Obj} {m : Bool} {Q : Unit → Shared → Prop} (ho : s.heap.get? I = some o) (hc : o.cls = .type "bytes_iterator") (h : Q () s) : wpAny M A (Builtin.Generator.sleptOver (.ref I) m) Q E s := by
  unfold Builtin.Generator.sleptOver
  refine wpAny_bind (wpAny_load ho ?_)
  rw [hc]
  exact bm_if_true (by decide) (wpAny_pure h)
theorem yf_quiet (args : Args) : (Code.builtin "proto.yield_from" args).quiet = true := plainId_quiet (by decide +kernel) args
theorem bi_no_close : typeLookup (.type "bytes_iterator") "close" = pure none := by rw [typeLookup_type, builtinLookup_eq_fast]; kernel_rfl
theorem stop_type : typeLookup (.type "type") "__subclasscheck__" = typeLookup (.type "type") "__subclasscheck__" := rfl
theorem KeptBy.trans {H : Addr → Prop} {a b c : Shared} (x : KeptBy H a b) (y : KeptBy H b c) : KeptBy H a c := by
  obtain ⟨e1, h1, b1⟩ := x.gens
  obtain ⟨e2, h2, b2⟩ := y.gens
  exact ⟨fun q o hq e => y.heap q o hq (x.heap q o hq e), ⟨e1 ++ e2, by rw [h2, h1, Array.append_assoc], bare_app b1 b2⟩, y.drawn.trans x.drawn, y.os.trans x.os⟩
theorem KeptBy.refl {H : Addr → Prop} (a : Shared) : KeptBy H a a := ⟨fun _ _ _ e => e, ⟨#[], by simp, fun _ h => by simp at h⟩, rfl, rfl⟩
theorem KeptBy.same {H : Addr → Prop} {a b : Shared} (h : ∀ q o, H q → a.heap.get? q = some o → b.heap.get? q = some o) (g : b.gens = a.gens) (d : b.drawn = a.drawn) (o : b.os = a.os) : KeptBy H a b :=
  ⟨h, ⟨#[], by simp [g], fun _ h => by simp at h⟩, d, o⟩
theorem out_of {x : Int} {c : UInt8} {b : Array UInt8} {i : Nat} (h : b[i]? = some c) (hx : (KBw.bInts b)[i]? = some x) : x = (c.toNat : Int) := by
  rw [KBw.ints_get h] at hx
  exact (Option.some.inj hx).symm
section
variable {prog : Program} {w : World} {A : Around} {E : Value → Shared → Prop}
theorem yf_loop {l : List Int} {H : Addr → Prop} {S I : Addr} {b : Array UInt8} {t : Tok} {k : Result → Sem Fin} {lv : List Value} {c₀ : Code} {p : Pos} {n : Nat}
    (hh : A.handled = none) (hI : ¬ H I) (hIS : I ≠ S) :
    ∀ (r i : Nat) (s₀ s : Shared), b.size = i + r → KBw.IsBytesIter s.heap I b t i → KeptBy H s₀ s → (∀ j, j < r → l.reverse[n + (r - 1 - j)]? = (KBw.bInts b)[i + j]?) →
      (∀ s₀' s', KeptBy H s₀' s' → (∀ q o, q ≠ S → q ≠ I → s.heap.get? q = some o → s'.heap.get? q = some o) → (r ≠ 0 → ∃ o, s₀'.heap.get? S = some o) → (r = 0 → s₀' = s₀) → Seg (model prog w) A (RR H) (YY l H S) n s₀' c₀ (k (.ok (.ret .none))) [] s') →
      Seg (model prog w) A (RR H) (YY l H S) (n + r) s₀ (.builtin "proto.yield_from" ⟨[.ref I, .bool false, .none], []⟩) ((model prog w).den (.builtin "proto.yield_from" ⟨[.ref I, .bool false, .none], []⟩)) [.ret k none false lv c₀ p []] s := by
  have hh' : ∀ c, (A.over c [.ret k none false lv c₀ p []]).handled = none := fun c => by
    show (marksOver [Frame.ret k none false lv c₀ p []] (A.handled, A.handled)).1 = none
    rw [hh]; rfl
  intro r
  induction r with
  | zero =>
    intro i s₀ s hi hit hk _ hcont
    rw [yf_den]
    unfold Builtin.«proto.yield_from»
    refine seg_bind (wpAny_of_eq (a := Value.none) rfl ?_)
    refine seg_bind (wpAny_attempt (wpAny_holding ?_))
    refine bm_if_false rfl (bm_if_true rfl (wpAny_bind (wpAny_rule (wpAny_bind ?_))))
    obtain ⟨o, ho, hc, hd⟩ := id hit
    refine wpAny_callSpecial?_slot (name := PySem.Str.ofString "__next__") (KBw.iter_typeIs hit) KBw.slot_next
      (wpAny_call_entry KBw.slot_next (KBw.iter_typeIs hit) KBw.entry_next ?_ (KBw.args_next _))
    show wpAny _ _ (field (.ref I) 0 >>= _) _ _ s
    refine wpAny_bind (wpAny_field ho hd (x := .bytes b t) rfl ?_)
    show wpAny _ _ (if (Value.bytes b t == Value.none) = true then _ else _) _ _ s
    rw [if_neg (show ¬ ((Value.bytes b t == Value.none) = true) from Bool.false_ne_true)]
    show wpAny _ _ (field (.ref I) 1 >>= _) _ _ s
    refine wpAny_bind (wpAny_field ho hd (x := .int i 0) rfl ?_)
    refine wpAny_bind (wpAny_of_eq (a := b) rfl ?_)
    have hx : b[i]? = none := by simp; omega
    simp only [Int.toNat_natCast, hx]
    refine wpAny_bind (wpAny_rule (wpAny_bind (wpAny_setField ho hd (by simp) ?_)))
    show wpAny _ _ (newExc (.type "StopIteration") [] >>= _) _ _ _
    refine wpAny_bind ?_
    simp only [newExc, newTuple]
    refine wpAny_bind (wpAny_newObj_type ?_ (by size_fits))
    refine wpAny_bind (m := firstArgMember _ _) (wpAny_of_eq (a := Value.none) (by first | rfl | (simp only [firstArgMember]; rfl)) ?_)
    refine wpAny_newObj_type ?_ (by size_fits)
    simp only [raiseNew]
    refine wpAny_bind (wpAny_handled ?_)
    rw [show ((A.over (.builtin "proto.yield_from" ⟨[.ref I, .bool false, .none], []⟩) [Frame.ret k none false lv c₀ p []]).in1).handled = none from hh' (.builtin "proto.yield_from" ⟨[.ref I, .bool false, .none], []⟩)]
    refine wpAny_bind (wpAny_pure (wpAny_throw ?_))
    refine seg_bind ?_
    unfold Builtin.Generator.endsTheTurnAsAValue Builtin.Generator.isStopAndMetaclass
    refine wpAny_bind (wpAny_bind (wpAny_typeOf (T := "StopIteration") ⟨_, Heap.get?_push_size _ rfl, rfl⟩ ?_))
    refine wpAny_bind (wpAny_of_eq isSubtype_stop ?_)
    refine wpAny_bind (wpAny_of_eq (a := .type "type") rfl ?_)
    refine wpAny_pure (wpAny_pure ?_)
    rw [if_pos rfl, if_neg Bool.false_ne_true]
    refine seg_bind (wpAny_rule ?_)
    refine seg_bind (wpAny_field (Heap.get?_push_size _ rfl) rfl (x := .none) rfl ?_)
    have hkeep : ∀ q o', q ≠ I → s.heap.get? q = some o' → (((s.heap.update I (Obj.mapFields fun x => x.setIfInBounds 0 Value.none)).push { cls := Value.type "tuple", data := Data.seq #[] }).push
          { cls := Value.type "StopIteration", data := Data.fields (#[Value.ref (s.heap.update I (Obj.mapFields fun x => x.setIfInBounds 0 Value.none)).objs.size, Value.none, Value.none, Value.none, Value.bool false, Value.none] ++ ownMembersOf (Value.type "StopIteration") []) }).get? q = some o' := fun q o' hq e =>
      Heap.get?_push_of_some _ (Heap.get?_push_of_some _ ((Heap.get?_update_other _ _ (Ne.symm hq)).trans e))
    refine seg_leaf (.ok (.ret .none)) (hcont s₀ _ (hk.trans (.same (fun q o' hq e => hkeep q o' (fun z => hI (z ▸ hq)) e) rfl rfl rfl)) (fun q o' _ hq e => hkeep q o' hq e) (fun z => absurd rfl z) fun _ => rfl)
  | succ r ih =>
    intro i s₀ s hi hit hk hl hcont
    rw [yf_den]
    unfold Builtin.«proto.yield_from»
    refine seg_bind (wpAny_of_eq (a := Value.none) rfl ?_)
    refine seg_bind (wpAny_attempt (wpAny_holding ?_))
    refine bm_if_false rfl (bm_if_true rfl (wpAny_bind (wpAny_rule (wpAny_bind ?_))))
    obtain ⟨o, ho, hc, hd⟩ := id hit
    refine wpAny_callSpecial?_slot (name := PySem.Str.ofString "__next__") (KBw.iter_typeIs hit) KBw.slot_next
      (wpAny_call_entry KBw.slot_next (KBw.iter_typeIs hit) KBw.entry_next ?_ (KBw.args_next _))
    show wpAny _ _ (field (.ref I) 0 >>= _) _ _ s
    refine wpAny_bind (wpAny_field ho hd (x := .bytes b t) rfl ?_)
    show wpAny _ _ (if (Value.bytes b t == Value.none) = true then _ else _) _ _ s
    rw [if_neg (show ¬ ((Value.bytes b t == Value.none) = true) from Bool.false_ne_true)]
    show wpAny _ _ (field (.ref I) 1 >>= _) _ _ s
    refine wpAny_bind (wpAny_field ho hd (x := .int i 0) rfl ?_)
    refine wpAny_bind (wpAny_of_eq (a := b) rfl ?_)
    have hx : b[i]? = some (b[i]'(by omega)) := by simp
    simp only [Int.toNat_natCast, hx]
    have hg' : (s.heap.update I (Obj.mapFields fun x => x.setIfInBounds 1 (rawInt (↑i + 1)))).get? I = some (Obj.mapFields (fun x => x.setIfInBounds 1 (rawInt (↑i + 1))) o) := Heap.get?_update_self _ ho (Obj.isFreed_of_fields (Obj.data_mapFields hd _))
    have hc' : (Obj.mapFields (fun x => x.setIfInBounds 1 (rawInt (↑i + 1))) o).cls = .type "bytes_iterator" := (Obj.cls_mapFields ..).trans hc
    have hd' : (Obj.mapFields (fun x => x.setIfInBounds 1 (rawInt (↑i + 1))) o).data = .fields #[.bytes b t, .int ((i + 1 : Nat) : Int) 0] := by rw [Obj.data_mapFields hd]; simp [rawInt]
    have hkeep : ∀ q o', q ≠ I → s.heap.get? q = some o' → (s.heap.update I (Obj.mapFields fun x => x.setIfInBounds 1 (rawInt (↑i + 1)))).get? q = some o' := fun q o' hq e => (Heap.get?_update_other _ _ (Ne.symm hq)).trans e
    have hT' : (⟨s.heap.update I (Obj.mapFields fun x => x.setIfInBounds 1 (rawInt (↑i + 1))), s.gens, s.drawn, s.toks + 1, s.os⟩ : Shared).TypeIs (.ref I) "bytes_iterator" := ⟨_, hg', hc'⟩
    refine wpAny_bind (wpAny_setField ho hd (by simp) (wpAny_bind (wpAny_mkInt (wpAny_pure ⟨_, rfl, wpAny_pure ?_⟩))))
    refine seg_bind (wpAny_typeOf (T := "bytes_iterator") hT' ?_)
    refine seg_bind (wpAny_of_eq bi_no_close ?_)
    refine seg_bind (wpAny_pure ?_)
    refine seg_bind (wpAny_slept hg' hc' ?_)
    refine seg_yield (n := n + r) (v := .int _ _) (g := false) (l := []) rfl rfl rfl ?_
    refine ⟨_, _, ?_, rfl, hk.trans (.same (fun q o' hq e => hkeep q o' (fun z => hI (z ▸ hq)) e) rfl rfl rfl), fun s₂ ht => ?_⟩
    · have h0 : l.reverse[n + r]? = (KBw.bInts b)[i]? := hl 0 (by omega)
      rw [KBw.ints_get hx] at h0
      exact h0
    have hI₂ := ht.heap I _ hIS hg'
    refine seg_bind (wpAny_pure ?_)
    refine seg_bind (wpAny_slept hI₂ hc' ?_)
    refine seg_bind (wpAny_of_eq (a := .none) rfl ?_)
    refine seg_again (yf_quiet _) (ih (i + 1) s₂ s₂ (by omega) ⟨_, hI₂, hc', hd'⟩ (.refl _) (fun j hj => ?_) fun s₀' s' h1 h2 h3 h4 => hcont s₀' s' h1 (fun q o' hq hq' e => h2 q o' hq hq' (ht.heap q o' hq (hkeep q o' hq' e))) (fun _ => ?_) fun z => nomatch z)
    · have hj' := hl (j + 1) (by omega)
      rw [show i + 1 + j = i + (j + 1) from by omega, ← hj', show n + (r + 1 - 1 - (j + 1)) = n + (r - 1 - j) from by omega]
    · by_cases z : r = 0
      · rw [h4 z]; exact ht.there
      · exact h3 z
end
def GH (env : Env) (e : Value) : Sem Fin := (leaving env e : Sem Unit).wrap (fun _ => .raise e) .raise id id
/-- a generator's statements, from a resume at s₀ -/
def GSeg (prog : Program) (w : World) (A : Around) (l : List Int) (H : Addr → Prop) (S : Addr) (body : List Stmt) (env : Env) (n : Nat) (s₀ s : Shared) (K : Flow → Sem Fin) (stmts : List Stmt) : Prop :=
  Seg (model prog w) A (RR H) (YY l H S) n s₀ (.func body env) ((execs stmts env).wrap K (GH env) id id) [] s
def GK (rest : List Stmt) (env : Env) (K : Flow → Sem Fin) : Flow → Sem Fin := fun f => match f with | .next => (execs rest env).wrap K (GH env) id id | f => K f
def G0 : Flow → Sem Fin := fun f => .pure (.done (.ret (match f with | .ret v => v | _ => .none)))
section
variable {prog : Program} {w : World} {A : Around} {l : List Int} {H : Addr → Prop} {S : Addr} {body : List Stmt} {env : Env} {n : Nat} {s₀ s : Shared} {K : Flow → Sem Fin} {rest : List Stmt}
theorem g_end (h : KeptBy H s₀ s) : GSeg prog w A l H S body env 0 s₀ s G0 [] := seg_end (.ok (.ret .none)) ⟨rfl, rfl, h⟩
theorem g_nil (h : GSeg prog w A l H S body env n s₀ s K rest) : GSeg prog w A l H S body env n s₀ s (GK rest env K) [] := h
theorem g_stmt {st : Stmt} (h : wpAny (model prog w) (A.over (.func body env) []) (exec st env) (fun f s' => f = .next ∧ GSeg prog w A l H S body env n s₀ s' K rest) (fun _ _ => False) s) :
    GSeg prog w A l H S body env n s₀ s K (st :: rest) := by
  refine seg_execs_cons (seg_wrap (wpAny_mono h (fun f s' h' => ?_) fun _ _ q => q.elim))
  obtain ⟨rfl, h'⟩ := h'
  exact h'
theorem g_yield {e : PySem.Expr} {ypos pos : Pos} (hco : env.scope.isCoroutine = false) (hi : interactive env = false)
    (h : wpAny (model prog w) (A.over (.func body env) []) (eval e env) (fun v s' => ∃ x t, v = .int x t ∧ l.reverse[n]? = some x ∧ KeptBy H s₀ s' ∧ ∀ s₂, TouchedAt S s' s₂ → GSeg prog w A l H S body env n s₂ s₂ K rest) (fun _ _ => False) s) :
    GSeg prog w A l H S body env (n + 1) s₀ s K (.Expr (.Yield (some e) ypos) pos :: rest) := by
  refine seg_execs_cons (seg_Expr_Yield rfl rfl rfl (wpAny_mono h (fun v s' h' => ?_) fun _ _ q => q.elim) hco hi)
  obtain ⟨x, t, rfl, h1, h2, h3⟩ := h'
  exact fun kap hkap => ⟨x, t, h1, rfl, h2, fun s₂ ht => hkap .none s₂ (h3 s₂ ht)⟩
theorem g_if {test : PySem.Expr} {yes no : List Stmt} {pos : Pos}
    (h : wpAny (model prog w) (A.over (.func body env) []) (isTrue test env (eval test env)) (fun b s' => GSeg prog w A l H S body env n s₀ s' (GK rest env K) (if b = true then yes else no)) (fun _ _ => False) s) :
    GSeg prog w A l H S body env n s₀ s K (.If test yes no pos :: rest) := by
  refine seg_execs_cons ?_
  rw [exec_If]
  show Seg _ _ _ _ _ _ _ (.at pos fun _ => ((isTrue test env (eval test env)) >>= fun b => if b = true then execs yes env else execs no env).wrap (GK rest env K) (GH env) id id) _ _
  refine seg_at ?_
  rw [Sem.bind_eq_wrap', Sem.wrap_wrap]
  refine seg_wrap (wpAny_mono h (fun b s' h' => ?_) fun _ _ q => q.elim)
  cases b with
  | true => exact h'
  | false => exact h'
theorem g_from {e : PySem.Expr} {ypos pos : Pos} {N : Nat} (hi : interactive env = false) (hA : A.handled = none)
    (h : wpAny (model prog w) (A.over (.func body env) []) (eval e env) (fun v s' => ∃ b t, v = .bytes b t ∧ N = n + b.size ∧ KeptBy H s₀ s' ∧ (∃ o, s₀.heap.get? S = some o) ∧ (∃ o, s'.heap.get? S = some o) ∧ ¬ H s'.heap.objs.size ∧ (∀ j, j < b.size → l.reverse[n + (b.size - 1 - j)]? = (KBw.bInts b)[j]?) ∧
      ∀ s₀' s₂, KeptBy H s₀' s₂ → (∀ q o, q ≠ S → s'.heap.get? q = some o → s₂.heap.get? q = some o) → (∃ o, s₀'.heap.get? S = some o) → GSeg prog w A l H S body env n s₀' s₂ K rest) (fun _ _ => False) s) :
    GSeg prog w A l H S body env N s₀ s K (.Expr (.YieldFrom e ypos) pos :: rest) := by
  refine seg_execs_cons ?_
  rw [exec_Expr env _ pos hi rfl]
  show Seg _ _ _ _ _ _ _ (.at pos fun _ => ((eval e env >>= fun v => (standAt ypos >>= fun _ => yieldFrom env v)) >>= fun x => dropValue (.YieldFrom e ypos) pos x).wrap (GK rest env K) (GH env) id id) _ _
  refine seg_at ?_
  rw [Sem.bind_eq_wrap', Sem.bind_eq_wrap', Sem.wrap_wrap, Sem.wrap_wrap]
  refine seg_wrap (wpAny_mono h (fun v s' h' => ?_) fun _ _ q => q.elim)
  obtain ⟨b, t, rfl, rfl, h2, hS₀, ⟨oS, hS⟩, hI, hl, h3⟩ := h'
  show Seg _ _ _ _ _ _ _ (.at ypos fun _ => ((holding [.bytes b t] (pyIter (.bytes b t)) : Sem Value) >>= fun it => runValue (.builtin "proto.yield_from" ⟨[it, .bool false, .none], []⟩)).wrap (fun a => (dropValue (.YieldFrom e ypos) pos a).wrap (GK rest env K) (GH env) id id) (GH env) id id) _ _
  refine seg_at ?_
  rw [Sem.bind_eq_wrap', Sem.wrap_wrap]
  refine seg_wrap (wpAny_holding (KBw.pyIter_bytes ?_))
  have hSI : s'.heap.objs.size ≠ S := fun z => absurd (Heap.lt_size hS) (by rw [z]; exact Nat.lt_irrefl _)
  refine seg_call fun p => ?_
  refine yf_loop (n := n) (I := s'.heap.objs.size) (b := b) (t := t) hA hI hSI b.size 0 s₀ _ (by omega) ⟨_, Heap.get?_push_size _ rfl, rfl, rfl⟩ (h2.trans (.same (fun q o _ e => Heap.get?_push_of_some _ e) rfl rfl rfl)) (fun j hj => ?_) fun s₀' s₂ k1 k2 k3 k4 => ?_
  · rw [Nat.zero_add]; exact hl j hj
  · refine h3 s₀' s₂ k1 (fun q o hq e => k2 q o hq (fun z => ?_) (Heap.get?_push_of_some _ e)) ?_
    · rw [z] at e; exact absurd (Heap.lt_size e) (Nat.lt_irrefl _)
    · by_cases z : b.size = 0
      · rw [k4 z]; exact hS₀
      · exact k3 z
end
/-- a generator's frame, as it stands at a resume -/
structure PInv (hc h : Heap) (Lg S : Addr) (m : Str → Option Value) (s : Shared) : Prop where
  F : Fr hc Lg s.heap m
  there : ∃ o, s.heap.get? S = some o
  old : ∀ b o, b ≠ Lg → h.get? b = some o → s.heap.get? b = some o
  sh : h.get? S = none
  sl : S ≠ Lg
  sc : ∀ b o, hc.get? b = some o → h.get? b = some o
section
variable {hc h : Heap} {Lg S : Addr} {m m' : Str → Option Value} {s s₀ s₂ : Shared}
theorem PInv.at (P : PInv hc h Lg S m s) (e : s₂.heap = s.heap) : PInv hc h Lg S m s₂ := by
  obtain ⟨a, b, c, d, e1, e2⟩ := P
  exact ⟨e ▸ a, e ▸ b, e ▸ c, d, e1, e2⟩
theorem PInv.later (P : PInv hc h Lg S m s) (hk : ∀ q o, q ≠ S → s.heap.get? q = some o → s₂.heap.get? q = some o) (ht : ∃ o, s₂.heap.get? S = some o) : PInv hc h Lg S m s₂ := by
  obtain ⟨o, a1, a2, h1, h2⟩ := P.F.ns
  have nS : ∀ b o, h.get? b = some o → b ≠ S := fun b o e z => by rw [z, P.sh] at e; cases e
  exact ⟨⟨⟨o, a1, a2, hk _ _ (Ne.symm P.sl) h1, h2⟩, fun b o e => hk b o (nS b o (P.sc b o e)) (P.F.keep b o e), P.F.above⟩, ht, fun b o hb e => hk b o (nS b o e) (P.old b o hb e), P.sh, P.sl, P.sc⟩
theorem PInv.touch {s₁ : Shared} (P : PInv hc h Lg S m s) (ht : TouchedAt S s₁ s₂) (e : s₁.heap = s.heap) : PInv hc h Lg S m s₂ := (P.at (s₂ := s₁) e).later ht.heap ht.there
theorem PInv.after (P : PInv hc h Lg S m s) (hk : KeptBy (Seen h Lg S) s₀ s₂) (hq : ∀ q o, q ≠ S → s.heap.get? q = some o → s₂.heap.get? q = some o) (ht : ∃ o, s₀.heap.get? S = some o) : PInv hc h Lg S m s₂ :=
  P.later hq (let ⟨o, e⟩ := ht; ⟨o, hk.heap _ _ ⟨P.sl, .inr rfl⟩ e⟩)
theorem PInv.fresh (P : PInv hc h Lg S m s) : ¬ Seen h Lg S s.heap.objs.size := fun ⟨h1, h2⟩ => by
  rcases h2 with ⟨o, e⟩ | e
  · exact absurd (Heap.lt_size (P.old _ _ h1 e)) (Nat.lt_irrefl _)
  · obtain ⟨o, e'⟩ := P.there
    rw [← e] at e'
    exact absurd (Heap.lt_size e') (Nat.lt_irrefl _)
theorem PInv.step (P : PInv hc h Lg S m s) (F' : Fr hc Lg s₂.heap m') (hk : ∀ b o, b ≠ Lg → s.heap.get? b = some o → s₂.heap.get? b = some o) : PInv hc h Lg S m' s₂ :=
  ⟨F', let ⟨o, e⟩ := P.there; ⟨o, hk _ _ P.sl e⟩, fun b o hb e => hk b o hb (P.old b o hb e), P.sh, P.sl, P.sc⟩
theorem kept_same {h' : Heap} {k : Tok} (hk : ∀ b o, b ≠ Lg → s.heap.get? b = some o → h'.get? b = some o) : KeptBy (Seen h Lg S) s ⟨h', s.gens, s.drawn, k, s.os⟩ := .same (fun b o hb e => hk b o hb.1 e) rfl rfl rfl
theorem kept_gen {h' : Heap} {g' : Array GenState} {k : Tok} (hk : ∀ b o, b ≠ Lg → s.heap.get? b = some o → h'.get? b = some o) (hg : ∃ ext, g' = s.gens ++ ext ∧ AllBare ext) : KeptBy (Seen h Lg S) s ⟨h', g', s.drawn, k, s.os⟩ := ⟨fun b o hb e => hk b o hb.1 e, hg, rfl, rfl⟩
theorem ext_trans {a b c : Array GenState} (h1 : ∃ ext, b = a ++ ext ∧ AllBare ext) (h2 : ∃ ext, c = b ++ ext ∧ AllBare ext) : ∃ ext, c = a ++ ext ∧ AllBare ext := by
  obtain ⟨e1, rfl, b1⟩ := h1
  obtain ⟨e2, rfl, b2⟩ := h2
  exact ⟨e1 ++ e2, by rw [Array.append_assoc], bare_app b1 b2⟩
/-- all that stands beside a frame -/
def others (hc : Heap) (Lg : Addr) (h : Heap) : List (Addr × Obj) := (List.range h.objs.size).filterMap fun b => if b = Lg then none else match hc.get? b, h.get? b with | none, some o => some (b, o) | _, _ => none
theorem others_mem {hc h : Heap} {Lg b : Addr} {o : Obj} : (b, o) ∈ others hc Lg h ↔ b ≠ Lg ∧ hc.get? b = none ∧ h.get? b = some o := by
  unfold others
  rw [List.mem_filterMap]
  constructor
  · rintro ⟨a, -, e⟩
    split at e
    · cases e
    · rename_i hne
      split at e
      · rename_i o' h1 h2
        cases e
        exact ⟨hne, h1, h2⟩
      · cases e
  · rintro ⟨h1, h2, h3⟩
    refine ⟨b, List.mem_range.mpr (Heap.lt_size h3), ?_⟩
    rw [if_neg h1, h2, h3]
theorem PInv.news (P : PInv hc h Lg S m s) : ∃ ns, News hc Lg s.heap ns ∧ ∀ (m' : Str → Option Value) h', Fr hc Lg h' m' → News hc Lg h' ns → ∀ b o, b ≠ Lg → s.heap.get? b = some o → h'.get? b = some o := by
  refine ⟨others hc Lg s.heap, fun p hp => ?_, fun m' h' F' N' b o hb e => ?_⟩
  · obtain ⟨b, o⟩ := p
    obtain ⟨h1, h2, h3⟩ := others_mem.mp hp
    exact ⟨h3, h1, h2⟩
  · cases q : hc.get? b with
    | none => exact (N' (b, o) (others_mem.mpr ⟨hb, q, e⟩)).1
    | some o' =>
      have := P.F.keep b o' q
      rw [e] at this
      cases this
      exact F'.keep b o q
theorem kept_of (hk : ∀ b o, b ≠ Lg → s.heap.get? b = some o → s₂.heap.get? b = some o) (hg : ∃ ext, s₂.gens = s.gens ++ ext ∧ AllBare ext) (hd : s₂.drawn = s.drawn) (ho : s₂.os = s.os) : KeptBy (Seen h Lg S) s s₂ :=
  ⟨fun b o hb e => hk b o hb.1 e, hg, hd, ho⟩
end
theorem over_eq {dp un : Nat} {gd : Option (List Code)} {cn : Str} {cs : Scope} {L a : Addr} {ccd : Value} {cl : List (Str × Addr)} {outer : List Env} {body : List Stmt} {env : Env} :
    (ktrTop dp un gd cn cs L a ccd cl outer).in1.in1.in1.over (.func body env) [] = (ktrTop dp (un + 3) gd cn cs L a ccd cl outer).deeper env := rfl
section
variable {prog : Program} {w : World} {A₀ A : Around} {E : Value → Shared → Prop} {s : Shared} {base h₀ : Heap} {outer : List Env} {L : Addr} {m : Str → Option Value} {ns : List (Addr × Obj)} {K : Frag} {p : Program} {loose : List Str} {mean : ExcName → Option Value} {mg mb : Str → Option Value}
theorem gen_call {env : Env} {Q : Value → Shared → Prop} {name qual : Str} {params : Arguments} {body : List Stmt} {scope : Scope} {dV kV doc pm cdv ct oc : Value} {an od : Option Addr} {osl : Array (Option Value)} {f : Addr} {vs : List Value} {binds : List (Str × Value)} {l : List Int}
    (B : Below A₀ base outer h₀) (F : Fr h₀ L s.heap m) (X₀ : K.In h₀) (N : News h₀ L s.heap ns) (T : Top p loose mean mg mb h₀) (hA : A.frames = some (env :: outer)) (hf : env.frame = some L) (hke : env.scope.kind = .function)
    (ho : K.lookup f = some ⟨oc, od, .func (fnOf name qual params body scope dV kV doc pm an cdv ct), osl⟩) (hcd : codeIn K cdv qual = true) (hroom : A.depth < recursionLimit)
    (hbind : BindsTo s (fnOf name qual params body scope dV kV doc pm an cdv ct) ⟨vs, []⟩ binds) (hloc : ∀ y ∈ binds, scope.names.lookup y.1 = some .local)
    (hseg : ∀ Lg h S s₂, Below A base (env :: outer) s.heap → K.In s.heap → Top p loose mean mg mb s.heap → PInv s.heap h Lg S (fun y => binds.reverse.lookup y) s₂ →
      GSeg prog w A.in1.in1.in1 l (Seen h Lg S) S body (envOf qual scope Lg f cdv) l.length s₂ s₂ G0 body)
    (hQ : ∀ G h' g' tk, Ready prog w A.in1.in1.in1 G l h₀ L m ns s.gens s.drawn s.os h' g' → Fr h₀ L h' m → News h₀ L h' ns → Q (.ref G) { s with heap := h', gens := g', toks := tk })
    (hco : scope.isCoroutine = false) (hgen : scope.isGenerator = true) (hk : scope.kind = .function)
    (hcell : ∀ x ∈ scope.names, x.2 ≠ .cell) : wpAny (model prog w) A (call (.ref f) vs) Q E s := by
  have B₁ := pushX B F hf hke
  refine wpAny_call (codeAny_call_generator hroom ((X₀.keeps F.keep) _ _ ho) rfl hco hgen rfl (codeRec_of (X₀.keeps F.keep) hcd) (hbind _ _ _ _ ?_))
  refine wpAny_newFunctionEnv hcell hloc (fun h₁ hns hsb => ⟨(T.nolimit.keeps F.keep).fresh _ hsb, ?_⟩) hk
  have k1 : ∀ b o, s.heap.get? b = some o → h₁.get? b = some o := fun b o e => hsb.extBut b o (Nat.ne_of_lt (Heap.lt_size e)) (Heap.get?_push_of_some _ e)
  have k2 := fun (x : Obj) b o e => Heap.get?_push_of_some x (k1 b o e)
  obtain ⟨oL, e1, e2, hL, hL2⟩ := id hns
  have hLn : s.heap.get? s.heap.objs.size = none := by
    cases q : s.heap.get? s.heap.objs.size with
    | none => rfl
    | some o => exact absurd (Heap.lt_size q) (Nat.lt_irrefl _)
  have F' : ∀ x : Obj, Fr h₀ L (h₁.push x) m := fun x => by
    obtain ⟨o, a1, a2, q1, q2⟩ := F.ns
    exact ⟨⟨o, a1, a2, k2 x _ _ q1, q2⟩, fun b o e => k2 x b o (F.keep b o e), F.above⟩
  have N' : ∀ x : Obj, News h₀ L (h₁.push x) ns := fun x p hp => ⟨k2 x _ _ (N p hp).1, (N p hp).2⟩
  refine hQ _ _ _ _ ⟨s.heap, .func body (envOf qual scope s.heap.objs.size f cdv), s.heap.objs.size, F, N, k2 _, hLn, ⟨oL, Heap.get?_push_of_some _ hL⟩, Nat.ne_of_gt (Heap.lt_size hL), ⟨_, _, _, Heap.get?_push_size _ rfl, rfl, rfl, rfl⟩, rfl, fun S s₂ hS hk₂ hS₂ _ _ _ => ⟨rfl, seg_func (hseg _ _ S s₂ ⟨hA, B₁.stays, B₁.frames⟩ (X₀.keeps F.keep) (T.keeps F.keep) ⟨⟨⟨oL, e1, e2, hk₂ _ _ (Heap.get?_push_of_some _ hL), hL2⟩, fun b o e => hk₂ b o (k2 _ b o e), Nat.le_refl _⟩, ⟨_, hS₂⟩, fun b o _ e => hk₂ b o e, hS, ?_, k2 _⟩)⟩⟩ (F' _) (N' _)
  exact fun z => by rw [z, Heap.get?_push_of_some _ hL] at hS; cases hS
end
end
section
open PySem PySem.W PyProof.Rows
theorem words_C4 : True := by
  w_top off
  k_with "to_while" => repeat' (first | ((fail_if_success (with_reducible show wpAny _ _ (exec (Stmt.While _ _ _ _) _) _ _ _)); (first | (k_unfold; (try dsimp only)) | (k_end; wrow_close) | walk1 | (dsimp only; walk1) | (leave1; try dsimp only))) | fail "no step")
  k_with "my call type:bytes" => (k_here; (with_reducible show wpAny _ _ (call (Value.type "bytes") [Value.ref _]) _ _ _); k_dflt (refine' make_bytes ?kbaF ?kbaN ?kbah ?kbal ?kbai ?kbar ?kban ?_; (case kbaF => k_asm); (case kbaN => k_asm); (case kbah => rfl); (case kbal => kba_isList); (case kbai => kba_listInts); (case kbar => first | by_in | ((simp only [List.forall_mem_cons, List.not_mem_nil, false_implies, implies_true, and_true, List.length_append, List.length_cons, List.length_nil, List.length_take, List.length_drop]); omega)); (case kban => kba_size)); intro h' t' k' b' F' N' hb'; (try k_sweep))
  k_with "my call builtin:int.to_bytes" => (k_here; (with_reducible show wpAny _ _ (call (Value.builtin "int.to_bytes") [Value.int _ _, Value.int _ _, Value.str _ _]) _ _ _); first | (refine to_be (Nat.le_trans (isz_le (by assumption) (by assumption)) (by decide)) (isz_ne (by assumption)) (by assumption) (isz_fits (by assumption)) ?_) | (refine to_be (Nat.le_trans (isz_le (by assumption) (by assumption)) (by decide)) (isz_eq (by assumption)) (by assumption) (isz_fits (by assumption)) ?_); intro _ _ _ hob)
  k_with "my call ref" => (k_here; (with_reducible show wpAny _ _ (call (Value.ref 28) [Value.int _ _]) _ _ _); k_dflt (refine' Claim.use (bint_ok _ _ _ _ ?cua ?cub) ?k1 ?k2 ?k3 ?k4 ?k5 ?kK ?kd ?ku ?_; (case cua => assumption); (case cub => assumption); (case k1 => k_asm); (case k2 => k_asm); (case k3 => k_asm); (case k4 => k_asm); (case k5 => k_asm); (case kK => first | exact rfl | assumption); (case kd => ktr_room); (case ku => ktr_units); k_whole; intro b' t' h' tk' hb' F' N'; (try dsimp only); (try k_sweep)))
  k_with "my_gen" => (refine' gen_call ?k1 ?k2 ?k3 ?k4 ?k5 ?kA ?kF ?kK ?k6 ?k7 ?k8 ?k9 ?kB ?seg ?fin ?c2 ?c3 ?c4 ?c5; (case kA => exact rfl); (case kF => exact rfl); (case kK => first | exact rfl | assumption); (case k1 => k_asm); (case k2 => k_asm); (case k3 => k_asm); (case k4 => k_asm); (case k5 => k_asm); (case k6 => k_is); (case k7 => k_is); (case k8 => ktr_room); (case k9 => exact BindsTo.of_eq rfl); (case c5 => decide); (case kB => exact locs rfl); (case c2 => exact rfl); (case c3 => exact rfl); (case c4 => exact rfl))
  trivial
def isz (n : Int) : Nat := if Builtin.Int.intBits n = 0 then 1 else (Builtin.Int.intBits n + 7) / 8
theorem isz_ne {n : Int} (h : Int.fdiv ((Builtin.Int.intBits n : Nat) + 7 : Int) 8 ≠ 0) : Int.fdiv ((Builtin.Int.intBits n : Nat) + 7 : Int) 8 = ((isz n : Nat) : Int) := by
  rw [Int.fdiv_eq_ediv_of_nonneg _ (by decide)] at h ⊢
  unfold isz
  split
  · rename_i e
    rw [e] at h
    exact absurd rfl h
  · omega
theorem isz_eq {n : Int} (h : Int.fdiv ((Builtin.Int.intBits n : Nat) + 7 : Int) 8 = 0) : (1 : Int) = ((isz n : Nat) : Int) := by
  rw [Int.fdiv_eq_ediv_of_nonneg _ (by decide)] at h
  unfold isz
  rw [if_pos (by omega)]
  rfl
theorem isz_fits {n : Int} (h0 : 0 ≤ n) : n < 256 ^ isz n := by
  have h := intBits_le_iff.mp (Nat.le_refl (Builtin.Int.intBits n))
  have h2 : 2 ^ Builtin.Int.intBits n ≤ 2 ^ (8 * isz n) := Nat.pow_le_pow_right (by decide) (by unfold isz; split <;> omega)
  rw [Nat.pow_mul] at h2
  rw [KTBy.p256]
  have e : (2 : Nat) ^ 8 = 256 := by decide
  rw [e] at h2
  omega
theorem isz_le {n : Int} (h0 : 0 ≤ n) (h1 : n < 2 ^ 256) : isz n ≤ 32 := by
  have h : Builtin.Int.intBits n ≤ 256 := intBits_le_iff.mpr (by omega)
  unfold isz
  split <;> omega
theorem bigs_succ (k : Nat) (x : Int) : bigs (k + 1) x = (x / 256 ^ k % 256) :: bigs k x := by
  unfold bigs
  rw [KTBy.little_eq, KTBy.little_eq, List.range_succ, List.map_append, List.reverse_append]
  rfl
theorem head_cast (N k : Nat) : ((N : Int) / 256 ^ k % 256) = ((N / 256 ^ k % 256 : Nat) : Int) := by
  rw [Int.natCast_emod, Int.natCast_ediv, Int.natCast_pow]
  rfl
theorem fold_value (ks : List Int) : ∀ a : Int, ks.foldl (fun a k => a * 256 + k) a = a * 256 ^ ks.length + KFB.value ks := by
  unfold KFB.value
  induction ks with
  | nil => intro a; simp
  | cons k r ih =>
    intro a
    rw [List.foldl_cons, List.foldl_cons, ih, ih (0 * 256 + k), List.length_cons, Int.pow_succ, Int.add_mul, Int.zero_mul, Int.zero_add, Int.mul_assoc, Int.mul_comm 256, Int.add_assoc]
theorem value_cons (k : Int) (ks : List Int) : KFB.value (k :: ks) = k * 256 ^ ks.length + KFB.value ks := by
  show List.foldl (fun a k => a * 256 + k) (0 * 256 + k) ks = _
  rw [fold_value, Int.zero_mul, Int.zero_add]
theorem value_bigs (N : Nat) : ∀ k : Nat, KFB.value (bigs k (N : Int)) = ((N % 256 ^ k : Nat) : Int)
  | 0 => by simp [bigs, KTBy.little, KFB.value, Nat.mod_one]
  | k + 1 => by
    rw [bigs_succ, value_cons, value_bigs N k, bigs_length, head_cast, Nat.pow_succ, Nat.mod_mul, KTBy.p256]
    rw [Int.natCast_add, Int.natCast_mul, Int.mul_comm, Int.add_comm]
theorem nat_of {n : Int} (h : 0 ≤ n) : ∃ N : Nat, n = (N : Int) := ⟨n.toNat, (Int.toNat_of_nonneg h).symm⟩
theorem value_octs {n : Int} (h0 : 0 ≤ n) : KFB.value (octs n) = n := by
  have hf := osz_fits h0
  obtain ⟨N, rfl⟩ := nat_of h0
  unfold octs
  rw [value_bigs, Nat.mod_eq_of_lt]
  rw [KTBy.p256] at hf
  omega
theorem bits_lt (N : Nat) : N < 2 ^ Builtin.Int.intBits (N : Int) := by
  have h := intBits_le_iff.mp (Nat.le_refl (Builtin.Int.intBits (N : Int)))
  rwa [Int.natAbs_natCast] at h
theorem bits_ge {N k : Nat} (h : k < Builtin.Int.intBits (N : Int)) : 2 ^ k ≤ N := by
  have h2 : ¬ Builtin.Int.intBits (N : Int) ≤ k := by omega
  rw [intBits_le_iff, Int.natAbs_natCast] at h2
  omega
theorem bits_gt {N k : Nat} (h : 2 ^ k ≤ N) : k < Builtin.Int.intBits (N : Int) := by
  have h2 : ¬ Builtin.Int.intBits (N : Int) ≤ k := by
    rw [intBits_le_iff, Int.natAbs_natCast]
    omega
  omega
theorem p2 (k : Nat) : (256 : Nat) ^ k = 2 ^ (8 * k) := by
  rw [Nat.pow_mul]
/-- a first octet of 128 or more, and what the encoder does of it -/
theorem isz_hi {n : Int} (h0 : 0 ≤ n) (h : 128 ≤ (bigs (isz n) n).getD 0 0) : osz n = isz n + 1 ∧ octs n = 0 :: bigs (isz n) n := by
  obtain ⟨N, rfl⟩ := nat_of h0
  have hp : isz (N : Int) ≠ 0 := by unfold isz; split <;> omega
  obtain ⟨k, hk⟩ : ∃ k, isz (N : Int) = k + 1 := ⟨isz (N : Int) - 1, by omega⟩
  rw [hk, bigs_succ, head_cast] at h
  have h1 : 128 ≤ N / 256 ^ k := by
    have h2 : 128 ≤ N / 256 ^ k % 256 := by
      have h3 : (128 : Int) ≤ ((N / 256 ^ k % 256 : Nat) : Int) := h
      omega
    exact Nat.le_trans h2 (Nat.mod_le _ _)
  have h4 : 2 ^ (8 * k + 7) ≤ N := by
    have := Nat.mul_le_of_le_div _ _ _ h1
    rw [p2] at this
    rw [Nat.pow_add, Nat.mul_comm]
    exact this
  have h5 := bits_gt h4
  have h6 : Builtin.Int.intBits (N : Int) ≤ 8 * (k + 1) := by
    unfold isz at hk
    split at hk <;> omega
  have h7 : osz (N : Int) = isz (N : Int) + 1 := by
    unfold osz
    omega
  refine ⟨h7, ?_⟩
  unfold octs
  rw [h7, bigs_succ, head_cast, Nat.div_eq_of_lt]
  · rfl
  · have := bits_lt N
    rw [p2, hk]
    exact Nat.lt_of_lt_of_le this (Nat.pow_le_pow_right (by decide) h6)
theorem isz_lo {n : Int} (h0 : 0 ≤ n) (h : (bigs (isz n) n).getD 0 0 < 128) : osz n = isz n ∧ octs n = bigs (isz n) n := by
  obtain ⟨N, rfl⟩ := nat_of h0
  have hp : isz (N : Int) ≠ 0 := by unfold isz; split <;> omega
  obtain ⟨k, hk⟩ : ∃ k, isz (N : Int) = k + 1 := ⟨isz (N : Int) - 1, by omega⟩
  rw [hk, bigs_succ, head_cast] at h
  have h3 : ((N / 256 ^ k % 256 : Nat) : Int) < 128 := h
  have h6 : Builtin.Int.intBits (N : Int) ≤ 8 * (k + 1) := by
    unfold isz at hk
    split at hk <;> omega
  have hlt : N / 256 ^ k < 256 := by
    have := bits_lt N
    have h8 : N < 256 ^ (k + 1) := by
      rw [p2]
      exact Nat.lt_of_lt_of_le this (Nat.pow_le_pow_right (by decide) h6)
    rw [Nat.pow_succ] at h8
    exact Nat.div_lt_of_lt_mul h8
  rw [Nat.mod_eq_of_lt hlt] at h3
  have h9 : N < 2 ^ (8 * k + 7) := by
    have : N < 256 ^ k * 128 := (Nat.div_lt_iff_lt_mul (Nat.pow_pos (by decide))).mp (show N / 256 ^ k < 128 by omega) |> fun q => by rwa [Nat.mul_comm] at q
    rw [p2] at this
    rw [Nat.pow_add]
    exact this
  have h10 : Builtin.Int.intBits (N : Int) ≤ 8 * k + 7 := intBits_le_iff.mpr (by rw [Int.natAbs_natCast]; exact h9)
  have h7 : osz (N : Int) = isz (N : Int) := by
    unfold isz at hk ⊢
    unfold osz
    split at hk <;> split <;> omega
  refine ⟨h7, ?_⟩
  unfold octs
  rw [h7]
theorem bint_ok (w : World) (n : Int) (tk : Tok) (news : List (Addr × Obj)) (h0 : 0 ≤ n) (h1 : n < 2 ^ 256) :
    Claim w 28 [.int n tk] news 2 2 fun h₀ L m s Q => ∀ b t h' tk', KBw.bInts b = bigs (isz n) n → Fr h₀ L h' m → News h₀ L h' news → Q (.bytes b t) { s with heap := h', toks := tk' } := by
  unfold Claim
  intro prog mean mg mb dp un gd cn cs a ccd cl outer A₀ base h₀ L m s Q E B F X N T hk hd hu hret
  refine wpAny_call ?_
  k_dflt (walk_at "my_enter")
  k_steps
  all_goals exact hret _ _ _ _ (by assumption) (by k_asm) (by k_asm)
theorem rev_i {l : List Int} {k i : Nat} (h : k + 1 + i = l.length) : l.reverse[k]? = l[i]? := by
  rw [List.getElem?_reverse (by omega)]
  congr 1
  omega
abbrev ClaimG (w : World) (f : Addr) (vs : List Value) (l : List Int) (ns : List (Addr × Obj)) (d u : Nat) : Prop :=
  ∀ (prog : Program) (mean : ExcName → Option Value) (mg mb : Str → Option Value) (dp un : Nat) (gd : Option (List Code)) (cn : Str) (cs : Scope) (a : Addr) (ccd : Value) (cl : List (Str × Addr)) (outer : List Env) (A₀ : Around) (base h₀ : Heap) (L : Addr) (m : Str → Option Value) (s : Shared) (Q E : Value → Shared → Prop),
    Below A₀ base outer h₀ → Fr h₀ L s.heap m → (hd.heap_39 w.params).In h₀ → News h₀ L s.heap ns → Top hd.view_39 (looseW hd.view_39 []) mean mg mb h₀ → cs.kind = .function → dp + d < recursionLimit → un + 8 * u < cLine →
    (∀ G h' g' tk, Ready prog w (ktrTop dp un gd cn cs L a ccd cl outer).in1.in1.in1 G l h₀ L m ns s.gens s.drawn s.os h' g' → Fr h₀ L h' m → News h₀ L h' ns → Q (.ref G) { s with heap := h', gens := g', toks := tk }) →
    wpAny (model prog w) (ktrTop dp un gd cn cs L a ccd cl outer) (call (.ref f) vs) Q E s
theorem geni_ok (w : World) (n : Int) (tk : Tok) (ns : List (Addr × Obj)) (h0 : 0 ≤ n) (h1 : n < 2 ^ 256) :
    ClaimG w 49 [.int n tk] (2 :: ((octs n).length : Int) :: octs n) ns 4 4 := by
  unfold ClaimG
  intro prog mean mg mb dp un gd cn cs a ccd cl outer A₀ base h₀ L m s Q E B F X N T hk hd hu hret
  walk_at "my_gen"
  case fin => exact hret
  case seg =>
    intro Lg h S s₂ B' X' T' P'
    clear hret N F B X T
    have hl : (2 :: ((octs n).length : Int) :: octs n).length = (osz n + 1) + 1 := by
      show (octs n).length + 1 + 1 = _
      rw [show (octs n).length = osz n from bigs_length _ _]
    rw [hl]
    refine g_yield rfl rfl ?_
    rw [over_eq]
    k_steps
    · exact (rev_i (i := 0) (by rw [hl])).trans rfl
    · exact .same (fun _ _ _ e => e) rfl rfl rfl
    rename_i s₃ ht
    have P₃ := P'.touch ht rfl
    clear P' ht
    obtain ⟨nw, N, hall⟩ := P₃.news
    have F := P₃.F
    refine g_stmt ?_
    rw [over_eq]
    k_steps
    · trivial
    rename_i h4 F4 N4
    have P₄ := P₃.step (s₂ := ⟨h4, s₃.gens, s₃.drawn, s₃.toks, s₃.os⟩) F4 (hall _ _ F4 N4)
    have hkeep := hall _ _ F4 N4
    have hlen : (bigs (isz n) n).length = isz n := bigs_length _ _
    have hle := isz_le h0 h1
    have hpos : (0 : Int) < ((bigs (isz n) n).length : Int) := by
      rw [hlen]
      unfold isz
      split <;> omega
    clear P₃ hall
    refine g_if ?_
    rw [over_eq]
    k_steps
    dsimp only
    have hbl : b'.size = isz n := by rw [← KBw.ints_length, hb', hlen]
    have hol : (octs n).length = osz n := bigs_length _ _
    by_cases hc : 128 ≤ (bigs (isz n) n).getD (Int.toNat 0) 0
    · obtain ⟨q1, q2⟩ := isz_hi h0 hc
      rw [if_pos (decide_eq_true hc), q1]
      refine g_yield rfl rfl ?_
      rw [over_eq]
      k_steps
      · rw [rev_i (i := 1) (by rw [hl]; omega)]
        show some ((octs n).length : Int) = _
        rw [hol, hlen, q1]
        rfl
      · exact kept_same hkeep
      rename_i s₅ ht
      have P₅ := P₄.touch ht rfl
      refine g_yield rfl rfl ?_
      rw [over_eq]
      k_steps
      · rw [rev_i (i := 2) (by rw [hl]; omega), q2]
        rfl
      · exact .same (fun _ _ _ e => e) rfl rfl rfl
      rename_i s₆ ht₆
      have P₆ := P₅.touch ht₆ rfl
      refine g_nil (g_from (n := 0) rfl rfl ?_)
      refine ld P₆.F rfl ⟨b', t', rfl, by rw [hbl, Nat.zero_add], .refl _, P₆.there, P₆.there, P₆.fresh, fun j hj => ?_, fun s₈ s₉ k1 k2 k3 => g_end k1⟩
      rw [rev_i (i := 3 + j) (by rw [hl]; omega), q2, hb', show 3 + j = j + 1 + 1 + 1 from by omega]
      rfl
    · obtain ⟨q1, q2⟩ := isz_lo h0 (by have := Int.not_le.mp hc; exact this)
      rw [if_neg (by rw [decide_eq_false hc]; decide), q1]
      refine g_yield rfl rfl ?_
      rw [over_eq]
      k_steps
      · rw [rev_i (i := 1) (by rw [hl]; omega)]
        show some ((octs n).length : Int) = _
        rw [hol, hlen, q1]
      · exact kept_same hkeep
      rename_i s₆ ht₆
      have P₆ := P₄.touch ht₆ rfl
      refine g_nil (g_from (n := 0) rfl rfl ?_)
      refine ld P₆.F rfl ⟨b', t', rfl, by rw [hbl, Nat.zero_add], .refl _, P₆.there, P₆.there, P₆.fresh, fun j hj => ?_, fun s₈ s₉ k1 k2 k3 => g_end k1⟩
      rw [rev_i (i := 2 + j) (by rw [hl]; omega), q2, hb', show 2 + j = j + 1 + 1 from by omega]
      rfl
end
section
open PySem PySem.W PyProof.Rows
theorem words_D14 : True := by
  w_top off
  k_with "gl_range" => exact geni_in (by assumption) (by assumption)
  k_with "gl_size" => exact geni_sz (by assumption) (by assumption)
  k_with "my call ref" => (k_here; (with_reducible show wpAny _ _ (call (Value.ref 49) [Value.int _ _]) _ _ _); k_dflt (refine' ClaimG.use (geni_ok _ _ _ _ ?cua ?cub) ?k1 ?k2 ?k3 ?k4 ?k5 ?kK ?kd ?ku ?_; (case cua => assumption); (case cub => assumption); (case k1 => k_asm); (case k2 => k_asm); (case k3 => k_asm); (case k4 => k_asm); (case k5 => k_asm); (case kK => first | exact rfl | assumption); (case kd => ktr_room); (case ku => ktr_units); k_whole; intro G' h' g' tk' Y' F' N'; (try dsimp only)))
  k_with "my call type:bytes" => (k_here; (with_reducible show wpAny _ _ (call (Value.type "bytes") [Value.ref _]) _ _ _); (with_reducible rename Ready _ _ _ _ _ _ _ _ _ _ _ _ _ _ => Y'); k_dflt (refine' bytes_gen ?kh ?kr ?kl ?ki ?kz Y' ?_; (case kh => rfl); (case kr => ktr_room); (case kl => exact Top.nolimit (by k_asm)); (case ki => walk_at "gl_range"); (case kz => walk_at "gl_size"); k_whole; intro h' t' k' g' b' hb' F' N' hg'; clear Y'; (try dsimp only); (try k_sweep)))
  trivial
theorem ClaimG.use {prog : Program} {w : World} {f : Addr} {vs : List Value} {l : List Int} {news : List (Addr × Obj)} {d u : Nat}
    {mean : ExcName → Option Value} {mg mb : Str → Option Value} {dp un : Nat} {gd : Option (List Code)} {cn : Str} {cs : Scope} {a : Addr} {ccd : Value} {cl : List (Str × Addr)} {outer : List Env} {A₀ : Around} {base h₀ : Heap} {L : Addr} {m : Str → Option Value} {s : Shared} {Q E : Value → Shared → Prop}
    (C : ClaimG w f vs l news d u) (B : Below A₀ base outer h₀) (F : Fr h₀ L s.heap m) (X : (hd.heap_39 w.params).In h₀) (N : News h₀ L s.heap news) (T : Top hd.view_39 (looseW hd.view_39 []) mean mg mb h₀) (hk : cs.kind = .function) (hdp : dp + d < recursionLimit) (hun : un + 8 * u < cLine)
    (ret : ∀ G h' g' tk, Ready prog w (ktrTop dp un gd cn cs L a ccd cl outer).in1.in1.in1 G l h₀ L m news s.gens s.drawn s.os h' g' → Fr h₀ L h' m → News h₀ L h' news → Q (.ref G) { s with heap := h', gens := g', toks := tk }) : wpAny (model prog w) (ktrTop dp un gd cn cs L a ccd cl outer) (call (.ref f) vs) Q E s :=
  C prog mean mg mb dp un gd cn cs a ccd cl outer A₀ base h₀ L m s Q E B F X N T hk hdp hun ret
theorem bigs_in (k : Nat) (x : Int) : ∀ y ∈ bigs k x, 0 ≤ y ∧ y < 256 := by
  intro y hy
  unfold bigs at hy
  rw [KTBy.little_eq] at hy
  obtain ⟨i, -, rfl⟩ := List.mem_map.mp (List.mem_reverse.mp hy)
  omega
theorem octs_in (n : Int) : ∀ y ∈ octs n, 0 ≤ y ∧ y < 256 := bigs_in _ _
theorem octs_len (n : Int) : (octs n).length = osz n := bigs_length _ _
theorem geni_in {n : Int} (h0 : 0 ≤ n) (h1 : n < 2 ^ 256) : ∀ y ∈ 2 :: ((octs n).length : Int) :: octs n, 0 ≤ y ∧ y < 256 := by
  intro y hy
  have := osz_le h0 h1
  have := octs_len n
  rcases List.mem_cons.mp hy with rfl | hy
  · decide
  rcases List.mem_cons.mp hy with rfl | hy
  · omega
  · exact octs_in n y hy
theorem geni_sz {n : Int} (h0 : 0 ≤ n) (h1 : n < 2 ^ 256) : (2 :: ((octs n).length : Int) :: octs n).length ≤ sizeLine := by
  have := osz_le h0 h1
  have := octs_len n
  rw [List.length_cons, List.length_cons, sizeLine_eq]
  omega
/-- the text of two numbers' octets, by X.690 -/
def der (ks ls : List Int) : List Int := 48 :: ((ks.length + ls.length + 4 : Nat) : Int) :: (2 :: (ks.length : Int) :: ks ++ 2 :: (ls.length : Int) :: ls)
theorem gene_ok (w : World) (x y : Int) (tx ty : Tok) (ns : List (Addr × Obj)) (h0 : 0 ≤ x) (h1 : x < 2 ^ 256) (h2 : 0 ≤ y) (h3 : y < 2 ^ 256) :
    ClaimG w 35 [.int x tx, .int y ty] (der (octs x) (octs y)) ns 8 8 := by
  unfold ClaimG
  intro prog mean mg mb dp un gd cn cs a ccd cl outer A₀ base h₀ L m s Q E B F X N T hk hd hu hret
  walk_at "my_gen"
  case fin => exact hret
  case seg =>
    intro Lg h S s₂ B' X' T' P'
    clear hret N F B X T
    have hox := octs_len x
    have hoy := octs_len y
    have hzx := osz_le h0 h1
    have hzy := osz_le h2 h3
    have hcx : (octs x).length ≤ 33 := by omega
    have hcy : (octs y).length ≤ 33 := by omega
    have hl : (der (octs x) (octs y)).length = (((0 + (osz y + 2)) + (osz x + 2)) + 1) + 1 := by
      unfold der
      simp only [List.length_cons, List.length_append, hox, hoy]
      omega
    rw [hl]
    refine g_yield rfl rfl ?_
    rw [over_eq]
    k_steps
    · rw [rev_i (i := 0) (by rw [hl])]
      rfl
    · exact .same (fun _ _ _ e => e) rfl rfl rfl
    rename_i s₃ ht
    have P₃ := P'.touch ht rfl
    clear P' ht
    obtain ⟨nw, N, hall⟩ := P₃.news
    have F := P₃.F
    refine g_stmt ?_
    rw [over_eq]
    k_steps
    · trivial
    with_reducible rename KBw.bInts _ = _ => hb₁
    with_reducible rename (∃ ext, _ = _ ++ ext ∧ AllBare ext) => hg₁
    dsimp only at hg₁ ⊢
    refine g_stmt ?_
    rw [over_eq]
    k_steps
    · trivial
    with_reducible rename KBw.bInts _ = _ => hb₂
    with_reducible rename (∃ ext, _ = _ ++ ext ∧ AllBare ext) => hg₂
    with_reducible rename Fr _ _ _ _ => F₅
    with_reducible rename News _ _ _ _ => N₅
    dsimp only at hg₂ ⊢
    have hg₃ := ext_trans hg₁ hg₂
    have hkeep := hall _ _ F₅ N₅
    have P₅ := P₃.step (s₂ := ⟨_, s₃.gens, s₃.drawn, s₃.toks, s₃.os⟩) F₅ hkeep
    refine g_yield rfl rfl ?_
    rw [over_eq]
    have hs₁ := congrArg List.length hb₁
    have hs₂ := congrArg List.length hb₂
    rw [KBw.ints_length] at hs₁ hs₂
    simp only [List.length_cons, hox, hoy] at hs₁ hs₂
    k_steps
    · rw [rev_i (i := 1) (by rw [hl])]
      show some (((octs x).length + (octs y).length + 4 : Nat) : Int) = _
      simp only [List.length_cons]
      congr 1
      omega
    · exact kept_gen hkeep hg₃
    rename_i s₆ ht
    have P₆ := P₅.touch ht rfl
    refine g_from (n := 0 + (osz y + 2)) rfl rfl ?_
    refine ld P₆.F rfl ⟨_, _, rfl, by rw [hs₁], .refl _, P₆.there, P₆.there, P₆.fresh, fun j hj => ?_, fun s₇ s₈ k1 k2 k3 => ?_⟩
    · rw [rev_i (i := j + 1 + 1) (by rw [hl]; omega), hb₁]
      show (2 :: ((octs x).length : Int) :: octs x ++ 2 :: ((octs y).length : Int) :: octs y)[j]? = _
      rw [List.getElem?_append_left (by simp only [List.length_cons]; omega)]
    have P₈ := P₆.after k1 k2 k3
    refine g_from (n := 0) rfl rfl ?_
    refine ld P₈.F rfl ⟨_, _, rfl, by rw [hs₂], k1, k3, P₈.there, P₈.fresh, fun j hj => ?_, fun s₉ s₁₀ q1 q2 q3 => g_end q1⟩
    rw [rev_i (i := (osz x + 2 + j) + 1 + 1) (by rw [hl]; omega), hb₂]
    show (2 :: ((octs x).length : Int) :: octs x ++ 2 :: ((octs y).length : Int) :: octs y)[osz x + 2 + j]? = _
    rw [List.getElem?_append_right (by simp only [List.length_cons]; omega)]
    congr 1
    simp only [List.length_cons]
    omega
end
section
open PySem PySem.W PyProof.Rows
theorem words_D2 : True := by
  w_top off
  k_with "my call ref" => (k_here; (with_reducible show wpAny _ _ (call (Value.ref 56) [Value.bytes _ _]) _ _ _); (refine wpAny_call ?_); k_dflt (walk_at "my_enter"))
  k_with "my call ref" => (k_here; (with_reducible show wpAny _ _ (call (Value.ref 42) [Value.bytes _ _]) _ _ _); (refine wpAny_call ?_); k_dflt (walk_at "my_enter"))
  trivial
theorem told_ok (w : World) (b : Array UInt8) (tk : Tok) (ks : List Int) (news : List (Addr × Obj)) (hb : KBw.bInts b = ks) (hn : ks.length ≤ 300) :
    ClaimL w 103 [.bytes b tk] news 6 6 (RetRes (told ks) news) := by
  unfold ClaimL
  intro prog mean mg mb dp un gd cn cs a ccd A₀ h₀ L m s Q E B F X N T hk hd hu hret
  refine wpAny_call ?_
  k_dflt (walk_at "my_enterS")
  k_steps
  all_goals first | walk_at "told_end"
end
section
open PySem PySem.W PyProof.Rows
theorem words_D4 : True := by
  w_top off
  trivial
theorem due_ok (w : World) (b : Array UInt8) (tk : Tok) (ks : List Int) (hb : KBw.bInts b = ks) (hn : ks.length ≤ 300) :
    Claim w 110 [.bytes b tk] [] 6 6 (RetRes0 (told ks)) := by
  unfold Claim
  intro prog mean mg mb dp un gd cn cs a ccd cl outer A₀ base h₀ L m s Q E B F X N T hk hd hu hret
  refine wpAny_call ?_
  k_dflt (walk_at "my_enter")
  k_steps
  all_goals first | walk_at "due_end"
end
section
open PySem PySem.W PyProof.Rows
theorem words_D6 : True := by
  w_top off
  k_with "my call ref" => (k_here; (with_reducible show wpAny _ _ (call (Value.ref 63) [Value.ref _, Value.int _ _]) _ _ _); k_dflt (refine' Claim.use (take_ok _ _ _ _ _ _ _ _ _ _ _ ?cne ?cit ?clen ?cm ?ci) ?k1 ?k2 ?k3 ?k4 ?k5 ?kK ?kd ?ku ?_; (case k4 => k_asm); (case k1 => k_asm); (case k2 => k_asm); (case k3 => k_asm); (case k5 => k_asm); (case cne => assumption); (case cit => assumption); (case clen => assumption); (case cm => first | decide | assumption | omega | exact Int.pow_pos (by decide)); (case ci => first | assumption | decide | omega); (case kK => first | exact rfl | assumption); (case kd => ktr_room); (case ku => ktr_units); k_whole; intro v j t' h' tk' tj nj hv0 hv1 hj F' S' N'; (try dsimp only); (try k_sweep)))
  trivial
theorem p256_le {v : Int} {k : Int} (h0 : 0 ≤ k) (h1 : k < 33) (hv : v < 256 ^ k.toNat) : v < 2 ^ 256 := by
  have h2 : 256 ^ k.toNat ≤ 256 ^ 32 := Nat.pow_le_pow_right (by decide) (show k.toNat ≤ 32 by omega)
  have h3 : ((256 ^ 32 : Nat) : Int) = 2 ^ 256 := by decide
  rw [KTBy.p256] at hv
  have h4 : ((256 ^ k.toNat : Nat) : Int) ≤ ((256 ^ 32 : Nat) : Int) := Int.ofNat_le.mpr h2
  rw [h3] at h4
  exact Int.lt_of_lt_of_le hv h4
theorem number_ok (w : World) (box b : Addr) (i : Int) (n0 n1 : Nat) (ti : Tok) (vs : List Value) (is : List Int) (hbb : b ≠ box) (hi : IntsAre vs is) (hl : is.length ≤ 100) (hi0 : 0 ≤ i) :
    Claim w 70 [.ref box] [(box, { cls := .type "list", data := .seq #[.ref b, .int i ti] n0 }), (b, { cls := .type "list", data := .seq vs.toArray n1 })] 3 3
      (RetTake box b vs n1 (2 ^ 256) [(box, { cls := .type "list", data := .seq #[.ref b, .int i ti] n0 }), (b, { cls := .type "list", data := .seq vs.toArray n1 })]) := by
  unfold Claim
  intro prog mean mg mb dp un gd cn cs a ccd cl outer A₀ base h₀ L m s Q E B F X N T hk hd hu hret
  refine wpAny_call ?_
  k_dflt (walk_at "my_enter")
  k_steps
  · refine' hret _ _ _ _ _ _ _ (by assumption) (by assumption) ?ta ?tb (stood_end (by assumption) (by assumption)) ?tc
    case tc => assumption
    case tb => assumption
    case ta => assumption
  · refine' hret _ _ _ _ _ _ _ (fmod_lo _ (by decide)) (fmod_hi _ (by decide)) ?ta ?tb (stood_end (by assumption) (by assumption)) ?tc
    case tc => assumption
    case tb => assumption
    case ta => assumption
  · refine' hret _ _ _ _ _ _ _ (fmod_lo _ (by decide)) (fmod_hi _ (by decide)) ?ta ?tb (stood_end (by assumption) (by assumption)) ?tc
    case tc => assumption
    case tb => assumption
    case ta => assumption
  · refine' hret _ _ _ _ _ _ _ (by assumption) (p256_le ?h1 ?h2 (by assumption)) ?ta ?tb (stood_end (by assumption) (by assumption)) ?tc
    case tc => assumption
    case tb => assumption
    case ta => assumption
    case h1 => assumption
    case h2 => assumption
end
section
open PySem PySem.W PyProof.Rows
theorem words_D9 : True := by
  w_top off
  k_with "my call ref" => (k_here; (with_reducible show wpAny _ _ (call (Value.ref 84) [Value.bytes _ _]) _ _ _); k_dflt (refine' Claim.use (one_ok _ _ _ _ ?cua ?cub) ?k1 ?k2 ?k3 ?k4 ?k5 ?kK ?kd ?ku ?_; (case cua => kba_ints2); (case cub => kba_size); (case k1 => k_asm); (case k2 => k_asm); (case k3 => k_asm); (case k4 => exact fun _ q => nomatch q); (case k5 => k_asm); (case kK => first | exact rfl | assumption); (case kd => ktr_room); (case ku => ktr_units); k_whole; intro b' t' h' tk' hb' F' S'; (have N' := news_beside (ns := []) (ns' := []) (by k_asm) (fun _ q => nomatch q) S' (fun _ _ q => nomatch q)); clear S'; (try dsimp only [List.nil_append] at N'); (try dsimp only); (try k_sweep)))
  k_with "my getMethod bytes" => (k_here; (with_reducible refine meth_bjoin ?_))
  k_with "my call builtin:bytes.join" => (k_here; (with_reducible show wpAny _ _ (call (Value.builtin "bytes.join") [Value.bytes _ _, Value.ref _]) _ _ _); k_dflt (refine' join2 ?jn ?jm ?jb ?jc ?js ?_; (case jn => k_asm); (case jm => k_mem); (case jb => kba_ints2); (case jc => kba_ints2); (case js => kba_size)); intro t' k' b' hb')
  trivial
theorem text_ok (w : World) (pl : Addr) (np : Nat) (b c : Array UInt8) (tb tc : Tok) (ks ls : List Int) (hb : KBw.bInts b = ks) (hc : KBw.bInts c = ls) (hn : ks.length ≤ 50) (hm : ls.length ≤ 50) :
    Claim w 89 [.ref pl] [(pl, { cls := .type "list", data := .seq #[.bytes b tb, .bytes c tc] np })] 3 3 fun h₀ L m s Q => ∀ b' t h' tk', KBw.bInts b' = der ks ls → Fr h₀ L h' m → Stood s [(pl, { cls := .type "list", data := .seq #[.bytes b tb, .bytes c tc] np })] h' →
      News h₀ L h' [(pl, { cls := .type "list", data := .seq #[.bytes b tb, .bytes c tc] np })] → Q (.bytes b' t) { s with heap := h', toks := tk' } := by
  unfold Claim
  intro prog mean mg mb dp un gd cn cs a ccd cl outer A₀ base h₀ L m s Q E B F X N T hk hd hu hret
  refine wpAny_call ?_
  k_dflt (walk_at "my_enter")
  k_steps
  refine' hret _ _ _ _ ?ta ?tb (stood_end (by assumption) (by assumption)) ?tc
  case tc => walk_at "my_drop"
  case tb => assumption
  case ta =>
    refine Eq.trans (by assumption) ?_
    unfold der
    simp only [List.length_append, List.length_cons, List.cons_append, List.nil_append, List.cons.injEq, true_and, and_true]
    omega
end
section
open PySem PySem.W PyProof.Rows
theorem words_D10 : True := by
  w_top off
  k_with "rd_pure" => (law_clear; (try simp only [Int.reduceToNat] at *); (simp (disch := omega) only [rd1, rdO, if_pos, if_neg, if_true, if_false, reduceIte, List.length_take, List.length_drop, and_true, true_and, and_false, false_and, not_false_eq_true, not_true_eq_false, *]))
  k_with "rd2_pure" => (law_clear; (try simp only [Int.reduceToNat] at *); (simp (disch := omega) only [rd2, if_pos, if_neg, if_true, if_false, reduceIte, *]))
  k_with "rd_end" => ((rename News _ _ _ _ => nE'); (with_reducible rename RdInv _ _ _ => hp9); (try simp only [List.push_toArray] at nE'); (refine ksw_end ⟨_, _, _, _, _⟩ (by assumption) nE' (by kst_in) (by kst_facts) (by kst_all) (by ksw_same) ?_ ?_); (case' refine_1 => (refine RdInv.turn hp9 (by assumption) ?_ (by assumption) (by assumption); walk_at "rd_pure")); (dsimp only; omega))
  trivial
/-- one number by the strict reader -/
def rdO (ks : List Int) (i : Int) : List Int := (ks.drop (i + 2).toNat).take ((i + 2 + ks.getD (i + 1).toNat 0).toNat - (i + 2).toNat)
def rd1 (ks : List Int) (i : Int) : Option Int :=
  if (ks.length : Int) < i + 3 then none
  else if ks.getD i.toNat 0 = 2 then
    if ks.getD (i + 1).toNat 0 = 0 then none
    else if (ks.length : Int) < i + 2 + ks.getD (i + 1).toNat 0 then none
    else
      if 127 < (rdO ks i).getD 0 0 then none
      else if (rdO ks i).getD 0 0 = 0 ∧ 1 < ((rdO ks i).length : Int) ∧ (rdO ks i).getD 1 0 < 128 then none
      else some (KFB.value (rdO ks i))
  else none
def rdFrom (ks : List Int) : Nat → Int → List Int → Option (List Int)
  | 0, _, _ => none
  | f + 1, i, acc => if i < (ks.length : Int) then match rd1 ks i with
      | none => none
      | some v => rdFrom ks f (i + 2 + ks.getD (i + 1).toNat 0) (acc ++ [v])
    else some acc
/-- what the loop keeps: from here the reading ends as from the start -/
structure RdInv (ks : List Int) (i : Int) (found : List Int) : Prop where
  lo : 2 ≤ i
  hi : i ≤ ks.length + 2
  small : found.length ≤ i.toNat
  on : ∃ f : Nat, (0 < f ∧ (ks.length : Int) < f + i) ∧ rdFrom ks f i found = rdFrom ks (ks.length + 1) 2 []
theorem rd_start (ks : List Int) : RdInv ks 2 [] := ⟨by decide, by omega, by decide, ks.length + 1, ⟨by omega, by omega⟩, rfl⟩
theorem rdFrom_none {ks : List Int} {f : Nat} {i : Int} {acc : List Int} (hi : i < (ks.length : Int)) (h : rd1 ks i = none) : rdFrom ks f i acc = none := by
  cases f with
  | zero => rfl
  | succ f => unfold rdFrom; rw [if_pos hi, h]
theorem RdInv.stop {ks : List Int} {i : Int} {acc : List Int} (H : RdInv ks i acc) (hi : i < (ks.length : Int)) (h : rd1 ks i = none) : rdFrom ks (ks.length + 1) 2 [] = none := by
  obtain ⟨f, _, e⟩ := H.on
  rw [← e]
  exact rdFrom_none hi h
theorem RdInv.turn {ks : List Int} {i v : Int} {acc : List Int} (H : RdInv ks i acc) (hi : i < (ks.length : Int)) (h : rd1 ks i = some v) (h0 : 0 ≤ ks.getD (i + 1).toNat 0) (hle : ¬ (ks.length : Int) < i + 2 + ks.getD (i + 1).toNat 0) :
    RdInv ks (i + 2 + ks.getD (i + 1).toNat 0) (acc ++ [v]) := by
  obtain ⟨f, hf, e⟩ := H.on
  have hlo := H.lo
  have hsm := H.small
  cases f with
  | zero => omega
  | succ f =>
    refine ⟨by omega, by omega, by rw [List.length_append]; simp only [List.length_cons, List.length_nil]; omega, f, ⟨by omega, by omega⟩, ?_⟩
    rw [← e]
    conv => rhs; unfold rdFrom
    rw [if_pos hi, h]
theorem RdInv.over {ks : List Int} {i : Int} {acc : List Int} (H : RdInv ks i acc) (hi : ¬ i < (ks.length : Int)) : rdFrom ks (ks.length + 1) 2 [] = some acc := by
  obtain ⟨f, hf, e⟩ := H.on
  rw [← e]
  cases f with
  | zero => omega
  | succ f => unfold rdFrom; rw [if_neg hi]
/-- the strict reader -/
def rd2 (ks : List Int) : Option (Int × Int) :=
  if (ks.length : Int) < 2 then none
  else if ks.getD 0 0 = 48 then
    if ks.getD 1 0 = (ks.length : Int) - 2 then
      if 127 < ks.getD 1 0 then none
      else match rdFrom ks (ks.length + 1) 2 [] with
        | some [a, b] => some (a, b)
        | _ => none
    else none
  else none
theorem rd2_none {ks : List Int} (h : rdFrom ks (ks.length + 1) 2 [] = none) : rd2 ks = none := by
  unfold rd2
  rw [h]
  repeat' split
  all_goals first | rfl | (rename_i e; cases e)
theorem rd2_odd {ks acc : List Int} (h : rdFrom ks (ks.length + 1) 2 [] = some acc) (hn : ¬ (acc.length : Int) = 2) : rd2 ks = none := by
  unfold rd2
  rw [h]
  split
  · rfl
  split
  · split
    · split
      · rfl
      · split
        · rename_i e
          cases e
          exact absurd rfl hn
        · rfl
    · rfl
  · rfl
theorem rd2_two {ks acc : List Int} (h1 : ¬ (ks.length : Int) < 2) (h2 : ks.getD 0 0 = 48) (h3 : ks.getD 1 0 = (ks.length : Int) - 2) (h4 : ¬ 127 < ks.getD 1 0) (h : rdFrom ks (ks.length + 1) 2 [] = some acc) (hn : (acc.length : Int) = 2) :
    rd2 ks = some (acc.getD 0 0, acc.getD 1 0) := by
  unfold rd2
  rw [if_neg h1, if_pos h2, if_pos h3, if_neg h4, h]
  match acc, hn with
  | [a, b], _ => rfl
  | [], hn => simp at hn
  | [_], hn => simp at hn
  | _ :: _ :: _ :: _, hn => simp only [List.length_cons] at hn; omega
abbrev RetRead (r : Option (Int × Int)) (h₀ : Heap) (L : Addr) (m : Str → Option Value) (s : Shared) (Q : Value → Shared → Prop) : Prop :=
  (∀ h' tk', r = none → Fr h₀ L h' m → Stood s [] h' → Q .none { s with heap := h', toks := tk' }) ∧
  (∀ a b x t u n h' tk', r = some (a, b) → Fr h₀ L h' m → Stood s [] h' → News h₀ L h' [(x, tup a b t u n)] → s.heap.get? x = none → Q (.ref x) { s with heap := h', toks := tk' })
structure RdS where
  i : Int
  ti : Tok
  found : List Int
  vs : List Value
  k : Nat
theorem read_ok (w : World) (b : Array UInt8) (tk : Tok) (ks : List Int) (hb : KBw.bInts b = ks) (hn : ks.length ≤ 300) :
    Claim w 96 [.bytes b tk] [] 3 3 (RetRead (rd2 ks)) := by
  unfold Claim
  intro prog mean mg mb dp un gd cn cs a ccd cl outer A₀ base h₀ L m s Q E B F X N T hk hd hu hret
  refine wpAny_call ?_
  k_dflt (walk_at "my_enter")
  walk_at "to_while"
  iterate 4 (rotate_left)
  rename_i l h2 l1 h1 h F9 N9
  refine' ksw_while (σ := RdS) (fun c => [(l, listOf c.vs.toArray c.k)]) (fun c => [(Str.ofString "at", .int c.i c.ti), (Str.ofString "found", .ref l)]) (fun c => IntsAre c.vs c.found) [Str.ofString "octets"] (fun c => RdInv ks c.i c.found) (fun c => (ks.length + 10 - c.i).toNat) ⟨2, _, [], [], 0⟩ F9 ?kn ?kf ?kk ?kp ?_ ?kE
  case kk =>
    refine' List.forall_mem_cons.mpr ⟨?q1, List.forall_mem_cons.mpr ⟨?q2, fun _ q => nomatch q⟩⟩
    case q1 => with_unfolding_all exact rfl
    case q2 => with_unfolding_all exact rfl
  case kn => exact N9
  case kf => exact IntsAre.nil
  case kp => exact rd_start ks
  case kE => passes_own
  · rintro ⟨i, ti, found, vs, kf⟩ u h tk hf9 hp9 F9 N9
    have hlo := hp9.lo
    have hhi := hp9.hi
    have hsm := hp9.small
    dsimp only [kstB] at F9 N9 hf9 hp9 hlo hhi hsm
    have hfl : found.length ≤ 400 := by omega
    k_steps
    all_goals first
      | walk_at "rd_end"
      | (refine hret.1 _ _ (rd2_none (RdInv.stop hp9 (by assumption) ?_)) (by k_asm) (stood_end (by assumption) (by assumption)); walk_at "rd_pure")
      | exact hret.1 _ _ (rd2_odd (RdInv.over hp9 (by assumption)) (by assumption)) (by k_asm) (stood_end (by assumption) (by assumption))
      | (refine' hret.2 _ _ _ _ _ _ _ _ (rd2_two ?g1 ?g2 ?g3 ?g4 (RdInv.over hp9 ?g5) ?g6) ?ta ?tb ?tc ?td
         case tc => (refine news_top (by assumption) ?_; exact fun _ q => nomatch q)
         case ta => k_asm
         case tb => exact stood_end (by assumption) (by assumption)
         case td => exact fresh_end (by assumption) (by assumption)
         all_goals assumption)
     
  all_goals (refine hret.1 _ _ ?_ (by k_asm) (stood_end (by assumption) (by assumption)); walk_at "rd2_pure")
end
section
open PySem PySem.W PyProof.Rows
theorem words_D11 : True := by
  w_top off
  trivial
theorem bool_ret {Q : Value → Shared → Prop} {c : Bool} {s : Shared} (e : c = true) (h : Q (.bool true) s) : Q (.bool c) s := by rw [e]; exact h
theorem same_str (w : World) (x : PySem.Str) (t1 t2 : Tok) (hx : x = PySem.Str.ofString "value" ∨ x = PySem.Str.ofString "index") :
    Claim w 117 [.str x t1, .str x t2] [] 2 3 fun h₀ L m s Q => ∀ h' tk', Fr h₀ L h' m → Stood s [] h' → Q (.bool true) { s with heap := h', toks := tk' } := by
  unfold Claim
  intro prog mean mg mb dp un gd cn cs a ccd cl outer A₀ base h₀ L m s Q E B F X N T hk hd hu hret
  refine wpAny_call ?_
  rcases hx with rfl | rfl
  · k_dflt (walk_at "my_enter")
    k_steps
    exact bool_ret (by decide +kernel) (hret _ _ (by k_asm) (stood_end (by assumption) (by assumption)))
  · k_dflt (walk_at "my_enter")
    k_steps
    exact bool_ret (by decide +kernel) (hret _ _ (by k_asm) (stood_end (by assumption) (by assumption)))
theorem same_tup (w : World) (x y : Addr) (a b : Int) (t u t' u' : Tok) (n n' : Nat) :
    Claim w 117 [.ref x, .ref y] [(x, tup a b t u n), (y, tup a b t' u' n')] 2 3 fun h₀ L m s Q => ∀ h' tk', Fr h₀ L h' m → Stood s [(x, tup a b t u n), (y, tup a b t' u' n')] h' → News h₀ L h' [(x, tup a b t u n), (y, tup a b t' u' n')] → Q (.bool true) { s with heap := h', toks := tk' } := by
  unfold Claim
  intro prog mean mg mb dp un gd cn cs a ccd cl outer A₀ base h₀ L m s Q E B F X N T hk hd hu hret
  refine wpAny_call ?_
  k_dflt (walk_at "my_enter")
  k_steps
  all_goals exact bool_ret (beq_self_eq_true _) (hret _ _ (by k_asm) (stood_end (by assumption) (by assumption)) (by k_asm))
end
section
open PySem PySem.W PySem.Calls PySem.Spec PyProof.Rows
abbrev bobj (b : Addr) (i : Int) (ti : Tok) (n0 : Nat) : Obj := { cls := .type "list", data := .seq #[.ref b, .int i ti] n0 }
abbrev sobj (vs : List Value) (n1 : Nat) : Obj := { cls := .type "list", data := .seq vs.toArray n1 }
/-- the state between the law's turns -/
structure LawEnd (h₀ : Heap) (L bx b : Addr) (vs : List Value) (nb : Nat) (I : Addr) (oI : Obj) (dr : Drawn) (os : OsState) (s : Shared) : Prop where
  led : ∃ (i : Int) (ti : Tok) (n0 : Nat) (u : Str → Option Value), 0 ≤ i ∧ Fr h₀ L s.heap (fun y => if y = Str.ofString "box" then some (.ref bx) else u y) ∧ News h₀ L s.heap [(bx, bobj b i ti n0), (b, sobj vs nb), (I, oI)]
  gens : AllBare s.gens
  drawn : s.drawn = dr
  os : s.os = os
section
variable {prog : Program} {w : World} {A : Around} {E : Value → Shared → Prop} {s : Shared} {h₀ : Heap} {cn : Str} {cs : Scope} {L a : Addr} {ccd : Value} {x : Str} {px pos : Pos} {iter : PySem.Expr} {body : List Stmt} {Q : Flow → Shared → Prop} {bx b : Addr} {vs : List Value} {nb : Nat}
theorem law_for (hx : (envOf cn cs L a ccd).kindOf x = some .local) (hk : cs.kind = .function) (hh : A.handled = none)
    {m : Str → Option Value} {i : Int} {ti : Tok} {n0 : Nat} (F₀ : Fr h₀ L s.heap m) (N₀ : News h₀ L s.heap [(bx, bobj b i ti n0), (b, sobj vs nb)]) (hi : 0 ≤ i) (hm : m (Str.ofString "box") = some (.ref bx)) (hG : AllBare s.gens)
    (hev : wpAny (model prog w) A (eval iter (envOf cn cs L a ccd)) (fun xv s₁ => ∃ (r : Addr) (t₀ u₀ v₀ : Tok), xv = .ref r ∧ IsRange s₁.heap r 0 4 1 t₀ u₀ v₀ ∧ Fr h₀ L s₁.heap m ∧
      News h₀ L s₁.heap [(bx, bobj b i ti n0), (b, sobj vs nb)] ∧ s₁.gens = s.gens ∧ s₁.drawn = s.drawn ∧ s₁.os = s.os) E s)
    (turn : ∀ (k : Int) (t : Tok) (u : Str → Option Value) (I : Addr) (oI : Obj) (i : Int) (ti : Tok) (n0 : Nat) (s₁ : Shared), 0 ≤ i → I ≠ bx → I ≠ b → AllBare s₁.gens → Fr h₀ L s₁.heap (fun y => if y = x then some (.int k t) else if y = Str.ofString "box" then some (.ref bx) else u y) → News h₀ L s₁.heap [(bx, bobj b i ti n0), (b, sobj vs nb), (I, oI)] → s₁.drawn = s.drawn → s₁.os = s.os →
      wpAny (model prog w) A (execs body (envOf cn cs L a ccd)) (fun f s' => f = .next ∧ LawEnd h₀ L bx b vs nb I oI s.drawn s.os s') (fun _ _ => False) s₁)
    (done : ∀ (s₁ : Shared) (m : Str → Option Value), AllBare s₁.gens → s₁.drawn = s.drawn → s₁.os = s.os → Fr h₀ L s₁.heap m → Q .next s₁)
    (hs : ∀ x, foldedSetIterable iter (envOf cn cs L a ccd) x = pure x) :
    wpAny (model prog w) A (exec (.For (.Name x px) iter body [] pos) (envOf cn cs L a ccd)) Q E s := by
  refine wpAny_For (wpAny_mono hev (fun xv s₁ h₁ => ?_) fun _ _ e => e) hs
  obtain ⟨r, t₀, u₀, v₀, rfl, hr, F, N, hG₁, hd, ho⟩ := h₁
  rw [← hG₁] at hG
  refine wpAny_pyIter_range hr (by decide) ?_
  have W := Walks.range (prog := prog) (w := w) hh s₁.heap.objs.size 0 1 4
  have hne : ∀ q o, s₁.heap.get? q = some o → s₁.heap.objs.size ≠ q := fun q o e z => absurd (Heap.lt_size e) (by rw [z]; exact Nat.lt_irrefl _)
  have hIx := hne _ _ (N.get (.head _))
  have hIb := hne _ _ (N.get (.tail _ (.head _)))
  refine codeAny_forLoop (I := fun k s₂ => k ≤ 4 ∧ LawEnd h₀ L bx b vs nb s₁.heap.objs.size (itR (0 + ((4 - k : Nat) : Int) * 1) ((4 : Nat) - ((4 - k : Nat) : Int))) s.drawn s.os s₂) (fun k s₂ hI => ?_) 4 ⟨Nat.le_refl _, ⟨⟨i, ti, n0, m, hi, ?_, ?_⟩, hG, hd, ho⟩⟩
  · obtain ⟨hk4, ⟨i, ti, n0, u, hi, F, N⟩, hG, hd, ho⟩ := hI
    have hNI := N.get (.tail _ (.tail _ (.head _)))
    cases k with
    | zero =>
      refine W.done _ _ _ hNI fun h' tk hk' => ?_
      refine wpAny_pure (done _ (fun y => if y = Str.ofString "box" then some (.ref bx) else u y) hG hd ho ?_)
      · obtain ⟨oL, a1, a2, hL, hL2⟩ := F.ns
        have nI : ∀ q o, s₁.heap.get? q = some o → q ∉ [s₁.heap.objs.size] := fun q o e z => hne _ _ e (List.mem_singleton.mp z).symm
        refine ⟨⟨oL, a1, a2, hk' _ _ (fun z => ?_) hL, hL2⟩, fun q o e => hk' q o (fun z => ?_) (F.keep q o e), F.above⟩
        · exact (N _ (.tail _ (.tail _ (.head _)))).2.1 (List.mem_singleton.mp z).symm
        · have := (N _ (.tail _ (.tail _ (.head _)))).2.2
          rw [show (s₁.heap.objs.size) = q from (List.mem_singleton.mp z).symm, e] at this
          cases this
    | succ k =>
      refine W.item (3 - k) _ _ _ (by omega) (by rw [show 4 - (k + 1) = 3 - k from by omega] at hNI; exact hNI) fun v h' tk hv hst hk' => ?_
      obtain ⟨t, rfl⟩ := hv
      have nI : ∀ q, q ≠ s₁.heap.objs.size → q ∉ [s₁.heap.objs.size] := fun q e z => e (List.mem_singleton.mp z)
      obtain ⟨oL, a1, a2, hL, hL2⟩ := F.ns
      have F' : Fr h₀ L h' (fun y => if y = Str.ofString "box" then some (.ref bx) else u y) := by
        refine ⟨⟨oL, a1, a2, hk' _ _ (nI _ fun z => ?_) hL, hL2⟩, fun q o e => hk' q o (nI _ fun z => ?_) (F.keep q o e), F.above⟩
        · exact (N _ (.tail _ (.tail _ (.head _)))).2.1 z.symm
        · have := (N _ (.tail _ (.tail _ (.head _)))).2.2
          rw [show (s₁.heap.objs.size) = q from z.symm, e] at this
          cases this
      have N' : News h₀ L h' [(bx, bobj b i ti n0), (b, sobj vs nb), (s₁.heap.objs.size, itR (0 + ((4 - k : Nat) : Int) * 1) ((4 : Nat) - ((4 - k : Nat) : Int)))] := by
        refine List.forall_mem_cons.mpr ⟨⟨hk' _ _ (nI _ (Ne.symm hIx)) (N.get (.head _)), (N _ (.head _)).2⟩, List.forall_mem_cons.mpr ⟨⟨hk' _ _ (nI _ (Ne.symm hIb)) (N.get (.tail _ (.head _))), (N _ (.tail _ (.head _))).2⟩, List.forall_mem_cons.mpr ⟨⟨?_, (N _ (.tail _ (.tail _ (.head _)))).2⟩, fun _ q => nomatch q⟩⟩⟩
        rw [show 4 - k = 3 - k + 1 from by omega]
        exact hst
      refine wpAny_assign_Name (stN F' N' (fun h2 F2 N2 => ?_) hk hx)
      refine wpAny_mono (turn _ t u _ _ i ti n0 _ hi hIx hIb hG F2 N2 hd ho) (fun f s' h' => ?_) fun _ _ q => q.elim
      obtain ⟨rfl, h'⟩ := h'
      exact ⟨k, Nat.lt_succ_self _, by omega, h'⟩
  · have e : (fun y => if y = Str.ofString "box" then some (.ref bx) else m y) = m := by
      funext y
      split
      · rename_i q; rw [q, hm]
      · rfl
    rw [e]
    exact F.push _
  · refine List.forall_mem_cons.mpr ⟨⟨Heap.get?_push_of_some _ (N.get (.head _)), (N _ (.head _)).2⟩, List.forall_mem_cons.mpr ⟨⟨Heap.get?_push_of_some _ (N.get (.tail _ (.head _))), (N _ (.tail _ (.head _))).2⟩, List.forall_mem_cons.mpr ⟨⟨?_, ?_, ?_⟩, fun _ q => nomatch q⟩⟩⟩
    · exact Heap.get?_push_size _ rfl
    · exact Nat.ne_of_gt F.ns.lt
    · cases q : h₀.get? s₁.heap.objs.size with
      | none => rfl
      | some o => exact absurd (Heap.lt_size (F.keep _ _ q)) (Nat.lt_irrefl _)
end
end
section
open PySem PySem.W PySem.Calls PySem.Spec PyProof.Rows
def BentEnd (h₀ : Heap) (L : Addr) (s : Shared) (m : Str → Option Value) (news : List (Addr × Obj)) (f : Flow) (s' : Shared) : Prop := f = .next ∧ ∃ h' tk', s' = { s with heap := h', toks := tk' } ∧ Fr h₀ L h' m ∧ News h₀ L h' news
section
variable {prog : Program} {w : World} {A : Around} {E : Value → Shared → Prop} {s : Shared} {h₀ : Heap} {cn : Str} {cs : Scope} {L a l : Addr} {ccd : Value} {x : Str} {px pos : Pos} {iter : PySem.Expr} {body : List Stmt} {Q : Flow → Shared → Prop} {vs : List Value} {nn : Nat} {news : List (Addr × Obj)} {m : Str → Option Value}
theorem bent_for (hx : (envOf cn cs L a ccd).kindOf x = some .local) (hk : cs.kind = .function) (hh : A.handled = none) (F₀ : Fr h₀ L s.heap m) (N₀ : News h₀ L s.heap news) (hl : (l, sobj vs nn) ∈ news)
    (hev : wpAny (model prog w) A (eval iter (envOf cn cs L a ccd)) (fun xv s₁ => xv = .ref l ∧ s₁ = s) E s)
    (turn : ∀ v ∈ vs, ∀ (m : Str → Option Value) (news : List (Addr × Obj)) (h : Heap) (tk : Nat), Fr h₀ L h (fun y => if y = x then some v else m y) → News h₀ L h news →
      wpAny (model prog w) A (execs body (envOf cn cs L a ccd)) (BentEnd h₀ L s (fun y => if y = x then some v else m y) news) (fun _ _ => False) { s with heap := h, toks := tk })
    (done : ∀ (h : Heap) (tk : Nat) (u : Option Value), Fr h₀ L h (fun y => if y = x then u else m y) → News h₀ L h news → Q .next { s with heap := h, toks := tk })
    (hs : ∀ x, foldedSetIterable iter (envOf cn cs L a ccd) x = pure x) :
    wpAny (model prog w) A (exec (.For (.Name x px) iter body [] pos) (envOf cn cs L a ccd)) Q E s := by
  refine wpAny_For (wpAny_mono hev (fun xv s₁ h₁ => ?_) fun _ _ e => e) hs
  obtain ⟨rfl, rfl⟩ := h₁
  have hol := (N₀ _ hl).1
  have hls : s₁.heap.IsList l vs.toArray := ⟨_, hol, rfl, nn, rfl⟩
  have hne : l ≠ s₁.heap.objs.size := Nat.ne_of_lt (Heap.lt_size hol)
  refine wpAny_pyIter_list hls ?_
  have W := Walks.list (prog := prog) (w := w) hh s₁.heap.objs.size l hne vs.toArray
  have hlen : vs.toArray.size = vs.length := by simp
  rw [hlen] at W
  have nIne : ∀ q o, s₁.heap.get? q = some o → q ≠ s₁.heap.objs.size := fun q o e z => absurd (Heap.lt_size e) (by rw [z]; exact Nat.lt_irrefl _)
  have hIL : s₁.heap.objs.size ≠ L := Nat.ne_of_gt F₀.ns.lt
  have hI0 : h₀.get? s₁.heap.objs.size = none := by
    cases q : h₀.get? s₁.heap.objs.size with
    | none => rfl
    | some o => exact absurd (Heap.lt_size (F₀.keep _ _ q)) (Nat.lt_irrefl _)
  refine codeAny_forLoop (I := fun k s₂ => k ≤ vs.length ∧ ∃ (h : Heap) (tk : Nat) (u : Option Value) (o : Obj), s₂ = { s₁ with heap := h, toks := tk } ∧ Fr h₀ L h (fun y => if y = x then u else m y) ∧ News h₀ L h ((s₁.heap.objs.size, o) :: news) ∧ h.IsListIter s₁.heap.objs.size l (vs.length - k)) (fun k s₂ hI => ?_) vs.length
    ⟨Nat.le_refl _, _, _, m x, { cls := .type "list_iterator", data := .fields #[.ref l, .int 0 0] }, rfl, ?_, ?_, ⟨_, Heap.get?_push_size _ rfl, rfl, by rw [Nat.sub_self]; rfl⟩⟩
  · obtain ⟨hk4, h, tk, u, o, rfl, F, N, hit⟩ := hI
    have hll : h.IsList l vs.toArray := ⟨_, (N _ (.tail _ hl)).1, rfl, nn, rfl⟩
    have keepF : ∀ h', (∀ q o', q ∉ [s₁.heap.objs.size] → h.get? q = some o' → h'.get? q = some o') → Fr h₀ L h' (fun y => if y = x then u else m y) := fun h' hk' => by
      obtain ⟨oL, a1, a2, hL, hL2⟩ := F.ns
      refine ⟨⟨oL, a1, a2, hk' _ _ (fun z => hIL (List.mem_singleton.mp z).symm) hL, hL2⟩, fun q o e => hk' q o (fun z => ?_) (F.keep q o e), F.above⟩
      rw [List.mem_singleton.mp z, hI0] at e
      cases e
    have keepN : ∀ h', (∀ q o', q ∉ [s₁.heap.objs.size] → h.get? q = some o' → h'.get? q = some o') → News h₀ L h' news := fun h' hk' p hp => ⟨hk' _ _ (fun z => nIne _ _ (N₀ p hp).1 (List.mem_singleton.mp z)) (N p (.tail _ hp)).1, (N p (.tail _ hp)).2⟩
    cases k with
    | zero =>
      refine W.done _ _ _ ⟨hit, hll⟩ fun h' tk' hk' => ?_
      exact wpAny_pure (done _ _ u (keepF h' hk') (keepN h' hk'))
    | succ k =>
      refine W.item (vs.length - (k + 1)) _ _ _ (by omega) ⟨hit, hll⟩ fun v h' tk' hv hst hk' => ?_
      have hv' : v ∈ vs := by
        have : vs.toArray[vs.length - (k + 1)]? = some v := hv
        rw [List.getElem?_toArray] at this
        exact List.mem_of_getElem? this
      obtain ⟨o', ho', hc', hd'⟩ := hst.1
      have N' : News h₀ L h' ((s₁.heap.objs.size, o') :: news) := List.forall_mem_cons.mpr ⟨⟨ho', hIL, hI0⟩, keepN h' hk'⟩
      refine wpAny_assign_Name (stN (keepF h' hk') N' (fun h2 F2 N2 => ?_) hk hx)
      have e : (fun y => if y = x then some v else if y = x then u else m y) = fun y => if y = x then some v else m y := by
        funext y
        split <;> rfl
      rw [e] at F2
      refine wpAny_mono (turn v hv' _ _ h2 _ F2 N2) (fun f s' h' => ?_) fun _ _ q => q.elim
      obtain ⟨rfl, h3, tk3, rfl, F3, N3⟩ := h'
      refine ⟨k, Nat.lt_succ_self _, by omega, h3, tk3, some v, o', rfl, F3, N3, ⟨o', (N3 _ (.head _)).1, hc', ?_⟩⟩
      rw [hd', show vs.length - (k + 1) + 1 = vs.length - k from by omega]
  · have e : (fun y => if y = x then m x else m y) = m := by
      funext y
      split
      · rename_i q; rw [q]
      · rfl
    rw [e]
    exact F₀.push _
  · exact List.forall_mem_cons.mpr ⟨⟨Heap.get?_push_size _ rfl, hIL, hI0⟩, fun p hp => ⟨Heap.get?_push_of_some _ (N₀ p hp).1, (N₀ p hp).2⟩⟩
end
end
section
open PySem PySem.W PySem.Calls PySem.Spec PyProof.Rows
theorem told_cons (n : Int) (S : List Int) : told (48 :: n :: S) = match one S with
    | .value => .value
    | .index => .index
    | .ok n r => two n r := by
  unfold told
  rw [if_neg (by simp only [List.length_cons]; omega), if_pos (show (48 :: n :: S).getD 0 0 = 48 from rfl)]
  rfl
theorem one_app (A R : List Int) : one (2 :: (A.length : Int) :: (A ++ R)) = .ok (KFB.value A) R := by
  unfold one
  rw [if_neg (by simp only [List.length_cons]; omega), if_pos (show (2 :: (A.length : Int) :: (A ++ R)).getD 0 0 = 2 from rfl), if_neg (by simp only [List.length_cons]; omega)]
  have e : (2 + (A.length : Int)).toNat = A.length + 1 + 1 := by omega
  show One.ok (KFB.value ((A ++ R).take ((2 + (A.length : Int)).toNat - 2))) (List.drop (2 + (A.length : Int)).toNat (2 :: (A.length : Int) :: (A ++ R))) = _
  rw [e, List.drop_succ_cons, List.drop_succ_cons, List.drop_left, show A.length + 1 + 1 - 2 = A.length from by omega, List.take_left]
theorem one_odd {f : Int} {R : List Int} (h : f ≠ 2) : one (f :: R) = .value := by
  unfold one
  rw [if_neg (by simp only [List.length_cons]; omega), if_neg]
  exact h
theorem der_eq (A B : List Int) : der A B = 48 :: ((A.length + B.length + 4 : Nat) : Int) :: (2 :: (A.length : Int) :: (A ++ (2 :: (B.length : Int) :: B))) := rfl
theorem told_two (A B : List Int) : told (der A B) = .pair (KFB.value A) (KFB.value B) := by
  rw [der_eq, told_cons, one_app]
  show two _ _ = _
  have h := one_app B []
  rw [List.append_nil] at h
  unfold two
  rw [h]
  rfl
theorem value_pad (i : Nat) (B : List Int) : KFB.value (List.replicate i 0 ++ B) = KFB.value B := by
  induction i with
  | zero => rfl
  | succ i ih => rw [List.replicate_succ, List.cons_append, value_cons, ih, Int.zero_mul, Int.zero_add]
theorem told_der {x y : Int} (h0 : 0 ≤ x) (_ : x < 2 ^ 256) (h2 : 0 ≤ y) (_ : y < 2 ^ 256) : told (der (octs x) (octs y)) = .pair x y := by
  rw [told_two, value_octs h0, value_octs h2]
theorem told_pad {x y : Int} {i j : Nat} (h0 : 0 ≤ x) (_ : x < 2 ^ 256) (h2 : 0 ≤ y) (_ : y < 2 ^ 256) (_ : (List.replicate i (0 : Int)).length ≤ 4) (_ : (List.replicate j (0 : Int)).length ≤ 4) : told (der (List.replicate i 0 ++ octs x) (List.replicate j 0 ++ octs y)) = .pair x y := by
  rw [told_two, value_pad, value_pad, value_octs h0, value_octs h2]
theorem told_first {f : Int} {A B : List Int} (h : f ≠ 48) : told ([f] ++ List.drop (Int.toNat 1) (der A B)) = .value := by
  unfold told
  rw [if_neg (by simp only [List.length_append, List.length_cons]; omega), if_neg]
  exact h
theorem told_sign1 {f : Int} {A B : List Int} (h : f ≠ 2) : told (List.take (Int.toNat 2) (der A B) ++ [f] ++ List.drop (Int.toNat 3) (der A B)) = .value := by
  rw [der_eq]
  show told (48 :: _ :: (f :: _)) = _
  rw [told_cons, one_odd h]
theorem take_A (A B : List Int) : List.take (4 + (A.length : Int)).toNat (der A B) = 48 :: ((A.length + B.length + 4 : Nat) : Int) :: 2 :: (A.length : Int) :: A := by
  rw [der_eq, show (4 + (A.length : Int)).toNat = A.length + 1 + 1 + 1 + 1 from by omega, List.take_succ_cons, List.take_succ_cons, List.take_succ_cons, List.take_succ_cons, List.take_left]
theorem told_sign2 {f : Int} {A B : List Int} (h : f ≠ 2) : told (List.take (4 + (A.length : Int)).toNat (der A B) ++ [f] ++ List.drop (4 + (A.length : Int) + 1).toNat (der A B)) = .value := by
  rw [take_A]
  rw [List.append_assoc]
  show told (48 :: _ :: (2 :: (A.length : Int) :: (A ++ (f :: _)))) = _
  rw [told_cons, one_app]
  show two _ _ = _
  unfold two
  rw [one_odd h]
theorem told_more {v : Int} {A B : List Int} : told (der A B ++ [v]) = .value := by
  rw [der_eq]
  show told (48 :: _ :: (2 :: (A.length : Int) :: ((A ++ (2 :: (B.length : Int) :: B)) ++ [v]))) = _
  rw [List.append_assoc, told_cons, one_app]
  show two _ (2 :: (B.length : Int) :: (B ++ [v])) = _
  unfold two
  rw [one_app]
  show (if (([v] : List Int).length : Int) = 0 then _ else _) = _
  rw [if_neg (by simp)]
theorem told_cut {A B : List Int} : told (List.take (4 + (A.length : Int) + 1).toNat (der A B)) = .index := by
  have e : List.take (4 + (A.length : Int) + 1).toNat (der A B) = 48 :: ((A.length + B.length + 4 : Nat) : Int) :: 2 :: (A.length : Int) :: (A ++ [2]) := by
    rw [der_eq, show (4 + (A.length : Int) + 1).toNat = (A.length + 1) + 1 + 1 + 1 + 1 from by omega, List.take_succ_cons, List.take_succ_cons, List.take_succ_cons, List.take_succ_cons, List.take_append, List.take_of_length_le (by omega), show A.length + 1 - A.length = 1 from by omega]
    rfl
  rw [e, told_cons, one_app]
  rfl
/-- the strict reader and the lenient one -/
theorem getD_drop (ks : List Int) (i j : Nat) : (ks.drop i).getD j 0 = ks.getD (i + j) 0 := by
  rw [List.getD_eq_getElem?_getD, List.getD_eq_getElem?_getD, List.getElem?_drop]
theorem rd1_facts {ks : List Int} {i v : Int} (h : rd1 ks i = some v) : ¬ (ks.length : Int) < i + 3 ∧ ks.getD i.toNat 0 = 2 ∧ ks.getD (i + 1).toNat 0 ≠ 0 ∧ ¬ (ks.length : Int) < i + 2 + ks.getD (i + 1).toNat 0 ∧ v = KFB.value (rdO ks i) := by
  unfold rd1 at h
  split at h
  · cases h
  rename_i h1
  split at h
  · rename_i h2
    split at h
    · cases h
    rename_i h3
    split at h
    · cases h
    rename_i h4
    split at h
    · cases h
    split at h
    · cases h
    · exact ⟨h1, h2, h3, h4, (Option.some.inj h).symm⟩
  · cases h
theorem one_of_rd1 {ks : List Int} {i v : Int} (h0 : 0 ≤ i) (hp : 0 ≤ ks.getD (i + 1).toNat 0) (h : rd1 ks i = some v) : one (ks.drop i.toNat) = .ok v (ks.drop (i + 2 + ks.getD (i + 1).toNat 0).toNat) := by
  obtain ⟨h1, h2, h3, h4, rfl⟩ := rd1_facts h
  have hl : (ks.drop i.toNat).length = ks.length - i.toNat := List.length_drop
  have g0 : (ks.drop i.toNat).getD 0 0 = 2 := by rw [getD_drop]; exact h2
  have g1 : (ks.drop i.toNat).getD 1 0 = ks.getD (i + 1).toNat 0 := by rw [getD_drop, show i.toNat + 1 = (i + 1).toNat from by omega]
  unfold one
  rw [if_neg (by omega), if_pos g0, if_neg (by omega), g1]
  congr 1
  · unfold rdO
    rw [List.drop_drop]
    congr 1
    rw [show i.toNat + 2 = (i + 2).toNat from by omega]
    congr 1
    omega
  · rw [List.drop_drop]
    congr 1
    omega
theorem rdFrom_on {ks : List Int} {f : Nat} {i : Int} {acc r : List Int} (h : rdFrom ks f i acc = some r) : (∃ t, r = acc ++ t) := by
  induction f generalizing i acc with
  | zero => cases h
  | succ f ih =>
    unfold rdFrom at h
    split at h
    · split at h
      · cases h
      · obtain ⟨t, rfl⟩ := ih h
        exact ⟨_ :: t, by rw [List.append_assoc]; rfl⟩
    · exact ⟨[], by rw [List.append_nil]; exact (Option.some.inj h).symm⟩
theorem rdFrom_step {ks : List Int} {f : Nat} {i : Int} {acc r : List Int} (h : rdFrom ks f i acc = some r) (hn : r ≠ acc) : ∃ f' v, f = f' + 1 ∧ i < (ks.length : Int) ∧ rd1 ks i = some v ∧ rdFrom ks f' (i + 2 + ks.getD (i + 1).toNat 0) (acc ++ [v]) = some r := by
  cases f with
  | zero => cases h
  | succ f =>
    unfold rdFrom at h
    split at h
    · rename_i hi
      split at h
      · cases h
      · rename_i v hv
        exact ⟨f, v, rfl, hi, hv, h⟩
    · exact absurd (Option.some.inj h).symm hn
theorem rdFrom_stop {ks : List Int} {f : Nat} {i : Int} {acc : List Int} (h : rdFrom ks f i acc = some acc) : ¬ i < (ks.length : Int) := by
  intro hi
  cases f with
  | zero => cases h
  | succ f =>
    unfold rdFrom at h
    rw [if_pos hi] at h
    split at h
    · cases h
    · obtain ⟨t, e⟩ := rdFrom_on h
      have := congrArg List.length e
      simp only [List.length_append, List.length_cons, List.length_nil] at this
      omega
theorem getD_in {ks : List Int} (h0 : ∀ k ∈ ks, 0 ≤ k ∧ k < 256) (i : Nat) : 0 ≤ ks.getD i 0 := by
  rw [List.getD_eq_getElem?_getD]
  cases e : ks[i]? with
  | none => exact Int.le_refl _
  | some x => exact (h0 x (List.mem_of_getElem? e)).1
theorem rd2_told {ks : List Int} {a b : Int} (h0 : ∀ k ∈ ks, 0 ≤ k ∧ k < 256) (h : rd2 ks = some (a, b)) : told ks = .pair a b := by
  unfold rd2 at h
  split at h
  · cases h
  rename_i h1
  split at h
  · rename_i h2
    split at h
    · split at h
      · cases h
      · split at h
        · rename_i e
          cases h
          obtain ⟨f1, v1, -, -, r1, e1⟩ := rdFrom_step e (by simp)
          obtain ⟨f2, v2, -, -, r2, e2⟩ := rdFrom_step e1 (by
            obtain ⟨t, q⟩ := rdFrom_on e1
            intro z
            have := congrArg List.length z
            simp at this)
          obtain ⟨t, q⟩ := rdFrom_on e2
          simp only [List.nil_append, List.cons_append, List.cons.injEq] at q
          obtain ⟨rfl, rfl, ht⟩ := q
          have hstop := rdFrom_stop (ks := ks) (f := f2) e2
          have o1 : one (ks.drop 2) = _ := one_of_rd1 (by decide) (getD_in h0 _) r1
          have hp1 := getD_in h0 ((2 : Int) + 1).toNat
          have o2 := one_of_rd1 (by omega) (getD_in h0 _) r2
          unfold told
          rw [if_neg (by omega), if_pos h2, o1]
          show two _ _ = _
          unfold two
          rw [o2]
          show (if _ then _ else _) = _
          rw [if_pos]
          rw [List.length_drop]
          omega
        · cases h
    · cases h
  · cases h
theorem der_len {A B : List Int} : (der A B).length = A.length + B.length + 6 := by
  unfold der
  simp only [List.length_cons, List.length_append]
  omega
end
section
open PySem PySem.W PySem.Calls PySem.Spec PyProof.Rows
theorem getD_app (P L : List Int) (j : Nat) : (P ++ L).getD (P.length + j) 0 = L.getD j 0 := by
  rw [List.getD_eq_getElem?_getD, List.getD_eq_getElem?_getD, List.getElem?_append_right (by omega), show P.length + j - P.length = j from by omega]
theorem rd1_at {P A R : List Int} (hA : (A.length : Int) ≠ 0) (h1 : ¬ 127 < A.getD 0 0) (h2 : ¬ (A.getD 0 0 = 0 ∧ 1 < (A.length : Int) ∧ A.getD 1 0 < 128)) :
    rd1 (P ++ (2 :: (A.length : Int) :: (A ++ R))) (P.length : Int) = some (KFB.value A) := by
  have g0 : (P ++ (2 :: (A.length : Int) :: (A ++ R))).getD (P.length : Int).toNat 0 = 2 := by
    rw [show (P.length : Int).toNat = P.length + 0 from by omega, getD_app]
    rfl
  have g1 : (P ++ (2 :: (A.length : Int) :: (A ++ R))).getD ((P.length : Int) + 1).toNat 0 = (A.length : Int) := by
    rw [show ((P.length : Int) + 1).toNat = P.length + 1 from by omega, getD_app]
    rfl
  have go : rdO (P ++ (2 :: (A.length : Int) :: (A ++ R))) (P.length : Int) = A := by
    unfold rdO
    rw [g1, show ((P.length : Int) + 2).toNat = P.length + 2 from by omega, show ((P.length : Int) + 2 + (A.length : Int)).toNat - (P.length + 2) = A.length from by omega, List.drop_append, List.drop_of_length_le (by omega), show P.length + 2 - P.length = 2 from by omega]
    show List.take A.length ([] ++ (A ++ R)) = A
    rw [List.nil_append, List.take_left]
  have hl : ((P ++ (2 :: (A.length : Int) :: (A ++ R))).length : Int) = (P.length : Int) + 2 + (A.length : Int) + (R.length : Int) := by
    simp only [List.length_append, List.length_cons]
    omega
  unfold rd1
  rw [if_neg (by omega), if_pos g0, g1, if_neg hA, if_neg (by omega), go, if_neg h1, if_neg h2]
theorem rdFrom_go {ks acc : List Int} {f : Nat} {i v : Int} (hi : i < (ks.length : Int)) (h : rd1 ks i = some v) : rdFrom ks (f + 1) i acc = rdFrom ks f (i + 2 + ks.getD (i + 1).toNat 0) (acc ++ [v]) := by
  conv => lhs; unfold rdFrom
  rw [if_pos hi, h]
theorem rdFrom_fin {ks acc : List Int} {f : Nat} {i : Int} (hi : ¬ i < (ks.length : Int)) : rdFrom ks (f + 1) i acc = some acc := by
  unfold rdFrom
  rw [if_neg hi]
theorem rd2_ab {A B : List Int} (hA : (A.length : Int) ≠ 0) (h1 : ¬ 127 < A.getD 0 0) (h2 : ¬ (A.getD 0 0 = 0 ∧ 1 < (A.length : Int) ∧ A.getD 1 0 < 128)) (hB : (B.length : Int) ≠ 0) (h3 : ¬ 127 < B.getD 0 0) (h4 : ¬ (B.getD 0 0 = 0 ∧ 1 < (B.length : Int) ∧ B.getD 1 0 < 128))
    (hl : A.length + B.length ≤ 100) : rd2 (der A B) = some (KFB.value A, KFB.value B) := by
  have hlen : (der A B).length = A.length + B.length + 6 := der_len
  have q1 : (der A B).getD 1 0 = ((A.length + B.length + 4 : Nat) : Int) := rfl
  have r1 : rd1 (der A B) 2 = some (KFB.value A) := rd1_at (P := [48, ((A.length + B.length + 4 : Nat) : Int)]) hA h1 h2
  have g3 : (der A B).getD ((2 : Int) + 1).toNat 0 = (A.length : Int) := rfl
  have e2 : der A B = (48 :: ((A.length + B.length + 4 : Nat) : Int) :: 2 :: (A.length : Int) :: A) ++ (2 :: (B.length : Int) :: (B ++ [])) := by
    rw [List.append_nil]
    rfl
  have hP : ((48 :: ((A.length + B.length + 4 : Nat) : Int) :: 2 :: (A.length : Int) :: A).length : Int) = 2 + 2 + (A.length : Int) := by
    simp only [List.length_cons]
    omega
  have r2 : rd1 (der A B) (2 + 2 + (A.length : Int)) = some (KFB.value B) := by
    have h := rd1_at (P := 48 :: ((A.length + B.length + 4 : Nat) : Int) :: 2 :: (A.length : Int) :: A) (R := []) hB h3 h4
    rw [← e2, hP] at h
    exact h
  have g5 : (der A B).getD (2 + 2 + (A.length : Int) + 1).toNat 0 = (B.length : Int) := by
    have h := getD_app (48 :: ((A.length + B.length + 4 : Nat) : Int) :: 2 :: (A.length : Int) :: A) (2 :: (B.length : Int) :: (B ++ [])) 1
    rw [← e2] at h
    rw [show (2 + 2 + (A.length : Int) + 1).toNat = (48 :: ((A.length + B.length + 4 : Nat) : Int) :: 2 :: (A.length : Int) :: A).length + 1 from by simp only [List.length_cons]; omega]
    exact h
  have e : rdFrom (der A B) ((der A B).length + 1) 2 [] = some [KFB.value A, KFB.value B] := by
    rw [hlen, show A.length + B.length + 6 + 1 = (A.length + B.length + 4) + 1 + 1 + 1 from by omega, rdFrom_go (by omega) r1, g3, rdFrom_go (by omega) r2, g5, rdFrom_fin (by omega)]
    rfl
  unfold rd2
  rw [if_neg (by omega), if_pos (show (der A B).getD 0 0 = 48 from rfl), q1, if_pos (by omega), if_neg (by omega), e]
theorem octs_head {n : Int} (h0 : 0 ≤ n) : ¬ 127 < (octs n).getD 0 0 := by
  obtain ⟨N, rfl⟩ := nat_of h0
  unfold octs osz
  rw [bigs_succ, head_cast]
  show ¬ 127 < ((N / 256 ^ (Builtin.Int.intBits (N : Int) / 8) % 256 : Nat) : Int)
  have h1 : N / 256 ^ (Builtin.Int.intBits (N : Int) / 8) < 128 := by
    apply Nat.div_lt_of_lt_mul
    rw [p2, show (128 : Nat) = 2 ^ 7 from by decide, ← Nat.pow_add]
    exact Nat.lt_of_lt_of_le (bits_lt N) (Nat.pow_le_pow_right (by decide) (by omega))
  have h2 := Nat.mod_le (N / 256 ^ (Builtin.Int.intBits (N : Int) / 8)) 256
  omega
theorem octs_zero {n : Int} (h0 : 0 ≤ n) : ¬ ((octs n).getD 0 0 = 0 ∧ 1 < ((octs n).length : Int) ∧ (octs n).getD 1 0 < 128) := by
  obtain ⟨N, rfl⟩ := nat_of h0
  rintro ⟨h1, h2, h3⟩
  rw [octs_len] at h2
  have hq : osz (N : Int) = Builtin.Int.intBits (N : Int) / 8 + 1 := rfl
  obtain ⟨p, hp⟩ : ∃ p, Builtin.Int.intBits (N : Int) / 8 = p + 1 := ⟨Builtin.Int.intBits (N : Int) / 8 - 1, by omega⟩
  unfold octs at h1 h3
  rw [hq, hp, bigs_succ, head_cast] at h1 h3
  rw [bigs_succ, head_cast] at h3
  have h4 : ((N / 256 ^ (p + 1) % 256 : Nat) : Int) = 0 := h1
  have h5 : ((N / 256 ^ p % 256 : Nat) : Int) < 128 := h3
  have h6 : N / 256 ^ (p + 1) < 128 := by
    apply Nat.div_lt_of_lt_mul
    rw [p2, show (128 : Nat) = 2 ^ 7 from by decide, ← Nat.pow_add]
    exact Nat.lt_of_lt_of_le (bits_lt N) (Nat.pow_le_pow_right (by decide) (by omega))
  have h7 : N / 256 ^ (p + 1) = 0 := by
    rw [Nat.mod_eq_of_lt (by omega)] at h4
    omega
  have h8 : N < 256 ^ (p + 1) := by
    rcases Nat.div_eq_zero_iff.mp h7 with h | h
    · have : 0 < 256 ^ (p + 1) := Nat.pow_pos (by decide)
      omega
    · exact h
  have h9 : 2 ^ (8 * p + 7) ≤ N := bits_ge (by omega)
  have h10 : 128 ≤ N / 256 ^ p := by
    rw [Nat.le_div_iff_mul_le (Nat.pow_pos (by decide)), p2, show (128 : Nat) = 2 ^ 7 from by decide, ← Nat.pow_add, Nat.add_comm 7]
    exact h9
  have h11 : N / 256 ^ p < 256 := by
    apply Nat.div_lt_of_lt_mul
    rw [← Nat.pow_succ]
    exact h8
  rw [Nat.mod_eq_of_lt h11] at h5
  omega
theorem rd2_der {x y : Int} (h0 : 0 ≤ x) (h1 : x < 2 ^ 256) (h2 : 0 ≤ y) (h3 : y < 2 ^ 256) : rd2 (der (octs x) (octs y)) = some (x, y) := by
  have hx := octs_len x
  have hy := octs_len y
  have hx1 : 0 < osz x := Nat.succ_pos _
  have hy1 : 0 < osz y := Nat.succ_pos _
  have := osz_le h0 h1
  have := osz_le h2 h3
  rw [rd2_ab (by omega) (octs_head h0) (octs_zero h0) (by omega) (octs_head h2) (octs_zero h2) (by omega), value_octs h0, value_octs h2]
end
section
open PySem PySem.W PyProof.Rows
theorem words_W3 : True := by
  w_top off
  k_with "my_go0" => (
    k_fill
    intro w s₀ s₁ mg mb G Y fa o pm cd doc dV kV ho hd hcd hD hmg hg args vals as hpre hlay hrd hwl hlo
    have KX := kIn_of Y
    have X := (Ground.X G).1
    have V := (Ground.X G).2
    try w_nolog (first | (have GL := glob_more (Ground.glob G (by first | k_qdec | decide +kernel) (by first | k_qdec | decide +kernel)) V) | (have GL := glob_more (Ground.glob G (by decide +kernel)) V))
    refine Ground.open G ?_
    intro T B D TE TW
    try (refine guard_noD D (by decide +kernel) ?_; clear D)
    obtain ⟨_, _, M⟩ := bmod_of_top T
    have TA := at_of_top T
    try (obtain ⟨_, _, he, B0⟩ := based_of_top T rfl hmg ho hd; have he' : cd = _ := he; subst he'; clear he)
    clear hmg
    wrow_args hpre hlay hrd hwl hlo
    all_goals (
      first | refine callC_kw (enter_call ?_) | refine enter_call ?_ | refine callC_kw (enter_callW ?_) | refine enter_callW ?_ | w_how
      w_top off
      have K0 := below_caller (Top.heap T)
      w_call any ho hd hcd hD T F
      clear hd TA
      k_drop
      skip))
  k_with "to_for" => repeat' (first | ((fail_if_success (with_reducible show wpAny _ _ (exec (Stmt.For _ _ _ _ _) _) _ _ _)); (first | (k_unfold; (try dsimp only)) | (k_end; wrow_close) | walk1 | (dsimp only; walk1) | (leave1; try dsimp only))) | fail "no step")
  k_with "my_in" => repeat' (first | exact List.Mem.head _ | refine List.Mem.tail _ ?_)
  k_with "law_use" => ((case k1 => k_asm); (case k2 => k_asm); (case k3 => k_asm); (case k5 => k_asm); (case kK => first | exact rfl | assumption); (case kd => ktr_room); (case ku => ktr_units))
  k_with "law_call" => ((with_reducible show wpAny _ _ (call (Value.ref 63) [Value.ref _, Value.int _ _]) _ _ _); (with_reducible rename News _ _ _ _ => NN); k_dflt (refine' Claim.use (take_ok _ _ _ _ _ _ _ _ _ _ _ ?cne ?cit ?clen ?cm ?ci) ?k1 ?k2 ?k3 ?k4 ?k5 ?kK ?kd ?ku ?_; (walk_at "law_use"); (case k4 => exact List.forall_mem_cons.mpr ⟨NN _ (by walk_at "my_in"), List.forall_mem_cons.mpr ⟨NN _ (by walk_at "my_in"), fun _ q => nomatch q⟩⟩); (case cne => assumption); (case cit => assumption); (case clen => assumption); (case cm => first | decide | assumption | omega); (case ci => first | assumption | decide | omega); k_whole; intro v j t' h' tk' tj nj hv0 hv1 hj F' S' N'; (have N'' := news_box NN (by k_updF) (by k_memK) N' S'); clear N' S' NN; (try dsimp only at N''); (try dsimp only); (try k_sweep)))
  k_with "law_call" => ((with_reducible show wpAny _ _ (call (Value.ref 70) [Value.ref _]) _ _ _); (with_reducible rename News _ _ _ _ => NN); k_dflt (refine' Claim.use (number_ok _ _ _ _ _ _ _ _ _ ?cne ?cit ?clen ?ci) ?k1 ?k2 ?k3 ?k4 ?k5 ?kK ?kd ?ku ?_; (walk_at "law_use"); (case k4 => exact List.forall_mem_cons.mpr ⟨NN _ (by walk_at "my_in"), List.forall_mem_cons.mpr ⟨NN _ (by walk_at "my_in"), fun _ q => nomatch q⟩⟩); (case cne => assumption); (case cit => assumption); (case clen => assumption); (case ci => first | assumption | decide | omega); k_whole; intro v j t' h' tk' tj nj hv0 hv1 hj F' S' N'; (have hol := octs_le hv0 hv1); (have N'' := news_box NN (by k_updF) (by k_memK) N' S'); clear N' S' NN; (try dsimp only at N''); (try dsimp only); (try k_sweep)))
  k_with "law_call" => ((with_reducible show wpAny _ _ (call (Value.ref 77) [Value.int _ _]) _ _ _); k_dflt (refine' Claim.use (octets_ok _ _ _ _ ?cua ?cub) ?k1 ?k2 ?k3 ?k4 ?k5 ?kK ?kd ?ku ?_; (case cua => assumption); (case cub => assumption); (case k4 => k_asm); (walk_at "law_use"); k_whole; intro b' t' h' tk' hb' F' N'; (try dsimp only); (try k_sweep)))
  k_with "law_call" => ((with_reducible show wpAny _ _ (call (Value.ref 35) [Value.int _ _, Value.int _ _]) _ _ _); k_dflt (refine' ClaimG.use (gene_ok _ _ _ _ _ _ ?ca ?cb ?cc ?cd) ?k1 ?k2 ?k3 ?k4 ?k5 ?kK ?kd ?ku ?_; (case ca => assumption); (case cb => assumption); (case cc => assumption); (case cd => assumption); (case k4 => k_asm); (walk_at "law_use"); k_whole; intro G' h' g' tk' Y' F' N'; (try dsimp only)))
  k_with "my call type:bytes" => (k_here; (with_reducible show wpAny _ _ (call (Value.type "bytes") [Value.ref _]) _ _ _); (with_reducible rename Ready _ _ _ _ _ _ _ _ _ _ _ _ _ _ => Y'); k_dflt (refine' bytes_gen ?kh ?kr ?kl ?ki ?kz Y' ?_; (case kh => rfl); (case kr => ktr_room); (case kl => exact Top.nolimit (by k_asm)); (case ki => exact der_in (by assumption) (by assumption) (by assumption) (by assumption)); (case kz => exact der_sz (by assumption) (by assumption) (by assumption) (by assumption)); k_whole; intro h' t' k' g' b' hb' F' N' hg'; clear Y'; (have hdl := text_le hb' (by assumption) (by assumption)); (have hdp := len_pos hb'); (try dsimp only); (try k_sweep)))
  k_with "law_call" => ((with_reducible show wpAny _ _ (call (Value.ref 89) [Value.ref _]) _ _ _); (with_reducible rename News _ _ _ _ => NN); k_dflt (refine' Claim.use (text_ok _ _ _ _ _ _ _ _ _ ?cb ?cc ?cn ?cm) ?k1 ?k2 ?k3 ?k4 ?k5 ?kK ?kd ?ku ?_; (walk_at "law_use"); (case k4 => exact List.forall_mem_cons.mpr ⟨NN _ (by walk_at "my_in"), fun _ q => nomatch q⟩); (case cb => kba_ints2); (case cc => kba_ints2); (case cn => kba_size); (case cm => kba_size); k_whole; intro b' t' h' tk' hb' F' S' N'; (have N'' := news_same NN N' S' (List.forall_mem_cons.mpr ⟨by walk_at "my_in", fun _ q => nomatch q⟩)); clear N' S' NN; (try (have hpl := pad_le hb' (by assumption) (by assumption) (by assumption) (by assumption))); (try dsimp only at N''); (try dsimp only); (try k_sweep)))
  k_with "law_call" => ((with_reducible show wpAny _ _ (call (Value.ref 96) [Value.bytes _ _]) _ _ _); (with_reducible rename News _ _ _ _ => NN); k_dflt (refine' Claim.use (read_ok _ _ _ _ ?cb ?cn) ?k1 ?k2 ?k3 ?k4 ?k5 ?kK ?kd ?ku ?_; (walk_at "law_use"); (case k4 => exact fun _ q => nomatch q); (case cb => kba_ints2); (case cn => kba_size); k_whole; (first | (refine retNone NN (by walk_at "law_fact") ?_; intro h' tk' F' N') | (refine retSome NN (by walk_at "law_fact") ?_; intro x t' u' n' h' tk' F' N' hx'; (replace hx' := neAll_of hx'); (try dsimp only [neAll] at hx'))); clear NN; (try dsimp only); (try k_sweep)))
  k_with "law_call" => ((with_reducible show wpAny _ _ (call (Value.ref 103) [Value.bytes _ _]) _ _ _); (with_reducible rename News _ _ _ _ => NN); k_dflt (refine' ClaimL.use (told_ok _ _ _ _ _ ?cb ?cn) ?k1 ?k2 ?k3 ?k4 ?k5 ?kK ?kd ?ku ?_; (walk_at "law_use"); (case k4 => exact NN); (case cb => kba_ints2); (case cn => kba_size); k_whole; (first | (refine retValue (by walk_at "law_fact") ?_; intro t' h' tk' F' N') | (refine retIndex (by walk_at "law_fact") ?_; intro t' h' tk' F' N') | (refine retPair (by walk_at "law_fact") ?_; intro x t' u' n' h' tk' F' N' hx'; (replace hx' := neAll_of hx'); (try dsimp only [neAll] at hx'))); clear NN; (try dsimp only); (try k_sweep)))
  k_with "law_call" => ((with_reducible show wpAny _ _ (call (Value.ref 110) [Value.bytes _ _]) _ _ _); (with_reducible rename News _ _ _ _ => NN); k_dflt (refine' Claim.use (due_ok _ _ _ _ ?cb ?cn) ?k1 ?k2 ?k3 ?k4 ?k5 ?kK ?kd ?ku ?_; (walk_at "law_use"); (case k4 => exact fun _ q => nomatch q); (case cb => kba_ints2); (case cn => kba_size); k_whole; (first | (refine retValue0 NN (by walk_at "law_fact") ?_; intro t' h' tk' F' N') | (refine retIndex0 NN (by walk_at "law_fact") ?_; intro t' h' tk' F' N') | (refine retPair0 NN (by walk_at "law_fact") ?_; intro x t' u' n' h' tk' F' N' hx'; (replace hx' := neAll_of hx'); (try dsimp only [neAll] at hx'))); clear NN; (try dsimp only); (try k_sweep)))
  k_with "law_call" => ((with_reducible show wpAny _ _ (call (Value.ref 117) [Value.str _ _, Value.str _ _]) _ _ _); (with_reducible rename News _ _ _ _ => NN); k_dflt (refine' Claim.use (same_str _ _ _ _ (by first | exact Or.inl rfl | exact Or.inr rfl)) ?k1 ?k2 ?k3 ?k4 ?k5 ?kK ?kd ?ku ?_; (walk_at "law_use"); (case k4 => exact fun _ q => nomatch q); k_whole; intro h' tk' F' S'; (have N'' := news_keep NN S'); clear S' NN; (try dsimp only); (try k_sweep)))
  k_with "law_call" => ((with_reducible show wpAny _ _ (call (Value.ref 117) [Value.ref _, Value.ref _]) _ _ _); (with_reducible rename News _ _ _ _ => NN); k_dflt (refine' Claim.use (same_tup _ _ _ _ _ _ _ _ _ _ _) ?k1 ?k2 ?k3 ?k4 ?k5 ?kK ?kd ?ku ?_; (walk_at "law_use"); (case k4 => exact List.forall_mem_cons.mpr ⟨NN _ (by walk_at "my_in"), List.forall_mem_cons.mpr ⟨NN _ (by walk_at "my_in"), fun _ q => nomatch q⟩⟩); k_whole; intro h' tk' F' S' N'; (have N'' := news_same NN N' S' (List.forall_mem_cons.mpr ⟨by walk_at "my_in", List.forall_mem_cons.mpr ⟨by walk_at "my_in", fun _ q => nomatch q⟩⟩)); (first | (replace N'' := news_tail2 N'') | skip); clear N' S' NN; (try dsimp only at N''); (try dsimp only); (try k_sweep)))
  k_with "law_fact" => with_reducible (first | assumption | exact told_der (by assumption) (by assumption) (by assumption) (by assumption) | exact rd2_der (by assumption) (by assumption) (by assumption) (by assumption) | exact told_pad (by assumption) (by assumption) (by assumption) (by assumption) (by assumption) (by assumption) | exact told_first (by assumption) | exact told_sign1 (by assumption) | exact told_sign2 (by assumption) | exact told_more | exact told_cut | exact told_cut0)
  k_with "law_one" => (first | ((fail_if_success (with_reducible show wpAny _ _ (call (Value.ref _) _) _ _ _)); (fail_if_success (with_reducible show wpAny _ _ (exec (Stmt.For _ _ _ _ _) _) _ _ _)); (first | (k_unfold; (try dsimp only)) | (k_end; wrow_close) | walk1 | (dsimp only; walk1) | (leave1; try dsimp only))) | walk_at "law_call")
  k_with "law_steps" => repeat' (first | walk_at "law_one" | fail "no step")
  k_with "my compareOp NotEq bytes bytes" => (k_here; (with_reducible show wpAny _ _ (compareOp CmpOp.NotEq (Value.bytes _ _) (Value.bytes _ _)) _ _ _); (refine ne_same (by kba_ints2) (by kba_ints2) ?_))
  k_with "my binaryOp Mult bytes int" => (k_here; (refine mult_zero (by assumption) (by assumption) ?_); intro b' t' k' hb' hl')
  k_with "menu_in" => ((simp only [List.forall_mem_cons, List.not_mem_nil, false_implies, implies_true, and_true]); omega)
  k_with "my subscriptTail" => (k_here; (with_reducible show wpAny _ _ (subscriptTail _ _ (Value.ref _) (Value.int _ _)) _ _ _); first
    | ((with_unfolding_all refine' menu (fun f => (0 ≤ f ∧ f < 256) ∧ f ≠ 2) ?k1 ?k2 ?k3 ?k4 ?k5 ?kP ?_ ?k6; (case k1 => is_list); (case k2 => l_ints); (case k3 => l_idx); (case k4 => l_idx); (case k5 => l_idx); (case kP => walk_at "menu_in"); (case k6 => with_unfolding_all rfl); k_whole); intro f tf hPf; obtain ⟨⟨hPa, hPb⟩, hPc⟩ := hPf)
    | ((with_unfolding_all refine' menu (fun f => 0 ≤ f ∧ f < 256) ?k1 ?k2 ?k3 ?k4 ?k5 ?kP ?_ ?k6; (case k1 => is_list); (case k2 => l_ints); (case k3 => l_idx); (case k4 => l_idx); (case k5 => l_idx); (case kP => walk_at "menu_in"); (case k6 => with_unfolding_all rfl); k_whole); intro f tf hPf; obtain ⟨hPa, hPb⟩ := hPf))
  k_with "law_done" => (
    (with_reducible rename Fr _ _ _ _ => F6);
    (with_reducible rename News _ _ _ _ => N6);
    (with_reducible rename (∃ ext, _ = _ ++ ext ∧ AllBare ext) => hg6);
    (with_reducible rename AllBare _ => hG6);
    (have hgb := bare_ext hG6 hg6);
    (refine law_end (m := ?m) (news := ?news) (i := ?i) (ti := ?ti) (n0 := ?n0) ?f ?n ?la ?lb ?lc ?lg ?ld ?le);
    (case f => exact F6);
    (case n => exact N6);
    (case lg => exact hgb);
    (case ld => assumption);
    (case le => assumption);
    (case la => exact rfl);
    (case lc => exact List.forall_mem_cons.mpr ⟨by walk_at "my_in", List.forall_mem_cons.mpr ⟨by walk_at "my_in", List.forall_mem_cons.mpr ⟨by walk_at "my_in", fun _ q => nomatch q⟩⟩⟩);
    (case lb => assumption))
  trivial
theorem goodWG_true {c : ClaimW} {cl : Str → Option Addr} {mean : ExcName → Option Value} {args : List WData} {s₁ s' : Shared} {L : Addr} {m : Str → Option Value} (F : Fr s₁.heap L s'.heap m) (hg : AllBare s'.gens) (hn : ∀ cls, c.raises args cls = false)
    (hp : c.post args (.bool true) args = true) (hos : s'.os = s₁.os) : GoodWG c cl mean args s₁ (.ok (.ret (.bool true))) s' :=
  ⟨.inl ⟨_, .bool true, [], rfl, hn, .bool true, hp, fun _ => ⟨.nil, fun _ ha => nomatch ha⟩⟩, .of_keep F.keep, hos, hg⟩
/-- the ledger behind a call that kept its entries -/
theorem news_same {h₀ h' : Heap} {L : Addr} {s : Shared} {ns news : List (Addr × Obj)} (N : News h₀ L s.heap news) (N' : News h₀ L h' ns) (hs : Stood s ns h') (hsub : ∀ p ∈ ns, p ∈ news) : News h₀ L h' news := fun p hp => by
  by_cases q : p.1 ∈ ns.map (·.1)
  · obtain ⟨r, hr, e⟩ := List.mem_map.mp q
    have h1 := (N r (hsub r hr)).1
    have h2 := (N p hp).1
    rw [e] at h1
    rw [h1] at h2
    have h3 : r = p := Prod.ext e (Option.some.inj h2)
    exact h3 ▸ N' r hr
  · exact ⟨hs _ _ (N p hp).1 q, (N p hp).2⟩
theorem news_keep {h₀ h' : Heap} {L : Addr} {s : Shared} {news : List (Addr × Obj)} (N : News h₀ L s.heap news) (hs : Stood s [] h') : News h₀ L h' news := fun p hp => ⟨hs _ _ (N p hp).1 (by simp), (N p hp).2⟩
/-- the ledger behind a call that turned the box -/
theorem news_box {h₀ h' : Heap} {L bx b : Addr} {s : Shared} {old new ob : Obj} {news : List (Addr × Obj)} {g : Obj → List (Addr × Obj)} (N : News h₀ L s.heap news) (U : UpdF bx old news g) (hb : (b, ob) ∈ news)
    (N' : News h₀ L h' [(bx, new), (b, ob)]) (hs : Stood s [(bx, old), (b, ob)] h') : News h₀ L h' (g new) := by
  obtain ⟨pre, post, e, hg, h1, h2⟩ := U.split
  have key : ∀ p ∈ news, p.1 ≠ bx → h'.get? p.1 = some p.2 ∧ p.1 ≠ L ∧ h₀.get? p.1 = none := fun p hp hne => by
    by_cases q : p.1 = b
    · have e1 := (N p hp).1
      have e2 := (N _ hb).1
      rw [q] at e1
      rw [e1] at e2
      have : p = (b, ob) := Prod.ext q (Option.some.inj e2)
      rw [this]
      exact N' _ (.tail _ (.head _))
    · refine ⟨hs _ _ (N p hp).1 ?_, (N p hp).2⟩
      simp [hne, q]
  rw [hg]
  intro p hp
  rcases List.mem_append.mp hp with q | q
  · exact key p (e ▸ List.mem_append_left _ q) (h1 p q)
  · rcases List.mem_cons.mp q with rfl | q
    · exact N' _ (.head _)
    · exact key p (e ▸ List.mem_append_right _ (.tail _ q)) (h2 p q)
theorem fresh_ne {h₀ : Heap} {L x y : Addr} {s : Shared} {o : Obj} {news : List (Addr × Obj)} (N : News h₀ L s.heap news) (hm : (y, o) ∈ news) (hx : s.heap.get? x = none) : x ≠ y := fun e => by
  have := (N _ hm).1
  rw [show (y, o).1 = x from e.symm, hx] at this
  cases this
theorem octs_le {n : Int} (h0 : 0 ≤ n) (h1 : n < 2 ^ 256) : (octs n).length ≤ 33 := by
  have := osz_le h0 h1
  have := octs_len n
  omega
theorem text_le {b : Array UInt8} {x y : Int} (_ : KBw.bInts b = der (octs x) (octs y)) (hx : (octs x).length ≤ 33) (hy : (octs y).length ≤ 33) : (der (octs x) (octs y)).length ≤ 72 := by
  unfold der
  simp only [List.length_cons, List.length_append]
  omega
theorem bInts_inj {b c : Array UInt8} (h : KBw.bInts b = KBw.bInts c) : b = c := by
  unfold KBw.bInts at h
  apply Array.ext'
  have inj : ∀ (l r : List UInt8), l.map (fun c => (c.toNat : Int)) = r.map (fun c => (c.toNat : Int)) → l = r := by
    intro l
    induction l with
    | nil => intro r hr; cases r with
      | nil => rfl
      | cons => cases hr
    | cons x l ih =>
      intro r hr
      cases r with
      | nil => cases hr
      | cons y r =>
        rw [List.map_cons, List.map_cons, List.cons.injEq] at hr
        rw [ih r hr.2, UInt8.toNat_inj.mp (Int.ofNat.inj hr.1)]
  exact inj _ _ h
theorem ne_same {prog : Program} {w : World} {A : Around} {E : Value → Shared → Prop} {s : Shared} {b c : Array UInt8} {t u : Tok} {ks : List Int} {Q : Value → Shared → Prop} (hb : KBw.bInts b = ks) (hc : KBw.bInts c = ks) (h : Q (.bool false) s) : wpAny (model prog w) A (compareOp .NotEq (.bytes b t) (.bytes c u)) Q E s := by
  have e := bInts_inj (hb.trans hc.symm)
  subst e
  refine ne_bytes ?_
  simp
  exact h
theorem zero_flat : ∀ n : Nat, ((List.replicate n [(0 : UInt8)]).flatten).map (fun c => (c.toNat : Int)) = List.replicate n 0
  | 0 => rfl
  | n + 1 => by
    rw [List.replicate_succ, List.replicate_succ, List.flatten_cons, List.map_append, zero_flat n]
    rfl
theorem mult_zero {prog : Program} {w : World} {A : Around} {E : Value → Shared → Prop} {s : Shared} {n : Int} {t u : Tok} {Q : Value → Shared → Prop} (h0 : 0 ≤ n) (h1 : n < 4)
    (h : ∀ b t' k, KBw.bInts b = List.replicate n.toNat 0 → (List.replicate n.toNat (0 : Int)).length ≤ 4 → Q (.bytes b t') { s with toks := k }) : wpAny (model prog w) A (binaryOp .Mult (.bytes [(0 : UInt8)].toArray t) (.int n u)) Q E s :=
  bytes_mul_any (by decide) (by omega) (by omega) (by decide) fun t' k => h _ t' k (zero_flat _) (by rw [List.length_replicate]; omega)
def neAll (x : Addr) : List (Addr × Obj) → Prop
  | [] => True
  | p :: r => @Ne Nat p.1 x ∧ neAll x r
theorem neAll_of {x : Addr} : ∀ {l : List (Addr × Obj)}, (∀ p ∈ l, p.1 ≠ x) → neAll x l
  | [], _ => trivial
  | p :: _, h => ⟨h p (.head _), neAll_of fun q hq => h q (.tail _ hq)⟩
theorem news_tail2 {h₀ h : Heap} {L : Addr} {p q : Addr × Obj} {r : List (Addr × Obj)} (N : News h₀ L h (p :: q :: r)) : News h₀ L h r := fun x hx => N x (.tail _ (.tail _ hx))
theorem news_tail1 {h₀ h : Heap} {L : Addr} {p : Addr × Obj} {r : List (Addr × Obj)} (N : News h₀ L h (p :: r)) : News h₀ L h r := fun x hx => N x (.tail _ hx)
section
open PySem.W
variable {prog : Program} {w : World} {A : Around} {E : Value → Shared → Prop} {s : Shared}
theorem menu {value slice : PySem.Expr} {l : Addr} {vs : List Value} {ns : List Int} {k : Int} {u : Tok} {Q : Value → Shared → Prop} (P : Int → Prop) (hl : s.heap.IsList l vs.toArray) (hi : IntsAre vs ns) (h0 : 0 ≤ k) (h1 : k < (ns.length : Int)) (hf : k < 2 ^ 63)
    (hP : ∀ x ∈ ns, P x) (h : ∀ f t, P f → Q (.int f t) s)
    (hs : subscripted slice false (.ref l) (.int k u) = operate [.ref l, .int k u] (getItem (.ref l) (.int k u))) : wpAny (model prog w) A (subscriptTail value slice (.ref l) (.int k u)) Q E s := by
  refine item_anyK hl hi h0 h1 hf (fun t => h _ t (hP _ ?_)) hs
  have hlt : k.toNat < ns.length := by omega
  rw [show ns.getD k.toNat 0 = ns[k.toNat] from by simp [List.getD, hlt]]
  exact List.getElem_mem hlt
end
def Small (v : Value) : Prop := ∃ b t, v = .bytes b t ∧ (KBw.bInts b).length ≤ 300
theorem small_of {b : Array UInt8} {t : Tok} {ks : List Int} (h : KBw.bInts b = ks) (hn : ks.length ≤ 300) : Small (.bytes b t) := ⟨b, t, rfl, by rw [h]; exact hn⟩
theorem small_all {vs : List Value} (h : ∀ v ∈ vs, Small v) (v : Value) (hv : v ∈ vs) : Small v := h v hv
theorem pad_le {b : Array UInt8} {i j : Nat} {x y : Int} (_ : KBw.bInts b = der (List.replicate i 0 ++ octs x) (List.replicate j 0 ++ octs y)) (h1 : (List.replicate i (0 : Int)).length ≤ 4) (h2 : (List.replicate j (0 : Int)).length ≤ 4) (hx : (octs x).length ≤ 33) (hy : (octs y).length ≤ 33) :
    (der (List.replicate i 0 ++ octs x) (List.replicate j 0 ++ octs y)).length ≤ 80 := by
  rw [der_len, List.length_append, List.length_append]
  omega
theorem told_cut0 {A B : List Int} : told (List.take (4 + (A.length : Int)).toNat (der A B)) = .index := by
  have h := one_app A []
  rw [List.append_nil] at h
  rw [take_A, told_cons, h]
  rfl
theorem bare_ext {g g₀ : Array GenState} (h₀ : AllBare g₀) (h : ∃ ext, g = g₀ ++ ext ∧ AllBare ext) : AllBare g := by
  obtain ⟨ext, rfl, he⟩ := h
  exact bare_app h₀ he
theorem law_end {h₀ : Heap} {L bx b I : Addr} {vs : List Value} {nb n0 : Nat} {oI : Obj} {dr : Drawn} {os : OsState} {s : Shared} {i : Int} {ti : Tok} {m : Str → Option Value} {news : List (Addr × Obj)} (F : Fr h₀ L s.heap m) (N : News h₀ L s.heap news)
    (hm : m (Str.ofString "box") = some (.ref bx)) (hi : 0 ≤ i) (hsub : ∀ p ∈ [(bx, bobj b i ti n0), (b, sobj vs nb), (I, oI)], p ∈ news) (hG : AllBare s.gens) (hd : s.drawn = dr) (ho : s.os = os) : LawEnd h₀ L bx b vs nb I oI dr os s := by
  refine ⟨⟨i, ti, n0, m, hi, ?_, fun p hp => N p (hsub p hp)⟩, hG, hd, ho⟩
  have e : (fun y => if y = Str.ofString "box" then some (.ref bx) else m y) = m := by
    funext y
    split
    · rename_i q; rw [q, hm]
    · rfl
  rw [e]
  exact F
theorem news_erase {h₀ h : Heap} {L : Addr} {l : List (Addr × Obj)} (k : Nat) (N : News h₀ L h l) : News h₀ L h (l.eraseIdx k) := fun p hp => N p (List.mem_of_mem_eraseIdx hp)
section
variable {h₀ : Heap} {L : Addr} {m : Str → Option Value} {s : Shared} {Q : Value → Shared → Prop} {news : List (Addr × Obj)} {ks : List Int} {a b : Int}
theorem retPair (h : told ks = .pair a b) (k : ∀ x t u n h' tk', Fr h₀ L h' m → News h₀ L h' ((x, tup a b t u n) :: news) → (∀ p ∈ news, p.1 ≠ x) → Q (.ref x) { s with heap := h', toks := tk' }) : RetRes (told ks) news h₀ L m s Q := by
  rw [h]
  exact ⟨fun _ _ _ e => (nomatch e), fun _ _ _ e => (nomatch e), fun a' b' x t u n h' tk' e F N q => by cases e; exact k x t u n h' tk' F N q⟩
theorem retValue (h : told ks = .value) (k : ∀ t h' tk', Fr h₀ L h' m → News h₀ L h' news → Q (.str (Str.ofString "value") t) { s with heap := h', toks := tk' }) : RetRes (told ks) news h₀ L m s Q := by
  rw [h]
  exact ⟨fun t h' tk' _ F N => k t h' tk' F N, fun _ _ _ e => (nomatch e), fun _ _ _ _ _ _ _ _ e => (nomatch e)⟩
theorem retIndex (h : told ks = .index) (k : ∀ t h' tk', Fr h₀ L h' m → News h₀ L h' news → Q (.str (Str.ofString "index") t) { s with heap := h', toks := tk' }) : RetRes (told ks) news h₀ L m s Q := by
  rw [h]
  exact ⟨fun _ _ _ e => (nomatch e), fun t h' tk' _ F N => k t h' tk' F N, fun _ _ _ _ _ _ _ _ e => (nomatch e)⟩
theorem retPair0 (N : News h₀ L s.heap news) (h : told ks = .pair a b) (k : ∀ x t u n h' tk', Fr h₀ L h' m → News h₀ L h' ((x, tup a b t u n) :: news) → (∀ p ∈ news, p.1 ≠ x) → Q (.ref x) { s with heap := h', toks := tk' }) : RetRes0 (told ks) h₀ L m s Q := (retPair h k).to0 N
theorem retValue0 (N : News h₀ L s.heap news) (h : told ks = .value) (k : ∀ t h' tk', Fr h₀ L h' m → News h₀ L h' news → Q (.str (Str.ofString "value") t) { s with heap := h', toks := tk' }) : RetRes0 (told ks) h₀ L m s Q := (retValue h k).to0 N
theorem retIndex0 (N : News h₀ L s.heap news) (h : told ks = .index) (k : ∀ t h' tk', Fr h₀ L h' m → News h₀ L h' news → Q (.str (Str.ofString "index") t) { s with heap := h', toks := tk' }) : RetRes0 (told ks) h₀ L m s Q := (retIndex h k).to0 N
theorem retSome (N : News h₀ L s.heap news) (h : rd2 ks = some (a, b)) (k : ∀ x t u n h' tk', Fr h₀ L h' m → News h₀ L h' ((x, tup a b t u n) :: news) → (∀ p ∈ news, p.1 ≠ x) → Q (.ref x) { s with heap := h', toks := tk' }) : RetRead (rd2 ks) h₀ L m s Q := by
  rw [h]
  refine ⟨fun _ _ e => (nomatch e), fun a' b' x t u n h' tk' e F S N' q => ?_⟩
  cases e
  refine k x t u n h' tk' F ?_ fun p hp z => ?_
  · have N2 := news_keep N S
    intro p hp
    rcases List.mem_cons.mp hp with rfl | hp
    · exact N' _ (.head _)
    · exact N2 p hp
  · have := (N p hp).1
    rw [z, q] at this
    cases this
theorem retNone (N : News h₀ L s.heap news) (h : rd2 ks = none) (k : ∀ h' tk', Fr h₀ L h' m → News h₀ L h' news → Q .none { s with heap := h', toks := tk' }) : RetRead (rd2 ks) h₀ L m s Q := by
  rw [h]
  exact ⟨fun h' tk' _ F S => k h' tk' F (news_keep N S), fun _ _ _ _ _ _ _ _ e => (nomatch e)⟩
end
theorem der_in {x y : Int} (h0 : 0 ≤ x) (h1 : x < 2 ^ 256) (h2 : 0 ≤ y) (h3 : y < 2 ^ 256) : ∀ z ∈ der (octs x) (octs y), 0 ≤ z ∧ z < 256 := by
  intro z hz
  have := osz_le h0 h1
  have := octs_len x
  have := osz_le h2 h3
  have := octs_len y
  unfold der at hz
  rcases List.mem_cons.mp hz with rfl | hz
  · decide
  rcases List.mem_cons.mp hz with rfl | hz
  · omega
  rcases List.mem_append.mp hz with hz | hz
  · exact geni_in h0 h1 z hz
  · exact geni_in h2 h3 z hz
theorem der_sz {x y : Int} (h0 : 0 ≤ x) (h1 : x < 2 ^ 256) (h2 : 0 ≤ y) (h3 : y < 2 ^ 256) : (der (octs x) (octs y)).length ≤ sizeLine := by
  have := osz_le h0 h1
  have := octs_len x
  have := osz_le h2 h3
  have := octs_len y
  rw [der_len, sizeLine_eq]
  omega
theorem len_pos {b : Array UInt8} {x y : List Int} (_ : KBw.bInts b = der x y) : (0 : Int) < ((der x y).length : Int) := by rw [der_len]; omega
/-- one turn of the inner loop, shown ahead of the walk -/
structure Inner (prog : Program) (w : World) (A : Around) (h₀ : Heap) (L : Addr) (env : Env) (x : Str) (body : List Stmt) : Prop where
  on : ∀ (sB : Shared) (v : Value), Small v → ∀ (m : Str → Option Value) (news : List (Addr × Obj)) (h : Heap) (tk : Nat), Fr h₀ L h (fun y => if y = x then some v else m y) → News h₀ L h news →
    wpAny (model prog w) A (execs body env) (BentEnd h₀ L sB (fun y => if y = x then some v else m y) news) (fun _ _ => False) { sB with heap := h, toks := tk }
theorem with_inner {prog : Program} {w : World} {A : Around} {E : Value → Shared → Prop} {s : Shared} {Q : Flow → Shared → Prop} {h₀ : Heap} {L : Addr} {env : Env} {sts inner post : List Stmt} {x : Str} {px pos : Pos} {it : PySem.Expr} {hF : Heap} {mF : Str → Option Value} (_ : Fr h₀ L hF mF) (n : Nat)
    (_ : sts.drop n = .For (.Name x px) it inner [] pos :: post) (hi : Inner prog w A h₀ L env x inner) (k : Inner prog w A h₀ L env x inner → wpAny (model prog w) A (execs sts env) Q E s) : wpAny (model prog w) A (execs sts env) Q E s := k hi
theorem law_holds : PySem.Challenge.rw_jv0011_01.Holds := hd (by
  walk_at "my_go0"
  (all_goals try k_fold)
  walk_at "to_for"
  with_reducible rename Fr _ _ _ _ => F1
  with_reducible rename News _ _ _ _ => N1
  have hlen : (List.take 60 _).length ≤ 100 := Nat.le_trans (Nat.le_of_eq (by assumption)) (Nat.le_trans (Nat.min_le_left _ _) (by decide))
  refine law_for rfl rfl rfl F1 N1 (by decide) rfl (.of_eq (by assumption)) ?hev ?turn ?done (by intro _; rfl)
  case done =>
    intro s₂ m hG hd ho F2
    clear N1 F1
    dsimp only
    k_steps
    exact goodWG_true (by assumption) hG (fun _ => rfl) (by kernel_rfl) ho
  case hev =>
    k_steps
    · assumption
    · walk_at "my_drop"
  case turn =>
    intro k t u I oI i ti n0 s₂ hi hIx hIb hG F2 N2 hd ho
    have hbx : (_ : Addr) ≠ _ := Nat.ne_of_lt (by assumption : (_ : Addr) < _)
    clear N1 F1
    refine with_inner F2 12 rfl ?inner ?main
    case inner =>
      refine ⟨?_⟩
      intro sB v hv m news h tk F5 N5
      clear F2 N2
      obtain ⟨b, tb, rfl, hsz⟩ := hv
      have hin : ∀ k ∈ KBw.bInts b, 0 ≤ k ∧ k < 256 := fun k hk => KBw.ints_in hk
      obtain ⟨ks, hks⟩ : ∃ ks, KBw.bInts b = ks := ⟨_, rfl⟩
      rw [hks] at hsz hin
      rcases hR : rd2 ks with _ | ⟨p, q⟩
      · rcases hT : told ks with _ | _ | ⟨p, q⟩
        · walk_at "law_steps"
          exact ⟨rfl, _, _, rfl, by assumption, by walk_at "my_drop"⟩
        · walk_at "law_steps"
          exact ⟨rfl, _, _, rfl, by assumption, by walk_at "my_drop"⟩
        · walk_at "law_steps"
          exact ⟨rfl, _, _, rfl, by assumption, by walk_at "my_drop"⟩
      · have hT := rd2_told hin hR
        walk_at "law_steps"
        exact ⟨rfl, _, _, rfl, by assumption, by walk_at "my_drop"⟩
    case main =>
    intro hinner
    repeat' (first | ((fail_if_success (with_reducible show wpAny _ _ (exec (Stmt.Assign [Expr.Name (Str.ofString "first") _] _ _) _) _ _ _)); walk_at "law_one") | fail "stop")
    with_reducible rename News _ _ _ _ => NP
    replace NP := news_erase 3 NP
    replace NP := news_erase 1 NP
    replace NP := news_erase 0 NP
    dsimp only [List.eraseIdx] at NP
    with_reducible rename (@Ne Nat _ _ ∧ _) => hz
    clear hz
    with_reducible rename (@Ne Nat _ _ ∧ _) => hz
    clear hz
    repeat' (first | ((fail_if_success (with_reducible show wpAny _ _ (exec (Stmt.Assign [Expr.Name (Str.ofString "sign") _] _ _) _) _ _ _)); walk_at "law_one") | fail "stop")
    with_reducible rename News _ _ _ _ => NP
    replace NP := news_erase 0 NP
    dsimp only [List.eraseIdx] at NP
    repeat' (first | ((fail_if_success (with_reducible show wpAny _ _ (exec (Stmt.Assign [Expr.Name (Str.ofString "padded") _] _ _) _) _ _ _)); walk_at "law_one") | fail "stop")
    with_reducible rename News _ _ _ _ => NP
    replace NP := news_erase 0 NP
    dsimp only [List.eraseIdx] at NP
    repeat' (first | ((fail_if_success (with_reducible show wpAny _ _ (exec (Stmt.Assign [Expr.Name (Str.ofString "second") _] _ _) _) _ _ _)); walk_at "law_one") | fail "stop")
    with_reducible rename News _ _ _ _ => NP
    replace NP := news_erase 0 NP
    dsimp only [List.eraseIdx] at NP
    repeat' (first | ((fail_if_success (with_reducible show wpAny _ _ (exec (Stmt.Assign [Expr.Name (Str.ofString "texts") _] _ _) _) _ _ _)); walk_at "law_one") | fail "stop")
    walk_at "law_one"
    repeat' (first | ((fail_if_success (with_reducible show wpAny _ _ (exec (Stmt.Assign [Expr.Name (Str.ofString "texts") _] _ _) _) _ _ _)); walk_at "law_one") | fail "stop")
    with_reducible rename News _ _ _ _ => NP
    replace NP := news_erase 3 NP
    replace NP := news_erase 2 NP
    replace NP := news_erase 1 NP
    dsimp only [List.eraseIdx] at NP
    walk_at "law_one"
    repeat' (first | ((fail_if_success (with_reducible show wpAny _ _ (exec (Stmt.Assign [Expr.Name (Str.ofString "texts") _] _ _) _) _ _ _)); walk_at "law_one") | fail "stop")
    with_reducible rename News _ _ _ _ => NP
    replace NP := news_erase 3 NP
    replace NP := news_erase 2 NP
    replace NP := news_erase 1 NP
    dsimp only [List.eraseIdx] at NP
    walk_at "law_steps"
    with_reducible rename News _ _ _ _ => NP
    replace NP := news_erase 4 NP
    replace NP := news_erase 3 NP
    replace NP := news_erase 2 NP
    replace NP := news_erase 1 NP
    dsimp only [List.eraseIdx] at NP
    with_reducible rename Fr _ _ _ _ => F4
    with_reducible rename News _ _ _ _ => N4
    refine bent_for rfl rfl rfl F4 N4 (List.Mem.head _) ?hev2 ?turn2 ?done2 (by intro _; rfl)
    case hev2 => exact ld F4 rfl ⟨rfl, rfl⟩
    case turn2 =>
      refine fun v hv => hinner.on _ v (small_all ?_ v hv)
      repeat' (first | exact List.forall_mem_nil _ | (refine List.forall_mem_cons.mpr ⟨small_of (by assumption) (by kba_size), ?_⟩))
    case done2 =>
      intro h tk u F5 N5
      clear F4 N4 hinner
      dsimp only
      walk_at "law_steps"
      all_goals walk_at "law_done")
end
end Mine
theorem PySem.Challenge.cw_jv0011_01_holds : PySem.Challenge.rw_jv0011_01.Holds :=
  Mine.law_holds
