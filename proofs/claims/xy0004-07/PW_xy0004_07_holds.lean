import PyProof.Rows.All
import Wide.All
import OpenK.AllK
import Wide.FinOn
import PySem.Challenge.RW_xy0004_07
set_option Elab.async false
section
open PySem PySem.W PyProof.Rows PySem.Calls
set_option maxRecDepth 100000
namespace Mine
theorem small128 (P : Int → Bool) (h : ((List.range 128).all fun (n : Nat) => P (n : Int)) = true) {i : Int} (h0 : 0 ≤ i) (h1 : i < 128) : P i = true := by
  have := List.all_eq_true.mp h i.toNat (by simp; omega)
  rwa [Int.toNat_of_nonneg h0] at this
def brBits (i : Int) : Str := baseText "0b" 2 (Builtin.bitAnd i (2 ^ Int.toNat 7 - 1))
theorem bin_K {prog : Program} {w : World} {A : Around} {E : Value → Shared → Prop} {s : Shared} {i : Int} {t : Tok} {Q : Value → Shared → Prop} (h0 : 0 ≤ i) (h1 : i < 128) (h : Q (.str (brBits i) s.toks) { s with toks := s.toks + 1 }) :
    wpAny (model prog w) A (call (.builtin "bin") [.int (Builtin.bitAnd i (2 ^ Int.toNat 7 - 1)) t]) Q E s :=
  P.bin_of_int h (of_decide_eq_true (small128 (fun i => decide ((brBits i).length ≤ sizeLine)) (by decide +kernel) h0 h1))
theorem brBits_size {i : Int} (h0 : 0 ≤ i) (h1 : i < 128) : (brBits i).length ≤ sizeLine := of_decide_eq_true (small128 (fun i => decide ((brBits i).length ≤ sizeLine)) (by decide +kernel) h0 h1)
theorem brCut_size {i : Int} (h0 : 0 ≤ i) (h1 : i < 128) : (Txt.slice (brBits i) (some 2) none).length ≤ sizeLine := of_decide_eq_true (small128 (fun i => decide ((Txt.slice (brBits i) (some 2) none).length ≤ sizeLine)) (by decide +kernel) h0 h1)

/-- a text turned about: x[::-1] -/
def turned (x : Str) : Str := ⟨((Builtin.Str.strSliceIndices none none (-1) x.length).filterMap (x.cps[·]?)).toArray⟩
theorem slice_turned {prog : Program} {w : World} {A : Around} {E : Value → Shared → Prop} {s : Shared} {h₀ : Heap} {L : Addr} {m : Str → Option Value} {news : List (Addr × Obj)} {value slice : Expr} {x : Str} {t u : Tok} {Q : Value → Shared → Prop}
    (F' : Fr h₀ L s.heap m) (N : News h₀ L s.heap news) (hsz : (turned x).length ≤ sizeLine)
    (h : ∀ h' t' k, Fr h₀ L h' m → News h₀ L h' news → Q (.str (turned x) t') { s with heap := h', toks := k })
    (hs : subscripted slice false (.str x t) (.ref s.heap.objs.size) = operate [.ref s.heap.objs.size, .str x t] (getItem (.str x t) (.ref s.heap.objs.size)))
    (ht : ∀ r, letTemporaryGo value (.str x t) r = pure ()) :
    wpAny (model prog w) A (subscriptTail value slice (.str x t) (.ref s.heap.objs.size)) Q E { s with heap := s.heap.push { cls := .type "slice", data := .fields #[.none, .none, .int (-1) u] } } := by
  refine tail_of_ItemOn ⟨"str", _, F.slot_str_getitem.lookup, typeIs_str _ _ _, wpAny_getItem_str_slice (l := none) (u := none) (st := some (-1, u)) ⟨_, Heap.get?_push_size _ rfl, rfl, rfl⟩ rfl ?_⟩ hs ht
  exact ⟨hsz, h _ _ _ (F'.push _) (fun p hp => ⟨Heap.get?_push_of_some _ (N p hp).1, (N p hp).2⟩)⟩

/-- the text whose bits int(.., 2) reads -/
def brText (i : Int) : Str := turned (Txt.zfill (Txt.slice (brBits i) (some 2) none) 7)
#check @Txt.zfill
/-- seven bits turned about -/
def brv (i : Int) : Int := i % 2 * 64 + i / 2 % 2 * 32 + i / 4 % 2 * 16 + i / 8 % 2 * 8 + i / 16 % 2 * 4 + i / 32 % 2 * 2 + i / 64 % 2
theorem tree_eq {α : Type} {M : Model} {A : Around} {t t' : Sem α} {Q : α → Shared → Prop} {E : Value → Shared → Prop} {s : Shared} (e : t = t') (h : wpAny M A t' Q E s) : wpAny M A t Q E s := e ▸ h
theorem gives_int_bin (i : Int) (h0 : 0 ≤ i) (h1 : i < 128) (t u : Tok) : Gives (Builtin.«int.__new__» ⟨[.type "int", .str (brText i) t, .int 2 u], []⟩) (.int (brv i)) :=
  .of_wp fun M A E s Q h => by
    obtain ⟨hp, g, d, tk, os⟩ := s
    have f1 := F.conv_sub_int
    have f2 := F.madeHere_int
    generalize hx : brText i = x
    repeat (first | assumption | wp_step | fail "no")
    subst hx
    refine tree_eq (t' := mkInt (brv i)) ?_ ?_
    · clear h f1 f2
      obtain ⟨n, rfl⟩ := Int.eq_ofNat_of_zero_le h0
      have hn : n < 128 := by omega
      clear h0 h1
      iterate 128 (rcases n with _ | n; · kernel_rfl)
      omega
    · exact wpAny_mkInt (wpAny_pure ⟨_, rfl, h⟩)
end Mine
end
section
open PySem PySem.W PyProof.Rows PySem.Calls
set_option maxRecDepth 100000
namespace Mine
theorem typeCall_int2 (a b : Value) : checkTypeCall "int" ⟨[a, b], []⟩ = pure () := by kernel_rfl
theorem newCall_int2 (a b : Value) : checkBuiltinCall "int.__new__" ⟨[.type "int", a, b], []⟩ = pure () := by kernel_rfl
theorem entry_pow : entryFor table "pow" = some Builtin.«pow» := entryFor_of_tree (by kernel_rfl)
theorem kind_pow : builtinKind "pow" = none := by decide +kernel
theorem plain_pow : plainId "pow" = true := by decide +kernel
theorem args_pow3 (a b c : Value) : argsOk "pow" ⟨[a, b, c], []⟩ := by unfold argsOk; kernel_rfl
theorem slot_pow : Slot "int" (PySem.Str.ofString "__pow__") "int.__pow__" := F.slot_int_pow
theorem entry_int_pow : entryFor table "int.__pow__" = some Builtin.«int.__pow__» := entryFor_of_tree (by kernel_rfl)
theorem args_int_pow3 (a b c : Value) : argsOk "int.__pow__" ⟨[a, b, c], []⟩ := by unfold argsOk; kernel_rfl
section
variable {prog : Program} {w : World} {A : Around} {E : Value → Shared → Prop} {s : Shared}
theorem call_int_bin {i : Int} (h0 : 0 ≤ i) (h1 : i < 128) {t u : Tok} {Q : Value → Shared → Prop} (h : Q (.int (brv i) s.toks) { s with toks := s.toks + 1 }) :
    wpAny (model prog w) A (call (.type "int") [.str (brText i) t, .int 2 u]) Q E s :=
  callType_new F.called_int F.newNe_int (typeCall_int2 _ _) (newCall_int2 _ _) (fun obj => F.args_object_init_3 obj _ _) F.entry_int_new (gives_int_bin i h0 h1 t u).meets ⟨typeIs_int _ _ _, h⟩

/-- pow(a, e, 3329) for an e that is not below nothing -/
theorem int_pow3 (a e : Int) (he : 0 ≤ e) (t u v : Tok) : Gives (Builtin.«int.__pow__» ⟨[.int a t, .int e u, .int 3329 v], []⟩) (.int (Builtin.powMod (a % 3329).toNat e.natAbs 3329 : Nat)) :=
  .of_wp fun M A E s Q h => by
    obtain ⟨hp, g, d, tk, os⟩ := s
    have e1 : ¬ (e < 0) := by omega
    repeat (first | assumption | wp_step | fail "no")
    exact ⟨_, rfl, h⟩
theorem q_int {Q : Value → Shared → Prop} {x y : Int} {t : Tok} {s : Shared} (e : x = y) (h : Q (.int y t) s) : Q (.int x t) s := e ▸ h
set_option maxHeartbeats 4000000 in
theorem int_pow_inv (t u v : Tok) : Gives (Builtin.«int.__pow__» ⟨[.int 128 t, .int (-1) u, .int 3329 v], []⟩) (.int 3303) :=
  .of_wp fun M A E s Q h => by
    obtain ⟨hp, g, d, tk, os⟩ := s
    repeat (first | assumption | wp_step | fail "no")
    refine ⟨_, rfl, ?_⟩
    refine q_int (y := 3303) ?_ ?_
    · decide +kernel
    · exact h
theorem call_pow3 {a e m : Int} {r : Int} {t u v : Tok} {Q : Value → Shared → Prop} (g : Gives (Builtin.«int.__pow__» ⟨[.int a t, .int e u, .int m v], []⟩) (.int r)) (h : Q (.int r s.toks) { s with toks := s.toks + 1 }) :
    wpAny (model prog w) A (call (.builtin "pow") [.int a t, .int e u, .int m v]) Q E s := by
  refine call_function_entry kind_pow plain_pow entry_pow (args_pow3 _ _ _) ?_
  have l1 : typeLookup (.type "int") (PySem.Str.ofString "__pow__") = pure (some (.builtin "int.__pow__")) := slot_pow.lookup
  unfold Builtin.«pow»
  refine wpAny_bind (wpAny_of_eq (a := [some (.int a t), some (.int e u), some (.int m v)]) rfl ?_)
  dsimp only [Option.getD]
  refine wpAny_bind (wpAny_rule ?_)
  refine wpAny_bind (wpAny_of_eq (a := .type "int") rfl ?_)
  dsimp only
  refine wpAny_bind (wpAny_of_eq l1 ?_)
  dsimp only
  refine wpAny_bind ?_
  refine wpAny_callSpecial?_slot (M := model prog w) (T := "int") (id := "int.__pow__") (self := .int a t) (args := [.int e u, .int m v]) (kw := []) (name := PySem.Str.ofString "__pow__") ?_ ?_ ?_
  · exact typeIs_int s a t
  · exact slot_pow
  refine call_gives slot_pow (typeIs_int s a t) entry_int_pow (args_int_pow3 _ _ _) g ?_
  show wpAny (model prog w) A.in1 (ret (.int r s.toks)) _ E { s with toks := s.toks + 1 }
  exact wpAny_pure ⟨_, rfl, h⟩
end
end Mine
end
section
open PySem PySem.W PyProof.Rows PySem.Calls
set_option maxRecDepth 100000
namespace Mine
theorem brText_size {i : Int} (h0 : 0 ≤ i) (h1 : i < 128) : (brText i).length ≤ sizeLine := of_decide_eq_true (small128 (fun i => decide ((brText i).length ≤ sizeLine)) (by decide +kernel) h0 h1)
theorem brv_bounds (i : Int) : 0 ≤ brv i ∧ brv i < 128 := by unfold brv; omega
section
variable {prog : Program} {w : World} {A : Around} {E : Value → Shared → Prop} {s : Shared} {h₀ : Heap} {L : Addr} {m : Str → Option Value} {news : List (Addr × Obj)}
theorem slice_brText {value slice : Expr} {i : Int} {t u : Tok} {Q : Value → Shared → Prop} (h0 : 0 ≤ i) (h1 : i < 128)
    (F' : Fr h₀ L s.heap m) (N : News h₀ L s.heap news)
    (hs : subscripted slice false (.str (Txt.zfill (Txt.slice (brBits i) (some 2) none) 7) t) (.ref s.heap.objs.size) = operate [.ref s.heap.objs.size, .str (Txt.zfill (Txt.slice (brBits i) (some 2) none) 7) t] (getItem (.str (Txt.zfill (Txt.slice (brBits i) (some 2) none) 7) t) (.ref s.heap.objs.size)))
    (ht : ∀ r, letTemporaryGo value (.str (Txt.zfill (Txt.slice (brBits i) (some 2) none) 7) t) r = pure ())
    (h : ∀ h' t' k, Fr h₀ L h' m → News h₀ L h' news → Q (.str (brText i) t') { s with heap := h', toks := k }) :
    wpAny (model prog w) A (subscriptTail value slice (.str (Txt.zfill (Txt.slice (brBits i) (some 2) none) 7) t) (.ref s.heap.objs.size)) Q E { s with heap := s.heap.push { cls := .type "slice", data := .fields #[.none, .none, .int (-1) u] } } :=
  slice_turned F' N (brText_size h0 h1) h hs ht
def zetaOf (e : Int) : Int := (Builtin.powMod ((17 : Int) % 3329).toNat e.natAbs 3329 : Nat)
/-- pow(17, e, 3329) -/
theorem pow_zeta {e : Int} {t u v : Tok} {Q : Value → Shared → Prop} (he : 0 ≤ e) (h : Q (.int (zetaOf e) s.toks) { s with toks := s.toks + 1 }) :
    wpAny (model prog w) A (call (.builtin "pow") [.int 17 t, .int e u, .int 3329 v]) Q E s := call_pow3 (int_pow3 17 e he t u v) h
theorem pow_inv {t u v : Tok} {Q : Value → Shared → Prop} (h : Q (.int 3303 s.toks) { s with toks := s.toks + 1 }) :
    wpAny (model prog w) A (call (.builtin "pow") [.int 128 t, .int (-1) u, .int 3329 v]) Q E s := call_pow3 (int_pow_inv t u v) h
end
end Mine
end
section
open PySem PySem.W PyProof.Rows PySem.Calls
set_option maxRecDepth 100000
namespace Mine
theorem raises_bytes_item (b : Array UInt8) (i : Int) (t u : Tok) (hr : Builtin.Bytes.fitsIndex i = true) (h : (seqIndex? i b.size).bind (b[·]?) = none) :
    Meets (Builtin.«bytes.__getitem__» ⟨[.bytes b t, .int i u], []⟩) (raisesNew "IndexError") := by
  intro prog w A R s hS
  show wpAny _ _ (Builtin.Bytes.subscript? (.int i u) >>= fun r => _) _ _ s
  refine wpAny_bind ?_
  unfold Builtin.Bytes.subscript?
  refine wpAny_bind (wpAny_specialOf (typeIs_int s i u) F.slot_int_index.lookup ?_)
  show wpAny _ _ (if (!Builtin.Bytes.fitsIndex i) = true then _ else pure (some i)) _ _ s
  rw [hr]
  refine wpAny_pure ?_
  show wpAny _ _ (match (seqIndex? i b.size).bind (b[·]?) with | some x => retInt x.toNat | none => _) _ _ s
  rw [h]
  first
    | exact wpAny_bind (wpAny_rule (by exact_raiseError plainExc_IndexError hS.1 hS.2))
    | exact wpAny_bind (wpAny_rule (wpAny_bind (by exact_raiseError plainExc_IndexError hS.1 hS.2)))
section
variable {prog : Program} {w : World} {A : Around} {E : Value → Shared → Prop} {s : Shared} {value slice : Expr} {b : Array UInt8} {t ui : Tok} {i : Int} {Q : Value → Shared → Prop}
/-- an item of some bytes at a place that is not below nothing: it is there, or IndexError -/
theorem item_bytes_or (hh : A.handled = none) (hfit : b.size ≤ 1099511627776) (h0 : 0 ≤ i) (h9 : i < 1099511627776)
    (hs : subscripted slice false (.bytes b t) (.int i ui) = operate [.bytes b t, .int i ui] (getItem (.bytes b t) (.int i ui)))
    (ht : ∀ r, letTemporaryGo value (.bytes b t) r = pure ())
    (hin : i < (b.size : Int) → ∀ t' k, 0 ≤ (KBw.bInts b).getD i.toNat 0 → (KBw.bInts b).getD i.toNat 0 < 256 → Q (.int ((KBw.bInts b).getD i.toNat 0) t') { s with toks := k })
    (hout : (b.size : Int) ≤ i → ∀ h' tk e, Heap.NewExc s.heap h' e "IndexError" → E (.ref e) { s with heap := h', toks := tk }) :
    wpAny (model prog w) A (subscriptTail value slice (.bytes b t) (.int i ui)) Q E s := by
  by_cases hc : i < (b.size : Int)
  · refine KBw.item_K (ks := KBw.bInts b) rfl (by rw [KBw.ints_length]; exact hfit) h0 (by rw [KBw.ints_length]; exact hc) (fun t' k a c => hin hc t' k a c) hs ht
  · have g : wpAny (model prog w) A (getItem (.bytes b t) (.int i ui)) Q E s := by
      refine getItem_meets (typeIs_bytes _ _ _) (by decide) FB.slot_bytes_getitem FB.entry_bytes_getitem (FB.args_bytes_getitem_2 _ _) (raises_bytes_item b i t ui ?_ ?_) ⟨hh, fun h' tk e he => hout (by omega) h' tk e he⟩
      · simp only [Builtin.Bytes.fitsIndex, Bool.and_eq_true, decide_eq_true_eq]; omega
      · have h1 : ¬ i < 0 := by omega
        have h2 : ¬ (i < (b.size : Int)) := hc
        simp [seqIndex?, h1, h2]
    exact tail_of_ItemOn ⟨"bytes", _, FB.slot_bytes_getitem.lookup, typeIs_bytes _ _ _, g⟩ hs ht
end
section
variable {M : Model} {A : Around} {E : Value → Shared → Prop} {s : Shared} {K : Frag} {env : Env} {pos : Pos} {x C f : Addr} {ox : Obj} {od : Option Obj} {first : List Value} {Q : Value → Shared → Prop} {e : Expr} {rest : List Expr} {kws : List Keyword}
/-- an object called with keyword arguments -/
theorem inst_callWith_KW (_X : K.In s.heap) (_I : InstAt s.heap x ox C od) (hd : ox.data = .plain) (_hs : findIn K (.ref C) "__call__" = some (some (.ref f))) (hall : (backToKw pos (keywordEach kws env)).all (·.1.isSome) = true)
    (h : wpAny M A (spliced (backTo pos (starEach (e :: rest) env))) (fun vs s₁ => wpAny M A (evalAll ((backToKw pos (keywordEach kws env)).map (·.2)))
      (fun ks s₂ => kco_P K x C ox od s₂.heap ∧ wpAny M A (call (.ref x) (first ++ vs) (((backToKw pos (keywordEach kws env)).filterMap (·.1)).zip ks)) Q E s₂) E s₁) E s)
    (hplain : ((backTo pos (starEach (e :: rest) env)).any (·.1) || (backToKw pos (keywordEach kws env)).any (·.1.isNone)) = false := by rfl) (he : starEach (e :: rest) env = (false, eval e env) :: starEach rest env := by rfl) :
    wpAny M A (callWith pos (.ref x) first (backTo pos (starEach (e :: rest) env)) (backToKw pos (keywordEach kws env))) Q E s :=
  kco_callWith_of hplain hd (evalArgs_kw2 hall h he)
end
end Mine
end
section
open PySem PySem.W PyProof.Rows
namespace Mine
theorem ne_of_all {d a : Addr} {l : List (Addr × Obj)} (h : ∀ p ∈ l, p.1 < a) (e : @LE.le Nat _ a d) : ∀ p ∈ l, p.1 ≠ d := fun p hp => Nat.ne_of_lt (Nat.lt_of_lt_of_le (h p hp) e)
theorem off1_ne {D : Addr} : ∀ {l : List (Addr × Obj)}, LCg.Off1 D l → ∀ p ∈ l, p.1 ≠ D
  | [], _, _, h => nomatch h
  | _ :: _, x, p, h => by
    rcases List.mem_cons.mp h with rfl | h
    · exact x.1
    · exact off1_ne x.2 p h
theorem allLt_ne {d D : Addr} {l : List (Addr × Obj)} (h : AllLt D l) (e : @LE.le Nat _ D d) : ∀ p ∈ l, p.1 ≠ d := fun p hp => Nat.ne_of_lt (Nat.lt_of_lt_of_le (kst_ltOf h p hp) e)
theorem ints_cast {vs : List Value} {a b : List Int} (e : a = b) (h : IntsAre vs a) : IntsAre vs b := e ▸ h
theorem news_drop3 {h₀ h : Heap} {L : Addr} {a b c : Addr × Obj} {l : List (Addr × Obj)} (N : News h₀ L h (a :: b :: c :: l)) : News h₀ L h l := fun p hp => N p (.tail _ (.tail _ (.tail _ hp)))
theorem news_but4 {h₀ h : Heap} {L : Addr} {a b c d : Addr × Obj} {l : List (Addr × Obj)} (N : News h₀ L h (a :: b :: c :: d :: l)) : News h₀ L h (a :: b :: c :: l) := fun p hp => N p (by
  simp only [List.mem_cons] at hp ⊢
  rcases hp with h | h | h | h
  · exact .inl h
  · exact .inr (.inl h)
  · exact .inr (.inr (.inl h))
  · exact .inr (.inr (.inr (.inr h))))
theorem news_rot3 {h₀ h : Heap} {L : Addr} {a b c x d : Addr × Obj} {l : List (Addr × Obj)} (N : News h₀ L h (a :: b :: c :: x :: d :: l)) : News h₀ L h (x :: d :: a :: b :: c :: l) := fun p hp => N p (by
  simp only [List.mem_cons] at hp ⊢
  rcases hp with h | h | h | h | h | h
  · exact .inr (.inr (.inr (.inl h)))
  · exact .inr (.inr (.inr (.inr (.inl h))))
  · exact .inl h
  · exact .inr (.inl h)
  · exact .inr (.inr (.inl h))
  · exact .inr (.inr (.inr (.inr (.inr h)))))
theorem raisedN_drop2 {base h : Heap} {l : List Env} {e : Addr} {c : Value} {a b : Addr × Obj} {r : List (Addr × Obj)} (R : RaisedN base l e c (a :: b :: r) h) : RaisedN base l e c r h := by
  obtain ⟨B, a0, h1, h2, h3⟩ := R
  exact ⟨B, a0, h1, fun q hq => h2 q (.tail _ (.tail _ hq)), h3⟩
end Mine
end
section
open PySem PySem.W PyProof.Rows
namespace Mine
/-- the bits of the octets, the low ones first -/
def bitsOf (os : List Int) : List Int := os.flatMap fun o => (List.range 8).map fun t => o / 2 ^ t % 2
theorem bitsOf_length (os : List Int) : (bitsOf os).length = 8 * os.length := by
  unfold bitsOf; induction os with
  | nil => rfl
  | cons a r ih => simp only [List.flatMap_cons, List.length_append, List.length_map, List.length_range, List.length_cons, ih]; omega
end Mine
end
section
open PySem PySem.W PyProof.Rows PySem.Calls
namespace Mine
theorem compTurn_inner (elt tg1 it1 tg2 it2 : Expr) (scope : Scope) (pos : Pos) (it acc : Value) (env : Env) :
    compTurn (.ListComp elt [⟨tg1, it1, [], 0⟩, ⟨tg2, it2, [], 0⟩] scope pos) 1 it acc env = (standAt it2.pos >>= fun _ => pyNext it >>= fun r => match r with
      | none => pure (.done .next)
      | some v => letOwnedTupleGo tg2 it v >>= fun _ => assign tg2 env v >>= fun _ =>
        (eval elt env >>= fun x => call (.builtin "list.append") [acc, x] >>= fun _ => pure ()) >>= fun _ =>
          again (.compLoop (.ListComp elt [⟨tg1, it1, [], 0⟩, ⟨tg2, it2, [], 0⟩] scope pos) 1 it acc env)) := by rfl
theorem compTurn_outer (elt tg1 it1 tg2 it2 : Expr) (scope : Scope) (pos : Pos) (it acc : Value) (env : Env) :
    compTurn (.ListComp elt [⟨tg1, it1, [], 0⟩, ⟨tg2, it2, [], 0⟩] scope pos) 0 it acc env = (standAt it1.pos >>= fun _ => pyNext it >>= fun r => match r with
      | none => pure (.done .next)
      | some v => letOwnedTupleGo tg1 it v >>= fun _ => assign tg1 env v >>= fun _ =>
        (eval it2 env >>= fun x => standAt it2.pos >>= fun _ => foldedSetIterable it2 env x >>= fun x => holding [x] (pyIter x) >>= fun i2 =>
          runOwn (.compStart (.ListComp elt [⟨tg1, it1, [], 0⟩, ⟨tg2, it2, [], 0⟩] scope pos) 1 i2 acc env) env >>= fun _ =>
          again (.compLoop (.ListComp elt [⟨tg1, it1, [], 0⟩, ⟨tg2, it2, [], 0⟩] scope pos) 0 it acc env))) := by rfl
section
variable {prog : Program} {w : World} {A : Around} {E : Value → Shared → Prop} {R : Result → Shared → Prop} {s : Shared}
theorem codeAny_compLoop_inner {elt tg1 it1 tg2 it2 : Expr} {scope : Scope} {pos : Pos} {it acc : Value} {env : Env} (I : Nat → Shared → Prop)
    (turn : ∀ n s, I n s → wpAny (model prog w) A (pyNext it) (fun r s₁ => match r with
      | none => R (.ok .next) s₁
      | some v => wpAny (model prog w) A (assign tg2 env v) (fun _ s₂ => wpAny (model prog w) A (eval elt env) (fun x s₃ =>
          wpAny (model prog w) A (call (.builtin "list.append") [acc, x]) (fun _ s₄ => ∃ m, m < n ∧ I m s₄) (notedBy (model prog w) A env fun e s' => R (.error e) s') s₃)
          (notedBy (model prog w) A env fun e s' => R (.error e) s') s₂) (notedBy (model prog w) A env fun e s' => R (.error e) s') s₁) (notedBy (model prog w) A env fun e s' => R (.error e) s') s)
    (n : Nat) (h : I n s) (ht : ∀ v, letOwnedTupleGo tg2 it v = pure () := by intro _; rfl) :
    codeAny (model prog w) A (.compLoop (.ListComp elt [⟨tg1, it1, [], 0⟩, ⟨tg2, it2, [], 0⟩] scope pos) 1 it acc env) R s := by
  refine codeAny_loop rfl I (fun n s hI => ?_) n h
  show wpAny _ _ ((compTurn (.ListComp elt [⟨tg1, it1, [], 0⟩, ⟨tg2, it2, [], 0⟩] scope pos) 1 it acc env).onRaise (fun x => do noteFrame x env; theTreesLotGoes x)) _ _ s
  refine wpAny_noted ?_
  rw [compTurn_inner]
  refine wpAny_bind (wpAny_standAt (wpAny_bind (wpAny_mono (turn n s hI) (fun r s₁ h₁ => ?_) fun _ _ h' => h')))
  cases r with
  | none => exact wpAny_pure h₁
  | some v =>
    refine wpAny_bind (wpAny_of_eq (ht v) ?_)
    exact wpAny_bind (wpAny_mono h₁ (fun _ s₂ h₂ => wpAny_bind (wpAny_bind (wpAny_mono h₂ (fun x s₃ h₃ => wpAny_bind (wpAny_mono h₃
      (fun _ s₄ h₄ => wpAny_pure (wpAny_pure ⟨rfl, h₄⟩)) fun _ _ h' => h')) fun _ _ h' => h'))) fun _ _ h' => h')
theorem codeAny_compLoop_outer {elt tg1 it1 tg2 it2 : Expr} {scope : Scope} {pos : Pos} {it acc : Value} {env : Env} (I : Nat → Shared → Prop)
    (turn : ∀ n s, I n s → wpAny (model prog w) A (pyNext it) (fun r s₁ => match r with
      | none => R (.ok .next) s₁
      | some v => wpAny (model prog w) A (assign tg1 env v) (fun _ s₂ => wpAny (model prog w) A (eval it2 env) (fun x s₃ =>
          wpAny (model prog w) A (pyIter x) (fun i2 s₄ => wpAny (model prog w) A (runOwn (.compStart (.ListComp elt [⟨tg1, it1, [], 0⟩, ⟨tg2, it2, [], 0⟩] scope pos) 1 i2 acc env) env)
            (fun _ s₅ => ∃ m, m < n ∧ I m s₅) (notedBy (model prog w) A env fun e s' => R (.error e) s') s₄) (notedBy (model prog w) A env fun e s' => R (.error e) s') s₃)
          (notedBy (model prog w) A env fun e s' => R (.error e) s') s₂) (notedBy (model prog w) A env fun e s' => R (.error e) s') s₁) (notedBy (model prog w) A env fun e s' => R (.error e) s') s)
    (n : Nat) (h : I n s) (ht : ∀ v, letOwnedTupleGo tg1 it v = pure () := by intro _; rfl) (hs : ∀ x, foldedSetIterable it2 env x = pure x := by intro _; rfl) :
    codeAny (model prog w) A (.compLoop (.ListComp elt [⟨tg1, it1, [], 0⟩, ⟨tg2, it2, [], 0⟩] scope pos) 0 it acc env) R s := by
  refine codeAny_loop rfl I (fun n s hI => ?_) n h
  show wpAny _ _ ((compTurn (.ListComp elt [⟨tg1, it1, [], 0⟩, ⟨tg2, it2, [], 0⟩] scope pos) 0 it acc env).onRaise (fun x => do noteFrame x env; theTreesLotGoes x)) _ _ s
  refine wpAny_noted ?_
  rw [compTurn_outer]
  refine wpAny_bind (wpAny_standAt (wpAny_bind (wpAny_mono (turn n s hI) (fun r s₁ h₁ => ?_) fun _ _ h' => h')))
  cases r with
  | none => exact wpAny_pure h₁
  | some v =>
    refine wpAny_bind (wpAny_of_eq (ht v) ?_)
    refine wpAny_bind (wpAny_mono h₁ (fun _ s₂ h₂ => ?_) fun _ _ h' => h')
    refine wpAny_bind (wpAny_mono h₂ (fun x s₃ h₃ => ?_) fun _ _ h' => h')
    refine wpAny_bind (wpAny_standAt ?_)
    refine wpAny_bind (wpAny_of_eq (hs x) ?_)
    refine wpAny_bind (wpAny_holding (wpAny_mono h₃ (fun i2 s₄ h₄ => ?_) fun _ _ h' => h'))
    exact wpAny_bind (wpAny_mono h₄ (fun _ s₅ h₅ => wpAny_pure ⟨rfl, h₅⟩) fun _ _ h' => h')
theorem codeAny_compStart_inner {elt tg1 it1 tg2 it2 : Expr} {scope pos it acc env}
    (h0 : codeAny (model prog w) A (.compLoop (.ListComp elt [⟨tg1, it1, [], 0⟩, ⟨tg2, it2, [], 0⟩] scope pos) 1 it acc env) R s)
    (h : wpAny (model prog w) A (pyIter it) (fun it' s' => codeAny (model prog w) A (.compLoop (.ListComp elt [⟨tg1, it1, [], 0⟩, ⟨tg2, it2, [], 0⟩] scope pos) 1 it' acc env) R s')
      (notedBy (model prog w) A env fun x s' => R (.error x) s') s) :
    codeAny (model prog w) A (.compStart (.ListComp elt [⟨tg1, it1, [], 0⟩, ⟨tg2, it2, [], 0⟩] scope pos) 1 it acc env) R s := by
  refine codeAny_of_tree ?_
  show wpAny _ _ ((compStart (.ListComp elt [⟨tg1, it1, [], 0⟩, ⟨tg2, it2, [], 0⟩] scope pos) 1 it acc env).onRaise (fun x => do noteFrame x env; standAt theWindowsPlace)) _ _ s
  refine wpAny_notedAt ?_
  unfold compStart
  show wpAny _ _ (ask >>= _) _ _ s
  refine wpAny_bind (wpAny_askSetting (wpAny_ite ?_))
  split
  · first
      | exact wpAny_bind (wpAny_pure (wpAny_pure (And.intro rfl h0)))
      | exact wpAny_pure (And.intro rfl h0)
  · first
      | exact wpAny_bind (wpAny_rule (wpAny_bind (wpAny_standAt (wpAny_bind (wpAny_mono h (fun it' s' h' => wpAny_pure (And.intro rfl h')) fun _ _ x => x)))))
      | (refine wpAny_bind (wpAny_rule ?_); show wpAny _ _ (standAt it2.pos >>= _) _ _ s; exact wpAny_bind (wpAny_standAt (wpAny_bind (wpAny_mono h (fun it' s' h' => wpAny_pure (And.intro rfl h')) fun _ _ x => x))))
end
end Mine
end
section
open PySem PySem.W PyProof.Rows PySem.Calls
set_option maxRecDepth 100000
namespace Mine
/-- the element of the comprehension -/
def bitElt (q1 q2 q3 q4 q5 q6 q7 : Pos) : Expr :=
  .BinOp (.BinOp (.Name (Str.ofString "o") q1) .FloorDiv (.BinOp (.Constant (.int 2) 0 q2) .Pow (.Name (Str.ofString "t") q3) q4) q5) .Mod (.Constant (.int 2) 0 q6) q7
section
variable {prog : Program} {w : World} {A : Around} {E : Value → Shared → Prop} {s : Shared} {env : Env}
theorem eval_bitElt {q1 q2 q3 q4 q5 q6 q7 : Pos} {m : Str → Option Value} {o t : Int} {to tt : Tok} {Q : Value → Shared → Prop} (hk : env.scope.kind = .function)
    (ho : env.kindOf (Str.ofString "o") = some .local) (ht : env.kindOf (Str.ofString "t") = some .local) (hn : s.heap.Ns env.locals m)
    (vo : m (Str.ofString "o") = some (.int o to)) (vt : m (Str.ofString "t") = some (.int t tt)) (o0 : 0 ≤ o) (o1 : o < 256) (t0 : 0 ≤ t) (t1 : t < 8)
    (h : ∀ tk u, Q (.int (o / 2 ^ t.toNat % 2) u) { s with toks := tk }) :
    wpAny (model prog w) A (eval (bitElt q1 q2 q3 q4 q5 q6 q7) env) Q E s := by
  have hp : (0 : Int) < 2 ^ t.toNat := Int.pow_pos (by decide)
  have hp2 : (2 : Int) ^ t.toNat ≤ 2 ^ 7 := by
    have : (2 : Nat) ^ t.toNat ≤ 2 ^ 7 := Nat.pow_le_pow_right (by decide) (by omega)
    exact_mod_cast this
  have e7 : (2 : Int) ^ 7 = 128 := by decide
  rw [e7] at hp2
  generalize hP : (2 : Int) ^ t.toNat = P at *
  refine wpAny_BinOp (wpAny_BinOp (wpAny_Name (wpAny_loadName_local hk ho hn vo (wpAny_BinOp (wpAny_Constant_int (wpAny_Name (wpAny_loadName_local hk ht hn vt (pow_int_small t0 (by omega) (by decide) ?_)) (by decide)))) ) (by decide)))
  rw [hP]
  refine floordiv_int (by omega) ?_ (by exact Or.inl (PyProof.noPylong_small (by omega)))
  refine wpAny_Constant_int (mod_int (by decide) ?_)
  rw [Int.fdiv_eq_ediv_of_nonneg _ (by omega), Int.fmod_eq_emod_of_nonneg _ (by decide)]
  exact h _ _

def twoComp (elt : Expr) (p1 p2 p3 p4 p5 p6 : Pos) (scope : Scope) (pos : Pos) : Expr :=
  .ListComp elt [⟨.Name (Str.ofString "o") p1, .Name (Str.ofString "octets") p2, [], 0⟩, ⟨.Name (Str.ofString "t") p3, .Call (.Name (Str.ofString "range") p4) [.Constant (.int 8) 0 p5] [] p6, [], 0⟩] scope pos
theorem inner_loop {q1 q2 q3 q4 q5 q6 q7 p1 p2 p3 p4 p5 p6 : Pos} {scope : Scope} {pos : Pos} {h₀ : Heap} {L I I2 D : Addr} {oI : Obj} {m mc : Str → Option Value} {news : List (Addr × Obj)} {ys : List Value} {pre : List Int} {o : Int} {to : Tok} {R : Result → Shared → Prop}
    (hh : A.handled = none) (hk : env.scope.kind = .function) (ho : env.kindOf (Str.ofString "o") = some .local) (ht : env.kindOf (Str.ofString "t") = some .local)
    (F : Fr h₀ L s.heap m) (N : News h₀ L s.heap ((I, oI) :: (D, LCg.lst ys) :: news)) (hn : s.heap.Ns env.locals mc) (vo : mc (Str.ofString "o") = some (.int o to)) (o0 : 0 ≤ o) (o1 : o < 256)
    (hI : IntsAre ys pre) (hsz : ys.length + 8 ≤ sizeLine) (hit : IsRangeIter s.heap I2 0 8 1)
    (hC₀ : h₀.get? env.locals = none) (hCL : env.locals ≠ L) (h2₀ : h₀.get? I2 = none) (h2L : I2 ≠ L) (h2C : I2 ≠ env.locals) (h2N : ∀ p ∈ (I, oI) :: (D, LCg.lst ys) :: news, p.1 ≠ I2) (hCN : ∀ p ∈ (I, oI) :: (D, LCg.lst ys) :: news, p.1 ≠ env.locals)
    (hDN : ∀ p ∈ (I, oI) :: news, p.1 ≠ D)
    (h : ∀ h' tk ys' mc', Fr h₀ L h' m → News h₀ L h' ((I, oI) :: (D, LCg.lst ys') :: news) → h'.Ns env.locals mc' → IntsAre ys' (pre ++ (List.range 8).map fun t => o / 2 ^ t % 2) → R (.ok .next) { s with heap := h', toks := tk }) :
    codeAny (model prog w) A (.compLoop (twoComp (bitElt q1 q2 q3 q4 q5 q6 q7) p1 p2 p3 p4 p5 p6 scope pos) 1 (.ref I2) (.ref D) env) R s := by
  have W := LCg.range_walks (prog := prog) (w := w) (I := I2) hh 0 8
  refine codeAny_compLoop_inner
    (fun k s' => ∃ h' tk i ys' mc', s' = { s with heap := h', toks := tk } ∧ i ≤ 8 ∧ k = 8 + 1 - i ∧ IsRangeIter h' I2 (0 + (i : Nat) * 1) (((8 : Nat) : Int) - (i : Nat)) 1 ∧ Fr h₀ L h' m ∧ News h₀ L h' ((I, oI) :: (D, LCg.lst ys') :: news) ∧
      h'.Ns env.locals mc' ∧ mc' (Str.ofString "o") = some (.int o to) ∧ ys'.length = ys.length + i ∧ IntsAre ys' (pre ++ (List.range i).map fun t => o / 2 ^ t % 2)) ?_ (8 + 1)
    ⟨s.heap, s.toks, 0, ys, mc, rfl, Nat.zero_le _, rfl, hit, F, N, hn, vo, rfl, by simpa using hI⟩
  rintro k s' ⟨h', tk, i, ys', mc', rfl, hi, rfl, hit', F', N', hn', vo', hl', hI'⟩
  have n2 : ∀ p ∈ (I, oI) :: (D, LCg.lst ys') :: news, p.1 ≠ I2 := fun p hp => by
    rcases List.mem_cons.mp hp with rfl | hp
    · exact h2N _ List.mem_cons_self
    · rcases List.mem_cons.mp hp with rfl | hp
      · exact h2N (D, LCg.lst ys) (List.mem_cons_of_mem _ List.mem_cons_self)
      · exact h2N _ (List.mem_cons_of_mem _ (List.mem_cons_of_mem _ hp))
  have nC : ∀ p ∈ (I, oI) :: (D, LCg.lst ys') :: news, p.1 ≠ env.locals := fun p hp => by
    rcases List.mem_cons.mp hp with rfl | hp
    · exact hCN _ List.mem_cons_self
    · rcases List.mem_cons.mp hp with rfl | hp
      · exact hCN (D, LCg.lst ys) (List.mem_cons_of_mem _ List.mem_cons_self)
      · exact hCN _ (List.mem_cons_of_mem _ (List.mem_cons_of_mem _ hp))
  by_cases hlt : i < 8
  · refine W.item i _ _ _ hlt hit' fun v h₂ tk₂ hPv hst₂ hk₂ => ?_
    obtain ⟨tt, rfl⟩ := hPv
    have F₂ := LCg.fr_but F' hk₂ (Ne.symm h2L) h2₀
    have N₂ := LCg.news_but N' hk₂ n2
    refine wpAny_assign_Name (wpAny_storeName_local ht (hn'.at' fun o e => hk₂ _ o (by simpa using Ne.symm h2C) e) (fun h₃ hn₃ hs₃ => ?_) (by simp [hk]))
    have F₃ := F₂.change hs₃ hCL hC₀
    have N₃ : News h₀ L h₃ _ := fun p hp => ⟨hs₃.extBut _ _ (nC p hp) (N₂ p hp).1, (N₂ p hp).2⟩
    refine eval_bitElt hk ho ht hn₃ (o := o) (t := 0 + (i : Int)) (to := to) (tt := tt) (by simpa [show (Str.ofString "o" = Str.ofString "t") = False by decide] using vo') (by simp) o0 o1 (by omega) (by omega) fun tk₄ u => ?_
    have zD := N₃ (D, LCg.lst ys') (List.mem_cons_of_mem _ List.mem_cons_self)
    refine append_at (hsz := by show ys'.toArray.size ≤ sizeLine; rw [List.size_toArray, hl']; omega) zD.1 fun h₅ hs₅ hD₅ => ?_
    refine ⟨8 + 1 - (i + 1), by omega, h₅, tk₄, i + 1, ys' ++ [.int (o / 2 ^ (0 + (i : Int)).toNat % 2) u], _, rfl, hlt, rfl, ?_, F₃.change hs₅ zD.2.1 zD.2.2, ?_, hn₃.sameBut hs₅ ?_, ?_, by rw [List.length_append, List.length_singleton, hl']; rfl, ?_⟩
    · exact W.frame _ _ _ (W.frame _ _ _ hst₂ fun b hb o e => hs₃.extBut b o (by rw [List.mem_singleton.mp hb]; exact h2C) e) fun b hb o e => hs₅.extBut b o (by rw [List.mem_singleton.mp hb]; exact Ne.symm (n2 _ (List.mem_cons_of_mem _ List.mem_cons_self))) e
    · intro p hp
      rcases List.mem_cons.mp hp with rfl | hp
      · exact ⟨hs₅.extBut _ _ (hDN _ List.mem_cons_self) (N₃ _ List.mem_cons_self).1, (N₃ _ List.mem_cons_self).2⟩
      · rcases List.mem_cons.mp hp with rfl | hp
        · exact ⟨hD₅.trans (congrArg some (LCg.lst_snoc ys' _)), zD.2⟩
        · exact ⟨hs₅.extBut _ _ (hDN _ (List.mem_cons_of_mem _ hp)) (N₃ _ (List.mem_cons_of_mem _ (List.mem_cons_of_mem _ hp))).1, (N₃ _ (List.mem_cons_of_mem _ (List.mem_cons_of_mem _ hp))).2⟩
    · exact Ne.symm (nC _ (List.mem_cons_of_mem _ List.mem_cons_self))
    · simpa [show (Str.ofString "o" = Str.ofString "t") = False by decide] using vo'
    · rw [List.range_succ, List.map_append, ← List.append_assoc]
      refine IntsAre.append hI' ?_
      have : (0 + (i : Int)).toNat = i := by omega
      rw [this]
      exact .cons _ _ .nil
  · obtain rfl : i = 8 := by omega
    refine W.done _ _ _ hit' fun h₂ tk₂ hk₂ => ?_
    exact h h₂ tk₂ ys' mc' (LCg.fr_but F' hk₂ (Ne.symm h2L) h2₀) (LCg.news_but N' hk₂ n2) (hn'.at' fun o e => hk₂ _ o (by simpa using Ne.symm h2C) e) hI'
end
end Mine
end
section
open PySem PySem.W PyProof.Rows PySem.Calls
set_option maxRecDepth 100000
namespace Mine
theorem bitsOf_snoc (l : List Int) (o : Int) : bitsOf (l ++ [o]) = bitsOf l ++ (List.range 8).map fun t => o / 2 ^ t % 2 := by
  unfold bitsOf; rw [List.flatMap_append, List.flatMap_singleton]
section
variable {prog : Program} {w : World} {A : Around} {s : Shared} {env : Env}
theorem outer_loop {q1 q2 q3 q4 q5 q6 q7 p1 p2 p3 p4 p5 p6 : Pos} {scope : Scope} {pos : Pos} {h₀ : Heap} {L I D : Addr} {m mc mg mb : Str → Option Value} {news : List (Addr × Obj)} {b : Array UInt8} {tb : Tok} {R : Result → Shared → Prop}
    (hh : A.handled = none) (hk : env.scope.kind = .function) (ho : env.kindOf (Str.ofString "o") = some .local) (ht : env.kindOf (Str.ofString "t") = some .local)
    (hx : env.kindOf (Str.ofString "range") = some .globalImplicit) (hg : h₀.Ns env.globals mg) (hmiss : mg (Str.ofString "range") = none) (hb : h₀.Ns env.builtins mb) (hv : mb (Str.ofString "range") = some (.type "range"))
    (F : Fr h₀ L s.heap m) (N : News h₀ L s.heap ((D, LCg.lst []) :: news)) (hn : s.heap.Ns env.locals mc)
    (hsz : 8 * b.size ≤ sizeLine) (hit : KBw.IsBytesIter s.heap I b tb 0)
    (hC₀ : h₀.get? env.locals = none) (hCL : env.locals ≠ L) (hI₀ : h₀.get? I = none) (hIL : I ≠ L) (hIC : I ≠ env.locals) (hIN : ∀ p ∈ (D, LCg.lst []) :: news, p.1 ≠ I) (hCN : ∀ p ∈ (D, LCg.lst []) :: news, p.1 ≠ env.locals)
    (hDN : ∀ p ∈ news, p.1 ≠ D)
    (h : ∀ h' tk ys' mc', Fr h₀ L h' m → News h₀ L h' ((D, LCg.lst ys') :: news) → h'.Ns env.locals mc' → IntsAre ys' (bitsOf (KBw.bInts b)) → R (.ok .next) { s with heap := h', toks := tk }) :
    codeAny (model prog w) A (.compLoop (twoComp (bitElt q1 q2 q3 q4 q5 q6 q7) p1 p2 p3 p4 p5 p6 scope pos) 0 (.ref I) (.ref D) env) R s := by
  have W := KBw.walks (prog := prog) (w := w) (A := A) hh I b tb
  refine codeAny_compLoop_outer
    (fun k s' => ∃ h' tk i ys' mc', s' = { s with heap := h', toks := tk } ∧ i ≤ b.size ∧ k = b.size + 1 - i ∧ KBw.IsBytesIter h' I b tb i ∧ Fr h₀ L h' m ∧ News h₀ L h' ((D, LCg.lst ys') :: news) ∧
      h'.Ns env.locals mc' ∧ ys'.length = 8 * i ∧ IntsAre ys' (bitsOf ((KBw.bInts b).take i))) ?_ (b.size + 1)
    ⟨s.heap, s.toks, 0, [], mc, rfl, Nat.zero_le _, rfl, hit, F, N, hn, rfl, .nil⟩
  rintro k s' ⟨h', tk, i, ys', mc', rfl, hi, rfl, hit', F', N', hn', hl', hI'⟩
  have nI : ∀ p ∈ (D, LCg.lst ys') :: news, p.1 ≠ I := fun p hp => by
    rcases List.mem_cons.mp hp with rfl | hp
    · exact hIN (D, LCg.lst []) List.mem_cons_self
    · exact hIN _ (List.mem_cons_of_mem _ hp)
  have nC : ∀ p ∈ (D, LCg.lst ys') :: news, p.1 ≠ env.locals := fun p hp => by
    rcases List.mem_cons.mp hp with rfl | hp
    · exact hCN (D, LCg.lst []) List.mem_cons_self
    · exact hCN _ (List.mem_cons_of_mem _ hp)
  by_cases hlt : i < b.size
  · refine W.item i _ _ _ hlt hit' fun v h₂ tk₂ hPv hst₂ hk₂ => ?_
    obtain ⟨c, u, hc, rfl⟩ := hPv
    have F₂ := LCg.fr_but F' hk₂ (Ne.symm hIL) hI₀
    have N₂ := LCg.news_but N' hk₂ nI
    refine wpAny_assign_Name (wpAny_storeName_local ho (hn'.at' fun o e => hk₂ _ o (by simpa using Ne.symm hIC) e) (fun h₃ hn₃ hs₃ => ?_) (by simp [hk]))
    have F₃ := F₂.change hs₃ hCL hC₀
    have N₃ : News h₀ L h₃ _ := fun p hp => ⟨hs₃.extBut _ _ (nC p hp) (N₂ p hp).1, (N₂ p hp).2⟩
    have hst₃ := W.frame _ _ _ hst₂ fun b hb o e => hs₃.extBut b o (by rw [List.mem_singleton.mp hb]; exact hIC) e
    refine wpAny_Call_NameR (Calls.Name_function_global hk hx (Calls.loadGlobal_builtin (hg.keeps F₃.keep) hmiss (hb.keeps F₃.keep) hv ?_))
    rw [show backTo p6 (starEach [Expr.Constant (Const.int 8) 0 p5] env) = [(false, eval (Expr.Constant (Const.int 8) 0 p5) env)] from rfl]
    refine PySem.callWith_type rfl (Calls.evalArgs_plain (Calls.spliced_cons (wpAny_Constant_int (Calls.spliced_nil ?_))))
    refine call_range_1 ?_
    refine wpAny_pyIter_range (IsRange.new ..) (small_one (by decide) (by decide) (by decide) (by decide)) ?_
    dsimp only
    generalize hH4 : h₃.push _ = h₄
    have k34 : ∀ b o, h₃.get? b = some o → h₄.get? b = some o := fun b o e => hH4 ▸ Heap.get?_push_of_some _ e
    have e5 : Builtin.Range.rangeSize 0 8 1 = 8 := by decide +kernel
    have hit₂ : IsRangeIter (h₄.push { cls := .type "range_iterator", data := .fields #[rawInt 0, rawInt (Builtin.Range.rangeSize 0 8 1), rawInt 1] }) h₄.objs.size 0 8 1 := by
      rw [e5]; exact Heap.get?_push_size _ rfl
    generalize hH5 : h₄.push _ = h₅ at hit₂ ⊢
    have k45 : ∀ b o, h₄.get? b = some o → h₅.get? b = some o := fun b o e => hH5 ▸ Heap.get?_push_of_some _ e
    have k35 := fun b o e => k45 b o (k34 b o e)
    obtain ⟨oI, heI, hoI⟩ := id hst₃
    have F₄ := F₃.keeps k34
    have N₅ : News h₀ L h₅ ((I, oI) :: (D, LCg.lst ys') :: news) := fun p hp => by
      rcases List.mem_cons.mp hp with rfl | hp
      · exact ⟨k35 _ _ heI, hIL, hI₀⟩
      · exact ⟨k35 _ _ (N₃ p hp).1, (N₃ p hp).2⟩
    have lt4 : ∀ a o, h₃.get? a = some o → a ≠ h₄.objs.size := fun a o e => Nat.ne_of_lt (Heap.lt_size (k34 _ _ e))
    have hcb : (KBw.bInts b)[i]? = some (c.toNat : Int) := by unfold KBw.bInts; simp [hc]
    have htk : (KBw.bInts b).take (i + 1) = (KBw.bInts b).take i ++ [(c.toNat : Int)] := by rw [List.take_add_one, hcb]; rfl
    refine wpAny_runOwn ?_
    have key : ∀ R' : Result → Shared → Prop, (∀ h' tk ys' mc', Fr h₀ L h' m → News h₀ L h' ((I, oI) :: (D, LCg.lst ys') :: news) → h'.Ns env.locals mc' → ys'.length = 8 * (i + 1) → IntsAre ys' (bitsOf ((KBw.bInts b).take (i + 1))) → R' (.ok .next) { s with heap := h', toks := tk }) →
        ∀ tk₅, codeAny (model prog w) A (.compLoop (twoComp (bitElt q1 q2 q3 q4 q5 q6 q7) p1 p2 p3 p4 p5 p6 scope pos) 1 (.ref h₄.objs.size) (.ref D) env) R' { s with heap := h₅, toks := tk₅ } := by
      intro R' hR' tk₅
      refine inner_loop (s := { s with heap := h₅, toks := tk₅ }) (o := (c.toNat : Int)) hh hk ho ht (F₃.keeps k35) N₅ (hn₃.keeps k35) (by simp; rfl) (by omega) (by have := c.toNat_lt; omega) hI' (by omega) hit₂ hC₀ hCL (next_is_new F₄)
        (Nat.ne_of_gt F₄.ns.lt) (Nat.ne_of_gt (hn₃.keeps k34).lt) ?_ ?_ ?_ ?_
      · intro p hp
        rcases List.mem_cons.mp hp with rfl | hp
        · exact lt4 _ _ heI
        · exact lt4 _ _ (N₃ p hp).1
      · intro p hp
        rcases List.mem_cons.mp hp with rfl | hp
        · exact hIC
        · exact nC p hp
      · intro p hp
        rcases List.mem_cons.mp hp with rfl | hp
        · exact Ne.symm (nI _ List.mem_cons_self)
        · exact hDN p hp
      · intro h' tk ys'' mc' F₆ N₆ hn₆ hI₆
        have hl := IntsAre.length hI₆
        refine hR' h' tk ys'' mc' F₆ N₆ hn₆ ?_ ?_
        · rw [hl, List.length_append, ← IntsAre.length hI', List.length_map, List.length_range, hl']; omega
        · rw [htk, bitsOf_snoc]; exact hI₆
    have fin : ∀ h' tk ys' mc', Fr h₀ L h' m → News h₀ L h' ((I, oI) :: (D, LCg.lst ys') :: news) → h'.Ns env.locals mc' → ys'.length = 8 * (i + 1) → IntsAre ys' (bitsOf ((KBw.bInts b).take (i + 1))) → 
        ∃ m_1, m_1 < b.size + 1 - i ∧ ∃ h'' tk' i ys' mc', ({ s with heap := h', toks := tk } : Shared) = { s with heap := h'', toks := tk' } ∧ i ≤ b.size ∧ m_1 = b.size + 1 - i ∧ KBw.IsBytesIter h'' I b tb i ∧ Fr h₀ L h'' m ∧ News h₀ L h'' ((D, LCg.lst ys') :: news) ∧
      h''.Ns env.locals mc' ∧ ys'.length = 8 * i ∧ IntsAre ys' (bitsOf ((KBw.bInts b).take i)) := by
      intro h' tk ys'' mc' F₆ N₆ hn₆ hl₆ hI₆
      exact ⟨b.size + 1 - (i + 1), by omega, h', tk, i + 1, ys'', mc', rfl, hlt, rfl, ⟨oI, (N₆ _ List.mem_cons_self).1, hoI⟩, F₆, fun p hp => N₆ p (List.mem_cons_of_mem _ hp), hn₆, hl₆, hI₆⟩
    refine codeAny_compStart_inner (key _ ?_ _) (wpAny_pyIter_rangeiter hit₂ (key _ ?_ _))
    all_goals exact fin
  · obtain rfl : i = b.size := by omega
    refine W.done _ _ _ hit' fun h₂ tk₂ hk₂ => ?_
    refine h h₂ tk₂ ys' mc' (LCg.fr_but F' hk₂ (Ne.symm hIL) hI₀) (LCg.news_but N' hk₂ nI) (hn'.at' fun o e => hk₂ _ o (by simpa using Ne.symm hIC) e) ?_
    rwa [List.take_of_length_le (by rw [KBw.ints_length]; exact Nat.le_refl _)] at hI'
end
end Mine
end
section
open PySem PySem.W PyProof.Rows PySem.Calls
set_option maxRecDepth 100000
namespace Mine
section
variable {prog : Program} {w : World} {A : Around} {E : Value → Shared → Prop} {s : Shared} {env : Env}
theorem bits_comp' {q1 q2 q3 q4 q5 q6 q7 p1 p2 p3 p4 p5 p6 : Pos} {scope : Scope} {pos : Pos} {h₀ : Heap} {m mg mb : Str → Option Value} {news : List (Addr × Obj)} {b : Array UInt8} {tb : Tok} {Q : Value → Shared → Prop}
    (F : Fr h₀ env.locals s.heap m) (N : News h₀ env.locals s.heap news) (hm : m (Str.ofString "octets") = some (.bytes b tb))
    (hh : A.handled = none) (hk : env.scope.kind = .function) (hoct : env.kindOf (Str.ofString "octets") = some .local)
    (hg : h₀.Ns env.globals mg) (hmiss : mg (Str.ofString "range") = none) (hb : h₀.Ns env.builtins mb) (hv : mb (Str.ofString "range") = some (.type "range"))
    (hclos : closureFor scope env = pure []) (hcell : ∀ y ∈ scope.names, y.2 ≠ .cell) (hkind : scope.kind = .function) (hnames : ∀ y ∈ scope.names, y.2 = .local → scope.names.lookup y.1 = some .local)
    (ho : scope.names.lookup (Str.ofString "o") = some .local) (ht : scope.names.lookup (Str.ofString "t") = some .local) (hx : ∀ C, (compEnvC scope [] C env).kindOf (Str.ofString "range") = some .globalImplicit)
    (hsz : 8 * b.size ≤ sizeLine)
    (h : ∀ D h' tk ys, Fr h₀ env.locals h' m → News h₀ env.locals h' ((D, LCg.lst ys) :: news) → IntsAre ys (bitsOf (KBw.bInts b)) → LCg.Off1 D news → Q (.ref D) { s with heap := h', toks := tk }) :
    wpAny (model prog w) A (eval (twoComp (bitElt q1 q2 q3 q4 q5 q6 q7) p1 p2 p3 p4 p5 p6 scope pos) env) Q E s := by
  unfold twoComp
  rw [eval_ListComp]
  refine wpAny_comprehension_free (use := none) rfl (by intro _; rfl) hclos hkind hnames ?_
  refine wpAny_Name (wpAny_loadName_local hk hoct F.ns hm ?_) (by decide)
  refine KBw.pyIter_bytes ?_
  have up1 : ∀ b' o, s.heap.get? b' = some o → (s.heap.push { cls := .type "bytes_iterator", data := .fields #[.bytes b tb, .int 0 0] }).get? b' = some o := fun _ _ e => Heap.get?_push_of_some _ e
  have hit1 : KBw.IsBytesIter (s.heap.push { cls := .type "bytes_iterator", data := .fields #[.bytes b tb, .int 0 0] }) s.heap.objs.size b tb 0 := ⟨_, Heap.get?_push_size _ rfl, rfl, rfl⟩
  generalize hH1 : s.heap.push _ = H1 at up1 hit1 ⊢
  refine wpAny_newObj_type (wpAny_newFunctionEnv hcell (by intro y hy; simp at hy) (fun h₁ hns₁ hsb₁ => ?_) hkind)
  dsimp only at hns₁ hsb₁ ⊢
  have up2 : ∀ b' o, H1.get? b' = some o → (H1.push { cls := .type "list", dict := none, data := .seq ([] : List Value).toArray }).get? b' = some o := fun _ _ e => Heap.get?_push_of_some _ e
  have hD2 : (H1.push { cls := .type "list", dict := none, data := .seq ([] : List Value).toArray }).get? H1.objs.size = some (LCg.lst []) := Heap.get?_push_size _ rfl
  generalize hH2 : H1.push _ = H2 at hns₁ hsb₁ up2 hD2 ⊢
  have ltI : s.heap.objs.size < H1.objs.size := hit1.choose_spec.1 |> Heap.lt_size
  have ltD : H1.objs.size < H2.objs.size := Heap.lt_size hD2
  have new : ∀ a o, H2.get? a = some o → a ≠ H2.objs.size := fun a o e => Nat.ne_of_lt (Heap.lt_size e)
  have up3 : ∀ b' o, H2.get? b' = some o → h₁.get? b' = some o := fun b' o e => hsb₁.extBut b' o (new b' o e) (Heap.get?_push_of_some _ e)
  have old : ∀ b' o, s.heap.get? b' = some o → h₁.get? b' = some o := fun b' o e => up3 _ _ (up2 _ _ (up1 _ _ e))
  have F1 := F.keeps up1
  have F2 := F1.keeps up2
  have hI₀ : h₀.get? s.heap.objs.size = none := next_is_new F
  have hD₀ : h₀.get? H1.objs.size = none := next_is_new F1
  have hC₀ : h₀.get? H2.objs.size = none := next_is_new F2
  have hIL := Nat.ne_of_gt F.ns.lt
  have hDL := Nat.ne_of_gt F1.ns.lt
  have hCL := Nat.ne_of_gt F2.ns.lt
  have hitb : KBw.IsBytesIter h₁ s.heap.objs.size b tb 0 := by obtain ⟨o, e, r⟩ := hit1; exact ⟨o, up3 _ _ (up2 _ _ e), r⟩
  have N1 : News h₀ env.locals h₁ ((H1.objs.size, LCg.lst []) :: news) := fun p hp => by
    rcases List.mem_cons.mp hp with rfl | hp
    · exact ⟨up3 _ _ hD2, hDL, hD₀⟩
    · exact ⟨old _ _ (N p hp).1, (N p hp).2⟩
  have offD : ∀ p ∈ news, p.1 ≠ H1.objs.size := fun p hp => Nat.ne_of_lt (Heap.lt_size (up1 _ _ (N p hp).1))
  have offI : ∀ p ∈ news, p.1 ≠ s.heap.objs.size := fun p hp => Nat.ne_of_lt (Heap.lt_size (N p hp).1)
  have offC : ∀ p ∈ news, p.1 ≠ H2.objs.size := fun p hp => new _ _ (up2 _ _ (up1 _ _ (N p hp).1))
  have off1 : ∀ l : List (Addr × Obj), (∀ p ∈ l, p.1 ≠ H1.objs.size) → LCg.Off1 H1.objs.size l := by
    intro l
    induction l with
    | nil => intro _; trivial
    | cons a r ih => intro z; exact ⟨z _ List.mem_cons_self, ih fun p hp => z p (List.mem_cons_of_mem _ hp)⟩
  have loop : ∀ s₃ : Shared, (∃ tk, s₃ = { s with heap := h₁, toks := tk }) → 
      codeAny (model prog w) A (.compLoop (twoComp (bitElt q1 q2 q3 q4 q5 q6 q7) p1 p2 p3 p4 p5 p6 scope pos) 0 (.ref s.heap.objs.size) (.ref H1.objs.size) (compEnvC scope [] H2.objs.size env))
        (compPost (model prog w) A E none Q (.ref H1.objs.size) H2.objs.size) s₃ := by
    rintro s₃ ⟨tk, rfl⟩
    refine outer_loop (s := { s with heap := h₁, toks := tk }) (env := compEnvC scope [] H2.objs.size env) hh hkind (lookup_relabel_local ho) (lookup_relabel_local ht) (hx _) hg hmiss hb hv (F2.keeps up3) N1 hns₁ hsz hitb hC₀ hCL hI₀ hIL
      (Nat.ne_of_lt (Nat.lt_trans ltI ltD)) ?_ ?_ offD ?_
    · intro p hp
      rcases List.mem_cons.mp hp with rfl | hp
      · exact Nat.ne_of_gt ltI
      · exact offI p hp
    · intro p hp
      rcases List.mem_cons.mp hp with rfl | hp
      · exact Nat.ne_of_lt ltD
      · exact offC p hp
    · intro h' tk' ys' mc' F' N' hn' hI'
      refine ⟨mc', hn', fun h'' hs'' => h H1.objs.size h'' tk' ys' (F'.change hs'' hCL hC₀) (fun p hp => ?_) hI' (off1 _ offD)⟩
      refine ⟨hs''.extBut _ _ ?_ (N' p hp).1, (N' p hp).2⟩
      rcases List.mem_cons.mp hp with rfl | hp
      · exact Nat.ne_of_lt ltD
      · exact offC p hp
  exact codeAny_compStart_list (loop _ ⟨_, rfl⟩) (KBw.pyIter_self hitb (loop _ ⟨_, rfl⟩))
end
end Mine
end
section
open PySem PySem.W PyProof.Rows PySem.Calls
set_option maxRecDepth 100000
namespace Mine
section
variable {prog : Program} {w : World} {A : Around} {E : Value → Shared → Prop} {s : Shared} {env : Env}
theorem bits_assign {q1 q2 q3 q4 q5 q6 q7 p1 p2 p3 p4 p5 p6 : Pos} {scope : Scope} {pos : Pos} {h₀ : Heap} {m mg mb : Str → Option Value} {news : List (Addr × Obj)} {b : Array UInt8} {tb : Tok} {Q : Flow → Shared → Prop}
    (F : Fr h₀ env.locals s.heap m) (N : News h₀ env.locals s.heap news) (hm : m (Str.ofString "octets") = some (.bytes b tb))
    (hh : A.handled = none) (hk : env.scope.kind = .function) (hoct : env.kindOf (Str.ofString "octets") = some .local)
    (hg : h₀.Ns env.globals mg) (hmiss : mg (Str.ofString "range") = none) (hb : h₀.Ns env.builtins mb) (hv : mb (Str.ofString "range") = some (.type "range"))
    (hclos : closureFor scope env = pure []) (hcell : ∀ y ∈ scope.names, y.2 ≠ .cell) (hkind : scope.kind = .function) (hnames : ∀ y ∈ scope.names, y.2 = .local → scope.names.lookup y.1 = some .local)
    (ho : scope.names.lookup (Str.ofString "o") = some .local) (ht : scope.names.lookup (Str.ofString "t") = some .local) (hx : ∀ C, (compEnvC scope [] C env).kindOf (Str.ofString "range") = some .globalImplicit)
    (hsz : 8 * b.size ≤ sizeLine) {y : Str} {py spos : Pos} (hy : env.kindOf y = some .local)
    (hsw : swapsWith (twoComp (bitElt q1 q2 q3 q4 q5 q6 q7) p1 p2 p3 p4 p5 p6 scope pos) (some (.Name y py)) spos.line env = pure true)
    (hp : (env.scope.kind == .class || (env.scope.kind == .module && env.locals != env.globals)) = false)
    (h : ∀ D h' tk ys, Fr h₀ env.locals h' (fun z => if z = y then some (.ref D) else m z) → News h₀ env.locals h' ((D, LCg.lst ys) :: news) → IntsAre ys (bitsOf (KBw.bInts b)) → LCg.Off1 D news → Q .next { s with heap := h', toks := tk }) :
    wpAny (model prog w) A (exec (.Assign [.Name y py] (twoComp (bitElt q1 q2 q3 q4 q5 q6 q7) p1 p2 p3 p4 p5 p6 scope pos) spos) env) Q E s := by
  rw [exec_Assign_Name_used _ _ _ _ hsw]
  refine wpAny_bind (wpAny_standAt (wpAny_bind ?_))
  unfold twoComp
  show wpAny _ A (do let _ ← comprehension (twoComp (bitElt q1 q2 q3 q4 q5 q6 q7) p1 p2 p3 p4 p5 p6 scope pos) scope env _ (newList []) false (eval (.Name (Str.ofString "octets") _) env) (some (assign (.Name y py) env))) _ _ s
  unfold twoComp
  refine wpAny_bind (wpAny_mono (wpAny_comprehension_free (use := some (assign (.Name y py) env)) (Q := fun _ s' => Q .next s') rfl (by intro _; rfl) hclos hkind hnames ?_)
    (fun _ s' hq => wpAny_pure (wpAny_pure hq)) fun _ _ e => e)
  refine wpAny_Name (wpAny_loadName_local hk hoct F.ns hm ?_) (by decide)
  refine KBw.pyIter_bytes ?_
  have up1 : ∀ b' o, s.heap.get? b' = some o → (s.heap.push { cls := .type "bytes_iterator", data := .fields #[.bytes b tb, .int 0 0] }).get? b' = some o := fun _ _ e => Heap.get?_push_of_some _ e
  have hit1 : KBw.IsBytesIter (s.heap.push { cls := .type "bytes_iterator", data := .fields #[.bytes b tb, .int 0 0] }) s.heap.objs.size b tb 0 := ⟨_, Heap.get?_push_size _ rfl, rfl, rfl⟩
  generalize hH1 : s.heap.push _ = H1 at up1 hit1 ⊢
  refine wpAny_newObj_type (wpAny_newFunctionEnv hcell (by intro y hy; simp at hy) (fun h₁ hns₁ hsb₁ => ?_) hkind)
  dsimp only at hns₁ hsb₁ ⊢
  have up2 : ∀ b' o, H1.get? b' = some o → (H1.push { cls := .type "list", dict := none, data := .seq ([] : List Value).toArray }).get? b' = some o := fun _ _ e => Heap.get?_push_of_some _ e
  have hD2 : (H1.push { cls := .type "list", dict := none, data := .seq ([] : List Value).toArray }).get? H1.objs.size = some (LCg.lst []) := Heap.get?_push_size _ rfl
  generalize hH2 : H1.push _ = H2 at hns₁ hsb₁ up2 hD2 ⊢
  have ltI : s.heap.objs.size < H1.objs.size := hit1.choose_spec.1 |> Heap.lt_size
  have ltD : H1.objs.size < H2.objs.size := Heap.lt_size hD2
  have new : ∀ a o, H2.get? a = some o → a ≠ H2.objs.size := fun a o e => Nat.ne_of_lt (Heap.lt_size e)
  have up3 : ∀ b' o, H2.get? b' = some o → h₁.get? b' = some o := fun b' o e => hsb₁.extBut b' o (new b' o e) (Heap.get?_push_of_some _ e)
  have old : ∀ b' o, s.heap.get? b' = some o → h₁.get? b' = some o := fun b' o e => up3 _ _ (up2 _ _ (up1 _ _ e))
  have F1 := F.keeps up1
  have F2 := F1.keeps up2
  have hI₀ : h₀.get? s.heap.objs.size = none := next_is_new F
  have hD₀ : h₀.get? H1.objs.size = none := next_is_new F1
  have hC₀ : h₀.get? H2.objs.size = none := next_is_new F2
  have hIL := Nat.ne_of_gt F.ns.lt
  have hDL := Nat.ne_of_gt F1.ns.lt
  have hCL := Nat.ne_of_gt F2.ns.lt
  have hitb : KBw.IsBytesIter h₁ s.heap.objs.size b tb 0 := by obtain ⟨o, e, r⟩ := hit1; exact ⟨o, up3 _ _ (up2 _ _ e), r⟩
  have N1 : News h₀ env.locals h₁ ((H1.objs.size, LCg.lst []) :: news) := fun p hp => by
    rcases List.mem_cons.mp hp with rfl | hp
    · exact ⟨up3 _ _ hD2, hDL, hD₀⟩
    · exact ⟨old _ _ (N p hp).1, (N p hp).2⟩
  have offD : ∀ p ∈ news, p.1 ≠ H1.objs.size := fun p hp => Nat.ne_of_lt (Heap.lt_size (up1 _ _ (N p hp).1))
  have offI : ∀ p ∈ news, p.1 ≠ s.heap.objs.size := fun p hp => Nat.ne_of_lt (Heap.lt_size (N p hp).1)
  have offC : ∀ p ∈ news, p.1 ≠ H2.objs.size := fun p hp => new _ _ (up2 _ _ (up1 _ _ (N p hp).1))
  have off1 : ∀ l : List (Addr × Obj), (∀ p ∈ l, p.1 ≠ H1.objs.size) → LCg.Off1 H1.objs.size l := by
    intro l
    induction l with
    | nil => intro _; trivial
    | cons a r ih => intro z; exact ⟨z _ List.mem_cons_self, ih fun p hp => z p (List.mem_cons_of_mem _ hp)⟩
  have loop : ∀ s₃ : Shared, (∃ tk, s₃ = { s with heap := h₁, toks := tk }) → 
      codeAny (model prog w) A (.compLoop (twoComp (bitElt q1 q2 q3 q4 q5 q6 q7) p1 p2 p3 p4 p5 p6 scope pos) 0 (.ref s.heap.objs.size) (.ref H1.objs.size) (compEnvC scope [] H2.objs.size env))
        (compPost (model prog w) A E (some (assign (.Name y py) env)) (fun _ s' => Q .next s') (.ref H1.objs.size) H2.objs.size) s₃ := by
    rintro s₃ ⟨tk, rfl⟩
    refine outer_loop (s := { s with heap := h₁, toks := tk }) (env := compEnvC scope [] H2.objs.size env) hh hkind (lookup_relabel_local ho) (lookup_relabel_local ht) (hx _) hg hmiss hb hv (F2.keeps up3) N1 hns₁ hsz hitb hC₀ hCL hI₀ hIL
      (Nat.ne_of_lt (Nat.lt_trans ltI ltD)) ?_ ?_ offD ?_
    · intro p hp
      rcases List.mem_cons.mp hp with rfl | hp
      · exact Nat.ne_of_gt ltI
      · exact offI p hp
    · intro p hp
      rcases List.mem_cons.mp hp with rfl | hp
      · exact Nat.ne_of_lt ltD
      · exact offC p hp
    · intro h' tk' ys' mc' F' N' hn' hI'
      show wpAny _ A (assign (.Name y py) env (.ref H1.objs.size)) _ _ _
      refine wpAny_assign_Name (wpAny_storeName_local hy F'.ns (fun h₂ hn₂ hs₂ => ?_) hp)
      have hL₀ : h₀.get? env.locals = none := Heap.get?_none_of_le F'.above
      have F₂ : Fr h₀ env.locals h₂ (fun z => if z = y then some (.ref H1.objs.size) else m z) := ⟨hn₂, fun b o e => hs₂.extBut b o (fun q => by rw [q, hL₀] at e; cases e) (F'.keep b o e), F'.above⟩
      refine ⟨mc', hn'.sameBut hs₂ hCL, fun h'' hs'' => h H1.objs.size h'' _ ys' (F₂.change hs'' hCL hC₀) (fun p hp => ?_) hI' (off1 _ offD)⟩
      have z : h₂.get? p.1 = some p.2 := hs₂.extBut _ _ (N' p hp).2.1 (N' p hp).1
      refine ⟨hs''.extBut _ _ ?_ z, (N' p hp).2⟩
      rcases List.mem_cons.mp hp with rfl | hp
      · exact Nat.ne_of_lt ltD
      · exact offC p hp
  exact codeAny_compStart_list (loop _ ⟨_, rfl⟩) (KBw.pyIter_self hitb (loop _ ⟨_, rfl⟩))
end
end Mine
end
section
open PySem PySem.W PyProof.Rows PySem.Calls
set_option maxRecDepth 100000
namespace Mine
section
variable {prog : Program} {w : World} {A₀ : Around} {E : Value → Shared → Prop} {s' : Shared} {h₀ h : Heap} {outer : List Env} {L a e : Addr} {m : Str → Option Value} {cn : Str} {cs : Scope} {ccd : Value} {cl : List (Str × Addr)}
  {b₀ : Stmt} {suite : List Stmt} {pos np : Pos} {rest : List ExceptHandler} {Q : Flow → Shared → Prop} {news : List (Addr × Obj)}
  {p : Program} {loose : List Str} {mg mb : Str → Option Value} {x : Str} {X T' : String}
/-- an exception of a callee's, caught by a frame that has cells -/
theorem caught_C (K : Below A₀ h₀ outer h₀) (F : Fr h₀ L h m) (hsm : h.UpToSlots s'.heap) (R : RaisedN h₀ (envX cn cs L a ccd cl :: outer) e (.type X) news s'.heap)
    (T : TopRead p loose mg mb h₀) (hv : bootBuiltins x = some (.type T'))
    (hexc : isSubtype (.type T') (.type "BaseException") = pure true) (hnt : isSubtype (.type ((Manifest.find? T').elim "type" fun y => y.metatype)) (.type "tuple") = pure false) (hsub : isSubtype (.type X) (.type T') = pure true)
    (h1 : x ∉ startupNames) (h2 : x ∉ loose) (h3 : x ∉ (recsOf p).map (·.name)) (h4 : x ∉ (litsOf p).map (·.1)) (h4c : x ∉ (clssOf p loose).map (·.name)) (hn : x ≠ "__name__")
    (hk : cs.kind = .function) (hx : (envX cn cs L a ccd cl).kindOf x = some .globalImplicit) (hd : (x == ("__debug__" : Str)) = false)
    (hE : PassesOwnAt (model prog w) ((A₀.deeper (envX cn cs L a ccd cl)).mark (some (.ref e))) (A₀.deeper (envX cn cs L a ccd cl)) (envX cn cs L a ccd cl) E)
    (k : ∀ h', Fr h₀ L h' m → News h₀ L h' news →
      wpAny (model prog w) ((A₀.deeper (envX cn cs L a ccd cl)).mark (some (.ref e))) (execs (b₀ :: suite) (envX cn cs L a ccd cl)) Q E { s' with heap := h' }) :
    wpAny (model prog w) (A₀.deeper (envX cn cs L a ccd cl)) (noteFrame (.ref e) (envX cn cs L a ccd cl))
      (fun _ s₂ => wpAny (model prog w) (A₀.deeper (envX cn cs L a ccd cl)) (setFlight (.ref e) none) (fun _ s₃ =>
        wpAny (model prog w) (A₀.deeper (envX cn cs L a ccd cl)) (handleBy (.ref e) (envX cn cs L a ccd cl) (.ExceptHandler (some (.Name x np)) none (b₀ :: suite) pos :: rest)) Q E s₃) E s₂) E s' := by
  obtain ⟨B, a0, hB, hl, hfl⟩ := R
  have hL : B.get? L = none := by
    obtain ⟨_, ⟨L', _, hf, hn', _⟩, _⟩ := hfl.2.2.1
    obtain rfl : L = L' := Option.some.inj hf
    exact hn'
  refine wpAny_looks_onW (Around.frames_deeper K.stack) rfl hfl fun h₄ hheld₄ hsm₄ => ?_
  refine wpAny_landsW hheld₄ fun h₅ hheld hsm₅' => ?_
  have hsm₅ := hsm₄.trans hsm₅'
  have hheld' := flyingW_base hB hheld
  have F₅ := F.of_stays hheld'.1 (hsm.trans hsm₅)
  obtain ⟨ob, hob, hobc⟩ := hheld'.there
  refine wpAny_handleBy_builtin (X := X) (T := T') (b := true) hexc hnt hsub (Name_function_global hk hx (loadGlobal_builtin (env := envX cn cs L a ccd cl) (T.g.keeps F₅.keep) (T.free x h1 h2 h3 h4 h4c) (T.b.keeps F₅.keep) ((T.builtins x hn).trans hv) ⟨rfl, ⟨ob, hob, hobc⟩, ?_⟩) hd)
  refine lands_againW hheld fun h₆ hfl₆ hsm₆ => ?_
  have F₆ := F.of_stays (flyingW_base hB hfl₆).1 ((hsm.trans hsm₅).trans hsm₆)
  exact wpAny_passesOwnAt hE (k h₆ F₆ fun q hq => ⟨hfl₆.1 _ _ (hl q hq).1, (fun z => by have := (hl q hq).1; rw [z, hL] at this; cases this), (hl q hq).2⟩)
end
section
variable {prog : Program} {w : World} {A : Around} {E : Value → Shared → Prop} {s : Shared}
theorem mul_pow {a k : Int} {t u : Tok} {Q : Value → Shared → Prop} (h1 : k < 60) (h : Q (.int (a * 2 ^ k.toNat) s.toks) { s with toks := s.toks + 1 }) : wpAny (model prog w) A (binaryOp .Mult (.int a t) (.int (2 ^ k.toNat) u)) Q E s :=
  mul_int h (IntMulOk.of_right (intBits_le_64 (by
      have : (0 : Int) < 2 ^ k.toNat := Int.pow_pos (by decide)
      omega) (by
      have h2 : (2 : Int) ^ k.toNat ≤ 2 ^ 60 := by
        have : (2 : Nat) ^ k.toNat ≤ 2 ^ 60 := Nat.pow_le_pow_right (by decide) (by omega)
        exact_mod_cast this
      have e : (2 : Int) ^ 60 < 2 ^ 64 := by decide
      omega)))
end
end Mine
end
section
open PySem PySem.W PyProof.Rows
namespace Mine
theorem bitsOf_cons (o : Int) (os : List Int) : bitsOf (o :: os) = [o / 2 ^ 0 % 2, o / 2 ^ 1 % 2, o / 2 ^ 2 % 2, o / 2 ^ 3 % 2, o / 2 ^ 4 % 2, o / 2 ^ 5 % 2, o / 2 ^ 6 % 2, o / 2 ^ 7 % 2] ++ bitsOf os := rfl
theorem bitsOf_getD : ∀ (os : List Int) (q r : Nat), r < 8 → (bitsOf os).getD (8 * q + r) 0 = os.getD q 0 / 2 ^ r % 2
  | [], q, r, _ => by simp [bitsOf]
  | o :: os, 0, r, hr => by
    rw [bitsOf_cons, List.getD_eq_getElem?_getD, List.getElem?_append_left (by simp; omega)]
    match r, hr with
    | 0, _ => rfl
    | 1, _ => rfl
    | 2, _ => rfl
    | 3, _ => rfl
    | 4, _ => rfl
    | 5, _ => rfl
    | 6, _ => rfl
    | 7, _ => rfl
  | o :: os, q + 1, r, hr => by
    have ih := bitsOf_getD os q r hr
    rw [bitsOf_cons, List.getD_eq_getElem?_getD, List.getElem?_append_right (by simp; omega)]
    have e : 8 * (q + 1) + r - [o / 2 ^ 0 % 2, o / 2 ^ 1 % 2, o / 2 ^ 2 % 2, o / 2 ^ 3 % 2, o / 2 ^ 4 % 2, o / 2 ^ 5 % 2, o / 2 ^ 6 % 2, o / 2 ^ 7 % 2].length = 8 * q + r := by
      simp only [List.length_cons, List.length_nil]; omega
    rw [e, ← List.getD_eq_getElem?_getD, ih]
    rfl
def Octets (os : List Int) : Prop := ∀ j : Nat, 0 ≤ os.getD j 0 ∧ os.getD j 0 < 256
theorem octets_of (b : Array UInt8) : Octets (KBw.bInts b) := fun j => by
  have h := KBw.getD_in (ks := KBw.bInts b) (j := j) fun k hk => KBw.ints_in hk
  exact h
end Mine
end
section
open PySem PySem.W PyProof.Rows
namespace Mine
/-- the sum of n bits from place lo on -/
def sumAt (bits : List Int) (lo n : Nat) : Int := ((List.range n).map fun t => bits.getD (lo + t) 0).sum
def cbdAt (os : List Int) (eta : Int) (i : Nat) : Int := (sumAt (bitsOf os) (2 * eta.toNat * i) eta.toNat - sumAt (bitsOf os) (2 * eta.toNat * i + eta.toNat) eta.toNat).fmod 3329
def csAt (os : List Int) (eta : Int) (k : Nat) : List Int := (List.range 256).map fun i => if i < k then cbdAt os eta i else 0
def pop (x : Int) : Int := ((List.range (Builtin.Int.intBits x)).countP x.natAbs.testBit : Nat)
def cf (v eta : Int) : Int := (pop (Builtin.bitAnd (Builtin.bitAnd v (1 * 2 ^ (2 * eta).toNat - 1)) (1 * 2 ^ eta.toNat - 1)) - pop (Builtin.bitAnd ((Builtin.bitAnd v (1 * 2 ^ (2 * eta).toNat - 1)).fdiv (2 ^ eta.toNat)) (1 * 2 ^ eta.toNat - 1))).fmod 3329
/-- the number of the octets, the low ones first -/
def little : List Int → Nat
  | [] => 0
  | o :: r => little r * 256 + o.toNat
theorem value_little : ∀ (os : List Int), Octets os → KFB.value os.reverse = (little os : Int)
  | [], _ => rfl
  | o :: r, h => by
    have h0 := h 0
    have hr : Octets r := fun j => h (j + 1)
    have ih := value_little r hr
    unfold KFB.value at ih ⊢
    rw [List.reverse_cons, List.foldl_append, ih]
    simp only [List.foldl_cons, List.foldl_nil, List.getD_cons_zero] at h0 ⊢
    show _ = ((little r * 256 + o.toNat : Nat) : Int)
    omega
theorem bit_split (a o j : Nat) (ho : o < 256) : (a * 256 + o).testBit j = if j < 8 then o.testBit j else a.testBit (j - 8) := by
  have e : a * 256 + o = 2 ^ 8 * a + o := by omega
  rw [e]
  exact Nat.testBit_two_pow_mul_add a (by omega) j
theorem bit_int (o : Int) (j : Nat) (ho : 0 ≤ o) : o / 2 ^ j % 2 = if o.toNat.testBit j then 1 else 0 := by
  obtain ⟨n, rfl⟩ := Int.eq_ofNat_of_zero_le ho
  rw [Int.toNat_natCast, Nat.testBit_eq_decide_div_mod_eq]
  have : ((n : Int) / 2 ^ j % 2) = ((n / 2 ^ j % 2 : Nat) : Int) := by push_cast; rfl
  rw [this]
  have h2 : n / 2 ^ j % 2 < 2 := Nat.mod_lt _ (by decide)
  by_cases hc : n / 2 ^ j % 2 = 1
  · simp [hc]
  · have : n / 2 ^ j % 2 = 0 := by omega
    simp [this]
theorem bits_test : ∀ (os : List Int), Octets os → ∀ j, (bitsOf os).getD j 0 = if (little os).testBit j then 1 else 0
  | [], _, j => by simp [bitsOf, little]
  | o :: r, h, j => by
    have h0 := h 0
    have hr : Octets r := fun j => h (j + 1)
    simp only [List.getD_cons_zero] at h0
    have e := bitsOf_getD (o :: r) (j / 8) (j % 8) (Nat.mod_lt _ (by decide))
    rw [show 8 * (j / 8) + j % 8 = j by omega] at e
    show _ = if (little r * 256 + o.toNat).testBit j then 1 else 0
    rw [bit_split _ _ _ (by omega)]
    by_cases hj : j < 8
    · rw [e, if_pos hj, show j / 8 = 0 by omega, show j % 8 = j by omega, List.getD_cons_zero, bit_int _ _ h0.1]
    · rw [if_neg hj, ← bits_test r hr (j - 8)]
      have e2 := bitsOf_getD r ((j - 8) / 8) ((j - 8) % 8) (Nat.mod_lt _ (by decide))
      rw [show 8 * ((j - 8) / 8) + (j - 8) % 8 = j - 8 by omega] at e2
      rw [e, e2, show j / 8 = (j - 8) / 8 + 1 by omega, List.getD_cons_succ, show (j - 8) % 8 = j % 8 by omega]
/-- a count of the set bits, by the first m places -/
theorem countP_range_add (p : Nat → Bool) (a b : Nat) (h : ∀ t, a ≤ t → p t = false) : (List.range (a + b)).countP p = (List.range a).countP p := by
  rw [List.range_add, List.countP_append]
  have : (List.map (a + ·) (List.range b)).countP p = 0 := by
    rw [List.countP_eq_zero]
    intro x hx
    obtain ⟨y, _, rfl⟩ := List.mem_map.mp hx
    rw [h _ (Nat.le_add_right _ _)]
    decide
  omega
theorem count_sum (p : Nat → Bool) : ∀ m, (((List.range m).countP p : Nat) : Int) = ((List.range m).map fun t => if p t then (1 : Int) else 0).sum
  | 0 => rfl
  | m + 1 => by
    rw [List.range_succ, List.countP_append, List.map_append, List.sum_append, ← count_sum p m]
    by_cases h : p m <;> simp [h]
theorem pop_eq (x : Int) (m : Nat) (h0 : 0 ≤ x) (hm : x < 2 ^ m) : pop x = ((List.range m).map fun t => if x.toNat.testBit t then (1 : Int) else 0).sum := by
  obtain ⟨n, rfl⟩ := Int.eq_ofNat_of_zero_le h0
  have hn : n < 2 ^ m := by exact_mod_cast hm
  unfold pop
  rw [← count_sum, Int.natAbs_natCast, Int.toNat_natCast]
  congr 1
  unfold Builtin.Int.intBits
  by_cases hz : n = 0
  · subst hz
    have : (List.range m).countP (Nat.testBit 0) = 0 := by
      rw [List.countP_eq_zero]
      intro y _
      simp
    rw [this]
    rfl
  · rw [if_neg (by simpa using hz), Int.natAbs_natCast]
    have h1 : n.log2 < m := (Nat.log2_lt hz).mpr hn
    rw [show m = n.log2 + 1 + (m - (n.log2 + 1)) by omega]
    refine (countP_range_add _ _ _ ?_).symm
    intro t ht
    refine Nat.testBit_lt_two_pow ?_
    exact Nat.lt_of_lt_of_le Nat.lt_log2_self (Nat.pow_le_pow_right (by decide) ht)
/-- the bits of a number that is cut out of another -/
theorem pop_cut (N a e : Nat) : pop (((N / 2 ^ a % 2 ^ e : Nat) : Int)) = ((List.range e).map fun t => if N.testBit (a + t) then (1 : Int) else 0).sum := by
  rw [pop_eq _ e (by omega) (by exact_mod_cast Nat.mod_lt _ (Nat.two_pow_pos e)), Int.toNat_natCast]
  congr 1
  refine List.map_congr_left fun t ht => ?_
  have ht' : t < e := List.mem_range.mp ht
  rw [Nat.testBit_mod_two_pow, Nat.testBit_div_two_pow]
  simp [ht', Nat.add_comm]
theorem cf_eq (os : List Int) (ho : Octets os) (eta : Int) (he : 0 ≤ eta ∧ eta ≤ 8) (k : Nat) (v : Int) (hv : v = (KFB.value os.reverse).fdiv (2 ^ (2 * eta * (k : Int)).toNat)) : cf v eta = cbdAt os eta k := by
  obtain ⟨e, rfl⟩ := Int.eq_ofNat_of_zero_le he.1
  have e2 : (2 * (e : Int)).toNat = 2 * e := by omega
  have e3 : (2 * (e : Int) * (k : Int)).toNat = 2 * e * k := by
    have : (2 * (e : Int) * (k : Int)) = ((2 * e * k : Nat) : Int) := by push_cast; rfl
    rw [this, Int.toNat_natCast]
  have p : ∀ n : Nat, ((2 : Int) ^ n) = ((2 ^ n : Nat) : Int) := fun n => by push_cast; rfl
  have hd : v = ((little os / 2 ^ (2 * e * k) : Nat) : Int) := by
    rw [hv, value_little os ho, e3, Int.fdiv_eq_ediv_of_nonneg _ (Int.le_of_lt (Int.pow_pos (by decide))), p]
    push_cast
    rfl
  unfold cf cbdAt
  rw [Int.toNat_natCast, e2, Int.one_mul, Int.one_mul, kbt_mask, kbt_mask, kbt_mask, hd, Int.fdiv_eq_ediv_of_nonneg _ (Int.le_of_lt (Int.pow_pos (by decide)))]
  generalize hx : little os = N
  have a1 : ((N / 2 ^ (2 * e * k) : Nat) : Int) % 2 ^ (2 * e) % 2 ^ e = ((N / 2 ^ (2 * e * k) % 2 ^ e : Nat) : Int) := by
    rw [← Nat.mod_mod_of_dvd (N / 2 ^ (2 * e * k)) (Nat.pow_dvd_pow 2 (show e ≤ 2 * e by omega))]
    push_cast
    rfl
  have a2 : ((N / 2 ^ (2 * e * k) : Nat) : Int) % 2 ^ (2 * e) / 2 ^ e % 2 ^ e = ((N / 2 ^ (2 * e * k + e) % 2 ^ e : Nat) : Int) := by
    have : N / 2 ^ (2 * e * k) % 2 ^ (2 * e) / 2 ^ e % 2 ^ e = N / 2 ^ (2 * e * k + e) % 2 ^ e := by
      rw [Nat.pow_add, ← Nat.div_div_eq_div_mul, show 2 * e = e + e by omega, Nat.pow_add, Nat.mod_mul_right_div_self, Nat.mod_mod]
    rw [← this]
    push_cast
    rfl
  rw [a1, a2, pop_cut, pop_cut]
  have hb : ∀ lo, ((List.range e).map fun t => if N.testBit (lo + t) then (1 : Int) else 0).sum = sumAt (bitsOf os) lo e := fun lo => by
    unfold sumAt
    congr 1
    refine List.map_congr_left fun t _ => ?_
    rw [bits_test os ho, hx]
  rw [hb, hb]
theorem cs_zero (os : List Int) (eta : Int) : (List.map (fun _ => (0 : Int)) (rangeKs 0 (256 - 0 : Int).toNat)) = csAt os eta 0 := by
  unfold csAt
  simp only [Nat.not_lt_zero, if_false]
  rw [show (256 - 0 : Int).toNat = 256 from rfl]
  decide +kernel
theorem cs_set (os : List Int) (eta : Int) (k : Nat) : (csAt os eta k).set k (cbdAt os eta k) = csAt os eta (k + 1) := by
  unfold csAt
  refine List.ext_getElem (by simp) fun i h1 h2 => ?_
  simp only [List.getElem_set, List.getElem_map, List.getElem_range]
  by_cases h : k = i
  · subst h; simp
  · rw [if_neg h]
    by_cases hl : i < k
    · rw [if_pos hl, if_pos (by omega)]
    · rw [if_neg hl, if_neg (by omega)]
theorem cs_len (os : List Int) (eta : Int) (k : Nat) : (csAt os eta k).length = 256 := by unfold csAt; simp
theorem v_step (x eta : Int) (he : 0 ≤ eta) (k : Nat) : (x.fdiv (2 ^ (2 * eta * (k : Int)).toNat)).fdiv (2 ^ (2 * eta).toNat) = x.fdiv (2 ^ (2 * eta * ((k + 1 : Nat) : Int)).toNat) := by
  obtain ⟨e, rfl⟩ := Int.eq_ofNat_of_zero_le he
  have p : ∀ n : Nat, (0 : Int) ≤ 2 ^ n := fun n => Int.le_of_lt (Int.pow_pos (by decide))
  have e2 : (2 * (e : Int)).toNat = 2 * e := by omega
  have e3 : ∀ k : Nat, (2 * (e : Int) * (k : Int)).toNat = 2 * e * k := fun k => by
    have : (2 * (e : Int) * (k : Int)) = ((2 * e * k : Nat) : Int) := by push_cast; rfl
    rw [this, Int.toNat_natCast]
  rw [e2, e3, e3, Int.fdiv_eq_ediv_of_nonneg _ (p _), Int.fdiv_eq_ediv_of_nonneg _ (p _), Int.fdiv_eq_ediv_of_nonneg _ (p _), Int.ediv_ediv_of_nonneg (p _), ← Int.pow_add]
  rw [Nat.mul_add, Nat.mul_one]
/-- what holds of the state ahead of the turn -/
def CInv (os : List Int) (eta : Int) (k : Nat) (v : Int) (cs : List Int) : Prop := v = (KFB.value os.reverse).fdiv (2 ^ (2 * eta * (k : Int)).toNat) ∧ cs = csAt os eta k
theorem CInv.start (os : List Int) (eta : Int) : CInv os eta 0 (KFB.value os.reverse) (List.map (fun _ => (0 : Int)) (rangeKs 0 (256 - 0 : Int).toNat)) := by
  refine ⟨?_, cs_zero os eta⟩
  rw [show (2 * eta * ((0 : Nat) : Int)).toNat = 0 by simp]
  simp
theorem CInv.turn {os : List Int} {eta : Int} (ho : Octets os) (he : 0 ≤ eta ∧ eta ≤ 8) {k : Nat} {v : Int} {cs : List Int} (h : CInv os eta k v cs) (i : Int) (hi : i = 0 + (k : Int)) :
    CInv os eta (k + 1) (v.fdiv (2 ^ (2 * eta).toNat)) (cs.set i.toNat (cf v eta)) := by
  obtain ⟨h1, h2⟩ := h
  refine ⟨by rw [h1, v_step _ _ he.1], ?_⟩
  rw [h2, cf_eq os ho eta he k v h1, show i.toNat = k by omega, cs_set]
theorem CInv.len {os : List Int} {eta : Int} {k : Nat} {v : Int} {cs : List Int} (h : CInv os eta k v cs) : cs.length = 256 := by rw [h.2, cs_len]
/-- the answer -/
def cbdL (os : List Int) (eta : Int) : List Int := (List.range 256).map (cbdAt os eta)
theorem CInv.done {os : List Int} {eta : Int} {v : Int} {cs : List Int} (h : CInv os eta 256 v cs) : cs = cbdL os eta := by
  rw [h.2]
  unfold csAt cbdL
  refine List.map_congr_left fun i hi => ?_
  rw [if_pos (List.mem_range.mp hi)]
theorem CInv.turn' {os : List Int} {eta : Int} (ho : Octets os) (he : 0 ≤ eta ∧ eta ≤ 8) {k : Nat} {v : Int} {cs : List Int} (h : CInv os eta k v cs ∧ cs.length = 256) (i : Int) (hi : i = 0 + (k : Int)) :
    CInv os eta (k + 1) (v.fdiv (2 ^ (2 * eta).toNat)) (cs.set i.toNat (cf v eta)) ∧ (cs.set i.toNat (cf v eta)).length = 256 :=
  ⟨CInv.turn ho he h.1 i hi, by rw [List.length_set]; exact h.2⟩
theorem CInv.done' {os : List Int} {eta : Int} {v : Int} {cs : List Int} (h : CInv os eta (rangeKs 0 (256 - 0 : Int).toNat).length v cs ∧ cs.length = 256) : cs = cbdL os eta := by
  have e : (rangeKs 0 (256 - 0 : Int).toNat).length = 256 := by decide +kernel
  rw [e] at h
  exact CInv.done h.1
theorem CInv.start' (os : List Int) (eta : Int) : CInv os eta ([] : List Int).length (KFB.value os.reverse) (List.map (fun _ => (0 : Int)) (rangeKs 0 (256 - 0 : Int).toNat)) ∧ (List.map (fun _ => (0 : Int)) (rangeKs 0 (256 - 0 : Int).toNat)).length = 256 :=
  ⟨CInv.start os eta, CInv.len (CInv.start os eta)⟩
theorem CInv.step {os : List Int} {eta : Int} (ho : Octets os) (he : 0 ≤ eta ∧ eta ≤ 8) {pre : List Int} {v : Int} {cs : List Int} {i : Int} (hi : i = 0 + (pre.length : Int)) (h : CInv os eta pre.length v cs ∧ cs.length = 256) :
    CInv os eta (pre ++ [i]).length (v.fdiv (2 ^ (2 * eta).toNat)) (cs.set i.toNat ((((List.countP (Builtin.bitAnd (Builtin.bitAnd v (1 * 2 ^ (2 * eta).toNat - 1)) (1 * 2 ^ eta.toNat - 1)).natAbs.testBit (List.range (Builtin.Int.intBits (Builtin.bitAnd (Builtin.bitAnd v (1 * 2 ^ (2 * eta).toNat - 1)) (1 * 2 ^ eta.toNat - 1)))) : Nat) : Int) - ((List.countP (Builtin.bitAnd ((Builtin.bitAnd v (1 * 2 ^ (2 * eta).toNat - 1)).fdiv (2 ^ eta.toNat)) (1 * 2 ^ eta.toNat - 1)).natAbs.testBit (List.range (Builtin.Int.intBits (Builtin.bitAnd ((Builtin.bitAnd v (1 * 2 ^ (2 * eta).toNat - 1)).fdiv (2 ^ eta.toNat)) (1 * 2 ^ eta.toNat - 1)))) : Nat) : Int)).fmod 3329)) ∧ (cs.set i.toNat ((((List.countP (Builtin.bitAnd (Builtin.bitAnd v (1 * 2 ^ (2 * eta).toNat - 1)) (1 * 2 ^ eta.toNat - 1)).natAbs.testBit (List.range (Builtin.Int.intBits (Builtin.bitAnd (Builtin.bitAnd v (1 * 2 ^ (2 * eta).toNat - 1)) (1 * 2 ^ eta.toNat - 1)))) : Nat) : Int) - ((List.countP (Builtin.bitAnd ((Builtin.bitAnd v (1 * 2 ^ (2 * eta).toNat - 1)).fdiv (2 ^ eta.toNat)) (1 * 2 ^ eta.toNat - 1)).natAbs.testBit (List.range (Builtin.Int.intBits (Builtin.bitAnd ((Builtin.bitAnd v (1 * 2 ^ (2 * eta).toNat - 1)).fdiv (2 ^ eta.toNat)) (1 * 2 ^ eta.toNat - 1)))) : Nat) : Int)).fmod 3329)).length = 256 := by
  have e : (pre ++ [i]).length = pre.length + 1 := by simp
  rw [e]
  exact CInv.turn' ho he h i hi
theorem CInv.done2 {os : List Int} {eta : Int} {v : Int} {cs : List Int} (h : CInv os eta (rangeKs 0 (256 - 0 : Int).toNat).length v cs) (h2 : cs.length = 256) : cs = cbdL os eta := CInv.done' ⟨h, h2⟩
end Mine
end
section
open PySem PySem.W PyProof.Rows PySem.Calls
set_option maxRecDepth 100000
namespace Mine
section
variable {prog : Program} {w : World} {M : Model} {A : Around} {E : Value → Shared → Prop} {s : Shared} {h₀ : Heap} {L : Addr} {m : PySem.Str → Option Value} {news : List (Addr × Obj)}
/-- a number below 2^4096 is never too long -/
theorem grown512 {n : Nat} {Q : Value → Shared → Prop} (hn : n < 2 ^ 4096) (h : Q (.int (n : Int) s.toks) { s with toks := s.toks + 1 }) : wpAny M A (mkIntGrown (n : Int)) Q E s := by
  unfold mkIntGrown
  have hb : bitsLine = 134217728 := rfl
  have hl : ¬ ((n : Int).natAbs.log2 ≥ bitsLine) := by
    rw [Int.natAbs_natCast, hb]
    by_cases hz : n = 0
    · subst hz
      decide
    · have h1 := (Nat.log2_lt hz).mpr hn
      omega
  rw [if_neg hl]
  exact wpAny_mkInt h
/-- int.from_bytes(b, 'little') of at most 512 octets -/
theorem little_tree {b : Array UInt8} {t u : Tok} {P : Fin → Shared → Prop} (hl : b.size ≤ 512) (h : P (.done (.ret (.int (KFB.value (KBw.bInts b).reverse) s.toks))) { s with toks := s.toks + 1 }) :
    wpAny M A (Builtin.«int.from_bytes» ⟨[.type "int", .bytes b t, .str (PySem.Str.ofString "little") u], []⟩) P E s := by
  have e0 : ((b.toList.reverse.foldl (fun (acc : Nat) (b : UInt8) => acc * 256 + b.toNat) 0 : Nat) : Int) = KFB.value (KBw.bInts b).reverse := by
    rw [KFB.fold_cast, List.map_reverse]
    rfl
  have hn : b.toList.reverse.foldl (fun (acc : Nat) (b : UInt8) => acc * 256 + b.toNat) 0 < 2 ^ 4096 := by
    have h1 := KFB.fold_lt b.toList.reverse 0
    rw [Nat.zero_add, Nat.one_mul, List.length_reverse, Array.length_toList] at h1
    have h2 : 256 ^ b.size ≤ 256 ^ 512 := Nat.pow_le_pow_right (by decide) hl
    have h3 : (256 : Nat) ^ 512 = 2 ^ 4096 := by decide +kernel
    exact Nat.lt_of_lt_of_le h1 (h3 ▸ h2)
  unfold Builtin.«int.from_bytes»
  refine wpAny_bind (wpAny_of_eq (a := true) KFB.type_int ?_)
  refine KFB.if_not rfl ?_
  refine wpAny_bind (wpAny_of_eq (a := true) F.conv_sub_int ?_)
  refine KFB.if_not rfl ?_
  refine wpAny_bind (wpAny_of_eq (a := [some (.bytes b t), some (.str (PySem.Str.ofString "little") u), none]) (by kernel_rfl) ?_)
  refine wpAny_bind (wpAny_of_eq (a := PySem.Str.ofString "little") (by kernel_rfl) ?_)
  refine wpAny_bind (wpAny_of_eq (a := false) rfl ?_)
  refine wpAny_bind (wpAny_of_eq (a := true) (by kernel_rfl) ?_)
  refine wpAny_bind (wpAny_of_eq (a := b) rfl ?_)
  show wpAny _ _ (mkIntGrown (b.toList.reverse.foldl (fun (acc : Int) (b : UInt8) => acc * 256 + (b.toNat : Int)) ((0 : Nat) : Int)) >>= fun v => _) _ _ _
  rw [KFB.foldI_eq]
  refine wpAny_bind (grown512 hn ?_)
  rw [e0]
  refine KFB.if_so (by decide +kernel) ?_
  exact wpAny_bind (wpAny_pure (wpAny_pure h))
theorem call_little512 {x : Addr} {b : Array UInt8} {t u : Tok} {Q : Value → Shared → Prop} (N : News h₀ L s.heap news) (hm : (x, KFB.bound) ∈ news) (hl : b.size ≤ 512)
    (h : ∀ t' k, Q (.int (KFB.value (KBw.bInts b).reverse) t') { s with toks := k }) : wpAny (model prog w) A (call (.ref x) [.bytes b t, .str (PySem.Str.ofString "little") u]) Q E s :=
  KFB.call_of (KFB.at_of N hm) (fun z => little_tree hl z) (h _ _)
end
end Mine
end
section
open PySem PySem.W PyProof.Rows PySem.Calls
set_option maxRecDepth 100000
namespace Mine
/-- the first eta bits of the number k, and the next eta -/
def segA (bits : List Int) (e k : Int) : List Int := (bits.drop (2 * e * k).toNat).take e.toNat
def segB (bits : List Int) (e k : Int) : List Int := (bits.drop (2 * e * k + e).toNat).take e.toNat
def away (bits : List Int) (e k : Int) : Int := (segA bits e k).sum - (segB bits e k).sum
def ownV (d : Int) : Int := if 0 ≤ d then d else d + 3329
def oppV (d : Int) : Int := if d ≤ 0 then 0 - d else 3329 - d
def Inv07 (bits : List Int) (e : Int) (k : Nat) (a b c : List Int) : Prop :=
  a = (List.range k).map (fun (i : Nat) => ownV (away bits e i)) ∧ b = (List.range k).map (fun (i : Nat) => oppV (away bits e i)) ∧ c = (List.range k).flatMap (fun (i : Nat) => segB bits e i ++ segA bits e i)
theorem segA_len (bits : List Int) (e k : Int) : (segA bits e k).length ≤ e.toNat := by unfold segA; rw [List.length_take]; omega
theorem segB_len (bits : List Int) (e k : Int) : (segB bits e k).length ≤ e.toNat := by unfold segB; rw [List.length_take]; omega
theorem Inv07.len {bits : List Int} {e : Int} (he : e ≤ 8) : ∀ k a b c, Inv07 bits e k a b c → a.length = k ∧ b.length = k ∧ c.length ≤ 16 * k := by
  rintro k a b c ⟨rfl, rfl, rfl⟩
  refine ⟨by simp, by simp, ?_⟩
  induction k with
  | zero => simp
  | succ k ih =>
    rw [List.range_succ, List.flatMap_append, List.length_append, List.flatMap_singleton, List.length_append]
    have h1 := segA_len bits e k
    have h2 := segB_len bits e k
    omega
theorem Inv07.turn {bits : List Int} {e k x y : Int} {pre a b c : List Int} (hk : k = 0 + (pre.length : Int)) (h : Inv07 bits e pre.length a b c)
    (h1 : (0 ≤ (segA bits e k).sum - (segB bits e k).sum ∧ x = (segA bits e k).sum - (segB bits e k).sum) ∨ (¬ 0 ≤ (segA bits e k).sum - (segB bits e k).sum ∧ x = (segA bits e k).sum - (segB bits e k).sum + 3329))
    (h2 : ((segA bits e k).sum - (segB bits e k).sum ≤ 0 ∧ y = 0 - ((segA bits e k).sum - (segB bits e k).sum)) ∨ (¬ (segA bits e k).sum - (segB bits e k).sum ≤ 0 ∧ y = 3329 - ((segA bits e k).sum - (segB bits e k).sum))) :
    Inv07 bits e (pre ++ [k]).length (a ++ [x]) (b ++ [y]) (c ++ segB bits e k ++ segA bits e k) := by
  obtain ⟨rfl, rfl, rfl⟩ := h
  have e1 : (pre ++ [k]).length = pre.length + 1 := by simp
  have e2 : k = ((pre.length : Nat) : Int) := by omega
  have ex : x = ownV (away bits e k) := by
    unfold ownV away
    rcases h1 with ⟨p, rfl⟩ | ⟨p, rfl⟩
    · rw [if_pos p]
    · rw [if_neg p]
  have ey : y = oppV (away bits e k) := by
    unfold oppV away
    rcases h2 with ⟨p, rfl⟩ | ⟨p, rfl⟩
    · rw [if_pos p]
    · rw [if_neg p]
  rw [e1]
  refine ⟨?_, ?_, ?_⟩
  · rw [List.range_succ, List.map_append, List.map_singleton, ex, e2]
  · rw [List.range_succ, List.map_append, List.map_singleton, ey, e2]
  · rw [List.range_succ, List.flatMap_append, List.flatMap_singleton, e2, List.append_assoc]
section
variable {prog : Program} {w : World} {A : Around} {E : Value → Shared → Prop} {s : Shared} {h₀ : Heap} {L l : Addr} {m : Str → Option Value} {news : List (Addr × Obj)} {vs : List Value} {ns : List Int} {e k : Int} {value slice : Expr} {t u : Tok} {Q : Value → Shared → Prop}
theorem slice_A (F : Fr h₀ L s.heap m) (N : News h₀ L s.heap news) (hl : s.heap.IsList l vs.toArray) (hi : IntsAre vs ns) (he : 0 ≤ e ∧ e ≤ 8) (hk : 0 ≤ k ∧ k < 256) (hb : (ns.length : Int) = 512 * e)
    (h : ∀ D ws h', Fr h₀ L h' m → News h₀ L h' ((D, listOf (List.toArray ws) 0) :: news) → (∀ p ∈ news, p.1 < D) → IntsAre ws (segA ns e k) → ws.length = (segA ns e k).length → (segA ns e k).length ≤ 8 → Q (.ref D) { s with heap := h' })
    (hs : subscripted slice false (.ref l) (.ref s.heap.objs.size) = operate [.ref s.heap.objs.size, .ref l] (getItem (.ref l) (.ref s.heap.objs.size))) (ht : ∀ r, letTemporaryGo value (.ref l) r = pure ()) :
    wpAny (model prog w) A (subscriptTail value slice (.ref l) (.ref s.heap.objs.size)) Q E { s with heap := s.heap.push { cls := .type "slice", data := .fields #[.int (2 * e * k) t, .int (2 * e * k + e) u, .none] } } := by
  have h1 : 0 ≤ 2 * e * k := Int.mul_nonneg (by omega) (by omega)
  have h3 : 2 * e * k + 2 * e ≤ 512 * e := by
    have : 2 * e * k + 2 * e = 2 * e * (k + 1) := by rw [Int.mul_add, Int.mul_one]
    rw [this, show (512 : Int) * e = 2 * e * 256 by omega]
    exact Int.mul_le_mul_of_nonneg_left (by omega) (by omega)
  have hm := kmk_run hi h1 (show 0 ≤ 2 * e * k + e by omega)
  rw [show min (2 * e * k + e).toNat ns.length - (2 * e * k).toNat = e.toNat by omega] at hm
  have hz : vs.toArray.size ≤ sizeLine := by
    rw [List.size_toArray, hi.length]
    have : 4096 ≤ sizeLine := by decide +kernel
    omega
  exact kmk_slice_ints F N hl (.int _ _) (.int _ _) hi hm rfl (fun D ws h' F' N' l1 hI _ _ => h D ws h' F' N' l1 hI hI.length (by have := segA_len ns e k; omega)) hs ht hz
theorem slice_B (F : Fr h₀ L s.heap m) (N : News h₀ L s.heap news) (hl : s.heap.IsList l vs.toArray) (hi : IntsAre vs ns) (he : 0 ≤ e ∧ e ≤ 8) (hk : 0 ≤ k ∧ k < 256) (hb : (ns.length : Int) = 512 * e)
    (h : ∀ D ws h', Fr h₀ L h' m → News h₀ L h' ((D, listOf (List.toArray ws) 0) :: news) → (∀ p ∈ news, p.1 < D) → IntsAre ws (segB ns e k) → ws.length = (segB ns e k).length → (segB ns e k).length ≤ 8 → Q (.ref D) { s with heap := h' })
    (hs : subscripted slice false (.ref l) (.ref s.heap.objs.size) = operate [.ref s.heap.objs.size, .ref l] (getItem (.ref l) (.ref s.heap.objs.size))) (ht : ∀ r, letTemporaryGo value (.ref l) r = pure ()) :
    wpAny (model prog w) A (subscriptTail value slice (.ref l) (.ref s.heap.objs.size)) Q E { s with heap := s.heap.push { cls := .type "slice", data := .fields #[.int (2 * e * k + e) t, .int (2 * e * k + 2 * e) u, .none] } } := by
  have h1 : 0 ≤ 2 * e * k := Int.mul_nonneg (by omega) (by omega)
  have h3 : 2 * e * k + 2 * e ≤ 512 * e := by
    have : 2 * e * k + 2 * e = 2 * e * (k + 1) := by rw [Int.mul_add, Int.mul_one]
    rw [this, show (512 : Int) * e = 2 * e * 256 by omega]
    exact Int.mul_le_mul_of_nonneg_left (by omega) (by omega)
  have hm := kmk_run hi (show 0 ≤ 2 * e * k + e by omega) (show 0 ≤ 2 * e * k + 2 * e by omega)
  rw [show min (2 * e * k + 2 * e).toNat ns.length - (2 * e * k + e).toNat = e.toNat by omega] at hm
  have hz : vs.toArray.size ≤ sizeLine := by
    rw [List.size_toArray, hi.length]
    have : 4096 ≤ sizeLine := by decide +kernel
    omega
  exact kmk_slice_ints F N hl (.int _ _) (.int _ _) hi hm rfl (fun D ws h' F' N' l1 hI _ _ => h D ws h' F' N' l1 hI hI.length (by have := segB_len ns e k; omega)) hs ht hz
end
theorem size_line5000 : 5000 ≤ sizeLine := by decide +kernel
abbrev Sg07 := (List Value × List Int × Nat) × (List Value × List Int × Nat) × (List Value × List Int × Nat) × Obj
section
variable {prog : Program} {w : World} {A : Around} {E : Value → Shared → Prop} {s : Shared} {env : Env} {h₀ : Heap} {body : List Stmt} {Q : Flow → Shared → Prop}
theorem loop07 {bits : List Int} {e : Int} (he : 0 ≤ e ∧ e ≤ 8) (hb : (bits.length : Int) = 512 * e) {r l1 l2 l3 D1 D2 ct cs : Addr} {o2 ot os : Obj} {ysb : List Value} {t₀ u₀ v₀ : Tok} {n1 n2 n3 : Nat} {m₀ : Str → Option Value}
    (hh : A.handled = none) {te : Tok} (hm : m₀ (Str.ofString "eta") = some (.int e te)) (hr : IsRange s.heap r 0 256 1 t₀ u₀ v₀)
    (F : Fr h₀ env.locals s.heap m₀)
    (N : News h₀ env.locals s.heap [(l3, W.listOf #[] n3), (l2, W.listOf #[] n2), (l1, W.listOf #[] n1), (D1, LCg.lst ysb), (D2, o2), (ct, ot), (cs, os)])
    (hI : IntsAre ysb bits) (hot : ot.data = .cell (some (.ref l3)))
    (turn : ∀ (va vb vc : List Value) (na nb nc : List Int) (p q r : Nat) (o' : Obj) (pre : List Int) (k : Int) t (u : Str → Option Value) h tk own, k = 0 + (pre.length : Int) → 0 ≤ k ∧ k < 256 → (0 ≤ e ∧ e ≤ 8) → (bits.length : Int) = 512 * e → IntsAre ysb bits → pre.length < 256 → OwnOff own [l3, l2, l1, D1, D2, ct, cs] →
      IntsAre va na → IntsAre vb nb → IntsAre vc nc → va.length = na.length → vb.length = nb.length → vc.length = nc.length → na.length = pre.length → nb.length = pre.length → nc.length ≤ 16 * pre.length → Inv07 bits e pre.length na nb nc → o'.data = .cell (some (.ref l3)) → KstMark →
      Fr h₀ env.locals h (fun y => if y = Str.ofString "i" then some (.int k t) else if ([Str.ofString "at", Str.ofString "away"] : List Str).contains y then u y else m₀ y) →
      News h₀ env.locals h ((l3, W.listOf (List.toArray vc) r) :: (l2, W.listOf (List.toArray vb) q) :: (l1, W.listOf (List.toArray va) p) :: (D1, LCg.lst ysb) :: (D2, o2) :: (ct, o') :: (cs, os) :: own) →
      wpAny (model prog w) A (execs body env) (InvPostN h₀ env.locals (KstS (σ := Sg07) (fun c => [(l3, W.listOf (List.toArray c.2.2.1.1) c.2.2.1.2.2), (l2, W.listOf (List.toArray c.2.1.1) c.2.1.2.2), (l1, W.listOf (List.toArray c.1.1) c.1.2.2), (D1, LCg.lst ysb), (D2, o2), (ct, c.2.2.2), (cs, os)]) (fun _ => [])
        (fun c => IntsAre c.1.1 c.1.2.1 ∧ IntsAre c.2.1.1 c.2.1.2.1 ∧ IntsAre c.2.2.1.1 c.2.2.1.2.1 ∧ c.2.2.2.data = .cell (some (.ref l3))) (Str.ofString "i") [Str.ofString "at", Str.ofString "away"] m₀
        (fun pre c => Inv07 bits e pre.length c.1.2.1 c.2.1.2.1 c.2.2.1.2.1) (pre ++ [k])) own [l3, l2, l1, D1, D2, ct, cs] { s with heap := h, toks := tk } Q) E { s with heap := h, toks := tk })
    (done : ∀ (va vb vc : List Value) (na nb nc : List Int) (p q r : Nat) (o' : Obj) (u : Str → Option Value) h tk, IntsAre va na → IntsAre vb nb → IntsAre vc nc → va.length = na.length → vb.length = nb.length → vc.length = nc.length → Inv07 bits e 256 na nb nc → o'.data = .cell (some (.ref l3)) →
      Fr h₀ env.locals h (fun y => if y = Str.ofString "i" then u y else if ([Str.ofString "at", Str.ofString "away"] : List Str).contains y then u y else m₀ y) →
      News h₀ env.locals h [(l3, W.listOf (List.toArray vc) r), (l2, W.listOf (List.toArray vb) q), (l1, W.listOf (List.toArray va) p), (D1, LCg.lst ysb), (D2, o2), (ct, o'), (cs, os)] → Q .next { s with heap := h, toks := tk }) :
    wpAny (model prog w) A (pyIter (.ref r)) (fun it s₂ => LoopAtV prog w A h₀ env (Str.ofString "i") body Q E it s₂) E s := by
  refine kst_range (σ := Sg07) (x := Str.ofString "i") (fun c => [(l3, W.listOf (List.toArray c.2.2.1.1) c.2.2.1.2.2), (l2, W.listOf (List.toArray c.2.1.1) c.2.1.2.2), (l1, W.listOf (List.toArray c.1.1) c.1.2.2), (D1, LCg.lst ysb), (D2, o2), (ct, c.2.2.2), (cs, os)]) (fun _ => [])
    (fun c => IntsAre c.1.1 c.1.2.1 ∧ IntsAre c.2.1.1 c.2.1.2.1 ∧ IntsAre c.2.2.1.1 c.2.2.1.2.1 ∧ c.2.2.2.data = .cell (some (.ref l3))) [Str.ofString "at", Str.ofString "away"]
    (fun pre c => Inv07 bits e pre.length c.1.2.1 c.2.1.2.1 c.2.2.1.2.1) (([], [], n1), ([], [], n2), ([], [], n3), ot) (n := 256)
    hh hr (by decide +kernel) (by decide +kernel) F N ⟨.nil, .nil, .nil, hot⟩ (fun p hp => absurd hp (by simp)) ⟨rfl, rfl, rfl⟩ ?_ ?_
  · rintro ⟨⟨va, na, p⟩, ⟨vb, nb, q⟩, ⟨vc, nc, r⟩, o'⟩ pre k t u h tk own hk1 hk2 hoff ⟨i1, i2, i3, i4⟩ hP F₁ N₁
    have hl := Inv07.len he.2 _ _ _ _ hP
    exact turn va vb vc na nb nc p q r o' pre k t u h tk own hk1 (by omega) he hb hI hk2 hoff i1 i2 i3 i1.length i2.length i3.length hl.1 hl.2.1 hl.2.2 hP i4 kstMark F₁ N₁
  · rintro ⟨⟨va, na, p⟩, ⟨vb, nb, q⟩, ⟨vc, nc, r⟩, o'⟩ u h tk ⟨i1, i2, i3, i4⟩ hP F₁ N₁
    have e : (rangeKs 0 256).length = 256 := rangeKs_length _ _
    exact done va vb vc na nb nc p q r o' u h tk i1 i2 i3 i1.length i2.length i3.length (by simpa only [e] using hP) i4 F₁ N₁
end
end Mine
end
section
open PySem PySem.W PyProof.Rows PySem.Calls
set_option maxRecDepth 100000
namespace Mine
section
variable {prog : Program} {w : World} {A : Around} {E : Value → Shared → Prop} {s : Shared} {h₀ : Heap} {L D B : Addr} {m : Str → Option Value} {news : List (Addr × Obj)} {g : Obj → List (Addr × Obj)} {vs ws : List Value} {n n2 : Nat}
theorem noI_list : fillsInplaceSlot (.type "list") "add" (Operator.Add == .Add) = pure false := by
  unfold fillsInplaceSlot
  show (typeLookup (.type "list") (dunderI "add") >>= fun fi => pure (fi.isSome && !isSeqSlot fi)) = pure false
  rw [PySem.F.slot_list_iadd.lookup]
  rfl
theorem seq_list_iadd : seqSlot? (.type "list") (dunderI "add") = pure (some (.builtin "list.__iadd__")) := PyProof.Rows.seqSlot_of PySem.F.slot_list_iadd.lookup (by decide +kernel)
/-- a list that grows by another (`xs += ys`) -/
theorem iadd_list_K {Q : Value → Shared → Prop} (F : Fr h₀ L s.heap m) (N : News h₀ L s.heap news) (U : UpdF D (W.listOf (List.toArray vs) n) news g) (hB : (B, W.listOf (List.toArray ws) n2) ∈ news) (hsz : vs.length + ws.length ≤ sizeLine)
    (h : ∀ h' n', Fr h₀ L h' m → News h₀ L h' (g (W.listOf (List.toArray (vs ++ ws)) n')) → Q (.ref D) { s with heap := h' }) :
    wpAny (model prog w) A (inplaceOp .Add (.ref D) (.ref B)) Q E s := by
  obtain ⟨own, rest, rfl, hg, g1, g2⟩ := U.split
  have hm := N (D, W.listOf (List.toArray vs) n) (List.mem_append_right _ (.head _))
  have hb := (N _ hB).1
  have hsz' : vs.toArray.size + ws.toArray.size ≤ sizeLine := by rw [List.size_toArray, List.size_toArray]; exact hsz
  have tD : s.TypeIs (.ref D) "list" := ⟨_, hm.1, rfl⟩
  have tB : s.TypeIs (.ref B) "list" := ⟨_, hb, rfl⟩
  unfold inplaceOp
  refine wpAny_holding ?_
  refine wpAny_bind (wpAny_typeOf tD (wpAny_bind (wpAny_of_eq noI_list ?_)))
  show wpAny _ A (if false = true then _ else _) Q E s
  rw [if_neg Bool.false_ne_true]
  refine wpAny_bind (binaryOp1_none (nm := "add") tD tB noFill_list_add ?_)
  refine wpAny_bind (wpAny_of_eq seq_list_iadd ?_)
  refine wpAny_bind (wpAny_rule ?_)
  refine call_meets PySem.F.slot_list_iadd tD PySem.F.entry_list_iadd (PySem.F.args_list_iadd_2 _ _) (AutoSeq1.list___iadd___list_list_0 D vs.toArray n B ws.toArray n2 (extend_door hsz') (Nat.le_trans (Nat.le_add_right _ _) hsz')
    (Nat.le_succ_of_le hsz')) ⟨hm.1, hb, ?_⟩
  have e : vs.toArray ++ ws.toArray = (vs ++ ws).toArray := by simp
  have ho' : (s.heap.update D (Obj.mapSeq fun x => x ++ ws.toArray)).get? D = some (W.listOf (List.toArray (vs ++ ws)) (if (vs.toArray ++ ws.toArray).size == vs.toArray.size then n else n + 1)) := by
    rw [Heap.get?_update_self _ hm.1 (by unfold W.listOf; rw [mapSeq_app]; rfl)]
    unfold W.listOf
    rw [mapSeq_app, e]
  have SB : Heap.SameBut D s.heap (s.heap.update D (Obj.mapSeq fun x => x ++ ws.toArray)) := Heap.SameBut.update ..
  exact h _ _ (F.change SB hm.2.1 hm.2.2) (hg _ ▸ N.setAt g1 g2 SB ho')
end
end Mine
end
section
open PySem PySem.W PyProof.Rows
namespace Mine
theorem seg_sum (bits : List Int) (lo : Nat) : ∀ n, ((bits.drop lo).take n).sum = sumAt bits lo n
  | 0 => by simp [sumAt]
  | n + 1 => by
    have ih := seg_sum bits lo n
    unfold sumAt at ih ⊢
    rw [List.take_add_one, List.sum_append, ih, List.range_succ, List.map_append, List.sum_append, List.getElem?_drop]
    congr 1
    rw [List.map_singleton, List.sum_singleton, List.getD_eq_getElem?_getD]
    cases bits[lo + n]? <;> simp
theorem at_nat (e : Nat) (k : Nat) : (2 * (e : Int) * (k : Int)).toNat = 2 * e * k := by
  have : (2 * (e : Int) * (k : Int)) = ((2 * e * k : Nat) : Int) := by push_cast; rfl
  rw [this, Int.toNat_natCast]
theorem at_nat2 (e : Nat) (k : Nat) : (2 * (e : Int) * (k : Int) + e).toNat = 2 * e * k + e := by
  have : (2 * (e : Int) * (k : Int) + e) = ((2 * e * k + e : Nat) : Int) := by push_cast; rfl
  rw [this, Int.toNat_natCast]
theorem away_eq (bits : List Int) (e : Nat) (k : Nat) : away bits e k = sumAt bits (2 * e * k) e - sumAt bits (2 * e * k + e) e := by
  unfold away segA segB
  rw [at_nat, at_nat2, Int.toNat_natCast, seg_sum, seg_sum]
def Bits (bits : List Int) : Prop := ∀ j, 0 ≤ bits.getD j 0 ∧ bits.getD j 0 ≤ 1
theorem bits_ok (os : List Int) (ho : Octets os) : Bits (bitsOf os) := fun j => by
  rw [bits_test os ho]
  split <;> decide
theorem sumAt_bounds {bits : List Int} (h : Bits bits) (lo : Nat) : ∀ n : Nat, 0 ≤ sumAt bits lo n ∧ sumAt bits lo n ≤ n
  | 0 => by simp [sumAt]
  | n + 1 => by
    have ih := sumAt_bounds h lo n
    unfold sumAt at ih ⊢
    rw [List.range_succ, List.map_append, List.sum_append, List.map_singleton, List.sum_singleton]
    have := h (lo + n)
    omega
theorem away_bounds {bits : List Int} (h : Bits bits) (e k : Nat) (he : e ≤ 8) : -8 ≤ away bits e k ∧ away bits e k ≤ 8 := by
  rw [away_eq]
  have h1 := sumAt_bounds h (2 * e * k) e
  have h2 := sumAt_bounds h (2 * e * k + e) e
  omega
theorem ownV_mod {d : Int} (h : -8 ≤ d ∧ d ≤ 8) : ownV d = d.fmod 3329 := by
  unfold ownV
  rw [Int.fmod_eq_emod_of_nonneg _ (by decide)]
  split <;> omega
theorem oppV_mod {d : Int} (h : -8 ≤ d ∧ d ≤ 8) : oppV d = (-d).fmod 3329 := by
  unfold oppV
  rw [Int.fmod_eq_emod_of_nonneg _ (by decide)]
  split <;> omega
section
variable {os os' na nb nc : List Int} {eta : Int}
theorem told07 (ho : Octets os) (hr : 0 ≤ eta ∧ eta ≤ 8) (hI : Inv07 (bitsOf os) eta 256 na nb nc) : cbdL os eta = na := by
  obtain ⟨e, rfl⟩ := Int.eq_ofNat_of_zero_le hr.1
  rw [hI.1]
  unfold cbdL
  refine List.map_congr_left fun i _ => ?_
  unfold cbdAt
  rw [Int.toNat_natCast, ← away_eq, ownV_mod (away_bounds (bits_ok os ho) e i (by omega))]
theorem told07' (hI : Inv07 (bitsOf os) eta 256 na nb nc) (ho : Octets os) (hr : 0 ≤ eta ∧ eta ≤ 8) : cbdL os eta = na := told07 ho hr hI
/-- the numbers of octets whose bits are turned about give the opposite -/
theorem opp_of (ho : Octets os) (hr : 0 ≤ eta ∧ eta ≤ 8) (hI : Inv07 (bitsOf os) eta 256 na nb nc)
    (h : ∀ i : Nat, i < 256 → sumAt (bitsOf os') (2 * eta.toNat * i) eta.toNat - sumAt (bitsOf os') (2 * eta.toNat * i + eta.toNat) eta.toNat = -(sumAt (bitsOf os) (2 * eta.toNat * i) eta.toNat - sumAt (bitsOf os) (2 * eta.toNat * i + eta.toNat) eta.toNat)) : cbdL os' eta = nb := by
  obtain ⟨e, rfl⟩ := Int.eq_ofNat_of_zero_le hr.1
  rw [hI.2.1]
  unfold cbdL
  refine List.map_congr_left fun i hi => ?_
  unfold cbdAt
  rw [h i (List.mem_range.mp hi), Int.toNat_natCast, ← away_eq, oppV_mod (away_bounds (bits_ok os ho) e i (by omega))]
theorem flip_bits (ho : Octets os) (j : Nat) (hj : j < 8 * os.length) : (bitsOf (os.map fun o => 255 - o)).getD j 0 = 1 - (bitsOf os).getD j 0 := by
  have e1 := bitsOf_getD os (j / 8) (j % 8) (Nat.mod_lt _ (by decide))
  have e2 := bitsOf_getD (os.map fun o => 255 - o) (j / 8) (j % 8) (Nat.mod_lt _ (by decide))
  rw [show 8 * (j / 8) + j % 8 = j by omega] at e1 e2
  rw [e1, e2]
  have hq : j / 8 < os.length := by omega
  have h1 : (os.map fun o => 255 - o).getD (j / 8) 0 = 255 - os.getD (j / 8) 0 := by
    rw [List.getD_eq_getElem?_getD, List.getD_eq_getElem?_getD, List.getElem?_map, List.getElem?_eq_getElem hq]
    rfl
  rw [h1]
  have h0 := ho (j / 8)
  generalize os.getD (j / 8) 0 = o at *
  have hr : j % 8 < 8 := Nat.mod_lt _ (by decide)
  generalize j % 8 = r at *
  have p0 : (2 : Int) ^ 0 = 1 := by decide
  have p1 : (2 : Int) ^ 1 = 2 := by decide
  have p2 : (2 : Int) ^ 2 = 4 := by decide
  have p3 : (2 : Int) ^ 3 = 8 := by decide
  have p4 : (2 : Int) ^ 4 = 16 := by decide
  have p5 : (2 : Int) ^ 5 = 32 := by decide
  have p6 : (2 : Int) ^ 6 = 64 := by decide
  have p7 : (2 : Int) ^ 7 = 128 := by decide
  match r, hr with
  | 0, _ => rw [p0]; omega
  | 1, _ => rw [p1]; omega
  | 2, _ => rw [p2]; omega
  | 3, _ => rw [p3]; omega
  | 4, _ => rw [p4]; omega
  | 5, _ => rw [p5]; omega
  | 6, _ => rw [p6]; omega
  | 7, _ => rw [p7]; omega
theorem flip_sum (ho : Octets os) (lo : Nat) : ∀ n : Nat, lo + n ≤ 8 * os.length → sumAt (bitsOf (os.map fun o => 255 - o)) lo n = n - sumAt (bitsOf os) lo n
  | 0, _ => by simp [sumAt]
  | n + 1, h => by
    have ih := flip_sum ho lo n (by omega)
    unfold sumAt at ih ⊢
    rw [List.range_succ, List.map_append, List.sum_append, List.map_singleton, List.sum_singleton, List.map_append, List.sum_append, List.map_singleton, List.sum_singleton, ih, flip_bits ho _ (by omega)]
    push_cast
    omega
theorem flip07 (ho : Octets os) (hr : 0 ≤ eta ∧ eta ≤ 8) (hl : (os.length : Int) = 64 * eta) (hI : Inv07 (bitsOf os) eta 256 na nb nc) : cbdL (os.map fun o => 255 - o) eta = nb := by
  refine opp_of ho hr hI fun i hi => ?_
  obtain ⟨e, rfl⟩ := Int.eq_ofNat_of_zero_le hr.1
  rw [Int.toNat_natCast]
  have : 2 * e * i + 2 * e ≤ 2 * e * 256 := by
    have : 2 * e * (i + 1) ≤ 2 * e * 256 := Nat.mul_le_mul_left _ hi
    rwa [Nat.mul_add, Nat.mul_one] at this
  rw [flip_sum ho _ _ (by omega), flip_sum ho _ _ (by omega)]
  omega
/-- a list of blocks of one length, by its blocks -/
theorem drop_blocks {α : Type} {f : α → List Int} {c : Nat} : ∀ (l : List α) (i : Nat), (∀ x ∈ l, (f x).length = c) → (l.flatMap f).drop (c * i) = (l.drop i).flatMap f
  | [], i, _ => by simp
  | x :: r, 0, _ => by simp
  | x :: r, i + 1, h => by
    have ih := drop_blocks r i fun y hy => h y (List.mem_cons_of_mem _ hy)
    rw [List.flatMap_cons, List.drop_succ_cons, ← ih]
    have hx := h x List.mem_cons_self
    rw [show c * (i + 1) = (f x).length + c * i by rw [hx, Nat.mul_add, Nat.mul_one, Nat.add_comm], List.drop_append]
    simp
theorem block_of {f : Nat → List Int} {c n i : Nat} (h : ∀ x < n, (f x).length = c) (hi : i < n) : (((List.range n).flatMap f).drop (c * i)).take c = f i := by
  rw [drop_blocks _ _ fun x hx => h x (List.mem_range.mp hx)]
  have : (List.range n).drop i = i :: (List.range n).drop (i + 1) := by
    rw [List.drop_eq_getElem_cons (by simpa using hi)]
    simp
  rw [this, List.flatMap_cons, ← h i hi, List.take_left]
theorem seg_full {bits : List Int} {e : Nat} (hb : bits.length = 512 * e) {i : Nat} (hi : i < 256) : (segA bits e i).length = e ∧ (segB bits e i).length = e := by
  have : 2 * e * i + 2 * e ≤ 2 * e * 256 := by
    have : 2 * e * (i + 1) ≤ 2 * e * 256 := Nat.mul_le_mul_left _ hi
    rwa [Nat.mul_add, Nat.mul_one] at this
  unfold segA segB
  rw [at_nat, at_nat2, Int.toNat_natCast, List.length_take, List.length_drop, List.length_take, List.length_drop]
  omega
/-- the turned bits, by the halves of the numbers -/
theorem turned_seg {bits : List Int} {e : Nat} (hb : bits.length = 512 * e) (hI : Inv07 bits e 256 na nb nc) {i : Nat} (hi : i < 256) :
    (nc.drop (2 * e * i)).take e = segB bits e i ∧ (nc.drop (2 * e * i + e)).take e = segA bits e i := by
  have hB := block_of (f := fun (i : Nat) => segB bits e i ++ segA bits e i) (c := 2 * e) (n := 256) (fun x hx => by
    have := seg_full hb hx
    rw [List.length_append]; omega) hi
  rw [← hI.2.2] at hB
  have hl := seg_full hb hi
  constructor
  · have : (nc.drop (2 * e * i)).take e = ((nc.drop (2 * e * i)).take (2 * e)).take e := by rw [List.take_take, show min e (2 * e) = e by omega]
    rw [this, hB, List.take_append_of_le_length (by omega), List.take_of_length_le (by omega)]
  · have : (nc.drop (2 * e * i + e)).take e = ((nc.drop (2 * e * i)).take (2 * e)).drop e := by
      rw [List.drop_take, List.drop_drop, show 2 * e - e = e by omega]
    rw [this, hB, List.drop_append_of_le_length (by omega), List.drop_of_length_le (by omega), List.nil_append]
theorem turned_len {bits : List Int} {e : Nat} (hb : bits.length = 512 * e) (hI : Inv07 bits e 256 na nb nc) : nc.length = 512 * e := by
  rw [hI.2.2]
  have : ∀ k, k ≤ 256 → ((List.range k).flatMap fun (i : Nat) => segB bits e i ++ segA bits e i).length = 2 * e * k := by
    intro k
    induction k with
    | zero => intro _; simp
    | succ k ih =>
      intro hk
      have := seg_full hb (show k < 256 by omega)
      rw [List.range_succ, List.flatMap_append, List.length_append, List.flatMap_singleton, List.length_append, ih (by omega), Nat.mul_add]
      omega
  rw [this 256 (Nat.le_refl _)]
  omega
theorem turned_ok {bits : List Int} (h : Bits bits) {e : Nat} (hI : Inv07 bits e 256 na nb nc) : Bits nc := by
  have hs : ∀ x ∈ nc, 0 ≤ x ∧ x ≤ 1 := by
    intro x hx
    rw [hI.2.2, List.mem_flatMap] at hx
    obtain ⟨i, _, hx⟩ := hx
    have : x ∈ bits := by
      rcases List.mem_append.mp hx with hx | hx <;> exact List.mem_of_mem_drop (List.mem_of_mem_take hx)
    obtain ⟨j, hj, rfl⟩ := List.getElem_of_mem this
    have := h j
    rwa [List.getD_eq_getElem?_getD, List.getElem?_eq_getElem hj] at this
  intro j
  rw [List.getD_eq_getElem?_getD]
  cases hj : nc[j]? with
  | none => simp
  | some x => exact hs x (List.mem_of_getElem? hj)
/-- eight bits as an octet -/
def oct (T : List Int) (o : Int) : Int := ((rangeKs 0 8).map fun t => T.getD (8 * o + t).toNat 0 * 2 ^ t.toNat).sum
theorem oct_eq (T : List Int) (q : Nat) : oct T q = T.getD (8 * q + 0) 0 * 1 + T.getD (8 * q + 1) 0 * 2 + T.getD (8 * q + 2) 0 * 4 + T.getD (8 * q + 3) 0 * 8 + T.getD (8 * q + 4) 0 * 16 + T.getD (8 * q + 5) 0 * 32 + T.getD (8 * q + 6) 0 * 64 + T.getD (8 * q + 7) 0 * 128 := by
  have e : rangeKs 0 8 = [0, 1, 2, 3, 4, 5, 6, 7] := by decide
  unfold oct
  rw [e]
  simp only [List.map_cons, List.map_nil, List.sum_cons, List.sum_nil]
  have p0 : (2 : Int) ^ (0 : Int).toNat = 1 := by decide
  have p1 : (2 : Int) ^ (1 : Int).toNat = 2 := by decide
  have p2 : (2 : Int) ^ (2 : Int).toNat = 4 := by decide
  have p3 : (2 : Int) ^ (3 : Int).toNat = 8 := by decide
  have p4 : (2 : Int) ^ (4 : Int).toNat = 16 := by decide
  have p5 : (2 : Int) ^ (5 : Int).toNat = 32 := by decide
  have p6 : (2 : Int) ^ (6 : Int).toNat = 64 := by decide
  have p7 : (2 : Int) ^ (7 : Int).toNat = 128 := by decide
  rw [p0, p1, p2, p3, p4, p5, p6, p7]
  rw [show (8 * (q : Int) + 0).toNat = 8 * q + 0 by omega, show (8 * (q : Int) + 1).toNat = 8 * q + 1 by omega, show (8 * (q : Int) + 2).toNat = 8 * q + 2 by omega, show (8 * (q : Int) + 3).toNat = 8 * q + 3 by omega,
    show (8 * (q : Int) + 4).toNat = 8 * q + 4 by omega, show (8 * (q : Int) + 5).toNat = 8 * q + 5 by omega, show (8 * (q : Int) + 6).toNat = 8 * q + 6 by omega, show (8 * (q : Int) + 7).toNat = 8 * q + 7 by omega]
  omega
theorem oct_bound {T : List Int} (h : Bits T) (q : Nat) : 0 ≤ oct T q ∧ oct T q < 256 := by
  rw [oct_eq]
  have h0 := h (8 * q + 0); have h1 := h (8 * q + 1); have h2 := h (8 * q + 2); have h3 := h (8 * q + 3)
  have h4 := h (8 * q + 4); have h5 := h (8 * q + 5); have h6 := h (8 * q + 6); have h7 := h (8 * q + 7)
  omega
theorem oct_bit {T : List Int} (h : Bits T) (q r : Nat) (hr : r < 8) : oct T q / 2 ^ r % 2 = T.getD (8 * q + r) 0 := by
  rw [oct_eq]
  have h0 := h (8 * q + 0); have h1 := h (8 * q + 1); have h2 := h (8 * q + 2); have h3 := h (8 * q + 3)
  have h4 := h (8 * q + 4); have h5 := h (8 * q + 5); have h6 := h (8 * q + 6); have h7 := h (8 * q + 7)
  have p0 : (2 : Int) ^ 0 = 1 := by decide
  have p1 : (2 : Int) ^ 1 = 2 := by decide
  have p2 : (2 : Int) ^ 2 = 4 := by decide
  have p3 : (2 : Int) ^ 3 = 8 := by decide
  have p4 : (2 : Int) ^ 4 = 16 := by decide
  have p5 : (2 : Int) ^ 5 = 32 := by decide
  have p6 : (2 : Int) ^ 6 = 64 := by decide
  have p7 : (2 : Int) ^ 7 = 128 := by decide
  match r, hr with
  | 0, _ => rw [p0]; omega
  | 1, _ => rw [p1]; omega
  | 2, _ => rw [p2]; omega
  | 3, _ => rw [p3]; omega
  | 4, _ => rw [p4]; omega
  | 5, _ => rw [p5]; omega
  | 6, _ => rw [p6]; omega
  | 7, _ => rw [p7]; omega
theorem packed_bits {T : List Int} (h : Bits T) (n : Nat) (j : Nat) (hj : j < 8 * n) : (bitsOf ((rangeKs 0 n).map (oct T))).getD j 0 = T.getD j 0 := by
  have e2 := bitsOf_getD ((rangeKs 0 n).map (oct T)) (j / 8) (j % 8) (Nat.mod_lt _ (by decide))
  rw [show 8 * (j / 8) + j % 8 = j by omega] at e2
  rw [e2]
  have hq : j / 8 < n := by omega
  have h1 : ((rangeKs 0 n).map (oct T)).getD (j / 8) 0 = oct T ((j / 8 : Nat) : Int) := by
    rw [List.getD_eq_getElem?_getD, List.getElem?_map]
    have : (rangeKs 0 n)[j / 8]? = some ((j / 8 : Nat) : Int) := by simp [rangeKs, hq]
    rw [this]
    rfl
  rw [h1, oct_bit h _ _ (Nat.mod_lt _ (by decide)), show 8 * (j / 8) + j % 8 = j by omega]
theorem sumAt_congr {a b : List Int} {lo : Nat} : ∀ {n : Nat}, (∀ j, j < lo + n → a.getD j 0 = b.getD j 0) → sumAt a lo n = sumAt b lo n := by
  intro n h
  unfold sumAt
  congr 1
  refine List.map_congr_left fun t ht => ?_
  have := List.mem_range.mp ht
  exact h _ (by omega)
theorem swap07 (ho : Octets os) (hr : 0 ≤ eta ∧ eta ≤ 8) (hl : (os.length : Int) = 64 * eta) (hI : Inv07 (bitsOf os) eta 256 na nb nc) : cbdL ((rangeKs 0 (64 * eta - 0).toNat).map (oct nc)) eta = nb := by
  refine opp_of ho hr hI fun i hi => ?_
  obtain ⟨e, rfl⟩ := Int.eq_ofNat_of_zero_le hr.1
  have hb : (bitsOf os).length = 512 * e := by rw [bitsOf_length]; omega
  have hB := turned_ok (bits_ok os ho) hI
  have hs := turned_seg hb hI hi
  have h3 : 2 * e * i + 2 * e ≤ 2 * e * 256 := by
    have : 2 * e * (i + 1) ≤ 2 * e * 256 := Nat.mul_le_mul_left _ hi
    rwa [Nat.mul_add, Nat.mul_one] at this
  have en : (64 * (e : Int) - 0).toNat = 64 * e := by omega
  rw [Int.toNat_natCast, en, sumAt_congr (fun j hj => packed_bits hB (64 * e) j (by omega)), sumAt_congr (fun j hj => packed_bits hB (64 * e) j (by omega)), ← seg_sum, ← seg_sum, hs.1, hs.2, ← seg_sum, ← seg_sum]
  unfold segA segB
  rw [at_nat, at_nat2, Int.toNat_natCast]
  omega
theorem packed_octets (ho : Octets os) (hr : 0 ≤ eta ∧ eta ≤ 8) (hI : Inv07 (bitsOf os) eta 256 na nb nc) (k : Int) (hk : 0 ≤ k) : 0 ≤ oct nc k ∧ oct nc k < 256 := by
  obtain ⟨e, rfl⟩ := Int.eq_ofNat_of_zero_le hr.1
  obtain ⟨q, rfl⟩ := Int.eq_ofNat_of_zero_le hk
  exact oct_bound (turned_ok (bits_ok os ho) hI) q
end
end Mine
end
section
open PySem PySem.W PyProof.Rows PySem.Calls
set_option maxRecDepth 100000
namespace Mine
def flipComp (p1 p2 p3 p4 p5 : Pos) (scope : Scope) (pos : Pos) : Expr :=
  .ListComp (.BinOp (.Constant (.int 255) 0 p1) .Sub (.Name (Str.ofString "o") p2) p3) [⟨.Name (Str.ofString "o") p4, .Name (Str.ofString "octets") p5, [], 0⟩] scope pos
section
variable {prog : Program} {w : World} {A : Around} {E : Value → Shared → Prop} {s : Shared} {env : Env} {h₀ : Heap} {L : Addr} {m : Str → Option Value} {news : List (Addr × Obj)}
theorem rest_flip {p1 p2 p3 : Pos} {scope : Scope} {b : Array UInt8} {sg : Shared} {S : List (Addr × Obj) → Prop} {Fin : List Value → List (Addr × Obj) → Prop} (hkind : scope.kind = .function) (ho : scope.names.lookup (Str.ofString "o") = some .local) (hS : S news)
    (fin : ∀ ys, IntsAre ys ((KBw.bInts b).map fun o => 255 - o) → Fin ys news) :
    ∀ k i ys, k + i = b.size → IntsAre ys (((KBw.bInts b).take i).map fun o => 255 - o) →
      LCg.CompRest prog w A h₀ L m env (.BinOp (.Constant (.int 255) 0 p1) .Sub (.Name (Str.ofString "o") p2) p3) (Str.ofString "o") scope [] sg S (fun i v => ∃ c t, b[i]? = some c ∧ v = .int (c.toNat : Int) t) Fin k i ys news := by
  intro k
  induction k with
  | zero =>
    intro i ys e hI
    obtain rfl : i = b.size := by omega
    rw [List.take_of_length_le (by rw [KBw.ints_length]; exact Nat.le_refl _)] at hI
    exact LCg.CompRest.zero (fin ys hI)
  | succ k ih =>
    intro i ys e hI
    refine LCg.CompRest.succ ?_
    rintro v I oI C oC D m₂ h tk E' ⟨c, tt, hc, rfl⟩ hoC hm₂ F N off ne
    have zC : h.get? C = some oC := (N (C, oC) (.tail _ (.head _))).1
    refine wpAny_BinOp (wpAny_Constant_int (wpAny_Name (wpAny_loadName_local (env := compEnvC scope [] C env) (m := m₂) hkind (lookup_relabel_local ho) (hoC.ns zC) hm₂ ?_) (by decide)))
    refine sub_int ?_
    refine LCg.CompEnd.intro F N news (fun p hp => hp) off hS (ih (i + 1) _ (by omega) ?_)
    have hcb : (KBw.bInts b)[i]? = some (c.toNat : Int) := by unfold KBw.bInts; simp [hc]
    rw [List.take_add_one, hcb, List.map_append]
    exact hI.append (.cons _ _ .nil)
theorem flip_comp {p1 p2 p3 p4 p5 : Pos} {scope : Scope} {pos : Pos} {b : Array UInt8} {tb : Tok} {Q : Value → Shared → Prop}
    (F : Fr h₀ env.locals s.heap m) (N : News h₀ env.locals s.heap news) (hm : m (Str.ofString "octets") = some (.bytes b tb)) (hh : A.handled = none) (hk : env.scope.kind = .function) (hoct : env.kindOf (Str.ofString "octets") = some .local)
    (hclos : closureFor scope env = pure []) (hcell : ∀ y ∈ scope.names, y.2 ≠ .cell) (hkind : scope.kind = .function) (hnames : ∀ y ∈ scope.names, y.2 = .local → scope.names.lookup y.1 = some .local) (ho : scope.names.lookup (Str.ofString "o") = some .local) (hsz : b.size ≤ 900)
    (h : ∀ D h' tk ys, Fr h₀ env.locals h' m → News h₀ env.locals h' ((D, LCg.lst ys) :: news) → IntsAre ys ((KBw.bInts b).map fun o => 255 - o) → LCg.Off1 D news → Q (.ref D) { s with heap := h', toks := tk }) :
    wpAny (model prog w) A (eval (flipComp p1 p2 p3 p4 p5 scope pos) env) Q E s := by
  have h5 := size_line5000
  unfold flipComp
  rw [eval_ListComp]
  refine wpAny_comprehension_free (use := none) rfl (by intro _; rfl) hclos hkind hnames ?_
  refine wpAny_Name (wpAny_loadName_local hk hoct F.ns hm ?_) (by decide)
  refine KBw.pyIter_bytes ?_
  have up : ∀ b' o, s.heap.get? b' = some o → (s.heap.push { cls := .type "bytes_iterator", data := .fields #[.bytes b tb, .int 0 0] }).get? b' = some o := fun _ _ e => Heap.get?_push_of_some _ e
  have W := KBw.walks (prog := prog) (w := w) (A := A) hh s.heap.objs.size b tb
  refine LCg.block_U (env := env) (L := env.locals) (h₀ := h₀) (m := m) (news := news) (S := fun _ => True) (Fin := fun ys nw => nw = news ∧ IntsAre ys ((KBw.bInts b).map fun o => 255 - o)) W (by omega) (fun i h st => by obtain ⟨o, e, _⟩ := st; exact ⟨o, e⟩) ?_ hcell hkind ho ⟨_, Heap.get?_push_size _ rfl, rfl, rfl⟩ (fun a ha => ?_)
    (F.keeps up) (N.grown up) (Nat.ne_of_lt F.ns.lt) (next_is_new F) (fun p hp => Nat.ne_of_lt (Heap.lt_size (N p hp).1)) trivial ?_ ?_
  · intro i h h' o nw st e e' _ _ _
    obtain ⟨o', q, r⟩ := st
    rw [e] at q
    cases q
    exact ⟨o, e', r⟩
  · show a < (s.heap.push _).objs.size
    rw [Heap.size_push, List.mem_singleton.mp ha]
    exact Nat.lt_succ_self _
  · exact rest_flip hkind ho trivial (fun ys hI => ⟨rfl, hI⟩) b.size 0 [] (by omega) (by simpa using IntsAre.nil)
  · intro D C h' tk m' ys news' F' N' o1 hn hC₀ hD₀ hCL hDL hCD offC fin
    obtain ⟨rfl, hI⟩ := fin
    refine ⟨m', hn, fun h'' hs'' => h D h'' tk ys (F'.change hs'' hCL hC₀) (fun p hp => ?_) hI o1⟩
    refine ⟨hs''.extBut _ _ ?_ (N' p hp).1, (N' p hp).2⟩
    rcases List.mem_cons.mp hp with rfl | hp
    · exact Ne.symm hCD
    · exact offC p hp
end
end Mine
end
section
open PySem PySem.W PyProof.Rows PySem.Calls
set_option maxRecDepth 100000
namespace Mine
/-- `turned[8 * o + t] * 2 ** t` -/
def octElt (q1 q2 q3 q4 q5 q6 q7 q8 q9 q10 q11 : Pos) : Expr :=
  .BinOp (.Subscript (.Name (Str.ofString "turned") q1) (.BinOp (.BinOp (.Constant (.int 8) 0 q2) .Mult (.Name (Str.ofString "o") q3) q4) .Add (.Name (Str.ofString "t") q5) q6) q7) .Mult (.BinOp (.Constant (.int 2) 0 q8) .Pow (.Name (Str.ofString "t") q9) q10) q11
def scT : Scope := { kind := .function, names := [(Str.ofString ".0", .local), (Str.ofString "t", .local), (Str.ofString "o", .free), (Str.ofString "turned", .free)], isGenerator := false, isCoroutine := false, more := [] }
def scO : Scope := { kind := .function, names := [(Str.ofString ".0", .local), (Str.ofString "o", .cell), (Str.ofString "sum", .globalImplicit), (Str.ofString "range", .globalImplicit), (Str.ofString "turned", .free)], isGenerator := false, isCoroutine := false, more := [] }
section
variable {prog : Program} {w : World} {A : Around} {E : Value → Shared → Prop} {s : Shared} {env : Env}
theorem eval_octElt {q1 q2 q3 q4 q5 q6 q7 q8 q9 q10 q11 : Pos} {m : Str → Option Value} {o t : Int} {to tt : Tok} {cO cT l : Addr} {vs : List Value} {ns : List Int} {Q : Value → Shared → Prop} (hk : env.scope.kind = .function)
    (kt : env.kindOf (Str.ofString "t") = some .local) (ko : env.kindOf (Str.ofString "o") = some .cell) (ku : env.kindOf (Str.ofString "turned") = some .cell) (hO : env.cells.lookup (Str.ofString "o") = some cO) (hT : env.cells.lookup (Str.ofString "turned") = some cT)
    (hn : s.heap.Ns env.locals m) (vt : m (Str.ofString "t") = some (.int t tt)) (vo : s.heap.IsCell cO (some (.int o to))) (vu : s.heap.IsCell cT (some (.ref l))) (hl : s.heap.IsList l vs.toArray) (hi : IntsAre vs ns)
    (t0 : 0 ≤ t) (t1 : t < 8) (o0 : 0 ≤ o) (o1 : 8 * o + 8 ≤ ns.length) (hz : ns.length ≤ 5000)
    (h : ∀ tk u, Q (.int (ns.getD (8 * o + t).toNat 0 * 2 ^ t.toNat) u) { s with toks := tk }) :
    wpAny (model prog w) A (eval (octElt q1 q2 q3 q4 q5 q6 q7 q8 q9 q10 q11) env) Q E s := by
  refine wpAny_BinOp (Subscript_ (wpAny_Name (wpAny_loadName_cell hk ku hT vu ?_) (by decide)))
  refine wpAny_BinOp (wpAny_BinOp (wpAny_Constant_int (wpAny_Name (wpAny_loadName_cell hk ko hO vo ?_) (by decide))))
  refine mul_int ?_ (IntMulOk.of_right (intBits_le_64 (by omega) (by omega)))
  refine wpAny_Name (wpAny_loadName_local hk kt hn vt ?_) (by decide)
  refine add_int ?_
  refine item_list_ints hl hi (by omega) (by omega) (by omega) (fun u => ?_)
  refine wpAny_BinOp (wpAny_Constant_int (wpAny_Name (wpAny_loadName_local hk kt hn vt (pow_int_small t0 (by omega) (by decide) ?_)) (by decide)))
  exact mul_pow (by omega) (h _ _)
end
end Mine
end
section
open PySem PySem.W PyProof.Rows PySem.Calls
set_option maxRecDepth 100000
namespace Mine
def octComp (q1 q2 q3 q4 q5 q6 q7 q8 q9 q10 q11 r1 r2 r3 r4 r5 : Pos) : Expr :=
  .ListComp (octElt q1 q2 q3 q4 q5 q6 q7 q8 q9 q10 q11) [⟨.Name (Str.ofString "t") r1, .Call (.Name (Str.ofString "range") r2) [.Constant (.int 8) 0 r3] [] r4, [], 0⟩] scT r5
section
variable {prog : Program} {w : World} {A : Around} {E : Value → Shared → Prop} {s : Shared} {env : Env} {h₀ : Heap} {L : Addr} {m mg mb : Str → Option Value} {news : List (Addr × Obj)}
theorem kindT (hk : env.scope.kind = .function) (ko : env.kindOf (Str.ofString "o") = some .cell) (ku : env.kindOf (Str.ofString "turned") = some .cell) (cl : List (Str × Addr)) (C : Addr) :
    (compEnvC scT cl C env).kindOf (Str.ofString "t") = some .local ∧ (compEnvC scT cl C env).kindOf (Str.ofString "o") = some .cell ∧ (compEnvC scT cl C env).kindOf (Str.ofString "turned") = some .cell := by
  have e : relabel scT env = { scT with names := [(Str.ofString ".0", .local), (Str.ofString "t", .local), (Str.ofString "o", .cell), (Str.ofString "turned", .cell)] } := by
    unfold relabel scT
    simp only [List.map_cons, List.map_nil, hk, ko, ku]
    rfl
  unfold Env.kindOf compEnvC
  rw [e]
  have z : ∀ x, List.lookup x [(Str.ofString ".0", NameKind.local), (Str.ofString "t", .local), (Str.ofString "o", .cell), (Str.ofString "turned", .cell)] = List.lookup x [(Str.ofString ".0", NameKind.local), (Str.ofString "t", .local), (Str.ofString "o", .cell), (Str.ofString "turned", .cell)] := fun _ => rfl
  exact ⟨(z _).trans (by decide +kernel), (z _).trans (by decide +kernel), (z _).trans (by decide +kernel)⟩
theorem rest_octs {q1 q2 q3 q4 q5 q6 q7 q8 q9 q10 q11 : Pos} {o : Int} {to : Tok} {cO cT l : Addr} {oO oT : Obj} {vs : List Value} {n : Nat} {ns : List Int} {sg : Shared} {cl : List (Str × Addr)} {Fin : List Value → List (Addr × Obj) → Prop}
    (hk : env.scope.kind = .function) (ko : env.kindOf (Str.ofString "o") = some .cell) (ku : env.kindOf (Str.ofString "turned") = some .cell) (hO : cl.lookup (Str.ofString "o") = some cO) (hT : cl.lookup (Str.ofString "turned") = some cT)
    (mO : (cO, oO) ∈ news) (dO : oO.data = .cell (some (.int o to))) (mT : (cT, oT) ∈ news) (dT : oT.data = .cell (some (.ref l))) (ml : (l, W.listOf (List.toArray vs) n) ∈ news) (hi : IntsAre vs ns)
    (o0 : 0 ≤ o) (o1 : 8 * o + 8 ≤ ns.length) (hz : ns.length ≤ 5000) (fin : ∀ ys, IntsAre ys ((rangeKs 0 8).map fun t => ns.getD (8 * o + t).toNat 0 * 2 ^ t.toNat) → Fin ys news) :
    ∀ k i ys, k + i = 8 → IntsAre ys ((rangeKs 0 i).map fun t => ns.getD (8 * o + t).toNat 0 * 2 ^ t.toNat) →
      LCg.CompRest prog w A h₀ L m env (octElt q1 q2 q3 q4 q5 q6 q7 q8 q9 q10 q11) (Str.ofString "t") scT cl sg (fun _ => True) (fun i v => ∃ t, v = .int ((0 : Int) + (i : Int)) t) Fin k i ys news := by
  intro k
  induction k with
  | zero =>
    intro i ys e hI
    obtain rfl : i = 8 := by omega
    exact LCg.CompRest.zero (fin ys hI)
  | succ k ih =>
    intro i ys e hI
    refine LCg.CompRest.succ ?_
    rintro v I oI C oC D m₂ h tk E' ⟨tt, rfl⟩ hoC hm₂ F N off ne
    have z : ∀ {p : Addr × Obj}, p ∈ news → h.get? p.1 = some p.2 := fun hp => (N _ (.tail _ (.tail _ (.tail _ hp)))).1
    have zC : h.get? C = some oC := (N (C, oC) (.tail _ (.head _))).1
    have kk := kindT hk ko ku cl C
    refine eval_octElt (m := m₂) (o := o) (t := (0 : Int) + (i : Int)) (l := l) (vs := vs) (ns := ns) (by rfl) kk.1 kk.2.1 kk.2.2 hO hT (hoC.ns zC) hm₂ ⟨oO, z mO, dO⟩ ⟨oT, z mT, dT⟩ ⟨_, z ml, rfl, _, rfl⟩ hi (by omega) (by omega) o0 o1 hz fun tk' u => ?_
    refine LCg.CompEnd.intro F N news (fun p hp => hp) off trivial (ih (i + 1) _ (by omega) ?_)
    have er : rangeKs 0 (i + 1) = rangeKs 0 i ++ [(0 : Int) + (i : Int)] := by simp [rangeKs, List.range_succ]
    rw [er, List.map_append]
    exact hI.append (.cons _ _ .nil)
theorem eval_octComp {q1 q2 q3 q4 q5 q6 q7 q8 q9 q10 q11 r1 r2 r3 r4 r5 : Pos} {o : Int} {to : Tok} {cO cT l : Addr} {oO oT : Obj} {vs : List Value} {n : Nat} {ns : List Int} {Q : Value → Shared → Prop}
    (hh : A.handled = none) (F : Fr h₀ L s.heap m) (N : News h₀ L s.heap news)
    (hk : env.scope.kind = .function) (ko : env.kindOf (Str.ofString "o") = some .cell) (ku : env.kindOf (Str.ofString "turned") = some .cell) (kr : env.kindOf (Str.ofString "range") = some .globalImplicit)
    (hO : env.cells.lookup (Str.ofString "o") = some cO) (hT : env.cells.lookup (Str.ofString "turned") = some cT)
    (hg : h₀.Ns env.globals mg) (hmiss : mg (Str.ofString "range") = none) (hb : h₀.Ns env.builtins mb) (hv : mb (Str.ofString "range") = some (.type "range"))
    (mO : (cO, oO) ∈ news) (dO : oO.data = .cell (some (.int o to))) (mT : (cT, oT) ∈ news) (dT : oT.data = .cell (some (.ref l))) (ml : (l, W.listOf (List.toArray vs) n) ∈ news) (hi : IntsAre vs ns)
    (o0 : 0 ≤ o) (o1 : 8 * o + 8 ≤ ns.length) (hz : ns.length ≤ 5000)
    (h : ∀ D h' tk ys, Fr h₀ L h' m → News h₀ L h' ((D, LCg.lst ys) :: news) → IntsAre ys ((rangeKs 0 8).map fun t => ns.getD (8 * o + t).toNat 0 * 2 ^ t.toNat) → Q (.ref D) { s with heap := h', toks := tk }) :
    wpAny (model prog w) A (eval (octComp q1 q2 q3 q4 q5 q6 q7 q8 q9 q10 q11 r1 r2 r3 r4 r5) env) Q E s := by
  have hclos : closureFor scT env = pure [(Str.ofString "turned", cT), (Str.ofString "o", cO)] := by
    unfold closureFor scT cellOf
    simp only [List.forIn_cons, List.forIn_nil, hO, hT]
    rfl
  unfold octComp
  refine LCg.ListComp_U F hclos (by decide +kernel) rfl (by decide +kernel) (by decide +kernel) ?_
  refine wpAny_Call_NameR (Calls.Name_function_global hk kr (Calls.loadGlobal_builtin (hg.keeps F.keep) hmiss (hb.keeps F.keep) hv ?_))
  rw [show backTo r4 (starEach [Expr.Constant (Const.int 8) 0 r3] env) = [(false, eval (Expr.Constant (Const.int 8) 0 r3) env)] from rfl]
  refine PySem.callWith_type rfl (Calls.evalArgs_plain (Calls.spliced_cons (wpAny_Constant_int (Calls.spliced_nil ?_))))
  refine call_range_1 ?_
  dsimp only
  refine LCg.CompSrc.range hh (F.push _) (N.grown fun _ _ e => Heap.get?_push_of_some _ e) (IsRange.new ..) (small_one (by decide) (by decide) (by decide) (by decide)) (n := 8) (by decide +kernel) (by decide +kernel) fun g => ?_
  refine rest_octs hk ko ku (by rfl) (by rfl) mO dO mT dT ml hi o0 o1 hz (fun ys hI => ?_) 8 0 [] (by omega) .nil
  intro D h' tk F' N' _
  exact h D h' tk ys F' N' hI
end
end Mine
end
section
open PySem PySem.W PyProof.Rows PySem.Calls
set_option maxRecDepth 100000
namespace Mine
theorem kindO {env : Env} (hk : env.scope.kind = .function) (ku : env.kindOf (Str.ofString "turned") = some .cell) (cl : List (Str × Addr)) (C : Addr) :
    (compEnvC scO cl C env).kindOf (Str.ofString "o") = some .cell ∧ (compEnvC scO cl C env).kindOf (Str.ofString "turned") = some .cell ∧ (compEnvC scO cl C env).kindOf (Str.ofString "sum") = some .globalImplicit ∧ (compEnvC scO cl C env).kindOf (Str.ofString "range") = some .globalImplicit := by
  have e : relabel scO env = { scO with names := [(Str.ofString ".0", .local), (Str.ofString "o", .cell), (Str.ofString "sum", .globalImplicit), (Str.ofString "range", .globalImplicit), (Str.ofString "turned", .cell)] } := by
    unfold relabel scO
    simp only [List.map_cons, List.map_nil, hk, ku]
    rfl
  unfold Env.kindOf compEnvC
  rw [e]
  have z : ∀ x, List.lookup x [(Str.ofString ".0", NameKind.local), (Str.ofString "o", .cell), (Str.ofString "sum", .globalImplicit), (Str.ofString "range", .globalImplicit), (Str.ofString "turned", .cell)] =
    List.lookup x [(Str.ofString ".0", NameKind.local), (Str.ofString "o", .cell), (Str.ofString "sum", .globalImplicit), (Str.ofString "range", .globalImplicit), (Str.ofString "turned", .cell)] := fun _ => rfl
  exact ⟨(z _).trans (by decide +kernel), (z _).trans (by decide +kernel), (z _).trans (by decide +kernel), (z _).trans (by decide +kernel)⟩
section
variable {M : Model} {A : Around} {E : Value → Shared → Prop} {s : Shared}
theorem newEnv_cells {scope : Scope} {globals : Addr} {cl : List (Str × Addr)} {qual : Str} {env : Env} {Q : Env → Shared → Prop}
    (h : Q { scope, locals := s.heap.objs.size, globals, cells := cellsFrom (s.heap.objs.size + 1) scope.names cl, qual, func := none, code := env.code, frame := env.frame, builtins := env.builtins } { s with heap := pushCells (s.heap.push { cls := .type "dict", data := .dict #[] }) scope.names }) :
    wpAny M A (newFunctionEnv scope globals cl [] qual none .none (some env)) Q E s := by
  simp only [newFunctionEnv, Option.isSome_some, if_true]
  refine wpAny_bind (wpAny_alloc ?_)
  refine wpAny_bind (wpAny_layCells _ (fun name kind cells => by cases hkc : kind == NameKind.cell <;> simp [hkc]) _ _ _ _ ?_)
  rw [Heap.size_push]
  simp only [List.forIn_nil, pure_bind]
  exact wpAny_pure h
end
def sumElt (q1 q2 q3 q4 q5 q6 q7 q8 q9 q10 q11 r1 r2 r3 r4 r5 u1 u2 : Pos) : Expr := .Call (.Name (Str.ofString "sum") u1) [octComp q1 q2 q3 q4 q5 q6 q7 q8 q9 q10 q11 r1 r2 r3 r4 r5] [] u2
def swapComp (q1 q2 q3 q4 q5 q6 q7 q8 q9 q10 q11 r1 r2 r3 r4 r5 u1 u2 w1 w2 w3 w4 w5 w6 w7 : Pos) : Expr :=
  .ListComp (sumElt q1 q2 q3 q4 q5 q6 q7 q8 q9 q10 q11 r1 r2 r3 r4 r5 u1 u2) [⟨.Name (Str.ofString "o") w1, .Call (.Name (Str.ofString "range") w2) [.BinOp (.Constant (.int 64) 0 w3) .Mult (.Name (Str.ofString "eta") w4) w5] [] w6, [], 0⟩] scO w7
section
variable {prog : Program} {w : World} {A : Around} {E : Value → Shared → Prop} {s : Shared} {env : Env} {h₀ : Heap} {L : Addr} {m mg mb : Str → Option Value} {news : List (Addr × Obj)}
theorem eval_sumElt {q1 q2 q3 q4 q5 q6 q7 q8 q9 q10 q11 r1 r2 r3 r4 r5 u1 u2 : Pos} {o : Int} {to : Tok} {cO cT l : Addr} {oO oT : Obj} {vs : List Value} {n : Nat} {ns : List Int} {Q : Value → Shared → Prop}
    (hh : A.handled = none) (F : Fr h₀ L s.heap m) (N : News h₀ L s.heap news)
    (hk : env.scope.kind = .function) (ko : env.kindOf (Str.ofString "o") = some .cell) (ku : env.kindOf (Str.ofString "turned") = some .cell) (ks : env.kindOf (Str.ofString "sum") = some .globalImplicit) (kr : env.kindOf (Str.ofString "range") = some .globalImplicit)
    (hO : env.cells.lookup (Str.ofString "o") = some cO) (hT : env.cells.lookup (Str.ofString "turned") = some cT)
    (hg : h₀.Ns env.globals mg) (hmiss : mg (Str.ofString "range") = none) (hb : h₀.Ns env.builtins mb) (hv : mb (Str.ofString "range") = some (.type "range")) (hms : mg (Str.ofString "sum") = none) (hvs : mb (Str.ofString "sum") = some (.builtin "sum"))
    (mO : (cO, oO) ∈ news) (dO : oO.data = .cell (some (.int o to))) (mT : (cT, oT) ∈ news) (dT : oT.data = .cell (some (.ref l))) (ml : (l, W.listOf (List.toArray vs) n) ∈ news) (hi : IntsAre vs ns)
    (o0 : 0 ≤ o) (o1 : 8 * o + 8 ≤ ns.length) (hz : ns.length ≤ 5000)
    (h : ∀ h' tk u, Fr h₀ L h' m → News h₀ L h' news → Q (.int (oct ns o) u) { s with heap := h', toks := tk }) :
    wpAny (model prog w) A (eval (sumElt q1 q2 q3 q4 q5 q6 q7 q8 q9 q10 q11 r1 r2 r3 r4 r5 u1 u2) env) Q E s := by
  unfold sumElt
  refine wpAny_Call_NameR (Calls.Name_function_global hk ks (Calls.loadGlobal_builtin (hg.keeps F.keep) hms (hb.keeps F.keep) hvs ?_))
  rw [show backTo u2 (starEach [octComp q1 q2 q3 q4 q5 q6 q7 q8 q9 q10 q11 r1 r2 r3 r4 r5] env) = [(false, eval (octComp q1 q2 q3 q4 q5 q6 q7 q8 q9 q10 q11 r1 r2 r3 r4 r5) env)] from rfl]
  refine Calls.callWith_builtin rfl (Calls.evalArgs_plain (Calls.spliced_cons (eval_octComp hh F N hk ko ku kr hO hT hg hmiss hb hv mO dO mT dT ml hi o0 o1 hz fun D h' tk ys F' N' hI => Calls.spliced_nil ?_)))
  refine sumK hh F' N' ⟨_, (N' _ (.head _)).1, rfl, _, rfl⟩ hI fun h'' tk' t' F'' N'' => ?_
  exact h _ _ _ F'' (fun p hp => N'' p (.tail _ hp))
theorem swap_loop {q1 q2 q3 q4 q5 q6 q7 q8 q9 q10 q11 r1 r2 r3 r4 r5 u1 u2 w1 w2 w3 w4 w5 w6 w7 : Pos} {I D C cO cT l : Addr} {oO oC oT : Obj} {vs : List Value} {n n3 : Nat} {ns : List Int} {R : Result → Shared → Prop}
    (hh : A.handled = none) (F : Fr h₀ L s.heap m) (N : News h₀ L s.heap ((cO, oO) :: (D, LCg.lst []) :: (C, oC) :: news)) (dO : ∃ v, oO.data = .cell v)
    (hk : env.scope.kind = .function) (ko : env.kindOf (Str.ofString "o") = some .cell) (ku : env.kindOf (Str.ofString "turned") = some .cell) (ks : env.kindOf (Str.ofString "sum") = some .globalImplicit) (kr : env.kindOf (Str.ofString "range") = some .globalImplicit)
    (hO : env.cells.lookup (Str.ofString "o") = some cO) (hT : env.cells.lookup (Str.ofString "turned") = some cT)
    (hg : h₀.Ns env.globals mg) (hmiss : mg (Str.ofString "range") = none) (hb : h₀.Ns env.builtins mb) (hv : mb (Str.ofString "range") = some (.type "range")) (hms : mg (Str.ofString "sum") = none) (hvs : mb (Str.ofString "sum") = some (.builtin "sum"))
    (mT : (cT, oT) ∈ news) (dT : oT.data = .cell (some (.ref l))) (ml : (l, W.listOf (List.toArray vs) n3) ∈ news) (hi : IntsAre vs ns)
    (hit : IsRangeIter s.heap I 0 n 1) (hI₀ : h₀.get? I = none) (hIL : I ≠ L) (offI : ∀ a ∈ cO :: D :: C :: news.map (·.1), a ≠ I) (offO : ∀ a ∈ D :: C :: news.map (·.1), a ≠ cO) (offD : ∀ a ∈ C :: news.map (·.1), a ≠ D)
    (hlen : 8 * n ≤ ns.length) (hz : ns.length ≤ 5000)
    (h : ∀ h' tk ys oO', Fr h₀ L h' m → News h₀ L h' ((cO, oO') :: (D, LCg.lst ys) :: (C, oC) :: news) → IntsAre ys ((rangeKs 0 n).map (oct ns)) → R (.ok .next) { s with heap := h', toks := tk }) :
    codeAny (model prog w) A (.compLoop (swapComp q1 q2 q3 q4 q5 q6 q7 q8 q9 q10 q11 r1 r2 r3 r4 r5 u1 u2 w1 w2 w3 w4 w5 w6 w7) 0 (.ref I) (.ref D) env) R s := by
  have W := LCg.range_walks (prog := prog) (w := w) (I := I) hh 0 n
  have h5 := size_line5000
  unfold swapComp
  refine codeAny_compLoop_list
    (fun k s' => ∃ h' tk i ys oO', s' = { s with heap := h', toks := tk } ∧ i ≤ n ∧ k = n + 1 - i ∧ IsRangeIter h' I (0 + (i : Nat) * 1) ((n : Int) - (i : Nat)) 1 ∧ Fr h₀ L h' m ∧ News h₀ L h' ((cO, oO') :: (D, LCg.lst ys) :: (C, oC) :: news) ∧
      (∃ v, oO'.data = .cell v) ∧ ys.length = i ∧ IntsAre ys ((rangeKs 0 i).map (oct ns))) ?_ (n + 1)
    ⟨s.heap, s.toks, 0, [], oO, rfl, Nat.zero_le _, rfl, by simpa using hit, F, N, dO, rfl, .nil⟩
  rintro k s' ⟨h', tk, i, ys, oO', rfl, hi', rfl, hit', F', N', dO', hl', hI'⟩
  have nI : ∀ p ∈ (cO, oO') :: (D, LCg.lst ys) :: (C, oC) :: news, p.1 ≠ I := fun p hp => offI _ (by simpa using List.mem_map_of_mem (f := (·.1)) hp)
  by_cases hlt : i < n
  · refine W.item i _ _ _ hlt hit' fun v h₂ tk₂ hPv hst₂ hk₂ => ?_
    obtain ⟨tt, rfl⟩ := hPv
    have F₂ := LCg.fr_but F' hk₂ (Ne.symm hIL) hI₀
    have N₂ := LCg.news_but N' hk₂ nI
    obtain ⟨v₀, hv₀⟩ := dO'
    have zO := N₂ (cO, oO') (.head _)
    refine wpAny_assign_Name (wpAny_storeName_cell hk ko hO ⟨oO', zO.1, hv₀⟩ fun h₃ hv₃ hs₃ => ?_)
    obtain ⟨o3, ho3, hd3⟩ := hv₃
    have F₃ : Fr h₀ L h₃ m := F₂.change hs₃ zO.2.1 zO.2.2
    have N₃ : News h₀ L h₃ ((cO, o3) :: (D, LCg.lst ys) :: (C, oC) :: news) :=
      News.setAt (own := []) N₂ (fun _ hp => nomatch hp) (fun p hp => offO _ (by simpa using List.mem_map_of_mem (f := (·.1)) hp)) hs₃ ho3
    have hst₃ : IsRangeIter h₃ I (0 + ((i + 1 : Nat) : Int) * 1) ((n : Int) - ((i + 1 : Nat) : Int)) 1 := W.frame _ _ _ hst₂ fun b hb' o e => hs₃.extBut b o (fun q => offI cO (.head _) (by rw [← q]; exact List.mem_singleton.mp hb')) e
    obtain ⟨oI, heI, hback⟩ : ∃ oI, h₃.get? I = some oI ∧ ∀ h₄ : Heap, h₄.get? I = some oI → IsRangeIter h₄ I (0 + ((i + 1 : Nat) : Int) * 1) ((n : Int) - ((i + 1 : Nat) : Int)) 1 := ⟨_, hst₃, fun _ e => e⟩
    have N₄ : News h₀ L h₃ ((I, oI) :: (cO, o3) :: (D, LCg.lst ys) :: (C, oC) :: news) := fun p hp => by
      rcases List.mem_cons.mp hp with rfl | hp
      · exact ⟨heI, hIL, hI₀⟩
      · exact N₃ p hp
    refine eval_sumElt (o := (0 : Int) + (i : Int)) hh F₃ N₄ hk ko ku ks kr hO hT hg hmiss hb hv hms hvs (.tail _ (.head _)) hd3 (.tail _ (.tail _ (.tail _ (.tail _ mT)))) dT (.tail _ (.tail _ (.tail _ (.tail _ ml)))) hi (by omega) (by omega) hz fun h₄ tk₄ u F₄ N₅ => ?_
    have zD := N₅ (D, LCg.lst ys) (.tail _ (.tail _ (.head _)))
    refine append_at (hsz := by show ys.toArray.size ≤ sizeLine; rw [List.size_toArray, hl']; omega) zD.1 fun h₅ hs₅ hD₅ => ?_
    have N₆ : News h₀ L h₄ ((cO, o3) :: (D, LCg.lst ys) :: (C, oC) :: news) := fun p hp => N₅ p (.tail _ hp)
    refine ⟨n + 1 - (i + 1), by omega, h₅, tk₄, i + 1, ys ++ [.int (oct ns (0 + (i : Int))) u], o3, rfl, hlt, rfl, hback _ (hs₅.extBut _ _ (Ne.symm (offI D (.tail _ (.head _)))) (N₅ _ (.head _)).1), F₄.change hs₅ zD.2.1 zD.2.2, ?_, ⟨_, hd3⟩, by rw [List.length_append, List.length_singleton, hl'], ?_⟩
    · refine News.setAt (own := [(cO, o3)]) N₆ (fun p hp => ?_) (fun p hp => offD _ (by simpa using List.mem_map_of_mem (f := (·.1)) hp)) hs₅ (hD₅.trans (congrArg some (LCg.lst_snoc ys _)))
      rw [List.mem_singleton.mp hp]
      exact Ne.symm (offO D (.head _))
    · have er : rangeKs 0 (i + 1) = rangeKs 0 i ++ [(0 : Int) + (i : Int)] := by simp [rangeKs, List.range_succ]
      rw [er, List.map_append]
      exact hI'.append (.cons _ _ .nil)
  · obtain rfl : i = n := by omega
    refine W.done _ _ _ hit' fun h₂ tk₂ hk₂ => ?_
    exact h h₂ tk₂ ys oO' (LCg.fr_but F' hk₂ (Ne.symm hIL) hI₀) (LCg.news_but N' hk₂ nI) hI'
end
end Mine
end
section
open PySem PySem.W PyProof.Rows PySem.Calls
set_option maxRecDepth 100000
namespace Mine
section
variable {prog : Program} {w : World} {A : Around} {E : Value → Shared → Prop} {s : Shared} {env : Env} {h₀ : Heap} {m mg mb : Str → Option Value} {news : List (Addr × Obj)}
theorem swap_comp {q1 q2 q3 q4 q5 q6 q7 q8 q9 q10 q11 r1 r2 r3 r4 r5 u1 u2 w1 w2 w3 w4 w5 w6 w7 : Pos} {cT l : Addr} {oT : Obj} {vs : List Value} {n3 : Nat} {ns : List Int} {e : Int} {te : Tok} {Q : Value → Shared → Prop}
    (F : Fr h₀ env.locals s.heap m) (N : News h₀ env.locals s.heap news) (hm : m (Str.ofString "eta") = some (.int e te)) (hh : A.handled = none) (hk : env.scope.kind = .function) (heta : env.kindOf (Str.ofString "eta") = some .local)
    (ku : env.kindOf (Str.ofString "turned") = some .cell) (kr : env.kindOf (Str.ofString "range") = some .globalImplicit) (hT : env.cells.lookup (Str.ofString "turned") = some cT)
    (hg : h₀.Ns env.globals mg) (hmiss : mg (Str.ofString "range") = none) (hb : h₀.Ns env.builtins mb) (hv : mb (Str.ofString "range") = some (.type "range")) (hms : mg (Str.ofString "sum") = none) (hvs : mb (Str.ofString "sum") = some (.builtin "sum"))
    (mT : (cT, oT) ∈ news) (dT : oT.data = .cell (some (.ref l))) (ml : (l, W.listOf (List.toArray vs) n3) ∈ news) (hi : IntsAre vs ns) (he : 0 ≤ e ∧ e ≤ 8) (hlen : (ns.length : Int) = 512 * e)
    (h : ∀ D h' tk ys, Fr h₀ env.locals h' m → News h₀ env.locals h' ((D, LCg.lst ys) :: news) → IntsAre ys ((rangeKs 0 (64 * e - 0).toNat).map (oct ns)) → LCg.Off1 D news → Q (.ref D) { s with heap := h', toks := tk }) :
    wpAny (model prog w) A (eval (swapComp q1 q2 q3 q4 q5 q6 q7 q8 q9 q10 q11 r1 r2 r3 r4 r5 u1 u2 w1 w2 w3 w4 w5 w6 w7) env) Q E s := by
  have hclos : closureFor scO env = pure [(Str.ofString "turned", cT)] := by
    unfold closureFor scO cellOf
    simp only [List.forIn_cons, List.forIn_nil, hT]
    rfl
  unfold swapComp
  rw [eval_ListComp]
  refine wpAny_comprehension_free (use := none) rfl (by intro _; rfl) hclos rfl (by decide +kernel) ?_
  refine wpAny_Call_NameR (Calls.Name_function_global hk kr (Calls.loadGlobal_builtin (hg.keeps F.keep) hmiss (hb.keeps F.keep) hv ?_))
  rw [show backTo w6 (starEach [Expr.BinOp (.Constant (.int 64) 0 w3) .Mult (.Name (Str.ofString "eta") w4) w5] env) = [(false, eval (Expr.BinOp (.Constant (.int 64) 0 w3) .Mult (.Name (Str.ofString "eta") w4) w5) env)] from rfl]
  refine PySem.callWith_type rfl (Calls.evalArgs_plain (Calls.spliced_cons (wpAny_BinOp (wpAny_Constant_int (wpAny_Name (wpAny_loadName_local hk heta F.ns hm ?_) (by decide))))))
  refine mul_int ?_ (IntMulOk.of_left (by rw [show Builtin.Int.intBits 64 = 7 by decide]; decide))
  refine Calls.spliced_nil ?_
  refine call_range_1 ?_
  refine wpAny_pyIter_range (IsRange.new ..) (small_one (by omega) (by omega) (by omega) (by omega)) ?_
  have e5 : Builtin.Range.rangeSize 0 (64 * e) 1 = (((64 * e - 0).toNat : Nat) : Int) := by rw [rangeSize_nat]
  rw [e5]
  dsimp only
  generalize hn : (64 * e - 0).toNat = n at *
  generalize hH0 : s.heap.push _ = H0
  have k0 : ∀ b o, s.heap.get? b = some o → H0.get? b = some o := fun _ _ x => hH0 ▸ Heap.get?_push_of_some _ x
  have s0 : H0.objs.size = s.heap.objs.size + 1 := by rw [← hH0, Heap.size_push]
  have hit1 : IsRangeIter (H0.push { cls := .type "range_iterator", data := .fields #[rawInt 0, rawInt (n : Int), rawInt 1] }) H0.objs.size 0 n 1 := Heap.get?_push_size _ rfl
  generalize hH1 : H0.push _ = H1 at hit1 ⊢
  have k1 : ∀ b o, H0.get? b = some o → H1.get? b = some o := fun _ _ x => hH1 ▸ Heap.get?_push_of_some _ x
  have s1 : H1.objs.size = H0.objs.size + 1 := by rw [← hH1, Heap.size_push]
  refine wpAny_newObj_type (newEnv_cells ?_)
  dsimp only
  have hD2 : (H1.push { cls := .type "list", dict := none, data := .seq ([] : List Value).toArray }).get? H1.objs.size = some (LCg.lst []) := Heap.get?_push_size _ rfl
  generalize hH2 : H1.push _ = H2 at hD2 ⊢
  have k2 : ∀ b o, H1.get? b = some o → H2.get? b = some o := fun _ _ x => hH2 ▸ Heap.get?_push_of_some _ x
  have s2 : H2.objs.size = H1.objs.size + 1 := by rw [← hH2, Heap.size_push]
  rw [show pushCells (H2.push { cls := .type "dict", data := .dict #[] }) scO.names = (H2.push { cls := .type "dict", data := .dict #[] }).push { cls := .type "cell", data := .cell none } from rfl,
    show cellsFrom (H2.objs.size + 1) scO.names [(Str.ofString "turned", cT)] = [(Str.ofString "o", H2.objs.size + 1), (Str.ofString "turned", cT)] from rfl]
  have hC3 : (H2.push { cls := .type "dict", data := .dict #[] }).get? H2.objs.size = some { cls := .type "dict", data := .dict #[] } := Heap.get?_push_size _ rfl
  generalize hH3 : H2.push { cls := .type "dict", data := .dict #[] } = H3 at hC3 ⊢
  have k3 : ∀ b o, H2.get? b = some o → H3.get? b = some o := fun _ _ x => hH3 ▸ Heap.get?_push_of_some _ x
  have s3 : H3.objs.size = H2.objs.size + 1 := by rw [← hH3, Heap.size_push]
  have hO4 : (H3.push { cls := .type "cell", data := .cell none }).get? H3.objs.size = some { cls := .type "cell", data := .cell none } := Heap.get?_push_size _ rfl
  generalize hH4 : H3.push _ = H4 at hO4 ⊢
  have k4 : ∀ b o, H3.get? b = some o → H4.get? b = some o := fun _ _ x => hH4 ▸ Heap.get?_push_of_some _ x
  have k04 : ∀ b o, s.heap.get? b = some o → H4.get? b = some o := fun b o x => k4 _ _ (k3 _ _ (k2 _ _ (k1 _ _ (k0 _ _ x))))
  rw [← s3]
  have F0 := F.keeps k0
  have F1 := F0.keeps k1
  have F2 := F1.keeps k2
  have F3 := F2.keeps k3
  have F4 := F3.keeps k4
  have lt : ∀ p ∈ news, p.1 < s.heap.objs.size := fun p hp => Heap.lt_size (N p hp).1
  have ltL : env.locals < s.heap.objs.size := F.ns.lt
  have hI₀ : h₀.get? H0.objs.size = none := next_is_new F0
  have hD₀ : h₀.get? H1.objs.size = none := next_is_new F1
  have hC₀ : h₀.get? H2.objs.size = none := next_is_new F2
  have hO₀ : h₀.get? H3.objs.size = none := next_is_new F3
  have hIL : H0.objs.size ≠ env.locals := Nat.ne_of_gt F0.ns.lt
  have hDL : H1.objs.size ≠ env.locals := Nat.ne_of_gt F1.ns.lt
  have hCL : H2.objs.size ≠ env.locals := Nat.ne_of_gt F2.ns.lt
  have hOL : H3.objs.size ≠ env.locals := Nat.ne_of_gt F3.ns.lt
  have N4 : News h₀ env.locals H4 ((H3.objs.size, { cls := .type "cell", data := .cell none }) :: (H1.objs.size, LCg.lst []) :: (H2.objs.size, { cls := .type "dict", data := .dict #[] }) :: news) := fun p hp => by
    rcases List.mem_cons.mp hp with rfl | hp
    · exact ⟨hO4, hOL, hO₀⟩
    · rcases List.mem_cons.mp hp with rfl | hp
      · exact ⟨k4 _ _ (k3 _ _ hD2), hDL, hD₀⟩
      · rcases List.mem_cons.mp hp with rfl | hp
        · exact ⟨k4 _ _ hC3, hCL, hC₀⟩
        · exact ⟨k04 _ _ (N p hp).1, (N p hp).2⟩
  have hit4 : IsRangeIter H4 H0.objs.size 0 n 1 := k4 _ _ (k3 _ _ (k2 _ _ hit1))
  have kk := kindO hk ku [(Str.ofString "o", H3.objs.size), (Str.ofString "turned", cT)] H2.objs.size
  have news_lt : ∀ a ∈ news.map (·.1), (a : Nat) < s.heap.objs.size := fun a ha => by
    obtain ⟨p, hp, rfl⟩ := List.mem_map.mp ha
    exact lt p hp
  have offN : ∀ b : Nat, s.heap.objs.size ≤ b → ∀ x ∈ news.map (·.1), (x : Nat) ≠ b := fun b hb x hx => by
    have := news_lt x hx
    omega
  have loop : ∀ s₃ : Shared, (∃ tk, s₃ = { s with heap := H4, toks := tk }) →
      codeAny (model prog w) A (.compLoop (swapComp q1 q2 q3 q4 q5 q6 q7 q8 q9 q10 q11 r1 r2 r3 r4 r5 u1 u2 w1 w2 w3 w4 w5 w6 w7) 0 (.ref H0.objs.size) (.ref H1.objs.size) (compEnvC scO [(Str.ofString "o", H3.objs.size), (Str.ofString "turned", cT)] H2.objs.size env))
        (compPost (model prog w) A E none Q (.ref H1.objs.size) H2.objs.size) s₃ := by
    rintro s₃ ⟨tk, rfl⟩
    refine swap_loop (s := { s with heap := H4, toks := tk }) (m := m) (n := n) hh F4 N4 ⟨_, rfl⟩ rfl kk.1 kk.2.1 kk.2.2.1 kk.2.2.2 (by rfl) (by rfl) hg hmiss hb hv hms hvs mT dT ml hi hit4 hI₀ hIL ?_ ?_ ?_ (by omega) (by omega) ?_
    · intro a ha
      rcases List.mem_cons.mp ha with rfl | ha
      · show (H3.objs.size : Nat) ≠ _; omega
      · rcases List.mem_cons.mp ha with rfl | ha
        · show (H1.objs.size : Nat) ≠ _; omega
        · rcases List.mem_cons.mp ha with rfl | ha
          · show (H2.objs.size : Nat) ≠ _; omega
          · exact offN _ (by omega) _ ha
    · intro a ha
      rcases List.mem_cons.mp ha with rfl | ha
      · show (H1.objs.size : Nat) ≠ _; omega
      · rcases List.mem_cons.mp ha with rfl | ha
        · show (H2.objs.size : Nat) ≠ _; omega
        · exact offN _ (by omega) _ ha
    · intro a ha
      rcases List.mem_cons.mp ha with rfl | ha
      · show (H2.objs.size : Nat) ≠ _; omega
      · exact offN _ (by omega) _ ha
    · intro h' tk' ys oO' F' N' hI'
      have zC := (N' (H2.objs.size, { cls := .type "dict", data := .dict #[] }) (.tail _ (.tail _ (.head _)))).1
      refine ⟨fun _ => none, ⟨_, #[], 0, zC, rfl, fun _ he => by simp at he, fun _ => rfl⟩, fun h'' hs'' => h H1.objs.size h'' tk' ys (F'.change hs'' hCL hC₀) (fun p hp => ?_) hI' ?_⟩
      · rcases List.mem_cons.mp hp with rfl | hp
        · have z := N' (H1.objs.size, LCg.lst ys) (.tail _ (.head _))
          exact ⟨hs''.extBut _ _ (by show (H1.objs.size : Nat) ≠ _; omega) z.1, z.2⟩
        · have z := N' p (.tail _ (.tail _ (.tail _ hp)))
          exact ⟨hs''.extBut _ _ (offN _ (by omega) _ (List.mem_map_of_mem hp)) z.1, z.2⟩
      · have off1 : ∀ l : List (Addr × Obj), (∀ p ∈ l, p.1 ≠ H1.objs.size) → LCg.Off1 H1.objs.size l := by
          intro l
          induction l with
          | nil => intro _; trivial
          | cons a r ih => intro z; exact ⟨z _ List.mem_cons_self, ih fun p hp => z p (List.mem_cons_of_mem _ hp)⟩
        exact off1 _ fun p hp => offN _ (by omega) _ (List.mem_map_of_mem hp)
  exact codeAny_compStart_list (loop _ ⟨_, rfl⟩) (wpAny_pyIter_rangeiter hit4 (loop _ ⟨_, rfl⟩))
end
end Mine
end
section
open PySem PySem.W PyProof.Rows PySem.Calls
set_option maxRecDepth 100000
namespace Mine
/-- a builtin's name that the text does not bind -/
structure NameFree (x : Str) (p : Program) : Prop where
  free : x ∉ startupNames ∧ x ∉ looseW p [Str.ofString "PolynomialRing", Str.ofString "PolynomialNTT"] ∧ x ∉ (recsOf p).map (·.name) ∧ x ∉ (litsOf p).map (·.1) ∧
    x ∉ (clssOf p (looseW p [Str.ofString "PolynomialRing", Str.ofString "PolynomialNTT"])).map (·.name) ∧ x ≠ "__name__"
theorem end_true {cl : Str → Option Addr} {mean : ExcName → Option Value} {ns : List Int} {s₁ s' : Shared} {L : Addr} {m : Str → Option Value} (F : Fr s₁.heap L s'.heap m) (hg : s'.gens = #[]) (hos : s'.os = s₁.os) :
    GoodW Challenge.rw_xy0004_07.row.claim cl mean [ofPy (PyData.list (List.map PyData.int ns))] s₁ (.ok (.ret (.bool true))) s' := goodW_bool F hg (fun _ => rfl) (by first | rfl | wrow_post) hos
section
variable {prog : Program} {w : World} {A₀ : Around} {E : Value → Shared → Prop} {s : Shared} {h₀ : Heap} {L a : Addr} {m : Str → Option Value} {cn : Str} {cs : Scope} {ccd : Value} {cl : List (Str × Addr)} {mg mb : Str → Option Value}
theorem bits07 {q1 q2 q3 q4 q5 q6 q7 p1 p2 p3 p4 p5 p6 : Pos} {scope : Scope} {pos : Pos} {news : List (Addr × Obj)} {b : Array UInt8} {tb : Tok} {Q : Flow → Shared → Prop}
    {p : Program} (I : NameFree (Str.ofString "range") p) (F : Fr h₀ L s.heap m) (N : News h₀ L s.heap news) (T : TopRead p (looseW p [Str.ofString "PolynomialRing", Str.ofString "PolynomialNTT"]) mg mb h₀) (hm : m (Str.ofString "octets") = some (.bytes b tb))
    (hh : A₀.handled = none) (hk : cs.kind = .function) (hoct : (envX cn cs L a ccd cl).kindOf (Str.ofString "octets") = some .local)
    (hclos : closureFor scope (envX cn cs L a ccd cl) = pure []) (hcell : ∀ y ∈ scope.names, y.2 ≠ .cell) (hkind : scope.kind = .function) (hnames : ∀ y ∈ scope.names, y.2 = .local → scope.names.lookup y.1 = some .local)
    (ho : scope.names.lookup (Str.ofString "o") = some .local) (ht : scope.names.lookup (Str.ofString "t") = some .local) (hx : ∀ C, (compEnvC scope [] C (envX cn cs L a ccd cl)).kindOf (Str.ofString "range") = some .globalImplicit)
    (hsz : b.size ≤ 900) {y : Str} {py spos : Pos} (hy : (envX cn cs L a ccd cl).kindOf y = some .local)
    (hsw : swapsWith (twoComp (bitElt q1 q2 q3 q4 q5 q6 q7) p1 p2 p3 p4 p5 p6 scope pos) (some (.Name y py)) spos.line (envX cn cs L a ccd cl) = pure true)
    (hp : ((envX cn cs L a ccd cl).scope.kind == .class || ((envX cn cs L a ccd cl).scope.kind == .module && (envX cn cs L a ccd cl).locals != (envX cn cs L a ccd cl).globals)) = false)
    (h : ∀ D h' tk ys, Fr h₀ L h' (fun z => if z = y then some (.ref D) else m z) → News h₀ L h' ((D, LCg.lst ys) :: news) → IntsAre ys (bitsOf (KBw.bInts b)) → LCg.Off1 D news → Q .next { s with heap := h', toks := tk }) :
    wpAny (model prog w) (A₀.deeper (envX cn cs L a ccd cl)) (exec (.Assign [.Name y py] (twoComp (bitElt q1 q2 q3 q4 q5 q6 q7) p1 p2 p3 p4 p5 p6 scope pos) spos) (envX cn cs L a ccd cl)) Q E s :=
  bits_assign (env := envX cn cs L a ccd cl) F N hm (by exact hh) hk hoct (by exact T.g) (T.free _ I.free.1 I.free.2.1 I.free.2.2.1 I.free.2.2.2.1 I.free.2.2.2.2.1) (by exact T.b) ((T.builtins _ I.free.2.2.2.2.2).trans boot_range)
    hclos hcell hkind hnames ho ht hx (by have : 7200 ≤ sizeLine := by decide +kernel
                                          omega) hy hsw hp h
theorem swapC07 {q1 q2 q3 q4 q5 q6 q7 q8 q9 q10 q11 r1 r2 r3 r4 r5 u1 u2 w1 w2 w3 w4 w5 w6 w7 : Pos} {news : List (Addr × Obj)} {cT l : Addr} {oT : Obj} {vs : List Value} {n3 : Nat} {bits na nb ns : List Int} {e : Int} {te : Tok} {Q : Value → Shared → Prop}
    {p : Program} (I : NameFree (Str.ofString "range") p) (J : NameFree (Str.ofString "sum") p) (hV : Inv07 bits e 256 na nb ns) (hi : IntsAre vs ns) (hb : (bits.length : Int) = 512 * e) (he : 0 ≤ e ∧ e ≤ 8)
    (F : Fr h₀ L s.heap m) (N : News h₀ L s.heap news) (T : TopRead p (looseW p [Str.ofString "PolynomialRing", Str.ofString "PolynomialNTT"]) mg mb h₀) (hm : m (Str.ofString "eta") = some (.int e te))
    (hh : A₀.handled = none) (hk : cs.kind = .function) (heta : (envX cn cs L a ccd cl).kindOf (Str.ofString "eta") = some .local) (ku : (envX cn cs L a ccd cl).kindOf (Str.ofString "turned") = some .cell) (kr : (envX cn cs L a ccd cl).kindOf (Str.ofString "range") = some .globalImplicit)
    (hT : cl.lookup (Str.ofString "turned") = some cT) (mT : (cT, oT) ∈ news) (dT : oT.data = .cell (some (.ref l))) (ml : (l, W.listOf (List.toArray vs) n3) ∈ news)
    (h : ∀ D h' tk ys, Fr h₀ L h' m → News h₀ L h' ((D, LCg.lst ys) :: news) → IntsAre ys ((rangeKs 0 (64 * e - 0).toNat).map (oct ns)) → LCg.Off1 D news → Q (.ref D) { s with heap := h', toks := tk }) :
    wpAny (model prog w) (A₀.deeper (envX cn cs L a ccd cl)) (eval (swapComp q1 q2 q3 q4 q5 q6 q7 q8 q9 q10 q11 r1 r2 r3 r4 r5 u1 u2 w1 w2 w3 w4 w5 w6 w7) (envX cn cs L a ccd cl)) Q E s := by
  have hl : (ns.length : Int) = 512 * e := by
    obtain ⟨e', rfl⟩ := Int.eq_ofNat_of_zero_le he.1
    have := turned_len (bits := bits) (e := e') (by omega) hV
    omega
  exact swap_comp (env := envX cn cs L a ccd cl) F N hm (by exact hh) hk heta ku kr (by exact hT) (by exact T.g) (T.free _ I.free.1 I.free.2.1 I.free.2.2.1 I.free.2.2.2.1 I.free.2.2.2.2.1) (by exact T.b) ((T.builtins _ I.free.2.2.2.2.2).trans boot_range)
    (T.free _ J.free.1 J.free.2.1 J.free.2.2.1 J.free.2.2.2.1 J.free.2.2.2.2.1) ((T.builtins _ J.free.2.2.2.2.2).trans boot_sum) mT dT ml hi he hl h
theorem flipC07 {p1 p2 p3 p4 p5 : Pos} {scope : Scope} {pos : Pos} {news : List (Addr × Obj)} {b : Array UInt8} {tb : Tok} {Q : Value → Shared → Prop}
    (F : Fr h₀ L s.heap m) (N : News h₀ L s.heap news) (hm : m (Str.ofString "octets") = some (.bytes b tb)) (hh : A₀.handled = none) (hk : cs.kind = .function) (hoct : (envX cn cs L a ccd cl).kindOf (Str.ofString "octets") = some .local)
    (hclos : closureFor scope (envX cn cs L a ccd cl) = pure []) (hcell : ∀ y ∈ scope.names, y.2 ≠ .cell) (hkind : scope.kind = .function) (hnames : ∀ y ∈ scope.names, y.2 = .local → scope.names.lookup y.1 = some .local) (ho : scope.names.lookup (Str.ofString "o") = some .local) (hsz : b.size ≤ 900)
    (h : ∀ D h' tk ys, Fr h₀ L h' m → News h₀ L h' ((D, LCg.lst ys) :: news) → IntsAre ys ((KBw.bInts b).map fun o => 255 - o) → LCg.Off1 D news → Q (.ref D) { s with heap := h', toks := tk }) :
    wpAny (model prog w) (A₀.deeper (envX cn cs L a ccd cl)) (eval (flipComp p1 p2 p3 p4 p5 scope pos) (envX cn cs L a ccd cl)) Q E s :=
  flip_comp (env := envX cn cs L a ccd cl) F N hm (by exact hh) hk hoct hclos hcell hkind hnames ho hsz h
end
/-- the turned octets are octets -/
theorem In_flip (b : Array UInt8) : KBa.In ((KBw.bInts b).map fun o => 255 - o) := fun n hn => by
  obtain ⟨o, ho, rfl⟩ := List.mem_map.mp hn
  have := KBw.ints_in ho
  omega
theorem In_oct {b : Array UInt8} {na nb ns : List Int} {e : Int} (hV : Inv07 (bitsOf (KBw.bInts b)) e 256 na nb ns) (he : 0 ≤ e ∧ e ≤ 8) (n : Nat) : KBa.In ((rangeKs 0 n).map (oct ns)) := fun k hk => by
  obtain ⟨o, ho, rfl⟩ := List.mem_map.mp hk
  obtain ⟨i, _, rfl⟩ : ∃ a : Nat, a < n ∧ (a : Int) = o := by simpa [rangeKs] using ho
  exact packed_octets (octets_of b) he hV _ (by omega)
/-- what cbd gives of the turned octets, and of the packed turned bits -/
theorem flip_told {b : Array UInt8} {na nb ns : List Int} {e : Int} (hV : Inv07 (bitsOf (KBw.bInts b)) e 256 na nb ns) (he : 0 ≤ e ∧ e ≤ 8) (hl : (b.size : Int) = 64 * e) : cbdL (KBw.bInts (byteArr ((KBw.bInts b).map fun o => 255 - o))) e = nb := by
  rw [KBa.ints_make (In_flip b)]
  exact flip07 (octets_of b) he (by rw [KBw.ints_length]; exact hl) hV
theorem swap_told {b : Array UInt8} {na nb ns : List Int} {e : Int} (hV : Inv07 (bitsOf (KBw.bInts b)) e 256 na nb ns) (he : 0 ≤ e ∧ e ≤ 8) (hl : (b.size : Int) = 64 * e) : cbdL (KBw.bInts (byteArr ((rangeKs 0 (64 * e - 0).toNat).map (oct ns)))) e = nb := by
  rw [KBa.ints_make (In_oct hV he _)]
  exact swap07 (octets_of b) he (by rw [KBw.ints_length]; exact hl) hV
theorem ass_sub : isSubtype (.type "AssertionError") (.type "AssertionError") = pure true := by rw [isSubtype_type]; kernel_rfl
section
variable {prog : Program} {w : World} {A₀ : Around} {E : Value → Shared → Prop} {s' : Shared} {h₀ h : Heap} {outer : List Env} {L a e : Addr} {m : Str → Option Value} {cn : Str} {cs : Scope} {ccd : Value} {cl : List (Str × Addr)}
  {b₀ : Stmt} {suite : List Stmt} {pos np : Pos} {rest : List ExceptHandler} {Q : Flow → Shared → Prop} {news : List (Addr × Obj)} {mg mb : Str → Option Value}
theorem caught07 {p : Program} (I : NameFree (Str.ofString "AssertionError") p) (K : Below A₀ h₀ outer h₀) (F : Fr h₀ L h m) (hsm : h.UpToSlots s'.heap) (R : RaisedN h₀ (envX cn cs L a ccd cl :: outer) e (.type "AssertionError") news s'.heap)
    (T : TopRead p (looseW p [Str.ofString "PolynomialRing", Str.ofString "PolynomialNTT"]) mg mb h₀)
    (hk : cs.kind = .function) (hx : (envX cn cs L a ccd cl).kindOf (Str.ofString "AssertionError") = some .globalImplicit)
    (hE : PassesOwnAt (model prog w) ((A₀.deeper (envX cn cs L a ccd cl)).mark (some (.ref e))) (A₀.deeper (envX cn cs L a ccd cl)) (envX cn cs L a ccd cl) E)
    (k : ∀ h', Fr h₀ L h' m → News h₀ L h' news →
      wpAny (model prog w) ((A₀.deeper (envX cn cs L a ccd cl)).mark (some (.ref e))) (execs (b₀ :: suite) (envX cn cs L a ccd cl)) Q E { s' with heap := h' }) :
    wpAny (model prog w) (A₀.deeper (envX cn cs L a ccd cl)) (noteFrame (.ref e) (envX cn cs L a ccd cl))
      (fun _ s₂ => wpAny (model prog w) (A₀.deeper (envX cn cs L a ccd cl)) (setFlight (.ref e) none) (fun _ s₃ =>
        wpAny (model prog w) (A₀.deeper (envX cn cs L a ccd cl)) (handleBy (.ref e) (envX cn cs L a ccd cl) (.ExceptHandler (some (.Name (Str.ofString "AssertionError") np)) none (b₀ :: suite) pos :: rest)) Q E s₃) E s₂) E s' :=
  caught_C (T' := "AssertionError") K F hsm R T PyProof.Rows.Boot.«AssertionError» PySem.F.isExc_AssertionError PySem.F.notTuple_AssertionError ass_sub I.free.1 I.free.2.1 I.free.2.2.1 I.free.2.2.2.1 I.free.2.2.2.2.1 I.free.2.2.2.2.2 hk hx (by decide) hE k
end
theorem news_sub {h₀ h : Heap} {L : Addr} {l l' : List (Addr × Obj)} (N : News h₀ L h l) (hs : ∀ p ∈ l', p ∈ l) : News h₀ L h l' := fun p hp => N p (hs p hp)
end Mine
end
set_option Elab.async true
open PySem PySem.W PyProof.Rows PySem.Calls
set_option maxRecDepth 100000
namespace Mine
abbrev LawClaim (prog : Program) (w : World) (K : Frag) (p : Program) (loose : List Str) (mean : ExcName → Option Value) (mg mb : Str → Option Value) (news : List (Addr × Obj))
    (goal : (env : Env) → (h₀ : Heap) → (L : Addr) → (m : Str → Option Value) → (s : Shared) → (Q : Value → Shared → Prop) → (E : Value → Shared → Prop) → Prop) : Prop :=
  ∀ (cn : Str) (nm : List (Str × NameKind)) (mo : List (Str × Const)) (a : Addr) (ccd : Value) (cl : List (Str × Addr)) (h₀ : Heap) (L : Addr) (m : Str → Option Value) (s : Shared) (Q E : Value → Shared → Prop),
    Below callerA h₀ [] h₀ → Fr h₀ L s.heap m → K.In h₀ → News h₀ L s.heap news → Top p loose mean mg mb h₀ →
    goal (envX cn ⟨.function, nm, false, false, mo⟩ L a ccd cl) h₀ L m s Q E
abbrev ringD (w : World) (t1 t2 t3 t4 t5 t6 t7 : Tok) (z : Addr) (n : Nat) : Obj := dictOf
              [{ hash := PyData.keyHash w.params (Str.ofString "q"), key := Value.str (Str.ofString "q") t1, val := Value.int 3329 t2 },
                { hash := PyData.keyHash w.params (Str.ofString "n"), key := Value.str (Str.ofString "n") t3, val := Value.int 256 t4 },
                { hash := PyData.keyHash w.params (Str.ofString "ntt_zetas"), key := Value.str (Str.ofString "ntt_zetas") t5, val := Value.ref z },
                { hash := PyData.keyHash w.params (Str.ofString "ntt_f"), key := Value.str (Str.ofString "ntt_f") t6, val := Value.int 3303 t7 }] n
/-- what `PolynomialRing()` gives -/
structure RingSpec (prog : Program) (K : Params → Frag) (p : Program) : Prop where
  use : ∀ (w : World) (mean : ExcName → Option Value) (mg mb : Str → Option Value) (news : List (Addr × Obj)),
   LawClaim prog w (K w.params) p (looseW p [Str.ofString "PolynomialRing", Str.ofString "PolynomialNTT"]) mean mg mb news (fun env h₀ L m s Q E =>
     (∀ x d z t1 t2 t3 t4 t5 t6 t7 n h' tk', Fr h₀ L h' m → News h₀ L h' ((x, instObj 287 d) :: (d, dictOf
              [{ hash := PyData.keyHash w.params (Str.ofString "q"), key := Value.str (Str.ofString "q") t1, val := Value.int 3329 t2 },
                { hash := PyData.keyHash w.params (Str.ofString "n"), key := Value.str (Str.ofString "n") t3, val := Value.int 256 t4 },
                { hash := PyData.keyHash w.params (Str.ofString "ntt_zetas"), key := Value.str (Str.ofString "ntt_zetas") t5, val := Value.ref z },
                { hash := PyData.keyHash w.params (Str.ofString "ntt_f"), key := Value.str (Str.ofString "ntt_f") t6, val := Value.int 3303 t7 }] n) :: news) → (∀ p ∈ news, p.1 < d) → d < x → Q (.ref x) { s with heap := h', toks := tk' }) →
     wpAny (model prog w) (callerA.deeper env) (call (.ref 287) []) Q E s)
/-- what `ring.cbd(b, eta)` gives -/
structure CbdSpec (prog : Program) (K : Params → Frag) (p : Program) : Prop where
  use : ∀ (w : World) (mean : ExcName → Option Value) (mg mb : Str → Option Value) (news : List (Addr × Obj)) (x d z : Addr) (t1 t2 t3 t4 t5 t6 t7 : Tok) (n : Nat) (b : Array UInt8) (tb : Tok) (eta : Int) (te : Tok) (_he : eta ≤ 8) (_hb : b.size ≤ 900),
   LawClaim prog w (K w.params) p (looseW p [Str.ofString "PolynomialRing", Str.ofString "PolynomialNTT"]) mean mg mb ((x, instObj 287 d) :: (d, ringD w t1 t2 t3 t4 t5 t6 t7 z n) :: news) (fun env h₀ L m s Q E =>
     (∀ y dy l v1 v2 vs nn h' tk', 64 * eta = (b.size : Int) → IntsAre vs (cbdL (KBw.bInts b) eta) →
        Fr h₀ L h' m → News h₀ L h' ((y, instObj 355 dy) :: (dy, dictOf [{ hash := PyData.keyHash w.params (Str.ofString "parent"), key := Value.str (Str.ofString "parent") v1, val := Value.ref x }, { hash := PyData.keyHash w.params (Str.ofString "coeffs"), key := Value.str (Str.ofString "coeffs") v2, val := Value.ref l }] 2) :: (l, W.listOf (List.toArray vs) nn) :: (x, instObj 287 d) :: (d, ringD w t1 t2 t3 t4 t5 t6 t7 z n) :: news) →
        Q (.ref y) { s with heap := h', toks := tk' }) →
     (∀ e h' tk' g, ¬ 64 * eta = (b.size : Int) →
        Fr h₀ L g m → g.UpToSlots h' → RaisedN h₀ [env] e (Value.type "AssertionError") ((x, instObj 287 d) :: (d, ringD w t1 t2 t3 t4 t5 t6 t7 z n) :: news) h' → E (.ref e) { s with heap := h', toks := tk' }) →
     wpAny (model prog w) (callerA.deeper env) (call (.ref 268) [.ref x, .bytes b tb, .int eta te]) Q E s)
/-- what `ring.cbd(b, eta, is_ntt=f)` gives -/
structure CbdKSpec (prog : Program) (K : Params → Frag) (p : Program) : Prop where
  use : ∀ (f : Bool) (w : World) (mean : ExcName → Option Value) (mg mb : Str → Option Value) (news : List (Addr × Obj)) (x d z : Addr) (t1 t2 t3 t4 t5 t6 t7 : Tok) (n : Nat) (b : Array UInt8) (tb : Tok) (eta : Int) (te : Tok) (_he : eta ≤ 8) (_hb : b.size ≤ 900),
   LawClaim prog w (K w.params) p (looseW p [Str.ofString "PolynomialRing", Str.ofString "PolynomialNTT"]) mean mg mb ((x, instObj 287 d) :: (d, ringD w t1 t2 t3 t4 t5 t6 t7 z n) :: news) (fun env h₀ L m s Q E =>
     (∀ c y dy l v1 v2 vs nn h' tk', c = (if f = true then 431 else 355) → 64 * eta = (b.size : Int) → IntsAre vs (cbdL (KBw.bInts b) eta) →
        Fr h₀ L h' m → News h₀ L h' ((y, instObj c dy) :: (dy, dictOf [{ hash := PyData.keyHash w.params (Str.ofString "parent"), key := Value.str (Str.ofString "parent") v1, val := Value.ref x }, { hash := PyData.keyHash w.params (Str.ofString "coeffs"), key := Value.str (Str.ofString "coeffs") v2, val := Value.ref l }] 2) :: (l, W.listOf (List.toArray vs) nn) :: (x, instObj 287 d) :: (d, ringD w t1 t2 t3 t4 t5 t6 t7 z n) :: news) →
        Q (.ref y) { s with heap := h', toks := tk' }) →
     (∀ e h' tk' g, ¬ 64 * eta = (b.size : Int) →
        Fr h₀ L g m → g.UpToSlots h' → RaisedN h₀ [env] e (Value.type "AssertionError") ((x, instObj 287 d) :: (d, ringD w t1 t2 t3 t4 t5 t6 t7 z n) :: news) h' → E (.ref e) { s with heap := h', toks := tk' }) →
     wpAny (model prog w) (callerA.deeper env) (call (.ref 268) [.ref x, .bytes b tb, .int eta te] [(Str.ofString "is_ntt", .bool f)]) Q E s)
/-- what `told.coeffs` and `isinstance(told, PolynomialNTT)` give, whichever class told is of -/
structure ToldSpec (prog : Program) (K : Params → Frag) : Prop where
  get : ∀ (w : World) (A : Around) (E Q : Value → Shared → Prop) (s : Shared) (h₀ : Heap) (L : Addr) (m : Str → Option Value) (f : Bool) (c : Nat) (x y dy l : Addr) (v1 v2 : Tok) (b : Bool) (rest : List (Addr × Obj)),
    c = (if f = true then 431 else 355) → Fr h₀ L s.heap m → News h₀ L s.heap ((y, instObj c dy) :: (dy, dictOf [{ hash := PyData.keyHash w.params (Str.ofString "parent"), key := Value.str (Str.ofString "parent") v1, val := Value.ref x }, { hash := PyData.keyHash w.params (Str.ofString "coeffs"), key := Value.str (Str.ofString "coeffs") v2, val := Value.ref l }] 2) :: rest) →
    (K w.params).In h₀ → Q (.ref l) { s with toks := s.toks + 1 } → wpAny (model prog w) A (getAttr (.ref y) (Str.ofString "coeffs") b) Q E s
  isi : ∀ (w : World) (A : Around) (E Q : Value → Shared → Prop) (s : Shared) (h₀ : Heap) (L : Addr) (m : Str → Option Value) (f : Bool) (c : Nat) (y dy : Addr) (o : Obj) (rest : List (Addr × Obj)),
    c = (if f = true then 431 else 355) → Fr h₀ L s.heap m → News h₀ L s.heap ((y, instObj c dy) :: (dy, o) :: rest) →
    (K w.params).In h₀ → (∀ tk, Q (.bool f) { s with toks := tk }) → wpAny (model prog w) A (call (.builtin "isinstance") [.ref y, .ref 431]) Q E s
/-- marks: which lines are asked -/
structure InCall : Prop where
structure InLaw : Prop where
theorem news_but3 {h₀ h : Heap} {L : Addr} {a b c : Addr × Obj} {l : List (Addr × Obj)} (N : News h₀ L h (a :: b :: c :: l)) : News h₀ L h (a :: b :: l) := fun p hp => N p (by
  rcases List.mem_cons.mp hp with rfl | hp
  · exact .head _
  · rcases List.mem_cons.mp hp with rfl | hp
    · exact .tail _ (.head _)
    · exact .tail _ (.tail _ (.tail _ hp)))
theorem cls_t {f : Bool} (h : f = true) : 431 = (if f = true then 431 else 355) := by rw [if_pos h]
theorem cls_f {f : Bool} (h : f = false) : 355 = (if f = true then 431 else 355) := by subst h; rfl
theorem cls_n {f : Bool} (h : ¬ f = true) : 355 = (if f = true then 431 else 355) := by rw [if_neg h]
def lawAt (ns : List Int) (i : Int) : Int := if i < (ns.length : Int) then ns.getD i.toNat 0 else ((37 * i * i + 11 * i).fdiv 6)
theorem ints_push {vs : List Value} {ns : List Int} {n : Int} {t : Tok} (h : IntsAre vs ns) : IntsAre (vs ++ [.int n t]) (ns ++ [n]) := h.append (.cons _ _ .nil)
theorem news_rot4 {h₀ h : Heap} {L : Addr} {a b c e x d : Addr × Obj} {l : List (Addr × Obj)} (N : News h₀ L h (a :: b :: c :: e :: x :: d :: l)) : News h₀ L h (x :: d :: a :: b :: c :: e :: l) := fun p hp => N p (by
  simp only [List.mem_cons] at hp ⊢
  rcases hp with h | h | h | h | h | h | h
  · exact .inr (.inr (.inr (.inr (.inl h))))
  · exact .inr (.inr (.inr (.inr (.inr (.inl h)))))
  · exact .inl h
  · exact .inr (.inl h)
  · exact .inr (.inr (.inl h))
  · exact .inr (.inr (.inr (.inl h)))
  · exact .inr (.inr (.inr (.inr (.inr (.inr h))))))
theorem neg_no {x : Int} {n : Nat} (h : 0 ≤ x) (q : 64 * (0 - 1 - x) = (n : Int)) : False := by omega
theorem neg_le {x : Int} (h : 0 ≤ x) : 0 - 1 - x ≤ 8 := by omega
theorem many_no {a b : Int} (h : a ≠ b) (h0 : 0 ≤ a) (q : b = ((a - 0).toNat : Int)) : False := by omega
theorem size_ok {e : Int} (h : 0 ≤ e) : 64 * e = ((64 * e - 0).toNat : Int) := by omega
theorem size_le {e : Int} (h : e < 9) : (64 * e - 0).toNat ≤ 900 := by omega
theorem many_le {a : Int} (h : a < 600) : (a - 0).toNat ≤ 900 := by omega
theorem size_le' {e : Int} (h : e < 9) : (64 * e - 0).toNat ≤ 16777216 := by omega
theorem eta_le {e : Int} (h : e < 9) : e ≤ 8 := by omega
theorem eta_in {e : Int} (h0 : 0 ≤ e) (h : e < 9) : 0 ≤ e ∧ e ≤ 8 := ⟨h0, by omega⟩
theorem bits_eq {e : Int} (h : 0 ≤ e) : ((8 * (64 * e - 0).toNat : Nat) : Int) = 512 * e := by omega
theorem size_eq {e : Int} (h : 0 ≤ e) : ((64 * e - 0).toNat : Int) = 64 * e := by omega
/-! one name for each object: the head keeps no second form of it (the compiled file stays small) -/
theorem law07.tw10012534153465409477 : True := trivial
theorem law07.tw10015826179575526861 : True := trivial
theorem law07.tw10024162129315661576 : True := trivial
theorem law07.tw10024494772425263282 : True := trivial
theorem law07.tw10049980852947646722 : True := trivial
theorem law07.tw10132444881920892790 : True := trivial
theorem law07.tw10182814995340589048 : True := trivial
theorem law07.tw10216887311924773451 : True := trivial
theorem law07.tw1022551387686153869 : True := trivial
theorem law07.tw10255314272753580708 : True := trivial
theorem law07.tw10260001240029077686 : True := trivial
theorem law07.tw10278610560292832821 : True := trivial
theorem law07.tw10289670276794086478 : True := trivial
theorem law07.tw10351477918291415891 : True := trivial
theorem law07.tw10403361128872991089 : True := trivial
theorem law07.tw10493741437143225773 : True := trivial
theorem law07.tw10549567558736934563 : True := trivial
theorem law07.tw10568962075247747053 : True := trivial
theorem law07.tw10619178620602838268 : True := trivial
theorem law07.tw10669435483072062558 : True := trivial
theorem law07.tw10674698113405752885 : True := trivial
theorem law07.tw10682082743988398990 : True := trivial
theorem law07.tw10691073105083353250 : True := trivial
theorem law07.tw10712478791502178930 : True := trivial
theorem law07.tw10737323494465032485 : True := trivial
theorem law07.tw10791585009942464568 : True := trivial
theorem law07.tw1083218329066629317 : True := trivial
theorem law07.tw10891387118932795158 : True := trivial
theorem law07.tw10934402696937167443 : True := trivial
theorem law07.tw10952991023138125913 : True := trivial
theorem law07.tw11108870119981918530 : True := trivial
theorem law07.tw11121265794842096674 : True := trivial
theorem law07.tw1122331291592690989 : True := trivial
theorem law07.tw11290093636381986085 : True := trivial
theorem law07.tw11311782898590989437 : True := trivial
theorem law07.tw1132850417109908350 : True := trivial
theorem law07.tw11336511726267767718 : True := trivial
theorem law07.tw11351970706368939184 : True := trivial
theorem law07.tw11469016469978315518 : True := trivial
theorem law07.tw11483363771894806642 : True := trivial
theorem law07.tw1148419155369859490 : True := trivial
theorem law07.tw11536937570479676791 : True := trivial
theorem law07.tw11537609030754608136 : True := trivial
theorem law07.tw11542273155850514538 : True := trivial
theorem law07.tw1156776845873965803 : True := trivial
theorem law07.tw11597908359293968890 : True := trivial
theorem law07.tw11604510006081698971 : True := trivial
theorem law07.tw11611584004786219888 : True := trivial
theorem law07.tw11623605373481518435 : True := trivial
theorem law07.tw11658900576897750116 : True := trivial
theorem law07.tw1167522265998407879 : True := trivial
theorem law07.tw11680455559972286042 : True := trivial
theorem law07.tw11695681986117978283 : True := trivial
theorem law07.tw11709844804155067351 : True := trivial
theorem law07.tw1172348164065559784 : True := trivial
theorem law07.tw11771598138458985476 : True := trivial
theorem law07.tw11831516687463519397 : True := trivial
theorem law07.tw11857418354860016075 : True := trivial
theorem law07.tw11899391119645767357 : True := trivial
theorem law07.tw11909580910994604479 : True := trivial
theorem law07.tw1195836091790978479 : True := trivial
theorem law07.tw11996876619922490294 : True := trivial
theorem law07.tw12004272490774295917 : True := trivial
theorem law07.tw12007833356776690663 : True := trivial
theorem law07.tw12060951163356948403 : True := trivial
theorem law07.tw12061176157091410328 : True := trivial
theorem law07.tw12110129824009842481 : True := trivial
theorem law07.tw1215170370268852993 : True := trivial
theorem law07.tw12212115078016229109 : True := trivial
theorem law07.tw12280561837005181270 : True := trivial
theorem law07.tw12322040874822352168 : True := trivial
theorem law07.tw12370329792809534250 : True := trivial
theorem law07.tw12403909048887338504 : True := trivial
theorem law07.tw1253984797841985834 : True := trivial
theorem law07.tw1254034922632717453 : True := trivial
theorem law07.tw12551678676636573492 : True := trivial
theorem law07.tw12594991141195232889 : True := trivial
theorem law07.tw12604748707009439282 : True := trivial
theorem law07.tw12607706862185194692 : True := trivial
theorem law07.tw12617792988326290183 : True := trivial
theorem law07.tw12640145296181805869 : True := trivial
theorem law07.tw1269637864678211343 : True := trivial
theorem law07.tw12696489151477856318 : True := trivial
theorem law07.tw12700531924660261714 : True := trivial
theorem law07.tw12709916231836928658 : True := trivial
theorem law07.tw12803775125987388445 : True := trivial
theorem law07.tw12866421773400229358 : True := trivial
theorem law07.tw12956274511453803975 : True := trivial
theorem law07.tw12994102294921868480 : True := trivial
theorem law07.tw13008518036859926454 : True := trivial
theorem law07.tw13098866028954361429 : True := trivial
theorem law07.tw1310683559501322362 : True := trivial
theorem law07.tw13107311062942554180 : True := trivial
theorem law07.tw13113240306174562669 : True := trivial
theorem law07.tw13140535794118985084 : True := trivial
theorem law07.tw13168933696842760414 : True := trivial
theorem law07.tw13173065338319620469 : True := trivial
theorem law07.tw1319769394462878136 : True := trivial
theorem law07.tw13200790509987812204 : True := trivial
theorem law07.tw1320268036187492906 : True := trivial
theorem law07.tw13214202093535754365 : True := trivial
theorem law07.tw13225713371599860518 : True := trivial
theorem law07.tw13252231057709959838 : True := trivial
theorem law07.tw13263989796768258516 : True := trivial
theorem law07.tw13300304866829280880 : True := trivial
theorem law07.tw13318289645410765558 : True := trivial
theorem law07.tw13335269169224888806 : True := trivial
theorem law07.tw13362440138494383002 : True := trivial
theorem law07.tw1338427036108174470 : True := trivial
theorem law07.tw13453531348298585597 : True := trivial
theorem law07.tw13501360983436636012 : True := trivial
theorem law07.tw13527377459631407244 : True := trivial
theorem law07.tw13684608844341054191 : True := trivial
theorem law07.tw13703718714235238360 : True := trivial
theorem law07.tw13708781529816483115 : True := trivial
theorem law07.tw13721898916407443875 : True := trivial
theorem law07.tw13746695220459531723 : True := trivial
theorem law07.tw13781585742674546007 : True := trivial
theorem law07.tw13864970468963624038 : True := trivial
theorem law07.tw13894592681903500778 : True := trivial
theorem law07.tw13937879535318766923 : True := trivial
theorem law07.tw13960214283677363205 : True := trivial
theorem law07.tw1397439284271103615 : True := trivial
theorem law07.tw13990314139095840088 : True := trivial
theorem law07.tw14048499708465553266 : True := trivial
theorem law07.tw14060034499603815453 : True := trivial
theorem law07.tw14069350922032073667 : True := trivial
theorem law07.tw1420369396617523607 : True := trivial
theorem law07.tw14250417663584930555 : True := trivial
theorem law07.tw14264230292540040711 : True := trivial
theorem law07.tw14273049139010034136 : True := trivial
theorem law07.tw14303296172701707831 : True := trivial
theorem law07.tw14327442376830008019 : True := trivial
theorem law07.tw14340555130185143090 : True := trivial
theorem law07.tw14359733782923306540 : True := trivial
theorem law07.tw14372224096482592223 : True := trivial
theorem law07.tw14431507825821080111 : True := trivial
theorem law07.tw14475059331923887669 : True := trivial
theorem law07.tw14482888075219808111 : True := trivial
theorem law07.tw14490956603634747008 : True := trivial
theorem law07.tw14510410374206679219 : True := trivial
theorem law07.tw14519021181947226116 : True := trivial
theorem law07.tw14579733615908284724 : True := trivial
theorem law07.tw14583523114441922418 : True := trivial
theorem law07.tw14636372635424926919 : True := trivial
theorem law07.tw14646471387689405422 : True := trivial
theorem law07.tw14676343743297124072 : True := trivial
theorem law07.tw14680494745039007195 : True := trivial
theorem law07.tw14702832735145816778 : True := trivial
theorem law07.tw14718733797229578274 : True := trivial
theorem law07.tw14723178624847143389 : True := trivial
theorem law07.tw14733698382937353189 : True := trivial
theorem law07.tw14736357537261749265 : True := trivial
theorem law07.tw14769922154637665380 : True := trivial
theorem law07.tw14772428872284805428 : True := trivial
theorem law07.tw1479988979279876072 : True := trivial
theorem law07.tw14859963012319719120 : True := trivial
theorem law07.tw14865251249490610443 : True := trivial
theorem law07.tw14869518059345763587 : True := trivial
theorem law07.tw14869642571570521993 : True := trivial
theorem law07.tw14884694790617068225 : True := trivial
theorem law07.tw14885813230031581745 : True := trivial
theorem law07.tw14900720372602026840 : True := trivial
theorem law07.tw14927303227551581115 : True := trivial
theorem law07.tw14930121478101182019 : True := trivial
theorem law07.tw14968022017844306646 : True := trivial
theorem law07.tw14972252892144397343 : True := trivial
theorem law07.tw1498474537849270070 : True := trivial
theorem law07.tw15183799169984610974 : True := trivial
theorem law07.tw15213231992815070397 : True := trivial
theorem law07.tw15219606753398024766 : True := trivial
theorem law07.tw15260352600355347622 : True := trivial
theorem law07.tw15269156088304443437 : True := trivial
theorem law07.tw15288812807345884952 : True := trivial
theorem law07.tw15337237016842191184 : True := trivial
theorem law07.tw15345445699996087260 : True := trivial
theorem law07.tw15364440683450481982 : True := trivial
theorem law07.tw15376529544877732879 : True := trivial
theorem law07.tw1538035810131424806 : True := trivial
theorem law07.tw15402488164357791506 : True := trivial
theorem law07.tw15431568143678759780 : True := trivial
theorem law07.tw1544181555875751311 : True := trivial
theorem law07.tw15566936269477584899 : True := trivial
theorem law07.tw15572737699374513845 : True := trivial
theorem law07.tw15576590321816682570 : True := trivial
theorem law07.tw15634453317234976660 : True := trivial
theorem law07.tw15726691696124270562 : True := trivial
theorem law07.tw15743334268776215967 : True := trivial
theorem law07.tw15833317211506292035 : True := trivial
theorem law07.tw15841670310715460411 : True := trivial
theorem law07.tw15856927849487468984 : True := trivial
theorem law07.tw15897745807654281627 : True := trivial
theorem law07.tw15925537279772830800 : True := trivial
theorem law07.tw15932294561115304541 : True := trivial
theorem law07.tw15951353989037836698 : True := trivial
theorem law07.tw15981550811756687504 : True := trivial
theorem law07.tw16006114723912934567 : True := trivial
theorem law07.tw16041249833604280144 : True := trivial
theorem law07.tw16047481587895972241 : True := trivial
theorem law07.tw16071128300909516288 : True := trivial
theorem law07.tw16128672389950442410 : True := trivial
theorem law07.tw16134016746036624796 : True := trivial
theorem law07.tw16152872942783615849 : True := trivial
theorem law07.tw16153822100795365372 : True := trivial
theorem law07.tw16230397750407692348 : True := trivial
theorem law07.tw16254090760166526661 : True := trivial
theorem law07.tw16276951257737176044 : True := trivial
theorem law07.tw1629439260339675312 : True := trivial
theorem law07.tw16344775960996879719 : True := trivial
theorem law07.tw16350811510863615822 : True := trivial
theorem law07.tw16396782407342956735 : True := trivial
theorem law07.tw16400963687184718983 : True := trivial
theorem law07.tw16410983216665740738 : True := trivial
theorem law07.tw16418624177008624830 : True := trivial
theorem law07.tw16426439995494685474 : True := trivial
theorem law07.tw1645031782100077315 : True := trivial
theorem law07.tw16552501935419916925 : True := trivial
theorem law07.tw16558193224555501765 : True := trivial
theorem law07.tw16594733624572477449 : True := trivial
theorem law07.tw16606723785643722536 : True := trivial
theorem law07.tw1660738241059196967 : True := trivial
theorem law07.tw16673299893817876812 : True := trivial
theorem law07.tw16683802872650995364 : True := trivial
theorem law07.tw16694331262969256160 : True := trivial
theorem law07.tw16724708470688019098 : True := trivial
theorem law07.tw1688319471558456212 : True := trivial
theorem law07.tw16889674116037284442 : True := trivial
theorem law07.tw16903412957928210617 : True := trivial
theorem law07.tw16943203767469910941 : True := trivial
theorem law07.tw16970057928544567121 : True := trivial
theorem law07.tw16970869199872430780 : True := trivial
theorem law07.tw16980251453684773449 : True := trivial
theorem law07.tw17022335028382890644 : True := trivial
theorem law07.tw17023877061426820056 : True := trivial
theorem law07.tw17061298722749708911 : True := trivial
theorem law07.tw17097169261457314287 : True := trivial
theorem law07.tw17107163019273773728 : True := trivial
theorem law07.tw17111673778634118792 : True := trivial
theorem law07.tw17115543981274686000 : True := trivial
theorem law07.tw17130526669875615757 : True := trivial
theorem law07.tw1713189950065984719 : True := trivial
theorem law07.tw17192801961611342680 : True := trivial
theorem law07.tw17228277728211254486 : True := trivial
theorem law07.tw17238356468263482428 : True := trivial
theorem law07.tw1734944301112531043 : True := trivial
theorem law07.tw17407524076830997331 : True := trivial
theorem law07.tw17472529180591705049 : True := trivial
theorem law07.tw17475195149942345612 : True := trivial
theorem law07.tw1748416165744608628 : True := trivial
theorem law07.tw17509626473623578481 : True := trivial
theorem law07.tw17577922016210049646 : True := trivial
theorem law07.tw17587699658166238874 : True := trivial
theorem law07.tw17603732192457887968 : True := trivial
theorem law07.tw17677781183906289061 : True := trivial
theorem law07.tw1781799624013517553 : True := trivial
theorem law07.tw17836873838684244780 : True := trivial
theorem law07.tw17846374061307858375 : True := trivial
theorem law07.tw17951828951121183682 : True := trivial
theorem law07.tw17962671264350395388 : True := trivial
theorem law07.tw17995632200144923311 : True := trivial
theorem law07.tw18042470538415060930 : True := trivial
theorem law07.tw18046533053927975660 : True := trivial
theorem law07.tw18067680463934782892 : True := trivial
theorem law07.tw18093224811216793067 : True := trivial
theorem law07.tw18129301666932477573 : True := trivial
theorem law07.tw18136775885551815853 : True := trivial
theorem law07.tw18148434098880086022 : True := trivial
theorem law07.tw18165423003595746619 : True := trivial
theorem law07.tw18226111891455032496 : True := trivial
theorem law07.tw18276672667924170642 : True := trivial
theorem law07.tw18277640324696508026 : True := trivial
theorem law07.tw18342216888582245674 : True := trivial
theorem law07.tw18345972299698740661 : True := trivial
theorem law07.tw18391608831002107768 : True := trivial
theorem law07.tw18403080187246164474 : True := trivial
theorem law07.tw1898054187567652569 : True := trivial
theorem law07.tw1901643432835098443 : True := trivial
theorem law07.tw1943982453536696940 : True := trivial
theorem law07.tw2007937533091477296 : True := trivial
theorem law07.tw2027769716324402392 : True := trivial
theorem law07.tw2037603738560435810 : True := trivial
theorem law07.tw2045899254815161652 : True := trivial
theorem law07.tw20549145379468761 : True := trivial
theorem law07.tw2115733017770641748 : True := trivial
theorem law07.tw2139161390908125920 : True := trivial
theorem law07.tw2187252685638280850 : True := trivial
theorem law07.tw2214132549602655182 : True := trivial
theorem law07.tw2214516928969370679 : True := trivial
theorem law07.tw2243887723268479642 : True := trivial
theorem law07.tw2322874903905518708 : True := trivial
theorem law07.tw2379520850257047730 : True := trivial
theorem law07.tw2457128185483394489 : True := trivial
theorem law07.tw2533933811906745910 : True := trivial
theorem law07.tw254447017022565220 : True := trivial
theorem law07.tw259723524414597333 : True := trivial
theorem law07.tw261053920742174851 : True := trivial
theorem law07.tw2638432252155704274 : True := trivial
theorem law07.tw2668700726020664081 : True := trivial
theorem law07.tw267696075801778896 : True := trivial
theorem law07.tw2751026526093245848 : True := trivial
theorem law07.tw2798524212370776090 : True := trivial
theorem law07.tw280931178802470883 : True := trivial
theorem law07.tw2814485074596933721 : True := trivial
theorem law07.tw2842963072486229854 : True := trivial
theorem law07.tw2869086543124102972 : True := trivial
theorem law07.tw2912986228579552598 : True := trivial
theorem law07.tw2932114406740440047 : True := trivial
theorem law07.tw2943885465893738250 : True := trivial
theorem law07.tw3106962096305619068 : True := trivial
theorem law07.tw3110815307606609382 : True := trivial
theorem law07.tw3142335622005594446 : True := trivial
theorem law07.tw3160826747154790550 : True := trivial
theorem law07.tw3177759196465290522 : True := trivial
theorem law07.tw3226485592480001369 : True := trivial
theorem law07.tw3284975881139745602 : True := trivial
theorem law07.tw3313501504620393630 : True := trivial
theorem law07.tw3361642531685467449 : True := trivial
theorem law07.tw3405312836566224072 : True := trivial
theorem law07.tw3410309257016761531 : True := trivial
theorem law07.tw3553838259384911247 : True := trivial
theorem law07.tw3568619479600538641 : True := trivial
theorem law07.tw3594668299289653406 : True := trivial
theorem law07.tw3601682069822869886 : True := trivial
theorem law07.tw3751026555841910372 : True := trivial
theorem law07.tw3779667063871228498 : True := trivial
theorem law07.tw3782459836303444615 : True := trivial
theorem law07.tw3795564882323707079 : True := trivial
theorem law07.tw3847184995829334812 : True := trivial
theorem law07.tw3864366786024762768 : True := trivial
theorem law07.tw397316997074824267 : True := trivial
theorem law07.tw4017704095389978355 : True := trivial
theorem law07.tw4017980137085620107 : True := trivial
theorem law07.tw402885232267502008 : True := trivial
theorem law07.tw4040970207069063505 : True := trivial
theorem law07.tw4047443020560935993 : True := trivial
theorem law07.tw4048690891873590409 : True := trivial
theorem law07.tw4091075468995597984 : True := trivial
theorem law07.tw424793626719200192 : True := trivial
theorem law07.tw427872246826542448 : True := trivial
theorem law07.tw4299759342500004731 : True := trivial
theorem law07.tw4319065099385237424 : True := trivial
theorem law07.tw4337020332662700160 : True := trivial
theorem law07.tw4400779687242477668 : True := trivial
theorem law07.tw4400841613006507322 : True := trivial
theorem law07.tw4411553415688446247 : True := trivial
theorem law07.tw4467721606577402123 : True := trivial
theorem law07.tw4478462240418940110 : True := trivial
theorem law07.tw4491393297765246545 : True := trivial
theorem law07.tw4517890824536530981 : True := trivial
theorem law07.tw4522844388099018207 : True := trivial
theorem law07.tw4524076496094718517 : True := trivial
theorem law07.tw4577268567185425581 : True := trivial
theorem law07.tw4600182796586406835 : True := trivial
theorem law07.tw4607044327763433165 : True := trivial
theorem law07.tw4673858115822252170 : True := trivial
theorem law07.tw4696762633218986032 : True := trivial
theorem law07.tw469846577918041197 : True := trivial
theorem law07.tw4703066358876982894 : True := trivial
theorem law07.tw4793913538734856213 : True := trivial
theorem law07.tw4802394736260401945 : True := trivial
theorem law07.tw4819511196033660565 : True := trivial
theorem law07.tw4847155575867514493 : True := trivial
theorem law07.tw4869967942433814172 : True := trivial
theorem law07.tw4871465004217160031 : True := trivial
theorem law07.tw4988654942026139954 : True := trivial
theorem law07.tw5059405136662350670 : True := trivial
theorem law07.tw5108934668192317227 : True := trivial
theorem law07.tw5151238444648232446 : True := trivial
theorem law07.tw519536004225145590 : True := trivial
theorem law07.tw5221991381391362127 : True := trivial
theorem law07.tw5260055132892114997 : True := trivial
theorem law07.tw532058505139635257 : True := trivial
theorem law07.tw5348304267798726212 : True := trivial
theorem law07.tw5372819270203223201 : True := trivial
theorem law07.tw5431404234818648621 : True := trivial
theorem law07.tw5466072595910619350 : True := trivial
theorem law07.tw5518691453621927439 : True := trivial
theorem law07.tw5534420303490039548 : True := trivial
theorem law07.tw5559658329815819390 : True := trivial
theorem law07.tw5622343445180696294 : True := trivial
theorem law07.tw5671313398615011509 : True := trivial
theorem law07.tw5688343685234557675 : True := trivial
theorem law07.tw5742863924733890332 : True := trivial
theorem law07.tw5764650357909776003 : True := trivial
theorem law07.tw5783772203119873361 : True := trivial
theorem law07.tw5786626749273590637 : True := trivial
theorem law07.tw5825728847546275463 : True := trivial
theorem law07.tw5845108349755345331 : True := trivial
theorem law07.tw5874668978304553068 : True := trivial
theorem law07.tw5898246464891929509 : True := trivial
theorem law07.tw5908424585602732018 : True := trivial
theorem law07.tw5926997529508099361 : True := trivial
theorem law07.tw5930594130822789666 : True := trivial
theorem law07.tw594041922005387894 : True := trivial
theorem law07.tw5950187339972623863 : True := trivial
theorem law07.tw6003642910201506322 : True := trivial
theorem law07.tw6023908404990691314 : True := trivial
theorem law07.tw6025221112802317525 : True := trivial
theorem law07.tw6042603352702561149 : True := trivial
theorem law07.tw6061707686489802173 : True := trivial
theorem law07.tw6073359128592946224 : True := trivial
theorem law07.tw608735155304580333 : True := trivial
theorem law07.tw6093646711771547401 : True := trivial
theorem law07.tw6099062688384456876 : True := trivial
theorem law07.tw6182955698310389677 : True := trivial
theorem law07.tw6228579056560247573 : True := trivial
theorem law07.tw6248439609664166694 : True := trivial
theorem law07.tw6252840699740197762 : True := trivial
theorem law07.tw6252941575621243675 : True := trivial
theorem law07.tw6284339704929529705 : True := trivial
theorem law07.tw6326475592272297963 : True := trivial
theorem law07.tw6329717334349865598 : True := trivial
theorem law07.tw6368401191771442934 : True := trivial
theorem law07.tw6398268269748751566 : True := trivial
theorem law07.tw6412729111541578075 : True := trivial
theorem law07.tw6473104219862947592 : True := trivial
theorem law07.tw6475919852560453060 : True := trivial
theorem law07.tw6490484051482824974 : True := trivial
theorem law07.tw6518319267635044056 : True := trivial
theorem law07.tw6642207942733503664 : True := trivial
theorem law07.tw6649458274804056169 : True := trivial
theorem law07.tw6674486010095997852 : True := trivial
theorem law07.tw6681538660410429292 : True := trivial
theorem law07.tw6686147949870146221 : True := trivial
theorem law07.tw6713519914437403088 : True := trivial
theorem law07.tw6719611362213015844 : True := trivial
theorem law07.tw6723278432492890375 : True := trivial
theorem law07.tw6755989299591966380 : True := trivial
theorem law07.tw682213982531914879 : True := trivial
theorem law07.tw6844002364002806478 : True := trivial
theorem law07.tw68837897587699997 : True := trivial
theorem law07.tw6901396616651671842 : True := trivial
theorem law07.tw7008850962816233604 : True := trivial
theorem law07.tw7073349269601355530 : True := trivial
theorem law07.tw7090403188478774080 : True := trivial
theorem law07.tw7120455319961121698 : True := trivial
theorem law07.tw7212504044998449434 : True := trivial
theorem law07.tw7236915410043946912 : True := trivial
theorem law07.tw724450488412579192 : True := trivial
theorem law07.tw7251647101910604642 : True := trivial
theorem law07.tw7291127240391120680 : True := trivial
theorem law07.tw7311472412969923929 : True := trivial
theorem law07.tw7364312808217157076 : True := trivial
theorem law07.tw7371800737440869088 : True := trivial
theorem law07.tw7374991885780612655 : True := trivial
theorem law07.tw7375425343295706328 : True := trivial
theorem law07.tw7405471253937249714 : True := trivial
theorem law07.tw7419709291859090703 : True := trivial
theorem law07.tw7428289977395402608 : True := trivial
theorem law07.tw7437708317948089035 : True := trivial
theorem law07.tw7521662018105023169 : True := trivial
theorem law07.tw7592938275894681809 : True := trivial
theorem law07.tw7604045895130223313 : True := trivial
theorem law07.tw7616729726925023512 : True := trivial
theorem law07.tw7677165560365383601 : True := trivial
theorem law07.tw7728941210275001316 : True := trivial
theorem law07.tw7736714409717333138 : True := trivial
theorem law07.tw774700890897758453 : True := trivial
theorem law07.tw781704876924859941 : True := trivial
theorem law07.tw7861502992607436059 : True := trivial
theorem law07.tw7879814992977449812 : True := trivial
theorem law07.tw7888293592731807616 : True := trivial
theorem law07.tw7935904938104244594 : True := trivial
theorem law07.tw7964926241106459282 : True := trivial
theorem law07.tw7993027040387691526 : True := trivial
theorem law07.tw808438912257226896 : True := trivial
theorem law07.tw8160652647741286598 : True := trivial
theorem law07.tw8185335898664578148 : True := trivial
theorem law07.tw8210460261955485298 : True := trivial
theorem law07.tw8225794272212285046 : True := trivial
theorem law07.tw827079574504761436 : True := trivial
theorem law07.tw8274377353107746743 : True := trivial
theorem law07.tw8319597795226328673 : True := trivial
theorem law07.tw8360595289830583508 : True := trivial
theorem law07.tw8408044160809818121 : True := trivial
theorem law07.tw841458525385645021 : True := trivial
theorem law07.tw845098995059790064 : True := trivial
theorem law07.tw8464629170416371740 : True := trivial
theorem law07.tw8590084667351817956 : True := trivial
theorem law07.tw8608128492797870181 : True := trivial
theorem law07.tw8610820361589521143 : True := trivial
theorem law07.tw8635481772910276016 : True := trivial
theorem law07.tw8640301440499507862 : True := trivial
theorem law07.tw8676290274196266035 : True := trivial
theorem law07.tw8823403603921916326 : True := trivial
theorem law07.tw8863560603989981434 : True := trivial
theorem law07.tw8864237224112143658 : True := trivial
theorem law07.tw8896037948546944222 : True := trivial
theorem law07.tw8921842303309494263 : True := trivial
theorem law07.tw8990287026601132217 : True := trivial
theorem law07.tw9070783559210669333 : True := trivial
theorem law07.tw9100401353860115510 : True := trivial
theorem law07.tw9122012196619092695 : True := trivial
theorem law07.tw9153206893037169221 : True := trivial
theorem law07.tw9261250340096516660 : True := trivial
theorem law07.tw9288183948668510913 : True := trivial
theorem law07.tw9317071979429832820 : True := trivial
theorem law07.tw9335094823965867759 : True := trivial
theorem law07.tw9343583598098031006 : True := trivial
theorem law07.tw9401772651782175691 : True := trivial
theorem law07.tw9409307176943403448 : True := trivial
theorem law07.tw9462361492055979943 : True := trivial
theorem law07.tw948524596114729073 : True := trivial
theorem law07.tw954412674306431679 : True := trivial
theorem law07.tw9579177255445781322 : True := trivial
theorem law07.tw9634585219283773532 : True := trivial
theorem law07.tw9639211807181743111 : True := trivial
theorem law07.tw9650612936542599338 : True := trivial
theorem law07.tw966075858159264463 : True := trivial
theorem law07.tw9663292288441773269 : True := trivial
theorem law07.tw9722690144481846605 : True := trivial
theorem law07.tw9801806296061078776 : True := trivial
theorem law07.tw9812317347412146153 : True := trivial
theorem law07.tw9819533759511684716 : True := trivial
theorem law07.tw9838220727862599145 : True := trivial
theorem law07.tw9871225221823384880 : True := trivial
theorem law07.tw9877864703574115451 : True := trivial
theorem law07.tw9887646989520596554 : True := trivial
theorem law07.tw9928471567445563808 : True := trivial
theorem law07.tw9945348158455111161 : True := trivial
theorem law07.tw9961115470558066175 : True := trivial
theorem law07.tw9985248361101261929 : True := trivial
local macro_rules | `(tactic| walk_at "call builtin:bin") => `(tactic| ((have gd9 : InCall := by with_reducible assumption); (clear gd9); (k_here; (with_unfolding_all refine' bin_K ?k1 ?k2 ?_; (case k1 => omega); (case k2 => omega); k_whole))))
local macro_rules | `(tactic| size_fits) => `(tactic| ((have gd9 : InCall := by with_reducible assumption); (clear gd9); first | exact brBits_size (by omega) (by omega) | exact brCut_size (by omega) (by omega) | fail "no"))
local macro_rules | `(tactic| walk_at "subscriptTail Name Slice str ref") => `(tactic| ((have gd9 : InCall := by with_reducible assumption); (clear gd9); ((k_here; (with_reducible show wpAny _ _ (subscriptTail _ (Expr.Slice none none (some _) _) _ _) _ _ _); (refine' slice_brText (s := ⟨_, _, _, _, _⟩) ?k0 ?k1 ?k2 ?k3 ?k4 ?k5 ?_); (case k0 => omega); (case k1 => omega); (case k2 => k_asm); (case k3 => k_asm); (case k4 => with_unfolding_all rfl); (case k5 => intro _; with_unfolding_all rfl); k_whole; intro h' t' k' F' N'))))
local macro_rules | `(tactic| walk_at "call type:int") => `(tactic| ((have gd9 : InCall := by with_reducible assumption); (clear gd9); ((k_here; (with_reducible show wpAny _ _ (call (Value.type "int") [Value.str (brText _) _, _]) _ _ _); (refine' call_int_bin ?k0 ?k1 ?_); (case k0 => omega); (case k1 => omega); k_whole))))
local macro_rules | `(tactic| walk_at "call builtin:pow") => `(tactic| (
  (have gd9 : InCall := by with_reducible assumption)
  (clear gd9)
  ((k_here; (first
  | ((with_reducible show wpAny _ _ (call (Value.builtin "pow") [Value.int 17 _, Value.int (brv _) _, _]) _ _ _); (refine' pow_zeta ?k0 ?_); (case k0 => exact (brv_bounds _).1); k_whole)
  | ((with_reducible show wpAny _ _ (call (Value.builtin "pow") [Value.int 128 _, _, _]) _ _ _); (refine' pow_inv ?_); k_whole))))))
local macro_rules | `(tactic| k_all) => `(tactic| (
  (have gd9 : InCall := by with_reducible assumption)
  (clear gd9)
  first
  | (refine ne_of_all (by assumption) ?_; omega)
  | (refine off1_ne ?_; first | assumption | exact And.right (by assumption) | exact And.right (And.right (by assumption)) | exact And.right (And.right (And.right (by assumption))))))
local macro_rules | `(tactic| walk_at "call ref") => `(tactic| ((have gd9 : InCall := by with_reducible assumption); (clear gd9); ((k_here; (with_reducible show wpAny _ _ (call (Value.ref _) [Value.bytes _ _, Value.str _ _]) _ _ _); kfb_any; k_dflt (refine' call_little512 ?k1 ?k2 ?k3 ?_; (case k1 => k_asm); (case k2 => k_mem); (case k3 => omega)); k_whole; intro _ _))))
local macro_rules | `(tactic| walk_at "callWith ref") => `(tactic| ((have gd9 : InCall := by with_reducible assumption); (clear gd9); ((k_here; kco_any "__call__"; kco_here; k_dflt (refine' inst_callWith_KW ?k1 ?k2 ?k3 ?k4 ?k5 ?_; (case k1 => k_in); (case k2 => k_inst); (case k3 => rfl); (case k4 => k_is); (case k5 => exact rfl); k_whole)))))
local macro_rules | `(tactic| walk_at "exec Assign cons ListComp") => `(tactic| (
  (have gd9 : InLaw := by with_reducible assumption)
  (clear gd9)
  k_here
  (with_reducible show wpAny _ _ (exec (Stmt.Assign _ (Expr.ListComp _ [_, _] _ _) _) _) _ _ _)
  (
    (with_unfolding_all refine' bits07 ?kI ?kF ?kN ?kT ?km ?ka ?kb ?kc ?kd ?ke ?kf ?kg ?kh ?ki ?kj ?kl ?kn ?ko ?kp ?_)
    (case kI => with_reducible assumption)
    (case kF => assumption)
    (case kN => assumption)
    (case kT => k_asm)
    (case km => with_unfolding_all rfl)
    (case ka => with_unfolding_all rfl)
    (case kb => with_unfolding_all rfl)
    (case kc => with_unfolding_all rfl)
    (case kd => with_unfolding_all rfl)
    (case ke => decide +kernel)
    (case kf => with_unfolding_all rfl)
    (case kg => decide +kernel)
    (case kh => with_unfolding_all rfl)
    (case ki => with_unfolding_all rfl)
    (case kj => (intro _; with_unfolding_all rfl))
    (case kn => with_unfolding_all rfl)
    (case ko => with_unfolding_all rfl)
    (case kp => with_unfolding_all rfl)
    (case kl => ((rw [byteArr_size]); (simp only [List.length_map, rangeKs_length]); exact size_le (fmod_hi _ (by decide))))
    k_whole
    intro D' h' tk' ys' F' N' hI' hOff'
    (simp only [LCg.Off1, and_true] at hOff')
  )
  (try k_fold)))
local macro_rules | `(tactic| walk_at "call ref") => `(tactic| (
  (have gd9 : InLaw := by with_reducible assumption)
  (clear gd9)
  k_here
  first
  | ((with_reducible show wpAny _ _ (call (Value.ref 287) _) _ _ _)
     (
      (with_unfolding_all refine' RingSpec.use ?kR _ _ _ _ _ _ _ _ _ _ _ _ _ _ _ _ _ ?k1 ?k2 ?k3 ?k4 ?k5 ?_; (case kR => with_reducible assumption); (case k1 => k_asm); (case k2 => k_asm); (case k3 => k_asm); (case k4 => k_asm); (case k5 => k_asm); k_whole))
     intro x' d' z' t1 t2 t3 t4 t5 t6 t7 n' h' tk' F' N' l1 l2
     (try dsimp only [ringD] at N')
     (try k_fold))
  | ((with_reducible show wpAny _ _ (call (Value.ref 268) [_, _, _] (List.zip _ _)) _ _ _)
     (
      (with_unfolding_all refine' CbdKSpec.use ?kR _ _ _ _ _ _ _ _ _ _ _ _ _ _ _ _ _ _ _ _ _ ?ke ?kb _ _ _ _ _ _ _ _ _ _ _ _ ?k1 ?k2 ?k3 ?k4 ?k5 ?_ ?_)
      (case kR => with_reducible assumption)
      (case k1 => k_asm)
      (case k2 => k_asm)
      (case k3 => k_asm)
      (case k4 => first | k_asm | exact news_rot3 (by k_asm))
      (case k5 => k_asm)
      (case ke => exact eta_le (fmod_hi _ (by decide)))
      (case kb => ((with_reducible rw [byteArr_size]); (simp only [List.length_map, rangeKs_length]); exact size_le (fmod_hi _ (by decide))))
      k_whole)
     all_goals (first
      | (intro c9 y9 dy9 l9 v1 v2 vs9 nn9 h9 tk9 hc9 q1 hI9 F9 N9
         (try dsimp only [ringD] at N9)
         (have e9 := told07' (by with_reducible assumption) (octets_of _) (by exact eta_in (fmod_lo _ (by decide)) (fmod_hi _ (by decide))))
         (rw [e9] at hI9)
         (try k_fold))
      | (intro e9 h9 tk9 g9 q1 F9 U9 R9
         exfalso
         (refine absurd ?q2 q1)
         (case q2 => ((simp only [byteArr_size, List.length_map, rangeKs_length]); exact size_ok (fmod_lo _ (by decide))))
  )))
  | ((with_reducible show wpAny _ _ (call (Value.ref 268) [_, _, _] _) _ _ _)
     (
      (with_unfolding_all refine' CbdSpec.use ?kR _ _ _ _ _ _ _ _ _ _ _ _ _ _ _ _ _ _ _ _ ?ke ?kb _ _ _ _ _ _ _ _ _ _ _ _ ?k1 ?k2 ?k3 ?k4 ?k5 ?_ ?_)
      (case kR => with_reducible assumption)
      (case k1 => k_asm)
      (case k2 => k_asm)
      (case k3 => k_asm)
      (case k4 => first | k_asm | exact news_rot3 (by k_asm) | exact news_rot4 (by k_asm))
      (case k5 => k_asm)
      (case ke => first | exact neg_le (fmod_lo _ (by decide)) | exact eta_le (fmod_hi _ (by decide)))
      (case kb => ((simp only [byteArr_size, KBw.ints_length, List.length_map, rangeKs_length]); first | exact size_le (fmod_hi _ (by decide)) | exact many_le (fmod_hi _ (by decide))))
      k_whole)
     all_goals (first
      | (intro y9 dy9 l9 v1 v2 vs9 nn9 h9 tk9 q1 hI9 F9 N9
         (try dsimp only [ringD] at N9)
         first
         | (exfalso; exact neg_no (fmod_lo _ (by decide)) q1)
         | (exfalso; (simp only [byteArr_size, KBw.ints_length, List.length_map, rangeKs_length] at q1); (refine' many_no ?qa (fmod_lo _ (by decide)) q1); (case qa => with_reducible assumption))
         | ((have e9 := flip_told (by with_reducible assumption) (by exact eta_in (fmod_lo _ (by decide)) (fmod_hi _ (by decide))) (by (simp only [byteArr_size, List.length_map, rangeKs_length]); exact size_eq (fmod_lo _ (by decide)))); (rw [e9] at hI9); (try k_fold))
         | ((have e9 := swap_told (by with_reducible assumption) (by exact eta_in (fmod_lo _ (by decide)) (fmod_hi _ (by decide))) (by (simp only [byteArr_size, List.length_map, rangeKs_length]); exact size_eq (fmod_lo _ (by decide)))); (rw [e9] at hI9); (try k_fold)))
      | (intro e9 h9 tk9 g9 q1 F9 U9 R9
         (try dsimp only [ringD] at R9)
         first
         | (exfalso; (refine absurd ?q2 q1); (case q2 => ((simp only [byteArr_size, KBw.ints_length, List.length_map, rangeKs_length]); exact size_ok (fmod_lo _ (by decide)))))
         | (try k_fold))))
  | k_call_by "_law_at" lawAt (fun (_ : List Int) (i : Int) => 0 ≤ i ∧ i ≤ 1000)))
local macro_rules | `(tactic| walk_at "pyIter ref") => `(tactic| (
  (have gd9 : InLaw := by with_reducible assumption)
  (clear gd9)
  k_here
  (with_reducible show wpAny _ _ (pyIter (Value.ref _)) (fun it s₂ => LoopAtV _ _ _ _ _ _ _ _ _ it s₂) _ _)
  (
    (rename Fr _ _ _ _ => lF')
    (rename News _ _ _ _ => lN')
    (rename IsRange _ _ _ _ _ _ _ _ => rgX)
    (with_unfolding_all refine' loop07 ?kE ?kB ?k0 ?km rgX lF' lN' ?kI ?k1 ?_ ?_)
    (case km => with_unfolding_all rfl)
    (case k0 => with_unfolding_all rfl)
    (case kI => assumption)
    (case kE => exact eta_in (fmod_lo _ (by decide)) (fmod_hi _ (by decide)))
    (case kB => ((simp only [bitsOf_length, KBw.ints_length, byteArr_size, List.length_map, rangeKs_length]); exact bits_eq (fmod_lo _ (by decide))))
    (case k1 => assumption)
  )))
local macro_rules | `(tactic| walk_at "loadName") => `(tactic| (
  (have gd9 : InLaw := by with_reducible assumption)
  (clear gd9)
  k_here
  (with_reducible show wpAny _ _ (loadName _ (Str.ofString "turned")) _ _ _)
  (with_unfolding_all refine' loadX_C ?N ?c ?m ?d ?_ ?a ?b; (case N => k_asm); (case a => with_unfolding_all rfl); (case b => with_unfolding_all rfl); (case c => with_unfolding_all rfl); (case m => k_mem); (case d => k_asm); k_whole)))
local macro_rules | `(tactic| walk_at "inplaceOp Add ref ref") => `(tactic| (
  (have gd9 : InLaw := by with_reducible assumption)
  (clear gd9)
  k_here
  (
    (k_dflt (refine' iadd_list_K ?F ?N ?U ?B ?z ?_; (case F => k_asm); (case N => k_asm); (case U => k_updF); (case B => k_mem); (case z => ((have h5000 := size_line5000); (try simp only [List.length_append]); omega)); k_whole))
    (intro h' n' F' N')
    (try dsimp only at N')
    (try k_sweep))))
local macro_rules | `(tactic| walk_at "InvEndN") => `(tactic| (
  plain_pass
  (have gd9 : InLaw := by with_reducible assumption)
  (clear gd9)
  (rename News _ _ _ _ => nE')
  (try simp only [List.push_toArray] at nE')
  (refine' kst_end (σ := Sg07) ⟨⟨_, _, _⟩, ⟨_, _, _⟩, ⟨_, _, _⟩, _⟩ ?kF nE' ?kn ?ko ?ka ?kf ?kk ?kr ?kp)
  (case kF => first | with_reducible assumption | (assumption))
  (case kn => (first | kst_in | kst_inAny))
  (case ko => (first | (intro p hp; kst_mem) | kst_anyIn))
  (case ka => first | exact rfl | (with_unfolding_all exact rfl))
  (case kf => ((try dsimp only); (refine' ⟨ints_push ?q1, ints_push ?q2, IntsAre.append (IntsAre.append ?q3 ?q4) ?q5, ?q6⟩); (case q1 => with_reducible assumption); (case q2 => with_reducible assumption); (case q3 => with_reducible assumption); (case q4 => with_reducible assumption); (case q5 => with_reducible assumption); (case q6 => with_reducible assumption)))
  (case kk => kst_all)
  (case kr => kst_same)
  (case kp => ((try dsimp only); (refine' Inv07.turn ?r1 ?r2 ?r3 ?r4); (case r1 => with_reducible assumption); (case r2 => with_reducible assumption); (case r3 => first | exact .inl ⟨by first | with_reducible assumption | omega, rfl⟩ | exact .inr ⟨by first | with_reducible assumption | omega, rfl⟩); (case r4 => first | exact .inl ⟨by first | with_reducible assumption | omega, rfl⟩ | exact .inr ⟨by first | with_reducible assumption | omega, rfl⟩)))
  ))
local macro_rules | `(tactic| walk_at "subscriptTail Name Slice ref ref") => `(tactic| (
  (have gd9 : InLaw := by with_reducible assumption)
  (clear gd9)
  k_here
  (with_reducible show wpAny _ _ (subscriptTail (Expr.Name (Str.ofString "bits") _) _ _ _) _ _ _)
  (
    first
    | ((with_reducible show wpAny _ _ (subscriptTail _ (Expr.Slice (some (Expr.Name _ _)) _ _ _) _ _) _ _ _); k_dflt (refine' slice_A ?F ?N ?l ?i ?he ?hk ?hb ?_ ?s ?t; (case F => k_asm); (case N => k_asm); (case l => kmk_list); (case i => with_reducible assumption); (case he => with_reducible assumption); (case hk => with_reducible assumption); (case hb => with_reducible assumption); (case s => with_unfolding_all rfl); (case t => kmk_pure)))
    | (k_dflt (refine' slice_B ?F ?N ?l ?i ?he ?hk ?hb ?_ ?s ?t; (case F => k_asm); (case N => k_asm); (case l => kmk_list); (case i => with_reducible assumption); (case he => with_reducible assumption); (case hk => with_reducible assumption); (case hb => with_reducible assumption); (case s => with_unfolding_all rfl); (case t => kmk_pure))))
  intro D' ws' h' F' N' l1 hI' hC' hL'
  (try k_lt l1)
  (try k_sweep)))
local macro_rules | `(tactic| walk_at "getAttr ref") => `(tactic| (
  (have gd9 : InLaw := by with_reducible assumption)
  (clear gd9)
  k_here
  (with_reducible show wpAny _ _ (getAttr (Value.ref _) (Str.ofString "coeffs") _) _ _ _)
  (
    (with_unfolding_all refine' ToldSpec.get ?kR _ _ _ _ _ _ _ _ _ _ _ _ _ _ _ _ _ _ ?kc ?kF ?kN ?kK ?_)
    (case kR => with_reducible assumption)
    (case kc => with_reducible assumption)
    (case kF => k_asm)
    (case kN => k_asm)
    (case kK => k_asm)
    k_whole)))
local macro_rules | `(tactic| walk_at "call builtin:isinstance") => `(tactic| (
  (have gd9 : InLaw := by with_reducible assumption)
  (clear gd9)
  k_here
  (with_reducible show wpAny _ _ (call (Value.builtin "isinstance") [Value.ref _, Value.ref 431]) _ _ _)
  (
    (with_unfolding_all refine' ToldSpec.isi ?kR _ _ _ _ _ _ _ _ _ _ _ _ _ _ ?kc ?kF ?kN ?kK ?_)
    (case kR => with_reducible assumption)
    (case kc => with_reducible assumption)
    (case kF => k_asm)
    (case kN => k_asm)
    (case kK => k_asm)
    k_whole)
  intro tk'))
local macro_rules | `(tactic| walk_at "eval ListComp BinOp cons") => `(tactic| (
  (have gd9 : InLaw := by with_reducible assumption)
  (clear gd9)
  k_here
  (with_reducible show wpAny _ _ (eval (Expr.ListComp _ [⟨_, Expr.Name (Str.ofString "octets") _, _, _⟩] _ _) _) _ _ _)
  (
    (with_unfolding_all refine' flipC07 ?kF ?kN ?km ?ka ?kb ?kc ?kd ?ke ?kf ?kg ?kh ?kl ?_)
    (case kF => assumption)
    (case kN => assumption)
    (case km => with_unfolding_all rfl)
    (case ka => with_unfolding_all rfl)
    (case kb => with_unfolding_all rfl)
    (case kc => with_unfolding_all rfl)
    (case kd => with_unfolding_all rfl)
    (case ke => decide +kernel)
    (case kf => with_unfolding_all rfl)
    (case kg => decide +kernel)
    (case kh => with_unfolding_all rfl)
    (case kl => ((rw [byteArr_size]); (simp only [List.length_map, rangeKs_length]); exact size_le (fmod_hi _ (by decide))))
    k_whole
    intro D' h' tk' ys' F' N' hI' hOff'
    (simp only [LCg.Off1, and_true] at hOff')
  )
  (try k_fold)))
local macro_rules | `(tactic| walk_at "call type:bytes") => `(tactic| (
  (have gd9 : InLaw := by with_reducible assumption)
  (clear gd9)
  k_here
  (with_reducible show wpAny _ _ (call (Value.type "bytes") [Value.ref _]) _ _ _)
  (k_dflt (refine' KBa.make_K ?kbaF ?kbaN ?kbah ?kbal ?kbai ?kbar ?kban ?_; (case kbaF => k_asm); (case kbaN => k_asm); (case kbah => rfl); (case kbal => kba_isList); (case kbai => with_reducible assumption); (case kbar => with_reducible first | exact In_flip _ | exact In_oct (by with_reducible assumption) (by exact eta_in (fmod_lo _ (by decide)) (fmod_hi _ (by decide))) _); (case kban => ((simp only [KBw.ints_length, byteArr_size, List.length_map, rangeKs_length]); exact size_le' (fmod_hi _ (by decide))))))
  intro _ _ _ F' N' kbaIn
  ))
local macro_rules | `(tactic| walk_at "eval ListComp Call cons") => `(tactic| (
  (have gd9 : InLaw := by with_reducible assumption)
  (clear gd9)
  k_here
  (
    (with_unfolding_all refine' swapC07 ?kI ?kJ ?kV ?ki ?kz ?ky ?kF ?kN ?kT ?km ?ka ?kb ?kc ?kd ?ke ?kf ?kg ?kh ?kl ?_)
    (case kI => with_reducible assumption)
    (case kJ => with_reducible assumption)
    (case kF => assumption)
    (case kN => assumption)
    (case kT => k_asm)
    (case km => with_unfolding_all rfl)
    (case ka => with_unfolding_all rfl)
    (case kb => with_unfolding_all rfl)
    (case kc => with_unfolding_all rfl)
    (case kd => with_unfolding_all rfl)
    (case ke => with_unfolding_all rfl)
    (case kf => with_unfolding_all rfl)
    (case kg => k_mem)
    (case kh => with_reducible assumption)
    (case kl => k_mem)
    (case ki => with_reducible assumption)
    (case kV => with_reducible assumption)
    (case ky => exact eta_in (fmod_lo _ (by decide)) (fmod_hi _ (by decide)))
    (case kz => ((simp only [bitsOf_length, KBw.ints_length, byteArr_size, List.length_map, rangeKs_length]); exact bits_eq (fmod_lo _ (by decide))))
    k_whole
    intro D' h' tk' ys' F' N' hI' hOff'
    (simp only [LCg.Off1, and_true] at hOff')
  )
  (try k_fold)))
local macro_rules | `(tactic| walk_at "exec Try") => `(tactic| (plain_pass; (have gd9 : InLaw := by with_reducible assumption); (clear gd9); k_here; refine wpAny_Try_except ?_))
local macro_rules | `(tactic| walk_at "noteFrame ref") => `(tactic| (
  plain_pass
  (have gd9 : InLaw := by with_reducible assumption)
  (clear gd9)
  k_here
  (with_unfolding_all refine' caught07 ?kI ?k1 ?k2 ?k3 ?k4 ?k5 ?k6 ?k7 ?k9 ?_)
  (case kI => with_reducible assumption)
  (case k4 => assumption)
  (case k3 => assumption)
  (case k2 => assumption)
  (case k1 => assumption)
  (case k5 => k_asm)
  (case k6 => with_unfolding_all rfl)
  (case k7 => with_unfolding_all rfl)
  (case k9 => passes_own)
  k_whole
  (intro h' F' N')
  (try k_sweep)))
set_option maxRecDepth 100000 in
set_option maxHeartbeats 60000000 in
theorem law07 : PySem.Challenge.rw_xy0004_07.Holds := by
  w_on; o_law; k_head
  (case hw => w_witness2)
  have rngF : NameFree (Str.ofString "range") Mine.law07.view_1_40 := ⟨by decide +kernel⟩
  have sumF : NameFree (Str.ofString "sum") Mine.law07.view_1_40 := ⟨by decide +kernel⟩
  have assF : NameFree (Str.ofString "AssertionError") Mine.law07.view_1_40 := ⟨by decide +kernel⟩
  have ringS : RingSpec Challenge.rw_xy0004_07.row.prog Mine.law07.heap_1_39 Mine.law07.view_1_40 := by as_aux_lemma =>
    k_fill
    refine ⟨?_⟩
    intro w mean mg mb news
    have cM : InCall := ⟨⟩
    dsimp only [LawClaim]
    intros
    rename_i hret
    have kMk := kstMark
    k_steps
    exact hret _ _ _ _ _ _ _ _ _ _ _ _ _ (by assumption) (news_drop3 (by assumption)) (by assumption) (by assumption)
  have cbdS : CbdSpec Challenge.rw_xy0004_07.row.prog Mine.law07.heap_1_39 Mine.law07.view_1_40 := by as_aux_lemma =>
    k_fill
    refine ⟨?_⟩
    intro w mean mg mb news x d z t1 t2 t3 t4 t5 t6 t7 n b tb eta te he hb
    have cM : InCall := ⟨⟩
    dsimp only [LawClaim, ringD]
    intros
    rename_i hret herr
    have kMk := kstMark
    have hbi := KBw.ints_length b
    have hoc := octets_of b
    k_with "pyIter ref" => k_state_given ["input_bytes", "eta"] (fun b eta pre v cs => CInv (KBw.bInts b) eta pre.length v cs ∧ cs.length = 256) "b_int" "coefficients"
    k_with "state" => (first | exact CInv.start' _ _ | ((refine' CInv.step ?q1 ?q2 ?q3 ?q4); (case q1 => with_reducible assumption); (case q2 => omega); (case q3 => with_reducible assumption); (case q4 => exact ⟨by with_reducible assumption, by with_reducible assumption⟩)))
    k_steps
    all_goals first
      | ((refine' herr _ _ _ _ ?kE ?kF ?kU ?kR); (case kU => assumption); (case kF => assumption); (case kR => assumption); (case kE => omega))
      | ((refine' hret _ _ _ _ _ _ _ _ _ ?kE (ints_cast (CInv.done2 ?kC ?kD) ?kI) ?kF (news_but3 ?kN)); (case kN => assumption); (case kF => assumption); (case kI => assumption); (case kC => with_reducible assumption); (case kD => with_reducible assumption); (case kE => omega))
  have cbdK : CbdKSpec Challenge.rw_xy0004_07.row.prog Mine.law07.heap_1_39 Mine.law07.view_1_40 := by as_aux_lemma =>
    k_fill
    refine ⟨?_⟩
    intro f w mean mg mb news x d z t1 t2 t3 t4 t5 t6 t7 n b tb eta te he hb
    have cM : InCall := ⟨⟩
    dsimp only [LawClaim, ringD]
    intros
    rename_i hret herr
    have kMk := kstMark
    have hbi := KBw.ints_length b
    have hoc := octets_of b
    k_with "pyIter ref" => k_state_given ["input_bytes", "eta"] (fun b eta pre v cs => CInv (KBw.bInts b) eta pre.length v cs ∧ cs.length = 256) "b_int" "coefficients"
    k_with "state" => (first | exact CInv.start' _ _ | ((refine' CInv.step ?q1 ?q2 ?q3 ?q4); (case q1 => with_reducible assumption); (case q2 => omega); (case q3 => with_reducible assumption); (case q4 => exact ⟨by with_reducible assumption, by with_reducible assumption⟩)))
    k_steps
    all_goals first
      | ((refine' herr _ _ _ _ ?kE ?kF ?kU ?kR); (case kU => assumption); (case kF => assumption); (case kR => assumption); (case kE => omega))
      | ((refine' hret _ _ _ _ _ _ _ _ _ _ ?kc ?kE (ints_cast (CInv.done2 ?kC ?kD) ?kI) ?kF (news_but3 ?kN)); (case kN => assumption); (case kF => assumption); (case kI => assumption); (case kC => with_reducible assumption); (case kD => with_reducible assumption); (case kE => omega); (case kc => with_reducible (first | exact cls_t (by assumption) | exact cls_f (by assumption) | exact cls_n (by assumption))))
  k_with_none
  have toldS : ToldSpec Challenge.rw_xy0004_07.row.prog Mine.law07.heap_1_39 := by as_aux_lemma =>
    k_fill
    refine ⟨?_, ?_⟩
    · intro w A E Q s h₀ L m f c x y dy l v1 v2 b rest hc F N X hQ
      cases f
      · (have hc' : c = 355 := hc); subst hc'
        walk1
        exact hQ
      · (have hc' : c = 431 := hc); subst hc'
        walk1
        exact hQ
    · intro w A E Q s h₀ L m f c y dy o rest hc F N X hQ
      cases f
      · (have hc' : c = 355 := hc); subst hc'
        walk1
        exact hQ _
      · (have hc' : c = 431 := hc); subst hc'
        walk1
        exact hQ _
  have lM : InLaw := ⟨⟩
  k_with "tree" => simp only [lawAt]
  w_strict (
    k_go0
    (all_goals try k_fold)
    repeat' (first
      | ((with_reducible show GoodW _ _ _ _ _ (Except.ok (Flow.ret (Value.bool true))) _); (with_reducible refine' end_true ?eF ?eg ?eo); (case eF => with_reducible assumption); (case eg => with_reducible assumption); (case eo => rfl))
      | ((with_reducible show GoodW _ _ _ _ _ (Except.ok (Flow.ret (Value.bool false))) _); exfalso; exact absurd rfl (by assumption))
      | (k_unfold; (try dsimp only))
      | (k_end; wrow_close)
      | walk1
      | (dsimp only; walk1)
      | (leave1; walk_say "STEP leave1"; try dsimp only)
      | fail "no step"))
end Mine
theorem PySem.Challenge.cw_xy0004_07_holds : PySem.Challenge.rw_xy0004_07.Holds := by
  exact Mine.law07
